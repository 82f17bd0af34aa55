import JvmDerived
import JvmDerived.Pilot.@@N@@Statement
import JvmDerived.Pilot.@@N@@Code
set_option linter.unusedVariables false
set_option linter.unusedSimpArgs false
namespace Jvm.Pilot.@@N@@
open Jvm Jvm.ClassFile Sem Op Lib Jvm.Free Jvm.Stand Jvm.LawKit Jvm.RoadKit Bundle Jvm.Pilot.@@N@@.Jvm.D
/-! the goal of a walk, read forwards: from the state S the run comes to an end that P likes -/
def own_G (p : Program) (e : Env) (below : List Frame) (S : State) (P : State → Outcome → Prop) : Prop := ∃ s₂ o, Steps p.tables e below S s₂ ∧ s₂.status = .running ∧ Ended s₂ below o ∧ P s₂ o
theorem own_go {p : Program} {e : Env} {below : List Frame} {A B : State} {P : State → Outcome → Prop} (h : ∀ t, Steps p.tables e below A t → Steps p.tables e below B t) (g : own_G p e below A P) : own_G p e below B P := by
  obtain ⟨s₂, o, h1, h2⟩ := g
  exact ⟨s₂, o, h _ h1, h2⟩
theorem own_ret {p : Program} {l : Launch} {e : Env} {R : Room} {s : State} {m : MethodId} {args : Array Value} {below : List Frame} {meth : Method} {c : Code} {T : State} {locs : List Loc} {cells slots : Nat} (X : Stand p l e R s m args below meth c T locs cells slots) (hlocks : meth.locks = false) {v : Option Value} (hv : meth.sig.returnType = none → v = none) {g : JFrame} (Q : Option Value → Heap → List Loc → Prop) {C S : Nat}
    (st : ∀ fs : List Frame, (∀ (f : JFrame) (acts : List Action), f.method = m → f.locked = none → f.entered = [] → (doReturn e (T.setTop f) acts v).1 = T.setFrames fs) → Steps p.tables e below (T.setTop g) (T.setFrames fs))
    (hc : cells ≤ C) (hs : slots ≤ S) (hQ : Q v T.heap locs) : own_G p e below (T.setTop g) (fun s₂ o => ∃ v L, o = .returned v ∧ Q v s₂.heap L ∧ FrameEnd s o s₂ L C S) := by
  obtain ⟨fs, hr, hrun, hended, hW, hsame⟩ := X.leave (v := v) hv hlocks
  exact ⟨_, _, st fs hr, hrun, hended, _, _, rfl, hQ, ⟨_, rfl⟩, hW, hsame.mono hc hs⟩
theorem own_retI {p : Program} {l : Launch} {e : Env} {R : Room} {s : State} {m : MethodId} {args : Array Value} {below : List Frame} {meth : Method} {c : Code} {T : State} {locs : List Loc} {cells slots : Nat} (X : Stand p l e R s m args below meth c T locs cells slots) (hx : p.tables.exec = Jvm.exec) {pc : Nat} {Ls : Array Slot} {w : Value} {t : FieldType} {i : Instr} {rest : List Value} (hret : meth.sig.returnType = some t) (hn : narrow t w = w)
    (hi : (i = .ireturn ∧ (t = .int ∨ t = .boolean ∨ t = .byte ∨ t = .char ∨ t = .short) ∧ ∃ z, w = .int z) ∨ (i = .lreturn ∧ t = .long ∧ ∃ z, w = .long z) ∨ (i = .dreturn ∧ t = .double ∧ ∃ z, w = .double z) ∨ (i = .freturn ∧ t = .float ∧ ∃ z, w = .float z) ∨ (i = .areturn ∧ t.isReference = true ∧ w.isRef = true))
    (hd : decode c.code pc = .ok (i, 1)) (fs : List Frame) (hl : ∀ (f : JFrame) (acts : List Action), f.method = m → f.locked = none → f.entered = [] → (doReturn e (T.setTop f) acts (some w)).1 = T.setFrames fs) :
    Steps p.tables e below (T.setTop (mkF m pc Ls (w :: rest))) (T.setFrames fs) := retOut X hx hret hn hi hd hl
theorem own_retV {p : Program} {l : Launch} {e : Env} {R : Room} {s : State} {m : MethodId} {args : Array Value} {below : List Frame} {meth : Method} {c : Code} {T : State} {locs : List Loc} {cells slots : Nat} (X : Stand p l e R s m args below meth c T locs cells slots) (hx : p.tables.exec = Jvm.exec) {pc : Nat} {Ls : Array Slot} (hret : meth.sig.returnType = none)
    (hd : decode c.code pc = .ok (.return_, 1)) (fs : List Frame) (hl : ∀ (f : JFrame) (acts : List Action), f.method = m → f.locked = none → f.entered = [] → (doReturn e (T.setTop f) acts none).1 = T.setFrames fs) :
    Steps p.tables e below (T.setTop (mkF m pc Ls [])) (T.setFrames fs) := X.returnOut hx hret hd hl
def own_min (a b : Int64) : Int64 := if b < a then b else a
def own_max (a b : Int64) : Int64 := if a < b then b else a
theorem own_lt64 {a b : Int64} : a < b ↔ a.toInt < b.toInt := Int64.lt_iff_toInt_lt
theorem own_lt32 {a b : Int32} : a < b ↔ a.toInt < b.toInt := Int32.lt_iff_toInt_lt
theorem own_n3 (x : Int32) : (x &&& (3 : Int32)) = 0 ∨ (x &&& (3 : Int32)) = 1 ∨ (x &&& (3 : Int32)) = 2 ∨ (x &&& (3 : Int32)) = 3 := by
  have h := c_mask x (3 : Int32) 2 (by decide) (by decide)
  have e0 : (0 : Int32).toInt = 0 := rfl
  have e1 : (1 : Int32).toInt = 1 := rfl
  have e2 : (2 : Int32).toInt = 2 := rfl
  have e3 : (3 : Int32).toInt = 3 := rfl
  simp only [← Int32.toInt_inj, e0, e1, e2, e3]
  generalize (x &&& (3 : Int32)).toInt = y at *
  omega
/-- lo, mi, hi lie in 0 .. 2^31 - 1, in their order -/
def own_sorted (lo mi hi : Int64) : Prop := 0 ≤ lo.toInt ∧ lo.toInt ≤ mi.toInt ∧ mi.toInt ≤ hi.toInt ∧ hi.toInt ≤ 2147483647
theorem own_m31 {x : Int32} {u : Int64} (h : (x &&& (2147483647 : Int32)).toInt64 = u) : 0 ≤ u.toInt ∧ u.toInt ≤ 2147483647 := by
  rw [← h, c_i2l, c_mask x (2147483647 : Int32) 31 (by decide) (by decide)]
  omega
theorem own_minI (a b : Int64) : (own_min a b).toInt = if b.toInt < a.toInt then b.toInt else a.toInt := by
  unfold own_min; simp only [own_lt64]; split <;> rfl
theorem own_maxI (a b : Int64) : (own_max a b).toInt = if a.toInt < b.toInt then b.toInt else a.toInt := by
  unfold own_max; simp only [own_lt64]; split <;> rfl
theorem own_sort {p1 p2 p3 : Int32} {uu vv ww lo hi mi : Int64} (hu : (p1 &&& (2147483647 : Int32)).toInt64 = uu) (hv : (p2 &&& (2147483647 : Int32)).toInt64 = vv) (hw : (p3 &&& (2147483647 : Int32)).toInt64 = ww)
    (hlo : own_min (own_min uu vv) ww = lo) (hhi : own_max (own_max uu vv) ww = hi) (hmi : uu + vv + ww - lo - hi = mi) : own_sorted lo mi hi := by
  have a := own_m31 hu
  have b := own_m31 hv
  have c := own_m31 hw
  have l : lo.toInt = if ww.toInt < (if vv.toInt < uu.toInt then vv.toInt else uu.toInt) then ww.toInt else (if vv.toInt < uu.toInt then vv.toInt else uu.toInt) := by rw [← hlo, own_minI, own_minI]
  have g : hi.toInt = if (if uu.toInt < vv.toInt then vv.toInt else uu.toInt) < ww.toInt then ww.toInt else (if uu.toInt < vv.toInt then vv.toInt else uu.toInt) := by rw [← hhi, own_maxI, own_maxI]
  have s1 := c_ladd uu vv
  have s2 := c_ladd (uu + vv) ww
  have s3 := c_lsub (uu + vv + ww) lo
  have s4 := c_lsub (uu + vv + ww - lo) hi
  have r1 := rng64 (uu + vv)
  have r2 := rng64 (uu + vv + ww)
  have r3 := rng64 (uu + vv + ww - lo)
  have r4 := rng64 (uu + vv + ww - lo - hi)
  have m : mi.toInt = (uu + vv + ww - lo - hi).toInt := by rw [hmi]
  unfold own_sorted
  split at l <;> split at g <;> split at l <;> split at g <;> omega
def own_ys (lo mi hi : Int64) (y0 y1 y2 : Int32) : Prop := own_sorted lo mi hi ∧ ¬ lo = mi ∧ ¬ mi = hi ∧ lo.toInt32 = y0 ∧ mi.toInt32 = y1 ∧ hi.toInt32 = y2
theorem own_yI {lo mi hi : Int64} {y0 y1 y2 : Int32} (h : own_ys lo mi hi y0 y1 y2) : y0.toInt = lo.toInt ∧ y1.toInt = mi.toInt ∧ y2.toInt = hi.toInt ∧ 0 ≤ lo.toInt ∧ lo.toInt < mi.toInt ∧ mi.toInt < hi.toInt ∧ hi.toInt ≤ 2147483647 := by
  obtain ⟨⟨s1, s2, s3, s4⟩, n1, n2, e0, e1, e2⟩ := h
  have a := c_l2i lo
  have b := c_l2i mi
  have c := c_l2i hi
  rw [e0] at a
  rw [e1] at b
  rw [e2] at c
  have r0 := rng32 y0
  have r1 := rng32 y1
  have r2 := rng32 y2
  have m1 : lo.toInt ≠ mi.toInt := fun q => n1 (Int64.toInt_inj.mp q)
  have m2 : mi.toInt ≠ hi.toInt := fun q => n2 (Int64.toInt_inj.mp q)
  refine ⟨?_, ?_, ?_, ?_, ?_, ?_, ?_⟩ <;> omega
theorem own_y {lo mi hi : Int64} {y0 y1 y2 : Int32} (h : own_ys lo mi hi y0 y1 y2) : (¬ y0 < (0 : Int32)) ∧ (¬ y1 < (0 : Int32)) ∧ (¬ y2 < (0 : Int32)) ∧ y0 < y1 ∧ y1 < y2 := by
  have q := own_yI h
  have e0 : (0 : Int32).toInt = 0 := rfl
  simp only [own_lt32]
  refine ⟨?_, ?_, ?_, ?_, ?_⟩ <;> omega
theorem own_g0 {lo mi hi : Int64} {y0 y1 y2 : Int32} (h : own_ys lo mi hi y0 y1 y2) : (y0 - (0 : Int32)).toInt64 = lo := by
  have q := own_yI h
  apply Int64.toInt_inj.mp
  rw [c_i2l]
  have s := c_isub y0 (0 : Int32)
  have r := rng32 (y0 - (0 : Int32))
  have e0 : (0 : Int32).toInt = 0 := rfl
  omega
theorem own_g1 {lo mi hi : Int64} {y0 y1 y2 : Int32} (h : own_ys lo mi hi y0 y1 y2) : (y1 - y0).toInt64 = mi - lo := by
  have q := own_yI h
  apply Int64.toInt_inj.mp
  rw [c_i2l]
  have s := c_isub y1 y0
  have r := rng32 (y1 - y0)
  have s' := c_lsub mi lo
  have r' := rng64 (mi - lo)
  omega
theorem own_g2 {lo mi hi : Int64} {y0 y1 y2 : Int32} (h : own_ys lo mi hi y0 y1 y2) : (y2 - y1).toInt64 = hi - mi := by
  have q := own_yI h
  apply Int64.toInt_inj.mp
  rw [c_i2l]
  have s := c_isub y2 y1
  have r := rng32 (y2 - y1)
  have s' := c_lsub hi mi
  have r' := rng64 (hi - mi)
  omega
theorem d1_0 : decode jdk_29_method_70_code 0 = .ok (.lload_n 0, 1) := by decide +kernel
theorem d1_1 : decode jdk_29_method_70_code 1 = .ok (.lload_n 2, 1) := by decide +kernel
theorem d1_2 : decode jdk_29_method_70_code 2 = .ok (.lcmp, 1) := by decide +kernel
theorem d1_3 : decode jdk_29_method_70_code 3 = .ok (.ifCond .gt 7, 3) := by decide +kernel
theorem d1_6 : decode jdk_29_method_70_code 6 = .ok (.lload_n 0, 1) := by decide +kernel
theorem d1_7 : decode jdk_29_method_70_code 7 = .ok (.goto 4, 3) := by decide +kernel
theorem d1_10 : decode jdk_29_method_70_code 10 = .ok (.lload_n 2, 1) := by decide +kernel
theorem d1_11 : decode jdk_29_method_70_code 11 = .ok (.lreturn, 1) := by decide +kernel
theorem d2_0 : decode jdk_29_method_66_code 0 = .ok (.lload_n 0, 1) := by decide +kernel
theorem d2_1 : decode jdk_29_method_66_code 1 = .ok (.lload_n 2, 1) := by decide +kernel
theorem d2_2 : decode jdk_29_method_66_code 2 = .ok (.lcmp, 1) := by decide +kernel
theorem d2_3 : decode jdk_29_method_66_code 3 = .ok (.ifCond .lt 7, 3) := by decide +kernel
theorem d2_6 : decode jdk_29_method_66_code 6 = .ok (.lload_n 0, 1) := by decide +kernel
theorem d2_7 : decode jdk_29_method_66_code 7 = .ok (.goto 4, 3) := by decide +kernel
theorem d2_10 : decode jdk_29_method_66_code 10 = .ok (.lload_n 2, 1) := by decide +kernel
theorem d2_11 : decode jdk_29_method_66_code 11 = .ok (.lreturn, 1) := by decide +kernel
theorem d3_0 : decode prog_7_method_5_code 0 = .ok (.aload_n 0, 1) := by decide +kernel
theorem d3_1 : decode prog_7_method_5_code 1 = .ok (.arraylength, 1) := by decide +kernel
theorem d3_2 : decode prog_7_method_5_code 2 = .ok (.newarray .int, 2) := by decide +kernel
theorem d3_4 : decode prog_7_method_5_code 4 = .ok (.astore_n 1, 1) := by decide +kernel
theorem d3_5 : decode prog_7_method_5_code 5 = .ok (.iconst 0, 1) := by decide +kernel
theorem d3_6 : decode prog_7_method_5_code 6 = .ok (.istore_n 2, 1) := by decide +kernel
theorem d3_7 : decode prog_7_method_5_code 7 = .ok (.iconst 0, 1) := by decide +kernel
theorem d3_8 : decode prog_7_method_5_code 8 = .ok (.istore_n 3, 1) := by decide +kernel
theorem d3_9 : decode prog_7_method_5_code 9 = .ok (.iload_n 3, 1) := by decide +kernel
theorem d3_10 : decode prog_7_method_5_code 10 = .ok (.aload_n 0, 1) := by decide +kernel
theorem d3_11 : decode prog_7_method_5_code 11 = .ok (.arraylength, 1) := by decide +kernel
theorem d3_12 : decode prog_7_method_5_code 12 = .ok (.if_icmp .ge 120, 3) := by decide +kernel
theorem d3_15 : decode prog_7_method_5_code 15 = .ok (.aload_n 0, 1) := by decide +kernel
theorem d3_16 : decode prog_7_method_5_code 16 = .ok (.iload_n 3, 1) := by decide +kernel
theorem d3_17 : decode prog_7_method_5_code 17 = .ok (.iaload, 1) := by decide +kernel
theorem d3_18 : decode prog_7_method_5_code 18 = .ok (.ifCond .ge 36, 3) := by decide +kernel
theorem d3_54 : decode prog_7_method_5_code 54 = .ok (.iload_n 3, 1) := by decide +kernel
theorem d3_55 : decode prog_7_method_5_code 55 = .ok (.ifCond .le 59, 3) := by decide +kernel
theorem d3_58 : decode prog_7_method_5_code 58 = .ok (.aload_n 0, 1) := by decide +kernel
theorem d3_59 : decode prog_7_method_5_code 59 = .ok (.iload_n 3, 1) := by decide +kernel
theorem d3_60 : decode prog_7_method_5_code 60 = .ok (.iaload, 1) := by decide +kernel
theorem d3_61 : decode prog_7_method_5_code 61 = .ok (.iload_n 2, 1) := by decide +kernel
theorem d3_62 : decode prog_7_method_5_code 62 = .ok (.if_icmp .gt 52, 3) := by decide +kernel
theorem d3_114 : decode prog_7_method_5_code 114 = .ok (.aload_n 1, 1) := by decide +kernel
theorem d3_115 : decode prog_7_method_5_code 115 = .ok (.iload_n 3, 1) := by decide +kernel
theorem d3_116 : decode prog_7_method_5_code 116 = .ok (.aload_n 0, 1) := by decide +kernel
theorem d3_117 : decode prog_7_method_5_code 117 = .ok (.iload_n 3, 1) := by decide +kernel
theorem d3_118 : decode prog_7_method_5_code 118 = .ok (.iaload, 1) := by decide +kernel
theorem d3_119 : decode prog_7_method_5_code 119 = .ok (.iload_n 2, 1) := by decide +kernel
theorem d3_120 : decode prog_7_method_5_code 120 = .ok (.isub, 1) := by decide +kernel
theorem d3_121 : decode prog_7_method_5_code 121 = .ok (.iastore, 1) := by decide +kernel
theorem d3_122 : decode prog_7_method_5_code 122 = .ok (.aload_n 0, 1) := by decide +kernel
theorem d3_123 : decode prog_7_method_5_code 123 = .ok (.iload_n 3, 1) := by decide +kernel
theorem d3_124 : decode prog_7_method_5_code 124 = .ok (.iaload, 1) := by decide +kernel
theorem d3_125 : decode prog_7_method_5_code 125 = .ok (.istore_n 2, 1) := by decide +kernel
theorem d3_126 : decode prog_7_method_5_code 126 = .ok (.iinc 3 1, 3) := by decide +kernel
theorem d3_129 : decode prog_7_method_5_code 129 = .ok (.goto (-120), 3) := by decide +kernel
theorem d3_132 : decode prog_7_method_5_code 132 = .ok (.aload_n 1, 1) := by decide +kernel
theorem d3_133 : decode prog_7_method_5_code 133 = .ok (.areturn, 1) := by decide +kernel
theorem pn_0 : plainName "com/example/bitfold/bitfold/IdListsGapsPinLaw" = true := by first | (simp [plainName, overriddenIn]; done) | decide +kernel
theorem pn_3 : plainName "com/example/bitfold/bitfold/IdLists" = true := by first | (simp [plainName, overriddenIn]; done) | decide +kernel
theorem pd_0 : parseMethodDescriptor "(JJ)J" = some ⟨[.long, .long], some .long⟩ := by decide +kernel
theorem pd_1 : parseMethodDescriptor "([I)[I" = some ⟨[(.array .int)], some (.array .int)⟩ := by decide +kernel
theorem ef_1 (m : MethodId) (q1 : Int64) (q2 : Int64) : entryFrame m #[(.long q1), (.long q2)] 4 = mkF m 0 #[.val (.long q1), .second, .val (.long q2), .second] [] := by first | (simp [entryFrame, mkF, argsToLocals, Value.category]; done) | rfl
def Q1 (Z : State) (q1 : Int64) (q2 : Int64) (h0 : Heap) (n0 : Nat) (v : Option Value) (h : Heap) (L : List Loc) : Prop := v = some (.long (own_min q1 q2)) ∧ Fr n0 L ∧ h = h0
set_option maxRecDepth 65536 in
set_option maxHeartbeats 40000000 in
theorem rm1 (l : Launch) (Z : State) (a0 : Array Value) (hw : ∀ d ∈ tables_1, d.before a0 Z = true) (ws : List Jvm.Cond) (q1 : Int64) (q2 : Int64) (h0 : Heap) (n0 : Nat) (Z0 : n0 ≤ h0.size)  :
    MetFree l (⟨"java/lang/Math", "min", "(JJ)J"⟩ : MethodName) (head1 (Jvm.Cond.code (⟨"java/lang/Math", "min", "(JJ)J"⟩ : MethodName) jdk_29_method_70_code 4 (some .long) :: ws) ({ frames := 0, cells := 0, slots := 0, locals := 0 } : Room)) (fun a U => a = #[(.long q1), (.long q2)] ∧ Z.Warmed39 U.vm ∧ U.heap = h0) (fun _ _ _ _ _ => True) (fun _ U o U' => ∃ v L, o = .returned v ∧ Q1 Z q1 q2 h0 n0 v U'.heap L ∧ FrameEnd U o U' L ({ frames := 0, cells := 0, slots := 0, locals := 0 } : Room).cells ({ frames := 0, cells := 0, slots := 0, locals := 0 } : Room).slots) := by
  refine MetFree.of_bodySF (Jvm.Free.JP.mathPlain rfl (by decide +kernel)) hisR ?_
  intro p e s m args below meth c s₁ Bd hml0 hP hK
  obtain ⟨rfl, hZ, hh⟩ := hP
  have hx := Bd.exec
  have hby := Bd.bytes
  have hml : c.maxLocals = 4 := hml0
  have hown : s.vm.findClass "java/lang/Math" = some m.cls := findClass_of_methodNamed Bd.named
  have hnm := (name_of_methodNamed Bd.named Bd.method).1
  have hlk := Bd.notSynchronized
  have hret := Bd.returns
  have X0 : Stand p l e ({ frames := 0, cells := 0, slots := 0, locals := 0 } : Room) s m #[(.long q1), (.long q2)] below meth c s₁ [] 0 0 := Stand.of_body Bd
  have e0 : s₁.heap = h0 := by rw [← hh, Bd.state]; rfl
  have N0 := Fr.nil n0
  show own_G p e below (s₁.setTop (entryFrame m #[(.long q1), (.long q2)] 4)) (fun s₂ o => ∃ v L, o = .returned v ∧ Q1 Z q1 q2 h0 n0 v s₂.heap L ∧ FrameEnd s o s₂ L ({ frames := 0, cells := 0, slots := 0, locals := 0 } : Room).cells ({ frames := 0, cells := 0, slots := 0, locals := 0 } : Room).slots)
  refine own_go (fun t k => castTop (ef_1 m q1 q2) k) ?_
  show own_G p e below (s₁.setTop (mkF m 0 #[.val (.long q1), .second, .val (.long q2), .second] [])) _
  refine own_go (fun _ k => XS.lloadN X0.here hx rfl (hb hby d1_0) rfl k) ?_
  show own_G p e below (s₁.setTop (mkF m 1 #[.val (.long q1), .second, .val (.long q2), .second] [(.long q1)])) _
  refine own_go (fun _ k => XS.lloadN X0.here hx rfl (hb hby d1_1) rfl k) ?_
  show own_G p e below (s₁.setTop (mkF m 2 #[.val (.long q1), .second, .val (.long q2), .second] [(.long q2), (.long q1)])) _
  refine own_go (fun _ k => XS.lcmp X0.here hx rfl (hb hby d1_2) rfl k) ?_
  show own_G p e below (s₁.setTop (mkF m 3 #[.val (.long q1), .second, .val (.long q2), .second] [(.int (lcmpW q1 q2))])) _
  by_cases hc3_1 : q2 < q1
  · refine own_go (fun _ k => XS.ifYes X0.here hx rfl (pc0 := 3) (pc' := 10) rfl (hb hby d1_3) rfl ((if0 _ _).trans (tlt ((lw_gt _ _).mpr hc3_1)).2.2.1) (by decide) (by decide) k) ?_
    show own_G p e below (s₁.setTop (mkF m 10 #[.val (.long q1), .second, .val (.long q2), .second] [])) _
    refine own_go (fun _ k => XS.lloadN X0.here hx rfl (hb hby d1_10) rfl k) ?_
    show own_G p e below (s₁.setTop (mkF m 11 #[.val (.long q1), .second, .val (.long q2), .second] [(.long q2)])) _
    refine own_ret X0 hlk (v := some (.long q2)) (fun h => by rw [hret] at h; cases h) (Q1 Z q1 q2 h0 n0) (own_retI X0 hx (t := .long) hret rfl (Or.inr (Or.inl ⟨rfl, rfl, _, rfl⟩)) (hb hby d1_11)) (by decide) (by decide) ?_
    show Q1 Z q1 q2 h0 n0 _ s₁.heap _
    rw [e0]
    exact ⟨by simp [own_min, hc3_1], N0, rfl⟩
  · refine own_go (fun _ k => XS.ifNo X0.here hx rfl (hb hby d1_3) rfl ((if0 _ _).trans (flt (fun q => hc3_1 ((lw_gt _ _).mp q))).2.2.1) k) ?_
    show own_G p e below (s₁.setTop (mkF m 6 #[.val (.long q1), .second, .val (.long q2), .second] [])) _
    refine own_go (fun _ k => XS.lloadN X0.here hx rfl (hb hby d1_6) rfl k) ?_
    show own_G p e below (s₁.setTop (mkF m 7 #[.val (.long q1), .second, .val (.long q2), .second] [(.long q1)])) _
    refine own_go (fun _ k => XS.goto X0.here hx rfl (pc0 := 7) (pc' := 11) rfl (hb hby d1_7) (by decide) (by decide) k) ?_
    show own_G p e below (s₁.setTop (mkF m 11 #[.val (.long q1), .second, .val (.long q2), .second] [(.long q1)])) _
    refine own_ret X0 hlk (v := some (.long q1)) (fun h => by rw [hret] at h; cases h) (Q1 Z q1 q2 h0 n0) (own_retI X0 hx (t := .long) hret rfl (Or.inr (Or.inl ⟨rfl, rfl, _, rfl⟩)) (hb hby d1_11)) (by decide) (by decide) ?_
    show Q1 Z q1 q2 h0 n0 _ s₁.heap _
    rw [e0]
    exact ⟨by simp [own_min, hc3_1], N0, rfl⟩
theorem ef_2 (m : MethodId) (q1 : Int64) (q2 : Int64) : entryFrame m #[(.long q1), (.long q2)] 4 = mkF m 0 #[.val (.long q1), .second, .val (.long q2), .second] [] := by first | (simp [entryFrame, mkF, argsToLocals, Value.category]; done) | rfl
def Q2 (Z : State) (q1 : Int64) (q2 : Int64) (h0 : Heap) (n0 : Nat) (v : Option Value) (h : Heap) (L : List Loc) : Prop := v = some (.long (own_max q1 q2)) ∧ Fr n0 L ∧ h = h0
set_option maxRecDepth 65536 in
set_option maxHeartbeats 40000000 in
theorem rm2 (l : Launch) (Z : State) (a0 : Array Value) (hw : ∀ d ∈ tables_1, d.before a0 Z = true) (ws : List Jvm.Cond) (q1 : Int64) (q2 : Int64) (h0 : Heap) (n0 : Nat) (Z0 : n0 ≤ h0.size)  :
    MetFree l (⟨"java/lang/Math", "max", "(JJ)J"⟩ : MethodName) (head1 (Jvm.Cond.code (⟨"java/lang/Math", "max", "(JJ)J"⟩ : MethodName) jdk_29_method_66_code 4 (some .long) :: ws) ({ frames := 0, cells := 0, slots := 0, locals := 0 } : Room)) (fun a U => a = #[(.long q1), (.long q2)] ∧ Z.Warmed39 U.vm ∧ U.heap = h0) (fun _ _ _ _ _ => True) (fun _ U o U' => ∃ v L, o = .returned v ∧ Q2 Z q1 q2 h0 n0 v U'.heap L ∧ FrameEnd U o U' L ({ frames := 0, cells := 0, slots := 0, locals := 0 } : Room).cells ({ frames := 0, cells := 0, slots := 0, locals := 0 } : Room).slots) := by
  refine MetFree.of_bodySF (Jvm.Free.JP.mathPlain rfl (by decide +kernel)) hisR ?_
  intro p e s m args below meth c s₁ Bd hml0 hP hK
  obtain ⟨rfl, hZ, hh⟩ := hP
  have hx := Bd.exec
  have hby := Bd.bytes
  have hml : c.maxLocals = 4 := hml0
  have hown : s.vm.findClass "java/lang/Math" = some m.cls := findClass_of_methodNamed Bd.named
  have hnm := (name_of_methodNamed Bd.named Bd.method).1
  have hlk := Bd.notSynchronized
  have hret := Bd.returns
  have X0 : Stand p l e ({ frames := 0, cells := 0, slots := 0, locals := 0 } : Room) s m #[(.long q1), (.long q2)] below meth c s₁ [] 0 0 := Stand.of_body Bd
  have e0 : s₁.heap = h0 := by rw [← hh, Bd.state]; rfl
  have N0 := Fr.nil n0
  show own_G p e below (s₁.setTop (entryFrame m #[(.long q1), (.long q2)] 4)) (fun s₂ o => ∃ v L, o = .returned v ∧ Q2 Z q1 q2 h0 n0 v s₂.heap L ∧ FrameEnd s o s₂ L ({ frames := 0, cells := 0, slots := 0, locals := 0 } : Room).cells ({ frames := 0, cells := 0, slots := 0, locals := 0 } : Room).slots)
  refine own_go (fun t k => castTop (ef_2 m q1 q2) k) ?_
  show own_G p e below (s₁.setTop (mkF m 0 #[.val (.long q1), .second, .val (.long q2), .second] [])) _
  refine own_go (fun _ k => XS.lloadN X0.here hx rfl (hb hby d2_0) rfl k) ?_
  show own_G p e below (s₁.setTop (mkF m 1 #[.val (.long q1), .second, .val (.long q2), .second] [(.long q1)])) _
  refine own_go (fun _ k => XS.lloadN X0.here hx rfl (hb hby d2_1) rfl k) ?_
  show own_G p e below (s₁.setTop (mkF m 2 #[.val (.long q1), .second, .val (.long q2), .second] [(.long q2), (.long q1)])) _
  refine own_go (fun _ k => XS.lcmp X0.here hx rfl (hb hby d2_2) rfl k) ?_
  show own_G p e below (s₁.setTop (mkF m 3 #[.val (.long q1), .second, .val (.long q2), .second] [(.int (lcmpW q1 q2))])) _
  by_cases hc3_2 : q1 < q2
  · refine own_go (fun _ k => XS.ifYes X0.here hx rfl (pc0 := 3) (pc' := 10) rfl (hb hby d2_3) rfl ((if0 _ _).trans (tlt ((lw_lt _ _).mpr hc3_2)).1) (by decide) (by decide) k) ?_
    show own_G p e below (s₁.setTop (mkF m 10 #[.val (.long q1), .second, .val (.long q2), .second] [])) _
    refine own_go (fun _ k => XS.lloadN X0.here hx rfl (hb hby d2_10) rfl k) ?_
    show own_G p e below (s₁.setTop (mkF m 11 #[.val (.long q1), .second, .val (.long q2), .second] [(.long q2)])) _
    refine own_ret X0 hlk (v := some (.long q2)) (fun h => by rw [hret] at h; cases h) (Q2 Z q1 q2 h0 n0) (own_retI X0 hx (t := .long) hret rfl (Or.inr (Or.inl ⟨rfl, rfl, _, rfl⟩)) (hb hby d2_11)) (by decide) (by decide) ?_
    show Q2 Z q1 q2 h0 n0 _ s₁.heap _
    rw [e0]
    exact ⟨by simp [own_max, hc3_2], N0, rfl⟩
  · refine own_go (fun _ k => XS.ifNo X0.here hx rfl (hb hby d2_3) rfl ((if0 _ _).trans (flt (fun q => hc3_2 ((lw_lt _ _).mp q))).1) k) ?_
    show own_G p e below (s₁.setTop (mkF m 6 #[.val (.long q1), .second, .val (.long q2), .second] [])) _
    refine own_go (fun _ k => XS.lloadN X0.here hx rfl (hb hby d2_6) rfl k) ?_
    show own_G p e below (s₁.setTop (mkF m 7 #[.val (.long q1), .second, .val (.long q2), .second] [(.long q1)])) _
    refine own_go (fun _ k => XS.goto X0.here hx rfl (pc0 := 7) (pc' := 11) rfl (hb hby d2_7) (by decide) (by decide) k) ?_
    show own_G p e below (s₁.setTop (mkF m 11 #[.val (.long q1), .second, .val (.long q2), .second] [(.long q1)])) _
    refine own_ret X0 hlk (v := some (.long q1)) (fun h => by rw [hret] at h; cases h) (Q2 Z q1 q2 h0 n0) (own_retI X0 hx (t := .long) hret rfl (Or.inr (Or.inl ⟨rfl, rfl, _, rfl⟩)) (hb hby d2_11)) (by decide) (by decide) ?_
    show Q2 Z q1 q2 h0 n0 _ s₁.heap _
    rw [e0]
    exact ⟨by simp [own_max, hc3_2], N0, rfl⟩
theorem ef_3 (m : MethodId) (a1 : Addr) : entryFrame m #[(.ref a1)] 4 = mkF m 0 #[.val (.ref a1), .unset, .unset, .unset] [] := by first | (simp [entryFrame, mkF, argsToLocals, Value.category]; done) | rfl
def Q3_0 (Z : State) (a1 : Addr) (k1 : ClassId) (h0 : Heap) (n0 : Nat) (v : Option Value) (h : Heap) (L : List Loc) : Prop := ∃ (b : Addr) (k : ClassId), v = some (.ref b) ∧ Fr n0 L ∧ Keep h0 h [] ∧ Arv Z h b k .int (0 : Int32) [] (.int (0 : Int32))
set_option maxRecDepth 65536 in
set_option maxHeartbeats 40000000 in
theorem rm3_0 (l : Launch) (Z : State) (a0 : Array Value) (hw : ∀ d ∈ tables_1, d.before a0 Z = true) (ws : List Jvm.Cond) (a1 : Addr) (k1 : ClassId) (h0 : Heap) (n0 : Nat) (Z0 : n0 ≤ h0.size) (V_a1 : Arv Z h0 a1 k1 .int (0 : Int32) [] (.int (0 : Int32))) (E_a1 : Exa Z h0 a1 "[I") :
    MetFree l (⟨"com/example/bitfold/bitfold/IdLists", "gaps", "([I)[I"⟩ : MethodName) (head1 (Jvm.Cond.code (⟨"com/example/bitfold/bitfold/IdLists", "gaps", "([I)[I"⟩ : MethodName) prog_7_method_5_code 4 (some (.array .int)) :: ws) ({ frames := 0, cells := 1, slots := 0, locals := 0 } : Room)) (fun a U => a = #[(.ref a1)] ∧ Z.Warmed39 U.vm ∧ U.heap = h0) (fun _ _ _ _ _ => True) (fun _ U o U' => ∃ v L, o = .returned v ∧ Q3_0 Z a1 k1 h0 n0 v U'.heap L ∧ FrameEnd U o U' L ({ frames := 0, cells := 1, slots := 0, locals := 0 } : Room).cells ({ frames := 0, cells := 1, slots := 0, locals := 0 } : Room).slots) := by
  refine MetFree.of_bodySF (plainFor_of_name pn_3) hisR ?_
  intro p e s m args below meth c s₁ Bd hml0 hP hK
  obtain ⟨rfl, hZ, hh⟩ := hP
  have hx := Bd.exec
  have hby := Bd.bytes
  have hml : c.maxLocals = 4 := hml0
  have hown : s.vm.findClass "com/example/bitfold/bitfold/IdLists" = some m.cls := findClass_of_methodNamed Bd.named
  have hnm := (name_of_methodNamed Bd.named Bd.method).1
  have hlk := Bd.notSynchronized
  have hret := Bd.returns
  have X0 : Stand p l e ({ frames := 0, cells := 1, slots := 0, locals := 0 } : Room) s m #[(.ref a1)] below meth c s₁ [] 0 0 := Stand.of_body Bd
  have e0 : s₁.heap = h0 := by rw [← hh, Bd.state]; rfl
  have N0 := Fr.nil n0
  show own_G p e below (s₁.setTop (entryFrame m #[(.ref a1)] 4)) (fun s₂ o => ∃ v L, o = .returned v ∧ Q3_0 Z a1 k1 h0 n0 v s₂.heap L ∧ FrameEnd s o s₂ L ({ frames := 0, cells := 1, slots := 0, locals := 0 } : Room).cells ({ frames := 0, cells := 1, slots := 0, locals := 0 } : Room).slots)
  refine own_go (fun t k => castTop (ef_3 m a1) k) ?_
  show own_G p e below (s₁.setTop (mkF m 0 #[.val (.ref a1), .unset, .unset, .unset] [])) _
  refine own_go (fun _ k => XS.aloadN X0.here hx rfl (hb hby d3_0) rfl rfl k) ?_
  show own_G p e below (s₁.setTop (mkF m 1 #[.val (.ref a1), .unset, .unset, .unset] [(.ref a1)])) _
  obtain ⟨cl3, Ar3, q3, S3, M3, B3, G3⟩ := id V_a1
  refine own_go (X0.arraylength hx (by rw [e0]; exact Ar3.1) (State.isArrayOf_alike hZ.alike Ar3.2.1) (g := (mkF m 1 #[.val (.ref a1), .unset, .unset, .unset] [(.ref a1)])) rfl rfl (hb hby d3_1)) ?_
  rw [len_of S3 M3]
  show own_G p e below (s₁.setTop (mkF m 2 #[.val (.ref a1), .unset, .unset, .unset] [(.int (0 : Int32))])) _
  obtain ⟨T4, h4, k4, X4, e4, E4, A4, Y4, st4⟩ := newPE X0 hx hZ (hw _ (List.mem_of_getElem? (i := 8) rfl)) e0 (g := (mkF m 2 #[.val (.ref a1), .unset, .unset, .unset] [(.int (0 : Int32))])) rfl (hb hby d3_2) rfl (by decide) (cap := 0) (by decide) (by decide) (by decide) (by decide) (ad := "[I") (by decide)
  obtain ⟨b4, g4⟩ : ∃ z, z = h0.size := ⟨_, rfl⟩
  rw [← g4] at A4 Y4 st4
  refine own_go st4 ?_
  have ne5 : a1 ≠ b4 := Nat.ne_of_lt (Nat.lt_of_lt_of_le V_a1.lt (Nat.le_of_eq g4.symm))
  have ge6 : n0 ≤ b4 := Nat.le_trans Z0 (Nat.le_of_eq g4.symm)
  have sz7 : h0.size ≤ b4 := Nat.le_trans (Keep.refl h0 []).1 (Nat.le_of_eq g4.symm)
  have f8 := V_a1.ext E4
  have f9 := E_a1.ext E4
  have zs10 : n0 ≤ h4.size := Nat.le_trans Z0 E4.1
  have kp11 : Keep h0 h4 [] := (Keep.refl h0 []).ext E4
  have V4 : Arv Z h4 b4 k4 .int (0 : Int32) [] (.int (0 : Int32)) := (Arv.new A4 (by decide)).pad (pad_rep [] (.int (0 : Int32)) 0)
  show own_G p e below (T4.setTop (mkF m 4 #[.val (.ref a1), .unset, .unset, .unset] [(.ref b4)])) _
  refine own_go (fun _ k => XS.astoreN X4.here hx rfl (hb hby d3_4) rfl rfl (l' := #[.val (.ref a1), .val (.ref b4), .unset, .unset]) rfl k) ?_
  show own_G p e below (T4.setTop (mkF m 5 #[.val (.ref a1), .val (.ref b4), .unset, .unset] [])) _
  refine own_go (fun _ k => XS.iconst X4.here hx rfl (hb hby d3_5) k) ?_
  show own_G p e below (T4.setTop (mkF m 6 #[.val (.ref a1), .val (.ref b4), .unset, .unset] [(.int (0 : Int32))])) _
  refine own_go (fun _ k => XS.istoreN X4.here hx rfl (hb hby d3_6) rfl (l' := #[.val (.ref a1), .val (.ref b4), .val (.int (0 : Int32)), .unset]) rfl k) ?_
  show own_G p e below (T4.setTop (mkF m 7 #[.val (.ref a1), .val (.ref b4), .val (.int (0 : Int32)), .unset] [])) _
  refine own_go (fun _ k => XS.iconst X4.here hx rfl (hb hby d3_7) k) ?_
  show own_G p e below (T4.setTop (mkF m 8 #[.val (.ref a1), .val (.ref b4), .val (.int (0 : Int32)), .unset] [(.int (0 : Int32))])) _
  refine own_go (fun _ k => XS.istoreN X4.here hx rfl (hb hby d3_8) rfl (l' := #[.val (.ref a1), .val (.ref b4), .val (.int (0 : Int32)), .val (.int (0 : Int32))]) rfl k) ?_
  show own_G p e below (T4.setTop (mkF m 9 #[.val (.ref a1), .val (.ref b4), .val (.int (0 : Int32)), .val (.int (0 : Int32))] [])) _
  refine own_go (fun _ k => XS.iloadN X4.here hx rfl (hb hby d3_9) rfl k) ?_
  show own_G p e below (T4.setTop (mkF m 10 #[.val (.ref a1), .val (.ref b4), .val (.int (0 : Int32)), .val (.int (0 : Int32))] [(.int (0 : Int32))])) _
  refine own_go (fun _ k => XS.aloadN X4.here hx rfl (hb hby d3_10) rfl rfl k) ?_
  show own_G p e below (T4.setTop (mkF m 11 #[.val (.ref a1), .val (.ref b4), .val (.int (0 : Int32)), .val (.int (0 : Int32))] [(.ref a1), (.int (0 : Int32))])) _
  obtain ⟨cl12, Ar12, q12, S12, M12, B12, G12⟩ := id f8
  refine own_go (X4.arraylength hx (by rw [e4]; exact Ar12.1) (State.isArrayOf_alike hZ.alike Ar12.2.1) (g := (mkF m 11 #[.val (.ref a1), .val (.ref b4), .val (.int (0 : Int32)), .val (.int (0 : Int32))] [(.ref a1), (.int (0 : Int32))])) rfl rfl (hb hby d3_11)) ?_
  rw [len_of S12 M12]
  show own_G p e below (T4.setTop (mkF m 12 #[.val (.ref a1), .val (.ref b4), .val (.int (0 : Int32)), .val (.int (0 : Int32))] [(.int (0 : Int32)), (.int (0 : Int32))])) _
  refine own_go (fun _ k => XS.icmpYes X4.here hx rfl (pc0 := 12) (pc' := 132) rfl (hb hby d3_12) rfl (flt (by decide : ¬ ((0 : Int32) < (0 : Int32)))).2.1 (by decide) (by decide) k) ?_
  show own_G p e below (T4.setTop (mkF m 132 #[.val (.ref a1), .val (.ref b4), .val (.int (0 : Int32)), .val (.int (0 : Int32))] [])) _
  refine own_go (fun _ k => XS.aloadN X4.here hx rfl (hb hby d3_132) rfl rfl k) ?_
  show own_G p e below (T4.setTop (mkF m 133 #[.val (.ref a1), .val (.ref b4), .val (.int (0 : Int32)), .val (.int (0 : Int32))] [(.ref b4)])) _
  refine own_ret X4 hlk (v := some (.ref b4)) (fun h => by rw [hret] at h; cases h) (Q3_0 Z a1 k1 h0 n0) (own_retI X4 hx (t := (.array .int)) hret rfl (Or.inr (Or.inr (Or.inr (Or.inr ⟨rfl, rfl, rfl⟩)))) (hb hby d3_133)) (by decide) (by decide) ?_
  show Q3_0 Z a1 k1 h0 n0 _ T4.heap _
  rw [e4]
  exact ⟨b4, k4, rfl, N0, kp11, V4⟩
def Q3_1 (Z : State) (a1 : Addr) (k1 : ClassId) (x0 : Int32) (h0 : Heap) (n0 : Nat) (v : Option Value) (h : Heap) (L : List Loc) : Prop := ∃ (b : Addr) (k : ClassId), v = some (.ref b) ∧ Fr n0 L ∧ Keep h0 h [] ∧ Arv Z h b k .int (1 : Int32) [(.int (x0 - (0 : Int32)))] (.int (0 : Int32))
set_option maxRecDepth 65536 in
set_option maxHeartbeats 40000000 in
theorem rm3_1 (l : Launch) (Z : State) (a0 : Array Value) (hw : ∀ d ∈ tables_1, d.before a0 Z = true) (ws : List Jvm.Cond) (a1 : Addr) (k1 : ClassId) (x0 : Int32) (h0 : Heap) (n0 : Nat) (Z0 : n0 ≤ h0.size) (V_a1 : Arv Z h0 a1 k1 .int (1 : Int32) [(.int x0)] (.int (0 : Int32))) (E_a1 : Exa Z h0 a1 "[I") (hn0 : ¬ x0 < (0 : Int32)) :
    MetFree l (⟨"com/example/bitfold/bitfold/IdLists", "gaps", "([I)[I"⟩ : MethodName) (head1 (Jvm.Cond.code (⟨"com/example/bitfold/bitfold/IdLists", "gaps", "([I)[I"⟩ : MethodName) prog_7_method_5_code 4 (some (.array .int)) :: ws) ({ frames := 0, cells := 1, slots := 1, locals := 0 } : Room)) (fun a U => a = #[(.ref a1)] ∧ Z.Warmed39 U.vm ∧ U.heap = h0) (fun _ _ _ _ _ => True) (fun _ U o U' => ∃ v L, o = .returned v ∧ Q3_1 Z a1 k1 x0 h0 n0 v U'.heap L ∧ FrameEnd U o U' L ({ frames := 0, cells := 1, slots := 1, locals := 0 } : Room).cells ({ frames := 0, cells := 1, slots := 1, locals := 0 } : Room).slots) := by
  refine MetFree.of_bodySF (plainFor_of_name pn_3) hisR ?_
  intro p e s m args below meth c s₁ Bd hml0 hP hK
  obtain ⟨rfl, hZ, hh⟩ := hP
  have hx := Bd.exec
  have hby := Bd.bytes
  have hml : c.maxLocals = 4 := hml0
  have hown : s.vm.findClass "com/example/bitfold/bitfold/IdLists" = some m.cls := findClass_of_methodNamed Bd.named
  have hnm := (name_of_methodNamed Bd.named Bd.method).1
  have hlk := Bd.notSynchronized
  have hret := Bd.returns
  have X0 : Stand p l e ({ frames := 0, cells := 1, slots := 1, locals := 0 } : Room) s m #[(.ref a1)] below meth c s₁ [] 0 0 := Stand.of_body Bd
  have e0 : s₁.heap = h0 := by rw [← hh, Bd.state]; rfl
  have N0 := Fr.nil n0
  show own_G p e below (s₁.setTop (entryFrame m #[(.ref a1)] 4)) (fun s₂ o => ∃ v L, o = .returned v ∧ Q3_1 Z a1 k1 x0 h0 n0 v s₂.heap L ∧ FrameEnd s o s₂ L ({ frames := 0, cells := 1, slots := 1, locals := 0 } : Room).cells ({ frames := 0, cells := 1, slots := 1, locals := 0 } : Room).slots)
  refine own_go (fun t k => castTop (ef_3 m a1) k) ?_
  show own_G p e below (s₁.setTop (mkF m 0 #[.val (.ref a1), .unset, .unset, .unset] [])) _
  refine own_go (fun _ k => XS.aloadN X0.here hx rfl (hb hby d3_0) rfl rfl k) ?_
  show own_G p e below (s₁.setTop (mkF m 1 #[.val (.ref a1), .unset, .unset, .unset] [(.ref a1)])) _
  obtain ⟨cl13, Ar13, q13, S13, M13, B13, G13⟩ := id V_a1
  refine own_go (X0.arraylength hx (by rw [e0]; exact Ar13.1) (State.isArrayOf_alike hZ.alike Ar13.2.1) (g := (mkF m 1 #[.val (.ref a1), .unset, .unset, .unset] [(.ref a1)])) rfl rfl (hb hby d3_1)) ?_
  rw [len_of S13 M13]
  show own_G p e below (s₁.setTop (mkF m 2 #[.val (.ref a1), .unset, .unset, .unset] [(.int (1 : Int32))])) _
  obtain ⟨T14, h14, k14, X14, e14, E14, A14, Y14, st14⟩ := newPE X0 hx hZ (hw _ (List.mem_of_getElem? (i := 8) rfl)) e0 (g := (mkF m 2 #[.val (.ref a1), .unset, .unset, .unset] [(.int (1 : Int32))])) rfl (hb hby d3_2) rfl (by decide) (cap := 1) (by decide) (by decide) (by decide) (by decide) (ad := "[I") (by decide)
  obtain ⟨b14, g14⟩ : ∃ z, z = h0.size := ⟨_, rfl⟩
  rw [← g14] at A14 Y14 st14
  refine own_go st14 ?_
  have ne15 : a1 ≠ b14 := Nat.ne_of_lt (Nat.lt_of_lt_of_le V_a1.lt (Nat.le_of_eq g14.symm))
  have ge16 : n0 ≤ b14 := Nat.le_trans Z0 (Nat.le_of_eq g14.symm)
  have sz17 : h0.size ≤ b14 := Nat.le_trans (Keep.refl h0 []).1 (Nat.le_of_eq g14.symm)
  have f18 := V_a1.ext E14
  have f19 := E_a1.ext E14
  have zs20 : n0 ≤ h14.size := Nat.le_trans Z0 E14.1
  have kp21 : Keep h0 h14 [] := (Keep.refl h0 []).ext E14
  have V14 : Arv Z h14 b14 k14 .int (1 : Int32) [(.int (0 : Int32))] (.int (0 : Int32)) := (Arv.new A14 (by decide)).pad (pad_rep [] (.int (0 : Int32)) 1)
  show own_G p e below (T14.setTop (mkF m 4 #[.val (.ref a1), .unset, .unset, .unset] [(.ref b14)])) _
  refine own_go (fun _ k => XS.astoreN X14.here hx rfl (hb hby d3_4) rfl rfl (l' := #[.val (.ref a1), .val (.ref b14), .unset, .unset]) rfl k) ?_
  show own_G p e below (T14.setTop (mkF m 5 #[.val (.ref a1), .val (.ref b14), .unset, .unset] [])) _
  refine own_go (fun _ k => XS.iconst X14.here hx rfl (hb hby d3_5) k) ?_
  show own_G p e below (T14.setTop (mkF m 6 #[.val (.ref a1), .val (.ref b14), .unset, .unset] [(.int (0 : Int32))])) _
  refine own_go (fun _ k => XS.istoreN X14.here hx rfl (hb hby d3_6) rfl (l' := #[.val (.ref a1), .val (.ref b14), .val (.int (0 : Int32)), .unset]) rfl k) ?_
  show own_G p e below (T14.setTop (mkF m 7 #[.val (.ref a1), .val (.ref b14), .val (.int (0 : Int32)), .unset] [])) _
  refine own_go (fun _ k => XS.iconst X14.here hx rfl (hb hby d3_7) k) ?_
  show own_G p e below (T14.setTop (mkF m 8 #[.val (.ref a1), .val (.ref b14), .val (.int (0 : Int32)), .unset] [(.int (0 : Int32))])) _
  refine own_go (fun _ k => XS.istoreN X14.here hx rfl (hb hby d3_8) rfl (l' := #[.val (.ref a1), .val (.ref b14), .val (.int (0 : Int32)), .val (.int (0 : Int32))]) rfl k) ?_
  show own_G p e below (T14.setTop (mkF m 9 #[.val (.ref a1), .val (.ref b14), .val (.int (0 : Int32)), .val (.int (0 : Int32))] [])) _
  refine own_go (fun _ k => XS.iloadN X14.here hx rfl (hb hby d3_9) rfl k) ?_
  show own_G p e below (T14.setTop (mkF m 10 #[.val (.ref a1), .val (.ref b14), .val (.int (0 : Int32)), .val (.int (0 : Int32))] [(.int (0 : Int32))])) _
  refine own_go (fun _ k => XS.aloadN X14.here hx rfl (hb hby d3_10) rfl rfl k) ?_
  show own_G p e below (T14.setTop (mkF m 11 #[.val (.ref a1), .val (.ref b14), .val (.int (0 : Int32)), .val (.int (0 : Int32))] [(.ref a1), (.int (0 : Int32))])) _
  obtain ⟨cl22, Ar22, q22, S22, M22, B22, G22⟩ := id f18
  refine own_go (X14.arraylength hx (by rw [e14]; exact Ar22.1) (State.isArrayOf_alike hZ.alike Ar22.2.1) (g := (mkF m 11 #[.val (.ref a1), .val (.ref b14), .val (.int (0 : Int32)), .val (.int (0 : Int32))] [(.ref a1), (.int (0 : Int32))])) rfl rfl (hb hby d3_11)) ?_
  rw [len_of S22 M22]
  show own_G p e below (T14.setTop (mkF m 12 #[.val (.ref a1), .val (.ref b14), .val (.int (0 : Int32)), .val (.int (0 : Int32))] [(.int (1 : Int32)), (.int (0 : Int32))])) _
  refine own_go (fun _ k => XS.icmpNo X14.here hx rfl (hb hby d3_12) rfl (tlt (by decide : (0 : Int32) < (1 : Int32))).2.1 k) ?_
  show own_G p e below (T14.setTop (mkF m 15 #[.val (.ref a1), .val (.ref b14), .val (.int (0 : Int32)), .val (.int (0 : Int32))] [])) _
  refine own_go (fun _ k => XS.aloadN X14.here hx rfl (hb hby d3_15) rfl rfl k) ?_
  show own_G p e below (T14.setTop (mkF m 16 #[.val (.ref a1), .val (.ref b14), .val (.int (0 : Int32)), .val (.int (0 : Int32))] [(.ref a1)])) _
  refine own_go (fun _ k => XS.iloadN X14.here hx rfl (hb hby d3_16) rfl k) ?_
  show own_G p e below (T14.setTop (mkF m 17 #[.val (.ref a1), .val (.ref b14), .val (.int (0 : Int32)), .val (.int (0 : Int32))] [(.int (0 : Int32)), (.ref a1)])) _
  obtain ⟨cl23, Ar23, q23, S23, M23, B23, G23⟩ := id f18
  have hin23 : ¬ ((0 : Int32) < 0 ∨ cl23.slots.size ≤ ((0 : Int32)).toNatClampNeg) := inb_of S23 ⟨by decide, by decide⟩
  have hat23 : cl23.slots[((0 : Int32)).toNatClampNeg]? = some (.int x0) := B23.at hin23 rfl
  refine own_go (X14.iaload hx (j := (0 : Int32)) (v := (.int x0)) (by rw [e14]; exact Ar23.1) (State.isArrayOf_alike hZ.alike Ar23.2.1) Ar23.2.2 hin23 hat23 (g := (mkF m 17 #[.val (.ref a1), .val (.ref b14), .val (.int (0 : Int32)), .val (.int (0 : Int32))] [(.int (0 : Int32)), (.ref a1)])) rfl rfl (hb hby d3_17)) ?_
  show own_G p e below (T14.setTop (mkF m 18 #[.val (.ref a1), .val (.ref b14), .val (.int (0 : Int32)), .val (.int (0 : Int32))] [(.int x0)])) _
  refine own_go (fun _ k => XS.ifYes X14.here hx rfl (pc0 := 18) (pc' := 54) rfl (hb hby d3_18) rfl ((if0 _ _).trans (flt hn0).2.1) (by decide) (by decide) k) ?_
  show own_G p e below (T14.setTop (mkF m 54 #[.val (.ref a1), .val (.ref b14), .val (.int (0 : Int32)), .val (.int (0 : Int32))] [])) _
  refine own_go (fun _ k => XS.iloadN X14.here hx rfl (hb hby d3_54) rfl k) ?_
  show own_G p e below (T14.setTop (mkF m 55 #[.val (.ref a1), .val (.ref b14), .val (.int (0 : Int32)), .val (.int (0 : Int32))] [(.int (0 : Int32))])) _
  refine own_go (fun _ k => XS.ifYes X14.here hx rfl (pc0 := 55) (pc' := 114) rfl (hb hby d3_55) rfl ((if0 _ _).trans (flt (by decide : ¬ ((0 : Int32) < (0 : Int32)))).2.2.2) (by decide) (by decide) k) ?_
  show own_G p e below (T14.setTop (mkF m 114 #[.val (.ref a1), .val (.ref b14), .val (.int (0 : Int32)), .val (.int (0 : Int32))] [])) _
  refine own_go (fun _ k => XS.aloadN X14.here hx rfl (hb hby d3_114) rfl rfl k) ?_
  show own_G p e below (T14.setTop (mkF m 115 #[.val (.ref a1), .val (.ref b14), .val (.int (0 : Int32)), .val (.int (0 : Int32))] [(.ref b14)])) _
  refine own_go (fun _ k => XS.iloadN X14.here hx rfl (hb hby d3_115) rfl k) ?_
  show own_G p e below (T14.setTop (mkF m 116 #[.val (.ref a1), .val (.ref b14), .val (.int (0 : Int32)), .val (.int (0 : Int32))] [(.int (0 : Int32)), (.ref b14)])) _
  refine own_go (fun _ k => XS.aloadN X14.here hx rfl (hb hby d3_116) rfl rfl k) ?_
  show own_G p e below (T14.setTop (mkF m 117 #[.val (.ref a1), .val (.ref b14), .val (.int (0 : Int32)), .val (.int (0 : Int32))] [(.ref a1), (.int (0 : Int32)), (.ref b14)])) _
  refine own_go (fun _ k => XS.iloadN X14.here hx rfl (hb hby d3_117) rfl k) ?_
  show own_G p e below (T14.setTop (mkF m 118 #[.val (.ref a1), .val (.ref b14), .val (.int (0 : Int32)), .val (.int (0 : Int32))] [(.int (0 : Int32)), (.ref a1), (.int (0 : Int32)), (.ref b14)])) _
  obtain ⟨cl24, Ar24, q24, S24, M24, B24, G24⟩ := id f18
  have hin24 : ¬ ((0 : Int32) < 0 ∨ cl24.slots.size ≤ ((0 : Int32)).toNatClampNeg) := inb_of S24 ⟨by decide, by decide⟩
  have hat24 : cl24.slots[((0 : Int32)).toNatClampNeg]? = some (.int x0) := B24.at hin24 rfl
  refine own_go (X14.iaload hx (j := (0 : Int32)) (v := (.int x0)) (by rw [e14]; exact Ar24.1) (State.isArrayOf_alike hZ.alike Ar24.2.1) Ar24.2.2 hin24 hat24 (g := (mkF m 118 #[.val (.ref a1), .val (.ref b14), .val (.int (0 : Int32)), .val (.int (0 : Int32))] [(.int (0 : Int32)), (.ref a1), (.int (0 : Int32)), (.ref b14)])) rfl rfl (hb hby d3_118)) ?_
  show own_G p e below (T14.setTop (mkF m 119 #[.val (.ref a1), .val (.ref b14), .val (.int (0 : Int32)), .val (.int (0 : Int32))] [(.int x0), (.int (0 : Int32)), (.ref b14)])) _
  refine own_go (fun _ k => XS.iloadN X14.here hx rfl (hb hby d3_119) rfl k) ?_
  show own_G p e below (T14.setTop (mkF m 120 #[.val (.ref a1), .val (.ref b14), .val (.int (0 : Int32)), .val (.int (0 : Int32))] [(.int (0 : Int32)), (.int x0), (.int (0 : Int32)), (.ref b14)])) _
  refine own_go (fun _ k => XS.isub X14.here hx rfl (hb hby d3_120) rfl k) ?_
  show own_G p e below (T14.setTop (mkF m 121 #[.val (.ref a1), .val (.ref b14), .val (.int (0 : Int32)), .val (.int (0 : Int32))] [(.int (x0 - (0 : Int32))), (.int (0 : Int32)), (.ref b14)])) _
  obtain ⟨cl25, Ar25, q25, S25, M25, B25, G25⟩ := id V14
  have hin25 : ¬ ((0 : Int32) < 0 ∨ cl25.slots.size ≤ ((0 : Int32)).toNatClampNeg) := inb_of S25 ⟨by decide, by decide⟩
  obtain ⟨T25, h25, X25, e25, W25, st25⟩ := stI X14 hx hZ e14 Ar25 (j := (0 : Int32)) hin25 (g := (mkF m 121 #[.val (.ref a1), .val (.ref b14), .val (.int (0 : Int32)), .val (.int (0 : Int32))] [(.int (x0 - (0 : Int32))), (.int (0 : Int32)), (.ref b14)])) rfl rfl (hb hby d3_121)
  refine own_go st25 ?_
  have f26 := f18.other W25 ne15
  have f27 := f19.wr W25
  have f28 := Y14.wr W25
  have zs29 : n0 ≤ h25.size := Nat.le_trans zs20 (Keep.of_wr W25).1
  have kp30 : Keep h0 h25 [] := kp21.wr W25 (Or.inr sz17)
  have V25 : Arv Z h25 b14 k14 .int (1 : Int32) [(.int (x0 - (0 : Int32)))] (.int (0 : Int32)) := Arv.set Ar25 q25 S25 M25 B25 G25 rfl W25 0 rfl (Nat.le_of_ble_eq_true rfl)
  have N25 := Fr.snoc X25 N0 ge16
  show own_G p e below (T25.setTop (mkF m 122 #[.val (.ref a1), .val (.ref b14), .val (.int (0 : Int32)), .val (.int (0 : Int32))] [])) _
  refine own_go (fun _ k => XS.aloadN X25.here hx rfl (hb hby d3_122) rfl rfl k) ?_
  show own_G p e below (T25.setTop (mkF m 123 #[.val (.ref a1), .val (.ref b14), .val (.int (0 : Int32)), .val (.int (0 : Int32))] [(.ref a1)])) _
  refine own_go (fun _ k => XS.iloadN X25.here hx rfl (hb hby d3_123) rfl k) ?_
  show own_G p e below (T25.setTop (mkF m 124 #[.val (.ref a1), .val (.ref b14), .val (.int (0 : Int32)), .val (.int (0 : Int32))] [(.int (0 : Int32)), (.ref a1)])) _
  obtain ⟨cl31, Ar31, q31, S31, M31, B31, G31⟩ := id f26
  have hin31 : ¬ ((0 : Int32) < 0 ∨ cl31.slots.size ≤ ((0 : Int32)).toNatClampNeg) := inb_of S31 ⟨by decide, by decide⟩
  have hat31 : cl31.slots[((0 : Int32)).toNatClampNeg]? = some (.int x0) := B31.at hin31 rfl
  refine own_go (X25.iaload hx (j := (0 : Int32)) (v := (.int x0)) (by rw [e25]; exact Ar31.1) (State.isArrayOf_alike hZ.alike Ar31.2.1) Ar31.2.2 hin31 hat31 (g := (mkF m 124 #[.val (.ref a1), .val (.ref b14), .val (.int (0 : Int32)), .val (.int (0 : Int32))] [(.int (0 : Int32)), (.ref a1)])) rfl rfl (hb hby d3_124)) ?_
  show own_G p e below (T25.setTop (mkF m 125 #[.val (.ref a1), .val (.ref b14), .val (.int (0 : Int32)), .val (.int (0 : Int32))] [(.int x0)])) _
  refine own_go (fun _ k => XS.istoreN X25.here hx rfl (hb hby d3_125) rfl (l' := #[.val (.ref a1), .val (.ref b14), .val (.int x0), .val (.int (0 : Int32))]) rfl k) ?_
  show own_G p e below (T25.setTop (mkF m 126 #[.val (.ref a1), .val (.ref b14), .val (.int x0), .val (.int (0 : Int32))] [])) _
  refine own_go (fun _ k => XS.iinc X25.here hx rfl (hb hby d3_126) rfl (l' := #[.val (.ref a1), .val (.ref b14), .val (.int x0), .val (.int (1 : Int32))]) rfl k) ?_
  show own_G p e below (T25.setTop (mkF m 129 #[.val (.ref a1), .val (.ref b14), .val (.int x0), .val (.int (1 : Int32))] [])) _
  refine own_go (fun _ k => XS.goto X25.here hx rfl (pc0 := 129) (pc' := 9) rfl (hb hby d3_129) (by decide) (by decide) k) ?_
  show own_G p e below (T25.setTop (mkF m 9 #[.val (.ref a1), .val (.ref b14), .val (.int x0), .val (.int (1 : Int32))] [])) _
  refine own_go (fun _ k => XS.iloadN X25.here hx rfl (hb hby d3_9) rfl k) ?_
  show own_G p e below (T25.setTop (mkF m 10 #[.val (.ref a1), .val (.ref b14), .val (.int x0), .val (.int (1 : Int32))] [(.int (1 : Int32))])) _
  refine own_go (fun _ k => XS.aloadN X25.here hx rfl (hb hby d3_10) rfl rfl k) ?_
  show own_G p e below (T25.setTop (mkF m 11 #[.val (.ref a1), .val (.ref b14), .val (.int x0), .val (.int (1 : Int32))] [(.ref a1), (.int (1 : Int32))])) _
  obtain ⟨cl32, Ar32, q32, S32, M32, B32, G32⟩ := id f26
  refine own_go (X25.arraylength hx (by rw [e25]; exact Ar32.1) (State.isArrayOf_alike hZ.alike Ar32.2.1) (g := (mkF m 11 #[.val (.ref a1), .val (.ref b14), .val (.int x0), .val (.int (1 : Int32))] [(.ref a1), (.int (1 : Int32))])) rfl rfl (hb hby d3_11)) ?_
  rw [len_of S32 M32]
  show own_G p e below (T25.setTop (mkF m 12 #[.val (.ref a1), .val (.ref b14), .val (.int x0), .val (.int (1 : Int32))] [(.int (1 : Int32)), (.int (1 : Int32))])) _
  refine own_go (fun _ k => XS.icmpYes X25.here hx rfl (pc0 := 12) (pc' := 132) rfl (hb hby d3_12) rfl (flt (by decide : ¬ ((1 : Int32) < (1 : Int32)))).2.1 (by decide) (by decide) k) ?_
  show own_G p e below (T25.setTop (mkF m 132 #[.val (.ref a1), .val (.ref b14), .val (.int x0), .val (.int (1 : Int32))] [])) _
  refine own_go (fun _ k => XS.aloadN X25.here hx rfl (hb hby d3_132) rfl rfl k) ?_
  show own_G p e below (T25.setTop (mkF m 133 #[.val (.ref a1), .val (.ref b14), .val (.int x0), .val (.int (1 : Int32))] [(.ref b14)])) _
  refine own_ret X25 hlk (v := some (.ref b14)) (fun h => by rw [hret] at h; cases h) (Q3_1 Z a1 k1 x0 h0 n0) (own_retI X25 hx (t := (.array .int)) hret rfl (Or.inr (Or.inr (Or.inr (Or.inr ⟨rfl, rfl, rfl⟩)))) (hb hby d3_133)) (by decide) (by decide) ?_
  show Q3_1 Z a1 k1 x0 h0 n0 _ T25.heap _
  rw [e25]
  exact ⟨b14, k14, rfl, N25, kp30, V25⟩
def Q3_2 (Z : State) (a1 : Addr) (k1 : ClassId) (x0 x1 : Int32) (h0 : Heap) (n0 : Nat) (v : Option Value) (h : Heap) (L : List Loc) : Prop := ∃ (b : Addr) (k : ClassId), v = some (.ref b) ∧ Fr n0 L ∧ Keep h0 h [] ∧ Arv Z h b k .int (2 : Int32) [(.int (x0 - (0 : Int32))), (.int (x1 - x0))] (.int (0 : Int32))
set_option maxRecDepth 65536 in
set_option maxHeartbeats 40000000 in
theorem rm3_2 (l : Launch) (Z : State) (a0 : Array Value) (hw : ∀ d ∈ tables_1, d.before a0 Z = true) (ws : List Jvm.Cond) (a1 : Addr) (k1 : ClassId) (x0 x1 : Int32) (h0 : Heap) (n0 : Nat) (Z0 : n0 ≤ h0.size) (V_a1 : Arv Z h0 a1 k1 .int (2 : Int32) [(.int x0), (.int x1)] (.int (0 : Int32))) (E_a1 : Exa Z h0 a1 "[I") (hn0 : ¬ x0 < (0 : Int32)) (hn1 : ¬ x1 < (0 : Int32)) (hl1 : x0 < x1) :
    MetFree l (⟨"com/example/bitfold/bitfold/IdLists", "gaps", "([I)[I"⟩ : MethodName) (head1 (Jvm.Cond.code (⟨"com/example/bitfold/bitfold/IdLists", "gaps", "([I)[I"⟩ : MethodName) prog_7_method_5_code 4 (some (.array .int)) :: ws) ({ frames := 0, cells := 1, slots := 2, locals := 0 } : Room)) (fun a U => a = #[(.ref a1)] ∧ Z.Warmed39 U.vm ∧ U.heap = h0) (fun _ _ _ _ _ => True) (fun _ U o U' => ∃ v L, o = .returned v ∧ Q3_2 Z a1 k1 x0 x1 h0 n0 v U'.heap L ∧ FrameEnd U o U' L ({ frames := 0, cells := 1, slots := 2, locals := 0 } : Room).cells ({ frames := 0, cells := 1, slots := 2, locals := 0 } : Room).slots) := by
  refine MetFree.of_bodySF (plainFor_of_name pn_3) hisR ?_
  intro p e s m args below meth c s₁ Bd hml0 hP hK
  obtain ⟨rfl, hZ, hh⟩ := hP
  have hx := Bd.exec
  have hby := Bd.bytes
  have hml : c.maxLocals = 4 := hml0
  have hown : s.vm.findClass "com/example/bitfold/bitfold/IdLists" = some m.cls := findClass_of_methodNamed Bd.named
  have hnm := (name_of_methodNamed Bd.named Bd.method).1
  have hlk := Bd.notSynchronized
  have hret := Bd.returns
  have X0 : Stand p l e ({ frames := 0, cells := 1, slots := 2, locals := 0 } : Room) s m #[(.ref a1)] below meth c s₁ [] 0 0 := Stand.of_body Bd
  have e0 : s₁.heap = h0 := by rw [← hh, Bd.state]; rfl
  have N0 := Fr.nil n0
  show own_G p e below (s₁.setTop (entryFrame m #[(.ref a1)] 4)) (fun s₂ o => ∃ v L, o = .returned v ∧ Q3_2 Z a1 k1 x0 x1 h0 n0 v s₂.heap L ∧ FrameEnd s o s₂ L ({ frames := 0, cells := 1, slots := 2, locals := 0 } : Room).cells ({ frames := 0, cells := 1, slots := 2, locals := 0 } : Room).slots)
  refine own_go (fun t k => castTop (ef_3 m a1) k) ?_
  show own_G p e below (s₁.setTop (mkF m 0 #[.val (.ref a1), .unset, .unset, .unset] [])) _
  refine own_go (fun _ k => XS.aloadN X0.here hx rfl (hb hby d3_0) rfl rfl k) ?_
  show own_G p e below (s₁.setTop (mkF m 1 #[.val (.ref a1), .unset, .unset, .unset] [(.ref a1)])) _
  obtain ⟨cl33, Ar33, q33, S33, M33, B33, G33⟩ := id V_a1
  refine own_go (X0.arraylength hx (by rw [e0]; exact Ar33.1) (State.isArrayOf_alike hZ.alike Ar33.2.1) (g := (mkF m 1 #[.val (.ref a1), .unset, .unset, .unset] [(.ref a1)])) rfl rfl (hb hby d3_1)) ?_
  rw [len_of S33 M33]
  show own_G p e below (s₁.setTop (mkF m 2 #[.val (.ref a1), .unset, .unset, .unset] [(.int (2 : Int32))])) _
  obtain ⟨T34, h34, k34, X34, e34, E34, A34, Y34, st34⟩ := newPE X0 hx hZ (hw _ (List.mem_of_getElem? (i := 8) rfl)) e0 (g := (mkF m 2 #[.val (.ref a1), .unset, .unset, .unset] [(.int (2 : Int32))])) rfl (hb hby d3_2) rfl (by decide) (cap := 2) (by decide) (by decide) (by decide) (by decide) (ad := "[I") (by decide)
  obtain ⟨b34, g34⟩ : ∃ z, z = h0.size := ⟨_, rfl⟩
  rw [← g34] at A34 Y34 st34
  refine own_go st34 ?_
  have ne35 : a1 ≠ b34 := Nat.ne_of_lt (Nat.lt_of_lt_of_le V_a1.lt (Nat.le_of_eq g34.symm))
  have ge36 : n0 ≤ b34 := Nat.le_trans Z0 (Nat.le_of_eq g34.symm)
  have sz37 : h0.size ≤ b34 := Nat.le_trans (Keep.refl h0 []).1 (Nat.le_of_eq g34.symm)
  have f38 := V_a1.ext E34
  have f39 := E_a1.ext E34
  have zs40 : n0 ≤ h34.size := Nat.le_trans Z0 E34.1
  have kp41 : Keep h0 h34 [] := (Keep.refl h0 []).ext E34
  have V34 : Arv Z h34 b34 k34 .int (2 : Int32) [(.int (0 : Int32)), (.int (0 : Int32))] (.int (0 : Int32)) := (Arv.new A34 (by decide)).pad (pad_rep [] (.int (0 : Int32)) 2)
  show own_G p e below (T34.setTop (mkF m 4 #[.val (.ref a1), .unset, .unset, .unset] [(.ref b34)])) _
  refine own_go (fun _ k => XS.astoreN X34.here hx rfl (hb hby d3_4) rfl rfl (l' := #[.val (.ref a1), .val (.ref b34), .unset, .unset]) rfl k) ?_
  show own_G p e below (T34.setTop (mkF m 5 #[.val (.ref a1), .val (.ref b34), .unset, .unset] [])) _
  refine own_go (fun _ k => XS.iconst X34.here hx rfl (hb hby d3_5) k) ?_
  show own_G p e below (T34.setTop (mkF m 6 #[.val (.ref a1), .val (.ref b34), .unset, .unset] [(.int (0 : Int32))])) _
  refine own_go (fun _ k => XS.istoreN X34.here hx rfl (hb hby d3_6) rfl (l' := #[.val (.ref a1), .val (.ref b34), .val (.int (0 : Int32)), .unset]) rfl k) ?_
  show own_G p e below (T34.setTop (mkF m 7 #[.val (.ref a1), .val (.ref b34), .val (.int (0 : Int32)), .unset] [])) _
  refine own_go (fun _ k => XS.iconst X34.here hx rfl (hb hby d3_7) k) ?_
  show own_G p e below (T34.setTop (mkF m 8 #[.val (.ref a1), .val (.ref b34), .val (.int (0 : Int32)), .unset] [(.int (0 : Int32))])) _
  refine own_go (fun _ k => XS.istoreN X34.here hx rfl (hb hby d3_8) rfl (l' := #[.val (.ref a1), .val (.ref b34), .val (.int (0 : Int32)), .val (.int (0 : Int32))]) rfl k) ?_
  show own_G p e below (T34.setTop (mkF m 9 #[.val (.ref a1), .val (.ref b34), .val (.int (0 : Int32)), .val (.int (0 : Int32))] [])) _
  refine own_go (fun _ k => XS.iloadN X34.here hx rfl (hb hby d3_9) rfl k) ?_
  show own_G p e below (T34.setTop (mkF m 10 #[.val (.ref a1), .val (.ref b34), .val (.int (0 : Int32)), .val (.int (0 : Int32))] [(.int (0 : Int32))])) _
  refine own_go (fun _ k => XS.aloadN X34.here hx rfl (hb hby d3_10) rfl rfl k) ?_
  show own_G p e below (T34.setTop (mkF m 11 #[.val (.ref a1), .val (.ref b34), .val (.int (0 : Int32)), .val (.int (0 : Int32))] [(.ref a1), (.int (0 : Int32))])) _
  obtain ⟨cl42, Ar42, q42, S42, M42, B42, G42⟩ := id f38
  refine own_go (X34.arraylength hx (by rw [e34]; exact Ar42.1) (State.isArrayOf_alike hZ.alike Ar42.2.1) (g := (mkF m 11 #[.val (.ref a1), .val (.ref b34), .val (.int (0 : Int32)), .val (.int (0 : Int32))] [(.ref a1), (.int (0 : Int32))])) rfl rfl (hb hby d3_11)) ?_
  rw [len_of S42 M42]
  show own_G p e below (T34.setTop (mkF m 12 #[.val (.ref a1), .val (.ref b34), .val (.int (0 : Int32)), .val (.int (0 : Int32))] [(.int (2 : Int32)), (.int (0 : Int32))])) _
  refine own_go (fun _ k => XS.icmpNo X34.here hx rfl (hb hby d3_12) rfl (tlt (by decide : (0 : Int32) < (2 : Int32))).2.1 k) ?_
  show own_G p e below (T34.setTop (mkF m 15 #[.val (.ref a1), .val (.ref b34), .val (.int (0 : Int32)), .val (.int (0 : Int32))] [])) _
  refine own_go (fun _ k => XS.aloadN X34.here hx rfl (hb hby d3_15) rfl rfl k) ?_
  show own_G p e below (T34.setTop (mkF m 16 #[.val (.ref a1), .val (.ref b34), .val (.int (0 : Int32)), .val (.int (0 : Int32))] [(.ref a1)])) _
  refine own_go (fun _ k => XS.iloadN X34.here hx rfl (hb hby d3_16) rfl k) ?_
  show own_G p e below (T34.setTop (mkF m 17 #[.val (.ref a1), .val (.ref b34), .val (.int (0 : Int32)), .val (.int (0 : Int32))] [(.int (0 : Int32)), (.ref a1)])) _
  obtain ⟨cl43, Ar43, q43, S43, M43, B43, G43⟩ := id f38
  have hin43 : ¬ ((0 : Int32) < 0 ∨ cl43.slots.size ≤ ((0 : Int32)).toNatClampNeg) := inb_of S43 ⟨by decide, by decide⟩
  have hat43 : cl43.slots[((0 : Int32)).toNatClampNeg]? = some (.int x0) := B43.at hin43 rfl
  refine own_go (X34.iaload hx (j := (0 : Int32)) (v := (.int x0)) (by rw [e34]; exact Ar43.1) (State.isArrayOf_alike hZ.alike Ar43.2.1) Ar43.2.2 hin43 hat43 (g := (mkF m 17 #[.val (.ref a1), .val (.ref b34), .val (.int (0 : Int32)), .val (.int (0 : Int32))] [(.int (0 : Int32)), (.ref a1)])) rfl rfl (hb hby d3_17)) ?_
  show own_G p e below (T34.setTop (mkF m 18 #[.val (.ref a1), .val (.ref b34), .val (.int (0 : Int32)), .val (.int (0 : Int32))] [(.int x0)])) _
  refine own_go (fun _ k => XS.ifYes X34.here hx rfl (pc0 := 18) (pc' := 54) rfl (hb hby d3_18) rfl ((if0 _ _).trans (flt hn0).2.1) (by decide) (by decide) k) ?_
  show own_G p e below (T34.setTop (mkF m 54 #[.val (.ref a1), .val (.ref b34), .val (.int (0 : Int32)), .val (.int (0 : Int32))] [])) _
  refine own_go (fun _ k => XS.iloadN X34.here hx rfl (hb hby d3_54) rfl k) ?_
  show own_G p e below (T34.setTop (mkF m 55 #[.val (.ref a1), .val (.ref b34), .val (.int (0 : Int32)), .val (.int (0 : Int32))] [(.int (0 : Int32))])) _
  refine own_go (fun _ k => XS.ifYes X34.here hx rfl (pc0 := 55) (pc' := 114) rfl (hb hby d3_55) rfl ((if0 _ _).trans (flt (by decide : ¬ ((0 : Int32) < (0 : Int32)))).2.2.2) (by decide) (by decide) k) ?_
  show own_G p e below (T34.setTop (mkF m 114 #[.val (.ref a1), .val (.ref b34), .val (.int (0 : Int32)), .val (.int (0 : Int32))] [])) _
  refine own_go (fun _ k => XS.aloadN X34.here hx rfl (hb hby d3_114) rfl rfl k) ?_
  show own_G p e below (T34.setTop (mkF m 115 #[.val (.ref a1), .val (.ref b34), .val (.int (0 : Int32)), .val (.int (0 : Int32))] [(.ref b34)])) _
  refine own_go (fun _ k => XS.iloadN X34.here hx rfl (hb hby d3_115) rfl k) ?_
  show own_G p e below (T34.setTop (mkF m 116 #[.val (.ref a1), .val (.ref b34), .val (.int (0 : Int32)), .val (.int (0 : Int32))] [(.int (0 : Int32)), (.ref b34)])) _
  refine own_go (fun _ k => XS.aloadN X34.here hx rfl (hb hby d3_116) rfl rfl k) ?_
  show own_G p e below (T34.setTop (mkF m 117 #[.val (.ref a1), .val (.ref b34), .val (.int (0 : Int32)), .val (.int (0 : Int32))] [(.ref a1), (.int (0 : Int32)), (.ref b34)])) _
  refine own_go (fun _ k => XS.iloadN X34.here hx rfl (hb hby d3_117) rfl k) ?_
  show own_G p e below (T34.setTop (mkF m 118 #[.val (.ref a1), .val (.ref b34), .val (.int (0 : Int32)), .val (.int (0 : Int32))] [(.int (0 : Int32)), (.ref a1), (.int (0 : Int32)), (.ref b34)])) _
  obtain ⟨cl44, Ar44, q44, S44, M44, B44, G44⟩ := id f38
  have hin44 : ¬ ((0 : Int32) < 0 ∨ cl44.slots.size ≤ ((0 : Int32)).toNatClampNeg) := inb_of S44 ⟨by decide, by decide⟩
  have hat44 : cl44.slots[((0 : Int32)).toNatClampNeg]? = some (.int x0) := B44.at hin44 rfl
  refine own_go (X34.iaload hx (j := (0 : Int32)) (v := (.int x0)) (by rw [e34]; exact Ar44.1) (State.isArrayOf_alike hZ.alike Ar44.2.1) Ar44.2.2 hin44 hat44 (g := (mkF m 118 #[.val (.ref a1), .val (.ref b34), .val (.int (0 : Int32)), .val (.int (0 : Int32))] [(.int (0 : Int32)), (.ref a1), (.int (0 : Int32)), (.ref b34)])) rfl rfl (hb hby d3_118)) ?_
  show own_G p e below (T34.setTop (mkF m 119 #[.val (.ref a1), .val (.ref b34), .val (.int (0 : Int32)), .val (.int (0 : Int32))] [(.int x0), (.int (0 : Int32)), (.ref b34)])) _
  refine own_go (fun _ k => XS.iloadN X34.here hx rfl (hb hby d3_119) rfl k) ?_
  show own_G p e below (T34.setTop (mkF m 120 #[.val (.ref a1), .val (.ref b34), .val (.int (0 : Int32)), .val (.int (0 : Int32))] [(.int (0 : Int32)), (.int x0), (.int (0 : Int32)), (.ref b34)])) _
  refine own_go (fun _ k => XS.isub X34.here hx rfl (hb hby d3_120) rfl k) ?_
  show own_G p e below (T34.setTop (mkF m 121 #[.val (.ref a1), .val (.ref b34), .val (.int (0 : Int32)), .val (.int (0 : Int32))] [(.int (x0 - (0 : Int32))), (.int (0 : Int32)), (.ref b34)])) _
  obtain ⟨cl45, Ar45, q45, S45, M45, B45, G45⟩ := id V34
  have hin45 : ¬ ((0 : Int32) < 0 ∨ cl45.slots.size ≤ ((0 : Int32)).toNatClampNeg) := inb_of S45 ⟨by decide, by decide⟩
  obtain ⟨T45, h45, X45, e45, W45, st45⟩ := stI X34 hx hZ e34 Ar45 (j := (0 : Int32)) hin45 (g := (mkF m 121 #[.val (.ref a1), .val (.ref b34), .val (.int (0 : Int32)), .val (.int (0 : Int32))] [(.int (x0 - (0 : Int32))), (.int (0 : Int32)), (.ref b34)])) rfl rfl (hb hby d3_121)
  refine own_go st45 ?_
  have f46 := f38.other W45 ne35
  have f47 := f39.wr W45
  have f48 := Y34.wr W45
  have zs49 : n0 ≤ h45.size := Nat.le_trans zs40 (Keep.of_wr W45).1
  have kp50 : Keep h0 h45 [] := kp41.wr W45 (Or.inr sz37)
  have V45 : Arv Z h45 b34 k34 .int (2 : Int32) [(.int (x0 - (0 : Int32))), (.int (0 : Int32))] (.int (0 : Int32)) := Arv.set Ar45 q45 S45 M45 B45 G45 rfl W45 0 rfl (Nat.le_of_ble_eq_true rfl)
  have N45 := Fr.snoc X45 N0 ge36
  show own_G p e below (T45.setTop (mkF m 122 #[.val (.ref a1), .val (.ref b34), .val (.int (0 : Int32)), .val (.int (0 : Int32))] [])) _
  refine own_go (fun _ k => XS.aloadN X45.here hx rfl (hb hby d3_122) rfl rfl k) ?_
  show own_G p e below (T45.setTop (mkF m 123 #[.val (.ref a1), .val (.ref b34), .val (.int (0 : Int32)), .val (.int (0 : Int32))] [(.ref a1)])) _
  refine own_go (fun _ k => XS.iloadN X45.here hx rfl (hb hby d3_123) rfl k) ?_
  show own_G p e below (T45.setTop (mkF m 124 #[.val (.ref a1), .val (.ref b34), .val (.int (0 : Int32)), .val (.int (0 : Int32))] [(.int (0 : Int32)), (.ref a1)])) _
  obtain ⟨cl51, Ar51, q51, S51, M51, B51, G51⟩ := id f46
  have hin51 : ¬ ((0 : Int32) < 0 ∨ cl51.slots.size ≤ ((0 : Int32)).toNatClampNeg) := inb_of S51 ⟨by decide, by decide⟩
  have hat51 : cl51.slots[((0 : Int32)).toNatClampNeg]? = some (.int x0) := B51.at hin51 rfl
  refine own_go (X45.iaload hx (j := (0 : Int32)) (v := (.int x0)) (by rw [e45]; exact Ar51.1) (State.isArrayOf_alike hZ.alike Ar51.2.1) Ar51.2.2 hin51 hat51 (g := (mkF m 124 #[.val (.ref a1), .val (.ref b34), .val (.int (0 : Int32)), .val (.int (0 : Int32))] [(.int (0 : Int32)), (.ref a1)])) rfl rfl (hb hby d3_124)) ?_
  show own_G p e below (T45.setTop (mkF m 125 #[.val (.ref a1), .val (.ref b34), .val (.int (0 : Int32)), .val (.int (0 : Int32))] [(.int x0)])) _
  refine own_go (fun _ k => XS.istoreN X45.here hx rfl (hb hby d3_125) rfl (l' := #[.val (.ref a1), .val (.ref b34), .val (.int x0), .val (.int (0 : Int32))]) rfl k) ?_
  show own_G p e below (T45.setTop (mkF m 126 #[.val (.ref a1), .val (.ref b34), .val (.int x0), .val (.int (0 : Int32))] [])) _
  refine own_go (fun _ k => XS.iinc X45.here hx rfl (hb hby d3_126) rfl (l' := #[.val (.ref a1), .val (.ref b34), .val (.int x0), .val (.int (1 : Int32))]) rfl k) ?_
  show own_G p e below (T45.setTop (mkF m 129 #[.val (.ref a1), .val (.ref b34), .val (.int x0), .val (.int (1 : Int32))] [])) _
  refine own_go (fun _ k => XS.goto X45.here hx rfl (pc0 := 129) (pc' := 9) rfl (hb hby d3_129) (by decide) (by decide) k) ?_
  show own_G p e below (T45.setTop (mkF m 9 #[.val (.ref a1), .val (.ref b34), .val (.int x0), .val (.int (1 : Int32))] [])) _
  refine own_go (fun _ k => XS.iloadN X45.here hx rfl (hb hby d3_9) rfl k) ?_
  show own_G p e below (T45.setTop (mkF m 10 #[.val (.ref a1), .val (.ref b34), .val (.int x0), .val (.int (1 : Int32))] [(.int (1 : Int32))])) _
  refine own_go (fun _ k => XS.aloadN X45.here hx rfl (hb hby d3_10) rfl rfl k) ?_
  show own_G p e below (T45.setTop (mkF m 11 #[.val (.ref a1), .val (.ref b34), .val (.int x0), .val (.int (1 : Int32))] [(.ref a1), (.int (1 : Int32))])) _
  obtain ⟨cl52, Ar52, q52, S52, M52, B52, G52⟩ := id f46
  refine own_go (X45.arraylength hx (by rw [e45]; exact Ar52.1) (State.isArrayOf_alike hZ.alike Ar52.2.1) (g := (mkF m 11 #[.val (.ref a1), .val (.ref b34), .val (.int x0), .val (.int (1 : Int32))] [(.ref a1), (.int (1 : Int32))])) rfl rfl (hb hby d3_11)) ?_
  rw [len_of S52 M52]
  show own_G p e below (T45.setTop (mkF m 12 #[.val (.ref a1), .val (.ref b34), .val (.int x0), .val (.int (1 : Int32))] [(.int (2 : Int32)), (.int (1 : Int32))])) _
  refine own_go (fun _ k => XS.icmpNo X45.here hx rfl (hb hby d3_12) rfl (tlt (by decide : (1 : Int32) < (2 : Int32))).2.1 k) ?_
  show own_G p e below (T45.setTop (mkF m 15 #[.val (.ref a1), .val (.ref b34), .val (.int x0), .val (.int (1 : Int32))] [])) _
  refine own_go (fun _ k => XS.aloadN X45.here hx rfl (hb hby d3_15) rfl rfl k) ?_
  show own_G p e below (T45.setTop (mkF m 16 #[.val (.ref a1), .val (.ref b34), .val (.int x0), .val (.int (1 : Int32))] [(.ref a1)])) _
  refine own_go (fun _ k => XS.iloadN X45.here hx rfl (hb hby d3_16) rfl k) ?_
  show own_G p e below (T45.setTop (mkF m 17 #[.val (.ref a1), .val (.ref b34), .val (.int x0), .val (.int (1 : Int32))] [(.int (1 : Int32)), (.ref a1)])) _
  obtain ⟨cl53, Ar53, q53, S53, M53, B53, G53⟩ := id f46
  have hin53 : ¬ ((1 : Int32) < 0 ∨ cl53.slots.size ≤ ((1 : Int32)).toNatClampNeg) := inb_of S53 ⟨by decide, by decide⟩
  have hat53 : cl53.slots[((1 : Int32)).toNatClampNeg]? = some (.int x1) := B53.at hin53 rfl
  refine own_go (X45.iaload hx (j := (1 : Int32)) (v := (.int x1)) (by rw [e45]; exact Ar53.1) (State.isArrayOf_alike hZ.alike Ar53.2.1) Ar53.2.2 hin53 hat53 (g := (mkF m 17 #[.val (.ref a1), .val (.ref b34), .val (.int x0), .val (.int (1 : Int32))] [(.int (1 : Int32)), (.ref a1)])) rfl rfl (hb hby d3_17)) ?_
  show own_G p e below (T45.setTop (mkF m 18 #[.val (.ref a1), .val (.ref b34), .val (.int x0), .val (.int (1 : Int32))] [(.int x1)])) _
  refine own_go (fun _ k => XS.ifYes X45.here hx rfl (pc0 := 18) (pc' := 54) rfl (hb hby d3_18) rfl ((if0 _ _).trans (flt hn1).2.1) (by decide) (by decide) k) ?_
  show own_G p e below (T45.setTop (mkF m 54 #[.val (.ref a1), .val (.ref b34), .val (.int x0), .val (.int (1 : Int32))] [])) _
  refine own_go (fun _ k => XS.iloadN X45.here hx rfl (hb hby d3_54) rfl k) ?_
  show own_G p e below (T45.setTop (mkF m 55 #[.val (.ref a1), .val (.ref b34), .val (.int x0), .val (.int (1 : Int32))] [(.int (1 : Int32))])) _
  refine own_go (fun _ k => XS.ifNo X45.here hx rfl (hb hby d3_55) rfl ((if0 _ _).trans (tlt (by decide : (0 : Int32) < (1 : Int32))).2.2.2) k) ?_
  show own_G p e below (T45.setTop (mkF m 58 #[.val (.ref a1), .val (.ref b34), .val (.int x0), .val (.int (1 : Int32))] [])) _
  refine own_go (fun _ k => XS.aloadN X45.here hx rfl (hb hby d3_58) rfl rfl k) ?_
  show own_G p e below (T45.setTop (mkF m 59 #[.val (.ref a1), .val (.ref b34), .val (.int x0), .val (.int (1 : Int32))] [(.ref a1)])) _
  refine own_go (fun _ k => XS.iloadN X45.here hx rfl (hb hby d3_59) rfl k) ?_
  show own_G p e below (T45.setTop (mkF m 60 #[.val (.ref a1), .val (.ref b34), .val (.int x0), .val (.int (1 : Int32))] [(.int (1 : Int32)), (.ref a1)])) _
  obtain ⟨cl54, Ar54, q54, S54, M54, B54, G54⟩ := id f46
  have hin54 : ¬ ((1 : Int32) < 0 ∨ cl54.slots.size ≤ ((1 : Int32)).toNatClampNeg) := inb_of S54 ⟨by decide, by decide⟩
  have hat54 : cl54.slots[((1 : Int32)).toNatClampNeg]? = some (.int x1) := B54.at hin54 rfl
  refine own_go (X45.iaload hx (j := (1 : Int32)) (v := (.int x1)) (by rw [e45]; exact Ar54.1) (State.isArrayOf_alike hZ.alike Ar54.2.1) Ar54.2.2 hin54 hat54 (g := (mkF m 60 #[.val (.ref a1), .val (.ref b34), .val (.int x0), .val (.int (1 : Int32))] [(.int (1 : Int32)), (.ref a1)])) rfl rfl (hb hby d3_60)) ?_
  show own_G p e below (T45.setTop (mkF m 61 #[.val (.ref a1), .val (.ref b34), .val (.int x0), .val (.int (1 : Int32))] [(.int x1)])) _
  refine own_go (fun _ k => XS.iloadN X45.here hx rfl (hb hby d3_61) rfl k) ?_
  show own_G p e below (T45.setTop (mkF m 62 #[.val (.ref a1), .val (.ref b34), .val (.int x0), .val (.int (1 : Int32))] [(.int x0), (.int x1)])) _
  refine own_go (fun _ k => XS.icmpYes X45.here hx rfl (pc0 := 62) (pc' := 114) rfl (hb hby d3_62) rfl (tlt hl1).2.2.1 (by decide) (by decide) k) ?_
  show own_G p e below (T45.setTop (mkF m 114 #[.val (.ref a1), .val (.ref b34), .val (.int x0), .val (.int (1 : Int32))] [])) _
  refine own_go (fun _ k => XS.aloadN X45.here hx rfl (hb hby d3_114) rfl rfl k) ?_
  show own_G p e below (T45.setTop (mkF m 115 #[.val (.ref a1), .val (.ref b34), .val (.int x0), .val (.int (1 : Int32))] [(.ref b34)])) _
  refine own_go (fun _ k => XS.iloadN X45.here hx rfl (hb hby d3_115) rfl k) ?_
  show own_G p e below (T45.setTop (mkF m 116 #[.val (.ref a1), .val (.ref b34), .val (.int x0), .val (.int (1 : Int32))] [(.int (1 : Int32)), (.ref b34)])) _
  refine own_go (fun _ k => XS.aloadN X45.here hx rfl (hb hby d3_116) rfl rfl k) ?_
  show own_G p e below (T45.setTop (mkF m 117 #[.val (.ref a1), .val (.ref b34), .val (.int x0), .val (.int (1 : Int32))] [(.ref a1), (.int (1 : Int32)), (.ref b34)])) _
  refine own_go (fun _ k => XS.iloadN X45.here hx rfl (hb hby d3_117) rfl k) ?_
  show own_G p e below (T45.setTop (mkF m 118 #[.val (.ref a1), .val (.ref b34), .val (.int x0), .val (.int (1 : Int32))] [(.int (1 : Int32)), (.ref a1), (.int (1 : Int32)), (.ref b34)])) _
  obtain ⟨cl55, Ar55, q55, S55, M55, B55, G55⟩ := id f46
  have hin55 : ¬ ((1 : Int32) < 0 ∨ cl55.slots.size ≤ ((1 : Int32)).toNatClampNeg) := inb_of S55 ⟨by decide, by decide⟩
  have hat55 : cl55.slots[((1 : Int32)).toNatClampNeg]? = some (.int x1) := B55.at hin55 rfl
  refine own_go (X45.iaload hx (j := (1 : Int32)) (v := (.int x1)) (by rw [e45]; exact Ar55.1) (State.isArrayOf_alike hZ.alike Ar55.2.1) Ar55.2.2 hin55 hat55 (g := (mkF m 118 #[.val (.ref a1), .val (.ref b34), .val (.int x0), .val (.int (1 : Int32))] [(.int (1 : Int32)), (.ref a1), (.int (1 : Int32)), (.ref b34)])) rfl rfl (hb hby d3_118)) ?_
  show own_G p e below (T45.setTop (mkF m 119 #[.val (.ref a1), .val (.ref b34), .val (.int x0), .val (.int (1 : Int32))] [(.int x1), (.int (1 : Int32)), (.ref b34)])) _
  refine own_go (fun _ k => XS.iloadN X45.here hx rfl (hb hby d3_119) rfl k) ?_
  show own_G p e below (T45.setTop (mkF m 120 #[.val (.ref a1), .val (.ref b34), .val (.int x0), .val (.int (1 : Int32))] [(.int x0), (.int x1), (.int (1 : Int32)), (.ref b34)])) _
  refine own_go (fun _ k => XS.isub X45.here hx rfl (hb hby d3_120) rfl k) ?_
  show own_G p e below (T45.setTop (mkF m 121 #[.val (.ref a1), .val (.ref b34), .val (.int x0), .val (.int (1 : Int32))] [(.int (x1 - x0)), (.int (1 : Int32)), (.ref b34)])) _
  obtain ⟨cl56, Ar56, q56, S56, M56, B56, G56⟩ := id V45
  have hin56 : ¬ ((1 : Int32) < 0 ∨ cl56.slots.size ≤ ((1 : Int32)).toNatClampNeg) := inb_of S56 ⟨by decide, by decide⟩
  obtain ⟨T56, h56, X56, e56, W56, st56⟩ := stI X45 hx hZ e45 Ar56 (j := (1 : Int32)) hin56 (g := (mkF m 121 #[.val (.ref a1), .val (.ref b34), .val (.int x0), .val (.int (1 : Int32))] [(.int (x1 - x0)), (.int (1 : Int32)), (.ref b34)])) rfl rfl (hb hby d3_121)
  refine own_go st56 ?_
  have f57 := f46.other W56 ne35
  have f58 := f47.wr W56
  have f59 := f48.wr W56
  have zs60 : n0 ≤ h56.size := Nat.le_trans zs49 (Keep.of_wr W56).1
  have kp61 : Keep h0 h56 [] := kp50.wr W56 (Or.inr sz37)
  have V56 : Arv Z h56 b34 k34 .int (2 : Int32) [(.int (x0 - (0 : Int32))), (.int (x1 - x0))] (.int (0 : Int32)) := Arv.set Ar56 q56 S56 M56 B56 G56 rfl W56 1 rfl (Nat.le_of_ble_eq_true rfl)
  have N56 := Fr.snoc X56 N45 ge36
  show own_G p e below (T56.setTop (mkF m 122 #[.val (.ref a1), .val (.ref b34), .val (.int x0), .val (.int (1 : Int32))] [])) _
  refine own_go (fun _ k => XS.aloadN X56.here hx rfl (hb hby d3_122) rfl rfl k) ?_
  show own_G p e below (T56.setTop (mkF m 123 #[.val (.ref a1), .val (.ref b34), .val (.int x0), .val (.int (1 : Int32))] [(.ref a1)])) _
  refine own_go (fun _ k => XS.iloadN X56.here hx rfl (hb hby d3_123) rfl k) ?_
  show own_G p e below (T56.setTop (mkF m 124 #[.val (.ref a1), .val (.ref b34), .val (.int x0), .val (.int (1 : Int32))] [(.int (1 : Int32)), (.ref a1)])) _
  obtain ⟨cl62, Ar62, q62, S62, M62, B62, G62⟩ := id f57
  have hin62 : ¬ ((1 : Int32) < 0 ∨ cl62.slots.size ≤ ((1 : Int32)).toNatClampNeg) := inb_of S62 ⟨by decide, by decide⟩
  have hat62 : cl62.slots[((1 : Int32)).toNatClampNeg]? = some (.int x1) := B62.at hin62 rfl
  refine own_go (X56.iaload hx (j := (1 : Int32)) (v := (.int x1)) (by rw [e56]; exact Ar62.1) (State.isArrayOf_alike hZ.alike Ar62.2.1) Ar62.2.2 hin62 hat62 (g := (mkF m 124 #[.val (.ref a1), .val (.ref b34), .val (.int x0), .val (.int (1 : Int32))] [(.int (1 : Int32)), (.ref a1)])) rfl rfl (hb hby d3_124)) ?_
  show own_G p e below (T56.setTop (mkF m 125 #[.val (.ref a1), .val (.ref b34), .val (.int x0), .val (.int (1 : Int32))] [(.int x1)])) _
  refine own_go (fun _ k => XS.istoreN X56.here hx rfl (hb hby d3_125) rfl (l' := #[.val (.ref a1), .val (.ref b34), .val (.int x1), .val (.int (1 : Int32))]) rfl k) ?_
  show own_G p e below (T56.setTop (mkF m 126 #[.val (.ref a1), .val (.ref b34), .val (.int x1), .val (.int (1 : Int32))] [])) _
  refine own_go (fun _ k => XS.iinc X56.here hx rfl (hb hby d3_126) rfl (l' := #[.val (.ref a1), .val (.ref b34), .val (.int x1), .val (.int (2 : Int32))]) rfl k) ?_
  show own_G p e below (T56.setTop (mkF m 129 #[.val (.ref a1), .val (.ref b34), .val (.int x1), .val (.int (2 : Int32))] [])) _
  refine own_go (fun _ k => XS.goto X56.here hx rfl (pc0 := 129) (pc' := 9) rfl (hb hby d3_129) (by decide) (by decide) k) ?_
  show own_G p e below (T56.setTop (mkF m 9 #[.val (.ref a1), .val (.ref b34), .val (.int x1), .val (.int (2 : Int32))] [])) _
  refine own_go (fun _ k => XS.iloadN X56.here hx rfl (hb hby d3_9) rfl k) ?_
  show own_G p e below (T56.setTop (mkF m 10 #[.val (.ref a1), .val (.ref b34), .val (.int x1), .val (.int (2 : Int32))] [(.int (2 : Int32))])) _
  refine own_go (fun _ k => XS.aloadN X56.here hx rfl (hb hby d3_10) rfl rfl k) ?_
  show own_G p e below (T56.setTop (mkF m 11 #[.val (.ref a1), .val (.ref b34), .val (.int x1), .val (.int (2 : Int32))] [(.ref a1), (.int (2 : Int32))])) _
  obtain ⟨cl63, Ar63, q63, S63, M63, B63, G63⟩ := id f57
  refine own_go (X56.arraylength hx (by rw [e56]; exact Ar63.1) (State.isArrayOf_alike hZ.alike Ar63.2.1) (g := (mkF m 11 #[.val (.ref a1), .val (.ref b34), .val (.int x1), .val (.int (2 : Int32))] [(.ref a1), (.int (2 : Int32))])) rfl rfl (hb hby d3_11)) ?_
  rw [len_of S63 M63]
  show own_G p e below (T56.setTop (mkF m 12 #[.val (.ref a1), .val (.ref b34), .val (.int x1), .val (.int (2 : Int32))] [(.int (2 : Int32)), (.int (2 : Int32))])) _
  refine own_go (fun _ k => XS.icmpYes X56.here hx rfl (pc0 := 12) (pc' := 132) rfl (hb hby d3_12) rfl (flt (by decide : ¬ ((2 : Int32) < (2 : Int32)))).2.1 (by decide) (by decide) k) ?_
  show own_G p e below (T56.setTop (mkF m 132 #[.val (.ref a1), .val (.ref b34), .val (.int x1), .val (.int (2 : Int32))] [])) _
  refine own_go (fun _ k => XS.aloadN X56.here hx rfl (hb hby d3_132) rfl rfl k) ?_
  show own_G p e below (T56.setTop (mkF m 133 #[.val (.ref a1), .val (.ref b34), .val (.int x1), .val (.int (2 : Int32))] [(.ref b34)])) _
  refine own_ret X56 hlk (v := some (.ref b34)) (fun h => by rw [hret] at h; cases h) (Q3_2 Z a1 k1 x0 x1 h0 n0) (own_retI X56 hx (t := (.array .int)) hret rfl (Or.inr (Or.inr (Or.inr (Or.inr ⟨rfl, rfl, rfl⟩)))) (hb hby d3_133)) (by decide) (by decide) ?_
  show Q3_2 Z a1 k1 x0 x1 h0 n0 _ T56.heap _
  rw [e56]
  exact ⟨b34, k34, rfl, N56, kp61, V56⟩
def Q3_3 (Z : State) (a1 : Addr) (k1 : ClassId) (x0 x1 x2 : Int32) (h0 : Heap) (n0 : Nat) (v : Option Value) (h : Heap) (L : List Loc) : Prop := ∃ (b : Addr) (k : ClassId), v = some (.ref b) ∧ Fr n0 L ∧ Keep h0 h [] ∧ Arv Z h b k .int (3 : Int32) [(.int (x0 - (0 : Int32))), (.int (x1 - x0)), (.int (x2 - x1))] (.int (0 : Int32))
set_option maxRecDepth 65536 in
set_option maxHeartbeats 40000000 in
theorem rm3_3 (l : Launch) (Z : State) (a0 : Array Value) (hw : ∀ d ∈ tables_1, d.before a0 Z = true) (ws : List Jvm.Cond) (a1 : Addr) (k1 : ClassId) (x0 x1 x2 : Int32) (h0 : Heap) (n0 : Nat) (Z0 : n0 ≤ h0.size) (V_a1 : Arv Z h0 a1 k1 .int (3 : Int32) [(.int x0), (.int x1), (.int x2)] (.int (0 : Int32))) (E_a1 : Exa Z h0 a1 "[I") (hn0 : ¬ x0 < (0 : Int32)) (hn1 : ¬ x1 < (0 : Int32)) (hn2 : ¬ x2 < (0 : Int32)) (hl1 : x0 < x1) (hl2 : x1 < x2) :
    MetFree l (⟨"com/example/bitfold/bitfold/IdLists", "gaps", "([I)[I"⟩ : MethodName) (head1 (Jvm.Cond.code (⟨"com/example/bitfold/bitfold/IdLists", "gaps", "([I)[I"⟩ : MethodName) prog_7_method_5_code 4 (some (.array .int)) :: ws) ({ frames := 0, cells := 1, slots := 3, locals := 0 } : Room)) (fun a U => a = #[(.ref a1)] ∧ Z.Warmed39 U.vm ∧ U.heap = h0) (fun _ _ _ _ _ => True) (fun _ U o U' => ∃ v L, o = .returned v ∧ Q3_3 Z a1 k1 x0 x1 x2 h0 n0 v U'.heap L ∧ FrameEnd U o U' L ({ frames := 0, cells := 1, slots := 3, locals := 0 } : Room).cells ({ frames := 0, cells := 1, slots := 3, locals := 0 } : Room).slots) := by
  refine MetFree.of_bodySF (plainFor_of_name pn_3) hisR ?_
  intro p e s m args below meth c s₁ Bd hml0 hP hK
  obtain ⟨rfl, hZ, hh⟩ := hP
  have hx := Bd.exec
  have hby := Bd.bytes
  have hml : c.maxLocals = 4 := hml0
  have hown : s.vm.findClass "com/example/bitfold/bitfold/IdLists" = some m.cls := findClass_of_methodNamed Bd.named
  have hnm := (name_of_methodNamed Bd.named Bd.method).1
  have hlk := Bd.notSynchronized
  have hret := Bd.returns
  have X0 : Stand p l e ({ frames := 0, cells := 1, slots := 3, locals := 0 } : Room) s m #[(.ref a1)] below meth c s₁ [] 0 0 := Stand.of_body Bd
  have e0 : s₁.heap = h0 := by rw [← hh, Bd.state]; rfl
  have N0 := Fr.nil n0
  show own_G p e below (s₁.setTop (entryFrame m #[(.ref a1)] 4)) (fun s₂ o => ∃ v L, o = .returned v ∧ Q3_3 Z a1 k1 x0 x1 x2 h0 n0 v s₂.heap L ∧ FrameEnd s o s₂ L ({ frames := 0, cells := 1, slots := 3, locals := 0 } : Room).cells ({ frames := 0, cells := 1, slots := 3, locals := 0 } : Room).slots)
  refine own_go (fun t k => castTop (ef_3 m a1) k) ?_
  show own_G p e below (s₁.setTop (mkF m 0 #[.val (.ref a1), .unset, .unset, .unset] [])) _
  refine own_go (fun _ k => XS.aloadN X0.here hx rfl (hb hby d3_0) rfl rfl k) ?_
  show own_G p e below (s₁.setTop (mkF m 1 #[.val (.ref a1), .unset, .unset, .unset] [(.ref a1)])) _
  obtain ⟨cl64, Ar64, q64, S64, M64, B64, G64⟩ := id V_a1
  refine own_go (X0.arraylength hx (by rw [e0]; exact Ar64.1) (State.isArrayOf_alike hZ.alike Ar64.2.1) (g := (mkF m 1 #[.val (.ref a1), .unset, .unset, .unset] [(.ref a1)])) rfl rfl (hb hby d3_1)) ?_
  rw [len_of S64 M64]
  show own_G p e below (s₁.setTop (mkF m 2 #[.val (.ref a1), .unset, .unset, .unset] [(.int (3 : Int32))])) _
  obtain ⟨T65, h65, k65, X65, e65, E65, A65, Y65, st65⟩ := newPE X0 hx hZ (hw _ (List.mem_of_getElem? (i := 8) rfl)) e0 (g := (mkF m 2 #[.val (.ref a1), .unset, .unset, .unset] [(.int (3 : Int32))])) rfl (hb hby d3_2) rfl (by decide) (cap := 3) (by decide) (by decide) (by decide) (by decide) (ad := "[I") (by decide)
  obtain ⟨b65, g65⟩ : ∃ z, z = h0.size := ⟨_, rfl⟩
  rw [← g65] at A65 Y65 st65
  refine own_go st65 ?_
  have ne66 : a1 ≠ b65 := Nat.ne_of_lt (Nat.lt_of_lt_of_le V_a1.lt (Nat.le_of_eq g65.symm))
  have ge67 : n0 ≤ b65 := Nat.le_trans Z0 (Nat.le_of_eq g65.symm)
  have sz68 : h0.size ≤ b65 := Nat.le_trans (Keep.refl h0 []).1 (Nat.le_of_eq g65.symm)
  have f69 := V_a1.ext E65
  have f70 := E_a1.ext E65
  have zs71 : n0 ≤ h65.size := Nat.le_trans Z0 E65.1
  have kp72 : Keep h0 h65 [] := (Keep.refl h0 []).ext E65
  have V65 : Arv Z h65 b65 k65 .int (3 : Int32) [(.int (0 : Int32)), (.int (0 : Int32)), (.int (0 : Int32))] (.int (0 : Int32)) := (Arv.new A65 (by decide)).pad (pad_rep [] (.int (0 : Int32)) 3)
  show own_G p e below (T65.setTop (mkF m 4 #[.val (.ref a1), .unset, .unset, .unset] [(.ref b65)])) _
  refine own_go (fun _ k => XS.astoreN X65.here hx rfl (hb hby d3_4) rfl rfl (l' := #[.val (.ref a1), .val (.ref b65), .unset, .unset]) rfl k) ?_
  show own_G p e below (T65.setTop (mkF m 5 #[.val (.ref a1), .val (.ref b65), .unset, .unset] [])) _
  refine own_go (fun _ k => XS.iconst X65.here hx rfl (hb hby d3_5) k) ?_
  show own_G p e below (T65.setTop (mkF m 6 #[.val (.ref a1), .val (.ref b65), .unset, .unset] [(.int (0 : Int32))])) _
  refine own_go (fun _ k => XS.istoreN X65.here hx rfl (hb hby d3_6) rfl (l' := #[.val (.ref a1), .val (.ref b65), .val (.int (0 : Int32)), .unset]) rfl k) ?_
  show own_G p e below (T65.setTop (mkF m 7 #[.val (.ref a1), .val (.ref b65), .val (.int (0 : Int32)), .unset] [])) _
  refine own_go (fun _ k => XS.iconst X65.here hx rfl (hb hby d3_7) k) ?_
  show own_G p e below (T65.setTop (mkF m 8 #[.val (.ref a1), .val (.ref b65), .val (.int (0 : Int32)), .unset] [(.int (0 : Int32))])) _
  refine own_go (fun _ k => XS.istoreN X65.here hx rfl (hb hby d3_8) rfl (l' := #[.val (.ref a1), .val (.ref b65), .val (.int (0 : Int32)), .val (.int (0 : Int32))]) rfl k) ?_
  show own_G p e below (T65.setTop (mkF m 9 #[.val (.ref a1), .val (.ref b65), .val (.int (0 : Int32)), .val (.int (0 : Int32))] [])) _
  refine own_go (fun _ k => XS.iloadN X65.here hx rfl (hb hby d3_9) rfl k) ?_
  show own_G p e below (T65.setTop (mkF m 10 #[.val (.ref a1), .val (.ref b65), .val (.int (0 : Int32)), .val (.int (0 : Int32))] [(.int (0 : Int32))])) _
  refine own_go (fun _ k => XS.aloadN X65.here hx rfl (hb hby d3_10) rfl rfl k) ?_
  show own_G p e below (T65.setTop (mkF m 11 #[.val (.ref a1), .val (.ref b65), .val (.int (0 : Int32)), .val (.int (0 : Int32))] [(.ref a1), (.int (0 : Int32))])) _
  obtain ⟨cl73, Ar73, q73, S73, M73, B73, G73⟩ := id f69
  refine own_go (X65.arraylength hx (by rw [e65]; exact Ar73.1) (State.isArrayOf_alike hZ.alike Ar73.2.1) (g := (mkF m 11 #[.val (.ref a1), .val (.ref b65), .val (.int (0 : Int32)), .val (.int (0 : Int32))] [(.ref a1), (.int (0 : Int32))])) rfl rfl (hb hby d3_11)) ?_
  rw [len_of S73 M73]
  show own_G p e below (T65.setTop (mkF m 12 #[.val (.ref a1), .val (.ref b65), .val (.int (0 : Int32)), .val (.int (0 : Int32))] [(.int (3 : Int32)), (.int (0 : Int32))])) _
  refine own_go (fun _ k => XS.icmpNo X65.here hx rfl (hb hby d3_12) rfl (tlt (by decide : (0 : Int32) < (3 : Int32))).2.1 k) ?_
  show own_G p e below (T65.setTop (mkF m 15 #[.val (.ref a1), .val (.ref b65), .val (.int (0 : Int32)), .val (.int (0 : Int32))] [])) _
  refine own_go (fun _ k => XS.aloadN X65.here hx rfl (hb hby d3_15) rfl rfl k) ?_
  show own_G p e below (T65.setTop (mkF m 16 #[.val (.ref a1), .val (.ref b65), .val (.int (0 : Int32)), .val (.int (0 : Int32))] [(.ref a1)])) _
  refine own_go (fun _ k => XS.iloadN X65.here hx rfl (hb hby d3_16) rfl k) ?_
  show own_G p e below (T65.setTop (mkF m 17 #[.val (.ref a1), .val (.ref b65), .val (.int (0 : Int32)), .val (.int (0 : Int32))] [(.int (0 : Int32)), (.ref a1)])) _
  obtain ⟨cl74, Ar74, q74, S74, M74, B74, G74⟩ := id f69
  have hin74 : ¬ ((0 : Int32) < 0 ∨ cl74.slots.size ≤ ((0 : Int32)).toNatClampNeg) := inb_of S74 ⟨by decide, by decide⟩
  have hat74 : cl74.slots[((0 : Int32)).toNatClampNeg]? = some (.int x0) := B74.at hin74 rfl
  refine own_go (X65.iaload hx (j := (0 : Int32)) (v := (.int x0)) (by rw [e65]; exact Ar74.1) (State.isArrayOf_alike hZ.alike Ar74.2.1) Ar74.2.2 hin74 hat74 (g := (mkF m 17 #[.val (.ref a1), .val (.ref b65), .val (.int (0 : Int32)), .val (.int (0 : Int32))] [(.int (0 : Int32)), (.ref a1)])) rfl rfl (hb hby d3_17)) ?_
  show own_G p e below (T65.setTop (mkF m 18 #[.val (.ref a1), .val (.ref b65), .val (.int (0 : Int32)), .val (.int (0 : Int32))] [(.int x0)])) _
  refine own_go (fun _ k => XS.ifYes X65.here hx rfl (pc0 := 18) (pc' := 54) rfl (hb hby d3_18) rfl ((if0 _ _).trans (flt hn0).2.1) (by decide) (by decide) k) ?_
  show own_G p e below (T65.setTop (mkF m 54 #[.val (.ref a1), .val (.ref b65), .val (.int (0 : Int32)), .val (.int (0 : Int32))] [])) _
  refine own_go (fun _ k => XS.iloadN X65.here hx rfl (hb hby d3_54) rfl k) ?_
  show own_G p e below (T65.setTop (mkF m 55 #[.val (.ref a1), .val (.ref b65), .val (.int (0 : Int32)), .val (.int (0 : Int32))] [(.int (0 : Int32))])) _
  refine own_go (fun _ k => XS.ifYes X65.here hx rfl (pc0 := 55) (pc' := 114) rfl (hb hby d3_55) rfl ((if0 _ _).trans (flt (by decide : ¬ ((0 : Int32) < (0 : Int32)))).2.2.2) (by decide) (by decide) k) ?_
  show own_G p e below (T65.setTop (mkF m 114 #[.val (.ref a1), .val (.ref b65), .val (.int (0 : Int32)), .val (.int (0 : Int32))] [])) _
  refine own_go (fun _ k => XS.aloadN X65.here hx rfl (hb hby d3_114) rfl rfl k) ?_
  show own_G p e below (T65.setTop (mkF m 115 #[.val (.ref a1), .val (.ref b65), .val (.int (0 : Int32)), .val (.int (0 : Int32))] [(.ref b65)])) _
  refine own_go (fun _ k => XS.iloadN X65.here hx rfl (hb hby d3_115) rfl k) ?_
  show own_G p e below (T65.setTop (mkF m 116 #[.val (.ref a1), .val (.ref b65), .val (.int (0 : Int32)), .val (.int (0 : Int32))] [(.int (0 : Int32)), (.ref b65)])) _
  refine own_go (fun _ k => XS.aloadN X65.here hx rfl (hb hby d3_116) rfl rfl k) ?_
  show own_G p e below (T65.setTop (mkF m 117 #[.val (.ref a1), .val (.ref b65), .val (.int (0 : Int32)), .val (.int (0 : Int32))] [(.ref a1), (.int (0 : Int32)), (.ref b65)])) _
  refine own_go (fun _ k => XS.iloadN X65.here hx rfl (hb hby d3_117) rfl k) ?_
  show own_G p e below (T65.setTop (mkF m 118 #[.val (.ref a1), .val (.ref b65), .val (.int (0 : Int32)), .val (.int (0 : Int32))] [(.int (0 : Int32)), (.ref a1), (.int (0 : Int32)), (.ref b65)])) _
  obtain ⟨cl75, Ar75, q75, S75, M75, B75, G75⟩ := id f69
  have hin75 : ¬ ((0 : Int32) < 0 ∨ cl75.slots.size ≤ ((0 : Int32)).toNatClampNeg) := inb_of S75 ⟨by decide, by decide⟩
  have hat75 : cl75.slots[((0 : Int32)).toNatClampNeg]? = some (.int x0) := B75.at hin75 rfl
  refine own_go (X65.iaload hx (j := (0 : Int32)) (v := (.int x0)) (by rw [e65]; exact Ar75.1) (State.isArrayOf_alike hZ.alike Ar75.2.1) Ar75.2.2 hin75 hat75 (g := (mkF m 118 #[.val (.ref a1), .val (.ref b65), .val (.int (0 : Int32)), .val (.int (0 : Int32))] [(.int (0 : Int32)), (.ref a1), (.int (0 : Int32)), (.ref b65)])) rfl rfl (hb hby d3_118)) ?_
  show own_G p e below (T65.setTop (mkF m 119 #[.val (.ref a1), .val (.ref b65), .val (.int (0 : Int32)), .val (.int (0 : Int32))] [(.int x0), (.int (0 : Int32)), (.ref b65)])) _
  refine own_go (fun _ k => XS.iloadN X65.here hx rfl (hb hby d3_119) rfl k) ?_
  show own_G p e below (T65.setTop (mkF m 120 #[.val (.ref a1), .val (.ref b65), .val (.int (0 : Int32)), .val (.int (0 : Int32))] [(.int (0 : Int32)), (.int x0), (.int (0 : Int32)), (.ref b65)])) _
  refine own_go (fun _ k => XS.isub X65.here hx rfl (hb hby d3_120) rfl k) ?_
  show own_G p e below (T65.setTop (mkF m 121 #[.val (.ref a1), .val (.ref b65), .val (.int (0 : Int32)), .val (.int (0 : Int32))] [(.int (x0 - (0 : Int32))), (.int (0 : Int32)), (.ref b65)])) _
  obtain ⟨cl76, Ar76, q76, S76, M76, B76, G76⟩ := id V65
  have hin76 : ¬ ((0 : Int32) < 0 ∨ cl76.slots.size ≤ ((0 : Int32)).toNatClampNeg) := inb_of S76 ⟨by decide, by decide⟩
  obtain ⟨T76, h76, X76, e76, W76, st76⟩ := stI X65 hx hZ e65 Ar76 (j := (0 : Int32)) hin76 (g := (mkF m 121 #[.val (.ref a1), .val (.ref b65), .val (.int (0 : Int32)), .val (.int (0 : Int32))] [(.int (x0 - (0 : Int32))), (.int (0 : Int32)), (.ref b65)])) rfl rfl (hb hby d3_121)
  refine own_go st76 ?_
  have f77 := f69.other W76 ne66
  have f78 := f70.wr W76
  have f79 := Y65.wr W76
  have zs80 : n0 ≤ h76.size := Nat.le_trans zs71 (Keep.of_wr W76).1
  have kp81 : Keep h0 h76 [] := kp72.wr W76 (Or.inr sz68)
  have V76 : Arv Z h76 b65 k65 .int (3 : Int32) [(.int (x0 - (0 : Int32))), (.int (0 : Int32)), (.int (0 : Int32))] (.int (0 : Int32)) := Arv.set Ar76 q76 S76 M76 B76 G76 rfl W76 0 rfl (Nat.le_of_ble_eq_true rfl)
  have N76 := Fr.snoc X76 N0 ge67
  show own_G p e below (T76.setTop (mkF m 122 #[.val (.ref a1), .val (.ref b65), .val (.int (0 : Int32)), .val (.int (0 : Int32))] [])) _
  refine own_go (fun _ k => XS.aloadN X76.here hx rfl (hb hby d3_122) rfl rfl k) ?_
  show own_G p e below (T76.setTop (mkF m 123 #[.val (.ref a1), .val (.ref b65), .val (.int (0 : Int32)), .val (.int (0 : Int32))] [(.ref a1)])) _
  refine own_go (fun _ k => XS.iloadN X76.here hx rfl (hb hby d3_123) rfl k) ?_
  show own_G p e below (T76.setTop (mkF m 124 #[.val (.ref a1), .val (.ref b65), .val (.int (0 : Int32)), .val (.int (0 : Int32))] [(.int (0 : Int32)), (.ref a1)])) _
  obtain ⟨cl82, Ar82, q82, S82, M82, B82, G82⟩ := id f77
  have hin82 : ¬ ((0 : Int32) < 0 ∨ cl82.slots.size ≤ ((0 : Int32)).toNatClampNeg) := inb_of S82 ⟨by decide, by decide⟩
  have hat82 : cl82.slots[((0 : Int32)).toNatClampNeg]? = some (.int x0) := B82.at hin82 rfl
  refine own_go (X76.iaload hx (j := (0 : Int32)) (v := (.int x0)) (by rw [e76]; exact Ar82.1) (State.isArrayOf_alike hZ.alike Ar82.2.1) Ar82.2.2 hin82 hat82 (g := (mkF m 124 #[.val (.ref a1), .val (.ref b65), .val (.int (0 : Int32)), .val (.int (0 : Int32))] [(.int (0 : Int32)), (.ref a1)])) rfl rfl (hb hby d3_124)) ?_
  show own_G p e below (T76.setTop (mkF m 125 #[.val (.ref a1), .val (.ref b65), .val (.int (0 : Int32)), .val (.int (0 : Int32))] [(.int x0)])) _
  refine own_go (fun _ k => XS.istoreN X76.here hx rfl (hb hby d3_125) rfl (l' := #[.val (.ref a1), .val (.ref b65), .val (.int x0), .val (.int (0 : Int32))]) rfl k) ?_
  show own_G p e below (T76.setTop (mkF m 126 #[.val (.ref a1), .val (.ref b65), .val (.int x0), .val (.int (0 : Int32))] [])) _
  refine own_go (fun _ k => XS.iinc X76.here hx rfl (hb hby d3_126) rfl (l' := #[.val (.ref a1), .val (.ref b65), .val (.int x0), .val (.int (1 : Int32))]) rfl k) ?_
  show own_G p e below (T76.setTop (mkF m 129 #[.val (.ref a1), .val (.ref b65), .val (.int x0), .val (.int (1 : Int32))] [])) _
  refine own_go (fun _ k => XS.goto X76.here hx rfl (pc0 := 129) (pc' := 9) rfl (hb hby d3_129) (by decide) (by decide) k) ?_
  show own_G p e below (T76.setTop (mkF m 9 #[.val (.ref a1), .val (.ref b65), .val (.int x0), .val (.int (1 : Int32))] [])) _
  refine own_go (fun _ k => XS.iloadN X76.here hx rfl (hb hby d3_9) rfl k) ?_
  show own_G p e below (T76.setTop (mkF m 10 #[.val (.ref a1), .val (.ref b65), .val (.int x0), .val (.int (1 : Int32))] [(.int (1 : Int32))])) _
  refine own_go (fun _ k => XS.aloadN X76.here hx rfl (hb hby d3_10) rfl rfl k) ?_
  show own_G p e below (T76.setTop (mkF m 11 #[.val (.ref a1), .val (.ref b65), .val (.int x0), .val (.int (1 : Int32))] [(.ref a1), (.int (1 : Int32))])) _
  obtain ⟨cl83, Ar83, q83, S83, M83, B83, G83⟩ := id f77
  refine own_go (X76.arraylength hx (by rw [e76]; exact Ar83.1) (State.isArrayOf_alike hZ.alike Ar83.2.1) (g := (mkF m 11 #[.val (.ref a1), .val (.ref b65), .val (.int x0), .val (.int (1 : Int32))] [(.ref a1), (.int (1 : Int32))])) rfl rfl (hb hby d3_11)) ?_
  rw [len_of S83 M83]
  show own_G p e below (T76.setTop (mkF m 12 #[.val (.ref a1), .val (.ref b65), .val (.int x0), .val (.int (1 : Int32))] [(.int (3 : Int32)), (.int (1 : Int32))])) _
  refine own_go (fun _ k => XS.icmpNo X76.here hx rfl (hb hby d3_12) rfl (tlt (by decide : (1 : Int32) < (3 : Int32))).2.1 k) ?_
  show own_G p e below (T76.setTop (mkF m 15 #[.val (.ref a1), .val (.ref b65), .val (.int x0), .val (.int (1 : Int32))] [])) _
  refine own_go (fun _ k => XS.aloadN X76.here hx rfl (hb hby d3_15) rfl rfl k) ?_
  show own_G p e below (T76.setTop (mkF m 16 #[.val (.ref a1), .val (.ref b65), .val (.int x0), .val (.int (1 : Int32))] [(.ref a1)])) _
  refine own_go (fun _ k => XS.iloadN X76.here hx rfl (hb hby d3_16) rfl k) ?_
  show own_G p e below (T76.setTop (mkF m 17 #[.val (.ref a1), .val (.ref b65), .val (.int x0), .val (.int (1 : Int32))] [(.int (1 : Int32)), (.ref a1)])) _
  obtain ⟨cl84, Ar84, q84, S84, M84, B84, G84⟩ := id f77
  have hin84 : ¬ ((1 : Int32) < 0 ∨ cl84.slots.size ≤ ((1 : Int32)).toNatClampNeg) := inb_of S84 ⟨by decide, by decide⟩
  have hat84 : cl84.slots[((1 : Int32)).toNatClampNeg]? = some (.int x1) := B84.at hin84 rfl
  refine own_go (X76.iaload hx (j := (1 : Int32)) (v := (.int x1)) (by rw [e76]; exact Ar84.1) (State.isArrayOf_alike hZ.alike Ar84.2.1) Ar84.2.2 hin84 hat84 (g := (mkF m 17 #[.val (.ref a1), .val (.ref b65), .val (.int x0), .val (.int (1 : Int32))] [(.int (1 : Int32)), (.ref a1)])) rfl rfl (hb hby d3_17)) ?_
  show own_G p e below (T76.setTop (mkF m 18 #[.val (.ref a1), .val (.ref b65), .val (.int x0), .val (.int (1 : Int32))] [(.int x1)])) _
  refine own_go (fun _ k => XS.ifYes X76.here hx rfl (pc0 := 18) (pc' := 54) rfl (hb hby d3_18) rfl ((if0 _ _).trans (flt hn1).2.1) (by decide) (by decide) k) ?_
  show own_G p e below (T76.setTop (mkF m 54 #[.val (.ref a1), .val (.ref b65), .val (.int x0), .val (.int (1 : Int32))] [])) _
  refine own_go (fun _ k => XS.iloadN X76.here hx rfl (hb hby d3_54) rfl k) ?_
  show own_G p e below (T76.setTop (mkF m 55 #[.val (.ref a1), .val (.ref b65), .val (.int x0), .val (.int (1 : Int32))] [(.int (1 : Int32))])) _
  refine own_go (fun _ k => XS.ifNo X76.here hx rfl (hb hby d3_55) rfl ((if0 _ _).trans (tlt (by decide : (0 : Int32) < (1 : Int32))).2.2.2) k) ?_
  show own_G p e below (T76.setTop (mkF m 58 #[.val (.ref a1), .val (.ref b65), .val (.int x0), .val (.int (1 : Int32))] [])) _
  refine own_go (fun _ k => XS.aloadN X76.here hx rfl (hb hby d3_58) rfl rfl k) ?_
  show own_G p e below (T76.setTop (mkF m 59 #[.val (.ref a1), .val (.ref b65), .val (.int x0), .val (.int (1 : Int32))] [(.ref a1)])) _
  refine own_go (fun _ k => XS.iloadN X76.here hx rfl (hb hby d3_59) rfl k) ?_
  show own_G p e below (T76.setTop (mkF m 60 #[.val (.ref a1), .val (.ref b65), .val (.int x0), .val (.int (1 : Int32))] [(.int (1 : Int32)), (.ref a1)])) _
  obtain ⟨cl85, Ar85, q85, S85, M85, B85, G85⟩ := id f77
  have hin85 : ¬ ((1 : Int32) < 0 ∨ cl85.slots.size ≤ ((1 : Int32)).toNatClampNeg) := inb_of S85 ⟨by decide, by decide⟩
  have hat85 : cl85.slots[((1 : Int32)).toNatClampNeg]? = some (.int x1) := B85.at hin85 rfl
  refine own_go (X76.iaload hx (j := (1 : Int32)) (v := (.int x1)) (by rw [e76]; exact Ar85.1) (State.isArrayOf_alike hZ.alike Ar85.2.1) Ar85.2.2 hin85 hat85 (g := (mkF m 60 #[.val (.ref a1), .val (.ref b65), .val (.int x0), .val (.int (1 : Int32))] [(.int (1 : Int32)), (.ref a1)])) rfl rfl (hb hby d3_60)) ?_
  show own_G p e below (T76.setTop (mkF m 61 #[.val (.ref a1), .val (.ref b65), .val (.int x0), .val (.int (1 : Int32))] [(.int x1)])) _
  refine own_go (fun _ k => XS.iloadN X76.here hx rfl (hb hby d3_61) rfl k) ?_
  show own_G p e below (T76.setTop (mkF m 62 #[.val (.ref a1), .val (.ref b65), .val (.int x0), .val (.int (1 : Int32))] [(.int x0), (.int x1)])) _
  refine own_go (fun _ k => XS.icmpYes X76.here hx rfl (pc0 := 62) (pc' := 114) rfl (hb hby d3_62) rfl (tlt hl1).2.2.1 (by decide) (by decide) k) ?_
  show own_G p e below (T76.setTop (mkF m 114 #[.val (.ref a1), .val (.ref b65), .val (.int x0), .val (.int (1 : Int32))] [])) _
  refine own_go (fun _ k => XS.aloadN X76.here hx rfl (hb hby d3_114) rfl rfl k) ?_
  show own_G p e below (T76.setTop (mkF m 115 #[.val (.ref a1), .val (.ref b65), .val (.int x0), .val (.int (1 : Int32))] [(.ref b65)])) _
  refine own_go (fun _ k => XS.iloadN X76.here hx rfl (hb hby d3_115) rfl k) ?_
  show own_G p e below (T76.setTop (mkF m 116 #[.val (.ref a1), .val (.ref b65), .val (.int x0), .val (.int (1 : Int32))] [(.int (1 : Int32)), (.ref b65)])) _
  refine own_go (fun _ k => XS.aloadN X76.here hx rfl (hb hby d3_116) rfl rfl k) ?_
  show own_G p e below (T76.setTop (mkF m 117 #[.val (.ref a1), .val (.ref b65), .val (.int x0), .val (.int (1 : Int32))] [(.ref a1), (.int (1 : Int32)), (.ref b65)])) _
  refine own_go (fun _ k => XS.iloadN X76.here hx rfl (hb hby d3_117) rfl k) ?_
  show own_G p e below (T76.setTop (mkF m 118 #[.val (.ref a1), .val (.ref b65), .val (.int x0), .val (.int (1 : Int32))] [(.int (1 : Int32)), (.ref a1), (.int (1 : Int32)), (.ref b65)])) _
  obtain ⟨cl86, Ar86, q86, S86, M86, B86, G86⟩ := id f77
  have hin86 : ¬ ((1 : Int32) < 0 ∨ cl86.slots.size ≤ ((1 : Int32)).toNatClampNeg) := inb_of S86 ⟨by decide, by decide⟩
  have hat86 : cl86.slots[((1 : Int32)).toNatClampNeg]? = some (.int x1) := B86.at hin86 rfl
  refine own_go (X76.iaload hx (j := (1 : Int32)) (v := (.int x1)) (by rw [e76]; exact Ar86.1) (State.isArrayOf_alike hZ.alike Ar86.2.1) Ar86.2.2 hin86 hat86 (g := (mkF m 118 #[.val (.ref a1), .val (.ref b65), .val (.int x0), .val (.int (1 : Int32))] [(.int (1 : Int32)), (.ref a1), (.int (1 : Int32)), (.ref b65)])) rfl rfl (hb hby d3_118)) ?_
  show own_G p e below (T76.setTop (mkF m 119 #[.val (.ref a1), .val (.ref b65), .val (.int x0), .val (.int (1 : Int32))] [(.int x1), (.int (1 : Int32)), (.ref b65)])) _
  refine own_go (fun _ k => XS.iloadN X76.here hx rfl (hb hby d3_119) rfl k) ?_
  show own_G p e below (T76.setTop (mkF m 120 #[.val (.ref a1), .val (.ref b65), .val (.int x0), .val (.int (1 : Int32))] [(.int x0), (.int x1), (.int (1 : Int32)), (.ref b65)])) _
  refine own_go (fun _ k => XS.isub X76.here hx rfl (hb hby d3_120) rfl k) ?_
  show own_G p e below (T76.setTop (mkF m 121 #[.val (.ref a1), .val (.ref b65), .val (.int x0), .val (.int (1 : Int32))] [(.int (x1 - x0)), (.int (1 : Int32)), (.ref b65)])) _
  obtain ⟨cl87, Ar87, q87, S87, M87, B87, G87⟩ := id V76
  have hin87 : ¬ ((1 : Int32) < 0 ∨ cl87.slots.size ≤ ((1 : Int32)).toNatClampNeg) := inb_of S87 ⟨by decide, by decide⟩
  obtain ⟨T87, h87, X87, e87, W87, st87⟩ := stI X76 hx hZ e76 Ar87 (j := (1 : Int32)) hin87 (g := (mkF m 121 #[.val (.ref a1), .val (.ref b65), .val (.int x0), .val (.int (1 : Int32))] [(.int (x1 - x0)), (.int (1 : Int32)), (.ref b65)])) rfl rfl (hb hby d3_121)
  refine own_go st87 ?_
  have f88 := f77.other W87 ne66
  have f89 := f78.wr W87
  have f90 := f79.wr W87
  have zs91 : n0 ≤ h87.size := Nat.le_trans zs80 (Keep.of_wr W87).1
  have kp92 : Keep h0 h87 [] := kp81.wr W87 (Or.inr sz68)
  have V87 : Arv Z h87 b65 k65 .int (3 : Int32) [(.int (x0 - (0 : Int32))), (.int (x1 - x0)), (.int (0 : Int32))] (.int (0 : Int32)) := Arv.set Ar87 q87 S87 M87 B87 G87 rfl W87 1 rfl (Nat.le_of_ble_eq_true rfl)
  have N87 := Fr.snoc X87 N76 ge67
  show own_G p e below (T87.setTop (mkF m 122 #[.val (.ref a1), .val (.ref b65), .val (.int x0), .val (.int (1 : Int32))] [])) _
  refine own_go (fun _ k => XS.aloadN X87.here hx rfl (hb hby d3_122) rfl rfl k) ?_
  show own_G p e below (T87.setTop (mkF m 123 #[.val (.ref a1), .val (.ref b65), .val (.int x0), .val (.int (1 : Int32))] [(.ref a1)])) _
  refine own_go (fun _ k => XS.iloadN X87.here hx rfl (hb hby d3_123) rfl k) ?_
  show own_G p e below (T87.setTop (mkF m 124 #[.val (.ref a1), .val (.ref b65), .val (.int x0), .val (.int (1 : Int32))] [(.int (1 : Int32)), (.ref a1)])) _
  obtain ⟨cl93, Ar93, q93, S93, M93, B93, G93⟩ := id f88
  have hin93 : ¬ ((1 : Int32) < 0 ∨ cl93.slots.size ≤ ((1 : Int32)).toNatClampNeg) := inb_of S93 ⟨by decide, by decide⟩
  have hat93 : cl93.slots[((1 : Int32)).toNatClampNeg]? = some (.int x1) := B93.at hin93 rfl
  refine own_go (X87.iaload hx (j := (1 : Int32)) (v := (.int x1)) (by rw [e87]; exact Ar93.1) (State.isArrayOf_alike hZ.alike Ar93.2.1) Ar93.2.2 hin93 hat93 (g := (mkF m 124 #[.val (.ref a1), .val (.ref b65), .val (.int x0), .val (.int (1 : Int32))] [(.int (1 : Int32)), (.ref a1)])) rfl rfl (hb hby d3_124)) ?_
  show own_G p e below (T87.setTop (mkF m 125 #[.val (.ref a1), .val (.ref b65), .val (.int x0), .val (.int (1 : Int32))] [(.int x1)])) _
  refine own_go (fun _ k => XS.istoreN X87.here hx rfl (hb hby d3_125) rfl (l' := #[.val (.ref a1), .val (.ref b65), .val (.int x1), .val (.int (1 : Int32))]) rfl k) ?_
  show own_G p e below (T87.setTop (mkF m 126 #[.val (.ref a1), .val (.ref b65), .val (.int x1), .val (.int (1 : Int32))] [])) _
  refine own_go (fun _ k => XS.iinc X87.here hx rfl (hb hby d3_126) rfl (l' := #[.val (.ref a1), .val (.ref b65), .val (.int x1), .val (.int (2 : Int32))]) rfl k) ?_
  show own_G p e below (T87.setTop (mkF m 129 #[.val (.ref a1), .val (.ref b65), .val (.int x1), .val (.int (2 : Int32))] [])) _
  refine own_go (fun _ k => XS.goto X87.here hx rfl (pc0 := 129) (pc' := 9) rfl (hb hby d3_129) (by decide) (by decide) k) ?_
  show own_G p e below (T87.setTop (mkF m 9 #[.val (.ref a1), .val (.ref b65), .val (.int x1), .val (.int (2 : Int32))] [])) _
  refine own_go (fun _ k => XS.iloadN X87.here hx rfl (hb hby d3_9) rfl k) ?_
  show own_G p e below (T87.setTop (mkF m 10 #[.val (.ref a1), .val (.ref b65), .val (.int x1), .val (.int (2 : Int32))] [(.int (2 : Int32))])) _
  refine own_go (fun _ k => XS.aloadN X87.here hx rfl (hb hby d3_10) rfl rfl k) ?_
  show own_G p e below (T87.setTop (mkF m 11 #[.val (.ref a1), .val (.ref b65), .val (.int x1), .val (.int (2 : Int32))] [(.ref a1), (.int (2 : Int32))])) _
  obtain ⟨cl94, Ar94, q94, S94, M94, B94, G94⟩ := id f88
  refine own_go (X87.arraylength hx (by rw [e87]; exact Ar94.1) (State.isArrayOf_alike hZ.alike Ar94.2.1) (g := (mkF m 11 #[.val (.ref a1), .val (.ref b65), .val (.int x1), .val (.int (2 : Int32))] [(.ref a1), (.int (2 : Int32))])) rfl rfl (hb hby d3_11)) ?_
  rw [len_of S94 M94]
  show own_G p e below (T87.setTop (mkF m 12 #[.val (.ref a1), .val (.ref b65), .val (.int x1), .val (.int (2 : Int32))] [(.int (3 : Int32)), (.int (2 : Int32))])) _
  refine own_go (fun _ k => XS.icmpNo X87.here hx rfl (hb hby d3_12) rfl (tlt (by decide : (2 : Int32) < (3 : Int32))).2.1 k) ?_
  show own_G p e below (T87.setTop (mkF m 15 #[.val (.ref a1), .val (.ref b65), .val (.int x1), .val (.int (2 : Int32))] [])) _
  refine own_go (fun _ k => XS.aloadN X87.here hx rfl (hb hby d3_15) rfl rfl k) ?_
  show own_G p e below (T87.setTop (mkF m 16 #[.val (.ref a1), .val (.ref b65), .val (.int x1), .val (.int (2 : Int32))] [(.ref a1)])) _
  refine own_go (fun _ k => XS.iloadN X87.here hx rfl (hb hby d3_16) rfl k) ?_
  show own_G p e below (T87.setTop (mkF m 17 #[.val (.ref a1), .val (.ref b65), .val (.int x1), .val (.int (2 : Int32))] [(.int (2 : Int32)), (.ref a1)])) _
  obtain ⟨cl95, Ar95, q95, S95, M95, B95, G95⟩ := id f88
  have hin95 : ¬ ((2 : Int32) < 0 ∨ cl95.slots.size ≤ ((2 : Int32)).toNatClampNeg) := inb_of S95 ⟨by decide, by decide⟩
  have hat95 : cl95.slots[((2 : Int32)).toNatClampNeg]? = some (.int x2) := B95.at hin95 rfl
  refine own_go (X87.iaload hx (j := (2 : Int32)) (v := (.int x2)) (by rw [e87]; exact Ar95.1) (State.isArrayOf_alike hZ.alike Ar95.2.1) Ar95.2.2 hin95 hat95 (g := (mkF m 17 #[.val (.ref a1), .val (.ref b65), .val (.int x1), .val (.int (2 : Int32))] [(.int (2 : Int32)), (.ref a1)])) rfl rfl (hb hby d3_17)) ?_
  show own_G p e below (T87.setTop (mkF m 18 #[.val (.ref a1), .val (.ref b65), .val (.int x1), .val (.int (2 : Int32))] [(.int x2)])) _
  refine own_go (fun _ k => XS.ifYes X87.here hx rfl (pc0 := 18) (pc' := 54) rfl (hb hby d3_18) rfl ((if0 _ _).trans (flt hn2).2.1) (by decide) (by decide) k) ?_
  show own_G p e below (T87.setTop (mkF m 54 #[.val (.ref a1), .val (.ref b65), .val (.int x1), .val (.int (2 : Int32))] [])) _
  refine own_go (fun _ k => XS.iloadN X87.here hx rfl (hb hby d3_54) rfl k) ?_
  show own_G p e below (T87.setTop (mkF m 55 #[.val (.ref a1), .val (.ref b65), .val (.int x1), .val (.int (2 : Int32))] [(.int (2 : Int32))])) _
  refine own_go (fun _ k => XS.ifNo X87.here hx rfl (hb hby d3_55) rfl ((if0 _ _).trans (tlt (by decide : (0 : Int32) < (2 : Int32))).2.2.2) k) ?_
  show own_G p e below (T87.setTop (mkF m 58 #[.val (.ref a1), .val (.ref b65), .val (.int x1), .val (.int (2 : Int32))] [])) _
  refine own_go (fun _ k => XS.aloadN X87.here hx rfl (hb hby d3_58) rfl rfl k) ?_
  show own_G p e below (T87.setTop (mkF m 59 #[.val (.ref a1), .val (.ref b65), .val (.int x1), .val (.int (2 : Int32))] [(.ref a1)])) _
  refine own_go (fun _ k => XS.iloadN X87.here hx rfl (hb hby d3_59) rfl k) ?_
  show own_G p e below (T87.setTop (mkF m 60 #[.val (.ref a1), .val (.ref b65), .val (.int x1), .val (.int (2 : Int32))] [(.int (2 : Int32)), (.ref a1)])) _
  obtain ⟨cl96, Ar96, q96, S96, M96, B96, G96⟩ := id f88
  have hin96 : ¬ ((2 : Int32) < 0 ∨ cl96.slots.size ≤ ((2 : Int32)).toNatClampNeg) := inb_of S96 ⟨by decide, by decide⟩
  have hat96 : cl96.slots[((2 : Int32)).toNatClampNeg]? = some (.int x2) := B96.at hin96 rfl
  refine own_go (X87.iaload hx (j := (2 : Int32)) (v := (.int x2)) (by rw [e87]; exact Ar96.1) (State.isArrayOf_alike hZ.alike Ar96.2.1) Ar96.2.2 hin96 hat96 (g := (mkF m 60 #[.val (.ref a1), .val (.ref b65), .val (.int x1), .val (.int (2 : Int32))] [(.int (2 : Int32)), (.ref a1)])) rfl rfl (hb hby d3_60)) ?_
  show own_G p e below (T87.setTop (mkF m 61 #[.val (.ref a1), .val (.ref b65), .val (.int x1), .val (.int (2 : Int32))] [(.int x2)])) _
  refine own_go (fun _ k => XS.iloadN X87.here hx rfl (hb hby d3_61) rfl k) ?_
  show own_G p e below (T87.setTop (mkF m 62 #[.val (.ref a1), .val (.ref b65), .val (.int x1), .val (.int (2 : Int32))] [(.int x1), (.int x2)])) _
  refine own_go (fun _ k => XS.icmpYes X87.here hx rfl (pc0 := 62) (pc' := 114) rfl (hb hby d3_62) rfl (tlt hl2).2.2.1 (by decide) (by decide) k) ?_
  show own_G p e below (T87.setTop (mkF m 114 #[.val (.ref a1), .val (.ref b65), .val (.int x1), .val (.int (2 : Int32))] [])) _
  refine own_go (fun _ k => XS.aloadN X87.here hx rfl (hb hby d3_114) rfl rfl k) ?_
  show own_G p e below (T87.setTop (mkF m 115 #[.val (.ref a1), .val (.ref b65), .val (.int x1), .val (.int (2 : Int32))] [(.ref b65)])) _
  refine own_go (fun _ k => XS.iloadN X87.here hx rfl (hb hby d3_115) rfl k) ?_
  show own_G p e below (T87.setTop (mkF m 116 #[.val (.ref a1), .val (.ref b65), .val (.int x1), .val (.int (2 : Int32))] [(.int (2 : Int32)), (.ref b65)])) _
  refine own_go (fun _ k => XS.aloadN X87.here hx rfl (hb hby d3_116) rfl rfl k) ?_
  show own_G p e below (T87.setTop (mkF m 117 #[.val (.ref a1), .val (.ref b65), .val (.int x1), .val (.int (2 : Int32))] [(.ref a1), (.int (2 : Int32)), (.ref b65)])) _
  refine own_go (fun _ k => XS.iloadN X87.here hx rfl (hb hby d3_117) rfl k) ?_
  show own_G p e below (T87.setTop (mkF m 118 #[.val (.ref a1), .val (.ref b65), .val (.int x1), .val (.int (2 : Int32))] [(.int (2 : Int32)), (.ref a1), (.int (2 : Int32)), (.ref b65)])) _
  obtain ⟨cl97, Ar97, q97, S97, M97, B97, G97⟩ := id f88
  have hin97 : ¬ ((2 : Int32) < 0 ∨ cl97.slots.size ≤ ((2 : Int32)).toNatClampNeg) := inb_of S97 ⟨by decide, by decide⟩
  have hat97 : cl97.slots[((2 : Int32)).toNatClampNeg]? = some (.int x2) := B97.at hin97 rfl
  refine own_go (X87.iaload hx (j := (2 : Int32)) (v := (.int x2)) (by rw [e87]; exact Ar97.1) (State.isArrayOf_alike hZ.alike Ar97.2.1) Ar97.2.2 hin97 hat97 (g := (mkF m 118 #[.val (.ref a1), .val (.ref b65), .val (.int x1), .val (.int (2 : Int32))] [(.int (2 : Int32)), (.ref a1), (.int (2 : Int32)), (.ref b65)])) rfl rfl (hb hby d3_118)) ?_
  show own_G p e below (T87.setTop (mkF m 119 #[.val (.ref a1), .val (.ref b65), .val (.int x1), .val (.int (2 : Int32))] [(.int x2), (.int (2 : Int32)), (.ref b65)])) _
  refine own_go (fun _ k => XS.iloadN X87.here hx rfl (hb hby d3_119) rfl k) ?_
  show own_G p e below (T87.setTop (mkF m 120 #[.val (.ref a1), .val (.ref b65), .val (.int x1), .val (.int (2 : Int32))] [(.int x1), (.int x2), (.int (2 : Int32)), (.ref b65)])) _
  refine own_go (fun _ k => XS.isub X87.here hx rfl (hb hby d3_120) rfl k) ?_
  show own_G p e below (T87.setTop (mkF m 121 #[.val (.ref a1), .val (.ref b65), .val (.int x1), .val (.int (2 : Int32))] [(.int (x2 - x1)), (.int (2 : Int32)), (.ref b65)])) _
  obtain ⟨cl98, Ar98, q98, S98, M98, B98, G98⟩ := id V87
  have hin98 : ¬ ((2 : Int32) < 0 ∨ cl98.slots.size ≤ ((2 : Int32)).toNatClampNeg) := inb_of S98 ⟨by decide, by decide⟩
  obtain ⟨T98, h98, X98, e98, W98, st98⟩ := stI X87 hx hZ e87 Ar98 (j := (2 : Int32)) hin98 (g := (mkF m 121 #[.val (.ref a1), .val (.ref b65), .val (.int x1), .val (.int (2 : Int32))] [(.int (x2 - x1)), (.int (2 : Int32)), (.ref b65)])) rfl rfl (hb hby d3_121)
  refine own_go st98 ?_
  have f99 := f88.other W98 ne66
  have f100 := f89.wr W98
  have f101 := f90.wr W98
  have zs102 : n0 ≤ h98.size := Nat.le_trans zs91 (Keep.of_wr W98).1
  have kp103 : Keep h0 h98 [] := kp92.wr W98 (Or.inr sz68)
  have V98 : Arv Z h98 b65 k65 .int (3 : Int32) [(.int (x0 - (0 : Int32))), (.int (x1 - x0)), (.int (x2 - x1))] (.int (0 : Int32)) := Arv.set Ar98 q98 S98 M98 B98 G98 rfl W98 2 rfl (Nat.le_of_ble_eq_true rfl)
  have N98 := Fr.snoc X98 N87 ge67
  show own_G p e below (T98.setTop (mkF m 122 #[.val (.ref a1), .val (.ref b65), .val (.int x1), .val (.int (2 : Int32))] [])) _
  refine own_go (fun _ k => XS.aloadN X98.here hx rfl (hb hby d3_122) rfl rfl k) ?_
  show own_G p e below (T98.setTop (mkF m 123 #[.val (.ref a1), .val (.ref b65), .val (.int x1), .val (.int (2 : Int32))] [(.ref a1)])) _
  refine own_go (fun _ k => XS.iloadN X98.here hx rfl (hb hby d3_123) rfl k) ?_
  show own_G p e below (T98.setTop (mkF m 124 #[.val (.ref a1), .val (.ref b65), .val (.int x1), .val (.int (2 : Int32))] [(.int (2 : Int32)), (.ref a1)])) _
  obtain ⟨cl104, Ar104, q104, S104, M104, B104, G104⟩ := id f99
  have hin104 : ¬ ((2 : Int32) < 0 ∨ cl104.slots.size ≤ ((2 : Int32)).toNatClampNeg) := inb_of S104 ⟨by decide, by decide⟩
  have hat104 : cl104.slots[((2 : Int32)).toNatClampNeg]? = some (.int x2) := B104.at hin104 rfl
  refine own_go (X98.iaload hx (j := (2 : Int32)) (v := (.int x2)) (by rw [e98]; exact Ar104.1) (State.isArrayOf_alike hZ.alike Ar104.2.1) Ar104.2.2 hin104 hat104 (g := (mkF m 124 #[.val (.ref a1), .val (.ref b65), .val (.int x1), .val (.int (2 : Int32))] [(.int (2 : Int32)), (.ref a1)])) rfl rfl (hb hby d3_124)) ?_
  show own_G p e below (T98.setTop (mkF m 125 #[.val (.ref a1), .val (.ref b65), .val (.int x1), .val (.int (2 : Int32))] [(.int x2)])) _
  refine own_go (fun _ k => XS.istoreN X98.here hx rfl (hb hby d3_125) rfl (l' := #[.val (.ref a1), .val (.ref b65), .val (.int x2), .val (.int (2 : Int32))]) rfl k) ?_
  show own_G p e below (T98.setTop (mkF m 126 #[.val (.ref a1), .val (.ref b65), .val (.int x2), .val (.int (2 : Int32))] [])) _
  refine own_go (fun _ k => XS.iinc X98.here hx rfl (hb hby d3_126) rfl (l' := #[.val (.ref a1), .val (.ref b65), .val (.int x2), .val (.int (3 : Int32))]) rfl k) ?_
  show own_G p e below (T98.setTop (mkF m 129 #[.val (.ref a1), .val (.ref b65), .val (.int x2), .val (.int (3 : Int32))] [])) _
  refine own_go (fun _ k => XS.goto X98.here hx rfl (pc0 := 129) (pc' := 9) rfl (hb hby d3_129) (by decide) (by decide) k) ?_
  show own_G p e below (T98.setTop (mkF m 9 #[.val (.ref a1), .val (.ref b65), .val (.int x2), .val (.int (3 : Int32))] [])) _
  refine own_go (fun _ k => XS.iloadN X98.here hx rfl (hb hby d3_9) rfl k) ?_
  show own_G p e below (T98.setTop (mkF m 10 #[.val (.ref a1), .val (.ref b65), .val (.int x2), .val (.int (3 : Int32))] [(.int (3 : Int32))])) _
  refine own_go (fun _ k => XS.aloadN X98.here hx rfl (hb hby d3_10) rfl rfl k) ?_
  show own_G p e below (T98.setTop (mkF m 11 #[.val (.ref a1), .val (.ref b65), .val (.int x2), .val (.int (3 : Int32))] [(.ref a1), (.int (3 : Int32))])) _
  obtain ⟨cl105, Ar105, q105, S105, M105, B105, G105⟩ := id f99
  refine own_go (X98.arraylength hx (by rw [e98]; exact Ar105.1) (State.isArrayOf_alike hZ.alike Ar105.2.1) (g := (mkF m 11 #[.val (.ref a1), .val (.ref b65), .val (.int x2), .val (.int (3 : Int32))] [(.ref a1), (.int (3 : Int32))])) rfl rfl (hb hby d3_11)) ?_
  rw [len_of S105 M105]
  show own_G p e below (T98.setTop (mkF m 12 #[.val (.ref a1), .val (.ref b65), .val (.int x2), .val (.int (3 : Int32))] [(.int (3 : Int32)), (.int (3 : Int32))])) _
  refine own_go (fun _ k => XS.icmpYes X98.here hx rfl (pc0 := 12) (pc' := 132) rfl (hb hby d3_12) rfl (flt (by decide : ¬ ((3 : Int32) < (3 : Int32)))).2.1 (by decide) (by decide) k) ?_
  show own_G p e below (T98.setTop (mkF m 132 #[.val (.ref a1), .val (.ref b65), .val (.int x2), .val (.int (3 : Int32))] [])) _
  refine own_go (fun _ k => XS.aloadN X98.here hx rfl (hb hby d3_132) rfl rfl k) ?_
  show own_G p e below (T98.setTop (mkF m 133 #[.val (.ref a1), .val (.ref b65), .val (.int x2), .val (.int (3 : Int32))] [(.ref b65)])) _
  refine own_ret X98 hlk (v := some (.ref b65)) (fun h => by rw [hret] at h; cases h) (Q3_3 Z a1 k1 x0 x1 x2 h0 n0) (own_retI X98 hx (t := (.array .int)) hret rfl (Or.inr (Or.inr (Or.inr (Or.inr ⟨rfl, rfl, rfl⟩)))) (hb hby d3_133)) (by decide) (by decide) ?_
  show Q3_3 Z a1 k1 x0 x1 x2 h0 n0 _ T98.heap _
  rw [e98]
  exact ⟨b65, k65, rfl, N98, kp103, V98⟩
theorem ef_0 (m : MethodId) (p1 : Int32) (p2 : Int32) (p3 : Int32) (p4 : Int32) : entryFrame m #[(.int p1), (.int p2), (.int p3), (.int p4)] maxLocals = mkF m 0 #[.val (.int p1), .val (.int p2), .val (.int p3), .val (.int p4), .unset, .unset, .unset, .unset, .unset, .unset, .unset, .unset, .unset, .unset, .unset, .unset, .unset, .unset, .unset, .unset, .unset, .unset] [] := by first | (simp [entryFrame, mkF, argsToLocals, Value.category, maxLocals]; done) | rfl
def Q0 (Z : State) (p1 : Int32) (p2 : Int32) (p3 : Int32) (p4 : Int32) (h0 : Heap) (n0 : Nat) (v : Option Value) (h : Heap) (L : List Loc) : Prop := v = some (.int (1 : Int32)) ∧ Fr n0 L
set_option maxRecDepth 65536 in
set_option maxHeartbeats 40000000 in
theorem rm0 (l : Launch) (Z : State) (a0 : Array Value) (hw : ∀ d ∈ tables_1, d.before a0 Z = true) (ws : List Jvm.Cond) (p1 : Int32) (p2 : Int32) (p3 : Int32) (p4 : Int32) (h0 : Heap) (n0 : Nat) (Z0 : n0 ≤ h0.size)  :
    MetFree l x (head1 (Jvm.Cond.code x code maxLocals ret :: ws) room_1) (fun a U => a = #[(.int p1), (.int p2), (.int p3), (.int p4)] ∧ Z.Warmed39 U.vm ∧ U.heap = h0) (fun _ _ _ _ _ => True) (fun _ U o U' => ∃ v L, o = .returned v ∧ Q0 Z p1 p2 p3 p4 h0 n0 v U'.heap L ∧ FrameEnd U o U' L room_1.cells room_1.slots) := by
  refine MetFree.of_bodySF (plainFor_of_name pn_0) hisR ?_
  intro p e s m args below meth c s₁ Bd hml0 hP hK
  obtain ⟨rfl, hZ, hh⟩ := hP
  have hx := Bd.exec
  have hby := Bd.bytes
  have hml : c.maxLocals = 22 := hml0
  have hown : s.vm.findClass "com/example/bitfold/bitfold/IdListsGapsPinLaw" = some m.cls := findClass_of_methodNamed Bd.named
  have hnm := (name_of_methodNamed Bd.named Bd.method).1
  have hlk := Bd.notSynchronized
  have hret := Bd.returns
  have X0 : Stand p l e room_1 s m #[(.int p1), (.int p2), (.int p3), (.int p4)] below meth c s₁ [] 0 0 := Stand.of_body Bd
  have e0 : s₁.heap = h0 := by rw [← hh, Bd.state]; rfl
  have N0 := Fr.nil n0
  show own_G p e below (s₁.setTop (entryFrame m #[(.int p1), (.int p2), (.int p3), (.int p4)] maxLocals)) (fun s₂ o => ∃ v L, o = .returned v ∧ Q0 Z p1 p2 p3 p4 h0 n0 v s₂.heap L ∧ FrameEnd s o s₂ L room_1.cells room_1.slots)
  refine own_go (fun t k => castTop (ef_0 m p1 p2 p3 p4) k) ?_
  show own_G p e below (s₁.setTop (mkF m 0 #[.val (.int p1), .val (.int p2), .val (.int p3), .val (.int p4), .unset, .unset, .unset, .unset, .unset, .unset, .unset, .unset, .unset, .unset, .unset, .unset, .unset, .unset, .unset, .unset, .unset, .unset] [])) _
  refine own_go (fun _ k => XS.iloadN X0.here hx rfl (hb hby at_0) rfl k) ?_
  show own_G p e below (s₁.setTop (mkF m 1 #[.val (.int p1), .val (.int p2), .val (.int p3), .val (.int p4), .unset, .unset, .unset, .unset, .unset, .unset, .unset, .unset, .unset, .unset, .unset, .unset, .unset, .unset, .unset, .unset, .unset, .unset] [(.int p1)])) _
  refine own_go (X0.ldcInt hx hown (mvT hZ (hw _ (List.mem_of_getElem? (i := 0) rfl))) (g := (mkF m 1 #[.val (.int p1), .val (.int p2), .val (.int p3), .val (.int p4), .unset, .unset, .unset, .unset, .unset, .unset, .unset, .unset, .unset, .unset, .unset, .unset, .unset, .unset, .unset, .unset, .unset, .unset] [(.int p1)])) rfl (hb hby at_1)) ?_
  show own_G p e below (s₁.setTop (mkF m 3 #[.val (.int p1), .val (.int p2), .val (.int p3), .val (.int p4), .unset, .unset, .unset, .unset, .unset, .unset, .unset, .unset, .unset, .unset, .unset, .unset, .unset, .unset, .unset, .unset, .unset, .unset] [(.int (2147483647 : Int32)), (.int p1)])) _
  refine own_go (fun _ k => XS.iand X0.here hx rfl (hb hby at_3) rfl k) ?_
  show own_G p e below (s₁.setTop (mkF m 4 #[.val (.int p1), .val (.int p2), .val (.int p3), .val (.int p4), .unset, .unset, .unset, .unset, .unset, .unset, .unset, .unset, .unset, .unset, .unset, .unset, .unset, .unset, .unset, .unset, .unset, .unset] [(.int (p1 &&& (2147483647 : Int32)))])) _
  refine own_go (fun _ k => XS.i2l X0.here hx rfl (hb hby at_4) rfl k) ?_
  show own_G p e below (s₁.setTop (mkF m 5 #[.val (.int p1), .val (.int p2), .val (.int p3), .val (.int p4), .unset, .unset, .unset, .unset, .unset, .unset, .unset, .unset, .unset, .unset, .unset, .unset, .unset, .unset, .unset, .unset, .unset, .unset] [(.long ((p1 &&& (2147483647 : Int32)).toInt64))])) _
  generalize hu : ((p1 &&& (2147483647 : Int32)).toInt64) = uu
  show own_G p e below (s₁.setTop (mkF m 5 #[.val (.int p1), .val (.int p2), .val (.int p3), .val (.int p4), .unset, .unset, .unset, .unset, .unset, .unset, .unset, .unset, .unset, .unset, .unset, .unset, .unset, .unset, .unset, .unset, .unset, .unset] [(.long uu)])) _
  refine own_go (fun _ k => XS.lstore X0.here hx rfl (hb hby at_5) rfl (l' := #[.val (.int p1), .val (.int p2), .val (.int p3), .val (.int p4), .val (.long uu), .second, .unset, .unset, .unset, .unset, .unset, .unset, .unset, .unset, .unset, .unset, .unset, .unset, .unset, .unset, .unset, .unset]) rfl k) ?_
  show own_G p e below (s₁.setTop (mkF m 7 #[.val (.int p1), .val (.int p2), .val (.int p3), .val (.int p4), .val (.long uu), .second, .unset, .unset, .unset, .unset, .unset, .unset, .unset, .unset, .unset, .unset, .unset, .unset, .unset, .unset, .unset, .unset] [])) _
  refine own_go (fun _ k => XS.iloadN X0.here hx rfl (hb hby at_7) rfl k) ?_
  show own_G p e below (s₁.setTop (mkF m 8 #[.val (.int p1), .val (.int p2), .val (.int p3), .val (.int p4), .val (.long uu), .second, .unset, .unset, .unset, .unset, .unset, .unset, .unset, .unset, .unset, .unset, .unset, .unset, .unset, .unset, .unset, .unset] [(.int p2)])) _
  refine own_go (X0.ldcInt hx hown (mvT hZ (hw _ (List.mem_of_getElem? (i := 0) rfl))) (g := (mkF m 8 #[.val (.int p1), .val (.int p2), .val (.int p3), .val (.int p4), .val (.long uu), .second, .unset, .unset, .unset, .unset, .unset, .unset, .unset, .unset, .unset, .unset, .unset, .unset, .unset, .unset, .unset, .unset] [(.int p2)])) rfl (hb hby at_8)) ?_
  show own_G p e below (s₁.setTop (mkF m 10 #[.val (.int p1), .val (.int p2), .val (.int p3), .val (.int p4), .val (.long uu), .second, .unset, .unset, .unset, .unset, .unset, .unset, .unset, .unset, .unset, .unset, .unset, .unset, .unset, .unset, .unset, .unset] [(.int (2147483647 : Int32)), (.int p2)])) _
  refine own_go (fun _ k => XS.iand X0.here hx rfl (hb hby at_10) rfl k) ?_
  show own_G p e below (s₁.setTop (mkF m 11 #[.val (.int p1), .val (.int p2), .val (.int p3), .val (.int p4), .val (.long uu), .second, .unset, .unset, .unset, .unset, .unset, .unset, .unset, .unset, .unset, .unset, .unset, .unset, .unset, .unset, .unset, .unset] [(.int (p2 &&& (2147483647 : Int32)))])) _
  refine own_go (fun _ k => XS.i2l X0.here hx rfl (hb hby at_11) rfl k) ?_
  show own_G p e below (s₁.setTop (mkF m 12 #[.val (.int p1), .val (.int p2), .val (.int p3), .val (.int p4), .val (.long uu), .second, .unset, .unset, .unset, .unset, .unset, .unset, .unset, .unset, .unset, .unset, .unset, .unset, .unset, .unset, .unset, .unset] [(.long ((p2 &&& (2147483647 : Int32)).toInt64))])) _
  generalize hv : ((p2 &&& (2147483647 : Int32)).toInt64) = vv
  show own_G p e below (s₁.setTop (mkF m 12 #[.val (.int p1), .val (.int p2), .val (.int p3), .val (.int p4), .val (.long uu), .second, .unset, .unset, .unset, .unset, .unset, .unset, .unset, .unset, .unset, .unset, .unset, .unset, .unset, .unset, .unset, .unset] [(.long vv)])) _
  refine own_go (fun _ k => XS.lstore X0.here hx rfl (hb hby at_12) rfl (l' := #[.val (.int p1), .val (.int p2), .val (.int p3), .val (.int p4), .val (.long uu), .second, .val (.long vv), .second, .unset, .unset, .unset, .unset, .unset, .unset, .unset, .unset, .unset, .unset, .unset, .unset, .unset, .unset]) rfl k) ?_
  show own_G p e below (s₁.setTop (mkF m 14 #[.val (.int p1), .val (.int p2), .val (.int p3), .val (.int p4), .val (.long uu), .second, .val (.long vv), .second, .unset, .unset, .unset, .unset, .unset, .unset, .unset, .unset, .unset, .unset, .unset, .unset, .unset, .unset] [])) _
  refine own_go (fun _ k => XS.iloadN X0.here hx rfl (hb hby at_14) rfl k) ?_
  show own_G p e below (s₁.setTop (mkF m 15 #[.val (.int p1), .val (.int p2), .val (.int p3), .val (.int p4), .val (.long uu), .second, .val (.long vv), .second, .unset, .unset, .unset, .unset, .unset, .unset, .unset, .unset, .unset, .unset, .unset, .unset, .unset, .unset] [(.int p3)])) _
  refine own_go (X0.ldcInt hx hown (mvT hZ (hw _ (List.mem_of_getElem? (i := 0) rfl))) (g := (mkF m 15 #[.val (.int p1), .val (.int p2), .val (.int p3), .val (.int p4), .val (.long uu), .second, .val (.long vv), .second, .unset, .unset, .unset, .unset, .unset, .unset, .unset, .unset, .unset, .unset, .unset, .unset, .unset, .unset] [(.int p3)])) rfl (hb hby at_15)) ?_
  show own_G p e below (s₁.setTop (mkF m 17 #[.val (.int p1), .val (.int p2), .val (.int p3), .val (.int p4), .val (.long uu), .second, .val (.long vv), .second, .unset, .unset, .unset, .unset, .unset, .unset, .unset, .unset, .unset, .unset, .unset, .unset, .unset, .unset] [(.int (2147483647 : Int32)), (.int p3)])) _
  refine own_go (fun _ k => XS.iand X0.here hx rfl (hb hby at_17) rfl k) ?_
  show own_G p e below (s₁.setTop (mkF m 18 #[.val (.int p1), .val (.int p2), .val (.int p3), .val (.int p4), .val (.long uu), .second, .val (.long vv), .second, .unset, .unset, .unset, .unset, .unset, .unset, .unset, .unset, .unset, .unset, .unset, .unset, .unset, .unset] [(.int (p3 &&& (2147483647 : Int32)))])) _
  refine own_go (fun _ k => XS.i2l X0.here hx rfl (hb hby at_18) rfl k) ?_
  show own_G p e below (s₁.setTop (mkF m 19 #[.val (.int p1), .val (.int p2), .val (.int p3), .val (.int p4), .val (.long uu), .second, .val (.long vv), .second, .unset, .unset, .unset, .unset, .unset, .unset, .unset, .unset, .unset, .unset, .unset, .unset, .unset, .unset] [(.long ((p3 &&& (2147483647 : Int32)).toInt64))])) _
  generalize hww : ((p3 &&& (2147483647 : Int32)).toInt64) = ww
  show own_G p e below (s₁.setTop (mkF m 19 #[.val (.int p1), .val (.int p2), .val (.int p3), .val (.int p4), .val (.long uu), .second, .val (.long vv), .second, .unset, .unset, .unset, .unset, .unset, .unset, .unset, .unset, .unset, .unset, .unset, .unset, .unset, .unset] [(.long ww)])) _
  refine own_go (fun _ k => XS.lstore X0.here hx rfl (hb hby at_19) rfl (l' := #[.val (.int p1), .val (.int p2), .val (.int p3), .val (.int p4), .val (.long uu), .second, .val (.long vv), .second, .val (.long ww), .second, .unset, .unset, .unset, .unset, .unset, .unset, .unset, .unset, .unset, .unset, .unset, .unset]) rfl k) ?_
  show own_G p e below (s₁.setTop (mkF m 21 #[.val (.int p1), .val (.int p2), .val (.int p3), .val (.int p4), .val (.long uu), .second, .val (.long vv), .second, .val (.long ww), .second, .unset, .unset, .unset, .unset, .unset, .unset, .unset, .unset, .unset, .unset, .unset, .unset] [])) _
  refine own_go (fun _ k => XS.lload X0.here hx rfl (hb hby at_21) rfl k) ?_
  show own_G p e below (s₁.setTop (mkF m 23 #[.val (.int p1), .val (.int p2), .val (.int p3), .val (.int p4), .val (.long uu), .second, .val (.long vv), .second, .val (.long ww), .second, .unset, .unset, .unset, .unset, .unset, .unset, .unset, .unset, .unset, .unset, .unset, .unset] [(.long uu)])) _
  refine own_go (fun _ k => XS.lload X0.here hx rfl (hb hby at_23) rfl k) ?_
  show own_G p e below (s₁.setTop (mkF m 25 #[.val (.int p1), .val (.int p2), .val (.int p3), .val (.int p4), .val (.long uu), .second, .val (.long vv), .second, .val (.long ww), .second, .unset, .unset, .unset, .unset, .unset, .unset, .unset, .unset, .unset, .unset, .unset, .unset] [(.long vv), (.long uu)])) _
  obtain ⟨_, _, ⟨T106, L106, k106, n106⟩, -, X106, ⟨Lc106, hQ106, l106, y106, z106⟩, st106⟩ := Jvm.LawKit.callS X0 hx (y := (⟨"java/lang/Math", "min", "(JJ)J"⟩ : MethodName)) hown (mvT hZ (hw _ (List.mem_of_getElem? (i := 1) rfl))) (mvT hZ (hw _ (List.mem_of_getElem? (i := 2) rfl))) (mvT hZ (hw _ (List.mem_of_getElem? (i := 3) rfl))) (mvT hZ (hw _ (List.mem_of_getElem? (i := 4) rfl))) (by decide) (backOf (W := 0) (rm1 l Z a0 hw [] uu vv h0 n0 Z0 ) hZ (hw _ (List.mem_of_getElem? (i := 4) rfl)) (hw _ (List.mem_of_getElem? (i := 3) rfl)) (by decide) (by decide)) (g := (mkF m 25 #[.val (.int p1), .val (.int p2), .val (.int p3), .val (.int p4), .val (.long uu), .second, .val (.long vv), .second, .val (.long ww), .second, .unset, .unset, .unset, .unset, .unset, .unset, .unset, .unset, .unset, .unset, .unset, .unset] [(.long vv), (.long uu)])) rfl (by rw [hml]; rfl) (argsL := [(.long uu), (.long vv)]) (rest := []) (lenOf pd_0 rfl) rfl (by show 2 * 0 + _ ≤ _; exact Nat.le_of_eq rfl) (hb hby at_25) (fun _ _ => ⟨rfl, e0, (by decide : 0 + 0 ≤ _), (by decide : 0 + 0 ≤ _)⟩)
  dsimp only [Pt.U, Pt.locs, Pt.cells, Pt.slots] at X106 l106 y106 z106 st106 hQ106
  subst l106 y106 z106
  obtain ⟨rfl, Nq106, hh106⟩ := hQ106
  have N106 := Fr.app N0 Nq106
  refine own_go st106 ?_
  have e106 : T106.heap = h0 := hh106
  show own_G p e below (T106.setTop (mkF m 28 #[.val (.int p1), .val (.int p2), .val (.int p3), .val (.int p4), .val (.long uu), .second, .val (.long vv), .second, .val (.long ww), .second, .unset, .unset, .unset, .unset, .unset, .unset, .unset, .unset, .unset, .unset, .unset, .unset] [(.long (own_min uu vv))])) _
  refine own_go (fun _ k => XS.lload X106.here hx rfl (hb hby at_28) rfl k) ?_
  show own_G p e below (T106.setTop (mkF m 30 #[.val (.int p1), .val (.int p2), .val (.int p3), .val (.int p4), .val (.long uu), .second, .val (.long vv), .second, .val (.long ww), .second, .unset, .unset, .unset, .unset, .unset, .unset, .unset, .unset, .unset, .unset, .unset, .unset] [(.long ww), (.long (own_min uu vv))])) _
  obtain ⟨_, _, ⟨T107, L107, k107, n107⟩, -, X107, ⟨Lc107, hQ107, l107, y107, z107⟩, st107⟩ := Jvm.LawKit.callS X106 hx (y := (⟨"java/lang/Math", "min", "(JJ)J"⟩ : MethodName)) hown (mvT hZ (hw _ (List.mem_of_getElem? (i := 1) rfl))) (mvT hZ (hw _ (List.mem_of_getElem? (i := 2) rfl))) (mvT hZ (hw _ (List.mem_of_getElem? (i := 3) rfl))) (mvT hZ (hw _ (List.mem_of_getElem? (i := 4) rfl))) (by decide) (backOf (W := 0) (rm1 l Z a0 hw [] (own_min uu vv) ww h0 n0 Z0 ) hZ (hw _ (List.mem_of_getElem? (i := 4) rfl)) (hw _ (List.mem_of_getElem? (i := 3) rfl)) (by decide) (by decide)) (g := (mkF m 30 #[.val (.int p1), .val (.int p2), .val (.int p3), .val (.int p4), .val (.long uu), .second, .val (.long vv), .second, .val (.long ww), .second, .unset, .unset, .unset, .unset, .unset, .unset, .unset, .unset, .unset, .unset, .unset, .unset] [(.long ww), (.long (own_min uu vv))])) rfl (by rw [hml]; rfl) (argsL := [(.long (own_min uu vv)), (.long ww)]) (rest := []) (lenOf pd_0 rfl) rfl (by show 2 * 0 + _ ≤ _; exact Nat.le_of_eq rfl) (hb hby at_30) (fun _ _ => ⟨rfl, e106, (by decide : 0 + 0 + 0 ≤ _), (by decide : 0 + 0 + 0 ≤ _)⟩)
  dsimp only [Pt.U, Pt.locs, Pt.cells, Pt.slots] at X107 l107 y107 z107 st107 hQ107
  subst l107 y107 z107
  obtain ⟨rfl, Nq107, hh107⟩ := hQ107
  have N107 := Fr.app N106 Nq107
  refine own_go st107 ?_
  have e107 : T107.heap = h0 := hh107
  show own_G p e below (T107.setTop (mkF m 33 #[.val (.int p1), .val (.int p2), .val (.int p3), .val (.int p4), .val (.long uu), .second, .val (.long vv), .second, .val (.long ww), .second, .unset, .unset, .unset, .unset, .unset, .unset, .unset, .unset, .unset, .unset, .unset, .unset] [(.long (own_min (own_min uu vv) ww))])) _
  generalize hlo : (own_min (own_min uu vv) ww) = lo
  show own_G p e below (T107.setTop (mkF m 33 #[.val (.int p1), .val (.int p2), .val (.int p3), .val (.int p4), .val (.long uu), .second, .val (.long vv), .second, .val (.long ww), .second, .unset, .unset, .unset, .unset, .unset, .unset, .unset, .unset, .unset, .unset, .unset, .unset] [(.long lo)])) _
  refine own_go (fun _ k => XS.lstore X107.here hx rfl (hb hby at_33) rfl (l' := #[.val (.int p1), .val (.int p2), .val (.int p3), .val (.int p4), .val (.long uu), .second, .val (.long vv), .second, .val (.long ww), .second, .val (.long lo), .second, .unset, .unset, .unset, .unset, .unset, .unset, .unset, .unset, .unset, .unset]) rfl k) ?_
  show own_G p e below (T107.setTop (mkF m 35 #[.val (.int p1), .val (.int p2), .val (.int p3), .val (.int p4), .val (.long uu), .second, .val (.long vv), .second, .val (.long ww), .second, .val (.long lo), .second, .unset, .unset, .unset, .unset, .unset, .unset, .unset, .unset, .unset, .unset] [])) _
  refine own_go (fun _ k => XS.lload X107.here hx rfl (hb hby at_35) rfl k) ?_
  show own_G p e below (T107.setTop (mkF m 37 #[.val (.int p1), .val (.int p2), .val (.int p3), .val (.int p4), .val (.long uu), .second, .val (.long vv), .second, .val (.long ww), .second, .val (.long lo), .second, .unset, .unset, .unset, .unset, .unset, .unset, .unset, .unset, .unset, .unset] [(.long uu)])) _
  refine own_go (fun _ k => XS.lload X107.here hx rfl (hb hby at_37) rfl k) ?_
  show own_G p e below (T107.setTop (mkF m 39 #[.val (.int p1), .val (.int p2), .val (.int p3), .val (.int p4), .val (.long uu), .second, .val (.long vv), .second, .val (.long ww), .second, .val (.long lo), .second, .unset, .unset, .unset, .unset, .unset, .unset, .unset, .unset, .unset, .unset] [(.long vv), (.long uu)])) _
  obtain ⟨_, _, ⟨T108, L108, k108, n108⟩, -, X108, ⟨Lc108, hQ108, l108, y108, z108⟩, st108⟩ := Jvm.LawKit.callS X107 hx (y := (⟨"java/lang/Math", "max", "(JJ)J"⟩ : MethodName)) hown (mvT hZ (hw _ (List.mem_of_getElem? (i := 5) rfl))) (mvT hZ (hw _ (List.mem_of_getElem? (i := 6) rfl))) (mvT hZ (hw _ (List.mem_of_getElem? (i := 3) rfl))) (mvT hZ (hw _ (List.mem_of_getElem? (i := 7) rfl))) (by decide) (backOf (W := 0) (rm2 l Z a0 hw [] uu vv h0 n0 Z0 ) hZ (hw _ (List.mem_of_getElem? (i := 7) rfl)) (hw _ (List.mem_of_getElem? (i := 3) rfl)) (by decide) (by decide)) (g := (mkF m 39 #[.val (.int p1), .val (.int p2), .val (.int p3), .val (.int p4), .val (.long uu), .second, .val (.long vv), .second, .val (.long ww), .second, .val (.long lo), .second, .unset, .unset, .unset, .unset, .unset, .unset, .unset, .unset, .unset, .unset] [(.long vv), (.long uu)])) rfl (by rw [hml]; rfl) (argsL := [(.long uu), (.long vv)]) (rest := []) (lenOf pd_0 rfl) rfl (by show 2 * 0 + _ ≤ _; exact Nat.le_of_eq rfl) (hb hby at_39) (fun _ _ => ⟨rfl, e107, (by decide : 0 + 0 + 0 + 0 ≤ _), (by decide : 0 + 0 + 0 + 0 ≤ _)⟩)
  dsimp only [Pt.U, Pt.locs, Pt.cells, Pt.slots] at X108 l108 y108 z108 st108 hQ108
  subst l108 y108 z108
  obtain ⟨rfl, Nq108, hh108⟩ := hQ108
  have N108 := Fr.app N107 Nq108
  refine own_go st108 ?_
  have e108 : T108.heap = h0 := hh108
  show own_G p e below (T108.setTop (mkF m 42 #[.val (.int p1), .val (.int p2), .val (.int p3), .val (.int p4), .val (.long uu), .second, .val (.long vv), .second, .val (.long ww), .second, .val (.long lo), .second, .unset, .unset, .unset, .unset, .unset, .unset, .unset, .unset, .unset, .unset] [(.long (own_max uu vv))])) _
  refine own_go (fun _ k => XS.lload X108.here hx rfl (hb hby at_42) rfl k) ?_
  show own_G p e below (T108.setTop (mkF m 44 #[.val (.int p1), .val (.int p2), .val (.int p3), .val (.int p4), .val (.long uu), .second, .val (.long vv), .second, .val (.long ww), .second, .val (.long lo), .second, .unset, .unset, .unset, .unset, .unset, .unset, .unset, .unset, .unset, .unset] [(.long ww), (.long (own_max uu vv))])) _
  obtain ⟨_, _, ⟨T109, L109, k109, n109⟩, -, X109, ⟨Lc109, hQ109, l109, y109, z109⟩, st109⟩ := Jvm.LawKit.callS X108 hx (y := (⟨"java/lang/Math", "max", "(JJ)J"⟩ : MethodName)) hown (mvT hZ (hw _ (List.mem_of_getElem? (i := 5) rfl))) (mvT hZ (hw _ (List.mem_of_getElem? (i := 6) rfl))) (mvT hZ (hw _ (List.mem_of_getElem? (i := 3) rfl))) (mvT hZ (hw _ (List.mem_of_getElem? (i := 7) rfl))) (by decide) (backOf (W := 0) (rm2 l Z a0 hw [] (own_max uu vv) ww h0 n0 Z0 ) hZ (hw _ (List.mem_of_getElem? (i := 7) rfl)) (hw _ (List.mem_of_getElem? (i := 3) rfl)) (by decide) (by decide)) (g := (mkF m 44 #[.val (.int p1), .val (.int p2), .val (.int p3), .val (.int p4), .val (.long uu), .second, .val (.long vv), .second, .val (.long ww), .second, .val (.long lo), .second, .unset, .unset, .unset, .unset, .unset, .unset, .unset, .unset, .unset, .unset] [(.long ww), (.long (own_max uu vv))])) rfl (by rw [hml]; rfl) (argsL := [(.long (own_max uu vv)), (.long ww)]) (rest := []) (lenOf pd_0 rfl) rfl (by show 2 * 0 + _ ≤ _; exact Nat.le_of_eq rfl) (hb hby at_44) (fun _ _ => ⟨rfl, e108, (by decide : 0 + 0 + 0 + 0 + 0 ≤ _), (by decide : 0 + 0 + 0 + 0 + 0 ≤ _)⟩)
  dsimp only [Pt.U, Pt.locs, Pt.cells, Pt.slots] at X109 l109 y109 z109 st109 hQ109
  subst l109 y109 z109
  obtain ⟨rfl, Nq109, hh109⟩ := hQ109
  have N109 := Fr.app N108 Nq109
  refine own_go st109 ?_
  have e109 : T109.heap = h0 := hh109
  show own_G p e below (T109.setTop (mkF m 47 #[.val (.int p1), .val (.int p2), .val (.int p3), .val (.int p4), .val (.long uu), .second, .val (.long vv), .second, .val (.long ww), .second, .val (.long lo), .second, .unset, .unset, .unset, .unset, .unset, .unset, .unset, .unset, .unset, .unset] [(.long (own_max (own_max uu vv) ww))])) _
  generalize hhi : (own_max (own_max uu vv) ww) = hi
  show own_G p e below (T109.setTop (mkF m 47 #[.val (.int p1), .val (.int p2), .val (.int p3), .val (.int p4), .val (.long uu), .second, .val (.long vv), .second, .val (.long ww), .second, .val (.long lo), .second, .unset, .unset, .unset, .unset, .unset, .unset, .unset, .unset, .unset, .unset] [(.long hi)])) _
  refine own_go (fun _ k => XS.lstore X109.here hx rfl (hb hby at_47) rfl (l' := #[.val (.int p1), .val (.int p2), .val (.int p3), .val (.int p4), .val (.long uu), .second, .val (.long vv), .second, .val (.long ww), .second, .val (.long lo), .second, .val (.long hi), .second, .unset, .unset, .unset, .unset, .unset, .unset, .unset, .unset]) rfl k) ?_
  show own_G p e below (T109.setTop (mkF m 49 #[.val (.int p1), .val (.int p2), .val (.int p3), .val (.int p4), .val (.long uu), .second, .val (.long vv), .second, .val (.long ww), .second, .val (.long lo), .second, .val (.long hi), .second, .unset, .unset, .unset, .unset, .unset, .unset, .unset, .unset] [])) _
  refine own_go (fun _ k => XS.lload X109.here hx rfl (hb hby at_49) rfl k) ?_
  show own_G p e below (T109.setTop (mkF m 51 #[.val (.int p1), .val (.int p2), .val (.int p3), .val (.int p4), .val (.long uu), .second, .val (.long vv), .second, .val (.long ww), .second, .val (.long lo), .second, .val (.long hi), .second, .unset, .unset, .unset, .unset, .unset, .unset, .unset, .unset] [(.long uu)])) _
  refine own_go (fun _ k => XS.lload X109.here hx rfl (hb hby at_51) rfl k) ?_
  show own_G p e below (T109.setTop (mkF m 53 #[.val (.int p1), .val (.int p2), .val (.int p3), .val (.int p4), .val (.long uu), .second, .val (.long vv), .second, .val (.long ww), .second, .val (.long lo), .second, .val (.long hi), .second, .unset, .unset, .unset, .unset, .unset, .unset, .unset, .unset] [(.long vv), (.long uu)])) _
  refine own_go (fun _ k => XS.ladd X109.here hx rfl (hb hby at_53) rfl k) ?_
  show own_G p e below (T109.setTop (mkF m 54 #[.val (.int p1), .val (.int p2), .val (.int p3), .val (.int p4), .val (.long uu), .second, .val (.long vv), .second, .val (.long ww), .second, .val (.long lo), .second, .val (.long hi), .second, .unset, .unset, .unset, .unset, .unset, .unset, .unset, .unset] [(.long (uu + vv))])) _
  refine own_go (fun _ k => XS.lload X109.here hx rfl (hb hby at_54) rfl k) ?_
  show own_G p e below (T109.setTop (mkF m 56 #[.val (.int p1), .val (.int p2), .val (.int p3), .val (.int p4), .val (.long uu), .second, .val (.long vv), .second, .val (.long ww), .second, .val (.long lo), .second, .val (.long hi), .second, .unset, .unset, .unset, .unset, .unset, .unset, .unset, .unset] [(.long ww), (.long (uu + vv))])) _
  refine own_go (fun _ k => XS.ladd X109.here hx rfl (hb hby at_56) rfl k) ?_
  show own_G p e below (T109.setTop (mkF m 57 #[.val (.int p1), .val (.int p2), .val (.int p3), .val (.int p4), .val (.long uu), .second, .val (.long vv), .second, .val (.long ww), .second, .val (.long lo), .second, .val (.long hi), .second, .unset, .unset, .unset, .unset, .unset, .unset, .unset, .unset] [(.long ((uu + vv) + ww))])) _
  refine own_go (fun _ k => XS.lload X109.here hx rfl (hb hby at_57) rfl k) ?_
  show own_G p e below (T109.setTop (mkF m 59 #[.val (.int p1), .val (.int p2), .val (.int p3), .val (.int p4), .val (.long uu), .second, .val (.long vv), .second, .val (.long ww), .second, .val (.long lo), .second, .val (.long hi), .second, .unset, .unset, .unset, .unset, .unset, .unset, .unset, .unset] [(.long lo), (.long ((uu + vv) + ww))])) _
  refine own_go (fun _ k => XS.lsub X109.here hx rfl (hb hby at_59) rfl k) ?_
  show own_G p e below (T109.setTop (mkF m 60 #[.val (.int p1), .val (.int p2), .val (.int p3), .val (.int p4), .val (.long uu), .second, .val (.long vv), .second, .val (.long ww), .second, .val (.long lo), .second, .val (.long hi), .second, .unset, .unset, .unset, .unset, .unset, .unset, .unset, .unset] [(.long (((uu + vv) + ww) - lo))])) _
  refine own_go (fun _ k => XS.lload X109.here hx rfl (hb hby at_60) rfl k) ?_
  show own_G p e below (T109.setTop (mkF m 62 #[.val (.int p1), .val (.int p2), .val (.int p3), .val (.int p4), .val (.long uu), .second, .val (.long vv), .second, .val (.long ww), .second, .val (.long lo), .second, .val (.long hi), .second, .unset, .unset, .unset, .unset, .unset, .unset, .unset, .unset] [(.long hi), (.long (((uu + vv) + ww) - lo))])) _
  refine own_go (fun _ k => XS.lsub X109.here hx rfl (hb hby at_62) rfl k) ?_
  show own_G p e below (T109.setTop (mkF m 63 #[.val (.int p1), .val (.int p2), .val (.int p3), .val (.int p4), .val (.long uu), .second, .val (.long vv), .second, .val (.long ww), .second, .val (.long lo), .second, .val (.long hi), .second, .unset, .unset, .unset, .unset, .unset, .unset, .unset, .unset] [(.long ((((uu + vv) + ww) - lo) - hi))])) _
  generalize hmi : ((((uu + vv) + ww) - lo) - hi) = mi
  have hs : own_sorted lo mi hi := own_sort hu hv hww hlo hhi hmi
  show own_G p e below (T109.setTop (mkF m 63 #[.val (.int p1), .val (.int p2), .val (.int p3), .val (.int p4), .val (.long uu), .second, .val (.long vv), .second, .val (.long ww), .second, .val (.long lo), .second, .val (.long hi), .second, .unset, .unset, .unset, .unset, .unset, .unset, .unset, .unset] [(.long mi)])) _
  refine own_go (fun _ k => XS.lstore X109.here hx rfl (hb hby at_63) rfl (l' := #[.val (.int p1), .val (.int p2), .val (.int p3), .val (.int p4), .val (.long uu), .second, .val (.long vv), .second, .val (.long ww), .second, .val (.long lo), .second, .val (.long hi), .second, .val (.long mi), .second, .unset, .unset, .unset, .unset, .unset, .unset]) rfl k) ?_
  show own_G p e below (T109.setTop (mkF m 65 #[.val (.int p1), .val (.int p2), .val (.int p3), .val (.int p4), .val (.long uu), .second, .val (.long vv), .second, .val (.long ww), .second, .val (.long lo), .second, .val (.long hi), .second, .val (.long mi), .second, .unset, .unset, .unset, .unset, .unset, .unset] [])) _
  refine own_go (fun _ k => XS.lload X109.here hx rfl (hb hby at_65) rfl k) ?_
  show own_G p e below (T109.setTop (mkF m 67 #[.val (.int p1), .val (.int p2), .val (.int p3), .val (.int p4), .val (.long uu), .second, .val (.long vv), .second, .val (.long ww), .second, .val (.long lo), .second, .val (.long hi), .second, .val (.long mi), .second, .unset, .unset, .unset, .unset, .unset, .unset] [(.long lo)])) _
  refine own_go (fun _ k => XS.lload X109.here hx rfl (hb hby at_67) rfl k) ?_
  show own_G p e below (T109.setTop (mkF m 69 #[.val (.int p1), .val (.int p2), .val (.int p3), .val (.int p4), .val (.long uu), .second, .val (.long vv), .second, .val (.long ww), .second, .val (.long lo), .second, .val (.long hi), .second, .val (.long mi), .second, .unset, .unset, .unset, .unset, .unset, .unset] [(.long mi), (.long lo)])) _
  refine own_go (fun _ k => XS.lcmp X109.here hx rfl (hb hby at_69) rfl k) ?_
  show own_G p e below (T109.setTop (mkF m 70 #[.val (.int p1), .val (.int p2), .val (.int p3), .val (.int p4), .val (.long uu), .second, .val (.long vv), .second, .val (.long ww), .second, .val (.long lo), .second, .val (.long hi), .second, .val (.long mi), .second, .unset, .unset, .unset, .unset, .unset, .unset] [(.int (lcmpW lo mi))])) _
  by_cases hc70_110 : lo = mi
  · refine own_go (fun _ k => XS.ifYes X109.here hx rfl (pc0 := 70) (pc' := 81) rfl (hb hby at_70) rfl ((if0 _ _).trans (teq ((lw_eq _ _).mpr hc70_110)).1) (by decide) (by decide) k) ?_
    show own_G p e below (T109.setTop (mkF m 81 #[.val (.int p1), .val (.int p2), .val (.int p3), .val (.int p4), .val (.long uu), .second, .val (.long vv), .second, .val (.long ww), .second, .val (.long lo), .second, .val (.long hi), .second, .val (.long mi), .second, .unset, .unset, .unset, .unset, .unset, .unset] [])) _
    refine own_go (fun _ k => XS.iconst X109.here hx rfl (hb hby at_81) k) ?_
    show own_G p e below (T109.setTop (mkF m 82 #[.val (.int p1), .val (.int p2), .val (.int p3), .val (.int p4), .val (.long uu), .second, .val (.long vv), .second, .val (.long ww), .second, .val (.long lo), .second, .val (.long hi), .second, .val (.long mi), .second, .unset, .unset, .unset, .unset, .unset, .unset] [(.int (1 : Int32))])) _
    refine own_ret X109 hlk (v := some (.int (1 : Int32))) (fun h => by rw [hret] at h; cases h) (Q0 Z p1 p2 p3 p4 h0 n0) (own_retI X109 hx (t := .boolean) hret rfl (Or.inl ⟨rfl, by simp, _, rfl⟩) (hb hby at_82)) (by decide) (by decide) ?_
    show Q0 Z p1 p2 p3 p4 h0 n0 _ T109.heap _
    rw [e109]
    exact ⟨rfl, N109⟩
  · refine own_go (fun _ k => XS.ifNo X109.here hx rfl (hb hby at_70) rfl ((if0 _ _).trans (feq (fun q => hc70_110 ((lw_eq _ _).mp q))).1) k) ?_
    show own_G p e below (T109.setTop (mkF m 73 #[.val (.int p1), .val (.int p2), .val (.int p3), .val (.int p4), .val (.long uu), .second, .val (.long vv), .second, .val (.long ww), .second, .val (.long lo), .second, .val (.long hi), .second, .val (.long mi), .second, .unset, .unset, .unset, .unset, .unset, .unset] [])) _
    refine own_go (fun _ k => XS.lload X109.here hx rfl (hb hby at_73) rfl k) ?_
    show own_G p e below (T109.setTop (mkF m 75 #[.val (.int p1), .val (.int p2), .val (.int p3), .val (.int p4), .val (.long uu), .second, .val (.long vv), .second, .val (.long ww), .second, .val (.long lo), .second, .val (.long hi), .second, .val (.long mi), .second, .unset, .unset, .unset, .unset, .unset, .unset] [(.long mi)])) _
    refine own_go (fun _ k => XS.lload X109.here hx rfl (hb hby at_75) rfl k) ?_
    show own_G p e below (T109.setTop (mkF m 77 #[.val (.int p1), .val (.int p2), .val (.int p3), .val (.int p4), .val (.long uu), .second, .val (.long vv), .second, .val (.long ww), .second, .val (.long lo), .second, .val (.long hi), .second, .val (.long mi), .second, .unset, .unset, .unset, .unset, .unset, .unset] [(.long hi), (.long mi)])) _
    refine own_go (fun _ k => XS.lcmp X109.here hx rfl (hb hby at_77) rfl k) ?_
    show own_G p e below (T109.setTop (mkF m 78 #[.val (.int p1), .val (.int p2), .val (.int p3), .val (.int p4), .val (.long uu), .second, .val (.long vv), .second, .val (.long ww), .second, .val (.long lo), .second, .val (.long hi), .second, .val (.long mi), .second, .unset, .unset, .unset, .unset, .unset, .unset] [(.int (lcmpW mi hi))])) _
    by_cases hc78_111 : mi = hi
    · refine own_go (fun _ k => XS.ifNo X109.here hx rfl (hb hby at_78) rfl ((if0 _ _).trans (teq ((lw_eq _ _).mpr hc78_111)).2) k) ?_
      show own_G p e below (T109.setTop (mkF m 81 #[.val (.int p1), .val (.int p2), .val (.int p3), .val (.int p4), .val (.long uu), .second, .val (.long vv), .second, .val (.long ww), .second, .val (.long lo), .second, .val (.long hi), .second, .val (.long mi), .second, .unset, .unset, .unset, .unset, .unset, .unset] [])) _
      refine own_go (fun _ k => XS.iconst X109.here hx rfl (hb hby at_81) k) ?_
      show own_G p e below (T109.setTop (mkF m 82 #[.val (.int p1), .val (.int p2), .val (.int p3), .val (.int p4), .val (.long uu), .second, .val (.long vv), .second, .val (.long ww), .second, .val (.long lo), .second, .val (.long hi), .second, .val (.long mi), .second, .unset, .unset, .unset, .unset, .unset, .unset] [(.int (1 : Int32))])) _
      refine own_ret X109 hlk (v := some (.int (1 : Int32))) (fun h => by rw [hret] at h; cases h) (Q0 Z p1 p2 p3 p4 h0 n0) (own_retI X109 hx (t := .boolean) hret rfl (Or.inl ⟨rfl, by simp, _, rfl⟩) (hb hby at_82)) (by decide) (by decide) ?_
      show Q0 Z p1 p2 p3 p4 h0 n0 _ T109.heap _
      rw [e109]
      exact ⟨rfl, N109⟩
    · refine own_go (fun _ k => XS.ifYes X109.here hx rfl (pc0 := 78) (pc' := 83) rfl (hb hby at_78) rfl ((if0 _ _).trans (feq (fun q => hc78_111 ((lw_eq _ _).mp q))).2) (by decide) (by decide) k) ?_
      show own_G p e below (T109.setTop (mkF m 83 #[.val (.int p1), .val (.int p2), .val (.int p3), .val (.int p4), .val (.long uu), .second, .val (.long vv), .second, .val (.long ww), .second, .val (.long lo), .second, .val (.long hi), .second, .val (.long mi), .second, .unset, .unset, .unset, .unset, .unset, .unset] [])) _
      refine own_go (fun _ k => XS.iloadN X109.here hx rfl (hb hby at_83) rfl k) ?_
      show own_G p e below (T109.setTop (mkF m 84 #[.val (.int p1), .val (.int p2), .val (.int p3), .val (.int p4), .val (.long uu), .second, .val (.long vv), .second, .val (.long ww), .second, .val (.long lo), .second, .val (.long hi), .second, .val (.long mi), .second, .unset, .unset, .unset, .unset, .unset, .unset] [(.int p4)])) _
      refine own_go (fun _ k => XS.iconst X109.here hx rfl (hb hby at_84) k) ?_
      show own_G p e below (T109.setTop (mkF m 85 #[.val (.int p1), .val (.int p2), .val (.int p3), .val (.int p4), .val (.long uu), .second, .val (.long vv), .second, .val (.long ww), .second, .val (.long lo), .second, .val (.long hi), .second, .val (.long mi), .second, .unset, .unset, .unset, .unset, .unset, .unset] [(.int (3 : Int32)), (.int p4)])) _
      refine own_go (fun _ k => XS.iand X109.here hx rfl (hb hby at_85) rfl k) ?_
      show own_G p e below (T109.setTop (mkF m 86 #[.val (.int p1), .val (.int p2), .val (.int p3), .val (.int p4), .val (.long uu), .second, .val (.long vv), .second, .val (.long ww), .second, .val (.long lo), .second, .val (.long hi), .second, .val (.long mi), .second, .unset, .unset, .unset, .unset, .unset, .unset] [(.int (p4 &&& (3 : Int32)))])) _
      rcases own_n3 p4 with hn | hn | hn | hn
      · rw [hn]
        show own_G p e below (T109.setTop (mkF m 86 #[.val (.int p1), .val (.int p2), .val (.int p3), .val (.int p4), .val (.long uu), .second, .val (.long vv), .second, .val (.long ww), .second, .val (.long lo), .second, .val (.long hi), .second, .val (.long mi), .second, .unset, .unset, .unset, .unset, .unset, .unset] [(.int (0 : Int32))])) _
        refine own_go (fun _ k => XS.istore X109.here hx rfl (hb hby at_86) rfl (l' := #[.val (.int p1), .val (.int p2), .val (.int p3), .val (.int p4), .val (.long uu), .second, .val (.long vv), .second, .val (.long ww), .second, .val (.long lo), .second, .val (.long hi), .second, .val (.long mi), .second, .val (.int (0 : Int32)), .unset, .unset, .unset, .unset, .unset]) rfl k) ?_
        show own_G p e below (T109.setTop (mkF m 88 #[.val (.int p1), .val (.int p2), .val (.int p3), .val (.int p4), .val (.long uu), .second, .val (.long vv), .second, .val (.long ww), .second, .val (.long lo), .second, .val (.long hi), .second, .val (.long mi), .second, .val (.int (0 : Int32)), .unset, .unset, .unset, .unset, .unset] [])) _
        refine own_go (fun _ k => XS.lload X109.here hx rfl (hb hby at_88) rfl k) ?_
        show own_G p e below (T109.setTop (mkF m 90 #[.val (.int p1), .val (.int p2), .val (.int p3), .val (.int p4), .val (.long uu), .second, .val (.long vv), .second, .val (.long ww), .second, .val (.long lo), .second, .val (.long hi), .second, .val (.long mi), .second, .val (.int (0 : Int32)), .unset, .unset, .unset, .unset, .unset] [(.long lo)])) _
        refine own_go (fun _ k => XS.l2i X109.here hx rfl (hb hby at_90) rfl k) ?_
        show own_G p e below (T109.setTop (mkF m 91 #[.val (.int p1), .val (.int p2), .val (.int p3), .val (.int p4), .val (.long uu), .second, .val (.long vv), .second, .val (.long ww), .second, .val (.long lo), .second, .val (.long hi), .second, .val (.long mi), .second, .val (.int (0 : Int32)), .unset, .unset, .unset, .unset, .unset] [(.int (lo.toInt32))])) _
        generalize hy0 : (lo.toInt32) = y0
        show own_G p e below (T109.setTop (mkF m 91 #[.val (.int p1), .val (.int p2), .val (.int p3), .val (.int p4), .val (.long uu), .second, .val (.long vv), .second, .val (.long ww), .second, .val (.long lo), .second, .val (.long hi), .second, .val (.long mi), .second, .val (.int (0 : Int32)), .unset, .unset, .unset, .unset, .unset] [(.int y0)])) _
        refine own_go (fun _ k => XS.istore X109.here hx rfl (hb hby at_91) rfl (l' := #[.val (.int p1), .val (.int p2), .val (.int p3), .val (.int p4), .val (.long uu), .second, .val (.long vv), .second, .val (.long ww), .second, .val (.long lo), .second, .val (.long hi), .second, .val (.long mi), .second, .val (.int (0 : Int32)), .val (.int y0), .unset, .unset, .unset, .unset]) rfl k) ?_
        show own_G p e below (T109.setTop (mkF m 93 #[.val (.int p1), .val (.int p2), .val (.int p3), .val (.int p4), .val (.long uu), .second, .val (.long vv), .second, .val (.long ww), .second, .val (.long lo), .second, .val (.long hi), .second, .val (.long mi), .second, .val (.int (0 : Int32)), .val (.int y0), .unset, .unset, .unset, .unset] [])) _
        refine own_go (fun _ k => XS.lload X109.here hx rfl (hb hby at_93) rfl k) ?_
        show own_G p e below (T109.setTop (mkF m 95 #[.val (.int p1), .val (.int p2), .val (.int p3), .val (.int p4), .val (.long uu), .second, .val (.long vv), .second, .val (.long ww), .second, .val (.long lo), .second, .val (.long hi), .second, .val (.long mi), .second, .val (.int (0 : Int32)), .val (.int y0), .unset, .unset, .unset, .unset] [(.long mi)])) _
        refine own_go (fun _ k => XS.l2i X109.here hx rfl (hb hby at_95) rfl k) ?_
        show own_G p e below (T109.setTop (mkF m 96 #[.val (.int p1), .val (.int p2), .val (.int p3), .val (.int p4), .val (.long uu), .second, .val (.long vv), .second, .val (.long ww), .second, .val (.long lo), .second, .val (.long hi), .second, .val (.long mi), .second, .val (.int (0 : Int32)), .val (.int y0), .unset, .unset, .unset, .unset] [(.int (mi.toInt32))])) _
        generalize hy1 : (mi.toInt32) = y1
        show own_G p e below (T109.setTop (mkF m 96 #[.val (.int p1), .val (.int p2), .val (.int p3), .val (.int p4), .val (.long uu), .second, .val (.long vv), .second, .val (.long ww), .second, .val (.long lo), .second, .val (.long hi), .second, .val (.long mi), .second, .val (.int (0 : Int32)), .val (.int y0), .unset, .unset, .unset, .unset] [(.int y1)])) _
        refine own_go (fun _ k => XS.istore X109.here hx rfl (hb hby at_96) rfl (l' := #[.val (.int p1), .val (.int p2), .val (.int p3), .val (.int p4), .val (.long uu), .second, .val (.long vv), .second, .val (.long ww), .second, .val (.long lo), .second, .val (.long hi), .second, .val (.long mi), .second, .val (.int (0 : Int32)), .val (.int y0), .val (.int y1), .unset, .unset, .unset]) rfl k) ?_
        show own_G p e below (T109.setTop (mkF m 98 #[.val (.int p1), .val (.int p2), .val (.int p3), .val (.int p4), .val (.long uu), .second, .val (.long vv), .second, .val (.long ww), .second, .val (.long lo), .second, .val (.long hi), .second, .val (.long mi), .second, .val (.int (0 : Int32)), .val (.int y0), .val (.int y1), .unset, .unset, .unset] [])) _
        refine own_go (fun _ k => XS.lload X109.here hx rfl (hb hby at_98) rfl k) ?_
        show own_G p e below (T109.setTop (mkF m 100 #[.val (.int p1), .val (.int p2), .val (.int p3), .val (.int p4), .val (.long uu), .second, .val (.long vv), .second, .val (.long ww), .second, .val (.long lo), .second, .val (.long hi), .second, .val (.long mi), .second, .val (.int (0 : Int32)), .val (.int y0), .val (.int y1), .unset, .unset, .unset] [(.long hi)])) _
        refine own_go (fun _ k => XS.l2i X109.here hx rfl (hb hby at_100) rfl k) ?_
        show own_G p e below (T109.setTop (mkF m 101 #[.val (.int p1), .val (.int p2), .val (.int p3), .val (.int p4), .val (.long uu), .second, .val (.long vv), .second, .val (.long ww), .second, .val (.long lo), .second, .val (.long hi), .second, .val (.long mi), .second, .val (.int (0 : Int32)), .val (.int y0), .val (.int y1), .unset, .unset, .unset] [(.int (hi.toInt32))])) _
        generalize hy2 : (hi.toInt32) = y2
        have hy : own_ys lo mi hi y0 y1 y2 := ⟨hs, hc70_110, hc78_111, hy0, hy1, hy2⟩
        show own_G p e below (T109.setTop (mkF m 101 #[.val (.int p1), .val (.int p2), .val (.int p3), .val (.int p4), .val (.long uu), .second, .val (.long vv), .second, .val (.long ww), .second, .val (.long lo), .second, .val (.long hi), .second, .val (.long mi), .second, .val (.int (0 : Int32)), .val (.int y0), .val (.int y1), .unset, .unset, .unset] [(.int y2)])) _
        refine own_go (fun _ k => XS.istore X109.here hx rfl (hb hby at_101) rfl (l' := #[.val (.int p1), .val (.int p2), .val (.int p3), .val (.int p4), .val (.long uu), .second, .val (.long vv), .second, .val (.long ww), .second, .val (.long lo), .second, .val (.long hi), .second, .val (.long mi), .second, .val (.int (0 : Int32)), .val (.int y0), .val (.int y1), .val (.int y2), .unset, .unset]) rfl k) ?_
        show own_G p e below (T109.setTop (mkF m 103 #[.val (.int p1), .val (.int p2), .val (.int p3), .val (.int p4), .val (.long uu), .second, .val (.long vv), .second, .val (.long ww), .second, .val (.long lo), .second, .val (.long hi), .second, .val (.long mi), .second, .val (.int (0 : Int32)), .val (.int y0), .val (.int y1), .val (.int y2), .unset, .unset] [])) _
        refine own_go (fun _ k => XS.iload X109.here hx rfl (hb hby at_103) rfl k) ?_
        show own_G p e below (T109.setTop (mkF m 105 #[.val (.int p1), .val (.int p2), .val (.int p3), .val (.int p4), .val (.long uu), .second, .val (.long vv), .second, .val (.long ww), .second, .val (.long lo), .second, .val (.long hi), .second, .val (.long mi), .second, .val (.int (0 : Int32)), .val (.int y0), .val (.int y1), .val (.int y2), .unset, .unset] [(.int (0 : Int32))])) _
        obtain ⟨T112, h112, k112, X112, e112, E112, A112, Y112, st112⟩ := newPE X109 hx hZ (hw _ (List.mem_of_getElem? (i := 8) rfl)) e109 (g := (mkF m 105 #[.val (.int p1), .val (.int p2), .val (.int p3), .val (.int p4), .val (.long uu), .second, .val (.long vv), .second, .val (.long ww), .second, .val (.long lo), .second, .val (.long hi), .second, .val (.long mi), .second, .val (.int (0 : Int32)), .val (.int y0), .val (.int y1), .val (.int y2), .unset, .unset] [(.int (0 : Int32))])) rfl (hb hby at_105) rfl (by decide) (cap := 0) (by decide) (by decide) (by decide) (by decide) (ad := "[I") (by decide)
        obtain ⟨b112, g112⟩ : ∃ z, z = h0.size := ⟨_, rfl⟩
        rw [← g112] at A112 Y112 st112
        refine own_go st112 ?_
        have ge113 : n0 ≤ b112 := Nat.le_trans Z0 (Nat.le_of_eq g112.symm)
        have zs114 : n0 ≤ h112.size := Nat.le_trans Z0 E112.1
        have V112 : Arv Z h112 b112 k112 .int (0 : Int32) [] (.int (0 : Int32)) := (Arv.new A112 (by decide)).pad (pad_rep [] (.int (0 : Int32)) 0)
        show own_G p e below (T112.setTop (mkF m 107 #[.val (.int p1), .val (.int p2), .val (.int p3), .val (.int p4), .val (.long uu), .second, .val (.long vv), .second, .val (.long ww), .second, .val (.long lo), .second, .val (.long hi), .second, .val (.long mi), .second, .val (.int (0 : Int32)), .val (.int y0), .val (.int y1), .val (.int y2), .unset, .unset] [(.ref b112)])) _
        refine own_go (fun _ k => XS.astore X112.here hx rfl (hb hby at_107) rfl rfl (l' := #[.val (.int p1), .val (.int p2), .val (.int p3), .val (.int p4), .val (.long uu), .second, .val (.long vv), .second, .val (.long ww), .second, .val (.long lo), .second, .val (.long hi), .second, .val (.long mi), .second, .val (.int (0 : Int32)), .val (.int y0), .val (.int y1), .val (.int y2), .val (.ref b112), .unset]) rfl k) ?_
        show own_G p e below (T112.setTop (mkF m 109 #[.val (.int p1), .val (.int p2), .val (.int p3), .val (.int p4), .val (.long uu), .second, .val (.long vv), .second, .val (.long ww), .second, .val (.long lo), .second, .val (.long hi), .second, .val (.long mi), .second, .val (.int (0 : Int32)), .val (.int y0), .val (.int y1), .val (.int y2), .val (.ref b112), .unset] [])) _
        refine own_go (fun _ k => XS.iload X112.here hx rfl (hb hby at_109) rfl k) ?_
        show own_G p e below (T112.setTop (mkF m 111 #[.val (.int p1), .val (.int p2), .val (.int p3), .val (.int p4), .val (.long uu), .second, .val (.long vv), .second, .val (.long ww), .second, .val (.long lo), .second, .val (.long hi), .second, .val (.long mi), .second, .val (.int (0 : Int32)), .val (.int y0), .val (.int y1), .val (.int y2), .val (.ref b112), .unset] [(.int (0 : Int32))])) _
        refine own_go (fun _ k => XS.ifYes X112.here hx rfl (pc0 := 111) (pc' := 120) rfl (hb hby at_111) rfl ((if0 _ _).trans (flt (by decide : ¬ ((0 : Int32) < (0 : Int32)))).2.2.2) (by decide) (by decide) k) ?_
        show own_G p e below (T112.setTop (mkF m 120 #[.val (.int p1), .val (.int p2), .val (.int p3), .val (.int p4), .val (.long uu), .second, .val (.long vv), .second, .val (.long ww), .second, .val (.long lo), .second, .val (.long hi), .second, .val (.long mi), .second, .val (.int (0 : Int32)), .val (.int y0), .val (.int y1), .val (.int y2), .val (.ref b112), .unset] [])) _
        refine own_go (fun _ k => XS.iload X112.here hx rfl (hb hby at_120) rfl k) ?_
        show own_G p e below (T112.setTop (mkF m 122 #[.val (.int p1), .val (.int p2), .val (.int p3), .val (.int p4), .val (.long uu), .second, .val (.long vv), .second, .val (.long ww), .second, .val (.long lo), .second, .val (.long hi), .second, .val (.long mi), .second, .val (.int (0 : Int32)), .val (.int y0), .val (.int y1), .val (.int y2), .val (.ref b112), .unset] [(.int (0 : Int32))])) _
        refine own_go (fun _ k => XS.iconst X112.here hx rfl (hb hby at_122) k) ?_
        show own_G p e below (T112.setTop (mkF m 123 #[.val (.int p1), .val (.int p2), .val (.int p3), .val (.int p4), .val (.long uu), .second, .val (.long vv), .second, .val (.long ww), .second, .val (.long lo), .second, .val (.long hi), .second, .val (.long mi), .second, .val (.int (0 : Int32)), .val (.int y0), .val (.int y1), .val (.int y2), .val (.ref b112), .unset] [(.int (1 : Int32)), (.int (0 : Int32))])) _
        refine own_go (fun _ k => XS.icmpYes X112.here hx rfl (pc0 := 123) (pc' := 132) rfl (hb hby at_123) rfl (flt (by decide : ¬ ((1 : Int32) < (0 : Int32)))).2.2.2 (by decide) (by decide) k) ?_
        show own_G p e below (T112.setTop (mkF m 132 #[.val (.int p1), .val (.int p2), .val (.int p3), .val (.int p4), .val (.long uu), .second, .val (.long vv), .second, .val (.long ww), .second, .val (.long lo), .second, .val (.long hi), .second, .val (.long mi), .second, .val (.int (0 : Int32)), .val (.int y0), .val (.int y1), .val (.int y2), .val (.ref b112), .unset] [])) _
        refine own_go (fun _ k => XS.iload X112.here hx rfl (hb hby at_132) rfl k) ?_
        show own_G p e below (T112.setTop (mkF m 134 #[.val (.int p1), .val (.int p2), .val (.int p3), .val (.int p4), .val (.long uu), .second, .val (.long vv), .second, .val (.long ww), .second, .val (.long lo), .second, .val (.long hi), .second, .val (.long mi), .second, .val (.int (0 : Int32)), .val (.int y0), .val (.int y1), .val (.int y2), .val (.ref b112), .unset] [(.int (0 : Int32))])) _
        refine own_go (fun _ k => XS.iconst X112.here hx rfl (hb hby at_134) k) ?_
        show own_G p e below (T112.setTop (mkF m 135 #[.val (.int p1), .val (.int p2), .val (.int p3), .val (.int p4), .val (.long uu), .second, .val (.long vv), .second, .val (.long ww), .second, .val (.long lo), .second, .val (.long hi), .second, .val (.long mi), .second, .val (.int (0 : Int32)), .val (.int y0), .val (.int y1), .val (.int y2), .val (.ref b112), .unset] [(.int (2 : Int32)), (.int (0 : Int32))])) _
        refine own_go (fun _ k => XS.icmpYes X112.here hx rfl (pc0 := 135) (pc' := 144) rfl (hb hby at_135) rfl (flt (by decide : ¬ ((2 : Int32) < (0 : Int32)))).2.2.2 (by decide) (by decide) k) ?_
        show own_G p e below (T112.setTop (mkF m 144 #[.val (.int p1), .val (.int p2), .val (.int p3), .val (.int p4), .val (.long uu), .second, .val (.long vv), .second, .val (.long ww), .second, .val (.long lo), .second, .val (.long hi), .second, .val (.long mi), .second, .val (.int (0 : Int32)), .val (.int y0), .val (.int y1), .val (.int y2), .val (.ref b112), .unset] [])) _
        refine own_go (fun _ k => XS.aload X112.here hx rfl (hb hby at_144) rfl rfl k) ?_
        show own_G p e below (T112.setTop (mkF m 146 #[.val (.int p1), .val (.int p2), .val (.int p3), .val (.int p4), .val (.long uu), .second, .val (.long vv), .second, .val (.long ww), .second, .val (.long lo), .second, .val (.long hi), .second, .val (.long mi), .second, .val (.int (0 : Int32)), .val (.int y0), .val (.int y1), .val (.int y2), .val (.ref b112), .unset] [(.ref b112)])) _
        obtain ⟨_, _, ⟨T115, L115, k115, n115⟩, -, X115, ⟨Lc115, hQ115, l115, y115, z115⟩, st115⟩ := Jvm.LawKit.callS X112 hx (y := (⟨"com/example/bitfold/bitfold/IdLists", "gaps", "([I)[I"⟩ : MethodName)) hown (mvT hZ (hw _ (List.mem_of_getElem? (i := 9) rfl))) (mvT hZ (hw _ (List.mem_of_getElem? (i := 10) rfl))) (mvT hZ (hw _ (List.mem_of_getElem? (i := 11) rfl))) (mvT hZ (hw _ (List.mem_of_getElem? (i := 12) rfl))) (by decide) (backOf (W := 0) (rm3_0 l Z a0 hw [] b112 k112 h112 n0 zs114 V112 Y112) hZ (hw _ (List.mem_of_getElem? (i := 12) rfl)) (hw _ (List.mem_of_getElem? (i := 11) rfl)) (by decide) (by decide)) (g := (mkF m 146 #[.val (.int p1), .val (.int p2), .val (.int p3), .val (.int p4), .val (.long uu), .second, .val (.long vv), .second, .val (.long ww), .second, .val (.long lo), .second, .val (.long hi), .second, .val (.long mi), .second, .val (.int (0 : Int32)), .val (.int y0), .val (.int y1), .val (.int y2), .val (.ref b112), .unset] [(.ref b112)])) rfl (by rw [hml]; rfl) (argsL := [(.ref b112)]) (rest := []) (lenOf pd_1 rfl) rfl (by show 2 * 0 + _ ≤ _; exact Nat.le_of_eq rfl) (hb hby at_146) (fun _ _ => ⟨rfl, e112, (by decide : 0 + 0 + 0 + 0 + 0 + 1 + 1 ≤ _), (by decide : 0 + 0 + 0 + 0 + 0 + 0 + 0 ≤ _)⟩)
        dsimp only [Pt.U, Pt.locs, Pt.cells, Pt.slots] at X115 l115 y115 z115 st115 hQ115
        subst l115 y115 z115
        obtain ⟨g115, kg115, rfl, Nq115, K115, Vg115⟩ := hQ115
        have N115 := Fr.app N109 Nq115
        refine own_go st115 ?_
        have f116 := V112.keep K115 nin0
        have f117 := Y112.keep K115
        have zs118 : n0 ≤ T115.heap.size := Nat.le_trans zs114 K115.1
        show own_G p e below (T115.setTop (mkF m 149 #[.val (.int p1), .val (.int p2), .val (.int p3), .val (.int p4), .val (.long uu), .second, .val (.long vv), .second, .val (.long ww), .second, .val (.long lo), .second, .val (.long hi), .second, .val (.long mi), .second, .val (.int (0 : Int32)), .val (.int y0), .val (.int y1), .val (.int y2), .val (.ref b112), .unset] [(.ref g115)])) _
        refine own_go (fun _ k => XS.astore X115.here hx rfl (hb hby at_149) rfl rfl (l' := #[.val (.int p1), .val (.int p2), .val (.int p3), .val (.int p4), .val (.long uu), .second, .val (.long vv), .second, .val (.long ww), .second, .val (.long lo), .second, .val (.long hi), .second, .val (.long mi), .second, .val (.int (0 : Int32)), .val (.int y0), .val (.int y1), .val (.int y2), .val (.ref b112), .val (.ref g115)]) rfl k) ?_
        show own_G p e below (T115.setTop (mkF m 151 #[.val (.int p1), .val (.int p2), .val (.int p3), .val (.int p4), .val (.long uu), .second, .val (.long vv), .second, .val (.long ww), .second, .val (.long lo), .second, .val (.long hi), .second, .val (.long mi), .second, .val (.int (0 : Int32)), .val (.int y0), .val (.int y1), .val (.int y2), .val (.ref b112), .val (.ref g115)] [])) _
        refine own_go (fun _ k => XS.aload X115.here hx rfl (hb hby at_151) rfl rfl k) ?_
        show own_G p e below (T115.setTop (mkF m 153 #[.val (.int p1), .val (.int p2), .val (.int p3), .val (.int p4), .val (.long uu), .second, .val (.long vv), .second, .val (.long ww), .second, .val (.long lo), .second, .val (.long hi), .second, .val (.long mi), .second, .val (.int (0 : Int32)), .val (.int y0), .val (.int y1), .val (.int y2), .val (.ref b112), .val (.ref g115)] [(.ref g115)])) _
        obtain ⟨cl119, Ar119, q119, S119, M119, B119, G119⟩ := id Vg115
        refine own_go (X115.arraylength hx Ar119.1 (State.isArrayOf_alike hZ.alike Ar119.2.1) (g := (mkF m 153 #[.val (.int p1), .val (.int p2), .val (.int p3), .val (.int p4), .val (.long uu), .second, .val (.long vv), .second, .val (.long ww), .second, .val (.long lo), .second, .val (.long hi), .second, .val (.long mi), .second, .val (.int (0 : Int32)), .val (.int y0), .val (.int y1), .val (.int y2), .val (.ref b112), .val (.ref g115)] [(.ref g115)])) rfl rfl (hb hby at_153)) ?_
        rw [len_of S119 M119]
        show own_G p e below (T115.setTop (mkF m 154 #[.val (.int p1), .val (.int p2), .val (.int p3), .val (.int p4), .val (.long uu), .second, .val (.long vv), .second, .val (.long ww), .second, .val (.long lo), .second, .val (.long hi), .second, .val (.long mi), .second, .val (.int (0 : Int32)), .val (.int y0), .val (.int y1), .val (.int y2), .val (.ref b112), .val (.ref g115)] [(.int (0 : Int32))])) _
        refine own_go (fun _ k => XS.iload X115.here hx rfl (hb hby at_154) rfl k) ?_
        show own_G p e below (T115.setTop (mkF m 156 #[.val (.int p1), .val (.int p2), .val (.int p3), .val (.int p4), .val (.long uu), .second, .val (.long vv), .second, .val (.long ww), .second, .val (.long lo), .second, .val (.long hi), .second, .val (.long mi), .second, .val (.int (0 : Int32)), .val (.int y0), .val (.int y1), .val (.int y2), .val (.ref b112), .val (.ref g115)] [(.int (0 : Int32)), (.int (0 : Int32))])) _
        refine own_go (fun _ k => XS.icmpYes X115.here hx rfl (pc0 := 156) (pc' := 161) rfl (hb hby at_156) rfl (teq (by decide : (0 : Int32) = (0 : Int32))).1 (by decide) (by decide) k) ?_
        show own_G p e below (T115.setTop (mkF m 161 #[.val (.int p1), .val (.int p2), .val (.int p3), .val (.int p4), .val (.long uu), .second, .val (.long vv), .second, .val (.long ww), .second, .val (.long lo), .second, .val (.long hi), .second, .val (.long mi), .second, .val (.int (0 : Int32)), .val (.int y0), .val (.int y1), .val (.int y2), .val (.ref b112), .val (.ref g115)] [])) _
        refine own_go (fun _ k => XS.iload X115.here hx rfl (hb hby at_161) rfl k) ?_
        show own_G p e below (T115.setTop (mkF m 163 #[.val (.int p1), .val (.int p2), .val (.int p3), .val (.int p4), .val (.long uu), .second, .val (.long vv), .second, .val (.long ww), .second, .val (.long lo), .second, .val (.long hi), .second, .val (.long mi), .second, .val (.int (0 : Int32)), .val (.int y0), .val (.int y1), .val (.int y2), .val (.ref b112), .val (.ref g115)] [(.int (0 : Int32))])) _
        refine own_go (fun _ k => XS.ifYes X115.here hx rfl (pc0 := 163) (pc' := 188) rfl (hb hby at_163) rfl ((if0 _ _).trans (flt (by decide : ¬ ((0 : Int32) < (0 : Int32)))).2.2.2) (by decide) (by decide) k) ?_
        show own_G p e below (T115.setTop (mkF m 188 #[.val (.int p1), .val (.int p2), .val (.int p3), .val (.int p4), .val (.long uu), .second, .val (.long vv), .second, .val (.long ww), .second, .val (.long lo), .second, .val (.long hi), .second, .val (.long mi), .second, .val (.int (0 : Int32)), .val (.int y0), .val (.int y1), .val (.int y2), .val (.ref b112), .val (.ref g115)] [])) _
        refine own_go (fun _ k => XS.iload X115.here hx rfl (hb hby at_188) rfl k) ?_
        show own_G p e below (T115.setTop (mkF m 190 #[.val (.int p1), .val (.int p2), .val (.int p3), .val (.int p4), .val (.long uu), .second, .val (.long vv), .second, .val (.long ww), .second, .val (.long lo), .second, .val (.long hi), .second, .val (.long mi), .second, .val (.int (0 : Int32)), .val (.int y0), .val (.int y1), .val (.int y2), .val (.ref b112), .val (.ref g115)] [(.int (0 : Int32))])) _
        refine own_go (fun _ k => XS.iconst X115.here hx rfl (hb hby at_190) k) ?_
        show own_G p e below (T115.setTop (mkF m 191 #[.val (.int p1), .val (.int p2), .val (.int p3), .val (.int p4), .val (.long uu), .second, .val (.long vv), .second, .val (.long ww), .second, .val (.long lo), .second, .val (.long hi), .second, .val (.long mi), .second, .val (.int (0 : Int32)), .val (.int y0), .val (.int y1), .val (.int y2), .val (.ref b112), .val (.ref g115)] [(.int (1 : Int32)), (.int (0 : Int32))])) _
        refine own_go (fun _ k => XS.icmpYes X115.here hx rfl (pc0 := 191) (pc' := 219) rfl (hb hby at_191) rfl (flt (by decide : ¬ ((1 : Int32) < (0 : Int32)))).2.2.2 (by decide) (by decide) k) ?_
        show own_G p e below (T115.setTop (mkF m 219 #[.val (.int p1), .val (.int p2), .val (.int p3), .val (.int p4), .val (.long uu), .second, .val (.long vv), .second, .val (.long ww), .second, .val (.long lo), .second, .val (.long hi), .second, .val (.long mi), .second, .val (.int (0 : Int32)), .val (.int y0), .val (.int y1), .val (.int y2), .val (.ref b112), .val (.ref g115)] [])) _
        refine own_go (fun _ k => XS.iload X115.here hx rfl (hb hby at_219) rfl k) ?_
        show own_G p e below (T115.setTop (mkF m 221 #[.val (.int p1), .val (.int p2), .val (.int p3), .val (.int p4), .val (.long uu), .second, .val (.long vv), .second, .val (.long ww), .second, .val (.long lo), .second, .val (.long hi), .second, .val (.long mi), .second, .val (.int (0 : Int32)), .val (.int y0), .val (.int y1), .val (.int y2), .val (.ref b112), .val (.ref g115)] [(.int (0 : Int32))])) _
        refine own_go (fun _ k => XS.iconst X115.here hx rfl (hb hby at_221) k) ?_
        show own_G p e below (T115.setTop (mkF m 222 #[.val (.int p1), .val (.int p2), .val (.int p3), .val (.int p4), .val (.long uu), .second, .val (.long vv), .second, .val (.long ww), .second, .val (.long lo), .second, .val (.long hi), .second, .val (.long mi), .second, .val (.int (0 : Int32)), .val (.int y0), .val (.int y1), .val (.int y2), .val (.ref b112), .val (.ref g115)] [(.int (2 : Int32)), (.int (0 : Int32))])) _
        refine own_go (fun _ k => XS.icmpYes X115.here hx rfl (pc0 := 222) (pc' := 250) rfl (hb hby at_222) rfl (flt (by decide : ¬ ((2 : Int32) < (0 : Int32)))).2.2.2 (by decide) (by decide) k) ?_
        show own_G p e below (T115.setTop (mkF m 250 #[.val (.int p1), .val (.int p2), .val (.int p3), .val (.int p4), .val (.long uu), .second, .val (.long vv), .second, .val (.long ww), .second, .val (.long lo), .second, .val (.long hi), .second, .val (.long mi), .second, .val (.int (0 : Int32)), .val (.int y0), .val (.int y1), .val (.int y2), .val (.ref b112), .val (.ref g115)] [])) _
        refine own_go (fun _ k => XS.iconst X115.here hx rfl (hb hby at_250) k) ?_
        show own_G p e below (T115.setTop (mkF m 251 #[.val (.int p1), .val (.int p2), .val (.int p3), .val (.int p4), .val (.long uu), .second, .val (.long vv), .second, .val (.long ww), .second, .val (.long lo), .second, .val (.long hi), .second, .val (.long mi), .second, .val (.int (0 : Int32)), .val (.int y0), .val (.int y1), .val (.int y2), .val (.ref b112), .val (.ref g115)] [(.int (1 : Int32))])) _
        refine own_ret X115 hlk (v := some (.int (1 : Int32))) (fun h => by rw [hret] at h; cases h) (Q0 Z p1 p2 p3 p4 h0 n0) (own_retI X115 hx (t := .boolean) hret rfl (Or.inl ⟨rfl, by simp, _, rfl⟩) (hb hby at_251)) (by decide) (by decide) ?_
        show Q0 Z p1 p2 p3 p4 h0 n0 _ T115.heap _
        exact ⟨rfl, N115⟩
      · rw [hn]
        show own_G p e below (T109.setTop (mkF m 86 #[.val (.int p1), .val (.int p2), .val (.int p3), .val (.int p4), .val (.long uu), .second, .val (.long vv), .second, .val (.long ww), .second, .val (.long lo), .second, .val (.long hi), .second, .val (.long mi), .second, .unset, .unset, .unset, .unset, .unset, .unset] [(.int (1 : Int32))])) _
        refine own_go (fun _ k => XS.istore X109.here hx rfl (hb hby at_86) rfl (l' := #[.val (.int p1), .val (.int p2), .val (.int p3), .val (.int p4), .val (.long uu), .second, .val (.long vv), .second, .val (.long ww), .second, .val (.long lo), .second, .val (.long hi), .second, .val (.long mi), .second, .val (.int (1 : Int32)), .unset, .unset, .unset, .unset, .unset]) rfl k) ?_
        show own_G p e below (T109.setTop (mkF m 88 #[.val (.int p1), .val (.int p2), .val (.int p3), .val (.int p4), .val (.long uu), .second, .val (.long vv), .second, .val (.long ww), .second, .val (.long lo), .second, .val (.long hi), .second, .val (.long mi), .second, .val (.int (1 : Int32)), .unset, .unset, .unset, .unset, .unset] [])) _
        refine own_go (fun _ k => XS.lload X109.here hx rfl (hb hby at_88) rfl k) ?_
        show own_G p e below (T109.setTop (mkF m 90 #[.val (.int p1), .val (.int p2), .val (.int p3), .val (.int p4), .val (.long uu), .second, .val (.long vv), .second, .val (.long ww), .second, .val (.long lo), .second, .val (.long hi), .second, .val (.long mi), .second, .val (.int (1 : Int32)), .unset, .unset, .unset, .unset, .unset] [(.long lo)])) _
        refine own_go (fun _ k => XS.l2i X109.here hx rfl (hb hby at_90) rfl k) ?_
        show own_G p e below (T109.setTop (mkF m 91 #[.val (.int p1), .val (.int p2), .val (.int p3), .val (.int p4), .val (.long uu), .second, .val (.long vv), .second, .val (.long ww), .second, .val (.long lo), .second, .val (.long hi), .second, .val (.long mi), .second, .val (.int (1 : Int32)), .unset, .unset, .unset, .unset, .unset] [(.int (lo.toInt32))])) _
        generalize hy0 : (lo.toInt32) = y0
        show own_G p e below (T109.setTop (mkF m 91 #[.val (.int p1), .val (.int p2), .val (.int p3), .val (.int p4), .val (.long uu), .second, .val (.long vv), .second, .val (.long ww), .second, .val (.long lo), .second, .val (.long hi), .second, .val (.long mi), .second, .val (.int (1 : Int32)), .unset, .unset, .unset, .unset, .unset] [(.int y0)])) _
        refine own_go (fun _ k => XS.istore X109.here hx rfl (hb hby at_91) rfl (l' := #[.val (.int p1), .val (.int p2), .val (.int p3), .val (.int p4), .val (.long uu), .second, .val (.long vv), .second, .val (.long ww), .second, .val (.long lo), .second, .val (.long hi), .second, .val (.long mi), .second, .val (.int (1 : Int32)), .val (.int y0), .unset, .unset, .unset, .unset]) rfl k) ?_
        show own_G p e below (T109.setTop (mkF m 93 #[.val (.int p1), .val (.int p2), .val (.int p3), .val (.int p4), .val (.long uu), .second, .val (.long vv), .second, .val (.long ww), .second, .val (.long lo), .second, .val (.long hi), .second, .val (.long mi), .second, .val (.int (1 : Int32)), .val (.int y0), .unset, .unset, .unset, .unset] [])) _
        refine own_go (fun _ k => XS.lload X109.here hx rfl (hb hby at_93) rfl k) ?_
        show own_G p e below (T109.setTop (mkF m 95 #[.val (.int p1), .val (.int p2), .val (.int p3), .val (.int p4), .val (.long uu), .second, .val (.long vv), .second, .val (.long ww), .second, .val (.long lo), .second, .val (.long hi), .second, .val (.long mi), .second, .val (.int (1 : Int32)), .val (.int y0), .unset, .unset, .unset, .unset] [(.long mi)])) _
        refine own_go (fun _ k => XS.l2i X109.here hx rfl (hb hby at_95) rfl k) ?_
        show own_G p e below (T109.setTop (mkF m 96 #[.val (.int p1), .val (.int p2), .val (.int p3), .val (.int p4), .val (.long uu), .second, .val (.long vv), .second, .val (.long ww), .second, .val (.long lo), .second, .val (.long hi), .second, .val (.long mi), .second, .val (.int (1 : Int32)), .val (.int y0), .unset, .unset, .unset, .unset] [(.int (mi.toInt32))])) _
        generalize hy1 : (mi.toInt32) = y1
        show own_G p e below (T109.setTop (mkF m 96 #[.val (.int p1), .val (.int p2), .val (.int p3), .val (.int p4), .val (.long uu), .second, .val (.long vv), .second, .val (.long ww), .second, .val (.long lo), .second, .val (.long hi), .second, .val (.long mi), .second, .val (.int (1 : Int32)), .val (.int y0), .unset, .unset, .unset, .unset] [(.int y1)])) _
        refine own_go (fun _ k => XS.istore X109.here hx rfl (hb hby at_96) rfl (l' := #[.val (.int p1), .val (.int p2), .val (.int p3), .val (.int p4), .val (.long uu), .second, .val (.long vv), .second, .val (.long ww), .second, .val (.long lo), .second, .val (.long hi), .second, .val (.long mi), .second, .val (.int (1 : Int32)), .val (.int y0), .val (.int y1), .unset, .unset, .unset]) rfl k) ?_
        show own_G p e below (T109.setTop (mkF m 98 #[.val (.int p1), .val (.int p2), .val (.int p3), .val (.int p4), .val (.long uu), .second, .val (.long vv), .second, .val (.long ww), .second, .val (.long lo), .second, .val (.long hi), .second, .val (.long mi), .second, .val (.int (1 : Int32)), .val (.int y0), .val (.int y1), .unset, .unset, .unset] [])) _
        refine own_go (fun _ k => XS.lload X109.here hx rfl (hb hby at_98) rfl k) ?_
        show own_G p e below (T109.setTop (mkF m 100 #[.val (.int p1), .val (.int p2), .val (.int p3), .val (.int p4), .val (.long uu), .second, .val (.long vv), .second, .val (.long ww), .second, .val (.long lo), .second, .val (.long hi), .second, .val (.long mi), .second, .val (.int (1 : Int32)), .val (.int y0), .val (.int y1), .unset, .unset, .unset] [(.long hi)])) _
        refine own_go (fun _ k => XS.l2i X109.here hx rfl (hb hby at_100) rfl k) ?_
        show own_G p e below (T109.setTop (mkF m 101 #[.val (.int p1), .val (.int p2), .val (.int p3), .val (.int p4), .val (.long uu), .second, .val (.long vv), .second, .val (.long ww), .second, .val (.long lo), .second, .val (.long hi), .second, .val (.long mi), .second, .val (.int (1 : Int32)), .val (.int y0), .val (.int y1), .unset, .unset, .unset] [(.int (hi.toInt32))])) _
        generalize hy2 : (hi.toInt32) = y2
        have hy : own_ys lo mi hi y0 y1 y2 := ⟨hs, hc70_110, hc78_111, hy0, hy1, hy2⟩
        show own_G p e below (T109.setTop (mkF m 101 #[.val (.int p1), .val (.int p2), .val (.int p3), .val (.int p4), .val (.long uu), .second, .val (.long vv), .second, .val (.long ww), .second, .val (.long lo), .second, .val (.long hi), .second, .val (.long mi), .second, .val (.int (1 : Int32)), .val (.int y0), .val (.int y1), .unset, .unset, .unset] [(.int y2)])) _
        refine own_go (fun _ k => XS.istore X109.here hx rfl (hb hby at_101) rfl (l' := #[.val (.int p1), .val (.int p2), .val (.int p3), .val (.int p4), .val (.long uu), .second, .val (.long vv), .second, .val (.long ww), .second, .val (.long lo), .second, .val (.long hi), .second, .val (.long mi), .second, .val (.int (1 : Int32)), .val (.int y0), .val (.int y1), .val (.int y2), .unset, .unset]) rfl k) ?_
        show own_G p e below (T109.setTop (mkF m 103 #[.val (.int p1), .val (.int p2), .val (.int p3), .val (.int p4), .val (.long uu), .second, .val (.long vv), .second, .val (.long ww), .second, .val (.long lo), .second, .val (.long hi), .second, .val (.long mi), .second, .val (.int (1 : Int32)), .val (.int y0), .val (.int y1), .val (.int y2), .unset, .unset] [])) _
        refine own_go (fun _ k => XS.iload X109.here hx rfl (hb hby at_103) rfl k) ?_
        show own_G p e below (T109.setTop (mkF m 105 #[.val (.int p1), .val (.int p2), .val (.int p3), .val (.int p4), .val (.long uu), .second, .val (.long vv), .second, .val (.long ww), .second, .val (.long lo), .second, .val (.long hi), .second, .val (.long mi), .second, .val (.int (1 : Int32)), .val (.int y0), .val (.int y1), .val (.int y2), .unset, .unset] [(.int (1 : Int32))])) _
        obtain ⟨T120, h120, k120, X120, e120, E120, A120, Y120, st120⟩ := newPE X109 hx hZ (hw _ (List.mem_of_getElem? (i := 8) rfl)) e109 (g := (mkF m 105 #[.val (.int p1), .val (.int p2), .val (.int p3), .val (.int p4), .val (.long uu), .second, .val (.long vv), .second, .val (.long ww), .second, .val (.long lo), .second, .val (.long hi), .second, .val (.long mi), .second, .val (.int (1 : Int32)), .val (.int y0), .val (.int y1), .val (.int y2), .unset, .unset] [(.int (1 : Int32))])) rfl (hb hby at_105) rfl (by decide) (cap := 1) (by decide) (by decide) (by decide) (by decide) (ad := "[I") (by decide)
        obtain ⟨b120, g120⟩ : ∃ z, z = h0.size := ⟨_, rfl⟩
        rw [← g120] at A120 Y120 st120
        refine own_go st120 ?_
        have ge121 : n0 ≤ b120 := Nat.le_trans Z0 (Nat.le_of_eq g120.symm)
        have zs122 : n0 ≤ h120.size := Nat.le_trans Z0 E120.1
        have V120 : Arv Z h120 b120 k120 .int (1 : Int32) [(.int (0 : Int32))] (.int (0 : Int32)) := (Arv.new A120 (by decide)).pad (pad_rep [] (.int (0 : Int32)) 1)
        show own_G p e below (T120.setTop (mkF m 107 #[.val (.int p1), .val (.int p2), .val (.int p3), .val (.int p4), .val (.long uu), .second, .val (.long vv), .second, .val (.long ww), .second, .val (.long lo), .second, .val (.long hi), .second, .val (.long mi), .second, .val (.int (1 : Int32)), .val (.int y0), .val (.int y1), .val (.int y2), .unset, .unset] [(.ref b120)])) _
        refine own_go (fun _ k => XS.astore X120.here hx rfl (hb hby at_107) rfl rfl (l' := #[.val (.int p1), .val (.int p2), .val (.int p3), .val (.int p4), .val (.long uu), .second, .val (.long vv), .second, .val (.long ww), .second, .val (.long lo), .second, .val (.long hi), .second, .val (.long mi), .second, .val (.int (1 : Int32)), .val (.int y0), .val (.int y1), .val (.int y2), .val (.ref b120), .unset]) rfl k) ?_
        show own_G p e below (T120.setTop (mkF m 109 #[.val (.int p1), .val (.int p2), .val (.int p3), .val (.int p4), .val (.long uu), .second, .val (.long vv), .second, .val (.long ww), .second, .val (.long lo), .second, .val (.long hi), .second, .val (.long mi), .second, .val (.int (1 : Int32)), .val (.int y0), .val (.int y1), .val (.int y2), .val (.ref b120), .unset] [])) _
        refine own_go (fun _ k => XS.iload X120.here hx rfl (hb hby at_109) rfl k) ?_
        show own_G p e below (T120.setTop (mkF m 111 #[.val (.int p1), .val (.int p2), .val (.int p3), .val (.int p4), .val (.long uu), .second, .val (.long vv), .second, .val (.long ww), .second, .val (.long lo), .second, .val (.long hi), .second, .val (.long mi), .second, .val (.int (1 : Int32)), .val (.int y0), .val (.int y1), .val (.int y2), .val (.ref b120), .unset] [(.int (1 : Int32))])) _
        refine own_go (fun _ k => XS.ifNo X120.here hx rfl (hb hby at_111) rfl ((if0 _ _).trans (tlt (by decide : (0 : Int32) < (1 : Int32))).2.2.2) k) ?_
        show own_G p e below (T120.setTop (mkF m 114 #[.val (.int p1), .val (.int p2), .val (.int p3), .val (.int p4), .val (.long uu), .second, .val (.long vv), .second, .val (.long ww), .second, .val (.long lo), .second, .val (.long hi), .second, .val (.long mi), .second, .val (.int (1 : Int32)), .val (.int y0), .val (.int y1), .val (.int y2), .val (.ref b120), .unset] [])) _
        refine own_go (fun _ k => XS.aload X120.here hx rfl (hb hby at_114) rfl rfl k) ?_
        show own_G p e below (T120.setTop (mkF m 116 #[.val (.int p1), .val (.int p2), .val (.int p3), .val (.int p4), .val (.long uu), .second, .val (.long vv), .second, .val (.long ww), .second, .val (.long lo), .second, .val (.long hi), .second, .val (.long mi), .second, .val (.int (1 : Int32)), .val (.int y0), .val (.int y1), .val (.int y2), .val (.ref b120), .unset] [(.ref b120)])) _
        refine own_go (fun _ k => XS.iconst X120.here hx rfl (hb hby at_116) k) ?_
        show own_G p e below (T120.setTop (mkF m 117 #[.val (.int p1), .val (.int p2), .val (.int p3), .val (.int p4), .val (.long uu), .second, .val (.long vv), .second, .val (.long ww), .second, .val (.long lo), .second, .val (.long hi), .second, .val (.long mi), .second, .val (.int (1 : Int32)), .val (.int y0), .val (.int y1), .val (.int y2), .val (.ref b120), .unset] [(.int (0 : Int32)), (.ref b120)])) _
        refine own_go (fun _ k => XS.iload X120.here hx rfl (hb hby at_117) rfl k) ?_
        show own_G p e below (T120.setTop (mkF m 119 #[.val (.int p1), .val (.int p2), .val (.int p3), .val (.int p4), .val (.long uu), .second, .val (.long vv), .second, .val (.long ww), .second, .val (.long lo), .second, .val (.long hi), .second, .val (.long mi), .second, .val (.int (1 : Int32)), .val (.int y0), .val (.int y1), .val (.int y2), .val (.ref b120), .unset] [(.int y0), (.int (0 : Int32)), (.ref b120)])) _
        obtain ⟨cl123, Ar123, q123, S123, M123, B123, G123⟩ := id V120
        have hin123 : ¬ ((0 : Int32) < 0 ∨ cl123.slots.size ≤ ((0 : Int32)).toNatClampNeg) := inb_of S123 ⟨by decide, by decide⟩
        obtain ⟨T123, h123, X123, e123, W123, st123⟩ := stI X120 hx hZ e120 Ar123 (j := (0 : Int32)) hin123 (g := (mkF m 119 #[.val (.int p1), .val (.int p2), .val (.int p3), .val (.int p4), .val (.long uu), .second, .val (.long vv), .second, .val (.long ww), .second, .val (.long lo), .second, .val (.long hi), .second, .val (.long mi), .second, .val (.int (1 : Int32)), .val (.int y0), .val (.int y1), .val (.int y2), .val (.ref b120), .unset] [(.int y0), (.int (0 : Int32)), (.ref b120)])) rfl rfl (hb hby at_119)
        refine own_go st123 ?_
        have f124 := Y120.wr W123
        have zs125 : n0 ≤ h123.size := Nat.le_trans zs122 (Keep.of_wr W123).1
        have V123 : Arv Z h123 b120 k120 .int (1 : Int32) [(.int y0)] (.int (0 : Int32)) := Arv.set Ar123 q123 S123 M123 B123 G123 rfl W123 0 rfl (Nat.le_of_ble_eq_true rfl)
        have N123 := Fr.snoc X123 N109 ge121
        show own_G p e below (T123.setTop (mkF m 120 #[.val (.int p1), .val (.int p2), .val (.int p3), .val (.int p4), .val (.long uu), .second, .val (.long vv), .second, .val (.long ww), .second, .val (.long lo), .second, .val (.long hi), .second, .val (.long mi), .second, .val (.int (1 : Int32)), .val (.int y0), .val (.int y1), .val (.int y2), .val (.ref b120), .unset] [])) _
        refine own_go (fun _ k => XS.iload X123.here hx rfl (hb hby at_120) rfl k) ?_
        show own_G p e below (T123.setTop (mkF m 122 #[.val (.int p1), .val (.int p2), .val (.int p3), .val (.int p4), .val (.long uu), .second, .val (.long vv), .second, .val (.long ww), .second, .val (.long lo), .second, .val (.long hi), .second, .val (.long mi), .second, .val (.int (1 : Int32)), .val (.int y0), .val (.int y1), .val (.int y2), .val (.ref b120), .unset] [(.int (1 : Int32))])) _
        refine own_go (fun _ k => XS.iconst X123.here hx rfl (hb hby at_122) k) ?_
        show own_G p e below (T123.setTop (mkF m 123 #[.val (.int p1), .val (.int p2), .val (.int p3), .val (.int p4), .val (.long uu), .second, .val (.long vv), .second, .val (.long ww), .second, .val (.long lo), .second, .val (.long hi), .second, .val (.long mi), .second, .val (.int (1 : Int32)), .val (.int y0), .val (.int y1), .val (.int y2), .val (.ref b120), .unset] [(.int (1 : Int32)), (.int (1 : Int32))])) _
        refine own_go (fun _ k => XS.icmpYes X123.here hx rfl (pc0 := 123) (pc' := 132) rfl (hb hby at_123) rfl (flt (by decide : ¬ ((1 : Int32) < (1 : Int32)))).2.2.2 (by decide) (by decide) k) ?_
        show own_G p e below (T123.setTop (mkF m 132 #[.val (.int p1), .val (.int p2), .val (.int p3), .val (.int p4), .val (.long uu), .second, .val (.long vv), .second, .val (.long ww), .second, .val (.long lo), .second, .val (.long hi), .second, .val (.long mi), .second, .val (.int (1 : Int32)), .val (.int y0), .val (.int y1), .val (.int y2), .val (.ref b120), .unset] [])) _
        refine own_go (fun _ k => XS.iload X123.here hx rfl (hb hby at_132) rfl k) ?_
        show own_G p e below (T123.setTop (mkF m 134 #[.val (.int p1), .val (.int p2), .val (.int p3), .val (.int p4), .val (.long uu), .second, .val (.long vv), .second, .val (.long ww), .second, .val (.long lo), .second, .val (.long hi), .second, .val (.long mi), .second, .val (.int (1 : Int32)), .val (.int y0), .val (.int y1), .val (.int y2), .val (.ref b120), .unset] [(.int (1 : Int32))])) _
        refine own_go (fun _ k => XS.iconst X123.here hx rfl (hb hby at_134) k) ?_
        show own_G p e below (T123.setTop (mkF m 135 #[.val (.int p1), .val (.int p2), .val (.int p3), .val (.int p4), .val (.long uu), .second, .val (.long vv), .second, .val (.long ww), .second, .val (.long lo), .second, .val (.long hi), .second, .val (.long mi), .second, .val (.int (1 : Int32)), .val (.int y0), .val (.int y1), .val (.int y2), .val (.ref b120), .unset] [(.int (2 : Int32)), (.int (1 : Int32))])) _
        refine own_go (fun _ k => XS.icmpYes X123.here hx rfl (pc0 := 135) (pc' := 144) rfl (hb hby at_135) rfl (flt (by decide : ¬ ((2 : Int32) < (1 : Int32)))).2.2.2 (by decide) (by decide) k) ?_
        show own_G p e below (T123.setTop (mkF m 144 #[.val (.int p1), .val (.int p2), .val (.int p3), .val (.int p4), .val (.long uu), .second, .val (.long vv), .second, .val (.long ww), .second, .val (.long lo), .second, .val (.long hi), .second, .val (.long mi), .second, .val (.int (1 : Int32)), .val (.int y0), .val (.int y1), .val (.int y2), .val (.ref b120), .unset] [])) _
        refine own_go (fun _ k => XS.aload X123.here hx rfl (hb hby at_144) rfl rfl k) ?_
        show own_G p e below (T123.setTop (mkF m 146 #[.val (.int p1), .val (.int p2), .val (.int p3), .val (.int p4), .val (.long uu), .second, .val (.long vv), .second, .val (.long ww), .second, .val (.long lo), .second, .val (.long hi), .second, .val (.long mi), .second, .val (.int (1 : Int32)), .val (.int y0), .val (.int y1), .val (.int y2), .val (.ref b120), .unset] [(.ref b120)])) _
        obtain ⟨_, _, ⟨T126, L126, k126, n126⟩, -, X126, ⟨Lc126, hQ126, l126, y126, z126⟩, st126⟩ := Jvm.LawKit.callS X123 hx (y := (⟨"com/example/bitfold/bitfold/IdLists", "gaps", "([I)[I"⟩ : MethodName)) hown (mvT hZ (hw _ (List.mem_of_getElem? (i := 9) rfl))) (mvT hZ (hw _ (List.mem_of_getElem? (i := 10) rfl))) (mvT hZ (hw _ (List.mem_of_getElem? (i := 11) rfl))) (mvT hZ (hw _ (List.mem_of_getElem? (i := 12) rfl))) (by decide) (backOf (W := 0) (rm3_1 l Z a0 hw [] b120 k120 y0 h123 n0 zs125 V123 f124 (own_y hy).1) hZ (hw _ (List.mem_of_getElem? (i := 12) rfl)) (hw _ (List.mem_of_getElem? (i := 11) rfl)) (by decide) (by decide)) (g := (mkF m 146 #[.val (.int p1), .val (.int p2), .val (.int p3), .val (.int p4), .val (.long uu), .second, .val (.long vv), .second, .val (.long ww), .second, .val (.long lo), .second, .val (.long hi), .second, .val (.long mi), .second, .val (.int (1 : Int32)), .val (.int y0), .val (.int y1), .val (.int y2), .val (.ref b120), .unset] [(.ref b120)])) rfl (by rw [hml]; rfl) (argsL := [(.ref b120)]) (rest := []) (lenOf pd_1 rfl) rfl (by show 2 * 0 + _ ≤ _; exact Nat.le_of_eq rfl) (hb hby at_146) (fun _ _ => ⟨rfl, e123, (by decide : 0 + 0 + 0 + 0 + 0 + 1 + 1 ≤ _), (by decide : 0 + 0 + 0 + 0 + 0 + 1 + 1 ≤ _)⟩)
        dsimp only [Pt.U, Pt.locs, Pt.cells, Pt.slots] at X126 l126 y126 z126 st126 hQ126
        subst l126 y126 z126
        obtain ⟨g126, kg126, rfl, Nq126, K126, Vg126⟩ := hQ126
        have N126 := Fr.app N123 Nq126
        refine own_go st126 ?_
        have f127 := f124.keep K126
        have f128 := V123.keep K126 nin0
        have zs129 : n0 ≤ T126.heap.size := Nat.le_trans zs125 K126.1
        show own_G p e below (T126.setTop (mkF m 149 #[.val (.int p1), .val (.int p2), .val (.int p3), .val (.int p4), .val (.long uu), .second, .val (.long vv), .second, .val (.long ww), .second, .val (.long lo), .second, .val (.long hi), .second, .val (.long mi), .second, .val (.int (1 : Int32)), .val (.int y0), .val (.int y1), .val (.int y2), .val (.ref b120), .unset] [(.ref g126)])) _
        refine own_go (fun _ k => XS.astore X126.here hx rfl (hb hby at_149) rfl rfl (l' := #[.val (.int p1), .val (.int p2), .val (.int p3), .val (.int p4), .val (.long uu), .second, .val (.long vv), .second, .val (.long ww), .second, .val (.long lo), .second, .val (.long hi), .second, .val (.long mi), .second, .val (.int (1 : Int32)), .val (.int y0), .val (.int y1), .val (.int y2), .val (.ref b120), .val (.ref g126)]) rfl k) ?_
        show own_G p e below (T126.setTop (mkF m 151 #[.val (.int p1), .val (.int p2), .val (.int p3), .val (.int p4), .val (.long uu), .second, .val (.long vv), .second, .val (.long ww), .second, .val (.long lo), .second, .val (.long hi), .second, .val (.long mi), .second, .val (.int (1 : Int32)), .val (.int y0), .val (.int y1), .val (.int y2), .val (.ref b120), .val (.ref g126)] [])) _
        refine own_go (fun _ k => XS.aload X126.here hx rfl (hb hby at_151) rfl rfl k) ?_
        show own_G p e below (T126.setTop (mkF m 153 #[.val (.int p1), .val (.int p2), .val (.int p3), .val (.int p4), .val (.long uu), .second, .val (.long vv), .second, .val (.long ww), .second, .val (.long lo), .second, .val (.long hi), .second, .val (.long mi), .second, .val (.int (1 : Int32)), .val (.int y0), .val (.int y1), .val (.int y2), .val (.ref b120), .val (.ref g126)] [(.ref g126)])) _
        obtain ⟨cl130, Ar130, q130, S130, M130, B130, G130⟩ := id Vg126
        refine own_go (X126.arraylength hx Ar130.1 (State.isArrayOf_alike hZ.alike Ar130.2.1) (g := (mkF m 153 #[.val (.int p1), .val (.int p2), .val (.int p3), .val (.int p4), .val (.long uu), .second, .val (.long vv), .second, .val (.long ww), .second, .val (.long lo), .second, .val (.long hi), .second, .val (.long mi), .second, .val (.int (1 : Int32)), .val (.int y0), .val (.int y1), .val (.int y2), .val (.ref b120), .val (.ref g126)] [(.ref g126)])) rfl rfl (hb hby at_153)) ?_
        rw [len_of S130 M130]
        show own_G p e below (T126.setTop (mkF m 154 #[.val (.int p1), .val (.int p2), .val (.int p3), .val (.int p4), .val (.long uu), .second, .val (.long vv), .second, .val (.long ww), .second, .val (.long lo), .second, .val (.long hi), .second, .val (.long mi), .second, .val (.int (1 : Int32)), .val (.int y0), .val (.int y1), .val (.int y2), .val (.ref b120), .val (.ref g126)] [(.int (1 : Int32))])) _
        refine own_go (fun _ k => XS.iload X126.here hx rfl (hb hby at_154) rfl k) ?_
        show own_G p e below (T126.setTop (mkF m 156 #[.val (.int p1), .val (.int p2), .val (.int p3), .val (.int p4), .val (.long uu), .second, .val (.long vv), .second, .val (.long ww), .second, .val (.long lo), .second, .val (.long hi), .second, .val (.long mi), .second, .val (.int (1 : Int32)), .val (.int y0), .val (.int y1), .val (.int y2), .val (.ref b120), .val (.ref g126)] [(.int (1 : Int32)), (.int (1 : Int32))])) _
        refine own_go (fun _ k => XS.icmpYes X126.here hx rfl (pc0 := 156) (pc' := 161) rfl (hb hby at_156) rfl (teq (by decide : (1 : Int32) = (1 : Int32))).1 (by decide) (by decide) k) ?_
        show own_G p e below (T126.setTop (mkF m 161 #[.val (.int p1), .val (.int p2), .val (.int p3), .val (.int p4), .val (.long uu), .second, .val (.long vv), .second, .val (.long ww), .second, .val (.long lo), .second, .val (.long hi), .second, .val (.long mi), .second, .val (.int (1 : Int32)), .val (.int y0), .val (.int y1), .val (.int y2), .val (.ref b120), .val (.ref g126)] [])) _
        refine own_go (fun _ k => XS.iload X126.here hx rfl (hb hby at_161) rfl k) ?_
        show own_G p e below (T126.setTop (mkF m 163 #[.val (.int p1), .val (.int p2), .val (.int p3), .val (.int p4), .val (.long uu), .second, .val (.long vv), .second, .val (.long ww), .second, .val (.long lo), .second, .val (.long hi), .second, .val (.long mi), .second, .val (.int (1 : Int32)), .val (.int y0), .val (.int y1), .val (.int y2), .val (.ref b120), .val (.ref g126)] [(.int (1 : Int32))])) _
        refine own_go (fun _ k => XS.ifNo X126.here hx rfl (hb hby at_163) rfl ((if0 _ _).trans (tlt (by decide : (0 : Int32) < (1 : Int32))).2.2.2) k) ?_
        show own_G p e below (T126.setTop (mkF m 166 #[.val (.int p1), .val (.int p2), .val (.int p3), .val (.int p4), .val (.long uu), .second, .val (.long vv), .second, .val (.long ww), .second, .val (.long lo), .second, .val (.long hi), .second, .val (.long mi), .second, .val (.int (1 : Int32)), .val (.int y0), .val (.int y1), .val (.int y2), .val (.ref b120), .val (.ref g126)] [])) _
        refine own_go (fun _ k => XS.aload X126.here hx rfl (hb hby at_166) rfl rfl k) ?_
        show own_G p e below (T126.setTop (mkF m 168 #[.val (.int p1), .val (.int p2), .val (.int p3), .val (.int p4), .val (.long uu), .second, .val (.long vv), .second, .val (.long ww), .second, .val (.long lo), .second, .val (.long hi), .second, .val (.long mi), .second, .val (.int (1 : Int32)), .val (.int y0), .val (.int y1), .val (.int y2), .val (.ref b120), .val (.ref g126)] [(.ref g126)])) _
        refine own_go (fun _ k => XS.iconst X126.here hx rfl (hb hby at_168) k) ?_
        show own_G p e below (T126.setTop (mkF m 169 #[.val (.int p1), .val (.int p2), .val (.int p3), .val (.int p4), .val (.long uu), .second, .val (.long vv), .second, .val (.long ww), .second, .val (.long lo), .second, .val (.long hi), .second, .val (.long mi), .second, .val (.int (1 : Int32)), .val (.int y0), .val (.int y1), .val (.int y2), .val (.ref b120), .val (.ref g126)] [(.int (0 : Int32)), (.ref g126)])) _
        obtain ⟨cl131, Ar131, q131, S131, M131, B131, G131⟩ := id Vg126
        have hin131 : ¬ ((0 : Int32) < 0 ∨ cl131.slots.size ≤ ((0 : Int32)).toNatClampNeg) := inb_of S131 ⟨by decide, by decide⟩
        have hat131 : cl131.slots[((0 : Int32)).toNatClampNeg]? = some (.int (y0 - (0 : Int32))) := B131.at hin131 rfl
        refine own_go (X126.iaload hx (j := (0 : Int32)) (v := (.int (y0 - (0 : Int32)))) Ar131.1 (State.isArrayOf_alike hZ.alike Ar131.2.1) Ar131.2.2 hin131 hat131 (g := (mkF m 169 #[.val (.int p1), .val (.int p2), .val (.int p3), .val (.int p4), .val (.long uu), .second, .val (.long vv), .second, .val (.long ww), .second, .val (.long lo), .second, .val (.long hi), .second, .val (.long mi), .second, .val (.int (1 : Int32)), .val (.int y0), .val (.int y1), .val (.int y2), .val (.ref b120), .val (.ref g126)] [(.int (0 : Int32)), (.ref g126)])) rfl rfl (hb hby at_169)) ?_
        show own_G p e below (T126.setTop (mkF m 170 #[.val (.int p1), .val (.int p2), .val (.int p3), .val (.int p4), .val (.long uu), .second, .val (.long vv), .second, .val (.long ww), .second, .val (.long lo), .second, .val (.long hi), .second, .val (.long mi), .second, .val (.int (1 : Int32)), .val (.int y0), .val (.int y1), .val (.int y2), .val (.ref b120), .val (.ref g126)] [(.int (y0 - (0 : Int32)))])) _
        refine own_go (fun _ k => XS.i2l X126.here hx rfl (hb hby at_170) rfl k) ?_
        show own_G p e below (T126.setTop (mkF m 171 #[.val (.int p1), .val (.int p2), .val (.int p3), .val (.int p4), .val (.long uu), .second, .val (.long vv), .second, .val (.long ww), .second, .val (.long lo), .second, .val (.long hi), .second, .val (.long mi), .second, .val (.int (1 : Int32)), .val (.int y0), .val (.int y1), .val (.int y2), .val (.ref b120), .val (.ref g126)] [(.long ((y0 - (0 : Int32)).toInt64))])) _
        refine own_go (fun _ k => XS.lload X126.here hx rfl (hb hby at_171) rfl k) ?_
        show own_G p e below (T126.setTop (mkF m 173 #[.val (.int p1), .val (.int p2), .val (.int p3), .val (.int p4), .val (.long uu), .second, .val (.long vv), .second, .val (.long ww), .second, .val (.long lo), .second, .val (.long hi), .second, .val (.long mi), .second, .val (.int (1 : Int32)), .val (.int y0), .val (.int y1), .val (.int y2), .val (.ref b120), .val (.ref g126)] [(.long lo), (.long ((y0 - (0 : Int32)).toInt64))])) _
        refine own_go (fun _ k => XS.lcmp X126.here hx rfl (hb hby at_173) rfl k) ?_
        show own_G p e below (T126.setTop (mkF m 174 #[.val (.int p1), .val (.int p2), .val (.int p3), .val (.int p4), .val (.long uu), .second, .val (.long vv), .second, .val (.long ww), .second, .val (.long lo), .second, .val (.long hi), .second, .val (.long mi), .second, .val (.int (1 : Int32)), .val (.int y0), .val (.int y1), .val (.int y2), .val (.ref b120), .val (.ref g126)] [(.int (lcmpW ((y0 - (0 : Int32)).toInt64) lo))])) _
        refine own_go (fun _ k => XS.ifNo X126.here hx rfl (hb hby at_174) rfl ((if0 _ _).trans (teq ((lw_eq _ _).mpr (own_g0 hy))).2) k) ?_
        show own_G p e below (T126.setTop (mkF m 177 #[.val (.int p1), .val (.int p2), .val (.int p3), .val (.int p4), .val (.long uu), .second, .val (.long vv), .second, .val (.long ww), .second, .val (.long lo), .second, .val (.long hi), .second, .val (.long mi), .second, .val (.int (1 : Int32)), .val (.int y0), .val (.int y1), .val (.int y2), .val (.ref b120), .val (.ref g126)] [])) _
        refine own_go (fun _ k => XS.aload X126.here hx rfl (hb hby at_177) rfl rfl k) ?_
        show own_G p e below (T126.setTop (mkF m 179 #[.val (.int p1), .val (.int p2), .val (.int p3), .val (.int p4), .val (.long uu), .second, .val (.long vv), .second, .val (.long ww), .second, .val (.long lo), .second, .val (.long hi), .second, .val (.long mi), .second, .val (.int (1 : Int32)), .val (.int y0), .val (.int y1), .val (.int y2), .val (.ref b120), .val (.ref g126)] [(.ref b120)])) _
        refine own_go (fun _ k => XS.iconst X126.here hx rfl (hb hby at_179) k) ?_
        show own_G p e below (T126.setTop (mkF m 180 #[.val (.int p1), .val (.int p2), .val (.int p3), .val (.int p4), .val (.long uu), .second, .val (.long vv), .second, .val (.long ww), .second, .val (.long lo), .second, .val (.long hi), .second, .val (.long mi), .second, .val (.int (1 : Int32)), .val (.int y0), .val (.int y1), .val (.int y2), .val (.ref b120), .val (.ref g126)] [(.int (0 : Int32)), (.ref b120)])) _
        obtain ⟨cl132, Ar132, q132, S132, M132, B132, G132⟩ := id f128
        have hin132 : ¬ ((0 : Int32) < 0 ∨ cl132.slots.size ≤ ((0 : Int32)).toNatClampNeg) := inb_of S132 ⟨by decide, by decide⟩
        have hat132 : cl132.slots[((0 : Int32)).toNatClampNeg]? = some (.int y0) := B132.at hin132 rfl
        refine own_go (X126.iaload hx (j := (0 : Int32)) (v := (.int y0)) Ar132.1 (State.isArrayOf_alike hZ.alike Ar132.2.1) Ar132.2.2 hin132 hat132 (g := (mkF m 180 #[.val (.int p1), .val (.int p2), .val (.int p3), .val (.int p4), .val (.long uu), .second, .val (.long vv), .second, .val (.long ww), .second, .val (.long lo), .second, .val (.long hi), .second, .val (.long mi), .second, .val (.int (1 : Int32)), .val (.int y0), .val (.int y1), .val (.int y2), .val (.ref b120), .val (.ref g126)] [(.int (0 : Int32)), (.ref b120)])) rfl rfl (hb hby at_180)) ?_
        show own_G p e below (T126.setTop (mkF m 181 #[.val (.int p1), .val (.int p2), .val (.int p3), .val (.int p4), .val (.long uu), .second, .val (.long vv), .second, .val (.long ww), .second, .val (.long lo), .second, .val (.long hi), .second, .val (.long mi), .second, .val (.int (1 : Int32)), .val (.int y0), .val (.int y1), .val (.int y2), .val (.ref b120), .val (.ref g126)] [(.int y0)])) _
        refine own_go (fun _ k => XS.iload X126.here hx rfl (hb hby at_181) rfl k) ?_
        show own_G p e below (T126.setTop (mkF m 183 #[.val (.int p1), .val (.int p2), .val (.int p3), .val (.int p4), .val (.long uu), .second, .val (.long vv), .second, .val (.long ww), .second, .val (.long lo), .second, .val (.long hi), .second, .val (.long mi), .second, .val (.int (1 : Int32)), .val (.int y0), .val (.int y1), .val (.int y2), .val (.ref b120), .val (.ref g126)] [(.int y0), (.int y0)])) _
        refine own_go (fun _ k => XS.icmpYes X126.here hx rfl (pc0 := 183) (pc' := 188) rfl (hb hby at_183) rfl (teq (rfl : y0 = y0)).1 (by decide) (by decide) k) ?_
        show own_G p e below (T126.setTop (mkF m 188 #[.val (.int p1), .val (.int p2), .val (.int p3), .val (.int p4), .val (.long uu), .second, .val (.long vv), .second, .val (.long ww), .second, .val (.long lo), .second, .val (.long hi), .second, .val (.long mi), .second, .val (.int (1 : Int32)), .val (.int y0), .val (.int y1), .val (.int y2), .val (.ref b120), .val (.ref g126)] [])) _
        refine own_go (fun _ k => XS.iload X126.here hx rfl (hb hby at_188) rfl k) ?_
        show own_G p e below (T126.setTop (mkF m 190 #[.val (.int p1), .val (.int p2), .val (.int p3), .val (.int p4), .val (.long uu), .second, .val (.long vv), .second, .val (.long ww), .second, .val (.long lo), .second, .val (.long hi), .second, .val (.long mi), .second, .val (.int (1 : Int32)), .val (.int y0), .val (.int y1), .val (.int y2), .val (.ref b120), .val (.ref g126)] [(.int (1 : Int32))])) _
        refine own_go (fun _ k => XS.iconst X126.here hx rfl (hb hby at_190) k) ?_
        show own_G p e below (T126.setTop (mkF m 191 #[.val (.int p1), .val (.int p2), .val (.int p3), .val (.int p4), .val (.long uu), .second, .val (.long vv), .second, .val (.long ww), .second, .val (.long lo), .second, .val (.long hi), .second, .val (.long mi), .second, .val (.int (1 : Int32)), .val (.int y0), .val (.int y1), .val (.int y2), .val (.ref b120), .val (.ref g126)] [(.int (1 : Int32)), (.int (1 : Int32))])) _
        refine own_go (fun _ k => XS.icmpYes X126.here hx rfl (pc0 := 191) (pc' := 219) rfl (hb hby at_191) rfl (flt (by decide : ¬ ((1 : Int32) < (1 : Int32)))).2.2.2 (by decide) (by decide) k) ?_
        show own_G p e below (T126.setTop (mkF m 219 #[.val (.int p1), .val (.int p2), .val (.int p3), .val (.int p4), .val (.long uu), .second, .val (.long vv), .second, .val (.long ww), .second, .val (.long lo), .second, .val (.long hi), .second, .val (.long mi), .second, .val (.int (1 : Int32)), .val (.int y0), .val (.int y1), .val (.int y2), .val (.ref b120), .val (.ref g126)] [])) _
        refine own_go (fun _ k => XS.iload X126.here hx rfl (hb hby at_219) rfl k) ?_
        show own_G p e below (T126.setTop (mkF m 221 #[.val (.int p1), .val (.int p2), .val (.int p3), .val (.int p4), .val (.long uu), .second, .val (.long vv), .second, .val (.long ww), .second, .val (.long lo), .second, .val (.long hi), .second, .val (.long mi), .second, .val (.int (1 : Int32)), .val (.int y0), .val (.int y1), .val (.int y2), .val (.ref b120), .val (.ref g126)] [(.int (1 : Int32))])) _
        refine own_go (fun _ k => XS.iconst X126.here hx rfl (hb hby at_221) k) ?_
        show own_G p e below (T126.setTop (mkF m 222 #[.val (.int p1), .val (.int p2), .val (.int p3), .val (.int p4), .val (.long uu), .second, .val (.long vv), .second, .val (.long ww), .second, .val (.long lo), .second, .val (.long hi), .second, .val (.long mi), .second, .val (.int (1 : Int32)), .val (.int y0), .val (.int y1), .val (.int y2), .val (.ref b120), .val (.ref g126)] [(.int (2 : Int32)), (.int (1 : Int32))])) _
        refine own_go (fun _ k => XS.icmpYes X126.here hx rfl (pc0 := 222) (pc' := 250) rfl (hb hby at_222) rfl (flt (by decide : ¬ ((2 : Int32) < (1 : Int32)))).2.2.2 (by decide) (by decide) k) ?_
        show own_G p e below (T126.setTop (mkF m 250 #[.val (.int p1), .val (.int p2), .val (.int p3), .val (.int p4), .val (.long uu), .second, .val (.long vv), .second, .val (.long ww), .second, .val (.long lo), .second, .val (.long hi), .second, .val (.long mi), .second, .val (.int (1 : Int32)), .val (.int y0), .val (.int y1), .val (.int y2), .val (.ref b120), .val (.ref g126)] [])) _
        refine own_go (fun _ k => XS.iconst X126.here hx rfl (hb hby at_250) k) ?_
        show own_G p e below (T126.setTop (mkF m 251 #[.val (.int p1), .val (.int p2), .val (.int p3), .val (.int p4), .val (.long uu), .second, .val (.long vv), .second, .val (.long ww), .second, .val (.long lo), .second, .val (.long hi), .second, .val (.long mi), .second, .val (.int (1 : Int32)), .val (.int y0), .val (.int y1), .val (.int y2), .val (.ref b120), .val (.ref g126)] [(.int (1 : Int32))])) _
        refine own_ret X126 hlk (v := some (.int (1 : Int32))) (fun h => by rw [hret] at h; cases h) (Q0 Z p1 p2 p3 p4 h0 n0) (own_retI X126 hx (t := .boolean) hret rfl (Or.inl ⟨rfl, by simp, _, rfl⟩) (hb hby at_251)) (by decide) (by decide) ?_
        show Q0 Z p1 p2 p3 p4 h0 n0 _ T126.heap _
        exact ⟨rfl, N126⟩
      · rw [hn]
        show own_G p e below (T109.setTop (mkF m 86 #[.val (.int p1), .val (.int p2), .val (.int p3), .val (.int p4), .val (.long uu), .second, .val (.long vv), .second, .val (.long ww), .second, .val (.long lo), .second, .val (.long hi), .second, .val (.long mi), .second, .unset, .unset, .unset, .unset, .unset, .unset] [(.int (2 : Int32))])) _
        refine own_go (fun _ k => XS.istore X109.here hx rfl (hb hby at_86) rfl (l' := #[.val (.int p1), .val (.int p2), .val (.int p3), .val (.int p4), .val (.long uu), .second, .val (.long vv), .second, .val (.long ww), .second, .val (.long lo), .second, .val (.long hi), .second, .val (.long mi), .second, .val (.int (2 : Int32)), .unset, .unset, .unset, .unset, .unset]) rfl k) ?_
        show own_G p e below (T109.setTop (mkF m 88 #[.val (.int p1), .val (.int p2), .val (.int p3), .val (.int p4), .val (.long uu), .second, .val (.long vv), .second, .val (.long ww), .second, .val (.long lo), .second, .val (.long hi), .second, .val (.long mi), .second, .val (.int (2 : Int32)), .unset, .unset, .unset, .unset, .unset] [])) _
        refine own_go (fun _ k => XS.lload X109.here hx rfl (hb hby at_88) rfl k) ?_
        show own_G p e below (T109.setTop (mkF m 90 #[.val (.int p1), .val (.int p2), .val (.int p3), .val (.int p4), .val (.long uu), .second, .val (.long vv), .second, .val (.long ww), .second, .val (.long lo), .second, .val (.long hi), .second, .val (.long mi), .second, .val (.int (2 : Int32)), .unset, .unset, .unset, .unset, .unset] [(.long lo)])) _
        refine own_go (fun _ k => XS.l2i X109.here hx rfl (hb hby at_90) rfl k) ?_
        show own_G p e below (T109.setTop (mkF m 91 #[.val (.int p1), .val (.int p2), .val (.int p3), .val (.int p4), .val (.long uu), .second, .val (.long vv), .second, .val (.long ww), .second, .val (.long lo), .second, .val (.long hi), .second, .val (.long mi), .second, .val (.int (2 : Int32)), .unset, .unset, .unset, .unset, .unset] [(.int (lo.toInt32))])) _
        generalize hy0 : (lo.toInt32) = y0
        show own_G p e below (T109.setTop (mkF m 91 #[.val (.int p1), .val (.int p2), .val (.int p3), .val (.int p4), .val (.long uu), .second, .val (.long vv), .second, .val (.long ww), .second, .val (.long lo), .second, .val (.long hi), .second, .val (.long mi), .second, .val (.int (2 : Int32)), .unset, .unset, .unset, .unset, .unset] [(.int y0)])) _
        refine own_go (fun _ k => XS.istore X109.here hx rfl (hb hby at_91) rfl (l' := #[.val (.int p1), .val (.int p2), .val (.int p3), .val (.int p4), .val (.long uu), .second, .val (.long vv), .second, .val (.long ww), .second, .val (.long lo), .second, .val (.long hi), .second, .val (.long mi), .second, .val (.int (2 : Int32)), .val (.int y0), .unset, .unset, .unset, .unset]) rfl k) ?_
        show own_G p e below (T109.setTop (mkF m 93 #[.val (.int p1), .val (.int p2), .val (.int p3), .val (.int p4), .val (.long uu), .second, .val (.long vv), .second, .val (.long ww), .second, .val (.long lo), .second, .val (.long hi), .second, .val (.long mi), .second, .val (.int (2 : Int32)), .val (.int y0), .unset, .unset, .unset, .unset] [])) _
        refine own_go (fun _ k => XS.lload X109.here hx rfl (hb hby at_93) rfl k) ?_
        show own_G p e below (T109.setTop (mkF m 95 #[.val (.int p1), .val (.int p2), .val (.int p3), .val (.int p4), .val (.long uu), .second, .val (.long vv), .second, .val (.long ww), .second, .val (.long lo), .second, .val (.long hi), .second, .val (.long mi), .second, .val (.int (2 : Int32)), .val (.int y0), .unset, .unset, .unset, .unset] [(.long mi)])) _
        refine own_go (fun _ k => XS.l2i X109.here hx rfl (hb hby at_95) rfl k) ?_
        show own_G p e below (T109.setTop (mkF m 96 #[.val (.int p1), .val (.int p2), .val (.int p3), .val (.int p4), .val (.long uu), .second, .val (.long vv), .second, .val (.long ww), .second, .val (.long lo), .second, .val (.long hi), .second, .val (.long mi), .second, .val (.int (2 : Int32)), .val (.int y0), .unset, .unset, .unset, .unset] [(.int (mi.toInt32))])) _
        generalize hy1 : (mi.toInt32) = y1
        show own_G p e below (T109.setTop (mkF m 96 #[.val (.int p1), .val (.int p2), .val (.int p3), .val (.int p4), .val (.long uu), .second, .val (.long vv), .second, .val (.long ww), .second, .val (.long lo), .second, .val (.long hi), .second, .val (.long mi), .second, .val (.int (2 : Int32)), .val (.int y0), .unset, .unset, .unset, .unset] [(.int y1)])) _
        refine own_go (fun _ k => XS.istore X109.here hx rfl (hb hby at_96) rfl (l' := #[.val (.int p1), .val (.int p2), .val (.int p3), .val (.int p4), .val (.long uu), .second, .val (.long vv), .second, .val (.long ww), .second, .val (.long lo), .second, .val (.long hi), .second, .val (.long mi), .second, .val (.int (2 : Int32)), .val (.int y0), .val (.int y1), .unset, .unset, .unset]) rfl k) ?_
        show own_G p e below (T109.setTop (mkF m 98 #[.val (.int p1), .val (.int p2), .val (.int p3), .val (.int p4), .val (.long uu), .second, .val (.long vv), .second, .val (.long ww), .second, .val (.long lo), .second, .val (.long hi), .second, .val (.long mi), .second, .val (.int (2 : Int32)), .val (.int y0), .val (.int y1), .unset, .unset, .unset] [])) _
        refine own_go (fun _ k => XS.lload X109.here hx rfl (hb hby at_98) rfl k) ?_
        show own_G p e below (T109.setTop (mkF m 100 #[.val (.int p1), .val (.int p2), .val (.int p3), .val (.int p4), .val (.long uu), .second, .val (.long vv), .second, .val (.long ww), .second, .val (.long lo), .second, .val (.long hi), .second, .val (.long mi), .second, .val (.int (2 : Int32)), .val (.int y0), .val (.int y1), .unset, .unset, .unset] [(.long hi)])) _
        refine own_go (fun _ k => XS.l2i X109.here hx rfl (hb hby at_100) rfl k) ?_
        show own_G p e below (T109.setTop (mkF m 101 #[.val (.int p1), .val (.int p2), .val (.int p3), .val (.int p4), .val (.long uu), .second, .val (.long vv), .second, .val (.long ww), .second, .val (.long lo), .second, .val (.long hi), .second, .val (.long mi), .second, .val (.int (2 : Int32)), .val (.int y0), .val (.int y1), .unset, .unset, .unset] [(.int (hi.toInt32))])) _
        generalize hy2 : (hi.toInt32) = y2
        have hy : own_ys lo mi hi y0 y1 y2 := ⟨hs, hc70_110, hc78_111, hy0, hy1, hy2⟩
        show own_G p e below (T109.setTop (mkF m 101 #[.val (.int p1), .val (.int p2), .val (.int p3), .val (.int p4), .val (.long uu), .second, .val (.long vv), .second, .val (.long ww), .second, .val (.long lo), .second, .val (.long hi), .second, .val (.long mi), .second, .val (.int (2 : Int32)), .val (.int y0), .val (.int y1), .unset, .unset, .unset] [(.int y2)])) _
        refine own_go (fun _ k => XS.istore X109.here hx rfl (hb hby at_101) rfl (l' := #[.val (.int p1), .val (.int p2), .val (.int p3), .val (.int p4), .val (.long uu), .second, .val (.long vv), .second, .val (.long ww), .second, .val (.long lo), .second, .val (.long hi), .second, .val (.long mi), .second, .val (.int (2 : Int32)), .val (.int y0), .val (.int y1), .val (.int y2), .unset, .unset]) rfl k) ?_
        show own_G p e below (T109.setTop (mkF m 103 #[.val (.int p1), .val (.int p2), .val (.int p3), .val (.int p4), .val (.long uu), .second, .val (.long vv), .second, .val (.long ww), .second, .val (.long lo), .second, .val (.long hi), .second, .val (.long mi), .second, .val (.int (2 : Int32)), .val (.int y0), .val (.int y1), .val (.int y2), .unset, .unset] [])) _
        refine own_go (fun _ k => XS.iload X109.here hx rfl (hb hby at_103) rfl k) ?_
        show own_G p e below (T109.setTop (mkF m 105 #[.val (.int p1), .val (.int p2), .val (.int p3), .val (.int p4), .val (.long uu), .second, .val (.long vv), .second, .val (.long ww), .second, .val (.long lo), .second, .val (.long hi), .second, .val (.long mi), .second, .val (.int (2 : Int32)), .val (.int y0), .val (.int y1), .val (.int y2), .unset, .unset] [(.int (2 : Int32))])) _
        obtain ⟨T133, h133, k133, X133, e133, E133, A133, Y133, st133⟩ := newPE X109 hx hZ (hw _ (List.mem_of_getElem? (i := 8) rfl)) e109 (g := (mkF m 105 #[.val (.int p1), .val (.int p2), .val (.int p3), .val (.int p4), .val (.long uu), .second, .val (.long vv), .second, .val (.long ww), .second, .val (.long lo), .second, .val (.long hi), .second, .val (.long mi), .second, .val (.int (2 : Int32)), .val (.int y0), .val (.int y1), .val (.int y2), .unset, .unset] [(.int (2 : Int32))])) rfl (hb hby at_105) rfl (by decide) (cap := 2) (by decide) (by decide) (by decide) (by decide) (ad := "[I") (by decide)
        obtain ⟨b133, g133⟩ : ∃ z, z = h0.size := ⟨_, rfl⟩
        rw [← g133] at A133 Y133 st133
        refine own_go st133 ?_
        have ge134 : n0 ≤ b133 := Nat.le_trans Z0 (Nat.le_of_eq g133.symm)
        have zs135 : n0 ≤ h133.size := Nat.le_trans Z0 E133.1
        have V133 : Arv Z h133 b133 k133 .int (2 : Int32) [(.int (0 : Int32)), (.int (0 : Int32))] (.int (0 : Int32)) := (Arv.new A133 (by decide)).pad (pad_rep [] (.int (0 : Int32)) 2)
        show own_G p e below (T133.setTop (mkF m 107 #[.val (.int p1), .val (.int p2), .val (.int p3), .val (.int p4), .val (.long uu), .second, .val (.long vv), .second, .val (.long ww), .second, .val (.long lo), .second, .val (.long hi), .second, .val (.long mi), .second, .val (.int (2 : Int32)), .val (.int y0), .val (.int y1), .val (.int y2), .unset, .unset] [(.ref b133)])) _
        refine own_go (fun _ k => XS.astore X133.here hx rfl (hb hby at_107) rfl rfl (l' := #[.val (.int p1), .val (.int p2), .val (.int p3), .val (.int p4), .val (.long uu), .second, .val (.long vv), .second, .val (.long ww), .second, .val (.long lo), .second, .val (.long hi), .second, .val (.long mi), .second, .val (.int (2 : Int32)), .val (.int y0), .val (.int y1), .val (.int y2), .val (.ref b133), .unset]) rfl k) ?_
        show own_G p e below (T133.setTop (mkF m 109 #[.val (.int p1), .val (.int p2), .val (.int p3), .val (.int p4), .val (.long uu), .second, .val (.long vv), .second, .val (.long ww), .second, .val (.long lo), .second, .val (.long hi), .second, .val (.long mi), .second, .val (.int (2 : Int32)), .val (.int y0), .val (.int y1), .val (.int y2), .val (.ref b133), .unset] [])) _
        refine own_go (fun _ k => XS.iload X133.here hx rfl (hb hby at_109) rfl k) ?_
        show own_G p e below (T133.setTop (mkF m 111 #[.val (.int p1), .val (.int p2), .val (.int p3), .val (.int p4), .val (.long uu), .second, .val (.long vv), .second, .val (.long ww), .second, .val (.long lo), .second, .val (.long hi), .second, .val (.long mi), .second, .val (.int (2 : Int32)), .val (.int y0), .val (.int y1), .val (.int y2), .val (.ref b133), .unset] [(.int (2 : Int32))])) _
        refine own_go (fun _ k => XS.ifNo X133.here hx rfl (hb hby at_111) rfl ((if0 _ _).trans (tlt (by decide : (0 : Int32) < (2 : Int32))).2.2.2) k) ?_
        show own_G p e below (T133.setTop (mkF m 114 #[.val (.int p1), .val (.int p2), .val (.int p3), .val (.int p4), .val (.long uu), .second, .val (.long vv), .second, .val (.long ww), .second, .val (.long lo), .second, .val (.long hi), .second, .val (.long mi), .second, .val (.int (2 : Int32)), .val (.int y0), .val (.int y1), .val (.int y2), .val (.ref b133), .unset] [])) _
        refine own_go (fun _ k => XS.aload X133.here hx rfl (hb hby at_114) rfl rfl k) ?_
        show own_G p e below (T133.setTop (mkF m 116 #[.val (.int p1), .val (.int p2), .val (.int p3), .val (.int p4), .val (.long uu), .second, .val (.long vv), .second, .val (.long ww), .second, .val (.long lo), .second, .val (.long hi), .second, .val (.long mi), .second, .val (.int (2 : Int32)), .val (.int y0), .val (.int y1), .val (.int y2), .val (.ref b133), .unset] [(.ref b133)])) _
        refine own_go (fun _ k => XS.iconst X133.here hx rfl (hb hby at_116) k) ?_
        show own_G p e below (T133.setTop (mkF m 117 #[.val (.int p1), .val (.int p2), .val (.int p3), .val (.int p4), .val (.long uu), .second, .val (.long vv), .second, .val (.long ww), .second, .val (.long lo), .second, .val (.long hi), .second, .val (.long mi), .second, .val (.int (2 : Int32)), .val (.int y0), .val (.int y1), .val (.int y2), .val (.ref b133), .unset] [(.int (0 : Int32)), (.ref b133)])) _
        refine own_go (fun _ k => XS.iload X133.here hx rfl (hb hby at_117) rfl k) ?_
        show own_G p e below (T133.setTop (mkF m 119 #[.val (.int p1), .val (.int p2), .val (.int p3), .val (.int p4), .val (.long uu), .second, .val (.long vv), .second, .val (.long ww), .second, .val (.long lo), .second, .val (.long hi), .second, .val (.long mi), .second, .val (.int (2 : Int32)), .val (.int y0), .val (.int y1), .val (.int y2), .val (.ref b133), .unset] [(.int y0), (.int (0 : Int32)), (.ref b133)])) _
        obtain ⟨cl136, Ar136, q136, S136, M136, B136, G136⟩ := id V133
        have hin136 : ¬ ((0 : Int32) < 0 ∨ cl136.slots.size ≤ ((0 : Int32)).toNatClampNeg) := inb_of S136 ⟨by decide, by decide⟩
        obtain ⟨T136, h136, X136, e136, W136, st136⟩ := stI X133 hx hZ e133 Ar136 (j := (0 : Int32)) hin136 (g := (mkF m 119 #[.val (.int p1), .val (.int p2), .val (.int p3), .val (.int p4), .val (.long uu), .second, .val (.long vv), .second, .val (.long ww), .second, .val (.long lo), .second, .val (.long hi), .second, .val (.long mi), .second, .val (.int (2 : Int32)), .val (.int y0), .val (.int y1), .val (.int y2), .val (.ref b133), .unset] [(.int y0), (.int (0 : Int32)), (.ref b133)])) rfl rfl (hb hby at_119)
        refine own_go st136 ?_
        have f137 := Y133.wr W136
        have zs138 : n0 ≤ h136.size := Nat.le_trans zs135 (Keep.of_wr W136).1
        have V136 : Arv Z h136 b133 k133 .int (2 : Int32) [(.int y0), (.int (0 : Int32))] (.int (0 : Int32)) := Arv.set Ar136 q136 S136 M136 B136 G136 rfl W136 0 rfl (Nat.le_of_ble_eq_true rfl)
        have N136 := Fr.snoc X136 N109 ge134
        show own_G p e below (T136.setTop (mkF m 120 #[.val (.int p1), .val (.int p2), .val (.int p3), .val (.int p4), .val (.long uu), .second, .val (.long vv), .second, .val (.long ww), .second, .val (.long lo), .second, .val (.long hi), .second, .val (.long mi), .second, .val (.int (2 : Int32)), .val (.int y0), .val (.int y1), .val (.int y2), .val (.ref b133), .unset] [])) _
        refine own_go (fun _ k => XS.iload X136.here hx rfl (hb hby at_120) rfl k) ?_
        show own_G p e below (T136.setTop (mkF m 122 #[.val (.int p1), .val (.int p2), .val (.int p3), .val (.int p4), .val (.long uu), .second, .val (.long vv), .second, .val (.long ww), .second, .val (.long lo), .second, .val (.long hi), .second, .val (.long mi), .second, .val (.int (2 : Int32)), .val (.int y0), .val (.int y1), .val (.int y2), .val (.ref b133), .unset] [(.int (2 : Int32))])) _
        refine own_go (fun _ k => XS.iconst X136.here hx rfl (hb hby at_122) k) ?_
        show own_G p e below (T136.setTop (mkF m 123 #[.val (.int p1), .val (.int p2), .val (.int p3), .val (.int p4), .val (.long uu), .second, .val (.long vv), .second, .val (.long ww), .second, .val (.long lo), .second, .val (.long hi), .second, .val (.long mi), .second, .val (.int (2 : Int32)), .val (.int y0), .val (.int y1), .val (.int y2), .val (.ref b133), .unset] [(.int (1 : Int32)), (.int (2 : Int32))])) _
        refine own_go (fun _ k => XS.icmpNo X136.here hx rfl (hb hby at_123) rfl (tlt (by decide : (1 : Int32) < (2 : Int32))).2.2.2 k) ?_
        show own_G p e below (T136.setTop (mkF m 126 #[.val (.int p1), .val (.int p2), .val (.int p3), .val (.int p4), .val (.long uu), .second, .val (.long vv), .second, .val (.long ww), .second, .val (.long lo), .second, .val (.long hi), .second, .val (.long mi), .second, .val (.int (2 : Int32)), .val (.int y0), .val (.int y1), .val (.int y2), .val (.ref b133), .unset] [])) _
        refine own_go (fun _ k => XS.aload X136.here hx rfl (hb hby at_126) rfl rfl k) ?_
        show own_G p e below (T136.setTop (mkF m 128 #[.val (.int p1), .val (.int p2), .val (.int p3), .val (.int p4), .val (.long uu), .second, .val (.long vv), .second, .val (.long ww), .second, .val (.long lo), .second, .val (.long hi), .second, .val (.long mi), .second, .val (.int (2 : Int32)), .val (.int y0), .val (.int y1), .val (.int y2), .val (.ref b133), .unset] [(.ref b133)])) _
        refine own_go (fun _ k => XS.iconst X136.here hx rfl (hb hby at_128) k) ?_
        show own_G p e below (T136.setTop (mkF m 129 #[.val (.int p1), .val (.int p2), .val (.int p3), .val (.int p4), .val (.long uu), .second, .val (.long vv), .second, .val (.long ww), .second, .val (.long lo), .second, .val (.long hi), .second, .val (.long mi), .second, .val (.int (2 : Int32)), .val (.int y0), .val (.int y1), .val (.int y2), .val (.ref b133), .unset] [(.int (1 : Int32)), (.ref b133)])) _
        refine own_go (fun _ k => XS.iload X136.here hx rfl (hb hby at_129) rfl k) ?_
        show own_G p e below (T136.setTop (mkF m 131 #[.val (.int p1), .val (.int p2), .val (.int p3), .val (.int p4), .val (.long uu), .second, .val (.long vv), .second, .val (.long ww), .second, .val (.long lo), .second, .val (.long hi), .second, .val (.long mi), .second, .val (.int (2 : Int32)), .val (.int y0), .val (.int y1), .val (.int y2), .val (.ref b133), .unset] [(.int y1), (.int (1 : Int32)), (.ref b133)])) _
        obtain ⟨cl139, Ar139, q139, S139, M139, B139, G139⟩ := id V136
        have hin139 : ¬ ((1 : Int32) < 0 ∨ cl139.slots.size ≤ ((1 : Int32)).toNatClampNeg) := inb_of S139 ⟨by decide, by decide⟩
        obtain ⟨T139, h139, X139, e139, W139, st139⟩ := stI X136 hx hZ e136 Ar139 (j := (1 : Int32)) hin139 (g := (mkF m 131 #[.val (.int p1), .val (.int p2), .val (.int p3), .val (.int p4), .val (.long uu), .second, .val (.long vv), .second, .val (.long ww), .second, .val (.long lo), .second, .val (.long hi), .second, .val (.long mi), .second, .val (.int (2 : Int32)), .val (.int y0), .val (.int y1), .val (.int y2), .val (.ref b133), .unset] [(.int y1), (.int (1 : Int32)), (.ref b133)])) rfl rfl (hb hby at_131)
        refine own_go st139 ?_
        have f140 := f137.wr W139
        have zs141 : n0 ≤ h139.size := Nat.le_trans zs138 (Keep.of_wr W139).1
        have V139 : Arv Z h139 b133 k133 .int (2 : Int32) [(.int y0), (.int y1)] (.int (0 : Int32)) := Arv.set Ar139 q139 S139 M139 B139 G139 rfl W139 1 rfl (Nat.le_of_ble_eq_true rfl)
        have N139 := Fr.snoc X139 N136 ge134
        show own_G p e below (T139.setTop (mkF m 132 #[.val (.int p1), .val (.int p2), .val (.int p3), .val (.int p4), .val (.long uu), .second, .val (.long vv), .second, .val (.long ww), .second, .val (.long lo), .second, .val (.long hi), .second, .val (.long mi), .second, .val (.int (2 : Int32)), .val (.int y0), .val (.int y1), .val (.int y2), .val (.ref b133), .unset] [])) _
        refine own_go (fun _ k => XS.iload X139.here hx rfl (hb hby at_132) rfl k) ?_
        show own_G p e below (T139.setTop (mkF m 134 #[.val (.int p1), .val (.int p2), .val (.int p3), .val (.int p4), .val (.long uu), .second, .val (.long vv), .second, .val (.long ww), .second, .val (.long lo), .second, .val (.long hi), .second, .val (.long mi), .second, .val (.int (2 : Int32)), .val (.int y0), .val (.int y1), .val (.int y2), .val (.ref b133), .unset] [(.int (2 : Int32))])) _
        refine own_go (fun _ k => XS.iconst X139.here hx rfl (hb hby at_134) k) ?_
        show own_G p e below (T139.setTop (mkF m 135 #[.val (.int p1), .val (.int p2), .val (.int p3), .val (.int p4), .val (.long uu), .second, .val (.long vv), .second, .val (.long ww), .second, .val (.long lo), .second, .val (.long hi), .second, .val (.long mi), .second, .val (.int (2 : Int32)), .val (.int y0), .val (.int y1), .val (.int y2), .val (.ref b133), .unset] [(.int (2 : Int32)), (.int (2 : Int32))])) _
        refine own_go (fun _ k => XS.icmpYes X139.here hx rfl (pc0 := 135) (pc' := 144) rfl (hb hby at_135) rfl (flt (by decide : ¬ ((2 : Int32) < (2 : Int32)))).2.2.2 (by decide) (by decide) k) ?_
        show own_G p e below (T139.setTop (mkF m 144 #[.val (.int p1), .val (.int p2), .val (.int p3), .val (.int p4), .val (.long uu), .second, .val (.long vv), .second, .val (.long ww), .second, .val (.long lo), .second, .val (.long hi), .second, .val (.long mi), .second, .val (.int (2 : Int32)), .val (.int y0), .val (.int y1), .val (.int y2), .val (.ref b133), .unset] [])) _
        refine own_go (fun _ k => XS.aload X139.here hx rfl (hb hby at_144) rfl rfl k) ?_
        show own_G p e below (T139.setTop (mkF m 146 #[.val (.int p1), .val (.int p2), .val (.int p3), .val (.int p4), .val (.long uu), .second, .val (.long vv), .second, .val (.long ww), .second, .val (.long lo), .second, .val (.long hi), .second, .val (.long mi), .second, .val (.int (2 : Int32)), .val (.int y0), .val (.int y1), .val (.int y2), .val (.ref b133), .unset] [(.ref b133)])) _
        obtain ⟨_, _, ⟨T142, L142, k142, n142⟩, -, X142, ⟨Lc142, hQ142, l142, y142, z142⟩, st142⟩ := Jvm.LawKit.callS X139 hx (y := (⟨"com/example/bitfold/bitfold/IdLists", "gaps", "([I)[I"⟩ : MethodName)) hown (mvT hZ (hw _ (List.mem_of_getElem? (i := 9) rfl))) (mvT hZ (hw _ (List.mem_of_getElem? (i := 10) rfl))) (mvT hZ (hw _ (List.mem_of_getElem? (i := 11) rfl))) (mvT hZ (hw _ (List.mem_of_getElem? (i := 12) rfl))) (by decide) (backOf (W := 0) (rm3_2 l Z a0 hw [] b133 k133 y0 y1 h139 n0 zs141 V139 f140 (own_y hy).1 (own_y hy).2.1 (own_y hy).2.2.2.1) hZ (hw _ (List.mem_of_getElem? (i := 12) rfl)) (hw _ (List.mem_of_getElem? (i := 11) rfl)) (by decide) (by decide)) (g := (mkF m 146 #[.val (.int p1), .val (.int p2), .val (.int p3), .val (.int p4), .val (.long uu), .second, .val (.long vv), .second, .val (.long ww), .second, .val (.long lo), .second, .val (.long hi), .second, .val (.long mi), .second, .val (.int (2 : Int32)), .val (.int y0), .val (.int y1), .val (.int y2), .val (.ref b133), .unset] [(.ref b133)])) rfl (by rw [hml]; rfl) (argsL := [(.ref b133)]) (rest := []) (lenOf pd_1 rfl) rfl (by show 2 * 0 + _ ≤ _; exact Nat.le_of_eq rfl) (hb hby at_146) (fun _ _ => ⟨rfl, e139, (by decide : 0 + 0 + 0 + 0 + 0 + 1 + 1 ≤ _), (by decide : 0 + 0 + 0 + 0 + 0 + 2 + 2 ≤ _)⟩)
        dsimp only [Pt.U, Pt.locs, Pt.cells, Pt.slots] at X142 l142 y142 z142 st142 hQ142
        subst l142 y142 z142
        obtain ⟨g142, kg142, rfl, Nq142, K142, Vg142⟩ := hQ142
        have N142 := Fr.app N139 Nq142
        refine own_go st142 ?_
        have f143 := f140.keep K142
        have f144 := V139.keep K142 nin0
        have zs145 : n0 ≤ T142.heap.size := Nat.le_trans zs141 K142.1
        show own_G p e below (T142.setTop (mkF m 149 #[.val (.int p1), .val (.int p2), .val (.int p3), .val (.int p4), .val (.long uu), .second, .val (.long vv), .second, .val (.long ww), .second, .val (.long lo), .second, .val (.long hi), .second, .val (.long mi), .second, .val (.int (2 : Int32)), .val (.int y0), .val (.int y1), .val (.int y2), .val (.ref b133), .unset] [(.ref g142)])) _
        refine own_go (fun _ k => XS.astore X142.here hx rfl (hb hby at_149) rfl rfl (l' := #[.val (.int p1), .val (.int p2), .val (.int p3), .val (.int p4), .val (.long uu), .second, .val (.long vv), .second, .val (.long ww), .second, .val (.long lo), .second, .val (.long hi), .second, .val (.long mi), .second, .val (.int (2 : Int32)), .val (.int y0), .val (.int y1), .val (.int y2), .val (.ref b133), .val (.ref g142)]) rfl k) ?_
        show own_G p e below (T142.setTop (mkF m 151 #[.val (.int p1), .val (.int p2), .val (.int p3), .val (.int p4), .val (.long uu), .second, .val (.long vv), .second, .val (.long ww), .second, .val (.long lo), .second, .val (.long hi), .second, .val (.long mi), .second, .val (.int (2 : Int32)), .val (.int y0), .val (.int y1), .val (.int y2), .val (.ref b133), .val (.ref g142)] [])) _
        refine own_go (fun _ k => XS.aload X142.here hx rfl (hb hby at_151) rfl rfl k) ?_
        show own_G p e below (T142.setTop (mkF m 153 #[.val (.int p1), .val (.int p2), .val (.int p3), .val (.int p4), .val (.long uu), .second, .val (.long vv), .second, .val (.long ww), .second, .val (.long lo), .second, .val (.long hi), .second, .val (.long mi), .second, .val (.int (2 : Int32)), .val (.int y0), .val (.int y1), .val (.int y2), .val (.ref b133), .val (.ref g142)] [(.ref g142)])) _
        obtain ⟨cl146, Ar146, q146, S146, M146, B146, G146⟩ := id Vg142
        refine own_go (X142.arraylength hx Ar146.1 (State.isArrayOf_alike hZ.alike Ar146.2.1) (g := (mkF m 153 #[.val (.int p1), .val (.int p2), .val (.int p3), .val (.int p4), .val (.long uu), .second, .val (.long vv), .second, .val (.long ww), .second, .val (.long lo), .second, .val (.long hi), .second, .val (.long mi), .second, .val (.int (2 : Int32)), .val (.int y0), .val (.int y1), .val (.int y2), .val (.ref b133), .val (.ref g142)] [(.ref g142)])) rfl rfl (hb hby at_153)) ?_
        rw [len_of S146 M146]
        show own_G p e below (T142.setTop (mkF m 154 #[.val (.int p1), .val (.int p2), .val (.int p3), .val (.int p4), .val (.long uu), .second, .val (.long vv), .second, .val (.long ww), .second, .val (.long lo), .second, .val (.long hi), .second, .val (.long mi), .second, .val (.int (2 : Int32)), .val (.int y0), .val (.int y1), .val (.int y2), .val (.ref b133), .val (.ref g142)] [(.int (2 : Int32))])) _
        refine own_go (fun _ k => XS.iload X142.here hx rfl (hb hby at_154) rfl k) ?_
        show own_G p e below (T142.setTop (mkF m 156 #[.val (.int p1), .val (.int p2), .val (.int p3), .val (.int p4), .val (.long uu), .second, .val (.long vv), .second, .val (.long ww), .second, .val (.long lo), .second, .val (.long hi), .second, .val (.long mi), .second, .val (.int (2 : Int32)), .val (.int y0), .val (.int y1), .val (.int y2), .val (.ref b133), .val (.ref g142)] [(.int (2 : Int32)), (.int (2 : Int32))])) _
        refine own_go (fun _ k => XS.icmpYes X142.here hx rfl (pc0 := 156) (pc' := 161) rfl (hb hby at_156) rfl (teq (by decide : (2 : Int32) = (2 : Int32))).1 (by decide) (by decide) k) ?_
        show own_G p e below (T142.setTop (mkF m 161 #[.val (.int p1), .val (.int p2), .val (.int p3), .val (.int p4), .val (.long uu), .second, .val (.long vv), .second, .val (.long ww), .second, .val (.long lo), .second, .val (.long hi), .second, .val (.long mi), .second, .val (.int (2 : Int32)), .val (.int y0), .val (.int y1), .val (.int y2), .val (.ref b133), .val (.ref g142)] [])) _
        refine own_go (fun _ k => XS.iload X142.here hx rfl (hb hby at_161) rfl k) ?_
        show own_G p e below (T142.setTop (mkF m 163 #[.val (.int p1), .val (.int p2), .val (.int p3), .val (.int p4), .val (.long uu), .second, .val (.long vv), .second, .val (.long ww), .second, .val (.long lo), .second, .val (.long hi), .second, .val (.long mi), .second, .val (.int (2 : Int32)), .val (.int y0), .val (.int y1), .val (.int y2), .val (.ref b133), .val (.ref g142)] [(.int (2 : Int32))])) _
        refine own_go (fun _ k => XS.ifNo X142.here hx rfl (hb hby at_163) rfl ((if0 _ _).trans (tlt (by decide : (0 : Int32) < (2 : Int32))).2.2.2) k) ?_
        show own_G p e below (T142.setTop (mkF m 166 #[.val (.int p1), .val (.int p2), .val (.int p3), .val (.int p4), .val (.long uu), .second, .val (.long vv), .second, .val (.long ww), .second, .val (.long lo), .second, .val (.long hi), .second, .val (.long mi), .second, .val (.int (2 : Int32)), .val (.int y0), .val (.int y1), .val (.int y2), .val (.ref b133), .val (.ref g142)] [])) _
        refine own_go (fun _ k => XS.aload X142.here hx rfl (hb hby at_166) rfl rfl k) ?_
        show own_G p e below (T142.setTop (mkF m 168 #[.val (.int p1), .val (.int p2), .val (.int p3), .val (.int p4), .val (.long uu), .second, .val (.long vv), .second, .val (.long ww), .second, .val (.long lo), .second, .val (.long hi), .second, .val (.long mi), .second, .val (.int (2 : Int32)), .val (.int y0), .val (.int y1), .val (.int y2), .val (.ref b133), .val (.ref g142)] [(.ref g142)])) _
        refine own_go (fun _ k => XS.iconst X142.here hx rfl (hb hby at_168) k) ?_
        show own_G p e below (T142.setTop (mkF m 169 #[.val (.int p1), .val (.int p2), .val (.int p3), .val (.int p4), .val (.long uu), .second, .val (.long vv), .second, .val (.long ww), .second, .val (.long lo), .second, .val (.long hi), .second, .val (.long mi), .second, .val (.int (2 : Int32)), .val (.int y0), .val (.int y1), .val (.int y2), .val (.ref b133), .val (.ref g142)] [(.int (0 : Int32)), (.ref g142)])) _
        obtain ⟨cl147, Ar147, q147, S147, M147, B147, G147⟩ := id Vg142
        have hin147 : ¬ ((0 : Int32) < 0 ∨ cl147.slots.size ≤ ((0 : Int32)).toNatClampNeg) := inb_of S147 ⟨by decide, by decide⟩
        have hat147 : cl147.slots[((0 : Int32)).toNatClampNeg]? = some (.int (y0 - (0 : Int32))) := B147.at hin147 rfl
        refine own_go (X142.iaload hx (j := (0 : Int32)) (v := (.int (y0 - (0 : Int32)))) Ar147.1 (State.isArrayOf_alike hZ.alike Ar147.2.1) Ar147.2.2 hin147 hat147 (g := (mkF m 169 #[.val (.int p1), .val (.int p2), .val (.int p3), .val (.int p4), .val (.long uu), .second, .val (.long vv), .second, .val (.long ww), .second, .val (.long lo), .second, .val (.long hi), .second, .val (.long mi), .second, .val (.int (2 : Int32)), .val (.int y0), .val (.int y1), .val (.int y2), .val (.ref b133), .val (.ref g142)] [(.int (0 : Int32)), (.ref g142)])) rfl rfl (hb hby at_169)) ?_
        show own_G p e below (T142.setTop (mkF m 170 #[.val (.int p1), .val (.int p2), .val (.int p3), .val (.int p4), .val (.long uu), .second, .val (.long vv), .second, .val (.long ww), .second, .val (.long lo), .second, .val (.long hi), .second, .val (.long mi), .second, .val (.int (2 : Int32)), .val (.int y0), .val (.int y1), .val (.int y2), .val (.ref b133), .val (.ref g142)] [(.int (y0 - (0 : Int32)))])) _
        refine own_go (fun _ k => XS.i2l X142.here hx rfl (hb hby at_170) rfl k) ?_
        show own_G p e below (T142.setTop (mkF m 171 #[.val (.int p1), .val (.int p2), .val (.int p3), .val (.int p4), .val (.long uu), .second, .val (.long vv), .second, .val (.long ww), .second, .val (.long lo), .second, .val (.long hi), .second, .val (.long mi), .second, .val (.int (2 : Int32)), .val (.int y0), .val (.int y1), .val (.int y2), .val (.ref b133), .val (.ref g142)] [(.long ((y0 - (0 : Int32)).toInt64))])) _
        refine own_go (fun _ k => XS.lload X142.here hx rfl (hb hby at_171) rfl k) ?_
        show own_G p e below (T142.setTop (mkF m 173 #[.val (.int p1), .val (.int p2), .val (.int p3), .val (.int p4), .val (.long uu), .second, .val (.long vv), .second, .val (.long ww), .second, .val (.long lo), .second, .val (.long hi), .second, .val (.long mi), .second, .val (.int (2 : Int32)), .val (.int y0), .val (.int y1), .val (.int y2), .val (.ref b133), .val (.ref g142)] [(.long lo), (.long ((y0 - (0 : Int32)).toInt64))])) _
        refine own_go (fun _ k => XS.lcmp X142.here hx rfl (hb hby at_173) rfl k) ?_
        show own_G p e below (T142.setTop (mkF m 174 #[.val (.int p1), .val (.int p2), .val (.int p3), .val (.int p4), .val (.long uu), .second, .val (.long vv), .second, .val (.long ww), .second, .val (.long lo), .second, .val (.long hi), .second, .val (.long mi), .second, .val (.int (2 : Int32)), .val (.int y0), .val (.int y1), .val (.int y2), .val (.ref b133), .val (.ref g142)] [(.int (lcmpW ((y0 - (0 : Int32)).toInt64) lo))])) _
        refine own_go (fun _ k => XS.ifNo X142.here hx rfl (hb hby at_174) rfl ((if0 _ _).trans (teq ((lw_eq _ _).mpr (own_g0 hy))).2) k) ?_
        show own_G p e below (T142.setTop (mkF m 177 #[.val (.int p1), .val (.int p2), .val (.int p3), .val (.int p4), .val (.long uu), .second, .val (.long vv), .second, .val (.long ww), .second, .val (.long lo), .second, .val (.long hi), .second, .val (.long mi), .second, .val (.int (2 : Int32)), .val (.int y0), .val (.int y1), .val (.int y2), .val (.ref b133), .val (.ref g142)] [])) _
        refine own_go (fun _ k => XS.aload X142.here hx rfl (hb hby at_177) rfl rfl k) ?_
        show own_G p e below (T142.setTop (mkF m 179 #[.val (.int p1), .val (.int p2), .val (.int p3), .val (.int p4), .val (.long uu), .second, .val (.long vv), .second, .val (.long ww), .second, .val (.long lo), .second, .val (.long hi), .second, .val (.long mi), .second, .val (.int (2 : Int32)), .val (.int y0), .val (.int y1), .val (.int y2), .val (.ref b133), .val (.ref g142)] [(.ref b133)])) _
        refine own_go (fun _ k => XS.iconst X142.here hx rfl (hb hby at_179) k) ?_
        show own_G p e below (T142.setTop (mkF m 180 #[.val (.int p1), .val (.int p2), .val (.int p3), .val (.int p4), .val (.long uu), .second, .val (.long vv), .second, .val (.long ww), .second, .val (.long lo), .second, .val (.long hi), .second, .val (.long mi), .second, .val (.int (2 : Int32)), .val (.int y0), .val (.int y1), .val (.int y2), .val (.ref b133), .val (.ref g142)] [(.int (0 : Int32)), (.ref b133)])) _
        obtain ⟨cl148, Ar148, q148, S148, M148, B148, G148⟩ := id f144
        have hin148 : ¬ ((0 : Int32) < 0 ∨ cl148.slots.size ≤ ((0 : Int32)).toNatClampNeg) := inb_of S148 ⟨by decide, by decide⟩
        have hat148 : cl148.slots[((0 : Int32)).toNatClampNeg]? = some (.int y0) := B148.at hin148 rfl
        refine own_go (X142.iaload hx (j := (0 : Int32)) (v := (.int y0)) Ar148.1 (State.isArrayOf_alike hZ.alike Ar148.2.1) Ar148.2.2 hin148 hat148 (g := (mkF m 180 #[.val (.int p1), .val (.int p2), .val (.int p3), .val (.int p4), .val (.long uu), .second, .val (.long vv), .second, .val (.long ww), .second, .val (.long lo), .second, .val (.long hi), .second, .val (.long mi), .second, .val (.int (2 : Int32)), .val (.int y0), .val (.int y1), .val (.int y2), .val (.ref b133), .val (.ref g142)] [(.int (0 : Int32)), (.ref b133)])) rfl rfl (hb hby at_180)) ?_
        show own_G p e below (T142.setTop (mkF m 181 #[.val (.int p1), .val (.int p2), .val (.int p3), .val (.int p4), .val (.long uu), .second, .val (.long vv), .second, .val (.long ww), .second, .val (.long lo), .second, .val (.long hi), .second, .val (.long mi), .second, .val (.int (2 : Int32)), .val (.int y0), .val (.int y1), .val (.int y2), .val (.ref b133), .val (.ref g142)] [(.int y0)])) _
        refine own_go (fun _ k => XS.iload X142.here hx rfl (hb hby at_181) rfl k) ?_
        show own_G p e below (T142.setTop (mkF m 183 #[.val (.int p1), .val (.int p2), .val (.int p3), .val (.int p4), .val (.long uu), .second, .val (.long vv), .second, .val (.long ww), .second, .val (.long lo), .second, .val (.long hi), .second, .val (.long mi), .second, .val (.int (2 : Int32)), .val (.int y0), .val (.int y1), .val (.int y2), .val (.ref b133), .val (.ref g142)] [(.int y0), (.int y0)])) _
        refine own_go (fun _ k => XS.icmpYes X142.here hx rfl (pc0 := 183) (pc' := 188) rfl (hb hby at_183) rfl (teq (rfl : y0 = y0)).1 (by decide) (by decide) k) ?_
        show own_G p e below (T142.setTop (mkF m 188 #[.val (.int p1), .val (.int p2), .val (.int p3), .val (.int p4), .val (.long uu), .second, .val (.long vv), .second, .val (.long ww), .second, .val (.long lo), .second, .val (.long hi), .second, .val (.long mi), .second, .val (.int (2 : Int32)), .val (.int y0), .val (.int y1), .val (.int y2), .val (.ref b133), .val (.ref g142)] [])) _
        refine own_go (fun _ k => XS.iload X142.here hx rfl (hb hby at_188) rfl k) ?_
        show own_G p e below (T142.setTop (mkF m 190 #[.val (.int p1), .val (.int p2), .val (.int p3), .val (.int p4), .val (.long uu), .second, .val (.long vv), .second, .val (.long ww), .second, .val (.long lo), .second, .val (.long hi), .second, .val (.long mi), .second, .val (.int (2 : Int32)), .val (.int y0), .val (.int y1), .val (.int y2), .val (.ref b133), .val (.ref g142)] [(.int (2 : Int32))])) _
        refine own_go (fun _ k => XS.iconst X142.here hx rfl (hb hby at_190) k) ?_
        show own_G p e below (T142.setTop (mkF m 191 #[.val (.int p1), .val (.int p2), .val (.int p3), .val (.int p4), .val (.long uu), .second, .val (.long vv), .second, .val (.long ww), .second, .val (.long lo), .second, .val (.long hi), .second, .val (.long mi), .second, .val (.int (2 : Int32)), .val (.int y0), .val (.int y1), .val (.int y2), .val (.ref b133), .val (.ref g142)] [(.int (1 : Int32)), (.int (2 : Int32))])) _
        refine own_go (fun _ k => XS.icmpNo X142.here hx rfl (hb hby at_191) rfl (tlt (by decide : (1 : Int32) < (2 : Int32))).2.2.2 k) ?_
        show own_G p e below (T142.setTop (mkF m 194 #[.val (.int p1), .val (.int p2), .val (.int p3), .val (.int p4), .val (.long uu), .second, .val (.long vv), .second, .val (.long ww), .second, .val (.long lo), .second, .val (.long hi), .second, .val (.long mi), .second, .val (.int (2 : Int32)), .val (.int y0), .val (.int y1), .val (.int y2), .val (.ref b133), .val (.ref g142)] [])) _
        refine own_go (fun _ k => XS.aload X142.here hx rfl (hb hby at_194) rfl rfl k) ?_
        show own_G p e below (T142.setTop (mkF m 196 #[.val (.int p1), .val (.int p2), .val (.int p3), .val (.int p4), .val (.long uu), .second, .val (.long vv), .second, .val (.long ww), .second, .val (.long lo), .second, .val (.long hi), .second, .val (.long mi), .second, .val (.int (2 : Int32)), .val (.int y0), .val (.int y1), .val (.int y2), .val (.ref b133), .val (.ref g142)] [(.ref g142)])) _
        refine own_go (fun _ k => XS.iconst X142.here hx rfl (hb hby at_196) k) ?_
        show own_G p e below (T142.setTop (mkF m 197 #[.val (.int p1), .val (.int p2), .val (.int p3), .val (.int p4), .val (.long uu), .second, .val (.long vv), .second, .val (.long ww), .second, .val (.long lo), .second, .val (.long hi), .second, .val (.long mi), .second, .val (.int (2 : Int32)), .val (.int y0), .val (.int y1), .val (.int y2), .val (.ref b133), .val (.ref g142)] [(.int (1 : Int32)), (.ref g142)])) _
        obtain ⟨cl149, Ar149, q149, S149, M149, B149, G149⟩ := id Vg142
        have hin149 : ¬ ((1 : Int32) < 0 ∨ cl149.slots.size ≤ ((1 : Int32)).toNatClampNeg) := inb_of S149 ⟨by decide, by decide⟩
        have hat149 : cl149.slots[((1 : Int32)).toNatClampNeg]? = some (.int (y1 - y0)) := B149.at hin149 rfl
        refine own_go (X142.iaload hx (j := (1 : Int32)) (v := (.int (y1 - y0))) Ar149.1 (State.isArrayOf_alike hZ.alike Ar149.2.1) Ar149.2.2 hin149 hat149 (g := (mkF m 197 #[.val (.int p1), .val (.int p2), .val (.int p3), .val (.int p4), .val (.long uu), .second, .val (.long vv), .second, .val (.long ww), .second, .val (.long lo), .second, .val (.long hi), .second, .val (.long mi), .second, .val (.int (2 : Int32)), .val (.int y0), .val (.int y1), .val (.int y2), .val (.ref b133), .val (.ref g142)] [(.int (1 : Int32)), (.ref g142)])) rfl rfl (hb hby at_197)) ?_
        show own_G p e below (T142.setTop (mkF m 198 #[.val (.int p1), .val (.int p2), .val (.int p3), .val (.int p4), .val (.long uu), .second, .val (.long vv), .second, .val (.long ww), .second, .val (.long lo), .second, .val (.long hi), .second, .val (.long mi), .second, .val (.int (2 : Int32)), .val (.int y0), .val (.int y1), .val (.int y2), .val (.ref b133), .val (.ref g142)] [(.int (y1 - y0))])) _
        refine own_go (fun _ k => XS.i2l X142.here hx rfl (hb hby at_198) rfl k) ?_
        show own_G p e below (T142.setTop (mkF m 199 #[.val (.int p1), .val (.int p2), .val (.int p3), .val (.int p4), .val (.long uu), .second, .val (.long vv), .second, .val (.long ww), .second, .val (.long lo), .second, .val (.long hi), .second, .val (.long mi), .second, .val (.int (2 : Int32)), .val (.int y0), .val (.int y1), .val (.int y2), .val (.ref b133), .val (.ref g142)] [(.long ((y1 - y0).toInt64))])) _
        refine own_go (fun _ k => XS.lload X142.here hx rfl (hb hby at_199) rfl k) ?_
        show own_G p e below (T142.setTop (mkF m 201 #[.val (.int p1), .val (.int p2), .val (.int p3), .val (.int p4), .val (.long uu), .second, .val (.long vv), .second, .val (.long ww), .second, .val (.long lo), .second, .val (.long hi), .second, .val (.long mi), .second, .val (.int (2 : Int32)), .val (.int y0), .val (.int y1), .val (.int y2), .val (.ref b133), .val (.ref g142)] [(.long mi), (.long ((y1 - y0).toInt64))])) _
        refine own_go (fun _ k => XS.lload X142.here hx rfl (hb hby at_201) rfl k) ?_
        show own_G p e below (T142.setTop (mkF m 203 #[.val (.int p1), .val (.int p2), .val (.int p3), .val (.int p4), .val (.long uu), .second, .val (.long vv), .second, .val (.long ww), .second, .val (.long lo), .second, .val (.long hi), .second, .val (.long mi), .second, .val (.int (2 : Int32)), .val (.int y0), .val (.int y1), .val (.int y2), .val (.ref b133), .val (.ref g142)] [(.long lo), (.long mi), (.long ((y1 - y0).toInt64))])) _
        refine own_go (fun _ k => XS.lsub X142.here hx rfl (hb hby at_203) rfl k) ?_
        show own_G p e below (T142.setTop (mkF m 204 #[.val (.int p1), .val (.int p2), .val (.int p3), .val (.int p4), .val (.long uu), .second, .val (.long vv), .second, .val (.long ww), .second, .val (.long lo), .second, .val (.long hi), .second, .val (.long mi), .second, .val (.int (2 : Int32)), .val (.int y0), .val (.int y1), .val (.int y2), .val (.ref b133), .val (.ref g142)] [(.long (mi - lo)), (.long ((y1 - y0).toInt64))])) _
        refine own_go (fun _ k => XS.lcmp X142.here hx rfl (hb hby at_204) rfl k) ?_
        show own_G p e below (T142.setTop (mkF m 205 #[.val (.int p1), .val (.int p2), .val (.int p3), .val (.int p4), .val (.long uu), .second, .val (.long vv), .second, .val (.long ww), .second, .val (.long lo), .second, .val (.long hi), .second, .val (.long mi), .second, .val (.int (2 : Int32)), .val (.int y0), .val (.int y1), .val (.int y2), .val (.ref b133), .val (.ref g142)] [(.int (lcmpW ((y1 - y0).toInt64) (mi - lo)))])) _
        refine own_go (fun _ k => XS.ifNo X142.here hx rfl (hb hby at_205) rfl ((if0 _ _).trans (teq ((lw_eq _ _).mpr (own_g1 hy))).2) k) ?_
        show own_G p e below (T142.setTop (mkF m 208 #[.val (.int p1), .val (.int p2), .val (.int p3), .val (.int p4), .val (.long uu), .second, .val (.long vv), .second, .val (.long ww), .second, .val (.long lo), .second, .val (.long hi), .second, .val (.long mi), .second, .val (.int (2 : Int32)), .val (.int y0), .val (.int y1), .val (.int y2), .val (.ref b133), .val (.ref g142)] [])) _
        refine own_go (fun _ k => XS.aload X142.here hx rfl (hb hby at_208) rfl rfl k) ?_
        show own_G p e below (T142.setTop (mkF m 210 #[.val (.int p1), .val (.int p2), .val (.int p3), .val (.int p4), .val (.long uu), .second, .val (.long vv), .second, .val (.long ww), .second, .val (.long lo), .second, .val (.long hi), .second, .val (.long mi), .second, .val (.int (2 : Int32)), .val (.int y0), .val (.int y1), .val (.int y2), .val (.ref b133), .val (.ref g142)] [(.ref b133)])) _
        refine own_go (fun _ k => XS.iconst X142.here hx rfl (hb hby at_210) k) ?_
        show own_G p e below (T142.setTop (mkF m 211 #[.val (.int p1), .val (.int p2), .val (.int p3), .val (.int p4), .val (.long uu), .second, .val (.long vv), .second, .val (.long ww), .second, .val (.long lo), .second, .val (.long hi), .second, .val (.long mi), .second, .val (.int (2 : Int32)), .val (.int y0), .val (.int y1), .val (.int y2), .val (.ref b133), .val (.ref g142)] [(.int (1 : Int32)), (.ref b133)])) _
        obtain ⟨cl150, Ar150, q150, S150, M150, B150, G150⟩ := id f144
        have hin150 : ¬ ((1 : Int32) < 0 ∨ cl150.slots.size ≤ ((1 : Int32)).toNatClampNeg) := inb_of S150 ⟨by decide, by decide⟩
        have hat150 : cl150.slots[((1 : Int32)).toNatClampNeg]? = some (.int y1) := B150.at hin150 rfl
        refine own_go (X142.iaload hx (j := (1 : Int32)) (v := (.int y1)) Ar150.1 (State.isArrayOf_alike hZ.alike Ar150.2.1) Ar150.2.2 hin150 hat150 (g := (mkF m 211 #[.val (.int p1), .val (.int p2), .val (.int p3), .val (.int p4), .val (.long uu), .second, .val (.long vv), .second, .val (.long ww), .second, .val (.long lo), .second, .val (.long hi), .second, .val (.long mi), .second, .val (.int (2 : Int32)), .val (.int y0), .val (.int y1), .val (.int y2), .val (.ref b133), .val (.ref g142)] [(.int (1 : Int32)), (.ref b133)])) rfl rfl (hb hby at_211)) ?_
        show own_G p e below (T142.setTop (mkF m 212 #[.val (.int p1), .val (.int p2), .val (.int p3), .val (.int p4), .val (.long uu), .second, .val (.long vv), .second, .val (.long ww), .second, .val (.long lo), .second, .val (.long hi), .second, .val (.long mi), .second, .val (.int (2 : Int32)), .val (.int y0), .val (.int y1), .val (.int y2), .val (.ref b133), .val (.ref g142)] [(.int y1)])) _
        refine own_go (fun _ k => XS.iload X142.here hx rfl (hb hby at_212) rfl k) ?_
        show own_G p e below (T142.setTop (mkF m 214 #[.val (.int p1), .val (.int p2), .val (.int p3), .val (.int p4), .val (.long uu), .second, .val (.long vv), .second, .val (.long ww), .second, .val (.long lo), .second, .val (.long hi), .second, .val (.long mi), .second, .val (.int (2 : Int32)), .val (.int y0), .val (.int y1), .val (.int y2), .val (.ref b133), .val (.ref g142)] [(.int y1), (.int y1)])) _
        refine own_go (fun _ k => XS.icmpYes X142.here hx rfl (pc0 := 214) (pc' := 219) rfl (hb hby at_214) rfl (teq (rfl : y1 = y1)).1 (by decide) (by decide) k) ?_
        show own_G p e below (T142.setTop (mkF m 219 #[.val (.int p1), .val (.int p2), .val (.int p3), .val (.int p4), .val (.long uu), .second, .val (.long vv), .second, .val (.long ww), .second, .val (.long lo), .second, .val (.long hi), .second, .val (.long mi), .second, .val (.int (2 : Int32)), .val (.int y0), .val (.int y1), .val (.int y2), .val (.ref b133), .val (.ref g142)] [])) _
        refine own_go (fun _ k => XS.iload X142.here hx rfl (hb hby at_219) rfl k) ?_
        show own_G p e below (T142.setTop (mkF m 221 #[.val (.int p1), .val (.int p2), .val (.int p3), .val (.int p4), .val (.long uu), .second, .val (.long vv), .second, .val (.long ww), .second, .val (.long lo), .second, .val (.long hi), .second, .val (.long mi), .second, .val (.int (2 : Int32)), .val (.int y0), .val (.int y1), .val (.int y2), .val (.ref b133), .val (.ref g142)] [(.int (2 : Int32))])) _
        refine own_go (fun _ k => XS.iconst X142.here hx rfl (hb hby at_221) k) ?_
        show own_G p e below (T142.setTop (mkF m 222 #[.val (.int p1), .val (.int p2), .val (.int p3), .val (.int p4), .val (.long uu), .second, .val (.long vv), .second, .val (.long ww), .second, .val (.long lo), .second, .val (.long hi), .second, .val (.long mi), .second, .val (.int (2 : Int32)), .val (.int y0), .val (.int y1), .val (.int y2), .val (.ref b133), .val (.ref g142)] [(.int (2 : Int32)), (.int (2 : Int32))])) _
        refine own_go (fun _ k => XS.icmpYes X142.here hx rfl (pc0 := 222) (pc' := 250) rfl (hb hby at_222) rfl (flt (by decide : ¬ ((2 : Int32) < (2 : Int32)))).2.2.2 (by decide) (by decide) k) ?_
        show own_G p e below (T142.setTop (mkF m 250 #[.val (.int p1), .val (.int p2), .val (.int p3), .val (.int p4), .val (.long uu), .second, .val (.long vv), .second, .val (.long ww), .second, .val (.long lo), .second, .val (.long hi), .second, .val (.long mi), .second, .val (.int (2 : Int32)), .val (.int y0), .val (.int y1), .val (.int y2), .val (.ref b133), .val (.ref g142)] [])) _
        refine own_go (fun _ k => XS.iconst X142.here hx rfl (hb hby at_250) k) ?_
        show own_G p e below (T142.setTop (mkF m 251 #[.val (.int p1), .val (.int p2), .val (.int p3), .val (.int p4), .val (.long uu), .second, .val (.long vv), .second, .val (.long ww), .second, .val (.long lo), .second, .val (.long hi), .second, .val (.long mi), .second, .val (.int (2 : Int32)), .val (.int y0), .val (.int y1), .val (.int y2), .val (.ref b133), .val (.ref g142)] [(.int (1 : Int32))])) _
        refine own_ret X142 hlk (v := some (.int (1 : Int32))) (fun h => by rw [hret] at h; cases h) (Q0 Z p1 p2 p3 p4 h0 n0) (own_retI X142 hx (t := .boolean) hret rfl (Or.inl ⟨rfl, by simp, _, rfl⟩) (hb hby at_251)) (by decide) (by decide) ?_
        show Q0 Z p1 p2 p3 p4 h0 n0 _ T142.heap _
        exact ⟨rfl, N142⟩
      · rw [hn]
        show own_G p e below (T109.setTop (mkF m 86 #[.val (.int p1), .val (.int p2), .val (.int p3), .val (.int p4), .val (.long uu), .second, .val (.long vv), .second, .val (.long ww), .second, .val (.long lo), .second, .val (.long hi), .second, .val (.long mi), .second, .unset, .unset, .unset, .unset, .unset, .unset] [(.int (3 : Int32))])) _
        refine own_go (fun _ k => XS.istore X109.here hx rfl (hb hby at_86) rfl (l' := #[.val (.int p1), .val (.int p2), .val (.int p3), .val (.int p4), .val (.long uu), .second, .val (.long vv), .second, .val (.long ww), .second, .val (.long lo), .second, .val (.long hi), .second, .val (.long mi), .second, .val (.int (3 : Int32)), .unset, .unset, .unset, .unset, .unset]) rfl k) ?_
        show own_G p e below (T109.setTop (mkF m 88 #[.val (.int p1), .val (.int p2), .val (.int p3), .val (.int p4), .val (.long uu), .second, .val (.long vv), .second, .val (.long ww), .second, .val (.long lo), .second, .val (.long hi), .second, .val (.long mi), .second, .val (.int (3 : Int32)), .unset, .unset, .unset, .unset, .unset] [])) _
        refine own_go (fun _ k => XS.lload X109.here hx rfl (hb hby at_88) rfl k) ?_
        show own_G p e below (T109.setTop (mkF m 90 #[.val (.int p1), .val (.int p2), .val (.int p3), .val (.int p4), .val (.long uu), .second, .val (.long vv), .second, .val (.long ww), .second, .val (.long lo), .second, .val (.long hi), .second, .val (.long mi), .second, .val (.int (3 : Int32)), .unset, .unset, .unset, .unset, .unset] [(.long lo)])) _
        refine own_go (fun _ k => XS.l2i X109.here hx rfl (hb hby at_90) rfl k) ?_
        show own_G p e below (T109.setTop (mkF m 91 #[.val (.int p1), .val (.int p2), .val (.int p3), .val (.int p4), .val (.long uu), .second, .val (.long vv), .second, .val (.long ww), .second, .val (.long lo), .second, .val (.long hi), .second, .val (.long mi), .second, .val (.int (3 : Int32)), .unset, .unset, .unset, .unset, .unset] [(.int (lo.toInt32))])) _
        generalize hy0 : (lo.toInt32) = y0
        show own_G p e below (T109.setTop (mkF m 91 #[.val (.int p1), .val (.int p2), .val (.int p3), .val (.int p4), .val (.long uu), .second, .val (.long vv), .second, .val (.long ww), .second, .val (.long lo), .second, .val (.long hi), .second, .val (.long mi), .second, .val (.int (3 : Int32)), .unset, .unset, .unset, .unset, .unset] [(.int y0)])) _
        refine own_go (fun _ k => XS.istore X109.here hx rfl (hb hby at_91) rfl (l' := #[.val (.int p1), .val (.int p2), .val (.int p3), .val (.int p4), .val (.long uu), .second, .val (.long vv), .second, .val (.long ww), .second, .val (.long lo), .second, .val (.long hi), .second, .val (.long mi), .second, .val (.int (3 : Int32)), .val (.int y0), .unset, .unset, .unset, .unset]) rfl k) ?_
        show own_G p e below (T109.setTop (mkF m 93 #[.val (.int p1), .val (.int p2), .val (.int p3), .val (.int p4), .val (.long uu), .second, .val (.long vv), .second, .val (.long ww), .second, .val (.long lo), .second, .val (.long hi), .second, .val (.long mi), .second, .val (.int (3 : Int32)), .val (.int y0), .unset, .unset, .unset, .unset] [])) _
        refine own_go (fun _ k => XS.lload X109.here hx rfl (hb hby at_93) rfl k) ?_
        show own_G p e below (T109.setTop (mkF m 95 #[.val (.int p1), .val (.int p2), .val (.int p3), .val (.int p4), .val (.long uu), .second, .val (.long vv), .second, .val (.long ww), .second, .val (.long lo), .second, .val (.long hi), .second, .val (.long mi), .second, .val (.int (3 : Int32)), .val (.int y0), .unset, .unset, .unset, .unset] [(.long mi)])) _
        refine own_go (fun _ k => XS.l2i X109.here hx rfl (hb hby at_95) rfl k) ?_
        show own_G p e below (T109.setTop (mkF m 96 #[.val (.int p1), .val (.int p2), .val (.int p3), .val (.int p4), .val (.long uu), .second, .val (.long vv), .second, .val (.long ww), .second, .val (.long lo), .second, .val (.long hi), .second, .val (.long mi), .second, .val (.int (3 : Int32)), .val (.int y0), .unset, .unset, .unset, .unset] [(.int (mi.toInt32))])) _
        generalize hy1 : (mi.toInt32) = y1
        show own_G p e below (T109.setTop (mkF m 96 #[.val (.int p1), .val (.int p2), .val (.int p3), .val (.int p4), .val (.long uu), .second, .val (.long vv), .second, .val (.long ww), .second, .val (.long lo), .second, .val (.long hi), .second, .val (.long mi), .second, .val (.int (3 : Int32)), .val (.int y0), .unset, .unset, .unset, .unset] [(.int y1)])) _
        refine own_go (fun _ k => XS.istore X109.here hx rfl (hb hby at_96) rfl (l' := #[.val (.int p1), .val (.int p2), .val (.int p3), .val (.int p4), .val (.long uu), .second, .val (.long vv), .second, .val (.long ww), .second, .val (.long lo), .second, .val (.long hi), .second, .val (.long mi), .second, .val (.int (3 : Int32)), .val (.int y0), .val (.int y1), .unset, .unset, .unset]) rfl k) ?_
        show own_G p e below (T109.setTop (mkF m 98 #[.val (.int p1), .val (.int p2), .val (.int p3), .val (.int p4), .val (.long uu), .second, .val (.long vv), .second, .val (.long ww), .second, .val (.long lo), .second, .val (.long hi), .second, .val (.long mi), .second, .val (.int (3 : Int32)), .val (.int y0), .val (.int y1), .unset, .unset, .unset] [])) _
        refine own_go (fun _ k => XS.lload X109.here hx rfl (hb hby at_98) rfl k) ?_
        show own_G p e below (T109.setTop (mkF m 100 #[.val (.int p1), .val (.int p2), .val (.int p3), .val (.int p4), .val (.long uu), .second, .val (.long vv), .second, .val (.long ww), .second, .val (.long lo), .second, .val (.long hi), .second, .val (.long mi), .second, .val (.int (3 : Int32)), .val (.int y0), .val (.int y1), .unset, .unset, .unset] [(.long hi)])) _
        refine own_go (fun _ k => XS.l2i X109.here hx rfl (hb hby at_100) rfl k) ?_
        show own_G p e below (T109.setTop (mkF m 101 #[.val (.int p1), .val (.int p2), .val (.int p3), .val (.int p4), .val (.long uu), .second, .val (.long vv), .second, .val (.long ww), .second, .val (.long lo), .second, .val (.long hi), .second, .val (.long mi), .second, .val (.int (3 : Int32)), .val (.int y0), .val (.int y1), .unset, .unset, .unset] [(.int (hi.toInt32))])) _
        generalize hy2 : (hi.toInt32) = y2
        have hy : own_ys lo mi hi y0 y1 y2 := ⟨hs, hc70_110, hc78_111, hy0, hy1, hy2⟩
        show own_G p e below (T109.setTop (mkF m 101 #[.val (.int p1), .val (.int p2), .val (.int p3), .val (.int p4), .val (.long uu), .second, .val (.long vv), .second, .val (.long ww), .second, .val (.long lo), .second, .val (.long hi), .second, .val (.long mi), .second, .val (.int (3 : Int32)), .val (.int y0), .val (.int y1), .unset, .unset, .unset] [(.int y2)])) _
        refine own_go (fun _ k => XS.istore X109.here hx rfl (hb hby at_101) rfl (l' := #[.val (.int p1), .val (.int p2), .val (.int p3), .val (.int p4), .val (.long uu), .second, .val (.long vv), .second, .val (.long ww), .second, .val (.long lo), .second, .val (.long hi), .second, .val (.long mi), .second, .val (.int (3 : Int32)), .val (.int y0), .val (.int y1), .val (.int y2), .unset, .unset]) rfl k) ?_
        show own_G p e below (T109.setTop (mkF m 103 #[.val (.int p1), .val (.int p2), .val (.int p3), .val (.int p4), .val (.long uu), .second, .val (.long vv), .second, .val (.long ww), .second, .val (.long lo), .second, .val (.long hi), .second, .val (.long mi), .second, .val (.int (3 : Int32)), .val (.int y0), .val (.int y1), .val (.int y2), .unset, .unset] [])) _
        refine own_go (fun _ k => XS.iload X109.here hx rfl (hb hby at_103) rfl k) ?_
        show own_G p e below (T109.setTop (mkF m 105 #[.val (.int p1), .val (.int p2), .val (.int p3), .val (.int p4), .val (.long uu), .second, .val (.long vv), .second, .val (.long ww), .second, .val (.long lo), .second, .val (.long hi), .second, .val (.long mi), .second, .val (.int (3 : Int32)), .val (.int y0), .val (.int y1), .val (.int y2), .unset, .unset] [(.int (3 : Int32))])) _
        obtain ⟨T151, h151, k151, X151, e151, E151, A151, Y151, st151⟩ := newPE X109 hx hZ (hw _ (List.mem_of_getElem? (i := 8) rfl)) e109 (g := (mkF m 105 #[.val (.int p1), .val (.int p2), .val (.int p3), .val (.int p4), .val (.long uu), .second, .val (.long vv), .second, .val (.long ww), .second, .val (.long lo), .second, .val (.long hi), .second, .val (.long mi), .second, .val (.int (3 : Int32)), .val (.int y0), .val (.int y1), .val (.int y2), .unset, .unset] [(.int (3 : Int32))])) rfl (hb hby at_105) rfl (by decide) (cap := 3) (by decide) (by decide) (by decide) (by decide) (ad := "[I") (by decide)
        obtain ⟨b151, g151⟩ : ∃ z, z = h0.size := ⟨_, rfl⟩
        rw [← g151] at A151 Y151 st151
        refine own_go st151 ?_
        have ge152 : n0 ≤ b151 := Nat.le_trans Z0 (Nat.le_of_eq g151.symm)
        have zs153 : n0 ≤ h151.size := Nat.le_trans Z0 E151.1
        have V151 : Arv Z h151 b151 k151 .int (3 : Int32) [(.int (0 : Int32)), (.int (0 : Int32)), (.int (0 : Int32))] (.int (0 : Int32)) := (Arv.new A151 (by decide)).pad (pad_rep [] (.int (0 : Int32)) 3)
        show own_G p e below (T151.setTop (mkF m 107 #[.val (.int p1), .val (.int p2), .val (.int p3), .val (.int p4), .val (.long uu), .second, .val (.long vv), .second, .val (.long ww), .second, .val (.long lo), .second, .val (.long hi), .second, .val (.long mi), .second, .val (.int (3 : Int32)), .val (.int y0), .val (.int y1), .val (.int y2), .unset, .unset] [(.ref b151)])) _
        refine own_go (fun _ k => XS.astore X151.here hx rfl (hb hby at_107) rfl rfl (l' := #[.val (.int p1), .val (.int p2), .val (.int p3), .val (.int p4), .val (.long uu), .second, .val (.long vv), .second, .val (.long ww), .second, .val (.long lo), .second, .val (.long hi), .second, .val (.long mi), .second, .val (.int (3 : Int32)), .val (.int y0), .val (.int y1), .val (.int y2), .val (.ref b151), .unset]) rfl k) ?_
        show own_G p e below (T151.setTop (mkF m 109 #[.val (.int p1), .val (.int p2), .val (.int p3), .val (.int p4), .val (.long uu), .second, .val (.long vv), .second, .val (.long ww), .second, .val (.long lo), .second, .val (.long hi), .second, .val (.long mi), .second, .val (.int (3 : Int32)), .val (.int y0), .val (.int y1), .val (.int y2), .val (.ref b151), .unset] [])) _
        refine own_go (fun _ k => XS.iload X151.here hx rfl (hb hby at_109) rfl k) ?_
        show own_G p e below (T151.setTop (mkF m 111 #[.val (.int p1), .val (.int p2), .val (.int p3), .val (.int p4), .val (.long uu), .second, .val (.long vv), .second, .val (.long ww), .second, .val (.long lo), .second, .val (.long hi), .second, .val (.long mi), .second, .val (.int (3 : Int32)), .val (.int y0), .val (.int y1), .val (.int y2), .val (.ref b151), .unset] [(.int (3 : Int32))])) _
        refine own_go (fun _ k => XS.ifNo X151.here hx rfl (hb hby at_111) rfl ((if0 _ _).trans (tlt (by decide : (0 : Int32) < (3 : Int32))).2.2.2) k) ?_
        show own_G p e below (T151.setTop (mkF m 114 #[.val (.int p1), .val (.int p2), .val (.int p3), .val (.int p4), .val (.long uu), .second, .val (.long vv), .second, .val (.long ww), .second, .val (.long lo), .second, .val (.long hi), .second, .val (.long mi), .second, .val (.int (3 : Int32)), .val (.int y0), .val (.int y1), .val (.int y2), .val (.ref b151), .unset] [])) _
        refine own_go (fun _ k => XS.aload X151.here hx rfl (hb hby at_114) rfl rfl k) ?_
        show own_G p e below (T151.setTop (mkF m 116 #[.val (.int p1), .val (.int p2), .val (.int p3), .val (.int p4), .val (.long uu), .second, .val (.long vv), .second, .val (.long ww), .second, .val (.long lo), .second, .val (.long hi), .second, .val (.long mi), .second, .val (.int (3 : Int32)), .val (.int y0), .val (.int y1), .val (.int y2), .val (.ref b151), .unset] [(.ref b151)])) _
        refine own_go (fun _ k => XS.iconst X151.here hx rfl (hb hby at_116) k) ?_
        show own_G p e below (T151.setTop (mkF m 117 #[.val (.int p1), .val (.int p2), .val (.int p3), .val (.int p4), .val (.long uu), .second, .val (.long vv), .second, .val (.long ww), .second, .val (.long lo), .second, .val (.long hi), .second, .val (.long mi), .second, .val (.int (3 : Int32)), .val (.int y0), .val (.int y1), .val (.int y2), .val (.ref b151), .unset] [(.int (0 : Int32)), (.ref b151)])) _
        refine own_go (fun _ k => XS.iload X151.here hx rfl (hb hby at_117) rfl k) ?_
        show own_G p e below (T151.setTop (mkF m 119 #[.val (.int p1), .val (.int p2), .val (.int p3), .val (.int p4), .val (.long uu), .second, .val (.long vv), .second, .val (.long ww), .second, .val (.long lo), .second, .val (.long hi), .second, .val (.long mi), .second, .val (.int (3 : Int32)), .val (.int y0), .val (.int y1), .val (.int y2), .val (.ref b151), .unset] [(.int y0), (.int (0 : Int32)), (.ref b151)])) _
        obtain ⟨cl154, Ar154, q154, S154, M154, B154, G154⟩ := id V151
        have hin154 : ¬ ((0 : Int32) < 0 ∨ cl154.slots.size ≤ ((0 : Int32)).toNatClampNeg) := inb_of S154 ⟨by decide, by decide⟩
        obtain ⟨T154, h154, X154, e154, W154, st154⟩ := stI X151 hx hZ e151 Ar154 (j := (0 : Int32)) hin154 (g := (mkF m 119 #[.val (.int p1), .val (.int p2), .val (.int p3), .val (.int p4), .val (.long uu), .second, .val (.long vv), .second, .val (.long ww), .second, .val (.long lo), .second, .val (.long hi), .second, .val (.long mi), .second, .val (.int (3 : Int32)), .val (.int y0), .val (.int y1), .val (.int y2), .val (.ref b151), .unset] [(.int y0), (.int (0 : Int32)), (.ref b151)])) rfl rfl (hb hby at_119)
        refine own_go st154 ?_
        have f155 := Y151.wr W154
        have zs156 : n0 ≤ h154.size := Nat.le_trans zs153 (Keep.of_wr W154).1
        have V154 : Arv Z h154 b151 k151 .int (3 : Int32) [(.int y0), (.int (0 : Int32)), (.int (0 : Int32))] (.int (0 : Int32)) := Arv.set Ar154 q154 S154 M154 B154 G154 rfl W154 0 rfl (Nat.le_of_ble_eq_true rfl)
        have N154 := Fr.snoc X154 N109 ge152
        show own_G p e below (T154.setTop (mkF m 120 #[.val (.int p1), .val (.int p2), .val (.int p3), .val (.int p4), .val (.long uu), .second, .val (.long vv), .second, .val (.long ww), .second, .val (.long lo), .second, .val (.long hi), .second, .val (.long mi), .second, .val (.int (3 : Int32)), .val (.int y0), .val (.int y1), .val (.int y2), .val (.ref b151), .unset] [])) _
        refine own_go (fun _ k => XS.iload X154.here hx rfl (hb hby at_120) rfl k) ?_
        show own_G p e below (T154.setTop (mkF m 122 #[.val (.int p1), .val (.int p2), .val (.int p3), .val (.int p4), .val (.long uu), .second, .val (.long vv), .second, .val (.long ww), .second, .val (.long lo), .second, .val (.long hi), .second, .val (.long mi), .second, .val (.int (3 : Int32)), .val (.int y0), .val (.int y1), .val (.int y2), .val (.ref b151), .unset] [(.int (3 : Int32))])) _
        refine own_go (fun _ k => XS.iconst X154.here hx rfl (hb hby at_122) k) ?_
        show own_G p e below (T154.setTop (mkF m 123 #[.val (.int p1), .val (.int p2), .val (.int p3), .val (.int p4), .val (.long uu), .second, .val (.long vv), .second, .val (.long ww), .second, .val (.long lo), .second, .val (.long hi), .second, .val (.long mi), .second, .val (.int (3 : Int32)), .val (.int y0), .val (.int y1), .val (.int y2), .val (.ref b151), .unset] [(.int (1 : Int32)), (.int (3 : Int32))])) _
        refine own_go (fun _ k => XS.icmpNo X154.here hx rfl (hb hby at_123) rfl (tlt (by decide : (1 : Int32) < (3 : Int32))).2.2.2 k) ?_
        show own_G p e below (T154.setTop (mkF m 126 #[.val (.int p1), .val (.int p2), .val (.int p3), .val (.int p4), .val (.long uu), .second, .val (.long vv), .second, .val (.long ww), .second, .val (.long lo), .second, .val (.long hi), .second, .val (.long mi), .second, .val (.int (3 : Int32)), .val (.int y0), .val (.int y1), .val (.int y2), .val (.ref b151), .unset] [])) _
        refine own_go (fun _ k => XS.aload X154.here hx rfl (hb hby at_126) rfl rfl k) ?_
        show own_G p e below (T154.setTop (mkF m 128 #[.val (.int p1), .val (.int p2), .val (.int p3), .val (.int p4), .val (.long uu), .second, .val (.long vv), .second, .val (.long ww), .second, .val (.long lo), .second, .val (.long hi), .second, .val (.long mi), .second, .val (.int (3 : Int32)), .val (.int y0), .val (.int y1), .val (.int y2), .val (.ref b151), .unset] [(.ref b151)])) _
        refine own_go (fun _ k => XS.iconst X154.here hx rfl (hb hby at_128) k) ?_
        show own_G p e below (T154.setTop (mkF m 129 #[.val (.int p1), .val (.int p2), .val (.int p3), .val (.int p4), .val (.long uu), .second, .val (.long vv), .second, .val (.long ww), .second, .val (.long lo), .second, .val (.long hi), .second, .val (.long mi), .second, .val (.int (3 : Int32)), .val (.int y0), .val (.int y1), .val (.int y2), .val (.ref b151), .unset] [(.int (1 : Int32)), (.ref b151)])) _
        refine own_go (fun _ k => XS.iload X154.here hx rfl (hb hby at_129) rfl k) ?_
        show own_G p e below (T154.setTop (mkF m 131 #[.val (.int p1), .val (.int p2), .val (.int p3), .val (.int p4), .val (.long uu), .second, .val (.long vv), .second, .val (.long ww), .second, .val (.long lo), .second, .val (.long hi), .second, .val (.long mi), .second, .val (.int (3 : Int32)), .val (.int y0), .val (.int y1), .val (.int y2), .val (.ref b151), .unset] [(.int y1), (.int (1 : Int32)), (.ref b151)])) _
        obtain ⟨cl157, Ar157, q157, S157, M157, B157, G157⟩ := id V154
        have hin157 : ¬ ((1 : Int32) < 0 ∨ cl157.slots.size ≤ ((1 : Int32)).toNatClampNeg) := inb_of S157 ⟨by decide, by decide⟩
        obtain ⟨T157, h157, X157, e157, W157, st157⟩ := stI X154 hx hZ e154 Ar157 (j := (1 : Int32)) hin157 (g := (mkF m 131 #[.val (.int p1), .val (.int p2), .val (.int p3), .val (.int p4), .val (.long uu), .second, .val (.long vv), .second, .val (.long ww), .second, .val (.long lo), .second, .val (.long hi), .second, .val (.long mi), .second, .val (.int (3 : Int32)), .val (.int y0), .val (.int y1), .val (.int y2), .val (.ref b151), .unset] [(.int y1), (.int (1 : Int32)), (.ref b151)])) rfl rfl (hb hby at_131)
        refine own_go st157 ?_
        have f158 := f155.wr W157
        have zs159 : n0 ≤ h157.size := Nat.le_trans zs156 (Keep.of_wr W157).1
        have V157 : Arv Z h157 b151 k151 .int (3 : Int32) [(.int y0), (.int y1), (.int (0 : Int32))] (.int (0 : Int32)) := Arv.set Ar157 q157 S157 M157 B157 G157 rfl W157 1 rfl (Nat.le_of_ble_eq_true rfl)
        have N157 := Fr.snoc X157 N154 ge152
        show own_G p e below (T157.setTop (mkF m 132 #[.val (.int p1), .val (.int p2), .val (.int p3), .val (.int p4), .val (.long uu), .second, .val (.long vv), .second, .val (.long ww), .second, .val (.long lo), .second, .val (.long hi), .second, .val (.long mi), .second, .val (.int (3 : Int32)), .val (.int y0), .val (.int y1), .val (.int y2), .val (.ref b151), .unset] [])) _
        refine own_go (fun _ k => XS.iload X157.here hx rfl (hb hby at_132) rfl k) ?_
        show own_G p e below (T157.setTop (mkF m 134 #[.val (.int p1), .val (.int p2), .val (.int p3), .val (.int p4), .val (.long uu), .second, .val (.long vv), .second, .val (.long ww), .second, .val (.long lo), .second, .val (.long hi), .second, .val (.long mi), .second, .val (.int (3 : Int32)), .val (.int y0), .val (.int y1), .val (.int y2), .val (.ref b151), .unset] [(.int (3 : Int32))])) _
        refine own_go (fun _ k => XS.iconst X157.here hx rfl (hb hby at_134) k) ?_
        show own_G p e below (T157.setTop (mkF m 135 #[.val (.int p1), .val (.int p2), .val (.int p3), .val (.int p4), .val (.long uu), .second, .val (.long vv), .second, .val (.long ww), .second, .val (.long lo), .second, .val (.long hi), .second, .val (.long mi), .second, .val (.int (3 : Int32)), .val (.int y0), .val (.int y1), .val (.int y2), .val (.ref b151), .unset] [(.int (2 : Int32)), (.int (3 : Int32))])) _
        refine own_go (fun _ k => XS.icmpNo X157.here hx rfl (hb hby at_135) rfl (tlt (by decide : (2 : Int32) < (3 : Int32))).2.2.2 k) ?_
        show own_G p e below (T157.setTop (mkF m 138 #[.val (.int p1), .val (.int p2), .val (.int p3), .val (.int p4), .val (.long uu), .second, .val (.long vv), .second, .val (.long ww), .second, .val (.long lo), .second, .val (.long hi), .second, .val (.long mi), .second, .val (.int (3 : Int32)), .val (.int y0), .val (.int y1), .val (.int y2), .val (.ref b151), .unset] [])) _
        refine own_go (fun _ k => XS.aload X157.here hx rfl (hb hby at_138) rfl rfl k) ?_
        show own_G p e below (T157.setTop (mkF m 140 #[.val (.int p1), .val (.int p2), .val (.int p3), .val (.int p4), .val (.long uu), .second, .val (.long vv), .second, .val (.long ww), .second, .val (.long lo), .second, .val (.long hi), .second, .val (.long mi), .second, .val (.int (3 : Int32)), .val (.int y0), .val (.int y1), .val (.int y2), .val (.ref b151), .unset] [(.ref b151)])) _
        refine own_go (fun _ k => XS.iconst X157.here hx rfl (hb hby at_140) k) ?_
        show own_G p e below (T157.setTop (mkF m 141 #[.val (.int p1), .val (.int p2), .val (.int p3), .val (.int p4), .val (.long uu), .second, .val (.long vv), .second, .val (.long ww), .second, .val (.long lo), .second, .val (.long hi), .second, .val (.long mi), .second, .val (.int (3 : Int32)), .val (.int y0), .val (.int y1), .val (.int y2), .val (.ref b151), .unset] [(.int (2 : Int32)), (.ref b151)])) _
        refine own_go (fun _ k => XS.iload X157.here hx rfl (hb hby at_141) rfl k) ?_
        show own_G p e below (T157.setTop (mkF m 143 #[.val (.int p1), .val (.int p2), .val (.int p3), .val (.int p4), .val (.long uu), .second, .val (.long vv), .second, .val (.long ww), .second, .val (.long lo), .second, .val (.long hi), .second, .val (.long mi), .second, .val (.int (3 : Int32)), .val (.int y0), .val (.int y1), .val (.int y2), .val (.ref b151), .unset] [(.int y2), (.int (2 : Int32)), (.ref b151)])) _
        obtain ⟨cl160, Ar160, q160, S160, M160, B160, G160⟩ := id V157
        have hin160 : ¬ ((2 : Int32) < 0 ∨ cl160.slots.size ≤ ((2 : Int32)).toNatClampNeg) := inb_of S160 ⟨by decide, by decide⟩
        obtain ⟨T160, h160, X160, e160, W160, st160⟩ := stI X157 hx hZ e157 Ar160 (j := (2 : Int32)) hin160 (g := (mkF m 143 #[.val (.int p1), .val (.int p2), .val (.int p3), .val (.int p4), .val (.long uu), .second, .val (.long vv), .second, .val (.long ww), .second, .val (.long lo), .second, .val (.long hi), .second, .val (.long mi), .second, .val (.int (3 : Int32)), .val (.int y0), .val (.int y1), .val (.int y2), .val (.ref b151), .unset] [(.int y2), (.int (2 : Int32)), (.ref b151)])) rfl rfl (hb hby at_143)
        refine own_go st160 ?_
        have f161 := f158.wr W160
        have zs162 : n0 ≤ h160.size := Nat.le_trans zs159 (Keep.of_wr W160).1
        have V160 : Arv Z h160 b151 k151 .int (3 : Int32) [(.int y0), (.int y1), (.int y2)] (.int (0 : Int32)) := Arv.set Ar160 q160 S160 M160 B160 G160 rfl W160 2 rfl (Nat.le_of_ble_eq_true rfl)
        have N160 := Fr.snoc X160 N157 ge152
        show own_G p e below (T160.setTop (mkF m 144 #[.val (.int p1), .val (.int p2), .val (.int p3), .val (.int p4), .val (.long uu), .second, .val (.long vv), .second, .val (.long ww), .second, .val (.long lo), .second, .val (.long hi), .second, .val (.long mi), .second, .val (.int (3 : Int32)), .val (.int y0), .val (.int y1), .val (.int y2), .val (.ref b151), .unset] [])) _
        refine own_go (fun _ k => XS.aload X160.here hx rfl (hb hby at_144) rfl rfl k) ?_
        show own_G p e below (T160.setTop (mkF m 146 #[.val (.int p1), .val (.int p2), .val (.int p3), .val (.int p4), .val (.long uu), .second, .val (.long vv), .second, .val (.long ww), .second, .val (.long lo), .second, .val (.long hi), .second, .val (.long mi), .second, .val (.int (3 : Int32)), .val (.int y0), .val (.int y1), .val (.int y2), .val (.ref b151), .unset] [(.ref b151)])) _
        obtain ⟨_, _, ⟨T163, L163, k163, n163⟩, -, X163, ⟨Lc163, hQ163, l163, y163, z163⟩, st163⟩ := Jvm.LawKit.callS X160 hx (y := (⟨"com/example/bitfold/bitfold/IdLists", "gaps", "([I)[I"⟩ : MethodName)) hown (mvT hZ (hw _ (List.mem_of_getElem? (i := 9) rfl))) (mvT hZ (hw _ (List.mem_of_getElem? (i := 10) rfl))) (mvT hZ (hw _ (List.mem_of_getElem? (i := 11) rfl))) (mvT hZ (hw _ (List.mem_of_getElem? (i := 12) rfl))) (by decide) (backOf (W := 0) (rm3_3 l Z a0 hw [] b151 k151 y0 y1 y2 h160 n0 zs162 V160 f161 (own_y hy).1 (own_y hy).2.1 (own_y hy).2.2.1 (own_y hy).2.2.2.1 (own_y hy).2.2.2.2) hZ (hw _ (List.mem_of_getElem? (i := 12) rfl)) (hw _ (List.mem_of_getElem? (i := 11) rfl)) (by decide) (by decide)) (g := (mkF m 146 #[.val (.int p1), .val (.int p2), .val (.int p3), .val (.int p4), .val (.long uu), .second, .val (.long vv), .second, .val (.long ww), .second, .val (.long lo), .second, .val (.long hi), .second, .val (.long mi), .second, .val (.int (3 : Int32)), .val (.int y0), .val (.int y1), .val (.int y2), .val (.ref b151), .unset] [(.ref b151)])) rfl (by rw [hml]; rfl) (argsL := [(.ref b151)]) (rest := []) (lenOf pd_1 rfl) rfl (by show 2 * 0 + _ ≤ _; exact Nat.le_of_eq rfl) (hb hby at_146) (fun _ _ => ⟨rfl, e160, (by decide : 0 + 0 + 0 + 0 + 0 + 1 + 1 ≤ _), (by decide : 0 + 0 + 0 + 0 + 0 + 3 + 3 ≤ _)⟩)
        dsimp only [Pt.U, Pt.locs, Pt.cells, Pt.slots] at X163 l163 y163 z163 st163 hQ163
        subst l163 y163 z163
        obtain ⟨g163, kg163, rfl, Nq163, K163, Vg163⟩ := hQ163
        have N163 := Fr.app N160 Nq163
        refine own_go st163 ?_
        have f164 := f161.keep K163
        have f165 := V160.keep K163 nin0
        have zs166 : n0 ≤ T163.heap.size := Nat.le_trans zs162 K163.1
        show own_G p e below (T163.setTop (mkF m 149 #[.val (.int p1), .val (.int p2), .val (.int p3), .val (.int p4), .val (.long uu), .second, .val (.long vv), .second, .val (.long ww), .second, .val (.long lo), .second, .val (.long hi), .second, .val (.long mi), .second, .val (.int (3 : Int32)), .val (.int y0), .val (.int y1), .val (.int y2), .val (.ref b151), .unset] [(.ref g163)])) _
        refine own_go (fun _ k => XS.astore X163.here hx rfl (hb hby at_149) rfl rfl (l' := #[.val (.int p1), .val (.int p2), .val (.int p3), .val (.int p4), .val (.long uu), .second, .val (.long vv), .second, .val (.long ww), .second, .val (.long lo), .second, .val (.long hi), .second, .val (.long mi), .second, .val (.int (3 : Int32)), .val (.int y0), .val (.int y1), .val (.int y2), .val (.ref b151), .val (.ref g163)]) rfl k) ?_
        show own_G p e below (T163.setTop (mkF m 151 #[.val (.int p1), .val (.int p2), .val (.int p3), .val (.int p4), .val (.long uu), .second, .val (.long vv), .second, .val (.long ww), .second, .val (.long lo), .second, .val (.long hi), .second, .val (.long mi), .second, .val (.int (3 : Int32)), .val (.int y0), .val (.int y1), .val (.int y2), .val (.ref b151), .val (.ref g163)] [])) _
        refine own_go (fun _ k => XS.aload X163.here hx rfl (hb hby at_151) rfl rfl k) ?_
        show own_G p e below (T163.setTop (mkF m 153 #[.val (.int p1), .val (.int p2), .val (.int p3), .val (.int p4), .val (.long uu), .second, .val (.long vv), .second, .val (.long ww), .second, .val (.long lo), .second, .val (.long hi), .second, .val (.long mi), .second, .val (.int (3 : Int32)), .val (.int y0), .val (.int y1), .val (.int y2), .val (.ref b151), .val (.ref g163)] [(.ref g163)])) _
        obtain ⟨cl167, Ar167, q167, S167, M167, B167, G167⟩ := id Vg163
        refine own_go (X163.arraylength hx Ar167.1 (State.isArrayOf_alike hZ.alike Ar167.2.1) (g := (mkF m 153 #[.val (.int p1), .val (.int p2), .val (.int p3), .val (.int p4), .val (.long uu), .second, .val (.long vv), .second, .val (.long ww), .second, .val (.long lo), .second, .val (.long hi), .second, .val (.long mi), .second, .val (.int (3 : Int32)), .val (.int y0), .val (.int y1), .val (.int y2), .val (.ref b151), .val (.ref g163)] [(.ref g163)])) rfl rfl (hb hby at_153)) ?_
        rw [len_of S167 M167]
        show own_G p e below (T163.setTop (mkF m 154 #[.val (.int p1), .val (.int p2), .val (.int p3), .val (.int p4), .val (.long uu), .second, .val (.long vv), .second, .val (.long ww), .second, .val (.long lo), .second, .val (.long hi), .second, .val (.long mi), .second, .val (.int (3 : Int32)), .val (.int y0), .val (.int y1), .val (.int y2), .val (.ref b151), .val (.ref g163)] [(.int (3 : Int32))])) _
        refine own_go (fun _ k => XS.iload X163.here hx rfl (hb hby at_154) rfl k) ?_
        show own_G p e below (T163.setTop (mkF m 156 #[.val (.int p1), .val (.int p2), .val (.int p3), .val (.int p4), .val (.long uu), .second, .val (.long vv), .second, .val (.long ww), .second, .val (.long lo), .second, .val (.long hi), .second, .val (.long mi), .second, .val (.int (3 : Int32)), .val (.int y0), .val (.int y1), .val (.int y2), .val (.ref b151), .val (.ref g163)] [(.int (3 : Int32)), (.int (3 : Int32))])) _
        refine own_go (fun _ k => XS.icmpYes X163.here hx rfl (pc0 := 156) (pc' := 161) rfl (hb hby at_156) rfl (teq (by decide : (3 : Int32) = (3 : Int32))).1 (by decide) (by decide) k) ?_
        show own_G p e below (T163.setTop (mkF m 161 #[.val (.int p1), .val (.int p2), .val (.int p3), .val (.int p4), .val (.long uu), .second, .val (.long vv), .second, .val (.long ww), .second, .val (.long lo), .second, .val (.long hi), .second, .val (.long mi), .second, .val (.int (3 : Int32)), .val (.int y0), .val (.int y1), .val (.int y2), .val (.ref b151), .val (.ref g163)] [])) _
        refine own_go (fun _ k => XS.iload X163.here hx rfl (hb hby at_161) rfl k) ?_
        show own_G p e below (T163.setTop (mkF m 163 #[.val (.int p1), .val (.int p2), .val (.int p3), .val (.int p4), .val (.long uu), .second, .val (.long vv), .second, .val (.long ww), .second, .val (.long lo), .second, .val (.long hi), .second, .val (.long mi), .second, .val (.int (3 : Int32)), .val (.int y0), .val (.int y1), .val (.int y2), .val (.ref b151), .val (.ref g163)] [(.int (3 : Int32))])) _
        refine own_go (fun _ k => XS.ifNo X163.here hx rfl (hb hby at_163) rfl ((if0 _ _).trans (tlt (by decide : (0 : Int32) < (3 : Int32))).2.2.2) k) ?_
        show own_G p e below (T163.setTop (mkF m 166 #[.val (.int p1), .val (.int p2), .val (.int p3), .val (.int p4), .val (.long uu), .second, .val (.long vv), .second, .val (.long ww), .second, .val (.long lo), .second, .val (.long hi), .second, .val (.long mi), .second, .val (.int (3 : Int32)), .val (.int y0), .val (.int y1), .val (.int y2), .val (.ref b151), .val (.ref g163)] [])) _
        refine own_go (fun _ k => XS.aload X163.here hx rfl (hb hby at_166) rfl rfl k) ?_
        show own_G p e below (T163.setTop (mkF m 168 #[.val (.int p1), .val (.int p2), .val (.int p3), .val (.int p4), .val (.long uu), .second, .val (.long vv), .second, .val (.long ww), .second, .val (.long lo), .second, .val (.long hi), .second, .val (.long mi), .second, .val (.int (3 : Int32)), .val (.int y0), .val (.int y1), .val (.int y2), .val (.ref b151), .val (.ref g163)] [(.ref g163)])) _
        refine own_go (fun _ k => XS.iconst X163.here hx rfl (hb hby at_168) k) ?_
        show own_G p e below (T163.setTop (mkF m 169 #[.val (.int p1), .val (.int p2), .val (.int p3), .val (.int p4), .val (.long uu), .second, .val (.long vv), .second, .val (.long ww), .second, .val (.long lo), .second, .val (.long hi), .second, .val (.long mi), .second, .val (.int (3 : Int32)), .val (.int y0), .val (.int y1), .val (.int y2), .val (.ref b151), .val (.ref g163)] [(.int (0 : Int32)), (.ref g163)])) _
        obtain ⟨cl168, Ar168, q168, S168, M168, B168, G168⟩ := id Vg163
        have hin168 : ¬ ((0 : Int32) < 0 ∨ cl168.slots.size ≤ ((0 : Int32)).toNatClampNeg) := inb_of S168 ⟨by decide, by decide⟩
        have hat168 : cl168.slots[((0 : Int32)).toNatClampNeg]? = some (.int (y0 - (0 : Int32))) := B168.at hin168 rfl
        refine own_go (X163.iaload hx (j := (0 : Int32)) (v := (.int (y0 - (0 : Int32)))) Ar168.1 (State.isArrayOf_alike hZ.alike Ar168.2.1) Ar168.2.2 hin168 hat168 (g := (mkF m 169 #[.val (.int p1), .val (.int p2), .val (.int p3), .val (.int p4), .val (.long uu), .second, .val (.long vv), .second, .val (.long ww), .second, .val (.long lo), .second, .val (.long hi), .second, .val (.long mi), .second, .val (.int (3 : Int32)), .val (.int y0), .val (.int y1), .val (.int y2), .val (.ref b151), .val (.ref g163)] [(.int (0 : Int32)), (.ref g163)])) rfl rfl (hb hby at_169)) ?_
        show own_G p e below (T163.setTop (mkF m 170 #[.val (.int p1), .val (.int p2), .val (.int p3), .val (.int p4), .val (.long uu), .second, .val (.long vv), .second, .val (.long ww), .second, .val (.long lo), .second, .val (.long hi), .second, .val (.long mi), .second, .val (.int (3 : Int32)), .val (.int y0), .val (.int y1), .val (.int y2), .val (.ref b151), .val (.ref g163)] [(.int (y0 - (0 : Int32)))])) _
        refine own_go (fun _ k => XS.i2l X163.here hx rfl (hb hby at_170) rfl k) ?_
        show own_G p e below (T163.setTop (mkF m 171 #[.val (.int p1), .val (.int p2), .val (.int p3), .val (.int p4), .val (.long uu), .second, .val (.long vv), .second, .val (.long ww), .second, .val (.long lo), .second, .val (.long hi), .second, .val (.long mi), .second, .val (.int (3 : Int32)), .val (.int y0), .val (.int y1), .val (.int y2), .val (.ref b151), .val (.ref g163)] [(.long ((y0 - (0 : Int32)).toInt64))])) _
        refine own_go (fun _ k => XS.lload X163.here hx rfl (hb hby at_171) rfl k) ?_
        show own_G p e below (T163.setTop (mkF m 173 #[.val (.int p1), .val (.int p2), .val (.int p3), .val (.int p4), .val (.long uu), .second, .val (.long vv), .second, .val (.long ww), .second, .val (.long lo), .second, .val (.long hi), .second, .val (.long mi), .second, .val (.int (3 : Int32)), .val (.int y0), .val (.int y1), .val (.int y2), .val (.ref b151), .val (.ref g163)] [(.long lo), (.long ((y0 - (0 : Int32)).toInt64))])) _
        refine own_go (fun _ k => XS.lcmp X163.here hx rfl (hb hby at_173) rfl k) ?_
        show own_G p e below (T163.setTop (mkF m 174 #[.val (.int p1), .val (.int p2), .val (.int p3), .val (.int p4), .val (.long uu), .second, .val (.long vv), .second, .val (.long ww), .second, .val (.long lo), .second, .val (.long hi), .second, .val (.long mi), .second, .val (.int (3 : Int32)), .val (.int y0), .val (.int y1), .val (.int y2), .val (.ref b151), .val (.ref g163)] [(.int (lcmpW ((y0 - (0 : Int32)).toInt64) lo))])) _
        refine own_go (fun _ k => XS.ifNo X163.here hx rfl (hb hby at_174) rfl ((if0 _ _).trans (teq ((lw_eq _ _).mpr (own_g0 hy))).2) k) ?_
        show own_G p e below (T163.setTop (mkF m 177 #[.val (.int p1), .val (.int p2), .val (.int p3), .val (.int p4), .val (.long uu), .second, .val (.long vv), .second, .val (.long ww), .second, .val (.long lo), .second, .val (.long hi), .second, .val (.long mi), .second, .val (.int (3 : Int32)), .val (.int y0), .val (.int y1), .val (.int y2), .val (.ref b151), .val (.ref g163)] [])) _
        refine own_go (fun _ k => XS.aload X163.here hx rfl (hb hby at_177) rfl rfl k) ?_
        show own_G p e below (T163.setTop (mkF m 179 #[.val (.int p1), .val (.int p2), .val (.int p3), .val (.int p4), .val (.long uu), .second, .val (.long vv), .second, .val (.long ww), .second, .val (.long lo), .second, .val (.long hi), .second, .val (.long mi), .second, .val (.int (3 : Int32)), .val (.int y0), .val (.int y1), .val (.int y2), .val (.ref b151), .val (.ref g163)] [(.ref b151)])) _
        refine own_go (fun _ k => XS.iconst X163.here hx rfl (hb hby at_179) k) ?_
        show own_G p e below (T163.setTop (mkF m 180 #[.val (.int p1), .val (.int p2), .val (.int p3), .val (.int p4), .val (.long uu), .second, .val (.long vv), .second, .val (.long ww), .second, .val (.long lo), .second, .val (.long hi), .second, .val (.long mi), .second, .val (.int (3 : Int32)), .val (.int y0), .val (.int y1), .val (.int y2), .val (.ref b151), .val (.ref g163)] [(.int (0 : Int32)), (.ref b151)])) _
        obtain ⟨cl169, Ar169, q169, S169, M169, B169, G169⟩ := id f165
        have hin169 : ¬ ((0 : Int32) < 0 ∨ cl169.slots.size ≤ ((0 : Int32)).toNatClampNeg) := inb_of S169 ⟨by decide, by decide⟩
        have hat169 : cl169.slots[((0 : Int32)).toNatClampNeg]? = some (.int y0) := B169.at hin169 rfl
        refine own_go (X163.iaload hx (j := (0 : Int32)) (v := (.int y0)) Ar169.1 (State.isArrayOf_alike hZ.alike Ar169.2.1) Ar169.2.2 hin169 hat169 (g := (mkF m 180 #[.val (.int p1), .val (.int p2), .val (.int p3), .val (.int p4), .val (.long uu), .second, .val (.long vv), .second, .val (.long ww), .second, .val (.long lo), .second, .val (.long hi), .second, .val (.long mi), .second, .val (.int (3 : Int32)), .val (.int y0), .val (.int y1), .val (.int y2), .val (.ref b151), .val (.ref g163)] [(.int (0 : Int32)), (.ref b151)])) rfl rfl (hb hby at_180)) ?_
        show own_G p e below (T163.setTop (mkF m 181 #[.val (.int p1), .val (.int p2), .val (.int p3), .val (.int p4), .val (.long uu), .second, .val (.long vv), .second, .val (.long ww), .second, .val (.long lo), .second, .val (.long hi), .second, .val (.long mi), .second, .val (.int (3 : Int32)), .val (.int y0), .val (.int y1), .val (.int y2), .val (.ref b151), .val (.ref g163)] [(.int y0)])) _
        refine own_go (fun _ k => XS.iload X163.here hx rfl (hb hby at_181) rfl k) ?_
        show own_G p e below (T163.setTop (mkF m 183 #[.val (.int p1), .val (.int p2), .val (.int p3), .val (.int p4), .val (.long uu), .second, .val (.long vv), .second, .val (.long ww), .second, .val (.long lo), .second, .val (.long hi), .second, .val (.long mi), .second, .val (.int (3 : Int32)), .val (.int y0), .val (.int y1), .val (.int y2), .val (.ref b151), .val (.ref g163)] [(.int y0), (.int y0)])) _
        refine own_go (fun _ k => XS.icmpYes X163.here hx rfl (pc0 := 183) (pc' := 188) rfl (hb hby at_183) rfl (teq (rfl : y0 = y0)).1 (by decide) (by decide) k) ?_
        show own_G p e below (T163.setTop (mkF m 188 #[.val (.int p1), .val (.int p2), .val (.int p3), .val (.int p4), .val (.long uu), .second, .val (.long vv), .second, .val (.long ww), .second, .val (.long lo), .second, .val (.long hi), .second, .val (.long mi), .second, .val (.int (3 : Int32)), .val (.int y0), .val (.int y1), .val (.int y2), .val (.ref b151), .val (.ref g163)] [])) _
        refine own_go (fun _ k => XS.iload X163.here hx rfl (hb hby at_188) rfl k) ?_
        show own_G p e below (T163.setTop (mkF m 190 #[.val (.int p1), .val (.int p2), .val (.int p3), .val (.int p4), .val (.long uu), .second, .val (.long vv), .second, .val (.long ww), .second, .val (.long lo), .second, .val (.long hi), .second, .val (.long mi), .second, .val (.int (3 : Int32)), .val (.int y0), .val (.int y1), .val (.int y2), .val (.ref b151), .val (.ref g163)] [(.int (3 : Int32))])) _
        refine own_go (fun _ k => XS.iconst X163.here hx rfl (hb hby at_190) k) ?_
        show own_G p e below (T163.setTop (mkF m 191 #[.val (.int p1), .val (.int p2), .val (.int p3), .val (.int p4), .val (.long uu), .second, .val (.long vv), .second, .val (.long ww), .second, .val (.long lo), .second, .val (.long hi), .second, .val (.long mi), .second, .val (.int (3 : Int32)), .val (.int y0), .val (.int y1), .val (.int y2), .val (.ref b151), .val (.ref g163)] [(.int (1 : Int32)), (.int (3 : Int32))])) _
        refine own_go (fun _ k => XS.icmpNo X163.here hx rfl (hb hby at_191) rfl (tlt (by decide : (1 : Int32) < (3 : Int32))).2.2.2 k) ?_
        show own_G p e below (T163.setTop (mkF m 194 #[.val (.int p1), .val (.int p2), .val (.int p3), .val (.int p4), .val (.long uu), .second, .val (.long vv), .second, .val (.long ww), .second, .val (.long lo), .second, .val (.long hi), .second, .val (.long mi), .second, .val (.int (3 : Int32)), .val (.int y0), .val (.int y1), .val (.int y2), .val (.ref b151), .val (.ref g163)] [])) _
        refine own_go (fun _ k => XS.aload X163.here hx rfl (hb hby at_194) rfl rfl k) ?_
        show own_G p e below (T163.setTop (mkF m 196 #[.val (.int p1), .val (.int p2), .val (.int p3), .val (.int p4), .val (.long uu), .second, .val (.long vv), .second, .val (.long ww), .second, .val (.long lo), .second, .val (.long hi), .second, .val (.long mi), .second, .val (.int (3 : Int32)), .val (.int y0), .val (.int y1), .val (.int y2), .val (.ref b151), .val (.ref g163)] [(.ref g163)])) _
        refine own_go (fun _ k => XS.iconst X163.here hx rfl (hb hby at_196) k) ?_
        show own_G p e below (T163.setTop (mkF m 197 #[.val (.int p1), .val (.int p2), .val (.int p3), .val (.int p4), .val (.long uu), .second, .val (.long vv), .second, .val (.long ww), .second, .val (.long lo), .second, .val (.long hi), .second, .val (.long mi), .second, .val (.int (3 : Int32)), .val (.int y0), .val (.int y1), .val (.int y2), .val (.ref b151), .val (.ref g163)] [(.int (1 : Int32)), (.ref g163)])) _
        obtain ⟨cl170, Ar170, q170, S170, M170, B170, G170⟩ := id Vg163
        have hin170 : ¬ ((1 : Int32) < 0 ∨ cl170.slots.size ≤ ((1 : Int32)).toNatClampNeg) := inb_of S170 ⟨by decide, by decide⟩
        have hat170 : cl170.slots[((1 : Int32)).toNatClampNeg]? = some (.int (y1 - y0)) := B170.at hin170 rfl
        refine own_go (X163.iaload hx (j := (1 : Int32)) (v := (.int (y1 - y0))) Ar170.1 (State.isArrayOf_alike hZ.alike Ar170.2.1) Ar170.2.2 hin170 hat170 (g := (mkF m 197 #[.val (.int p1), .val (.int p2), .val (.int p3), .val (.int p4), .val (.long uu), .second, .val (.long vv), .second, .val (.long ww), .second, .val (.long lo), .second, .val (.long hi), .second, .val (.long mi), .second, .val (.int (3 : Int32)), .val (.int y0), .val (.int y1), .val (.int y2), .val (.ref b151), .val (.ref g163)] [(.int (1 : Int32)), (.ref g163)])) rfl rfl (hb hby at_197)) ?_
        show own_G p e below (T163.setTop (mkF m 198 #[.val (.int p1), .val (.int p2), .val (.int p3), .val (.int p4), .val (.long uu), .second, .val (.long vv), .second, .val (.long ww), .second, .val (.long lo), .second, .val (.long hi), .second, .val (.long mi), .second, .val (.int (3 : Int32)), .val (.int y0), .val (.int y1), .val (.int y2), .val (.ref b151), .val (.ref g163)] [(.int (y1 - y0))])) _
        refine own_go (fun _ k => XS.i2l X163.here hx rfl (hb hby at_198) rfl k) ?_
        show own_G p e below (T163.setTop (mkF m 199 #[.val (.int p1), .val (.int p2), .val (.int p3), .val (.int p4), .val (.long uu), .second, .val (.long vv), .second, .val (.long ww), .second, .val (.long lo), .second, .val (.long hi), .second, .val (.long mi), .second, .val (.int (3 : Int32)), .val (.int y0), .val (.int y1), .val (.int y2), .val (.ref b151), .val (.ref g163)] [(.long ((y1 - y0).toInt64))])) _
        refine own_go (fun _ k => XS.lload X163.here hx rfl (hb hby at_199) rfl k) ?_
        show own_G p e below (T163.setTop (mkF m 201 #[.val (.int p1), .val (.int p2), .val (.int p3), .val (.int p4), .val (.long uu), .second, .val (.long vv), .second, .val (.long ww), .second, .val (.long lo), .second, .val (.long hi), .second, .val (.long mi), .second, .val (.int (3 : Int32)), .val (.int y0), .val (.int y1), .val (.int y2), .val (.ref b151), .val (.ref g163)] [(.long mi), (.long ((y1 - y0).toInt64))])) _
        refine own_go (fun _ k => XS.lload X163.here hx rfl (hb hby at_201) rfl k) ?_
        show own_G p e below (T163.setTop (mkF m 203 #[.val (.int p1), .val (.int p2), .val (.int p3), .val (.int p4), .val (.long uu), .second, .val (.long vv), .second, .val (.long ww), .second, .val (.long lo), .second, .val (.long hi), .second, .val (.long mi), .second, .val (.int (3 : Int32)), .val (.int y0), .val (.int y1), .val (.int y2), .val (.ref b151), .val (.ref g163)] [(.long lo), (.long mi), (.long ((y1 - y0).toInt64))])) _
        refine own_go (fun _ k => XS.lsub X163.here hx rfl (hb hby at_203) rfl k) ?_
        show own_G p e below (T163.setTop (mkF m 204 #[.val (.int p1), .val (.int p2), .val (.int p3), .val (.int p4), .val (.long uu), .second, .val (.long vv), .second, .val (.long ww), .second, .val (.long lo), .second, .val (.long hi), .second, .val (.long mi), .second, .val (.int (3 : Int32)), .val (.int y0), .val (.int y1), .val (.int y2), .val (.ref b151), .val (.ref g163)] [(.long (mi - lo)), (.long ((y1 - y0).toInt64))])) _
        refine own_go (fun _ k => XS.lcmp X163.here hx rfl (hb hby at_204) rfl k) ?_
        show own_G p e below (T163.setTop (mkF m 205 #[.val (.int p1), .val (.int p2), .val (.int p3), .val (.int p4), .val (.long uu), .second, .val (.long vv), .second, .val (.long ww), .second, .val (.long lo), .second, .val (.long hi), .second, .val (.long mi), .second, .val (.int (3 : Int32)), .val (.int y0), .val (.int y1), .val (.int y2), .val (.ref b151), .val (.ref g163)] [(.int (lcmpW ((y1 - y0).toInt64) (mi - lo)))])) _
        refine own_go (fun _ k => XS.ifNo X163.here hx rfl (hb hby at_205) rfl ((if0 _ _).trans (teq ((lw_eq _ _).mpr (own_g1 hy))).2) k) ?_
        show own_G p e below (T163.setTop (mkF m 208 #[.val (.int p1), .val (.int p2), .val (.int p3), .val (.int p4), .val (.long uu), .second, .val (.long vv), .second, .val (.long ww), .second, .val (.long lo), .second, .val (.long hi), .second, .val (.long mi), .second, .val (.int (3 : Int32)), .val (.int y0), .val (.int y1), .val (.int y2), .val (.ref b151), .val (.ref g163)] [])) _
        refine own_go (fun _ k => XS.aload X163.here hx rfl (hb hby at_208) rfl rfl k) ?_
        show own_G p e below (T163.setTop (mkF m 210 #[.val (.int p1), .val (.int p2), .val (.int p3), .val (.int p4), .val (.long uu), .second, .val (.long vv), .second, .val (.long ww), .second, .val (.long lo), .second, .val (.long hi), .second, .val (.long mi), .second, .val (.int (3 : Int32)), .val (.int y0), .val (.int y1), .val (.int y2), .val (.ref b151), .val (.ref g163)] [(.ref b151)])) _
        refine own_go (fun _ k => XS.iconst X163.here hx rfl (hb hby at_210) k) ?_
        show own_G p e below (T163.setTop (mkF m 211 #[.val (.int p1), .val (.int p2), .val (.int p3), .val (.int p4), .val (.long uu), .second, .val (.long vv), .second, .val (.long ww), .second, .val (.long lo), .second, .val (.long hi), .second, .val (.long mi), .second, .val (.int (3 : Int32)), .val (.int y0), .val (.int y1), .val (.int y2), .val (.ref b151), .val (.ref g163)] [(.int (1 : Int32)), (.ref b151)])) _
        obtain ⟨cl171, Ar171, q171, S171, M171, B171, G171⟩ := id f165
        have hin171 : ¬ ((1 : Int32) < 0 ∨ cl171.slots.size ≤ ((1 : Int32)).toNatClampNeg) := inb_of S171 ⟨by decide, by decide⟩
        have hat171 : cl171.slots[((1 : Int32)).toNatClampNeg]? = some (.int y1) := B171.at hin171 rfl
        refine own_go (X163.iaload hx (j := (1 : Int32)) (v := (.int y1)) Ar171.1 (State.isArrayOf_alike hZ.alike Ar171.2.1) Ar171.2.2 hin171 hat171 (g := (mkF m 211 #[.val (.int p1), .val (.int p2), .val (.int p3), .val (.int p4), .val (.long uu), .second, .val (.long vv), .second, .val (.long ww), .second, .val (.long lo), .second, .val (.long hi), .second, .val (.long mi), .second, .val (.int (3 : Int32)), .val (.int y0), .val (.int y1), .val (.int y2), .val (.ref b151), .val (.ref g163)] [(.int (1 : Int32)), (.ref b151)])) rfl rfl (hb hby at_211)) ?_
        show own_G p e below (T163.setTop (mkF m 212 #[.val (.int p1), .val (.int p2), .val (.int p3), .val (.int p4), .val (.long uu), .second, .val (.long vv), .second, .val (.long ww), .second, .val (.long lo), .second, .val (.long hi), .second, .val (.long mi), .second, .val (.int (3 : Int32)), .val (.int y0), .val (.int y1), .val (.int y2), .val (.ref b151), .val (.ref g163)] [(.int y1)])) _
        refine own_go (fun _ k => XS.iload X163.here hx rfl (hb hby at_212) rfl k) ?_
        show own_G p e below (T163.setTop (mkF m 214 #[.val (.int p1), .val (.int p2), .val (.int p3), .val (.int p4), .val (.long uu), .second, .val (.long vv), .second, .val (.long ww), .second, .val (.long lo), .second, .val (.long hi), .second, .val (.long mi), .second, .val (.int (3 : Int32)), .val (.int y0), .val (.int y1), .val (.int y2), .val (.ref b151), .val (.ref g163)] [(.int y1), (.int y1)])) _
        refine own_go (fun _ k => XS.icmpYes X163.here hx rfl (pc0 := 214) (pc' := 219) rfl (hb hby at_214) rfl (teq (rfl : y1 = y1)).1 (by decide) (by decide) k) ?_
        show own_G p e below (T163.setTop (mkF m 219 #[.val (.int p1), .val (.int p2), .val (.int p3), .val (.int p4), .val (.long uu), .second, .val (.long vv), .second, .val (.long ww), .second, .val (.long lo), .second, .val (.long hi), .second, .val (.long mi), .second, .val (.int (3 : Int32)), .val (.int y0), .val (.int y1), .val (.int y2), .val (.ref b151), .val (.ref g163)] [])) _
        refine own_go (fun _ k => XS.iload X163.here hx rfl (hb hby at_219) rfl k) ?_
        show own_G p e below (T163.setTop (mkF m 221 #[.val (.int p1), .val (.int p2), .val (.int p3), .val (.int p4), .val (.long uu), .second, .val (.long vv), .second, .val (.long ww), .second, .val (.long lo), .second, .val (.long hi), .second, .val (.long mi), .second, .val (.int (3 : Int32)), .val (.int y0), .val (.int y1), .val (.int y2), .val (.ref b151), .val (.ref g163)] [(.int (3 : Int32))])) _
        refine own_go (fun _ k => XS.iconst X163.here hx rfl (hb hby at_221) k) ?_
        show own_G p e below (T163.setTop (mkF m 222 #[.val (.int p1), .val (.int p2), .val (.int p3), .val (.int p4), .val (.long uu), .second, .val (.long vv), .second, .val (.long ww), .second, .val (.long lo), .second, .val (.long hi), .second, .val (.long mi), .second, .val (.int (3 : Int32)), .val (.int y0), .val (.int y1), .val (.int y2), .val (.ref b151), .val (.ref g163)] [(.int (2 : Int32)), (.int (3 : Int32))])) _
        refine own_go (fun _ k => XS.icmpNo X163.here hx rfl (hb hby at_222) rfl (tlt (by decide : (2 : Int32) < (3 : Int32))).2.2.2 k) ?_
        show own_G p e below (T163.setTop (mkF m 225 #[.val (.int p1), .val (.int p2), .val (.int p3), .val (.int p4), .val (.long uu), .second, .val (.long vv), .second, .val (.long ww), .second, .val (.long lo), .second, .val (.long hi), .second, .val (.long mi), .second, .val (.int (3 : Int32)), .val (.int y0), .val (.int y1), .val (.int y2), .val (.ref b151), .val (.ref g163)] [])) _
        refine own_go (fun _ k => XS.aload X163.here hx rfl (hb hby at_225) rfl rfl k) ?_
        show own_G p e below (T163.setTop (mkF m 227 #[.val (.int p1), .val (.int p2), .val (.int p3), .val (.int p4), .val (.long uu), .second, .val (.long vv), .second, .val (.long ww), .second, .val (.long lo), .second, .val (.long hi), .second, .val (.long mi), .second, .val (.int (3 : Int32)), .val (.int y0), .val (.int y1), .val (.int y2), .val (.ref b151), .val (.ref g163)] [(.ref g163)])) _
        refine own_go (fun _ k => XS.iconst X163.here hx rfl (hb hby at_227) k) ?_
        show own_G p e below (T163.setTop (mkF m 228 #[.val (.int p1), .val (.int p2), .val (.int p3), .val (.int p4), .val (.long uu), .second, .val (.long vv), .second, .val (.long ww), .second, .val (.long lo), .second, .val (.long hi), .second, .val (.long mi), .second, .val (.int (3 : Int32)), .val (.int y0), .val (.int y1), .val (.int y2), .val (.ref b151), .val (.ref g163)] [(.int (2 : Int32)), (.ref g163)])) _
        obtain ⟨cl172, Ar172, q172, S172, M172, B172, G172⟩ := id Vg163
        have hin172 : ¬ ((2 : Int32) < 0 ∨ cl172.slots.size ≤ ((2 : Int32)).toNatClampNeg) := inb_of S172 ⟨by decide, by decide⟩
        have hat172 : cl172.slots[((2 : Int32)).toNatClampNeg]? = some (.int (y2 - y1)) := B172.at hin172 rfl
        refine own_go (X163.iaload hx (j := (2 : Int32)) (v := (.int (y2 - y1))) Ar172.1 (State.isArrayOf_alike hZ.alike Ar172.2.1) Ar172.2.2 hin172 hat172 (g := (mkF m 228 #[.val (.int p1), .val (.int p2), .val (.int p3), .val (.int p4), .val (.long uu), .second, .val (.long vv), .second, .val (.long ww), .second, .val (.long lo), .second, .val (.long hi), .second, .val (.long mi), .second, .val (.int (3 : Int32)), .val (.int y0), .val (.int y1), .val (.int y2), .val (.ref b151), .val (.ref g163)] [(.int (2 : Int32)), (.ref g163)])) rfl rfl (hb hby at_228)) ?_
        show own_G p e below (T163.setTop (mkF m 229 #[.val (.int p1), .val (.int p2), .val (.int p3), .val (.int p4), .val (.long uu), .second, .val (.long vv), .second, .val (.long ww), .second, .val (.long lo), .second, .val (.long hi), .second, .val (.long mi), .second, .val (.int (3 : Int32)), .val (.int y0), .val (.int y1), .val (.int y2), .val (.ref b151), .val (.ref g163)] [(.int (y2 - y1))])) _
        refine own_go (fun _ k => XS.i2l X163.here hx rfl (hb hby at_229) rfl k) ?_
        show own_G p e below (T163.setTop (mkF m 230 #[.val (.int p1), .val (.int p2), .val (.int p3), .val (.int p4), .val (.long uu), .second, .val (.long vv), .second, .val (.long ww), .second, .val (.long lo), .second, .val (.long hi), .second, .val (.long mi), .second, .val (.int (3 : Int32)), .val (.int y0), .val (.int y1), .val (.int y2), .val (.ref b151), .val (.ref g163)] [(.long ((y2 - y1).toInt64))])) _
        refine own_go (fun _ k => XS.lload X163.here hx rfl (hb hby at_230) rfl k) ?_
        show own_G p e below (T163.setTop (mkF m 232 #[.val (.int p1), .val (.int p2), .val (.int p3), .val (.int p4), .val (.long uu), .second, .val (.long vv), .second, .val (.long ww), .second, .val (.long lo), .second, .val (.long hi), .second, .val (.long mi), .second, .val (.int (3 : Int32)), .val (.int y0), .val (.int y1), .val (.int y2), .val (.ref b151), .val (.ref g163)] [(.long hi), (.long ((y2 - y1).toInt64))])) _
        refine own_go (fun _ k => XS.lload X163.here hx rfl (hb hby at_232) rfl k) ?_
        show own_G p e below (T163.setTop (mkF m 234 #[.val (.int p1), .val (.int p2), .val (.int p3), .val (.int p4), .val (.long uu), .second, .val (.long vv), .second, .val (.long ww), .second, .val (.long lo), .second, .val (.long hi), .second, .val (.long mi), .second, .val (.int (3 : Int32)), .val (.int y0), .val (.int y1), .val (.int y2), .val (.ref b151), .val (.ref g163)] [(.long mi), (.long hi), (.long ((y2 - y1).toInt64))])) _
        refine own_go (fun _ k => XS.lsub X163.here hx rfl (hb hby at_234) rfl k) ?_
        show own_G p e below (T163.setTop (mkF m 235 #[.val (.int p1), .val (.int p2), .val (.int p3), .val (.int p4), .val (.long uu), .second, .val (.long vv), .second, .val (.long ww), .second, .val (.long lo), .second, .val (.long hi), .second, .val (.long mi), .second, .val (.int (3 : Int32)), .val (.int y0), .val (.int y1), .val (.int y2), .val (.ref b151), .val (.ref g163)] [(.long (hi - mi)), (.long ((y2 - y1).toInt64))])) _
        refine own_go (fun _ k => XS.lcmp X163.here hx rfl (hb hby at_235) rfl k) ?_
        show own_G p e below (T163.setTop (mkF m 236 #[.val (.int p1), .val (.int p2), .val (.int p3), .val (.int p4), .val (.long uu), .second, .val (.long vv), .second, .val (.long ww), .second, .val (.long lo), .second, .val (.long hi), .second, .val (.long mi), .second, .val (.int (3 : Int32)), .val (.int y0), .val (.int y1), .val (.int y2), .val (.ref b151), .val (.ref g163)] [(.int (lcmpW ((y2 - y1).toInt64) (hi - mi)))])) _
        refine own_go (fun _ k => XS.ifNo X163.here hx rfl (hb hby at_236) rfl ((if0 _ _).trans (teq ((lw_eq _ _).mpr (own_g2 hy))).2) k) ?_
        show own_G p e below (T163.setTop (mkF m 239 #[.val (.int p1), .val (.int p2), .val (.int p3), .val (.int p4), .val (.long uu), .second, .val (.long vv), .second, .val (.long ww), .second, .val (.long lo), .second, .val (.long hi), .second, .val (.long mi), .second, .val (.int (3 : Int32)), .val (.int y0), .val (.int y1), .val (.int y2), .val (.ref b151), .val (.ref g163)] [])) _
        refine own_go (fun _ k => XS.aload X163.here hx rfl (hb hby at_239) rfl rfl k) ?_
        show own_G p e below (T163.setTop (mkF m 241 #[.val (.int p1), .val (.int p2), .val (.int p3), .val (.int p4), .val (.long uu), .second, .val (.long vv), .second, .val (.long ww), .second, .val (.long lo), .second, .val (.long hi), .second, .val (.long mi), .second, .val (.int (3 : Int32)), .val (.int y0), .val (.int y1), .val (.int y2), .val (.ref b151), .val (.ref g163)] [(.ref b151)])) _
        refine own_go (fun _ k => XS.iconst X163.here hx rfl (hb hby at_241) k) ?_
        show own_G p e below (T163.setTop (mkF m 242 #[.val (.int p1), .val (.int p2), .val (.int p3), .val (.int p4), .val (.long uu), .second, .val (.long vv), .second, .val (.long ww), .second, .val (.long lo), .second, .val (.long hi), .second, .val (.long mi), .second, .val (.int (3 : Int32)), .val (.int y0), .val (.int y1), .val (.int y2), .val (.ref b151), .val (.ref g163)] [(.int (2 : Int32)), (.ref b151)])) _
        obtain ⟨cl173, Ar173, q173, S173, M173, B173, G173⟩ := id f165
        have hin173 : ¬ ((2 : Int32) < 0 ∨ cl173.slots.size ≤ ((2 : Int32)).toNatClampNeg) := inb_of S173 ⟨by decide, by decide⟩
        have hat173 : cl173.slots[((2 : Int32)).toNatClampNeg]? = some (.int y2) := B173.at hin173 rfl
        refine own_go (X163.iaload hx (j := (2 : Int32)) (v := (.int y2)) Ar173.1 (State.isArrayOf_alike hZ.alike Ar173.2.1) Ar173.2.2 hin173 hat173 (g := (mkF m 242 #[.val (.int p1), .val (.int p2), .val (.int p3), .val (.int p4), .val (.long uu), .second, .val (.long vv), .second, .val (.long ww), .second, .val (.long lo), .second, .val (.long hi), .second, .val (.long mi), .second, .val (.int (3 : Int32)), .val (.int y0), .val (.int y1), .val (.int y2), .val (.ref b151), .val (.ref g163)] [(.int (2 : Int32)), (.ref b151)])) rfl rfl (hb hby at_242)) ?_
        show own_G p e below (T163.setTop (mkF m 243 #[.val (.int p1), .val (.int p2), .val (.int p3), .val (.int p4), .val (.long uu), .second, .val (.long vv), .second, .val (.long ww), .second, .val (.long lo), .second, .val (.long hi), .second, .val (.long mi), .second, .val (.int (3 : Int32)), .val (.int y0), .val (.int y1), .val (.int y2), .val (.ref b151), .val (.ref g163)] [(.int y2)])) _
        refine own_go (fun _ k => XS.iload X163.here hx rfl (hb hby at_243) rfl k) ?_
        show own_G p e below (T163.setTop (mkF m 245 #[.val (.int p1), .val (.int p2), .val (.int p3), .val (.int p4), .val (.long uu), .second, .val (.long vv), .second, .val (.long ww), .second, .val (.long lo), .second, .val (.long hi), .second, .val (.long mi), .second, .val (.int (3 : Int32)), .val (.int y0), .val (.int y1), .val (.int y2), .val (.ref b151), .val (.ref g163)] [(.int y2), (.int y2)])) _
        refine own_go (fun _ k => XS.icmpYes X163.here hx rfl (pc0 := 245) (pc' := 250) rfl (hb hby at_245) rfl (teq (rfl : y2 = y2)).1 (by decide) (by decide) k) ?_
        show own_G p e below (T163.setTop (mkF m 250 #[.val (.int p1), .val (.int p2), .val (.int p3), .val (.int p4), .val (.long uu), .second, .val (.long vv), .second, .val (.long ww), .second, .val (.long lo), .second, .val (.long hi), .second, .val (.long mi), .second, .val (.int (3 : Int32)), .val (.int y0), .val (.int y1), .val (.int y2), .val (.ref b151), .val (.ref g163)] [])) _
        refine own_go (fun _ k => XS.iconst X163.here hx rfl (hb hby at_250) k) ?_
        show own_G p e below (T163.setTop (mkF m 251 #[.val (.int p1), .val (.int p2), .val (.int p3), .val (.int p4), .val (.long uu), .second, .val (.long vv), .second, .val (.long ww), .second, .val (.long lo), .second, .val (.long hi), .second, .val (.long mi), .second, .val (.int (3 : Int32)), .val (.int y0), .val (.int y1), .val (.int y2), .val (.ref b151), .val (.ref g163)] [(.int (1 : Int32))])) _
        refine own_ret X163 hlk (v := some (.int (1 : Int32))) (fun h => by rw [hret] at h; cases h) (Q0 Z p1 p2 p3 p4 h0 n0) (own_retI X163 hx (t := .boolean) hret rfl (Or.inl ⟨rfl, by simp, _, rfl⟩) (hb hby at_251)) (by decide) (by decide) ?_
        show Q0 Z p1 p2 p3 p4 h0 n0 _ T163.heap _
        exact ⟨rfl, N163⟩
set_option maxRecDepth 65536 in
set_option maxHeartbeats 40000000 in
theorem comes_1 {Post : Tables → Env → Array Value → State → Outcome → State → Prop} (hpost : ∀ tb e args s v u, (limb_1_1.after args s (.returned v) u = true ∧ limb_1_2.after args s (.returned v) u = true ∧ True) → FrameEnd s (.returned v) u (Jvm.fieldLocs frame_1_writes args s ++ Jvm.arrayLocs frame_1_arrays args s ++ Jvm.staticLocs frame_1_statics s) 16 128 → Post tb e args s (.returned v) u) :
    ArmFor flags0 classFile x code maxLocals ret World_1 tables_1 room_1 Calls_1 rest_1 Pre_1 Post := by
  intro l hfl _ _ p e ha hc hk s m args below hf hA hF happ hP
  obtain ⟨hcalls, hrest, hpre⟩ := hP
  obtain ⟨-, -, -, hnamed, -, -, -, hat⟩ := (Spec.applies_iff hf).mp happ
  obtain ⟨hg, hn⟩ := and_e (Cond.before_iff.mp (show (Jvm.Cond.and given_1 narrow_1).before args s = true from hpre))
  obtain ⟨g1, g2⟩ := and_e hg
  obtain ⟨g3, g4⟩ := and_e g2
  obtain ⟨g5, g6⟩ := and_e g4
  obtain ⟨g7, g8⟩ := and_e g6
  obtain ⟨w0, w1, w2, w3, rfl⟩ : ∃ w0 w1 w2 w3 : Value, args = #[w0, w1, w2, w3] := by
    have hs : args.size = 4 := by simpa [Cond.value, given_1] using g1
    obtain ⟨L⟩ := args
    match L, hs with
    | [w0, w1, w2, w3], _ => exact ⟨w0, w1, w2, w3, rfl⟩
  have hw := fun d (hd : d ∈ tables_1) => atoms_spec (ws := Jvm.Cond.code x code maxLocals ret :: tables_1) hat d (List.mem_cons_of_mem _ hd)
  obtain ⟨i0, ei0⟩ := is_v g3
  obtain rfl : w0 = (.int i0) := Option.some.inj ei0
  obtain ⟨i1, ei1⟩ := is_v g5
  obtain rfl : w1 = (.int i1) := Option.some.inj ei1
  obtain ⟨i2, ei2⟩ := is_v g7
  obtain rfl : w2 = (.int i2) := Option.some.inj ei2
  obtain ⟨i3, ei3⟩ := is_v g8
  obtain rfl : w3 = (.int i3) := Option.some.inj ei3
  obtain ⟨n, o, h1, h2, h3, _, L, rfl, ⟨rfl, N⟩, hq⟩ := rm0 l s _ hw tables_1 i0 i1 i2 i3 s.heap s.heap.size (Nat.le_refl _) p e ha hc hk s m _ below hf ((Spec.applies_iff_loose hf).mp happ).1 ⟨rfl, State.Warmed39.refl s, rfl⟩ trivial
  refine ⟨n, _, h1, h2, h3, hpost _ _ _ _ _ _ ⟨Cond.after_iff.mpr rfl, Cond.after_iff.mpr (eq_i res_at (Term.int_eval (1)) rfl), trivial⟩ ⟨hq.1, hq.2.1, (hq.2.2.sift fun y hy => Or.inr (N y hy)).mono (by decide) (by decide)⟩⟩
theorem main_1_1 : Claimed_1_1 := comes_1 fun _ _ _ _ _ _ h hF => ⟨h.1, hF⟩
theorem main_1_2 : Claimed_1_2 := comes_1 fun _ _ _ _ _ _ h hF => ⟨h.2.1, hF⟩
end Jvm.Pilot.@@N@@
namespace Jvm.Pilot.@@N@@
open Jvm Jvm.ClassFile Sem Op Lib Jvm.Free Jvm.Stand Jvm.Pilot.@@N@@.Jvm.D
/-! MADE BY PROGRAM (witnessworld.py) out of the Statement's table words and the real class files: 10 classes; the members and pool entries that the words name. The judged class is class 1, her method 1. -/
namespace start1
open Jvm.ClassFile
def u (s : String) : CpInfo := .utf8 (stringToUtf16 s)
/-- a pool by its gaps: so many unusable entries, then the entry; so many at the end -/
def gap : Nat → List CpInfo → List CpInfo
  | 0, r => r
  | n + 1, r => .unusable :: gap n r
def poolList (es : List (Nat × CpInfo)) (last : Nat) : List CpInfo := es.foldr (fun e r => gap e.1 (e.2 :: r)) (gap last [])
def pool (es : List (Nat × CpInfo)) (last : Nat) : Array CpInfo := ⟨poolList es last⟩
def fileOf (pool : Array CpInfo) (this : Nat) (attrs : Array Attribute := #[]) (ms : Array MethodInfo := #[]) (fl : Nat := 33) (sup : Nat := 0) (ifs : Array Nat := #[]) (fds : Array FieldInfo := #[]) : ClassFile where
  minorVersion := 0
  majorVersion := 65
  constantPool := pool
  accessFlags := fl
  thisClass := this
  superClass := sup
  interfaces := ifs
  fields := fds
  methods := ms
  attributes := attrs
def plain (name : String) (sup : Option ClassId) : Class where
  name := name
  kind := .ordinary
  loader := none
  accessFlags := 33
  super := sup
  interfaces := #[]
  cf := none
  fields := #[]
  methods := #[]
  instanceTypes := #[]
  staticTypes := #[]
  resolved := #[]
  callSites := []
  init := .initialized
  statics := none
  mirror := none

def pool0 : Array CpInfo := pool [(5, u "<init>"), (0, u "()V"), (1, .class_ 10), (1, u "java/lang/Object")] 113

def k0m0 : Method := { name := "<init>", desc := "()V", sig := { parameters := [], returnType := none }, accessFlags := 1, code := none }
/-- java/lang/Object -/
def k0 : Class := { plain "java/lang/Object" none with
  accessFlags := 33
  interfaces := #[]
  cf := some (fileOf pool0 8 #[] #[{ accessFlags := 1, nameIndex := 5, descriptorIndex := 6, attributes := #[] }] 33 0 #[] #[])
  fields := #[]
  methods := #[k0m0]
  instanceTypes := #[]
  staticTypes := #[]
  resolved := Array.replicate 124 none
  statics := none }

def pool1 : Array CpInfo := pool [(2, .class_ 4), (1, u "java/lang/Object"), (0, u "<init>"), (0, u "()V"), (0, .integer 2147483647), (0, .methodref 9 10), (0, .class_ 11), (0, .nameAndType 12 13), (0, u "java/lang/Math"), (0, u "min"), (0, u "(JJ)J"), (0, .methodref 9 15), (0, .nameAndType 16 13), (0, u "max"), (0, .methodref 18 19), (0, .class_ 20), (0, .nameAndType 21 22), (0, u "com/example/bitfold/bitfold/IdLists"), (0, u "gaps"), (0, u "([I)[I"), (0, .class_ 24), (0, u "com/example/bitfold/bitfold/IdListsGapsPinLaw"), (2, u "law"), (0, u "(IIII)Z")] 5

def k1m0 : Method := { name := "<init>", desc := "()V", sig := { parameters := [], returnType := none }, accessFlags := 1, code := none }
def k1c1 : Code := { maxStack := 6, maxLocals := 22, code := code, exceptionTable := #[], attributes := #[] }
def k1m1 : Method := { name := "law", desc := "(IIII)Z", sig := { parameters := [.int, .int, .int, .int], returnType := some .boolean }, accessFlags := 9, code := some k1c1 }
/-- com/example/bitfold/bitfold/IdListsGapsPinLaw -/
def k1 : Class := { plain "com/example/bitfold/bitfold/IdListsGapsPinLaw" (some 0) with
  accessFlags := 49
  interfaces := #[]
  cf := some (fileOf pool1 23 #[] #[{ accessFlags := 1, nameIndex := 5, descriptorIndex := 6, attributes := #[] }, { accessFlags := 9, nameIndex := 27, descriptorIndex := 28, attributes := #[] }] 49 2 #[] #[])
  fields := #[]
  methods := #[k1m0, k1m1]
  instanceTypes := #[]
  staticTypes := #[]
  resolved := Array.replicate 34 none
  statics := none }

def pool2 : Array CpInfo := pool [(1, .class_ 2), (0, u "java/lang/Math"), (1, .class_ 6), (1, u "java/lang/Object"), (0, u "<init>"), (0, u "()V"), (89, .class_ 100), (1, u "java/lang/Math$RandomNumberGeneratorHolder"), (20, u "(JJ)J"), (50, u "negativeZeroFloatBits"), (0, u "J"), (2, u "negativeZeroDoubleBits"), (21, u "max"), (2, u "min"), (43, u "$assertionsDisabled"), (0, u "Z"), (91, u "twoToTheDoubleScaleDown"), (0, u "D"), (4, u "twoToTheDoubleScaleUp"), (9, u "E"), (3, u "PI"), (2, u "TAU"), (2, u "DEGREES_TO_RADIANS"), (0, u "RADIANS_TO_DEGREES")] 94

def k2m0 : Method := { name := "<init>", desc := "()V", sig := { parameters := [], returnType := none }, accessFlags := 2, code := none }
def k2c1 : Code := { maxStack := 4, maxLocals := 4, code := jdk_29_method_66_code, exceptionTable := #[], attributes := #[] }
def k2m1 : Method := { name := "max", desc := "(JJ)J", sig := { parameters := [.long, .long], returnType := some .long }, accessFlags := 9, code := some k2c1 }
def k2c2 : Code := { maxStack := 4, maxLocals := 4, code := jdk_29_method_70_code, exceptionTable := #[], attributes := #[] }
def k2m2 : Method := { name := "min", desc := "(JJ)J", sig := { parameters := [.long, .long], returnType := some .long }, accessFlags := 9, code := some k2c2 }
/-- java/lang/Math -/
def k2 : Class := { plain "java/lang/Math" (some 0) with
  accessFlags := 49
  interfaces := #[]
  cf := some (fileOf pool2 1 #[.nestMembers #[98]] #[{ accessFlags := 2, nameIndex := 7, descriptorIndex := 8, attributes := #[] }, { accessFlags := 9, nameIndex := 198, descriptorIndex := 121, attributes := #[] }, { accessFlags := 9, nameIndex := 201, descriptorIndex := 121, attributes := #[] }] 49 4 #[] #[{ accessFlags := 25, nameIndex := 354, descriptorIndex := 339, attributes := #[] }, { accessFlags := 25, nameIndex := 358, descriptorIndex := 339, attributes := #[] }, { accessFlags := 25, nameIndex := 361, descriptorIndex := 339, attributes := #[] }, { accessFlags := 26, nameIndex := 364, descriptorIndex := 339, attributes := #[] }, { accessFlags := 26, nameIndex := 365, descriptorIndex := 339, attributes := #[] }, { accessFlags := 26, nameIndex := 172, descriptorIndex := 173, attributes := #[] }, { accessFlags := 26, nameIndex := 176, descriptorIndex := 173, attributes := #[] }, { accessFlags := 8, nameIndex := 344, descriptorIndex := 339, attributes := #[] }, { accessFlags := 8, nameIndex := 338, descriptorIndex := 339, attributes := #[] }, { accessFlags := 4120, nameIndex := 245, descriptorIndex := 246, attributes := #[] }])
  fields := #[{ name := "E", type := .double, accessFlags := 25, slot := 0, constantValue := 0 }, { name := "PI", type := .double, accessFlags := 25, slot := 1, constantValue := 0 }, { name := "TAU", type := .double, accessFlags := 25, slot := 2, constantValue := 0 }, { name := "DEGREES_TO_RADIANS", type := .double, accessFlags := 26, slot := 3, constantValue := 0 }, { name := "RADIANS_TO_DEGREES", type := .double, accessFlags := 26, slot := 4, constantValue := 0 }, { name := "negativeZeroFloatBits", type := .long, accessFlags := 26, slot := 5, constantValue := 0 }, { name := "negativeZeroDoubleBits", type := .long, accessFlags := 26, slot := 6, constantValue := 0 }, { name := "twoToTheDoubleScaleUp", type := .double, accessFlags := 8, slot := 7, constantValue := 0 }, { name := "twoToTheDoubleScaleDown", type := .double, accessFlags := 8, slot := 8, constantValue := 0 }, { name := "$assertionsDisabled", type := .boolean, accessFlags := 4120, slot := 9, constantValue := 0 }]
  methods := #[k2m0, k2m1, k2m2]
  instanceTypes := #[]
  staticTypes := #[.double, .double, .double, .double, .double, .long, .long, .double, .double, .boolean]
  resolved := Array.replicate 460 none
  statics := none }

def pool3 : Array CpInfo := pool [(2, .class_ 4), (1, u "java/lang/Object"), (0, u "<init>"), (0, u "()V"), (49, .class_ 57), (0, u "com/example/bitfold/bitfold/IdLists"), (9, u "gaps"), (0, u "([I)[I")] 6

def k3m0 : Method := { name := "<init>", desc := "()V", sig := { parameters := [], returnType := none }, accessFlags := 2, code := none }
def k3c1 : Code := { maxStack := 8, maxLocals := 4, code := prog_7_method_5_code, exceptionTable := #[], attributes := #[] }
def k3m1 : Method := { name := "gaps", desc := "([I)[I", sig := { parameters := [(.array .int)], returnType := some (.array .int) }, accessFlags := 8, code := some k3c1 }
/-- com/example/bitfold/bitfold/IdLists -/
def k3 : Class := { plain "com/example/bitfold/bitfold/IdLists" (some 0) with
  accessFlags := 48
  interfaces := #[]
  cf := some (fileOf pool3 56 #[] #[{ accessFlags := 2, nameIndex := 5, descriptorIndex := 6, attributes := #[] }, { accessFlags := 8, nameIndex := 67, descriptorIndex := 68, attributes := #[] }] 48 2 #[] #[])
  fields := #[]
  methods := #[k3m0, k3m1]
  instanceTypes := #[]
  staticTypes := #[]
  resolved := Array.replicate 75 none
  statics := none }

def pool4 : Array CpInfo := pool [(1, u "java/lang/Cloneable"), (0, .class_ 1), (0, u "java/lang/Object"), (0, .class_ 3)] 3

/-- java/lang/Cloneable -/
def k4 : Class := { plain "java/lang/Cloneable" (some 0) with
  accessFlags := 1537
  interfaces := #[]
  cf := some (fileOf pool4 2 #[] #[] 1537 4 #[] #[])
  fields := #[]
  methods := #[]
  instanceTypes := #[]
  staticTypes := #[]
  resolved := Array.replicate 8 none
  statics := none }

def pool5 : Array CpInfo := pool [(1, u "java/io/Serializable"), (0, .class_ 1), (0, u "java/lang/Object"), (0, .class_ 3)] 3

/-- java/io/Serializable -/
def k5 : Class := { plain "java/io/Serializable" (some 0) with
  accessFlags := 1537
  interfaces := #[]
  cf := some (fileOf pool5 2 #[] #[] 1537 4 #[] #[])
  fields := #[]
  methods := #[]
  instanceTypes := #[]
  staticTypes := #[]
  resolved := Array.replicate 8 none
  statics := none }

/-- the primitive byte -/
def k6 : Class := { plain "byte" none with kind := .primitive 'B', accessFlags := 0x411 }
/-- [B -/
def k7 : Class := { plain "[B" (some 0) with kind := .array 6 .byte, interfaces := #[4, 5], accessFlags := 1041 }

/-- the primitive int -/
def k8 : Class := { plain "int" none with kind := .primitive 'I', accessFlags := 0x411 }
/-- [I -/
def k9 : Class := { plain "[I" (some 0) with kind := .array 8 .int, interfaces := #[4, 5], accessFlags := 1041 }

def heap : Heap := #[]
def classes : Array Class := #[k0, k1, k2, k3, k4, k5, k6, k7, k8, k9]
def interned : List (Array UInt16 × Addr) := []
def slotsUsed : Nat := 0
def theMethod : MethodId := ⟨1, 1⟩
def args0 : Array Value := #[.int 5, .int 5, .int 5, .int 5]
def aboutOver (below : List Frame) : State where
  vm := { classes := classes, interned := interned.toArray }
  heap := heap
  slotsUsed := slotsUsed
  threads := #[{ frames := .invoking theMethod args0 :: below }]
def below0 : List Frame := [.native { method := ⟨0, 0⟩, args := #[] }]
def about1 : State := aboutOver below0
def p0 : Program := .bare "" "" ""
def e0 : Env := launch0.env 0 0 0
theorem w_frames : about1.frames = Frame.invoking theMethod args0 :: below0 := rfl
set_option maxRecDepth 65536 in
theorem w_args : argsFit about1.vm theMethod args0 = true := by decide +kernel
set_option maxRecDepth 65536 in
theorem w_heap : heapFits about1 = true := by decide +kernel
set_option maxRecDepth 65536 in
theorem w_runnable : about1.curStatus? = some .runnable := by decide +kernel
set_option maxRecDepth 65536 in
theorem w_alone : about1.alone = true := by decide +kernel
set_option maxRecDepth 65536 in
theorem w_named : about1.methodNamed? x = some theMethod := by decide +kernel
set_option maxRecDepth 65536 in
theorem w_hears : about1.hears theMethod below0 = true := by decide +kernel
set_option maxRecDepth 65536 in
theorem w_ripe : about1.ripe theMethod args0 below0 = true := by decide +kernel
theorem w_running : about1.status = .running := rfl
set_option maxRecDepth 65536 in
theorem w_room : about1.hasRoom e0.platform room_1 = true :=
  launch0.hasRoom_least _ room_1 (by decide +kernel) (by decide +kernel) (by decide +kernel) (by decide +kernel) (by decide +kernel) (by decide +kernel)
theorem allAtoms_all (ts : List Jvm.Cond) (a : Array Jvm.Value) (st : Jvm.State) : (allAtoms ts).before a st = ts.all (fun c => c.before a st) := by
  induction ts with
  | nil => rfl
  | cons c t ih =>
    show (Jvm.Cond.and c (allAtoms t)).before a st = _
    rw [Jvm.Cond.before_and, ih, List.all_cons]
def words1 : List Jvm.Cond := Jvm.Cond.code x code maxLocals ret :: tables_1
/-- a 'code' word, met by the world's own term for the bytes: nothing is compared byte by byte -/
theorem code_word {y : MethodName} {bytes : ByteArray} {mx : Nat} {rt : Option FieldType} {a : Array Value} {s : State} {m : MethodId} {meth : Method} {c : Code} (h1 : s.methodNamed? y = some m) (h2 : s.vm.method? m = some meth) (h3 : meth.code = some c) (h4 : c.code = bytes)
    (h5 : (c.maxLocals == mx && c.exceptionTable.isEmpty && decide (c.maxStack ≤ mostOperands) && decide (meth.sig.returnType = rt) && !meth.locks && decide (parseMethodDescriptor y.desc = some meth.sig)) = true) : (Jvm.Cond.code y bytes mx rt).before a s = true := by
  simp only [Bool.and_eq_true, beq_iff_eq, Bool.not_eq_true', decide_eq_true_eq] at h5
  obtain ⟨⟨⟨⟨⟨g1, g2⟩, g3⟩, g4⟩, g5⟩, g6⟩ := h5
  simp [Cond.before, Cond.holds, Cond.value, h1, h2, h3, h4, g1, g2, g3, g4, g5, g6]
def isCode : Jvm.Cond → Bool
  | .code _ _ _ _ => true
  | _ => false
theorem all_split {L : List Jvm.Cond} {P : Jvm.Cond → Bool} (h1 : L.all (fun c => isCode c || P c) = true) (h2 : ∀ c ∈ L.filter isCode, P c = true) : L.all P = true := by
  refine List.all_eq_true.mpr fun c hc => ?_
  have h := List.all_eq_true.mp h1 c hc
  rcases Bool.eq_false_or_eq_true (isCode c) with hi | hi
  · exact h2 c (List.mem_filter.mpr ⟨hc, hi⟩)
  · simpa [hi] using h
set_option maxRecDepth 65536 in
theorem w_c0 : (Jvm.Cond.code x code maxLocals ret).before args0 about1 = true := code_word (m := ⟨1, 1⟩) (meth := k1m1) (c := k1c1) (by decide +kernel) rfl rfl rfl (by decide +kernel)
set_option maxRecDepth 65536 in
theorem w_c1 : (Jvm.Cond.code ({ cls := "java/lang/Math", name := "min", desc := "(JJ)J" } : Jvm.MethodName) jdk_29_method_70_code (4 : Nat) (Option.some Jvm.ClassFile.FieldType.long)).before args0 about1 = true := code_word (m := ⟨2, 2⟩) (meth := k2m2) (c := k2c2) (by decide +kernel) rfl rfl rfl (by decide +kernel)
set_option maxRecDepth 65536 in
theorem w_c2 : (Jvm.Cond.code ({ cls := "java/lang/Math", name := "max", desc := "(JJ)J" } : Jvm.MethodName) jdk_29_method_66_code (4 : Nat) (Option.some Jvm.ClassFile.FieldType.long)).before args0 about1 = true := code_word (m := ⟨2, 1⟩) (meth := k2m1) (c := k2c1) (by decide +kernel) rfl rfl rfl (by decide +kernel)
set_option maxRecDepth 65536 in
theorem w_c3 : (Jvm.Cond.code ({ cls := "com/example/bitfold/bitfold/IdLists", name := "gaps", desc := "([I)[I" } : Jvm.MethodName) prog_7_method_5_code (4 : Nat) (Option.some (Jvm.ClassFile.FieldType.array Jvm.ClassFile.FieldType.int))).before args0 about1 = true := code_word (m := ⟨3, 1⟩) (meth := k3m1) (c := k3c1) (by decide +kernel) rfl rfl rfl (by decide +kernel)
def codes1 : List Jvm.Cond := [Jvm.Cond.code x code maxLocals ret, Jvm.Cond.code ({ cls := "java/lang/Math", name := "min", desc := "(JJ)J" } : Jvm.MethodName) jdk_29_method_70_code (4 : Nat) (Option.some Jvm.ClassFile.FieldType.long), Jvm.Cond.code ({ cls := "java/lang/Math", name := "max", desc := "(JJ)J" } : Jvm.MethodName) jdk_29_method_66_code (4 : Nat) (Option.some Jvm.ClassFile.FieldType.long), Jvm.Cond.code ({ cls := "com/example/bitfold/bitfold/IdLists", name := "gaps", desc := "([I)[I" } : Jvm.MethodName) prog_7_method_5_code (4 : Nat) (Option.some (Jvm.ClassFile.FieldType.array Jvm.ClassFile.FieldType.int))]
set_option maxRecDepth 65536 in
theorem codes_eq : words1.filter isCode = codes1 := rfl
theorem w_codes : ∀ c ∈ words1.filter isCode, c.before args0 about1 = true := by
  rw [codes_eq]
  intro c hc
  simp only [codes1, List.mem_cons, List.not_mem_nil, or_false] at hc
  rcases hc with rfl | rfl | rfl | rfl
  · exact w_c0
  · exact w_c1
  · exact w_c2
  · exact w_c3
set_option maxRecDepth 65536 in
theorem w_t1 : words1.all (fun c => isCode c || c.before args0 about1) = true := by decide +kernel
theorem w_tables : (allAtoms (Jvm.Cond.code x code maxLocals ret :: tables_1)).before args0 about1 = true := by
  rw [allAtoms_all]
  show words1.all (fun c => c.before args0 about1) = true
  refine all_split ?_ w_codes
  rw [w_t1]
set_option maxRecDepth 65536 in
theorem w_case : (Jvm.Cond.and given_1 narrow_1).before args0 about1 = true := by decide +kernel
theorem w_applies : (headSpec (Jvm.Cond.code x code maxLocals ret :: tables_1) room_1).applies x e0.platform about1 = true :=
  (Spec.applies_iff w_frames).mpr ⟨w_running, w_runnable, w_alone, w_named, w_hears, w_ripe, w_room, w_tables⟩
theorem atStart : AtStart classFile x code maxLocals ret World_1 tables_1 room_1 Calls_1 rest_1 Pre_1 launch0 p0 e0 about1 theMethod args0 below0 :=
  ⟨lists_1, trivial, launch0.admits_env _ _ _, launch0.least_env, fairChoices_fair.cas, fairChoices_fair.clock, w_frames, w_args, w_heap, w_applies, trivial, trivial, w_case⟩
end start1
theorem witness_1 : WitnessClaimed_1 := ⟨start1.p0, start1.e0, start1.about1, start1.theMethod, start1.args0, start1.below0, start1.atStart⟩
end Jvm.Pilot.@@N@@
