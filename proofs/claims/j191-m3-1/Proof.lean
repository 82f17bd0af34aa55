import JvmDerived
import JvmDerived.Pilot.@@N@@Statement
import JvmDerived.Pilot.@@N@@Code
set_option linter.unusedVariables false
set_option linter.unusedSimpArgs false
namespace Jvm.Pilot.@@N@@
open Jvm Jvm.ClassFile Sem Op Lib Jvm.Free Jvm.Stand Jvm.LawKit Jvm.RoadKit Bundle Jvm.Pilot.@@N@@.Jvm.D
/-! the goal of a walk, read forwards: from the state S the run comes to an end that P likes -/
def own_G (p : Program) (e : Env) (below : List Frame) (S : State) (P : State → Outcome → Prop) : Prop := ∃ s₂ o, Steps p.tables e below S s₂ ∧ s₂.status = .running ∧ Ended s₂ below o ∧ P s₂ o
theorem own_go {p : Program} {e : Env} {below : List Frame} {A B : State} {P : State → Outcome → Prop} (h : ∀ t, Steps p.tables e below A t → Steps p.tables e below B t) (g : own_G p e below A P) : own_G p e below B P := by
  obtain ⟨s₂, o, h1, h2⟩ := g
  exact ⟨s₂, o, h _ h1, h2⟩
theorem own_ret {p : Program} {l : Launch} {e : Env} {R : Room} {s : State} {m : MethodId} {args : Array Value} {below : List Frame} {meth : Method} {c : Code} {T : State} {locs : List Loc} {cells slots : Nat} (X : Stand p l e R s m args below meth c T locs cells slots) (hlocks : meth.locks = false) {v : Option Value} (hv : meth.sig.returnType = none → v = none) {g : JFrame} (Q : Option Value → Heap → List Loc → Prop) {C S : Nat}
    (st : ∀ fs : List Frame, (∀ (f : JFrame) (acts : List Action), f.method = m → f.locked = none → f.entered = [] → (doReturn e (T.setTop f) acts v).1 = T.setFrames fs) → Steps p.tables e below (T.setTop g) (T.setFrames fs))
    (hc : cells ≤ C) (hs : slots ≤ S) (hQ : Q v T.heap locs) : own_G p e below (T.setTop g) (fun s₂ o => ∃ v L, o = .returned v ∧ Q v s₂.heap L ∧ FrameEnd s o s₂ L C S) := by
  obtain ⟨fs, hr, hrun, hended, hW, hsame⟩ := X.leave (v := v) hv hlocks
  exact ⟨_, _, st fs hr, hrun, hended, _, _, rfl, hQ, ⟨_, rfl⟩, hW, hsame.mono hc hs⟩
theorem own_retI {p : Program} {l : Launch} {e : Env} {R : Room} {s : State} {m : MethodId} {args : Array Value} {below : List Frame} {meth : Method} {c : Code} {T : State} {locs : List Loc} {cells slots : Nat} (X : Stand p l e R s m args below meth c T locs cells slots) (hx : p.tables.exec = Jvm.exec) {pc : Nat} {Ls : Array Slot} {w : Value} {t : FieldType} {i : Instr} {rest : List Value} (hret : meth.sig.returnType = some t) (hn : narrow t w = w)
    (hi : (i = .ireturn ∧ (t = .int ∨ t = .boolean ∨ t = .byte ∨ t = .char ∨ t = .short) ∧ ∃ z, w = .int z) ∨ (i = .lreturn ∧ t = .long ∧ ∃ z, w = .long z) ∨ (i = .dreturn ∧ t = .double ∧ ∃ z, w = .double z) ∨ (i = .freturn ∧ t = .float ∧ ∃ z, w = .float z) ∨ (i = .areturn ∧ t.isReference = true ∧ w.isRef = true))
    (hd : decode c.code pc = .ok (i, 1)) (fs : List Frame) (hl : ∀ (f : JFrame) (acts : List Action), f.method = m → f.locked = none → f.entered = [] → (doReturn e (T.setTop f) acts (some w)).1 = T.setFrames fs) :
    Steps p.tables e below (T.setTop (mkF m pc Ls (w :: rest))) (T.setFrames fs) := retOut X hx hret hn hi hd hl
theorem own_retV {p : Program} {l : Launch} {e : Env} {R : Room} {s : State} {m : MethodId} {args : Array Value} {below : List Frame} {meth : Method} {c : Code} {T : State} {locs : List Loc} {cells slots : Nat} (X : Stand p l e R s m args below meth c T locs cells slots) (hx : p.tables.exec = Jvm.exec) {pc : Nat} {Ls : Array Slot} (hret : meth.sig.returnType = none)
    (hd : decode c.code pc = .ok (.return_, 1)) (fs : List Frame) (hl : ∀ (f : JFrame) (acts : List Action), f.method = m → f.locked = none → f.entered = [] → (doReturn e (T.setTop f) acts none).1 = T.setFrames fs) :
    Steps p.tables e below (T.setTop (mkF m pc Ls [])) (T.setFrames fs) := X.returnOut hx hret hd hl
def own_min (a b : Int64) : Int64 := if b < a then b else a
def own_max (a b : Int64) : Int64 := if a < b then b else a
theorem own_lt64 {a b : Int64} : a < b ↔ a.toInt < b.toInt := Int64.lt_iff_toInt_lt
theorem own_lt32 {a b : Int32} : a < b ↔ a.toInt < b.toInt := Int32.lt_iff_toInt_lt
theorem own_masknn (d : Int64) : ¬ (d &&& (9223372036854775807 : Int64)) < (0 : Int64) := by
  rw [own_lt64, c_maskL d (9223372036854775807 : Int64) 63 (by decide) (by decide), show (0 : Int64).toInt = 0 from rfl]
  omega
theorem own_dur1 {s d : Int64} (h : (s + (d &&& (9223372036854775807 : Int64))) < s) : ¬ ((9223372036854775807 : Int64) - s) < (0 : Int64) ∧ ¬ (s + ((9223372036854775807 : Int64) - s)) < s := by
  have m := own_masknn d
  simp only [own_lt64] at *
  have e0 : (0 : Int64).toInt = 0 := rfl
  have e1 : (9223372036854775807 : Int64).toInt = 9223372036854775807 := rfl
  have h1 := c_ladd s (d &&& (9223372036854775807 : Int64))
  have h2 := c_lsub (9223372036854775807 : Int64) s
  have h3 := c_ladd s ((9223372036854775807 : Int64) - s)
  have r1 := rng64 s
  have r2 := rng64 (d &&& (9223372036854775807 : Int64))
  have r3 := rng64 (s + (d &&& (9223372036854775807 : Int64)))
  have r4 := rng64 ((9223372036854775807 : Int64) - s)
  have r5 := rng64 (s + ((9223372036854775807 : Int64) - s))
  constructor <;> omega
theorem own_eqI {a b : Int64} : a = b ↔ a.toInt = b.toInt := Int64.toInt_inj.symm
theorem own_first {s e : Int64} (h : ¬ e < s) : ¬ (own_min (9223372036854775807 : Int64) s = (9223372036854775807 : Int64) ∧ own_max (-9223372036854775808 : Int64) e = (-9223372036854775808 : Int64)) := by
  have e1 : (9223372036854775807 : Int64).toInt = 9223372036854775807 := rfl
  have e2 : (-9223372036854775808 : Int64).toInt = -9223372036854775808 := rfl
  unfold own_min own_max
  split <;> split <;> simp only [own_lt64, own_eqI] at * <;> have r1 := rng64 s <;> have r2 := rng64 e <;> omega
theorem own_more {S E s e : Int64} (h : ¬ (S = (9223372036854775807 : Int64) ∧ E = (-9223372036854775808 : Int64))) : ¬ (own_min S s = (9223372036854775807 : Int64) ∧ own_max E e = (-9223372036854775808 : Int64)) := by
  have e1 : (9223372036854775807 : Int64).toInt = 9223372036854775807 := rfl
  have e2 : (-9223372036854775808 : Int64).toInt = -9223372036854775808 := rfl
  unfold own_min own_max
  split <;> split <;> simp only [own_lt64, own_eqI] at * <;> have r1 := rng64 s <;> have r2 := rng64 e <;> have r3 := rng64 S <;> have r4 := rng64 E <;> omega
theorem own_m3 (x : Int32) : 0 ≤ (x &&& (3 : Int32)).toInt := by
  rw [c_mask x (3 : Int32) 2 (by decide) (by decide)]
  omega
theorem own_l12 {n : Int32} (h : n < (1 : Int32)) : n < (2 : Int32) := by
  simp only [own_lt32] at *
  have e1 : (1 : Int32).toInt = 1 := rfl
  have e2 : (2 : Int32).toInt = 2 := rfl
  omega
theorem own_l23 {n : Int32} (h : n < (2 : Int32)) : n < (3 : Int32) := by
  simp only [own_lt32] at *
  have e1 : (3 : Int32).toInt = 3 := rfl
  have e2 : (2 : Int32).toInt = 2 := rfl
  omega
theorem own_z {n : Int32} (h0 : 0 ≤ n.toInt) (h : n < (1 : Int32)) : n = (0 : Int32) := by
  apply Int32.toInt_inj.mp
  rw [own_lt32] at h
  have e1 : (1 : Int32).toInt = 1 := rfl
  have e2 : (0 : Int32).toInt = 0 := rfl
  omega
theorem own_nz {n : Int32} (h : ¬ n < (1 : Int32)) : ¬ n = (0 : Int32) := fun q => h (by subst q; decide)
theorem d1_0 : decode prog_273_method_1_code 0 = .ok (.aload_n 0, 1) := by decide +kernel
theorem d1_1 : decode prog_273_method_1_code 1 = .ok (.invokespecial 1, 3) := by decide +kernel
theorem d1_4 : decode prog_273_method_1_code 4 = .ok (.aload_n 0, 1) := by decide +kernel
theorem d1_5 : decode prog_273_method_1_code 5 = .ok (.ldc2_w 9, 3) := by decide +kernel
theorem d1_8 : decode prog_273_method_1_code 8 = .ok (.putfield 11, 3) := by decide +kernel
theorem d1_11 : decode prog_273_method_1_code 11 = .ok (.aload_n 0, 1) := by decide +kernel
theorem d1_12 : decode prog_273_method_1_code 12 = .ok (.ldc2_w 17, 3) := by decide +kernel
theorem d1_15 : decode prog_273_method_1_code 15 = .ok (.putfield 19, 3) := by decide +kernel
theorem d1_18 : decode prog_273_method_1_code 18 = .ok (.return_, 1) := by decide +kernel
theorem d3_0 : decode method_2_code 0 = .ok (.lload_n 2, 1) := by decide +kernel
theorem d3_1 : decode method_2_code 1 = .ok (.ldc2_w 9, 3) := by decide +kernel
theorem d3_4 : decode method_2_code 4 = .ok (.land, 1) := by decide +kernel
theorem d3_5 : decode method_2_code 5 = .ok (.lstore 4, 2) := by decide +kernel
theorem d3_7 : decode method_2_code 7 = .ok (.lload_n 0, 1) := by decide +kernel
theorem d3_8 : decode method_2_code 8 = .ok (.lload 4, 2) := by decide +kernel
theorem d3_10 : decode method_2_code 10 = .ok (.ladd, 1) := by decide +kernel
theorem d3_11 : decode method_2_code 11 = .ok (.lload_n 0, 1) := by decide +kernel
theorem d3_12 : decode method_2_code 12 = .ok (.lcmp, 1) := by decide +kernel
theorem d3_13 : decode method_2_code 13 = .ok (.ifCond .ge 10, 3) := by decide +kernel
theorem d3_16 : decode method_2_code 16 = .ok (.ldc2_w 9, 3) := by decide +kernel
theorem d3_19 : decode method_2_code 19 = .ok (.lload_n 0, 1) := by decide +kernel
theorem d3_20 : decode method_2_code 20 = .ok (.lsub, 1) := by decide +kernel
theorem d3_21 : decode method_2_code 21 = .ok (.lstore 4, 2) := by decide +kernel
theorem d3_23 : decode method_2_code 23 = .ok (.lload 4, 2) := by decide +kernel
theorem d3_25 : decode method_2_code 25 = .ok (.lreturn, 1) := by decide +kernel
theorem d4_0 : decode prog_12_method_1_code 0 = .ok (.aload_n 0, 1) := by decide +kernel
theorem d4_1 : decode prog_12_method_1_code 1 = .ok (.invokespecial 5, 3) := by decide +kernel
theorem d4_4 : decode prog_12_method_1_code 4 = .ok (.aload_n 0, 1) := by decide +kernel
theorem d4_5 : decode prog_12_method_1_code 5 = .ok (.iload_n 1, 1) := by decide +kernel
theorem d4_6 : decode prog_12_method_1_code 6 = .ok (.putfield 11, 3) := by decide +kernel
theorem d4_9 : decode prog_12_method_1_code 9 = .ok (.aload_n 0, 1) := by decide +kernel
theorem d4_10 : decode prog_12_method_1_code 10 = .ok (.iload_n 2, 1) := by decide +kernel
theorem d4_11 : decode prog_12_method_1_code 11 = .ok (.putfield 15, 3) := by decide +kernel
theorem d4_14 : decode prog_12_method_1_code 14 = .ok (.aload_n 0, 1) := by decide +kernel
theorem d4_15 : decode prog_12_method_1_code 15 = .ok (.lload_n 3, 1) := by decide +kernel
theorem d4_16 : decode prog_12_method_1_code 16 = .ok (.putfield 18, 3) := by decide +kernel
theorem d4_19 : decode prog_12_method_1_code 19 = .ok (.aload_n 0, 1) := by decide +kernel
theorem d4_20 : decode prog_12_method_1_code 20 = .ok (.lload 5, 2) := by decide +kernel
theorem d4_22 : decode prog_12_method_1_code 22 = .ok (.putfield 22, 3) := by decide +kernel
theorem d4_25 : decode prog_12_method_1_code 25 = .ok (.aload_n 0, 1) := by decide +kernel
theorem d4_26 : decode prog_12_method_1_code 26 = .ok (.lload 7, 2) := by decide +kernel
theorem d4_28 : decode prog_12_method_1_code 28 = .ok (.putfield 25, 3) := by decide +kernel
theorem d4_31 : decode prog_12_method_1_code 31 = .ok (.aload_n 0, 1) := by decide +kernel
theorem d4_32 : decode prog_12_method_1_code 32 = .ok (.lload 9, 2) := by decide +kernel
theorem d4_34 : decode prog_12_method_1_code 34 = .ok (.putfield 28, 3) := by decide +kernel
theorem d4_37 : decode prog_12_method_1_code 37 = .ok (.aload_n 0, 1) := by decide +kernel
theorem d4_38 : decode prog_12_method_1_code 38 = .ok (.lload 11, 2) := by decide +kernel
theorem d4_40 : decode prog_12_method_1_code 40 = .ok (.putfield 31, 3) := by decide +kernel
theorem d4_43 : decode prog_12_method_1_code 43 = .ok (.aload_n 0, 1) := by decide +kernel
theorem d4_44 : decode prog_12_method_1_code 44 = .ok (.lload 13, 2) := by decide +kernel
theorem d4_46 : decode prog_12_method_1_code 46 = .ok (.putfield 34, 3) := by decide +kernel
theorem d4_49 : decode prog_12_method_1_code 49 = .ok (.aload_n 0, 1) := by decide +kernel
theorem d4_50 : decode prog_12_method_1_code 50 = .ok (.lload 15, 2) := by decide +kernel
theorem d4_52 : decode prog_12_method_1_code 52 = .ok (.putfield 37, 3) := by decide +kernel
theorem d4_55 : decode prog_12_method_1_code 55 = .ok (.aload_n 0, 1) := by decide +kernel
theorem d4_56 : decode prog_12_method_1_code 56 = .ok (.iload 17, 2) := by decide +kernel
theorem d4_58 : decode prog_12_method_1_code 58 = .ok (.putfield 40, 3) := by decide +kernel
theorem d4_61 : decode prog_12_method_1_code 61 = .ok (.return_, 1) := by decide +kernel
theorem d5_0 : decode jdk_30_method_1_code 0 = .ok (.aload_n 0, 1) := by decide +kernel
theorem d5_1 : decode jdk_30_method_1_code 1 = .ok (.invokespecial 1, 3) := by decide +kernel
theorem d5_4 : decode jdk_30_method_1_code 4 = .ok (.return_, 1) := by decide +kernel
theorem d6_0 : decode prog_273_method_4_code 0 = .ok (.aload_n 0, 1) := by decide +kernel
theorem d6_1 : decode prog_273_method_4_code 1 = .ok (.getfield 11, 3) := by decide +kernel
theorem d6_4 : decode prog_273_method_4_code 4 = .ok (.ldc2_w 9, 3) := by decide +kernel
theorem d6_7 : decode prog_273_method_4_code 7 = .ok (.lcmp, 1) := by decide +kernel
theorem d6_8 : decode prog_273_method_4_code 8 = .ok (.ifCond .ne 18, 3) := by decide +kernel
theorem d6_11 : decode prog_273_method_4_code 11 = .ok (.aload_n 0, 1) := by decide +kernel
theorem d6_12 : decode prog_273_method_4_code 12 = .ok (.getfield 19, 3) := by decide +kernel
theorem d6_15 : decode prog_273_method_4_code 15 = .ok (.ldc2_w 17, 3) := by decide +kernel
theorem d6_18 : decode prog_273_method_4_code 18 = .ok (.lcmp, 1) := by decide +kernel
theorem d6_19 : decode prog_273_method_4_code 19 = .ok (.ifCond .ne 7, 3) := by decide +kernel
theorem d6_22 : decode prog_273_method_4_code 22 = .ok (.iconst 1, 1) := by decide +kernel
theorem d6_23 : decode prog_273_method_4_code 23 = .ok (.goto 4, 3) := by decide +kernel
theorem d6_26 : decode prog_273_method_4_code 26 = .ok (.iconst 0, 1) := by decide +kernel
theorem d6_27 : decode prog_273_method_4_code 27 = .ok (.ireturn, 1) := by decide +kernel
theorem d7_0 : decode prog_273_method_2_code 0 = .ok (.aload_n 0, 1) := by decide +kernel
theorem d7_1 : decode prog_273_method_2_code 1 = .ok (.aload_n 0, 1) := by decide +kernel
theorem d7_2 : decode prog_273_method_2_code 2 = .ok (.getfield 11, 3) := by decide +kernel
theorem d7_5 : decode prog_273_method_2_code 5 = .ok (.aload_n 1, 1) := by decide +kernel
theorem d7_6 : decode prog_273_method_2_code 6 = .ok (.invokevirtual 22, 3) := by decide +kernel
theorem d7_9 : decode prog_273_method_2_code 9 = .ok (.invokestatic 27, 3) := by decide +kernel
theorem d7_12 : decode prog_273_method_2_code 12 = .ok (.putfield 11, 3) := by decide +kernel
theorem d7_15 : decode prog_273_method_2_code 15 = .ok (.aload_n 0, 1) := by decide +kernel
theorem d7_16 : decode prog_273_method_2_code 16 = .ok (.aload_n 0, 1) := by decide +kernel
theorem d7_17 : decode prog_273_method_2_code 17 = .ok (.getfield 19, 3) := by decide +kernel
theorem d7_20 : decode prog_273_method_2_code 20 = .ok (.aload_n 1, 1) := by decide +kernel
theorem d7_21 : decode prog_273_method_2_code 21 = .ok (.invokevirtual 33, 3) := by decide +kernel
theorem d7_24 : decode prog_273_method_2_code 24 = .ok (.invokestatic 35, 3) := by decide +kernel
theorem d7_27 : decode prog_273_method_2_code 27 = .ok (.putfield 19, 3) := by decide +kernel
theorem d7_30 : decode prog_273_method_2_code 30 = .ok (.return_, 1) := by decide +kernel
theorem d8_0 : decode prog_12_method_30_code 0 = .ok (.aload_n 0, 1) := by decide +kernel
theorem d8_1 : decode prog_12_method_30_code 1 = .ok (.getfield 28, 3) := by decide +kernel
theorem d8_4 : decode prog_12_method_30_code 4 = .ok (.lreturn, 1) := by decide +kernel
theorem d9_0 : decode jdk_29_method_70_code 0 = .ok (.lload_n 0, 1) := by decide +kernel
theorem d9_1 : decode jdk_29_method_70_code 1 = .ok (.lload_n 2, 1) := by decide +kernel
theorem d9_2 : decode jdk_29_method_70_code 2 = .ok (.lcmp, 1) := by decide +kernel
theorem d9_3 : decode jdk_29_method_70_code 3 = .ok (.ifCond .gt 7, 3) := by decide +kernel
theorem d9_6 : decode jdk_29_method_70_code 6 = .ok (.lload_n 0, 1) := by decide +kernel
theorem d9_7 : decode jdk_29_method_70_code 7 = .ok (.goto 4, 3) := by decide +kernel
theorem d9_10 : decode jdk_29_method_70_code 10 = .ok (.lload_n 2, 1) := by decide +kernel
theorem d9_11 : decode jdk_29_method_70_code 11 = .ok (.lreturn, 1) := by decide +kernel
theorem d10_0 : decode prog_12_method_4_code 0 = .ok (.aload_n 0, 1) := by decide +kernel
theorem d10_1 : decode prog_12_method_4_code 1 = .ok (.invokevirtual 67, 3) := by decide +kernel
theorem d10_4 : decode prog_12_method_4_code 4 = .ok (.ifCond .ne 24, 3) := by decide +kernel
theorem d10_28 : decode prog_12_method_4_code 28 = .ok (.aload_n 0, 1) := by decide +kernel
theorem d10_29 : decode prog_12_method_4_code 29 = .ok (.getfield 28, 3) := by decide +kernel
theorem d10_32 : decode prog_12_method_4_code 32 = .ok (.aload_n 0, 1) := by decide +kernel
theorem d10_33 : decode prog_12_method_4_code 33 = .ok (.getfield 31, 3) := by decide +kernel
theorem d10_36 : decode prog_12_method_4_code 36 = .ok (.ladd, 1) := by decide +kernel
theorem d10_37 : decode prog_12_method_4_code 37 = .ok (.lreturn, 1) := by decide +kernel
theorem d11_0 : decode prog_12_method_5_code 0 = .ok (.aload_n 0, 1) := by decide +kernel
theorem d11_1 : decode prog_12_method_5_code 1 = .ok (.getfield 31, 3) := by decide +kernel
theorem d11_4 : decode prog_12_method_5_code 4 = .ok (.lconst 0, 1) := by decide +kernel
theorem d11_5 : decode prog_12_method_5_code 5 = .ok (.lcmp, 1) := by decide +kernel
theorem d11_6 : decode prog_12_method_5_code 6 = .ok (.ifCond .lt 24, 3) := by decide +kernel
theorem d11_9 : decode prog_12_method_5_code 9 = .ok (.aload_n 0, 1) := by decide +kernel
theorem d11_10 : decode prog_12_method_5_code 10 = .ok (.getfield 28, 3) := by decide +kernel
theorem d11_13 : decode prog_12_method_5_code 13 = .ok (.aload_n 0, 1) := by decide +kernel
theorem d11_14 : decode prog_12_method_5_code 14 = .ok (.getfield 31, 3) := by decide +kernel
theorem d11_17 : decode prog_12_method_5_code 17 = .ok (.ladd, 1) := by decide +kernel
theorem d11_18 : decode prog_12_method_5_code 18 = .ok (.aload_n 0, 1) := by decide +kernel
theorem d11_19 : decode prog_12_method_5_code 19 = .ok (.getfield 28, 3) := by decide +kernel
theorem d11_22 : decode prog_12_method_5_code 22 = .ok (.lcmp, 1) := by decide +kernel
theorem d11_23 : decode prog_12_method_5_code 23 = .ok (.ifCond .lt 7, 3) := by decide +kernel
theorem d11_26 : decode prog_12_method_5_code 26 = .ok (.iconst 1, 1) := by decide +kernel
theorem d11_27 : decode prog_12_method_5_code 27 = .ok (.goto 4, 3) := by decide +kernel
theorem d11_30 : decode prog_12_method_5_code 30 = .ok (.iconst 0, 1) := by decide +kernel
theorem d11_31 : decode prog_12_method_5_code 31 = .ok (.ireturn, 1) := by decide +kernel
theorem d12_0 : decode jdk_29_method_66_code 0 = .ok (.lload_n 0, 1) := by decide +kernel
theorem d12_1 : decode jdk_29_method_66_code 1 = .ok (.lload_n 2, 1) := by decide +kernel
theorem d12_2 : decode jdk_29_method_66_code 2 = .ok (.lcmp, 1) := by decide +kernel
theorem d12_3 : decode jdk_29_method_66_code 3 = .ok (.ifCond .lt 7, 3) := by decide +kernel
theorem d12_6 : decode jdk_29_method_66_code 6 = .ok (.lload_n 0, 1) := by decide +kernel
theorem d12_7 : decode jdk_29_method_66_code 7 = .ok (.goto 4, 3) := by decide +kernel
theorem d12_10 : decode jdk_29_method_66_code 10 = .ok (.lload_n 2, 1) := by decide +kernel
theorem d12_11 : decode jdk_29_method_66_code 11 = .ok (.lreturn, 1) := by decide +kernel
theorem pn_0 : plainName "emberglass/TimeSpanEmptyPinLaw" = true := by first | (simp [plainName, overriddenIn]; done) | decide +kernel
theorem pn_1 : plainName "emberglass/TimeSpan" = true := by first | (simp [plainName, overriddenIn]; done) | decide +kernel
theorem pn_3 : plainName "emberglass/TimeSpanEmptyPinLaw" = true := by first | (simp [plainName, overriddenIn]; done) | decide +kernel
theorem pn_4 : plainName "emberglass/ChunkHeader" = true := by first | (simp [plainName, overriddenIn]; done) | decide +kernel
theorem pn_5 : plainName "java/lang/Record" = true := by first | (simp [plainName, overriddenIn]; done) | decide +kernel
theorem pn_6 : plainName "emberglass/TimeSpan" = true := by first | (simp [plainName, overriddenIn]; done) | decide +kernel
theorem pn_7 : plainName "emberglass/TimeSpan" = true := by first | (simp [plainName, overriddenIn]; done) | decide +kernel
theorem pn_8 : plainName "emberglass/ChunkHeader" = true := by first | (simp [plainName, overriddenIn]; done) | decide +kernel
theorem pn_10 : plainName "emberglass/ChunkHeader" = true := by first | (simp [plainName, overriddenIn]; done) | decide +kernel
theorem pn_11 : plainName "emberglass/ChunkHeader" = true := by first | (simp [plainName, overriddenIn]; done) | decide +kernel
theorem pd_0 : parseMethodDescriptor "()V" = some ⟨[], none⟩ := by decide +kernel
theorem pd_1 : parseMethodDescriptor "()Z" = some ⟨[], some .boolean⟩ := by decide +kernel
theorem pd_2 : parseMethodDescriptor "()J" = some ⟨[], some .long⟩ := by decide +kernel
theorem pd_3 : parseMethodDescriptor "(JJ)J" = some ⟨[.long, .long], some .long⟩ := by decide +kernel
theorem pd_4 : parseMethodDescriptor "(IIJJJJJJJI)V" = some ⟨[.int, .int, .long, .long, .long, .long, .long, .long, .long, .int], none⟩ := by decide +kernel
theorem pd_5 : parseMethodDescriptor "(Lemberglass/ChunkHeader;)V" = some ⟨[(.object "emberglass/ChunkHeader")], none⟩ := by decide +kernel
theorem ef_1 (m : MethodId) (a1 : Addr) : entryFrame m #[(.ref a1)] 1 = mkF m 0 #[.val (.ref a1)] [] := by first | (simp [entryFrame, mkF, argsToLocals, Value.category]; done) | rfl
def Q1 (Z : State) (a1 : Addr) (h0 : Heap) (n0 : Nat) (v : Option Value) (h : Heap) (L : List Loc) : Prop := v = none ∧ Fr n0 L ∧ Keep h0 h [a1] ∧ Exa Z h a1 "emberglass/TimeSpan" ∧ Fld Z h a1 "emberglass/TimeSpan" "startNanos" "J" (.long (9223372036854775807 : Int64)) ∧ Fld Z h a1 "emberglass/TimeSpan" "endNanos" "J" (.long (-9223372036854775808 : Int64))
set_option maxRecDepth 65536 in
set_option maxHeartbeats 40000000 in
theorem rm1 (l : Launch) (Z : State) (a0 : Array Value) (hw : ∀ d ∈ tables_1, d.before a0 Z = true) (ws : List Jvm.Cond) (a1 : Addr) (h0 : Heap) (n0 : Nat) (Z0 : n0 ≤ h0.size) (E_a1 : Exa Z h0 a1 "emberglass/TimeSpan") (F_startNanos_a1 : Fld Z h0 a1 "emberglass/TimeSpan" "startNanos" "J" (.long (0 : Int64))) (F_endNanos_a1 : Fld Z h0 a1 "emberglass/TimeSpan" "endNanos" "J" (.long (0 : Int64))) (g_a1 : n0 ≤ a1) :
    MetFree l (⟨"emberglass/TimeSpan", "<init>", "()V"⟩ : MethodName) (head1 (Jvm.Cond.code (⟨"emberglass/TimeSpan", "<init>", "()V"⟩ : MethodName) prog_273_method_1_code 1 none :: ws) ({ frames := 1, cells := 0, slots := 0, locals := 12 } : Room)) (fun a U => a = #[(.ref a1)] ∧ Z.Warmed39 U.vm ∧ U.heap = h0) (fun _ _ _ _ _ => True) (fun _ U o U' => ∃ v L, o = .returned v ∧ Q1 Z a1 h0 n0 v U'.heap L ∧ FrameEnd U o U' L ({ frames := 1, cells := 0, slots := 0, locals := 12 } : Room).cells ({ frames := 1, cells := 0, slots := 0, locals := 12 } : Room).slots) := by
  refine MetFree.of_bodySF (plainFor_of_name pn_1) hisR ?_
  intro p e s m args below meth c s₁ Bd hml0 hP hK
  obtain ⟨rfl, hZ, hh⟩ := hP
  have hx := Bd.exec
  have hby := Bd.bytes
  have hml : c.maxLocals = 1 := hml0
  have hown : s.vm.findClass "emberglass/TimeSpan" = some m.cls := findClass_of_methodNamed Bd.named
  have hnm := (name_of_methodNamed Bd.named Bd.method).1
  have hlk := Bd.notSynchronized
  have hret := Bd.returns
  have X0 : Stand p l e ({ frames := 1, cells := 0, slots := 0, locals := 12 } : Room) s m #[(.ref a1)] below meth c s₁ [] 0 0 := Stand.of_body Bd
  have e0 : s₁.heap = h0 := by rw [← hh, Bd.state]; rfl
  have N0 := Fr.nil n0
  show own_G p e below (s₁.setTop (entryFrame m #[(.ref a1)] 1)) (fun s₂ o => ∃ v L, o = .returned v ∧ Q1 Z a1 h0 n0 v s₂.heap L ∧ FrameEnd s o s₂ L ({ frames := 1, cells := 0, slots := 0, locals := 12 } : Room).cells ({ frames := 1, cells := 0, slots := 0, locals := 12 } : Room).slots)
  refine own_go (fun t k => castTop (ef_1 m a1) k) ?_
  show own_G p e below (s₁.setTop (mkF m 0 #[.val (.ref a1)] [])) _
  refine own_go (fun _ k => XS.aloadN X0.here hx rfl (hb hby d1_0) rfl rfl k) ?_
  show own_G p e below (s₁.setTop (mkF m 1 #[.val (.ref a1)] [(.ref a1)])) _
  obtain ⟨T1, X1, e1, st1⟩ := initO X0 hx hZ hown (hw _ (List.mem_of_getElem? (i := 6) rfl)) (hw _ (List.mem_of_getElem? (i := 7) rfl)) (hw _ (List.mem_of_getElem? (i := 8) rfl)) e0 (g := (mkF m 1 #[.val (.ref a1)] [(.ref a1)])) rfl (by rw [hml]; rfl) rfl (hb hby d1_1) (by decide) (W := 0) (by show 2 * 0 + _ ≤ _; exact Nat.le_of_eq rfl) (by decide)
  refine own_go st1 ?_
  show own_G p e below (T1.setTop (mkF m 4 #[.val (.ref a1)] [])) _
  refine own_go (fun _ k => XS.aloadN X1.here hx rfl (hb hby d1_4) rfl rfl k) ?_
  show own_G p e below (T1.setTop (mkF m 5 #[.val (.ref a1)] [(.ref a1)])) _
  refine own_go (X1.ldc2Long hx hown (mvT hZ (hw _ (List.mem_of_getElem? (i := 9) rfl))) (g := (mkF m 5 #[.val (.ref a1)] [(.ref a1)])) rfl (hb hby d1_5)) ?_
  show own_G p e below (T1.setTop (mkF m 8 #[.val (.ref a1)] [(.long (9223372036854775807 : Int64)), (.ref a1)])) _
  obtain ⟨T2, h2, X2, e2, W2, st2⟩ := putF X1 hx hZ hown (host := "") (Or.inl (hw _ (List.mem_of_getElem? (i := 10) rfl))) Via.refl e1 F_startNanos_a1 E_a1 (Or.inl (hw _ (List.mem_of_getElem? (i := 11) rfl))) (hw _ (List.mem_of_getElem? (i := 1) rfl)) (ty := .long) (by decide) rfl rfl (g := (mkF m 8 #[.val (.ref a1)] [(.long (9223372036854775807 : Int64)), (.ref a1)])) rfl rfl (hb hby d1_8)
  refine own_go st2 ?_
  have fw2 := F_startNanos_a1.same W2
  have f3 := E_a1.wr W2
  have f4 := F_endNanos_a1.other W2 (Or.inr (slot_ne (Or.inl (hw _ (List.mem_of_getElem? (i := 14) rfl))) (Or.inl (hw _ (List.mem_of_getElem? (i := 11) rfl))) (by decide) (t := .long) (t' := .long) (by decide) (by decide)))
  have zs5 : n0 ≤ h2.size := Nat.le_trans Z0 (Keep.of_wr W2).1
  have kp6 : Keep h0 h2 [a1] := (Keep.refl h0 [a1]).wr W2 (Or.inl (List.mem_of_getElem? (i := 0) rfl))
  have N2 := Fr.snoc X2 N0 g_a1
  show own_G p e below (T2.setTop (mkF m 11 #[.val (.ref a1)] [])) _
  refine own_go (fun _ k => XS.aloadN X2.here hx rfl (hb hby d1_11) rfl rfl k) ?_
  show own_G p e below (T2.setTop (mkF m 12 #[.val (.ref a1)] [(.ref a1)])) _
  refine own_go (X2.ldc2Long hx hown (mvT hZ (hw _ (List.mem_of_getElem? (i := 12) rfl))) (g := (mkF m 12 #[.val (.ref a1)] [(.ref a1)])) rfl (hb hby d1_12)) ?_
  show own_G p e below (T2.setTop (mkF m 15 #[.val (.ref a1)] [(.long (-9223372036854775808 : Int64)), (.ref a1)])) _
  obtain ⟨T7, h7, X7, e7, W7, st7⟩ := putF X2 hx hZ hown (host := "") (Or.inl (hw _ (List.mem_of_getElem? (i := 13) rfl))) Via.refl e2 f4 f3 (Or.inl (hw _ (List.mem_of_getElem? (i := 14) rfl))) (hw _ (List.mem_of_getElem? (i := 1) rfl)) (ty := .long) (by decide) rfl rfl (g := (mkF m 15 #[.val (.ref a1)] [(.long (-9223372036854775808 : Int64)), (.ref a1)])) rfl rfl (hb hby d1_15)
  refine own_go st7 ?_
  have fw7 := f4.same W7
  have f8 := f3.wr W7
  have f9 := fw2.other W7 (Or.inr (slot_ne (Or.inl (hw _ (List.mem_of_getElem? (i := 11) rfl))) (Or.inl (hw _ (List.mem_of_getElem? (i := 14) rfl))) (by decide) (t := .long) (t' := .long) (by decide) (by decide)))
  have zs10 : n0 ≤ h7.size := Nat.le_trans zs5 (Keep.of_wr W7).1
  have kp11 : Keep h0 h7 [a1] := kp6.wr W7 (Or.inl (List.mem_of_getElem? (i := 0) rfl))
  have N7 := Fr.snoc X7 N2 g_a1
  show own_G p e below (T7.setTop (mkF m 18 #[.val (.ref a1)] [])) _
  refine own_ret X7 hlk (v := none) (fun _ => rfl) (Q1 Z a1 h0 n0) (own_retV X7 hx hret (hb hby d1_18)) (by decide) (by decide) ?_
  show Q1 Z a1 h0 n0 _ T7.heap _
  rw [e7]
  exact ⟨rfl, N7, kp11, f8, f9, fw7⟩
theorem ef_3 (m : MethodId) (q1 : Int64) (q2 : Int64) : entryFrame m #[(.long q1), (.long q2)] 6 = mkF m 0 #[.val (.long q1), .second, .val (.long q2), .second, .unset, .unset] [] := by first | (simp [entryFrame, mkF, argsToLocals, Value.category]; done) | rfl
def Q3 (Z : State) (q1 : Int64) (q2 : Int64) (h0 : Heap) (n0 : Nat) (v : Option Value) (h : Heap) (L : List Loc) : Prop := ∃ z : Int64, v = some (.long z) ∧ Fr n0 L ∧ h = h0 ∧ ¬ z < (0 : Int64) ∧ ¬ (q1 + z) < q1
set_option maxRecDepth 65536 in
set_option maxHeartbeats 40000000 in
theorem rm3 (l : Launch) (Z : State) (a0 : Array Value) (hw : ∀ d ∈ tables_1, d.before a0 Z = true) (ws : List Jvm.Cond) (q1 : Int64) (q2 : Int64) (h0 : Heap) (n0 : Nat) (Z0 : n0 ≤ h0.size)  :
    MetFree l (⟨"emberglass/TimeSpanEmptyPinLaw", "dur", "(JJ)J"⟩ : MethodName) (head1 (Jvm.Cond.code (⟨"emberglass/TimeSpanEmptyPinLaw", "dur", "(JJ)J"⟩ : MethodName) method_2_code 6 (some .long) :: ws) ({ frames := 0, cells := 0, slots := 0, locals := 0 } : Room)) (fun a U => a = #[(.long q1), (.long q2)] ∧ Z.Warmed39 U.vm ∧ U.heap = h0) (fun _ _ _ _ _ => True) (fun _ U o U' => ∃ v L, o = .returned v ∧ Q3 Z q1 q2 h0 n0 v U'.heap L ∧ FrameEnd U o U' L ({ frames := 0, cells := 0, slots := 0, locals := 0 } : Room).cells ({ frames := 0, cells := 0, slots := 0, locals := 0 } : Room).slots) := by
  refine MetFree.of_bodySF (plainFor_of_name pn_3) hisR ?_
  intro p e s m args below meth c s₁ Bd hml0 hP hK
  obtain ⟨rfl, hZ, hh⟩ := hP
  have hx := Bd.exec
  have hby := Bd.bytes
  have hml : c.maxLocals = 6 := hml0
  have hown : s.vm.findClass "emberglass/TimeSpanEmptyPinLaw" = some m.cls := findClass_of_methodNamed Bd.named
  have hnm := (name_of_methodNamed Bd.named Bd.method).1
  have hlk := Bd.notSynchronized
  have hret := Bd.returns
  have X0 : Stand p l e ({ frames := 0, cells := 0, slots := 0, locals := 0 } : Room) s m #[(.long q1), (.long q2)] below meth c s₁ [] 0 0 := Stand.of_body Bd
  have e0 : s₁.heap = h0 := by rw [← hh, Bd.state]; rfl
  have N0 := Fr.nil n0
  show own_G p e below (s₁.setTop (entryFrame m #[(.long q1), (.long q2)] 6)) (fun s₂ o => ∃ v L, o = .returned v ∧ Q3 Z q1 q2 h0 n0 v s₂.heap L ∧ FrameEnd s o s₂ L ({ frames := 0, cells := 0, slots := 0, locals := 0 } : Room).cells ({ frames := 0, cells := 0, slots := 0, locals := 0 } : Room).slots)
  refine own_go (fun t k => castTop (ef_3 m q1 q2) k) ?_
  show own_G p e below (s₁.setTop (mkF m 0 #[.val (.long q1), .second, .val (.long q2), .second, .unset, .unset] [])) _
  refine own_go (fun _ k => XS.lloadN X0.here hx rfl (hb hby d3_0) rfl k) ?_
  show own_G p e below (s₁.setTop (mkF m 1 #[.val (.long q1), .second, .val (.long q2), .second, .unset, .unset] [(.long q2)])) _
  refine own_go (X0.ldc2Long hx hown (mvT hZ (hw _ (List.mem_of_getElem? (i := 23) rfl))) (g := (mkF m 1 #[.val (.long q1), .second, .val (.long q2), .second, .unset, .unset] [(.long q2)])) rfl (hb hby d3_1)) ?_
  show own_G p e below (s₁.setTop (mkF m 4 #[.val (.long q1), .second, .val (.long q2), .second, .unset, .unset] [(.long (9223372036854775807 : Int64)), (.long q2)])) _
  refine own_go (fun _ k => XS.land X0.here hx rfl (hb hby d3_4) rfl k) ?_
  show own_G p e below (s₁.setTop (mkF m 5 #[.val (.long q1), .second, .val (.long q2), .second, .unset, .unset] [(.long (q2 &&& (9223372036854775807 : Int64)))])) _
  refine own_go (fun _ k => XS.lstore X0.here hx rfl (hb hby d3_5) rfl (l' := #[.val (.long q1), .second, .val (.long q2), .second, .val (.long (q2 &&& (9223372036854775807 : Int64))), .second]) rfl k) ?_
  show own_G p e below (s₁.setTop (mkF m 7 #[.val (.long q1), .second, .val (.long q2), .second, .val (.long (q2 &&& (9223372036854775807 : Int64))), .second] [])) _
  refine own_go (fun _ k => XS.lloadN X0.here hx rfl (hb hby d3_7) rfl k) ?_
  show own_G p e below (s₁.setTop (mkF m 8 #[.val (.long q1), .second, .val (.long q2), .second, .val (.long (q2 &&& (9223372036854775807 : Int64))), .second] [(.long q1)])) _
  refine own_go (fun _ k => XS.lload X0.here hx rfl (hb hby d3_8) rfl k) ?_
  show own_G p e below (s₁.setTop (mkF m 10 #[.val (.long q1), .second, .val (.long q2), .second, .val (.long (q2 &&& (9223372036854775807 : Int64))), .second] [(.long (q2 &&& (9223372036854775807 : Int64))), (.long q1)])) _
  refine own_go (fun _ k => XS.ladd X0.here hx rfl (hb hby d3_10) rfl k) ?_
  show own_G p e below (s₁.setTop (mkF m 11 #[.val (.long q1), .second, .val (.long q2), .second, .val (.long (q2 &&& (9223372036854775807 : Int64))), .second] [(.long (q1 + (q2 &&& (9223372036854775807 : Int64))))])) _
  refine own_go (fun _ k => XS.lloadN X0.here hx rfl (hb hby d3_11) rfl k) ?_
  show own_G p e below (s₁.setTop (mkF m 12 #[.val (.long q1), .second, .val (.long q2), .second, .val (.long (q2 &&& (9223372036854775807 : Int64))), .second] [(.long q1), (.long (q1 + (q2 &&& (9223372036854775807 : Int64))))])) _
  refine own_go (fun _ k => XS.lcmp X0.here hx rfl (hb hby d3_12) rfl k) ?_
  show own_G p e below (s₁.setTop (mkF m 13 #[.val (.long q1), .second, .val (.long q2), .second, .val (.long (q2 &&& (9223372036854775807 : Int64))), .second] [(.int (lcmpW (q1 + (q2 &&& (9223372036854775807 : Int64))) q1))])) _
  by_cases hc13_12 : (q1 + (q2 &&& (9223372036854775807 : Int64))) < q1
  · refine own_go (fun _ k => XS.ifNo X0.here hx rfl (hb hby d3_13) rfl ((if0 _ _).trans (tlt ((lw_lt _ _).mpr hc13_12)).2.1) k) ?_
    show own_G p e below (s₁.setTop (mkF m 16 #[.val (.long q1), .second, .val (.long q2), .second, .val (.long (q2 &&& (9223372036854775807 : Int64))), .second] [])) _
    refine own_go (X0.ldc2Long hx hown (mvT hZ (hw _ (List.mem_of_getElem? (i := 23) rfl))) (g := (mkF m 16 #[.val (.long q1), .second, .val (.long q2), .second, .val (.long (q2 &&& (9223372036854775807 : Int64))), .second] [])) rfl (hb hby d3_16)) ?_
    show own_G p e below (s₁.setTop (mkF m 19 #[.val (.long q1), .second, .val (.long q2), .second, .val (.long (q2 &&& (9223372036854775807 : Int64))), .second] [(.long (9223372036854775807 : Int64))])) _
    refine own_go (fun _ k => XS.lloadN X0.here hx rfl (hb hby d3_19) rfl k) ?_
    show own_G p e below (s₁.setTop (mkF m 20 #[.val (.long q1), .second, .val (.long q2), .second, .val (.long (q2 &&& (9223372036854775807 : Int64))), .second] [(.long q1), (.long (9223372036854775807 : Int64))])) _
    refine own_go (fun _ k => XS.lsub X0.here hx rfl (hb hby d3_20) rfl k) ?_
    show own_G p e below (s₁.setTop (mkF m 21 #[.val (.long q1), .second, .val (.long q2), .second, .val (.long (q2 &&& (9223372036854775807 : Int64))), .second] [(.long ((9223372036854775807 : Int64) - q1))])) _
    refine own_go (fun _ k => XS.lstore X0.here hx rfl (hb hby d3_21) rfl (l' := #[.val (.long q1), .second, .val (.long q2), .second, .val (.long ((9223372036854775807 : Int64) - q1)), .second]) rfl k) ?_
    show own_G p e below (s₁.setTop (mkF m 23 #[.val (.long q1), .second, .val (.long q2), .second, .val (.long ((9223372036854775807 : Int64) - q1)), .second] [])) _
    refine own_go (fun _ k => XS.lload X0.here hx rfl (hb hby d3_23) rfl k) ?_
    show own_G p e below (s₁.setTop (mkF m 25 #[.val (.long q1), .second, .val (.long q2), .second, .val (.long ((9223372036854775807 : Int64) - q1)), .second] [(.long ((9223372036854775807 : Int64) - q1))])) _
    refine own_ret X0 hlk (v := some (.long ((9223372036854775807 : Int64) - q1))) (fun h => by rw [hret] at h; cases h) (Q3 Z q1 q2 h0 n0) (own_retI X0 hx (t := .long) hret rfl (Or.inr (Or.inl ⟨rfl, rfl, _, rfl⟩)) (hb hby d3_25)) (by decide) (by decide) ?_
    show Q3 Z q1 q2 h0 n0 _ s₁.heap _
    rw [e0]
    exact ⟨_, rfl, N0, rfl, own_dur1 hc13_12⟩
  · refine own_go (fun _ k => XS.ifYes X0.here hx rfl (pc0 := 13) (pc' := 23) rfl (hb hby d3_13) rfl ((if0 _ _).trans (flt (fun q => hc13_12 ((lw_lt _ _).mp q))).2.1) (by decide) (by decide) k) ?_
    show own_G p e below (s₁.setTop (mkF m 23 #[.val (.long q1), .second, .val (.long q2), .second, .val (.long (q2 &&& (9223372036854775807 : Int64))), .second] [])) _
    refine own_go (fun _ k => XS.lload X0.here hx rfl (hb hby d3_23) rfl k) ?_
    show own_G p e below (s₁.setTop (mkF m 25 #[.val (.long q1), .second, .val (.long q2), .second, .val (.long (q2 &&& (9223372036854775807 : Int64))), .second] [(.long (q2 &&& (9223372036854775807 : Int64)))])) _
    refine own_ret X0 hlk (v := some (.long (q2 &&& (9223372036854775807 : Int64)))) (fun h => by rw [hret] at h; cases h) (Q3 Z q1 q2 h0 n0) (own_retI X0 hx (t := .long) hret rfl (Or.inr (Or.inl ⟨rfl, rfl, _, rfl⟩)) (hb hby d3_25)) (by decide) (by decide) ?_
    show Q3 Z q1 q2 h0 n0 _ s₁.heap _
    rw [e0]
    exact ⟨_, rfl, N0, rfl, own_masknn q2, hc13_12⟩
theorem ef_5 (m : MethodId) (a1 : Addr) : entryFrame m #[(.ref a1)] 1 = mkF m 0 #[.val (.ref a1)] [] := by first | (simp [entryFrame, mkF, argsToLocals, Value.category]; done) | rfl
def Q5 (Z : State) (a1 : Addr) (h0 : Heap) (n0 : Nat) (v : Option Value) (h : Heap) (L : List Loc) : Prop := v = none ∧ Fr n0 L ∧ h = h0
set_option maxRecDepth 65536 in
set_option maxHeartbeats 40000000 in
theorem rm5 (l : Launch) (Z : State) (a0 : Array Value) (hw : ∀ d ∈ tables_1, d.before a0 Z = true) (ws : List Jvm.Cond) (a1 : Addr) (h0 : Heap) (n0 : Nat) (Z0 : n0 ≤ h0.size)  :
    MetFree l (⟨"java/lang/Record", "<init>", "()V"⟩ : MethodName) (head1 (Jvm.Cond.code (⟨"java/lang/Record", "<init>", "()V"⟩ : MethodName) jdk_30_method_1_code 1 none :: ws) ({ frames := 1, cells := 0, slots := 0, locals := 12 } : Room)) (fun a U => a = #[(.ref a1)] ∧ Z.Warmed39 U.vm ∧ U.heap = h0) (fun _ _ _ _ _ => True) (fun _ U o U' => ∃ v L, o = .returned v ∧ Q5 Z a1 h0 n0 v U'.heap L ∧ FrameEnd U o U' L ({ frames := 1, cells := 0, slots := 0, locals := 12 } : Room).cells ({ frames := 1, cells := 0, slots := 0, locals := 12 } : Room).slots) := by
  refine MetFree.of_bodySF (plainFor_of_name pn_5) hisR ?_
  intro p e s m args below meth c s₁ Bd hml0 hP hK
  obtain ⟨rfl, hZ, hh⟩ := hP
  have hx := Bd.exec
  have hby := Bd.bytes
  have hml : c.maxLocals = 1 := hml0
  have hown : s.vm.findClass "java/lang/Record" = some m.cls := findClass_of_methodNamed Bd.named
  have hnm := (name_of_methodNamed Bd.named Bd.method).1
  have hlk := Bd.notSynchronized
  have hret := Bd.returns
  have X0 : Stand p l e ({ frames := 1, cells := 0, slots := 0, locals := 12 } : Room) s m #[(.ref a1)] below meth c s₁ [] 0 0 := Stand.of_body Bd
  have e0 : s₁.heap = h0 := by rw [← hh, Bd.state]; rfl
  have N0 := Fr.nil n0
  show own_G p e below (s₁.setTop (entryFrame m #[(.ref a1)] 1)) (fun s₂ o => ∃ v L, o = .returned v ∧ Q5 Z a1 h0 n0 v s₂.heap L ∧ FrameEnd s o s₂ L ({ frames := 1, cells := 0, slots := 0, locals := 12 } : Room).cells ({ frames := 1, cells := 0, slots := 0, locals := 12 } : Room).slots)
  refine own_go (fun t k => castTop (ef_5 m a1) k) ?_
  show own_G p e below (s₁.setTop (mkF m 0 #[.val (.ref a1)] [])) _
  refine own_go (fun _ k => XS.aloadN X0.here hx rfl (hb hby d5_0) rfl rfl k) ?_
  show own_G p e below (s₁.setTop (mkF m 1 #[.val (.ref a1)] [(.ref a1)])) _
  obtain ⟨T13, X13, e13, st13⟩ := initO X0 hx hZ hown (hw _ (List.mem_of_getElem? (i := 33) rfl)) (hw _ (List.mem_of_getElem? (i := 7) rfl)) (hw _ (List.mem_of_getElem? (i := 8) rfl)) e0 (g := (mkF m 1 #[.val (.ref a1)] [(.ref a1)])) rfl (by rw [hml]; rfl) rfl (hb hby d5_1) (by decide) (W := 0) (by show 2 * 0 + _ ≤ _; exact Nat.le_of_eq rfl) (by decide)
  refine own_go st13 ?_
  show own_G p e below (T13.setTop (mkF m 4 #[.val (.ref a1)] [])) _
  refine own_ret X13 hlk (v := none) (fun _ => rfl) (Q5 Z a1 h0 n0) (own_retV X13 hx hret (hb hby d5_4)) (by decide) (by decide) ?_
  show Q5 Z a1 h0 n0 _ T13.heap _
  rw [e13]
  exact ⟨rfl, N0, rfl⟩
theorem ef_4 (m : MethodId) (a1 : Addr) (p2 : Int32) (p3 : Int32) (q4 : Int64) (q5 : Int64) (q6 : Int64) (q7 : Int64) (q8 : Int64) (q9 : Int64) (q10 : Int64) (p11 : Int32) : entryFrame m #[(.ref a1), (.int p2), (.int p3), (.long q4), (.long q5), (.long q6), (.long q7), (.long q8), (.long q9), (.long q10), (.int p11)] 18 = mkF m 0 #[.val (.ref a1), .val (.int p2), .val (.int p3), .val (.long q4), .second, .val (.long q5), .second, .val (.long q6), .second, .val (.long q7), .second, .val (.long q8), .second, .val (.long q9), .second, .val (.long q10), .second, .val (.int p11)] [] := by first | (simp [entryFrame, mkF, argsToLocals, Value.category]; done) | rfl
def Q4 (Z : State) (a1 : Addr) (p2 : Int32) (p3 : Int32) (q4 : Int64) (q5 : Int64) (q6 : Int64) (q7 : Int64) (q8 : Int64) (q9 : Int64) (q10 : Int64) (p11 : Int32) (h0 : Heap) (n0 : Nat) (v : Option Value) (h : Heap) (L : List Loc) : Prop := v = none ∧ Fr n0 L ∧ Keep h0 h [a1] ∧ Exa Z h a1 "emberglass/ChunkHeader" ∧ Fld Z h a1 "emberglass/ChunkHeader" "startNanos" "J" (.long q7) ∧ Fld Z h a1 "emberglass/ChunkHeader" "durationNanos" "J" (.long q8)
set_option maxRecDepth 65536 in
set_option maxHeartbeats 40000000 in
theorem rm4 (l : Launch) (Z : State) (a0 : Array Value) (hw : ∀ d ∈ tables_1, d.before a0 Z = true) (ws : List Jvm.Cond) (a1 : Addr) (p2 : Int32) (p3 : Int32) (q4 : Int64) (q5 : Int64) (q6 : Int64) (q7 : Int64) (q8 : Int64) (q9 : Int64) (q10 : Int64) (p11 : Int32) (h0 : Heap) (n0 : Nat) (Z0 : n0 ≤ h0.size) (E_a1 : Exa Z h0 a1 "emberglass/ChunkHeader") (F_majorVersion_a1 : Fld Z h0 a1 "emberglass/ChunkHeader" "majorVersion" "I" (.int (0 : Int32))) (F_minorVersion_a1 : Fld Z h0 a1 "emberglass/ChunkHeader" "minorVersion" "I" (.int (0 : Int32))) (F_size_a1 : Fld Z h0 a1 "emberglass/ChunkHeader" "size" "J" (.long (0 : Int64))) (F_constantPoolOffset_a1 : Fld Z h0 a1 "emberglass/ChunkHeader" "constantPoolOffset" "J" (.long (0 : Int64))) (F_metadataOffset_a1 : Fld Z h0 a1 "emberglass/ChunkHeader" "metadataOffset" "J" (.long (0 : Int64))) (F_startNanos_a1 : Fld Z h0 a1 "emberglass/ChunkHeader" "startNanos" "J" (.long (0 : Int64))) (F_durationNanos_a1 : Fld Z h0 a1 "emberglass/ChunkHeader" "durationNanos" "J" (.long (0 : Int64))) (F_startTicks_a1 : Fld Z h0 a1 "emberglass/ChunkHeader" "startTicks" "J" (.long (0 : Int64))) (F_ticksPerSecond_a1 : Fld Z h0 a1 "emberglass/ChunkHeader" "ticksPerSecond" "J" (.long (0 : Int64))) (F_flags_a1 : Fld Z h0 a1 "emberglass/ChunkHeader" "flags" "I" (.int (0 : Int32))) (g_a1 : n0 ≤ a1) :
    MetFree l (⟨"emberglass/ChunkHeader", "<init>", "(IIJJJJJJJI)V"⟩ : MethodName) (head1 (Jvm.Cond.code (⟨"emberglass/ChunkHeader", "<init>", "(IIJJJJJJJI)V"⟩ : MethodName) prog_12_method_1_code 18 none :: ws) ({ frames := 2, cells := 0, slots := 0, locals := 24 } : Room)) (fun a U => a = #[(.ref a1), (.int p2), (.int p3), (.long q4), (.long q5), (.long q6), (.long q7), (.long q8), (.long q9), (.long q10), (.int p11)] ∧ Z.Warmed39 U.vm ∧ U.heap = h0) (fun _ _ _ _ _ => True) (fun _ U o U' => ∃ v L, o = .returned v ∧ Q4 Z a1 p2 p3 q4 q5 q6 q7 q8 q9 q10 p11 h0 n0 v U'.heap L ∧ FrameEnd U o U' L ({ frames := 2, cells := 0, slots := 0, locals := 24 } : Room).cells ({ frames := 2, cells := 0, slots := 0, locals := 24 } : Room).slots) := by
  refine MetFree.of_bodySF (plainFor_of_name pn_4) hisR ?_
  intro p e s m args below meth c s₁ Bd hml0 hP hK
  obtain ⟨rfl, hZ, hh⟩ := hP
  have hx := Bd.exec
  have hby := Bd.bytes
  have hml : c.maxLocals = 18 := hml0
  have hown : s.vm.findClass "emberglass/ChunkHeader" = some m.cls := findClass_of_methodNamed Bd.named
  have hnm := (name_of_methodNamed Bd.named Bd.method).1
  have hlk := Bd.notSynchronized
  have hret := Bd.returns
  have X0 : Stand p l e ({ frames := 2, cells := 0, slots := 0, locals := 24 } : Room) s m #[(.ref a1), (.int p2), (.int p3), (.long q4), (.long q5), (.long q6), (.long q7), (.long q8), (.long q9), (.long q10), (.int p11)] below meth c s₁ [] 0 0 := Stand.of_body Bd
  have e0 : s₁.heap = h0 := by rw [← hh, Bd.state]; rfl
  have N0 := Fr.nil n0
  show own_G p e below (s₁.setTop (entryFrame m #[(.ref a1), (.int p2), (.int p3), (.long q4), (.long q5), (.long q6), (.long q7), (.long q8), (.long q9), (.long q10), (.int p11)] 18)) (fun s₂ o => ∃ v L, o = .returned v ∧ Q4 Z a1 p2 p3 q4 q5 q6 q7 q8 q9 q10 p11 h0 n0 v s₂.heap L ∧ FrameEnd s o s₂ L ({ frames := 2, cells := 0, slots := 0, locals := 24 } : Room).cells ({ frames := 2, cells := 0, slots := 0, locals := 24 } : Room).slots)
  refine own_go (fun t k => castTop (ef_4 m a1 p2 p3 q4 q5 q6 q7 q8 q9 q10 p11) k) ?_
  show own_G p e below (s₁.setTop (mkF m 0 #[.val (.ref a1), .val (.int p2), .val (.int p3), .val (.long q4), .second, .val (.long q5), .second, .val (.long q6), .second, .val (.long q7), .second, .val (.long q8), .second, .val (.long q9), .second, .val (.long q10), .second, .val (.int p11)] [])) _
  refine own_go (fun _ k => XS.aloadN X0.here hx rfl (hb hby d4_0) rfl rfl k) ?_
  show own_G p e below (s₁.setTop (mkF m 1 #[.val (.ref a1), .val (.int p2), .val (.int p3), .val (.long q4), .second, .val (.long q5), .second, .val (.long q6), .second, .val (.long q7), .second, .val (.long q8), .second, .val (.long q9), .second, .val (.long q10), .second, .val (.int p11)] [(.ref a1)])) _
  obtain ⟨_, _, ⟨T14, L14, k14, n14⟩, -, X14, ⟨Lc14, hQ14, l14, y14, z14⟩, st14⟩ := X0.specialBack hx (y := (⟨"java/lang/Record", "<init>", "()V"⟩ : MethodName)) rfl hown (mvT hZ (hw _ (List.mem_of_getElem? (i := 28) rfl))) (mvT hZ (hw _ (List.mem_of_getElem? (i := 29) rfl))) (mvT hZ (hw _ (List.mem_of_getElem? (i := 32) rfl))) (by decide) (backOf (W := 0) (rm5 l Z a0 hw [] a1 h0 n0 Z0 ) hZ (hw _ (List.mem_of_getElem? (i := 32) rfl)) (hw _ (List.mem_of_getElem? (i := 31) rfl)) (by decide) (by decide)) (g := (mkF m 1 #[.val (.ref a1), .val (.int p2), .val (.int p3), .val (.long q4), .second, .val (.long q5), .second, .val (.long q6), .second, .val (.long q7), .second, .val (.long q8), .second, .val (.long q9), .second, .val (.long q10), .second, .val (.int p11)] [(.ref a1)])) rfl (by rw [hml]; rfl) (Steps.refl _) (a := a1) (argsL := []) (rest := []) (lenOf pd_0 rfl) rfl (by show 2 * 0 + _ ≤ _; exact Nat.le_of_eq rfl) (hb hby d4_1) (fun _ _ => ⟨rfl, e0, (by decide : 0 + 0 ≤ _), (by decide : 0 + 0 ≤ _)⟩)
  dsimp only [Pt.U, Pt.locs, Pt.cells, Pt.slots] at X14 l14 y14 z14 st14 hQ14
  subst l14 y14 z14
  obtain ⟨rfl, Nq14, hh14⟩ := hQ14
  have N14 := Fr.app N0 Nq14
  refine own_go (fun _ k => st14.trans k) ?_
  have e14 : T14.heap = h0 := hh14
  show own_G p e below (T14.setTop (mkF m 4 #[.val (.ref a1), .val (.int p2), .val (.int p3), .val (.long q4), .second, .val (.long q5), .second, .val (.long q6), .second, .val (.long q7), .second, .val (.long q8), .second, .val (.long q9), .second, .val (.long q10), .second, .val (.int p11)] [])) _
  refine own_go (fun _ k => XS.aloadN X14.here hx rfl (hb hby d4_4) rfl rfl k) ?_
  show own_G p e below (T14.setTop (mkF m 5 #[.val (.ref a1), .val (.int p2), .val (.int p3), .val (.long q4), .second, .val (.long q5), .second, .val (.long q6), .second, .val (.long q7), .second, .val (.long q8), .second, .val (.long q9), .second, .val (.long q10), .second, .val (.int p11)] [(.ref a1)])) _
  refine own_go (fun _ k => XS.iloadN X14.here hx rfl (hb hby d4_5) rfl k) ?_
  show own_G p e below (T14.setTop (mkF m 6 #[.val (.ref a1), .val (.int p2), .val (.int p3), .val (.long q4), .second, .val (.long q5), .second, .val (.long q6), .second, .val (.long q7), .second, .val (.long q8), .second, .val (.long q9), .second, .val (.long q10), .second, .val (.int p11)] [(.int p2), (.ref a1)])) _
  obtain ⟨T15, h15, X15, e15, W15, st15⟩ := putF X14 hx hZ hown (host := "") (Or.inl (hw _ (List.mem_of_getElem? (i := 34) rfl))) Via.refl e14 F_majorVersion_a1 E_a1 (Or.inr ⟨(hw _ (List.mem_of_getElem? (i := 35) rfl)), rfl, hnm⟩) (hw _ (List.mem_of_getElem? (i := 16) rfl)) (ty := .int) (by decide) rfl rfl (g := (mkF m 6 #[.val (.ref a1), .val (.int p2), .val (.int p3), .val (.long q4), .second, .val (.long q5), .second, .val (.long q6), .second, .val (.long q7), .second, .val (.long q8), .second, .val (.long q9), .second, .val (.long q10), .second, .val (.int p11)] [(.int p2), (.ref a1)])) rfl rfl (hb hby d4_6)
  refine own_go st15 ?_
  have fw15 := F_majorVersion_a1.same W15
  have f16 := E_a1.wr W15
  have f17 := F_minorVersion_a1.other W15 (Or.inr (slot_ne (Or.inr (hw _ (List.mem_of_getElem? (i := 37) rfl))) (Or.inr (hw _ (List.mem_of_getElem? (i := 35) rfl))) (by decide) (t := .int) (t' := .int) (by decide) (by decide)))
  have f18 := F_size_a1.other W15 (Or.inr (slot_ne (Or.inr (hw _ (List.mem_of_getElem? (i := 39) rfl))) (Or.inr (hw _ (List.mem_of_getElem? (i := 35) rfl))) (by decide) (t := .long) (t' := .int) (by decide) (by decide)))
  have f19 := F_constantPoolOffset_a1.other W15 (Or.inr (slot_ne (Or.inr (hw _ (List.mem_of_getElem? (i := 41) rfl))) (Or.inr (hw _ (List.mem_of_getElem? (i := 35) rfl))) (by decide) (t := .long) (t' := .int) (by decide) (by decide)))
  have f20 := F_metadataOffset_a1.other W15 (Or.inr (slot_ne (Or.inr (hw _ (List.mem_of_getElem? (i := 43) rfl))) (Or.inr (hw _ (List.mem_of_getElem? (i := 35) rfl))) (by decide) (t := .long) (t' := .int) (by decide) (by decide)))
  have f21 := F_startNanos_a1.other W15 (Or.inr (slot_ne (Or.inr (hw _ (List.mem_of_getElem? (i := 45) rfl))) (Or.inr (hw _ (List.mem_of_getElem? (i := 35) rfl))) (by decide) (t := .long) (t' := .int) (by decide) (by decide)))
  have f22 := F_durationNanos_a1.other W15 (Or.inr (slot_ne (Or.inr (hw _ (List.mem_of_getElem? (i := 47) rfl))) (Or.inr (hw _ (List.mem_of_getElem? (i := 35) rfl))) (by decide) (t := .long) (t' := .int) (by decide) (by decide)))
  have f23 := F_startTicks_a1.other W15 (Or.inr (slot_ne (Or.inr (hw _ (List.mem_of_getElem? (i := 49) rfl))) (Or.inr (hw _ (List.mem_of_getElem? (i := 35) rfl))) (by decide) (t := .long) (t' := .int) (by decide) (by decide)))
  have f24 := F_ticksPerSecond_a1.other W15 (Or.inr (slot_ne (Or.inr (hw _ (List.mem_of_getElem? (i := 51) rfl))) (Or.inr (hw _ (List.mem_of_getElem? (i := 35) rfl))) (by decide) (t := .long) (t' := .int) (by decide) (by decide)))
  have f25 := F_flags_a1.other W15 (Or.inr (slot_ne (Or.inr (hw _ (List.mem_of_getElem? (i := 53) rfl))) (Or.inr (hw _ (List.mem_of_getElem? (i := 35) rfl))) (by decide) (t := .int) (t' := .int) (by decide) (by decide)))
  have zs26 : n0 ≤ h15.size := Nat.le_trans Z0 (Keep.of_wr W15).1
  have kp27 : Keep h0 h15 [a1] := (Keep.refl h0 [a1]).wr W15 (Or.inl (List.mem_of_getElem? (i := 0) rfl))
  have N15 := Fr.snoc X15 N14 g_a1
  show own_G p e below (T15.setTop (mkF m 9 #[.val (.ref a1), .val (.int p2), .val (.int p3), .val (.long q4), .second, .val (.long q5), .second, .val (.long q6), .second, .val (.long q7), .second, .val (.long q8), .second, .val (.long q9), .second, .val (.long q10), .second, .val (.int p11)] [])) _
  refine own_go (fun _ k => XS.aloadN X15.here hx rfl (hb hby d4_9) rfl rfl k) ?_
  show own_G p e below (T15.setTop (mkF m 10 #[.val (.ref a1), .val (.int p2), .val (.int p3), .val (.long q4), .second, .val (.long q5), .second, .val (.long q6), .second, .val (.long q7), .second, .val (.long q8), .second, .val (.long q9), .second, .val (.long q10), .second, .val (.int p11)] [(.ref a1)])) _
  refine own_go (fun _ k => XS.iloadN X15.here hx rfl (hb hby d4_10) rfl k) ?_
  show own_G p e below (T15.setTop (mkF m 11 #[.val (.ref a1), .val (.int p2), .val (.int p3), .val (.long q4), .second, .val (.long q5), .second, .val (.long q6), .second, .val (.long q7), .second, .val (.long q8), .second, .val (.long q9), .second, .val (.long q10), .second, .val (.int p11)] [(.int p3), (.ref a1)])) _
  obtain ⟨T28, h28, X28, e28, W28, st28⟩ := putF X15 hx hZ hown (host := "") (Or.inl (hw _ (List.mem_of_getElem? (i := 36) rfl))) Via.refl e15 f17 f16 (Or.inr ⟨(hw _ (List.mem_of_getElem? (i := 37) rfl)), rfl, hnm⟩) (hw _ (List.mem_of_getElem? (i := 16) rfl)) (ty := .int) (by decide) rfl rfl (g := (mkF m 11 #[.val (.ref a1), .val (.int p2), .val (.int p3), .val (.long q4), .second, .val (.long q5), .second, .val (.long q6), .second, .val (.long q7), .second, .val (.long q8), .second, .val (.long q9), .second, .val (.long q10), .second, .val (.int p11)] [(.int p3), (.ref a1)])) rfl rfl (hb hby d4_11)
  refine own_go st28 ?_
  have fw28 := f17.same W28
  have f29 := f16.wr W28
  have f30 := f18.other W28 (Or.inr (slot_ne (Or.inr (hw _ (List.mem_of_getElem? (i := 39) rfl))) (Or.inr (hw _ (List.mem_of_getElem? (i := 37) rfl))) (by decide) (t := .long) (t' := .int) (by decide) (by decide)))
  have f31 := f19.other W28 (Or.inr (slot_ne (Or.inr (hw _ (List.mem_of_getElem? (i := 41) rfl))) (Or.inr (hw _ (List.mem_of_getElem? (i := 37) rfl))) (by decide) (t := .long) (t' := .int) (by decide) (by decide)))
  have f32 := f20.other W28 (Or.inr (slot_ne (Or.inr (hw _ (List.mem_of_getElem? (i := 43) rfl))) (Or.inr (hw _ (List.mem_of_getElem? (i := 37) rfl))) (by decide) (t := .long) (t' := .int) (by decide) (by decide)))
  have f33 := f21.other W28 (Or.inr (slot_ne (Or.inr (hw _ (List.mem_of_getElem? (i := 45) rfl))) (Or.inr (hw _ (List.mem_of_getElem? (i := 37) rfl))) (by decide) (t := .long) (t' := .int) (by decide) (by decide)))
  have f34 := f22.other W28 (Or.inr (slot_ne (Or.inr (hw _ (List.mem_of_getElem? (i := 47) rfl))) (Or.inr (hw _ (List.mem_of_getElem? (i := 37) rfl))) (by decide) (t := .long) (t' := .int) (by decide) (by decide)))
  have f35 := f23.other W28 (Or.inr (slot_ne (Or.inr (hw _ (List.mem_of_getElem? (i := 49) rfl))) (Or.inr (hw _ (List.mem_of_getElem? (i := 37) rfl))) (by decide) (t := .long) (t' := .int) (by decide) (by decide)))
  have f36 := f24.other W28 (Or.inr (slot_ne (Or.inr (hw _ (List.mem_of_getElem? (i := 51) rfl))) (Or.inr (hw _ (List.mem_of_getElem? (i := 37) rfl))) (by decide) (t := .long) (t' := .int) (by decide) (by decide)))
  have f37 := f25.other W28 (Or.inr (slot_ne (Or.inr (hw _ (List.mem_of_getElem? (i := 53) rfl))) (Or.inr (hw _ (List.mem_of_getElem? (i := 37) rfl))) (by decide) (t := .int) (t' := .int) (by decide) (by decide)))
  have f38 := fw15.other W28 (Or.inr (slot_ne (Or.inr (hw _ (List.mem_of_getElem? (i := 35) rfl))) (Or.inr (hw _ (List.mem_of_getElem? (i := 37) rfl))) (by decide) (t := .int) (t' := .int) (by decide) (by decide)))
  have zs39 : n0 ≤ h28.size := Nat.le_trans zs26 (Keep.of_wr W28).1
  have kp40 : Keep h0 h28 [a1] := kp27.wr W28 (Or.inl (List.mem_of_getElem? (i := 0) rfl))
  have N28 := Fr.snoc X28 N15 g_a1
  show own_G p e below (T28.setTop (mkF m 14 #[.val (.ref a1), .val (.int p2), .val (.int p3), .val (.long q4), .second, .val (.long q5), .second, .val (.long q6), .second, .val (.long q7), .second, .val (.long q8), .second, .val (.long q9), .second, .val (.long q10), .second, .val (.int p11)] [])) _
  refine own_go (fun _ k => XS.aloadN X28.here hx rfl (hb hby d4_14) rfl rfl k) ?_
  show own_G p e below (T28.setTop (mkF m 15 #[.val (.ref a1), .val (.int p2), .val (.int p3), .val (.long q4), .second, .val (.long q5), .second, .val (.long q6), .second, .val (.long q7), .second, .val (.long q8), .second, .val (.long q9), .second, .val (.long q10), .second, .val (.int p11)] [(.ref a1)])) _
  refine own_go (fun _ k => XS.lloadN X28.here hx rfl (hb hby d4_15) rfl k) ?_
  show own_G p e below (T28.setTop (mkF m 16 #[.val (.ref a1), .val (.int p2), .val (.int p3), .val (.long q4), .second, .val (.long q5), .second, .val (.long q6), .second, .val (.long q7), .second, .val (.long q8), .second, .val (.long q9), .second, .val (.long q10), .second, .val (.int p11)] [(.long q4), (.ref a1)])) _
  obtain ⟨T41, h41, X41, e41, W41, st41⟩ := putF X28 hx hZ hown (host := "") (Or.inl (hw _ (List.mem_of_getElem? (i := 38) rfl))) Via.refl e28 f30 f29 (Or.inr ⟨(hw _ (List.mem_of_getElem? (i := 39) rfl)), rfl, hnm⟩) (hw _ (List.mem_of_getElem? (i := 16) rfl)) (ty := .long) (by decide) rfl rfl (g := (mkF m 16 #[.val (.ref a1), .val (.int p2), .val (.int p3), .val (.long q4), .second, .val (.long q5), .second, .val (.long q6), .second, .val (.long q7), .second, .val (.long q8), .second, .val (.long q9), .second, .val (.long q10), .second, .val (.int p11)] [(.long q4), (.ref a1)])) rfl rfl (hb hby d4_16)
  refine own_go st41 ?_
  have fw41 := f30.same W41
  have f42 := f29.wr W41
  have f43 := f31.other W41 (Or.inr (slot_ne (Or.inr (hw _ (List.mem_of_getElem? (i := 41) rfl))) (Or.inr (hw _ (List.mem_of_getElem? (i := 39) rfl))) (by decide) (t := .long) (t' := .long) (by decide) (by decide)))
  have f44 := f32.other W41 (Or.inr (slot_ne (Or.inr (hw _ (List.mem_of_getElem? (i := 43) rfl))) (Or.inr (hw _ (List.mem_of_getElem? (i := 39) rfl))) (by decide) (t := .long) (t' := .long) (by decide) (by decide)))
  have f45 := f33.other W41 (Or.inr (slot_ne (Or.inr (hw _ (List.mem_of_getElem? (i := 45) rfl))) (Or.inr (hw _ (List.mem_of_getElem? (i := 39) rfl))) (by decide) (t := .long) (t' := .long) (by decide) (by decide)))
  have f46 := f34.other W41 (Or.inr (slot_ne (Or.inr (hw _ (List.mem_of_getElem? (i := 47) rfl))) (Or.inr (hw _ (List.mem_of_getElem? (i := 39) rfl))) (by decide) (t := .long) (t' := .long) (by decide) (by decide)))
  have f47 := f35.other W41 (Or.inr (slot_ne (Or.inr (hw _ (List.mem_of_getElem? (i := 49) rfl))) (Or.inr (hw _ (List.mem_of_getElem? (i := 39) rfl))) (by decide) (t := .long) (t' := .long) (by decide) (by decide)))
  have f48 := f36.other W41 (Or.inr (slot_ne (Or.inr (hw _ (List.mem_of_getElem? (i := 51) rfl))) (Or.inr (hw _ (List.mem_of_getElem? (i := 39) rfl))) (by decide) (t := .long) (t' := .long) (by decide) (by decide)))
  have f49 := f37.other W41 (Or.inr (slot_ne (Or.inr (hw _ (List.mem_of_getElem? (i := 53) rfl))) (Or.inr (hw _ (List.mem_of_getElem? (i := 39) rfl))) (by decide) (t := .int) (t' := .long) (by decide) (by decide)))
  have f50 := f38.other W41 (Or.inr (slot_ne (Or.inr (hw _ (List.mem_of_getElem? (i := 35) rfl))) (Or.inr (hw _ (List.mem_of_getElem? (i := 39) rfl))) (by decide) (t := .int) (t' := .long) (by decide) (by decide)))
  have f51 := fw28.other W41 (Or.inr (slot_ne (Or.inr (hw _ (List.mem_of_getElem? (i := 37) rfl))) (Or.inr (hw _ (List.mem_of_getElem? (i := 39) rfl))) (by decide) (t := .int) (t' := .long) (by decide) (by decide)))
  have zs52 : n0 ≤ h41.size := Nat.le_trans zs39 (Keep.of_wr W41).1
  have kp53 : Keep h0 h41 [a1] := kp40.wr W41 (Or.inl (List.mem_of_getElem? (i := 0) rfl))
  have N41 := Fr.snoc X41 N28 g_a1
  show own_G p e below (T41.setTop (mkF m 19 #[.val (.ref a1), .val (.int p2), .val (.int p3), .val (.long q4), .second, .val (.long q5), .second, .val (.long q6), .second, .val (.long q7), .second, .val (.long q8), .second, .val (.long q9), .second, .val (.long q10), .second, .val (.int p11)] [])) _
  refine own_go (fun _ k => XS.aloadN X41.here hx rfl (hb hby d4_19) rfl rfl k) ?_
  show own_G p e below (T41.setTop (mkF m 20 #[.val (.ref a1), .val (.int p2), .val (.int p3), .val (.long q4), .second, .val (.long q5), .second, .val (.long q6), .second, .val (.long q7), .second, .val (.long q8), .second, .val (.long q9), .second, .val (.long q10), .second, .val (.int p11)] [(.ref a1)])) _
  refine own_go (fun _ k => XS.lload X41.here hx rfl (hb hby d4_20) rfl k) ?_
  show own_G p e below (T41.setTop (mkF m 22 #[.val (.ref a1), .val (.int p2), .val (.int p3), .val (.long q4), .second, .val (.long q5), .second, .val (.long q6), .second, .val (.long q7), .second, .val (.long q8), .second, .val (.long q9), .second, .val (.long q10), .second, .val (.int p11)] [(.long q5), (.ref a1)])) _
  obtain ⟨T54, h54, X54, e54, W54, st54⟩ := putF X41 hx hZ hown (host := "") (Or.inl (hw _ (List.mem_of_getElem? (i := 40) rfl))) Via.refl e41 f43 f42 (Or.inr ⟨(hw _ (List.mem_of_getElem? (i := 41) rfl)), rfl, hnm⟩) (hw _ (List.mem_of_getElem? (i := 16) rfl)) (ty := .long) (by decide) rfl rfl (g := (mkF m 22 #[.val (.ref a1), .val (.int p2), .val (.int p3), .val (.long q4), .second, .val (.long q5), .second, .val (.long q6), .second, .val (.long q7), .second, .val (.long q8), .second, .val (.long q9), .second, .val (.long q10), .second, .val (.int p11)] [(.long q5), (.ref a1)])) rfl rfl (hb hby d4_22)
  refine own_go st54 ?_
  have fw54 := f43.same W54
  have f55 := f42.wr W54
  have f56 := f44.other W54 (Or.inr (slot_ne (Or.inr (hw _ (List.mem_of_getElem? (i := 43) rfl))) (Or.inr (hw _ (List.mem_of_getElem? (i := 41) rfl))) (by decide) (t := .long) (t' := .long) (by decide) (by decide)))
  have f57 := f45.other W54 (Or.inr (slot_ne (Or.inr (hw _ (List.mem_of_getElem? (i := 45) rfl))) (Or.inr (hw _ (List.mem_of_getElem? (i := 41) rfl))) (by decide) (t := .long) (t' := .long) (by decide) (by decide)))
  have f58 := f46.other W54 (Or.inr (slot_ne (Or.inr (hw _ (List.mem_of_getElem? (i := 47) rfl))) (Or.inr (hw _ (List.mem_of_getElem? (i := 41) rfl))) (by decide) (t := .long) (t' := .long) (by decide) (by decide)))
  have f59 := f47.other W54 (Or.inr (slot_ne (Or.inr (hw _ (List.mem_of_getElem? (i := 49) rfl))) (Or.inr (hw _ (List.mem_of_getElem? (i := 41) rfl))) (by decide) (t := .long) (t' := .long) (by decide) (by decide)))
  have f60 := f48.other W54 (Or.inr (slot_ne (Or.inr (hw _ (List.mem_of_getElem? (i := 51) rfl))) (Or.inr (hw _ (List.mem_of_getElem? (i := 41) rfl))) (by decide) (t := .long) (t' := .long) (by decide) (by decide)))
  have f61 := f49.other W54 (Or.inr (slot_ne (Or.inr (hw _ (List.mem_of_getElem? (i := 53) rfl))) (Or.inr (hw _ (List.mem_of_getElem? (i := 41) rfl))) (by decide) (t := .int) (t' := .long) (by decide) (by decide)))
  have f62 := f50.other W54 (Or.inr (slot_ne (Or.inr (hw _ (List.mem_of_getElem? (i := 35) rfl))) (Or.inr (hw _ (List.mem_of_getElem? (i := 41) rfl))) (by decide) (t := .int) (t' := .long) (by decide) (by decide)))
  have f63 := f51.other W54 (Or.inr (slot_ne (Or.inr (hw _ (List.mem_of_getElem? (i := 37) rfl))) (Or.inr (hw _ (List.mem_of_getElem? (i := 41) rfl))) (by decide) (t := .int) (t' := .long) (by decide) (by decide)))
  have f64 := fw41.other W54 (Or.inr (slot_ne (Or.inr (hw _ (List.mem_of_getElem? (i := 39) rfl))) (Or.inr (hw _ (List.mem_of_getElem? (i := 41) rfl))) (by decide) (t := .long) (t' := .long) (by decide) (by decide)))
  have zs65 : n0 ≤ h54.size := Nat.le_trans zs52 (Keep.of_wr W54).1
  have kp66 : Keep h0 h54 [a1] := kp53.wr W54 (Or.inl (List.mem_of_getElem? (i := 0) rfl))
  have N54 := Fr.snoc X54 N41 g_a1
  show own_G p e below (T54.setTop (mkF m 25 #[.val (.ref a1), .val (.int p2), .val (.int p3), .val (.long q4), .second, .val (.long q5), .second, .val (.long q6), .second, .val (.long q7), .second, .val (.long q8), .second, .val (.long q9), .second, .val (.long q10), .second, .val (.int p11)] [])) _
  refine own_go (fun _ k => XS.aloadN X54.here hx rfl (hb hby d4_25) rfl rfl k) ?_
  show own_G p e below (T54.setTop (mkF m 26 #[.val (.ref a1), .val (.int p2), .val (.int p3), .val (.long q4), .second, .val (.long q5), .second, .val (.long q6), .second, .val (.long q7), .second, .val (.long q8), .second, .val (.long q9), .second, .val (.long q10), .second, .val (.int p11)] [(.ref a1)])) _
  refine own_go (fun _ k => XS.lload X54.here hx rfl (hb hby d4_26) rfl k) ?_
  show own_G p e below (T54.setTop (mkF m 28 #[.val (.ref a1), .val (.int p2), .val (.int p3), .val (.long q4), .second, .val (.long q5), .second, .val (.long q6), .second, .val (.long q7), .second, .val (.long q8), .second, .val (.long q9), .second, .val (.long q10), .second, .val (.int p11)] [(.long q6), (.ref a1)])) _
  obtain ⟨T67, h67, X67, e67, W67, st67⟩ := putF X54 hx hZ hown (host := "") (Or.inl (hw _ (List.mem_of_getElem? (i := 42) rfl))) Via.refl e54 f56 f55 (Or.inr ⟨(hw _ (List.mem_of_getElem? (i := 43) rfl)), rfl, hnm⟩) (hw _ (List.mem_of_getElem? (i := 16) rfl)) (ty := .long) (by decide) rfl rfl (g := (mkF m 28 #[.val (.ref a1), .val (.int p2), .val (.int p3), .val (.long q4), .second, .val (.long q5), .second, .val (.long q6), .second, .val (.long q7), .second, .val (.long q8), .second, .val (.long q9), .second, .val (.long q10), .second, .val (.int p11)] [(.long q6), (.ref a1)])) rfl rfl (hb hby d4_28)
  refine own_go st67 ?_
  have fw67 := f56.same W67
  have f68 := f55.wr W67
  have f69 := f57.other W67 (Or.inr (slot_ne (Or.inr (hw _ (List.mem_of_getElem? (i := 45) rfl))) (Or.inr (hw _ (List.mem_of_getElem? (i := 43) rfl))) (by decide) (t := .long) (t' := .long) (by decide) (by decide)))
  have f70 := f58.other W67 (Or.inr (slot_ne (Or.inr (hw _ (List.mem_of_getElem? (i := 47) rfl))) (Or.inr (hw _ (List.mem_of_getElem? (i := 43) rfl))) (by decide) (t := .long) (t' := .long) (by decide) (by decide)))
  have f71 := f59.other W67 (Or.inr (slot_ne (Or.inr (hw _ (List.mem_of_getElem? (i := 49) rfl))) (Or.inr (hw _ (List.mem_of_getElem? (i := 43) rfl))) (by decide) (t := .long) (t' := .long) (by decide) (by decide)))
  have f72 := f60.other W67 (Or.inr (slot_ne (Or.inr (hw _ (List.mem_of_getElem? (i := 51) rfl))) (Or.inr (hw _ (List.mem_of_getElem? (i := 43) rfl))) (by decide) (t := .long) (t' := .long) (by decide) (by decide)))
  have f73 := f61.other W67 (Or.inr (slot_ne (Or.inr (hw _ (List.mem_of_getElem? (i := 53) rfl))) (Or.inr (hw _ (List.mem_of_getElem? (i := 43) rfl))) (by decide) (t := .int) (t' := .long) (by decide) (by decide)))
  have f74 := f62.other W67 (Or.inr (slot_ne (Or.inr (hw _ (List.mem_of_getElem? (i := 35) rfl))) (Or.inr (hw _ (List.mem_of_getElem? (i := 43) rfl))) (by decide) (t := .int) (t' := .long) (by decide) (by decide)))
  have f75 := f63.other W67 (Or.inr (slot_ne (Or.inr (hw _ (List.mem_of_getElem? (i := 37) rfl))) (Or.inr (hw _ (List.mem_of_getElem? (i := 43) rfl))) (by decide) (t := .int) (t' := .long) (by decide) (by decide)))
  have f76 := f64.other W67 (Or.inr (slot_ne (Or.inr (hw _ (List.mem_of_getElem? (i := 39) rfl))) (Or.inr (hw _ (List.mem_of_getElem? (i := 43) rfl))) (by decide) (t := .long) (t' := .long) (by decide) (by decide)))
  have f77 := fw54.other W67 (Or.inr (slot_ne (Or.inr (hw _ (List.mem_of_getElem? (i := 41) rfl))) (Or.inr (hw _ (List.mem_of_getElem? (i := 43) rfl))) (by decide) (t := .long) (t' := .long) (by decide) (by decide)))
  have zs78 : n0 ≤ h67.size := Nat.le_trans zs65 (Keep.of_wr W67).1
  have kp79 : Keep h0 h67 [a1] := kp66.wr W67 (Or.inl (List.mem_of_getElem? (i := 0) rfl))
  have N67 := Fr.snoc X67 N54 g_a1
  show own_G p e below (T67.setTop (mkF m 31 #[.val (.ref a1), .val (.int p2), .val (.int p3), .val (.long q4), .second, .val (.long q5), .second, .val (.long q6), .second, .val (.long q7), .second, .val (.long q8), .second, .val (.long q9), .second, .val (.long q10), .second, .val (.int p11)] [])) _
  refine own_go (fun _ k => XS.aloadN X67.here hx rfl (hb hby d4_31) rfl rfl k) ?_
  show own_G p e below (T67.setTop (mkF m 32 #[.val (.ref a1), .val (.int p2), .val (.int p3), .val (.long q4), .second, .val (.long q5), .second, .val (.long q6), .second, .val (.long q7), .second, .val (.long q8), .second, .val (.long q9), .second, .val (.long q10), .second, .val (.int p11)] [(.ref a1)])) _
  refine own_go (fun _ k => XS.lload X67.here hx rfl (hb hby d4_32) rfl k) ?_
  show own_G p e below (T67.setTop (mkF m 34 #[.val (.ref a1), .val (.int p2), .val (.int p3), .val (.long q4), .second, .val (.long q5), .second, .val (.long q6), .second, .val (.long q7), .second, .val (.long q8), .second, .val (.long q9), .second, .val (.long q10), .second, .val (.int p11)] [(.long q7), (.ref a1)])) _
  obtain ⟨T80, h80, X80, e80, W80, st80⟩ := putF X67 hx hZ hown (host := "") (Or.inl (hw _ (List.mem_of_getElem? (i := 44) rfl))) Via.refl e67 f69 f68 (Or.inr ⟨(hw _ (List.mem_of_getElem? (i := 45) rfl)), rfl, hnm⟩) (hw _ (List.mem_of_getElem? (i := 16) rfl)) (ty := .long) (by decide) rfl rfl (g := (mkF m 34 #[.val (.ref a1), .val (.int p2), .val (.int p3), .val (.long q4), .second, .val (.long q5), .second, .val (.long q6), .second, .val (.long q7), .second, .val (.long q8), .second, .val (.long q9), .second, .val (.long q10), .second, .val (.int p11)] [(.long q7), (.ref a1)])) rfl rfl (hb hby d4_34)
  refine own_go st80 ?_
  have fw80 := f69.same W80
  have f81 := f68.wr W80
  have f82 := f70.other W80 (Or.inr (slot_ne (Or.inr (hw _ (List.mem_of_getElem? (i := 47) rfl))) (Or.inr (hw _ (List.mem_of_getElem? (i := 45) rfl))) (by decide) (t := .long) (t' := .long) (by decide) (by decide)))
  have f83 := f71.other W80 (Or.inr (slot_ne (Or.inr (hw _ (List.mem_of_getElem? (i := 49) rfl))) (Or.inr (hw _ (List.mem_of_getElem? (i := 45) rfl))) (by decide) (t := .long) (t' := .long) (by decide) (by decide)))
  have f84 := f72.other W80 (Or.inr (slot_ne (Or.inr (hw _ (List.mem_of_getElem? (i := 51) rfl))) (Or.inr (hw _ (List.mem_of_getElem? (i := 45) rfl))) (by decide) (t := .long) (t' := .long) (by decide) (by decide)))
  have f85 := f73.other W80 (Or.inr (slot_ne (Or.inr (hw _ (List.mem_of_getElem? (i := 53) rfl))) (Or.inr (hw _ (List.mem_of_getElem? (i := 45) rfl))) (by decide) (t := .int) (t' := .long) (by decide) (by decide)))
  have f86 := f74.other W80 (Or.inr (slot_ne (Or.inr (hw _ (List.mem_of_getElem? (i := 35) rfl))) (Or.inr (hw _ (List.mem_of_getElem? (i := 45) rfl))) (by decide) (t := .int) (t' := .long) (by decide) (by decide)))
  have f87 := f75.other W80 (Or.inr (slot_ne (Or.inr (hw _ (List.mem_of_getElem? (i := 37) rfl))) (Or.inr (hw _ (List.mem_of_getElem? (i := 45) rfl))) (by decide) (t := .int) (t' := .long) (by decide) (by decide)))
  have f88 := f76.other W80 (Or.inr (slot_ne (Or.inr (hw _ (List.mem_of_getElem? (i := 39) rfl))) (Or.inr (hw _ (List.mem_of_getElem? (i := 45) rfl))) (by decide) (t := .long) (t' := .long) (by decide) (by decide)))
  have f89 := f77.other W80 (Or.inr (slot_ne (Or.inr (hw _ (List.mem_of_getElem? (i := 41) rfl))) (Or.inr (hw _ (List.mem_of_getElem? (i := 45) rfl))) (by decide) (t := .long) (t' := .long) (by decide) (by decide)))
  have f90 := fw67.other W80 (Or.inr (slot_ne (Or.inr (hw _ (List.mem_of_getElem? (i := 43) rfl))) (Or.inr (hw _ (List.mem_of_getElem? (i := 45) rfl))) (by decide) (t := .long) (t' := .long) (by decide) (by decide)))
  have zs91 : n0 ≤ h80.size := Nat.le_trans zs78 (Keep.of_wr W80).1
  have kp92 : Keep h0 h80 [a1] := kp79.wr W80 (Or.inl (List.mem_of_getElem? (i := 0) rfl))
  have N80 := Fr.snoc X80 N67 g_a1
  show own_G p e below (T80.setTop (mkF m 37 #[.val (.ref a1), .val (.int p2), .val (.int p3), .val (.long q4), .second, .val (.long q5), .second, .val (.long q6), .second, .val (.long q7), .second, .val (.long q8), .second, .val (.long q9), .second, .val (.long q10), .second, .val (.int p11)] [])) _
  refine own_go (fun _ k => XS.aloadN X80.here hx rfl (hb hby d4_37) rfl rfl k) ?_
  show own_G p e below (T80.setTop (mkF m 38 #[.val (.ref a1), .val (.int p2), .val (.int p3), .val (.long q4), .second, .val (.long q5), .second, .val (.long q6), .second, .val (.long q7), .second, .val (.long q8), .second, .val (.long q9), .second, .val (.long q10), .second, .val (.int p11)] [(.ref a1)])) _
  refine own_go (fun _ k => XS.lload X80.here hx rfl (hb hby d4_38) rfl k) ?_
  show own_G p e below (T80.setTop (mkF m 40 #[.val (.ref a1), .val (.int p2), .val (.int p3), .val (.long q4), .second, .val (.long q5), .second, .val (.long q6), .second, .val (.long q7), .second, .val (.long q8), .second, .val (.long q9), .second, .val (.long q10), .second, .val (.int p11)] [(.long q8), (.ref a1)])) _
  obtain ⟨T93, h93, X93, e93, W93, st93⟩ := putF X80 hx hZ hown (host := "") (Or.inl (hw _ (List.mem_of_getElem? (i := 46) rfl))) Via.refl e80 f82 f81 (Or.inr ⟨(hw _ (List.mem_of_getElem? (i := 47) rfl)), rfl, hnm⟩) (hw _ (List.mem_of_getElem? (i := 16) rfl)) (ty := .long) (by decide) rfl rfl (g := (mkF m 40 #[.val (.ref a1), .val (.int p2), .val (.int p3), .val (.long q4), .second, .val (.long q5), .second, .val (.long q6), .second, .val (.long q7), .second, .val (.long q8), .second, .val (.long q9), .second, .val (.long q10), .second, .val (.int p11)] [(.long q8), (.ref a1)])) rfl rfl (hb hby d4_40)
  refine own_go st93 ?_
  have fw93 := f82.same W93
  have f94 := f81.wr W93
  have f95 := f83.other W93 (Or.inr (slot_ne (Or.inr (hw _ (List.mem_of_getElem? (i := 49) rfl))) (Or.inr (hw _ (List.mem_of_getElem? (i := 47) rfl))) (by decide) (t := .long) (t' := .long) (by decide) (by decide)))
  have f96 := f84.other W93 (Or.inr (slot_ne (Or.inr (hw _ (List.mem_of_getElem? (i := 51) rfl))) (Or.inr (hw _ (List.mem_of_getElem? (i := 47) rfl))) (by decide) (t := .long) (t' := .long) (by decide) (by decide)))
  have f97 := f85.other W93 (Or.inr (slot_ne (Or.inr (hw _ (List.mem_of_getElem? (i := 53) rfl))) (Or.inr (hw _ (List.mem_of_getElem? (i := 47) rfl))) (by decide) (t := .int) (t' := .long) (by decide) (by decide)))
  have f98 := f86.other W93 (Or.inr (slot_ne (Or.inr (hw _ (List.mem_of_getElem? (i := 35) rfl))) (Or.inr (hw _ (List.mem_of_getElem? (i := 47) rfl))) (by decide) (t := .int) (t' := .long) (by decide) (by decide)))
  have f99 := f87.other W93 (Or.inr (slot_ne (Or.inr (hw _ (List.mem_of_getElem? (i := 37) rfl))) (Or.inr (hw _ (List.mem_of_getElem? (i := 47) rfl))) (by decide) (t := .int) (t' := .long) (by decide) (by decide)))
  have f100 := f88.other W93 (Or.inr (slot_ne (Or.inr (hw _ (List.mem_of_getElem? (i := 39) rfl))) (Or.inr (hw _ (List.mem_of_getElem? (i := 47) rfl))) (by decide) (t := .long) (t' := .long) (by decide) (by decide)))
  have f101 := f89.other W93 (Or.inr (slot_ne (Or.inr (hw _ (List.mem_of_getElem? (i := 41) rfl))) (Or.inr (hw _ (List.mem_of_getElem? (i := 47) rfl))) (by decide) (t := .long) (t' := .long) (by decide) (by decide)))
  have f102 := f90.other W93 (Or.inr (slot_ne (Or.inr (hw _ (List.mem_of_getElem? (i := 43) rfl))) (Or.inr (hw _ (List.mem_of_getElem? (i := 47) rfl))) (by decide) (t := .long) (t' := .long) (by decide) (by decide)))
  have f103 := fw80.other W93 (Or.inr (slot_ne (Or.inr (hw _ (List.mem_of_getElem? (i := 45) rfl))) (Or.inr (hw _ (List.mem_of_getElem? (i := 47) rfl))) (by decide) (t := .long) (t' := .long) (by decide) (by decide)))
  have zs104 : n0 ≤ h93.size := Nat.le_trans zs91 (Keep.of_wr W93).1
  have kp105 : Keep h0 h93 [a1] := kp92.wr W93 (Or.inl (List.mem_of_getElem? (i := 0) rfl))
  have N93 := Fr.snoc X93 N80 g_a1
  show own_G p e below (T93.setTop (mkF m 43 #[.val (.ref a1), .val (.int p2), .val (.int p3), .val (.long q4), .second, .val (.long q5), .second, .val (.long q6), .second, .val (.long q7), .second, .val (.long q8), .second, .val (.long q9), .second, .val (.long q10), .second, .val (.int p11)] [])) _
  refine own_go (fun _ k => XS.aloadN X93.here hx rfl (hb hby d4_43) rfl rfl k) ?_
  show own_G p e below (T93.setTop (mkF m 44 #[.val (.ref a1), .val (.int p2), .val (.int p3), .val (.long q4), .second, .val (.long q5), .second, .val (.long q6), .second, .val (.long q7), .second, .val (.long q8), .second, .val (.long q9), .second, .val (.long q10), .second, .val (.int p11)] [(.ref a1)])) _
  refine own_go (fun _ k => XS.lload X93.here hx rfl (hb hby d4_44) rfl k) ?_
  show own_G p e below (T93.setTop (mkF m 46 #[.val (.ref a1), .val (.int p2), .val (.int p3), .val (.long q4), .second, .val (.long q5), .second, .val (.long q6), .second, .val (.long q7), .second, .val (.long q8), .second, .val (.long q9), .second, .val (.long q10), .second, .val (.int p11)] [(.long q9), (.ref a1)])) _
  obtain ⟨T106, h106, X106, e106, W106, st106⟩ := putF X93 hx hZ hown (host := "") (Or.inl (hw _ (List.mem_of_getElem? (i := 48) rfl))) Via.refl e93 f95 f94 (Or.inr ⟨(hw _ (List.mem_of_getElem? (i := 49) rfl)), rfl, hnm⟩) (hw _ (List.mem_of_getElem? (i := 16) rfl)) (ty := .long) (by decide) rfl rfl (g := (mkF m 46 #[.val (.ref a1), .val (.int p2), .val (.int p3), .val (.long q4), .second, .val (.long q5), .second, .val (.long q6), .second, .val (.long q7), .second, .val (.long q8), .second, .val (.long q9), .second, .val (.long q10), .second, .val (.int p11)] [(.long q9), (.ref a1)])) rfl rfl (hb hby d4_46)
  refine own_go st106 ?_
  have fw106 := f95.same W106
  have f107 := f94.wr W106
  have f108 := f96.other W106 (Or.inr (slot_ne (Or.inr (hw _ (List.mem_of_getElem? (i := 51) rfl))) (Or.inr (hw _ (List.mem_of_getElem? (i := 49) rfl))) (by decide) (t := .long) (t' := .long) (by decide) (by decide)))
  have f109 := f97.other W106 (Or.inr (slot_ne (Or.inr (hw _ (List.mem_of_getElem? (i := 53) rfl))) (Or.inr (hw _ (List.mem_of_getElem? (i := 49) rfl))) (by decide) (t := .int) (t' := .long) (by decide) (by decide)))
  have f110 := f98.other W106 (Or.inr (slot_ne (Or.inr (hw _ (List.mem_of_getElem? (i := 35) rfl))) (Or.inr (hw _ (List.mem_of_getElem? (i := 49) rfl))) (by decide) (t := .int) (t' := .long) (by decide) (by decide)))
  have f111 := f99.other W106 (Or.inr (slot_ne (Or.inr (hw _ (List.mem_of_getElem? (i := 37) rfl))) (Or.inr (hw _ (List.mem_of_getElem? (i := 49) rfl))) (by decide) (t := .int) (t' := .long) (by decide) (by decide)))
  have f112 := f100.other W106 (Or.inr (slot_ne (Or.inr (hw _ (List.mem_of_getElem? (i := 39) rfl))) (Or.inr (hw _ (List.mem_of_getElem? (i := 49) rfl))) (by decide) (t := .long) (t' := .long) (by decide) (by decide)))
  have f113 := f101.other W106 (Or.inr (slot_ne (Or.inr (hw _ (List.mem_of_getElem? (i := 41) rfl))) (Or.inr (hw _ (List.mem_of_getElem? (i := 49) rfl))) (by decide) (t := .long) (t' := .long) (by decide) (by decide)))
  have f114 := f102.other W106 (Or.inr (slot_ne (Or.inr (hw _ (List.mem_of_getElem? (i := 43) rfl))) (Or.inr (hw _ (List.mem_of_getElem? (i := 49) rfl))) (by decide) (t := .long) (t' := .long) (by decide) (by decide)))
  have f115 := f103.other W106 (Or.inr (slot_ne (Or.inr (hw _ (List.mem_of_getElem? (i := 45) rfl))) (Or.inr (hw _ (List.mem_of_getElem? (i := 49) rfl))) (by decide) (t := .long) (t' := .long) (by decide) (by decide)))
  have f116 := fw93.other W106 (Or.inr (slot_ne (Or.inr (hw _ (List.mem_of_getElem? (i := 47) rfl))) (Or.inr (hw _ (List.mem_of_getElem? (i := 49) rfl))) (by decide) (t := .long) (t' := .long) (by decide) (by decide)))
  have zs117 : n0 ≤ h106.size := Nat.le_trans zs104 (Keep.of_wr W106).1
  have kp118 : Keep h0 h106 [a1] := kp105.wr W106 (Or.inl (List.mem_of_getElem? (i := 0) rfl))
  have N106 := Fr.snoc X106 N93 g_a1
  show own_G p e below (T106.setTop (mkF m 49 #[.val (.ref a1), .val (.int p2), .val (.int p3), .val (.long q4), .second, .val (.long q5), .second, .val (.long q6), .second, .val (.long q7), .second, .val (.long q8), .second, .val (.long q9), .second, .val (.long q10), .second, .val (.int p11)] [])) _
  refine own_go (fun _ k => XS.aloadN X106.here hx rfl (hb hby d4_49) rfl rfl k) ?_
  show own_G p e below (T106.setTop (mkF m 50 #[.val (.ref a1), .val (.int p2), .val (.int p3), .val (.long q4), .second, .val (.long q5), .second, .val (.long q6), .second, .val (.long q7), .second, .val (.long q8), .second, .val (.long q9), .second, .val (.long q10), .second, .val (.int p11)] [(.ref a1)])) _
  refine own_go (fun _ k => XS.lload X106.here hx rfl (hb hby d4_50) rfl k) ?_
  show own_G p e below (T106.setTop (mkF m 52 #[.val (.ref a1), .val (.int p2), .val (.int p3), .val (.long q4), .second, .val (.long q5), .second, .val (.long q6), .second, .val (.long q7), .second, .val (.long q8), .second, .val (.long q9), .second, .val (.long q10), .second, .val (.int p11)] [(.long q10), (.ref a1)])) _
  obtain ⟨T119, h119, X119, e119, W119, st119⟩ := putF X106 hx hZ hown (host := "") (Or.inl (hw _ (List.mem_of_getElem? (i := 50) rfl))) Via.refl e106 f108 f107 (Or.inr ⟨(hw _ (List.mem_of_getElem? (i := 51) rfl)), rfl, hnm⟩) (hw _ (List.mem_of_getElem? (i := 16) rfl)) (ty := .long) (by decide) rfl rfl (g := (mkF m 52 #[.val (.ref a1), .val (.int p2), .val (.int p3), .val (.long q4), .second, .val (.long q5), .second, .val (.long q6), .second, .val (.long q7), .second, .val (.long q8), .second, .val (.long q9), .second, .val (.long q10), .second, .val (.int p11)] [(.long q10), (.ref a1)])) rfl rfl (hb hby d4_52)
  refine own_go st119 ?_
  have fw119 := f108.same W119
  have f120 := f107.wr W119
  have f121 := f109.other W119 (Or.inr (slot_ne (Or.inr (hw _ (List.mem_of_getElem? (i := 53) rfl))) (Or.inr (hw _ (List.mem_of_getElem? (i := 51) rfl))) (by decide) (t := .int) (t' := .long) (by decide) (by decide)))
  have f122 := f110.other W119 (Or.inr (slot_ne (Or.inr (hw _ (List.mem_of_getElem? (i := 35) rfl))) (Or.inr (hw _ (List.mem_of_getElem? (i := 51) rfl))) (by decide) (t := .int) (t' := .long) (by decide) (by decide)))
  have f123 := f111.other W119 (Or.inr (slot_ne (Or.inr (hw _ (List.mem_of_getElem? (i := 37) rfl))) (Or.inr (hw _ (List.mem_of_getElem? (i := 51) rfl))) (by decide) (t := .int) (t' := .long) (by decide) (by decide)))
  have f124 := f112.other W119 (Or.inr (slot_ne (Or.inr (hw _ (List.mem_of_getElem? (i := 39) rfl))) (Or.inr (hw _ (List.mem_of_getElem? (i := 51) rfl))) (by decide) (t := .long) (t' := .long) (by decide) (by decide)))
  have f125 := f113.other W119 (Or.inr (slot_ne (Or.inr (hw _ (List.mem_of_getElem? (i := 41) rfl))) (Or.inr (hw _ (List.mem_of_getElem? (i := 51) rfl))) (by decide) (t := .long) (t' := .long) (by decide) (by decide)))
  have f126 := f114.other W119 (Or.inr (slot_ne (Or.inr (hw _ (List.mem_of_getElem? (i := 43) rfl))) (Or.inr (hw _ (List.mem_of_getElem? (i := 51) rfl))) (by decide) (t := .long) (t' := .long) (by decide) (by decide)))
  have f127 := f115.other W119 (Or.inr (slot_ne (Or.inr (hw _ (List.mem_of_getElem? (i := 45) rfl))) (Or.inr (hw _ (List.mem_of_getElem? (i := 51) rfl))) (by decide) (t := .long) (t' := .long) (by decide) (by decide)))
  have f128 := f116.other W119 (Or.inr (slot_ne (Or.inr (hw _ (List.mem_of_getElem? (i := 47) rfl))) (Or.inr (hw _ (List.mem_of_getElem? (i := 51) rfl))) (by decide) (t := .long) (t' := .long) (by decide) (by decide)))
  have f129 := fw106.other W119 (Or.inr (slot_ne (Or.inr (hw _ (List.mem_of_getElem? (i := 49) rfl))) (Or.inr (hw _ (List.mem_of_getElem? (i := 51) rfl))) (by decide) (t := .long) (t' := .long) (by decide) (by decide)))
  have zs130 : n0 ≤ h119.size := Nat.le_trans zs117 (Keep.of_wr W119).1
  have kp131 : Keep h0 h119 [a1] := kp118.wr W119 (Or.inl (List.mem_of_getElem? (i := 0) rfl))
  have N119 := Fr.snoc X119 N106 g_a1
  show own_G p e below (T119.setTop (mkF m 55 #[.val (.ref a1), .val (.int p2), .val (.int p3), .val (.long q4), .second, .val (.long q5), .second, .val (.long q6), .second, .val (.long q7), .second, .val (.long q8), .second, .val (.long q9), .second, .val (.long q10), .second, .val (.int p11)] [])) _
  refine own_go (fun _ k => XS.aloadN X119.here hx rfl (hb hby d4_55) rfl rfl k) ?_
  show own_G p e below (T119.setTop (mkF m 56 #[.val (.ref a1), .val (.int p2), .val (.int p3), .val (.long q4), .second, .val (.long q5), .second, .val (.long q6), .second, .val (.long q7), .second, .val (.long q8), .second, .val (.long q9), .second, .val (.long q10), .second, .val (.int p11)] [(.ref a1)])) _
  refine own_go (fun _ k => XS.iload X119.here hx rfl (hb hby d4_56) rfl k) ?_
  show own_G p e below (T119.setTop (mkF m 58 #[.val (.ref a1), .val (.int p2), .val (.int p3), .val (.long q4), .second, .val (.long q5), .second, .val (.long q6), .second, .val (.long q7), .second, .val (.long q8), .second, .val (.long q9), .second, .val (.long q10), .second, .val (.int p11)] [(.int p11), (.ref a1)])) _
  obtain ⟨T132, h132, X132, e132, W132, st132⟩ := putF X119 hx hZ hown (host := "") (Or.inl (hw _ (List.mem_of_getElem? (i := 52) rfl))) Via.refl e119 f121 f120 (Or.inr ⟨(hw _ (List.mem_of_getElem? (i := 53) rfl)), rfl, hnm⟩) (hw _ (List.mem_of_getElem? (i := 16) rfl)) (ty := .int) (by decide) rfl rfl (g := (mkF m 58 #[.val (.ref a1), .val (.int p2), .val (.int p3), .val (.long q4), .second, .val (.long q5), .second, .val (.long q6), .second, .val (.long q7), .second, .val (.long q8), .second, .val (.long q9), .second, .val (.long q10), .second, .val (.int p11)] [(.int p11), (.ref a1)])) rfl rfl (hb hby d4_58)
  refine own_go st132 ?_
  have fw132 := f121.same W132
  have f133 := f120.wr W132
  have f134 := f122.other W132 (Or.inr (slot_ne (Or.inr (hw _ (List.mem_of_getElem? (i := 35) rfl))) (Or.inr (hw _ (List.mem_of_getElem? (i := 53) rfl))) (by decide) (t := .int) (t' := .int) (by decide) (by decide)))
  have f135 := f123.other W132 (Or.inr (slot_ne (Or.inr (hw _ (List.mem_of_getElem? (i := 37) rfl))) (Or.inr (hw _ (List.mem_of_getElem? (i := 53) rfl))) (by decide) (t := .int) (t' := .int) (by decide) (by decide)))
  have f136 := f124.other W132 (Or.inr (slot_ne (Or.inr (hw _ (List.mem_of_getElem? (i := 39) rfl))) (Or.inr (hw _ (List.mem_of_getElem? (i := 53) rfl))) (by decide) (t := .long) (t' := .int) (by decide) (by decide)))
  have f137 := f125.other W132 (Or.inr (slot_ne (Or.inr (hw _ (List.mem_of_getElem? (i := 41) rfl))) (Or.inr (hw _ (List.mem_of_getElem? (i := 53) rfl))) (by decide) (t := .long) (t' := .int) (by decide) (by decide)))
  have f138 := f126.other W132 (Or.inr (slot_ne (Or.inr (hw _ (List.mem_of_getElem? (i := 43) rfl))) (Or.inr (hw _ (List.mem_of_getElem? (i := 53) rfl))) (by decide) (t := .long) (t' := .int) (by decide) (by decide)))
  have f139 := f127.other W132 (Or.inr (slot_ne (Or.inr (hw _ (List.mem_of_getElem? (i := 45) rfl))) (Or.inr (hw _ (List.mem_of_getElem? (i := 53) rfl))) (by decide) (t := .long) (t' := .int) (by decide) (by decide)))
  have f140 := f128.other W132 (Or.inr (slot_ne (Or.inr (hw _ (List.mem_of_getElem? (i := 47) rfl))) (Or.inr (hw _ (List.mem_of_getElem? (i := 53) rfl))) (by decide) (t := .long) (t' := .int) (by decide) (by decide)))
  have f141 := f129.other W132 (Or.inr (slot_ne (Or.inr (hw _ (List.mem_of_getElem? (i := 49) rfl))) (Or.inr (hw _ (List.mem_of_getElem? (i := 53) rfl))) (by decide) (t := .long) (t' := .int) (by decide) (by decide)))
  have f142 := fw119.other W132 (Or.inr (slot_ne (Or.inr (hw _ (List.mem_of_getElem? (i := 51) rfl))) (Or.inr (hw _ (List.mem_of_getElem? (i := 53) rfl))) (by decide) (t := .long) (t' := .int) (by decide) (by decide)))
  have zs143 : n0 ≤ h132.size := Nat.le_trans zs130 (Keep.of_wr W132).1
  have kp144 : Keep h0 h132 [a1] := kp131.wr W132 (Or.inl (List.mem_of_getElem? (i := 0) rfl))
  have N132 := Fr.snoc X132 N119 g_a1
  show own_G p e below (T132.setTop (mkF m 61 #[.val (.ref a1), .val (.int p2), .val (.int p3), .val (.long q4), .second, .val (.long q5), .second, .val (.long q6), .second, .val (.long q7), .second, .val (.long q8), .second, .val (.long q9), .second, .val (.long q10), .second, .val (.int p11)] [])) _
  refine own_ret X132 hlk (v := none) (fun _ => rfl) (Q4 Z a1 p2 p3 q4 q5 q6 q7 q8 q9 q10 p11 h0 n0) (own_retV X132 hx hret (hb hby d4_61)) (by decide) (by decide) ?_
  show Q4 Z a1 p2 p3 q4 q5 q6 q7 q8 q9 q10 p11 h0 n0 _ T132.heap _
  rw [e132]
  exact ⟨rfl, N132, kp144, f133, f139, f140⟩
theorem ef_6 (m : MethodId) (a1 : Addr) : entryFrame m #[(.ref a1)] 1 = mkF m 0 #[.val (.ref a1)] [] := by first | (simp [entryFrame, mkF, argsToLocals, Value.category]; done) | rfl
def Q6 (Z : State) (a1 : Addr) (s1 e1 : Int64) (h0 : Heap) (n0 : Nat) (v : Option Value) (h : Heap) (L : List Loc) : Prop := ∃ z : Int32, v = some (.int z) ∧ Fr n0 L ∧ h = h0 ∧ ((z = 1 ∧ s1 = (9223372036854775807 : Int64) ∧ e1 = (-9223372036854775808 : Int64)) ∨ (z = 0 ∧ ¬ (s1 = (9223372036854775807 : Int64) ∧ e1 = (-9223372036854775808 : Int64))))
set_option maxRecDepth 65536 in
set_option maxHeartbeats 40000000 in
theorem rm6 (l : Launch) (Z : State) (a0 : Array Value) (hw : ∀ d ∈ tables_1, d.before a0 Z = true) (ws : List Jvm.Cond) (a1 : Addr) (s1 e1 : Int64) (h0 : Heap) (n0 : Nat) (Z0 : n0 ≤ h0.size)  (F_startNanos_a1 : Fld Z h0 a1 "emberglass/TimeSpan" "startNanos" "J" (.long s1)) (F_endNanos_a1 : Fld Z h0 a1 "emberglass/TimeSpan" "endNanos" "J" (.long e1)) :
    MetFree l (⟨"emberglass/TimeSpan", "empty", "()Z"⟩ : MethodName) (head1 (Jvm.Cond.code (⟨"emberglass/TimeSpan", "empty", "()Z"⟩ : MethodName) prog_273_method_4_code 1 (some .boolean) :: ws) ({ frames := 0, cells := 0, slots := 0, locals := 0 } : Room)) (fun a U => a = #[(.ref a1)] ∧ Z.Warmed39 U.vm ∧ U.heap = h0) (fun _ _ _ _ _ => True) (fun _ U o U' => ∃ v L, o = .returned v ∧ Q6 Z a1 s1 e1 h0 n0 v U'.heap L ∧ FrameEnd U o U' L ({ frames := 0, cells := 0, slots := 0, locals := 0 } : Room).cells ({ frames := 0, cells := 0, slots := 0, locals := 0 } : Room).slots) := by
  refine MetFree.of_bodySF (plainFor_of_name pn_6) hisR ?_
  intro p e s m args below meth c s₁ Bd hml0 hP hK
  obtain ⟨rfl, hZ, hh⟩ := hP
  have hx := Bd.exec
  have hby := Bd.bytes
  have hml : c.maxLocals = 1 := hml0
  have hown : s.vm.findClass "emberglass/TimeSpan" = some m.cls := findClass_of_methodNamed Bd.named
  have hnm := (name_of_methodNamed Bd.named Bd.method).1
  have hlk := Bd.notSynchronized
  have hret := Bd.returns
  have X0 : Stand p l e ({ frames := 0, cells := 0, slots := 0, locals := 0 } : Room) s m #[(.ref a1)] below meth c s₁ [] 0 0 := Stand.of_body Bd
  have e0 : s₁.heap = h0 := by rw [← hh, Bd.state]; rfl
  have N0 := Fr.nil n0
  show own_G p e below (s₁.setTop (entryFrame m #[(.ref a1)] 1)) (fun s₂ o => ∃ v L, o = .returned v ∧ Q6 Z a1 s1 e1 h0 n0 v s₂.heap L ∧ FrameEnd s o s₂ L ({ frames := 0, cells := 0, slots := 0, locals := 0 } : Room).cells ({ frames := 0, cells := 0, slots := 0, locals := 0 } : Room).slots)
  refine own_go (fun t k => castTop (ef_6 m a1) k) ?_
  show own_G p e below (s₁.setTop (mkF m 0 #[.val (.ref a1)] [])) _
  refine own_go (fun _ k => XS.aloadN X0.here hx rfl (hb hby d6_0) rfl rfl k) ?_
  show own_G p e below (s₁.setTop (mkF m 1 #[.val (.ref a1)] [(.ref a1)])) _
  obtain ⟨T145, X145, e145, st145⟩ := getF X0 hx hZ hown (host := "") (Or.inl (hw _ (List.mem_of_getElem? (i := 10) rfl))) Via.refl e0 F_startNanos_a1 (g := (mkF m 1 #[.val (.ref a1)] [(.ref a1)])) rfl rfl (hb hby d6_1)
  refine own_go st145 ?_
  show own_G p e below (T145.setTop (mkF m 4 #[.val (.ref a1)] [(.long s1)])) _
  refine own_go (X145.ldc2Long hx hown (mvT hZ (hw _ (List.mem_of_getElem? (i := 9) rfl))) (g := (mkF m 4 #[.val (.ref a1)] [(.long s1)])) rfl (hb hby d6_4)) ?_
  show own_G p e below (T145.setTop (mkF m 7 #[.val (.ref a1)] [(.long (9223372036854775807 : Int64)), (.long s1)])) _
  refine own_go (fun _ k => XS.lcmp X145.here hx rfl (hb hby d6_7) rfl k) ?_
  show own_G p e below (T145.setTop (mkF m 8 #[.val (.ref a1)] [(.int (lcmpW s1 (9223372036854775807 : Int64)))])) _
  by_cases hc8_146 : s1 = (9223372036854775807 : Int64)
  · refine own_go (fun _ k => XS.ifNo X145.here hx rfl (hb hby d6_8) rfl ((if0 _ _).trans (teq ((lw_eq _ _).mpr hc8_146)).2) k) ?_
    show own_G p e below (T145.setTop (mkF m 11 #[.val (.ref a1)] [])) _
    refine own_go (fun _ k => XS.aloadN X145.here hx rfl (hb hby d6_11) rfl rfl k) ?_
    show own_G p e below (T145.setTop (mkF m 12 #[.val (.ref a1)] [(.ref a1)])) _
    obtain ⟨T147, X147, e147, st147⟩ := getF X145 hx hZ hown (host := "") (Or.inl (hw _ (List.mem_of_getElem? (i := 13) rfl))) Via.refl e145 F_endNanos_a1 (g := (mkF m 12 #[.val (.ref a1)] [(.ref a1)])) rfl rfl (hb hby d6_12)
    refine own_go st147 ?_
    show own_G p e below (T147.setTop (mkF m 15 #[.val (.ref a1)] [(.long e1)])) _
    refine own_go (X147.ldc2Long hx hown (mvT hZ (hw _ (List.mem_of_getElem? (i := 12) rfl))) (g := (mkF m 15 #[.val (.ref a1)] [(.long e1)])) rfl (hb hby d6_15)) ?_
    show own_G p e below (T147.setTop (mkF m 18 #[.val (.ref a1)] [(.long (-9223372036854775808 : Int64)), (.long e1)])) _
    refine own_go (fun _ k => XS.lcmp X147.here hx rfl (hb hby d6_18) rfl k) ?_
    show own_G p e below (T147.setTop (mkF m 19 #[.val (.ref a1)] [(.int (lcmpW e1 (-9223372036854775808 : Int64)))])) _
    by_cases hc19_148 : e1 = (-9223372036854775808 : Int64)
    · refine own_go (fun _ k => XS.ifNo X147.here hx rfl (hb hby d6_19) rfl ((if0 _ _).trans (teq ((lw_eq _ _).mpr hc19_148)).2) k) ?_
      show own_G p e below (T147.setTop (mkF m 22 #[.val (.ref a1)] [])) _
      refine own_go (fun _ k => XS.iconst X147.here hx rfl (hb hby d6_22) k) ?_
      show own_G p e below (T147.setTop (mkF m 23 #[.val (.ref a1)] [(.int (1 : Int32))])) _
      refine own_go (fun _ k => XS.goto X147.here hx rfl (pc0 := 23) (pc' := 27) rfl (hb hby d6_23) (by decide) (by decide) k) ?_
      show own_G p e below (T147.setTop (mkF m 27 #[.val (.ref a1)] [(.int (1 : Int32))])) _
      refine own_ret X147 hlk (v := some (.int (1 : Int32))) (fun h => by rw [hret] at h; cases h) (Q6 Z a1 s1 e1 h0 n0) (own_retI X147 hx (t := .boolean) hret rfl (Or.inl ⟨rfl, by simp, _, rfl⟩) (hb hby d6_27)) (by decide) (by decide) ?_
      show Q6 Z a1 s1 e1 h0 n0 _ T147.heap _
      rw [e147]
      exact ⟨_, rfl, N0, rfl, Or.inl ⟨rfl, hc8_146, hc19_148⟩⟩
    · refine own_go (fun _ k => XS.ifYes X147.here hx rfl (pc0 := 19) (pc' := 26) rfl (hb hby d6_19) rfl ((if0 _ _).trans (feq (fun q => hc19_148 ((lw_eq _ _).mp q))).2) (by decide) (by decide) k) ?_
      show own_G p e below (T147.setTop (mkF m 26 #[.val (.ref a1)] [])) _
      refine own_go (fun _ k => XS.iconst X147.here hx rfl (hb hby d6_26) k) ?_
      show own_G p e below (T147.setTop (mkF m 27 #[.val (.ref a1)] [(.int (0 : Int32))])) _
      refine own_ret X147 hlk (v := some (.int (0 : Int32))) (fun h => by rw [hret] at h; cases h) (Q6 Z a1 s1 e1 h0 n0) (own_retI X147 hx (t := .boolean) hret rfl (Or.inl ⟨rfl, by simp, _, rfl⟩) (hb hby d6_27)) (by decide) (by decide) ?_
      show Q6 Z a1 s1 e1 h0 n0 _ T147.heap _
      rw [e147]
      exact ⟨_, rfl, N0, rfl, Or.inr ⟨rfl, fun q => hc19_148 q.2⟩⟩
  · refine own_go (fun _ k => XS.ifYes X145.here hx rfl (pc0 := 8) (pc' := 26) rfl (hb hby d6_8) rfl ((if0 _ _).trans (feq (fun q => hc8_146 ((lw_eq _ _).mp q))).2) (by decide) (by decide) k) ?_
    show own_G p e below (T145.setTop (mkF m 26 #[.val (.ref a1)] [])) _
    refine own_go (fun _ k => XS.iconst X145.here hx rfl (hb hby d6_26) k) ?_
    show own_G p e below (T145.setTop (mkF m 27 #[.val (.ref a1)] [(.int (0 : Int32))])) _
    refine own_ret X145 hlk (v := some (.int (0 : Int32))) (fun h => by rw [hret] at h; cases h) (Q6 Z a1 s1 e1 h0 n0) (own_retI X145 hx (t := .boolean) hret rfl (Or.inl ⟨rfl, by simp, _, rfl⟩) (hb hby d6_27)) (by decide) (by decide) ?_
    show Q6 Z a1 s1 e1 h0 n0 _ T145.heap _
    rw [e145]
    exact ⟨_, rfl, N0, rfl, Or.inr ⟨rfl, fun q => hc8_146 q.1⟩⟩
theorem ef_8 (m : MethodId) (a1 : Addr) : entryFrame m #[(.ref a1)] 1 = mkF m 0 #[.val (.ref a1)] [] := by first | (simp [entryFrame, mkF, argsToLocals, Value.category]; done) | rfl
def Q8 (Z : State) (a1 : Addr) (s1 : Int64) (h0 : Heap) (n0 : Nat) (v : Option Value) (h : Heap) (L : List Loc) : Prop := v = some (.long s1) ∧ Fr n0 L ∧ h = h0
set_option maxRecDepth 65536 in
set_option maxHeartbeats 40000000 in
theorem rm8 (l : Launch) (Z : State) (a0 : Array Value) (hw : ∀ d ∈ tables_1, d.before a0 Z = true) (ws : List Jvm.Cond) (a1 : Addr) (s1 : Int64) (h0 : Heap) (n0 : Nat) (Z0 : n0 ≤ h0.size)  (F_startNanos_a1 : Fld Z h0 a1 "emberglass/ChunkHeader" "startNanos" "J" (.long s1)) :
    MetFree l (⟨"emberglass/ChunkHeader", "startNanos", "()J"⟩ : MethodName) (head1 (Jvm.Cond.code (⟨"emberglass/ChunkHeader", "startNanos", "()J"⟩ : MethodName) prog_12_method_30_code 1 (some .long) :: ws) ({ frames := 0, cells := 0, slots := 0, locals := 0 } : Room)) (fun a U => a = #[(.ref a1)] ∧ Z.Warmed39 U.vm ∧ U.heap = h0) (fun _ _ _ _ _ => True) (fun _ U o U' => ∃ v L, o = .returned v ∧ Q8 Z a1 s1 h0 n0 v U'.heap L ∧ FrameEnd U o U' L ({ frames := 0, cells := 0, slots := 0, locals := 0 } : Room).cells ({ frames := 0, cells := 0, slots := 0, locals := 0 } : Room).slots) := by
  refine MetFree.of_bodySF (plainFor_of_name pn_8) hisR ?_
  intro p e s m args below meth c s₁ Bd hml0 hP hK
  obtain ⟨rfl, hZ, hh⟩ := hP
  have hx := Bd.exec
  have hby := Bd.bytes
  have hml : c.maxLocals = 1 := hml0
  have hown : s.vm.findClass "emberglass/ChunkHeader" = some m.cls := findClass_of_methodNamed Bd.named
  have hnm := (name_of_methodNamed Bd.named Bd.method).1
  have hlk := Bd.notSynchronized
  have hret := Bd.returns
  have X0 : Stand p l e ({ frames := 0, cells := 0, slots := 0, locals := 0 } : Room) s m #[(.ref a1)] below meth c s₁ [] 0 0 := Stand.of_body Bd
  have e0 : s₁.heap = h0 := by rw [← hh, Bd.state]; rfl
  have N0 := Fr.nil n0
  show own_G p e below (s₁.setTop (entryFrame m #[(.ref a1)] 1)) (fun s₂ o => ∃ v L, o = .returned v ∧ Q8 Z a1 s1 h0 n0 v s₂.heap L ∧ FrameEnd s o s₂ L ({ frames := 0, cells := 0, slots := 0, locals := 0 } : Room).cells ({ frames := 0, cells := 0, slots := 0, locals := 0 } : Room).slots)
  refine own_go (fun t k => castTop (ef_8 m a1) k) ?_
  show own_G p e below (s₁.setTop (mkF m 0 #[.val (.ref a1)] [])) _
  refine own_go (fun _ k => XS.aloadN X0.here hx rfl (hb hby d8_0) rfl rfl k) ?_
  show own_G p e below (s₁.setTop (mkF m 1 #[.val (.ref a1)] [(.ref a1)])) _
  obtain ⟨T149, X149, e149, st149⟩ := getF X0 hx hZ hown (host := "") (Or.inl (hw _ (List.mem_of_getElem? (i := 44) rfl))) Via.refl e0 F_startNanos_a1 (g := (mkF m 1 #[.val (.ref a1)] [(.ref a1)])) rfl rfl (hb hby d8_1)
  refine own_go st149 ?_
  show own_G p e below (T149.setTop (mkF m 4 #[.val (.ref a1)] [(.long s1)])) _
  refine own_ret X149 hlk (v := some (.long s1)) (fun h => by rw [hret] at h; cases h) (Q8 Z a1 s1 h0 n0) (own_retI X149 hx (t := .long) hret rfl (Or.inr (Or.inl ⟨rfl, rfl, _, rfl⟩)) (hb hby d8_4)) (by decide) (by decide) ?_
  show Q8 Z a1 s1 h0 n0 _ T149.heap _
  rw [e149]
  exact ⟨rfl, N0, rfl⟩
theorem ef_9 (m : MethodId) (q1 : Int64) (q2 : Int64) : entryFrame m #[(.long q1), (.long q2)] 4 = mkF m 0 #[.val (.long q1), .second, .val (.long q2), .second] [] := by first | (simp [entryFrame, mkF, argsToLocals, Value.category]; done) | rfl
def Q9 (Z : State) (q1 : Int64) (q2 : Int64) (h0 : Heap) (n0 : Nat) (v : Option Value) (h : Heap) (L : List Loc) : Prop := v = some (.long (own_min q1 q2)) ∧ Fr n0 L ∧ h = h0
set_option maxRecDepth 65536 in
set_option maxHeartbeats 40000000 in
theorem rm9 (l : Launch) (Z : State) (a0 : Array Value) (hw : ∀ d ∈ tables_1, d.before a0 Z = true) (ws : List Jvm.Cond) (q1 : Int64) (q2 : Int64) (h0 : Heap) (n0 : Nat) (Z0 : n0 ≤ h0.size)  :
    MetFree l (⟨"java/lang/Math", "min", "(JJ)J"⟩ : MethodName) (head1 (Jvm.Cond.code (⟨"java/lang/Math", "min", "(JJ)J"⟩ : MethodName) jdk_29_method_70_code 4 (some .long) :: ws) ({ frames := 0, cells := 0, slots := 0, locals := 0 } : Room)) (fun a U => a = #[(.long q1), (.long q2)] ∧ Z.Warmed39 U.vm ∧ U.heap = h0) (fun _ _ _ _ _ => True) (fun _ U o U' => ∃ v L, o = .returned v ∧ Q9 Z q1 q2 h0 n0 v U'.heap L ∧ FrameEnd U o U' L ({ frames := 0, cells := 0, slots := 0, locals := 0 } : Room).cells ({ frames := 0, cells := 0, slots := 0, locals := 0 } : Room).slots) := by
  refine MetFree.of_bodySF (Jvm.Free.JP.mathPlain rfl (by decide +kernel)) hisR ?_
  intro p e s m args below meth c s₁ Bd hml0 hP hK
  obtain ⟨rfl, hZ, hh⟩ := hP
  have hx := Bd.exec
  have hby := Bd.bytes
  have hml : c.maxLocals = 4 := hml0
  have hown : s.vm.findClass "java/lang/Math" = some m.cls := findClass_of_methodNamed Bd.named
  have hnm := (name_of_methodNamed Bd.named Bd.method).1
  have hlk := Bd.notSynchronized
  have hret := Bd.returns
  have X0 : Stand p l e ({ frames := 0, cells := 0, slots := 0, locals := 0 } : Room) s m #[(.long q1), (.long q2)] below meth c s₁ [] 0 0 := Stand.of_body Bd
  have e0 : s₁.heap = h0 := by rw [← hh, Bd.state]; rfl
  have N0 := Fr.nil n0
  show own_G p e below (s₁.setTop (entryFrame m #[(.long q1), (.long q2)] 4)) (fun s₂ o => ∃ v L, o = .returned v ∧ Q9 Z q1 q2 h0 n0 v s₂.heap L ∧ FrameEnd s o s₂ L ({ frames := 0, cells := 0, slots := 0, locals := 0 } : Room).cells ({ frames := 0, cells := 0, slots := 0, locals := 0 } : Room).slots)
  refine own_go (fun t k => castTop (ef_9 m q1 q2) k) ?_
  show own_G p e below (s₁.setTop (mkF m 0 #[.val (.long q1), .second, .val (.long q2), .second] [])) _
  refine own_go (fun _ k => XS.lloadN X0.here hx rfl (hb hby d9_0) rfl k) ?_
  show own_G p e below (s₁.setTop (mkF m 1 #[.val (.long q1), .second, .val (.long q2), .second] [(.long q1)])) _
  refine own_go (fun _ k => XS.lloadN X0.here hx rfl (hb hby d9_1) rfl k) ?_
  show own_G p e below (s₁.setTop (mkF m 2 #[.val (.long q1), .second, .val (.long q2), .second] [(.long q2), (.long q1)])) _
  refine own_go (fun _ k => XS.lcmp X0.here hx rfl (hb hby d9_2) rfl k) ?_
  show own_G p e below (s₁.setTop (mkF m 3 #[.val (.long q1), .second, .val (.long q2), .second] [(.int (lcmpW q1 q2))])) _
  by_cases hc3_150 : q2 < q1
  · refine own_go (fun _ k => XS.ifYes X0.here hx rfl (pc0 := 3) (pc' := 10) rfl (hb hby d9_3) rfl ((if0 _ _).trans (tlt ((lw_gt _ _).mpr hc3_150)).2.2.1) (by decide) (by decide) k) ?_
    show own_G p e below (s₁.setTop (mkF m 10 #[.val (.long q1), .second, .val (.long q2), .second] [])) _
    refine own_go (fun _ k => XS.lloadN X0.here hx rfl (hb hby d9_10) rfl k) ?_
    show own_G p e below (s₁.setTop (mkF m 11 #[.val (.long q1), .second, .val (.long q2), .second] [(.long q2)])) _
    refine own_ret X0 hlk (v := some (.long q2)) (fun h => by rw [hret] at h; cases h) (Q9 Z q1 q2 h0 n0) (own_retI X0 hx (t := .long) hret rfl (Or.inr (Or.inl ⟨rfl, rfl, _, rfl⟩)) (hb hby d9_11)) (by decide) (by decide) ?_
    show Q9 Z q1 q2 h0 n0 _ s₁.heap _
    rw [e0]
    exact ⟨by simp [own_min, hc3_150], N0, rfl⟩
  · refine own_go (fun _ k => XS.ifNo X0.here hx rfl (hb hby d9_3) rfl ((if0 _ _).trans (flt (fun q => hc3_150 ((lw_gt _ _).mp q))).2.2.1) k) ?_
    show own_G p e below (s₁.setTop (mkF m 6 #[.val (.long q1), .second, .val (.long q2), .second] [])) _
    refine own_go (fun _ k => XS.lloadN X0.here hx rfl (hb hby d9_6) rfl k) ?_
    show own_G p e below (s₁.setTop (mkF m 7 #[.val (.long q1), .second, .val (.long q2), .second] [(.long q1)])) _
    refine own_go (fun _ k => XS.goto X0.here hx rfl (pc0 := 7) (pc' := 11) rfl (hb hby d9_7) (by decide) (by decide) k) ?_
    show own_G p e below (s₁.setTop (mkF m 11 #[.val (.long q1), .second, .val (.long q2), .second] [(.long q1)])) _
    refine own_ret X0 hlk (v := some (.long q1)) (fun h => by rw [hret] at h; cases h) (Q9 Z q1 q2 h0 n0) (own_retI X0 hx (t := .long) hret rfl (Or.inr (Or.inl ⟨rfl, rfl, _, rfl⟩)) (hb hby d9_11)) (by decide) (by decide) ?_
    show Q9 Z q1 q2 h0 n0 _ s₁.heap _
    rw [e0]
    exact ⟨by simp [own_min, hc3_150], N0, rfl⟩
theorem ef_12 (m : MethodId) (q1 : Int64) (q2 : Int64) : entryFrame m #[(.long q1), (.long q2)] 4 = mkF m 0 #[.val (.long q1), .second, .val (.long q2), .second] [] := by first | (simp [entryFrame, mkF, argsToLocals, Value.category]; done) | rfl
def Q12 (Z : State) (q1 : Int64) (q2 : Int64) (h0 : Heap) (n0 : Nat) (v : Option Value) (h : Heap) (L : List Loc) : Prop := v = some (.long (own_max q1 q2)) ∧ Fr n0 L ∧ h = h0
set_option maxRecDepth 65536 in
set_option maxHeartbeats 40000000 in
theorem rm12 (l : Launch) (Z : State) (a0 : Array Value) (hw : ∀ d ∈ tables_1, d.before a0 Z = true) (ws : List Jvm.Cond) (q1 : Int64) (q2 : Int64) (h0 : Heap) (n0 : Nat) (Z0 : n0 ≤ h0.size)  :
    MetFree l (⟨"java/lang/Math", "max", "(JJ)J"⟩ : MethodName) (head1 (Jvm.Cond.code (⟨"java/lang/Math", "max", "(JJ)J"⟩ : MethodName) jdk_29_method_66_code 4 (some .long) :: ws) ({ frames := 0, cells := 0, slots := 0, locals := 0 } : Room)) (fun a U => a = #[(.long q1), (.long q2)] ∧ Z.Warmed39 U.vm ∧ U.heap = h0) (fun _ _ _ _ _ => True) (fun _ U o U' => ∃ v L, o = .returned v ∧ Q12 Z q1 q2 h0 n0 v U'.heap L ∧ FrameEnd U o U' L ({ frames := 0, cells := 0, slots := 0, locals := 0 } : Room).cells ({ frames := 0, cells := 0, slots := 0, locals := 0 } : Room).slots) := by
  refine MetFree.of_bodySF (Jvm.Free.JP.mathPlain rfl (by decide +kernel)) hisR ?_
  intro p e s m args below meth c s₁ Bd hml0 hP hK
  obtain ⟨rfl, hZ, hh⟩ := hP
  have hx := Bd.exec
  have hby := Bd.bytes
  have hml : c.maxLocals = 4 := hml0
  have hown : s.vm.findClass "java/lang/Math" = some m.cls := findClass_of_methodNamed Bd.named
  have hnm := (name_of_methodNamed Bd.named Bd.method).1
  have hlk := Bd.notSynchronized
  have hret := Bd.returns
  have X0 : Stand p l e ({ frames := 0, cells := 0, slots := 0, locals := 0 } : Room) s m #[(.long q1), (.long q2)] below meth c s₁ [] 0 0 := Stand.of_body Bd
  have e0 : s₁.heap = h0 := by rw [← hh, Bd.state]; rfl
  have N0 := Fr.nil n0
  show own_G p e below (s₁.setTop (entryFrame m #[(.long q1), (.long q2)] 4)) (fun s₂ o => ∃ v L, o = .returned v ∧ Q12 Z q1 q2 h0 n0 v s₂.heap L ∧ FrameEnd s o s₂ L ({ frames := 0, cells := 0, slots := 0, locals := 0 } : Room).cells ({ frames := 0, cells := 0, slots := 0, locals := 0 } : Room).slots)
  refine own_go (fun t k => castTop (ef_12 m q1 q2) k) ?_
  show own_G p e below (s₁.setTop (mkF m 0 #[.val (.long q1), .second, .val (.long q2), .second] [])) _
  refine own_go (fun _ k => XS.lloadN X0.here hx rfl (hb hby d12_0) rfl k) ?_
  show own_G p e below (s₁.setTop (mkF m 1 #[.val (.long q1), .second, .val (.long q2), .second] [(.long q1)])) _
  refine own_go (fun _ k => XS.lloadN X0.here hx rfl (hb hby d12_1) rfl k) ?_
  show own_G p e below (s₁.setTop (mkF m 2 #[.val (.long q1), .second, .val (.long q2), .second] [(.long q2), (.long q1)])) _
  refine own_go (fun _ k => XS.lcmp X0.here hx rfl (hb hby d12_2) rfl k) ?_
  show own_G p e below (s₁.setTop (mkF m 3 #[.val (.long q1), .second, .val (.long q2), .second] [(.int (lcmpW q1 q2))])) _
  by_cases hc3_151 : q1 < q2
  · refine own_go (fun _ k => XS.ifYes X0.here hx rfl (pc0 := 3) (pc' := 10) rfl (hb hby d12_3) rfl ((if0 _ _).trans (tlt ((lw_lt _ _).mpr hc3_151)).1) (by decide) (by decide) k) ?_
    show own_G p e below (s₁.setTop (mkF m 10 #[.val (.long q1), .second, .val (.long q2), .second] [])) _
    refine own_go (fun _ k => XS.lloadN X0.here hx rfl (hb hby d12_10) rfl k) ?_
    show own_G p e below (s₁.setTop (mkF m 11 #[.val (.long q1), .second, .val (.long q2), .second] [(.long q2)])) _
    refine own_ret X0 hlk (v := some (.long q2)) (fun h => by rw [hret] at h; cases h) (Q12 Z q1 q2 h0 n0) (own_retI X0 hx (t := .long) hret rfl (Or.inr (Or.inl ⟨rfl, rfl, _, rfl⟩)) (hb hby d12_11)) (by decide) (by decide) ?_
    show Q12 Z q1 q2 h0 n0 _ s₁.heap _
    rw [e0]
    exact ⟨by simp [own_max, hc3_151], N0, rfl⟩
  · refine own_go (fun _ k => XS.ifNo X0.here hx rfl (hb hby d12_3) rfl ((if0 _ _).trans (flt (fun q => hc3_151 ((lw_lt _ _).mp q))).1) k) ?_
    show own_G p e below (s₁.setTop (mkF m 6 #[.val (.long q1), .second, .val (.long q2), .second] [])) _
    refine own_go (fun _ k => XS.lloadN X0.here hx rfl (hb hby d12_6) rfl k) ?_
    show own_G p e below (s₁.setTop (mkF m 7 #[.val (.long q1), .second, .val (.long q2), .second] [(.long q1)])) _
    refine own_go (fun _ k => XS.goto X0.here hx rfl (pc0 := 7) (pc' := 11) rfl (hb hby d12_7) (by decide) (by decide) k) ?_
    show own_G p e below (s₁.setTop (mkF m 11 #[.val (.long q1), .second, .val (.long q2), .second] [(.long q1)])) _
    refine own_ret X0 hlk (v := some (.long q1)) (fun h => by rw [hret] at h; cases h) (Q12 Z q1 q2 h0 n0) (own_retI X0 hx (t := .long) hret rfl (Or.inr (Or.inl ⟨rfl, rfl, _, rfl⟩)) (hb hby d12_11)) (by decide) (by decide) ?_
    show Q12 Z q1 q2 h0 n0 _ s₁.heap _
    rw [e0]
    exact ⟨by simp [own_max, hc3_151], N0, rfl⟩
theorem ef_11 (m : MethodId) (a1 : Addr) : entryFrame m #[(.ref a1)] 1 = mkF m 0 #[.val (.ref a1)] [] := by first | (simp [entryFrame, mkF, argsToLocals, Value.category]; done) | rfl
def Q11 (Z : State) (a1 : Addr) (s1 d1 : Int64) (h0 : Heap) (n0 : Nat) (v : Option Value) (h : Heap) (L : List Loc) : Prop := ∃ z : Int32, v = some (.int z) ∧ Fr n0 L ∧ h = h0 ∧ ((z = 1 ∧ ¬ d1 < (0 : Int64) ∧ ¬ (s1 + d1) < s1) ∨ (z = 0 ∧ (d1 < (0 : Int64) ∨ (s1 + d1) < s1)))
set_option maxRecDepth 65536 in
set_option maxHeartbeats 40000000 in
theorem rm11 (l : Launch) (Z : State) (a0 : Array Value) (hw : ∀ d ∈ tables_1, d.before a0 Z = true) (ws : List Jvm.Cond) (a1 : Addr) (s1 d1 : Int64) (h0 : Heap) (n0 : Nat) (Z0 : n0 ≤ h0.size)  (F_startNanos_a1 : Fld Z h0 a1 "emberglass/ChunkHeader" "startNanos" "J" (.long s1)) (F_durationNanos_a1 : Fld Z h0 a1 "emberglass/ChunkHeader" "durationNanos" "J" (.long d1)) :
    MetFree l (⟨"emberglass/ChunkHeader", "hasEnd", "()Z"⟩ : MethodName) (head1 (Jvm.Cond.code (⟨"emberglass/ChunkHeader", "hasEnd", "()Z"⟩ : MethodName) prog_12_method_5_code 1 (some .boolean) :: ws) ({ frames := 0, cells := 0, slots := 0, locals := 0 } : Room)) (fun a U => a = #[(.ref a1)] ∧ Z.Warmed39 U.vm ∧ U.heap = h0) (fun _ _ _ _ _ => True) (fun _ U o U' => ∃ v L, o = .returned v ∧ Q11 Z a1 s1 d1 h0 n0 v U'.heap L ∧ FrameEnd U o U' L ({ frames := 0, cells := 0, slots := 0, locals := 0 } : Room).cells ({ frames := 0, cells := 0, slots := 0, locals := 0 } : Room).slots) := by
  refine MetFree.of_bodySF (plainFor_of_name pn_11) hisR ?_
  intro p e s m args below meth c s₁ Bd hml0 hP hK
  obtain ⟨rfl, hZ, hh⟩ := hP
  have hx := Bd.exec
  have hby := Bd.bytes
  have hml : c.maxLocals = 1 := hml0
  have hown : s.vm.findClass "emberglass/ChunkHeader" = some m.cls := findClass_of_methodNamed Bd.named
  have hnm := (name_of_methodNamed Bd.named Bd.method).1
  have hlk := Bd.notSynchronized
  have hret := Bd.returns
  have X0 : Stand p l e ({ frames := 0, cells := 0, slots := 0, locals := 0 } : Room) s m #[(.ref a1)] below meth c s₁ [] 0 0 := Stand.of_body Bd
  have e0 : s₁.heap = h0 := by rw [← hh, Bd.state]; rfl
  have N0 := Fr.nil n0
  show own_G p e below (s₁.setTop (entryFrame m #[(.ref a1)] 1)) (fun s₂ o => ∃ v L, o = .returned v ∧ Q11 Z a1 s1 d1 h0 n0 v s₂.heap L ∧ FrameEnd s o s₂ L ({ frames := 0, cells := 0, slots := 0, locals := 0 } : Room).cells ({ frames := 0, cells := 0, slots := 0, locals := 0 } : Room).slots)
  refine own_go (fun t k => castTop (ef_11 m a1) k) ?_
  show own_G p e below (s₁.setTop (mkF m 0 #[.val (.ref a1)] [])) _
  refine own_go (fun _ k => XS.aloadN X0.here hx rfl (hb hby d11_0) rfl rfl k) ?_
  show own_G p e below (s₁.setTop (mkF m 1 #[.val (.ref a1)] [(.ref a1)])) _
  obtain ⟨T152, X152, e152, st152⟩ := getF X0 hx hZ hown (host := "") (Or.inl (hw _ (List.mem_of_getElem? (i := 46) rfl))) Via.refl e0 F_durationNanos_a1 (g := (mkF m 1 #[.val (.ref a1)] [(.ref a1)])) rfl rfl (hb hby d11_1)
  refine own_go st152 ?_
  show own_G p e below (T152.setTop (mkF m 4 #[.val (.ref a1)] [(.long d1)])) _
  refine own_go (fun _ k => XS.lconst X152.here hx rfl (hb hby d11_4) k) ?_
  show own_G p e below (T152.setTop (mkF m 5 #[.val (.ref a1)] [(.long (0 : Int64)), (.long d1)])) _
  refine own_go (fun _ k => XS.lcmp X152.here hx rfl (hb hby d11_5) rfl k) ?_
  show own_G p e below (T152.setTop (mkF m 6 #[.val (.ref a1)] [(.int (lcmpW d1 (0 : Int64)))])) _
  by_cases hc6_153 : d1 < (0 : Int64)
  · refine own_go (fun _ k => XS.ifYes X152.here hx rfl (pc0 := 6) (pc' := 30) rfl (hb hby d11_6) rfl ((if0 _ _).trans (tlt ((lw_lt _ _).mpr hc6_153)).1) (by decide) (by decide) k) ?_
    show own_G p e below (T152.setTop (mkF m 30 #[.val (.ref a1)] [])) _
    refine own_go (fun _ k => XS.iconst X152.here hx rfl (hb hby d11_30) k) ?_
    show own_G p e below (T152.setTop (mkF m 31 #[.val (.ref a1)] [(.int (0 : Int32))])) _
    refine own_ret X152 hlk (v := some (.int (0 : Int32))) (fun h => by rw [hret] at h; cases h) (Q11 Z a1 s1 d1 h0 n0) (own_retI X152 hx (t := .boolean) hret rfl (Or.inl ⟨rfl, by simp, _, rfl⟩) (hb hby d11_31)) (by decide) (by decide) ?_
    show Q11 Z a1 s1 d1 h0 n0 _ T152.heap _
    rw [e152]
    exact ⟨_, rfl, N0, rfl, Or.inr ⟨rfl, Or.inl hc6_153⟩⟩
  · refine own_go (fun _ k => XS.ifNo X152.here hx rfl (hb hby d11_6) rfl ((if0 _ _).trans (flt (fun q => hc6_153 ((lw_lt _ _).mp q))).1) k) ?_
    show own_G p e below (T152.setTop (mkF m 9 #[.val (.ref a1)] [])) _
    refine own_go (fun _ k => XS.aloadN X152.here hx rfl (hb hby d11_9) rfl rfl k) ?_
    show own_G p e below (T152.setTop (mkF m 10 #[.val (.ref a1)] [(.ref a1)])) _
    obtain ⟨T154, X154, e154, st154⟩ := getF X152 hx hZ hown (host := "") (Or.inl (hw _ (List.mem_of_getElem? (i := 44) rfl))) Via.refl e152 F_startNanos_a1 (g := (mkF m 10 #[.val (.ref a1)] [(.ref a1)])) rfl rfl (hb hby d11_10)
    refine own_go st154 ?_
    show own_G p e below (T154.setTop (mkF m 13 #[.val (.ref a1)] [(.long s1)])) _
    refine own_go (fun _ k => XS.aloadN X154.here hx rfl (hb hby d11_13) rfl rfl k) ?_
    show own_G p e below (T154.setTop (mkF m 14 #[.val (.ref a1)] [(.ref a1), (.long s1)])) _
    obtain ⟨T155, X155, e155, st155⟩ := getF X154 hx hZ hown (host := "") (Or.inl (hw _ (List.mem_of_getElem? (i := 46) rfl))) Via.refl e154 F_durationNanos_a1 (g := (mkF m 14 #[.val (.ref a1)] [(.ref a1), (.long s1)])) rfl rfl (hb hby d11_14)
    refine own_go st155 ?_
    show own_G p e below (T155.setTop (mkF m 17 #[.val (.ref a1)] [(.long d1), (.long s1)])) _
    refine own_go (fun _ k => XS.ladd X155.here hx rfl (hb hby d11_17) rfl k) ?_
    show own_G p e below (T155.setTop (mkF m 18 #[.val (.ref a1)] [(.long (s1 + d1))])) _
    refine own_go (fun _ k => XS.aloadN X155.here hx rfl (hb hby d11_18) rfl rfl k) ?_
    show own_G p e below (T155.setTop (mkF m 19 #[.val (.ref a1)] [(.ref a1), (.long (s1 + d1))])) _
    obtain ⟨T156, X156, e156, st156⟩ := getF X155 hx hZ hown (host := "") (Or.inl (hw _ (List.mem_of_getElem? (i := 44) rfl))) Via.refl e155 F_startNanos_a1 (g := (mkF m 19 #[.val (.ref a1)] [(.ref a1), (.long (s1 + d1))])) rfl rfl (hb hby d11_19)
    refine own_go st156 ?_
    show own_G p e below (T156.setTop (mkF m 22 #[.val (.ref a1)] [(.long s1), (.long (s1 + d1))])) _
    refine own_go (fun _ k => XS.lcmp X156.here hx rfl (hb hby d11_22) rfl k) ?_
    show own_G p e below (T156.setTop (mkF m 23 #[.val (.ref a1)] [(.int (lcmpW (s1 + d1) s1))])) _
    by_cases hc23_157 : (s1 + d1) < s1
    · refine own_go (fun _ k => XS.ifYes X156.here hx rfl (pc0 := 23) (pc' := 30) rfl (hb hby d11_23) rfl ((if0 _ _).trans (tlt ((lw_lt _ _).mpr hc23_157)).1) (by decide) (by decide) k) ?_
      show own_G p e below (T156.setTop (mkF m 30 #[.val (.ref a1)] [])) _
      refine own_go (fun _ k => XS.iconst X156.here hx rfl (hb hby d11_30) k) ?_
      show own_G p e below (T156.setTop (mkF m 31 #[.val (.ref a1)] [(.int (0 : Int32))])) _
      refine own_ret X156 hlk (v := some (.int (0 : Int32))) (fun h => by rw [hret] at h; cases h) (Q11 Z a1 s1 d1 h0 n0) (own_retI X156 hx (t := .boolean) hret rfl (Or.inl ⟨rfl, by simp, _, rfl⟩) (hb hby d11_31)) (by decide) (by decide) ?_
      show Q11 Z a1 s1 d1 h0 n0 _ T156.heap _
      rw [e156]
      exact ⟨_, rfl, N0, rfl, Or.inr ⟨rfl, Or.inr hc23_157⟩⟩
    · refine own_go (fun _ k => XS.ifNo X156.here hx rfl (hb hby d11_23) rfl ((if0 _ _).trans (flt (fun q => hc23_157 ((lw_lt _ _).mp q))).1) k) ?_
      show own_G p e below (T156.setTop (mkF m 26 #[.val (.ref a1)] [])) _
      refine own_go (fun _ k => XS.iconst X156.here hx rfl (hb hby d11_26) k) ?_
      show own_G p e below (T156.setTop (mkF m 27 #[.val (.ref a1)] [(.int (1 : Int32))])) _
      refine own_go (fun _ k => XS.goto X156.here hx rfl (pc0 := 27) (pc' := 31) rfl (hb hby d11_27) (by decide) (by decide) k) ?_
      show own_G p e below (T156.setTop (mkF m 31 #[.val (.ref a1)] [(.int (1 : Int32))])) _
      refine own_ret X156 hlk (v := some (.int (1 : Int32))) (fun h => by rw [hret] at h; cases h) (Q11 Z a1 s1 d1 h0 n0) (own_retI X156 hx (t := .boolean) hret rfl (Or.inl ⟨rfl, by simp, _, rfl⟩) (hb hby d11_31)) (by decide) (by decide) ?_
      show Q11 Z a1 s1 d1 h0 n0 _ T156.heap _
      rw [e156]
      exact ⟨_, rfl, N0, rfl, Or.inl ⟨rfl, hc6_153, hc23_157⟩⟩
theorem ef_10 (m : MethodId) (a1 : Addr) : entryFrame m #[(.ref a1)] 1 = mkF m 0 #[.val (.ref a1)] [] := by first | (simp [entryFrame, mkF, argsToLocals, Value.category]; done) | rfl
def Q10 (Z : State) (a1 : Addr) (s1 d1 : Int64) (h0 : Heap) (n0 : Nat) (v : Option Value) (h : Heap) (L : List Loc) : Prop := v = some (.long (s1 + d1)) ∧ Fr n0 L ∧ h = h0
set_option maxRecDepth 65536 in
set_option maxHeartbeats 40000000 in
theorem rm10 (l : Launch) (Z : State) (a0 : Array Value) (hw : ∀ d ∈ tables_1, d.before a0 Z = true) (ws : List Jvm.Cond) (a1 : Addr) (s1 d1 : Int64) (h0 : Heap) (n0 : Nat) (Z0 : n0 ≤ h0.size) (E_a1 : Exa Z h0 a1 "emberglass/ChunkHeader") (F_startNanos_a1 : Fld Z h0 a1 "emberglass/ChunkHeader" "startNanos" "J" (.long s1)) (F_durationNanos_a1 : Fld Z h0 a1 "emberglass/ChunkHeader" "durationNanos" "J" (.long d1)) (hd1 : ¬ d1 < (0 : Int64)) (hd2 : ¬ (s1 + d1) < s1) :
    MetFree l (⟨"emberglass/ChunkHeader", "endNanos", "()J"⟩ : MethodName) (head1 (Jvm.Cond.code (⟨"emberglass/ChunkHeader", "endNanos", "()J"⟩ : MethodName) prog_12_method_4_code 1 (some .long) :: ws) ({ frames := 1, cells := 0, slots := 0, locals := 12 } : Room)) (fun a U => a = #[(.ref a1)] ∧ Z.Warmed39 U.vm ∧ U.heap = h0) (fun _ _ _ _ _ => True) (fun _ U o U' => ∃ v L, o = .returned v ∧ Q10 Z a1 s1 d1 h0 n0 v U'.heap L ∧ FrameEnd U o U' L ({ frames := 1, cells := 0, slots := 0, locals := 12 } : Room).cells ({ frames := 1, cells := 0, slots := 0, locals := 12 } : Room).slots) := by
  refine MetFree.of_bodySF (plainFor_of_name pn_10) hisR ?_
  intro p e s m args below meth c s₁ Bd hml0 hP hK
  obtain ⟨rfl, hZ, hh⟩ := hP
  have hx := Bd.exec
  have hby := Bd.bytes
  have hml : c.maxLocals = 1 := hml0
  have hown : s.vm.findClass "emberglass/ChunkHeader" = some m.cls := findClass_of_methodNamed Bd.named
  have hnm := (name_of_methodNamed Bd.named Bd.method).1
  have hlk := Bd.notSynchronized
  have hret := Bd.returns
  have X0 : Stand p l e ({ frames := 1, cells := 0, slots := 0, locals := 12 } : Room) s m #[(.ref a1)] below meth c s₁ [] 0 0 := Stand.of_body Bd
  have e0 : s₁.heap = h0 := by rw [← hh, Bd.state]; rfl
  have N0 := Fr.nil n0
  show own_G p e below (s₁.setTop (entryFrame m #[(.ref a1)] 1)) (fun s₂ o => ∃ v L, o = .returned v ∧ Q10 Z a1 s1 d1 h0 n0 v s₂.heap L ∧ FrameEnd s o s₂ L ({ frames := 1, cells := 0, slots := 0, locals := 12 } : Room).cells ({ frames := 1, cells := 0, slots := 0, locals := 12 } : Room).slots)
  refine own_go (fun t k => castTop (ef_10 m a1) k) ?_
  show own_G p e below (s₁.setTop (mkF m 0 #[.val (.ref a1)] [])) _
  refine own_go (fun _ k => XS.aloadN X0.here hx rfl (hb hby d10_0) rfl rfl k) ?_
  show own_G p e below (s₁.setTop (mkF m 1 #[.val (.ref a1)] [(.ref a1)])) _
  obtain ⟨cq158, kq158, q158a, q158b, q158c⟩ := isOf hZ e0 E_a1
  obtain ⟨_, _, ⟨T158, L158, k158, n158⟩, -, X158, ⟨Lc158, hQ158, l158, y158, z158⟩, st158⟩ := X0.virtualBack hx (y := (⟨"emberglass/ChunkHeader", "hasEnd", "()Z"⟩ : MethodName)) (z := (⟨"emberglass/ChunkHeader", "hasEnd", "()Z"⟩ : MethodName)) hown (mvT hZ (hw _ (List.mem_of_getElem? (i := 78) rfl))) (mvT hZ (hw _ (List.mem_of_getElem? (i := 79) rfl))) (notFace_of_selects (args := #[]) (mvT hZ (hw _ (List.mem_of_getElem? (i := 81) rfl)))) (mvT hZ (hw _ (List.mem_of_getElem? (i := 81) rfl))) (mvT hZ (hw _ (List.mem_of_getElem? (i := 80) rfl))) (by decide) (backOf (W := 0) (rm11 l Z a0 hw [] a1 s1 d1 h0 n0 Z0 F_startNanos_a1 F_durationNanos_a1) hZ (hw _ (List.mem_of_getElem? (i := 82) rfl)) (hw _ (List.mem_of_getElem? (i := 17) rfl)) (by decide) (by decide)) q158a q158c (g := (mkF m 1 #[.val (.ref a1)] [(.ref a1)])) rfl (by rw [hml]; rfl) (Steps.refl _) (argsL := []) (rest := []) (lenOf pd_1 rfl) rfl (by show 2 * 0 + _ ≤ _; exact Nat.le_of_eq rfl) (hb hby d10_1) (fun _ _ => ⟨rfl, e0, (by decide : 0 + 0 ≤ _), (by decide : 0 + 0 ≤ _)⟩)
  dsimp only [Pt.U, Pt.locs, Pt.cells, Pt.slots] at X158 l158 y158 z158 st158 hQ158
  subst l158 y158 z158
  obtain ⟨z158', rfl, Nq158, hh158, hz158⟩ := hQ158
  have N158 := Fr.app N0 Nq158
  refine own_go (fun _ k => st158.trans k) ?_
  have e158 : T158.heap = h0 := hh158
  show own_G p e below (T158.setTop (mkF m 4 #[.val (.ref a1)] [(.int z158')])) _
  rcases hz158 with ⟨rfl, g0, g1⟩ | ⟨rfl, g0⟩
  · show own_G p e below (T158.setTop (mkF m 4 #[.val (.ref a1)] [(.int (1 : Int32))])) _
    refine own_go (fun _ k => XS.ifYes X158.here hx rfl (pc0 := 4) (pc' := 28) rfl (hb hby d10_4) rfl ((if0 _ _).trans (feq (by decide : ¬ ((1 : Int32) = (0 : Int32)))).2) (by decide) (by decide) k) ?_
    show own_G p e below (T158.setTop (mkF m 28 #[.val (.ref a1)] [])) _
    refine own_go (fun _ k => XS.aloadN X158.here hx rfl (hb hby d10_28) rfl rfl k) ?_
    show own_G p e below (T158.setTop (mkF m 29 #[.val (.ref a1)] [(.ref a1)])) _
    obtain ⟨T159, X159, e159, st159⟩ := getF X158 hx hZ hown (host := "") (Or.inl (hw _ (List.mem_of_getElem? (i := 44) rfl))) Via.refl e158 F_startNanos_a1 (g := (mkF m 29 #[.val (.ref a1)] [(.ref a1)])) rfl rfl (hb hby d10_29)
    refine own_go st159 ?_
    show own_G p e below (T159.setTop (mkF m 32 #[.val (.ref a1)] [(.long s1)])) _
    refine own_go (fun _ k => XS.aloadN X159.here hx rfl (hb hby d10_32) rfl rfl k) ?_
    show own_G p e below (T159.setTop (mkF m 33 #[.val (.ref a1)] [(.ref a1), (.long s1)])) _
    obtain ⟨T160, X160, e160, st160⟩ := getF X159 hx hZ hown (host := "") (Or.inl (hw _ (List.mem_of_getElem? (i := 46) rfl))) Via.refl e159 F_durationNanos_a1 (g := (mkF m 33 #[.val (.ref a1)] [(.ref a1), (.long s1)])) rfl rfl (hb hby d10_33)
    refine own_go st160 ?_
    show own_G p e below (T160.setTop (mkF m 36 #[.val (.ref a1)] [(.long d1), (.long s1)])) _
    refine own_go (fun _ k => XS.ladd X160.here hx rfl (hb hby d10_36) rfl k) ?_
    show own_G p e below (T160.setTop (mkF m 37 #[.val (.ref a1)] [(.long (s1 + d1))])) _
    refine own_ret X160 hlk (v := some (.long (s1 + d1))) (fun h => by rw [hret] at h; cases h) (Q10 Z a1 s1 d1 h0 n0) (own_retI X160 hx (t := .long) hret rfl (Or.inr (Or.inl ⟨rfl, rfl, _, rfl⟩)) (hb hby d10_37)) (by decide) (by decide) ?_
    show Q10 Z a1 s1 d1 h0 n0 _ T160.heap _
    rw [e160]
    exact ⟨rfl, N158, rfl⟩
  · exact (g0.elim hd1 hd2).elim
theorem ef_7 (m : MethodId) (a1 : Addr) (a2 : Addr) : entryFrame m #[(.ref a1), (.ref a2)] 2 = mkF m 0 #[.val (.ref a1), .val (.ref a2)] [] := by first | (simp [entryFrame, mkF, argsToLocals, Value.category]; done) | rfl
def Q7 (Z : State) (a1 : Addr) (a2 : Addr) (sS sE s1 d1 : Int64) (h0 : Heap) (n0 : Nat) (v : Option Value) (h : Heap) (L : List Loc) : Prop := v = none ∧ Fr n0 L ∧ Keep h0 h [a1] ∧ Exa Z h a1 "emberglass/TimeSpan" ∧ Fld Z h a1 "emberglass/TimeSpan" "startNanos" "J" (.long (own_min sS s1)) ∧ Fld Z h a1 "emberglass/TimeSpan" "endNanos" "J" (.long (own_max sE (s1 + d1)))
set_option maxRecDepth 65536 in
set_option maxHeartbeats 40000000 in
theorem rm7 (l : Launch) (Z : State) (a0 : Array Value) (hw : ∀ d ∈ tables_1, d.before a0 Z = true) (ws : List Jvm.Cond) (a1 : Addr) (a2 : Addr) (sS sE s1 d1 : Int64) (h0 : Heap) (n0 : Nat) (Z0 : n0 ≤ h0.size) (E_a1 : Exa Z h0 a1 "emberglass/TimeSpan") (F_startNanos_a1 : Fld Z h0 a1 "emberglass/TimeSpan" "startNanos" "J" (.long sS)) (F_endNanos_a1 : Fld Z h0 a1 "emberglass/TimeSpan" "endNanos" "J" (.long sE)) (g_a1 : n0 ≤ a1) (E_a2 : Exa Z h0 a2 "emberglass/ChunkHeader") (F_startNanos_a2 : Fld Z h0 a2 "emberglass/ChunkHeader" "startNanos" "J" (.long s1)) (F_durationNanos_a2 : Fld Z h0 a2 "emberglass/ChunkHeader" "durationNanos" "J" (.long d1)) (hd1 : ¬ d1 < (0 : Int64)) (hd2 : ¬ (s1 + d1) < s1) :
    MetFree l (⟨"emberglass/TimeSpan", "add", "(Lemberglass/ChunkHeader;)V"⟩ : MethodName) (head1 (Jvm.Cond.code (⟨"emberglass/TimeSpan", "add", "(Lemberglass/ChunkHeader;)V"⟩ : MethodName) prog_273_method_2_code 2 none :: ws) ({ frames := 2, cells := 0, slots := 0, locals := 27 } : Room)) (fun a U => a = #[(.ref a1), (.ref a2)] ∧ Z.Warmed39 U.vm ∧ U.heap = h0) (fun _ _ _ _ _ => True) (fun _ U o U' => ∃ v L, o = .returned v ∧ Q7 Z a1 a2 sS sE s1 d1 h0 n0 v U'.heap L ∧ FrameEnd U o U' L ({ frames := 2, cells := 0, slots := 0, locals := 27 } : Room).cells ({ frames := 2, cells := 0, slots := 0, locals := 27 } : Room).slots) := by
  refine MetFree.of_bodySF (plainFor_of_name pn_7) hisR ?_
  intro p e s m args below meth c s₁ Bd hml0 hP hK
  obtain ⟨rfl, hZ, hh⟩ := hP
  have hx := Bd.exec
  have hby := Bd.bytes
  have hml : c.maxLocals = 2 := hml0
  have hown : s.vm.findClass "emberglass/TimeSpan" = some m.cls := findClass_of_methodNamed Bd.named
  have hnm := (name_of_methodNamed Bd.named Bd.method).1
  have hlk := Bd.notSynchronized
  have hret := Bd.returns
  have X0 : Stand p l e ({ frames := 2, cells := 0, slots := 0, locals := 27 } : Room) s m #[(.ref a1), (.ref a2)] below meth c s₁ [] 0 0 := Stand.of_body Bd
  have e0 : s₁.heap = h0 := by rw [← hh, Bd.state]; rfl
  have N0 := Fr.nil n0
  show own_G p e below (s₁.setTop (entryFrame m #[(.ref a1), (.ref a2)] 2)) (fun s₂ o => ∃ v L, o = .returned v ∧ Q7 Z a1 a2 sS sE s1 d1 h0 n0 v s₂.heap L ∧ FrameEnd s o s₂ L ({ frames := 2, cells := 0, slots := 0, locals := 27 } : Room).cells ({ frames := 2, cells := 0, slots := 0, locals := 27 } : Room).slots)
  refine own_go (fun t k => castTop (ef_7 m a1 a2) k) ?_
  have ne12 : a1 ≠ a2 := ne_exa E_a1 E_a2 (by decide)
  show own_G p e below (s₁.setTop (mkF m 0 #[.val (.ref a1), .val (.ref a2)] [])) _
  refine own_go (fun _ k => XS.aloadN X0.here hx rfl (hb hby d7_0) rfl rfl k) ?_
  show own_G p e below (s₁.setTop (mkF m 1 #[.val (.ref a1), .val (.ref a2)] [(.ref a1)])) _
  refine own_go (fun _ k => XS.aloadN X0.here hx rfl (hb hby d7_1) rfl rfl k) ?_
  show own_G p e below (s₁.setTop (mkF m 2 #[.val (.ref a1), .val (.ref a2)] [(.ref a1), (.ref a1)])) _
  obtain ⟨T161, X161, e161, st161⟩ := getF X0 hx hZ hown (host := "") (Or.inl (hw _ (List.mem_of_getElem? (i := 10) rfl))) Via.refl e0 F_startNanos_a1 (g := (mkF m 2 #[.val (.ref a1), .val (.ref a2)] [(.ref a1), (.ref a1)])) rfl rfl (hb hby d7_2)
  refine own_go st161 ?_
  show own_G p e below (T161.setTop (mkF m 5 #[.val (.ref a1), .val (.ref a2)] [(.long sS), (.ref a1)])) _
  refine own_go (fun _ k => XS.aloadN X161.here hx rfl (hb hby d7_5) rfl rfl k) ?_
  show own_G p e below (T161.setTop (mkF m 6 #[.val (.ref a1), .val (.ref a2)] [(.ref a2), (.long sS), (.ref a1)])) _
  obtain ⟨cq162, kq162, q162a, q162b, q162c⟩ := isOf hZ e161 E_a2
  obtain ⟨_, _, ⟨T162, L162, k162, n162⟩, -, X162, ⟨Lc162, hQ162, l162, y162, z162⟩, st162⟩ := X161.virtualBack hx (y := (⟨"emberglass/ChunkHeader", "startNanos", "()J"⟩ : MethodName)) (z := (⟨"emberglass/ChunkHeader", "startNanos", "()J"⟩ : MethodName)) hown (mvT hZ (hw _ (List.mem_of_getElem? (i := 64) rfl))) (mvT hZ (hw _ (List.mem_of_getElem? (i := 65) rfl))) (notFace_of_selects (args := #[]) (mvT hZ (hw _ (List.mem_of_getElem? (i := 67) rfl)))) (mvT hZ (hw _ (List.mem_of_getElem? (i := 67) rfl))) (mvT hZ (hw _ (List.mem_of_getElem? (i := 66) rfl))) (by decide) (backOf (W := 3) (rm8 l Z a0 hw [] a2 s1 h0 n0 Z0 F_startNanos_a2) hZ (hw _ (List.mem_of_getElem? (i := 68) rfl)) (hw _ (List.mem_of_getElem? (i := 17) rfl)) (by decide) (by decide)) q162a q162c (g := (mkF m 6 #[.val (.ref a1), .val (.ref a2)] [(.ref a2), (.long sS), (.ref a1)])) rfl (by rw [hml]; rfl) (Steps.refl _) (argsL := []) (rest := [(.long sS), (.ref a1)]) (lenOf pd_2 rfl) rfl (by show 2 * 0 + _ ≤ _; exact Nat.le_of_eq rfl) (hb hby d7_6) (fun _ _ => ⟨rfl, e161, (by decide : 0 + 0 ≤ _), (by decide : 0 + 0 ≤ _)⟩)
  dsimp only [Pt.U, Pt.locs, Pt.cells, Pt.slots] at X162 l162 y162 z162 st162 hQ162
  subst l162 y162 z162
  obtain ⟨rfl, Nq162, hh162⟩ := hQ162
  have N162 := Fr.app N0 Nq162
  refine own_go (fun _ k => st162.trans k) ?_
  have e162 : T162.heap = h0 := hh162
  show own_G p e below (T162.setTop (mkF m 9 #[.val (.ref a1), .val (.ref a2)] [(.long s1), (.long sS), (.ref a1)])) _
  obtain ⟨_, _, ⟨T163, L163, k163, n163⟩, -, X163, ⟨Lc163, hQ163, l163, y163, z163⟩, st163⟩ := Jvm.LawKit.callS X162 hx (y := (⟨"java/lang/Math", "min", "(JJ)J"⟩ : MethodName)) hown (mvT hZ (hw _ (List.mem_of_getElem? (i := 69) rfl))) (mvT hZ (hw _ (List.mem_of_getElem? (i := 70) rfl))) (mvT hZ (hw _ (List.mem_of_getElem? (i := 71) rfl))) (mvT hZ (hw _ (List.mem_of_getElem? (i := 72) rfl))) (by decide) (backOf (W := 1) (rm9 l Z a0 hw [] sS s1 h0 n0 Z0 ) hZ (hw _ (List.mem_of_getElem? (i := 72) rfl)) (hw _ (List.mem_of_getElem? (i := 71) rfl)) (by decide) (by decide)) (g := (mkF m 9 #[.val (.ref a1), .val (.ref a2)] [(.long s1), (.long sS), (.ref a1)])) rfl (by rw [hml]; rfl) (argsL := [(.long sS), (.long s1)]) (rest := [(.ref a1)]) (lenOf pd_3 rfl) rfl (by show 2 * 0 + _ ≤ _; exact Nat.le_of_eq rfl) (hb hby d7_9) (fun _ _ => ⟨rfl, e162, (by decide : 0 + 0 + 0 ≤ _), (by decide : 0 + 0 + 0 ≤ _)⟩)
  dsimp only [Pt.U, Pt.locs, Pt.cells, Pt.slots] at X163 l163 y163 z163 st163 hQ163
  subst l163 y163 z163
  obtain ⟨rfl, Nq163, hh163⟩ := hQ163
  have N163 := Fr.app N162 Nq163
  refine own_go st163 ?_
  have e163 : T163.heap = h0 := hh163
  show own_G p e below (T163.setTop (mkF m 12 #[.val (.ref a1), .val (.ref a2)] [(.long (own_min sS s1)), (.ref a1)])) _
  obtain ⟨T164, h164, X164, e164, W164, st164⟩ := putF X163 hx hZ hown (host := "") (Or.inl (hw _ (List.mem_of_getElem? (i := 10) rfl))) Via.refl e163 F_startNanos_a1 E_a1 (Or.inl (hw _ (List.mem_of_getElem? (i := 11) rfl))) (hw _ (List.mem_of_getElem? (i := 1) rfl)) (ty := .long) (by decide) rfl rfl (g := (mkF m 12 #[.val (.ref a1), .val (.ref a2)] [(.long (own_min sS s1)), (.ref a1)])) rfl rfl (hb hby d7_12)
  refine own_go st164 ?_
  have fw164 := F_startNanos_a1.same W164
  have f165 := E_a1.wr W164
  have f166 := F_endNanos_a1.other W164 (Or.inr (slot_ne (Or.inl (hw _ (List.mem_of_getElem? (i := 14) rfl))) (Or.inl (hw _ (List.mem_of_getElem? (i := 11) rfl))) (by decide) (t := .long) (t' := .long) (by decide) (by decide)))
  have f167 := E_a2.wr W164
  have f168 := F_startNanos_a2.other W164 (Or.inl (Ne.symm ne12))
  have f169 := F_durationNanos_a2.other W164 (Or.inl (Ne.symm ne12))
  have zs170 : n0 ≤ h164.size := Nat.le_trans Z0 (Keep.of_wr W164).1
  have kp171 : Keep h0 h164 [a1] := (Keep.refl h0 [a1]).wr W164 (Or.inl (List.mem_of_getElem? (i := 0) rfl))
  have N164 := Fr.snoc X164 N163 g_a1
  show own_G p e below (T164.setTop (mkF m 15 #[.val (.ref a1), .val (.ref a2)] [])) _
  refine own_go (fun _ k => XS.aloadN X164.here hx rfl (hb hby d7_15) rfl rfl k) ?_
  show own_G p e below (T164.setTop (mkF m 16 #[.val (.ref a1), .val (.ref a2)] [(.ref a1)])) _
  refine own_go (fun _ k => XS.aloadN X164.here hx rfl (hb hby d7_16) rfl rfl k) ?_
  show own_G p e below (T164.setTop (mkF m 17 #[.val (.ref a1), .val (.ref a2)] [(.ref a1), (.ref a1)])) _
  obtain ⟨T172, X172, e172, st172⟩ := getF X164 hx hZ hown (host := "") (Or.inl (hw _ (List.mem_of_getElem? (i := 13) rfl))) Via.refl e164 f166 (g := (mkF m 17 #[.val (.ref a1), .val (.ref a2)] [(.ref a1), (.ref a1)])) rfl rfl (hb hby d7_17)
  refine own_go st172 ?_
  show own_G p e below (T172.setTop (mkF m 20 #[.val (.ref a1), .val (.ref a2)] [(.long sE), (.ref a1)])) _
  refine own_go (fun _ k => XS.aloadN X172.here hx rfl (hb hby d7_20) rfl rfl k) ?_
  show own_G p e below (T172.setTop (mkF m 21 #[.val (.ref a1), .val (.ref a2)] [(.ref a2), (.long sE), (.ref a1)])) _
  obtain ⟨cq173, kq173, q173a, q173b, q173c⟩ := isOf hZ e172 f167
  obtain ⟨_, _, ⟨T173, L173, k173, n173⟩, -, X173, ⟨Lc173, hQ173, l173, y173, z173⟩, st173⟩ := X172.virtualBack hx (y := (⟨"emberglass/ChunkHeader", "endNanos", "()J"⟩ : MethodName)) (z := (⟨"emberglass/ChunkHeader", "endNanos", "()J"⟩ : MethodName)) hown (mvT hZ (hw _ (List.mem_of_getElem? (i := 73) rfl))) (mvT hZ (hw _ (List.mem_of_getElem? (i := 74) rfl))) (notFace_of_selects (args := #[]) (mvT hZ (hw _ (List.mem_of_getElem? (i := 76) rfl)))) (mvT hZ (hw _ (List.mem_of_getElem? (i := 76) rfl))) (mvT hZ (hw _ (List.mem_of_getElem? (i := 75) rfl))) (by decide) (backOf (W := 3) (rm10 l Z a0 hw [] a2 s1 d1 h164 n0 zs170 f167 f168 f169 hd1 hd2) hZ (hw _ (List.mem_of_getElem? (i := 77) rfl)) (hw _ (List.mem_of_getElem? (i := 17) rfl)) (by decide) (by decide)) q173a q173c (g := (mkF m 21 #[.val (.ref a1), .val (.ref a2)] [(.ref a2), (.long sE), (.ref a1)])) rfl (by rw [hml]; rfl) (Steps.refl _) (argsL := []) (rest := [(.long sE), (.ref a1)]) (lenOf pd_2 rfl) rfl (by show 2 * 0 + _ ≤ _; exact Nat.le_of_eq rfl) (hb hby d7_21) (fun _ _ => ⟨rfl, e172, (by decide : 0 + 0 + 0 + 0 ≤ _), (by decide : 0 + 0 + 0 + 0 ≤ _)⟩)
  dsimp only [Pt.U, Pt.locs, Pt.cells, Pt.slots] at X173 l173 y173 z173 st173 hQ173
  subst l173 y173 z173
  obtain ⟨rfl, Nq173, hh173⟩ := hQ173
  have N173 := Fr.app N164 Nq173
  refine own_go (fun _ k => st173.trans k) ?_
  have e173 : T173.heap = h164 := hh173
  show own_G p e below (T173.setTop (mkF m 24 #[.val (.ref a1), .val (.ref a2)] [(.long (s1 + d1)), (.long sE), (.ref a1)])) _
  obtain ⟨_, _, ⟨T174, L174, k174, n174⟩, -, X174, ⟨Lc174, hQ174, l174, y174, z174⟩, st174⟩ := Jvm.LawKit.callS X173 hx (y := (⟨"java/lang/Math", "max", "(JJ)J"⟩ : MethodName)) hown (mvT hZ (hw _ (List.mem_of_getElem? (i := 83) rfl))) (mvT hZ (hw _ (List.mem_of_getElem? (i := 84) rfl))) (mvT hZ (hw _ (List.mem_of_getElem? (i := 71) rfl))) (mvT hZ (hw _ (List.mem_of_getElem? (i := 85) rfl))) (by decide) (backOf (W := 1) (rm12 l Z a0 hw [] sE (s1 + d1) h164 n0 zs170 ) hZ (hw _ (List.mem_of_getElem? (i := 85) rfl)) (hw _ (List.mem_of_getElem? (i := 71) rfl)) (by decide) (by decide)) (g := (mkF m 24 #[.val (.ref a1), .val (.ref a2)] [(.long (s1 + d1)), (.long sE), (.ref a1)])) rfl (by rw [hml]; rfl) (argsL := [(.long sE), (.long (s1 + d1))]) (rest := [(.ref a1)]) (lenOf pd_3 rfl) rfl (by show 2 * 0 + _ ≤ _; exact Nat.le_of_eq rfl) (hb hby d7_24) (fun _ _ => ⟨rfl, e173, (by decide : 0 + 0 + 0 + 0 + 0 ≤ _), (by decide : 0 + 0 + 0 + 0 + 0 ≤ _)⟩)
  dsimp only [Pt.U, Pt.locs, Pt.cells, Pt.slots] at X174 l174 y174 z174 st174 hQ174
  subst l174 y174 z174
  obtain ⟨rfl, Nq174, hh174⟩ := hQ174
  have N174 := Fr.app N173 Nq174
  refine own_go st174 ?_
  have e174 : T174.heap = h164 := hh174
  show own_G p e below (T174.setTop (mkF m 27 #[.val (.ref a1), .val (.ref a2)] [(.long (own_max sE (s1 + d1))), (.ref a1)])) _
  obtain ⟨T175, h175, X175, e175, W175, st175⟩ := putF X174 hx hZ hown (host := "") (Or.inl (hw _ (List.mem_of_getElem? (i := 13) rfl))) Via.refl e174 f166 f165 (Or.inl (hw _ (List.mem_of_getElem? (i := 14) rfl))) (hw _ (List.mem_of_getElem? (i := 1) rfl)) (ty := .long) (by decide) rfl rfl (g := (mkF m 27 #[.val (.ref a1), .val (.ref a2)] [(.long (own_max sE (s1 + d1))), (.ref a1)])) rfl rfl (hb hby d7_27)
  refine own_go st175 ?_
  have fw175 := f166.same W175
  have f176 := f165.wr W175
  have f177 := f167.wr W175
  have f178 := f168.other W175 (Or.inl (Ne.symm ne12))
  have f179 := f169.other W175 (Or.inl (Ne.symm ne12))
  have f180 := fw164.other W175 (Or.inr (slot_ne (Or.inl (hw _ (List.mem_of_getElem? (i := 11) rfl))) (Or.inl (hw _ (List.mem_of_getElem? (i := 14) rfl))) (by decide) (t := .long) (t' := .long) (by decide) (by decide)))
  have zs181 : n0 ≤ h175.size := Nat.le_trans zs170 (Keep.of_wr W175).1
  have kp182 : Keep h0 h175 [a1] := kp171.wr W175 (Or.inl (List.mem_of_getElem? (i := 0) rfl))
  have N175 := Fr.snoc X175 N174 g_a1
  show own_G p e below (T175.setTop (mkF m 30 #[.val (.ref a1), .val (.ref a2)] [])) _
  refine own_ret X175 hlk (v := none) (fun _ => rfl) (Q7 Z a1 a2 sS sE s1 d1 h0 n0) (own_retV X175 hx hret (hb hby d7_30)) (by decide) (by decide) ?_
  show Q7 Z a1 a2 sS sE s1 d1 h0 n0 _ T175.heap _
  rw [e175]
  exact ⟨rfl, N175, kp182, f176, f180, fw175⟩
theorem ef_0 (m : MethodId) (q1 : Int64) (q2 : Int64) (q3 : Int64) (q4 : Int64) (p5 : Int32) : entryFrame m #[(.long q1), (.long q2), (.long q3), (.long q4), (.int p5)] maxLocals = mkF m 0 #[.val (.long q1), .second, .val (.long q2), .second, .val (.long q3), .second, .val (.long q4), .second, .val (.int p5), .unset, .unset, .unset, .unset, .unset] [] := by first | (simp [entryFrame, mkF, argsToLocals, Value.category, maxLocals]; done) | rfl
def Q0 (Z : State) (q1 : Int64) (q2 : Int64) (q3 : Int64) (q4 : Int64) (p5 : Int32) (h0 : Heap) (n0 : Nat) (v : Option Value) (h : Heap) (L : List Loc) : Prop := v = some (.int (1 : Int32)) ∧ Fr n0 L
set_option maxRecDepth 65536 in
set_option maxHeartbeats 40000000 in
theorem rm0 (l : Launch) (Z : State) (a0 : Array Value) (hw : ∀ d ∈ tables_1, d.before a0 Z = true) (ws : List Jvm.Cond) (q1 : Int64) (q2 : Int64) (q3 : Int64) (q4 : Int64) (p5 : Int32) (h0 : Heap) (n0 : Nat) (Z0 : n0 ≤ h0.size)  :
    MetFree l x (head1 (Jvm.Cond.code x code maxLocals ret :: ws) room_1) (fun a U => a = #[(.long q1), (.long q2), (.long q3), (.long q4), (.int p5)] ∧ Z.Warmed39 U.vm ∧ U.heap = h0) (fun _ _ _ _ _ => True) (fun _ U o U' => ∃ v L, o = .returned v ∧ Q0 Z q1 q2 q3 q4 p5 h0 n0 v U'.heap L ∧ FrameEnd U o U' L room_1.cells room_1.slots) := by
  refine MetFree.of_bodySF (plainFor_of_name pn_0) hisR ?_
  intro p e s m args below meth c s₁ Bd hml0 hP hK
  obtain ⟨rfl, hZ, hh⟩ := hP
  have hx := Bd.exec
  have hby := Bd.bytes
  have hml : c.maxLocals = 14 := hml0
  have hown : s.vm.findClass "emberglass/TimeSpanEmptyPinLaw" = some m.cls := findClass_of_methodNamed Bd.named
  have hnm := (name_of_methodNamed Bd.named Bd.method).1
  have hlk := Bd.notSynchronized
  have hret := Bd.returns
  have X0 : Stand p l e room_1 s m #[(.long q1), (.long q2), (.long q3), (.long q4), (.int p5)] below meth c s₁ [] 0 0 := Stand.of_body Bd
  have e0 : s₁.heap = h0 := by rw [← hh, Bd.state]; rfl
  have N0 := Fr.nil n0
  show own_G p e below (s₁.setTop (entryFrame m #[(.long q1), (.long q2), (.long q3), (.long q4), (.int p5)] maxLocals)) (fun s₂ o => ∃ v L, o = .returned v ∧ Q0 Z q1 q2 q3 q4 p5 h0 n0 v s₂.heap L ∧ FrameEnd s o s₂ L room_1.cells room_1.slots)
  refine own_go (fun t k => castTop (ef_0 m q1 q2 q3 q4 p5) k) ?_
  show own_G p e below (s₁.setTop (mkF m 0 #[.val (.long q1), .second, .val (.long q2), .second, .val (.long q3), .second, .val (.long q4), .second, .val (.int p5), .unset, .unset, .unset, .unset, .unset] [])) _
  obtain ⟨T183, h183, X183, e183, E183, A183, D183, -, st183⟩ := newO X0 hx hZ hown (hw _ (List.mem_of_getElem? (i := 0) rfl)) (hw _ (List.mem_of_getElem? (i := 1) rfl)) (hw _ (List.mem_of_getElem? (i := 2) rfl)) e0 (g := (mkF m 0 #[.val (.long q1), .second, .val (.long q2), .second, .val (.long q3), .second, .val (.long q4), .second, .val (.int p5), .unset, .unset, .unset, .unset, .unset] [])) rfl (hb hby at_0) (by decide) (by decide)
  obtain ⟨b183, g183⟩ : ∃ z, z = h0.size := ⟨_, rfl⟩
  rw [← g183] at A183 D183 st183
  refine own_go st183 ?_
  have ge184 : n0 ≤ b183 := Nat.le_trans Z0 (Nat.le_of_eq g183.symm)
  have zs185 : n0 ≤ h183.size := Nat.le_trans Z0 E183.1
  have f186 : Fld Z h183 b183 "emberglass/TimeSpan" "startNanos" "J" (.long (0 : Int64)) := D183 (Or.inl (hw _ (List.mem_of_getElem? (i := 11) rfl))) (ty := .long) (by decide)
  have f187 : Fld Z h183 b183 "emberglass/TimeSpan" "endNanos" "J" (.long (0 : Int64)) := D183 (Or.inl (hw _ (List.mem_of_getElem? (i := 14) rfl))) (ty := .long) (by decide)
  show own_G p e below (T183.setTop (mkF m 3 #[.val (.long q1), .second, .val (.long q2), .second, .val (.long q3), .second, .val (.long q4), .second, .val (.int p5), .unset, .unset, .unset, .unset, .unset] [(.ref b183)])) _
  refine own_go (fun _ k => XS.dup X183.here hx rfl (hb hby at_3) rfl rfl k) ?_
  show own_G p e below (T183.setTop (mkF m 4 #[.val (.long q1), .second, .val (.long q2), .second, .val (.long q3), .second, .val (.long q4), .second, .val (.int p5), .unset, .unset, .unset, .unset, .unset] [(.ref b183), (.ref b183)])) _
  obtain ⟨_, _, ⟨T188, L188, k188, n188⟩, -, X188, ⟨Lc188, hQ188, l188, y188, z188⟩, st188⟩ := X183.specialBack hx (y := (⟨"emberglass/TimeSpan", "<init>", "()V"⟩ : MethodName)) rfl hown (mvT hZ (hw _ (List.mem_of_getElem? (i := 3) rfl))) (mvT hZ (hw _ (List.mem_of_getElem? (i := 4) rfl))) (mvT hZ (hw _ (List.mem_of_getElem? (i := 5) rfl))) (by decide) (backOf (W := 1) (rm1 l Z a0 hw [] b183 h183 n0 zs185 A183 f186 f187 ge184) hZ (hw _ (List.mem_of_getElem? (i := 5) rfl)) (hw _ (List.mem_of_getElem? (i := 2) rfl)) (by decide) (by decide)) (g := (mkF m 4 #[.val (.long q1), .second, .val (.long q2), .second, .val (.long q3), .second, .val (.long q4), .second, .val (.int p5), .unset, .unset, .unset, .unset, .unset] [(.ref b183), (.ref b183)])) rfl (by rw [hml]; rfl) (Steps.refl _) (a := b183) (argsL := []) (rest := [(.ref b183)]) (lenOf pd_0 rfl) rfl (by show 2 * 0 + _ ≤ _; exact Nat.le_of_eq rfl) (hb hby at_4) (fun _ _ => ⟨rfl, e183, (by decide : 0 + 1 + 0 ≤ _), (by decide : 0 + 2 + 0 ≤ _)⟩)
  dsimp only [Pt.U, Pt.locs, Pt.cells, Pt.slots] at X188 l188 y188 z188 st188 hQ188
  subst l188 y188 z188
  obtain ⟨rfl, Nq188, K188, E188q, Fs188, Fe188⟩ := hQ188
  have N188 := Fr.app N0 Nq188
  refine own_go (fun _ k => st188.trans k) ?_
  have f189 := A183.keep K188
  have zs190 : n0 ≤ T188.heap.size := Nat.le_trans zs185 K188.1
  show own_G p e below (T188.setTop (mkF m 7 #[.val (.long q1), .second, .val (.long q2), .second, .val (.long q3), .second, .val (.long q4), .second, .val (.int p5), .unset, .unset, .unset, .unset, .unset] [(.ref b183)])) _
  refine own_go (fun _ k => XS.astore X188.here hx rfl (hb hby at_7) rfl rfl (l' := #[.val (.long q1), .second, .val (.long q2), .second, .val (.long q3), .second, .val (.long q4), .second, .val (.int p5), .val (.ref b183), .unset, .unset, .unset, .unset]) rfl k) ?_
  show own_G p e below (T188.setTop (mkF m 9 #[.val (.long q1), .second, .val (.long q2), .second, .val (.long q3), .second, .val (.long q4), .second, .val (.int p5), .val (.ref b183), .unset, .unset, .unset, .unset] [])) _
  obtain ⟨T191, h191, X191, e191, E191, A191, D191, -, st191⟩ := newO X188 hx hZ hown (hw _ (List.mem_of_getElem? (i := 15) rfl)) (hw _ (List.mem_of_getElem? (i := 16) rfl)) (hw _ (List.mem_of_getElem? (i := 17) rfl)) rfl (g := (mkF m 9 #[.val (.long q1), .second, .val (.long q2), .second, .val (.long q3), .second, .val (.long q4), .second, .val (.int p5), .val (.ref b183), .unset, .unset, .unset, .unset] [])) rfl (hb hby at_9) (by decide) (by decide)
  obtain ⟨b191, g191⟩ : ∃ z, z = T188.heap.size := ⟨_, rfl⟩
  rw [← g191] at A191 D191 st191
  refine own_go st191 ?_
  have ne192 : b183 ≠ b191 := Nat.ne_of_lt (Nat.lt_of_lt_of_le E188q.lt (Nat.le_of_eq g191.symm))
  have ge193 : n0 ≤ b191 := Nat.le_trans zs190 (Nat.le_of_eq g191.symm)
  have f194 := E188q.ext E191
  have f195 := Fs188.ext E191
  have f196 := Fe188.ext E191
  have zs197 : n0 ≤ h191.size := Nat.le_trans zs190 E191.1
  have f198 : Fld Z h191 b191 "emberglass/ChunkHeader" "majorVersion" "I" (.int (0 : Int32)) := D191 (Or.inr (hw _ (List.mem_of_getElem? (i := 35) rfl))) (ty := .int) (by decide)
  have f199 : Fld Z h191 b191 "emberglass/ChunkHeader" "minorVersion" "I" (.int (0 : Int32)) := D191 (Or.inr (hw _ (List.mem_of_getElem? (i := 37) rfl))) (ty := .int) (by decide)
  have f200 : Fld Z h191 b191 "emberglass/ChunkHeader" "size" "J" (.long (0 : Int64)) := D191 (Or.inr (hw _ (List.mem_of_getElem? (i := 39) rfl))) (ty := .long) (by decide)
  have f201 : Fld Z h191 b191 "emberglass/ChunkHeader" "constantPoolOffset" "J" (.long (0 : Int64)) := D191 (Or.inr (hw _ (List.mem_of_getElem? (i := 41) rfl))) (ty := .long) (by decide)
  have f202 : Fld Z h191 b191 "emberglass/ChunkHeader" "metadataOffset" "J" (.long (0 : Int64)) := D191 (Or.inr (hw _ (List.mem_of_getElem? (i := 43) rfl))) (ty := .long) (by decide)
  have f203 : Fld Z h191 b191 "emberglass/ChunkHeader" "startNanos" "J" (.long (0 : Int64)) := D191 (Or.inr (hw _ (List.mem_of_getElem? (i := 45) rfl))) (ty := .long) (by decide)
  have f204 : Fld Z h191 b191 "emberglass/ChunkHeader" "durationNanos" "J" (.long (0 : Int64)) := D191 (Or.inr (hw _ (List.mem_of_getElem? (i := 47) rfl))) (ty := .long) (by decide)
  have f205 : Fld Z h191 b191 "emberglass/ChunkHeader" "startTicks" "J" (.long (0 : Int64)) := D191 (Or.inr (hw _ (List.mem_of_getElem? (i := 49) rfl))) (ty := .long) (by decide)
  have f206 : Fld Z h191 b191 "emberglass/ChunkHeader" "ticksPerSecond" "J" (.long (0 : Int64)) := D191 (Or.inr (hw _ (List.mem_of_getElem? (i := 51) rfl))) (ty := .long) (by decide)
  have f207 : Fld Z h191 b191 "emberglass/ChunkHeader" "flags" "I" (.int (0 : Int32)) := D191 (Or.inr (hw _ (List.mem_of_getElem? (i := 53) rfl))) (ty := .int) (by decide)
  show own_G p e below (T191.setTop (mkF m 12 #[.val (.long q1), .second, .val (.long q2), .second, .val (.long q3), .second, .val (.long q4), .second, .val (.int p5), .val (.ref b183), .unset, .unset, .unset, .unset] [(.ref b191)])) _
  refine own_go (fun _ k => XS.dup X191.here hx rfl (hb hby at_12) rfl rfl k) ?_
  show own_G p e below (T191.setTop (mkF m 13 #[.val (.long q1), .second, .val (.long q2), .second, .val (.long q3), .second, .val (.long q4), .second, .val (.int p5), .val (.ref b183), .unset, .unset, .unset, .unset] [(.ref b191), (.ref b191)])) _
  refine own_go (fun _ k => XS.iconst X191.here hx rfl (hb hby at_13) k) ?_
  show own_G p e below (T191.setTop (mkF m 14 #[.val (.long q1), .second, .val (.long q2), .second, .val (.long q3), .second, .val (.long q4), .second, .val (.int p5), .val (.ref b183), .unset, .unset, .unset, .unset] [(.int (2 : Int32)), (.ref b191), (.ref b191)])) _
  refine own_go (fun _ k => XS.iconst X191.here hx rfl (hb hby at_14) k) ?_
  show own_G p e below (T191.setTop (mkF m 15 #[.val (.long q1), .second, .val (.long q2), .second, .val (.long q3), .second, .val (.long q4), .second, .val (.int p5), .val (.ref b183), .unset, .unset, .unset, .unset] [(.int (0 : Int32)), (.int (2 : Int32)), (.ref b191), (.ref b191)])) _
  refine own_go (X191.ldc2Long hx hown (mvT hZ (hw _ (List.mem_of_getElem? (i := 18) rfl))) (g := (mkF m 15 #[.val (.long q1), .second, .val (.long q2), .second, .val (.long q3), .second, .val (.long q4), .second, .val (.int p5), .val (.ref b183), .unset, .unset, .unset, .unset] [(.int (0 : Int32)), (.int (2 : Int32)), (.ref b191), (.ref b191)])) rfl (hb hby at_15)) ?_
  show own_G p e below (T191.setTop (mkF m 18 #[.val (.long q1), .second, .val (.long q2), .second, .val (.long q3), .second, .val (.long q4), .second, .val (.int p5), .val (.ref b183), .unset, .unset, .unset, .unset] [(.long (68 : Int64)), (.int (0 : Int32)), (.int (2 : Int32)), (.ref b191), (.ref b191)])) _
  refine own_go (fun _ k => XS.lconst X191.here hx rfl (hb hby at_18) k) ?_
  show own_G p e below (T191.setTop (mkF m 19 #[.val (.long q1), .second, .val (.long q2), .second, .val (.long q3), .second, .val (.long q4), .second, .val (.int p5), .val (.ref b183), .unset, .unset, .unset, .unset] [(.long (0 : Int64)), (.long (68 : Int64)), (.int (0 : Int32)), (.int (2 : Int32)), (.ref b191), (.ref b191)])) _
  refine own_go (fun _ k => XS.lconst X191.here hx rfl (hb hby at_19) k) ?_
  show own_G p e below (T191.setTop (mkF m 20 #[.val (.long q1), .second, .val (.long q2), .second, .val (.long q3), .second, .val (.long q4), .second, .val (.int p5), .val (.ref b183), .unset, .unset, .unset, .unset] [(.long (0 : Int64)), (.long (0 : Int64)), (.long (68 : Int64)), (.int (0 : Int32)), (.int (2 : Int32)), (.ref b191), (.ref b191)])) _
  refine own_go (fun _ k => XS.lloadN X191.here hx rfl (hb hby at_20) rfl k) ?_
  show own_G p e below (T191.setTop (mkF m 21 #[.val (.long q1), .second, .val (.long q2), .second, .val (.long q3), .second, .val (.long q4), .second, .val (.int p5), .val (.ref b183), .unset, .unset, .unset, .unset] [(.long q1), (.long (0 : Int64)), (.long (0 : Int64)), (.long (68 : Int64)), (.int (0 : Int32)), (.int (2 : Int32)), (.ref b191), (.ref b191)])) _
  refine own_go (fun _ k => XS.lloadN X191.here hx rfl (hb hby at_21) rfl k) ?_
  show own_G p e below (T191.setTop (mkF m 22 #[.val (.long q1), .second, .val (.long q2), .second, .val (.long q3), .second, .val (.long q4), .second, .val (.int p5), .val (.ref b183), .unset, .unset, .unset, .unset] [(.long q1), (.long q1), (.long (0 : Int64)), (.long (0 : Int64)), (.long (68 : Int64)), (.int (0 : Int32)), (.int (2 : Int32)), (.ref b191), (.ref b191)])) _
  refine own_go (fun _ k => XS.lloadN X191.here hx rfl (hb hby at_22) rfl k) ?_
  show own_G p e below (T191.setTop (mkF m 23 #[.val (.long q1), .second, .val (.long q2), .second, .val (.long q3), .second, .val (.long q4), .second, .val (.int p5), .val (.ref b183), .unset, .unset, .unset, .unset] [(.long q2), (.long q1), (.long q1), (.long (0 : Int64)), (.long (0 : Int64)), (.long (68 : Int64)), (.int (0 : Int32)), (.int (2 : Int32)), (.ref b191), (.ref b191)])) _
  obtain ⟨_, _, ⟨T208, L208, k208, n208⟩, -, X208, ⟨Lc208, hQ208, l208, y208, z208⟩, st208⟩ := Jvm.LawKit.callS X191 hx (y := (⟨"emberglass/TimeSpanEmptyPinLaw", "dur", "(JJ)J"⟩ : MethodName)) hown (mvT hZ (hw _ (List.mem_of_getElem? (i := 19) rfl))) (mvT hZ (hw _ (List.mem_of_getElem? (i := 20) rfl))) (mvT hZ (hw _ (List.mem_of_getElem? (i := 21) rfl))) (mvT hZ (hw _ (List.mem_of_getElem? (i := 22) rfl))) (by decide) (backOf (W := 12) (rm3 l Z a0 hw [] q1 q2 h191 n0 zs197 ) hZ (hw _ (List.mem_of_getElem? (i := 22) rfl)) (hw _ (List.mem_of_getElem? (i := 21) rfl)) (by decide) (by decide)) (g := (mkF m 23 #[.val (.long q1), .second, .val (.long q2), .second, .val (.long q3), .second, .val (.long q4), .second, .val (.int p5), .val (.ref b183), .unset, .unset, .unset, .unset] [(.long q2), (.long q1), (.long q1), (.long (0 : Int64)), (.long (0 : Int64)), (.long (68 : Int64)), (.int (0 : Int32)), (.int (2 : Int32)), (.ref b191), (.ref b191)])) rfl (by rw [hml]; rfl) (argsL := [(.long q1), (.long q2)]) (rest := [(.long q1), (.long (0 : Int64)), (.long (0 : Int64)), (.long (68 : Int64)), (.int (0 : Int32)), (.int (2 : Int32)), (.ref b191), (.ref b191)]) (lenOf pd_3 rfl) rfl (by show 2 * 0 + _ ≤ _; exact Nat.le_of_eq rfl) (hb hby at_23) (fun _ _ => ⟨rfl, e191, (by decide : 0 + 1 + 0 + 1 + 0 ≤ _), (by decide : 0 + 2 + 0 + 10 + 0 ≤ _)⟩)
  dsimp only [Pt.U, Pt.locs, Pt.cells, Pt.slots] at X208 l208 y208 z208 st208 hQ208
  subst l208 y208 z208
  obtain ⟨du208, rfl, Nq208, hh208, ha208, hb208⟩ := hQ208
  have N208 := Fr.app N188 Nq208
  refine own_go st208 ?_
  have e208 : T208.heap = h191 := hh208
  show own_G p e below (T208.setTop (mkF m 26 #[.val (.long q1), .second, .val (.long q2), .second, .val (.long q3), .second, .val (.long q4), .second, .val (.int p5), .val (.ref b183), .unset, .unset, .unset, .unset] [(.long du208), (.long q1), (.long (0 : Int64)), (.long (0 : Int64)), (.long (68 : Int64)), (.int (0 : Int32)), (.int (2 : Int32)), (.ref b191), (.ref b191)])) _
  refine own_go (fun _ k => XS.lconst X208.here hx rfl (hb hby at_26) k) ?_
  show own_G p e below (T208.setTop (mkF m 27 #[.val (.long q1), .second, .val (.long q2), .second, .val (.long q3), .second, .val (.long q4), .second, .val (.int p5), .val (.ref b183), .unset, .unset, .unset, .unset] [(.long (0 : Int64)), (.long du208), (.long q1), (.long (0 : Int64)), (.long (0 : Int64)), (.long (68 : Int64)), (.int (0 : Int32)), (.int (2 : Int32)), (.ref b191), (.ref b191)])) _
  refine own_go (X208.ldc2Long hx hown (mvT hZ (hw _ (List.mem_of_getElem? (i := 24) rfl))) (g := (mkF m 27 #[.val (.long q1), .second, .val (.long q2), .second, .val (.long q3), .second, .val (.long q4), .second, .val (.int p5), .val (.ref b183), .unset, .unset, .unset, .unset] [(.long (0 : Int64)), (.long du208), (.long q1), (.long (0 : Int64)), (.long (0 : Int64)), (.long (68 : Int64)), (.int (0 : Int32)), (.int (2 : Int32)), (.ref b191), (.ref b191)])) rfl (hb hby at_27)) ?_
  show own_G p e below (T208.setTop (mkF m 30 #[.val (.long q1), .second, .val (.long q2), .second, .val (.long q3), .second, .val (.long q4), .second, .val (.int p5), .val (.ref b183), .unset, .unset, .unset, .unset] [(.long (1000000000 : Int64)), (.long (0 : Int64)), (.long du208), (.long q1), (.long (0 : Int64)), (.long (0 : Int64)), (.long (68 : Int64)), (.int (0 : Int32)), (.int (2 : Int32)), (.ref b191), (.ref b191)])) _
  refine own_go (fun _ k => XS.iconst X208.here hx rfl (hb hby at_30) k) ?_
  show own_G p e below (T208.setTop (mkF m 31 #[.val (.long q1), .second, .val (.long q2), .second, .val (.long q3), .second, .val (.long q4), .second, .val (.int p5), .val (.ref b183), .unset, .unset, .unset, .unset] [(.int (0 : Int32)), (.long (1000000000 : Int64)), (.long (0 : Int64)), (.long du208), (.long q1), (.long (0 : Int64)), (.long (0 : Int64)), (.long (68 : Int64)), (.int (0 : Int32)), (.int (2 : Int32)), (.ref b191), (.ref b191)])) _
  obtain ⟨_, _, ⟨T209, L209, k209, n209⟩, -, X209, ⟨Lc209, hQ209, l209, y209, z209⟩, st209⟩ := X208.specialBack hx (y := (⟨"emberglass/ChunkHeader", "<init>", "(IIJJJJJJJI)V"⟩ : MethodName)) rfl hown (mvT hZ (hw _ (List.mem_of_getElem? (i := 25) rfl))) (mvT hZ (hw _ (List.mem_of_getElem? (i := 26) rfl))) (mvT hZ (hw _ (List.mem_of_getElem? (i := 27) rfl))) (by decide) (backOf (W := 1) (rm4 l Z a0 hw [] b191 (2 : Int32) (0 : Int32) (68 : Int64) (0 : Int64) (0 : Int64) q1 du208 (0 : Int64) (1000000000 : Int64) (0 : Int32) h191 n0 zs197 A191 f198 f199 f200 f201 f202 f203 f204 f205 f206 f207 ge193) hZ (hw _ (List.mem_of_getElem? (i := 27) rfl)) (hw _ (List.mem_of_getElem? (i := 17) rfl)) (by decide) (by decide)) (g := (mkF m 31 #[.val (.long q1), .second, .val (.long q2), .second, .val (.long q3), .second, .val (.long q4), .second, .val (.int p5), .val (.ref b183), .unset, .unset, .unset, .unset] [(.int (0 : Int32)), (.long (1000000000 : Int64)), (.long (0 : Int64)), (.long du208), (.long q1), (.long (0 : Int64)), (.long (0 : Int64)), (.long (68 : Int64)), (.int (0 : Int32)), (.int (2 : Int32)), (.ref b191), (.ref b191)])) rfl (by rw [hml]; rfl) (Steps.refl _) (a := b191) (argsL := [(.int (2 : Int32)), (.int (0 : Int32)), (.long (68 : Int64)), (.long (0 : Int64)), (.long (0 : Int64)), (.long q1), (.long du208), (.long (0 : Int64)), (.long (1000000000 : Int64)), (.int (0 : Int32))]) (rest := [(.ref b191)]) (lenOf pd_4 rfl) rfl (by show 2 * 0 + _ ≤ _; exact Nat.le_of_eq rfl) (hb hby at_31) (fun _ _ => ⟨rfl, e208, (by decide : 0 + 1 + 0 + 1 + 0 + 0 ≤ _), (by decide : 0 + 2 + 0 + 10 + 0 + 0 ≤ _)⟩)
  dsimp only [Pt.U, Pt.locs, Pt.cells, Pt.slots] at X209 l209 y209 z209 st209 hQ209
  subst l209 y209 z209
  obtain ⟨rfl, Nq209, K209, E209q, Fs209, Fd209⟩ := hQ209
  have N209 := Fr.app N208 Nq209
  refine own_go (fun _ k => st209.trans k) ?_
  have f210 := f194.keep K209
  have f211 := f195.keep K209 (ninS ne192 nin0)
  have f212 := f196.keep K209 (ninS ne192 nin0)
  have f213 := A191.keep K209
  have zs214 : n0 ≤ T209.heap.size := Nat.le_trans zs197 K209.1
  show own_G p e below (T209.setTop (mkF m 34 #[.val (.long q1), .second, .val (.long q2), .second, .val (.long q3), .second, .val (.long q4), .second, .val (.int p5), .val (.ref b183), .unset, .unset, .unset, .unset] [(.ref b191)])) _
  refine own_go (fun _ k => XS.astore X209.here hx rfl (hb hby at_34) rfl rfl (l' := #[.val (.long q1), .second, .val (.long q2), .second, .val (.long q3), .second, .val (.long q4), .second, .val (.int p5), .val (.ref b183), .val (.ref b191), .unset, .unset, .unset]) rfl k) ?_
  show own_G p e below (T209.setTop (mkF m 36 #[.val (.long q1), .second, .val (.long q2), .second, .val (.long q3), .second, .val (.long q4), .second, .val (.int p5), .val (.ref b183), .val (.ref b191), .unset, .unset, .unset] [])) _
  obtain ⟨T215, h215, X215, e215, E215, A215, D215, -, st215⟩ := newO X209 hx hZ hown (hw _ (List.mem_of_getElem? (i := 15) rfl)) (hw _ (List.mem_of_getElem? (i := 16) rfl)) (hw _ (List.mem_of_getElem? (i := 17) rfl)) rfl (g := (mkF m 36 #[.val (.long q1), .second, .val (.long q2), .second, .val (.long q3), .second, .val (.long q4), .second, .val (.int p5), .val (.ref b183), .val (.ref b191), .unset, .unset, .unset] [])) rfl (hb hby at_36) (by decide) (by decide)
  obtain ⟨b215, g215⟩ : ∃ z, z = T209.heap.size := ⟨_, rfl⟩
  rw [← g215] at A215 D215 st215
  refine own_go st215 ?_
  have ne216 : b183 ≠ b215 := Nat.ne_of_lt (Nat.lt_of_lt_of_le f210.lt (Nat.le_of_eq g215.symm))
  have ne217 : b191 ≠ b215 := Nat.ne_of_lt (Nat.lt_of_lt_of_le E209q.lt (Nat.le_of_eq g215.symm))
  have ge218 : n0 ≤ b215 := Nat.le_trans zs214 (Nat.le_of_eq g215.symm)
  have f219 := f210.ext E215
  have f220 := f211.ext E215
  have f221 := f212.ext E215
  have f222 := E209q.ext E215
  have f223 := Fs209.ext E215
  have f224 := Fd209.ext E215
  have zs225 : n0 ≤ h215.size := Nat.le_trans zs214 E215.1
  have f226 : Fld Z h215 b215 "emberglass/ChunkHeader" "majorVersion" "I" (.int (0 : Int32)) := D215 (Or.inr (hw _ (List.mem_of_getElem? (i := 35) rfl))) (ty := .int) (by decide)
  have f227 : Fld Z h215 b215 "emberglass/ChunkHeader" "minorVersion" "I" (.int (0 : Int32)) := D215 (Or.inr (hw _ (List.mem_of_getElem? (i := 37) rfl))) (ty := .int) (by decide)
  have f228 : Fld Z h215 b215 "emberglass/ChunkHeader" "size" "J" (.long (0 : Int64)) := D215 (Or.inr (hw _ (List.mem_of_getElem? (i := 39) rfl))) (ty := .long) (by decide)
  have f229 : Fld Z h215 b215 "emberglass/ChunkHeader" "constantPoolOffset" "J" (.long (0 : Int64)) := D215 (Or.inr (hw _ (List.mem_of_getElem? (i := 41) rfl))) (ty := .long) (by decide)
  have f230 : Fld Z h215 b215 "emberglass/ChunkHeader" "metadataOffset" "J" (.long (0 : Int64)) := D215 (Or.inr (hw _ (List.mem_of_getElem? (i := 43) rfl))) (ty := .long) (by decide)
  have f231 : Fld Z h215 b215 "emberglass/ChunkHeader" "startNanos" "J" (.long (0 : Int64)) := D215 (Or.inr (hw _ (List.mem_of_getElem? (i := 45) rfl))) (ty := .long) (by decide)
  have f232 : Fld Z h215 b215 "emberglass/ChunkHeader" "durationNanos" "J" (.long (0 : Int64)) := D215 (Or.inr (hw _ (List.mem_of_getElem? (i := 47) rfl))) (ty := .long) (by decide)
  have f233 : Fld Z h215 b215 "emberglass/ChunkHeader" "startTicks" "J" (.long (0 : Int64)) := D215 (Or.inr (hw _ (List.mem_of_getElem? (i := 49) rfl))) (ty := .long) (by decide)
  have f234 : Fld Z h215 b215 "emberglass/ChunkHeader" "ticksPerSecond" "J" (.long (0 : Int64)) := D215 (Or.inr (hw _ (List.mem_of_getElem? (i := 51) rfl))) (ty := .long) (by decide)
  have f235 : Fld Z h215 b215 "emberglass/ChunkHeader" "flags" "I" (.int (0 : Int32)) := D215 (Or.inr (hw _ (List.mem_of_getElem? (i := 53) rfl))) (ty := .int) (by decide)
  show own_G p e below (T215.setTop (mkF m 39 #[.val (.long q1), .second, .val (.long q2), .second, .val (.long q3), .second, .val (.long q4), .second, .val (.int p5), .val (.ref b183), .val (.ref b191), .unset, .unset, .unset] [(.ref b215)])) _
  refine own_go (fun _ k => XS.dup X215.here hx rfl (hb hby at_39) rfl rfl k) ?_
  show own_G p e below (T215.setTop (mkF m 40 #[.val (.long q1), .second, .val (.long q2), .second, .val (.long q3), .second, .val (.long q4), .second, .val (.int p5), .val (.ref b183), .val (.ref b191), .unset, .unset, .unset] [(.ref b215), (.ref b215)])) _
  refine own_go (fun _ k => XS.iconst X215.here hx rfl (hb hby at_40) k) ?_
  show own_G p e below (T215.setTop (mkF m 41 #[.val (.long q1), .second, .val (.long q2), .second, .val (.long q3), .second, .val (.long q4), .second, .val (.int p5), .val (.ref b183), .val (.ref b191), .unset, .unset, .unset] [(.int (2 : Int32)), (.ref b215), (.ref b215)])) _
  refine own_go (fun _ k => XS.iconst X215.here hx rfl (hb hby at_41) k) ?_
  show own_G p e below (T215.setTop (mkF m 42 #[.val (.long q1), .second, .val (.long q2), .second, .val (.long q3), .second, .val (.long q4), .second, .val (.int p5), .val (.ref b183), .val (.ref b191), .unset, .unset, .unset] [(.int (0 : Int32)), (.int (2 : Int32)), (.ref b215), (.ref b215)])) _
  refine own_go (X215.ldc2Long hx hown (mvT hZ (hw _ (List.mem_of_getElem? (i := 18) rfl))) (g := (mkF m 42 #[.val (.long q1), .second, .val (.long q2), .second, .val (.long q3), .second, .val (.long q4), .second, .val (.int p5), .val (.ref b183), .val (.ref b191), .unset, .unset, .unset] [(.int (0 : Int32)), (.int (2 : Int32)), (.ref b215), (.ref b215)])) rfl (hb hby at_42)) ?_
  show own_G p e below (T215.setTop (mkF m 45 #[.val (.long q1), .second, .val (.long q2), .second, .val (.long q3), .second, .val (.long q4), .second, .val (.int p5), .val (.ref b183), .val (.ref b191), .unset, .unset, .unset] [(.long (68 : Int64)), (.int (0 : Int32)), (.int (2 : Int32)), (.ref b215), (.ref b215)])) _
  refine own_go (fun _ k => XS.lconst X215.here hx rfl (hb hby at_45) k) ?_
  show own_G p e below (T215.setTop (mkF m 46 #[.val (.long q1), .second, .val (.long q2), .second, .val (.long q3), .second, .val (.long q4), .second, .val (.int p5), .val (.ref b183), .val (.ref b191), .unset, .unset, .unset] [(.long (0 : Int64)), (.long (68 : Int64)), (.int (0 : Int32)), (.int (2 : Int32)), (.ref b215), (.ref b215)])) _
  refine own_go (fun _ k => XS.lconst X215.here hx rfl (hb hby at_46) k) ?_
  show own_G p e below (T215.setTop (mkF m 47 #[.val (.long q1), .second, .val (.long q2), .second, .val (.long q3), .second, .val (.long q4), .second, .val (.int p5), .val (.ref b183), .val (.ref b191), .unset, .unset, .unset] [(.long (0 : Int64)), (.long (0 : Int64)), (.long (68 : Int64)), (.int (0 : Int32)), (.int (2 : Int32)), (.ref b215), (.ref b215)])) _
  refine own_go (fun _ k => XS.lload X215.here hx rfl (hb hby at_47) rfl k) ?_
  show own_G p e below (T215.setTop (mkF m 49 #[.val (.long q1), .second, .val (.long q2), .second, .val (.long q3), .second, .val (.long q4), .second, .val (.int p5), .val (.ref b183), .val (.ref b191), .unset, .unset, .unset] [(.long q3), (.long (0 : Int64)), (.long (0 : Int64)), (.long (68 : Int64)), (.int (0 : Int32)), (.int (2 : Int32)), (.ref b215), (.ref b215)])) _
  refine own_go (fun _ k => XS.lload X215.here hx rfl (hb hby at_49) rfl k) ?_
  show own_G p e below (T215.setTop (mkF m 51 #[.val (.long q1), .second, .val (.long q2), .second, .val (.long q3), .second, .val (.long q4), .second, .val (.int p5), .val (.ref b183), .val (.ref b191), .unset, .unset, .unset] [(.long q3), (.long q3), (.long (0 : Int64)), (.long (0 : Int64)), (.long (68 : Int64)), (.int (0 : Int32)), (.int (2 : Int32)), (.ref b215), (.ref b215)])) _
  refine own_go (fun _ k => XS.lload X215.here hx rfl (hb hby at_51) rfl k) ?_
  show own_G p e below (T215.setTop (mkF m 53 #[.val (.long q1), .second, .val (.long q2), .second, .val (.long q3), .second, .val (.long q4), .second, .val (.int p5), .val (.ref b183), .val (.ref b191), .unset, .unset, .unset] [(.long q4), (.long q3), (.long q3), (.long (0 : Int64)), (.long (0 : Int64)), (.long (68 : Int64)), (.int (0 : Int32)), (.int (2 : Int32)), (.ref b215), (.ref b215)])) _
  obtain ⟨_, _, ⟨T236, L236, k236, n236⟩, -, X236, ⟨Lc236, hQ236, l236, y236, z236⟩, st236⟩ := Jvm.LawKit.callS X215 hx (y := (⟨"emberglass/TimeSpanEmptyPinLaw", "dur", "(JJ)J"⟩ : MethodName)) hown (mvT hZ (hw _ (List.mem_of_getElem? (i := 19) rfl))) (mvT hZ (hw _ (List.mem_of_getElem? (i := 20) rfl))) (mvT hZ (hw _ (List.mem_of_getElem? (i := 21) rfl))) (mvT hZ (hw _ (List.mem_of_getElem? (i := 22) rfl))) (by decide) (backOf (W := 12) (rm3 l Z a0 hw [] q3 q4 h215 n0 zs225 ) hZ (hw _ (List.mem_of_getElem? (i := 22) rfl)) (hw _ (List.mem_of_getElem? (i := 21) rfl)) (by decide) (by decide)) (g := (mkF m 53 #[.val (.long q1), .second, .val (.long q2), .second, .val (.long q3), .second, .val (.long q4), .second, .val (.int p5), .val (.ref b183), .val (.ref b191), .unset, .unset, .unset] [(.long q4), (.long q3), (.long q3), (.long (0 : Int64)), (.long (0 : Int64)), (.long (68 : Int64)), (.int (0 : Int32)), (.int (2 : Int32)), (.ref b215), (.ref b215)])) rfl (by rw [hml]; rfl) (argsL := [(.long q3), (.long q4)]) (rest := [(.long q3), (.long (0 : Int64)), (.long (0 : Int64)), (.long (68 : Int64)), (.int (0 : Int32)), (.int (2 : Int32)), (.ref b215), (.ref b215)]) (lenOf pd_3 rfl) rfl (by show 2 * 0 + _ ≤ _; exact Nat.le_of_eq rfl) (hb hby at_53) (fun _ _ => ⟨rfl, e215, (by decide : 0 + 1 + 0 + 1 + 0 + 0 + 1 + 0 ≤ _), (by decide : 0 + 2 + 0 + 10 + 0 + 0 + 10 + 0 ≤ _)⟩)
  dsimp only [Pt.U, Pt.locs, Pt.cells, Pt.slots] at X236 l236 y236 z236 st236 hQ236
  subst l236 y236 z236
  obtain ⟨du236, rfl, Nq236, hh236, ha236, hb236⟩ := hQ236
  have N236 := Fr.app N209 Nq236
  refine own_go st236 ?_
  have e236 : T236.heap = h215 := hh236
  show own_G p e below (T236.setTop (mkF m 56 #[.val (.long q1), .second, .val (.long q2), .second, .val (.long q3), .second, .val (.long q4), .second, .val (.int p5), .val (.ref b183), .val (.ref b191), .unset, .unset, .unset] [(.long du236), (.long q3), (.long (0 : Int64)), (.long (0 : Int64)), (.long (68 : Int64)), (.int (0 : Int32)), (.int (2 : Int32)), (.ref b215), (.ref b215)])) _
  refine own_go (fun _ k => XS.lconst X236.here hx rfl (hb hby at_56) k) ?_
  show own_G p e below (T236.setTop (mkF m 57 #[.val (.long q1), .second, .val (.long q2), .second, .val (.long q3), .second, .val (.long q4), .second, .val (.int p5), .val (.ref b183), .val (.ref b191), .unset, .unset, .unset] [(.long (0 : Int64)), (.long du236), (.long q3), (.long (0 : Int64)), (.long (0 : Int64)), (.long (68 : Int64)), (.int (0 : Int32)), (.int (2 : Int32)), (.ref b215), (.ref b215)])) _
  refine own_go (X236.ldc2Long hx hown (mvT hZ (hw _ (List.mem_of_getElem? (i := 24) rfl))) (g := (mkF m 57 #[.val (.long q1), .second, .val (.long q2), .second, .val (.long q3), .second, .val (.long q4), .second, .val (.int p5), .val (.ref b183), .val (.ref b191), .unset, .unset, .unset] [(.long (0 : Int64)), (.long du236), (.long q3), (.long (0 : Int64)), (.long (0 : Int64)), (.long (68 : Int64)), (.int (0 : Int32)), (.int (2 : Int32)), (.ref b215), (.ref b215)])) rfl (hb hby at_57)) ?_
  show own_G p e below (T236.setTop (mkF m 60 #[.val (.long q1), .second, .val (.long q2), .second, .val (.long q3), .second, .val (.long q4), .second, .val (.int p5), .val (.ref b183), .val (.ref b191), .unset, .unset, .unset] [(.long (1000000000 : Int64)), (.long (0 : Int64)), (.long du236), (.long q3), (.long (0 : Int64)), (.long (0 : Int64)), (.long (68 : Int64)), (.int (0 : Int32)), (.int (2 : Int32)), (.ref b215), (.ref b215)])) _
  refine own_go (fun _ k => XS.iconst X236.here hx rfl (hb hby at_60) k) ?_
  show own_G p e below (T236.setTop (mkF m 61 #[.val (.long q1), .second, .val (.long q2), .second, .val (.long q3), .second, .val (.long q4), .second, .val (.int p5), .val (.ref b183), .val (.ref b191), .unset, .unset, .unset] [(.int (0 : Int32)), (.long (1000000000 : Int64)), (.long (0 : Int64)), (.long du236), (.long q3), (.long (0 : Int64)), (.long (0 : Int64)), (.long (68 : Int64)), (.int (0 : Int32)), (.int (2 : Int32)), (.ref b215), (.ref b215)])) _
  obtain ⟨_, _, ⟨T237, L237, k237, n237⟩, -, X237, ⟨Lc237, hQ237, l237, y237, z237⟩, st237⟩ := X236.specialBack hx (y := (⟨"emberglass/ChunkHeader", "<init>", "(IIJJJJJJJI)V"⟩ : MethodName)) rfl hown (mvT hZ (hw _ (List.mem_of_getElem? (i := 25) rfl))) (mvT hZ (hw _ (List.mem_of_getElem? (i := 26) rfl))) (mvT hZ (hw _ (List.mem_of_getElem? (i := 27) rfl))) (by decide) (backOf (W := 1) (rm4 l Z a0 hw [] b215 (2 : Int32) (0 : Int32) (68 : Int64) (0 : Int64) (0 : Int64) q3 du236 (0 : Int64) (1000000000 : Int64) (0 : Int32) h215 n0 zs225 A215 f226 f227 f228 f229 f230 f231 f232 f233 f234 f235 ge218) hZ (hw _ (List.mem_of_getElem? (i := 27) rfl)) (hw _ (List.mem_of_getElem? (i := 17) rfl)) (by decide) (by decide)) (g := (mkF m 61 #[.val (.long q1), .second, .val (.long q2), .second, .val (.long q3), .second, .val (.long q4), .second, .val (.int p5), .val (.ref b183), .val (.ref b191), .unset, .unset, .unset] [(.int (0 : Int32)), (.long (1000000000 : Int64)), (.long (0 : Int64)), (.long du236), (.long q3), (.long (0 : Int64)), (.long (0 : Int64)), (.long (68 : Int64)), (.int (0 : Int32)), (.int (2 : Int32)), (.ref b215), (.ref b215)])) rfl (by rw [hml]; rfl) (Steps.refl _) (a := b215) (argsL := [(.int (2 : Int32)), (.int (0 : Int32)), (.long (68 : Int64)), (.long (0 : Int64)), (.long (0 : Int64)), (.long q3), (.long du236), (.long (0 : Int64)), (.long (1000000000 : Int64)), (.int (0 : Int32))]) (rest := [(.ref b215)]) (lenOf pd_4 rfl) rfl (by show 2 * 0 + _ ≤ _; exact Nat.le_of_eq rfl) (hb hby at_61) (fun _ _ => ⟨rfl, e236, (by decide : 0 + 1 + 0 + 1 + 0 + 0 + 1 + 0 + 0 ≤ _), (by decide : 0 + 2 + 0 + 10 + 0 + 0 + 10 + 0 + 0 ≤ _)⟩)
  dsimp only [Pt.U, Pt.locs, Pt.cells, Pt.slots] at X237 l237 y237 z237 st237 hQ237
  subst l237 y237 z237
  obtain ⟨rfl, Nq237, K237, E237q, Fs237, Fd237⟩ := hQ237
  have N237 := Fr.app N236 Nq237
  refine own_go (fun _ k => st237.trans k) ?_
  have f238 := f219.keep K237
  have f239 := f220.keep K237 (ninS ne216 nin0)
  have f240 := f221.keep K237 (ninS ne216 nin0)
  have f241 := f222.keep K237
  have f242 := f223.keep K237 (ninS ne217 nin0)
  have f243 := f224.keep K237 (ninS ne217 nin0)
  have f244 := A215.keep K237
  have zs245 : n0 ≤ T237.heap.size := Nat.le_trans zs225 K237.1
  show own_G p e below (T237.setTop (mkF m 64 #[.val (.long q1), .second, .val (.long q2), .second, .val (.long q3), .second, .val (.long q4), .second, .val (.int p5), .val (.ref b183), .val (.ref b191), .unset, .unset, .unset] [(.ref b215)])) _
  refine own_go (fun _ k => XS.astore X237.here hx rfl (hb hby at_64) rfl rfl (l' := #[.val (.long q1), .second, .val (.long q2), .second, .val (.long q3), .second, .val (.long q4), .second, .val (.int p5), .val (.ref b183), .val (.ref b191), .val (.ref b215), .unset, .unset]) rfl k) ?_
  show own_G p e below (T237.setTop (mkF m 66 #[.val (.long q1), .second, .val (.long q2), .second, .val (.long q3), .second, .val (.long q4), .second, .val (.int p5), .val (.ref b183), .val (.ref b191), .val (.ref b215), .unset, .unset] [])) _
  refine own_go (fun _ k => XS.aload X237.here hx rfl (hb hby at_66) rfl rfl k) ?_
  show own_G p e below (T237.setTop (mkF m 68 #[.val (.long q1), .second, .val (.long q2), .second, .val (.long q3), .second, .val (.long q4), .second, .val (.int p5), .val (.ref b183), .val (.ref b191), .val (.ref b215), .unset, .unset] [(.ref b183)])) _
  obtain ⟨cq246, kq246, q246a, q246b, q246c⟩ := isOf hZ rfl f238
  obtain ⟨_, _, ⟨T246, L246, k246, n246⟩, -, X246, ⟨Lc246, hQ246, l246, y246, z246⟩, st246⟩ := X237.virtualBack hx (y := (⟨"emberglass/TimeSpan", "empty", "()Z"⟩ : MethodName)) (z := (⟨"emberglass/TimeSpan", "empty", "()Z"⟩ : MethodName)) hown (mvT hZ (hw _ (List.mem_of_getElem? (i := 54) rfl))) (mvT hZ (hw _ (List.mem_of_getElem? (i := 55) rfl))) (notFace_of_selects (args := #[]) (mvT hZ (hw _ (List.mem_of_getElem? (i := 57) rfl)))) (mvT hZ (hw _ (List.mem_of_getElem? (i := 57) rfl))) (mvT hZ (hw _ (List.mem_of_getElem? (i := 56) rfl))) (by decide) (backOf (W := 0) (rm6 l Z a0 hw [] b183 (9223372036854775807 : Int64) (-9223372036854775808 : Int64) T237.heap n0 zs245 f239 f240) hZ (hw _ (List.mem_of_getElem? (i := 58) rfl)) (hw _ (List.mem_of_getElem? (i := 2) rfl)) (by decide) (by decide)) q246a q246c (g := (mkF m 68 #[.val (.long q1), .second, .val (.long q2), .second, .val (.long q3), .second, .val (.long q4), .second, .val (.int p5), .val (.ref b183), .val (.ref b191), .val (.ref b215), .unset, .unset] [(.ref b183)])) rfl (by rw [hml]; rfl) (Steps.refl _) (argsL := []) (rest := []) (lenOf pd_1 rfl) rfl (by show 2 * 0 + _ ≤ _; exact Nat.le_of_eq rfl) (hb hby at_68) (fun _ _ => ⟨rfl, rfl, (by decide : 0 + 1 + 0 + 1 + 0 + 0 + 1 + 0 + 0 + 0 ≤ _), (by decide : 0 + 2 + 0 + 10 + 0 + 0 + 10 + 0 + 0 + 0 ≤ _)⟩)
  dsimp only [Pt.U, Pt.locs, Pt.cells, Pt.slots] at X246 l246 y246 z246 st246 hQ246
  subst l246 y246 z246
  obtain ⟨z246', rfl, Nq246, hh246, hz246⟩ := hQ246
  have N246 := Fr.app N237 Nq246
  refine own_go (fun _ k => st246.trans k) ?_
  have e246 : T246.heap = T237.heap := hh246
  show own_G p e below (T246.setTop (mkF m 71 #[.val (.long q1), .second, .val (.long q2), .second, .val (.long q3), .second, .val (.long q4), .second, .val (.int p5), .val (.ref b183), .val (.ref b191), .val (.ref b215), .unset, .unset] [(.int z246')])) _
  rcases hz246 with ⟨rfl, -, -⟩ | ⟨rfl, g0⟩
  · show own_G p e below (T246.setTop (mkF m 71 #[.val (.long q1), .second, .val (.long q2), .second, .val (.long q3), .second, .val (.long q4), .second, .val (.int p5), .val (.ref b183), .val (.ref b191), .val (.ref b215), .unset, .unset] [(.int (1 : Int32))])) _
    refine own_go (fun _ k => XS.istore X246.here hx rfl (hb hby at_71) rfl (l' := #[.val (.long q1), .second, .val (.long q2), .second, .val (.long q3), .second, .val (.long q4), .second, .val (.int p5), .val (.ref b183), .val (.ref b191), .val (.ref b215), .val (.int (1 : Int32)), .unset]) rfl k) ?_
    show own_G p e below (T246.setTop (mkF m 73 #[.val (.long q1), .second, .val (.long q2), .second, .val (.long q3), .second, .val (.long q4), .second, .val (.int p5), .val (.ref b183), .val (.ref b191), .val (.ref b215), .val (.int (1 : Int32)), .unset] [])) _
    refine own_go (fun _ k => XS.iload X246.here hx rfl (hb hby at_73) rfl k) ?_
    show own_G p e below (T246.setTop (mkF m 75 #[.val (.long q1), .second, .val (.long q2), .second, .val (.long q3), .second, .val (.long q4), .second, .val (.int p5), .val (.ref b183), .val (.ref b191), .val (.ref b215), .val (.int (1 : Int32)), .unset] [(.int p5)])) _
    refine own_go (fun _ k => XS.iconst X246.here hx rfl (hb hby at_75) k) ?_
    show own_G p e below (T246.setTop (mkF m 76 #[.val (.long q1), .second, .val (.long q2), .second, .val (.long q3), .second, .val (.long q4), .second, .val (.int p5), .val (.ref b183), .val (.ref b191), .val (.ref b215), .val (.int (1 : Int32)), .unset] [(.int (3 : Int32)), (.int p5)])) _
    refine own_go (fun _ k => XS.iand X246.here hx rfl (hb hby at_76) rfl k) ?_
    show own_G p e below (T246.setTop (mkF m 77 #[.val (.long q1), .second, .val (.long q2), .second, .val (.long q3), .second, .val (.long q4), .second, .val (.int p5), .val (.ref b183), .val (.ref b191), .val (.ref b215), .val (.int (1 : Int32)), .unset] [(.int (p5 &&& (3 : Int32)))])) _
    generalize hn : (p5 &&& (3 : Int32)) = n
    have hn0 : 0 ≤ n.toInt := by rw [← hn]; exact own_m3 _
    show own_G p e below (T246.setTop (mkF m 77 #[.val (.long q1), .second, .val (.long q2), .second, .val (.long q3), .second, .val (.long q4), .second, .val (.int p5), .val (.ref b183), .val (.ref b191), .val (.ref b215), .val (.int (1 : Int32)), .unset] [(.int n)])) _
    refine own_go (fun _ k => XS.istore X246.here hx rfl (hb hby at_77) rfl (l' := #[.val (.long q1), .second, .val (.long q2), .second, .val (.long q3), .second, .val (.long q4), .second, .val (.int p5), .val (.ref b183), .val (.ref b191), .val (.ref b215), .val (.int (1 : Int32)), .val (.int n)]) rfl k) ?_
    show own_G p e below (T246.setTop (mkF m 79 #[.val (.long q1), .second, .val (.long q2), .second, .val (.long q3), .second, .val (.long q4), .second, .val (.int p5), .val (.ref b183), .val (.ref b191), .val (.ref b215), .val (.int (1 : Int32)), .val (.int n)] [])) _
    refine own_go (fun _ k => XS.iload X246.here hx rfl (hb hby at_79) rfl k) ?_
    show own_G p e below (T246.setTop (mkF m 81 #[.val (.long q1), .second, .val (.long q2), .second, .val (.long q3), .second, .val (.long q4), .second, .val (.int p5), .val (.ref b183), .val (.ref b191), .val (.ref b215), .val (.int (1 : Int32)), .val (.int n)] [(.int n)])) _
    refine own_go (fun _ k => XS.iconst X246.here hx rfl (hb hby at_81) k) ?_
    show own_G p e below (T246.setTop (mkF m 82 #[.val (.long q1), .second, .val (.long q2), .second, .val (.long q3), .second, .val (.long q4), .second, .val (.int p5), .val (.ref b183), .val (.ref b191), .val (.ref b215), .val (.int (1 : Int32)), .val (.int n)] [(.int (1 : Int32)), (.int n)])) _
    by_cases hc82_247 : n < (1 : Int32)
    · refine own_go (fun _ k => XS.icmpYes X246.here hx rfl (pc0 := 82) (pc' := 92) rfl (hb hby at_82) rfl (tlt hc82_247).1 (by decide) (by decide) k) ?_
      show own_G p e below (T246.setTop (mkF m 92 #[.val (.long q1), .second, .val (.long q2), .second, .val (.long q3), .second, .val (.long q4), .second, .val (.int p5), .val (.ref b183), .val (.ref b191), .val (.ref b215), .val (.int (1 : Int32)), .val (.int n)] [])) _
      refine own_go (fun _ k => XS.iload X246.here hx rfl (hb hby at_92) rfl k) ?_
      show own_G p e below (T246.setTop (mkF m 94 #[.val (.long q1), .second, .val (.long q2), .second, .val (.long q3), .second, .val (.long q4), .second, .val (.int p5), .val (.ref b183), .val (.ref b191), .val (.ref b215), .val (.int (1 : Int32)), .val (.int n)] [(.int n)])) _
      refine own_go (fun _ k => XS.iconst X246.here hx rfl (hb hby at_94) k) ?_
      show own_G p e below (T246.setTop (mkF m 95 #[.val (.long q1), .second, .val (.long q2), .second, .val (.long q3), .second, .val (.long q4), .second, .val (.int p5), .val (.ref b183), .val (.ref b191), .val (.ref b215), .val (.int (1 : Int32)), .val (.int n)] [(.int (2 : Int32)), (.int n)])) _
      refine own_go (fun _ k => XS.icmpYes X246.here hx rfl (pc0 := 95) (pc' := 105) rfl (hb hby at_95) rfl (tlt (own_l12 hc82_247)).1 (by decide) (by decide) k) ?_
      show own_G p e below (T246.setTop (mkF m 105 #[.val (.long q1), .second, .val (.long q2), .second, .val (.long q3), .second, .val (.long q4), .second, .val (.int p5), .val (.ref b183), .val (.ref b191), .val (.ref b215), .val (.int (1 : Int32)), .val (.int n)] [])) _
      refine own_go (fun _ k => XS.iload X246.here hx rfl (hb hby at_105) rfl k) ?_
      show own_G p e below (T246.setTop (mkF m 107 #[.val (.long q1), .second, .val (.long q2), .second, .val (.long q3), .second, .val (.long q4), .second, .val (.int p5), .val (.ref b183), .val (.ref b191), .val (.ref b215), .val (.int (1 : Int32)), .val (.int n)] [(.int n)])) _
      refine own_go (fun _ k => XS.iconst X246.here hx rfl (hb hby at_107) k) ?_
      show own_G p e below (T246.setTop (mkF m 108 #[.val (.long q1), .second, .val (.long q2), .second, .val (.long q3), .second, .val (.long q4), .second, .val (.int p5), .val (.ref b183), .val (.ref b191), .val (.ref b215), .val (.int (1 : Int32)), .val (.int n)] [(.int (3 : Int32)), (.int n)])) _
      refine own_go (fun _ k => XS.icmpYes X246.here hx rfl (pc0 := 108) (pc' := 118) rfl (hb hby at_108) rfl (tlt (own_l23 (own_l12 hc82_247))).1 (by decide) (by decide) k) ?_
      show own_G p e below (T246.setTop (mkF m 118 #[.val (.long q1), .second, .val (.long q2), .second, .val (.long q3), .second, .val (.long q4), .second, .val (.int p5), .val (.ref b183), .val (.ref b191), .val (.ref b215), .val (.int (1 : Int32)), .val (.int n)] [])) _
      refine own_go (fun _ k => XS.iload X246.here hx rfl (hb hby at_118) rfl k) ?_
      show own_G p e below (T246.setTop (mkF m 120 #[.val (.long q1), .second, .val (.long q2), .second, .val (.long q3), .second, .val (.long q4), .second, .val (.int p5), .val (.ref b183), .val (.ref b191), .val (.ref b215), .val (.int (1 : Int32)), .val (.int n)] [(.int (1 : Int32))])) _
      refine own_go (fun _ k => XS.ifNo X246.here hx rfl (hb hby at_120) rfl ((if0 _ _).trans (feq (by decide : ¬ ((1 : Int32) = (0 : Int32)))).1) k) ?_
      show own_G p e below (T246.setTop (mkF m 123 #[.val (.long q1), .second, .val (.long q2), .second, .val (.long q3), .second, .val (.long q4), .second, .val (.int p5), .val (.ref b183), .val (.ref b191), .val (.ref b215), .val (.int (1 : Int32)), .val (.int n)] [])) _
      refine own_go (fun _ k => XS.aload X246.here hx rfl (hb hby at_123) rfl rfl k) ?_
      show own_G p e below (T246.setTop (mkF m 125 #[.val (.long q1), .second, .val (.long q2), .second, .val (.long q3), .second, .val (.long q4), .second, .val (.int p5), .val (.ref b183), .val (.ref b191), .val (.ref b215), .val (.int (1 : Int32)), .val (.int n)] [(.ref b183)])) _
      obtain ⟨cq248, kq248, q248a, q248b, q248c⟩ := isOf hZ e246 f238
      obtain ⟨_, _, ⟨T248, L248, k248, n248⟩, -, X248, ⟨Lc248, hQ248, l248, y248, z248⟩, st248⟩ := X246.virtualBack hx (y := (⟨"emberglass/TimeSpan", "empty", "()Z"⟩ : MethodName)) (z := (⟨"emberglass/TimeSpan", "empty", "()Z"⟩ : MethodName)) hown (mvT hZ (hw _ (List.mem_of_getElem? (i := 54) rfl))) (mvT hZ (hw _ (List.mem_of_getElem? (i := 55) rfl))) (notFace_of_selects (args := #[]) (mvT hZ (hw _ (List.mem_of_getElem? (i := 57) rfl)))) (mvT hZ (hw _ (List.mem_of_getElem? (i := 57) rfl))) (mvT hZ (hw _ (List.mem_of_getElem? (i := 56) rfl))) (by decide) (backOf (W := 0) (rm6 l Z a0 hw [] b183 (9223372036854775807 : Int64) (-9223372036854775808 : Int64) T237.heap n0 zs245 f239 f240) hZ (hw _ (List.mem_of_getElem? (i := 58) rfl)) (hw _ (List.mem_of_getElem? (i := 2) rfl)) (by decide) (by decide)) q248a q248c (g := (mkF m 125 #[.val (.long q1), .second, .val (.long q2), .second, .val (.long q3), .second, .val (.long q4), .second, .val (.int p5), .val (.ref b183), .val (.ref b191), .val (.ref b215), .val (.int (1 : Int32)), .val (.int n)] [(.ref b183)])) rfl (by rw [hml]; rfl) (Steps.refl _) (argsL := []) (rest := []) (lenOf pd_1 rfl) rfl (by show 2 * 0 + _ ≤ _; exact Nat.le_of_eq rfl) (hb hby at_125) (fun _ _ => ⟨rfl, e246, (by decide : 0 + 1 + 0 + 1 + 0 + 0 + 1 + 0 + 0 + 0 + 0 ≤ _), (by decide : 0 + 2 + 0 + 10 + 0 + 0 + 10 + 0 + 0 + 0 + 0 ≤ _)⟩)
      dsimp only [Pt.U, Pt.locs, Pt.cells, Pt.slots] at X248 l248 y248 z248 st248 hQ248
      subst l248 y248 z248
      obtain ⟨z248', rfl, Nq248, hh248, hz248⟩ := hQ248
      have N248 := Fr.app N246 Nq248
      refine own_go (fun _ k => st248.trans k) ?_
      have e248 : T248.heap = T237.heap := hh248
      show own_G p e below (T248.setTop (mkF m 128 #[.val (.long q1), .second, .val (.long q2), .second, .val (.long q3), .second, .val (.long q4), .second, .val (.int p5), .val (.ref b183), .val (.ref b191), .val (.ref b215), .val (.int (1 : Int32)), .val (.int n)] [(.int z248')])) _
      rcases hz248 with ⟨rfl, g0, g1⟩ | ⟨rfl, g0⟩
      · show own_G p e below (T248.setTop (mkF m 128 #[.val (.long q1), .second, .val (.long q2), .second, .val (.long q3), .second, .val (.long q4), .second, .val (.int p5), .val (.ref b183), .val (.ref b191), .val (.ref b215), .val (.int (1 : Int32)), .val (.int n)] [(.int (1 : Int32))])) _
        refine own_go (fun _ k => XS.iload X248.here hx rfl (hb hby at_128) rfl k) ?_
        show own_G p e below (T248.setTop (mkF m 130 #[.val (.long q1), .second, .val (.long q2), .second, .val (.long q3), .second, .val (.long q4), .second, .val (.int p5), .val (.ref b183), .val (.ref b191), .val (.ref b215), .val (.int (1 : Int32)), .val (.int n)] [(.int n), (.int (1 : Int32))])) _
        refine own_go (fun _ k => XS.ifNo X248.here hx rfl (hb hby at_130) rfl ((if0 _ _).trans (teq (own_z hn0 hc82_247)).2) k) ?_
        show own_G p e below (T248.setTop (mkF m 133 #[.val (.long q1), .second, .val (.long q2), .second, .val (.long q3), .second, .val (.long q4), .second, .val (.int p5), .val (.ref b183), .val (.ref b191), .val (.ref b215), .val (.int (1 : Int32)), .val (.int n)] [(.int (1 : Int32))])) _
        refine own_go (fun _ k => XS.iconst X248.here hx rfl (hb hby at_133) k) ?_
        show own_G p e below (T248.setTop (mkF m 134 #[.val (.long q1), .second, .val (.long q2), .second, .val (.long q3), .second, .val (.long q4), .second, .val (.int p5), .val (.ref b183), .val (.ref b191), .val (.ref b215), .val (.int (1 : Int32)), .val (.int n)] [(.int (1 : Int32)), (.int (1 : Int32))])) _
        refine own_go (fun _ k => XS.goto X248.here hx rfl (pc0 := 134) (pc' := 138) rfl (hb hby at_134) (by decide) (by decide) k) ?_
        show own_G p e below (T248.setTop (mkF m 138 #[.val (.long q1), .second, .val (.long q2), .second, .val (.long q3), .second, .val (.long q4), .second, .val (.int p5), .val (.ref b183), .val (.ref b191), .val (.ref b215), .val (.int (1 : Int32)), .val (.int n)] [(.int (1 : Int32)), (.int (1 : Int32))])) _
        refine own_go (fun _ k => XS.icmpNo X248.here hx rfl (hb hby at_138) rfl (teq (by decide : (1 : Int32) = (1 : Int32))).2 k) ?_
        show own_G p e below (T248.setTop (mkF m 141 #[.val (.long q1), .second, .val (.long q2), .second, .val (.long q3), .second, .val (.long q4), .second, .val (.int p5), .val (.ref b183), .val (.ref b191), .val (.ref b215), .val (.int (1 : Int32)), .val (.int n)] [])) _
        refine own_go (fun _ k => XS.iconst X248.here hx rfl (hb hby at_141) k) ?_
        show own_G p e below (T248.setTop (mkF m 142 #[.val (.long q1), .second, .val (.long q2), .second, .val (.long q3), .second, .val (.long q4), .second, .val (.int p5), .val (.ref b183), .val (.ref b191), .val (.ref b215), .val (.int (1 : Int32)), .val (.int n)] [(.int (1 : Int32))])) _
        refine own_go (fun _ k => XS.goto X248.here hx rfl (pc0 := 142) (pc' := 146) rfl (hb hby at_142) (by decide) (by decide) k) ?_
        show own_G p e below (T248.setTop (mkF m 146 #[.val (.long q1), .second, .val (.long q2), .second, .val (.long q3), .second, .val (.long q4), .second, .val (.int p5), .val (.ref b183), .val (.ref b191), .val (.ref b215), .val (.int (1 : Int32)), .val (.int n)] [(.int (1 : Int32))])) _
        refine own_ret X248 hlk (v := some (.int (1 : Int32))) (fun h => by rw [hret] at h; cases h) (Q0 Z q1 q2 q3 q4 p5 h0 n0) (own_retI X248 hx (t := .boolean) hret rfl (Or.inl ⟨rfl, by simp, _, rfl⟩) (hb hby at_146)) (by decide) (by decide) ?_
        show Q0 Z q1 q2 q3 q4 p5 h0 n0 _ T248.heap _
        rw [e248]
        exact ⟨rfl, N248⟩
      · exact absurd ⟨rfl, rfl⟩ g0
    · refine own_go (fun _ k => XS.icmpNo X246.here hx rfl (hb hby at_82) rfl (flt hc82_247).1 k) ?_
      show own_G p e below (T246.setTop (mkF m 85 #[.val (.long q1), .second, .val (.long q2), .second, .val (.long q3), .second, .val (.long q4), .second, .val (.int p5), .val (.ref b183), .val (.ref b191), .val (.ref b215), .val (.int (1 : Int32)), .val (.int n)] [])) _
      refine own_go (fun _ k => XS.aload X246.here hx rfl (hb hby at_85) rfl rfl k) ?_
      show own_G p e below (T246.setTop (mkF m 87 #[.val (.long q1), .second, .val (.long q2), .second, .val (.long q3), .second, .val (.long q4), .second, .val (.int p5), .val (.ref b183), .val (.ref b191), .val (.ref b215), .val (.int (1 : Int32)), .val (.int n)] [(.ref b183)])) _
      refine own_go (fun _ k => XS.aload X246.here hx rfl (hb hby at_87) rfl rfl k) ?_
      show own_G p e below (T246.setTop (mkF m 89 #[.val (.long q1), .second, .val (.long q2), .second, .val (.long q3), .second, .val (.long q4), .second, .val (.int p5), .val (.ref b183), .val (.ref b191), .val (.ref b215), .val (.int (1 : Int32)), .val (.int n)] [(.ref b191), (.ref b183)])) _
      obtain ⟨cq249, kq249, q249a, q249b, q249c⟩ := isOf hZ e246 f238
      obtain ⟨_, _, ⟨T249, L249, k249, n249⟩, -, X249, ⟨Lc249, hQ249, l249, y249, z249⟩, st249⟩ := X246.virtualBack hx (y := (⟨"emberglass/TimeSpan", "add", "(Lemberglass/ChunkHeader;)V"⟩ : MethodName)) (z := (⟨"emberglass/TimeSpan", "add", "(Lemberglass/ChunkHeader;)V"⟩ : MethodName)) hown (mvT hZ (hw _ (List.mem_of_getElem? (i := 59) rfl))) (mvT hZ (hw _ (List.mem_of_getElem? (i := 60) rfl))) (notFace_of_selects (args := #[]) (mvT hZ (hw _ (List.mem_of_getElem? (i := 62) rfl)))) (mvT hZ (hw _ (List.mem_of_getElem? (i := 62) rfl))) (mvT hZ (hw _ (List.mem_of_getElem? (i := 61) rfl))) (by decide) (backOf (W := 0) (rm7 l Z a0 hw [] b183 b191 (9223372036854775807 : Int64) (-9223372036854775808 : Int64) q1 du208 T237.heap n0 zs245 f238 f239 f240 ge184 f241 f242 f243 ha208 hb208) hZ (hw _ (List.mem_of_getElem? (i := 63) rfl)) (hw _ (List.mem_of_getElem? (i := 2) rfl)) (by decide) (by decide)) q249a q249c (g := (mkF m 89 #[.val (.long q1), .second, .val (.long q2), .second, .val (.long q3), .second, .val (.long q4), .second, .val (.int p5), .val (.ref b183), .val (.ref b191), .val (.ref b215), .val (.int (1 : Int32)), .val (.int n)] [(.ref b191), (.ref b183)])) rfl (by rw [hml]; rfl) (Steps.refl _) (argsL := [(.ref b191)]) (rest := []) (lenOf pd_5 rfl) rfl (by show 2 * 0 + _ ≤ _; exact Nat.le_of_eq rfl) (hb hby at_89) (fun _ _ => ⟨rfl, e246, (by decide : 0 + 1 + 0 + 1 + 0 + 0 + 1 + 0 + 0 + 0 + 0 ≤ _), (by decide : 0 + 2 + 0 + 10 + 0 + 0 + 10 + 0 + 0 + 0 + 0 ≤ _)⟩)
      dsimp only [Pt.U, Pt.locs, Pt.cells, Pt.slots] at X249 l249 y249 z249 st249 hQ249
      subst l249 y249 z249
      obtain ⟨rfl, Nq249, K249, E249q, Fs249, Fe249⟩ := hQ249
      have N249 := Fr.app N246 Nq249
      refine own_go (fun _ k => st249.trans k) ?_
      have f250 := f238.keep K249
      have f251 := f241.keep K249
      have f252 := f242.keep K249 (ninS (Ne.symm ne192) nin0)
      have f253 := f243.keep K249 (ninS (Ne.symm ne192) nin0)
      have f254 := E237q.keep K249
      have f255 := Fs237.keep K249 (ninS (Ne.symm ne216) nin0)
      have f256 := Fd237.keep K249 (ninS (Ne.symm ne216) nin0)
      have zs257 : n0 ≤ T249.heap.size := Nat.le_trans zs245 K249.1
      have hne249 : ¬ ((own_min (9223372036854775807 : Int64) q1) = (9223372036854775807 : Int64) ∧ (own_max (-9223372036854775808 : Int64) (q1 + du208)) = (-9223372036854775808 : Int64)) := own_first hb208
      show own_G p e below (T249.setTop (mkF m 92 #[.val (.long q1), .second, .val (.long q2), .second, .val (.long q3), .second, .val (.long q4), .second, .val (.int p5), .val (.ref b183), .val (.ref b191), .val (.ref b215), .val (.int (1 : Int32)), .val (.int n)] [])) _
      refine own_go (fun _ k => XS.iload X249.here hx rfl (hb hby at_92) rfl k) ?_
      show own_G p e below (T249.setTop (mkF m 94 #[.val (.long q1), .second, .val (.long q2), .second, .val (.long q3), .second, .val (.long q4), .second, .val (.int p5), .val (.ref b183), .val (.ref b191), .val (.ref b215), .val (.int (1 : Int32)), .val (.int n)] [(.int n)])) _
      refine own_go (fun _ k => XS.iconst X249.here hx rfl (hb hby at_94) k) ?_
      show own_G p e below (T249.setTop (mkF m 95 #[.val (.long q1), .second, .val (.long q2), .second, .val (.long q3), .second, .val (.long q4), .second, .val (.int p5), .val (.ref b183), .val (.ref b191), .val (.ref b215), .val (.int (1 : Int32)), .val (.int n)] [(.int (2 : Int32)), (.int n)])) _
      by_cases hc95_258 : n < (2 : Int32)
      · refine own_go (fun _ k => XS.icmpYes X249.here hx rfl (pc0 := 95) (pc' := 105) rfl (hb hby at_95) rfl (tlt hc95_258).1 (by decide) (by decide) k) ?_
        show own_G p e below (T249.setTop (mkF m 105 #[.val (.long q1), .second, .val (.long q2), .second, .val (.long q3), .second, .val (.long q4), .second, .val (.int p5), .val (.ref b183), .val (.ref b191), .val (.ref b215), .val (.int (1 : Int32)), .val (.int n)] [])) _
        refine own_go (fun _ k => XS.iload X249.here hx rfl (hb hby at_105) rfl k) ?_
        show own_G p e below (T249.setTop (mkF m 107 #[.val (.long q1), .second, .val (.long q2), .second, .val (.long q3), .second, .val (.long q4), .second, .val (.int p5), .val (.ref b183), .val (.ref b191), .val (.ref b215), .val (.int (1 : Int32)), .val (.int n)] [(.int n)])) _
        refine own_go (fun _ k => XS.iconst X249.here hx rfl (hb hby at_107) k) ?_
        show own_G p e below (T249.setTop (mkF m 108 #[.val (.long q1), .second, .val (.long q2), .second, .val (.long q3), .second, .val (.long q4), .second, .val (.int p5), .val (.ref b183), .val (.ref b191), .val (.ref b215), .val (.int (1 : Int32)), .val (.int n)] [(.int (3 : Int32)), (.int n)])) _
        refine own_go (fun _ k => XS.icmpYes X249.here hx rfl (pc0 := 108) (pc' := 118) rfl (hb hby at_108) rfl (tlt (own_l23 hc95_258)).1 (by decide) (by decide) k) ?_
        show own_G p e below (T249.setTop (mkF m 118 #[.val (.long q1), .second, .val (.long q2), .second, .val (.long q3), .second, .val (.long q4), .second, .val (.int p5), .val (.ref b183), .val (.ref b191), .val (.ref b215), .val (.int (1 : Int32)), .val (.int n)] [])) _
        refine own_go (fun _ k => XS.iload X249.here hx rfl (hb hby at_118) rfl k) ?_
        show own_G p e below (T249.setTop (mkF m 120 #[.val (.long q1), .second, .val (.long q2), .second, .val (.long q3), .second, .val (.long q4), .second, .val (.int p5), .val (.ref b183), .val (.ref b191), .val (.ref b215), .val (.int (1 : Int32)), .val (.int n)] [(.int (1 : Int32))])) _
        refine own_go (fun _ k => XS.ifNo X249.here hx rfl (hb hby at_120) rfl ((if0 _ _).trans (feq (by decide : ¬ ((1 : Int32) = (0 : Int32)))).1) k) ?_
        show own_G p e below (T249.setTop (mkF m 123 #[.val (.long q1), .second, .val (.long q2), .second, .val (.long q3), .second, .val (.long q4), .second, .val (.int p5), .val (.ref b183), .val (.ref b191), .val (.ref b215), .val (.int (1 : Int32)), .val (.int n)] [])) _
        refine own_go (fun _ k => XS.aload X249.here hx rfl (hb hby at_123) rfl rfl k) ?_
        show own_G p e below (T249.setTop (mkF m 125 #[.val (.long q1), .second, .val (.long q2), .second, .val (.long q3), .second, .val (.long q4), .second, .val (.int p5), .val (.ref b183), .val (.ref b191), .val (.ref b215), .val (.int (1 : Int32)), .val (.int n)] [(.ref b183)])) _
        obtain ⟨cq259, kq259, q259a, q259b, q259c⟩ := isOf hZ rfl E249q
        obtain ⟨_, _, ⟨T259, L259, k259, n259⟩, -, X259, ⟨Lc259, hQ259, l259, y259, z259⟩, st259⟩ := X249.virtualBack hx (y := (⟨"emberglass/TimeSpan", "empty", "()Z"⟩ : MethodName)) (z := (⟨"emberglass/TimeSpan", "empty", "()Z"⟩ : MethodName)) hown (mvT hZ (hw _ (List.mem_of_getElem? (i := 54) rfl))) (mvT hZ (hw _ (List.mem_of_getElem? (i := 55) rfl))) (notFace_of_selects (args := #[]) (mvT hZ (hw _ (List.mem_of_getElem? (i := 57) rfl)))) (mvT hZ (hw _ (List.mem_of_getElem? (i := 57) rfl))) (mvT hZ (hw _ (List.mem_of_getElem? (i := 56) rfl))) (by decide) (backOf (W := 0) (rm6 l Z a0 hw [] b183 (own_min (9223372036854775807 : Int64) q1) (own_max (-9223372036854775808 : Int64) (q1 + du208)) T249.heap n0 zs257 Fs249 Fe249) hZ (hw _ (List.mem_of_getElem? (i := 58) rfl)) (hw _ (List.mem_of_getElem? (i := 2) rfl)) (by decide) (by decide)) q259a q259c (g := (mkF m 125 #[.val (.long q1), .second, .val (.long q2), .second, .val (.long q3), .second, .val (.long q4), .second, .val (.int p5), .val (.ref b183), .val (.ref b191), .val (.ref b215), .val (.int (1 : Int32)), .val (.int n)] [(.ref b183)])) rfl (by rw [hml]; rfl) (Steps.refl _) (argsL := []) (rest := []) (lenOf pd_1 rfl) rfl (by show 2 * 0 + _ ≤ _; exact Nat.le_of_eq rfl) (hb hby at_125) (fun _ _ => ⟨rfl, rfl, (by decide : 0 + 1 + 0 + 1 + 0 + 0 + 1 + 0 + 0 + 0 + 0 + 0 ≤ _), (by decide : 0 + 2 + 0 + 10 + 0 + 0 + 10 + 0 + 0 + 0 + 0 + 0 ≤ _)⟩)
        dsimp only [Pt.U, Pt.locs, Pt.cells, Pt.slots] at X259 l259 y259 z259 st259 hQ259
        subst l259 y259 z259
        obtain ⟨z259', rfl, Nq259, hh259, hz259⟩ := hQ259
        have N259 := Fr.app N249 Nq259
        refine own_go (fun _ k => st259.trans k) ?_
        have e259 : T259.heap = T249.heap := hh259
        show own_G p e below (T259.setTop (mkF m 128 #[.val (.long q1), .second, .val (.long q2), .second, .val (.long q3), .second, .val (.long q4), .second, .val (.int p5), .val (.ref b183), .val (.ref b191), .val (.ref b215), .val (.int (1 : Int32)), .val (.int n)] [(.int z259')])) _
        rcases hz259 with ⟨rfl, g0, g1⟩ | ⟨rfl, g0⟩
        · exact absurd ⟨g0, g1⟩ hne249
        · show own_G p e below (T259.setTop (mkF m 128 #[.val (.long q1), .second, .val (.long q2), .second, .val (.long q3), .second, .val (.long q4), .second, .val (.int p5), .val (.ref b183), .val (.ref b191), .val (.ref b215), .val (.int (1 : Int32)), .val (.int n)] [(.int (0 : Int32))])) _
          refine own_go (fun _ k => XS.iload X259.here hx rfl (hb hby at_128) rfl k) ?_
          show own_G p e below (T259.setTop (mkF m 130 #[.val (.long q1), .second, .val (.long q2), .second, .val (.long q3), .second, .val (.long q4), .second, .val (.int p5), .val (.ref b183), .val (.ref b191), .val (.ref b215), .val (.int (1 : Int32)), .val (.int n)] [(.int n), (.int (0 : Int32))])) _
          refine own_go (fun _ k => XS.ifYes X259.here hx rfl (pc0 := 130) (pc' := 137) rfl (hb hby at_130) rfl ((if0 _ _).trans (feq (own_nz hc82_247)).2) (by decide) (by decide) k) ?_
          show own_G p e below (T259.setTop (mkF m 137 #[.val (.long q1), .second, .val (.long q2), .second, .val (.long q3), .second, .val (.long q4), .second, .val (.int p5), .val (.ref b183), .val (.ref b191), .val (.ref b215), .val (.int (1 : Int32)), .val (.int n)] [(.int (0 : Int32))])) _
          refine own_go (fun _ k => XS.iconst X259.here hx rfl (hb hby at_137) k) ?_
          show own_G p e below (T259.setTop (mkF m 138 #[.val (.long q1), .second, .val (.long q2), .second, .val (.long q3), .second, .val (.long q4), .second, .val (.int p5), .val (.ref b183), .val (.ref b191), .val (.ref b215), .val (.int (1 : Int32)), .val (.int n)] [(.int (0 : Int32)), (.int (0 : Int32))])) _
          refine own_go (fun _ k => XS.icmpNo X259.here hx rfl (hb hby at_138) rfl (teq (by decide : (0 : Int32) = (0 : Int32))).2 k) ?_
          show own_G p e below (T259.setTop (mkF m 141 #[.val (.long q1), .second, .val (.long q2), .second, .val (.long q3), .second, .val (.long q4), .second, .val (.int p5), .val (.ref b183), .val (.ref b191), .val (.ref b215), .val (.int (1 : Int32)), .val (.int n)] [])) _
          refine own_go (fun _ k => XS.iconst X259.here hx rfl (hb hby at_141) k) ?_
          show own_G p e below (T259.setTop (mkF m 142 #[.val (.long q1), .second, .val (.long q2), .second, .val (.long q3), .second, .val (.long q4), .second, .val (.int p5), .val (.ref b183), .val (.ref b191), .val (.ref b215), .val (.int (1 : Int32)), .val (.int n)] [(.int (1 : Int32))])) _
          refine own_go (fun _ k => XS.goto X259.here hx rfl (pc0 := 142) (pc' := 146) rfl (hb hby at_142) (by decide) (by decide) k) ?_
          show own_G p e below (T259.setTop (mkF m 146 #[.val (.long q1), .second, .val (.long q2), .second, .val (.long q3), .second, .val (.long q4), .second, .val (.int p5), .val (.ref b183), .val (.ref b191), .val (.ref b215), .val (.int (1 : Int32)), .val (.int n)] [(.int (1 : Int32))])) _
          refine own_ret X259 hlk (v := some (.int (1 : Int32))) (fun h => by rw [hret] at h; cases h) (Q0 Z q1 q2 q3 q4 p5 h0 n0) (own_retI X259 hx (t := .boolean) hret rfl (Or.inl ⟨rfl, by simp, _, rfl⟩) (hb hby at_146)) (by decide) (by decide) ?_
          show Q0 Z q1 q2 q3 q4 p5 h0 n0 _ T259.heap _
          rw [e259]
          exact ⟨rfl, N259⟩
      · refine own_go (fun _ k => XS.icmpNo X249.here hx rfl (hb hby at_95) rfl (flt hc95_258).1 k) ?_
        show own_G p e below (T249.setTop (mkF m 98 #[.val (.long q1), .second, .val (.long q2), .second, .val (.long q3), .second, .val (.long q4), .second, .val (.int p5), .val (.ref b183), .val (.ref b191), .val (.ref b215), .val (.int (1 : Int32)), .val (.int n)] [])) _
        refine own_go (fun _ k => XS.aload X249.here hx rfl (hb hby at_98) rfl rfl k) ?_
        show own_G p e below (T249.setTop (mkF m 100 #[.val (.long q1), .second, .val (.long q2), .second, .val (.long q3), .second, .val (.long q4), .second, .val (.int p5), .val (.ref b183), .val (.ref b191), .val (.ref b215), .val (.int (1 : Int32)), .val (.int n)] [(.ref b183)])) _
        refine own_go (fun _ k => XS.aload X249.here hx rfl (hb hby at_100) rfl rfl k) ?_
        show own_G p e below (T249.setTop (mkF m 102 #[.val (.long q1), .second, .val (.long q2), .second, .val (.long q3), .second, .val (.long q4), .second, .val (.int p5), .val (.ref b183), .val (.ref b191), .val (.ref b215), .val (.int (1 : Int32)), .val (.int n)] [(.ref b215), (.ref b183)])) _
        obtain ⟨cq260, kq260, q260a, q260b, q260c⟩ := isOf hZ rfl E249q
        obtain ⟨_, _, ⟨T260, L260, k260, n260⟩, -, X260, ⟨Lc260, hQ260, l260, y260, z260⟩, st260⟩ := X249.virtualBack hx (y := (⟨"emberglass/TimeSpan", "add", "(Lemberglass/ChunkHeader;)V"⟩ : MethodName)) (z := (⟨"emberglass/TimeSpan", "add", "(Lemberglass/ChunkHeader;)V"⟩ : MethodName)) hown (mvT hZ (hw _ (List.mem_of_getElem? (i := 59) rfl))) (mvT hZ (hw _ (List.mem_of_getElem? (i := 60) rfl))) (notFace_of_selects (args := #[]) (mvT hZ (hw _ (List.mem_of_getElem? (i := 62) rfl)))) (mvT hZ (hw _ (List.mem_of_getElem? (i := 62) rfl))) (mvT hZ (hw _ (List.mem_of_getElem? (i := 61) rfl))) (by decide) (backOf (W := 0) (rm7 l Z a0 hw [] b183 b215 (own_min (9223372036854775807 : Int64) q1) (own_max (-9223372036854775808 : Int64) (q1 + du208)) q3 du236 T249.heap n0 zs257 E249q Fs249 Fe249 ge184 f254 f255 f256 ha236 hb236) hZ (hw _ (List.mem_of_getElem? (i := 63) rfl)) (hw _ (List.mem_of_getElem? (i := 2) rfl)) (by decide) (by decide)) q260a q260c (g := (mkF m 102 #[.val (.long q1), .second, .val (.long q2), .second, .val (.long q3), .second, .val (.long q4), .second, .val (.int p5), .val (.ref b183), .val (.ref b191), .val (.ref b215), .val (.int (1 : Int32)), .val (.int n)] [(.ref b215), (.ref b183)])) rfl (by rw [hml]; rfl) (Steps.refl _) (argsL := [(.ref b215)]) (rest := []) (lenOf pd_5 rfl) rfl (by show 2 * 0 + _ ≤ _; exact Nat.le_of_eq rfl) (hb hby at_102) (fun _ _ => ⟨rfl, rfl, (by decide : 0 + 1 + 0 + 1 + 0 + 0 + 1 + 0 + 0 + 0 + 0 + 0 ≤ _), (by decide : 0 + 2 + 0 + 10 + 0 + 0 + 10 + 0 + 0 + 0 + 0 + 0 ≤ _)⟩)
        dsimp only [Pt.U, Pt.locs, Pt.cells, Pt.slots] at X260 l260 y260 z260 st260 hQ260
        subst l260 y260 z260
        obtain ⟨rfl, Nq260, K260, E260q, Fs260, Fe260⟩ := hQ260
        have N260 := Fr.app N249 Nq260
        refine own_go (fun _ k => st260.trans k) ?_
        have f261 := E249q.keep K260
        have f262 := f251.keep K260
        have f263 := f252.keep K260 (ninS (Ne.symm ne192) nin0)
        have f264 := f253.keep K260 (ninS (Ne.symm ne192) nin0)
        have f265 := f254.keep K260
        have f266 := f255.keep K260 (ninS (Ne.symm ne216) nin0)
        have f267 := f256.keep K260 (ninS (Ne.symm ne216) nin0)
        have zs268 : n0 ≤ T260.heap.size := Nat.le_trans zs257 K260.1
        have hne260 : ¬ ((own_min (own_min (9223372036854775807 : Int64) q1) q3) = (9223372036854775807 : Int64) ∧ (own_max (own_max (-9223372036854775808 : Int64) (q1 + du208)) (q3 + du236)) = (-9223372036854775808 : Int64)) := own_more hne249
        show own_G p e below (T260.setTop (mkF m 105 #[.val (.long q1), .second, .val (.long q2), .second, .val (.long q3), .second, .val (.long q4), .second, .val (.int p5), .val (.ref b183), .val (.ref b191), .val (.ref b215), .val (.int (1 : Int32)), .val (.int n)] [])) _
        refine own_go (fun _ k => XS.iload X260.here hx rfl (hb hby at_105) rfl k) ?_
        show own_G p e below (T260.setTop (mkF m 107 #[.val (.long q1), .second, .val (.long q2), .second, .val (.long q3), .second, .val (.long q4), .second, .val (.int p5), .val (.ref b183), .val (.ref b191), .val (.ref b215), .val (.int (1 : Int32)), .val (.int n)] [(.int n)])) _
        refine own_go (fun _ k => XS.iconst X260.here hx rfl (hb hby at_107) k) ?_
        show own_G p e below (T260.setTop (mkF m 108 #[.val (.long q1), .second, .val (.long q2), .second, .val (.long q3), .second, .val (.long q4), .second, .val (.int p5), .val (.ref b183), .val (.ref b191), .val (.ref b215), .val (.int (1 : Int32)), .val (.int n)] [(.int (3 : Int32)), (.int n)])) _
        by_cases hc108_269 : n < (3 : Int32)
        · refine own_go (fun _ k => XS.icmpYes X260.here hx rfl (pc0 := 108) (pc' := 118) rfl (hb hby at_108) rfl (tlt hc108_269).1 (by decide) (by decide) k) ?_
          show own_G p e below (T260.setTop (mkF m 118 #[.val (.long q1), .second, .val (.long q2), .second, .val (.long q3), .second, .val (.long q4), .second, .val (.int p5), .val (.ref b183), .val (.ref b191), .val (.ref b215), .val (.int (1 : Int32)), .val (.int n)] [])) _
          refine own_go (fun _ k => XS.iload X260.here hx rfl (hb hby at_118) rfl k) ?_
          show own_G p e below (T260.setTop (mkF m 120 #[.val (.long q1), .second, .val (.long q2), .second, .val (.long q3), .second, .val (.long q4), .second, .val (.int p5), .val (.ref b183), .val (.ref b191), .val (.ref b215), .val (.int (1 : Int32)), .val (.int n)] [(.int (1 : Int32))])) _
          refine own_go (fun _ k => XS.ifNo X260.here hx rfl (hb hby at_120) rfl ((if0 _ _).trans (feq (by decide : ¬ ((1 : Int32) = (0 : Int32)))).1) k) ?_
          show own_G p e below (T260.setTop (mkF m 123 #[.val (.long q1), .second, .val (.long q2), .second, .val (.long q3), .second, .val (.long q4), .second, .val (.int p5), .val (.ref b183), .val (.ref b191), .val (.ref b215), .val (.int (1 : Int32)), .val (.int n)] [])) _
          refine own_go (fun _ k => XS.aload X260.here hx rfl (hb hby at_123) rfl rfl k) ?_
          show own_G p e below (T260.setTop (mkF m 125 #[.val (.long q1), .second, .val (.long q2), .second, .val (.long q3), .second, .val (.long q4), .second, .val (.int p5), .val (.ref b183), .val (.ref b191), .val (.ref b215), .val (.int (1 : Int32)), .val (.int n)] [(.ref b183)])) _
          obtain ⟨cq270, kq270, q270a, q270b, q270c⟩ := isOf hZ rfl E260q
          obtain ⟨_, _, ⟨T270, L270, k270, n270⟩, -, X270, ⟨Lc270, hQ270, l270, y270, z270⟩, st270⟩ := X260.virtualBack hx (y := (⟨"emberglass/TimeSpan", "empty", "()Z"⟩ : MethodName)) (z := (⟨"emberglass/TimeSpan", "empty", "()Z"⟩ : MethodName)) hown (mvT hZ (hw _ (List.mem_of_getElem? (i := 54) rfl))) (mvT hZ (hw _ (List.mem_of_getElem? (i := 55) rfl))) (notFace_of_selects (args := #[]) (mvT hZ (hw _ (List.mem_of_getElem? (i := 57) rfl)))) (mvT hZ (hw _ (List.mem_of_getElem? (i := 57) rfl))) (mvT hZ (hw _ (List.mem_of_getElem? (i := 56) rfl))) (by decide) (backOf (W := 0) (rm6 l Z a0 hw [] b183 (own_min (own_min (9223372036854775807 : Int64) q1) q3) (own_max (own_max (-9223372036854775808 : Int64) (q1 + du208)) (q3 + du236)) T260.heap n0 zs268 Fs260 Fe260) hZ (hw _ (List.mem_of_getElem? (i := 58) rfl)) (hw _ (List.mem_of_getElem? (i := 2) rfl)) (by decide) (by decide)) q270a q270c (g := (mkF m 125 #[.val (.long q1), .second, .val (.long q2), .second, .val (.long q3), .second, .val (.long q4), .second, .val (.int p5), .val (.ref b183), .val (.ref b191), .val (.ref b215), .val (.int (1 : Int32)), .val (.int n)] [(.ref b183)])) rfl (by rw [hml]; rfl) (Steps.refl _) (argsL := []) (rest := []) (lenOf pd_1 rfl) rfl (by show 2 * 0 + _ ≤ _; exact Nat.le_of_eq rfl) (hb hby at_125) (fun _ _ => ⟨rfl, rfl, (by decide : 0 + 1 + 0 + 1 + 0 + 0 + 1 + 0 + 0 + 0 + 0 + 0 + 0 ≤ _), (by decide : 0 + 2 + 0 + 10 + 0 + 0 + 10 + 0 + 0 + 0 + 0 + 0 + 0 ≤ _)⟩)
          dsimp only [Pt.U, Pt.locs, Pt.cells, Pt.slots] at X270 l270 y270 z270 st270 hQ270
          subst l270 y270 z270
          obtain ⟨z270', rfl, Nq270, hh270, hz270⟩ := hQ270
          have N270 := Fr.app N260 Nq270
          refine own_go (fun _ k => st270.trans k) ?_
          have e270 : T270.heap = T260.heap := hh270
          show own_G p e below (T270.setTop (mkF m 128 #[.val (.long q1), .second, .val (.long q2), .second, .val (.long q3), .second, .val (.long q4), .second, .val (.int p5), .val (.ref b183), .val (.ref b191), .val (.ref b215), .val (.int (1 : Int32)), .val (.int n)] [(.int z270')])) _
          rcases hz270 with ⟨rfl, g0, g1⟩ | ⟨rfl, g0⟩
          · exact absurd ⟨g0, g1⟩ hne260
          · show own_G p e below (T270.setTop (mkF m 128 #[.val (.long q1), .second, .val (.long q2), .second, .val (.long q3), .second, .val (.long q4), .second, .val (.int p5), .val (.ref b183), .val (.ref b191), .val (.ref b215), .val (.int (1 : Int32)), .val (.int n)] [(.int (0 : Int32))])) _
            refine own_go (fun _ k => XS.iload X270.here hx rfl (hb hby at_128) rfl k) ?_
            show own_G p e below (T270.setTop (mkF m 130 #[.val (.long q1), .second, .val (.long q2), .second, .val (.long q3), .second, .val (.long q4), .second, .val (.int p5), .val (.ref b183), .val (.ref b191), .val (.ref b215), .val (.int (1 : Int32)), .val (.int n)] [(.int n), (.int (0 : Int32))])) _
            refine own_go (fun _ k => XS.ifYes X270.here hx rfl (pc0 := 130) (pc' := 137) rfl (hb hby at_130) rfl ((if0 _ _).trans (feq (own_nz hc82_247)).2) (by decide) (by decide) k) ?_
            show own_G p e below (T270.setTop (mkF m 137 #[.val (.long q1), .second, .val (.long q2), .second, .val (.long q3), .second, .val (.long q4), .second, .val (.int p5), .val (.ref b183), .val (.ref b191), .val (.ref b215), .val (.int (1 : Int32)), .val (.int n)] [(.int (0 : Int32))])) _
            refine own_go (fun _ k => XS.iconst X270.here hx rfl (hb hby at_137) k) ?_
            show own_G p e below (T270.setTop (mkF m 138 #[.val (.long q1), .second, .val (.long q2), .second, .val (.long q3), .second, .val (.long q4), .second, .val (.int p5), .val (.ref b183), .val (.ref b191), .val (.ref b215), .val (.int (1 : Int32)), .val (.int n)] [(.int (0 : Int32)), (.int (0 : Int32))])) _
            refine own_go (fun _ k => XS.icmpNo X270.here hx rfl (hb hby at_138) rfl (teq (by decide : (0 : Int32) = (0 : Int32))).2 k) ?_
            show own_G p e below (T270.setTop (mkF m 141 #[.val (.long q1), .second, .val (.long q2), .second, .val (.long q3), .second, .val (.long q4), .second, .val (.int p5), .val (.ref b183), .val (.ref b191), .val (.ref b215), .val (.int (1 : Int32)), .val (.int n)] [])) _
            refine own_go (fun _ k => XS.iconst X270.here hx rfl (hb hby at_141) k) ?_
            show own_G p e below (T270.setTop (mkF m 142 #[.val (.long q1), .second, .val (.long q2), .second, .val (.long q3), .second, .val (.long q4), .second, .val (.int p5), .val (.ref b183), .val (.ref b191), .val (.ref b215), .val (.int (1 : Int32)), .val (.int n)] [(.int (1 : Int32))])) _
            refine own_go (fun _ k => XS.goto X270.here hx rfl (pc0 := 142) (pc' := 146) rfl (hb hby at_142) (by decide) (by decide) k) ?_
            show own_G p e below (T270.setTop (mkF m 146 #[.val (.long q1), .second, .val (.long q2), .second, .val (.long q3), .second, .val (.long q4), .second, .val (.int p5), .val (.ref b183), .val (.ref b191), .val (.ref b215), .val (.int (1 : Int32)), .val (.int n)] [(.int (1 : Int32))])) _
            refine own_ret X270 hlk (v := some (.int (1 : Int32))) (fun h => by rw [hret] at h; cases h) (Q0 Z q1 q2 q3 q4 p5 h0 n0) (own_retI X270 hx (t := .boolean) hret rfl (Or.inl ⟨rfl, by simp, _, rfl⟩) (hb hby at_146)) (by decide) (by decide) ?_
            show Q0 Z q1 q2 q3 q4 p5 h0 n0 _ T270.heap _
            rw [e270]
            exact ⟨rfl, N270⟩
        · refine own_go (fun _ k => XS.icmpNo X260.here hx rfl (hb hby at_108) rfl (flt hc108_269).1 k) ?_
          show own_G p e below (T260.setTop (mkF m 111 #[.val (.long q1), .second, .val (.long q2), .second, .val (.long q3), .second, .val (.long q4), .second, .val (.int p5), .val (.ref b183), .val (.ref b191), .val (.ref b215), .val (.int (1 : Int32)), .val (.int n)] [])) _
          refine own_go (fun _ k => XS.aload X260.here hx rfl (hb hby at_111) rfl rfl k) ?_
          show own_G p e below (T260.setTop (mkF m 113 #[.val (.long q1), .second, .val (.long q2), .second, .val (.long q3), .second, .val (.long q4), .second, .val (.int p5), .val (.ref b183), .val (.ref b191), .val (.ref b215), .val (.int (1 : Int32)), .val (.int n)] [(.ref b183)])) _
          refine own_go (fun _ k => XS.aload X260.here hx rfl (hb hby at_113) rfl rfl k) ?_
          show own_G p e below (T260.setTop (mkF m 115 #[.val (.long q1), .second, .val (.long q2), .second, .val (.long q3), .second, .val (.long q4), .second, .val (.int p5), .val (.ref b183), .val (.ref b191), .val (.ref b215), .val (.int (1 : Int32)), .val (.int n)] [(.ref b191), (.ref b183)])) _
          obtain ⟨cq271, kq271, q271a, q271b, q271c⟩ := isOf hZ rfl E260q
          obtain ⟨_, _, ⟨T271, L271, k271, n271⟩, -, X271, ⟨Lc271, hQ271, l271, y271, z271⟩, st271⟩ := X260.virtualBack hx (y := (⟨"emberglass/TimeSpan", "add", "(Lemberglass/ChunkHeader;)V"⟩ : MethodName)) (z := (⟨"emberglass/TimeSpan", "add", "(Lemberglass/ChunkHeader;)V"⟩ : MethodName)) hown (mvT hZ (hw _ (List.mem_of_getElem? (i := 59) rfl))) (mvT hZ (hw _ (List.mem_of_getElem? (i := 60) rfl))) (notFace_of_selects (args := #[]) (mvT hZ (hw _ (List.mem_of_getElem? (i := 62) rfl)))) (mvT hZ (hw _ (List.mem_of_getElem? (i := 62) rfl))) (mvT hZ (hw _ (List.mem_of_getElem? (i := 61) rfl))) (by decide) (backOf (W := 0) (rm7 l Z a0 hw [] b183 b191 (own_min (own_min (9223372036854775807 : Int64) q1) q3) (own_max (own_max (-9223372036854775808 : Int64) (q1 + du208)) (q3 + du236)) q1 du208 T260.heap n0 zs268 E260q Fs260 Fe260 ge184 f262 f263 f264 ha208 hb208) hZ (hw _ (List.mem_of_getElem? (i := 63) rfl)) (hw _ (List.mem_of_getElem? (i := 2) rfl)) (by decide) (by decide)) q271a q271c (g := (mkF m 115 #[.val (.long q1), .second, .val (.long q2), .second, .val (.long q3), .second, .val (.long q4), .second, .val (.int p5), .val (.ref b183), .val (.ref b191), .val (.ref b215), .val (.int (1 : Int32)), .val (.int n)] [(.ref b191), (.ref b183)])) rfl (by rw [hml]; rfl) (Steps.refl _) (argsL := [(.ref b191)]) (rest := []) (lenOf pd_5 rfl) rfl (by show 2 * 0 + _ ≤ _; exact Nat.le_of_eq rfl) (hb hby at_115) (fun _ _ => ⟨rfl, rfl, (by decide : 0 + 1 + 0 + 1 + 0 + 0 + 1 + 0 + 0 + 0 + 0 + 0 + 0 ≤ _), (by decide : 0 + 2 + 0 + 10 + 0 + 0 + 10 + 0 + 0 + 0 + 0 + 0 + 0 ≤ _)⟩)
          dsimp only [Pt.U, Pt.locs, Pt.cells, Pt.slots] at X271 l271 y271 z271 st271 hQ271
          subst l271 y271 z271
          obtain ⟨rfl, Nq271, K271, E271q, Fs271, Fe271⟩ := hQ271
          have N271 := Fr.app N260 Nq271
          refine own_go (fun _ k => st271.trans k) ?_
          have f272 := E260q.keep K271
          have f273 := f262.keep K271
          have f274 := f263.keep K271 (ninS (Ne.symm ne192) nin0)
          have f275 := f264.keep K271 (ninS (Ne.symm ne192) nin0)
          have f276 := f265.keep K271
          have f277 := f266.keep K271 (ninS (Ne.symm ne216) nin0)
          have f278 := f267.keep K271 (ninS (Ne.symm ne216) nin0)
          have zs279 : n0 ≤ T271.heap.size := Nat.le_trans zs268 K271.1
          have hne271 : ¬ ((own_min (own_min (own_min (9223372036854775807 : Int64) q1) q3) q1) = (9223372036854775807 : Int64) ∧ (own_max (own_max (own_max (-9223372036854775808 : Int64) (q1 + du208)) (q3 + du236)) (q1 + du208)) = (-9223372036854775808 : Int64)) := own_more hne260
          show own_G p e below (T271.setTop (mkF m 118 #[.val (.long q1), .second, .val (.long q2), .second, .val (.long q3), .second, .val (.long q4), .second, .val (.int p5), .val (.ref b183), .val (.ref b191), .val (.ref b215), .val (.int (1 : Int32)), .val (.int n)] [])) _
          refine own_go (fun _ k => XS.iload X271.here hx rfl (hb hby at_118) rfl k) ?_
          show own_G p e below (T271.setTop (mkF m 120 #[.val (.long q1), .second, .val (.long q2), .second, .val (.long q3), .second, .val (.long q4), .second, .val (.int p5), .val (.ref b183), .val (.ref b191), .val (.ref b215), .val (.int (1 : Int32)), .val (.int n)] [(.int (1 : Int32))])) _
          refine own_go (fun _ k => XS.ifNo X271.here hx rfl (hb hby at_120) rfl ((if0 _ _).trans (feq (by decide : ¬ ((1 : Int32) = (0 : Int32)))).1) k) ?_
          show own_G p e below (T271.setTop (mkF m 123 #[.val (.long q1), .second, .val (.long q2), .second, .val (.long q3), .second, .val (.long q4), .second, .val (.int p5), .val (.ref b183), .val (.ref b191), .val (.ref b215), .val (.int (1 : Int32)), .val (.int n)] [])) _
          refine own_go (fun _ k => XS.aload X271.here hx rfl (hb hby at_123) rfl rfl k) ?_
          show own_G p e below (T271.setTop (mkF m 125 #[.val (.long q1), .second, .val (.long q2), .second, .val (.long q3), .second, .val (.long q4), .second, .val (.int p5), .val (.ref b183), .val (.ref b191), .val (.ref b215), .val (.int (1 : Int32)), .val (.int n)] [(.ref b183)])) _
          obtain ⟨cq280, kq280, q280a, q280b, q280c⟩ := isOf hZ rfl E271q
          obtain ⟨_, _, ⟨T280, L280, k280, n280⟩, -, X280, ⟨Lc280, hQ280, l280, y280, z280⟩, st280⟩ := X271.virtualBack hx (y := (⟨"emberglass/TimeSpan", "empty", "()Z"⟩ : MethodName)) (z := (⟨"emberglass/TimeSpan", "empty", "()Z"⟩ : MethodName)) hown (mvT hZ (hw _ (List.mem_of_getElem? (i := 54) rfl))) (mvT hZ (hw _ (List.mem_of_getElem? (i := 55) rfl))) (notFace_of_selects (args := #[]) (mvT hZ (hw _ (List.mem_of_getElem? (i := 57) rfl)))) (mvT hZ (hw _ (List.mem_of_getElem? (i := 57) rfl))) (mvT hZ (hw _ (List.mem_of_getElem? (i := 56) rfl))) (by decide) (backOf (W := 0) (rm6 l Z a0 hw [] b183 (own_min (own_min (own_min (9223372036854775807 : Int64) q1) q3) q1) (own_max (own_max (own_max (-9223372036854775808 : Int64) (q1 + du208)) (q3 + du236)) (q1 + du208)) T271.heap n0 zs279 Fs271 Fe271) hZ (hw _ (List.mem_of_getElem? (i := 58) rfl)) (hw _ (List.mem_of_getElem? (i := 2) rfl)) (by decide) (by decide)) q280a q280c (g := (mkF m 125 #[.val (.long q1), .second, .val (.long q2), .second, .val (.long q3), .second, .val (.long q4), .second, .val (.int p5), .val (.ref b183), .val (.ref b191), .val (.ref b215), .val (.int (1 : Int32)), .val (.int n)] [(.ref b183)])) rfl (by rw [hml]; rfl) (Steps.refl _) (argsL := []) (rest := []) (lenOf pd_1 rfl) rfl (by show 2 * 0 + _ ≤ _; exact Nat.le_of_eq rfl) (hb hby at_125) (fun _ _ => ⟨rfl, rfl, (by decide : 0 + 1 + 0 + 1 + 0 + 0 + 1 + 0 + 0 + 0 + 0 + 0 + 0 + 0 ≤ _), (by decide : 0 + 2 + 0 + 10 + 0 + 0 + 10 + 0 + 0 + 0 + 0 + 0 + 0 + 0 ≤ _)⟩)
          dsimp only [Pt.U, Pt.locs, Pt.cells, Pt.slots] at X280 l280 y280 z280 st280 hQ280
          subst l280 y280 z280
          obtain ⟨z280', rfl, Nq280, hh280, hz280⟩ := hQ280
          have N280 := Fr.app N271 Nq280
          refine own_go (fun _ k => st280.trans k) ?_
          have e280 : T280.heap = T271.heap := hh280
          show own_G p e below (T280.setTop (mkF m 128 #[.val (.long q1), .second, .val (.long q2), .second, .val (.long q3), .second, .val (.long q4), .second, .val (.int p5), .val (.ref b183), .val (.ref b191), .val (.ref b215), .val (.int (1 : Int32)), .val (.int n)] [(.int z280')])) _
          rcases hz280 with ⟨rfl, g0, g1⟩ | ⟨rfl, g0⟩
          · exact absurd ⟨g0, g1⟩ hne271
          · show own_G p e below (T280.setTop (mkF m 128 #[.val (.long q1), .second, .val (.long q2), .second, .val (.long q3), .second, .val (.long q4), .second, .val (.int p5), .val (.ref b183), .val (.ref b191), .val (.ref b215), .val (.int (1 : Int32)), .val (.int n)] [(.int (0 : Int32))])) _
            refine own_go (fun _ k => XS.iload X280.here hx rfl (hb hby at_128) rfl k) ?_
            show own_G p e below (T280.setTop (mkF m 130 #[.val (.long q1), .second, .val (.long q2), .second, .val (.long q3), .second, .val (.long q4), .second, .val (.int p5), .val (.ref b183), .val (.ref b191), .val (.ref b215), .val (.int (1 : Int32)), .val (.int n)] [(.int n), (.int (0 : Int32))])) _
            refine own_go (fun _ k => XS.ifYes X280.here hx rfl (pc0 := 130) (pc' := 137) rfl (hb hby at_130) rfl ((if0 _ _).trans (feq (own_nz hc82_247)).2) (by decide) (by decide) k) ?_
            show own_G p e below (T280.setTop (mkF m 137 #[.val (.long q1), .second, .val (.long q2), .second, .val (.long q3), .second, .val (.long q4), .second, .val (.int p5), .val (.ref b183), .val (.ref b191), .val (.ref b215), .val (.int (1 : Int32)), .val (.int n)] [(.int (0 : Int32))])) _
            refine own_go (fun _ k => XS.iconst X280.here hx rfl (hb hby at_137) k) ?_
            show own_G p e below (T280.setTop (mkF m 138 #[.val (.long q1), .second, .val (.long q2), .second, .val (.long q3), .second, .val (.long q4), .second, .val (.int p5), .val (.ref b183), .val (.ref b191), .val (.ref b215), .val (.int (1 : Int32)), .val (.int n)] [(.int (0 : Int32)), (.int (0 : Int32))])) _
            refine own_go (fun _ k => XS.icmpNo X280.here hx rfl (hb hby at_138) rfl (teq (by decide : (0 : Int32) = (0 : Int32))).2 k) ?_
            show own_G p e below (T280.setTop (mkF m 141 #[.val (.long q1), .second, .val (.long q2), .second, .val (.long q3), .second, .val (.long q4), .second, .val (.int p5), .val (.ref b183), .val (.ref b191), .val (.ref b215), .val (.int (1 : Int32)), .val (.int n)] [])) _
            refine own_go (fun _ k => XS.iconst X280.here hx rfl (hb hby at_141) k) ?_
            show own_G p e below (T280.setTop (mkF m 142 #[.val (.long q1), .second, .val (.long q2), .second, .val (.long q3), .second, .val (.long q4), .second, .val (.int p5), .val (.ref b183), .val (.ref b191), .val (.ref b215), .val (.int (1 : Int32)), .val (.int n)] [(.int (1 : Int32))])) _
            refine own_go (fun _ k => XS.goto X280.here hx rfl (pc0 := 142) (pc' := 146) rfl (hb hby at_142) (by decide) (by decide) k) ?_
            show own_G p e below (T280.setTop (mkF m 146 #[.val (.long q1), .second, .val (.long q2), .second, .val (.long q3), .second, .val (.long q4), .second, .val (.int p5), .val (.ref b183), .val (.ref b191), .val (.ref b215), .val (.int (1 : Int32)), .val (.int n)] [(.int (1 : Int32))])) _
            refine own_ret X280 hlk (v := some (.int (1 : Int32))) (fun h => by rw [hret] at h; cases h) (Q0 Z q1 q2 q3 q4 p5 h0 n0) (own_retI X280 hx (t := .boolean) hret rfl (Or.inl ⟨rfl, by simp, _, rfl⟩) (hb hby at_146)) (by decide) (by decide) ?_
            show Q0 Z q1 q2 q3 q4 p5 h0 n0 _ T280.heap _
            rw [e280]
            exact ⟨rfl, N280⟩
  · exact absurd ⟨rfl, rfl⟩ g0
set_option maxRecDepth 65536 in
set_option maxHeartbeats 40000000 in
theorem comes_1 {Post : Tables → Env → Array Value → State → Outcome → State → Prop} (hpost : ∀ tb e args s v u, (limb_1_1.after args s (.returned v) u = true ∧ limb_1_2.after args s (.returned v) u = true ∧ True) → FrameEnd s (.returned v) u (Jvm.fieldLocs frame_1_writes args s ++ Jvm.arrayLocs frame_1_arrays args s ++ Jvm.staticLocs frame_1_statics s) 16 128 → Post tb e args s (.returned v) u) :
    ArmFor flags0 classFile x code maxLocals ret World_1 tables_1 room_1 Calls_1 rest_1 Pre_1 Post := by
  intro l hfl _ _ p e ha hc hk s m args below hf hA hF happ hP
  obtain ⟨hcalls, hrest, hpre⟩ := hP
  obtain ⟨-, -, -, hnamed, -, -, -, hat⟩ := (Spec.applies_iff hf).mp happ
  obtain ⟨hg, hn⟩ := and_e (Cond.before_iff.mp (show (Jvm.Cond.and given_1 narrow_1).before args s = true from hpre))
  obtain ⟨g1, g2⟩ := and_e hg
  obtain ⟨g3, g4⟩ := and_e g2
  obtain ⟨g5, g6⟩ := and_e g4
  obtain ⟨g7, g8⟩ := and_e g6
  obtain ⟨g9, g10⟩ := and_e g8
  obtain ⟨w0, w1, w2, w3, w4, rfl⟩ : ∃ w0 w1 w2 w3 w4 : Value, args = #[w0, w1, w2, w3, w4] := by
    have hs : args.size = 5 := by simpa [Cond.value, given_1] using g1
    obtain ⟨L⟩ := args
    match L, hs with
    | [w0, w1, w2, w3, w4], _ => exact ⟨w0, w1, w2, w3, w4, rfl⟩
  have hw := fun d (hd : d ∈ tables_1) => atoms_spec (ws := Jvm.Cond.code x code maxLocals ret :: tables_1) hat d (List.mem_cons_of_mem _ hd)
  obtain ⟨i0, ei0⟩ := isL_v g3
  obtain rfl : w0 = (.long i0) := Option.some.inj ei0
  obtain ⟨i1, ei1⟩ := isL_v g5
  obtain rfl : w1 = (.long i1) := Option.some.inj ei1
  obtain ⟨i2, ei2⟩ := isL_v g7
  obtain rfl : w2 = (.long i2) := Option.some.inj ei2
  obtain ⟨i3, ei3⟩ := isL_v g9
  obtain rfl : w3 = (.long i3) := Option.some.inj ei3
  obtain ⟨i4, ei4⟩ := is_v g10
  obtain rfl : w4 = (.int i4) := Option.some.inj ei4
  obtain ⟨n, o, h1, h2, h3, _, L, rfl, ⟨rfl, N⟩, hq⟩ := rm0 l s _ hw tables_1 i0 i1 i2 i3 i4 s.heap s.heap.size (Nat.le_refl _) p e ha hc hk s m _ below hf ((Spec.applies_iff_loose hf).mp happ).1 ⟨rfl, State.Warmed39.refl s, rfl⟩ trivial
  refine ⟨n, _, h1, h2, h3, hpost _ _ _ _ _ _ ⟨Cond.after_iff.mpr rfl, Cond.after_iff.mpr (eq_i res_at (Term.int_eval (1)) rfl), trivial⟩ ⟨hq.1, hq.2.1, (hq.2.2.sift fun y hy => Or.inr (N y hy)).mono (by decide) (by decide)⟩⟩
theorem main_1_1 : Claimed_1_1 := comes_1 fun _ _ _ _ _ _ h hF => ⟨h.1, hF⟩
theorem main_1_2 : Claimed_1_2 := comes_1 fun _ _ _ _ _ _ h hF => ⟨h.2.1, hF⟩
end Jvm.Pilot.@@N@@
namespace Jvm.Pilot.@@N@@
open Jvm Jvm.ClassFile Sem Op Lib Jvm.Free Jvm.Stand Jvm.Pilot.@@N@@.Jvm.D
/-! MADE BY PROGRAM (witnessworld.py) out of the Statement's table words and the real class files: 12 classes; the members and pool entries that the words name. The judged class is class 1, her method 2. -/
namespace start1
open Jvm.ClassFile
def u (s : String) : CpInfo := .utf8 (stringToUtf16 s)
/-- a pool by its gaps: so many unusable entries, then the entry; so many at the end -/
def gap : Nat → List CpInfo → List CpInfo
  | 0, r => r
  | n + 1, r => .unusable :: gap n r
def poolList (es : List (Nat × CpInfo)) (last : Nat) : List CpInfo := es.foldr (fun e r => gap e.1 (e.2 :: r)) (gap last [])
def pool (es : List (Nat × CpInfo)) (last : Nat) : Array CpInfo := ⟨poolList es last⟩
def fileOf (pool : Array CpInfo) (this : Nat) (attrs : Array Attribute := #[]) (ms : Array MethodInfo := #[]) (fl : Nat := 33) (sup : Nat := 0) (ifs : Array Nat := #[]) (fds : Array FieldInfo := #[]) : ClassFile where
  minorVersion := 0
  majorVersion := 65
  constantPool := pool
  accessFlags := fl
  thisClass := this
  superClass := sup
  interfaces := ifs
  fields := fds
  methods := ms
  attributes := attrs
def plain (name : String) (sup : Option ClassId) : Class where
  name := name
  kind := .ordinary
  loader := none
  accessFlags := 33
  super := sup
  interfaces := #[]
  cf := none
  fields := #[]
  methods := #[]
  instanceTypes := #[]
  staticTypes := #[]
  resolved := #[]
  callSites := []
  init := .initialized
  statics := none
  mirror := none

def pool0 : Array CpInfo := pool [(5, u "<init>"), (0, u "()V"), (1, .class_ 10), (1, u "java/lang/Object")] 113

def k0c0 : Code := { maxStack := 0, maxLocals := 1, code := object_method_1_code, exceptionTable := #[], attributes := #[] }
def k0m0 : Method := { name := "<init>", desc := "()V", sig := { parameters := [], returnType := none }, accessFlags := 1, code := some k0c0 }
/-- java/lang/Object -/
def k0 : Class := { plain "java/lang/Object" none with
  accessFlags := 33
  interfaces := #[]
  cf := some (fileOf pool0 8 #[] #[{ accessFlags := 1, nameIndex := 5, descriptorIndex := 6, attributes := #[] }] 33 0 #[] #[])
  fields := #[]
  methods := #[k0m0]
  instanceTypes := #[]
  staticTypes := #[]
  resolved := Array.replicate 124 none
  statics := none }

def pool1 : Array CpInfo := pool [(2, .class_ 4), (0, .nameAndType 5 6), (0, u "java/lang/Object"), (0, u "<init>"), (0, u "()V"), (2, .long 9223372036854775807), (1, .class_ 12), (0, u "emberglass/TimeSpan"), (0, .methodref 11 3), (0, .class_ 15), (0, u "emberglass/ChunkHeader"), (0, .long 68), (1, .methodref 19 20), (0, .class_ 21), (0, .nameAndType 22 23), (0, u "emberglass/TimeSpanEmptyPinLaw"), (0, u "dur"), (0, u "(JJ)J"), (0, .long 1000000000), (1, .methodref 14 27), (0, .nameAndType 5 28), (0, u "(IIJJJJJJJI)V"), (0, .methodref 11 30), (0, .nameAndType 31 32), (0, u "empty"), (0, u "()Z"), (0, .methodref 11 34), (0, .nameAndType 35 36), (0, u "add"), (0, u "(Lemberglass/ChunkHeader;)V"), (3, u "law"), (0, u "(JJJJI)Z")] 2

def k1m0 : Method := { name := "<init>", desc := "()V", sig := { parameters := [], returnType := none }, accessFlags := 1, code := none }
def k1c1 : Code := { maxStack := 4, maxLocals := 6, code := method_2_code, exceptionTable := #[], attributes := #[] }
def k1m1 : Method := { name := "dur", desc := "(JJ)J", sig := { parameters := [.long, .long], returnType := some .long }, accessFlags := 10, code := some k1c1 }
def k1c2 : Code := { maxStack := 19, maxLocals := 14, code := code, exceptionTable := #[], attributes := #[] }
def k1m2 : Method := { name := "law", desc := "(JJJJI)Z", sig := { parameters := [.long, .long, .long, .long, .int], returnType := some .boolean }, accessFlags := 9, code := some k1c2 }
/-- emberglass/TimeSpanEmptyPinLaw -/
def k1 : Class := { plain "emberglass/TimeSpanEmptyPinLaw" (some 0) with
  accessFlags := 49
  interfaces := #[]
  cf := some (fileOf pool1 19 #[] #[{ accessFlags := 1, nameIndex := 5, descriptorIndex := 6, attributes := #[] }, { accessFlags := 10, nameIndex := 22, descriptorIndex := 23, attributes := #[] }, { accessFlags := 9, nameIndex := 40, descriptorIndex := 41, attributes := #[] }] 49 2 #[] #[])
  fields := #[]
  methods := #[k1m0, k1m1, k1m2]
  instanceTypes := #[]
  staticTypes := #[]
  resolved := Array.replicate 44 none
  statics := none }

def pool2 : Array CpInfo := pool [(1, .methodref 2 3), (0, .class_ 4), (0, .nameAndType 5 6), (0, u "java/lang/Object"), (0, u "<init>"), (0, u "()V"), (2, .long 9223372036854775807), (1, .fieldref 12 13), (0, .class_ 14), (0, .nameAndType 15 16), (0, u "emberglass/TimeSpan"), (0, u "startNanos"), (0, u "J"), (0, .long 9223372036854775808), (1, .fieldref 12 20), (0, .nameAndType 21 16), (0, u "endNanos"), (0, .methodref 23 24), (0, .class_ 25), (0, .nameAndType 15 26), (0, u "emberglass/ChunkHeader"), (0, u "()J"), (0, .methodref 28 29), (0, .class_ 30), (0, .nameAndType 31 32), (0, u "java/lang/Math"), (0, u "min"), (0, u "(JJ)J"), (0, .methodref 23 34), (0, .nameAndType 21 26), (0, .methodref 28 36), (0, .nameAndType 37 32), (0, u "max"), (0, .class_ 39), (0, u "emberglass/TimeSpan$1"), (100, u "()Z"), (23, u "NANOS_PER_HOUR"), (0, u "Ljava/math/BigInteger;"), (48, u "add"), (5, u "(Lemberglass/ChunkHeader;)V"), (2, u "empty")] 40

def k2c0 : Code := { maxStack := 3, maxLocals := 1, code := prog_273_method_1_code, exceptionTable := #[], attributes := #[] }
def k2m0 : Method := { name := "<init>", desc := "()V", sig := { parameters := [], returnType := none }, accessFlags := 0, code := some k2c0 }
def k2c1 : Code := { maxStack := 5, maxLocals := 2, code := prog_273_method_2_code, exceptionTable := #[], attributes := #[] }
def k2m1 : Method := { name := "add", desc := "(Lemberglass/ChunkHeader;)V", sig := { parameters := [(.object "emberglass/ChunkHeader")], returnType := none }, accessFlags := 0, code := some k2c1 }
def k2c2 : Code := { maxStack := 4, maxLocals := 1, code := prog_273_method_4_code, exceptionTable := #[], attributes := #[] }
def k2m2 : Method := { name := "empty", desc := "()Z", sig := { parameters := [], returnType := some .boolean }, accessFlags := 0, code := some k2c2 }
/-- emberglass/TimeSpan -/
def k2 : Class := { plain "emberglass/TimeSpan" (some 0) with
  accessFlags := 48
  interfaces := #[]
  cf := some (fileOf pool2 12 #[.nestMembers #[38]] #[{ accessFlags := 0, nameIndex := 5, descriptorIndex := 6, attributes := #[] }, { accessFlags := 0, nameIndex := 214, descriptorIndex := 220, attributes := #[] }, { accessFlags := 0, nameIndex := 223, descriptorIndex := 140, attributes := #[] }] 48 2 #[] #[{ accessFlags := 26, nameIndex := 164, descriptorIndex := 165, attributes := #[] }, { accessFlags := 2, nameIndex := 15, descriptorIndex := 16, attributes := #[] }, { accessFlags := 2, nameIndex := 21, descriptorIndex := 16, attributes := #[] }])
  fields := #[{ name := "NANOS_PER_HOUR", type := (.object "java/math/BigInteger"), accessFlags := 26, slot := 0, constantValue := 0 }, { name := "startNanos", type := .long, accessFlags := 2, slot := 0, constantValue := 0 }, { name := "endNanos", type := .long, accessFlags := 2, slot := 1, constantValue := 0 }]
  methods := #[k2m0, k2m1, k2m2]
  instanceTypes := #[.long, .long]
  staticTypes := #[(.object "java/math/BigInteger")]
  resolved := Array.replicate 264 none
  statics := none }

def pool3 : Array CpInfo := pool [(1, .methodref 2 3), (0, .class_ 4), (0, .nameAndType 5 6), (0, u "java/lang/Object"), (0, u "<init>"), (0, u "()V"), (0, .class_ 8), (0, u "java/lang/Record")] 13

def k3c0 : Code := { maxStack := 1, maxLocals := 1, code := jdk_30_method_1_code, exceptionTable := #[], attributes := #[] }
def k3m0 : Method := { name := "<init>", desc := "()V", sig := { parameters := [], returnType := none }, accessFlags := 4, code := some k3c0 }
/-- java/lang/Record -/
def k3 : Class := { plain "java/lang/Record" (some 0) with
  accessFlags := 1057
  interfaces := #[]
  cf := some (fileOf pool3 7 #[] #[{ accessFlags := 4, nameIndex := 5, descriptorIndex := 6, attributes := #[] }] 1057 2 #[] #[])
  fields := #[]
  methods := #[k3m0]
  instanceTypes := #[]
  staticTypes := #[]
  resolved := Array.replicate 22 none
  statics := none }

def pool4 : Array CpInfo := pool [(1, .class_ 2), (0, u "emberglass/ChunkHeader"), (2, .methodref 6 7), (0, .class_ 8), (0, .nameAndType 9 10), (0, u "java/lang/Record"), (0, u "<init>"), (0, u "()V"), (0, .fieldref 1 12), (0, .nameAndType 13 14), (0, u "majorVersion"), (0, u "I"), (0, .fieldref 1 16), (0, .nameAndType 17 14), (0, u "minorVersion"), (0, .fieldref 1 19), (0, .nameAndType 20 21), (0, u "size"), (0, u "J"), (0, .fieldref 1 23), (0, .nameAndType 24 21), (0, u "constantPoolOffset"), (0, .fieldref 1 26), (0, .nameAndType 27 21), (0, u "metadataOffset"), (0, .fieldref 1 29), (0, .nameAndType 30 21), (0, u "startNanos"), (0, .fieldref 1 32), (0, .nameAndType 33 21), (0, u "durationNanos"), (0, .fieldref 1 35), (0, .nameAndType 36 21), (0, u "startTicks"), (0, .fieldref 1 38), (0, .nameAndType 39 21), (0, u "ticksPerSecond"), (0, .fieldref 1 41), (0, .nameAndType 42 14), (0, u "flags"), (18, u "EVENTS_SLACK"), (0, u "Ljava/time/Duration;"), (4, .methodref 1 68), (0, .nameAndType 69 70), (0, u "hasEnd"), (0, u "()Z"), (18, u "EARLY_ENDS_SLACK"), (10, u "endNanos"), (0, u "()J"), (44, u "(IIJJJJJJJI)V"), (86, u "SIZE"), (2, u "CHECKED_SIZE"), (1, u "MAGIC"), (0, u "MAJOR_VERSION"), (1, u "UNFINISHED"), (0, u "NANOS_PER_SECOND")] 59

def k4c0 : Code := { maxStack := 3, maxLocals := 18, code := prog_12_method_1_code, exceptionTable := #[], attributes := #[] }
def k4m0 : Method := { name := "<init>", desc := "(IIJJJJJJJI)V", sig := { parameters := [.int, .int, .long, .long, .long, .long, .long, .long, .long, .int], returnType := none }, accessFlags := 1, code := some k4c0 }
def k4c1 : Code := { maxStack := 6, maxLocals := 1, code := prog_12_method_4_code, exceptionTable := #[], attributes := #[] }
def k4m1 : Method := { name := "endNanos", desc := "()J", sig := { parameters := [], returnType := some .long }, accessFlags := 1, code := some k4c1 }
def k4c2 : Code := { maxStack := 4, maxLocals := 1, code := prog_12_method_5_code, exceptionTable := #[], attributes := #[] }
def k4m2 : Method := { name := "hasEnd", desc := "()Z", sig := { parameters := [], returnType := some .boolean }, accessFlags := 0, code := some k4c2 }
def k4c3 : Code := { maxStack := 2, maxLocals := 1, code := prog_12_method_30_code, exceptionTable := #[], attributes := #[] }
def k4m3 : Method := { name := "startNanos", desc := "()J", sig := { parameters := [], returnType := some .long }, accessFlags := 1, code := some k4c3 }
/-- emberglass/ChunkHeader -/
def k4 : Class := { plain "emberglass/ChunkHeader" (some 3) with
  accessFlags := 49
  interfaces := #[]
  cf := some (fileOf pool4 1 #[] #[{ accessFlags := 1, nameIndex := 9, descriptorIndex := 146, attributes := #[] }, { accessFlags := 1, nameIndex := 100, descriptorIndex := 101, attributes := #[] }, { accessFlags := 0, nameIndex := 69, descriptorIndex := 70, attributes := #[] }, { accessFlags := 1, nameIndex := 30, descriptorIndex := 101, attributes := #[] }] 49 6 #[] #[{ accessFlags := 18, nameIndex := 13, descriptorIndex := 14, attributes := #[] }, { accessFlags := 18, nameIndex := 17, descriptorIndex := 14, attributes := #[] }, { accessFlags := 18, nameIndex := 20, descriptorIndex := 21, attributes := #[] }, { accessFlags := 18, nameIndex := 24, descriptorIndex := 21, attributes := #[] }, { accessFlags := 18, nameIndex := 27, descriptorIndex := 21, attributes := #[] }, { accessFlags := 18, nameIndex := 30, descriptorIndex := 21, attributes := #[] }, { accessFlags := 18, nameIndex := 33, descriptorIndex := 21, attributes := #[] }, { accessFlags := 18, nameIndex := 36, descriptorIndex := 21, attributes := #[] }, { accessFlags := 18, nameIndex := 39, descriptorIndex := 21, attributes := #[] }, { accessFlags := 18, nameIndex := 42, descriptorIndex := 14, attributes := #[] }, { accessFlags := 25, nameIndex := 233, descriptorIndex := 14, attributes := #[] }, { accessFlags := 24, nameIndex := 236, descriptorIndex := 14, attributes := #[] }, { accessFlags := 24, nameIndex := 238, descriptorIndex := 14, attributes := #[] }, { accessFlags := 24, nameIndex := 239, descriptorIndex := 14, attributes := #[] }, { accessFlags := 26, nameIndex := 241, descriptorIndex := 14, attributes := #[] }, { accessFlags := 26, nameIndex := 242, descriptorIndex := 21, attributes := #[] }, { accessFlags := 24, nameIndex := 61, descriptorIndex := 62, attributes := #[] }, { accessFlags := 24, nameIndex := 89, descriptorIndex := 62, attributes := #[] }])
  fields := #[{ name := "majorVersion", type := .int, accessFlags := 18, slot := 0, constantValue := 0 }, { name := "minorVersion", type := .int, accessFlags := 18, slot := 1, constantValue := 0 }, { name := "size", type := .long, accessFlags := 18, slot := 2, constantValue := 0 }, { name := "constantPoolOffset", type := .long, accessFlags := 18, slot := 3, constantValue := 0 }, { name := "metadataOffset", type := .long, accessFlags := 18, slot := 4, constantValue := 0 }, { name := "startNanos", type := .long, accessFlags := 18, slot := 5, constantValue := 0 }, { name := "durationNanos", type := .long, accessFlags := 18, slot := 6, constantValue := 0 }, { name := "startTicks", type := .long, accessFlags := 18, slot := 7, constantValue := 0 }, { name := "ticksPerSecond", type := .long, accessFlags := 18, slot := 8, constantValue := 0 }, { name := "flags", type := .int, accessFlags := 18, slot := 9, constantValue := 0 }, { name := "SIZE", type := .int, accessFlags := 25, slot := 0, constantValue := 0 }, { name := "CHECKED_SIZE", type := .int, accessFlags := 24, slot := 1, constantValue := 0 }, { name := "MAGIC", type := .int, accessFlags := 24, slot := 2, constantValue := 0 }, { name := "MAJOR_VERSION", type := .int, accessFlags := 24, slot := 3, constantValue := 0 }, { name := "UNFINISHED", type := .int, accessFlags := 26, slot := 4, constantValue := 0 }, { name := "NANOS_PER_SECOND", type := .long, accessFlags := 26, slot := 5, constantValue := 0 }, { name := "EVENTS_SLACK", type := (.object "java/time/Duration"), accessFlags := 24, slot := 6, constantValue := 0 }, { name := "EARLY_ENDS_SLACK", type := (.object "java/time/Duration"), accessFlags := 24, slot := 7, constantValue := 0 }]
  methods := #[k4m0, k4m1, k4m2, k4m3]
  instanceTypes := #[.int, .int, .long, .long, .long, .long, .long, .long, .long, .int]
  staticTypes := #[.int, .int, .int, .int, .int, .long, (.object "java/time/Duration"), (.object "java/time/Duration")]
  resolved := Array.replicate 302 none
  statics := none }

def pool5 : Array CpInfo := pool [(1, .class_ 2), (0, u "java/lang/Math"), (1, .class_ 6), (1, u "java/lang/Object"), (0, u "<init>"), (0, u "()V"), (89, .class_ 100), (1, u "java/lang/Math$RandomNumberGeneratorHolder"), (20, u "(JJ)J"), (50, u "negativeZeroFloatBits"), (0, u "J"), (2, u "negativeZeroDoubleBits"), (21, u "max"), (2, u "min"), (43, u "$assertionsDisabled"), (0, u "Z"), (91, u "twoToTheDoubleScaleDown"), (0, u "D"), (4, u "twoToTheDoubleScaleUp"), (9, u "E"), (3, u "PI"), (2, u "TAU"), (2, u "DEGREES_TO_RADIANS"), (0, u "RADIANS_TO_DEGREES")] 94

def k5m0 : Method := { name := "<init>", desc := "()V", sig := { parameters := [], returnType := none }, accessFlags := 2, code := none }
def k5c1 : Code := { maxStack := 4, maxLocals := 4, code := jdk_29_method_66_code, exceptionTable := #[], attributes := #[] }
def k5m1 : Method := { name := "max", desc := "(JJ)J", sig := { parameters := [.long, .long], returnType := some .long }, accessFlags := 9, code := some k5c1 }
def k5c2 : Code := { maxStack := 4, maxLocals := 4, code := jdk_29_method_70_code, exceptionTable := #[], attributes := #[] }
def k5m2 : Method := { name := "min", desc := "(JJ)J", sig := { parameters := [.long, .long], returnType := some .long }, accessFlags := 9, code := some k5c2 }
/-- java/lang/Math -/
def k5 : Class := { plain "java/lang/Math" (some 0) with
  accessFlags := 49
  interfaces := #[]
  cf := some (fileOf pool5 1 #[.nestMembers #[98]] #[{ accessFlags := 2, nameIndex := 7, descriptorIndex := 8, attributes := #[] }, { accessFlags := 9, nameIndex := 198, descriptorIndex := 121, attributes := #[] }, { accessFlags := 9, nameIndex := 201, descriptorIndex := 121, attributes := #[] }] 49 4 #[] #[{ accessFlags := 25, nameIndex := 354, descriptorIndex := 339, attributes := #[] }, { accessFlags := 25, nameIndex := 358, descriptorIndex := 339, attributes := #[] }, { accessFlags := 25, nameIndex := 361, descriptorIndex := 339, attributes := #[] }, { accessFlags := 26, nameIndex := 364, descriptorIndex := 339, attributes := #[] }, { accessFlags := 26, nameIndex := 365, descriptorIndex := 339, attributes := #[] }, { accessFlags := 26, nameIndex := 172, descriptorIndex := 173, attributes := #[] }, { accessFlags := 26, nameIndex := 176, descriptorIndex := 173, attributes := #[] }, { accessFlags := 8, nameIndex := 344, descriptorIndex := 339, attributes := #[] }, { accessFlags := 8, nameIndex := 338, descriptorIndex := 339, attributes := #[] }, { accessFlags := 4120, nameIndex := 245, descriptorIndex := 246, attributes := #[] }])
  fields := #[{ name := "E", type := .double, accessFlags := 25, slot := 0, constantValue := 0 }, { name := "PI", type := .double, accessFlags := 25, slot := 1, constantValue := 0 }, { name := "TAU", type := .double, accessFlags := 25, slot := 2, constantValue := 0 }, { name := "DEGREES_TO_RADIANS", type := .double, accessFlags := 26, slot := 3, constantValue := 0 }, { name := "RADIANS_TO_DEGREES", type := .double, accessFlags := 26, slot := 4, constantValue := 0 }, { name := "negativeZeroFloatBits", type := .long, accessFlags := 26, slot := 5, constantValue := 0 }, { name := "negativeZeroDoubleBits", type := .long, accessFlags := 26, slot := 6, constantValue := 0 }, { name := "twoToTheDoubleScaleUp", type := .double, accessFlags := 8, slot := 7, constantValue := 0 }, { name := "twoToTheDoubleScaleDown", type := .double, accessFlags := 8, slot := 8, constantValue := 0 }, { name := "$assertionsDisabled", type := .boolean, accessFlags := 4120, slot := 9, constantValue := 0 }]
  methods := #[k5m0, k5m1, k5m2]
  instanceTypes := #[]
  staticTypes := #[.double, .double, .double, .double, .double, .long, .long, .double, .double, .boolean]
  resolved := Array.replicate 460 none
  statics := none }

def pool6 : Array CpInfo := pool [(1, u "java/lang/Cloneable"), (0, .class_ 1), (0, u "java/lang/Object"), (0, .class_ 3)] 3

/-- java/lang/Cloneable -/
def k6 : Class := { plain "java/lang/Cloneable" (some 0) with
  accessFlags := 1537
  interfaces := #[]
  cf := some (fileOf pool6 2 #[] #[] 1537 4 #[] #[])
  fields := #[]
  methods := #[]
  instanceTypes := #[]
  staticTypes := #[]
  resolved := Array.replicate 8 none
  statics := none }

def pool7 : Array CpInfo := pool [(1, u "java/io/Serializable"), (0, .class_ 1), (0, u "java/lang/Object"), (0, .class_ 3)] 3

/-- java/io/Serializable -/
def k7 : Class := { plain "java/io/Serializable" (some 0) with
  accessFlags := 1537
  interfaces := #[]
  cf := some (fileOf pool7 2 #[] #[] 1537 4 #[] #[])
  fields := #[]
  methods := #[]
  instanceTypes := #[]
  staticTypes := #[]
  resolved := Array.replicate 8 none
  statics := none }

/-- the primitive byte -/
def k8 : Class := { plain "byte" none with kind := .primitive 'B', accessFlags := 0x411 }
/-- [B -/
def k9 : Class := { plain "[B" (some 0) with kind := .array 8 .byte, interfaces := #[6, 7], accessFlags := 1041 }

/-- the primitive int -/
def k10 : Class := { plain "int" none with kind := .primitive 'I', accessFlags := 0x411 }
/-- [I -/
def k11 : Class := { plain "[I" (some 0) with kind := .array 10 .int, interfaces := #[6, 7], accessFlags := 1041 }

def heap : Heap := #[]
def classes : Array Class := #[k0, k1, k2, k3, k4, k5, k6, k7, k8, k9, k10, k11]
def interned : List (Array UInt16 × Addr) := []
def slotsUsed : Nat := 0
def theMethod : MethodId := ⟨1, 2⟩
def args0 : Array Value := #[.long 5, .long 5, .long 5, .long 5, .int 5]
def aboutOver (below : List Frame) : State where
  vm := { classes := classes, interned := interned.toArray }
  heap := heap
  slotsUsed := slotsUsed
  threads := #[{ frames := .invoking theMethod args0 :: below }]
def below0 : List Frame := [.native { method := ⟨0, 0⟩, args := #[] }]
def about1 : State := aboutOver below0
def p0 : Program := .bare "" "" ""
def e0 : Env := launch0.env 0 0 0
theorem w_frames : about1.frames = Frame.invoking theMethod args0 :: below0 := rfl
set_option maxRecDepth 65536 in
theorem w_args : argsFit about1.vm theMethod args0 = true := by decide +kernel
set_option maxRecDepth 65536 in
theorem w_heap : heapFits about1 = true := by decide +kernel
set_option maxRecDepth 65536 in
theorem w_runnable : about1.curStatus? = some .runnable := by decide +kernel
set_option maxRecDepth 65536 in
theorem w_alone : about1.alone = true := by decide +kernel
set_option maxRecDepth 65536 in
theorem w_named : about1.methodNamed? x = some theMethod := by decide +kernel
set_option maxRecDepth 65536 in
theorem w_hears : about1.hears theMethod below0 = true := by decide +kernel
set_option maxRecDepth 65536 in
theorem w_ripe : about1.ripe theMethod args0 below0 = true := by decide +kernel
theorem w_running : about1.status = .running := rfl
set_option maxRecDepth 65536 in
theorem w_room : about1.hasRoom e0.platform room_1 = true :=
  launch0.hasRoom_least _ room_1 (by decide +kernel) (by decide +kernel) (by decide +kernel) (by decide +kernel) (by decide +kernel) (by decide +kernel)
theorem allAtoms_all (ts : List Jvm.Cond) (a : Array Jvm.Value) (st : Jvm.State) : (allAtoms ts).before a st = ts.all (fun c => c.before a st) := by
  induction ts with
  | nil => rfl
  | cons c t ih =>
    show (Jvm.Cond.and c (allAtoms t)).before a st = _
    rw [Jvm.Cond.before_and, ih, List.all_cons]
def words1 : List Jvm.Cond := Jvm.Cond.code x code maxLocals ret :: tables_1
/-- a 'code' word, met by the world's own term for the bytes: nothing is compared byte by byte -/
theorem code_word {y : MethodName} {bytes : ByteArray} {mx : Nat} {rt : Option FieldType} {a : Array Value} {s : State} {m : MethodId} {meth : Method} {c : Code} (h1 : s.methodNamed? y = some m) (h2 : s.vm.method? m = some meth) (h3 : meth.code = some c) (h4 : c.code = bytes)
    (h5 : (c.maxLocals == mx && c.exceptionTable.isEmpty && decide (c.maxStack ≤ mostOperands) && decide (meth.sig.returnType = rt) && !meth.locks && decide (parseMethodDescriptor y.desc = some meth.sig)) = true) : (Jvm.Cond.code y bytes mx rt).before a s = true := by
  simp only [Bool.and_eq_true, beq_iff_eq, Bool.not_eq_true', decide_eq_true_eq] at h5
  obtain ⟨⟨⟨⟨⟨g1, g2⟩, g3⟩, g4⟩, g5⟩, g6⟩ := h5
  simp [Cond.before, Cond.holds, Cond.value, h1, h2, h3, h4, g1, g2, g3, g4, g5, g6]
def isCode : Jvm.Cond → Bool
  | .code _ _ _ _ => true
  | _ => false
theorem all_split {L : List Jvm.Cond} {P : Jvm.Cond → Bool} (h1 : L.all (fun c => isCode c || P c) = true) (h2 : ∀ c ∈ L.filter isCode, P c = true) : L.all P = true := by
  refine List.all_eq_true.mpr fun c hc => ?_
  have h := List.all_eq_true.mp h1 c hc
  rcases Bool.eq_false_or_eq_true (isCode c) with hi | hi
  · exact h2 c (List.mem_filter.mpr ⟨hc, hi⟩)
  · simpa [hi] using h
set_option maxRecDepth 65536 in
theorem w_c0 : (Jvm.Cond.code x code maxLocals ret).before args0 about1 = true := code_word (m := ⟨1, 2⟩) (meth := k1m2) (c := k1c2) (by decide +kernel) rfl rfl rfl (by decide +kernel)
set_option maxRecDepth 65536 in
theorem w_c1 : (Jvm.Cond.code ({ cls := "emberglass/TimeSpan", name := "<init>", desc := "()V" } : Jvm.MethodName) prog_273_method_1_code (1 : Nat) (Option.none : Option Jvm.ClassFile.FieldType)).before args0 about1 = true := code_word (m := ⟨2, 0⟩) (meth := k2m0) (c := k2c0) (by decide +kernel) rfl rfl rfl (by decide +kernel)
set_option maxRecDepth 65536 in
theorem w_c2 : (Jvm.Cond.code ({ cls := "java/lang/Object", name := "<init>", desc := "()V" } : Jvm.MethodName) object_method_1_code (1 : Nat) (Option.none : Option Jvm.ClassFile.FieldType)).before args0 about1 = true := code_word (m := ⟨0, 0⟩) (meth := k0m0) (c := k0c0) (by decide +kernel) rfl rfl rfl (by decide +kernel)
set_option maxRecDepth 65536 in
theorem w_c3 : (Jvm.Cond.code ({ cls := "emberglass/TimeSpanEmptyPinLaw", name := "dur", desc := "(JJ)J" } : Jvm.MethodName) method_2_code (6 : Nat) (Option.some Jvm.ClassFile.FieldType.long)).before args0 about1 = true := code_word (m := ⟨1, 1⟩) (meth := k1m1) (c := k1c1) (by decide +kernel) rfl rfl rfl (by decide +kernel)
set_option maxRecDepth 65536 in
theorem w_c4 : (Jvm.Cond.code ({ cls := "emberglass/ChunkHeader", name := "<init>", desc := "(IIJJJJJJJI)V" } : Jvm.MethodName) prog_12_method_1_code (18 : Nat) (Option.none : Option Jvm.ClassFile.FieldType)).before args0 about1 = true := code_word (m := ⟨4, 0⟩) (meth := k4m0) (c := k4c0) (by decide +kernel) rfl rfl rfl (by decide +kernel)
set_option maxRecDepth 65536 in
theorem w_c5 : (Jvm.Cond.code ({ cls := "java/lang/Record", name := "<init>", desc := "()V" } : Jvm.MethodName) jdk_30_method_1_code (1 : Nat) (Option.none : Option Jvm.ClassFile.FieldType)).before args0 about1 = true := code_word (m := ⟨3, 0⟩) (meth := k3m0) (c := k3c0) (by decide +kernel) rfl rfl rfl (by decide +kernel)
set_option maxRecDepth 65536 in
theorem w_c6 : (Jvm.Cond.code ({ cls := "emberglass/TimeSpan", name := "empty", desc := "()Z" } : Jvm.MethodName) prog_273_method_4_code (1 : Nat) (Option.some Jvm.ClassFile.FieldType.boolean)).before args0 about1 = true := code_word (m := ⟨2, 2⟩) (meth := k2m2) (c := k2c2) (by decide +kernel) rfl rfl rfl (by decide +kernel)
set_option maxRecDepth 65536 in
theorem w_c7 : (Jvm.Cond.code ({ cls := "emberglass/TimeSpan", name := "add", desc := "(Lemberglass/ChunkHeader;)V" } : Jvm.MethodName) prog_273_method_2_code (2 : Nat) (Option.none : Option Jvm.ClassFile.FieldType)).before args0 about1 = true := code_word (m := ⟨2, 1⟩) (meth := k2m1) (c := k2c1) (by decide +kernel) rfl rfl rfl (by decide +kernel)
set_option maxRecDepth 65536 in
theorem w_c8 : (Jvm.Cond.code ({ cls := "emberglass/ChunkHeader", name := "startNanos", desc := "()J" } : Jvm.MethodName) prog_12_method_30_code (1 : Nat) (Option.some Jvm.ClassFile.FieldType.long)).before args0 about1 = true := code_word (m := ⟨4, 3⟩) (meth := k4m3) (c := k4c3) (by decide +kernel) rfl rfl rfl (by decide +kernel)
set_option maxRecDepth 65536 in
theorem w_c9 : (Jvm.Cond.code ({ cls := "java/lang/Math", name := "min", desc := "(JJ)J" } : Jvm.MethodName) jdk_29_method_70_code (4 : Nat) (Option.some Jvm.ClassFile.FieldType.long)).before args0 about1 = true := code_word (m := ⟨5, 2⟩) (meth := k5m2) (c := k5c2) (by decide +kernel) rfl rfl rfl (by decide +kernel)
set_option maxRecDepth 65536 in
theorem w_c10 : (Jvm.Cond.code ({ cls := "emberglass/ChunkHeader", name := "endNanos", desc := "()J" } : Jvm.MethodName) prog_12_method_4_code (1 : Nat) (Option.some Jvm.ClassFile.FieldType.long)).before args0 about1 = true := code_word (m := ⟨4, 1⟩) (meth := k4m1) (c := k4c1) (by decide +kernel) rfl rfl rfl (by decide +kernel)
set_option maxRecDepth 65536 in
theorem w_c11 : (Jvm.Cond.code ({ cls := "emberglass/ChunkHeader", name := "hasEnd", desc := "()Z" } : Jvm.MethodName) prog_12_method_5_code (1 : Nat) (Option.some Jvm.ClassFile.FieldType.boolean)).before args0 about1 = true := code_word (m := ⟨4, 2⟩) (meth := k4m2) (c := k4c2) (by decide +kernel) rfl rfl rfl (by decide +kernel)
set_option maxRecDepth 65536 in
theorem w_c12 : (Jvm.Cond.code ({ cls := "java/lang/Math", name := "max", desc := "(JJ)J" } : Jvm.MethodName) jdk_29_method_66_code (4 : Nat) (Option.some Jvm.ClassFile.FieldType.long)).before args0 about1 = true := code_word (m := ⟨5, 1⟩) (meth := k5m1) (c := k5c1) (by decide +kernel) rfl rfl rfl (by decide +kernel)
def codes1 : List Jvm.Cond := [Jvm.Cond.code x code maxLocals ret, Jvm.Cond.code ({ cls := "emberglass/TimeSpan", name := "<init>", desc := "()V" } : Jvm.MethodName) prog_273_method_1_code (1 : Nat) (Option.none : Option Jvm.ClassFile.FieldType), Jvm.Cond.code ({ cls := "java/lang/Object", name := "<init>", desc := "()V" } : Jvm.MethodName) object_method_1_code (1 : Nat) (Option.none : Option Jvm.ClassFile.FieldType), Jvm.Cond.code ({ cls := "emberglass/TimeSpanEmptyPinLaw", name := "dur", desc := "(JJ)J" } : Jvm.MethodName) method_2_code (6 : Nat) (Option.some Jvm.ClassFile.FieldType.long), Jvm.Cond.code ({ cls := "emberglass/ChunkHeader", name := "<init>", desc := "(IIJJJJJJJI)V" } : Jvm.MethodName) prog_12_method_1_code (18 : Nat) (Option.none : Option Jvm.ClassFile.FieldType), Jvm.Cond.code ({ cls := "java/lang/Record", name := "<init>", desc := "()V" } : Jvm.MethodName) jdk_30_method_1_code (1 : Nat) (Option.none : Option Jvm.ClassFile.FieldType), Jvm.Cond.code ({ cls := "emberglass/TimeSpan", name := "empty", desc := "()Z" } : Jvm.MethodName) prog_273_method_4_code (1 : Nat) (Option.some Jvm.ClassFile.FieldType.boolean), Jvm.Cond.code ({ cls := "emberglass/TimeSpan", name := "add", desc := "(Lemberglass/ChunkHeader;)V" } : Jvm.MethodName) prog_273_method_2_code (2 : Nat) (Option.none : Option Jvm.ClassFile.FieldType), Jvm.Cond.code ({ cls := "emberglass/ChunkHeader", name := "startNanos", desc := "()J" } : Jvm.MethodName) prog_12_method_30_code (1 : Nat) (Option.some Jvm.ClassFile.FieldType.long), Jvm.Cond.code ({ cls := "java/lang/Math", name := "min", desc := "(JJ)J" } : Jvm.MethodName) jdk_29_method_70_code (4 : Nat) (Option.some Jvm.ClassFile.FieldType.long), Jvm.Cond.code ({ cls := "emberglass/ChunkHeader", name := "endNanos", desc := "()J" } : Jvm.MethodName) prog_12_method_4_code (1 : Nat) (Option.some Jvm.ClassFile.FieldType.long), Jvm.Cond.code ({ cls := "emberglass/ChunkHeader", name := "hasEnd", desc := "()Z" } : Jvm.MethodName) prog_12_method_5_code (1 : Nat) (Option.some Jvm.ClassFile.FieldType.boolean), Jvm.Cond.code ({ cls := "java/lang/Math", name := "max", desc := "(JJ)J" } : Jvm.MethodName) jdk_29_method_66_code (4 : Nat) (Option.some Jvm.ClassFile.FieldType.long)]
set_option maxRecDepth 65536 in
theorem codes_eq : words1.filter isCode = codes1 := rfl
theorem w_codes : ∀ c ∈ words1.filter isCode, c.before args0 about1 = true := by
  rw [codes_eq]
  intro c hc
  simp only [codes1, List.mem_cons, List.not_mem_nil, or_false] at hc
  rcases hc with rfl | rfl | rfl | rfl | rfl | rfl | rfl | rfl | rfl | rfl | rfl | rfl | rfl
  · exact w_c0
  · exact w_c1
  · exact w_c2
  · exact w_c3
  · exact w_c4
  · exact w_c5
  · exact w_c6
  · exact w_c7
  · exact w_c8
  · exact w_c9
  · exact w_c10
  · exact w_c11
  · exact w_c12
set_option maxRecDepth 65536 in
theorem w_t1 : (words1.take 24).all (fun c => isCode c || c.before args0 about1) = true := by decide +kernel
set_option maxRecDepth 65536 in
theorem w_t2 : ((words1.drop 24).take 24).all (fun c => isCode c || c.before args0 about1) = true := by decide +kernel
set_option maxRecDepth 65536 in
theorem w_t3 : (((words1.drop 24).drop 24).take 24).all (fun c => isCode c || c.before args0 about1) = true := by decide +kernel
set_option maxRecDepth 65536 in
theorem w_t4 : (((words1.drop 24).drop 24).drop 24).all (fun c => isCode c || c.before args0 about1) = true := by decide +kernel
theorem w_tables : (allAtoms (Jvm.Cond.code x code maxLocals ret :: tables_1)).before args0 about1 = true := by
  rw [allAtoms_all]
  show words1.all (fun c => c.before args0 about1) = true
  refine all_split ?_ w_codes
  rw [← List.take_append_drop 24 words1, List.all_append, w_t1, ← List.take_append_drop 24 (words1.drop 24), List.all_append, w_t2, ← List.take_append_drop 24 ((words1.drop 24).drop 24), List.all_append, w_t3, w_t4]
  rfl
set_option maxRecDepth 65536 in
theorem w_case : (Jvm.Cond.and given_1 narrow_1).before args0 about1 = true := by decide +kernel
theorem w_applies : (headSpec (Jvm.Cond.code x code maxLocals ret :: tables_1) room_1).applies x e0.platform about1 = true :=
  (Spec.applies_iff w_frames).mpr ⟨w_running, w_runnable, w_alone, w_named, w_hears, w_ripe, w_room, w_tables⟩
theorem atStart : AtStart classFile x code maxLocals ret World_1 tables_1 room_1 Calls_1 rest_1 Pre_1 launch0 p0 e0 about1 theMethod args0 below0 :=
  ⟨lists_1, trivial, launch0.admits_env _ _ _, launch0.least_env, fairChoices_fair.cas, fairChoices_fair.clock, w_frames, w_args, w_heap, w_applies, trivial, trivial, w_case⟩
end start1
theorem witness_1 : WitnessClaimed_1 := ⟨start1.p0, start1.e0, start1.about1, start1.theMethod, start1.args0, start1.below0, start1.atStart⟩
end Jvm.Pilot.@@N@@
