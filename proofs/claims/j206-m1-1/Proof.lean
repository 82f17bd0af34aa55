import JvmDerived
import JvmDerived.Pilot.@@N@@Statement
import JvmDerived.Pilot.@@N@@Code
set_option linter.unusedVariables false
set_option linter.unusedSimpArgs false
namespace Jvm.Pilot.@@N@@
open Jvm Jvm.ClassFile Sem Op Lib Jvm.Free Jvm.Stand Jvm.LawKit Jvm.RoadKit Bundle Jvm.Pilot.@@N@@.Jvm.D
/-! the goal of a walk, read forwards: from the state S the run comes to an end that P likes -/
def own_G (p : Program) (e : Env) (below : List Frame) (S : State) (P : State → Outcome → Prop) : Prop := ∃ s₂ o, Steps p.tables e below S s₂ ∧ s₂.status = .running ∧ Ended s₂ below o ∧ P s₂ o
theorem own_go {p : Program} {e : Env} {below : List Frame} {A B : State} {P : State → Outcome → Prop} (h : ∀ t, Steps p.tables e below A t → Steps p.tables e below B t) (g : own_G p e below A P) : own_G p e below B P := by
  obtain ⟨s₂, o, h1, h2⟩ := g
  exact ⟨s₂, o, h _ h1, h2⟩
theorem own_ret {p : Program} {l : Launch} {e : Env} {R : Room} {s : State} {m : MethodId} {args : Array Value} {below : List Frame} {meth : Method} {c : Code} {T : State} {locs : List Loc} {cells slots : Nat} (X : Stand p l e R s m args below meth c T locs cells slots) (hlocks : meth.locks = false) {v : Option Value} (hv : meth.sig.returnType = none → v = none) {g : JFrame} (Q : Option Value → Heap → List Loc → Prop) {C S : Nat}
    (st : ∀ fs : List Frame, (∀ (f : JFrame) (acts : List Action), f.method = m → f.locked = none → f.entered = [] → (doReturn e (T.setTop f) acts v).1 = T.setFrames fs) → Steps p.tables e below (T.setTop g) (T.setFrames fs))
    (hc : cells ≤ C) (hs : slots ≤ S) (hQ : Q v T.heap locs) : own_G p e below (T.setTop g) (fun s₂ o => ∃ v L, o = .returned v ∧ Q v s₂.heap L ∧ FrameEnd s o s₂ L C S) := by
  obtain ⟨fs, hr, hrun, hended, hW, hsame⟩ := X.leave (v := v) hv hlocks
  exact ⟨_, _, st fs hr, hrun, hended, _, _, rfl, hQ, ⟨_, rfl⟩, hW, hsame.mono hc hs⟩
theorem own_retI {p : Program} {l : Launch} {e : Env} {R : Room} {s : State} {m : MethodId} {args : Array Value} {below : List Frame} {meth : Method} {c : Code} {T : State} {locs : List Loc} {cells slots : Nat} (X : Stand p l e R s m args below meth c T locs cells slots) (hx : p.tables.exec = Jvm.exec) {pc : Nat} {Ls : Array Slot} {w : Value} {t : FieldType} {i : Instr} {rest : List Value} (hret : meth.sig.returnType = some t) (hn : narrow t w = w)
    (hi : (i = .ireturn ∧ (t = .int ∨ t = .boolean ∨ t = .byte ∨ t = .char ∨ t = .short) ∧ ∃ z, w = .int z) ∨ (i = .lreturn ∧ t = .long ∧ ∃ z, w = .long z) ∨ (i = .dreturn ∧ t = .double ∧ ∃ z, w = .double z) ∨ (i = .freturn ∧ t = .float ∧ ∃ z, w = .float z) ∨ (i = .areturn ∧ t.isReference = true ∧ w.isRef = true))
    (hd : decode c.code pc = .ok (i, 1)) (fs : List Frame) (hl : ∀ (f : JFrame) (acts : List Action), f.method = m → f.locked = none → f.entered = [] → (doReturn e (T.setTop f) acts (some w)).1 = T.setFrames fs) :
    Steps p.tables e below (T.setTop (mkF m pc Ls (w :: rest))) (T.setFrames fs) := retOut X hx hret hn hi hd hl
theorem own_retV {p : Program} {l : Launch} {e : Env} {R : Room} {s : State} {m : MethodId} {args : Array Value} {below : List Frame} {meth : Method} {c : Code} {T : State} {locs : List Loc} {cells slots : Nat} (X : Stand p l e R s m args below meth c T locs cells slots) (hx : p.tables.exec = Jvm.exec) {pc : Nat} {Ls : Array Slot} (hret : meth.sig.returnType = none)
    (hd : decode c.code pc = .ok (.return_, 1)) (fs : List Frame) (hl : ∀ (f : JFrame) (acts : List Action), f.method = m → f.locked = none → f.entered = [] → (doReturn e (T.setTop f) acts none).1 = T.setFrames fs) :
    Steps p.tables e below (T.setTop (mkF m pc Ls [])) (T.setFrames fs) := X.returnOut hx hret hd hl
theorem own_lt32 {a b : Int32} : a < b ↔ a.toInt < b.toInt := Int32.lt_iff_toInt_lt
theorem own_lt64 {a b : Int64} : a < b ↔ a.toInt < b.toInt := Int64.lt_iff_toInt_lt
/-- a & 0x7fffffff -/
theorem own_m31 (x : Int32) : 0 ≤ (x &&& (2147483647 : Int32)).toInt ∧ (x &&& (2147483647 : Int32)).toInt ≤ 2147483647 := by
  rw [c_mask x (2147483647 : Int32) 31 (by decide) (by decide)]
  omega
theorem own_mod32 (a b : Int32) (ha : 0 ≤ a.toInt) (hb : 0 < b.toInt) : (a % b).toInt = a.toInt % b.toInt := by
  rw [Int32.toInt_mod, Int.tmod_eq_emod_of_nonneg ha]
theorem own_modb (a b : Int32) (ha : 0 ≤ a.toInt) (hb : 0 < b.toInt) : 0 ≤ (a % b).toInt ∧ (a % b).toInt < b.toInt ∧ (a % b).toInt ≤ a.toInt := by
  rw [own_mod32 a b ha hb]
  have h1 := Int.emod_nonneg a.toInt (by omega : b.toInt ≠ 0)
  have h2 := Int.emod_lt_of_pos a.toInt hb
  have h3 := Int.mul_ediv_add_emod a.toInt b.toInt
  have h4 : 0 ≤ b.toInt * (a.toInt / b.toInt) := Int.mul_nonneg (by omega) (Int.ediv_nonneg ha (by omega))
  exact ⟨h1, h2, by omega⟩
theorem own_bmod32 {x : Int} (h1 : 0 ≤ x) (h2 : x < 2147483648) : x.bmod (2 ^ 32) = x := by rw [Int.bmod_eq_of_le_mul_two] <;> omega
theorem own_bmod64 {x : Int} (h1 : 0 ≤ x) (h2 : x < 9223372036854775808) : x.bmod (2 ^ 64) = x := by rw [Int.bmod_eq_of_le_mul_two] <;> omega
theorem own_div32 (a b : Int32) (ha : 0 ≤ a.toInt) (hb : 0 < b.toInt) : (a / b).toInt = a.toInt / b.toInt := by
  have r := rng32 a
  rw [Int32.toInt_div, Int.tdiv_eq_ediv_of_nonneg ha]
  exact own_bmod32 (Int.ediv_nonneg ha (by omega)) (Int.lt_of_le_of_lt (Int.ediv_le_self _ ha) r.2)
theorem own_div64 (a b : Int64) (ha : 0 ≤ a.toInt) (hb : 0 < b.toInt) : (a / b).toInt = a.toInt / b.toInt := by
  have r := rng64 a
  rw [Int64.toInt_div, Int.tdiv_eq_ediv_of_nonneg ha]
  exact own_bmod64 (Int.ediv_nonneg ha (by omega)) (Int.lt_of_le_of_lt (Int.ediv_le_self _ ha) r.2)
theorem own_mul64 (a b : Int64) (h1 : 0 ≤ a.toInt * b.toInt) (h2 : a.toInt * b.toInt < 9223372036854775808) : (a * b).toInt = a.toInt * b.toInt := by
  rw [Int64.toInt_mul]; exact own_bmod64 h1 h2
theorem own_mul32 (a b : Int32) (h1 : 0 ≤ a.toInt * b.toInt) (h2 : a.toInt * b.toInt < 2147483648) : (a * b).toInt = a.toInt * b.toInt := by
  rw [Int32.toInt_mul]; exact own_bmod32 h1 h2
/-- the greatest multiple of u that isn't above m -/
def own_t (m u : Int) : Int := m / u * u
theorem own_t_spec (m u : Int) (hm : 0 ≤ m) (hu : 0 < u) : 0 ≤ own_t m u ∧ own_t m u ≤ m ∧ m - own_t m u < u ∧ own_t m u / u = m / u ∧ 0 ≤ m / u := by
  have h1 := Int.emod_nonneg m (by omega : u ≠ 0)
  have h2 := Int.emod_lt_of_pos m hu
  have h3 := Int.mul_ediv_add_emod m u
  have h4 := Int.ediv_nonneg hm (by omega : 0 ≤ u)
  have h5 : m / u * u = u * (m / u) := Int.mul_comm _ _
  refine ⟨Int.mul_nonneg h4 (by omega), ?_, ?_, ?_, h4⟩
  · unfold own_t; omega
  · unfold own_t; omega
  · unfold own_t; exact Int.mul_ediv_cancel _ (by omega)
/-- lanes, memory, the bounds -/
def own_ok (ln me : Int32) : Prop := 1 ≤ ln.toInt ∧ ln.toInt ≤ 2097151 ∧ 8 * ln.toInt ≤ me.toInt ∧ me.toInt ≤ 16777215
theorem own_4 (ln : Int32) (h1 : 1 ≤ ln.toInt) (h2 : ln.toInt ≤ 2097151) : ((4 : Int32) * ln).toInt = 4 * ln.toInt := by
  have e : (4 : Int32).toInt = 4 := rfl
  rw [own_mul32 _ _ (by rw [e]; omega) (by rw [e]; omega), e]
theorem own_4L (ln : Int32) (h1 : 1 ≤ ln.toInt) (h2 : ln.toInt ≤ 2097151) : ((4 : Int64) * ln.toInt64).toInt = 4 * ln.toInt := by
  have e : (4 : Int64).toInt = 4 := rfl
  rw [own_mul64 _ _ (by rw [e, c_i2l]; omega) (by rw [e, c_i2l]; omega), e, c_i2l]
theorem own_nz32 {ln me : Int32} (h : own_ok ln me) : ((4 : Int32) * ln) ≠ 0 := fun q => by
  have := own_4 ln h.1 h.2.1
  rw [q, show (0 : Int32).toInt = 0 from rfl] at this
  have := h.1
  omega
theorem own_nz64 {ln me : Int32} (h : own_ok ln me) : ((4 : Int64) * ln.toInt64) ≠ 0 := fun q => by
  have := own_4L ln h.1 h.2.1
  rw [q, show (0 : Int64).toInt = 0 from rfl] at this
  have := h.1
  omega
theorem own_blocks {ln me : Int32} (h : own_ok ln me) : (me / ((4 : Int32) * ln) * (4 : Int32) * ln).toInt = own_t me.toInt (4 * ln.toInt) := by
  obtain ⟨h1, h2, h3, h4⟩ := h
  have e4 := own_4 ln h1 h2
  have e : (4 : Int32).toInt = 4 := rfl
  obtain ⟨t1, t2, t3, t4, t5⟩ := own_t_spec me.toInt (4 * ln.toInt) (by omega) (by omega)
  have d := own_div32 me ((4 : Int32) * ln) (by omega) (by omega)
  rw [e4] at d
  have q : me.toInt / (4 * ln.toInt) * 4 * ln.toInt = own_t me.toInt (4 * ln.toInt) := by unfold own_t; rw [Int.mul_assoc]
  have q4 : me.toInt / (4 * ln.toInt) * 4 ≤ me.toInt / (4 * ln.toInt) * (4 * ln.toInt) := Int.mul_le_mul_of_nonneg_left (by omega) t5
  have q5 : me.toInt / (4 * ln.toInt) * (4 * ln.toInt) = own_t me.toInt (4 * ln.toInt) := rfl
  have s1 : (me / ((4 : Int32) * ln) * (4 : Int32)).toInt = me.toInt / (4 * ln.toInt) * 4 := by
    rw [own_mul32 _ _ (by rw [d, e]; omega) (by rw [d, e]; omega), d, e]
  rw [own_mul32 _ _ (by rw [s1, q]; omega) (by rw [s1, q]; omega), s1, q]
theorem own_A {ln me : Int32} {b : Int64} (h : own_ok ln me) (hb : b.toInt = own_t me.toInt (4 * ln.toInt)) : b - b / ((4 : Int64) * ln.toInt64) * ((4 : Int64) * ln.toInt64) = 0 := by
  obtain ⟨h1, h2, h3, h4⟩ := h
  have e4 := own_4L ln h1 h2
  obtain ⟨t1, t2, t3, t4, t5⟩ := own_t_spec me.toInt (4 * ln.toInt) (by omega) (by omega)
  have d := own_div64 b ((4 : Int64) * ln.toInt64) (by omega) (by omega)
  rw [e4, hb, t4] at d
  have q : (b / ((4 : Int64) * ln.toInt64) * ((4 : Int64) * ln.toInt64)).toInt = b.toInt := by
    rw [own_mul64 _ _ (by rw [d, e4]; exact t1) (by rw [d, e4]; show own_t _ _ < _; omega), d, e4, hb]; rfl
  apply Int64.toInt_inj.mp
  have := c_lsub b (b / ((4 : Int64) * ln.toInt64) * ((4 : Int64) * ln.toInt64))
  have r := rng64 (b - b / ((4 : Int64) * ln.toInt64) * ((4 : Int64) * ln.toInt64))
  rw [q] at this
  rw [show (0 : Int64).toInt = 0 from rfl]
  omega
theorem own_B {ln me : Int32} {b : Int64} (h : own_ok ln me) (hb : b.toInt = own_t me.toInt (4 * ln.toInt)) : ¬ me.toInt64 < b := by
  obtain ⟨h1, h2, h3, h4⟩ := h
  obtain ⟨t1, t2, t3, t4, t5⟩ := own_t_spec me.toInt (4 * ln.toInt) (by omega) (by omega)
  rw [own_lt64, c_i2l]; omega
theorem own_C {ln me : Int32} {b : Int64} (h : own_ok ln me) (hb : b.toInt = own_t me.toInt (4 * ln.toInt)) : me.toInt64 - b < ((4 : Int64) * ln.toInt64) := by
  obtain ⟨h1, h2, h3, h4⟩ := h
  obtain ⟨t1, t2, t3, t4, t5⟩ := own_t_spec me.toInt (4 * ln.toInt) (by omega) (by omega)
  have := c_lsub me.toInt64 b
  have r := rng64 (me.toInt64 - b)
  rw [c_i2l] at this
  rw [own_lt64, own_4L ln h1 h2]; omega
theorem own_D {ln me : Int32} {b : Int64} (h : own_ok ln me) (hb : b.toInt = own_t me.toInt (4 * ln.toInt)) : ¬ b < (0 : Int64) := by
  obtain ⟨h1, h2, h3, h4⟩ := h
  obtain ⟨t1, t2, t3, t4, t5⟩ := own_t_spec me.toInt (4 * ln.toInt) (by omega) (by omega)
  rw [own_lt64, show (0 : Int64).toInt = 0 from rfl]; omega
theorem own_lanes (x : Int32) : 1 ≤ ((1 : Int32) + (x &&& (2147483647 : Int32)) % (2097151 : Int32)).toInt ∧ ((1 : Int32) + (x &&& (2147483647 : Int32)) % (2097151 : Int32)).toInt ≤ 2097151 := by
  have e1 : (1 : Int32).toInt = 1 := rfl
  have e2 : (2097151 : Int32).toInt = 2097151 := rfl
  have m := own_m31 x
  have b := own_modb (x &&& (2147483647 : Int32)) (2097151 : Int32) m.1 (by decide)
  have a := c_iadd (1 : Int32) ((x &&& (2147483647 : Int32)) % (2097151 : Int32))
  have r := rng32 ((1 : Int32) + (x &&& (2147483647 : Int32)) % (2097151 : Int32))
  omega
theorem own_range {ln : Int32} (h1 : 1 ≤ ln.toInt) (h2 : ln.toInt ≤ 2097151) : ((16777215 : Int32) - (8 : Int32) * ln + (1 : Int32)).toInt = 16777216 - 8 * ln.toInt ∧ ((8 : Int32) * ln).toInt = 8 * ln.toInt := by
  have e1 : (1 : Int32).toInt = 1 := rfl
  have e2 : (16777215 : Int32).toInt = 16777215 := rfl
  have e3 : (8 : Int32).toInt = 8 := rfl
  have m : ((8 : Int32) * ln).toInt = 8 * ln.toInt := by rw [own_mul32 _ _ (by rw [e3]; omega) (by rw [e3]; omega), e3]
  have s := c_isub (16777215 : Int32) ((8 : Int32) * ln)
  have r := rng32 ((16777215 : Int32) - (8 : Int32) * ln)
  have a := c_iadd ((16777215 : Int32) - (8 : Int32) * ln) (1 : Int32)
  have r2 := rng32 ((16777215 : Int32) - (8 : Int32) * ln + (1 : Int32))
  omega
theorem own_range_nz {ln : Int32} (h1 : 1 ≤ ln.toInt) (h2 : ln.toInt ≤ 2097151) : ((16777215 : Int32) - (8 : Int32) * ln + (1 : Int32)) ≠ 0 := fun q => by
  have := (own_range h1 h2).1
  rw [q, show (0 : Int32).toInt = 0 from rfl] at this
  omega
theorem own_mem {ln : Int32} (y : Int32) (h1 : 1 ≤ ln.toInt) (h2 : ln.toInt ≤ 2097151) : own_ok ln ((8 : Int32) * ln + (y &&& (2147483647 : Int32)) % ((16777215 : Int32) - (8 : Int32) * ln + (1 : Int32))) := by
  have g := own_range h1 h2
  have m := own_m31 y
  have b := own_modb (y &&& (2147483647 : Int32)) ((16777215 : Int32) - (8 : Int32) * ln + (1 : Int32)) m.1 (by omega)
  have a := c_iadd ((8 : Int32) * ln) ((y &&& (2147483647 : Int32)) % ((16777215 : Int32) - (8 : Int32) * ln + (1 : Int32)))
  have r := rng32 ((8 : Int32) * ln + (y &&& (2147483647 : Int32)) % ((16777215 : Int32) - (8 : Int32) * ln + (1 : Int32)))
  exact ⟨h1, h2, by omega, by omega⟩
/-- the constructor's five tests -/
theorem own_ctor {ln me : Int32} (h : own_ok ln me) : (¬ ln < (1 : Int32)) ∧ (¬ (16777215 : Int32) < ln) ∧ (¬ me < (8 : Int32) * ln) ∧ (¬ (16777215 : Int32) < me) := by
  obtain ⟨h1, h2, h3, h4⟩ := h
  have e1 : (1 : Int32).toInt = 1 := rfl
  have e2 : (16777215 : Int32).toInt = 16777215 := rfl
  have g := (own_range h1 h2).2
  simp only [own_lt32]
  refine ⟨?_, ?_, ?_, ?_⟩ <;> omega
theorem own_t_ok {ln me : Int32} (h : own_ok ln me) : 0 ≤ own_t me.toInt (4 * ln.toInt) ∧ own_t me.toInt (4 * ln.toInt) ≤ 16777215 := by
  obtain ⟨h1, h2, h3, h4⟩ := h
  obtain ⟨t1, t2, t3, t4, t5⟩ := own_t_spec me.toInt (4 * ln.toInt) (by omega) (by omega)
  omega
theorem own_prod {t p : Int} (h1 : 0 ≤ t) (h2 : t ≤ 16777215) (h3 : 1 ≤ p) (h4 : p < 2147483648) : 0 ≤ t * p ∧ t * p < 9223372036854775808 := by
  refine ⟨Int.mul_nonneg h1 (by omega), ?_⟩
  have a : t * p ≤ 16777215 * p := Int.mul_le_mul_of_nonneg_right h2 (by omega)
  omega
theorem own_filled {bl ps : Int32} {t : Int} (hb : bl.toInt = t) (h1 : 0 ≤ t) (h2 : t ≤ 16777215) (h3 : 1 ≤ ps.toInt) : (bl.toInt64 * ps.toInt64).toInt = t * ps.toInt := by
  have r := rng32 ps
  obtain ⟨a, b⟩ := own_prod h1 h2 h3 r.2
  rw [own_mul64 _ _ (by rw [c_i2l, c_i2l, hb]; exact a) (by rw [c_i2l, c_i2l, hb]; exact b), c_i2l, c_i2l, hb]
theorem own_per {f : Int64} {ps : Int32} {t : Int} (hf : f.toInt = t * ps.toInt) (h1 : 0 ≤ t) (h2 : t ≤ 16777215) (h3 : 1 ≤ ps.toInt) : (f / ps.toInt64).toInt = t := by
  have r := rng32 ps
  obtain ⟨a, b⟩ := own_prod h1 h2 h3 r.2
  rw [own_div64 _ _ (by omega) (by rw [c_i2l]; omega), c_i2l, hf]
  exact Int.mul_ediv_cancel _ (by omega)
theorem own_remf {f : Int64} {ps : Int32} {t : Int} (hf : f.toInt = t * ps.toInt) (h1 : 0 ≤ t) (h2 : t ≤ 16777215) (h3 : 1 ≤ ps.toInt) : f - f / ps.toInt64 * ps.toInt64 = 0 := by
  have r := rng32 ps
  obtain ⟨a, b⟩ := own_prod h1 h2 h3 r.2
  have d := own_per hf h1 h2 h3
  have q : (f / ps.toInt64 * ps.toInt64).toInt = f.toInt := by
    rw [own_mul64 _ _ (by rw [d, c_i2l]; exact a) (by rw [d, c_i2l]; exact b), d, c_i2l, hf]
  apply Int64.toInt_inj.mp
  have := c_lsub f (f / ps.toInt64 * ps.toInt64)
  have r := rng64 (f - f / ps.toInt64 * ps.toInt64)
  rw [q] at this
  rw [show (0 : Int64).toInt = 0 from rfl]
  omega
theorem own_psnz {ps : Int32} (h3 : 1 ≤ ps.toInt) : ps.toInt64 ≠ 0 := fun q => by
  have := c_i2l ps
  rw [q, show (0 : Int64).toInt = 0 from rfl] at this
  omega
theorem own_pass (x : Int32) : 1 ≤ ((1 : Int32) + (x &&& (2147483647 : Int32)) % (2147483647 : Int32)).toInt := by
  have e1 : (1 : Int32).toInt = 1 := rfl
  have e2 : (2147483647 : Int32).toInt = 2147483647 := rfl
  have m := own_m31 x
  have b := own_modb (x &&& (2147483647 : Int32)) (2147483647 : Int32) m.1 (by decide)
  have a := c_iadd (1 : Int32) ((x &&& (2147483647 : Int32)) % (2147483647 : Int32))
  have r := rng32 ((1 : Int32) + (x &&& (2147483647 : Int32)) % (2147483647 : Int32))
  omega
theorem own_ge1 {ps : Int32} (h3 : 1 ≤ ps.toInt) : ¬ ps < (1 : Int32) := by
  rw [own_lt32, show (1 : Int32).toInt = 1 from rfl]; omega
theorem own_max1 (y : Int32) : 1 ≤ (if (1 : Int32) < y then y else (1 : Int32)).toInt := by
  have e1 : (1 : Int32).toInt = 1 := rfl
  split
  · rename_i h; rw [own_lt32] at h; omega
  · omega
theorem d1_0 : decode jdk_29_method_65_code 0 = .ok (.iload_n 0, 1) := by decide +kernel
theorem d1_1 : decode jdk_29_method_65_code 1 = .ok (.iload_n 1, 1) := by decide +kernel
theorem d1_2 : decode jdk_29_method_65_code 2 = .ok (.if_icmp .lt 7, 3) := by decide +kernel
theorem d1_5 : decode jdk_29_method_65_code 5 = .ok (.iload_n 0, 1) := by decide +kernel
theorem d1_6 : decode jdk_29_method_65_code 6 = .ok (.goto 4, 3) := by decide +kernel
theorem d1_9 : decode jdk_29_method_65_code 9 = .ok (.iload_n 1, 1) := by decide +kernel
theorem d1_10 : decode jdk_29_method_65_code 10 = .ok (.ireturn, 1) := by decide +kernel
theorem d2_0 : decode prog_3_method_1_code 0 = .ok (.aload_n 0, 1) := by decide +kernel
theorem d2_1 : decode prog_3_method_1_code 1 = .ok (.invokespecial 3, 3) := by decide +kernel
theorem d2_4 : decode prog_3_method_1_code 4 = .ok (.iload_n 3, 1) := by decide +kernel
theorem d2_5 : decode prog_3_method_1_code 5 = .ok (.iconst 1, 1) := by decide +kernel
theorem d2_6 : decode prog_3_method_1_code 6 = .ok (.if_icmp .lt 14, 3) := by decide +kernel
theorem d2_9 : decode prog_3_method_1_code 9 = .ok (.iload_n 3, 1) := by decide +kernel
theorem d2_10 : decode prog_3_method_1_code 10 = .ok (.ldc 9, 2) := by decide +kernel
theorem d2_12 : decode prog_3_method_1_code 12 = .ok (.if_icmp .gt 8, 3) := by decide +kernel
theorem d2_15 : decode prog_3_method_1_code 15 = .ok (.iload_n 2, 1) := by decide +kernel
theorem d2_16 : decode prog_3_method_1_code 16 = .ok (.iconst 1, 1) := by decide +kernel
theorem d2_17 : decode prog_3_method_1_code 17 = .ok (.if_icmp .ge 13, 3) := by decide +kernel
theorem d2_30 : decode prog_3_method_1_code 30 = .ok (.iload_n 1, 1) := by decide +kernel
theorem d2_31 : decode prog_3_method_1_code 31 = .ok (.bipush 8, 2) := by decide +kernel
theorem d2_33 : decode prog_3_method_1_code 33 = .ok (.iload_n 3, 1) := by decide +kernel
theorem d2_34 : decode prog_3_method_1_code 34 = .ok (.imul, 1) := by decide +kernel
theorem d2_35 : decode prog_3_method_1_code 35 = .ok (.if_icmp .lt 9, 3) := by decide +kernel
theorem d2_38 : decode prog_3_method_1_code 38 = .ok (.iload_n 1, 1) := by decide +kernel
theorem d2_39 : decode prog_3_method_1_code 39 = .ok (.ldc 9, 2) := by decide +kernel
theorem d2_41 : decode prog_3_method_1_code 41 = .ok (.if_icmp .le 18, 3) := by decide +kernel
theorem d2_59 : decode prog_3_method_1_code 59 = .ok (.aload_n 0, 1) := by decide +kernel
theorem d2_60 : decode prog_3_method_1_code 60 = .ok (.iload_n 1, 1) := by decide +kernel
theorem d2_61 : decode prog_3_method_1_code 61 = .ok (.putfield 21, 3) := by decide +kernel
theorem d2_64 : decode prog_3_method_1_code 64 = .ok (.aload_n 0, 1) := by decide +kernel
theorem d2_65 : decode prog_3_method_1_code 65 = .ok (.iload_n 2, 1) := by decide +kernel
theorem d2_66 : decode prog_3_method_1_code 66 = .ok (.putfield 27, 3) := by decide +kernel
theorem d2_69 : decode prog_3_method_1_code 69 = .ok (.aload_n 0, 1) := by decide +kernel
theorem d2_70 : decode prog_3_method_1_code 70 = .ok (.iload_n 3, 1) := by decide +kernel
theorem d2_71 : decode prog_3_method_1_code 71 = .ok (.putfield 30, 3) := by decide +kernel
theorem d2_74 : decode prog_3_method_1_code 74 = .ok (.return_, 1) := by decide +kernel
theorem d3_0 : decode jdk_30_method_1_code 0 = .ok (.aload_n 0, 1) := by decide +kernel
theorem d3_1 : decode jdk_30_method_1_code 1 = .ok (.invokespecial 1, 3) := by decide +kernel
theorem d3_4 : decode jdk_30_method_1_code 4 = .ok (.return_, 1) := by decide +kernel
theorem d5_0 : decode prog_3_method_2_code 0 = .ok (.aload_n 0, 1) := by decide +kernel
theorem d5_1 : decode prog_3_method_2_code 1 = .ok (.getfield 21, 3) := by decide +kernel
theorem d5_4 : decode prog_3_method_2_code 4 = .ok (.iconst 4, 1) := by decide +kernel
theorem d5_5 : decode prog_3_method_2_code 5 = .ok (.aload_n 0, 1) := by decide +kernel
theorem d5_6 : decode prog_3_method_2_code 6 = .ok (.getfield 30, 3) := by decide +kernel
theorem d5_9 : decode prog_3_method_2_code 9 = .ok (.imul, 1) := by decide +kernel
theorem d5_10 : decode prog_3_method_2_code 10 = .ok (.idiv, 1) := by decide +kernel
theorem d5_11 : decode prog_3_method_2_code 11 = .ok (.iconst 4, 1) := by decide +kernel
theorem d5_12 : decode prog_3_method_2_code 12 = .ok (.imul, 1) := by decide +kernel
theorem d5_13 : decode prog_3_method_2_code 13 = .ok (.aload_n 0, 1) := by decide +kernel
theorem d5_14 : decode prog_3_method_2_code 14 = .ok (.getfield 30, 3) := by decide +kernel
theorem d5_17 : decode prog_3_method_2_code 17 = .ok (.imul, 1) := by decide +kernel
theorem d5_18 : decode prog_3_method_2_code 18 = .ok (.ireturn, 1) := by decide +kernel
theorem pn_0 : plainName "com/example/lockstile/lockstile/identities/CostBlocksPinLaw" = true := by first | (simp [plainName, overriddenIn]; done) | decide +kernel
theorem pn_2 : plainName "com/example/lockstile/lockstile/identities/Argon2$Cost" = true := by first | (simp [plainName, overriddenIn]; done) | decide +kernel
theorem pn_3 : plainName "java/lang/Record" = true := by first | (simp [plainName, overriddenIn]; done) | decide +kernel
theorem pn_5 : plainName "com/example/lockstile/lockstile/identities/Argon2$Cost" = true := by first | (simp [plainName, overriddenIn]; done) | decide +kernel
theorem pd_0 : parseMethodDescriptor "()V" = some ⟨[], none⟩ := by decide +kernel
theorem pd_1 : parseMethodDescriptor "(II)I" = some ⟨[.int, .int], some .int⟩ := by decide +kernel
theorem pd_2 : parseMethodDescriptor "(III)V" = some ⟨[.int, .int, .int], none⟩ := by decide +kernel
theorem pd_3 : parseMethodDescriptor "()I" = some ⟨[], some .int⟩ := by decide +kernel
theorem ef_1 (m : MethodId) (p1 : Int32) (p2 : Int32) : entryFrame m #[(.int p1), (.int p2)] 2 = mkF m 0 #[.val (.int p1), .val (.int p2)] [] := by first | (simp [entryFrame, mkF, argsToLocals, Value.category]; done) | rfl
def Q1 (Z : State) (p1 : Int32) (p2 : Int32) (h0 : Heap) (n0 : Nat) (v : Option Value) (h : Heap) (L : List Loc) : Prop := v = some (.int (if p1 < p2 then p2 else p1)) ∧ Fr n0 L ∧ h = h0
set_option maxRecDepth 65536 in
set_option maxHeartbeats 40000000 in
theorem rm1 (l : Launch) (Z : State) (a0 : Array Value) (hw : ∀ d ∈ tables_1, d.before a0 Z = true) (ws : List Jvm.Cond) (p1 : Int32) (p2 : Int32) (h0 : Heap) (n0 : Nat) (Z0 : n0 ≤ h0.size)  :
    MetFree l (⟨"java/lang/Math", "max", "(II)I"⟩ : MethodName) (head1 (Jvm.Cond.code (⟨"java/lang/Math", "max", "(II)I"⟩ : MethodName) jdk_29_method_65_code 2 (some .int) :: ws) ({ frames := 0, cells := 0, slots := 0, locals := 0 } : Room)) (fun a U => a = #[(.int p1), (.int p2)] ∧ Z.Warmed39 U.vm ∧ U.heap = h0) (fun _ _ _ _ _ => True) (fun _ U o U' => ∃ v L, o = .returned v ∧ Q1 Z p1 p2 h0 n0 v U'.heap L ∧ FrameEnd U o U' L ({ frames := 0, cells := 0, slots := 0, locals := 0 } : Room).cells ({ frames := 0, cells := 0, slots := 0, locals := 0 } : Room).slots) := by
  refine MetFree.of_bodySF (Jvm.Free.JP.mathPlain rfl (by decide +kernel)) hisR ?_
  intro p e s m args below meth c s₁ Bd hml0 hP hK
  obtain ⟨rfl, hZ, hh⟩ := hP
  have hx := Bd.exec
  have hby := Bd.bytes
  have hml : c.maxLocals = 2 := hml0
  have hown : s.vm.findClass "java/lang/Math" = some m.cls := findClass_of_methodNamed Bd.named
  have hnm := (name_of_methodNamed Bd.named Bd.method).1
  have hlk := Bd.notSynchronized
  have hret := Bd.returns
  have X0 : Stand p l e ({ frames := 0, cells := 0, slots := 0, locals := 0 } : Room) s m #[(.int p1), (.int p2)] below meth c s₁ [] 0 0 := Stand.of_body Bd
  have e0 : s₁.heap = h0 := by rw [← hh, Bd.state]; rfl
  have N0 := Fr.nil n0
  show own_G p e below (s₁.setTop (entryFrame m #[(.int p1), (.int p2)] 2)) (fun s₂ o => ∃ v L, o = .returned v ∧ Q1 Z p1 p2 h0 n0 v s₂.heap L ∧ FrameEnd s o s₂ L ({ frames := 0, cells := 0, slots := 0, locals := 0 } : Room).cells ({ frames := 0, cells := 0, slots := 0, locals := 0 } : Room).slots)
  refine own_go (fun t k => castTop (ef_1 m p1 p2) k) ?_
  show own_G p e below (s₁.setTop (mkF m 0 #[.val (.int p1), .val (.int p2)] [])) _
  refine own_go (fun _ k => XS.iloadN X0.here hx rfl (hb hby d1_0) rfl k) ?_
  show own_G p e below (s₁.setTop (mkF m 1 #[.val (.int p1), .val (.int p2)] [(.int p1)])) _
  refine own_go (fun _ k => XS.iloadN X0.here hx rfl (hb hby d1_1) rfl k) ?_
  show own_G p e below (s₁.setTop (mkF m 2 #[.val (.int p1), .val (.int p2)] [(.int p2), (.int p1)])) _
  by_cases hc2_1 : p1 < p2
  · refine own_go (fun _ k => XS.icmpYes X0.here hx rfl (pc0 := 2) (pc' := 9) rfl (hb hby d1_2) rfl (tlt hc2_1).1 (by decide) (by decide) k) ?_
    show own_G p e below (s₁.setTop (mkF m 9 #[.val (.int p1), .val (.int p2)] [])) _
    refine own_go (fun _ k => XS.iloadN X0.here hx rfl (hb hby d1_9) rfl k) ?_
    show own_G p e below (s₁.setTop (mkF m 10 #[.val (.int p1), .val (.int p2)] [(.int p2)])) _
    refine own_ret X0 hlk (v := some (.int p2)) (fun h => by rw [hret] at h; cases h) (Q1 Z p1 p2 h0 n0) (own_retI X0 hx (t := .int) hret rfl (Or.inl ⟨rfl, by simp, _, rfl⟩) (hb hby d1_10)) (by decide) (by decide) ?_
    show Q1 Z p1 p2 h0 n0 _ s₁.heap _
    rw [e0]
    exact ⟨by simp [hc2_1], N0, rfl⟩
  · refine own_go (fun _ k => XS.icmpNo X0.here hx rfl (hb hby d1_2) rfl (flt hc2_1).1 k) ?_
    show own_G p e below (s₁.setTop (mkF m 5 #[.val (.int p1), .val (.int p2)] [])) _
    refine own_go (fun _ k => XS.iloadN X0.here hx rfl (hb hby d1_5) rfl k) ?_
    show own_G p e below (s₁.setTop (mkF m 6 #[.val (.int p1), .val (.int p2)] [(.int p1)])) _
    refine own_go (fun _ k => XS.goto X0.here hx rfl (pc0 := 6) (pc' := 10) rfl (hb hby d1_6) (by decide) (by decide) k) ?_
    show own_G p e below (s₁.setTop (mkF m 10 #[.val (.int p1), .val (.int p2)] [(.int p1)])) _
    refine own_ret X0 hlk (v := some (.int p1)) (fun h => by rw [hret] at h; cases h) (Q1 Z p1 p2 h0 n0) (own_retI X0 hx (t := .int) hret rfl (Or.inl ⟨rfl, by simp, _, rfl⟩) (hb hby d1_10)) (by decide) (by decide) ?_
    show Q1 Z p1 p2 h0 n0 _ s₁.heap _
    rw [e0]
    exact ⟨by simp [hc2_1], N0, rfl⟩
theorem ef_3 (m : MethodId) (a1 : Addr) : entryFrame m #[(.ref a1)] 1 = mkF m 0 #[.val (.ref a1)] [] := by first | (simp [entryFrame, mkF, argsToLocals, Value.category]; done) | rfl
def Q3 (Z : State) (a1 : Addr) (h0 : Heap) (n0 : Nat) (v : Option Value) (h : Heap) (L : List Loc) : Prop := v = none ∧ Fr n0 L ∧ h = h0
set_option maxRecDepth 65536 in
set_option maxHeartbeats 40000000 in
theorem rm3 (l : Launch) (Z : State) (a0 : Array Value) (hw : ∀ d ∈ tables_1, d.before a0 Z = true) (ws : List Jvm.Cond) (a1 : Addr) (h0 : Heap) (n0 : Nat) (Z0 : n0 ≤ h0.size)  :
    MetFree l (⟨"java/lang/Record", "<init>", "()V"⟩ : MethodName) (head1 (Jvm.Cond.code (⟨"java/lang/Record", "<init>", "()V"⟩ : MethodName) jdk_30_method_1_code 1 none :: ws) ({ frames := 1, cells := 0, slots := 0, locals := 12 } : Room)) (fun a U => a = #[(.ref a1)] ∧ Z.Warmed39 U.vm ∧ U.heap = h0) (fun _ _ _ _ _ => True) (fun _ U o U' => ∃ v L, o = .returned v ∧ Q3 Z a1 h0 n0 v U'.heap L ∧ FrameEnd U o U' L ({ frames := 1, cells := 0, slots := 0, locals := 12 } : Room).cells ({ frames := 1, cells := 0, slots := 0, locals := 12 } : Room).slots) := by
  refine MetFree.of_bodySF (plainFor_of_name pn_3) hisR ?_
  intro p e s m args below meth c s₁ Bd hml0 hP hK
  obtain ⟨rfl, hZ, hh⟩ := hP
  have hx := Bd.exec
  have hby := Bd.bytes
  have hml : c.maxLocals = 1 := hml0
  have hown : s.vm.findClass "java/lang/Record" = some m.cls := findClass_of_methodNamed Bd.named
  have hnm := (name_of_methodNamed Bd.named Bd.method).1
  have hlk := Bd.notSynchronized
  have hret := Bd.returns
  have X0 : Stand p l e ({ frames := 1, cells := 0, slots := 0, locals := 12 } : Room) s m #[(.ref a1)] below meth c s₁ [] 0 0 := Stand.of_body Bd
  have e0 : s₁.heap = h0 := by rw [← hh, Bd.state]; rfl
  have N0 := Fr.nil n0
  show own_G p e below (s₁.setTop (entryFrame m #[(.ref a1)] 1)) (fun s₂ o => ∃ v L, o = .returned v ∧ Q3 Z a1 h0 n0 v s₂.heap L ∧ FrameEnd s o s₂ L ({ frames := 1, cells := 0, slots := 0, locals := 12 } : Room).cells ({ frames := 1, cells := 0, slots := 0, locals := 12 } : Room).slots)
  refine own_go (fun t k => castTop (ef_3 m a1) k) ?_
  show own_G p e below (s₁.setTop (mkF m 0 #[.val (.ref a1)] [])) _
  refine own_go (fun _ k => XS.aloadN X0.here hx rfl (hb hby d3_0) rfl rfl k) ?_
  show own_G p e below (s₁.setTop (mkF m 1 #[.val (.ref a1)] [(.ref a1)])) _
  obtain ⟨T2, X2, e2, st2⟩ := initO X0 hx hZ hown (hw _ (List.mem_of_getElem? (i := 18) rfl)) (hw _ (List.mem_of_getElem? (i := 19) rfl)) (hw _ (List.mem_of_getElem? (i := 20) rfl)) e0 (g := (mkF m 1 #[.val (.ref a1)] [(.ref a1)])) rfl (by rw [hml]; rfl) rfl (hb hby d3_1) (by decide) (W := 0) (by show 2 * 0 + _ ≤ _; exact Nat.le_of_eq rfl) (by decide)
  refine own_go st2 ?_
  show own_G p e below (T2.setTop (mkF m 4 #[.val (.ref a1)] [])) _
  refine own_ret X2 hlk (v := none) (fun _ => rfl) (Q3 Z a1 h0 n0) (own_retV X2 hx hret (hb hby d3_4)) (by decide) (by decide) ?_
  show Q3 Z a1 h0 n0 _ T2.heap _
  rw [e2]
  exact ⟨rfl, N0, rfl⟩
theorem ef_2 (m : MethodId) (a1 : Addr) (p2 : Int32) (p3 : Int32) (p4 : Int32) : entryFrame m #[(.ref a1), (.int p2), (.int p3), (.int p4)] 4 = mkF m 0 #[.val (.ref a1), .val (.int p2), .val (.int p3), .val (.int p4)] [] := by first | (simp [entryFrame, mkF, argsToLocals, Value.category]; done) | rfl
def Q2 (Z : State) (a1 : Addr) (p2 : Int32) (p3 : Int32) (p4 : Int32) (h0 : Heap) (n0 : Nat) (v : Option Value) (h : Heap) (L : List Loc) : Prop := v = none ∧ Fr n0 L ∧ Keep h0 h [a1] ∧ Exa Z h a1 "com/example/lockstile/lockstile/identities/Argon2$Cost" ∧ Fld Z h a1 "com/example/lockstile/lockstile/identities/Argon2$Cost" "memoryKib" "I" (.int p2) ∧ Fld Z h a1 "com/example/lockstile/lockstile/identities/Argon2$Cost" "passes" "I" (.int p3) ∧ Fld Z h a1 "com/example/lockstile/lockstile/identities/Argon2$Cost" "lanes" "I" (.int p4)
set_option maxRecDepth 65536 in
set_option maxHeartbeats 40000000 in
theorem rm2 (l : Launch) (Z : State) (a0 : Array Value) (hw : ∀ d ∈ tables_1, d.before a0 Z = true) (ws : List Jvm.Cond) (a1 : Addr) (p2 : Int32) (p3 : Int32) (p4 : Int32) (h0 : Heap) (n0 : Nat) (Z0 : n0 ≤ h0.size) (E_a1 : Exa Z h0 a1 "com/example/lockstile/lockstile/identities/Argon2$Cost") (F_memoryKib_a1 : Fld Z h0 a1 "com/example/lockstile/lockstile/identities/Argon2$Cost" "memoryKib" "I" (.int (0 : Int32))) (F_passes_a1 : Fld Z h0 a1 "com/example/lockstile/lockstile/identities/Argon2$Cost" "passes" "I" (.int (0 : Int32))) (F_lanes_a1 : Fld Z h0 a1 "com/example/lockstile/lockstile/identities/Argon2$Cost" "lanes" "I" (.int (0 : Int32))) (g_a1 : n0 ≤ a1) (hok : own_ok p4 p2) (hps : 1 ≤ p3.toInt) :
    MetFree l (⟨"com/example/lockstile/lockstile/identities/Argon2$Cost", "<init>", "(III)V"⟩ : MethodName) (head1 (Jvm.Cond.code (⟨"com/example/lockstile/lockstile/identities/Argon2$Cost", "<init>", "(III)V"⟩ : MethodName) prog_3_method_1_code 4 none :: ws) ({ frames := 2, cells := 0, slots := 0, locals := 24 } : Room)) (fun a U => a = #[(.ref a1), (.int p2), (.int p3), (.int p4)] ∧ Z.Warmed39 U.vm ∧ U.heap = h0) (fun _ _ _ _ _ => True) (fun _ U o U' => ∃ v L, o = .returned v ∧ Q2 Z a1 p2 p3 p4 h0 n0 v U'.heap L ∧ FrameEnd U o U' L ({ frames := 2, cells := 0, slots := 0, locals := 24 } : Room).cells ({ frames := 2, cells := 0, slots := 0, locals := 24 } : Room).slots) := by
  refine MetFree.of_bodySF (plainFor_of_name pn_2) hisR ?_
  intro p e s m args below meth c s₁ Bd hml0 hP hK
  obtain ⟨rfl, hZ, hh⟩ := hP
  have hx := Bd.exec
  have hby := Bd.bytes
  have hml : c.maxLocals = 4 := hml0
  have hown : s.vm.findClass "com/example/lockstile/lockstile/identities/Argon2$Cost" = some m.cls := findClass_of_methodNamed Bd.named
  have hnm := (name_of_methodNamed Bd.named Bd.method).1
  have hlk := Bd.notSynchronized
  have hret := Bd.returns
  have X0 : Stand p l e ({ frames := 2, cells := 0, slots := 0, locals := 24 } : Room) s m #[(.ref a1), (.int p2), (.int p3), (.int p4)] below meth c s₁ [] 0 0 := Stand.of_body Bd
  have e0 : s₁.heap = h0 := by rw [← hh, Bd.state]; rfl
  have N0 := Fr.nil n0
  show own_G p e below (s₁.setTop (entryFrame m #[(.ref a1), (.int p2), (.int p3), (.int p4)] 4)) (fun s₂ o => ∃ v L, o = .returned v ∧ Q2 Z a1 p2 p3 p4 h0 n0 v s₂.heap L ∧ FrameEnd s o s₂ L ({ frames := 2, cells := 0, slots := 0, locals := 24 } : Room).cells ({ frames := 2, cells := 0, slots := 0, locals := 24 } : Room).slots)
  refine own_go (fun t k => castTop (ef_2 m a1 p2 p3 p4) k) ?_
  show own_G p e below (s₁.setTop (mkF m 0 #[.val (.ref a1), .val (.int p2), .val (.int p3), .val (.int p4)] [])) _
  refine own_go (fun _ k => XS.aloadN X0.here hx rfl (hb hby d2_0) rfl rfl k) ?_
  show own_G p e below (s₁.setTop (mkF m 1 #[.val (.ref a1), .val (.int p2), .val (.int p3), .val (.int p4)] [(.ref a1)])) _
  obtain ⟨_, _, ⟨T3, L3, k3, n3⟩, -, X3, ⟨Lc3, hQ3, l3, y3, z3⟩, st3⟩ := X0.specialBack hx (y := (⟨"java/lang/Record", "<init>", "()V"⟩ : MethodName)) rfl hown (mvT hZ (hw _ (List.mem_of_getElem? (i := 13) rfl))) (mvT hZ (hw _ (List.mem_of_getElem? (i := 14) rfl))) (mvT hZ (hw _ (List.mem_of_getElem? (i := 17) rfl))) (by decide) (backOf (W := 0) (rm3 l Z a0 hw [] a1 h0 n0 Z0 ) hZ (hw _ (List.mem_of_getElem? (i := 17) rfl)) (hw _ (List.mem_of_getElem? (i := 16) rfl)) (by decide) (by decide)) (g := (mkF m 1 #[.val (.ref a1), .val (.int p2), .val (.int p3), .val (.int p4)] [(.ref a1)])) rfl (by rw [hml]; rfl) (Steps.refl _) (a := a1) (argsL := []) (rest := []) (lenOf pd_0 rfl) rfl (by show 2 * 0 + _ ≤ _; exact Nat.le_of_eq rfl) (hb hby d2_1) (fun _ _ => ⟨rfl, e0, (by decide : 0 + 0 ≤ _), (by decide : 0 + 0 ≤ _)⟩)
  dsimp only [Pt.U, Pt.locs, Pt.cells, Pt.slots] at X3 l3 y3 z3 st3 hQ3
  subst l3 y3 z3
  obtain ⟨rfl, Nq3, hh3⟩ := hQ3
  have N3 := Fr.app N0 Nq3
  refine own_go (fun _ k => st3.trans k) ?_
  have e3 : T3.heap = h0 := hh3
  show own_G p e below (T3.setTop (mkF m 4 #[.val (.ref a1), .val (.int p2), .val (.int p3), .val (.int p4)] [])) _
  refine own_go (fun _ k => XS.iloadN X3.here hx rfl (hb hby d2_4) rfl k) ?_
  show own_G p e below (T3.setTop (mkF m 5 #[.val (.ref a1), .val (.int p2), .val (.int p3), .val (.int p4)] [(.int p4)])) _
  refine own_go (fun _ k => XS.iconst X3.here hx rfl (hb hby d2_5) k) ?_
  show own_G p e below (T3.setTop (mkF m 6 #[.val (.ref a1), .val (.int p2), .val (.int p3), .val (.int p4)] [(.int (1 : Int32)), (.int p4)])) _
  refine own_go (fun _ k => XS.icmpNo X3.here hx rfl (hb hby d2_6) rfl (flt (own_ctor hok).1).1 k) ?_
  show own_G p e below (T3.setTop (mkF m 9 #[.val (.ref a1), .val (.int p2), .val (.int p3), .val (.int p4)] [])) _
  refine own_go (fun _ k => XS.iloadN X3.here hx rfl (hb hby d2_9) rfl k) ?_
  show own_G p e below (T3.setTop (mkF m 10 #[.val (.ref a1), .val (.int p2), .val (.int p3), .val (.int p4)] [(.int p4)])) _
  refine own_go (X3.ldcInt hx hown (mvT hZ (hw _ (List.mem_of_getElem? (i := 21) rfl))) (g := (mkF m 10 #[.val (.ref a1), .val (.int p2), .val (.int p3), .val (.int p4)] [(.int p4)])) rfl (hb hby d2_10)) ?_
  show own_G p e below (T3.setTop (mkF m 12 #[.val (.ref a1), .val (.int p2), .val (.int p3), .val (.int p4)] [(.int (16777215 : Int32)), (.int p4)])) _
  refine own_go (fun _ k => XS.icmpNo X3.here hx rfl (hb hby d2_12) rfl (flt (own_ctor hok).2.1).2.2.1 k) ?_
  show own_G p e below (T3.setTop (mkF m 15 #[.val (.ref a1), .val (.int p2), .val (.int p3), .val (.int p4)] [])) _
  refine own_go (fun _ k => XS.iloadN X3.here hx rfl (hb hby d2_15) rfl k) ?_
  show own_G p e below (T3.setTop (mkF m 16 #[.val (.ref a1), .val (.int p2), .val (.int p3), .val (.int p4)] [(.int p3)])) _
  refine own_go (fun _ k => XS.iconst X3.here hx rfl (hb hby d2_16) k) ?_
  show own_G p e below (T3.setTop (mkF m 17 #[.val (.ref a1), .val (.int p2), .val (.int p3), .val (.int p4)] [(.int (1 : Int32)), (.int p3)])) _
  refine own_go (fun _ k => XS.icmpYes X3.here hx rfl (pc0 := 17) (pc' := 30) rfl (hb hby d2_17) rfl (flt (own_ge1 hps)).2.1 (by decide) (by decide) k) ?_
  show own_G p e below (T3.setTop (mkF m 30 #[.val (.ref a1), .val (.int p2), .val (.int p3), .val (.int p4)] [])) _
  refine own_go (fun _ k => XS.iloadN X3.here hx rfl (hb hby d2_30) rfl k) ?_
  show own_G p e below (T3.setTop (mkF m 31 #[.val (.ref a1), .val (.int p2), .val (.int p3), .val (.int p4)] [(.int p2)])) _
  refine own_go (fun _ k => XS.bipush X3.here hx rfl (hb hby d2_31) k) ?_
  show own_G p e below (T3.setTop (mkF m 33 #[.val (.ref a1), .val (.int p2), .val (.int p3), .val (.int p4)] [(.int (8 : Int32)), (.int p2)])) _
  refine own_go (fun _ k => XS.iloadN X3.here hx rfl (hb hby d2_33) rfl k) ?_
  show own_G p e below (T3.setTop (mkF m 34 #[.val (.ref a1), .val (.int p2), .val (.int p3), .val (.int p4)] [(.int p4), (.int (8 : Int32)), (.int p2)])) _
  refine own_go (fun _ k => XS.imul X3.here hx rfl (hb hby d2_34) rfl k) ?_
  show own_G p e below (T3.setTop (mkF m 35 #[.val (.ref a1), .val (.int p2), .val (.int p3), .val (.int p4)] [(.int ((8 : Int32) * p4)), (.int p2)])) _
  refine own_go (fun _ k => XS.icmpNo X3.here hx rfl (hb hby d2_35) rfl (flt (own_ctor hok).2.2.1).1 k) ?_
  show own_G p e below (T3.setTop (mkF m 38 #[.val (.ref a1), .val (.int p2), .val (.int p3), .val (.int p4)] [])) _
  refine own_go (fun _ k => XS.iloadN X3.here hx rfl (hb hby d2_38) rfl k) ?_
  show own_G p e below (T3.setTop (mkF m 39 #[.val (.ref a1), .val (.int p2), .val (.int p3), .val (.int p4)] [(.int p2)])) _
  refine own_go (X3.ldcInt hx hown (mvT hZ (hw _ (List.mem_of_getElem? (i := 21) rfl))) (g := (mkF m 39 #[.val (.ref a1), .val (.int p2), .val (.int p3), .val (.int p4)] [(.int p2)])) rfl (hb hby d2_39)) ?_
  show own_G p e below (T3.setTop (mkF m 41 #[.val (.ref a1), .val (.int p2), .val (.int p3), .val (.int p4)] [(.int (16777215 : Int32)), (.int p2)])) _
  refine own_go (fun _ k => XS.icmpYes X3.here hx rfl (pc0 := 41) (pc' := 59) rfl (hb hby d2_41) rfl (flt (own_ctor hok).2.2.2).2.2.2 (by decide) (by decide) k) ?_
  show own_G p e below (T3.setTop (mkF m 59 #[.val (.ref a1), .val (.int p2), .val (.int p3), .val (.int p4)] [])) _
  refine own_go (fun _ k => XS.aloadN X3.here hx rfl (hb hby d2_59) rfl rfl k) ?_
  show own_G p e below (T3.setTop (mkF m 60 #[.val (.ref a1), .val (.int p2), .val (.int p3), .val (.int p4)] [(.ref a1)])) _
  refine own_go (fun _ k => XS.iloadN X3.here hx rfl (hb hby d2_60) rfl k) ?_
  show own_G p e below (T3.setTop (mkF m 61 #[.val (.ref a1), .val (.int p2), .val (.int p3), .val (.int p4)] [(.int p2), (.ref a1)])) _
  obtain ⟨T4, h4, X4, e4, W4, st4⟩ := putF X3 hx hZ hown (host := "") (Or.inl (hw _ (List.mem_of_getElem? (i := 22) rfl))) Via.refl e3 F_memoryKib_a1 E_a1 (Or.inr ⟨(hw _ (List.mem_of_getElem? (i := 23) rfl)), rfl, hnm⟩) (hw _ (List.mem_of_getElem? (i := 8) rfl)) (ty := .int) (by decide) rfl rfl (g := (mkF m 61 #[.val (.ref a1), .val (.int p2), .val (.int p3), .val (.int p4)] [(.int p2), (.ref a1)])) rfl rfl (hb hby d2_61)
  refine own_go st4 ?_
  have fw4 := F_memoryKib_a1.same W4
  have f5 := E_a1.wr W4
  have f6 := F_passes_a1.other W4 (Or.inr (slot_ne (Or.inr (hw _ (List.mem_of_getElem? (i := 25) rfl))) (Or.inr (hw _ (List.mem_of_getElem? (i := 23) rfl))) (by decide) (t := .int) (t' := .int) (by decide) (by decide)))
  have f7 := F_lanes_a1.other W4 (Or.inr (slot_ne (Or.inr (hw _ (List.mem_of_getElem? (i := 27) rfl))) (Or.inr (hw _ (List.mem_of_getElem? (i := 23) rfl))) (by decide) (t := .int) (t' := .int) (by decide) (by decide)))
  have zs8 : n0 ≤ h4.size := Nat.le_trans Z0 (Keep.of_wr W4).1
  have kp9 : Keep h0 h4 [a1] := (Keep.refl h0 [a1]).wr W4 (Or.inl (List.mem_of_getElem? (i := 0) rfl))
  have N4 := Fr.snoc X4 N3 g_a1
  show own_G p e below (T4.setTop (mkF m 64 #[.val (.ref a1), .val (.int p2), .val (.int p3), .val (.int p4)] [])) _
  refine own_go (fun _ k => XS.aloadN X4.here hx rfl (hb hby d2_64) rfl rfl k) ?_
  show own_G p e below (T4.setTop (mkF m 65 #[.val (.ref a1), .val (.int p2), .val (.int p3), .val (.int p4)] [(.ref a1)])) _
  refine own_go (fun _ k => XS.iloadN X4.here hx rfl (hb hby d2_65) rfl k) ?_
  show own_G p e below (T4.setTop (mkF m 66 #[.val (.ref a1), .val (.int p2), .val (.int p3), .val (.int p4)] [(.int p3), (.ref a1)])) _
  obtain ⟨T10, h10, X10, e10, W10, st10⟩ := putF X4 hx hZ hown (host := "") (Or.inl (hw _ (List.mem_of_getElem? (i := 24) rfl))) Via.refl e4 f6 f5 (Or.inr ⟨(hw _ (List.mem_of_getElem? (i := 25) rfl)), rfl, hnm⟩) (hw _ (List.mem_of_getElem? (i := 8) rfl)) (ty := .int) (by decide) rfl rfl (g := (mkF m 66 #[.val (.ref a1), .val (.int p2), .val (.int p3), .val (.int p4)] [(.int p3), (.ref a1)])) rfl rfl (hb hby d2_66)
  refine own_go st10 ?_
  have fw10 := f6.same W10
  have f11 := f5.wr W10
  have f12 := f7.other W10 (Or.inr (slot_ne (Or.inr (hw _ (List.mem_of_getElem? (i := 27) rfl))) (Or.inr (hw _ (List.mem_of_getElem? (i := 25) rfl))) (by decide) (t := .int) (t' := .int) (by decide) (by decide)))
  have f13 := fw4.other W10 (Or.inr (slot_ne (Or.inr (hw _ (List.mem_of_getElem? (i := 23) rfl))) (Or.inr (hw _ (List.mem_of_getElem? (i := 25) rfl))) (by decide) (t := .int) (t' := .int) (by decide) (by decide)))
  have zs14 : n0 ≤ h10.size := Nat.le_trans zs8 (Keep.of_wr W10).1
  have kp15 : Keep h0 h10 [a1] := kp9.wr W10 (Or.inl (List.mem_of_getElem? (i := 0) rfl))
  have N10 := Fr.snoc X10 N4 g_a1
  show own_G p e below (T10.setTop (mkF m 69 #[.val (.ref a1), .val (.int p2), .val (.int p3), .val (.int p4)] [])) _
  refine own_go (fun _ k => XS.aloadN X10.here hx rfl (hb hby d2_69) rfl rfl k) ?_
  show own_G p e below (T10.setTop (mkF m 70 #[.val (.ref a1), .val (.int p2), .val (.int p3), .val (.int p4)] [(.ref a1)])) _
  refine own_go (fun _ k => XS.iloadN X10.here hx rfl (hb hby d2_70) rfl k) ?_
  show own_G p e below (T10.setTop (mkF m 71 #[.val (.ref a1), .val (.int p2), .val (.int p3), .val (.int p4)] [(.int p4), (.ref a1)])) _
  obtain ⟨T16, h16, X16, e16, W16, st16⟩ := putF X10 hx hZ hown (host := "") (Or.inl (hw _ (List.mem_of_getElem? (i := 26) rfl))) Via.refl e10 f12 f11 (Or.inr ⟨(hw _ (List.mem_of_getElem? (i := 27) rfl)), rfl, hnm⟩) (hw _ (List.mem_of_getElem? (i := 8) rfl)) (ty := .int) (by decide) rfl rfl (g := (mkF m 71 #[.val (.ref a1), .val (.int p2), .val (.int p3), .val (.int p4)] [(.int p4), (.ref a1)])) rfl rfl (hb hby d2_71)
  refine own_go st16 ?_
  have fw16 := f12.same W16
  have f17 := f11.wr W16
  have f18 := f13.other W16 (Or.inr (slot_ne (Or.inr (hw _ (List.mem_of_getElem? (i := 23) rfl))) (Or.inr (hw _ (List.mem_of_getElem? (i := 27) rfl))) (by decide) (t := .int) (t' := .int) (by decide) (by decide)))
  have f19 := fw10.other W16 (Or.inr (slot_ne (Or.inr (hw _ (List.mem_of_getElem? (i := 25) rfl))) (Or.inr (hw _ (List.mem_of_getElem? (i := 27) rfl))) (by decide) (t := .int) (t' := .int) (by decide) (by decide)))
  have zs20 : n0 ≤ h16.size := Nat.le_trans zs14 (Keep.of_wr W16).1
  have kp21 : Keep h0 h16 [a1] := kp15.wr W16 (Or.inl (List.mem_of_getElem? (i := 0) rfl))
  have N16 := Fr.snoc X16 N10 g_a1
  show own_G p e below (T16.setTop (mkF m 74 #[.val (.ref a1), .val (.int p2), .val (.int p3), .val (.int p4)] [])) _
  refine own_ret X16 hlk (v := none) (fun _ => rfl) (Q2 Z a1 p2 p3 p4 h0 n0) (own_retV X16 hx hret (hb hby d2_74)) (by decide) (by decide) ?_
  show Q2 Z a1 p2 p3 p4 h0 n0 _ T16.heap _
  rw [e16]
  exact ⟨rfl, N16, kp21, f17, f18, f19, fw16⟩
theorem ef_5 (m : MethodId) (a1 : Addr) : entryFrame m #[(.ref a1)] 1 = mkF m 0 #[.val (.ref a1)] [] := by first | (simp [entryFrame, mkF, argsToLocals, Value.category]; done) | rfl
def Q5 (Z : State) (a1 : Addr) (me ln : Int32) (h0 : Heap) (n0 : Nat) (v : Option Value) (h : Heap) (L : List Loc) : Prop := ∃ z : Int32, v = some (.int z) ∧ Fr n0 L ∧ h = h0 ∧ z.toInt = own_t me.toInt (4 * ln.toInt)
set_option maxRecDepth 65536 in
set_option maxHeartbeats 40000000 in
theorem rm5 (l : Launch) (Z : State) (a0 : Array Value) (hw : ∀ d ∈ tables_1, d.before a0 Z = true) (ws : List Jvm.Cond) (a1 : Addr) (me ln : Int32) (h0 : Heap) (n0 : Nat) (Z0 : n0 ≤ h0.size)  (F_memoryKib_a1 : Fld Z h0 a1 "com/example/lockstile/lockstile/identities/Argon2$Cost" "memoryKib" "I" (.int me)) (F_lanes_a1 : Fld Z h0 a1 "com/example/lockstile/lockstile/identities/Argon2$Cost" "lanes" "I" (.int ln)) (hok : own_ok ln me) :
    MetFree l (⟨"com/example/lockstile/lockstile/identities/Argon2$Cost", "blocks", "()I"⟩ : MethodName) (head1 (Jvm.Cond.code (⟨"com/example/lockstile/lockstile/identities/Argon2$Cost", "blocks", "()I"⟩ : MethodName) prog_3_method_2_code 1 (some .int) :: ws) ({ frames := 0, cells := 0, slots := 0, locals := 0 } : Room)) (fun a U => a = #[(.ref a1)] ∧ Z.Warmed39 U.vm ∧ U.heap = h0) (fun _ _ _ _ _ => True) (fun _ U o U' => ∃ v L, o = .returned v ∧ Q5 Z a1 me ln h0 n0 v U'.heap L ∧ FrameEnd U o U' L ({ frames := 0, cells := 0, slots := 0, locals := 0 } : Room).cells ({ frames := 0, cells := 0, slots := 0, locals := 0 } : Room).slots) := by
  refine MetFree.of_bodySF (plainFor_of_name pn_5) hisR ?_
  intro p e s m args below meth c s₁ Bd hml0 hP hK
  obtain ⟨rfl, hZ, hh⟩ := hP
  have hx := Bd.exec
  have hby := Bd.bytes
  have hml : c.maxLocals = 1 := hml0
  have hown : s.vm.findClass "com/example/lockstile/lockstile/identities/Argon2$Cost" = some m.cls := findClass_of_methodNamed Bd.named
  have hnm := (name_of_methodNamed Bd.named Bd.method).1
  have hlk := Bd.notSynchronized
  have hret := Bd.returns
  have X0 : Stand p l e ({ frames := 0, cells := 0, slots := 0, locals := 0 } : Room) s m #[(.ref a1)] below meth c s₁ [] 0 0 := Stand.of_body Bd
  have e0 : s₁.heap = h0 := by rw [← hh, Bd.state]; rfl
  have N0 := Fr.nil n0
  show own_G p e below (s₁.setTop (entryFrame m #[(.ref a1)] 1)) (fun s₂ o => ∃ v L, o = .returned v ∧ Q5 Z a1 me ln h0 n0 v s₂.heap L ∧ FrameEnd s o s₂ L ({ frames := 0, cells := 0, slots := 0, locals := 0 } : Room).cells ({ frames := 0, cells := 0, slots := 0, locals := 0 } : Room).slots)
  refine own_go (fun t k => castTop (ef_5 m a1) k) ?_
  show own_G p e below (s₁.setTop (mkF m 0 #[.val (.ref a1)] [])) _
  refine own_go (fun _ k => XS.aloadN X0.here hx rfl (hb hby d5_0) rfl rfl k) ?_
  show own_G p e below (s₁.setTop (mkF m 1 #[.val (.ref a1)] [(.ref a1)])) _
  obtain ⟨T22, X22, e22, st22⟩ := getF X0 hx hZ hown (host := "") (Or.inl (hw _ (List.mem_of_getElem? (i := 22) rfl))) Via.refl e0 F_memoryKib_a1 (g := (mkF m 1 #[.val (.ref a1)] [(.ref a1)])) rfl rfl (hb hby d5_1)
  refine own_go st22 ?_
  show own_G p e below (T22.setTop (mkF m 4 #[.val (.ref a1)] [(.int me)])) _
  refine own_go (fun _ k => XS.iconst X22.here hx rfl (hb hby d5_4) k) ?_
  show own_G p e below (T22.setTop (mkF m 5 #[.val (.ref a1)] [(.int (4 : Int32)), (.int me)])) _
  refine own_go (fun _ k => XS.aloadN X22.here hx rfl (hb hby d5_5) rfl rfl k) ?_
  show own_G p e below (T22.setTop (mkF m 6 #[.val (.ref a1)] [(.ref a1), (.int (4 : Int32)), (.int me)])) _
  obtain ⟨T23, X23, e23, st23⟩ := getF X22 hx hZ hown (host := "") (Or.inl (hw _ (List.mem_of_getElem? (i := 26) rfl))) Via.refl e22 F_lanes_a1 (g := (mkF m 6 #[.val (.ref a1)] [(.ref a1), (.int (4 : Int32)), (.int me)])) rfl rfl (hb hby d5_6)
  refine own_go st23 ?_
  show own_G p e below (T23.setTop (mkF m 9 #[.val (.ref a1)] [(.int ln), (.int (4 : Int32)), (.int me)])) _
  refine own_go (fun _ k => XS.imul X23.here hx rfl (hb hby d5_9) rfl k) ?_
  show own_G p e below (T23.setTop (mkF m 10 #[.val (.ref a1)] [(.int ((4 : Int32) * ln)), (.int me)])) _
  refine own_go (fun _ k => XS.idiv X23.here hx rfl (hb hby d5_10) rfl (own_nz32 hok) k) ?_
  show own_G p e below (T23.setTop (mkF m 11 #[.val (.ref a1)] [(.int (me / ((4 : Int32) * ln)))])) _
  refine own_go (fun _ k => XS.iconst X23.here hx rfl (hb hby d5_11) k) ?_
  show own_G p e below (T23.setTop (mkF m 12 #[.val (.ref a1)] [(.int (4 : Int32)), (.int (me / ((4 : Int32) * ln)))])) _
  refine own_go (fun _ k => XS.imul X23.here hx rfl (hb hby d5_12) rfl k) ?_
  show own_G p e below (T23.setTop (mkF m 13 #[.val (.ref a1)] [(.int ((me / ((4 : Int32) * ln)) * (4 : Int32)))])) _
  refine own_go (fun _ k => XS.aloadN X23.here hx rfl (hb hby d5_13) rfl rfl k) ?_
  show own_G p e below (T23.setTop (mkF m 14 #[.val (.ref a1)] [(.ref a1), (.int ((me / ((4 : Int32) * ln)) * (4 : Int32)))])) _
  obtain ⟨T24, X24, e24, st24⟩ := getF X23 hx hZ hown (host := "") (Or.inl (hw _ (List.mem_of_getElem? (i := 26) rfl))) Via.refl e23 F_lanes_a1 (g := (mkF m 14 #[.val (.ref a1)] [(.ref a1), (.int ((me / ((4 : Int32) * ln)) * (4 : Int32)))])) rfl rfl (hb hby d5_14)
  refine own_go st24 ?_
  show own_G p e below (T24.setTop (mkF m 17 #[.val (.ref a1)] [(.int ln), (.int ((me / ((4 : Int32) * ln)) * (4 : Int32)))])) _
  refine own_go (fun _ k => XS.imul X24.here hx rfl (hb hby d5_17) rfl k) ?_
  show own_G p e below (T24.setTop (mkF m 18 #[.val (.ref a1)] [(.int (((me / ((4 : Int32) * ln)) * (4 : Int32)) * ln))])) _
  refine own_ret X24 hlk (v := some (.int (((me / ((4 : Int32) * ln)) * (4 : Int32)) * ln))) (fun h => by rw [hret] at h; cases h) (Q5 Z a1 me ln h0 n0) (own_retI X24 hx (t := .int) hret rfl (Or.inl ⟨rfl, by simp, _, rfl⟩) (hb hby d5_18)) (by decide) (by decide) ?_
  show Q5 Z a1 me ln h0 n0 _ T24.heap _
  rw [e24]
  exact ⟨_, rfl, N0, rfl, own_blocks hok⟩
theorem ef_0 (m : MethodId) (p1 : Int32) (p2 : Int32) (p3 : Int32) : entryFrame m #[(.int p1), (.int p2), (.int p3)] maxLocals = mkF m 0 #[.val (.int p1), .val (.int p2), .val (.int p3), .unset, .unset, .unset, .unset, .unset, .unset, .unset, .unset, .unset, .unset, .unset, .unset, .unset, .unset, .unset, .unset] [] := by first | (simp [entryFrame, mkF, argsToLocals, Value.category, maxLocals]; done) | rfl
def Q0 (Z : State) (p1 : Int32) (p2 : Int32) (p3 : Int32) (h0 : Heap) (n0 : Nat) (v : Option Value) (h : Heap) (L : List Loc) : Prop := v = some (.int (1 : Int32)) ∧ Fr n0 L
set_option maxRecDepth 65536 in
set_option maxHeartbeats 40000000 in
theorem rm0 (l : Launch) (Z : State) (a0 : Array Value) (hw : ∀ d ∈ tables_1, d.before a0 Z = true) (ws : List Jvm.Cond) (p1 : Int32) (p2 : Int32) (p3 : Int32) (h0 : Heap) (n0 : Nat) (Z0 : n0 ≤ h0.size)  :
    MetFree l x (head1 (Jvm.Cond.code x code maxLocals ret :: ws) room_1) (fun a U => a = #[(.int p1), (.int p2), (.int p3)] ∧ Z.Warmed39 U.vm ∧ U.heap = h0) (fun _ _ _ _ _ => True) (fun _ U o U' => ∃ v L, o = .returned v ∧ Q0 Z p1 p2 p3 h0 n0 v U'.heap L ∧ FrameEnd U o U' L room_1.cells room_1.slots) := by
  refine MetFree.of_bodySF (plainFor_of_name pn_0) hisR ?_
  intro p e s m args below meth c s₁ Bd hml0 hP hK
  obtain ⟨rfl, hZ, hh⟩ := hP
  have hx := Bd.exec
  have hby := Bd.bytes
  have hml : c.maxLocals = 19 := hml0
  have hown : s.vm.findClass "com/example/lockstile/lockstile/identities/CostBlocksPinLaw" = some m.cls := findClass_of_methodNamed Bd.named
  have hnm := (name_of_methodNamed Bd.named Bd.method).1
  have hlk := Bd.notSynchronized
  have hret := Bd.returns
  have X0 : Stand p l e room_1 s m #[(.int p1), (.int p2), (.int p3)] below meth c s₁ [] 0 0 := Stand.of_body Bd
  have e0 : s₁.heap = h0 := by rw [← hh, Bd.state]; rfl
  have N0 := Fr.nil n0
  show own_G p e below (s₁.setTop (entryFrame m #[(.int p1), (.int p2), (.int p3)] maxLocals)) (fun s₂ o => ∃ v L, o = .returned v ∧ Q0 Z p1 p2 p3 h0 n0 v s₂.heap L ∧ FrameEnd s o s₂ L room_1.cells room_1.slots)
  refine own_go (fun t k => castTop (ef_0 m p1 p2 p3) k) ?_
  show own_G p e below (s₁.setTop (mkF m 0 #[.val (.int p1), .val (.int p2), .val (.int p3), .unset, .unset, .unset, .unset, .unset, .unset, .unset, .unset, .unset, .unset, .unset, .unset, .unset, .unset, .unset, .unset] [])) _
  refine own_go (fun _ k => XS.iconst X0.here hx rfl (hb hby at_0) k) ?_
  show own_G p e below (s₁.setTop (mkF m 1 #[.val (.int p1), .val (.int p2), .val (.int p3), .unset, .unset, .unset, .unset, .unset, .unset, .unset, .unset, .unset, .unset, .unset, .unset, .unset, .unset, .unset, .unset] [(.int (1 : Int32))])) _
  refine own_go (fun _ k => XS.iloadN X0.here hx rfl (hb hby at_1) rfl k) ?_
  show own_G p e below (s₁.setTop (mkF m 2 #[.val (.int p1), .val (.int p2), .val (.int p3), .unset, .unset, .unset, .unset, .unset, .unset, .unset, .unset, .unset, .unset, .unset, .unset, .unset, .unset, .unset, .unset] [(.int p1), (.int (1 : Int32))])) _
  refine own_go (X0.ldcInt hx hown (mvT hZ (hw _ (List.mem_of_getElem? (i := 0) rfl))) (g := (mkF m 2 #[.val (.int p1), .val (.int p2), .val (.int p3), .unset, .unset, .unset, .unset, .unset, .unset, .unset, .unset, .unset, .unset, .unset, .unset, .unset, .unset, .unset, .unset] [(.int p1), (.int (1 : Int32))])) rfl (hb hby at_2)) ?_
  show own_G p e below (s₁.setTop (mkF m 4 #[.val (.int p1), .val (.int p2), .val (.int p3), .unset, .unset, .unset, .unset, .unset, .unset, .unset, .unset, .unset, .unset, .unset, .unset, .unset, .unset, .unset, .unset] [(.int (2147483647 : Int32)), (.int p1), (.int (1 : Int32))])) _
  refine own_go (fun _ k => XS.iand X0.here hx rfl (hb hby at_4) rfl k) ?_
  show own_G p e below (s₁.setTop (mkF m 5 #[.val (.int p1), .val (.int p2), .val (.int p3), .unset, .unset, .unset, .unset, .unset, .unset, .unset, .unset, .unset, .unset, .unset, .unset, .unset, .unset, .unset, .unset] [(.int (p1 &&& (2147483647 : Int32))), (.int (1 : Int32))])) _
  refine own_go (X0.ldcInt hx hown (mvT hZ (hw _ (List.mem_of_getElem? (i := 1) rfl))) (g := (mkF m 5 #[.val (.int p1), .val (.int p2), .val (.int p3), .unset, .unset, .unset, .unset, .unset, .unset, .unset, .unset, .unset, .unset, .unset, .unset, .unset, .unset, .unset, .unset] [(.int (p1 &&& (2147483647 : Int32))), (.int (1 : Int32))])) rfl (hb hby at_5)) ?_
  show own_G p e below (s₁.setTop (mkF m 7 #[.val (.int p1), .val (.int p2), .val (.int p3), .unset, .unset, .unset, .unset, .unset, .unset, .unset, .unset, .unset, .unset, .unset, .unset, .unset, .unset, .unset, .unset] [(.int (2097151 : Int32)), (.int (p1 &&& (2147483647 : Int32))), (.int (1 : Int32))])) _
  refine own_go (fun _ k => iremM X0 hx rfl (hb hby at_7) rfl (by decide) k) ?_
  show own_G p e below (s₁.setTop (mkF m 8 #[.val (.int p1), .val (.int p2), .val (.int p3), .unset, .unset, .unset, .unset, .unset, .unset, .unset, .unset, .unset, .unset, .unset, .unset, .unset, .unset, .unset, .unset] [(.int ((p1 &&& (2147483647 : Int32)) % (2097151 : Int32))), (.int (1 : Int32))])) _
  refine own_go (fun _ k => XS.iadd X0.here hx rfl (hb hby at_8) rfl k) ?_
  show own_G p e below (s₁.setTop (mkF m 9 #[.val (.int p1), .val (.int p2), .val (.int p3), .unset, .unset, .unset, .unset, .unset, .unset, .unset, .unset, .unset, .unset, .unset, .unset, .unset, .unset, .unset, .unset] [(.int ((1 : Int32) + ((p1 &&& (2147483647 : Int32)) % (2097151 : Int32))))])) _
  generalize hln : ((1 : Int32) + ((p1 &&& (2147483647 : Int32)) % (2097151 : Int32))) = ln
  have hl : 1 ≤ ln.toInt ∧ ln.toInt ≤ 2097151 := by rw [← hln]; exact own_lanes p1
  show own_G p e below (s₁.setTop (mkF m 9 #[.val (.int p1), .val (.int p2), .val (.int p3), .unset, .unset, .unset, .unset, .unset, .unset, .unset, .unset, .unset, .unset, .unset, .unset, .unset, .unset, .unset, .unset] [(.int ln)])) _
  refine own_go (fun _ k => XS.istoreN X0.here hx rfl (hb hby at_9) rfl (l' := #[.val (.int p1), .val (.int p2), .val (.int p3), .val (.int ln), .unset, .unset, .unset, .unset, .unset, .unset, .unset, .unset, .unset, .unset, .unset, .unset, .unset, .unset, .unset]) rfl k) ?_
  show own_G p e below (s₁.setTop (mkF m 10 #[.val (.int p1), .val (.int p2), .val (.int p3), .val (.int ln), .unset, .unset, .unset, .unset, .unset, .unset, .unset, .unset, .unset, .unset, .unset, .unset, .unset, .unset, .unset] [])) _
  refine own_go (fun _ k => XS.bipush X0.here hx rfl (hb hby at_10) k) ?_
  show own_G p e below (s₁.setTop (mkF m 12 #[.val (.int p1), .val (.int p2), .val (.int p3), .val (.int ln), .unset, .unset, .unset, .unset, .unset, .unset, .unset, .unset, .unset, .unset, .unset, .unset, .unset, .unset, .unset] [(.int (8 : Int32))])) _
  refine own_go (fun _ k => XS.iloadN X0.here hx rfl (hb hby at_12) rfl k) ?_
  show own_G p e below (s₁.setTop (mkF m 13 #[.val (.int p1), .val (.int p2), .val (.int p3), .val (.int ln), .unset, .unset, .unset, .unset, .unset, .unset, .unset, .unset, .unset, .unset, .unset, .unset, .unset, .unset, .unset] [(.int ln), (.int (8 : Int32))])) _
  refine own_go (fun _ k => XS.imul X0.here hx rfl (hb hby at_13) rfl k) ?_
  show own_G p e below (s₁.setTop (mkF m 14 #[.val (.int p1), .val (.int p2), .val (.int p3), .val (.int ln), .unset, .unset, .unset, .unset, .unset, .unset, .unset, .unset, .unset, .unset, .unset, .unset, .unset, .unset, .unset] [(.int ((8 : Int32) * ln))])) _
  refine own_go (fun _ k => XS.istore X0.here hx rfl (hb hby at_14) rfl (l' := #[.val (.int p1), .val (.int p2), .val (.int p3), .val (.int ln), .val (.int ((8 : Int32) * ln)), .unset, .unset, .unset, .unset, .unset, .unset, .unset, .unset, .unset, .unset, .unset, .unset, .unset, .unset]) rfl k) ?_
  show own_G p e below (s₁.setTop (mkF m 16 #[.val (.int p1), .val (.int p2), .val (.int p3), .val (.int ln), .val (.int ((8 : Int32) * ln)), .unset, .unset, .unset, .unset, .unset, .unset, .unset, .unset, .unset, .unset, .unset, .unset, .unset, .unset] [])) _
  refine own_go (X0.ldcInt hx hown (mvT hZ (hw _ (List.mem_of_getElem? (i := 2) rfl))) (g := (mkF m 16 #[.val (.int p1), .val (.int p2), .val (.int p3), .val (.int ln), .val (.int ((8 : Int32) * ln)), .unset, .unset, .unset, .unset, .unset, .unset, .unset, .unset, .unset, .unset, .unset, .unset, .unset, .unset] [])) rfl (hb hby at_16)) ?_
  show own_G p e below (s₁.setTop (mkF m 18 #[.val (.int p1), .val (.int p2), .val (.int p3), .val (.int ln), .val (.int ((8 : Int32) * ln)), .unset, .unset, .unset, .unset, .unset, .unset, .unset, .unset, .unset, .unset, .unset, .unset, .unset, .unset] [(.int (16777215 : Int32))])) _
  refine own_go (fun _ k => XS.iload X0.here hx rfl (hb hby at_18) rfl k) ?_
  show own_G p e below (s₁.setTop (mkF m 20 #[.val (.int p1), .val (.int p2), .val (.int p3), .val (.int ln), .val (.int ((8 : Int32) * ln)), .unset, .unset, .unset, .unset, .unset, .unset, .unset, .unset, .unset, .unset, .unset, .unset, .unset, .unset] [(.int ((8 : Int32) * ln)), (.int (16777215 : Int32))])) _
  refine own_go (fun _ k => XS.isub X0.here hx rfl (hb hby at_20) rfl k) ?_
  show own_G p e below (s₁.setTop (mkF m 21 #[.val (.int p1), .val (.int p2), .val (.int p3), .val (.int ln), .val (.int ((8 : Int32) * ln)), .unset, .unset, .unset, .unset, .unset, .unset, .unset, .unset, .unset, .unset, .unset, .unset, .unset, .unset] [(.int ((16777215 : Int32) - ((8 : Int32) * ln)))])) _
  refine own_go (fun _ k => XS.iconst X0.here hx rfl (hb hby at_21) k) ?_
  show own_G p e below (s₁.setTop (mkF m 22 #[.val (.int p1), .val (.int p2), .val (.int p3), .val (.int ln), .val (.int ((8 : Int32) * ln)), .unset, .unset, .unset, .unset, .unset, .unset, .unset, .unset, .unset, .unset, .unset, .unset, .unset, .unset] [(.int (1 : Int32)), (.int ((16777215 : Int32) - ((8 : Int32) * ln)))])) _
  refine own_go (fun _ k => XS.iadd X0.here hx rfl (hb hby at_22) rfl k) ?_
  show own_G p e below (s₁.setTop (mkF m 23 #[.val (.int p1), .val (.int p2), .val (.int p3), .val (.int ln), .val (.int ((8 : Int32) * ln)), .unset, .unset, .unset, .unset, .unset, .unset, .unset, .unset, .unset, .unset, .unset, .unset, .unset, .unset] [(.int (((16777215 : Int32) - ((8 : Int32) * ln)) + (1 : Int32)))])) _
  refine own_go (fun _ k => XS.istore X0.here hx rfl (hb hby at_23) rfl (l' := #[.val (.int p1), .val (.int p2), .val (.int p3), .val (.int ln), .val (.int ((8 : Int32) * ln)), .val (.int (((16777215 : Int32) - ((8 : Int32) * ln)) + (1 : Int32))), .unset, .unset, .unset, .unset, .unset, .unset, .unset, .unset, .unset, .unset, .unset, .unset, .unset]) rfl k) ?_
  show own_G p e below (s₁.setTop (mkF m 25 #[.val (.int p1), .val (.int p2), .val (.int p3), .val (.int ln), .val (.int ((8 : Int32) * ln)), .val (.int (((16777215 : Int32) - ((8 : Int32) * ln)) + (1 : Int32))), .unset, .unset, .unset, .unset, .unset, .unset, .unset, .unset, .unset, .unset, .unset, .unset, .unset] [])) _
  refine own_go (fun _ k => XS.iload X0.here hx rfl (hb hby at_25) rfl k) ?_
  show own_G p e below (s₁.setTop (mkF m 27 #[.val (.int p1), .val (.int p2), .val (.int p3), .val (.int ln), .val (.int ((8 : Int32) * ln)), .val (.int (((16777215 : Int32) - ((8 : Int32) * ln)) + (1 : Int32))), .unset, .unset, .unset, .unset, .unset, .unset, .unset, .unset, .unset, .unset, .unset, .unset, .unset] [(.int ((8 : Int32) * ln))])) _
  refine own_go (fun _ k => XS.iloadN X0.here hx rfl (hb hby at_27) rfl k) ?_
  show own_G p e below (s₁.setTop (mkF m 28 #[.val (.int p1), .val (.int p2), .val (.int p3), .val (.int ln), .val (.int ((8 : Int32) * ln)), .val (.int (((16777215 : Int32) - ((8 : Int32) * ln)) + (1 : Int32))), .unset, .unset, .unset, .unset, .unset, .unset, .unset, .unset, .unset, .unset, .unset, .unset, .unset] [(.int p2), (.int ((8 : Int32) * ln))])) _
  refine own_go (X0.ldcInt hx hown (mvT hZ (hw _ (List.mem_of_getElem? (i := 0) rfl))) (g := (mkF m 28 #[.val (.int p1), .val (.int p2), .val (.int p3), .val (.int ln), .val (.int ((8 : Int32) * ln)), .val (.int (((16777215 : Int32) - ((8 : Int32) * ln)) + (1 : Int32))), .unset, .unset, .unset, .unset, .unset, .unset, .unset, .unset, .unset, .unset, .unset, .unset, .unset] [(.int p2), (.int ((8 : Int32) * ln))])) rfl (hb hby at_28)) ?_
  show own_G p e below (s₁.setTop (mkF m 30 #[.val (.int p1), .val (.int p2), .val (.int p3), .val (.int ln), .val (.int ((8 : Int32) * ln)), .val (.int (((16777215 : Int32) - ((8 : Int32) * ln)) + (1 : Int32))), .unset, .unset, .unset, .unset, .unset, .unset, .unset, .unset, .unset, .unset, .unset, .unset, .unset] [(.int (2147483647 : Int32)), (.int p2), (.int ((8 : Int32) * ln))])) _
  refine own_go (fun _ k => XS.iand X0.here hx rfl (hb hby at_30) rfl k) ?_
  show own_G p e below (s₁.setTop (mkF m 31 #[.val (.int p1), .val (.int p2), .val (.int p3), .val (.int ln), .val (.int ((8 : Int32) * ln)), .val (.int (((16777215 : Int32) - ((8 : Int32) * ln)) + (1 : Int32))), .unset, .unset, .unset, .unset, .unset, .unset, .unset, .unset, .unset, .unset, .unset, .unset, .unset] [(.int (p2 &&& (2147483647 : Int32))), (.int ((8 : Int32) * ln))])) _
  refine own_go (fun _ k => XS.iload X0.here hx rfl (hb hby at_31) rfl k) ?_
  show own_G p e below (s₁.setTop (mkF m 33 #[.val (.int p1), .val (.int p2), .val (.int p3), .val (.int ln), .val (.int ((8 : Int32) * ln)), .val (.int (((16777215 : Int32) - ((8 : Int32) * ln)) + (1 : Int32))), .unset, .unset, .unset, .unset, .unset, .unset, .unset, .unset, .unset, .unset, .unset, .unset, .unset] [(.int (((16777215 : Int32) - ((8 : Int32) * ln)) + (1 : Int32))), (.int (p2 &&& (2147483647 : Int32))), (.int ((8 : Int32) * ln))])) _
  refine own_go (fun _ k => iremM X0 hx rfl (hb hby at_33) rfl (own_range_nz hl.1 hl.2) k) ?_
  show own_G p e below (s₁.setTop (mkF m 34 #[.val (.int p1), .val (.int p2), .val (.int p3), .val (.int ln), .val (.int ((8 : Int32) * ln)), .val (.int (((16777215 : Int32) - ((8 : Int32) * ln)) + (1 : Int32))), .unset, .unset, .unset, .unset, .unset, .unset, .unset, .unset, .unset, .unset, .unset, .unset, .unset] [(.int ((p2 &&& (2147483647 : Int32)) % (((16777215 : Int32) - ((8 : Int32) * ln)) + (1 : Int32)))), (.int ((8 : Int32) * ln))])) _
  refine own_go (fun _ k => XS.iadd X0.here hx rfl (hb hby at_34) rfl k) ?_
  show own_G p e below (s₁.setTop (mkF m 35 #[.val (.int p1), .val (.int p2), .val (.int p3), .val (.int ln), .val (.int ((8 : Int32) * ln)), .val (.int (((16777215 : Int32) - ((8 : Int32) * ln)) + (1 : Int32))), .unset, .unset, .unset, .unset, .unset, .unset, .unset, .unset, .unset, .unset, .unset, .unset, .unset] [(.int (((8 : Int32) * ln) + ((p2 &&& (2147483647 : Int32)) % (((16777215 : Int32) - ((8 : Int32) * ln)) + (1 : Int32)))))])) _
  generalize hme : (((8 : Int32) * ln) + ((p2 &&& (2147483647 : Int32)) % (((16777215 : Int32) - ((8 : Int32) * ln)) + (1 : Int32)))) = me
  have hok : own_ok ln me := by rw [← hme]; exact own_mem p2 hl.1 hl.2
  show own_G p e below (s₁.setTop (mkF m 35 #[.val (.int p1), .val (.int p2), .val (.int p3), .val (.int ln), .val (.int ((8 : Int32) * ln)), .val (.int (((16777215 : Int32) - ((8 : Int32) * ln)) + (1 : Int32))), .unset, .unset, .unset, .unset, .unset, .unset, .unset, .unset, .unset, .unset, .unset, .unset, .unset] [(.int me)])) _
  refine own_go (fun _ k => XS.istore X0.here hx rfl (hb hby at_35) rfl (l' := #[.val (.int p1), .val (.int p2), .val (.int p3), .val (.int ln), .val (.int ((8 : Int32) * ln)), .val (.int (((16777215 : Int32) - ((8 : Int32) * ln)) + (1 : Int32))), .val (.int me), .unset, .unset, .unset, .unset, .unset, .unset, .unset, .unset, .unset, .unset, .unset, .unset]) rfl k) ?_
  show own_G p e below (s₁.setTop (mkF m 37 #[.val (.int p1), .val (.int p2), .val (.int p3), .val (.int ln), .val (.int ((8 : Int32) * ln)), .val (.int (((16777215 : Int32) - ((8 : Int32) * ln)) + (1 : Int32))), .val (.int me), .unset, .unset, .unset, .unset, .unset, .unset, .unset, .unset, .unset, .unset, .unset, .unset] [])) _
  refine own_go (fun _ k => XS.iconst X0.here hx rfl (hb hby at_37) k) ?_
  show own_G p e below (s₁.setTop (mkF m 38 #[.val (.int p1), .val (.int p2), .val (.int p3), .val (.int ln), .val (.int ((8 : Int32) * ln)), .val (.int (((16777215 : Int32) - ((8 : Int32) * ln)) + (1 : Int32))), .val (.int me), .unset, .unset, .unset, .unset, .unset, .unset, .unset, .unset, .unset, .unset, .unset, .unset] [(.int (1 : Int32))])) _
  refine own_go (fun _ k => XS.iloadN X0.here hx rfl (hb hby at_38) rfl k) ?_
  show own_G p e below (s₁.setTop (mkF m 39 #[.val (.int p1), .val (.int p2), .val (.int p3), .val (.int ln), .val (.int ((8 : Int32) * ln)), .val (.int (((16777215 : Int32) - ((8 : Int32) * ln)) + (1 : Int32))), .val (.int me), .unset, .unset, .unset, .unset, .unset, .unset, .unset, .unset, .unset, .unset, .unset, .unset] [(.int p3), (.int (1 : Int32))])) _
  refine own_go (X0.ldcInt hx hown (mvT hZ (hw _ (List.mem_of_getElem? (i := 0) rfl))) (g := (mkF m 39 #[.val (.int p1), .val (.int p2), .val (.int p3), .val (.int ln), .val (.int ((8 : Int32) * ln)), .val (.int (((16777215 : Int32) - ((8 : Int32) * ln)) + (1 : Int32))), .val (.int me), .unset, .unset, .unset, .unset, .unset, .unset, .unset, .unset, .unset, .unset, .unset, .unset] [(.int p3), (.int (1 : Int32))])) rfl (hb hby at_39)) ?_
  show own_G p e below (s₁.setTop (mkF m 41 #[.val (.int p1), .val (.int p2), .val (.int p3), .val (.int ln), .val (.int ((8 : Int32) * ln)), .val (.int (((16777215 : Int32) - ((8 : Int32) * ln)) + (1 : Int32))), .val (.int me), .unset, .unset, .unset, .unset, .unset, .unset, .unset, .unset, .unset, .unset, .unset, .unset] [(.int (2147483647 : Int32)), (.int p3), (.int (1 : Int32))])) _
  refine own_go (fun _ k => XS.iand X0.here hx rfl (hb hby at_41) rfl k) ?_
  show own_G p e below (s₁.setTop (mkF m 42 #[.val (.int p1), .val (.int p2), .val (.int p3), .val (.int ln), .val (.int ((8 : Int32) * ln)), .val (.int (((16777215 : Int32) - ((8 : Int32) * ln)) + (1 : Int32))), .val (.int me), .unset, .unset, .unset, .unset, .unset, .unset, .unset, .unset, .unset, .unset, .unset, .unset] [(.int (p3 &&& (2147483647 : Int32))), (.int (1 : Int32))])) _
  obtain ⟨_, _, ⟨T25, L25, k25, n25⟩, -, X25, ⟨Lc25, hQ25, l25, y25, z25⟩, st25⟩ := Jvm.LawKit.callS X0 hx (y := (⟨"java/lang/Math", "max", "(II)I"⟩ : MethodName)) hown (mvT hZ (hw _ (List.mem_of_getElem? (i := 3) rfl))) (mvT hZ (hw _ (List.mem_of_getElem? (i := 4) rfl))) (mvT hZ (hw _ (List.mem_of_getElem? (i := 5) rfl))) (mvT hZ (hw _ (List.mem_of_getElem? (i := 6) rfl))) (by decide) (backOf (W := 0) (rm1 l Z a0 hw [] (1 : Int32) (p3 &&& (2147483647 : Int32)) h0 n0 Z0 ) hZ (hw _ (List.mem_of_getElem? (i := 6) rfl)) (hw _ (List.mem_of_getElem? (i := 5) rfl)) (by decide) (by decide)) (g := (mkF m 42 #[.val (.int p1), .val (.int p2), .val (.int p3), .val (.int ln), .val (.int ((8 : Int32) * ln)), .val (.int (((16777215 : Int32) - ((8 : Int32) * ln)) + (1 : Int32))), .val (.int me), .unset, .unset, .unset, .unset, .unset, .unset, .unset, .unset, .unset, .unset, .unset, .unset] [(.int (p3 &&& (2147483647 : Int32))), (.int (1 : Int32))])) rfl (by rw [hml]; rfl) (argsL := [(.int (1 : Int32)), (.int (p3 &&& (2147483647 : Int32)))]) (rest := []) (lenOf pd_1 rfl) rfl (by show 2 * 0 + _ ≤ _; exact Nat.le_of_eq rfl) (hb hby at_42) (fun _ _ => ⟨rfl, e0, (by decide : 0 + 0 ≤ _), (by decide : 0 + 0 ≤ _)⟩)
  dsimp only [Pt.U, Pt.locs, Pt.cells, Pt.slots] at X25 l25 y25 z25 st25 hQ25
  subst l25 y25 z25
  obtain ⟨rfl, Nq25, hh25⟩ := hQ25
  have N25 := Fr.app N0 Nq25
  refine own_go st25 ?_
  have e25 : T25.heap = h0 := hh25
  show own_G p e below (T25.setTop (mkF m 45 #[.val (.int p1), .val (.int p2), .val (.int p3), .val (.int ln), .val (.int ((8 : Int32) * ln)), .val (.int (((16777215 : Int32) - ((8 : Int32) * ln)) + (1 : Int32))), .val (.int me), .unset, .unset, .unset, .unset, .unset, .unset, .unset, .unset, .unset, .unset, .unset, .unset] [(.int (if (1 : Int32) < (p3 &&& (2147483647 : Int32)) then (p3 &&& (2147483647 : Int32)) else (1 : Int32)))])) _
  generalize hpe : (if (1 : Int32) < (p3 &&& (2147483647 : Int32)) then (p3 &&& (2147483647 : Int32)) else (1 : Int32)) = ps
  have hps : 1 ≤ ps.toInt := by rw [← hpe]; exact own_max1 _
  show own_G p e below (T25.setTop (mkF m 45 #[.val (.int p1), .val (.int p2), .val (.int p3), .val (.int ln), .val (.int ((8 : Int32) * ln)), .val (.int (((16777215 : Int32) - ((8 : Int32) * ln)) + (1 : Int32))), .val (.int me), .unset, .unset, .unset, .unset, .unset, .unset, .unset, .unset, .unset, .unset, .unset, .unset] [(.int ps)])) _
  refine own_go (fun _ k => XS.istore X25.here hx rfl (hb hby at_45) rfl (l' := #[.val (.int p1), .val (.int p2), .val (.int p3), .val (.int ln), .val (.int ((8 : Int32) * ln)), .val (.int (((16777215 : Int32) - ((8 : Int32) * ln)) + (1 : Int32))), .val (.int me), .val (.int ps), .unset, .unset, .unset, .unset, .unset, .unset, .unset, .unset, .unset, .unset, .unset]) rfl k) ?_
  show own_G p e below (T25.setTop (mkF m 47 #[.val (.int p1), .val (.int p2), .val (.int p3), .val (.int ln), .val (.int ((8 : Int32) * ln)), .val (.int (((16777215 : Int32) - ((8 : Int32) * ln)) + (1 : Int32))), .val (.int me), .val (.int ps), .unset, .unset, .unset, .unset, .unset, .unset, .unset, .unset, .unset, .unset, .unset] [])) _
  obtain ⟨T26, h26, X26, e26, E26, A26, D26, -, st26⟩ := newO X25 hx hZ hown (hw _ (List.mem_of_getElem? (i := 7) rfl)) (hw _ (List.mem_of_getElem? (i := 8) rfl)) (hw _ (List.mem_of_getElem? (i := 9) rfl)) e25 (g := (mkF m 47 #[.val (.int p1), .val (.int p2), .val (.int p3), .val (.int ln), .val (.int ((8 : Int32) * ln)), .val (.int (((16777215 : Int32) - ((8 : Int32) * ln)) + (1 : Int32))), .val (.int me), .val (.int ps), .unset, .unset, .unset, .unset, .unset, .unset, .unset, .unset, .unset, .unset, .unset] [])) rfl (hb hby at_47) (by decide) (by decide)
  obtain ⟨b26, g26⟩ : ∃ z, z = h0.size := ⟨_, rfl⟩
  rw [← g26] at A26 D26 st26
  refine own_go st26 ?_
  have ge27 : n0 ≤ b26 := Nat.le_trans Z0 (Nat.le_of_eq g26.symm)
  have zs28 : n0 ≤ h26.size := Nat.le_trans Z0 E26.1
  have f29 : Fld Z h26 b26 "com/example/lockstile/lockstile/identities/Argon2$Cost" "memoryKib" "I" (.int (0 : Int32)) := D26 (Or.inr (hw _ (List.mem_of_getElem? (i := 23) rfl))) (ty := .int) (by decide)
  have f30 : Fld Z h26 b26 "com/example/lockstile/lockstile/identities/Argon2$Cost" "passes" "I" (.int (0 : Int32)) := D26 (Or.inr (hw _ (List.mem_of_getElem? (i := 25) rfl))) (ty := .int) (by decide)
  have f31 : Fld Z h26 b26 "com/example/lockstile/lockstile/identities/Argon2$Cost" "lanes" "I" (.int (0 : Int32)) := D26 (Or.inr (hw _ (List.mem_of_getElem? (i := 27) rfl))) (ty := .int) (by decide)
  show own_G p e below (T26.setTop (mkF m 50 #[.val (.int p1), .val (.int p2), .val (.int p3), .val (.int ln), .val (.int ((8 : Int32) * ln)), .val (.int (((16777215 : Int32) - ((8 : Int32) * ln)) + (1 : Int32))), .val (.int me), .val (.int ps), .unset, .unset, .unset, .unset, .unset, .unset, .unset, .unset, .unset, .unset, .unset] [(.ref b26)])) _
  refine own_go (fun _ k => XS.dup X26.here hx rfl (hb hby at_50) rfl rfl k) ?_
  show own_G p e below (T26.setTop (mkF m 51 #[.val (.int p1), .val (.int p2), .val (.int p3), .val (.int ln), .val (.int ((8 : Int32) * ln)), .val (.int (((16777215 : Int32) - ((8 : Int32) * ln)) + (1 : Int32))), .val (.int me), .val (.int ps), .unset, .unset, .unset, .unset, .unset, .unset, .unset, .unset, .unset, .unset, .unset] [(.ref b26), (.ref b26)])) _
  refine own_go (fun _ k => XS.iload X26.here hx rfl (hb hby at_51) rfl k) ?_
  show own_G p e below (T26.setTop (mkF m 53 #[.val (.int p1), .val (.int p2), .val (.int p3), .val (.int ln), .val (.int ((8 : Int32) * ln)), .val (.int (((16777215 : Int32) - ((8 : Int32) * ln)) + (1 : Int32))), .val (.int me), .val (.int ps), .unset, .unset, .unset, .unset, .unset, .unset, .unset, .unset, .unset, .unset, .unset] [(.int me), (.ref b26), (.ref b26)])) _
  refine own_go (fun _ k => XS.iload X26.here hx rfl (hb hby at_53) rfl k) ?_
  show own_G p e below (T26.setTop (mkF m 55 #[.val (.int p1), .val (.int p2), .val (.int p3), .val (.int ln), .val (.int ((8 : Int32) * ln)), .val (.int (((16777215 : Int32) - ((8 : Int32) * ln)) + (1 : Int32))), .val (.int me), .val (.int ps), .unset, .unset, .unset, .unset, .unset, .unset, .unset, .unset, .unset, .unset, .unset] [(.int ps), (.int me), (.ref b26), (.ref b26)])) _
  refine own_go (fun _ k => XS.iloadN X26.here hx rfl (hb hby at_55) rfl k) ?_
  show own_G p e below (T26.setTop (mkF m 56 #[.val (.int p1), .val (.int p2), .val (.int p3), .val (.int ln), .val (.int ((8 : Int32) * ln)), .val (.int (((16777215 : Int32) - ((8 : Int32) * ln)) + (1 : Int32))), .val (.int me), .val (.int ps), .unset, .unset, .unset, .unset, .unset, .unset, .unset, .unset, .unset, .unset, .unset] [(.int ln), (.int ps), (.int me), (.ref b26), (.ref b26)])) _
  obtain ⟨_, _, ⟨T32, L32, k32, n32⟩, -, X32, ⟨Lc32, hQ32, l32, y32, z32⟩, st32⟩ := X26.specialBack hx (y := (⟨"com/example/lockstile/lockstile/identities/Argon2$Cost", "<init>", "(III)V"⟩ : MethodName)) rfl hown (mvT hZ (hw _ (List.mem_of_getElem? (i := 10) rfl))) (mvT hZ (hw _ (List.mem_of_getElem? (i := 11) rfl))) (mvT hZ (hw _ (List.mem_of_getElem? (i := 12) rfl))) (by decide) (backOf (W := 1) (rm2 l Z a0 hw [] b26 me ps ln h26 n0 zs28 A26 f29 f30 f31 ge27 hok hps) hZ (hw _ (List.mem_of_getElem? (i := 12) rfl)) (hw _ (List.mem_of_getElem? (i := 9) rfl)) (by decide) (by decide)) (g := (mkF m 56 #[.val (.int p1), .val (.int p2), .val (.int p3), .val (.int ln), .val (.int ((8 : Int32) * ln)), .val (.int (((16777215 : Int32) - ((8 : Int32) * ln)) + (1 : Int32))), .val (.int me), .val (.int ps), .unset, .unset, .unset, .unset, .unset, .unset, .unset, .unset, .unset, .unset, .unset] [(.int ln), (.int ps), (.int me), (.ref b26), (.ref b26)])) rfl (by rw [hml]; rfl) (Steps.refl _) (a := b26) (argsL := [(.int me), (.int ps), (.int ln)]) (rest := [(.ref b26)]) (lenOf pd_2 rfl) rfl (by show 2 * 0 + _ ≤ _; exact Nat.le_of_eq rfl) (hb hby at_56) (fun _ _ => ⟨rfl, e26, (by decide : 0 + 0 + 1 + 0 ≤ _), (by decide : 0 + 0 + 3 + 0 ≤ _)⟩)
  dsimp only [Pt.U, Pt.locs, Pt.cells, Pt.slots] at X32 l32 y32 z32 st32 hQ32
  subst l32 y32 z32
  obtain ⟨rfl, Nq32, K32, E32q, Fm32, Fp32, Fl32⟩ := hQ32
  have N32 := Fr.app N25 Nq32
  refine own_go (fun _ k => st32.trans k) ?_
  have f33 := A26.keep K32
  have zs34 : n0 ≤ T32.heap.size := Nat.le_trans zs28 K32.1
  show own_G p e below (T32.setTop (mkF m 59 #[.val (.int p1), .val (.int p2), .val (.int p3), .val (.int ln), .val (.int ((8 : Int32) * ln)), .val (.int (((16777215 : Int32) - ((8 : Int32) * ln)) + (1 : Int32))), .val (.int me), .val (.int ps), .unset, .unset, .unset, .unset, .unset, .unset, .unset, .unset, .unset, .unset, .unset] [(.ref b26)])) _
  refine own_go (fun _ k => XS.astore X32.here hx rfl (hb hby at_59) rfl rfl (l' := #[.val (.int p1), .val (.int p2), .val (.int p3), .val (.int ln), .val (.int ((8 : Int32) * ln)), .val (.int (((16777215 : Int32) - ((8 : Int32) * ln)) + (1 : Int32))), .val (.int me), .val (.int ps), .val (.ref b26), .unset, .unset, .unset, .unset, .unset, .unset, .unset, .unset, .unset, .unset]) rfl k) ?_
  show own_G p e below (T32.setTop (mkF m 61 #[.val (.int p1), .val (.int p2), .val (.int p3), .val (.int ln), .val (.int ((8 : Int32) * ln)), .val (.int (((16777215 : Int32) - ((8 : Int32) * ln)) + (1 : Int32))), .val (.int me), .val (.int ps), .val (.ref b26), .unset, .unset, .unset, .unset, .unset, .unset, .unset, .unset, .unset, .unset] [])) _
  refine own_go (fun _ k => XS.aload X32.here hx rfl (hb hby at_61) rfl rfl k) ?_
  show own_G p e below (T32.setTop (mkF m 63 #[.val (.int p1), .val (.int p2), .val (.int p3), .val (.int ln), .val (.int ((8 : Int32) * ln)), .val (.int (((16777215 : Int32) - ((8 : Int32) * ln)) + (1 : Int32))), .val (.int me), .val (.int ps), .val (.ref b26), .unset, .unset, .unset, .unset, .unset, .unset, .unset, .unset, .unset, .unset] [(.ref b26)])) _
  obtain ⟨cq35, kq35, q35a, q35b, q35c⟩ := isOf hZ rfl E32q
  obtain ⟨_, _, ⟨T35, L35, k35, n35⟩, -, X35, ⟨Lc35, hQ35, l35, y35, z35⟩, st35⟩ := X32.virtualBack hx (y := (⟨"com/example/lockstile/lockstile/identities/Argon2$Cost", "blocks", "()I"⟩ : MethodName)) (z := (⟨"com/example/lockstile/lockstile/identities/Argon2$Cost", "blocks", "()I"⟩ : MethodName)) hown (mvT hZ (hw _ (List.mem_of_getElem? (i := 28) rfl))) (mvT hZ (hw _ (List.mem_of_getElem? (i := 29) rfl))) (notFace_of_selects (args := #[]) (mvT hZ (hw _ (List.mem_of_getElem? (i := 31) rfl)))) (mvT hZ (hw _ (List.mem_of_getElem? (i := 31) rfl))) (mvT hZ (hw _ (List.mem_of_getElem? (i := 30) rfl))) (by decide) (backOf (W := 0) (rm5 l Z a0 hw [] b26 me ln T32.heap n0 zs34 Fm32 Fl32 hok) hZ (hw _ (List.mem_of_getElem? (i := 32) rfl)) (hw _ (List.mem_of_getElem? (i := 9) rfl)) (by decide) (by decide)) q35a q35c (g := (mkF m 63 #[.val (.int p1), .val (.int p2), .val (.int p3), .val (.int ln), .val (.int ((8 : Int32) * ln)), .val (.int (((16777215 : Int32) - ((8 : Int32) * ln)) + (1 : Int32))), .val (.int me), .val (.int ps), .val (.ref b26), .unset, .unset, .unset, .unset, .unset, .unset, .unset, .unset, .unset, .unset] [(.ref b26)])) rfl (by rw [hml]; rfl) (Steps.refl _) (argsL := []) (rest := []) (lenOf pd_3 rfl) rfl (by show 2 * 0 + _ ≤ _; exact Nat.le_of_eq rfl) (hb hby at_63) (fun _ _ => ⟨rfl, rfl, (by decide : 0 + 0 + 1 + 0 + 0 ≤ _), (by decide : 0 + 0 + 3 + 0 + 0 ≤ _)⟩)
  dsimp only [Pt.U, Pt.locs, Pt.cells, Pt.slots] at X35 l35 y35 z35 st35 hQ35
  subst l35 y35 z35
  obtain ⟨bl, rfl, Nq35, hh35, hbl⟩ := hQ35
  have N35 := Fr.app N32 Nq35
  refine own_go (fun _ k => st35.trans k) ?_
  have e35 : T35.heap = T32.heap := hh35
  show own_G p e below (T35.setTop (mkF m 66 #[.val (.int p1), .val (.int p2), .val (.int p3), .val (.int ln), .val (.int ((8 : Int32) * ln)), .val (.int (((16777215 : Int32) - ((8 : Int32) * ln)) + (1 : Int32))), .val (.int me), .val (.int ps), .val (.ref b26), .unset, .unset, .unset, .unset, .unset, .unset, .unset, .unset, .unset, .unset] [(.int bl)])) _
  refine own_go (fun _ k => XS.i2l X35.here hx rfl (hb hby at_66) rfl k) ?_
  show own_G p e below (T35.setTop (mkF m 67 #[.val (.int p1), .val (.int p2), .val (.int p3), .val (.int ln), .val (.int ((8 : Int32) * ln)), .val (.int (((16777215 : Int32) - ((8 : Int32) * ln)) + (1 : Int32))), .val (.int me), .val (.int ps), .val (.ref b26), .unset, .unset, .unset, .unset, .unset, .unset, .unset, .unset, .unset, .unset] [(.long (bl.toInt64))])) _
  generalize hbb : (bl.toInt64) = bb
  have hbt : bb.toInt = own_t me.toInt (4 * ln.toInt) := by rw [← hbb, c_i2l]; exact hbl
  show own_G p e below (T35.setTop (mkF m 67 #[.val (.int p1), .val (.int p2), .val (.int p3), .val (.int ln), .val (.int ((8 : Int32) * ln)), .val (.int (((16777215 : Int32) - ((8 : Int32) * ln)) + (1 : Int32))), .val (.int me), .val (.int ps), .val (.ref b26), .unset, .unset, .unset, .unset, .unset, .unset, .unset, .unset, .unset, .unset] [(.long bb)])) _
  refine own_go (fun _ k => XS.lstore X35.here hx rfl (hb hby at_67) rfl (l' := #[.val (.int p1), .val (.int p2), .val (.int p3), .val (.int ln), .val (.int ((8 : Int32) * ln)), .val (.int (((16777215 : Int32) - ((8 : Int32) * ln)) + (1 : Int32))), .val (.int me), .val (.int ps), .val (.ref b26), .val (.long bb), .second, .unset, .unset, .unset, .unset, .unset, .unset, .unset, .unset]) rfl k) ?_
  show own_G p e below (T35.setTop (mkF m 69 #[.val (.int p1), .val (.int p2), .val (.int p3), .val (.int ln), .val (.int ((8 : Int32) * ln)), .val (.int (((16777215 : Int32) - ((8 : Int32) * ln)) + (1 : Int32))), .val (.int me), .val (.int ps), .val (.ref b26), .val (.long bb), .second, .unset, .unset, .unset, .unset, .unset, .unset, .unset, .unset] [])) _
  refine own_go (X35.ldc2Long hx hown (mvT hZ (hw _ (List.mem_of_getElem? (i := 33) rfl))) (g := (mkF m 69 #[.val (.int p1), .val (.int p2), .val (.int p3), .val (.int ln), .val (.int ((8 : Int32) * ln)), .val (.int (((16777215 : Int32) - ((8 : Int32) * ln)) + (1 : Int32))), .val (.int me), .val (.int ps), .val (.ref b26), .val (.long bb), .second, .unset, .unset, .unset, .unset, .unset, .unset, .unset, .unset] [])) rfl (hb hby at_69)) ?_
  show own_G p e below (T35.setTop (mkF m 72 #[.val (.int p1), .val (.int p2), .val (.int p3), .val (.int ln), .val (.int ((8 : Int32) * ln)), .val (.int (((16777215 : Int32) - ((8 : Int32) * ln)) + (1 : Int32))), .val (.int me), .val (.int ps), .val (.ref b26), .val (.long bb), .second, .unset, .unset, .unset, .unset, .unset, .unset, .unset, .unset] [(.long (4 : Int64))])) _
  refine own_go (fun _ k => XS.iloadN X35.here hx rfl (hb hby at_72) rfl k) ?_
  show own_G p e below (T35.setTop (mkF m 73 #[.val (.int p1), .val (.int p2), .val (.int p3), .val (.int ln), .val (.int ((8 : Int32) * ln)), .val (.int (((16777215 : Int32) - ((8 : Int32) * ln)) + (1 : Int32))), .val (.int me), .val (.int ps), .val (.ref b26), .val (.long bb), .second, .unset, .unset, .unset, .unset, .unset, .unset, .unset, .unset] [(.int ln), (.long (4 : Int64))])) _
  refine own_go (fun _ k => XS.i2l X35.here hx rfl (hb hby at_73) rfl k) ?_
  show own_G p e below (T35.setTop (mkF m 74 #[.val (.int p1), .val (.int p2), .val (.int p3), .val (.int ln), .val (.int ((8 : Int32) * ln)), .val (.int (((16777215 : Int32) - ((8 : Int32) * ln)) + (1 : Int32))), .val (.int me), .val (.int ps), .val (.ref b26), .val (.long bb), .second, .unset, .unset, .unset, .unset, .unset, .unset, .unset, .unset] [(.long (ln.toInt64)), (.long (4 : Int64))])) _
  refine own_go (fun _ k => XS.lmul X35.here hx rfl (hb hby at_74) rfl k) ?_
  show own_G p e below (T35.setTop (mkF m 75 #[.val (.int p1), .val (.int p2), .val (.int p3), .val (.int ln), .val (.int ((8 : Int32) * ln)), .val (.int (((16777215 : Int32) - ((8 : Int32) * ln)) + (1 : Int32))), .val (.int me), .val (.int ps), .val (.ref b26), .val (.long bb), .second, .unset, .unset, .unset, .unset, .unset, .unset, .unset, .unset] [(.long ((4 : Int64) * (ln.toInt64)))])) _
  refine own_go (fun _ k => XS.lstore X35.here hx rfl (hb hby at_75) rfl (l' := #[.val (.int p1), .val (.int p2), .val (.int p3), .val (.int ln), .val (.int ((8 : Int32) * ln)), .val (.int (((16777215 : Int32) - ((8 : Int32) * ln)) + (1 : Int32))), .val (.int me), .val (.int ps), .val (.ref b26), .val (.long bb), .second, .val (.long ((4 : Int64) * (ln.toInt64))), .second, .unset, .unset, .unset, .unset, .unset, .unset]) rfl k) ?_
  show own_G p e below (T35.setTop (mkF m 77 #[.val (.int p1), .val (.int p2), .val (.int p3), .val (.int ln), .val (.int ((8 : Int32) * ln)), .val (.int (((16777215 : Int32) - ((8 : Int32) * ln)) + (1 : Int32))), .val (.int me), .val (.int ps), .val (.ref b26), .val (.long bb), .second, .val (.long ((4 : Int64) * (ln.toInt64))), .second, .unset, .unset, .unset, .unset, .unset, .unset] [])) _
  refine own_go (fun _ k => XS.iload X35.here hx rfl (hb hby at_77) rfl k) ?_
  show own_G p e below (T35.setTop (mkF m 79 #[.val (.int p1), .val (.int p2), .val (.int p3), .val (.int ln), .val (.int ((8 : Int32) * ln)), .val (.int (((16777215 : Int32) - ((8 : Int32) * ln)) + (1 : Int32))), .val (.int me), .val (.int ps), .val (.ref b26), .val (.long bb), .second, .val (.long ((4 : Int64) * (ln.toInt64))), .second, .unset, .unset, .unset, .unset, .unset, .unset] [(.int me)])) _
  refine own_go (fun _ k => XS.i2l X35.here hx rfl (hb hby at_79) rfl k) ?_
  show own_G p e below (T35.setTop (mkF m 80 #[.val (.int p1), .val (.int p2), .val (.int p3), .val (.int ln), .val (.int ((8 : Int32) * ln)), .val (.int (((16777215 : Int32) - ((8 : Int32) * ln)) + (1 : Int32))), .val (.int me), .val (.int ps), .val (.ref b26), .val (.long bb), .second, .val (.long ((4 : Int64) * (ln.toInt64))), .second, .unset, .unset, .unset, .unset, .unset, .unset] [(.long (me.toInt64))])) _
  refine own_go (fun _ k => XS.lstore X35.here hx rfl (hb hby at_80) rfl (l' := #[.val (.int p1), .val (.int p2), .val (.int p3), .val (.int ln), .val (.int ((8 : Int32) * ln)), .val (.int (((16777215 : Int32) - ((8 : Int32) * ln)) + (1 : Int32))), .val (.int me), .val (.int ps), .val (.ref b26), .val (.long bb), .second, .val (.long ((4 : Int64) * (ln.toInt64))), .second, .val (.long (me.toInt64)), .second, .unset, .unset, .unset, .unset]) rfl k) ?_
  show own_G p e below (T35.setTop (mkF m 82 #[.val (.int p1), .val (.int p2), .val (.int p3), .val (.int ln), .val (.int ((8 : Int32) * ln)), .val (.int (((16777215 : Int32) - ((8 : Int32) * ln)) + (1 : Int32))), .val (.int me), .val (.int ps), .val (.ref b26), .val (.long bb), .second, .val (.long ((4 : Int64) * (ln.toInt64))), .second, .val (.long (me.toInt64)), .second, .unset, .unset, .unset, .unset] [])) _
  refine own_go (fun _ k => XS.lload X35.here hx rfl (hb hby at_82) rfl k) ?_
  show own_G p e below (T35.setTop (mkF m 84 #[.val (.int p1), .val (.int p2), .val (.int p3), .val (.int ln), .val (.int ((8 : Int32) * ln)), .val (.int (((16777215 : Int32) - ((8 : Int32) * ln)) + (1 : Int32))), .val (.int me), .val (.int ps), .val (.ref b26), .val (.long bb), .second, .val (.long ((4 : Int64) * (ln.toInt64))), .second, .val (.long (me.toInt64)), .second, .unset, .unset, .unset, .unset] [(.long bb)])) _
  refine own_go (fun _ k => XS.lload X35.here hx rfl (hb hby at_84) rfl k) ?_
  show own_G p e below (T35.setTop (mkF m 86 #[.val (.int p1), .val (.int p2), .val (.int p3), .val (.int ln), .val (.int ((8 : Int32) * ln)), .val (.int (((16777215 : Int32) - ((8 : Int32) * ln)) + (1 : Int32))), .val (.int me), .val (.int ps), .val (.ref b26), .val (.long bb), .second, .val (.long ((4 : Int64) * (ln.toInt64))), .second, .val (.long (me.toInt64)), .second, .unset, .unset, .unset, .unset] [(.long ((4 : Int64) * (ln.toInt64))), (.long bb)])) _
  refine own_go (fun _ k => XS.lrem X35.here hx rfl (hb hby at_86) rfl (own_nz64 hok) k) ?_
  show own_G p e below (T35.setTop (mkF m 87 #[.val (.int p1), .val (.int p2), .val (.int p3), .val (.int ln), .val (.int ((8 : Int32) * ln)), .val (.int (((16777215 : Int32) - ((8 : Int32) * ln)) + (1 : Int32))), .val (.int me), .val (.int ps), .val (.ref b26), .val (.long bb), .second, .val (.long ((4 : Int64) * (ln.toInt64))), .second, .val (.long (me.toInt64)), .second, .unset, .unset, .unset, .unset] [(.long (bb - (bb / ((4 : Int64) * (ln.toInt64))) * ((4 : Int64) * (ln.toInt64))))])) _
  refine own_go (fun _ k => XS.lconst X35.here hx rfl (hb hby at_87) k) ?_
  show own_G p e below (T35.setTop (mkF m 88 #[.val (.int p1), .val (.int p2), .val (.int p3), .val (.int ln), .val (.int ((8 : Int32) * ln)), .val (.int (((16777215 : Int32) - ((8 : Int32) * ln)) + (1 : Int32))), .val (.int me), .val (.int ps), .val (.ref b26), .val (.long bb), .second, .val (.long ((4 : Int64) * (ln.toInt64))), .second, .val (.long (me.toInt64)), .second, .unset, .unset, .unset, .unset] [(.long (0 : Int64)), (.long (bb - (bb / ((4 : Int64) * (ln.toInt64))) * ((4 : Int64) * (ln.toInt64))))])) _
  refine own_go (fun _ k => XS.lcmp X35.here hx rfl (hb hby at_88) rfl k) ?_
  show own_G p e below (T35.setTop (mkF m 89 #[.val (.int p1), .val (.int p2), .val (.int p3), .val (.int ln), .val (.int ((8 : Int32) * ln)), .val (.int (((16777215 : Int32) - ((8 : Int32) * ln)) + (1 : Int32))), .val (.int me), .val (.int ps), .val (.ref b26), .val (.long bb), .second, .val (.long ((4 : Int64) * (ln.toInt64))), .second, .val (.long (me.toInt64)), .second, .unset, .unset, .unset, .unset] [(.int (lcmpW (bb - (bb / ((4 : Int64) * (ln.toInt64))) * ((4 : Int64) * (ln.toInt64))) (0 : Int64)))])) _
  refine own_go (fun _ k => XS.ifNo X35.here hx rfl (hb hby at_89) rfl ((if0 _ _).trans (teq ((lw_eq _ _).mpr (own_A hok hbt))).2) k) ?_
  show own_G p e below (T35.setTop (mkF m 92 #[.val (.int p1), .val (.int p2), .val (.int p3), .val (.int ln), .val (.int ((8 : Int32) * ln)), .val (.int (((16777215 : Int32) - ((8 : Int32) * ln)) + (1 : Int32))), .val (.int me), .val (.int ps), .val (.ref b26), .val (.long bb), .second, .val (.long ((4 : Int64) * (ln.toInt64))), .second, .val (.long (me.toInt64)), .second, .unset, .unset, .unset, .unset] [])) _
  refine own_go (fun _ k => XS.iconst X35.here hx rfl (hb hby at_92) k) ?_
  show own_G p e below (T35.setTop (mkF m 93 #[.val (.int p1), .val (.int p2), .val (.int p3), .val (.int ln), .val (.int ((8 : Int32) * ln)), .val (.int (((16777215 : Int32) - ((8 : Int32) * ln)) + (1 : Int32))), .val (.int me), .val (.int ps), .val (.ref b26), .val (.long bb), .second, .val (.long ((4 : Int64) * (ln.toInt64))), .second, .val (.long (me.toInt64)), .second, .unset, .unset, .unset, .unset] [(.int (1 : Int32))])) _
  refine own_go (fun _ k => XS.goto X35.here hx rfl (pc0 := 93) (pc' := 97) rfl (hb hby at_93) (by decide) (by decide) k) ?_
  show own_G p e below (T35.setTop (mkF m 97 #[.val (.int p1), .val (.int p2), .val (.int p3), .val (.int ln), .val (.int ((8 : Int32) * ln)), .val (.int (((16777215 : Int32) - ((8 : Int32) * ln)) + (1 : Int32))), .val (.int me), .val (.int ps), .val (.ref b26), .val (.long bb), .second, .val (.long ((4 : Int64) * (ln.toInt64))), .second, .val (.long (me.toInt64)), .second, .unset, .unset, .unset, .unset] [(.int (1 : Int32))])) _
  refine own_go (fun _ k => XS.istore X35.here hx rfl (hb hby at_97) rfl (l' := #[.val (.int p1), .val (.int p2), .val (.int p3), .val (.int ln), .val (.int ((8 : Int32) * ln)), .val (.int (((16777215 : Int32) - ((8 : Int32) * ln)) + (1 : Int32))), .val (.int me), .val (.int ps), .val (.ref b26), .val (.long bb), .second, .val (.long ((4 : Int64) * (ln.toInt64))), .second, .val (.long (me.toInt64)), .second, .val (.int (1 : Int32)), .unset, .unset, .unset]) rfl k) ?_
  show own_G p e below (T35.setTop (mkF m 99 #[.val (.int p1), .val (.int p2), .val (.int p3), .val (.int ln), .val (.int ((8 : Int32) * ln)), .val (.int (((16777215 : Int32) - ((8 : Int32) * ln)) + (1 : Int32))), .val (.int me), .val (.int ps), .val (.ref b26), .val (.long bb), .second, .val (.long ((4 : Int64) * (ln.toInt64))), .second, .val (.long (me.toInt64)), .second, .val (.int (1 : Int32)), .unset, .unset, .unset] [])) _
  refine own_go (fun _ k => XS.lload X35.here hx rfl (hb hby at_99) rfl k) ?_
  show own_G p e below (T35.setTop (mkF m 101 #[.val (.int p1), .val (.int p2), .val (.int p3), .val (.int ln), .val (.int ((8 : Int32) * ln)), .val (.int (((16777215 : Int32) - ((8 : Int32) * ln)) + (1 : Int32))), .val (.int me), .val (.int ps), .val (.ref b26), .val (.long bb), .second, .val (.long ((4 : Int64) * (ln.toInt64))), .second, .val (.long (me.toInt64)), .second, .val (.int (1 : Int32)), .unset, .unset, .unset] [(.long bb)])) _
  refine own_go (fun _ k => XS.lload X35.here hx rfl (hb hby at_101) rfl k) ?_
  show own_G p e below (T35.setTop (mkF m 103 #[.val (.int p1), .val (.int p2), .val (.int p3), .val (.int ln), .val (.int ((8 : Int32) * ln)), .val (.int (((16777215 : Int32) - ((8 : Int32) * ln)) + (1 : Int32))), .val (.int me), .val (.int ps), .val (.ref b26), .val (.long bb), .second, .val (.long ((4 : Int64) * (ln.toInt64))), .second, .val (.long (me.toInt64)), .second, .val (.int (1 : Int32)), .unset, .unset, .unset] [(.long (me.toInt64)), (.long bb)])) _
  refine own_go (fun _ k => XS.lcmp X35.here hx rfl (hb hby at_103) rfl k) ?_
  show own_G p e below (T35.setTop (mkF m 104 #[.val (.int p1), .val (.int p2), .val (.int p3), .val (.int ln), .val (.int ((8 : Int32) * ln)), .val (.int (((16777215 : Int32) - ((8 : Int32) * ln)) + (1 : Int32))), .val (.int me), .val (.int ps), .val (.ref b26), .val (.long bb), .second, .val (.long ((4 : Int64) * (ln.toInt64))), .second, .val (.long (me.toInt64)), .second, .val (.int (1 : Int32)), .unset, .unset, .unset] [(.int (lcmpW bb (me.toInt64)))])) _
  refine own_go (fun _ k => XS.ifNo X35.here hx rfl (hb hby at_104) rfl ((if0 _ _).trans (flt (fun q => (own_B hok hbt) ((lw_gt _ _).mp q))).2.2.1) k) ?_
  show own_G p e below (T35.setTop (mkF m 107 #[.val (.int p1), .val (.int p2), .val (.int p3), .val (.int ln), .val (.int ((8 : Int32) * ln)), .val (.int (((16777215 : Int32) - ((8 : Int32) * ln)) + (1 : Int32))), .val (.int me), .val (.int ps), .val (.ref b26), .val (.long bb), .second, .val (.long ((4 : Int64) * (ln.toInt64))), .second, .val (.long (me.toInt64)), .second, .val (.int (1 : Int32)), .unset, .unset, .unset] [])) _
  refine own_go (fun _ k => XS.iconst X35.here hx rfl (hb hby at_107) k) ?_
  show own_G p e below (T35.setTop (mkF m 108 #[.val (.int p1), .val (.int p2), .val (.int p3), .val (.int ln), .val (.int ((8 : Int32) * ln)), .val (.int (((16777215 : Int32) - ((8 : Int32) * ln)) + (1 : Int32))), .val (.int me), .val (.int ps), .val (.ref b26), .val (.long bb), .second, .val (.long ((4 : Int64) * (ln.toInt64))), .second, .val (.long (me.toInt64)), .second, .val (.int (1 : Int32)), .unset, .unset, .unset] [(.int (1 : Int32))])) _
  refine own_go (fun _ k => XS.goto X35.here hx rfl (pc0 := 108) (pc' := 112) rfl (hb hby at_108) (by decide) (by decide) k) ?_
  show own_G p e below (T35.setTop (mkF m 112 #[.val (.int p1), .val (.int p2), .val (.int p3), .val (.int ln), .val (.int ((8 : Int32) * ln)), .val (.int (((16777215 : Int32) - ((8 : Int32) * ln)) + (1 : Int32))), .val (.int me), .val (.int ps), .val (.ref b26), .val (.long bb), .second, .val (.long ((4 : Int64) * (ln.toInt64))), .second, .val (.long (me.toInt64)), .second, .val (.int (1 : Int32)), .unset, .unset, .unset] [(.int (1 : Int32))])) _
  refine own_go (fun _ k => XS.istore X35.here hx rfl (hb hby at_112) rfl (l' := #[.val (.int p1), .val (.int p2), .val (.int p3), .val (.int ln), .val (.int ((8 : Int32) * ln)), .val (.int (((16777215 : Int32) - ((8 : Int32) * ln)) + (1 : Int32))), .val (.int me), .val (.int ps), .val (.ref b26), .val (.long bb), .second, .val (.long ((4 : Int64) * (ln.toInt64))), .second, .val (.long (me.toInt64)), .second, .val (.int (1 : Int32)), .val (.int (1 : Int32)), .unset, .unset]) rfl k) ?_
  show own_G p e below (T35.setTop (mkF m 114 #[.val (.int p1), .val (.int p2), .val (.int p3), .val (.int ln), .val (.int ((8 : Int32) * ln)), .val (.int (((16777215 : Int32) - ((8 : Int32) * ln)) + (1 : Int32))), .val (.int me), .val (.int ps), .val (.ref b26), .val (.long bb), .second, .val (.long ((4 : Int64) * (ln.toInt64))), .second, .val (.long (me.toInt64)), .second, .val (.int (1 : Int32)), .val (.int (1 : Int32)), .unset, .unset] [])) _
  refine own_go (fun _ k => XS.lload X35.here hx rfl (hb hby at_114) rfl k) ?_
  show own_G p e below (T35.setTop (mkF m 116 #[.val (.int p1), .val (.int p2), .val (.int p3), .val (.int ln), .val (.int ((8 : Int32) * ln)), .val (.int (((16777215 : Int32) - ((8 : Int32) * ln)) + (1 : Int32))), .val (.int me), .val (.int ps), .val (.ref b26), .val (.long bb), .second, .val (.long ((4 : Int64) * (ln.toInt64))), .second, .val (.long (me.toInt64)), .second, .val (.int (1 : Int32)), .val (.int (1 : Int32)), .unset, .unset] [(.long (me.toInt64))])) _
  refine own_go (fun _ k => XS.lload X35.here hx rfl (hb hby at_116) rfl k) ?_
  show own_G p e below (T35.setTop (mkF m 118 #[.val (.int p1), .val (.int p2), .val (.int p3), .val (.int ln), .val (.int ((8 : Int32) * ln)), .val (.int (((16777215 : Int32) - ((8 : Int32) * ln)) + (1 : Int32))), .val (.int me), .val (.int ps), .val (.ref b26), .val (.long bb), .second, .val (.long ((4 : Int64) * (ln.toInt64))), .second, .val (.long (me.toInt64)), .second, .val (.int (1 : Int32)), .val (.int (1 : Int32)), .unset, .unset] [(.long bb), (.long (me.toInt64))])) _
  refine own_go (fun _ k => XS.lsub X35.here hx rfl (hb hby at_118) rfl k) ?_
  show own_G p e below (T35.setTop (mkF m 119 #[.val (.int p1), .val (.int p2), .val (.int p3), .val (.int ln), .val (.int ((8 : Int32) * ln)), .val (.int (((16777215 : Int32) - ((8 : Int32) * ln)) + (1 : Int32))), .val (.int me), .val (.int ps), .val (.ref b26), .val (.long bb), .second, .val (.long ((4 : Int64) * (ln.toInt64))), .second, .val (.long (me.toInt64)), .second, .val (.int (1 : Int32)), .val (.int (1 : Int32)), .unset, .unset] [(.long ((me.toInt64) - bb))])) _
  refine own_go (fun _ k => XS.lload X35.here hx rfl (hb hby at_119) rfl k) ?_
  show own_G p e below (T35.setTop (mkF m 121 #[.val (.int p1), .val (.int p2), .val (.int p3), .val (.int ln), .val (.int ((8 : Int32) * ln)), .val (.int (((16777215 : Int32) - ((8 : Int32) * ln)) + (1 : Int32))), .val (.int me), .val (.int ps), .val (.ref b26), .val (.long bb), .second, .val (.long ((4 : Int64) * (ln.toInt64))), .second, .val (.long (me.toInt64)), .second, .val (.int (1 : Int32)), .val (.int (1 : Int32)), .unset, .unset] [(.long ((4 : Int64) * (ln.toInt64))), (.long ((me.toInt64) - bb))])) _
  refine own_go (fun _ k => XS.lcmp X35.here hx rfl (hb hby at_121) rfl k) ?_
  show own_G p e below (T35.setTop (mkF m 122 #[.val (.int p1), .val (.int p2), .val (.int p3), .val (.int ln), .val (.int ((8 : Int32) * ln)), .val (.int (((16777215 : Int32) - ((8 : Int32) * ln)) + (1 : Int32))), .val (.int me), .val (.int ps), .val (.ref b26), .val (.long bb), .second, .val (.long ((4 : Int64) * (ln.toInt64))), .second, .val (.long (me.toInt64)), .second, .val (.int (1 : Int32)), .val (.int (1 : Int32)), .unset, .unset] [(.int (lcmpW ((me.toInt64) - bb) ((4 : Int64) * (ln.toInt64))))])) _
  refine own_go (fun _ k => XS.ifNo X35.here hx rfl (hb hby at_122) rfl ((if0 _ _).trans (tlt ((lw_lt _ _).mpr (own_C hok hbt))).2.1) k) ?_
  show own_G p e below (T35.setTop (mkF m 125 #[.val (.int p1), .val (.int p2), .val (.int p3), .val (.int ln), .val (.int ((8 : Int32) * ln)), .val (.int (((16777215 : Int32) - ((8 : Int32) * ln)) + (1 : Int32))), .val (.int me), .val (.int ps), .val (.ref b26), .val (.long bb), .second, .val (.long ((4 : Int64) * (ln.toInt64))), .second, .val (.long (me.toInt64)), .second, .val (.int (1 : Int32)), .val (.int (1 : Int32)), .unset, .unset] [])) _
  refine own_go (fun _ k => XS.iconst X35.here hx rfl (hb hby at_125) k) ?_
  show own_G p e below (T35.setTop (mkF m 126 #[.val (.int p1), .val (.int p2), .val (.int p3), .val (.int ln), .val (.int ((8 : Int32) * ln)), .val (.int (((16777215 : Int32) - ((8 : Int32) * ln)) + (1 : Int32))), .val (.int me), .val (.int ps), .val (.ref b26), .val (.long bb), .second, .val (.long ((4 : Int64) * (ln.toInt64))), .second, .val (.long (me.toInt64)), .second, .val (.int (1 : Int32)), .val (.int (1 : Int32)), .unset, .unset] [(.int (1 : Int32))])) _
  refine own_go (fun _ k => XS.goto X35.here hx rfl (pc0 := 126) (pc' := 130) rfl (hb hby at_126) (by decide) (by decide) k) ?_
  show own_G p e below (T35.setTop (mkF m 130 #[.val (.int p1), .val (.int p2), .val (.int p3), .val (.int ln), .val (.int ((8 : Int32) * ln)), .val (.int (((16777215 : Int32) - ((8 : Int32) * ln)) + (1 : Int32))), .val (.int me), .val (.int ps), .val (.ref b26), .val (.long bb), .second, .val (.long ((4 : Int64) * (ln.toInt64))), .second, .val (.long (me.toInt64)), .second, .val (.int (1 : Int32)), .val (.int (1 : Int32)), .unset, .unset] [(.int (1 : Int32))])) _
  refine own_go (fun _ k => XS.istore X35.here hx rfl (hb hby at_130) rfl (l' := #[.val (.int p1), .val (.int p2), .val (.int p3), .val (.int ln), .val (.int ((8 : Int32) * ln)), .val (.int (((16777215 : Int32) - ((8 : Int32) * ln)) + (1 : Int32))), .val (.int me), .val (.int ps), .val (.ref b26), .val (.long bb), .second, .val (.long ((4 : Int64) * (ln.toInt64))), .second, .val (.long (me.toInt64)), .second, .val (.int (1 : Int32)), .val (.int (1 : Int32)), .val (.int (1 : Int32)), .unset]) rfl k) ?_
  show own_G p e below (T35.setTop (mkF m 132 #[.val (.int p1), .val (.int p2), .val (.int p3), .val (.int ln), .val (.int ((8 : Int32) * ln)), .val (.int (((16777215 : Int32) - ((8 : Int32) * ln)) + (1 : Int32))), .val (.int me), .val (.int ps), .val (.ref b26), .val (.long bb), .second, .val (.long ((4 : Int64) * (ln.toInt64))), .second, .val (.long (me.toInt64)), .second, .val (.int (1 : Int32)), .val (.int (1 : Int32)), .val (.int (1 : Int32)), .unset] [])) _
  refine own_go (fun _ k => XS.lload X35.here hx rfl (hb hby at_132) rfl k) ?_
  show own_G p e below (T35.setTop (mkF m 134 #[.val (.int p1), .val (.int p2), .val (.int p3), .val (.int ln), .val (.int ((8 : Int32) * ln)), .val (.int (((16777215 : Int32) - ((8 : Int32) * ln)) + (1 : Int32))), .val (.int me), .val (.int ps), .val (.ref b26), .val (.long bb), .second, .val (.long ((4 : Int64) * (ln.toInt64))), .second, .val (.long (me.toInt64)), .second, .val (.int (1 : Int32)), .val (.int (1 : Int32)), .val (.int (1 : Int32)), .unset] [(.long bb)])) _
  refine own_go (fun _ k => XS.lconst X35.here hx rfl (hb hby at_134) k) ?_
  show own_G p e below (T35.setTop (mkF m 135 #[.val (.int p1), .val (.int p2), .val (.int p3), .val (.int ln), .val (.int ((8 : Int32) * ln)), .val (.int (((16777215 : Int32) - ((8 : Int32) * ln)) + (1 : Int32))), .val (.int me), .val (.int ps), .val (.ref b26), .val (.long bb), .second, .val (.long ((4 : Int64) * (ln.toInt64))), .second, .val (.long (me.toInt64)), .second, .val (.int (1 : Int32)), .val (.int (1 : Int32)), .val (.int (1 : Int32)), .unset] [(.long (0 : Int64)), (.long bb)])) _
  refine own_go (fun _ k => XS.lcmp X35.here hx rfl (hb hby at_135) rfl k) ?_
  show own_G p e below (T35.setTop (mkF m 136 #[.val (.int p1), .val (.int p2), .val (.int p3), .val (.int ln), .val (.int ((8 : Int32) * ln)), .val (.int (((16777215 : Int32) - ((8 : Int32) * ln)) + (1 : Int32))), .val (.int me), .val (.int ps), .val (.ref b26), .val (.long bb), .second, .val (.long ((4 : Int64) * (ln.toInt64))), .second, .val (.long (me.toInt64)), .second, .val (.int (1 : Int32)), .val (.int (1 : Int32)), .val (.int (1 : Int32)), .unset] [(.int (lcmpW bb (0 : Int64)))])) _
  refine own_go (fun _ k => XS.ifNo X35.here hx rfl (hb hby at_136) rfl ((if0 _ _).trans (flt (fun q => (own_D hok hbt) ((lw_lt _ _).mp q))).1) k) ?_
  show own_G p e below (T35.setTop (mkF m 139 #[.val (.int p1), .val (.int p2), .val (.int p3), .val (.int ln), .val (.int ((8 : Int32) * ln)), .val (.int (((16777215 : Int32) - ((8 : Int32) * ln)) + (1 : Int32))), .val (.int me), .val (.int ps), .val (.ref b26), .val (.long bb), .second, .val (.long ((4 : Int64) * (ln.toInt64))), .second, .val (.long (me.toInt64)), .second, .val (.int (1 : Int32)), .val (.int (1 : Int32)), .val (.int (1 : Int32)), .unset] [])) _
  refine own_go (fun _ k => XS.iconst X35.here hx rfl (hb hby at_139) k) ?_
  show own_G p e below (T35.setTop (mkF m 140 #[.val (.int p1), .val (.int p2), .val (.int p3), .val (.int ln), .val (.int ((8 : Int32) * ln)), .val (.int (((16777215 : Int32) - ((8 : Int32) * ln)) + (1 : Int32))), .val (.int me), .val (.int ps), .val (.ref b26), .val (.long bb), .second, .val (.long ((4 : Int64) * (ln.toInt64))), .second, .val (.long (me.toInt64)), .second, .val (.int (1 : Int32)), .val (.int (1 : Int32)), .val (.int (1 : Int32)), .unset] [(.int (1 : Int32))])) _
  refine own_go (fun _ k => XS.goto X35.here hx rfl (pc0 := 140) (pc' := 144) rfl (hb hby at_140) (by decide) (by decide) k) ?_
  show own_G p e below (T35.setTop (mkF m 144 #[.val (.int p1), .val (.int p2), .val (.int p3), .val (.int ln), .val (.int ((8 : Int32) * ln)), .val (.int (((16777215 : Int32) - ((8 : Int32) * ln)) + (1 : Int32))), .val (.int me), .val (.int ps), .val (.ref b26), .val (.long bb), .second, .val (.long ((4 : Int64) * (ln.toInt64))), .second, .val (.long (me.toInt64)), .second, .val (.int (1 : Int32)), .val (.int (1 : Int32)), .val (.int (1 : Int32)), .unset] [(.int (1 : Int32))])) _
  refine own_go (fun _ k => XS.istore X35.here hx rfl (hb hby at_144) rfl (l' := #[.val (.int p1), .val (.int p2), .val (.int p3), .val (.int ln), .val (.int ((8 : Int32) * ln)), .val (.int (((16777215 : Int32) - ((8 : Int32) * ln)) + (1 : Int32))), .val (.int me), .val (.int ps), .val (.ref b26), .val (.long bb), .second, .val (.long ((4 : Int64) * (ln.toInt64))), .second, .val (.long (me.toInt64)), .second, .val (.int (1 : Int32)), .val (.int (1 : Int32)), .val (.int (1 : Int32)), .val (.int (1 : Int32))]) rfl k) ?_
  show own_G p e below (T35.setTop (mkF m 146 #[.val (.int p1), .val (.int p2), .val (.int p3), .val (.int ln), .val (.int ((8 : Int32) * ln)), .val (.int (((16777215 : Int32) - ((8 : Int32) * ln)) + (1 : Int32))), .val (.int me), .val (.int ps), .val (.ref b26), .val (.long bb), .second, .val (.long ((4 : Int64) * (ln.toInt64))), .second, .val (.long (me.toInt64)), .second, .val (.int (1 : Int32)), .val (.int (1 : Int32)), .val (.int (1 : Int32)), .val (.int (1 : Int32))] [])) _
  refine own_go (fun _ k => XS.iload X35.here hx rfl (hb hby at_146) rfl k) ?_
  show own_G p e below (T35.setTop (mkF m 148 #[.val (.int p1), .val (.int p2), .val (.int p3), .val (.int ln), .val (.int ((8 : Int32) * ln)), .val (.int (((16777215 : Int32) - ((8 : Int32) * ln)) + (1 : Int32))), .val (.int me), .val (.int ps), .val (.ref b26), .val (.long bb), .second, .val (.long ((4 : Int64) * (ln.toInt64))), .second, .val (.long (me.toInt64)), .second, .val (.int (1 : Int32)), .val (.int (1 : Int32)), .val (.int (1 : Int32)), .val (.int (1 : Int32))] [(.int (1 : Int32))])) _
  refine own_go (fun _ k => XS.ifNo X35.here hx rfl (hb hby at_148) rfl ((if0 _ _).trans (feq (by decide : ¬ ((1 : Int32) = (0 : Int32)))).1) k) ?_
  show own_G p e below (T35.setTop (mkF m 151 #[.val (.int p1), .val (.int p2), .val (.int p3), .val (.int ln), .val (.int ((8 : Int32) * ln)), .val (.int (((16777215 : Int32) - ((8 : Int32) * ln)) + (1 : Int32))), .val (.int me), .val (.int ps), .val (.ref b26), .val (.long bb), .second, .val (.long ((4 : Int64) * (ln.toInt64))), .second, .val (.long (me.toInt64)), .second, .val (.int (1 : Int32)), .val (.int (1 : Int32)), .val (.int (1 : Int32)), .val (.int (1 : Int32))] [])) _
  refine own_go (fun _ k => XS.iload X35.here hx rfl (hb hby at_151) rfl k) ?_
  show own_G p e below (T35.setTop (mkF m 153 #[.val (.int p1), .val (.int p2), .val (.int p3), .val (.int ln), .val (.int ((8 : Int32) * ln)), .val (.int (((16777215 : Int32) - ((8 : Int32) * ln)) + (1 : Int32))), .val (.int me), .val (.int ps), .val (.ref b26), .val (.long bb), .second, .val (.long ((4 : Int64) * (ln.toInt64))), .second, .val (.long (me.toInt64)), .second, .val (.int (1 : Int32)), .val (.int (1 : Int32)), .val (.int (1 : Int32)), .val (.int (1 : Int32))] [(.int (1 : Int32))])) _
  refine own_go (fun _ k => XS.ifNo X35.here hx rfl (hb hby at_153) rfl ((if0 _ _).trans (feq (by decide : ¬ ((1 : Int32) = (0 : Int32)))).1) k) ?_
  show own_G p e below (T35.setTop (mkF m 156 #[.val (.int p1), .val (.int p2), .val (.int p3), .val (.int ln), .val (.int ((8 : Int32) * ln)), .val (.int (((16777215 : Int32) - ((8 : Int32) * ln)) + (1 : Int32))), .val (.int me), .val (.int ps), .val (.ref b26), .val (.long bb), .second, .val (.long ((4 : Int64) * (ln.toInt64))), .second, .val (.long (me.toInt64)), .second, .val (.int (1 : Int32)), .val (.int (1 : Int32)), .val (.int (1 : Int32)), .val (.int (1 : Int32))] [])) _
  refine own_go (fun _ k => XS.iload X35.here hx rfl (hb hby at_156) rfl k) ?_
  show own_G p e below (T35.setTop (mkF m 158 #[.val (.int p1), .val (.int p2), .val (.int p3), .val (.int ln), .val (.int ((8 : Int32) * ln)), .val (.int (((16777215 : Int32) - ((8 : Int32) * ln)) + (1 : Int32))), .val (.int me), .val (.int ps), .val (.ref b26), .val (.long bb), .second, .val (.long ((4 : Int64) * (ln.toInt64))), .second, .val (.long (me.toInt64)), .second, .val (.int (1 : Int32)), .val (.int (1 : Int32)), .val (.int (1 : Int32)), .val (.int (1 : Int32))] [(.int (1 : Int32))])) _
  refine own_go (fun _ k => XS.ifNo X35.here hx rfl (hb hby at_158) rfl ((if0 _ _).trans (feq (by decide : ¬ ((1 : Int32) = (0 : Int32)))).1) k) ?_
  show own_G p e below (T35.setTop (mkF m 161 #[.val (.int p1), .val (.int p2), .val (.int p3), .val (.int ln), .val (.int ((8 : Int32) * ln)), .val (.int (((16777215 : Int32) - ((8 : Int32) * ln)) + (1 : Int32))), .val (.int me), .val (.int ps), .val (.ref b26), .val (.long bb), .second, .val (.long ((4 : Int64) * (ln.toInt64))), .second, .val (.long (me.toInt64)), .second, .val (.int (1 : Int32)), .val (.int (1 : Int32)), .val (.int (1 : Int32)), .val (.int (1 : Int32))] [])) _
  refine own_go (fun _ k => XS.iload X35.here hx rfl (hb hby at_161) rfl k) ?_
  show own_G p e below (T35.setTop (mkF m 163 #[.val (.int p1), .val (.int p2), .val (.int p3), .val (.int ln), .val (.int ((8 : Int32) * ln)), .val (.int (((16777215 : Int32) - ((8 : Int32) * ln)) + (1 : Int32))), .val (.int me), .val (.int ps), .val (.ref b26), .val (.long bb), .second, .val (.long ((4 : Int64) * (ln.toInt64))), .second, .val (.long (me.toInt64)), .second, .val (.int (1 : Int32)), .val (.int (1 : Int32)), .val (.int (1 : Int32)), .val (.int (1 : Int32))] [(.int (1 : Int32))])) _
  refine own_go (fun _ k => XS.ifNo X35.here hx rfl (hb hby at_163) rfl ((if0 _ _).trans (feq (by decide : ¬ ((1 : Int32) = (0 : Int32)))).1) k) ?_
  show own_G p e below (T35.setTop (mkF m 166 #[.val (.int p1), .val (.int p2), .val (.int p3), .val (.int ln), .val (.int ((8 : Int32) * ln)), .val (.int (((16777215 : Int32) - ((8 : Int32) * ln)) + (1 : Int32))), .val (.int me), .val (.int ps), .val (.ref b26), .val (.long bb), .second, .val (.long ((4 : Int64) * (ln.toInt64))), .second, .val (.long (me.toInt64)), .second, .val (.int (1 : Int32)), .val (.int (1 : Int32)), .val (.int (1 : Int32)), .val (.int (1 : Int32))] [])) _
  refine own_go (fun _ k => XS.iconst X35.here hx rfl (hb hby at_166) k) ?_
  show own_G p e below (T35.setTop (mkF m 167 #[.val (.int p1), .val (.int p2), .val (.int p3), .val (.int ln), .val (.int ((8 : Int32) * ln)), .val (.int (((16777215 : Int32) - ((8 : Int32) * ln)) + (1 : Int32))), .val (.int me), .val (.int ps), .val (.ref b26), .val (.long bb), .second, .val (.long ((4 : Int64) * (ln.toInt64))), .second, .val (.long (me.toInt64)), .second, .val (.int (1 : Int32)), .val (.int (1 : Int32)), .val (.int (1 : Int32)), .val (.int (1 : Int32))] [(.int (1 : Int32))])) _
  refine own_go (fun _ k => XS.goto X35.here hx rfl (pc0 := 167) (pc' := 171) rfl (hb hby at_167) (by decide) (by decide) k) ?_
  show own_G p e below (T35.setTop (mkF m 171 #[.val (.int p1), .val (.int p2), .val (.int p3), .val (.int ln), .val (.int ((8 : Int32) * ln)), .val (.int (((16777215 : Int32) - ((8 : Int32) * ln)) + (1 : Int32))), .val (.int me), .val (.int ps), .val (.ref b26), .val (.long bb), .second, .val (.long ((4 : Int64) * (ln.toInt64))), .second, .val (.long (me.toInt64)), .second, .val (.int (1 : Int32)), .val (.int (1 : Int32)), .val (.int (1 : Int32)), .val (.int (1 : Int32))] [(.int (1 : Int32))])) _
  refine own_ret X35 hlk (v := some (.int (1 : Int32))) (fun h => by rw [hret] at h; cases h) (Q0 Z p1 p2 p3 h0 n0) (own_retI X35 hx (t := .boolean) hret rfl (Or.inl ⟨rfl, by simp, _, rfl⟩) (hb hby at_171)) (by decide) (by decide) ?_
  show Q0 Z p1 p2 p3 h0 n0 _ T35.heap _
  rw [e35]
  exact ⟨rfl, N35⟩
set_option maxRecDepth 65536 in
set_option maxHeartbeats 40000000 in
theorem comes_1 {Post : Tables → Env → Array Value → State → Outcome → State → Prop} (hpost : ∀ tb e args s v u, (limb_1_1.after args s (.returned v) u = true ∧ limb_1_2.after args s (.returned v) u = true ∧ True) → FrameEnd s (.returned v) u (Jvm.fieldLocs frame_1_writes args s ++ Jvm.arrayLocs frame_1_arrays args s ++ Jvm.staticLocs frame_1_statics s) 16 128 → Post tb e args s (.returned v) u) :
    ArmFor flags0 classFile x code maxLocals ret World_1 tables_1 room_1 Calls_1 rest_1 Pre_1 Post := by
  intro l hfl _ _ p e ha hc hk s m args below hf hA hF happ hP
  obtain ⟨hcalls, hrest, hpre⟩ := hP
  obtain ⟨-, -, -, hnamed, -, -, -, hat⟩ := (Spec.applies_iff hf).mp happ
  obtain ⟨hg, hn⟩ := and_e (Cond.before_iff.mp (show (Jvm.Cond.and given_1 narrow_1).before args s = true from hpre))
  obtain ⟨g1, g2⟩ := and_e hg
  obtain ⟨g3, g4⟩ := and_e g2
  obtain ⟨g5, g6⟩ := and_e g4
  obtain ⟨w0, w1, w2, rfl⟩ : ∃ w0 w1 w2 : Value, args = #[w0, w1, w2] := by
    have hs : args.size = 3 := by simpa [Cond.value, given_1] using g1
    obtain ⟨L⟩ := args
    match L, hs with
    | [w0, w1, w2], _ => exact ⟨w0, w1, w2, rfl⟩
  have hw := fun d (hd : d ∈ tables_1) => atoms_spec (ws := Jvm.Cond.code x code maxLocals ret :: tables_1) hat d (List.mem_cons_of_mem _ hd)
  obtain ⟨i0, ei0⟩ := is_v g3
  obtain rfl : w0 = (.int i0) := Option.some.inj ei0
  obtain ⟨i1, ei1⟩ := is_v g5
  obtain rfl : w1 = (.int i1) := Option.some.inj ei1
  obtain ⟨i2, ei2⟩ := is_v g6
  obtain rfl : w2 = (.int i2) := Option.some.inj ei2
  obtain ⟨n, o, h1, h2, h3, _, L, rfl, ⟨rfl, N⟩, hq⟩ := rm0 l s _ hw tables_1 i0 i1 i2 s.heap s.heap.size (Nat.le_refl _) p e ha hc hk s m _ below hf ((Spec.applies_iff_loose hf).mp happ).1 ⟨rfl, State.Warmed39.refl s, rfl⟩ trivial
  refine ⟨n, _, h1, h2, h3, hpost _ _ _ _ _ _ ⟨Cond.after_iff.mpr rfl, Cond.after_iff.mpr (eq_i res_at (Term.int_eval (1)) rfl), trivial⟩ ⟨hq.1, hq.2.1, (hq.2.2.sift fun y hy => Or.inr (N y hy)).mono (by decide) (by decide)⟩⟩
theorem main_1_1 : Claimed_1_1 := comes_1 fun _ _ _ _ _ _ h hF => ⟨h.1, hF⟩
theorem main_1_2 : Claimed_1_2 := comes_1 fun _ _ _ _ _ _ h hF => ⟨h.2.1, hF⟩
end Jvm.Pilot.@@N@@
namespace Jvm.Pilot.@@N@@
open Jvm Jvm.ClassFile Sem Op Lib Jvm.Free Jvm.Stand Jvm.Pilot.@@N@@.Jvm.D
/-! MADE BY PROGRAM (witnessworld.py) out of the Statement's table words and the real class files: 11 classes; the members and pool entries that the words name. The judged class is class 1, her method 1. -/
namespace start1
open Jvm.ClassFile
def u (s : String) : CpInfo := .utf8 (stringToUtf16 s)
/-- a pool by its gaps: so many unusable entries, then the entry; so many at the end -/
def gap : Nat → List CpInfo → List CpInfo
  | 0, r => r
  | n + 1, r => .unusable :: gap n r
def poolList (es : List (Nat × CpInfo)) (last : Nat) : List CpInfo := es.foldr (fun e r => gap e.1 (e.2 :: r)) (gap last [])
def pool (es : List (Nat × CpInfo)) (last : Nat) : Array CpInfo := ⟨poolList es last⟩
def fileOf (pool : Array CpInfo) (this : Nat) (attrs : Array Attribute := #[]) (ms : Array MethodInfo := #[]) (fl : Nat := 33) (sup : Nat := 0) (ifs : Array Nat := #[]) (fds : Array FieldInfo := #[]) : ClassFile where
  minorVersion := 0
  majorVersion := 65
  constantPool := pool
  accessFlags := fl
  thisClass := this
  superClass := sup
  interfaces := ifs
  fields := fds
  methods := ms
  attributes := attrs
def plain (name : String) (sup : Option ClassId) : Class where
  name := name
  kind := .ordinary
  loader := none
  accessFlags := 33
  super := sup
  interfaces := #[]
  cf := none
  fields := #[]
  methods := #[]
  instanceTypes := #[]
  staticTypes := #[]
  resolved := #[]
  callSites := []
  init := .initialized
  statics := none
  mirror := none

def pool0 : Array CpInfo := pool [(5, u "<init>"), (0, u "()V"), (1, .class_ 10), (1, u "java/lang/Object")] 113

def k0c0 : Code := { maxStack := 0, maxLocals := 1, code := object_method_1_code, exceptionTable := #[], attributes := #[] }
def k0m0 : Method := { name := "<init>", desc := "()V", sig := { parameters := [], returnType := none }, accessFlags := 1, code := some k0c0 }
/-- java/lang/Object -/
def k0 : Class := { plain "java/lang/Object" none with
  accessFlags := 33
  interfaces := #[]
  cf := some (fileOf pool0 8 #[] #[{ accessFlags := 1, nameIndex := 5, descriptorIndex := 6, attributes := #[] }] 33 0 #[] #[])
  fields := #[]
  methods := #[k0m0]
  instanceTypes := #[]
  staticTypes := #[]
  resolved := Array.replicate 124 none
  statics := none }

def pool1 : Array CpInfo := pool [(2, .class_ 4), (1, u "java/lang/Object"), (0, u "<init>"), (0, u "()V"), (0, .integer 2147483647), (0, .integer 2097151), (0, .integer 16777215), (0, .methodref 11 12), (0, .class_ 13), (0, .nameAndType 14 15), (0, u "java/lang/Math"), (0, u "max"), (0, u "(II)I"), (0, .class_ 17), (0, u "com/example/lockstile/lockstile/identities/Argon2$Cost"), (0, .methodref 16 19), (0, .nameAndType 5 20), (0, u "(III)V"), (0, .methodref 16 22), (0, .nameAndType 23 24), (0, u "blocks"), (0, u "()I"), (0, .long 4), (1, .class_ 28), (0, u "com/example/lockstile/lockstile/identities/CostBlocksPinLaw"), (2, u "law"), (0, u "(III)Z")] 7

def k1m0 : Method := { name := "<init>", desc := "()V", sig := { parameters := [], returnType := none }, accessFlags := 2, code := none }
def k1c1 : Code := { maxStack := 5, maxLocals := 19, code := code, exceptionTable := #[], attributes := #[] }
def k1m1 : Method := { name := "law", desc := "(III)Z", sig := { parameters := [.int, .int, .int], returnType := some .boolean }, accessFlags := 9, code := some k1c1 }
/-- com/example/lockstile/lockstile/identities/CostBlocksPinLaw -/
def k1 : Class := { plain "com/example/lockstile/lockstile/identities/CostBlocksPinLaw" (some 0) with
  accessFlags := 49
  interfaces := #[]
  cf := some (fileOf pool1 27 #[] #[{ accessFlags := 2, nameIndex := 5, descriptorIndex := 6, attributes := #[] }, { accessFlags := 9, nameIndex := 31, descriptorIndex := 32, attributes := #[] }] 49 2 #[] #[])
  fields := #[]
  methods := #[k1m0, k1m1]
  instanceTypes := #[]
  staticTypes := #[]
  resolved := Array.replicate 40 none
  statics := none }

def pool2 : Array CpInfo := pool [(1, .class_ 2), (0, u "java/lang/Math"), (1, .class_ 6), (1, u "java/lang/Object"), (0, u "<init>"), (0, u "()V"), (89, .class_ 100), (1, u "java/lang/Math$RandomNumberGeneratorHolder"), (71, u "negativeZeroFloatBits"), (0, u "J"), (2, u "negativeZeroDoubleBits"), (21, u "max"), (46, u "$assertionsDisabled"), (0, u "Z"), (88, u "(II)I"), (2, u "twoToTheDoubleScaleDown"), (0, u "D"), (4, u "twoToTheDoubleScaleUp"), (9, u "E"), (3, u "PI"), (2, u "TAU"), (2, u "DEGREES_TO_RADIANS"), (0, u "RADIANS_TO_DEGREES")] 94

def k2m0 : Method := { name := "<init>", desc := "()V", sig := { parameters := [], returnType := none }, accessFlags := 2, code := none }
def k2c1 : Code := { maxStack := 2, maxLocals := 2, code := jdk_29_method_65_code, exceptionTable := #[], attributes := #[] }
def k2m1 : Method := { name := "max", desc := "(II)I", sig := { parameters := [.int, .int], returnType := some .int }, accessFlags := 9, code := some k2c1 }
/-- java/lang/Math -/
def k2 : Class := { plain "java/lang/Math" (some 0) with
  accessFlags := 49
  interfaces := #[]
  cf := some (fileOf pool2 1 #[.nestMembers #[98]] #[{ accessFlags := 2, nameIndex := 7, descriptorIndex := 8, attributes := #[] }, { accessFlags := 9, nameIndex := 198, descriptorIndex := 335, attributes := #[] }] 49 4 #[] #[{ accessFlags := 25, nameIndex := 354, descriptorIndex := 339, attributes := #[] }, { accessFlags := 25, nameIndex := 358, descriptorIndex := 339, attributes := #[] }, { accessFlags := 25, nameIndex := 361, descriptorIndex := 339, attributes := #[] }, { accessFlags := 26, nameIndex := 364, descriptorIndex := 339, attributes := #[] }, { accessFlags := 26, nameIndex := 365, descriptorIndex := 339, attributes := #[] }, { accessFlags := 26, nameIndex := 172, descriptorIndex := 173, attributes := #[] }, { accessFlags := 26, nameIndex := 176, descriptorIndex := 173, attributes := #[] }, { accessFlags := 8, nameIndex := 344, descriptorIndex := 339, attributes := #[] }, { accessFlags := 8, nameIndex := 338, descriptorIndex := 339, attributes := #[] }, { accessFlags := 4120, nameIndex := 245, descriptorIndex := 246, attributes := #[] }])
  fields := #[{ name := "E", type := .double, accessFlags := 25, slot := 0, constantValue := 0 }, { name := "PI", type := .double, accessFlags := 25, slot := 1, constantValue := 0 }, { name := "TAU", type := .double, accessFlags := 25, slot := 2, constantValue := 0 }, { name := "DEGREES_TO_RADIANS", type := .double, accessFlags := 26, slot := 3, constantValue := 0 }, { name := "RADIANS_TO_DEGREES", type := .double, accessFlags := 26, slot := 4, constantValue := 0 }, { name := "negativeZeroFloatBits", type := .long, accessFlags := 26, slot := 5, constantValue := 0 }, { name := "negativeZeroDoubleBits", type := .long, accessFlags := 26, slot := 6, constantValue := 0 }, { name := "twoToTheDoubleScaleUp", type := .double, accessFlags := 8, slot := 7, constantValue := 0 }, { name := "twoToTheDoubleScaleDown", type := .double, accessFlags := 8, slot := 8, constantValue := 0 }, { name := "$assertionsDisabled", type := .boolean, accessFlags := 4120, slot := 9, constantValue := 0 }]
  methods := #[k2m0, k2m1]
  instanceTypes := #[]
  staticTypes := #[.double, .double, .double, .double, .double, .long, .long, .double, .double, .boolean]
  resolved := Array.replicate 460 none
  statics := none }

def pool3 : Array CpInfo := pool [(1, .methodref 2 3), (0, .class_ 4), (0, .nameAndType 5 6), (0, u "java/lang/Object"), (0, u "<init>"), (0, u "()V"), (0, .class_ 8), (0, u "java/lang/Record")] 13

def k3c0 : Code := { maxStack := 1, maxLocals := 1, code := jdk_30_method_1_code, exceptionTable := #[], attributes := #[] }
def k3m0 : Method := { name := "<init>", desc := "()V", sig := { parameters := [], returnType := none }, accessFlags := 4, code := some k3c0 }
/-- java/lang/Record -/
def k3 : Class := { plain "java/lang/Record" (some 0) with
  accessFlags := 1057
  interfaces := #[]
  cf := some (fileOf pool3 7 #[] #[{ accessFlags := 4, nameIndex := 5, descriptorIndex := 6, attributes := #[] }] 1057 2 #[] #[])
  fields := #[]
  methods := #[k3m0]
  instanceTypes := #[]
  staticTypes := #[]
  resolved := Array.replicate 22 none
  statics := none }

def pool4 : Array CpInfo := pool [(1, .class_ 2), (0, u "com/example/lockstile/lockstile/identities/Argon2"), (0, .methodref 4 5), (0, .class_ 6), (0, .nameAndType 7 8), (0, u "java/lang/Record"), (0, u "<init>"), (0, u "()V"), (0, .integer 16777215), (11, .fieldref 22 23), (0, .class_ 24), (0, .nameAndType 25 26), (0, u "com/example/lockstile/lockstile/identities/Argon2$Cost"), (0, u "memoryKib"), (0, u "I"), (0, .fieldref 22 28), (0, .nameAndType 29 26), (0, u "passes"), (0, .fieldref 22 31), (0, .nameAndType 32 26), (0, u "lanes"), (2, u "blocks"), (0, u "()I"), (12, u "(III)V")] 40

def k4c0 : Code := { maxStack := 4, maxLocals := 4, code := prog_3_method_1_code, exceptionTable := #[], attributes := #[] }
def k4m0 : Method := { name := "<init>", desc := "(III)V", sig := { parameters := [.int, .int, .int], returnType := none }, accessFlags := 0, code := some k4c0 }
def k4c1 : Code := { maxStack := 3, maxLocals := 1, code := prog_3_method_2_code, exceptionTable := #[], attributes := #[] }
def k4m1 : Method := { name := "blocks", desc := "()I", sig := { parameters := [], returnType := some .int }, accessFlags := 0, code := some k4c1 }
/-- com/example/lockstile/lockstile/identities/Argon2$Cost -/
def k4 : Class := { plain "com/example/lockstile/lockstile/identities/Argon2$Cost" (some 3) with
  accessFlags := 48
  interfaces := #[]
  cf := some (fileOf pool4 22 #[.nestHost 1] #[{ accessFlags := 0, nameIndex := 7, descriptorIndex := 49, attributes := #[] }, { accessFlags := 0, nameIndex := 35, descriptorIndex := 36, attributes := #[] }] 48 4 #[] #[{ accessFlags := 18, nameIndex := 25, descriptorIndex := 26, attributes := #[] }, { accessFlags := 18, nameIndex := 29, descriptorIndex := 26, attributes := #[] }, { accessFlags := 18, nameIndex := 32, descriptorIndex := 26, attributes := #[] }])
  fields := #[{ name := "memoryKib", type := .int, accessFlags := 18, slot := 0, constantValue := 0 }, { name := "passes", type := .int, accessFlags := 18, slot := 1, constantValue := 0 }, { name := "lanes", type := .int, accessFlags := 18, slot := 2, constantValue := 0 }]
  methods := #[k4m0, k4m1]
  instanceTypes := #[.int, .int, .int]
  staticTypes := #[]
  resolved := Array.replicate 90 none
  statics := none }

def pool5 : Array CpInfo := pool [(1, u "java/lang/Cloneable"), (0, .class_ 1), (0, u "java/lang/Object"), (0, .class_ 3)] 3

/-- java/lang/Cloneable -/
def k5 : Class := { plain "java/lang/Cloneable" (some 0) with
  accessFlags := 1537
  interfaces := #[]
  cf := some (fileOf pool5 2 #[] #[] 1537 4 #[] #[])
  fields := #[]
  methods := #[]
  instanceTypes := #[]
  staticTypes := #[]
  resolved := Array.replicate 8 none
  statics := none }

def pool6 : Array CpInfo := pool [(1, u "java/io/Serializable"), (0, .class_ 1), (0, u "java/lang/Object"), (0, .class_ 3)] 3

/-- java/io/Serializable -/
def k6 : Class := { plain "java/io/Serializable" (some 0) with
  accessFlags := 1537
  interfaces := #[]
  cf := some (fileOf pool6 2 #[] #[] 1537 4 #[] #[])
  fields := #[]
  methods := #[]
  instanceTypes := #[]
  staticTypes := #[]
  resolved := Array.replicate 8 none
  statics := none }

/-- the primitive byte -/
def k7 : Class := { plain "byte" none with kind := .primitive 'B', accessFlags := 0x411 }
/-- [B -/
def k8 : Class := { plain "[B" (some 0) with kind := .array 7 .byte, interfaces := #[5, 6], accessFlags := 1041 }

/-- the primitive int -/
def k9 : Class := { plain "int" none with kind := .primitive 'I', accessFlags := 0x411 }
/-- [I -/
def k10 : Class := { plain "[I" (some 0) with kind := .array 9 .int, interfaces := #[5, 6], accessFlags := 1041 }

def heap : Heap := #[]
def classes : Array Class := #[k0, k1, k2, k3, k4, k5, k6, k7, k8, k9, k10]
def interned : List (Array UInt16 × Addr) := []
def slotsUsed : Nat := 0
def theMethod : MethodId := ⟨1, 1⟩
def args0 : Array Value := #[.int 5, .int 5, .int 5]
def aboutOver (below : List Frame) : State where
  vm := { classes := classes, interned := interned.toArray }
  heap := heap
  slotsUsed := slotsUsed
  threads := #[{ frames := .invoking theMethod args0 :: below }]
def below0 : List Frame := [.native { method := ⟨0, 0⟩, args := #[] }]
def about1 : State := aboutOver below0
def p0 : Program := .bare "" "" ""
def e0 : Env := launch0.env 0 0 0
theorem w_frames : about1.frames = Frame.invoking theMethod args0 :: below0 := rfl
set_option maxRecDepth 65536 in
theorem w_args : argsFit about1.vm theMethod args0 = true := by decide +kernel
set_option maxRecDepth 65536 in
theorem w_heap : heapFits about1 = true := by decide +kernel
set_option maxRecDepth 65536 in
theorem w_runnable : about1.curStatus? = some .runnable := by decide +kernel
set_option maxRecDepth 65536 in
theorem w_alone : about1.alone = true := by decide +kernel
set_option maxRecDepth 65536 in
theorem w_named : about1.methodNamed? x = some theMethod := by decide +kernel
set_option maxRecDepth 65536 in
theorem w_hears : about1.hears theMethod below0 = true := by decide +kernel
set_option maxRecDepth 65536 in
theorem w_ripe : about1.ripe theMethod args0 below0 = true := by decide +kernel
theorem w_running : about1.status = .running := rfl
set_option maxRecDepth 65536 in
theorem w_room : about1.hasRoom e0.platform room_1 = true :=
  launch0.hasRoom_least _ room_1 (by decide +kernel) (by decide +kernel) (by decide +kernel) (by decide +kernel) (by decide +kernel) (by decide +kernel)
theorem allAtoms_all (ts : List Jvm.Cond) (a : Array Jvm.Value) (st : Jvm.State) : (allAtoms ts).before a st = ts.all (fun c => c.before a st) := by
  induction ts with
  | nil => rfl
  | cons c t ih =>
    show (Jvm.Cond.and c (allAtoms t)).before a st = _
    rw [Jvm.Cond.before_and, ih, List.all_cons]
def words1 : List Jvm.Cond := Jvm.Cond.code x code maxLocals ret :: tables_1
/-- a 'code' word, met by the world's own term for the bytes: nothing is compared byte by byte -/
theorem code_word {y : MethodName} {bytes : ByteArray} {mx : Nat} {rt : Option FieldType} {a : Array Value} {s : State} {m : MethodId} {meth : Method} {c : Code} (h1 : s.methodNamed? y = some m) (h2 : s.vm.method? m = some meth) (h3 : meth.code = some c) (h4 : c.code = bytes)
    (h5 : (c.maxLocals == mx && c.exceptionTable.isEmpty && decide (c.maxStack ≤ mostOperands) && decide (meth.sig.returnType = rt) && !meth.locks && decide (parseMethodDescriptor y.desc = some meth.sig)) = true) : (Jvm.Cond.code y bytes mx rt).before a s = true := by
  simp only [Bool.and_eq_true, beq_iff_eq, Bool.not_eq_true', decide_eq_true_eq] at h5
  obtain ⟨⟨⟨⟨⟨g1, g2⟩, g3⟩, g4⟩, g5⟩, g6⟩ := h5
  simp [Cond.before, Cond.holds, Cond.value, h1, h2, h3, h4, g1, g2, g3, g4, g5, g6]
def isCode : Jvm.Cond → Bool
  | .code _ _ _ _ => true
  | _ => false
theorem all_split {L : List Jvm.Cond} {P : Jvm.Cond → Bool} (h1 : L.all (fun c => isCode c || P c) = true) (h2 : ∀ c ∈ L.filter isCode, P c = true) : L.all P = true := by
  refine List.all_eq_true.mpr fun c hc => ?_
  have h := List.all_eq_true.mp h1 c hc
  rcases Bool.eq_false_or_eq_true (isCode c) with hi | hi
  · exact h2 c (List.mem_filter.mpr ⟨hc, hi⟩)
  · simpa [hi] using h
set_option maxRecDepth 65536 in
theorem w_c0 : (Jvm.Cond.code x code maxLocals ret).before args0 about1 = true := code_word (m := ⟨1, 1⟩) (meth := k1m1) (c := k1c1) (by decide +kernel) rfl rfl rfl (by decide +kernel)
set_option maxRecDepth 65536 in
theorem w_c1 : (Jvm.Cond.code ({ cls := "java/lang/Math", name := "max", desc := "(II)I" } : Jvm.MethodName) jdk_29_method_65_code (2 : Nat) (Option.some Jvm.ClassFile.FieldType.int)).before args0 about1 = true := code_word (m := ⟨2, 1⟩) (meth := k2m1) (c := k2c1) (by decide +kernel) rfl rfl rfl (by decide +kernel)
set_option maxRecDepth 65536 in
theorem w_c2 : (Jvm.Cond.code ({ cls := "com/example/lockstile/lockstile/identities/Argon2$Cost", name := "<init>", desc := "(III)V" } : Jvm.MethodName) prog_3_method_1_code (4 : Nat) (Option.none : Option Jvm.ClassFile.FieldType)).before args0 about1 = true := code_word (m := ⟨4, 0⟩) (meth := k4m0) (c := k4c0) (by decide +kernel) rfl rfl rfl (by decide +kernel)
set_option maxRecDepth 65536 in
theorem w_c3 : (Jvm.Cond.code ({ cls := "java/lang/Record", name := "<init>", desc := "()V" } : Jvm.MethodName) jdk_30_method_1_code (1 : Nat) (Option.none : Option Jvm.ClassFile.FieldType)).before args0 about1 = true := code_word (m := ⟨3, 0⟩) (meth := k3m0) (c := k3c0) (by decide +kernel) rfl rfl rfl (by decide +kernel)
set_option maxRecDepth 65536 in
theorem w_c4 : (Jvm.Cond.code ({ cls := "java/lang/Object", name := "<init>", desc := "()V" } : Jvm.MethodName) object_method_1_code (1 : Nat) (Option.none : Option Jvm.ClassFile.FieldType)).before args0 about1 = true := code_word (m := ⟨0, 0⟩) (meth := k0m0) (c := k0c0) (by decide +kernel) rfl rfl rfl (by decide +kernel)
set_option maxRecDepth 65536 in
theorem w_c5 : (Jvm.Cond.code ({ cls := "com/example/lockstile/lockstile/identities/Argon2$Cost", name := "blocks", desc := "()I" } : Jvm.MethodName) prog_3_method_2_code (1 : Nat) (Option.some Jvm.ClassFile.FieldType.int)).before args0 about1 = true := code_word (m := ⟨4, 1⟩) (meth := k4m1) (c := k4c1) (by decide +kernel) rfl rfl rfl (by decide +kernel)
def codes1 : List Jvm.Cond := [Jvm.Cond.code x code maxLocals ret, Jvm.Cond.code ({ cls := "java/lang/Math", name := "max", desc := "(II)I" } : Jvm.MethodName) jdk_29_method_65_code (2 : Nat) (Option.some Jvm.ClassFile.FieldType.int), Jvm.Cond.code ({ cls := "com/example/lockstile/lockstile/identities/Argon2$Cost", name := "<init>", desc := "(III)V" } : Jvm.MethodName) prog_3_method_1_code (4 : Nat) (Option.none : Option Jvm.ClassFile.FieldType), Jvm.Cond.code ({ cls := "java/lang/Record", name := "<init>", desc := "()V" } : Jvm.MethodName) jdk_30_method_1_code (1 : Nat) (Option.none : Option Jvm.ClassFile.FieldType), Jvm.Cond.code ({ cls := "java/lang/Object", name := "<init>", desc := "()V" } : Jvm.MethodName) object_method_1_code (1 : Nat) (Option.none : Option Jvm.ClassFile.FieldType), Jvm.Cond.code ({ cls := "com/example/lockstile/lockstile/identities/Argon2$Cost", name := "blocks", desc := "()I" } : Jvm.MethodName) prog_3_method_2_code (1 : Nat) (Option.some Jvm.ClassFile.FieldType.int)]
set_option maxRecDepth 65536 in
theorem codes_eq : words1.filter isCode = codes1 := rfl
theorem w_codes : ∀ c ∈ words1.filter isCode, c.before args0 about1 = true := by
  rw [codes_eq]
  intro c hc
  simp only [codes1, List.mem_cons, List.not_mem_nil, or_false] at hc
  rcases hc with rfl | rfl | rfl | rfl | rfl | rfl
  · exact w_c0
  · exact w_c1
  · exact w_c2
  · exact w_c3
  · exact w_c4
  · exact w_c5
set_option maxRecDepth 65536 in
theorem w_t1 : (words1.take 24).all (fun c => isCode c || c.before args0 about1) = true := by decide +kernel
set_option maxRecDepth 65536 in
theorem w_t2 : (words1.drop 24).all (fun c => isCode c || c.before args0 about1) = true := by decide +kernel
theorem w_tables : (allAtoms (Jvm.Cond.code x code maxLocals ret :: tables_1)).before args0 about1 = true := by
  rw [allAtoms_all]
  show words1.all (fun c => c.before args0 about1) = true
  refine all_split ?_ w_codes
  rw [← List.take_append_drop 24 words1, List.all_append, w_t1, w_t2]
  rfl
set_option maxRecDepth 65536 in
theorem w_case : (Jvm.Cond.and given_1 narrow_1).before args0 about1 = true := by decide +kernel
theorem w_applies : (headSpec (Jvm.Cond.code x code maxLocals ret :: tables_1) room_1).applies x e0.platform about1 = true :=
  (Spec.applies_iff w_frames).mpr ⟨w_running, w_runnable, w_alone, w_named, w_hears, w_ripe, w_room, w_tables⟩
theorem atStart : AtStart classFile x code maxLocals ret World_1 tables_1 room_1 Calls_1 rest_1 Pre_1 launch0 p0 e0 about1 theMethod args0 below0 :=
  ⟨lists_1, trivial, launch0.admits_env _ _ _, launch0.least_env, fairChoices_fair.cas, fairChoices_fair.clock, w_frames, w_args, w_heap, w_applies, trivial, trivial, w_case⟩
end start1
theorem witness_1 : WitnessClaimed_1 := ⟨start1.p0, start1.e0, start1.about1, start1.theMethod, start1.args0, start1.below0, start1.atStart⟩
end Jvm.Pilot.@@N@@
