import JvmDerived
import JvmDerived.Pilot.@@N@@Statement
import JvmDerived.Pilot.@@N@@Code
set_option linter.unusedVariables false
set_option linter.unusedSimpArgs false
namespace Jvm.Pilot.@@N@@
open Jvm Jvm.ClassFile Sem Op Lib Jvm.Free Jvm.Stand Jvm.LawKit Jvm.RoadKit Bundle Jvm.Pilot.@@N@@.Jvm.D
/-! the goal of a walk, read forwards: from the state S the run comes to an end that P likes -/
def own_G (p : Program) (e : Env) (below : List Frame) (S : State) (P : State → Outcome → Prop) : Prop := ∃ s₂ o, Steps p.tables e below S s₂ ∧ s₂.status = .running ∧ Ended s₂ below o ∧ P s₂ o
theorem own_go {p : Program} {e : Env} {below : List Frame} {A B : State} {P : State → Outcome → Prop} (h : ∀ t, Steps p.tables e below A t → Steps p.tables e below B t) (g : own_G p e below A P) : own_G p e below B P := by
  obtain ⟨s₂, o, h1, h2⟩ := g
  exact ⟨s₂, o, h _ h1, h2⟩
theorem own_ret {p : Program} {l : Launch} {e : Env} {R : Room} {s : State} {m : MethodId} {args : Array Value} {below : List Frame} {meth : Method} {c : Code} {T : State} {locs : List Loc} {cells slots : Nat} (X : Stand p l e R s m args below meth c T locs cells slots) (hlocks : meth.locks = false) {v : Option Value} (hv : meth.sig.returnType = none → v = none) {g : JFrame} (Q : Option Value → Heap → List Loc → Prop) {C S : Nat}
    (st : ∀ fs : List Frame, (∀ (f : JFrame) (acts : List Action), f.method = m → f.locked = none → f.entered = [] → (doReturn e (T.setTop f) acts v).1 = T.setFrames fs) → Steps p.tables e below (T.setTop g) (T.setFrames fs))
    (hc : cells ≤ C) (hs : slots ≤ S) (hQ : Q v T.heap locs) : own_G p e below (T.setTop g) (fun s₂ o => ∃ v L, o = .returned v ∧ Q v s₂.heap L ∧ FrameEnd s o s₂ L C S) := by
  obtain ⟨fs, hr, hrun, hended, hW, hsame⟩ := X.leave (v := v) hv hlocks
  exact ⟨_, _, st fs hr, hrun, hended, _, _, rfl, hQ, ⟨_, rfl⟩, hW, hsame.mono hc hs⟩
theorem own_retI {p : Program} {l : Launch} {e : Env} {R : Room} {s : State} {m : MethodId} {args : Array Value} {below : List Frame} {meth : Method} {c : Code} {T : State} {locs : List Loc} {cells slots : Nat} (X : Stand p l e R s m args below meth c T locs cells slots) (hx : p.tables.exec = Jvm.exec) {pc : Nat} {Ls : Array Slot} {w : Value} {t : FieldType} {i : Instr} {rest : List Value} (hret : meth.sig.returnType = some t) (hn : narrow t w = w)
    (hi : (i = .ireturn ∧ (t = .int ∨ t = .boolean ∨ t = .byte ∨ t = .char ∨ t = .short) ∧ ∃ z, w = .int z) ∨ (i = .lreturn ∧ t = .long ∧ ∃ z, w = .long z) ∨ (i = .dreturn ∧ t = .double ∧ ∃ z, w = .double z) ∨ (i = .freturn ∧ t = .float ∧ ∃ z, w = .float z) ∨ (i = .areturn ∧ t.isReference = true ∧ w.isRef = true))
    (hd : decode c.code pc = .ok (i, 1)) (fs : List Frame) (hl : ∀ (f : JFrame) (acts : List Action), f.method = m → f.locked = none → f.entered = [] → (doReturn e (T.setTop f) acts (some w)).1 = T.setFrames fs) :
    Steps p.tables e below (T.setTop (mkF m pc Ls (w :: rest))) (T.setFrames fs) := retOut X hx hret hn hi hd hl
theorem own_retV {p : Program} {l : Launch} {e : Env} {R : Room} {s : State} {m : MethodId} {args : Array Value} {below : List Frame} {meth : Method} {c : Code} {T : State} {locs : List Loc} {cells slots : Nat} (X : Stand p l e R s m args below meth c T locs cells slots) (hx : p.tables.exec = Jvm.exec) {pc : Nat} {Ls : Array Slot} (hret : meth.sig.returnType = none)
    (hd : decode c.code pc = .ok (.return_, 1)) (fs : List Frame) (hl : ∀ (f : JFrame) (acts : List Action), f.method = m → f.locked = none → f.entered = [] → (doReturn e (T.setTop f) acts none).1 = T.setFrames fs) :
    Steps p.tables e below (T.setTop (mkF m pc Ls [])) (T.setFrames fs) := X.returnOut hx hret hd hl
theorem own_selects {s : State} {args : Array Value} {y : MethodName} {n : Nat} (hins : (Jvm.Cond.instantiable y.cls n).before args s = true) (hpriv : (Jvm.Cond.privateMethod y).before args s = true) (hinst : (Jvm.Cond.instanceMethod y).before args s = true) (hy : y.cls ≠ "java/lang/invoke/MethodHandle" ∧ y.cls ≠ "java/lang/invoke/VarHandle") :
    (Jvm.Cond.selects y.cls y y).before args s = true := by
  obtain ⟨c, k, hc, hk, -, hniab, -, -⟩ := Cond.instantiable_spec hins
  exact selects_self_of_private hc hk (Bool.or_eq_false_iff.mp hniab).1 (Cond.privateMethod_at hpriv) hinst hy
theorem own_bb (x : Int32) : nar .byte x.toInt8.toInt32 = x.toInt8.toInt32 := by
  show x.toInt8.toInt32.toInt8.toInt32 = _
  simp
theorem own_fit {z : Int32} (h : nar .byte z = z) : fits .byte (.int z) = true := by
  rw [← h]; exact fits_nar_byte z
theorem own_lt32 {a b : Int32} : a < b ↔ a.toInt < b.toInt := Int32.lt_iff_toInt_lt
/-! Arrays.copyOf(byte[], int): its two returning roads, in plain lists -/
def own_mini (a b : Int32) : Int32 := if b < a then b else a
theorem own_arv_of {Z : State} {h : Heap} {a : Addr} {k : ClassId} {ty : FieldType} {z : Int32} {vs vs' : List Value} {d : Value} (V : Arv Z h a k ty z vs d) (q : ∀ i, i < z.toNatClampNeg → vs'.getD i d = vs.getD i d) : Arv Z h a k ty z vs' d := by
  obtain ⟨c, A, r1, r2, r3, H, G⟩ := V
  exact ⟨c, A, r1, r2, r3, fun i hi => by rw [q i (r2 ▸ hi)]; exact H i hi, fun i hi => by rw [q i (r2 ▸ hi)]; exact G i hi⟩
theorem own_cp1 {Z : State} {h : Heap} {a : Addr} {k : ClassId} {ty : FieldType} {z y : Int32} {vs : List Value} {d : Value} (e : y = z) (V : Arv Z h a k ty z vs d) : Arv Z h a k ty y (vs.take y.toNatClampNeg) d := by
  subst e
  refine own_arv_of V fun i hi => ?_
  simp [List.getD_eq_getElem?_getD, List.getElem?_take, hi]
theorem own_nonneg {z : Int32} (h : ¬ z < 0) : z.toInt = (z.toNatClampNeg : Int) := nat_of h
theorem own_mini_nn {z y : Int32} (hz : ¬ z < 0) (hy : ¬ y < 0) : ¬ own_mini z y < 0 := by unfold own_mini; split <;> assumption
theorem own_mini_le {z y : Int32} (hz : ¬ z < 0) (hy : ¬ y < 0) : (own_mini z y).toNatClampNeg ≤ z.toNatClampNeg ∧ (own_mini z y).toNatClampNeg ≤ y.toNatClampNeg ∧ ((own_mini z y).toNatClampNeg = z.toNatClampNeg ∨ (own_mini z y).toNatClampNeg = y.toNatClampNeg) := by
  have h1 := own_nonneg hz
  have h2 := own_nonneg hy
  unfold own_mini
  split
  · rename_i h; rw [own_lt32] at h; exact ⟨by omega, by omega, Or.inr rfl⟩
  · rename_i h; rw [own_lt32] at h; exact ⟨by omega, by omega, Or.inl rfl⟩
theorem own_cplist {vs : List Value} {d : Value} {zn yn nn : Nat} (h1 : nn ≤ zn) (h2 : nn ≤ yn) (h3 : nn = zn ∨ nn = yn) (hv : vs.length ≤ zn) (i : Nat) (hi : i < yn) :
    (vs.take yn).getD i d = ((([] ++ List.replicate yn d).take 0) ++ ((List.range nn).map fun i => vs.getD (0 + i) d) ++ ([] ++ List.replicate yn d).drop (0 + nn)).getD i d := by
  simp only [List.getD_eq_getElem?_getD, List.getElem?_take, hi, if_true, List.take_zero, List.nil_append, Nat.zero_add]
  by_cases hn : i < nn
  · rw [List.getElem?_append_left (by simpa using hn)]
    simp [hn]
  · have hz : vs[i]? = none := by rw [List.getElem?_eq_none_iff]; omega
    rw [List.getElem?_append_right (by simpa using Nat.le_of_not_lt hn), hz]
    simp only [List.length_map, List.length_range, List.getElem?_drop, List.getElem?_replicate]
    rw [if_pos (by omega)]
    rfl
theorem own_cp2 {Z : State} {h : Heap} {a : Addr} {k : ClassId} {ty : FieldType} {z y : Int32} {vs : List Value} {d : Value} (hz : ¬ z < 0) (hy : ¬ y < 0) (hv : vs.length ≤ z.toNatClampNeg)
    (V : Arv Z h a k ty y ((([] ++ List.replicate y.toNatClampNeg d).take (0 : Int32).toNatClampNeg) ++ ((List.range (own_mini z y).toNatClampNeg).map fun i => vs.getD ((0 : Int32).toNatClampNeg + i) d) ++ ([] ++ List.replicate y.toNatClampNeg d).drop ((0 : Int32).toNatClampNeg + (own_mini z y).toNatClampNeg)) d) :
    Arv Z h a k ty y (vs.take y.toNatClampNeg) d := by
  obtain ⟨h1, h2, h3⟩ := own_mini_le hz hy
  exact own_arv_of V fun i hi => own_cplist h1 h2 h3 hv i hi
def own_min (a b : Int64) : Int64 := if b < a then b else a
def own_max (a b : Int64) : Int64 := if a < b then b else a
/-- the byte that put8 lays at the place k / 8 -/
def own_b (q : Int64) (k : Int32) : Int32 := (XT.ushrL q k).toInt32.toInt8.toInt32
def own_leS (acc : Int64) (x : Int32) (k : Int32) : Int64 := acc ||| ((x.toInt64 &&& (255 : Int64)) <<< (k &&& 0x3f).toInt64)
def own_le8 (x0 x1 x2 x3 x4 x5 x6 x7 : Int32) : Int64 := own_leS (own_leS (own_leS (own_leS (own_leS (own_leS (own_leS ((0 : Int64) ||| (x0.toInt64 &&& (255 : Int64))) x1 8) x2 16) x3 24) x4 32) x5 40) x6 48) x7 56
theorem own_ff64 (i : Nat) : (255#64).getLsbD i = decide (i < 8) := by
  rw [show (255#64) = BitVec.setWidth 64 (BitVec.allOnes 8) from rfl, BitVec.getLsbD_setWidth, BitVec.getLsbD_allOnes]
  by_cases h : i < 8
  · simp [h]; omega
  · simp [h]
theorem own_i8L (y : Int64) : (y.toInt32.toInt8.toInt32.toInt64 &&& (255 : Int64)).toBitVec = y.toBitVec &&& 255#64 := by
  rw [Int64.toBitVec_and]
  show (((y.toBitVec.signExtend 32).signExtend 8).signExtend 32).signExtend 64 &&& 255#64 = _
  apply BitVec.eq_of_getLsbD_eq
  intro i hi
  simp only [BitVec.getLsbD_and, BitVec.getLsbD_signExtend, own_ff64]
  by_cases h8 : i < 8
  · simp [h8, hi, show i < 32 by omega]
  · simp [h8]
theorem own_shb (b : Int64) (y : Int32) (k : Nat) (hy : (y.toInt64.toUInt64 &&& Int64.toUInt64 63).toBitVec.toNat % 64 = k) : (XT.ushrL b y).toBitVec = b.toBitVec >>> k := by
  show (b.toUInt64 >>> (y.toInt64.toUInt64 &&& Int64.toUInt64 63)).toBitVec = _
  rw [UInt64.toBitVec_shiftRight, BitVec.ushiftRight_eq', BitVec.toNat_umod, show (64 : BitVec 64).toNat = 64 from rfl, hy]
  rfl
theorem own_leB (acc : Int64) (q : Int64) (k : Int32) (n : Nat) (hk : (k.toInt64.toUInt64 &&& Int64.toUInt64 63).toBitVec.toNat % 64 = n) (hk' : ((k &&& 0x3f).toInt64.toBitVec.smod 64).toNat = n) : (own_leS acc (own_b q k) k).toBitVec = acc.toBitVec ||| ((q.toBitVec >>> n &&& 255#64) <<< n) := by
  unfold own_leS own_b
  rw [Int64.toBitVec_or, Int64.toBitVec_shiftLeft, own_i8L, own_shb _ _ n hk, BitVec.shiftLeft_eq', hk']
theorem own_le (q : Int64) : own_le8 (q.toInt32.toInt8.toInt32) (own_b q 8) (own_b q 16) (own_b q 24) (own_b q 32) (own_b q 40) (own_b q 48) (own_b q 56) = q := by
  apply Int64.toBitVec_inj.mp
  unfold own_le8
  rw [own_leB _ q 56 56 (by decide) (by decide), own_leB _ q 48 48 (by decide) (by decide), own_leB _ q 40 40 (by decide) (by decide), own_leB _ q 32 32 (by decide) (by decide), own_leB _ q 24 24 (by decide) (by decide), own_leB _ q 16 16 (by decide) (by decide), own_leB _ q 8 8 (by decide) (by decide), Int64.toBitVec_or, own_i8L]
  apply BitVec.eq_of_getLsbD_eq
  intro i hi
  simp only [BitVec.getLsbD_or, BitVec.getLsbD_shiftLeft, BitVec.getLsbD_and, BitVec.getLsbD_ushiftRight, own_ff64]
  have hz : (Int64.toBitVec 0).getLsbD i = false := by show (0#64).getLsbD i = false; simp
  rw [hz]
  by_cases h1 : i < 8
  · simp [h1, show i < 16 by omega, show i < 24 by omega, show i < 32 by omega, show i < 40 by omega, show i < 48 by omega, show i < 56 by omega]
  by_cases h2 : i < 16
  · simp [h1, h2, hi, show i < 24 by omega, show i < 32 by omega, show i < 40 by omega, show i < 48 by omega, show i < 56 by omega, show 8 + (i - 8) = i by omega, show i - 8 < 8 by omega]
  by_cases h3 : i < 24
  · simp [h1, h2, h3, hi, show i < 32 by omega, show i < 40 by omega, show i < 48 by omega, show i < 56 by omega, show 16 + (i - 16) = i by omega, show i - 16 < 8 by omega, show ¬ i - 8 < 8 by omega]
  by_cases h4 : i < 32
  · simp [h1, h2, h3, h4, hi, show i < 40 by omega, show i < 48 by omega, show i < 56 by omega, show 24 + (i - 24) = i by omega, show i - 24 < 8 by omega, show ¬ i - 8 < 8 by omega, show ¬ i - 16 < 8 by omega]
  by_cases h5 : i < 40
  · simp [h1, h2, h3, h4, h5, hi, show i < 48 by omega, show i < 56 by omega, show 32 + (i - 32) = i by omega, show i - 32 < 8 by omega, show ¬ i - 8 < 8 by omega, show ¬ i - 16 < 8 by omega, show ¬ i - 24 < 8 by omega]
  by_cases h6 : i < 48
  · simp [h1, h2, h3, h4, h5, h6, hi, show i < 56 by omega, show 40 + (i - 40) = i by omega, show i - 40 < 8 by omega, show ¬ i - 8 < 8 by omega, show ¬ i - 16 < 8 by omega, show ¬ i - 24 < 8 by omega, show ¬ i - 32 < 8 by omega]
  by_cases h7 : i < 56
  · simp [h1, h2, h3, h4, h5, h6, h7, hi, show 48 + (i - 48) = i by omega, show i - 48 < 8 by omega, show ¬ i - 8 < 8 by omega, show ¬ i - 16 < 8 by omega, show ¬ i - 24 < 8 by omega, show ¬ i - 32 < 8 by omega, show ¬ i - 40 < 8 by omega]
  · simp [h1, h2, h3, h4, h5, h6, h7, hi, show 56 + (i - 56) = i by omega, show i - 56 < 8 by omega, show ¬ i - 8 < 8 by omega, show ¬ i - 16 < 8 by omega, show ¬ i - 24 < 8 by omega, show ¬ i - 32 < 8 by omega, show ¬ i - 40 < 8 by omega, show ¬ i - 48 < 8 by omega]
theorem d1_0 : decode method_3_code 0 = .ok (.aload_n 0, 1) := by decide +kernel
theorem d1_1 : decode method_3_code 1 = .ok (.iload_n 1, 1) := by decide +kernel
theorem d1_2 : decode method_3_code 2 = .ok (.lload_n 2, 1) := by decide +kernel
theorem d1_3 : decode method_3_code 3 = .ok (.l2i, 1) := by decide +kernel
theorem d1_4 : decode method_3_code 4 = .ok (.i2b, 1) := by decide +kernel
theorem d1_5 : decode method_3_code 5 = .ok (.bastore, 1) := by decide +kernel
theorem d1_6 : decode method_3_code 6 = .ok (.aload_n 0, 1) := by decide +kernel
theorem d1_7 : decode method_3_code 7 = .ok (.iload_n 1, 1) := by decide +kernel
theorem d1_8 : decode method_3_code 8 = .ok (.iconst 1, 1) := by decide +kernel
theorem d1_9 : decode method_3_code 9 = .ok (.iadd, 1) := by decide +kernel
theorem d1_10 : decode method_3_code 10 = .ok (.lload_n 2, 1) := by decide +kernel
theorem d1_11 : decode method_3_code 11 = .ok (.bipush 8, 2) := by decide +kernel
theorem d1_13 : decode method_3_code 13 = .ok (.lushr, 1) := by decide +kernel
theorem d1_14 : decode method_3_code 14 = .ok (.l2i, 1) := by decide +kernel
theorem d1_15 : decode method_3_code 15 = .ok (.i2b, 1) := by decide +kernel
theorem d1_16 : decode method_3_code 16 = .ok (.bastore, 1) := by decide +kernel
theorem d1_17 : decode method_3_code 17 = .ok (.aload_n 0, 1) := by decide +kernel
theorem d1_18 : decode method_3_code 18 = .ok (.iload_n 1, 1) := by decide +kernel
theorem d1_19 : decode method_3_code 19 = .ok (.iconst 2, 1) := by decide +kernel
theorem d1_20 : decode method_3_code 20 = .ok (.iadd, 1) := by decide +kernel
theorem d1_21 : decode method_3_code 21 = .ok (.lload_n 2, 1) := by decide +kernel
theorem d1_22 : decode method_3_code 22 = .ok (.bipush 16, 2) := by decide +kernel
theorem d1_24 : decode method_3_code 24 = .ok (.lushr, 1) := by decide +kernel
theorem d1_25 : decode method_3_code 25 = .ok (.l2i, 1) := by decide +kernel
theorem d1_26 : decode method_3_code 26 = .ok (.i2b, 1) := by decide +kernel
theorem d1_27 : decode method_3_code 27 = .ok (.bastore, 1) := by decide +kernel
theorem d1_28 : decode method_3_code 28 = .ok (.aload_n 0, 1) := by decide +kernel
theorem d1_29 : decode method_3_code 29 = .ok (.iload_n 1, 1) := by decide +kernel
theorem d1_30 : decode method_3_code 30 = .ok (.iconst 3, 1) := by decide +kernel
theorem d1_31 : decode method_3_code 31 = .ok (.iadd, 1) := by decide +kernel
theorem d1_32 : decode method_3_code 32 = .ok (.lload_n 2, 1) := by decide +kernel
theorem d1_33 : decode method_3_code 33 = .ok (.bipush 24, 2) := by decide +kernel
theorem d1_35 : decode method_3_code 35 = .ok (.lushr, 1) := by decide +kernel
theorem d1_36 : decode method_3_code 36 = .ok (.l2i, 1) := by decide +kernel
theorem d1_37 : decode method_3_code 37 = .ok (.i2b, 1) := by decide +kernel
theorem d1_38 : decode method_3_code 38 = .ok (.bastore, 1) := by decide +kernel
theorem d1_39 : decode method_3_code 39 = .ok (.aload_n 0, 1) := by decide +kernel
theorem d1_40 : decode method_3_code 40 = .ok (.iload_n 1, 1) := by decide +kernel
theorem d1_41 : decode method_3_code 41 = .ok (.iconst 4, 1) := by decide +kernel
theorem d1_42 : decode method_3_code 42 = .ok (.iadd, 1) := by decide +kernel
theorem d1_43 : decode method_3_code 43 = .ok (.lload_n 2, 1) := by decide +kernel
theorem d1_44 : decode method_3_code 44 = .ok (.bipush 32, 2) := by decide +kernel
theorem d1_46 : decode method_3_code 46 = .ok (.lushr, 1) := by decide +kernel
theorem d1_47 : decode method_3_code 47 = .ok (.l2i, 1) := by decide +kernel
theorem d1_48 : decode method_3_code 48 = .ok (.i2b, 1) := by decide +kernel
theorem d1_49 : decode method_3_code 49 = .ok (.bastore, 1) := by decide +kernel
theorem d1_50 : decode method_3_code 50 = .ok (.aload_n 0, 1) := by decide +kernel
theorem d1_51 : decode method_3_code 51 = .ok (.iload_n 1, 1) := by decide +kernel
theorem d1_52 : decode method_3_code 52 = .ok (.iconst 5, 1) := by decide +kernel
theorem d1_53 : decode method_3_code 53 = .ok (.iadd, 1) := by decide +kernel
theorem d1_54 : decode method_3_code 54 = .ok (.lload_n 2, 1) := by decide +kernel
theorem d1_55 : decode method_3_code 55 = .ok (.bipush 40, 2) := by decide +kernel
theorem d1_57 : decode method_3_code 57 = .ok (.lushr, 1) := by decide +kernel
theorem d1_58 : decode method_3_code 58 = .ok (.l2i, 1) := by decide +kernel
theorem d1_59 : decode method_3_code 59 = .ok (.i2b, 1) := by decide +kernel
theorem d1_60 : decode method_3_code 60 = .ok (.bastore, 1) := by decide +kernel
theorem d1_61 : decode method_3_code 61 = .ok (.aload_n 0, 1) := by decide +kernel
theorem d1_62 : decode method_3_code 62 = .ok (.iload_n 1, 1) := by decide +kernel
theorem d1_63 : decode method_3_code 63 = .ok (.bipush 6, 2) := by decide +kernel
theorem d1_65 : decode method_3_code 65 = .ok (.iadd, 1) := by decide +kernel
theorem d1_66 : decode method_3_code 66 = .ok (.lload_n 2, 1) := by decide +kernel
theorem d1_67 : decode method_3_code 67 = .ok (.bipush 48, 2) := by decide +kernel
theorem d1_69 : decode method_3_code 69 = .ok (.lushr, 1) := by decide +kernel
theorem d1_70 : decode method_3_code 70 = .ok (.l2i, 1) := by decide +kernel
theorem d1_71 : decode method_3_code 71 = .ok (.i2b, 1) := by decide +kernel
theorem d1_72 : decode method_3_code 72 = .ok (.bastore, 1) := by decide +kernel
theorem d1_73 : decode method_3_code 73 = .ok (.aload_n 0, 1) := by decide +kernel
theorem d1_74 : decode method_3_code 74 = .ok (.iload_n 1, 1) := by decide +kernel
theorem d1_75 : decode method_3_code 75 = .ok (.bipush 7, 2) := by decide +kernel
theorem d1_77 : decode method_3_code 77 = .ok (.iadd, 1) := by decide +kernel
theorem d1_78 : decode method_3_code 78 = .ok (.lload_n 2, 1) := by decide +kernel
theorem d1_79 : decode method_3_code 79 = .ok (.bipush 56, 2) := by decide +kernel
theorem d1_81 : decode method_3_code 81 = .ok (.lushr, 1) := by decide +kernel
theorem d1_82 : decode method_3_code 82 = .ok (.l2i, 1) := by decide +kernel
theorem d1_83 : decode method_3_code 83 = .ok (.i2b, 1) := by decide +kernel
theorem d1_84 : decode method_3_code 84 = .ok (.bastore, 1) := by decide +kernel
theorem d1_85 : decode method_3_code 85 = .ok (.return_, 1) := by decide +kernel
theorem d2_0 : decode prog_3_method_1_code 0 = .ok (.aload_n 0, 1) := by decide +kernel
theorem d2_1 : decode prog_3_method_1_code 1 = .ok (.invokespecial 1, 3) := by decide +kernel
theorem d2_4 : decode prog_3_method_1_code 4 = .ok (.aload_n 0, 1) := by decide +kernel
theorem d2_5 : decode prog_3_method_1_code 5 = .ok (.bipush 16, 2) := by decide +kernel
theorem d2_7 : decode prog_3_method_1_code 7 = .ok (.newarray .byte, 2) := by decide +kernel
theorem d2_9 : decode prog_3_method_1_code 9 = .ok (.putfield 7, 3) := by decide +kernel
theorem d2_12 : decode prog_3_method_1_code 12 = .ok (.return_, 1) := by decide +kernel
theorem d4_0 : decode prog_3_method_15_code 0 = .ok (.aload_n 0, 1) := by decide +kernel
theorem d4_1 : decode prog_3_method_15_code 1 = .ok (.getfield 7, 3) := by decide +kernel
theorem d4_4 : decode prog_3_method_15_code 4 = .ok (.aload_n 0, 1) := by decide +kernel
theorem d4_5 : decode prog_3_method_15_code 5 = .ok (.getfield 59, 3) := by decide +kernel
theorem d4_8 : decode prog_3_method_15_code 8 = .ok (.invokestatic 104, 3) := by decide +kernel
theorem d4_11 : decode prog_3_method_15_code 11 = .ok (.areturn, 1) := by decide +kernel
theorem d5_0 : decode jdk_65_method_121_code 0 = .ok (.iload_n 1, 1) := by decide +kernel
theorem d5_1 : decode jdk_65_method_121_code 1 = .ok (.aload_n 0, 1) := by decide +kernel
theorem d5_2 : decode jdk_65_method_121_code 2 = .ok (.arraylength, 1) := by decide +kernel
theorem d5_3 : decode jdk_65_method_121_code 3 = .ok (.if_icmp .ne 11, 3) := by decide +kernel
theorem d5_6 : decode jdk_65_method_121_code 6 = .ok (.aload_n 0, 1) := by decide +kernel
theorem d5_7 : decode jdk_65_method_121_code 7 = .ok (.invokevirtual 310, 3) := by decide +kernel
theorem d5_10 : decode jdk_65_method_121_code 10 = .ok (.checkcast 311, 3) := by decide +kernel
theorem d5_13 : decode jdk_65_method_121_code 13 = .ok (.areturn, 1) := by decide +kernel
theorem d5_14 : decode jdk_65_method_121_code 14 = .ok (.iload_n 1, 1) := by decide +kernel
theorem d5_15 : decode jdk_65_method_121_code 15 = .ok (.newarray .byte, 2) := by decide +kernel
theorem d5_17 : decode jdk_65_method_121_code 17 = .ok (.astore_n 2, 1) := by decide +kernel
theorem d5_18 : decode jdk_65_method_121_code 18 = .ok (.aload_n 0, 1) := by decide +kernel
theorem d5_19 : decode jdk_65_method_121_code 19 = .ok (.iconst 0, 1) := by decide +kernel
theorem d5_20 : decode jdk_65_method_121_code 20 = .ok (.aload_n 2, 1) := by decide +kernel
theorem d5_21 : decode jdk_65_method_121_code 21 = .ok (.iconst 0, 1) := by decide +kernel
theorem d5_22 : decode jdk_65_method_121_code 22 = .ok (.aload_n 0, 1) := by decide +kernel
theorem d5_23 : decode jdk_65_method_121_code 23 = .ok (.arraylength, 1) := by decide +kernel
theorem d5_24 : decode jdk_65_method_121_code 24 = .ok (.iload_n 1, 1) := by decide +kernel
theorem d5_25 : decode jdk_65_method_121_code 25 = .ok (.invokestatic 304, 3) := by decide +kernel
theorem d5_28 : decode jdk_65_method_121_code 28 = .ok (.invokestatic 150, 3) := by decide +kernel
theorem d5_31 : decode jdk_65_method_121_code 31 = .ok (.aload_n 2, 1) := by decide +kernel
theorem d5_32 : decode jdk_65_method_121_code 32 = .ok (.areturn, 1) := by decide +kernel
theorem d6_0 : decode jdk_29_method_69_code 0 = .ok (.iload_n 0, 1) := by decide +kernel
theorem d6_1 : decode jdk_29_method_69_code 1 = .ok (.iload_n 1, 1) := by decide +kernel
theorem d6_2 : decode jdk_29_method_69_code 2 = .ok (.if_icmp .gt 7, 3) := by decide +kernel
theorem d6_5 : decode jdk_29_method_69_code 5 = .ok (.iload_n 0, 1) := by decide +kernel
theorem d6_6 : decode jdk_29_method_69_code 6 = .ok (.goto 4, 3) := by decide +kernel
theorem d6_9 : decode jdk_29_method_69_code 9 = .ok (.iload_n 1, 1) := by decide +kernel
theorem d6_10 : decode jdk_29_method_69_code 10 = .ok (.ireturn, 1) := by decide +kernel
theorem d7_0 : decode prog_3_method_14_code 0 = .ok (.aload_n 0, 1) := by decide +kernel
theorem d7_1 : decode prog_3_method_14_code 1 = .ok (.getfield 59, 3) := by decide +kernel
theorem d7_4 : decode prog_3_method_14_code 4 = .ok (.ireturn, 1) := by decide +kernel
theorem d8_0 : decode prog_3_method_13_code 0 = .ok (.aload_n 0, 1) := by decide +kernel
theorem d8_1 : decode prog_3_method_13_code 1 = .ok (.aload_n 1, 1) := by decide +kernel
theorem d8_2 : decode prog_3_method_13_code 2 = .ok (.arraylength, 1) := by decide +kernel
theorem d8_3 : decode prog_3_method_13_code 3 = .ok (.invokevirtual 56, 3) := by decide +kernel
theorem d8_6 : decode prog_3_method_13_code 6 = .ok (.aload_n 1, 1) := by decide +kernel
theorem d8_7 : decode prog_3_method_13_code 7 = .ok (.iconst 0, 1) := by decide +kernel
theorem d8_8 : decode prog_3_method_13_code 8 = .ok (.aload_n 0, 1) := by decide +kernel
theorem d8_9 : decode prog_3_method_13_code 9 = .ok (.getfield 7, 3) := by decide +kernel
theorem d8_12 : decode prog_3_method_13_code 12 = .ok (.aload_n 0, 1) := by decide +kernel
theorem d8_13 : decode prog_3_method_13_code 13 = .ok (.getfield 59, 3) := by decide +kernel
theorem d8_16 : decode prog_3_method_13_code 16 = .ok (.aload_n 1, 1) := by decide +kernel
theorem d8_17 : decode prog_3_method_13_code 17 = .ok (.arraylength, 1) := by decide +kernel
theorem d8_18 : decode prog_3_method_13_code 18 = .ok (.invokestatic 98, 3) := by decide +kernel
theorem d8_21 : decode prog_3_method_13_code 21 = .ok (.aload_n 0, 1) := by decide +kernel
theorem d8_22 : decode prog_3_method_13_code 22 = .ok (.dup, 1) := by decide +kernel
theorem d8_23 : decode prog_3_method_13_code 23 = .ok (.getfield 59, 3) := by decide +kernel
theorem d8_26 : decode prog_3_method_13_code 26 = .ok (.aload_n 1, 1) := by decide +kernel
theorem d8_27 : decode prog_3_method_13_code 27 = .ok (.arraylength, 1) := by decide +kernel
theorem d8_28 : decode prog_3_method_13_code 28 = .ok (.iadd, 1) := by decide +kernel
theorem d8_29 : decode prog_3_method_13_code 29 = .ok (.putfield 59, 3) := by decide +kernel
theorem d8_32 : decode prog_3_method_13_code 32 = .ok (.return_, 1) := by decide +kernel
theorem d9_0 : decode prog_3_method_19_code 0 = .ok (.aload_n 0, 1) := by decide +kernel
theorem d9_1 : decode prog_3_method_19_code 1 = .ok (.getfield 7, 3) := by decide +kernel
theorem d9_4 : decode prog_3_method_19_code 4 = .ok (.arraylength, 1) := by decide +kernel
theorem d9_5 : decode prog_3_method_19_code 5 = .ok (.aload_n 0, 1) := by decide +kernel
theorem d9_6 : decode prog_3_method_19_code 6 = .ok (.getfield 59, 3) := by decide +kernel
theorem d9_9 : decode prog_3_method_19_code 9 = .ok (.isub, 1) := by decide +kernel
theorem d9_10 : decode prog_3_method_19_code 10 = .ok (.iload_n 1, 1) := by decide +kernel
theorem d9_11 : decode prog_3_method_19_code 11 = .ok (.if_icmp .lt 4, 3) := by decide +kernel
theorem d9_14 : decode prog_3_method_19_code 14 = .ok (.return_, 1) := by decide +kernel
theorem d9_15 : decode prog_3_method_19_code 15 = .ok (.aload_n 0, 1) := by decide +kernel
theorem d9_16 : decode prog_3_method_19_code 16 = .ok (.getfield 59, 3) := by decide +kernel
theorem d9_19 : decode prog_3_method_19_code 19 = .ok (.i2l, 1) := by decide +kernel
theorem d9_20 : decode prog_3_method_19_code 20 = .ok (.iload_n 1, 1) := by decide +kernel
theorem d9_21 : decode prog_3_method_19_code 21 = .ok (.i2l, 1) := by decide +kernel
theorem d9_22 : decode prog_3_method_19_code 22 = .ok (.ladd, 1) := by decide +kernel
theorem d9_23 : decode prog_3_method_19_code 23 = .ok (.lstore_n 2, 1) := by decide +kernel
theorem d9_24 : decode prog_3_method_19_code 24 = .ok (.lload_n 2, 1) := by decide +kernel
theorem d9_25 : decode prog_3_method_19_code 25 = .ok (.ldc2_w 117, 3) := by decide +kernel
theorem d9_28 : decode prog_3_method_19_code 28 = .ok (.lcmp, 1) := by decide +kernel
theorem d9_29 : decode prog_3_method_19_code 29 = .ok (.ifCond .le 20, 3) := by decide +kernel
theorem d9_49 : decode prog_3_method_19_code 49 = .ok (.lload_n 2, 1) := by decide +kernel
theorem d9_50 : decode prog_3_method_19_code 50 = .ok (.ldc2_w 125, 3) := by decide +kernel
theorem d9_53 : decode prog_3_method_19_code 53 = .ok (.aload_n 0, 1) := by decide +kernel
theorem d9_54 : decode prog_3_method_19_code 54 = .ok (.getfield 7, 3) := by decide +kernel
theorem d9_57 : decode prog_3_method_19_code 57 = .ok (.arraylength, 1) := by decide +kernel
theorem d9_58 : decode prog_3_method_19_code 58 = .ok (.i2l, 1) := by decide +kernel
theorem d9_59 : decode prog_3_method_19_code 59 = .ok (.lmul, 1) := by decide +kernel
theorem d9_60 : decode prog_3_method_19_code 60 = .ok (.invokestatic 127, 3) := by decide +kernel
theorem d9_63 : decode prog_3_method_19_code 63 = .ok (.ldc2_w 117, 3) := by decide +kernel
theorem d9_66 : decode prog_3_method_19_code 66 = .ok (.invokestatic 133, 3) := by decide +kernel
theorem d9_69 : decode prog_3_method_19_code 69 = .ok (.lstore 4, 2) := by decide +kernel
theorem d9_71 : decode prog_3_method_19_code 71 = .ok (.aload_n 0, 1) := by decide +kernel
theorem d9_72 : decode prog_3_method_19_code 72 = .ok (.aload_n 0, 1) := by decide +kernel
theorem d9_73 : decode prog_3_method_19_code 73 = .ok (.getfield 7, 3) := by decide +kernel
theorem d9_76 : decode prog_3_method_19_code 76 = .ok (.lload 4, 2) := by decide +kernel
theorem d9_78 : decode prog_3_method_19_code 78 = .ok (.l2i, 1) := by decide +kernel
theorem d9_79 : decode prog_3_method_19_code 79 = .ok (.invokestatic 104, 3) := by decide +kernel
theorem d9_82 : decode prog_3_method_19_code 82 = .ok (.putfield 7, 3) := by decide +kernel
theorem d9_85 : decode prog_3_method_19_code 85 = .ok (.return_, 1) := by decide +kernel
theorem d10_0 : decode method_2_code 0 = .ok (.lconst 0, 1) := by decide +kernel
theorem d10_1 : decode method_2_code 1 = .ok (.lstore_n 2, 1) := by decide +kernel
theorem d10_2 : decode method_2_code 2 = .ok (.lload_n 2, 1) := by decide +kernel
theorem d10_3 : decode method_2_code 3 = .ok (.aload_n 0, 1) := by decide +kernel
theorem d10_4 : decode method_2_code 4 = .ok (.iload_n 1, 1) := by decide +kernel
theorem d10_5 : decode method_2_code 5 = .ok (.baload, 1) := by decide +kernel
theorem d10_6 : decode method_2_code 6 = .ok (.i2l, 1) := by decide +kernel
theorem d10_7 : decode method_2_code 7 = .ok (.ldc2_w 7, 3) := by decide +kernel
theorem d10_10 : decode method_2_code 10 = .ok (.land, 1) := by decide +kernel
theorem d10_11 : decode method_2_code 11 = .ok (.lor, 1) := by decide +kernel
theorem d10_12 : decode method_2_code 12 = .ok (.lstore_n 2, 1) := by decide +kernel
theorem d10_13 : decode method_2_code 13 = .ok (.lload_n 2, 1) := by decide +kernel
theorem d10_14 : decode method_2_code 14 = .ok (.aload_n 0, 1) := by decide +kernel
theorem d10_15 : decode method_2_code 15 = .ok (.iload_n 1, 1) := by decide +kernel
theorem d10_16 : decode method_2_code 16 = .ok (.iconst 1, 1) := by decide +kernel
theorem d10_17 : decode method_2_code 17 = .ok (.iadd, 1) := by decide +kernel
theorem d10_18 : decode method_2_code 18 = .ok (.baload, 1) := by decide +kernel
theorem d10_19 : decode method_2_code 19 = .ok (.i2l, 1) := by decide +kernel
theorem d10_20 : decode method_2_code 20 = .ok (.ldc2_w 7, 3) := by decide +kernel
theorem d10_23 : decode method_2_code 23 = .ok (.land, 1) := by decide +kernel
theorem d10_24 : decode method_2_code 24 = .ok (.bipush 8, 2) := by decide +kernel
theorem d10_26 : decode method_2_code 26 = .ok (.lshl, 1) := by decide +kernel
theorem d10_27 : decode method_2_code 27 = .ok (.lor, 1) := by decide +kernel
theorem d10_28 : decode method_2_code 28 = .ok (.lstore_n 2, 1) := by decide +kernel
theorem d10_29 : decode method_2_code 29 = .ok (.lload_n 2, 1) := by decide +kernel
theorem d10_30 : decode method_2_code 30 = .ok (.aload_n 0, 1) := by decide +kernel
theorem d10_31 : decode method_2_code 31 = .ok (.iload_n 1, 1) := by decide +kernel
theorem d10_32 : decode method_2_code 32 = .ok (.iconst 2, 1) := by decide +kernel
theorem d10_33 : decode method_2_code 33 = .ok (.iadd, 1) := by decide +kernel
theorem d10_34 : decode method_2_code 34 = .ok (.baload, 1) := by decide +kernel
theorem d10_35 : decode method_2_code 35 = .ok (.i2l, 1) := by decide +kernel
theorem d10_36 : decode method_2_code 36 = .ok (.ldc2_w 7, 3) := by decide +kernel
theorem d10_39 : decode method_2_code 39 = .ok (.land, 1) := by decide +kernel
theorem d10_40 : decode method_2_code 40 = .ok (.bipush 16, 2) := by decide +kernel
theorem d10_42 : decode method_2_code 42 = .ok (.lshl, 1) := by decide +kernel
theorem d10_43 : decode method_2_code 43 = .ok (.lor, 1) := by decide +kernel
theorem d10_44 : decode method_2_code 44 = .ok (.lstore_n 2, 1) := by decide +kernel
theorem d10_45 : decode method_2_code 45 = .ok (.lload_n 2, 1) := by decide +kernel
theorem d10_46 : decode method_2_code 46 = .ok (.aload_n 0, 1) := by decide +kernel
theorem d10_47 : decode method_2_code 47 = .ok (.iload_n 1, 1) := by decide +kernel
theorem d10_48 : decode method_2_code 48 = .ok (.iconst 3, 1) := by decide +kernel
theorem d10_49 : decode method_2_code 49 = .ok (.iadd, 1) := by decide +kernel
theorem d10_50 : decode method_2_code 50 = .ok (.baload, 1) := by decide +kernel
theorem d10_51 : decode method_2_code 51 = .ok (.i2l, 1) := by decide +kernel
theorem d10_52 : decode method_2_code 52 = .ok (.ldc2_w 7, 3) := by decide +kernel
theorem d10_55 : decode method_2_code 55 = .ok (.land, 1) := by decide +kernel
theorem d10_56 : decode method_2_code 56 = .ok (.bipush 24, 2) := by decide +kernel
theorem d10_58 : decode method_2_code 58 = .ok (.lshl, 1) := by decide +kernel
theorem d10_59 : decode method_2_code 59 = .ok (.lor, 1) := by decide +kernel
theorem d10_60 : decode method_2_code 60 = .ok (.lstore_n 2, 1) := by decide +kernel
theorem d10_61 : decode method_2_code 61 = .ok (.lload_n 2, 1) := by decide +kernel
theorem d10_62 : decode method_2_code 62 = .ok (.aload_n 0, 1) := by decide +kernel
theorem d10_63 : decode method_2_code 63 = .ok (.iload_n 1, 1) := by decide +kernel
theorem d10_64 : decode method_2_code 64 = .ok (.iconst 4, 1) := by decide +kernel
theorem d10_65 : decode method_2_code 65 = .ok (.iadd, 1) := by decide +kernel
theorem d10_66 : decode method_2_code 66 = .ok (.baload, 1) := by decide +kernel
theorem d10_67 : decode method_2_code 67 = .ok (.i2l, 1) := by decide +kernel
theorem d10_68 : decode method_2_code 68 = .ok (.ldc2_w 7, 3) := by decide +kernel
theorem d10_71 : decode method_2_code 71 = .ok (.land, 1) := by decide +kernel
theorem d10_72 : decode method_2_code 72 = .ok (.bipush 32, 2) := by decide +kernel
theorem d10_74 : decode method_2_code 74 = .ok (.lshl, 1) := by decide +kernel
theorem d10_75 : decode method_2_code 75 = .ok (.lor, 1) := by decide +kernel
theorem d10_76 : decode method_2_code 76 = .ok (.lstore_n 2, 1) := by decide +kernel
theorem d10_77 : decode method_2_code 77 = .ok (.lload_n 2, 1) := by decide +kernel
theorem d10_78 : decode method_2_code 78 = .ok (.aload_n 0, 1) := by decide +kernel
theorem d10_79 : decode method_2_code 79 = .ok (.iload_n 1, 1) := by decide +kernel
theorem d10_80 : decode method_2_code 80 = .ok (.iconst 5, 1) := by decide +kernel
theorem d10_81 : decode method_2_code 81 = .ok (.iadd, 1) := by decide +kernel
theorem d10_82 : decode method_2_code 82 = .ok (.baload, 1) := by decide +kernel
theorem d10_83 : decode method_2_code 83 = .ok (.i2l, 1) := by decide +kernel
theorem d10_84 : decode method_2_code 84 = .ok (.ldc2_w 7, 3) := by decide +kernel
theorem d10_87 : decode method_2_code 87 = .ok (.land, 1) := by decide +kernel
theorem d10_88 : decode method_2_code 88 = .ok (.bipush 40, 2) := by decide +kernel
theorem d10_90 : decode method_2_code 90 = .ok (.lshl, 1) := by decide +kernel
theorem d10_91 : decode method_2_code 91 = .ok (.lor, 1) := by decide +kernel
theorem d10_92 : decode method_2_code 92 = .ok (.lstore_n 2, 1) := by decide +kernel
theorem d10_93 : decode method_2_code 93 = .ok (.lload_n 2, 1) := by decide +kernel
theorem d10_94 : decode method_2_code 94 = .ok (.aload_n 0, 1) := by decide +kernel
theorem d10_95 : decode method_2_code 95 = .ok (.iload_n 1, 1) := by decide +kernel
theorem d10_96 : decode method_2_code 96 = .ok (.bipush 6, 2) := by decide +kernel
theorem d10_98 : decode method_2_code 98 = .ok (.iadd, 1) := by decide +kernel
theorem d10_99 : decode method_2_code 99 = .ok (.baload, 1) := by decide +kernel
theorem d10_100 : decode method_2_code 100 = .ok (.i2l, 1) := by decide +kernel
theorem d10_101 : decode method_2_code 101 = .ok (.ldc2_w 7, 3) := by decide +kernel
theorem d10_104 : decode method_2_code 104 = .ok (.land, 1) := by decide +kernel
theorem d10_105 : decode method_2_code 105 = .ok (.bipush 48, 2) := by decide +kernel
theorem d10_107 : decode method_2_code 107 = .ok (.lshl, 1) := by decide +kernel
theorem d10_108 : decode method_2_code 108 = .ok (.lor, 1) := by decide +kernel
theorem d10_109 : decode method_2_code 109 = .ok (.lstore_n 2, 1) := by decide +kernel
theorem d10_110 : decode method_2_code 110 = .ok (.lload_n 2, 1) := by decide +kernel
theorem d10_111 : decode method_2_code 111 = .ok (.aload_n 0, 1) := by decide +kernel
theorem d10_112 : decode method_2_code 112 = .ok (.iload_n 1, 1) := by decide +kernel
theorem d10_113 : decode method_2_code 113 = .ok (.bipush 7, 2) := by decide +kernel
theorem d10_115 : decode method_2_code 115 = .ok (.iadd, 1) := by decide +kernel
theorem d10_116 : decode method_2_code 116 = .ok (.baload, 1) := by decide +kernel
theorem d10_117 : decode method_2_code 117 = .ok (.i2l, 1) := by decide +kernel
theorem d10_118 : decode method_2_code 118 = .ok (.ldc2_w 7, 3) := by decide +kernel
theorem d10_121 : decode method_2_code 121 = .ok (.land, 1) := by decide +kernel
theorem d10_122 : decode method_2_code 122 = .ok (.bipush 56, 2) := by decide +kernel
theorem d10_124 : decode method_2_code 124 = .ok (.lshl, 1) := by decide +kernel
theorem d10_125 : decode method_2_code 125 = .ok (.lor, 1) := by decide +kernel
theorem d10_126 : decode method_2_code 126 = .ok (.lstore_n 2, 1) := by decide +kernel
theorem d10_127 : decode method_2_code 127 = .ok (.lload_n 2, 1) := by decide +kernel
theorem d10_128 : decode method_2_code 128 = .ok (.lreturn, 1) := by decide +kernel
theorem d11_0 : decode prog_3_method_12_code 0 = .ok (.aload_n 0, 1) := by decide +kernel
theorem d11_1 : decode prog_3_method_12_code 1 = .ok (.iconst 1, 1) := by decide +kernel
theorem d11_2 : decode prog_3_method_12_code 2 = .ok (.invokevirtual 56, 3) := by decide +kernel
theorem d11_5 : decode prog_3_method_12_code 5 = .ok (.aload_n 0, 1) := by decide +kernel
theorem d11_6 : decode prog_3_method_12_code 6 = .ok (.getfield 7, 3) := by decide +kernel
theorem d11_9 : decode prog_3_method_12_code 9 = .ok (.aload_n 0, 1) := by decide +kernel
theorem d11_10 : decode prog_3_method_12_code 10 = .ok (.dup, 1) := by decide +kernel
theorem d11_11 : decode prog_3_method_12_code 11 = .ok (.getfield 59, 3) := by decide +kernel
theorem d11_14 : decode prog_3_method_12_code 14 = .ok (.dup_x1, 1) := by decide +kernel
theorem d11_15 : decode prog_3_method_12_code 15 = .ok (.iconst 1, 1) := by decide +kernel
theorem d11_16 : decode prog_3_method_12_code 16 = .ok (.iadd, 1) := by decide +kernel
theorem d11_17 : decode prog_3_method_12_code 17 = .ok (.putfield 59, 3) := by decide +kernel
theorem d11_20 : decode prog_3_method_12_code 20 = .ok (.iload_n 1, 1) := by decide +kernel
theorem d11_21 : decode prog_3_method_12_code 21 = .ok (.i2b, 1) := by decide +kernel
theorem d11_22 : decode prog_3_method_12_code 22 = .ok (.bastore, 1) := by decide +kernel
theorem d11_23 : decode prog_3_method_12_code 23 = .ok (.return_, 1) := by decide +kernel
theorem d12_0 : decode jdk_29_method_66_code 0 = .ok (.lload_n 0, 1) := by decide +kernel
theorem d12_1 : decode jdk_29_method_66_code 1 = .ok (.lload_n 2, 1) := by decide +kernel
theorem d12_2 : decode jdk_29_method_66_code 2 = .ok (.lcmp, 1) := by decide +kernel
theorem d12_3 : decode jdk_29_method_66_code 3 = .ok (.ifCond .lt 7, 3) := by decide +kernel
theorem d12_6 : decode jdk_29_method_66_code 6 = .ok (.lload_n 0, 1) := by decide +kernel
theorem d12_7 : decode jdk_29_method_66_code 7 = .ok (.goto 4, 3) := by decide +kernel
theorem d12_10 : decode jdk_29_method_66_code 10 = .ok (.lload_n 2, 1) := by decide +kernel
theorem d12_11 : decode jdk_29_method_66_code 11 = .ok (.lreturn, 1) := by decide +kernel
theorem d13_0 : decode jdk_29_method_70_code 0 = .ok (.lload_n 0, 1) := by decide +kernel
theorem d13_1 : decode jdk_29_method_70_code 1 = .ok (.lload_n 2, 1) := by decide +kernel
theorem d13_2 : decode jdk_29_method_70_code 2 = .ok (.lcmp, 1) := by decide +kernel
theorem d13_3 : decode jdk_29_method_70_code 3 = .ok (.ifCond .gt 7, 3) := by decide +kernel
theorem d13_6 : decode jdk_29_method_70_code 6 = .ok (.lload_n 0, 1) := by decide +kernel
theorem d13_7 : decode jdk_29_method_70_code 7 = .ok (.goto 4, 3) := by decide +kernel
theorem d13_10 : decode jdk_29_method_70_code 10 = .ok (.lload_n 2, 1) := by decide +kernel
theorem d13_11 : decode jdk_29_method_70_code 11 = .ok (.lreturn, 1) := by decide +kernel
theorem pn_0 : plainName "com/example/bitfold/bitfold/ByteArrayWriterToByteArrayPinLaw" = true := by first | (simp [plainName, overriddenIn]; done) | decide +kernel
theorem pn_1 : plainName "com/example/bitfold/bitfold/ByteArrayWriterToByteArrayPinLaw" = true := by first | (simp [plainName, overriddenIn]; done) | decide +kernel
theorem pn_2 : plainName "com/example/bitfold/bitfold/ByteArrayWriter" = true := by first | (simp [plainName, overriddenIn]; done) | decide +kernel
theorem pn_4 : plainName "com/example/bitfold/bitfold/ByteArrayWriter" = true := by first | (simp [plainName, overriddenIn]; done) | decide +kernel
theorem pn_5 : plainName "java/util/Arrays" = true := by first | (simp [plainName, overriddenIn]; done) | decide +kernel
theorem pn_7 : plainName "com/example/bitfold/bitfold/ByteArrayWriter" = true := by first | (simp [plainName, overriddenIn]; done) | decide +kernel
theorem pn_8 : plainName "com/example/bitfold/bitfold/ByteArrayWriter" = true := by first | (simp [plainName, overriddenIn]; done) | decide +kernel
theorem pn_9 : plainName "com/example/bitfold/bitfold/ByteArrayWriter" = true := by first | (simp [plainName, overriddenIn]; done) | decide +kernel
theorem pn_10 : plainName "com/example/bitfold/bitfold/ByteArrayWriterToByteArrayPinLaw" = true := by first | (simp [plainName, overriddenIn]; done) | decide +kernel
theorem pn_11 : plainName "com/example/bitfold/bitfold/ByteArrayWriter" = true := by first | (simp [plainName, overriddenIn]; done) | decide +kernel
theorem pd_0 : parseMethodDescriptor "(II)I" = some ⟨[.int, .int], some .int⟩ := by decide +kernel
theorem pd_1 : parseMethodDescriptor "([BI)[B" = some ⟨[(.array .byte), .int], some (.array .byte)⟩ := by decide +kernel
theorem pd_2 : parseMethodDescriptor "(JJ)J" = some ⟨[.long, .long], some .long⟩ := by decide +kernel
theorem pd_3 : parseMethodDescriptor "(I)V" = some ⟨[.int], none⟩ := by decide +kernel
theorem pd_4 : parseMethodDescriptor "([BIJ)V" = some ⟨[(.array .byte), .int, .long], none⟩ := by decide +kernel
theorem pd_5 : parseMethodDescriptor "()V" = some ⟨[], none⟩ := by decide +kernel
theorem pd_6 : parseMethodDescriptor "()[B" = some ⟨[], some (.array .byte)⟩ := by decide +kernel
theorem pd_7 : parseMethodDescriptor "()I" = some ⟨[], some .int⟩ := by decide +kernel
theorem pd_8 : parseMethodDescriptor "([B)V" = some ⟨[(.array .byte)], none⟩ := by decide +kernel
theorem pd_9 : parseMethodDescriptor "([BI)J" = some ⟨[(.array .byte), .int], some .long⟩ := by decide +kernel
theorem ef_1 (m : MethodId) (a1 : Addr) (p2 : Int32) (q3 : Int64) : entryFrame m #[(.ref a1), (.int p2), (.long q3)] 4 = mkF m 0 #[.val (.ref a1), .val (.int p2), .val (.long q3), .second] [] := by first | (simp [entryFrame, mkF, argsToLocals, Value.category]; done) | rfl
def Q1_0 (Z : State) (a1 : Addr) (q3 : Int64) (k1 : ClassId) (x0 x1 x2 x3 x4 x5 x6 x7 x8 x9 x10 x11 x12 x13 x14 x15 : Int32) (h0 : Heap) (n0 : Nat) (v : Option Value) (h : Heap) (L : List Loc) : Prop := v = none ∧ Fr n0 L ∧ Keep h0 h [a1] ∧ Arv Z h a1 k1 .byte (16 : Int32) [(.int (q3.toInt32.toInt8.toInt32)), (.int (own_b q3 (8 : Int32))), (.int (own_b q3 (16 : Int32))), (.int (own_b q3 (24 : Int32))), (.int (own_b q3 (32 : Int32))), (.int (own_b q3 (40 : Int32))), (.int (own_b q3 (48 : Int32))), (.int (own_b q3 (56 : Int32))), (.int x8), (.int x9), (.int x10), (.int x11), (.int x12), (.int x13), (.int x14), (.int x15)] (.int (0 : Int32))
set_option maxRecDepth 65536 in
set_option maxHeartbeats 40000000 in
theorem rm1_0 (l : Launch) (Z : State) (a0 : Array Value) (hw : ∀ d ∈ tables_1, d.before a0 Z = true) (ws : List Jvm.Cond) (a1 : Addr) (q3 : Int64) (k1 : ClassId) (x0 x1 x2 x3 x4 x5 x6 x7 x8 x9 x10 x11 x12 x13 x14 x15 : Int32) (h0 : Heap) (n0 : Nat) (Z0 : n0 ≤ h0.size) (V_a1 : Arv Z h0 a1 k1 .byte (16 : Int32) [(.int x0), (.int x1), (.int x2), (.int x3), (.int x4), (.int x5), (.int x6), (.int x7), (.int x8), (.int x9), (.int x10), (.int x11), (.int x12), (.int x13), (.int x14), (.int x15)] (.int (0 : Int32))) (g_a1 : n0 ≤ a1) :
    MetFree l (⟨"com/example/bitfold/bitfold/ByteArrayWriterToByteArrayPinLaw", "put8", "([BIJ)V"⟩ : MethodName) (head1 (Jvm.Cond.code (⟨"com/example/bitfold/bitfold/ByteArrayWriterToByteArrayPinLaw", "put8", "([BIJ)V"⟩ : MethodName) method_3_code 4 none :: ws) ({ frames := 0, cells := 0, slots := 0, locals := 0 } : Room)) (fun a U => a = #[(.ref a1), (.int (0 : Int32)), (.long q3)] ∧ Z.Warmed39 U.vm ∧ U.heap = h0) (fun _ _ _ _ _ => True) (fun _ U o U' => ∃ v L, o = .returned v ∧ Q1_0 Z a1 q3 k1 x0 x1 x2 x3 x4 x5 x6 x7 x8 x9 x10 x11 x12 x13 x14 x15 h0 n0 v U'.heap L ∧ FrameEnd U o U' L ({ frames := 0, cells := 0, slots := 0, locals := 0 } : Room).cells ({ frames := 0, cells := 0, slots := 0, locals := 0 } : Room).slots) := by
  refine MetFree.of_bodySF (plainFor_of_name pn_1) hisR ?_
  intro p e s m args below meth c s₁ Bd hml0 hP hK
  obtain ⟨rfl, hZ, hh⟩ := hP
  have hx := Bd.exec
  have hby := Bd.bytes
  have hml : c.maxLocals = 4 := hml0
  have hown : s.vm.findClass "com/example/bitfold/bitfold/ByteArrayWriterToByteArrayPinLaw" = some m.cls := findClass_of_methodNamed Bd.named
  have hnm := (name_of_methodNamed Bd.named Bd.method).1
  have hlk := Bd.notSynchronized
  have hret := Bd.returns
  have X0 : Stand p l e ({ frames := 0, cells := 0, slots := 0, locals := 0 } : Room) s m #[(.ref a1), (.int (0 : Int32)), (.long q3)] below meth c s₁ [] 0 0 := Stand.of_body Bd
  have e0 : s₁.heap = h0 := by rw [← hh, Bd.state]; rfl
  have N0 := Fr.nil n0
  show own_G p e below (s₁.setTop (entryFrame m #[(.ref a1), (.int (0 : Int32)), (.long q3)] 4)) (fun s₂ o => ∃ v L, o = .returned v ∧ Q1_0 Z a1 q3 k1 x0 x1 x2 x3 x4 x5 x6 x7 x8 x9 x10 x11 x12 x13 x14 x15 h0 n0 v s₂.heap L ∧ FrameEnd s o s₂ L ({ frames := 0, cells := 0, slots := 0, locals := 0 } : Room).cells ({ frames := 0, cells := 0, slots := 0, locals := 0 } : Room).slots)
  refine own_go (fun t k => castTop (ef_1 m a1 (0 : Int32) q3) k) ?_
  show own_G p e below (s₁.setTop (mkF m 0 #[.val (.ref a1), .val (.int (0 : Int32)), .val (.long q3), .second] [])) _
  refine own_go (fun _ k => XS.aloadN X0.here hx rfl (hb hby d1_0) rfl rfl k) ?_
  show own_G p e below (s₁.setTop (mkF m 1 #[.val (.ref a1), .val (.int (0 : Int32)), .val (.long q3), .second] [(.ref a1)])) _
  refine own_go (fun _ k => XS.iloadN X0.here hx rfl (hb hby d1_1) rfl k) ?_
  show own_G p e below (s₁.setTop (mkF m 2 #[.val (.ref a1), .val (.int (0 : Int32)), .val (.long q3), .second] [(.int (0 : Int32)), (.ref a1)])) _
  refine own_go (fun _ k => XS.lloadN X0.here hx rfl (hb hby d1_2) rfl k) ?_
  show own_G p e below (s₁.setTop (mkF m 3 #[.val (.ref a1), .val (.int (0 : Int32)), .val (.long q3), .second] [(.long q3), (.int (0 : Int32)), (.ref a1)])) _
  refine own_go (fun _ k => XS.l2i X0.here hx rfl (hb hby d1_3) rfl k) ?_
  show own_G p e below (s₁.setTop (mkF m 4 #[.val (.ref a1), .val (.int (0 : Int32)), .val (.long q3), .second] [(.int (q3.toInt32)), (.int (0 : Int32)), (.ref a1)])) _
  refine own_go (fun _ k => XS.i2b X0.here hx rfl (hb hby d1_4) rfl k) ?_
  show own_G p e below (s₁.setTop (mkF m 5 #[.val (.ref a1), .val (.int (0 : Int32)), .val (.long q3), .second] [(.int ((q3.toInt32).toInt8.toInt32)), (.int (0 : Int32)), (.ref a1)])) _
  obtain ⟨cl1, Ar1, q1, S1, M1, B1, G1⟩ := id V_a1
  have hin1 : ¬ ((0 : Int32) < 0 ∨ cl1.slots.size ≤ ((0 : Int32)).toNatClampNeg) := inb_of S1 ⟨by decide, by decide⟩
  obtain ⟨T1, h1, X1, e1, W1, st1⟩ := stB X0 hx hZ e0 Ar1 (j := (0 : Int32)) hin1 (g := (mkF m 5 #[.val (.ref a1), .val (.int (0 : Int32)), .val (.long q3), .second] [(.int ((q3.toInt32).toInt8.toInt32)), (.int (0 : Int32)), (.ref a1)])) rfl rfl (hb hby d1_5)
  refine own_go st1 ?_
  rw [show nar .byte ((q3.toInt32).toInt8.toInt32) = ((q3.toInt32).toInt8.toInt32) from (own_bb _)] at W1
  have zs2 : n0 ≤ h1.size := Nat.le_trans Z0 (Keep.of_wr W1).1
  have kp3 : Keep h0 h1 [a1] := (Keep.refl h0 [a1]).wr W1 (Or.inl (List.mem_of_getElem? (i := 0) rfl))
  have V1 : Arv Z h1 a1 k1 .byte (16 : Int32) [(.int ((q3.toInt32).toInt8.toInt32)), (.int x1), (.int x2), (.int x3), (.int x4), (.int x5), (.int x6), (.int x7), (.int x8), (.int x9), (.int x10), (.int x11), (.int x12), (.int x13), (.int x14), (.int x15)] (.int (0 : Int32)) := Arv.set Ar1 q1 S1 M1 B1 G1 (fits_nar_byte _) W1 0 rfl (Nat.le_of_ble_eq_true rfl)
  have N1 := Fr.snoc X1 N0 g_a1
  show own_G p e below (T1.setTop (mkF m 6 #[.val (.ref a1), .val (.int (0 : Int32)), .val (.long q3), .second] [])) _
  refine own_go (fun _ k => XS.aloadN X1.here hx rfl (hb hby d1_6) rfl rfl k) ?_
  show own_G p e below (T1.setTop (mkF m 7 #[.val (.ref a1), .val (.int (0 : Int32)), .val (.long q3), .second] [(.ref a1)])) _
  refine own_go (fun _ k => XS.iloadN X1.here hx rfl (hb hby d1_7) rfl k) ?_
  show own_G p e below (T1.setTop (mkF m 8 #[.val (.ref a1), .val (.int (0 : Int32)), .val (.long q3), .second] [(.int (0 : Int32)), (.ref a1)])) _
  refine own_go (fun _ k => XS.iconst X1.here hx rfl (hb hby d1_8) k) ?_
  show own_G p e below (T1.setTop (mkF m 9 #[.val (.ref a1), .val (.int (0 : Int32)), .val (.long q3), .second] [(.int (1 : Int32)), (.int (0 : Int32)), (.ref a1)])) _
  refine own_go (fun _ k => XS.iadd X1.here hx rfl (hb hby d1_9) rfl k) ?_
  show own_G p e below (T1.setTop (mkF m 10 #[.val (.ref a1), .val (.int (0 : Int32)), .val (.long q3), .second] [(.int (1 : Int32)), (.ref a1)])) _
  refine own_go (fun _ k => XS.lloadN X1.here hx rfl (hb hby d1_10) rfl k) ?_
  show own_G p e below (T1.setTop (mkF m 11 #[.val (.ref a1), .val (.int (0 : Int32)), .val (.long q3), .second] [(.long q3), (.int (1 : Int32)), (.ref a1)])) _
  refine own_go (fun _ k => XS.bipush X1.here hx rfl (hb hby d1_11) k) ?_
  show own_G p e below (T1.setTop (mkF m 13 #[.val (.ref a1), .val (.int (0 : Int32)), .val (.long q3), .second] [(.int (8 : Int32)), (.long q3), (.int (1 : Int32)), (.ref a1)])) _
  refine own_go (fun _ k => XT.lushr X1.here hx rfl (hb hby d1_13) rfl k) ?_
  show own_G p e below (T1.setTop (mkF m 14 #[.val (.ref a1), .val (.int (0 : Int32)), .val (.long q3), .second] [(.long (XT.ushrL q3 (8 : Int32))), (.int (1 : Int32)), (.ref a1)])) _
  refine own_go (fun _ k => XS.l2i X1.here hx rfl (hb hby d1_14) rfl k) ?_
  show own_G p e below (T1.setTop (mkF m 15 #[.val (.ref a1), .val (.int (0 : Int32)), .val (.long q3), .second] [(.int ((XT.ushrL q3 (8 : Int32)).toInt32)), (.int (1 : Int32)), (.ref a1)])) _
  refine own_go (fun _ k => XS.i2b X1.here hx rfl (hb hby d1_15) rfl k) ?_
  show own_G p e below (T1.setTop (mkF m 16 #[.val (.ref a1), .val (.int (0 : Int32)), .val (.long q3), .second] [(.int (((XT.ushrL q3 (8 : Int32)).toInt32).toInt8.toInt32)), (.int (1 : Int32)), (.ref a1)])) _
  obtain ⟨cl4, Ar4, q4, S4, M4, B4, G4⟩ := id V1
  have hin4 : ¬ ((1 : Int32) < 0 ∨ cl4.slots.size ≤ ((1 : Int32)).toNatClampNeg) := inb_of S4 ⟨by decide, by decide⟩
  obtain ⟨T4, h4, X4, e4, W4, st4⟩ := stB X1 hx hZ e1 Ar4 (j := (1 : Int32)) hin4 (g := (mkF m 16 #[.val (.ref a1), .val (.int (0 : Int32)), .val (.long q3), .second] [(.int (((XT.ushrL q3 (8 : Int32)).toInt32).toInt8.toInt32)), (.int (1 : Int32)), (.ref a1)])) rfl rfl (hb hby d1_16)
  refine own_go st4 ?_
  rw [show nar .byte (((XT.ushrL q3 (8 : Int32)).toInt32).toInt8.toInt32) = (((XT.ushrL q3 (8 : Int32)).toInt32).toInt8.toInt32) from (own_bb _)] at W4
  have zs5 : n0 ≤ h4.size := Nat.le_trans zs2 (Keep.of_wr W4).1
  have kp6 : Keep h0 h4 [a1] := kp3.wr W4 (Or.inl (List.mem_of_getElem? (i := 0) rfl))
  have V4 : Arv Z h4 a1 k1 .byte (16 : Int32) [(.int ((q3.toInt32).toInt8.toInt32)), (.int (((XT.ushrL q3 (8 : Int32)).toInt32).toInt8.toInt32)), (.int x2), (.int x3), (.int x4), (.int x5), (.int x6), (.int x7), (.int x8), (.int x9), (.int x10), (.int x11), (.int x12), (.int x13), (.int x14), (.int x15)] (.int (0 : Int32)) := Arv.set Ar4 q4 S4 M4 B4 G4 (fits_nar_byte _) W4 1 rfl (Nat.le_of_ble_eq_true rfl)
  have N4 := Fr.snoc X4 N1 g_a1
  show own_G p e below (T4.setTop (mkF m 17 #[.val (.ref a1), .val (.int (0 : Int32)), .val (.long q3), .second] [])) _
  refine own_go (fun _ k => XS.aloadN X4.here hx rfl (hb hby d1_17) rfl rfl k) ?_
  show own_G p e below (T4.setTop (mkF m 18 #[.val (.ref a1), .val (.int (0 : Int32)), .val (.long q3), .second] [(.ref a1)])) _
  refine own_go (fun _ k => XS.iloadN X4.here hx rfl (hb hby d1_18) rfl k) ?_
  show own_G p e below (T4.setTop (mkF m 19 #[.val (.ref a1), .val (.int (0 : Int32)), .val (.long q3), .second] [(.int (0 : Int32)), (.ref a1)])) _
  refine own_go (fun _ k => XS.iconst X4.here hx rfl (hb hby d1_19) k) ?_
  show own_G p e below (T4.setTop (mkF m 20 #[.val (.ref a1), .val (.int (0 : Int32)), .val (.long q3), .second] [(.int (2 : Int32)), (.int (0 : Int32)), (.ref a1)])) _
  refine own_go (fun _ k => XS.iadd X4.here hx rfl (hb hby d1_20) rfl k) ?_
  show own_G p e below (T4.setTop (mkF m 21 #[.val (.ref a1), .val (.int (0 : Int32)), .val (.long q3), .second] [(.int (2 : Int32)), (.ref a1)])) _
  refine own_go (fun _ k => XS.lloadN X4.here hx rfl (hb hby d1_21) rfl k) ?_
  show own_G p e below (T4.setTop (mkF m 22 #[.val (.ref a1), .val (.int (0 : Int32)), .val (.long q3), .second] [(.long q3), (.int (2 : Int32)), (.ref a1)])) _
  refine own_go (fun _ k => XS.bipush X4.here hx rfl (hb hby d1_22) k) ?_
  show own_G p e below (T4.setTop (mkF m 24 #[.val (.ref a1), .val (.int (0 : Int32)), .val (.long q3), .second] [(.int (16 : Int32)), (.long q3), (.int (2 : Int32)), (.ref a1)])) _
  refine own_go (fun _ k => XT.lushr X4.here hx rfl (hb hby d1_24) rfl k) ?_
  show own_G p e below (T4.setTop (mkF m 25 #[.val (.ref a1), .val (.int (0 : Int32)), .val (.long q3), .second] [(.long (XT.ushrL q3 (16 : Int32))), (.int (2 : Int32)), (.ref a1)])) _
  refine own_go (fun _ k => XS.l2i X4.here hx rfl (hb hby d1_25) rfl k) ?_
  show own_G p e below (T4.setTop (mkF m 26 #[.val (.ref a1), .val (.int (0 : Int32)), .val (.long q3), .second] [(.int ((XT.ushrL q3 (16 : Int32)).toInt32)), (.int (2 : Int32)), (.ref a1)])) _
  refine own_go (fun _ k => XS.i2b X4.here hx rfl (hb hby d1_26) rfl k) ?_
  show own_G p e below (T4.setTop (mkF m 27 #[.val (.ref a1), .val (.int (0 : Int32)), .val (.long q3), .second] [(.int (((XT.ushrL q3 (16 : Int32)).toInt32).toInt8.toInt32)), (.int (2 : Int32)), (.ref a1)])) _
  obtain ⟨cl7, Ar7, q7, S7, M7, B7, G7⟩ := id V4
  have hin7 : ¬ ((2 : Int32) < 0 ∨ cl7.slots.size ≤ ((2 : Int32)).toNatClampNeg) := inb_of S7 ⟨by decide, by decide⟩
  obtain ⟨T7, h7, X7, e7, W7, st7⟩ := stB X4 hx hZ e4 Ar7 (j := (2 : Int32)) hin7 (g := (mkF m 27 #[.val (.ref a1), .val (.int (0 : Int32)), .val (.long q3), .second] [(.int (((XT.ushrL q3 (16 : Int32)).toInt32).toInt8.toInt32)), (.int (2 : Int32)), (.ref a1)])) rfl rfl (hb hby d1_27)
  refine own_go st7 ?_
  rw [show nar .byte (((XT.ushrL q3 (16 : Int32)).toInt32).toInt8.toInt32) = (((XT.ushrL q3 (16 : Int32)).toInt32).toInt8.toInt32) from (own_bb _)] at W7
  have zs8 : n0 ≤ h7.size := Nat.le_trans zs5 (Keep.of_wr W7).1
  have kp9 : Keep h0 h7 [a1] := kp6.wr W7 (Or.inl (List.mem_of_getElem? (i := 0) rfl))
  have V7 : Arv Z h7 a1 k1 .byte (16 : Int32) [(.int ((q3.toInt32).toInt8.toInt32)), (.int (((XT.ushrL q3 (8 : Int32)).toInt32).toInt8.toInt32)), (.int (((XT.ushrL q3 (16 : Int32)).toInt32).toInt8.toInt32)), (.int x3), (.int x4), (.int x5), (.int x6), (.int x7), (.int x8), (.int x9), (.int x10), (.int x11), (.int x12), (.int x13), (.int x14), (.int x15)] (.int (0 : Int32)) := Arv.set Ar7 q7 S7 M7 B7 G7 (fits_nar_byte _) W7 2 rfl (Nat.le_of_ble_eq_true rfl)
  have N7 := Fr.snoc X7 N4 g_a1
  show own_G p e below (T7.setTop (mkF m 28 #[.val (.ref a1), .val (.int (0 : Int32)), .val (.long q3), .second] [])) _
  refine own_go (fun _ k => XS.aloadN X7.here hx rfl (hb hby d1_28) rfl rfl k) ?_
  show own_G p e below (T7.setTop (mkF m 29 #[.val (.ref a1), .val (.int (0 : Int32)), .val (.long q3), .second] [(.ref a1)])) _
  refine own_go (fun _ k => XS.iloadN X7.here hx rfl (hb hby d1_29) rfl k) ?_
  show own_G p e below (T7.setTop (mkF m 30 #[.val (.ref a1), .val (.int (0 : Int32)), .val (.long q3), .second] [(.int (0 : Int32)), (.ref a1)])) _
  refine own_go (fun _ k => XS.iconst X7.here hx rfl (hb hby d1_30) k) ?_
  show own_G p e below (T7.setTop (mkF m 31 #[.val (.ref a1), .val (.int (0 : Int32)), .val (.long q3), .second] [(.int (3 : Int32)), (.int (0 : Int32)), (.ref a1)])) _
  refine own_go (fun _ k => XS.iadd X7.here hx rfl (hb hby d1_31) rfl k) ?_
  show own_G p e below (T7.setTop (mkF m 32 #[.val (.ref a1), .val (.int (0 : Int32)), .val (.long q3), .second] [(.int (3 : Int32)), (.ref a1)])) _
  refine own_go (fun _ k => XS.lloadN X7.here hx rfl (hb hby d1_32) rfl k) ?_
  show own_G p e below (T7.setTop (mkF m 33 #[.val (.ref a1), .val (.int (0 : Int32)), .val (.long q3), .second] [(.long q3), (.int (3 : Int32)), (.ref a1)])) _
  refine own_go (fun _ k => XS.bipush X7.here hx rfl (hb hby d1_33) k) ?_
  show own_G p e below (T7.setTop (mkF m 35 #[.val (.ref a1), .val (.int (0 : Int32)), .val (.long q3), .second] [(.int (24 : Int32)), (.long q3), (.int (3 : Int32)), (.ref a1)])) _
  refine own_go (fun _ k => XT.lushr X7.here hx rfl (hb hby d1_35) rfl k) ?_
  show own_G p e below (T7.setTop (mkF m 36 #[.val (.ref a1), .val (.int (0 : Int32)), .val (.long q3), .second] [(.long (XT.ushrL q3 (24 : Int32))), (.int (3 : Int32)), (.ref a1)])) _
  refine own_go (fun _ k => XS.l2i X7.here hx rfl (hb hby d1_36) rfl k) ?_
  show own_G p e below (T7.setTop (mkF m 37 #[.val (.ref a1), .val (.int (0 : Int32)), .val (.long q3), .second] [(.int ((XT.ushrL q3 (24 : Int32)).toInt32)), (.int (3 : Int32)), (.ref a1)])) _
  refine own_go (fun _ k => XS.i2b X7.here hx rfl (hb hby d1_37) rfl k) ?_
  show own_G p e below (T7.setTop (mkF m 38 #[.val (.ref a1), .val (.int (0 : Int32)), .val (.long q3), .second] [(.int (((XT.ushrL q3 (24 : Int32)).toInt32).toInt8.toInt32)), (.int (3 : Int32)), (.ref a1)])) _
  obtain ⟨cl10, Ar10, q10, S10, M10, B10, G10⟩ := id V7
  have hin10 : ¬ ((3 : Int32) < 0 ∨ cl10.slots.size ≤ ((3 : Int32)).toNatClampNeg) := inb_of S10 ⟨by decide, by decide⟩
  obtain ⟨T10, h10, X10, e10, W10, st10⟩ := stB X7 hx hZ e7 Ar10 (j := (3 : Int32)) hin10 (g := (mkF m 38 #[.val (.ref a1), .val (.int (0 : Int32)), .val (.long q3), .second] [(.int (((XT.ushrL q3 (24 : Int32)).toInt32).toInt8.toInt32)), (.int (3 : Int32)), (.ref a1)])) rfl rfl (hb hby d1_38)
  refine own_go st10 ?_
  rw [show nar .byte (((XT.ushrL q3 (24 : Int32)).toInt32).toInt8.toInt32) = (((XT.ushrL q3 (24 : Int32)).toInt32).toInt8.toInt32) from (own_bb _)] at W10
  have zs11 : n0 ≤ h10.size := Nat.le_trans zs8 (Keep.of_wr W10).1
  have kp12 : Keep h0 h10 [a1] := kp9.wr W10 (Or.inl (List.mem_of_getElem? (i := 0) rfl))
  have V10 : Arv Z h10 a1 k1 .byte (16 : Int32) [(.int ((q3.toInt32).toInt8.toInt32)), (.int (((XT.ushrL q3 (8 : Int32)).toInt32).toInt8.toInt32)), (.int (((XT.ushrL q3 (16 : Int32)).toInt32).toInt8.toInt32)), (.int (((XT.ushrL q3 (24 : Int32)).toInt32).toInt8.toInt32)), (.int x4), (.int x5), (.int x6), (.int x7), (.int x8), (.int x9), (.int x10), (.int x11), (.int x12), (.int x13), (.int x14), (.int x15)] (.int (0 : Int32)) := Arv.set Ar10 q10 S10 M10 B10 G10 (fits_nar_byte _) W10 3 rfl (Nat.le_of_ble_eq_true rfl)
  have N10 := Fr.snoc X10 N7 g_a1
  show own_G p e below (T10.setTop (mkF m 39 #[.val (.ref a1), .val (.int (0 : Int32)), .val (.long q3), .second] [])) _
  refine own_go (fun _ k => XS.aloadN X10.here hx rfl (hb hby d1_39) rfl rfl k) ?_
  show own_G p e below (T10.setTop (mkF m 40 #[.val (.ref a1), .val (.int (0 : Int32)), .val (.long q3), .second] [(.ref a1)])) _
  refine own_go (fun _ k => XS.iloadN X10.here hx rfl (hb hby d1_40) rfl k) ?_
  show own_G p e below (T10.setTop (mkF m 41 #[.val (.ref a1), .val (.int (0 : Int32)), .val (.long q3), .second] [(.int (0 : Int32)), (.ref a1)])) _
  refine own_go (fun _ k => XS.iconst X10.here hx rfl (hb hby d1_41) k) ?_
  show own_G p e below (T10.setTop (mkF m 42 #[.val (.ref a1), .val (.int (0 : Int32)), .val (.long q3), .second] [(.int (4 : Int32)), (.int (0 : Int32)), (.ref a1)])) _
  refine own_go (fun _ k => XS.iadd X10.here hx rfl (hb hby d1_42) rfl k) ?_
  show own_G p e below (T10.setTop (mkF m 43 #[.val (.ref a1), .val (.int (0 : Int32)), .val (.long q3), .second] [(.int (4 : Int32)), (.ref a1)])) _
  refine own_go (fun _ k => XS.lloadN X10.here hx rfl (hb hby d1_43) rfl k) ?_
  show own_G p e below (T10.setTop (mkF m 44 #[.val (.ref a1), .val (.int (0 : Int32)), .val (.long q3), .second] [(.long q3), (.int (4 : Int32)), (.ref a1)])) _
  refine own_go (fun _ k => XS.bipush X10.here hx rfl (hb hby d1_44) k) ?_
  show own_G p e below (T10.setTop (mkF m 46 #[.val (.ref a1), .val (.int (0 : Int32)), .val (.long q3), .second] [(.int (32 : Int32)), (.long q3), (.int (4 : Int32)), (.ref a1)])) _
  refine own_go (fun _ k => XT.lushr X10.here hx rfl (hb hby d1_46) rfl k) ?_
  show own_G p e below (T10.setTop (mkF m 47 #[.val (.ref a1), .val (.int (0 : Int32)), .val (.long q3), .second] [(.long (XT.ushrL q3 (32 : Int32))), (.int (4 : Int32)), (.ref a1)])) _
  refine own_go (fun _ k => XS.l2i X10.here hx rfl (hb hby d1_47) rfl k) ?_
  show own_G p e below (T10.setTop (mkF m 48 #[.val (.ref a1), .val (.int (0 : Int32)), .val (.long q3), .second] [(.int ((XT.ushrL q3 (32 : Int32)).toInt32)), (.int (4 : Int32)), (.ref a1)])) _
  refine own_go (fun _ k => XS.i2b X10.here hx rfl (hb hby d1_48) rfl k) ?_
  show own_G p e below (T10.setTop (mkF m 49 #[.val (.ref a1), .val (.int (0 : Int32)), .val (.long q3), .second] [(.int (((XT.ushrL q3 (32 : Int32)).toInt32).toInt8.toInt32)), (.int (4 : Int32)), (.ref a1)])) _
  obtain ⟨cl13, Ar13, q13, S13, M13, B13, G13⟩ := id V10
  have hin13 : ¬ ((4 : Int32) < 0 ∨ cl13.slots.size ≤ ((4 : Int32)).toNatClampNeg) := inb_of S13 ⟨by decide, by decide⟩
  obtain ⟨T13, h13, X13, e13, W13, st13⟩ := stB X10 hx hZ e10 Ar13 (j := (4 : Int32)) hin13 (g := (mkF m 49 #[.val (.ref a1), .val (.int (0 : Int32)), .val (.long q3), .second] [(.int (((XT.ushrL q3 (32 : Int32)).toInt32).toInt8.toInt32)), (.int (4 : Int32)), (.ref a1)])) rfl rfl (hb hby d1_49)
  refine own_go st13 ?_
  rw [show nar .byte (((XT.ushrL q3 (32 : Int32)).toInt32).toInt8.toInt32) = (((XT.ushrL q3 (32 : Int32)).toInt32).toInt8.toInt32) from (own_bb _)] at W13
  have zs14 : n0 ≤ h13.size := Nat.le_trans zs11 (Keep.of_wr W13).1
  have kp15 : Keep h0 h13 [a1] := kp12.wr W13 (Or.inl (List.mem_of_getElem? (i := 0) rfl))
  have V13 : Arv Z h13 a1 k1 .byte (16 : Int32) [(.int ((q3.toInt32).toInt8.toInt32)), (.int (((XT.ushrL q3 (8 : Int32)).toInt32).toInt8.toInt32)), (.int (((XT.ushrL q3 (16 : Int32)).toInt32).toInt8.toInt32)), (.int (((XT.ushrL q3 (24 : Int32)).toInt32).toInt8.toInt32)), (.int (((XT.ushrL q3 (32 : Int32)).toInt32).toInt8.toInt32)), (.int x5), (.int x6), (.int x7), (.int x8), (.int x9), (.int x10), (.int x11), (.int x12), (.int x13), (.int x14), (.int x15)] (.int (0 : Int32)) := Arv.set Ar13 q13 S13 M13 B13 G13 (fits_nar_byte _) W13 4 rfl (Nat.le_of_ble_eq_true rfl)
  have N13 := Fr.snoc X13 N10 g_a1
  show own_G p e below (T13.setTop (mkF m 50 #[.val (.ref a1), .val (.int (0 : Int32)), .val (.long q3), .second] [])) _
  refine own_go (fun _ k => XS.aloadN X13.here hx rfl (hb hby d1_50) rfl rfl k) ?_
  show own_G p e below (T13.setTop (mkF m 51 #[.val (.ref a1), .val (.int (0 : Int32)), .val (.long q3), .second] [(.ref a1)])) _
  refine own_go (fun _ k => XS.iloadN X13.here hx rfl (hb hby d1_51) rfl k) ?_
  show own_G p e below (T13.setTop (mkF m 52 #[.val (.ref a1), .val (.int (0 : Int32)), .val (.long q3), .second] [(.int (0 : Int32)), (.ref a1)])) _
  refine own_go (fun _ k => XS.iconst X13.here hx rfl (hb hby d1_52) k) ?_
  show own_G p e below (T13.setTop (mkF m 53 #[.val (.ref a1), .val (.int (0 : Int32)), .val (.long q3), .second] [(.int (5 : Int32)), (.int (0 : Int32)), (.ref a1)])) _
  refine own_go (fun _ k => XS.iadd X13.here hx rfl (hb hby d1_53) rfl k) ?_
  show own_G p e below (T13.setTop (mkF m 54 #[.val (.ref a1), .val (.int (0 : Int32)), .val (.long q3), .second] [(.int (5 : Int32)), (.ref a1)])) _
  refine own_go (fun _ k => XS.lloadN X13.here hx rfl (hb hby d1_54) rfl k) ?_
  show own_G p e below (T13.setTop (mkF m 55 #[.val (.ref a1), .val (.int (0 : Int32)), .val (.long q3), .second] [(.long q3), (.int (5 : Int32)), (.ref a1)])) _
  refine own_go (fun _ k => XS.bipush X13.here hx rfl (hb hby d1_55) k) ?_
  show own_G p e below (T13.setTop (mkF m 57 #[.val (.ref a1), .val (.int (0 : Int32)), .val (.long q3), .second] [(.int (40 : Int32)), (.long q3), (.int (5 : Int32)), (.ref a1)])) _
  refine own_go (fun _ k => XT.lushr X13.here hx rfl (hb hby d1_57) rfl k) ?_
  show own_G p e below (T13.setTop (mkF m 58 #[.val (.ref a1), .val (.int (0 : Int32)), .val (.long q3), .second] [(.long (XT.ushrL q3 (40 : Int32))), (.int (5 : Int32)), (.ref a1)])) _
  refine own_go (fun _ k => XS.l2i X13.here hx rfl (hb hby d1_58) rfl k) ?_
  show own_G p e below (T13.setTop (mkF m 59 #[.val (.ref a1), .val (.int (0 : Int32)), .val (.long q3), .second] [(.int ((XT.ushrL q3 (40 : Int32)).toInt32)), (.int (5 : Int32)), (.ref a1)])) _
  refine own_go (fun _ k => XS.i2b X13.here hx rfl (hb hby d1_59) rfl k) ?_
  show own_G p e below (T13.setTop (mkF m 60 #[.val (.ref a1), .val (.int (0 : Int32)), .val (.long q3), .second] [(.int (((XT.ushrL q3 (40 : Int32)).toInt32).toInt8.toInt32)), (.int (5 : Int32)), (.ref a1)])) _
  obtain ⟨cl16, Ar16, q16, S16, M16, B16, G16⟩ := id V13
  have hin16 : ¬ ((5 : Int32) < 0 ∨ cl16.slots.size ≤ ((5 : Int32)).toNatClampNeg) := inb_of S16 ⟨by decide, by decide⟩
  obtain ⟨T16, h16, X16, e16, W16, st16⟩ := stB X13 hx hZ e13 Ar16 (j := (5 : Int32)) hin16 (g := (mkF m 60 #[.val (.ref a1), .val (.int (0 : Int32)), .val (.long q3), .second] [(.int (((XT.ushrL q3 (40 : Int32)).toInt32).toInt8.toInt32)), (.int (5 : Int32)), (.ref a1)])) rfl rfl (hb hby d1_60)
  refine own_go st16 ?_
  rw [show nar .byte (((XT.ushrL q3 (40 : Int32)).toInt32).toInt8.toInt32) = (((XT.ushrL q3 (40 : Int32)).toInt32).toInt8.toInt32) from (own_bb _)] at W16
  have zs17 : n0 ≤ h16.size := Nat.le_trans zs14 (Keep.of_wr W16).1
  have kp18 : Keep h0 h16 [a1] := kp15.wr W16 (Or.inl (List.mem_of_getElem? (i := 0) rfl))
  have V16 : Arv Z h16 a1 k1 .byte (16 : Int32) [(.int ((q3.toInt32).toInt8.toInt32)), (.int (((XT.ushrL q3 (8 : Int32)).toInt32).toInt8.toInt32)), (.int (((XT.ushrL q3 (16 : Int32)).toInt32).toInt8.toInt32)), (.int (((XT.ushrL q3 (24 : Int32)).toInt32).toInt8.toInt32)), (.int (((XT.ushrL q3 (32 : Int32)).toInt32).toInt8.toInt32)), (.int (((XT.ushrL q3 (40 : Int32)).toInt32).toInt8.toInt32)), (.int x6), (.int x7), (.int x8), (.int x9), (.int x10), (.int x11), (.int x12), (.int x13), (.int x14), (.int x15)] (.int (0 : Int32)) := Arv.set Ar16 q16 S16 M16 B16 G16 (fits_nar_byte _) W16 5 rfl (Nat.le_of_ble_eq_true rfl)
  have N16 := Fr.snoc X16 N13 g_a1
  show own_G p e below (T16.setTop (mkF m 61 #[.val (.ref a1), .val (.int (0 : Int32)), .val (.long q3), .second] [])) _
  refine own_go (fun _ k => XS.aloadN X16.here hx rfl (hb hby d1_61) rfl rfl k) ?_
  show own_G p e below (T16.setTop (mkF m 62 #[.val (.ref a1), .val (.int (0 : Int32)), .val (.long q3), .second] [(.ref a1)])) _
  refine own_go (fun _ k => XS.iloadN X16.here hx rfl (hb hby d1_62) rfl k) ?_
  show own_G p e below (T16.setTop (mkF m 63 #[.val (.ref a1), .val (.int (0 : Int32)), .val (.long q3), .second] [(.int (0 : Int32)), (.ref a1)])) _
  refine own_go (fun _ k => XS.bipush X16.here hx rfl (hb hby d1_63) k) ?_
  show own_G p e below (T16.setTop (mkF m 65 #[.val (.ref a1), .val (.int (0 : Int32)), .val (.long q3), .second] [(.int (6 : Int32)), (.int (0 : Int32)), (.ref a1)])) _
  refine own_go (fun _ k => XS.iadd X16.here hx rfl (hb hby d1_65) rfl k) ?_
  show own_G p e below (T16.setTop (mkF m 66 #[.val (.ref a1), .val (.int (0 : Int32)), .val (.long q3), .second] [(.int (6 : Int32)), (.ref a1)])) _
  refine own_go (fun _ k => XS.lloadN X16.here hx rfl (hb hby d1_66) rfl k) ?_
  show own_G p e below (T16.setTop (mkF m 67 #[.val (.ref a1), .val (.int (0 : Int32)), .val (.long q3), .second] [(.long q3), (.int (6 : Int32)), (.ref a1)])) _
  refine own_go (fun _ k => XS.bipush X16.here hx rfl (hb hby d1_67) k) ?_
  show own_G p e below (T16.setTop (mkF m 69 #[.val (.ref a1), .val (.int (0 : Int32)), .val (.long q3), .second] [(.int (48 : Int32)), (.long q3), (.int (6 : Int32)), (.ref a1)])) _
  refine own_go (fun _ k => XT.lushr X16.here hx rfl (hb hby d1_69) rfl k) ?_
  show own_G p e below (T16.setTop (mkF m 70 #[.val (.ref a1), .val (.int (0 : Int32)), .val (.long q3), .second] [(.long (XT.ushrL q3 (48 : Int32))), (.int (6 : Int32)), (.ref a1)])) _
  refine own_go (fun _ k => XS.l2i X16.here hx rfl (hb hby d1_70) rfl k) ?_
  show own_G p e below (T16.setTop (mkF m 71 #[.val (.ref a1), .val (.int (0 : Int32)), .val (.long q3), .second] [(.int ((XT.ushrL q3 (48 : Int32)).toInt32)), (.int (6 : Int32)), (.ref a1)])) _
  refine own_go (fun _ k => XS.i2b X16.here hx rfl (hb hby d1_71) rfl k) ?_
  show own_G p e below (T16.setTop (mkF m 72 #[.val (.ref a1), .val (.int (0 : Int32)), .val (.long q3), .second] [(.int (((XT.ushrL q3 (48 : Int32)).toInt32).toInt8.toInt32)), (.int (6 : Int32)), (.ref a1)])) _
  obtain ⟨cl19, Ar19, q19, S19, M19, B19, G19⟩ := id V16
  have hin19 : ¬ ((6 : Int32) < 0 ∨ cl19.slots.size ≤ ((6 : Int32)).toNatClampNeg) := inb_of S19 ⟨by decide, by decide⟩
  obtain ⟨T19, h19, X19, e19, W19, st19⟩ := stB X16 hx hZ e16 Ar19 (j := (6 : Int32)) hin19 (g := (mkF m 72 #[.val (.ref a1), .val (.int (0 : Int32)), .val (.long q3), .second] [(.int (((XT.ushrL q3 (48 : Int32)).toInt32).toInt8.toInt32)), (.int (6 : Int32)), (.ref a1)])) rfl rfl (hb hby d1_72)
  refine own_go st19 ?_
  rw [show nar .byte (((XT.ushrL q3 (48 : Int32)).toInt32).toInt8.toInt32) = (((XT.ushrL q3 (48 : Int32)).toInt32).toInt8.toInt32) from (own_bb _)] at W19
  have zs20 : n0 ≤ h19.size := Nat.le_trans zs17 (Keep.of_wr W19).1
  have kp21 : Keep h0 h19 [a1] := kp18.wr W19 (Or.inl (List.mem_of_getElem? (i := 0) rfl))
  have V19 : Arv Z h19 a1 k1 .byte (16 : Int32) [(.int ((q3.toInt32).toInt8.toInt32)), (.int (((XT.ushrL q3 (8 : Int32)).toInt32).toInt8.toInt32)), (.int (((XT.ushrL q3 (16 : Int32)).toInt32).toInt8.toInt32)), (.int (((XT.ushrL q3 (24 : Int32)).toInt32).toInt8.toInt32)), (.int (((XT.ushrL q3 (32 : Int32)).toInt32).toInt8.toInt32)), (.int (((XT.ushrL q3 (40 : Int32)).toInt32).toInt8.toInt32)), (.int (((XT.ushrL q3 (48 : Int32)).toInt32).toInt8.toInt32)), (.int x7), (.int x8), (.int x9), (.int x10), (.int x11), (.int x12), (.int x13), (.int x14), (.int x15)] (.int (0 : Int32)) := Arv.set Ar19 q19 S19 M19 B19 G19 (fits_nar_byte _) W19 6 rfl (Nat.le_of_ble_eq_true rfl)
  have N19 := Fr.snoc X19 N16 g_a1
  show own_G p e below (T19.setTop (mkF m 73 #[.val (.ref a1), .val (.int (0 : Int32)), .val (.long q3), .second] [])) _
  refine own_go (fun _ k => XS.aloadN X19.here hx rfl (hb hby d1_73) rfl rfl k) ?_
  show own_G p e below (T19.setTop (mkF m 74 #[.val (.ref a1), .val (.int (0 : Int32)), .val (.long q3), .second] [(.ref a1)])) _
  refine own_go (fun _ k => XS.iloadN X19.here hx rfl (hb hby d1_74) rfl k) ?_
  show own_G p e below (T19.setTop (mkF m 75 #[.val (.ref a1), .val (.int (0 : Int32)), .val (.long q3), .second] [(.int (0 : Int32)), (.ref a1)])) _
  refine own_go (fun _ k => XS.bipush X19.here hx rfl (hb hby d1_75) k) ?_
  show own_G p e below (T19.setTop (mkF m 77 #[.val (.ref a1), .val (.int (0 : Int32)), .val (.long q3), .second] [(.int (7 : Int32)), (.int (0 : Int32)), (.ref a1)])) _
  refine own_go (fun _ k => XS.iadd X19.here hx rfl (hb hby d1_77) rfl k) ?_
  show own_G p e below (T19.setTop (mkF m 78 #[.val (.ref a1), .val (.int (0 : Int32)), .val (.long q3), .second] [(.int (7 : Int32)), (.ref a1)])) _
  refine own_go (fun _ k => XS.lloadN X19.here hx rfl (hb hby d1_78) rfl k) ?_
  show own_G p e below (T19.setTop (mkF m 79 #[.val (.ref a1), .val (.int (0 : Int32)), .val (.long q3), .second] [(.long q3), (.int (7 : Int32)), (.ref a1)])) _
  refine own_go (fun _ k => XS.bipush X19.here hx rfl (hb hby d1_79) k) ?_
  show own_G p e below (T19.setTop (mkF m 81 #[.val (.ref a1), .val (.int (0 : Int32)), .val (.long q3), .second] [(.int (56 : Int32)), (.long q3), (.int (7 : Int32)), (.ref a1)])) _
  refine own_go (fun _ k => XT.lushr X19.here hx rfl (hb hby d1_81) rfl k) ?_
  show own_G p e below (T19.setTop (mkF m 82 #[.val (.ref a1), .val (.int (0 : Int32)), .val (.long q3), .second] [(.long (XT.ushrL q3 (56 : Int32))), (.int (7 : Int32)), (.ref a1)])) _
  refine own_go (fun _ k => XS.l2i X19.here hx rfl (hb hby d1_82) rfl k) ?_
  show own_G p e below (T19.setTop (mkF m 83 #[.val (.ref a1), .val (.int (0 : Int32)), .val (.long q3), .second] [(.int ((XT.ushrL q3 (56 : Int32)).toInt32)), (.int (7 : Int32)), (.ref a1)])) _
  refine own_go (fun _ k => XS.i2b X19.here hx rfl (hb hby d1_83) rfl k) ?_
  show own_G p e below (T19.setTop (mkF m 84 #[.val (.ref a1), .val (.int (0 : Int32)), .val (.long q3), .second] [(.int (((XT.ushrL q3 (56 : Int32)).toInt32).toInt8.toInt32)), (.int (7 : Int32)), (.ref a1)])) _
  obtain ⟨cl22, Ar22, q22, S22, M22, B22, G22⟩ := id V19
  have hin22 : ¬ ((7 : Int32) < 0 ∨ cl22.slots.size ≤ ((7 : Int32)).toNatClampNeg) := inb_of S22 ⟨by decide, by decide⟩
  obtain ⟨T22, h22, X22, e22, W22, st22⟩ := stB X19 hx hZ e19 Ar22 (j := (7 : Int32)) hin22 (g := (mkF m 84 #[.val (.ref a1), .val (.int (0 : Int32)), .val (.long q3), .second] [(.int (((XT.ushrL q3 (56 : Int32)).toInt32).toInt8.toInt32)), (.int (7 : Int32)), (.ref a1)])) rfl rfl (hb hby d1_84)
  refine own_go st22 ?_
  rw [show nar .byte (((XT.ushrL q3 (56 : Int32)).toInt32).toInt8.toInt32) = (((XT.ushrL q3 (56 : Int32)).toInt32).toInt8.toInt32) from (own_bb _)] at W22
  have zs23 : n0 ≤ h22.size := Nat.le_trans zs20 (Keep.of_wr W22).1
  have kp24 : Keep h0 h22 [a1] := kp21.wr W22 (Or.inl (List.mem_of_getElem? (i := 0) rfl))
  have V22 : Arv Z h22 a1 k1 .byte (16 : Int32) [(.int ((q3.toInt32).toInt8.toInt32)), (.int (((XT.ushrL q3 (8 : Int32)).toInt32).toInt8.toInt32)), (.int (((XT.ushrL q3 (16 : Int32)).toInt32).toInt8.toInt32)), (.int (((XT.ushrL q3 (24 : Int32)).toInt32).toInt8.toInt32)), (.int (((XT.ushrL q3 (32 : Int32)).toInt32).toInt8.toInt32)), (.int (((XT.ushrL q3 (40 : Int32)).toInt32).toInt8.toInt32)), (.int (((XT.ushrL q3 (48 : Int32)).toInt32).toInt8.toInt32)), (.int (((XT.ushrL q3 (56 : Int32)).toInt32).toInt8.toInt32)), (.int x8), (.int x9), (.int x10), (.int x11), (.int x12), (.int x13), (.int x14), (.int x15)] (.int (0 : Int32)) := Arv.set Ar22 q22 S22 M22 B22 G22 (fits_nar_byte _) W22 7 rfl (Nat.le_of_ble_eq_true rfl)
  have N22 := Fr.snoc X22 N19 g_a1
  show own_G p e below (T22.setTop (mkF m 85 #[.val (.ref a1), .val (.int (0 : Int32)), .val (.long q3), .second] [])) _
  refine own_ret X22 hlk (v := none) (fun _ => rfl) (Q1_0 Z a1 q3 k1 x0 x1 x2 x3 x4 x5 x6 x7 x8 x9 x10 x11 x12 x13 x14 x15 h0 n0) (own_retV X22 hx hret (hb hby d1_85)) (by decide) (by decide) ?_
  show Q1_0 Z a1 q3 k1 x0 x1 x2 x3 x4 x5 x6 x7 x8 x9 x10 x11 x12 x13 x14 x15 h0 n0 _ T22.heap _
  rw [e22]
  exact ⟨rfl, N22, kp24, V22⟩
def Q1_8 (Z : State) (a1 : Addr) (q3 : Int64) (k1 : ClassId) (x0 x1 x2 x3 x4 x5 x6 x7 x8 x9 x10 x11 x12 x13 x14 x15 : Int32) (h0 : Heap) (n0 : Nat) (v : Option Value) (h : Heap) (L : List Loc) : Prop := v = none ∧ Fr n0 L ∧ Keep h0 h [a1] ∧ Arv Z h a1 k1 .byte (16 : Int32) [(.int x0), (.int x1), (.int x2), (.int x3), (.int x4), (.int x5), (.int x6), (.int x7), (.int (q3.toInt32.toInt8.toInt32)), (.int (own_b q3 (8 : Int32))), (.int (own_b q3 (16 : Int32))), (.int (own_b q3 (24 : Int32))), (.int (own_b q3 (32 : Int32))), (.int (own_b q3 (40 : Int32))), (.int (own_b q3 (48 : Int32))), (.int (own_b q3 (56 : Int32)))] (.int (0 : Int32))
set_option maxRecDepth 65536 in
set_option maxHeartbeats 40000000 in
theorem rm1_8 (l : Launch) (Z : State) (a0 : Array Value) (hw : ∀ d ∈ tables_1, d.before a0 Z = true) (ws : List Jvm.Cond) (a1 : Addr) (q3 : Int64) (k1 : ClassId) (x0 x1 x2 x3 x4 x5 x6 x7 x8 x9 x10 x11 x12 x13 x14 x15 : Int32) (h0 : Heap) (n0 : Nat) (Z0 : n0 ≤ h0.size) (V_a1 : Arv Z h0 a1 k1 .byte (16 : Int32) [(.int x0), (.int x1), (.int x2), (.int x3), (.int x4), (.int x5), (.int x6), (.int x7), (.int x8), (.int x9), (.int x10), (.int x11), (.int x12), (.int x13), (.int x14), (.int x15)] (.int (0 : Int32))) (g_a1 : n0 ≤ a1) :
    MetFree l (⟨"com/example/bitfold/bitfold/ByteArrayWriterToByteArrayPinLaw", "put8", "([BIJ)V"⟩ : MethodName) (head1 (Jvm.Cond.code (⟨"com/example/bitfold/bitfold/ByteArrayWriterToByteArrayPinLaw", "put8", "([BIJ)V"⟩ : MethodName) method_3_code 4 none :: ws) ({ frames := 0, cells := 0, slots := 0, locals := 0 } : Room)) (fun a U => a = #[(.ref a1), (.int (8 : Int32)), (.long q3)] ∧ Z.Warmed39 U.vm ∧ U.heap = h0) (fun _ _ _ _ _ => True) (fun _ U o U' => ∃ v L, o = .returned v ∧ Q1_8 Z a1 q3 k1 x0 x1 x2 x3 x4 x5 x6 x7 x8 x9 x10 x11 x12 x13 x14 x15 h0 n0 v U'.heap L ∧ FrameEnd U o U' L ({ frames := 0, cells := 0, slots := 0, locals := 0 } : Room).cells ({ frames := 0, cells := 0, slots := 0, locals := 0 } : Room).slots) := by
  refine MetFree.of_bodySF (plainFor_of_name pn_1) hisR ?_
  intro p e s m args below meth c s₁ Bd hml0 hP hK
  obtain ⟨rfl, hZ, hh⟩ := hP
  have hx := Bd.exec
  have hby := Bd.bytes
  have hml : c.maxLocals = 4 := hml0
  have hown : s.vm.findClass "com/example/bitfold/bitfold/ByteArrayWriterToByteArrayPinLaw" = some m.cls := findClass_of_methodNamed Bd.named
  have hnm := (name_of_methodNamed Bd.named Bd.method).1
  have hlk := Bd.notSynchronized
  have hret := Bd.returns
  have X0 : Stand p l e ({ frames := 0, cells := 0, slots := 0, locals := 0 } : Room) s m #[(.ref a1), (.int (8 : Int32)), (.long q3)] below meth c s₁ [] 0 0 := Stand.of_body Bd
  have e0 : s₁.heap = h0 := by rw [← hh, Bd.state]; rfl
  have N0 := Fr.nil n0
  show own_G p e below (s₁.setTop (entryFrame m #[(.ref a1), (.int (8 : Int32)), (.long q3)] 4)) (fun s₂ o => ∃ v L, o = .returned v ∧ Q1_8 Z a1 q3 k1 x0 x1 x2 x3 x4 x5 x6 x7 x8 x9 x10 x11 x12 x13 x14 x15 h0 n0 v s₂.heap L ∧ FrameEnd s o s₂ L ({ frames := 0, cells := 0, slots := 0, locals := 0 } : Room).cells ({ frames := 0, cells := 0, slots := 0, locals := 0 } : Room).slots)
  refine own_go (fun t k => castTop (ef_1 m a1 (8 : Int32) q3) k) ?_
  show own_G p e below (s₁.setTop (mkF m 0 #[.val (.ref a1), .val (.int (8 : Int32)), .val (.long q3), .second] [])) _
  refine own_go (fun _ k => XS.aloadN X0.here hx rfl (hb hby d1_0) rfl rfl k) ?_
  show own_G p e below (s₁.setTop (mkF m 1 #[.val (.ref a1), .val (.int (8 : Int32)), .val (.long q3), .second] [(.ref a1)])) _
  refine own_go (fun _ k => XS.iloadN X0.here hx rfl (hb hby d1_1) rfl k) ?_
  show own_G p e below (s₁.setTop (mkF m 2 #[.val (.ref a1), .val (.int (8 : Int32)), .val (.long q3), .second] [(.int (8 : Int32)), (.ref a1)])) _
  refine own_go (fun _ k => XS.lloadN X0.here hx rfl (hb hby d1_2) rfl k) ?_
  show own_G p e below (s₁.setTop (mkF m 3 #[.val (.ref a1), .val (.int (8 : Int32)), .val (.long q3), .second] [(.long q3), (.int (8 : Int32)), (.ref a1)])) _
  refine own_go (fun _ k => XS.l2i X0.here hx rfl (hb hby d1_3) rfl k) ?_
  show own_G p e below (s₁.setTop (mkF m 4 #[.val (.ref a1), .val (.int (8 : Int32)), .val (.long q3), .second] [(.int (q3.toInt32)), (.int (8 : Int32)), (.ref a1)])) _
  refine own_go (fun _ k => XS.i2b X0.here hx rfl (hb hby d1_4) rfl k) ?_
  show own_G p e below (s₁.setTop (mkF m 5 #[.val (.ref a1), .val (.int (8 : Int32)), .val (.long q3), .second] [(.int ((q3.toInt32).toInt8.toInt32)), (.int (8 : Int32)), (.ref a1)])) _
  obtain ⟨cl25, Ar25, q25, S25, M25, B25, G25⟩ := id V_a1
  have hin25 : ¬ ((8 : Int32) < 0 ∨ cl25.slots.size ≤ ((8 : Int32)).toNatClampNeg) := inb_of S25 ⟨by decide, by decide⟩
  obtain ⟨T25, h25, X25, e25, W25, st25⟩ := stB X0 hx hZ e0 Ar25 (j := (8 : Int32)) hin25 (g := (mkF m 5 #[.val (.ref a1), .val (.int (8 : Int32)), .val (.long q3), .second] [(.int ((q3.toInt32).toInt8.toInt32)), (.int (8 : Int32)), (.ref a1)])) rfl rfl (hb hby d1_5)
  refine own_go st25 ?_
  rw [show nar .byte ((q3.toInt32).toInt8.toInt32) = ((q3.toInt32).toInt8.toInt32) from (own_bb _)] at W25
  have zs26 : n0 ≤ h25.size := Nat.le_trans Z0 (Keep.of_wr W25).1
  have kp27 : Keep h0 h25 [a1] := (Keep.refl h0 [a1]).wr W25 (Or.inl (List.mem_of_getElem? (i := 0) rfl))
  have V25 : Arv Z h25 a1 k1 .byte (16 : Int32) [(.int x0), (.int x1), (.int x2), (.int x3), (.int x4), (.int x5), (.int x6), (.int x7), (.int ((q3.toInt32).toInt8.toInt32)), (.int x9), (.int x10), (.int x11), (.int x12), (.int x13), (.int x14), (.int x15)] (.int (0 : Int32)) := Arv.set Ar25 q25 S25 M25 B25 G25 (fits_nar_byte _) W25 8 rfl (Nat.le_of_ble_eq_true rfl)
  have N25 := Fr.snoc X25 N0 g_a1
  show own_G p e below (T25.setTop (mkF m 6 #[.val (.ref a1), .val (.int (8 : Int32)), .val (.long q3), .second] [])) _
  refine own_go (fun _ k => XS.aloadN X25.here hx rfl (hb hby d1_6) rfl rfl k) ?_
  show own_G p e below (T25.setTop (mkF m 7 #[.val (.ref a1), .val (.int (8 : Int32)), .val (.long q3), .second] [(.ref a1)])) _
  refine own_go (fun _ k => XS.iloadN X25.here hx rfl (hb hby d1_7) rfl k) ?_
  show own_G p e below (T25.setTop (mkF m 8 #[.val (.ref a1), .val (.int (8 : Int32)), .val (.long q3), .second] [(.int (8 : Int32)), (.ref a1)])) _
  refine own_go (fun _ k => XS.iconst X25.here hx rfl (hb hby d1_8) k) ?_
  show own_G p e below (T25.setTop (mkF m 9 #[.val (.ref a1), .val (.int (8 : Int32)), .val (.long q3), .second] [(.int (1 : Int32)), (.int (8 : Int32)), (.ref a1)])) _
  refine own_go (fun _ k => XS.iadd X25.here hx rfl (hb hby d1_9) rfl k) ?_
  show own_G p e below (T25.setTop (mkF m 10 #[.val (.ref a1), .val (.int (8 : Int32)), .val (.long q3), .second] [(.int (9 : Int32)), (.ref a1)])) _
  refine own_go (fun _ k => XS.lloadN X25.here hx rfl (hb hby d1_10) rfl k) ?_
  show own_G p e below (T25.setTop (mkF m 11 #[.val (.ref a1), .val (.int (8 : Int32)), .val (.long q3), .second] [(.long q3), (.int (9 : Int32)), (.ref a1)])) _
  refine own_go (fun _ k => XS.bipush X25.here hx rfl (hb hby d1_11) k) ?_
  show own_G p e below (T25.setTop (mkF m 13 #[.val (.ref a1), .val (.int (8 : Int32)), .val (.long q3), .second] [(.int (8 : Int32)), (.long q3), (.int (9 : Int32)), (.ref a1)])) _
  refine own_go (fun _ k => XT.lushr X25.here hx rfl (hb hby d1_13) rfl k) ?_
  show own_G p e below (T25.setTop (mkF m 14 #[.val (.ref a1), .val (.int (8 : Int32)), .val (.long q3), .second] [(.long (XT.ushrL q3 (8 : Int32))), (.int (9 : Int32)), (.ref a1)])) _
  refine own_go (fun _ k => XS.l2i X25.here hx rfl (hb hby d1_14) rfl k) ?_
  show own_G p e below (T25.setTop (mkF m 15 #[.val (.ref a1), .val (.int (8 : Int32)), .val (.long q3), .second] [(.int ((XT.ushrL q3 (8 : Int32)).toInt32)), (.int (9 : Int32)), (.ref a1)])) _
  refine own_go (fun _ k => XS.i2b X25.here hx rfl (hb hby d1_15) rfl k) ?_
  show own_G p e below (T25.setTop (mkF m 16 #[.val (.ref a1), .val (.int (8 : Int32)), .val (.long q3), .second] [(.int (((XT.ushrL q3 (8 : Int32)).toInt32).toInt8.toInt32)), (.int (9 : Int32)), (.ref a1)])) _
  obtain ⟨cl28, Ar28, q28, S28, M28, B28, G28⟩ := id V25
  have hin28 : ¬ ((9 : Int32) < 0 ∨ cl28.slots.size ≤ ((9 : Int32)).toNatClampNeg) := inb_of S28 ⟨by decide, by decide⟩
  obtain ⟨T28, h28, X28, e28, W28, st28⟩ := stB X25 hx hZ e25 Ar28 (j := (9 : Int32)) hin28 (g := (mkF m 16 #[.val (.ref a1), .val (.int (8 : Int32)), .val (.long q3), .second] [(.int (((XT.ushrL q3 (8 : Int32)).toInt32).toInt8.toInt32)), (.int (9 : Int32)), (.ref a1)])) rfl rfl (hb hby d1_16)
  refine own_go st28 ?_
  rw [show nar .byte (((XT.ushrL q3 (8 : Int32)).toInt32).toInt8.toInt32) = (((XT.ushrL q3 (8 : Int32)).toInt32).toInt8.toInt32) from (own_bb _)] at W28
  have zs29 : n0 ≤ h28.size := Nat.le_trans zs26 (Keep.of_wr W28).1
  have kp30 : Keep h0 h28 [a1] := kp27.wr W28 (Or.inl (List.mem_of_getElem? (i := 0) rfl))
  have V28 : Arv Z h28 a1 k1 .byte (16 : Int32) [(.int x0), (.int x1), (.int x2), (.int x3), (.int x4), (.int x5), (.int x6), (.int x7), (.int ((q3.toInt32).toInt8.toInt32)), (.int (((XT.ushrL q3 (8 : Int32)).toInt32).toInt8.toInt32)), (.int x10), (.int x11), (.int x12), (.int x13), (.int x14), (.int x15)] (.int (0 : Int32)) := Arv.set Ar28 q28 S28 M28 B28 G28 (fits_nar_byte _) W28 9 rfl (Nat.le_of_ble_eq_true rfl)
  have N28 := Fr.snoc X28 N25 g_a1
  show own_G p e below (T28.setTop (mkF m 17 #[.val (.ref a1), .val (.int (8 : Int32)), .val (.long q3), .second] [])) _
  refine own_go (fun _ k => XS.aloadN X28.here hx rfl (hb hby d1_17) rfl rfl k) ?_
  show own_G p e below (T28.setTop (mkF m 18 #[.val (.ref a1), .val (.int (8 : Int32)), .val (.long q3), .second] [(.ref a1)])) _
  refine own_go (fun _ k => XS.iloadN X28.here hx rfl (hb hby d1_18) rfl k) ?_
  show own_G p e below (T28.setTop (mkF m 19 #[.val (.ref a1), .val (.int (8 : Int32)), .val (.long q3), .second] [(.int (8 : Int32)), (.ref a1)])) _
  refine own_go (fun _ k => XS.iconst X28.here hx rfl (hb hby d1_19) k) ?_
  show own_G p e below (T28.setTop (mkF m 20 #[.val (.ref a1), .val (.int (8 : Int32)), .val (.long q3), .second] [(.int (2 : Int32)), (.int (8 : Int32)), (.ref a1)])) _
  refine own_go (fun _ k => XS.iadd X28.here hx rfl (hb hby d1_20) rfl k) ?_
  show own_G p e below (T28.setTop (mkF m 21 #[.val (.ref a1), .val (.int (8 : Int32)), .val (.long q3), .second] [(.int (10 : Int32)), (.ref a1)])) _
  refine own_go (fun _ k => XS.lloadN X28.here hx rfl (hb hby d1_21) rfl k) ?_
  show own_G p e below (T28.setTop (mkF m 22 #[.val (.ref a1), .val (.int (8 : Int32)), .val (.long q3), .second] [(.long q3), (.int (10 : Int32)), (.ref a1)])) _
  refine own_go (fun _ k => XS.bipush X28.here hx rfl (hb hby d1_22) k) ?_
  show own_G p e below (T28.setTop (mkF m 24 #[.val (.ref a1), .val (.int (8 : Int32)), .val (.long q3), .second] [(.int (16 : Int32)), (.long q3), (.int (10 : Int32)), (.ref a1)])) _
  refine own_go (fun _ k => XT.lushr X28.here hx rfl (hb hby d1_24) rfl k) ?_
  show own_G p e below (T28.setTop (mkF m 25 #[.val (.ref a1), .val (.int (8 : Int32)), .val (.long q3), .second] [(.long (XT.ushrL q3 (16 : Int32))), (.int (10 : Int32)), (.ref a1)])) _
  refine own_go (fun _ k => XS.l2i X28.here hx rfl (hb hby d1_25) rfl k) ?_
  show own_G p e below (T28.setTop (mkF m 26 #[.val (.ref a1), .val (.int (8 : Int32)), .val (.long q3), .second] [(.int ((XT.ushrL q3 (16 : Int32)).toInt32)), (.int (10 : Int32)), (.ref a1)])) _
  refine own_go (fun _ k => XS.i2b X28.here hx rfl (hb hby d1_26) rfl k) ?_
  show own_G p e below (T28.setTop (mkF m 27 #[.val (.ref a1), .val (.int (8 : Int32)), .val (.long q3), .second] [(.int (((XT.ushrL q3 (16 : Int32)).toInt32).toInt8.toInt32)), (.int (10 : Int32)), (.ref a1)])) _
  obtain ⟨cl31, Ar31, q31, S31, M31, B31, G31⟩ := id V28
  have hin31 : ¬ ((10 : Int32) < 0 ∨ cl31.slots.size ≤ ((10 : Int32)).toNatClampNeg) := inb_of S31 ⟨by decide, by decide⟩
  obtain ⟨T31, h31, X31, e31, W31, st31⟩ := stB X28 hx hZ e28 Ar31 (j := (10 : Int32)) hin31 (g := (mkF m 27 #[.val (.ref a1), .val (.int (8 : Int32)), .val (.long q3), .second] [(.int (((XT.ushrL q3 (16 : Int32)).toInt32).toInt8.toInt32)), (.int (10 : Int32)), (.ref a1)])) rfl rfl (hb hby d1_27)
  refine own_go st31 ?_
  rw [show nar .byte (((XT.ushrL q3 (16 : Int32)).toInt32).toInt8.toInt32) = (((XT.ushrL q3 (16 : Int32)).toInt32).toInt8.toInt32) from (own_bb _)] at W31
  have zs32 : n0 ≤ h31.size := Nat.le_trans zs29 (Keep.of_wr W31).1
  have kp33 : Keep h0 h31 [a1] := kp30.wr W31 (Or.inl (List.mem_of_getElem? (i := 0) rfl))
  have V31 : Arv Z h31 a1 k1 .byte (16 : Int32) [(.int x0), (.int x1), (.int x2), (.int x3), (.int x4), (.int x5), (.int x6), (.int x7), (.int ((q3.toInt32).toInt8.toInt32)), (.int (((XT.ushrL q3 (8 : Int32)).toInt32).toInt8.toInt32)), (.int (((XT.ushrL q3 (16 : Int32)).toInt32).toInt8.toInt32)), (.int x11), (.int x12), (.int x13), (.int x14), (.int x15)] (.int (0 : Int32)) := Arv.set Ar31 q31 S31 M31 B31 G31 (fits_nar_byte _) W31 10 rfl (Nat.le_of_ble_eq_true rfl)
  have N31 := Fr.snoc X31 N28 g_a1
  show own_G p e below (T31.setTop (mkF m 28 #[.val (.ref a1), .val (.int (8 : Int32)), .val (.long q3), .second] [])) _
  refine own_go (fun _ k => XS.aloadN X31.here hx rfl (hb hby d1_28) rfl rfl k) ?_
  show own_G p e below (T31.setTop (mkF m 29 #[.val (.ref a1), .val (.int (8 : Int32)), .val (.long q3), .second] [(.ref a1)])) _
  refine own_go (fun _ k => XS.iloadN X31.here hx rfl (hb hby d1_29) rfl k) ?_
  show own_G p e below (T31.setTop (mkF m 30 #[.val (.ref a1), .val (.int (8 : Int32)), .val (.long q3), .second] [(.int (8 : Int32)), (.ref a1)])) _
  refine own_go (fun _ k => XS.iconst X31.here hx rfl (hb hby d1_30) k) ?_
  show own_G p e below (T31.setTop (mkF m 31 #[.val (.ref a1), .val (.int (8 : Int32)), .val (.long q3), .second] [(.int (3 : Int32)), (.int (8 : Int32)), (.ref a1)])) _
  refine own_go (fun _ k => XS.iadd X31.here hx rfl (hb hby d1_31) rfl k) ?_
  show own_G p e below (T31.setTop (mkF m 32 #[.val (.ref a1), .val (.int (8 : Int32)), .val (.long q3), .second] [(.int (11 : Int32)), (.ref a1)])) _
  refine own_go (fun _ k => XS.lloadN X31.here hx rfl (hb hby d1_32) rfl k) ?_
  show own_G p e below (T31.setTop (mkF m 33 #[.val (.ref a1), .val (.int (8 : Int32)), .val (.long q3), .second] [(.long q3), (.int (11 : Int32)), (.ref a1)])) _
  refine own_go (fun _ k => XS.bipush X31.here hx rfl (hb hby d1_33) k) ?_
  show own_G p e below (T31.setTop (mkF m 35 #[.val (.ref a1), .val (.int (8 : Int32)), .val (.long q3), .second] [(.int (24 : Int32)), (.long q3), (.int (11 : Int32)), (.ref a1)])) _
  refine own_go (fun _ k => XT.lushr X31.here hx rfl (hb hby d1_35) rfl k) ?_
  show own_G p e below (T31.setTop (mkF m 36 #[.val (.ref a1), .val (.int (8 : Int32)), .val (.long q3), .second] [(.long (XT.ushrL q3 (24 : Int32))), (.int (11 : Int32)), (.ref a1)])) _
  refine own_go (fun _ k => XS.l2i X31.here hx rfl (hb hby d1_36) rfl k) ?_
  show own_G p e below (T31.setTop (mkF m 37 #[.val (.ref a1), .val (.int (8 : Int32)), .val (.long q3), .second] [(.int ((XT.ushrL q3 (24 : Int32)).toInt32)), (.int (11 : Int32)), (.ref a1)])) _
  refine own_go (fun _ k => XS.i2b X31.here hx rfl (hb hby d1_37) rfl k) ?_
  show own_G p e below (T31.setTop (mkF m 38 #[.val (.ref a1), .val (.int (8 : Int32)), .val (.long q3), .second] [(.int (((XT.ushrL q3 (24 : Int32)).toInt32).toInt8.toInt32)), (.int (11 : Int32)), (.ref a1)])) _
  obtain ⟨cl34, Ar34, q34, S34, M34, B34, G34⟩ := id V31
  have hin34 : ¬ ((11 : Int32) < 0 ∨ cl34.slots.size ≤ ((11 : Int32)).toNatClampNeg) := inb_of S34 ⟨by decide, by decide⟩
  obtain ⟨T34, h34, X34, e34, W34, st34⟩ := stB X31 hx hZ e31 Ar34 (j := (11 : Int32)) hin34 (g := (mkF m 38 #[.val (.ref a1), .val (.int (8 : Int32)), .val (.long q3), .second] [(.int (((XT.ushrL q3 (24 : Int32)).toInt32).toInt8.toInt32)), (.int (11 : Int32)), (.ref a1)])) rfl rfl (hb hby d1_38)
  refine own_go st34 ?_
  rw [show nar .byte (((XT.ushrL q3 (24 : Int32)).toInt32).toInt8.toInt32) = (((XT.ushrL q3 (24 : Int32)).toInt32).toInt8.toInt32) from (own_bb _)] at W34
  have zs35 : n0 ≤ h34.size := Nat.le_trans zs32 (Keep.of_wr W34).1
  have kp36 : Keep h0 h34 [a1] := kp33.wr W34 (Or.inl (List.mem_of_getElem? (i := 0) rfl))
  have V34 : Arv Z h34 a1 k1 .byte (16 : Int32) [(.int x0), (.int x1), (.int x2), (.int x3), (.int x4), (.int x5), (.int x6), (.int x7), (.int ((q3.toInt32).toInt8.toInt32)), (.int (((XT.ushrL q3 (8 : Int32)).toInt32).toInt8.toInt32)), (.int (((XT.ushrL q3 (16 : Int32)).toInt32).toInt8.toInt32)), (.int (((XT.ushrL q3 (24 : Int32)).toInt32).toInt8.toInt32)), (.int x12), (.int x13), (.int x14), (.int x15)] (.int (0 : Int32)) := Arv.set Ar34 q34 S34 M34 B34 G34 (fits_nar_byte _) W34 11 rfl (Nat.le_of_ble_eq_true rfl)
  have N34 := Fr.snoc X34 N31 g_a1
  show own_G p e below (T34.setTop (mkF m 39 #[.val (.ref a1), .val (.int (8 : Int32)), .val (.long q3), .second] [])) _
  refine own_go (fun _ k => XS.aloadN X34.here hx rfl (hb hby d1_39) rfl rfl k) ?_
  show own_G p e below (T34.setTop (mkF m 40 #[.val (.ref a1), .val (.int (8 : Int32)), .val (.long q3), .second] [(.ref a1)])) _
  refine own_go (fun _ k => XS.iloadN X34.here hx rfl (hb hby d1_40) rfl k) ?_
  show own_G p e below (T34.setTop (mkF m 41 #[.val (.ref a1), .val (.int (8 : Int32)), .val (.long q3), .second] [(.int (8 : Int32)), (.ref a1)])) _
  refine own_go (fun _ k => XS.iconst X34.here hx rfl (hb hby d1_41) k) ?_
  show own_G p e below (T34.setTop (mkF m 42 #[.val (.ref a1), .val (.int (8 : Int32)), .val (.long q3), .second] [(.int (4 : Int32)), (.int (8 : Int32)), (.ref a1)])) _
  refine own_go (fun _ k => XS.iadd X34.here hx rfl (hb hby d1_42) rfl k) ?_
  show own_G p e below (T34.setTop (mkF m 43 #[.val (.ref a1), .val (.int (8 : Int32)), .val (.long q3), .second] [(.int (12 : Int32)), (.ref a1)])) _
  refine own_go (fun _ k => XS.lloadN X34.here hx rfl (hb hby d1_43) rfl k) ?_
  show own_G p e below (T34.setTop (mkF m 44 #[.val (.ref a1), .val (.int (8 : Int32)), .val (.long q3), .second] [(.long q3), (.int (12 : Int32)), (.ref a1)])) _
  refine own_go (fun _ k => XS.bipush X34.here hx rfl (hb hby d1_44) k) ?_
  show own_G p e below (T34.setTop (mkF m 46 #[.val (.ref a1), .val (.int (8 : Int32)), .val (.long q3), .second] [(.int (32 : Int32)), (.long q3), (.int (12 : Int32)), (.ref a1)])) _
  refine own_go (fun _ k => XT.lushr X34.here hx rfl (hb hby d1_46) rfl k) ?_
  show own_G p e below (T34.setTop (mkF m 47 #[.val (.ref a1), .val (.int (8 : Int32)), .val (.long q3), .second] [(.long (XT.ushrL q3 (32 : Int32))), (.int (12 : Int32)), (.ref a1)])) _
  refine own_go (fun _ k => XS.l2i X34.here hx rfl (hb hby d1_47) rfl k) ?_
  show own_G p e below (T34.setTop (mkF m 48 #[.val (.ref a1), .val (.int (8 : Int32)), .val (.long q3), .second] [(.int ((XT.ushrL q3 (32 : Int32)).toInt32)), (.int (12 : Int32)), (.ref a1)])) _
  refine own_go (fun _ k => XS.i2b X34.here hx rfl (hb hby d1_48) rfl k) ?_
  show own_G p e below (T34.setTop (mkF m 49 #[.val (.ref a1), .val (.int (8 : Int32)), .val (.long q3), .second] [(.int (((XT.ushrL q3 (32 : Int32)).toInt32).toInt8.toInt32)), (.int (12 : Int32)), (.ref a1)])) _
  obtain ⟨cl37, Ar37, q37, S37, M37, B37, G37⟩ := id V34
  have hin37 : ¬ ((12 : Int32) < 0 ∨ cl37.slots.size ≤ ((12 : Int32)).toNatClampNeg) := inb_of S37 ⟨by decide, by decide⟩
  obtain ⟨T37, h37, X37, e37, W37, st37⟩ := stB X34 hx hZ e34 Ar37 (j := (12 : Int32)) hin37 (g := (mkF m 49 #[.val (.ref a1), .val (.int (8 : Int32)), .val (.long q3), .second] [(.int (((XT.ushrL q3 (32 : Int32)).toInt32).toInt8.toInt32)), (.int (12 : Int32)), (.ref a1)])) rfl rfl (hb hby d1_49)
  refine own_go st37 ?_
  rw [show nar .byte (((XT.ushrL q3 (32 : Int32)).toInt32).toInt8.toInt32) = (((XT.ushrL q3 (32 : Int32)).toInt32).toInt8.toInt32) from (own_bb _)] at W37
  have zs38 : n0 ≤ h37.size := Nat.le_trans zs35 (Keep.of_wr W37).1
  have kp39 : Keep h0 h37 [a1] := kp36.wr W37 (Or.inl (List.mem_of_getElem? (i := 0) rfl))
  have V37 : Arv Z h37 a1 k1 .byte (16 : Int32) [(.int x0), (.int x1), (.int x2), (.int x3), (.int x4), (.int x5), (.int x6), (.int x7), (.int ((q3.toInt32).toInt8.toInt32)), (.int (((XT.ushrL q3 (8 : Int32)).toInt32).toInt8.toInt32)), (.int (((XT.ushrL q3 (16 : Int32)).toInt32).toInt8.toInt32)), (.int (((XT.ushrL q3 (24 : Int32)).toInt32).toInt8.toInt32)), (.int (((XT.ushrL q3 (32 : Int32)).toInt32).toInt8.toInt32)), (.int x13), (.int x14), (.int x15)] (.int (0 : Int32)) := Arv.set Ar37 q37 S37 M37 B37 G37 (fits_nar_byte _) W37 12 rfl (Nat.le_of_ble_eq_true rfl)
  have N37 := Fr.snoc X37 N34 g_a1
  show own_G p e below (T37.setTop (mkF m 50 #[.val (.ref a1), .val (.int (8 : Int32)), .val (.long q3), .second] [])) _
  refine own_go (fun _ k => XS.aloadN X37.here hx rfl (hb hby d1_50) rfl rfl k) ?_
  show own_G p e below (T37.setTop (mkF m 51 #[.val (.ref a1), .val (.int (8 : Int32)), .val (.long q3), .second] [(.ref a1)])) _
  refine own_go (fun _ k => XS.iloadN X37.here hx rfl (hb hby d1_51) rfl k) ?_
  show own_G p e below (T37.setTop (mkF m 52 #[.val (.ref a1), .val (.int (8 : Int32)), .val (.long q3), .second] [(.int (8 : Int32)), (.ref a1)])) _
  refine own_go (fun _ k => XS.iconst X37.here hx rfl (hb hby d1_52) k) ?_
  show own_G p e below (T37.setTop (mkF m 53 #[.val (.ref a1), .val (.int (8 : Int32)), .val (.long q3), .second] [(.int (5 : Int32)), (.int (8 : Int32)), (.ref a1)])) _
  refine own_go (fun _ k => XS.iadd X37.here hx rfl (hb hby d1_53) rfl k) ?_
  show own_G p e below (T37.setTop (mkF m 54 #[.val (.ref a1), .val (.int (8 : Int32)), .val (.long q3), .second] [(.int (13 : Int32)), (.ref a1)])) _
  refine own_go (fun _ k => XS.lloadN X37.here hx rfl (hb hby d1_54) rfl k) ?_
  show own_G p e below (T37.setTop (mkF m 55 #[.val (.ref a1), .val (.int (8 : Int32)), .val (.long q3), .second] [(.long q3), (.int (13 : Int32)), (.ref a1)])) _
  refine own_go (fun _ k => XS.bipush X37.here hx rfl (hb hby d1_55) k) ?_
  show own_G p e below (T37.setTop (mkF m 57 #[.val (.ref a1), .val (.int (8 : Int32)), .val (.long q3), .second] [(.int (40 : Int32)), (.long q3), (.int (13 : Int32)), (.ref a1)])) _
  refine own_go (fun _ k => XT.lushr X37.here hx rfl (hb hby d1_57) rfl k) ?_
  show own_G p e below (T37.setTop (mkF m 58 #[.val (.ref a1), .val (.int (8 : Int32)), .val (.long q3), .second] [(.long (XT.ushrL q3 (40 : Int32))), (.int (13 : Int32)), (.ref a1)])) _
  refine own_go (fun _ k => XS.l2i X37.here hx rfl (hb hby d1_58) rfl k) ?_
  show own_G p e below (T37.setTop (mkF m 59 #[.val (.ref a1), .val (.int (8 : Int32)), .val (.long q3), .second] [(.int ((XT.ushrL q3 (40 : Int32)).toInt32)), (.int (13 : Int32)), (.ref a1)])) _
  refine own_go (fun _ k => XS.i2b X37.here hx rfl (hb hby d1_59) rfl k) ?_
  show own_G p e below (T37.setTop (mkF m 60 #[.val (.ref a1), .val (.int (8 : Int32)), .val (.long q3), .second] [(.int (((XT.ushrL q3 (40 : Int32)).toInt32).toInt8.toInt32)), (.int (13 : Int32)), (.ref a1)])) _
  obtain ⟨cl40, Ar40, q40, S40, M40, B40, G40⟩ := id V37
  have hin40 : ¬ ((13 : Int32) < 0 ∨ cl40.slots.size ≤ ((13 : Int32)).toNatClampNeg) := inb_of S40 ⟨by decide, by decide⟩
  obtain ⟨T40, h40, X40, e40, W40, st40⟩ := stB X37 hx hZ e37 Ar40 (j := (13 : Int32)) hin40 (g := (mkF m 60 #[.val (.ref a1), .val (.int (8 : Int32)), .val (.long q3), .second] [(.int (((XT.ushrL q3 (40 : Int32)).toInt32).toInt8.toInt32)), (.int (13 : Int32)), (.ref a1)])) rfl rfl (hb hby d1_60)
  refine own_go st40 ?_
  rw [show nar .byte (((XT.ushrL q3 (40 : Int32)).toInt32).toInt8.toInt32) = (((XT.ushrL q3 (40 : Int32)).toInt32).toInt8.toInt32) from (own_bb _)] at W40
  have zs41 : n0 ≤ h40.size := Nat.le_trans zs38 (Keep.of_wr W40).1
  have kp42 : Keep h0 h40 [a1] := kp39.wr W40 (Or.inl (List.mem_of_getElem? (i := 0) rfl))
  have V40 : Arv Z h40 a1 k1 .byte (16 : Int32) [(.int x0), (.int x1), (.int x2), (.int x3), (.int x4), (.int x5), (.int x6), (.int x7), (.int ((q3.toInt32).toInt8.toInt32)), (.int (((XT.ushrL q3 (8 : Int32)).toInt32).toInt8.toInt32)), (.int (((XT.ushrL q3 (16 : Int32)).toInt32).toInt8.toInt32)), (.int (((XT.ushrL q3 (24 : Int32)).toInt32).toInt8.toInt32)), (.int (((XT.ushrL q3 (32 : Int32)).toInt32).toInt8.toInt32)), (.int (((XT.ushrL q3 (40 : Int32)).toInt32).toInt8.toInt32)), (.int x14), (.int x15)] (.int (0 : Int32)) := Arv.set Ar40 q40 S40 M40 B40 G40 (fits_nar_byte _) W40 13 rfl (Nat.le_of_ble_eq_true rfl)
  have N40 := Fr.snoc X40 N37 g_a1
  show own_G p e below (T40.setTop (mkF m 61 #[.val (.ref a1), .val (.int (8 : Int32)), .val (.long q3), .second] [])) _
  refine own_go (fun _ k => XS.aloadN X40.here hx rfl (hb hby d1_61) rfl rfl k) ?_
  show own_G p e below (T40.setTop (mkF m 62 #[.val (.ref a1), .val (.int (8 : Int32)), .val (.long q3), .second] [(.ref a1)])) _
  refine own_go (fun _ k => XS.iloadN X40.here hx rfl (hb hby d1_62) rfl k) ?_
  show own_G p e below (T40.setTop (mkF m 63 #[.val (.ref a1), .val (.int (8 : Int32)), .val (.long q3), .second] [(.int (8 : Int32)), (.ref a1)])) _
  refine own_go (fun _ k => XS.bipush X40.here hx rfl (hb hby d1_63) k) ?_
  show own_G p e below (T40.setTop (mkF m 65 #[.val (.ref a1), .val (.int (8 : Int32)), .val (.long q3), .second] [(.int (6 : Int32)), (.int (8 : Int32)), (.ref a1)])) _
  refine own_go (fun _ k => XS.iadd X40.here hx rfl (hb hby d1_65) rfl k) ?_
  show own_G p e below (T40.setTop (mkF m 66 #[.val (.ref a1), .val (.int (8 : Int32)), .val (.long q3), .second] [(.int (14 : Int32)), (.ref a1)])) _
  refine own_go (fun _ k => XS.lloadN X40.here hx rfl (hb hby d1_66) rfl k) ?_
  show own_G p e below (T40.setTop (mkF m 67 #[.val (.ref a1), .val (.int (8 : Int32)), .val (.long q3), .second] [(.long q3), (.int (14 : Int32)), (.ref a1)])) _
  refine own_go (fun _ k => XS.bipush X40.here hx rfl (hb hby d1_67) k) ?_
  show own_G p e below (T40.setTop (mkF m 69 #[.val (.ref a1), .val (.int (8 : Int32)), .val (.long q3), .second] [(.int (48 : Int32)), (.long q3), (.int (14 : Int32)), (.ref a1)])) _
  refine own_go (fun _ k => XT.lushr X40.here hx rfl (hb hby d1_69) rfl k) ?_
  show own_G p e below (T40.setTop (mkF m 70 #[.val (.ref a1), .val (.int (8 : Int32)), .val (.long q3), .second] [(.long (XT.ushrL q3 (48 : Int32))), (.int (14 : Int32)), (.ref a1)])) _
  refine own_go (fun _ k => XS.l2i X40.here hx rfl (hb hby d1_70) rfl k) ?_
  show own_G p e below (T40.setTop (mkF m 71 #[.val (.ref a1), .val (.int (8 : Int32)), .val (.long q3), .second] [(.int ((XT.ushrL q3 (48 : Int32)).toInt32)), (.int (14 : Int32)), (.ref a1)])) _
  refine own_go (fun _ k => XS.i2b X40.here hx rfl (hb hby d1_71) rfl k) ?_
  show own_G p e below (T40.setTop (mkF m 72 #[.val (.ref a1), .val (.int (8 : Int32)), .val (.long q3), .second] [(.int (((XT.ushrL q3 (48 : Int32)).toInt32).toInt8.toInt32)), (.int (14 : Int32)), (.ref a1)])) _
  obtain ⟨cl43, Ar43, q43, S43, M43, B43, G43⟩ := id V40
  have hin43 : ¬ ((14 : Int32) < 0 ∨ cl43.slots.size ≤ ((14 : Int32)).toNatClampNeg) := inb_of S43 ⟨by decide, by decide⟩
  obtain ⟨T43, h43, X43, e43, W43, st43⟩ := stB X40 hx hZ e40 Ar43 (j := (14 : Int32)) hin43 (g := (mkF m 72 #[.val (.ref a1), .val (.int (8 : Int32)), .val (.long q3), .second] [(.int (((XT.ushrL q3 (48 : Int32)).toInt32).toInt8.toInt32)), (.int (14 : Int32)), (.ref a1)])) rfl rfl (hb hby d1_72)
  refine own_go st43 ?_
  rw [show nar .byte (((XT.ushrL q3 (48 : Int32)).toInt32).toInt8.toInt32) = (((XT.ushrL q3 (48 : Int32)).toInt32).toInt8.toInt32) from (own_bb _)] at W43
  have zs44 : n0 ≤ h43.size := Nat.le_trans zs41 (Keep.of_wr W43).1
  have kp45 : Keep h0 h43 [a1] := kp42.wr W43 (Or.inl (List.mem_of_getElem? (i := 0) rfl))
  have V43 : Arv Z h43 a1 k1 .byte (16 : Int32) [(.int x0), (.int x1), (.int x2), (.int x3), (.int x4), (.int x5), (.int x6), (.int x7), (.int ((q3.toInt32).toInt8.toInt32)), (.int (((XT.ushrL q3 (8 : Int32)).toInt32).toInt8.toInt32)), (.int (((XT.ushrL q3 (16 : Int32)).toInt32).toInt8.toInt32)), (.int (((XT.ushrL q3 (24 : Int32)).toInt32).toInt8.toInt32)), (.int (((XT.ushrL q3 (32 : Int32)).toInt32).toInt8.toInt32)), (.int (((XT.ushrL q3 (40 : Int32)).toInt32).toInt8.toInt32)), (.int (((XT.ushrL q3 (48 : Int32)).toInt32).toInt8.toInt32)), (.int x15)] (.int (0 : Int32)) := Arv.set Ar43 q43 S43 M43 B43 G43 (fits_nar_byte _) W43 14 rfl (Nat.le_of_ble_eq_true rfl)
  have N43 := Fr.snoc X43 N40 g_a1
  show own_G p e below (T43.setTop (mkF m 73 #[.val (.ref a1), .val (.int (8 : Int32)), .val (.long q3), .second] [])) _
  refine own_go (fun _ k => XS.aloadN X43.here hx rfl (hb hby d1_73) rfl rfl k) ?_
  show own_G p e below (T43.setTop (mkF m 74 #[.val (.ref a1), .val (.int (8 : Int32)), .val (.long q3), .second] [(.ref a1)])) _
  refine own_go (fun _ k => XS.iloadN X43.here hx rfl (hb hby d1_74) rfl k) ?_
  show own_G p e below (T43.setTop (mkF m 75 #[.val (.ref a1), .val (.int (8 : Int32)), .val (.long q3), .second] [(.int (8 : Int32)), (.ref a1)])) _
  refine own_go (fun _ k => XS.bipush X43.here hx rfl (hb hby d1_75) k) ?_
  show own_G p e below (T43.setTop (mkF m 77 #[.val (.ref a1), .val (.int (8 : Int32)), .val (.long q3), .second] [(.int (7 : Int32)), (.int (8 : Int32)), (.ref a1)])) _
  refine own_go (fun _ k => XS.iadd X43.here hx rfl (hb hby d1_77) rfl k) ?_
  show own_G p e below (T43.setTop (mkF m 78 #[.val (.ref a1), .val (.int (8 : Int32)), .val (.long q3), .second] [(.int (15 : Int32)), (.ref a1)])) _
  refine own_go (fun _ k => XS.lloadN X43.here hx rfl (hb hby d1_78) rfl k) ?_
  show own_G p e below (T43.setTop (mkF m 79 #[.val (.ref a1), .val (.int (8 : Int32)), .val (.long q3), .second] [(.long q3), (.int (15 : Int32)), (.ref a1)])) _
  refine own_go (fun _ k => XS.bipush X43.here hx rfl (hb hby d1_79) k) ?_
  show own_G p e below (T43.setTop (mkF m 81 #[.val (.ref a1), .val (.int (8 : Int32)), .val (.long q3), .second] [(.int (56 : Int32)), (.long q3), (.int (15 : Int32)), (.ref a1)])) _
  refine own_go (fun _ k => XT.lushr X43.here hx rfl (hb hby d1_81) rfl k) ?_
  show own_G p e below (T43.setTop (mkF m 82 #[.val (.ref a1), .val (.int (8 : Int32)), .val (.long q3), .second] [(.long (XT.ushrL q3 (56 : Int32))), (.int (15 : Int32)), (.ref a1)])) _
  refine own_go (fun _ k => XS.l2i X43.here hx rfl (hb hby d1_82) rfl k) ?_
  show own_G p e below (T43.setTop (mkF m 83 #[.val (.ref a1), .val (.int (8 : Int32)), .val (.long q3), .second] [(.int ((XT.ushrL q3 (56 : Int32)).toInt32)), (.int (15 : Int32)), (.ref a1)])) _
  refine own_go (fun _ k => XS.i2b X43.here hx rfl (hb hby d1_83) rfl k) ?_
  show own_G p e below (T43.setTop (mkF m 84 #[.val (.ref a1), .val (.int (8 : Int32)), .val (.long q3), .second] [(.int (((XT.ushrL q3 (56 : Int32)).toInt32).toInt8.toInt32)), (.int (15 : Int32)), (.ref a1)])) _
  obtain ⟨cl46, Ar46, q46, S46, M46, B46, G46⟩ := id V43
  have hin46 : ¬ ((15 : Int32) < 0 ∨ cl46.slots.size ≤ ((15 : Int32)).toNatClampNeg) := inb_of S46 ⟨by decide, by decide⟩
  obtain ⟨T46, h46, X46, e46, W46, st46⟩ := stB X43 hx hZ e43 Ar46 (j := (15 : Int32)) hin46 (g := (mkF m 84 #[.val (.ref a1), .val (.int (8 : Int32)), .val (.long q3), .second] [(.int (((XT.ushrL q3 (56 : Int32)).toInt32).toInt8.toInt32)), (.int (15 : Int32)), (.ref a1)])) rfl rfl (hb hby d1_84)
  refine own_go st46 ?_
  rw [show nar .byte (((XT.ushrL q3 (56 : Int32)).toInt32).toInt8.toInt32) = (((XT.ushrL q3 (56 : Int32)).toInt32).toInt8.toInt32) from (own_bb _)] at W46
  have zs47 : n0 ≤ h46.size := Nat.le_trans zs44 (Keep.of_wr W46).1
  have kp48 : Keep h0 h46 [a1] := kp45.wr W46 (Or.inl (List.mem_of_getElem? (i := 0) rfl))
  have V46 : Arv Z h46 a1 k1 .byte (16 : Int32) [(.int x0), (.int x1), (.int x2), (.int x3), (.int x4), (.int x5), (.int x6), (.int x7), (.int ((q3.toInt32).toInt8.toInt32)), (.int (((XT.ushrL q3 (8 : Int32)).toInt32).toInt8.toInt32)), (.int (((XT.ushrL q3 (16 : Int32)).toInt32).toInt8.toInt32)), (.int (((XT.ushrL q3 (24 : Int32)).toInt32).toInt8.toInt32)), (.int (((XT.ushrL q3 (32 : Int32)).toInt32).toInt8.toInt32)), (.int (((XT.ushrL q3 (40 : Int32)).toInt32).toInt8.toInt32)), (.int (((XT.ushrL q3 (48 : Int32)).toInt32).toInt8.toInt32)), (.int (((XT.ushrL q3 (56 : Int32)).toInt32).toInt8.toInt32))] (.int (0 : Int32)) := Arv.set Ar46 q46 S46 M46 B46 G46 (fits_nar_byte _) W46 15 rfl (Nat.le_of_ble_eq_true rfl)
  have N46 := Fr.snoc X46 N43 g_a1
  show own_G p e below (T46.setTop (mkF m 85 #[.val (.ref a1), .val (.int (8 : Int32)), .val (.long q3), .second] [])) _
  refine own_ret X46 hlk (v := none) (fun _ => rfl) (Q1_8 Z a1 q3 k1 x0 x1 x2 x3 x4 x5 x6 x7 x8 x9 x10 x11 x12 x13 x14 x15 h0 n0) (own_retV X46 hx hret (hb hby d1_85)) (by decide) (by decide) ?_
  show Q1_8 Z a1 q3 k1 x0 x1 x2 x3 x4 x5 x6 x7 x8 x9 x10 x11 x12 x13 x14 x15 h0 n0 _ T46.heap _
  rw [e46]
  exact ⟨rfl, N46, kp48, V46⟩
theorem ef_2 (m : MethodId) (a1 : Addr) : entryFrame m #[(.ref a1)] 1 = mkF m 0 #[.val (.ref a1)] [] := by first | (simp [entryFrame, mkF, argsToLocals, Value.category]; done) | rfl
def Q2 (Z : State) (a1 : Addr) (h0 : Heap) (n0 : Nat) (v : Option Value) (h : Heap) (L : List Loc) : Prop := ∃ (b : Addr) (k : ClassId), v = none ∧ Fr n0 L ∧ Keep h0 h [a1] ∧ h0.size ≤ b ∧ Exa Z h a1 "com/example/bitfold/bitfold/ByteArrayWriter" ∧ Fld Z h a1 "com/example/bitfold/bitfold/ByteArrayWriter" "bytes" "[B" (.ref b) ∧ Fld Z h a1 "com/example/bitfold/bitfold/ByteArrayWriter" "size" "I" (.int (0 : Int32)) ∧ Exa Z h b "[B" ∧ Arv Z h b k .byte (16 : Int32) [(.int (0 : Int32)), (.int (0 : Int32)), (.int (0 : Int32)), (.int (0 : Int32)), (.int (0 : Int32)), (.int (0 : Int32)), (.int (0 : Int32)), (.int (0 : Int32)), (.int (0 : Int32)), (.int (0 : Int32)), (.int (0 : Int32)), (.int (0 : Int32)), (.int (0 : Int32)), (.int (0 : Int32)), (.int (0 : Int32)), (.int (0 : Int32))] (.int (0 : Int32))
set_option maxRecDepth 65536 in
set_option maxHeartbeats 40000000 in
theorem rm2 (l : Launch) (Z : State) (a0 : Array Value) (hw : ∀ d ∈ tables_1, d.before a0 Z = true) (ws : List Jvm.Cond) (a1 : Addr) (h0 : Heap) (n0 : Nat) (Z0 : n0 ≤ h0.size) (E_a1 : Exa Z h0 a1 "com/example/bitfold/bitfold/ByteArrayWriter") (F_bytes_a1 : Fld Z h0 a1 "com/example/bitfold/bitfold/ByteArrayWriter" "bytes" "[B" .null) (F_size_a1 : Fld Z h0 a1 "com/example/bitfold/bitfold/ByteArrayWriter" "size" "I" (.int (0 : Int32))) (g_a1 : n0 ≤ a1) :
    MetFree l (⟨"com/example/bitfold/bitfold/ByteArrayWriter", "<init>", "()V"⟩ : MethodName) (head1 (Jvm.Cond.code (⟨"com/example/bitfold/bitfold/ByteArrayWriter", "<init>", "()V"⟩ : MethodName) prog_3_method_1_code 1 none :: ws) ({ frames := 1, cells := 1, slots := 16, locals := 12 } : Room)) (fun a U => a = #[(.ref a1)] ∧ Z.Warmed39 U.vm ∧ U.heap = h0) (fun _ _ _ _ _ => True) (fun _ U o U' => ∃ v L, o = .returned v ∧ Q2 Z a1 h0 n0 v U'.heap L ∧ FrameEnd U o U' L ({ frames := 1, cells := 1, slots := 16, locals := 12 } : Room).cells ({ frames := 1, cells := 1, slots := 16, locals := 12 } : Room).slots) := by
  refine MetFree.of_bodySF (plainFor_of_name pn_2) hisR ?_
  intro p e s m args below meth c s₁ Bd hml0 hP hK
  obtain ⟨rfl, hZ, hh⟩ := hP
  have hx := Bd.exec
  have hby := Bd.bytes
  have hml : c.maxLocals = 1 := hml0
  have hown : s.vm.findClass "com/example/bitfold/bitfold/ByteArrayWriter" = some m.cls := findClass_of_methodNamed Bd.named
  have hnm := (name_of_methodNamed Bd.named Bd.method).1
  have hlk := Bd.notSynchronized
  have hret := Bd.returns
  have X0 : Stand p l e ({ frames := 1, cells := 1, slots := 16, locals := 12 } : Room) s m #[(.ref a1)] below meth c s₁ [] 0 0 := Stand.of_body Bd
  have e0 : s₁.heap = h0 := by rw [← hh, Bd.state]; rfl
  have N0 := Fr.nil n0
  show own_G p e below (s₁.setTop (entryFrame m #[(.ref a1)] 1)) (fun s₂ o => ∃ v L, o = .returned v ∧ Q2 Z a1 h0 n0 v s₂.heap L ∧ FrameEnd s o s₂ L ({ frames := 1, cells := 1, slots := 16, locals := 12 } : Room).cells ({ frames := 1, cells := 1, slots := 16, locals := 12 } : Room).slots)
  refine own_go (fun t k => castTop (ef_2 m a1) k) ?_
  show own_G p e below (s₁.setTop (mkF m 0 #[.val (.ref a1)] [])) _
  refine own_go (fun _ k => XS.aloadN X0.here hx rfl (hb hby d2_0) rfl rfl k) ?_
  show own_G p e below (s₁.setTop (mkF m 1 #[.val (.ref a1)] [(.ref a1)])) _
  obtain ⟨T49, X49, e49, st49⟩ := initO X0 hx hZ hown (hw _ (List.mem_of_getElem? (i := 11) rfl)) (hw _ (List.mem_of_getElem? (i := 12) rfl)) (hw _ (List.mem_of_getElem? (i := 13) rfl)) e0 (g := (mkF m 1 #[.val (.ref a1)] [(.ref a1)])) rfl (by rw [hml]; rfl) rfl (hb hby d2_1) (by decide) (W := 0) (by show 2 * 0 + _ ≤ _; exact Nat.le_of_eq rfl) (by decide)
  refine own_go st49 ?_
  show own_G p e below (T49.setTop (mkF m 4 #[.val (.ref a1)] [])) _
  refine own_go (fun _ k => XS.aloadN X49.here hx rfl (hb hby d2_4) rfl rfl k) ?_
  show own_G p e below (T49.setTop (mkF m 5 #[.val (.ref a1)] [(.ref a1)])) _
  refine own_go (fun _ k => XS.bipush X49.here hx rfl (hb hby d2_5) k) ?_
  show own_G p e below (T49.setTop (mkF m 7 #[.val (.ref a1)] [(.int (16 : Int32)), (.ref a1)])) _
  obtain ⟨T50, h50, k50, X50, e50, E50, A50, Y50, st50⟩ := newPE X49 hx hZ (hw _ (List.mem_of_getElem? (i := 0) rfl)) e49 (g := (mkF m 7 #[.val (.ref a1)] [(.int (16 : Int32)), (.ref a1)])) rfl (hb hby d2_7) rfl (by decide) (cap := 16) (by decide) (by decide) (by decide) (by decide) (ad := "[B") (by decide)
  obtain ⟨b50, g50⟩ : ∃ z, z = h0.size := ⟨_, rfl⟩
  rw [← g50] at A50 Y50 st50
  refine own_go st50 ?_
  have ne51 : a1 ≠ b50 := Nat.ne_of_lt (Nat.lt_of_lt_of_le E_a1.lt (Nat.le_of_eq g50.symm))
  have ge52 : n0 ≤ b50 := Nat.le_trans Z0 (Nat.le_of_eq g50.symm)
  have sz53 : h0.size ≤ b50 := Nat.le_trans (Keep.refl h0 [a1]).1 (Nat.le_of_eq g50.symm)
  have f54 := E_a1.ext E50
  have f55 := F_bytes_a1.ext E50
  have f56 := F_size_a1.ext E50
  have zs57 : n0 ≤ h50.size := Nat.le_trans Z0 E50.1
  have kp58 : Keep h0 h50 [a1] := (Keep.refl h0 [a1]).ext E50
  have V50 : Arv Z h50 b50 k50 .byte (16 : Int32) [(.int (0 : Int32)), (.int (0 : Int32)), (.int (0 : Int32)), (.int (0 : Int32)), (.int (0 : Int32)), (.int (0 : Int32)), (.int (0 : Int32)), (.int (0 : Int32)), (.int (0 : Int32)), (.int (0 : Int32)), (.int (0 : Int32)), (.int (0 : Int32)), (.int (0 : Int32)), (.int (0 : Int32)), (.int (0 : Int32)), (.int (0 : Int32))] (.int (0 : Int32)) := (Arv.new A50 (by decide)).pad (pad_rep [] (.int (0 : Int32)) 16)
  show own_G p e below (T50.setTop (mkF m 9 #[.val (.ref a1)] [(.ref b50), (.ref a1)])) _
  obtain ⟨T59, h59, X59, e59, W59, st59⟩ := putF X50 hx hZ hown (host := "") (Or.inl (hw _ (List.mem_of_getElem? (i := 14) rfl))) Via.refl e50 f55 f54 (Or.inl (hw _ (List.mem_of_getElem? (i := 15) rfl))) (hw _ (List.mem_of_getElem? (i := 6) rfl)) (ty := (.array .byte)) (by decide) rfl rfl (g := (mkF m 9 #[.val (.ref a1)] [(.ref b50), (.ref a1)])) rfl rfl (hb hby d2_9)
  refine own_go st59 ?_
  have fw59 := f55.same W59
  have f60 := f54.wr W59
  have f61 := f56.other W59 (Or.inr (slot_ne (Or.inl (hw _ (List.mem_of_getElem? (i := 22) rfl))) (Or.inl (hw _ (List.mem_of_getElem? (i := 15) rfl))) (by decide) (t := .int) (t' := (.array .byte)) (by decide) (by decide)))
  have f62 := V50.other W59 (Ne.symm ne51)
  have f63 := Y50.wr W59
  have zs64 : n0 ≤ h59.size := Nat.le_trans zs57 (Keep.of_wr W59).1
  have kp65 : Keep h0 h59 [a1] := kp58.wr W59 (Or.inl (List.mem_of_getElem? (i := 0) rfl))
  have N59 := Fr.snoc X59 N0 g_a1
  show own_G p e below (T59.setTop (mkF m 12 #[.val (.ref a1)] [])) _
  refine own_ret X59 hlk (v := none) (fun _ => rfl) (Q2 Z a1 h0 n0) (own_retV X59 hx hret (hb hby d2_12)) (by decide) (by decide) ?_
  show Q2 Z a1 h0 n0 _ T59.heap _
  rw [e59]
  exact ⟨b50, k50, rfl, N59, kp65, sz53, f60, fw59, f61, f63, f62⟩
theorem ef_6 (m : MethodId) (p1 : Int32) (p2 : Int32) : entryFrame m #[(.int p1), (.int p2)] 2 = mkF m 0 #[.val (.int p1), .val (.int p2)] [] := by first | (simp [entryFrame, mkF, argsToLocals, Value.category]; done) | rfl
def Q6 (Z : State) (p1 : Int32) (p2 : Int32) (h0 : Heap) (n0 : Nat) (v : Option Value) (h : Heap) (L : List Loc) : Prop := v = some (.int (own_mini p1 p2)) ∧ Fr n0 L ∧ h = h0
set_option maxRecDepth 65536 in
set_option maxHeartbeats 40000000 in
theorem rm6 (l : Launch) (Z : State) (a0 : Array Value) (hw : ∀ d ∈ tables_1, d.before a0 Z = true) (ws : List Jvm.Cond) (p1 : Int32) (p2 : Int32) (h0 : Heap) (n0 : Nat) (Z0 : n0 ≤ h0.size)  :
    MetFree l (⟨"java/lang/Math", "min", "(II)I"⟩ : MethodName) (head1 (Jvm.Cond.code (⟨"java/lang/Math", "min", "(II)I"⟩ : MethodName) jdk_29_method_69_code 2 (some .int) :: ws) ({ frames := 0, cells := 0, slots := 0, locals := 0 } : Room)) (fun a U => a = #[(.int p1), (.int p2)] ∧ Z.Warmed39 U.vm ∧ U.heap = h0) (fun _ _ _ _ _ => True) (fun _ U o U' => ∃ v L, o = .returned v ∧ Q6 Z p1 p2 h0 n0 v U'.heap L ∧ FrameEnd U o U' L ({ frames := 0, cells := 0, slots := 0, locals := 0 } : Room).cells ({ frames := 0, cells := 0, slots := 0, locals := 0 } : Room).slots) := by
  refine MetFree.of_bodySF (Jvm.Free.JP.mathPlain rfl (by decide +kernel)) hisR ?_
  intro p e s m args below meth c s₁ Bd hml0 hP hK
  obtain ⟨rfl, hZ, hh⟩ := hP
  have hx := Bd.exec
  have hby := Bd.bytes
  have hml : c.maxLocals = 2 := hml0
  have hown : s.vm.findClass "java/lang/Math" = some m.cls := findClass_of_methodNamed Bd.named
  have hnm := (name_of_methodNamed Bd.named Bd.method).1
  have hlk := Bd.notSynchronized
  have hret := Bd.returns
  have X0 : Stand p l e ({ frames := 0, cells := 0, slots := 0, locals := 0 } : Room) s m #[(.int p1), (.int p2)] below meth c s₁ [] 0 0 := Stand.of_body Bd
  have e0 : s₁.heap = h0 := by rw [← hh, Bd.state]; rfl
  have N0 := Fr.nil n0
  show own_G p e below (s₁.setTop (entryFrame m #[(.int p1), (.int p2)] 2)) (fun s₂ o => ∃ v L, o = .returned v ∧ Q6 Z p1 p2 h0 n0 v s₂.heap L ∧ FrameEnd s o s₂ L ({ frames := 0, cells := 0, slots := 0, locals := 0 } : Room).cells ({ frames := 0, cells := 0, slots := 0, locals := 0 } : Room).slots)
  refine own_go (fun t k => castTop (ef_6 m p1 p2) k) ?_
  show own_G p e below (s₁.setTop (mkF m 0 #[.val (.int p1), .val (.int p2)] [])) _
  refine own_go (fun _ k => XS.iloadN X0.here hx rfl (hb hby d6_0) rfl k) ?_
  show own_G p e below (s₁.setTop (mkF m 1 #[.val (.int p1), .val (.int p2)] [(.int p1)])) _
  refine own_go (fun _ k => XS.iloadN X0.here hx rfl (hb hby d6_1) rfl k) ?_
  show own_G p e below (s₁.setTop (mkF m 2 #[.val (.int p1), .val (.int p2)] [(.int p2), (.int p1)])) _
  by_cases hc2_66 : p2 < p1
  · refine own_go (fun _ k => XS.icmpYes X0.here hx rfl (pc0 := 2) (pc' := 9) rfl (hb hby d6_2) rfl (tlt hc2_66).2.2.1 (by decide) (by decide) k) ?_
    show own_G p e below (s₁.setTop (mkF m 9 #[.val (.int p1), .val (.int p2)] [])) _
    refine own_go (fun _ k => XS.iloadN X0.here hx rfl (hb hby d6_9) rfl k) ?_
    show own_G p e below (s₁.setTop (mkF m 10 #[.val (.int p1), .val (.int p2)] [(.int p2)])) _
    refine own_ret X0 hlk (v := some (.int p2)) (fun h => by rw [hret] at h; cases h) (Q6 Z p1 p2 h0 n0) (own_retI X0 hx (t := .int) hret rfl (Or.inl ⟨rfl, by simp, _, rfl⟩) (hb hby d6_10)) (by decide) (by decide) ?_
    show Q6 Z p1 p2 h0 n0 _ s₁.heap _
    rw [e0]
    exact ⟨by simp [own_mini, hc2_66], N0, rfl⟩
  · refine own_go (fun _ k => XS.icmpNo X0.here hx rfl (hb hby d6_2) rfl (flt hc2_66).2.2.1 k) ?_
    show own_G p e below (s₁.setTop (mkF m 5 #[.val (.int p1), .val (.int p2)] [])) _
    refine own_go (fun _ k => XS.iloadN X0.here hx rfl (hb hby d6_5) rfl k) ?_
    show own_G p e below (s₁.setTop (mkF m 6 #[.val (.int p1), .val (.int p2)] [(.int p1)])) _
    refine own_go (fun _ k => XS.goto X0.here hx rfl (pc0 := 6) (pc' := 10) rfl (hb hby d6_6) (by decide) (by decide) k) ?_
    show own_G p e below (s₁.setTop (mkF m 10 #[.val (.int p1), .val (.int p2)] [(.int p1)])) _
    refine own_ret X0 hlk (v := some (.int p1)) (fun h => by rw [hret] at h; cases h) (Q6 Z p1 p2 h0 n0) (own_retI X0 hx (t := .int) hret rfl (Or.inl ⟨rfl, by simp, _, rfl⟩) (hb hby d6_10)) (by decide) (by decide) ?_
    show Q6 Z p1 p2 h0 n0 _ s₁.heap _
    rw [e0]
    exact ⟨by simp [own_mini, hc2_66], N0, rfl⟩
theorem ef_5 (m : MethodId) (a1 : Addr) (p2 : Int32) : entryFrame m #[(.ref a1), (.int p2)] 3 = mkF m 0 #[.val (.ref a1), .val (.int p2), .unset] [] := by first | (simp [entryFrame, mkF, argsToLocals, Value.category]; done) | rfl
def Q5 (Z : State) (a1 : Addr) (p2 : Int32) (k1 : ClassId) (z : Int32) (vs : List Value) (cap : Nat) (h0 : Heap) (n0 : Nat) (v : Option Value) (h : Heap) (L : List Loc) : Prop := ∃ (b : Addr) (k : ClassId), v = some (.ref b) ∧ Fr n0 L ∧ Keep h0 h [] ∧ h0.size ≤ b ∧ Exa Z h b "[B" ∧ Arv Z h b k .byte p2 (vs.take p2.toNatClampNeg) (.int (0 : Int32))
set_option maxRecDepth 65536 in
set_option maxHeartbeats 40000000 in
theorem rm5 (l : Launch) (Z : State) (a0 : Array Value) (hw : ∀ d ∈ tables_1, d.before a0 Z = true) (ws : List Jvm.Cond) (a1 : Addr) (p2 : Int32) (k1 : ClassId) (z : Int32) (vs : List Value) (cap : Nat) (h0 : Heap) (n0 : Nat) (Z0 : n0 ≤ h0.size) (V_a1 : Arv Z h0 a1 k1 .byte z vs (.int (0 : Int32))) (E_a1 : Exa Z h0 a1 "[B") (hp2 : ¬ p2 < (0 : Int32)) (hcap : p2.toNatClampNeg ≤ cap) (hcap8 : cap * 8 ≤ 536870912) (hvl : vs.length ≤ z.toNatClampNeg) :
    MetFree l (⟨"java/util/Arrays", "copyOf", "([BI)[B"⟩ : MethodName) (head1 (Jvm.Cond.code (⟨"java/util/Arrays", "copyOf", "([BI)[B"⟩ : MethodName) jdk_65_method_121_code 3 (some (.array .byte)) :: ws) ({ frames := 1, cells := 1, slots := cap, locals := 18 } : Room)) (fun a U => a = #[(.ref a1), (.int p2)] ∧ Z.Warmed39 U.vm ∧ U.heap = h0) (fun _ _ _ _ _ => True) (fun _ U o U' => ∃ v L, o = .returned v ∧ Q5 Z a1 p2 k1 z vs cap h0 n0 v U'.heap L ∧ FrameEnd U o U' L ({ frames := 1, cells := 1, slots := cap, locals := 18 } : Room).cells ({ frames := 1, cells := 1, slots := cap, locals := 18 } : Room).slots) := by
  refine MetFree.of_bodySF (plainFor_of_name pn_5) hisR ?_
  intro p e s m args below meth c s₁ Bd hml0 hP hK
  obtain ⟨rfl, hZ, hh⟩ := hP
  have hx := Bd.exec
  have hby := Bd.bytes
  have hml : c.maxLocals = 3 := hml0
  have hown : s.vm.findClass "java/util/Arrays" = some m.cls := findClass_of_methodNamed Bd.named
  have hnm := (name_of_methodNamed Bd.named Bd.method).1
  have hlk := Bd.notSynchronized
  have hret := Bd.returns
  have X0 : Stand p l e ({ frames := 1, cells := 1, slots := cap, locals := 18 } : Room) s m #[(.ref a1), (.int p2)] below meth c s₁ [] 0 0 := Stand.of_body Bd
  have e0 : s₁.heap = h0 := by rw [← hh, Bd.state]; rfl
  have N0 := Fr.nil n0
  show own_G p e below (s₁.setTop (entryFrame m #[(.ref a1), (.int p2)] 3)) (fun s₂ o => ∃ v L, o = .returned v ∧ Q5 Z a1 p2 k1 z vs cap h0 n0 v s₂.heap L ∧ FrameEnd s o s₂ L ({ frames := 1, cells := 1, slots := cap, locals := 18 } : Room).cells ({ frames := 1, cells := 1, slots := cap, locals := 18 } : Room).slots)
  refine own_go (fun t k => castTop (ef_5 m a1 p2) k) ?_
  have hz0 : ¬ z < 0 := by obtain ⟨_, _, _, _, q, _⟩ := V_a1; exact q
  show own_G p e below (s₁.setTop (mkF m 0 #[.val (.ref a1), .val (.int p2), .unset] [])) _
  refine own_go (fun _ k => XS.iloadN X0.here hx rfl (hb hby d5_0) rfl k) ?_
  show own_G p e below (s₁.setTop (mkF m 1 #[.val (.ref a1), .val (.int p2), .unset] [(.int p2)])) _
  refine own_go (fun _ k => XS.aloadN X0.here hx rfl (hb hby d5_1) rfl rfl k) ?_
  show own_G p e below (s₁.setTop (mkF m 2 #[.val (.ref a1), .val (.int p2), .unset] [(.ref a1), (.int p2)])) _
  obtain ⟨cl67, Ar67, q67, S67, M67, B67, G67⟩ := id V_a1
  refine own_go (X0.arraylength hx (by rw [e0]; exact Ar67.1) (State.isArrayOf_alike hZ.alike Ar67.2.1) (g := (mkF m 2 #[.val (.ref a1), .val (.int p2), .unset] [(.ref a1), (.int p2)])) rfl rfl (hb hby d5_2)) ?_
  rw [len_of S67 M67]
  show own_G p e below (s₁.setTop (mkF m 3 #[.val (.ref a1), .val (.int p2), .unset] [(.int z), (.int p2)])) _
  by_cases hc3_68 : p2 = z
  · refine own_go (fun _ k => XS.icmpNo X0.here hx rfl (hb hby d5_3) rfl (teq hc3_68).2 k) ?_
    have hceq : p2 = z := hc3_68
    show own_G p e below (s₁.setTop (mkF m 6 #[.val (.ref a1), .val (.int p2), .unset] [])) _
    refine own_go (fun _ k => XS.aloadN X0.here hx rfl (hb hby d5_6) rfl rfl k) ?_
    show own_G p e below (s₁.setTop (mkF m 7 #[.val (.ref a1), .val (.int p2), .unset] [(.ref a1)])) _
    obtain ⟨T69, h69, X69, e69, E69, A69, Y69, st69⟩ := cloneH X0 hx hZ hown (hw _ (List.mem_of_getElem? (i := 50) rfl)) (hw _ (List.mem_of_getElem? (i := 51) rfl)) (hw _ (List.mem_of_getElem? (i := 55) rfl)) (hw _ (List.mem_of_getElem? (i := 53) rfl)) (hw _ (List.mem_of_getElem? (i := 54) rfl)) (hw _ (List.mem_of_getElem? (i := 56) rfl)) e0 V_a1.arh E_a1 (g := (mkF m 7 #[.val (.ref a1), .val (.int p2), .unset] [(.ref a1)])) rfl (by rw [hml]; rfl) rfl (hb hby d5_7) (Nat.le_of_ble_eq_true rfl) (W := 0) (cap := cap) (by show 2 * 0 + _ ≤ _; exact Nat.le_of_eq rfl) (Nat.le_of_ble_eq_true rfl) (by rw [← hceq]; exact hcap) (Nat.le_of_ble_eq_true rfl) (by simp)
    obtain ⟨b69, g69⟩ : ∃ z, z = h0.size := ⟨_, rfl⟩
    rw [← g69] at A69 Y69 st69
    refine own_go st69 ?_
    have V69 : Arv Z h69 b69 k1 .byte z vs (.int (0 : Int32)) := A69
    have ne70 : a1 ≠ b69 := Nat.ne_of_lt (Nat.lt_of_lt_of_le V_a1.lt (Nat.le_of_eq g69.symm))
    have ge71 : n0 ≤ b69 := Nat.le_trans Z0 (Nat.le_of_eq g69.symm)
    have sz72 : h0.size ≤ b69 := Nat.le_trans (Keep.refl h0 []).1 (Nat.le_of_eq g69.symm)
    have f73 := V_a1.ext E69
    have f74 := E_a1.ext E69
    have zs75 : n0 ≤ h69.size := Nat.le_trans Z0 E69.1
    have kp76 : Keep h0 h69 [] := (Keep.refl h0 []).ext E69
    show own_G p e below (T69.setTop (mkF m 10 #[.val (.ref a1), .val (.int p2), .unset] [(.ref b69)])) _
    obtain ⟨T77, X77, e77, st77⟩ := castY X69 hx hZ hown (hw _ (List.mem_of_getElem? (i := 57) rfl)) e69 (Ins.self Y69) (g := (mkF m 10 #[.val (.ref a1), .val (.int p2), .unset] [(.ref b69)])) rfl rfl (hb hby d5_10)
    refine own_go st77 ?_
    show own_G p e below (T77.setTop (mkF m 13 #[.val (.ref a1), .val (.int p2), .unset] [(.ref b69)])) _
    refine own_ret X77 hlk (v := some (.ref b69)) (fun h => by rw [hret] at h; cases h) (Q5 Z a1 p2 k1 z vs cap h0 n0) (own_retI X77 hx (t := (.array .byte)) hret rfl (Or.inr (Or.inr (Or.inr (Or.inr ⟨rfl, rfl, rfl⟩)))) (hb hby d5_13)) (Nat.le_of_ble_eq_true rfl) (by simp) ?_
    show Q5 Z a1 p2 k1 z vs cap h0 n0 _ T77.heap _
    rw [e77]
    exact ⟨b69, k1, rfl, N0, kp76, sz72, Y69, own_cp1 hceq V69⟩
  · refine own_go (fun _ k => XS.icmpYes X0.here hx rfl (pc0 := 3) (pc' := 14) rfl (hb hby d5_3) rfl (feq hc3_68).2 (by decide) (by decide) k) ?_
    show own_G p e below (s₁.setTop (mkF m 14 #[.val (.ref a1), .val (.int p2), .unset] [])) _
    refine own_go (fun _ k => XS.iloadN X0.here hx rfl (hb hby d5_14) rfl k) ?_
    show own_G p e below (s₁.setTop (mkF m 15 #[.val (.ref a1), .val (.int p2), .unset] [(.int p2)])) _
    obtain ⟨T78, h78, k78, X78, e78, E78, A78, Y78, st78⟩ := newPE X0 hx hZ (hw _ (List.mem_of_getElem? (i := 0) rfl)) e0 (g := (mkF m 15 #[.val (.ref a1), .val (.int p2), .unset] [(.int p2)])) rfl (hb hby d5_15) rfl hp2 (cap := cap) hcap hcap8 (Nat.le_of_ble_eq_true rfl) (by simp) (ad := "[B") (by decide)
    obtain ⟨b78, g78⟩ : ∃ z, z = h0.size := ⟨_, rfl⟩
    rw [← g78] at A78 Y78 st78
    refine own_go st78 ?_
    have ne79 : a1 ≠ b78 := Nat.ne_of_lt (Nat.lt_of_lt_of_le V_a1.lt (Nat.le_of_eq g78.symm))
    have ge80 : n0 ≤ b78 := Nat.le_trans Z0 (Nat.le_of_eq g78.symm)
    have sz81 : h0.size ≤ b78 := Nat.le_trans (Keep.refl h0 []).1 (Nat.le_of_eq g78.symm)
    have f82 := V_a1.ext E78
    have f83 := E_a1.ext E78
    have zs84 : n0 ≤ h78.size := Nat.le_trans Z0 E78.1
    have kp85 : Keep h0 h78 [] := (Keep.refl h0 []).ext E78
    have V78 : Arv Z h78 b78 k78 .byte p2 [] (.int (0 : Int32)) := Arv.new A78 hp2
    show own_G p e below (T78.setTop (mkF m 17 #[.val (.ref a1), .val (.int p2), .unset] [(.ref b78)])) _
    refine own_go (fun _ k => XS.astoreN X78.here hx rfl (hb hby d5_17) rfl rfl (l' := #[.val (.ref a1), .val (.int p2), .val (.ref b78)]) rfl k) ?_
    show own_G p e below (T78.setTop (mkF m 18 #[.val (.ref a1), .val (.int p2), .val (.ref b78)] [])) _
    refine own_go (fun _ k => XS.aloadN X78.here hx rfl (hb hby d5_18) rfl rfl k) ?_
    show own_G p e below (T78.setTop (mkF m 19 #[.val (.ref a1), .val (.int p2), .val (.ref b78)] [(.ref a1)])) _
    refine own_go (fun _ k => XS.iconst X78.here hx rfl (hb hby d5_19) k) ?_
    show own_G p e below (T78.setTop (mkF m 20 #[.val (.ref a1), .val (.int p2), .val (.ref b78)] [(.int (0 : Int32)), (.ref a1)])) _
    refine own_go (fun _ k => XS.aloadN X78.here hx rfl (hb hby d5_20) rfl rfl k) ?_
    show own_G p e below (T78.setTop (mkF m 21 #[.val (.ref a1), .val (.int p2), .val (.ref b78)] [(.ref b78), (.int (0 : Int32)), (.ref a1)])) _
    refine own_go (fun _ k => XS.iconst X78.here hx rfl (hb hby d5_21) k) ?_
    show own_G p e below (T78.setTop (mkF m 22 #[.val (.ref a1), .val (.int p2), .val (.ref b78)] [(.int (0 : Int32)), (.ref b78), (.int (0 : Int32)), (.ref a1)])) _
    refine own_go (fun _ k => XS.aloadN X78.here hx rfl (hb hby d5_22) rfl rfl k) ?_
    show own_G p e below (T78.setTop (mkF m 23 #[.val (.ref a1), .val (.int p2), .val (.ref b78)] [(.ref a1), (.int (0 : Int32)), (.ref b78), (.int (0 : Int32)), (.ref a1)])) _
    obtain ⟨cl86, Ar86, q86, S86, M86, B86, G86⟩ := id f82
    refine own_go (X78.arraylength hx (by rw [e78]; exact Ar86.1) (State.isArrayOf_alike hZ.alike Ar86.2.1) (g := (mkF m 23 #[.val (.ref a1), .val (.int p2), .val (.ref b78)] [(.ref a1), (.int (0 : Int32)), (.ref b78), (.int (0 : Int32)), (.ref a1)])) rfl rfl (hb hby d5_23)) ?_
    rw [len_of S86 M86]
    show own_G p e below (T78.setTop (mkF m 24 #[.val (.ref a1), .val (.int p2), .val (.ref b78)] [(.int z), (.int (0 : Int32)), (.ref b78), (.int (0 : Int32)), (.ref a1)])) _
    refine own_go (fun _ k => XS.iloadN X78.here hx rfl (hb hby d5_24) rfl k) ?_
    show own_G p e below (T78.setTop (mkF m 25 #[.val (.ref a1), .val (.int p2), .val (.ref b78)] [(.int p2), (.int z), (.int (0 : Int32)), (.ref b78), (.int (0 : Int32)), (.ref a1)])) _
    obtain ⟨_, _, ⟨T87, L87, k87, n87⟩, -, X87, ⟨Lc87, hQ87, l87, y87, z87⟩, st87⟩ := Jvm.LawKit.callS X78 hx (y := (⟨"java/lang/Math", "min", "(II)I"⟩ : MethodName)) hown (mvT hZ (hw _ (List.mem_of_getElem? (i := 27) rfl))) (mvT hZ (hw _ (List.mem_of_getElem? (i := 28) rfl))) (mvT hZ (hw _ (List.mem_of_getElem? (i := 29) rfl))) (mvT hZ (hw _ (List.mem_of_getElem? (i := 30) rfl))) (by decide) (backOf (W := 4) (rm6 l Z a0 hw [] z p2 h78 n0 zs84 ) hZ (hw _ (List.mem_of_getElem? (i := 30) rfl)) (hw _ (List.mem_of_getElem? (i := 29) rfl)) (Nat.le_of_ble_eq_true rfl) (Nat.le_of_ble_eq_true rfl)) (g := (mkF m 25 #[.val (.ref a1), .val (.int p2), .val (.ref b78)] [(.int p2), (.int z), (.int (0 : Int32)), (.ref b78), (.int (0 : Int32)), (.ref a1)])) rfl (by rw [hml]; rfl) (argsL := [(.int z), (.int p2)]) (rest := [(.int (0 : Int32)), (.ref b78), (.int (0 : Int32)), (.ref a1)]) (lenOf pd_0 rfl) rfl (by show 2 * 0 + _ ≤ _; exact Nat.le_of_eq rfl) (hb hby d5_25) (fun _ _ => ⟨rfl, e78, (Nat.le_of_ble_eq_true rfl : 0 + 1 + 0 ≤ _), (by simp : 0 + cap + 0 ≤ _)⟩)
    dsimp only [Pt.U, Pt.locs, Pt.cells, Pt.slots] at X87 l87 y87 z87 st87 hQ87
    rw [l87, y87, z87] at X87
    obtain ⟨rfl, Nq87, hh87⟩ := hQ87
    have N87 := Fr.app N0 Nq87
    refine own_go st87 ?_
    have e87 : T87.heap = h78 := hh87
    show own_G p e below (T87.setTop (mkF m 28 #[.val (.ref a1), .val (.int p2), .val (.ref b78)] [(.int (own_mini z p2)), (.int (0 : Int32)), (.ref b78), (.int (0 : Int32)), (.ref a1)])) _
    have hmn := own_mini_le hz0 hp2
    obtain ⟨T88, h88, L88, X88, e88, N88, K88, V88, st88⟩ := cpA X87 hx hZ hown (hw _ (List.mem_of_getElem? (i := 31) rfl)) (hw _ (List.mem_of_getElem? (i := 34) rfl)) (hw _ (List.mem_of_getElem? (i := 32) rfl)) (hw _ (List.mem_of_getElem? (i := 33) rfl)) e87 f82 (V78.pad (pad_rep [] (.int (0 : Int32)) p2.toNatClampNeg)) (Or.inl ⟨rfl, rfl⟩) (by decide) (by decide) (own_mini_nn hz0 hp2) (by simpa using hmn.1) (by simpa using hmn.2.1) rfl (by simpa using hmn.2.1) N87 ge80 (g := (mkF m 28 #[.val (.ref a1), .val (.int p2), .val (.ref b78)] [(.int (own_mini z p2)), (.int (0 : Int32)), (.ref b78), (.int (0 : Int32)), (.ref a1)])) rfl (by rw [hml]; rfl) rfl (hb hby d5_28) (Nat.le_of_ble_eq_true rfl) (W := 0) (by show 2 * 0 + _ ≤ _; exact Nat.le_of_eq rfl) (Nat.le_of_ble_eq_true rfl)
    refine own_go st88 ?_
    have f89 := f82.keep K88 (ninS ne79 nin0)
    have f90 := f83.keep K88
    have f91 := Y78.keep K88
    have zs92 : n0 ≤ h88.size := Nat.le_trans zs84 K88.1
    have kp93 : Keep h0 h88 [] := kp85.trans K88 (allS (Or.inr sz81) all0)
    show own_G p e below (T88.setTop (mkF m 31 #[.val (.ref a1), .val (.int p2), .val (.ref b78)] [])) _
    refine own_go (fun _ k => XS.aloadN X88.here hx rfl (hb hby d5_31) rfl rfl k) ?_
    show own_G p e below (T88.setTop (mkF m 32 #[.val (.ref a1), .val (.int p2), .val (.ref b78)] [(.ref b78)])) _
    refine own_ret X88 hlk (v := some (.ref b78)) (fun h => by rw [hret] at h; cases h) (Q5 Z a1 p2 k1 z vs cap h0 n0) (own_retI X88 hx (t := (.array .byte)) hret rfl (Or.inr (Or.inr (Or.inr (Or.inr ⟨rfl, rfl, rfl⟩)))) (hb hby d5_32)) (Nat.le_of_ble_eq_true rfl) (by simp) ?_
    show Q5 Z a1 p2 k1 z vs cap h0 n0 _ T88.heap _
    rw [e88]
    exact ⟨b78, k78, rfl, N88, kp93, sz81, f91, own_cp2 hz0 hp2 hvl V88⟩
theorem ef_4 (m : MethodId) (a1 : Addr) : entryFrame m #[(.ref a1)] 1 = mkF m 0 #[.val (.ref a1)] [] := by first | (simp [entryFrame, mkF, argsToLocals, Value.category]; done) | rfl
def Q4 (Z : State) (a1 : Addr) (b : Addr) (k1 : ClassId) (z sz : Int32) (vs : List Value) (cap : Nat) (h0 : Heap) (n0 : Nat) (v : Option Value) (h : Heap) (L : List Loc) : Prop := ∃ (r : Addr) (k : ClassId), v = some (.ref r) ∧ Fr n0 L ∧ Keep h0 h [] ∧ h0.size ≤ r ∧ Exa Z h r "[B" ∧ Arv Z h r k .byte sz (vs.take sz.toNatClampNeg) (.int (0 : Int32))
set_option maxRecDepth 65536 in
set_option maxHeartbeats 40000000 in
theorem rm4 (l : Launch) (Z : State) (a0 : Array Value) (hw : ∀ d ∈ tables_1, d.before a0 Z = true) (ws : List Jvm.Cond) (a1 : Addr) (b : Addr) (k1 : ClassId) (z sz : Int32) (vs : List Value) (cap : Nat) (h0 : Heap) (n0 : Nat) (Z0 : n0 ≤ h0.size)  (F_bytes_a1 : Fld Z h0 a1 "com/example/bitfold/bitfold/ByteArrayWriter" "bytes" "[B" (.ref b)) (F_size_a1 : Fld Z h0 a1 "com/example/bitfold/bitfold/ByteArrayWriter" "size" "I" (.int sz)) (V_b : Arv Z h0 b k1 .byte z vs (.int (0 : Int32))) (E_b : Exa Z h0 b "[B") (hsz0 : ¬ sz < (0 : Int32)) (hcap : sz.toNatClampNeg ≤ cap) (hcap8 : cap * 8 ≤ 536870912) (hvl : vs.length ≤ z.toNatClampNeg) :
    MetFree l (⟨"com/example/bitfold/bitfold/ByteArrayWriter", "toByteArray", "()[B"⟩ : MethodName) (head1 (Jvm.Cond.code (⟨"com/example/bitfold/bitfold/ByteArrayWriter", "toByteArray", "()[B"⟩ : MethodName) prog_3_method_15_code 1 (some (.array .byte)) :: ws) ({ frames := 2, cells := 1, slots := cap, locals := 32 } : Room)) (fun a U => a = #[(.ref a1)] ∧ Z.Warmed39 U.vm ∧ U.heap = h0) (fun _ _ _ _ _ => True) (fun _ U o U' => ∃ v L, o = .returned v ∧ Q4 Z a1 b k1 z sz vs cap h0 n0 v U'.heap L ∧ FrameEnd U o U' L ({ frames := 2, cells := 1, slots := cap, locals := 32 } : Room).cells ({ frames := 2, cells := 1, slots := cap, locals := 32 } : Room).slots) := by
  refine MetFree.of_bodySF (plainFor_of_name pn_4) hisR ?_
  intro p e s m args below meth c s₁ Bd hml0 hP hK
  obtain ⟨rfl, hZ, hh⟩ := hP
  have hx := Bd.exec
  have hby := Bd.bytes
  have hml : c.maxLocals = 1 := hml0
  have hown : s.vm.findClass "com/example/bitfold/bitfold/ByteArrayWriter" = some m.cls := findClass_of_methodNamed Bd.named
  have hnm := (name_of_methodNamed Bd.named Bd.method).1
  have hlk := Bd.notSynchronized
  have hret := Bd.returns
  have X0 : Stand p l e ({ frames := 2, cells := 1, slots := cap, locals := 32 } : Room) s m #[(.ref a1)] below meth c s₁ [] 0 0 := Stand.of_body Bd
  have e0 : s₁.heap = h0 := by rw [← hh, Bd.state]; rfl
  have N0 := Fr.nil n0
  show own_G p e below (s₁.setTop (entryFrame m #[(.ref a1)] 1)) (fun s₂ o => ∃ v L, o = .returned v ∧ Q4 Z a1 b k1 z sz vs cap h0 n0 v s₂.heap L ∧ FrameEnd s o s₂ L ({ frames := 2, cells := 1, slots := cap, locals := 32 } : Room).cells ({ frames := 2, cells := 1, slots := cap, locals := 32 } : Room).slots)
  refine own_go (fun t k => castTop (ef_4 m a1) k) ?_
  show own_G p e below (s₁.setTop (mkF m 0 #[.val (.ref a1)] [])) _
  refine own_go (fun _ k => XS.aloadN X0.here hx rfl (hb hby d4_0) rfl rfl k) ?_
  show own_G p e below (s₁.setTop (mkF m 1 #[.val (.ref a1)] [(.ref a1)])) _
  obtain ⟨T94, X94, e94, st94⟩ := getF X0 hx hZ hown (host := "") (Or.inl (hw _ (List.mem_of_getElem? (i := 14) rfl))) Via.refl e0 F_bytes_a1 (g := (mkF m 1 #[.val (.ref a1)] [(.ref a1)])) rfl rfl (hb hby d4_1)
  refine own_go st94 ?_
  show own_G p e below (T94.setTop (mkF m 4 #[.val (.ref a1)] [(.ref b)])) _
  refine own_go (fun _ k => XS.aloadN X94.here hx rfl (hb hby d4_4) rfl rfl k) ?_
  show own_G p e below (T94.setTop (mkF m 5 #[.val (.ref a1)] [(.ref a1), (.ref b)])) _
  obtain ⟨T95, X95, e95, st95⟩ := getF X94 hx hZ hown (host := "") (Or.inl (hw _ (List.mem_of_getElem? (i := 21) rfl))) Via.refl e94 F_size_a1 (g := (mkF m 5 #[.val (.ref a1)] [(.ref a1), (.ref b)])) rfl rfl (hb hby d4_5)
  refine own_go st95 ?_
  show own_G p e below (T95.setTop (mkF m 8 #[.val (.ref a1)] [(.int sz), (.ref b)])) _
  obtain ⟨_, _, ⟨T96, L96, k96, n96⟩, -, X96, ⟨Lc96, hQ96, l96, y96, z96⟩, st96⟩ := Jvm.LawKit.callS X95 hx (y := (⟨"java/util/Arrays", "copyOf", "([BI)[B"⟩ : MethodName)) hown (mvT hZ (hw _ (List.mem_of_getElem? (i := 23) rfl))) (mvT hZ (hw _ (List.mem_of_getElem? (i := 24) rfl))) (mvT hZ (hw _ (List.mem_of_getElem? (i := 25) rfl))) (mvT hZ (hw _ (List.mem_of_getElem? (i := 26) rfl))) (by decide) (backOf (W := 0) (rm5 l Z a0 hw [] b sz k1 z vs cap h0 n0 Z0 V_b E_b hsz0 hcap hcap8 hvl) hZ (hw _ (List.mem_of_getElem? (i := 26) rfl)) (hw _ (List.mem_of_getElem? (i := 25) rfl)) (Nat.le_of_ble_eq_true rfl) (Nat.le_of_ble_eq_true rfl)) (g := (mkF m 8 #[.val (.ref a1)] [(.int sz), (.ref b)])) rfl (by rw [hml]; rfl) (argsL := [(.ref b), (.int sz)]) (rest := []) (lenOf pd_1 rfl) rfl (by show 2 * 0 + _ ≤ _; exact Nat.le_of_eq rfl) (hb hby d4_8) (fun _ _ => ⟨rfl, e95, (Nat.le_of_ble_eq_true rfl : 0 + 1 ≤ _), (by simp : 0 + cap ≤ _)⟩)
  dsimp only [Pt.U, Pt.locs, Pt.cells, Pt.slots] at X96 l96 y96 z96 st96 hQ96
  rw [l96, y96, z96] at X96
  obtain ⟨r96, k96q, rfl, Nq96, K96, hsz96, E96q, Vq96⟩ := hQ96
  have N96 := Fr.app N0 Nq96
  refine own_go st96 ?_
  have ne97 : a1 ≠ r96 := Nat.ne_of_lt (Nat.lt_of_lt_of_le F_bytes_a1.lt hsz96)
  have ne98 : b ≠ r96 := Nat.ne_of_lt (Nat.lt_of_lt_of_le V_b.lt hsz96)
  have ge99 : n0 ≤ r96 := Nat.le_trans Z0 hsz96
  have sz100 : h0.size ≤ r96 := Nat.le_trans (Keep.refl h0 []).1 hsz96
  have f101 := F_bytes_a1.keep K96 nin0
  have f102 := F_size_a1.keep K96 nin0
  have f103 := V_b.keep K96 nin0
  have f104 := E_b.keep K96
  have zs105 : n0 ≤ T96.heap.size := Nat.le_trans Z0 K96.1
  have kp106 : Keep h0 T96.heap [] := (Keep.refl h0 []).trans K96 all0
  show own_G p e below (T96.setTop (mkF m 11 #[.val (.ref a1)] [(.ref r96)])) _
  refine own_ret X96 hlk (v := some (.ref r96)) (fun h => by rw [hret] at h; cases h) (Q4 Z a1 b k1 z sz vs cap h0 n0) (own_retI X96 hx (t := (.array .byte)) hret rfl (Or.inr (Or.inr (Or.inr (Or.inr ⟨rfl, rfl, rfl⟩)))) (hb hby d4_11)) (Nat.le_of_ble_eq_true rfl) (by simp) ?_
  show Q4 Z a1 b k1 z sz vs cap h0 n0 _ T96.heap _
  exact ⟨r96, k96q, rfl, N96, kp106, sz100, E96q, Vq96⟩
theorem ef_7 (m : MethodId) (a1 : Addr) : entryFrame m #[(.ref a1)] 1 = mkF m 0 #[.val (.ref a1)] [] := by first | (simp [entryFrame, mkF, argsToLocals, Value.category]; done) | rfl
def Q7 (Z : State) (a1 : Addr) (sz : Int32) (h0 : Heap) (n0 : Nat) (v : Option Value) (h : Heap) (L : List Loc) : Prop := v = some (.int sz) ∧ Fr n0 L ∧ h = h0
set_option maxRecDepth 65536 in
set_option maxHeartbeats 40000000 in
theorem rm7 (l : Launch) (Z : State) (a0 : Array Value) (hw : ∀ d ∈ tables_1, d.before a0 Z = true) (ws : List Jvm.Cond) (a1 : Addr) (sz : Int32) (h0 : Heap) (n0 : Nat) (Z0 : n0 ≤ h0.size)  (F_size_a1 : Fld Z h0 a1 "com/example/bitfold/bitfold/ByteArrayWriter" "size" "I" (.int sz)) :
    MetFree l (⟨"com/example/bitfold/bitfold/ByteArrayWriter", "size", "()I"⟩ : MethodName) (head1 (Jvm.Cond.code (⟨"com/example/bitfold/bitfold/ByteArrayWriter", "size", "()I"⟩ : MethodName) prog_3_method_14_code 1 (some .int) :: ws) ({ frames := 0, cells := 0, slots := 0, locals := 0 } : Room)) (fun a U => a = #[(.ref a1)] ∧ Z.Warmed39 U.vm ∧ U.heap = h0) (fun _ _ _ _ _ => True) (fun _ U o U' => ∃ v L, o = .returned v ∧ Q7 Z a1 sz h0 n0 v U'.heap L ∧ FrameEnd U o U' L ({ frames := 0, cells := 0, slots := 0, locals := 0 } : Room).cells ({ frames := 0, cells := 0, slots := 0, locals := 0 } : Room).slots) := by
  refine MetFree.of_bodySF (plainFor_of_name pn_7) hisR ?_
  intro p e s m args below meth c s₁ Bd hml0 hP hK
  obtain ⟨rfl, hZ, hh⟩ := hP
  have hx := Bd.exec
  have hby := Bd.bytes
  have hml : c.maxLocals = 1 := hml0
  have hown : s.vm.findClass "com/example/bitfold/bitfold/ByteArrayWriter" = some m.cls := findClass_of_methodNamed Bd.named
  have hnm := (name_of_methodNamed Bd.named Bd.method).1
  have hlk := Bd.notSynchronized
  have hret := Bd.returns
  have X0 : Stand p l e ({ frames := 0, cells := 0, slots := 0, locals := 0 } : Room) s m #[(.ref a1)] below meth c s₁ [] 0 0 := Stand.of_body Bd
  have e0 : s₁.heap = h0 := by rw [← hh, Bd.state]; rfl
  have N0 := Fr.nil n0
  show own_G p e below (s₁.setTop (entryFrame m #[(.ref a1)] 1)) (fun s₂ o => ∃ v L, o = .returned v ∧ Q7 Z a1 sz h0 n0 v s₂.heap L ∧ FrameEnd s o s₂ L ({ frames := 0, cells := 0, slots := 0, locals := 0 } : Room).cells ({ frames := 0, cells := 0, slots := 0, locals := 0 } : Room).slots)
  refine own_go (fun t k => castTop (ef_7 m a1) k) ?_
  show own_G p e below (s₁.setTop (mkF m 0 #[.val (.ref a1)] [])) _
  refine own_go (fun _ k => XS.aloadN X0.here hx rfl (hb hby d7_0) rfl rfl k) ?_
  show own_G p e below (s₁.setTop (mkF m 1 #[.val (.ref a1)] [(.ref a1)])) _
  obtain ⟨T107, X107, e107, st107⟩ := getF X0 hx hZ hown (host := "") (Or.inl (hw _ (List.mem_of_getElem? (i := 21) rfl))) Via.refl e0 F_size_a1 (g := (mkF m 1 #[.val (.ref a1)] [(.ref a1)])) rfl rfl (hb hby d7_1)
  refine own_go st107 ?_
  show own_G p e below (T107.setTop (mkF m 4 #[.val (.ref a1)] [(.int sz)])) _
  refine own_ret X107 hlk (v := some (.int sz)) (fun h => by rw [hret] at h; cases h) (Q7 Z a1 sz h0 n0) (own_retI X107 hx (t := .int) hret rfl (Or.inl ⟨rfl, by simp, _, rfl⟩) (hb hby d7_4)) (by decide) (by decide) ?_
  show Q7 Z a1 sz h0 n0 _ T107.heap _
  rw [e107]
  exact ⟨rfl, N0, rfl⟩
theorem ef_13 (m : MethodId) (q1 : Int64) (q2 : Int64) : entryFrame m #[(.long q1), (.long q2)] 4 = mkF m 0 #[.val (.long q1), .second, .val (.long q2), .second] [] := by first | (simp [entryFrame, mkF, argsToLocals, Value.category]; done) | rfl
def Q13 (Z : State) (q1 : Int64) (q2 : Int64) (h0 : Heap) (n0 : Nat) (v : Option Value) (h : Heap) (L : List Loc) : Prop := ∃ z : Int64, v = some (.long z) ∧ Fr n0 L ∧ h = h0 ∧ z = own_min q1 q2
set_option maxRecDepth 65536 in
set_option maxHeartbeats 40000000 in
theorem rm13 (l : Launch) (Z : State) (a0 : Array Value) (hw : ∀ d ∈ tables_1, d.before a0 Z = true) (ws : List Jvm.Cond) (q1 : Int64) (q2 : Int64) (h0 : Heap) (n0 : Nat) (Z0 : n0 ≤ h0.size)  :
    MetFree l (⟨"java/lang/Math", "min", "(JJ)J"⟩ : MethodName) (head1 (Jvm.Cond.code (⟨"java/lang/Math", "min", "(JJ)J"⟩ : MethodName) jdk_29_method_70_code 4 (some .long) :: ws) ({ frames := 0, cells := 0, slots := 0, locals := 0 } : Room)) (fun a U => a = #[(.long q1), (.long q2)] ∧ Z.Warmed39 U.vm ∧ U.heap = h0) (fun _ _ _ _ _ => True) (fun _ U o U' => ∃ v L, o = .returned v ∧ Q13 Z q1 q2 h0 n0 v U'.heap L ∧ FrameEnd U o U' L ({ frames := 0, cells := 0, slots := 0, locals := 0 } : Room).cells ({ frames := 0, cells := 0, slots := 0, locals := 0 } : Room).slots) := by
  refine MetFree.of_bodySF (Jvm.Free.JP.mathPlain rfl (by decide +kernel)) hisR ?_
  intro p e s m args below meth c s₁ Bd hml0 hP hK
  obtain ⟨rfl, hZ, hh⟩ := hP
  have hx := Bd.exec
  have hby := Bd.bytes
  have hml : c.maxLocals = 4 := hml0
  have hown : s.vm.findClass "java/lang/Math" = some m.cls := findClass_of_methodNamed Bd.named
  have hnm := (name_of_methodNamed Bd.named Bd.method).1
  have hlk := Bd.notSynchronized
  have hret := Bd.returns
  have X0 : Stand p l e ({ frames := 0, cells := 0, slots := 0, locals := 0 } : Room) s m #[(.long q1), (.long q2)] below meth c s₁ [] 0 0 := Stand.of_body Bd
  have e0 : s₁.heap = h0 := by rw [← hh, Bd.state]; rfl
  have N0 := Fr.nil n0
  show own_G p e below (s₁.setTop (entryFrame m #[(.long q1), (.long q2)] 4)) (fun s₂ o => ∃ v L, o = .returned v ∧ Q13 Z q1 q2 h0 n0 v s₂.heap L ∧ FrameEnd s o s₂ L ({ frames := 0, cells := 0, slots := 0, locals := 0 } : Room).cells ({ frames := 0, cells := 0, slots := 0, locals := 0 } : Room).slots)
  refine own_go (fun t k => castTop (ef_13 m q1 q2) k) ?_
  show own_G p e below (s₁.setTop (mkF m 0 #[.val (.long q1), .second, .val (.long q2), .second] [])) _
  refine own_go (fun _ k => XS.lloadN X0.here hx rfl (hb hby d13_0) rfl k) ?_
  show own_G p e below (s₁.setTop (mkF m 1 #[.val (.long q1), .second, .val (.long q2), .second] [(.long q1)])) _
  refine own_go (fun _ k => XS.lloadN X0.here hx rfl (hb hby d13_1) rfl k) ?_
  show own_G p e below (s₁.setTop (mkF m 2 #[.val (.long q1), .second, .val (.long q2), .second] [(.long q2), (.long q1)])) _
  refine own_go (fun _ k => XS.lcmp X0.here hx rfl (hb hby d13_2) rfl k) ?_
  show own_G p e below (s₁.setTop (mkF m 3 #[.val (.long q1), .second, .val (.long q2), .second] [(.int (lcmpW q1 q2))])) _
  by_cases hc3_108 : q2 < q1
  · refine own_go (fun _ k => XS.ifYes X0.here hx rfl (pc0 := 3) (pc' := 10) rfl (hb hby d13_3) rfl ((if0 _ _).trans (tlt ((lw_gt _ _).mpr hc3_108)).2.2.1) (by decide) (by decide) k) ?_
    show own_G p e below (s₁.setTop (mkF m 10 #[.val (.long q1), .second, .val (.long q2), .second] [])) _
    refine own_go (fun _ k => XS.lloadN X0.here hx rfl (hb hby d13_10) rfl k) ?_
    show own_G p e below (s₁.setTop (mkF m 11 #[.val (.long q1), .second, .val (.long q2), .second] [(.long q2)])) _
    refine own_ret X0 hlk (v := some (.long q2)) (fun h => by rw [hret] at h; cases h) (Q13 Z q1 q2 h0 n0) (own_retI X0 hx (t := .long) hret rfl (Or.inr (Or.inl ⟨rfl, rfl, _, rfl⟩)) (hb hby d13_11)) (by decide) (by decide) ?_
    show Q13 Z q1 q2 h0 n0 _ s₁.heap _
    rw [e0]
    exact ⟨_, rfl, N0, rfl, by simp [own_min, hc3_108]⟩
  · refine own_go (fun _ k => XS.ifNo X0.here hx rfl (hb hby d13_3) rfl ((if0 _ _).trans (flt (fun q => hc3_108 ((lw_gt _ _).mp q))).2.2.1) k) ?_
    show own_G p e below (s₁.setTop (mkF m 6 #[.val (.long q1), .second, .val (.long q2), .second] [])) _
    refine own_go (fun _ k => XS.lloadN X0.here hx rfl (hb hby d13_6) rfl k) ?_
    show own_G p e below (s₁.setTop (mkF m 7 #[.val (.long q1), .second, .val (.long q2), .second] [(.long q1)])) _
    refine own_go (fun _ k => XS.goto X0.here hx rfl (pc0 := 7) (pc' := 11) rfl (hb hby d13_7) (by decide) (by decide) k) ?_
    show own_G p e below (s₁.setTop (mkF m 11 #[.val (.long q1), .second, .val (.long q2), .second] [(.long q1)])) _
    refine own_ret X0 hlk (v := some (.long q1)) (fun h => by rw [hret] at h; cases h) (Q13 Z q1 q2 h0 n0) (own_retI X0 hx (t := .long) hret rfl (Or.inr (Or.inl ⟨rfl, rfl, _, rfl⟩)) (hb hby d13_11)) (by decide) (by decide) ?_
    show Q13 Z q1 q2 h0 n0 _ s₁.heap _
    rw [e0]
    exact ⟨_, rfl, N0, rfl, by simp [own_min, hc3_108]⟩
theorem ef_12 (m : MethodId) (q1 : Int64) (q2 : Int64) : entryFrame m #[(.long q1), (.long q2)] 4 = mkF m 0 #[.val (.long q1), .second, .val (.long q2), .second] [] := by first | (simp [entryFrame, mkF, argsToLocals, Value.category]; done) | rfl
def Q12 (Z : State) (q1 : Int64) (q2 : Int64) (h0 : Heap) (n0 : Nat) (v : Option Value) (h : Heap) (L : List Loc) : Prop := ∃ z : Int64, v = some (.long z) ∧ Fr n0 L ∧ h = h0 ∧ z = own_max q1 q2
set_option maxRecDepth 65536 in
set_option maxHeartbeats 40000000 in
theorem rm12 (l : Launch) (Z : State) (a0 : Array Value) (hw : ∀ d ∈ tables_1, d.before a0 Z = true) (ws : List Jvm.Cond) (q1 : Int64) (q2 : Int64) (h0 : Heap) (n0 : Nat) (Z0 : n0 ≤ h0.size)  :
    MetFree l (⟨"java/lang/Math", "max", "(JJ)J"⟩ : MethodName) (head1 (Jvm.Cond.code (⟨"java/lang/Math", "max", "(JJ)J"⟩ : MethodName) jdk_29_method_66_code 4 (some .long) :: ws) ({ frames := 0, cells := 0, slots := 0, locals := 0 } : Room)) (fun a U => a = #[(.long q1), (.long q2)] ∧ Z.Warmed39 U.vm ∧ U.heap = h0) (fun _ _ _ _ _ => True) (fun _ U o U' => ∃ v L, o = .returned v ∧ Q12 Z q1 q2 h0 n0 v U'.heap L ∧ FrameEnd U o U' L ({ frames := 0, cells := 0, slots := 0, locals := 0 } : Room).cells ({ frames := 0, cells := 0, slots := 0, locals := 0 } : Room).slots) := by
  refine MetFree.of_bodySF (Jvm.Free.JP.mathPlain rfl (by decide +kernel)) hisR ?_
  intro p e s m args below meth c s₁ Bd hml0 hP hK
  obtain ⟨rfl, hZ, hh⟩ := hP
  have hx := Bd.exec
  have hby := Bd.bytes
  have hml : c.maxLocals = 4 := hml0
  have hown : s.vm.findClass "java/lang/Math" = some m.cls := findClass_of_methodNamed Bd.named
  have hnm := (name_of_methodNamed Bd.named Bd.method).1
  have hlk := Bd.notSynchronized
  have hret := Bd.returns
  have X0 : Stand p l e ({ frames := 0, cells := 0, slots := 0, locals := 0 } : Room) s m #[(.long q1), (.long q2)] below meth c s₁ [] 0 0 := Stand.of_body Bd
  have e0 : s₁.heap = h0 := by rw [← hh, Bd.state]; rfl
  have N0 := Fr.nil n0
  show own_G p e below (s₁.setTop (entryFrame m #[(.long q1), (.long q2)] 4)) (fun s₂ o => ∃ v L, o = .returned v ∧ Q12 Z q1 q2 h0 n0 v s₂.heap L ∧ FrameEnd s o s₂ L ({ frames := 0, cells := 0, slots := 0, locals := 0 } : Room).cells ({ frames := 0, cells := 0, slots := 0, locals := 0 } : Room).slots)
  refine own_go (fun t k => castTop (ef_12 m q1 q2) k) ?_
  show own_G p e below (s₁.setTop (mkF m 0 #[.val (.long q1), .second, .val (.long q2), .second] [])) _
  refine own_go (fun _ k => XS.lloadN X0.here hx rfl (hb hby d12_0) rfl k) ?_
  show own_G p e below (s₁.setTop (mkF m 1 #[.val (.long q1), .second, .val (.long q2), .second] [(.long q1)])) _
  refine own_go (fun _ k => XS.lloadN X0.here hx rfl (hb hby d12_1) rfl k) ?_
  show own_G p e below (s₁.setTop (mkF m 2 #[.val (.long q1), .second, .val (.long q2), .second] [(.long q2), (.long q1)])) _
  refine own_go (fun _ k => XS.lcmp X0.here hx rfl (hb hby d12_2) rfl k) ?_
  show own_G p e below (s₁.setTop (mkF m 3 #[.val (.long q1), .second, .val (.long q2), .second] [(.int (lcmpW q1 q2))])) _
  by_cases hc3_109 : q1 < q2
  · refine own_go (fun _ k => XS.ifYes X0.here hx rfl (pc0 := 3) (pc' := 10) rfl (hb hby d12_3) rfl ((if0 _ _).trans (tlt ((lw_lt _ _).mpr hc3_109)).1) (by decide) (by decide) k) ?_
    show own_G p e below (s₁.setTop (mkF m 10 #[.val (.long q1), .second, .val (.long q2), .second] [])) _
    refine own_go (fun _ k => XS.lloadN X0.here hx rfl (hb hby d12_10) rfl k) ?_
    show own_G p e below (s₁.setTop (mkF m 11 #[.val (.long q1), .second, .val (.long q2), .second] [(.long q2)])) _
    refine own_ret X0 hlk (v := some (.long q2)) (fun h => by rw [hret] at h; cases h) (Q12 Z q1 q2 h0 n0) (own_retI X0 hx (t := .long) hret rfl (Or.inr (Or.inl ⟨rfl, rfl, _, rfl⟩)) (hb hby d12_11)) (by decide) (by decide) ?_
    show Q12 Z q1 q2 h0 n0 _ s₁.heap _
    rw [e0]
    exact ⟨_, rfl, N0, rfl, by simp [own_max, hc3_109]⟩
  · refine own_go (fun _ k => XS.ifNo X0.here hx rfl (hb hby d12_3) rfl ((if0 _ _).trans (flt (fun q => hc3_109 ((lw_lt _ _).mp q))).1) k) ?_
    show own_G p e below (s₁.setTop (mkF m 6 #[.val (.long q1), .second, .val (.long q2), .second] [])) _
    refine own_go (fun _ k => XS.lloadN X0.here hx rfl (hb hby d12_6) rfl k) ?_
    show own_G p e below (s₁.setTop (mkF m 7 #[.val (.long q1), .second, .val (.long q2), .second] [(.long q1)])) _
    refine own_go (fun _ k => XS.goto X0.here hx rfl (pc0 := 7) (pc' := 11) rfl (hb hby d12_7) (by decide) (by decide) k) ?_
    show own_G p e below (s₁.setTop (mkF m 11 #[.val (.long q1), .second, .val (.long q2), .second] [(.long q1)])) _
    refine own_ret X0 hlk (v := some (.long q1)) (fun h => by rw [hret] at h; cases h) (Q12 Z q1 q2 h0 n0) (own_retI X0 hx (t := .long) hret rfl (Or.inr (Or.inl ⟨rfl, rfl, _, rfl⟩)) (hb hby d12_11)) (by decide) (by decide) ?_
    show Q12 Z q1 q2 h0 n0 _ s₁.heap _
    rw [e0]
    exact ⟨_, rfl, N0, rfl, by simp [own_max, hc3_109]⟩
theorem ef_9 (m : MethodId) (a1 : Addr) (p2 : Int32) : entryFrame m #[(.ref a1), (.int p2)] 6 = mkF m 0 #[.val (.ref a1), .val (.int p2), .unset, .unset, .unset, .unset] [] := by first | (simp [entryFrame, mkF, argsToLocals, Value.category]; done) | rfl
def Q9_0 (Z : State) (a1 : Addr) (b : Addr) (k1 : ClassId) (h0 : Heap) (n0 : Nat) (v : Option Value) (h : Heap) (L : List Loc) : Prop := v = none ∧ Fr n0 L ∧ h = h0
set_option maxRecDepth 65536 in
set_option maxHeartbeats 40000000 in
theorem rm9_0 (l : Launch) (Z : State) (a0 : Array Value) (hw : ∀ d ∈ tables_1, d.before a0 Z = true) (ws : List Jvm.Cond) (a1 : Addr) (b : Addr) (k1 : ClassId) (h0 : Heap) (n0 : Nat) (Z0 : n0 ≤ h0.size)  (F_bytes_a1 : Fld Z h0 a1 "com/example/bitfold/bitfold/ByteArrayWriter" "bytes" "[B" (.ref b)) (F_size_a1 : Fld Z h0 a1 "com/example/bitfold/bitfold/ByteArrayWriter" "size" "I" (.int (0 : Int32))) (V_b : Arv Z h0 b k1 .byte (16 : Int32) [(.int (0 : Int32)), (.int (0 : Int32)), (.int (0 : Int32)), (.int (0 : Int32)), (.int (0 : Int32)), (.int (0 : Int32)), (.int (0 : Int32)), (.int (0 : Int32)), (.int (0 : Int32)), (.int (0 : Int32)), (.int (0 : Int32)), (.int (0 : Int32)), (.int (0 : Int32)), (.int (0 : Int32)), (.int (0 : Int32)), (.int (0 : Int32))] (.int (0 : Int32))) :
    MetFree l (⟨"com/example/bitfold/bitfold/ByteArrayWriter", "ensureRoom", "(I)V"⟩ : MethodName) (head1 (Jvm.Cond.code (⟨"com/example/bitfold/bitfold/ByteArrayWriter", "ensureRoom", "(I)V"⟩ : MethodName) prog_3_method_19_code 6 none :: ws) ({ frames := 0, cells := 0, slots := 0, locals := 0 } : Room)) (fun a U => a = #[(.ref a1), (.int (16 : Int32))] ∧ Z.Warmed39 U.vm ∧ U.heap = h0) (fun _ _ _ _ _ => True) (fun _ U o U' => ∃ v L, o = .returned v ∧ Q9_0 Z a1 b k1 h0 n0 v U'.heap L ∧ FrameEnd U o U' L ({ frames := 0, cells := 0, slots := 0, locals := 0 } : Room).cells ({ frames := 0, cells := 0, slots := 0, locals := 0 } : Room).slots) := by
  refine MetFree.of_bodySF (plainFor_of_name pn_9) hisR ?_
  intro p e s m args below meth c s₁ Bd hml0 hP hK
  obtain ⟨rfl, hZ, hh⟩ := hP
  have hx := Bd.exec
  have hby := Bd.bytes
  have hml : c.maxLocals = 6 := hml0
  have hown : s.vm.findClass "com/example/bitfold/bitfold/ByteArrayWriter" = some m.cls := findClass_of_methodNamed Bd.named
  have hnm := (name_of_methodNamed Bd.named Bd.method).1
  have hlk := Bd.notSynchronized
  have hret := Bd.returns
  have X0 : Stand p l e ({ frames := 0, cells := 0, slots := 0, locals := 0 } : Room) s m #[(.ref a1), (.int (16 : Int32))] below meth c s₁ [] 0 0 := Stand.of_body Bd
  have e0 : s₁.heap = h0 := by rw [← hh, Bd.state]; rfl
  have N0 := Fr.nil n0
  show own_G p e below (s₁.setTop (entryFrame m #[(.ref a1), (.int (16 : Int32))] 6)) (fun s₂ o => ∃ v L, o = .returned v ∧ Q9_0 Z a1 b k1 h0 n0 v s₂.heap L ∧ FrameEnd s o s₂ L ({ frames := 0, cells := 0, slots := 0, locals := 0 } : Room).cells ({ frames := 0, cells := 0, slots := 0, locals := 0 } : Room).slots)
  refine own_go (fun t k => castTop (ef_9 m a1 (16 : Int32)) k) ?_
  show own_G p e below (s₁.setTop (mkF m 0 #[.val (.ref a1), .val (.int (16 : Int32)), .unset, .unset, .unset, .unset] [])) _
  refine own_go (fun _ k => XS.aloadN X0.here hx rfl (hb hby d9_0) rfl rfl k) ?_
  show own_G p e below (s₁.setTop (mkF m 1 #[.val (.ref a1), .val (.int (16 : Int32)), .unset, .unset, .unset, .unset] [(.ref a1)])) _
  obtain ⟨T110, X110, e110, st110⟩ := getF X0 hx hZ hown (host := "") (Or.inl (hw _ (List.mem_of_getElem? (i := 14) rfl))) Via.refl e0 F_bytes_a1 (g := (mkF m 1 #[.val (.ref a1), .val (.int (16 : Int32)), .unset, .unset, .unset, .unset] [(.ref a1)])) rfl rfl (hb hby d9_1)
  refine own_go st110 ?_
  show own_G p e below (T110.setTop (mkF m 4 #[.val (.ref a1), .val (.int (16 : Int32)), .unset, .unset, .unset, .unset] [(.ref b)])) _
  obtain ⟨cl111, Ar111, q111, S111, M111, B111, G111⟩ := id V_b
  refine own_go (X110.arraylength hx (by rw [e110]; exact Ar111.1) (State.isArrayOf_alike hZ.alike Ar111.2.1) (g := (mkF m 4 #[.val (.ref a1), .val (.int (16 : Int32)), .unset, .unset, .unset, .unset] [(.ref b)])) rfl rfl (hb hby d9_4)) ?_
  rw [len_of S111 M111]
  show own_G p e below (T110.setTop (mkF m 5 #[.val (.ref a1), .val (.int (16 : Int32)), .unset, .unset, .unset, .unset] [(.int (16 : Int32))])) _
  refine own_go (fun _ k => XS.aloadN X110.here hx rfl (hb hby d9_5) rfl rfl k) ?_
  show own_G p e below (T110.setTop (mkF m 6 #[.val (.ref a1), .val (.int (16 : Int32)), .unset, .unset, .unset, .unset] [(.ref a1), (.int (16 : Int32))])) _
  obtain ⟨T112, X112, e112, st112⟩ := getF X110 hx hZ hown (host := "") (Or.inl (hw _ (List.mem_of_getElem? (i := 21) rfl))) Via.refl e110 F_size_a1 (g := (mkF m 6 #[.val (.ref a1), .val (.int (16 : Int32)), .unset, .unset, .unset, .unset] [(.ref a1), (.int (16 : Int32))])) rfl rfl (hb hby d9_6)
  refine own_go st112 ?_
  show own_G p e below (T112.setTop (mkF m 9 #[.val (.ref a1), .val (.int (16 : Int32)), .unset, .unset, .unset, .unset] [(.int (0 : Int32)), (.int (16 : Int32))])) _
  refine own_go (fun _ k => XS.isub X112.here hx rfl (hb hby d9_9) rfl k) ?_
  show own_G p e below (T112.setTop (mkF m 10 #[.val (.ref a1), .val (.int (16 : Int32)), .unset, .unset, .unset, .unset] [(.int (16 : Int32))])) _
  refine own_go (fun _ k => XS.iloadN X112.here hx rfl (hb hby d9_10) rfl k) ?_
  show own_G p e below (T112.setTop (mkF m 11 #[.val (.ref a1), .val (.int (16 : Int32)), .unset, .unset, .unset, .unset] [(.int (16 : Int32)), (.int (16 : Int32))])) _
  refine own_go (fun _ k => XS.icmpNo X112.here hx rfl (hb hby d9_11) rfl (flt (by decide : ¬ ((16 : Int32) < (16 : Int32)))).1 k) ?_
  show own_G p e below (T112.setTop (mkF m 14 #[.val (.ref a1), .val (.int (16 : Int32)), .unset, .unset, .unset, .unset] [])) _
  refine own_ret X112 hlk (v := none) (fun _ => rfl) (Q9_0 Z a1 b k1 h0 n0) (own_retV X112 hx hret (hb hby d9_14)) (by decide) (by decide) ?_
  show Q9_0 Z a1 b k1 h0 n0 _ T112.heap _
  rw [e112]
  exact ⟨rfl, N0, rfl⟩
def Q9_1 (Z : State) (a1 : Addr) (b : Addr) (k1 : ClassId) (x0 x1 x2 x3 x4 x5 x6 x7 x8 x9 x10 x11 x12 x13 x14 x15 : Int32) (h0 : Heap) (n0 : Nat) (v : Option Value) (h : Heap) (L : List Loc) : Prop := ∃ (b : Addr) (k : ClassId), v = none ∧ Fr n0 L ∧ Keep h0 h [a1] ∧ h0.size ≤ b ∧ Exa Z h a1 "com/example/bitfold/bitfold/ByteArrayWriter" ∧ Fld Z h a1 "com/example/bitfold/bitfold/ByteArrayWriter" "bytes" "[B" (.ref b) ∧ Fld Z h a1 "com/example/bitfold/bitfold/ByteArrayWriter" "size" "I" (.int (16 : Int32)) ∧ Exa Z h b "[B" ∧ Arv Z h b k .byte (32 : Int32) [(.int x0), (.int x1), (.int x2), (.int x3), (.int x4), (.int x5), (.int x6), (.int x7), (.int x8), (.int x9), (.int x10), (.int x11), (.int x12), (.int x13), (.int x14), (.int x15), (.int (0 : Int32)), (.int (0 : Int32)), (.int (0 : Int32)), (.int (0 : Int32)), (.int (0 : Int32)), (.int (0 : Int32)), (.int (0 : Int32)), (.int (0 : Int32)), (.int (0 : Int32)), (.int (0 : Int32)), (.int (0 : Int32)), (.int (0 : Int32)), (.int (0 : Int32)), (.int (0 : Int32)), (.int (0 : Int32)), (.int (0 : Int32))] (.int (0 : Int32))
set_option maxRecDepth 65536 in
set_option maxHeartbeats 40000000 in
theorem rm9_1 (l : Launch) (Z : State) (a0 : Array Value) (hw : ∀ d ∈ tables_1, d.before a0 Z = true) (ws : List Jvm.Cond) (a1 : Addr) (b : Addr) (k1 : ClassId) (x0 x1 x2 x3 x4 x5 x6 x7 x8 x9 x10 x11 x12 x13 x14 x15 : Int32) (h0 : Heap) (n0 : Nat) (Z0 : n0 ≤ h0.size) (E_a1 : Exa Z h0 a1 "com/example/bitfold/bitfold/ByteArrayWriter") (F_bytes_a1 : Fld Z h0 a1 "com/example/bitfold/bitfold/ByteArrayWriter" "bytes" "[B" (.ref b)) (F_size_a1 : Fld Z h0 a1 "com/example/bitfold/bitfold/ByteArrayWriter" "size" "I" (.int (16 : Int32))) (g_a1 : n0 ≤ a1) (V_b : Arv Z h0 b k1 .byte (16 : Int32) [(.int x0), (.int x1), (.int x2), (.int x3), (.int x4), (.int x5), (.int x6), (.int x7), (.int x8), (.int x9), (.int x10), (.int x11), (.int x12), (.int x13), (.int x14), (.int x15)] (.int (0 : Int32))) (E_b : Exa Z h0 b "[B") :
    MetFree l (⟨"com/example/bitfold/bitfold/ByteArrayWriter", "ensureRoom", "(I)V"⟩ : MethodName) (head1 (Jvm.Cond.code (⟨"com/example/bitfold/bitfold/ByteArrayWriter", "ensureRoom", "(I)V"⟩ : MethodName) prog_3_method_19_code 6 none :: ws) ({ frames := 2, cells := 1, slots := 32, locals := 33 } : Room)) (fun a U => a = #[(.ref a1), (.int (1 : Int32))] ∧ Z.Warmed39 U.vm ∧ U.heap = h0) (fun _ _ _ _ _ => True) (fun _ U o U' => ∃ v L, o = .returned v ∧ Q9_1 Z a1 b k1 x0 x1 x2 x3 x4 x5 x6 x7 x8 x9 x10 x11 x12 x13 x14 x15 h0 n0 v U'.heap L ∧ FrameEnd U o U' L ({ frames := 2, cells := 1, slots := 32, locals := 33 } : Room).cells ({ frames := 2, cells := 1, slots := 32, locals := 33 } : Room).slots) := by
  refine MetFree.of_bodySF (plainFor_of_name pn_9) hisR ?_
  intro p e s m args below meth c s₁ Bd hml0 hP hK
  obtain ⟨rfl, hZ, hh⟩ := hP
  have hx := Bd.exec
  have hby := Bd.bytes
  have hml : c.maxLocals = 6 := hml0
  have hown : s.vm.findClass "com/example/bitfold/bitfold/ByteArrayWriter" = some m.cls := findClass_of_methodNamed Bd.named
  have hnm := (name_of_methodNamed Bd.named Bd.method).1
  have hlk := Bd.notSynchronized
  have hret := Bd.returns
  have X0 : Stand p l e ({ frames := 2, cells := 1, slots := 32, locals := 33 } : Room) s m #[(.ref a1), (.int (1 : Int32))] below meth c s₁ [] 0 0 := Stand.of_body Bd
  have e0 : s₁.heap = h0 := by rw [← hh, Bd.state]; rfl
  have N0 := Fr.nil n0
  show own_G p e below (s₁.setTop (entryFrame m #[(.ref a1), (.int (1 : Int32))] 6)) (fun s₂ o => ∃ v L, o = .returned v ∧ Q9_1 Z a1 b k1 x0 x1 x2 x3 x4 x5 x6 x7 x8 x9 x10 x11 x12 x13 x14 x15 h0 n0 v s₂.heap L ∧ FrameEnd s o s₂ L ({ frames := 2, cells := 1, slots := 32, locals := 33 } : Room).cells ({ frames := 2, cells := 1, slots := 32, locals := 33 } : Room).slots)
  refine own_go (fun t k => castTop (ef_9 m a1 (1 : Int32)) k) ?_
  have neab : a1 ≠ b := ne_exa E_a1 E_b (by decide)
  show own_G p e below (s₁.setTop (mkF m 0 #[.val (.ref a1), .val (.int (1 : Int32)), .unset, .unset, .unset, .unset] [])) _
  refine own_go (fun _ k => XS.aloadN X0.here hx rfl (hb hby d9_0) rfl rfl k) ?_
  show own_G p e below (s₁.setTop (mkF m 1 #[.val (.ref a1), .val (.int (1 : Int32)), .unset, .unset, .unset, .unset] [(.ref a1)])) _
  obtain ⟨T113, X113, e113, st113⟩ := getF X0 hx hZ hown (host := "") (Or.inl (hw _ (List.mem_of_getElem? (i := 14) rfl))) Via.refl e0 F_bytes_a1 (g := (mkF m 1 #[.val (.ref a1), .val (.int (1 : Int32)), .unset, .unset, .unset, .unset] [(.ref a1)])) rfl rfl (hb hby d9_1)
  refine own_go st113 ?_
  show own_G p e below (T113.setTop (mkF m 4 #[.val (.ref a1), .val (.int (1 : Int32)), .unset, .unset, .unset, .unset] [(.ref b)])) _
  obtain ⟨cl114, Ar114, q114, S114, M114, B114, G114⟩ := id V_b
  refine own_go (X113.arraylength hx (by rw [e113]; exact Ar114.1) (State.isArrayOf_alike hZ.alike Ar114.2.1) (g := (mkF m 4 #[.val (.ref a1), .val (.int (1 : Int32)), .unset, .unset, .unset, .unset] [(.ref b)])) rfl rfl (hb hby d9_4)) ?_
  rw [len_of S114 M114]
  show own_G p e below (T113.setTop (mkF m 5 #[.val (.ref a1), .val (.int (1 : Int32)), .unset, .unset, .unset, .unset] [(.int (16 : Int32))])) _
  refine own_go (fun _ k => XS.aloadN X113.here hx rfl (hb hby d9_5) rfl rfl k) ?_
  show own_G p e below (T113.setTop (mkF m 6 #[.val (.ref a1), .val (.int (1 : Int32)), .unset, .unset, .unset, .unset] [(.ref a1), (.int (16 : Int32))])) _
  obtain ⟨T115, X115, e115, st115⟩ := getF X113 hx hZ hown (host := "") (Or.inl (hw _ (List.mem_of_getElem? (i := 21) rfl))) Via.refl e113 F_size_a1 (g := (mkF m 6 #[.val (.ref a1), .val (.int (1 : Int32)), .unset, .unset, .unset, .unset] [(.ref a1), (.int (16 : Int32))])) rfl rfl (hb hby d9_6)
  refine own_go st115 ?_
  show own_G p e below (T115.setTop (mkF m 9 #[.val (.ref a1), .val (.int (1 : Int32)), .unset, .unset, .unset, .unset] [(.int (16 : Int32)), (.int (16 : Int32))])) _
  refine own_go (fun _ k => XS.isub X115.here hx rfl (hb hby d9_9) rfl k) ?_
  show own_G p e below (T115.setTop (mkF m 10 #[.val (.ref a1), .val (.int (1 : Int32)), .unset, .unset, .unset, .unset] [(.int (0 : Int32))])) _
  refine own_go (fun _ k => XS.iloadN X115.here hx rfl (hb hby d9_10) rfl k) ?_
  show own_G p e below (T115.setTop (mkF m 11 #[.val (.ref a1), .val (.int (1 : Int32)), .unset, .unset, .unset, .unset] [(.int (1 : Int32)), (.int (0 : Int32))])) _
  refine own_go (fun _ k => XS.icmpYes X115.here hx rfl (pc0 := 11) (pc' := 15) rfl (hb hby d9_11) rfl (tlt (by decide : (0 : Int32) < (1 : Int32))).1 (by decide) (by decide) k) ?_
  show own_G p e below (T115.setTop (mkF m 15 #[.val (.ref a1), .val (.int (1 : Int32)), .unset, .unset, .unset, .unset] [])) _
  refine own_go (fun _ k => XS.aloadN X115.here hx rfl (hb hby d9_15) rfl rfl k) ?_
  show own_G p e below (T115.setTop (mkF m 16 #[.val (.ref a1), .val (.int (1 : Int32)), .unset, .unset, .unset, .unset] [(.ref a1)])) _
  obtain ⟨T116, X116, e116, st116⟩ := getF X115 hx hZ hown (host := "") (Or.inl (hw _ (List.mem_of_getElem? (i := 21) rfl))) Via.refl e115 F_size_a1 (g := (mkF m 16 #[.val (.ref a1), .val (.int (1 : Int32)), .unset, .unset, .unset, .unset] [(.ref a1)])) rfl rfl (hb hby d9_16)
  refine own_go st116 ?_
  show own_G p e below (T116.setTop (mkF m 19 #[.val (.ref a1), .val (.int (1 : Int32)), .unset, .unset, .unset, .unset] [(.int (16 : Int32))])) _
  refine own_go (fun _ k => XS.i2l X116.here hx rfl (hb hby d9_19) rfl k) ?_
  show own_G p e below (T116.setTop (mkF m 20 #[.val (.ref a1), .val (.int (1 : Int32)), .unset, .unset, .unset, .unset] [(.long (16 : Int64))])) _
  refine own_go (fun _ k => XS.iloadN X116.here hx rfl (hb hby d9_20) rfl k) ?_
  show own_G p e below (T116.setTop (mkF m 21 #[.val (.ref a1), .val (.int (1 : Int32)), .unset, .unset, .unset, .unset] [(.int (1 : Int32)), (.long (16 : Int64))])) _
  refine own_go (fun _ k => XS.i2l X116.here hx rfl (hb hby d9_21) rfl k) ?_
  show own_G p e below (T116.setTop (mkF m 22 #[.val (.ref a1), .val (.int (1 : Int32)), .unset, .unset, .unset, .unset] [(.long (1 : Int64)), (.long (16 : Int64))])) _
  refine own_go (fun _ k => XS.ladd X116.here hx rfl (hb hby d9_22) rfl k) ?_
  show own_G p e below (T116.setTop (mkF m 23 #[.val (.ref a1), .val (.int (1 : Int32)), .unset, .unset, .unset, .unset] [(.long (17 : Int64))])) _
  refine own_go (fun _ k => XS.lstoreN X116.here hx rfl (hb hby d9_23) rfl (l' := #[.val (.ref a1), .val (.int (1 : Int32)), .val (.long (17 : Int64)), .second, .unset, .unset]) rfl k) ?_
  show own_G p e below (T116.setTop (mkF m 24 #[.val (.ref a1), .val (.int (1 : Int32)), .val (.long (17 : Int64)), .second, .unset, .unset] [])) _
  refine own_go (fun _ k => XS.lloadN X116.here hx rfl (hb hby d9_24) rfl k) ?_
  show own_G p e below (T116.setTop (mkF m 25 #[.val (.ref a1), .val (.int (1 : Int32)), .val (.long (17 : Int64)), .second, .unset, .unset] [(.long (17 : Int64))])) _
  refine own_go (X116.ldc2Long hx hown (mvT hZ (hw _ (List.mem_of_getElem? (i := 68) rfl))) (g := (mkF m 25 #[.val (.ref a1), .val (.int (1 : Int32)), .val (.long (17 : Int64)), .second, .unset, .unset] [(.long (17 : Int64))])) rfl (hb hby d9_25)) ?_
  show own_G p e below (T116.setTop (mkF m 28 #[.val (.ref a1), .val (.int (1 : Int32)), .val (.long (17 : Int64)), .second, .unset, .unset] [(.long (2147483639 : Int64)), (.long (17 : Int64))])) _
  refine own_go (fun _ k => XS.lcmp X116.here hx rfl (hb hby d9_28) rfl k) ?_
  show own_G p e below (T116.setTop (mkF m 29 #[.val (.ref a1), .val (.int (1 : Int32)), .val (.long (17 : Int64)), .second, .unset, .unset] [(.int (lcmpW (17 : Int64) (2147483639 : Int64)))])) _
  refine own_go (fun _ k => XS.ifYes X116.here hx rfl (pc0 := 29) (pc' := 49) rfl (hb hby d9_29) rfl ((if0 _ _).trans (flt (fun q => (by decide : ¬ ((2147483639 : Int64) < (17 : Int64))) ((lw_gt _ _).mp q))).2.2.2) (by decide) (by decide) k) ?_
  show own_G p e below (T116.setTop (mkF m 49 #[.val (.ref a1), .val (.int (1 : Int32)), .val (.long (17 : Int64)), .second, .unset, .unset] [])) _
  refine own_go (fun _ k => XS.lloadN X116.here hx rfl (hb hby d9_49) rfl k) ?_
  show own_G p e below (T116.setTop (mkF m 50 #[.val (.ref a1), .val (.int (1 : Int32)), .val (.long (17 : Int64)), .second, .unset, .unset] [(.long (17 : Int64))])) _
  refine own_go (X116.ldc2Long hx hown (mvT hZ (hw _ (List.mem_of_getElem? (i := 69) rfl))) (g := (mkF m 50 #[.val (.ref a1), .val (.int (1 : Int32)), .val (.long (17 : Int64)), .second, .unset, .unset] [(.long (17 : Int64))])) rfl (hb hby d9_50)) ?_
  show own_G p e below (T116.setTop (mkF m 53 #[.val (.ref a1), .val (.int (1 : Int32)), .val (.long (17 : Int64)), .second, .unset, .unset] [(.long (2 : Int64)), (.long (17 : Int64))])) _
  refine own_go (fun _ k => XS.aloadN X116.here hx rfl (hb hby d9_53) rfl rfl k) ?_
  show own_G p e below (T116.setTop (mkF m 54 #[.val (.ref a1), .val (.int (1 : Int32)), .val (.long (17 : Int64)), .second, .unset, .unset] [(.ref a1), (.long (2 : Int64)), (.long (17 : Int64))])) _
  obtain ⟨T117, X117, e117, st117⟩ := getF X116 hx hZ hown (host := "") (Or.inl (hw _ (List.mem_of_getElem? (i := 14) rfl))) Via.refl e116 F_bytes_a1 (g := (mkF m 54 #[.val (.ref a1), .val (.int (1 : Int32)), .val (.long (17 : Int64)), .second, .unset, .unset] [(.ref a1), (.long (2 : Int64)), (.long (17 : Int64))])) rfl rfl (hb hby d9_54)
  refine own_go st117 ?_
  show own_G p e below (T117.setTop (mkF m 57 #[.val (.ref a1), .val (.int (1 : Int32)), .val (.long (17 : Int64)), .second, .unset, .unset] [(.ref b), (.long (2 : Int64)), (.long (17 : Int64))])) _
  obtain ⟨cl118, Ar118, q118, S118, M118, B118, G118⟩ := id V_b
  refine own_go (X117.arraylength hx (by rw [e117]; exact Ar118.1) (State.isArrayOf_alike hZ.alike Ar118.2.1) (g := (mkF m 57 #[.val (.ref a1), .val (.int (1 : Int32)), .val (.long (17 : Int64)), .second, .unset, .unset] [(.ref b), (.long (2 : Int64)), (.long (17 : Int64))])) rfl rfl (hb hby d9_57)) ?_
  rw [len_of S118 M118]
  show own_G p e below (T117.setTop (mkF m 58 #[.val (.ref a1), .val (.int (1 : Int32)), .val (.long (17 : Int64)), .second, .unset, .unset] [(.int (16 : Int32)), (.long (2 : Int64)), (.long (17 : Int64))])) _
  refine own_go (fun _ k => XS.i2l X117.here hx rfl (hb hby d9_58) rfl k) ?_
  show own_G p e below (T117.setTop (mkF m 59 #[.val (.ref a1), .val (.int (1 : Int32)), .val (.long (17 : Int64)), .second, .unset, .unset] [(.long (16 : Int64)), (.long (2 : Int64)), (.long (17 : Int64))])) _
  refine own_go (fun _ k => XS.lmul X117.here hx rfl (hb hby d9_59) rfl k) ?_
  show own_G p e below (T117.setTop (mkF m 60 #[.val (.ref a1), .val (.int (1 : Int32)), .val (.long (17 : Int64)), .second, .unset, .unset] [(.long (32 : Int64)), (.long (17 : Int64))])) _
  obtain ⟨_, _, ⟨T119, L119, k119, n119⟩, -, X119, ⟨Lc119, hQ119, l119, y119, z119⟩, st119⟩ := Jvm.LawKit.callS X117 hx (y := (⟨"java/lang/Math", "max", "(JJ)J"⟩ : MethodName)) hown (mvT hZ (hw _ (List.mem_of_getElem? (i := 70) rfl))) (mvT hZ (hw _ (List.mem_of_getElem? (i := 71) rfl))) (mvT hZ (hw _ (List.mem_of_getElem? (i := 29) rfl))) (mvT hZ (hw _ (List.mem_of_getElem? (i := 72) rfl))) (by decide) (backOf (W := 0) (rm12 l Z a0 hw [] (17 : Int64) (32 : Int64) h0 n0 Z0 ) hZ (hw _ (List.mem_of_getElem? (i := 72) rfl)) (hw _ (List.mem_of_getElem? (i := 29) rfl)) (by decide) (by decide)) (g := (mkF m 60 #[.val (.ref a1), .val (.int (1 : Int32)), .val (.long (17 : Int64)), .second, .unset, .unset] [(.long (32 : Int64)), (.long (17 : Int64))])) rfl (by rw [hml]; rfl) (argsL := [(.long (17 : Int64)), (.long (32 : Int64))]) (rest := []) (lenOf pd_2 rfl) rfl (by show 2 * 0 + _ ≤ _; exact Nat.le_of_eq rfl) (hb hby d9_60) (fun _ _ => ⟨rfl, e117, (by decide : 0 + 0 ≤ _), (by decide : 0 + 0 ≤ _)⟩)
  dsimp only [Pt.U, Pt.locs, Pt.cells, Pt.slots] at X119 l119 y119 z119 st119 hQ119
  rw [l119, y119, z119] at X119
  obtain ⟨z119', rfl, Nq119, hh119, hz119⟩ := hQ119
  have N119 := Fr.app N0 Nq119
  refine own_go st119 ?_
  have e119 : T119.heap = h0 := hh119
  obtain rfl : z119' = (32 : Int64) := hz119.trans (by decide)
  show own_G p e below (T119.setTop (mkF m 63 #[.val (.ref a1), .val (.int (1 : Int32)), .val (.long (17 : Int64)), .second, .unset, .unset] [(.long (32 : Int64))])) _
  refine own_go (X119.ldc2Long hx hown (mvT hZ (hw _ (List.mem_of_getElem? (i := 68) rfl))) (g := (mkF m 63 #[.val (.ref a1), .val (.int (1 : Int32)), .val (.long (17 : Int64)), .second, .unset, .unset] [(.long (32 : Int64))])) rfl (hb hby d9_63)) ?_
  show own_G p e below (T119.setTop (mkF m 66 #[.val (.ref a1), .val (.int (1 : Int32)), .val (.long (17 : Int64)), .second, .unset, .unset] [(.long (2147483639 : Int64)), (.long (32 : Int64))])) _
  obtain ⟨_, _, ⟨T120, L120, k120, n120⟩, -, X120, ⟨Lc120, hQ120, l120, y120, z120⟩, st120⟩ := Jvm.LawKit.callS X119 hx (y := (⟨"java/lang/Math", "min", "(JJ)J"⟩ : MethodName)) hown (mvT hZ (hw _ (List.mem_of_getElem? (i := 73) rfl))) (mvT hZ (hw _ (List.mem_of_getElem? (i := 74) rfl))) (mvT hZ (hw _ (List.mem_of_getElem? (i := 29) rfl))) (mvT hZ (hw _ (List.mem_of_getElem? (i := 75) rfl))) (by decide) (backOf (W := 0) (rm13 l Z a0 hw [] (32 : Int64) (2147483639 : Int64) h0 n0 Z0 ) hZ (hw _ (List.mem_of_getElem? (i := 75) rfl)) (hw _ (List.mem_of_getElem? (i := 29) rfl)) (by decide) (by decide)) (g := (mkF m 66 #[.val (.ref a1), .val (.int (1 : Int32)), .val (.long (17 : Int64)), .second, .unset, .unset] [(.long (2147483639 : Int64)), (.long (32 : Int64))])) rfl (by rw [hml]; rfl) (argsL := [(.long (32 : Int64)), (.long (2147483639 : Int64))]) (rest := []) (lenOf pd_2 rfl) rfl (by show 2 * 0 + _ ≤ _; exact Nat.le_of_eq rfl) (hb hby d9_66) (fun _ _ => ⟨rfl, e119, (by decide : 0 + 0 + 0 ≤ _), (by decide : 0 + 0 + 0 ≤ _)⟩)
  dsimp only [Pt.U, Pt.locs, Pt.cells, Pt.slots] at X120 l120 y120 z120 st120 hQ120
  rw [l120, y120, z120] at X120
  obtain ⟨z120', rfl, Nq120, hh120, hz120⟩ := hQ120
  have N120 := Fr.app N119 Nq120
  refine own_go st120 ?_
  have e120 : T120.heap = h0 := hh120
  obtain rfl : z120' = (32 : Int64) := hz120.trans (by decide)
  show own_G p e below (T120.setTop (mkF m 69 #[.val (.ref a1), .val (.int (1 : Int32)), .val (.long (17 : Int64)), .second, .unset, .unset] [(.long (32 : Int64))])) _
  refine own_go (fun _ k => XS.lstore X120.here hx rfl (hb hby d9_69) rfl (l' := #[.val (.ref a1), .val (.int (1 : Int32)), .val (.long (17 : Int64)), .second, .val (.long (32 : Int64)), .second]) rfl k) ?_
  show own_G p e below (T120.setTop (mkF m 71 #[.val (.ref a1), .val (.int (1 : Int32)), .val (.long (17 : Int64)), .second, .val (.long (32 : Int64)), .second] [])) _
  refine own_go (fun _ k => XS.aloadN X120.here hx rfl (hb hby d9_71) rfl rfl k) ?_
  show own_G p e below (T120.setTop (mkF m 72 #[.val (.ref a1), .val (.int (1 : Int32)), .val (.long (17 : Int64)), .second, .val (.long (32 : Int64)), .second] [(.ref a1)])) _
  refine own_go (fun _ k => XS.aloadN X120.here hx rfl (hb hby d9_72) rfl rfl k) ?_
  show own_G p e below (T120.setTop (mkF m 73 #[.val (.ref a1), .val (.int (1 : Int32)), .val (.long (17 : Int64)), .second, .val (.long (32 : Int64)), .second] [(.ref a1), (.ref a1)])) _
  obtain ⟨T121, X121, e121, st121⟩ := getF X120 hx hZ hown (host := "") (Or.inl (hw _ (List.mem_of_getElem? (i := 14) rfl))) Via.refl e120 F_bytes_a1 (g := (mkF m 73 #[.val (.ref a1), .val (.int (1 : Int32)), .val (.long (17 : Int64)), .second, .val (.long (32 : Int64)), .second] [(.ref a1), (.ref a1)])) rfl rfl (hb hby d9_73)
  refine own_go st121 ?_
  show own_G p e below (T121.setTop (mkF m 76 #[.val (.ref a1), .val (.int (1 : Int32)), .val (.long (17 : Int64)), .second, .val (.long (32 : Int64)), .second] [(.ref b), (.ref a1)])) _
  refine own_go (fun _ k => XS.lload X121.here hx rfl (hb hby d9_76) rfl k) ?_
  show own_G p e below (T121.setTop (mkF m 78 #[.val (.ref a1), .val (.int (1 : Int32)), .val (.long (17 : Int64)), .second, .val (.long (32 : Int64)), .second] [(.long (32 : Int64)), (.ref b), (.ref a1)])) _
  refine own_go (fun _ k => XS.l2i X121.here hx rfl (hb hby d9_78) rfl k) ?_
  show own_G p e below (T121.setTop (mkF m 79 #[.val (.ref a1), .val (.int (1 : Int32)), .val (.long (17 : Int64)), .second, .val (.long (32 : Int64)), .second] [(.int (32 : Int32)), (.ref b), (.ref a1)])) _
  obtain ⟨_, _, ⟨T122, L122, k122, n122⟩, -, X122, ⟨Lc122, hQ122, l122, y122, z122⟩, st122⟩ := Jvm.LawKit.callS X121 hx (y := (⟨"java/util/Arrays", "copyOf", "([BI)[B"⟩ : MethodName)) hown (mvT hZ (hw _ (List.mem_of_getElem? (i := 23) rfl))) (mvT hZ (hw _ (List.mem_of_getElem? (i := 24) rfl))) (mvT hZ (hw _ (List.mem_of_getElem? (i := 25) rfl))) (mvT hZ (hw _ (List.mem_of_getElem? (i := 26) rfl))) (by decide) (backOf (W := 1) (rm5 l Z a0 hw [] b (32 : Int32) k1 (16 : Int32) [(.int x0), (.int x1), (.int x2), (.int x3), (.int x4), (.int x5), (.int x6), (.int x7), (.int x8), (.int x9), (.int x10), (.int x11), (.int x12), (.int x13), (.int x14), (.int x15)] 32 h0 n0 Z0 V_b E_b (by decide) (by decide) (by decide) (Nat.le_of_ble_eq_true rfl)) hZ (hw _ (List.mem_of_getElem? (i := 26) rfl)) (hw _ (List.mem_of_getElem? (i := 25) rfl)) (by decide) (by decide)) (g := (mkF m 79 #[.val (.ref a1), .val (.int (1 : Int32)), .val (.long (17 : Int64)), .second, .val (.long (32 : Int64)), .second] [(.int (32 : Int32)), (.ref b), (.ref a1)])) rfl (by rw [hml]; rfl) (argsL := [(.ref b), (.int (32 : Int32))]) (rest := [(.ref a1)]) (lenOf pd_1 rfl) rfl (by show 2 * 0 + _ ≤ _; exact Nat.le_of_eq rfl) (hb hby d9_79) (fun _ _ => ⟨rfl, e121, (by decide : 0 + 0 + 0 + 1 ≤ _), (by decide : 0 + 0 + 0 + 32 ≤ _)⟩)
  dsimp only [Pt.U, Pt.locs, Pt.cells, Pt.slots] at X122 l122 y122 z122 st122 hQ122
  rw [l122, y122, z122] at X122
  obtain ⟨b122, k122q, rfl, Nq122, K122, hsz122, E122q, Vq122⟩ := hQ122
  have N122 := Fr.app N120 Nq122
  refine own_go st122 ?_
  have ne123 : a1 ≠ b122 := Nat.ne_of_lt (Nat.lt_of_lt_of_le E_a1.lt hsz122)
  have ne124 : b ≠ b122 := Nat.ne_of_lt (Nat.lt_of_lt_of_le V_b.lt hsz122)
  have ge125 : n0 ≤ b122 := Nat.le_trans Z0 hsz122
  have sz126 : h0.size ≤ b122 := Nat.le_trans (Keep.refl h0 [a1]).1 hsz122
  have f127 := E_a1.keep K122
  have f128 := F_bytes_a1.keep K122 nin0
  have f129 := F_size_a1.keep K122 nin0
  have f130 := V_b.keep K122 nin0
  have f131 := E_b.keep K122
  have zs132 : n0 ≤ T122.heap.size := Nat.le_trans Z0 K122.1
  have kp133 : Keep h0 T122.heap [a1] := (Keep.refl h0 [a1]).trans K122 all0
  have V122 : Arv Z T122.heap b122 k122q .byte (32 : Int32) [(.int x0), (.int x1), (.int x2), (.int x3), (.int x4), (.int x5), (.int x6), (.int x7), (.int x8), (.int x9), (.int x10), (.int x11), (.int x12), (.int x13), (.int x14), (.int x15), (.int (0 : Int32)), (.int (0 : Int32)), (.int (0 : Int32)), (.int (0 : Int32)), (.int (0 : Int32)), (.int (0 : Int32)), (.int (0 : Int32)), (.int (0 : Int32)), (.int (0 : Int32)), (.int (0 : Int32)), (.int (0 : Int32)), (.int (0 : Int32)), (.int (0 : Int32)), (.int (0 : Int32)), (.int (0 : Int32)), (.int (0 : Int32))] (.int (0 : Int32)) := (show Arv Z T122.heap b122 k122q .byte (32 : Int32) [(.int x0), (.int x1), (.int x2), (.int x3), (.int x4), (.int x5), (.int x6), (.int x7), (.int x8), (.int x9), (.int x10), (.int x11), (.int x12), (.int x13), (.int x14), (.int x15)] (.int (0 : Int32)) from Vq122).pad (pad_rep [(.int x0), (.int x1), (.int x2), (.int x3), (.int x4), (.int x5), (.int x6), (.int x7), (.int x8), (.int x9), (.int x10), (.int x11), (.int x12), (.int x13), (.int x14), (.int x15)] (.int (0 : Int32)) 16)
  show own_G p e below (T122.setTop (mkF m 82 #[.val (.ref a1), .val (.int (1 : Int32)), .val (.long (17 : Int64)), .second, .val (.long (32 : Int64)), .second] [(.ref b122), (.ref a1)])) _
  obtain ⟨T134, h134, X134, e134, W134, st134⟩ := putF X122 hx hZ hown (host := "") (Or.inl (hw _ (List.mem_of_getElem? (i := 14) rfl))) Via.refl rfl f128 f127 (Or.inl (hw _ (List.mem_of_getElem? (i := 15) rfl))) (hw _ (List.mem_of_getElem? (i := 6) rfl)) (ty := (.array .byte)) (by decide) rfl rfl (g := (mkF m 82 #[.val (.ref a1), .val (.int (1 : Int32)), .val (.long (17 : Int64)), .second, .val (.long (32 : Int64)), .second] [(.ref b122), (.ref a1)])) rfl rfl (hb hby d9_82)
  refine own_go st134 ?_
  have fw134 := f128.same W134
  have f135 := f127.wr W134
  have f136 := f129.other W134 (Or.inr (slot_ne (Or.inl (hw _ (List.mem_of_getElem? (i := 22) rfl))) (Or.inl (hw _ (List.mem_of_getElem? (i := 15) rfl))) (by decide) (t := .int) (t' := (.array .byte)) (by decide) (by decide)))
  have f137 := f130.other W134 (Ne.symm neab)
  have f138 := f131.wr W134
  have f139 := V122.other W134 (Ne.symm ne123)
  have f140 := E122q.wr W134
  have zs141 : n0 ≤ h134.size := Nat.le_trans zs132 (Keep.of_wr W134).1
  have kp142 : Keep h0 h134 [a1] := kp133.wr W134 (Or.inl (List.mem_of_getElem? (i := 0) rfl))
  have N134 := Fr.snoc X134 N122 g_a1
  show own_G p e below (T134.setTop (mkF m 85 #[.val (.ref a1), .val (.int (1 : Int32)), .val (.long (17 : Int64)), .second, .val (.long (32 : Int64)), .second] [])) _
  refine own_ret X134 hlk (v := none) (fun _ => rfl) (Q9_1 Z a1 b k1 x0 x1 x2 x3 x4 x5 x6 x7 x8 x9 x10 x11 x12 x13 x14 x15 h0 n0) (own_retV X134 hx hret (hb hby d9_85)) (by decide) (by decide) ?_
  show Q9_1 Z a1 b k1 x0 x1 x2 x3 x4 x5 x6 x7 x8 x9 x10 x11 x12 x13 x14 x15 h0 n0 _ T134.heap _
  rw [e134]
  exact ⟨b122, k122q, rfl, N134, kp142, sz126, f135, fw134, f136, f140, f139⟩
theorem ef_8 (m : MethodId) (a1 : Addr) (a2 : Addr) : entryFrame m #[(.ref a1), (.ref a2)] 2 = mkF m 0 #[.val (.ref a1), .val (.ref a2)] [] := by first | (simp [entryFrame, mkF, argsToLocals, Value.category]; done) | rfl
def Q8 (Z : State) (a1 : Addr) (a2 : Addr) (b : Addr) (k1 k2 : ClassId) (x0 x1 x2 x3 x4 x5 x6 x7 x8 x9 x10 x11 x12 x13 x14 x15 : Int32) (h0 : Heap) (n0 : Nat) (v : Option Value) (h : Heap) (L : List Loc) : Prop := v = none ∧ Fr n0 L ∧ Keep h0 h [a1, b] ∧ Exa Z h a1 "com/example/bitfold/bitfold/ByteArrayWriter" ∧ Fld Z h a1 "com/example/bitfold/bitfold/ByteArrayWriter" "bytes" "[B" (.ref b) ∧ Fld Z h a1 "com/example/bitfold/bitfold/ByteArrayWriter" "size" "I" (.int (16 : Int32)) ∧ Exa Z h b "[B" ∧ Arv Z h b k1 .byte (16 : Int32) [(.int x0), (.int x1), (.int x2), (.int x3), (.int x4), (.int x5), (.int x6), (.int x7), (.int x8), (.int x9), (.int x10), (.int x11), (.int x12), (.int x13), (.int x14), (.int x15)] (.int (0 : Int32))
set_option maxRecDepth 65536 in
set_option maxHeartbeats 40000000 in
theorem rm8 (l : Launch) (Z : State) (a0 : Array Value) (hw : ∀ d ∈ tables_1, d.before a0 Z = true) (ws : List Jvm.Cond) (a1 : Addr) (a2 : Addr) (b : Addr) (k1 k2 : ClassId) (x0 x1 x2 x3 x4 x5 x6 x7 x8 x9 x10 x11 x12 x13 x14 x15 : Int32) (h0 : Heap) (n0 : Nat) (Z0 : n0 ≤ h0.size) (E_a1 : Exa Z h0 a1 "com/example/bitfold/bitfold/ByteArrayWriter") (F_bytes_a1 : Fld Z h0 a1 "com/example/bitfold/bitfold/ByteArrayWriter" "bytes" "[B" (.ref b)) (F_size_a1 : Fld Z h0 a1 "com/example/bitfold/bitfold/ByteArrayWriter" "size" "I" (.int (0 : Int32))) (g_a1 : n0 ≤ a1) (V_b : Arv Z h0 b k1 .byte (16 : Int32) [(.int (0 : Int32)), (.int (0 : Int32)), (.int (0 : Int32)), (.int (0 : Int32)), (.int (0 : Int32)), (.int (0 : Int32)), (.int (0 : Int32)), (.int (0 : Int32)), (.int (0 : Int32)), (.int (0 : Int32)), (.int (0 : Int32)), (.int (0 : Int32)), (.int (0 : Int32)), (.int (0 : Int32)), (.int (0 : Int32)), (.int (0 : Int32))] (.int (0 : Int32))) (E_b : Exa Z h0 b "[B") (g_b : n0 ≤ b) (V_a2 : Arv Z h0 a2 k2 .byte (16 : Int32) [(.int x0), (.int x1), (.int x2), (.int x3), (.int x4), (.int x5), (.int x6), (.int x7), (.int x8), (.int x9), (.int x10), (.int x11), (.int x12), (.int x13), (.int x14), (.int x15)] (.int (0 : Int32))) (E_a2 : Exa Z h0 a2 "[B") (ne2b : a2 ≠ b) :
    MetFree l (⟨"com/example/bitfold/bitfold/ByteArrayWriter", "writeBytes", "([B)V"⟩ : MethodName) (head1 (Jvm.Cond.code (⟨"com/example/bitfold/bitfold/ByteArrayWriter", "writeBytes", "([B)V"⟩ : MethodName) prog_3_method_13_code 2 none :: ws) ({ frames := 1, cells := 0, slots := 0, locals := 18 } : Room)) (fun a U => a = #[(.ref a1), (.ref a2)] ∧ Z.Warmed39 U.vm ∧ U.heap = h0) (fun _ _ _ _ _ => True) (fun _ U o U' => ∃ v L, o = .returned v ∧ Q8 Z a1 a2 b k1 k2 x0 x1 x2 x3 x4 x5 x6 x7 x8 x9 x10 x11 x12 x13 x14 x15 h0 n0 v U'.heap L ∧ FrameEnd U o U' L ({ frames := 1, cells := 0, slots := 0, locals := 18 } : Room).cells ({ frames := 1, cells := 0, slots := 0, locals := 18 } : Room).slots) := by
  refine MetFree.of_bodySF (plainFor_of_name pn_8) hisR ?_
  intro p e s m args below meth c s₁ Bd hml0 hP hK
  obtain ⟨rfl, hZ, hh⟩ := hP
  have hx := Bd.exec
  have hby := Bd.bytes
  have hml : c.maxLocals = 2 := hml0
  have hown : s.vm.findClass "com/example/bitfold/bitfold/ByteArrayWriter" = some m.cls := findClass_of_methodNamed Bd.named
  have hnm := (name_of_methodNamed Bd.named Bd.method).1
  have hlk := Bd.notSynchronized
  have hret := Bd.returns
  have X0 : Stand p l e ({ frames := 1, cells := 0, slots := 0, locals := 18 } : Room) s m #[(.ref a1), (.ref a2)] below meth c s₁ [] 0 0 := Stand.of_body Bd
  have e0 : s₁.heap = h0 := by rw [← hh, Bd.state]; rfl
  have N0 := Fr.nil n0
  show own_G p e below (s₁.setTop (entryFrame m #[(.ref a1), (.ref a2)] 2)) (fun s₂ o => ∃ v L, o = .returned v ∧ Q8 Z a1 a2 b k1 k2 x0 x1 x2 x3 x4 x5 x6 x7 x8 x9 x10 x11 x12 x13 x14 x15 h0 n0 v s₂.heap L ∧ FrameEnd s o s₂ L ({ frames := 1, cells := 0, slots := 0, locals := 18 } : Room).cells ({ frames := 1, cells := 0, slots := 0, locals := 18 } : Room).slots)
  refine own_go (fun t k => castTop (ef_8 m a1 a2) k) ?_
  have neab : a1 ≠ b := ne_exa E_a1 E_b (by decide)
  have nea2 : a1 ≠ a2 := ne_exa E_a1 E_a2 (by decide)
  show own_G p e below (s₁.setTop (mkF m 0 #[.val (.ref a1), .val (.ref a2)] [])) _
  refine own_go (fun _ k => XS.aloadN X0.here hx rfl (hb hby d8_0) rfl rfl k) ?_
  show own_G p e below (s₁.setTop (mkF m 1 #[.val (.ref a1), .val (.ref a2)] [(.ref a1)])) _
  refine own_go (fun _ k => XS.aloadN X0.here hx rfl (hb hby d8_1) rfl rfl k) ?_
  show own_G p e below (s₁.setTop (mkF m 2 #[.val (.ref a1), .val (.ref a2)] [(.ref a2), (.ref a1)])) _
  obtain ⟨cl143, Ar143, q143, S143, M143, B143, G143⟩ := id V_a2
  refine own_go (X0.arraylength hx (by rw [e0]; exact Ar143.1) (State.isArrayOf_alike hZ.alike Ar143.2.1) (g := (mkF m 2 #[.val (.ref a1), .val (.ref a2)] [(.ref a2), (.ref a1)])) rfl rfl (hb hby d8_2)) ?_
  rw [len_of S143 M143]
  show own_G p e below (s₁.setTop (mkF m 3 #[.val (.ref a1), .val (.ref a2)] [(.int (16 : Int32)), (.ref a1)])) _
  obtain ⟨cq144, q144, q144'⟩ := E_a1.cell
  obtain ⟨_, _, ⟨T144, L144, k144, n144⟩, -, X144, ⟨Lc144, hQ144, l144, y144, z144⟩, st144⟩ := X0.privateBack hx (y := (⟨"com/example/bitfold/bitfold/ByteArrayWriter", "ensureRoom", "(I)V"⟩ : MethodName)) hown (mvT hZ (hw _ (List.mem_of_getElem? (i := 45) rfl))) (mvT hZ (hw _ (List.mem_of_getElem? (i := 46) rfl))) (own_selects (mvT hZ (hw _ (List.mem_of_getElem? (i := 6) rfl))) (mvP hZ (hw _ (List.mem_of_getElem? (i := 47) rfl))) (mvT hZ (hw _ (List.mem_of_getElem? (i := 46) rfl))) (by decide)) (Cond.privateMethod_at (mvP hZ (hw _ (List.mem_of_getElem? (i := 47) rfl)) (args := #[]))) (mvT hZ (hw _ (List.mem_of_getElem? (i := 48) rfl))) (by decide) (backOf (W := 0) (rm9_0 l Z a0 hw [] a1 b k1 h0 n0 Z0 F_bytes_a1 F_size_a1 V_b) hZ (hw _ (List.mem_of_getElem? (i := 48) rfl)) (hw _ (List.mem_of_getElem? (i := 7) rfl)) (by decide) (by decide)) (g := (mkF m 3 #[.val (.ref a1), .val (.ref a2)] [(.int (16 : Int32)), (.ref a1)])) rfl (by rw [hml]; rfl) (Steps.refl _) (a := a1) (by rw [e0]; exact q144) q144' (argsL := [(.int (16 : Int32))]) (rest := []) (lenOf pd_3 rfl) rfl (by show 2 * 0 + _ ≤ _; exact Nat.le_of_eq rfl) (hb hby d8_3) (fun _ _ => ⟨rfl, e0, (by decide : 0 + 0 ≤ _), (by decide : 0 + 0 ≤ _)⟩)
  dsimp only [Pt.U, Pt.locs, Pt.cells, Pt.slots] at X144 l144 y144 z144 st144 hQ144
  rw [l144, y144, z144] at X144
  obtain ⟨rfl, Nq144, hh144⟩ := hQ144
  have N144 := Fr.app N0 Nq144
  refine own_go (fun _ k => st144.trans k) ?_
  have e144 : T144.heap = h0 := hh144
  show own_G p e below (T144.setTop (mkF m 6 #[.val (.ref a1), .val (.ref a2)] [])) _
  refine own_go (fun _ k => XS.aloadN X144.here hx rfl (hb hby d8_6) rfl rfl k) ?_
  show own_G p e below (T144.setTop (mkF m 7 #[.val (.ref a1), .val (.ref a2)] [(.ref a2)])) _
  refine own_go (fun _ k => XS.iconst X144.here hx rfl (hb hby d8_7) k) ?_
  show own_G p e below (T144.setTop (mkF m 8 #[.val (.ref a1), .val (.ref a2)] [(.int (0 : Int32)), (.ref a2)])) _
  refine own_go (fun _ k => XS.aloadN X144.here hx rfl (hb hby d8_8) rfl rfl k) ?_
  show own_G p e below (T144.setTop (mkF m 9 #[.val (.ref a1), .val (.ref a2)] [(.ref a1), (.int (0 : Int32)), (.ref a2)])) _
  obtain ⟨T145, X145, e145, st145⟩ := getF X144 hx hZ hown (host := "") (Or.inl (hw _ (List.mem_of_getElem? (i := 14) rfl))) Via.refl e144 F_bytes_a1 (g := (mkF m 9 #[.val (.ref a1), .val (.ref a2)] [(.ref a1), (.int (0 : Int32)), (.ref a2)])) rfl rfl (hb hby d8_9)
  refine own_go st145 ?_
  show own_G p e below (T145.setTop (mkF m 12 #[.val (.ref a1), .val (.ref a2)] [(.ref b), (.int (0 : Int32)), (.ref a2)])) _
  refine own_go (fun _ k => XS.aloadN X145.here hx rfl (hb hby d8_12) rfl rfl k) ?_
  show own_G p e below (T145.setTop (mkF m 13 #[.val (.ref a1), .val (.ref a2)] [(.ref a1), (.ref b), (.int (0 : Int32)), (.ref a2)])) _
  obtain ⟨T146, X146, e146, st146⟩ := getF X145 hx hZ hown (host := "") (Or.inl (hw _ (List.mem_of_getElem? (i := 21) rfl))) Via.refl e145 F_size_a1 (g := (mkF m 13 #[.val (.ref a1), .val (.ref a2)] [(.ref a1), (.ref b), (.int (0 : Int32)), (.ref a2)])) rfl rfl (hb hby d8_13)
  refine own_go st146 ?_
  show own_G p e below (T146.setTop (mkF m 16 #[.val (.ref a1), .val (.ref a2)] [(.int (0 : Int32)), (.ref b), (.int (0 : Int32)), (.ref a2)])) _
  refine own_go (fun _ k => XS.aloadN X146.here hx rfl (hb hby d8_16) rfl rfl k) ?_
  show own_G p e below (T146.setTop (mkF m 17 #[.val (.ref a1), .val (.ref a2)] [(.ref a2), (.int (0 : Int32)), (.ref b), (.int (0 : Int32)), (.ref a2)])) _
  obtain ⟨cl147, Ar147, q147, S147, M147, B147, G147⟩ := id V_a2
  refine own_go (X146.arraylength hx (by rw [e146]; exact Ar147.1) (State.isArrayOf_alike hZ.alike Ar147.2.1) (g := (mkF m 17 #[.val (.ref a1), .val (.ref a2)] [(.ref a2), (.int (0 : Int32)), (.ref b), (.int (0 : Int32)), (.ref a2)])) rfl rfl (hb hby d8_17)) ?_
  rw [len_of S147 M147]
  show own_G p e below (T146.setTop (mkF m 18 #[.val (.ref a1), .val (.ref a2)] [(.int (16 : Int32)), (.int (0 : Int32)), (.ref b), (.int (0 : Int32)), (.ref a2)])) _
  obtain ⟨T148, h148, L148, X148, e148, N148, K148, V148, st148⟩ := cpA X146 hx hZ hown (hw _ (List.mem_of_getElem? (i := 49) rfl)) (hw _ (List.mem_of_getElem? (i := 34) rfl)) (hw _ (List.mem_of_getElem? (i := 32) rfl)) (hw _ (List.mem_of_getElem? (i := 33) rfl)) e146 V_a2 V_b (Or.inl ⟨rfl, rfl⟩) (by decide) (by decide) (by decide) (by decide) (by decide) rfl (by decide) N144 g_b (g := (mkF m 18 #[.val (.ref a1), .val (.ref a2)] [(.int (16 : Int32)), (.int (0 : Int32)), (.ref b), (.int (0 : Int32)), (.ref a2)])) rfl (by rw [hml]; rfl) rfl (hb hby d8_18) (by decide) (W := 0) (by show 2 * 0 + _ ≤ _; exact Nat.le_of_eq rfl) (by decide)
  refine own_go st148 ?_
  have f149 := E_a1.keep K148
  have f150 := F_bytes_a1.keep K148 (ninS neab nin0)
  have f151 := F_size_a1.keep K148 (ninS neab nin0)
  have f152 := E_b.keep K148
  have f153 := V_a2.keep K148 (ninS ne2b nin0)
  have f154 := E_a2.keep K148
  have zs155 : n0 ≤ h148.size := Nat.le_trans Z0 K148.1
  have kp156 : Keep h0 h148 [a1, b] := (Keep.refl h0 [a1, b]).trans K148 (allS (Or.inl (List.mem_of_getElem? (i := 1) rfl)) all0)
  have V148' : Arv Z h148 b k1 .byte (16 : Int32) [(.int x0), (.int x1), (.int x2), (.int x3), (.int x4), (.int x5), (.int x6), (.int x7), (.int x8), (.int x9), (.int x10), (.int x11), (.int x12), (.int x13), (.int x14), (.int x15)] (.int (0 : Int32)) := V148
  show own_G p e below (T148.setTop (mkF m 21 #[.val (.ref a1), .val (.ref a2)] [])) _
  refine own_go (fun _ k => XS.aloadN X148.here hx rfl (hb hby d8_21) rfl rfl k) ?_
  show own_G p e below (T148.setTop (mkF m 22 #[.val (.ref a1), .val (.ref a2)] [(.ref a1)])) _
  refine own_go (fun _ k => XS.dup X148.here hx rfl (hb hby d8_22) rfl rfl k) ?_
  show own_G p e below (T148.setTop (mkF m 23 #[.val (.ref a1), .val (.ref a2)] [(.ref a1), (.ref a1)])) _
  obtain ⟨T157, X157, e157, st157⟩ := getF X148 hx hZ hown (host := "") (Or.inl (hw _ (List.mem_of_getElem? (i := 21) rfl))) Via.refl e148 f151 (g := (mkF m 23 #[.val (.ref a1), .val (.ref a2)] [(.ref a1), (.ref a1)])) rfl rfl (hb hby d8_23)
  refine own_go st157 ?_
  show own_G p e below (T157.setTop (mkF m 26 #[.val (.ref a1), .val (.ref a2)] [(.int (0 : Int32)), (.ref a1)])) _
  refine own_go (fun _ k => XS.aloadN X157.here hx rfl (hb hby d8_26) rfl rfl k) ?_
  show own_G p e below (T157.setTop (mkF m 27 #[.val (.ref a1), .val (.ref a2)] [(.ref a2), (.int (0 : Int32)), (.ref a1)])) _
  obtain ⟨cl158, Ar158, q158, S158, M158, B158, G158⟩ := id f153
  refine own_go (X157.arraylength hx (by rw [e157]; exact Ar158.1) (State.isArrayOf_alike hZ.alike Ar158.2.1) (g := (mkF m 27 #[.val (.ref a1), .val (.ref a2)] [(.ref a2), (.int (0 : Int32)), (.ref a1)])) rfl rfl (hb hby d8_27)) ?_
  rw [len_of S158 M158]
  show own_G p e below (T157.setTop (mkF m 28 #[.val (.ref a1), .val (.ref a2)] [(.int (16 : Int32)), (.int (0 : Int32)), (.ref a1)])) _
  refine own_go (fun _ k => XS.iadd X157.here hx rfl (hb hby d8_28) rfl k) ?_
  show own_G p e below (T157.setTop (mkF m 29 #[.val (.ref a1), .val (.ref a2)] [(.int (16 : Int32)), (.ref a1)])) _
  obtain ⟨T159, h159, X159, e159, W159, st159⟩ := putF X157 hx hZ hown (host := "") (Or.inl (hw _ (List.mem_of_getElem? (i := 21) rfl))) Via.refl e157 f151 f149 (Or.inl (hw _ (List.mem_of_getElem? (i := 22) rfl))) (hw _ (List.mem_of_getElem? (i := 6) rfl)) (ty := .int) (by decide) rfl rfl (g := (mkF m 29 #[.val (.ref a1), .val (.ref a2)] [(.int (16 : Int32)), (.ref a1)])) rfl rfl (hb hby d8_29)
  refine own_go st159 ?_
  have fw159 := f151.same W159
  have f160 := f149.wr W159
  have f161 := f150.other W159 (Or.inr (slot_ne (Or.inl (hw _ (List.mem_of_getElem? (i := 15) rfl))) (Or.inl (hw _ (List.mem_of_getElem? (i := 22) rfl))) (by decide) (t := (.array .byte)) (t' := .int) (by decide) (by decide)))
  have f162 := f152.wr W159
  have f163 := f153.other W159 (Ne.symm nea2)
  have f164 := f154.wr W159
  have f165 := V148'.other W159 (Ne.symm neab)
  have zs166 : n0 ≤ h159.size := Nat.le_trans zs155 (Keep.of_wr W159).1
  have kp167 : Keep h0 h159 [a1, b] := kp156.wr W159 (Or.inl (List.mem_of_getElem? (i := 0) rfl))
  have N159 := Fr.snoc X159 N148 g_a1
  show own_G p e below (T159.setTop (mkF m 32 #[.val (.ref a1), .val (.ref a2)] [])) _
  refine own_ret X159 hlk (v := none) (fun _ => rfl) (Q8 Z a1 a2 b k1 k2 x0 x1 x2 x3 x4 x5 x6 x7 x8 x9 x10 x11 x12 x13 x14 x15 h0 n0) (own_retV X159 hx hret (hb hby d8_32)) (by decide) (by decide) ?_
  show Q8 Z a1 a2 b k1 k2 x0 x1 x2 x3 x4 x5 x6 x7 x8 x9 x10 x11 x12 x13 x14 x15 h0 n0 _ T159.heap _
  rw [e159]
  exact ⟨rfl, N159, kp167, f160, f161, fw159, f162, f165⟩
theorem ef_11 (m : MethodId) (a1 : Addr) (p2 : Int32) : entryFrame m #[(.ref a1), (.int p2)] 2 = mkF m 0 #[.val (.ref a1), .val (.int p2)] [] := by first | (simp [entryFrame, mkF, argsToLocals, Value.category]; done) | rfl
def Q11 (Z : State) (a1 : Addr) (p2 : Int32) (b : Addr) (k1 : ClassId) (x0 x1 x2 x3 x4 x5 x6 x7 x8 x9 x10 x11 x12 x13 x14 x15 : Int32) (h0 : Heap) (n0 : Nat) (v : Option Value) (h : Heap) (L : List Loc) : Prop := ∃ (b : Addr) (k : ClassId), v = none ∧ Fr n0 L ∧ Keep h0 h [a1] ∧ h0.size ≤ b ∧ Exa Z h a1 "com/example/bitfold/bitfold/ByteArrayWriter" ∧ Fld Z h a1 "com/example/bitfold/bitfold/ByteArrayWriter" "bytes" "[B" (.ref b) ∧ Fld Z h a1 "com/example/bitfold/bitfold/ByteArrayWriter" "size" "I" (.int (17 : Int32)) ∧ Exa Z h b "[B" ∧ Arv Z h b k .byte (32 : Int32) [(.int x0), (.int x1), (.int x2), (.int x3), (.int x4), (.int x5), (.int x6), (.int x7), (.int x8), (.int x9), (.int x10), (.int x11), (.int x12), (.int x13), (.int x14), (.int x15), (.int (p2.toInt8.toInt32)), (.int (0 : Int32)), (.int (0 : Int32)), (.int (0 : Int32)), (.int (0 : Int32)), (.int (0 : Int32)), (.int (0 : Int32)), (.int (0 : Int32)), (.int (0 : Int32)), (.int (0 : Int32)), (.int (0 : Int32)), (.int (0 : Int32)), (.int (0 : Int32)), (.int (0 : Int32)), (.int (0 : Int32)), (.int (0 : Int32))] (.int (0 : Int32))
set_option maxRecDepth 65536 in
set_option maxHeartbeats 40000000 in
theorem rm11 (l : Launch) (Z : State) (a0 : Array Value) (hw : ∀ d ∈ tables_1, d.before a0 Z = true) (ws : List Jvm.Cond) (a1 : Addr) (p2 : Int32) (b : Addr) (k1 : ClassId) (x0 x1 x2 x3 x4 x5 x6 x7 x8 x9 x10 x11 x12 x13 x14 x15 : Int32) (h0 : Heap) (n0 : Nat) (Z0 : n0 ≤ h0.size) (E_a1 : Exa Z h0 a1 "com/example/bitfold/bitfold/ByteArrayWriter") (F_bytes_a1 : Fld Z h0 a1 "com/example/bitfold/bitfold/ByteArrayWriter" "bytes" "[B" (.ref b)) (F_size_a1 : Fld Z h0 a1 "com/example/bitfold/bitfold/ByteArrayWriter" "size" "I" (.int (16 : Int32))) (g_a1 : n0 ≤ a1) (V_b : Arv Z h0 b k1 .byte (16 : Int32) [(.int x0), (.int x1), (.int x2), (.int x3), (.int x4), (.int x5), (.int x6), (.int x7), (.int x8), (.int x9), (.int x10), (.int x11), (.int x12), (.int x13), (.int x14), (.int x15)] (.int (0 : Int32))) (E_b : Exa Z h0 b "[B") :
    MetFree l (⟨"com/example/bitfold/bitfold/ByteArrayWriter", "writeByte", "(I)V"⟩ : MethodName) (head1 (Jvm.Cond.code (⟨"com/example/bitfold/bitfold/ByteArrayWriter", "writeByte", "(I)V"⟩ : MethodName) prog_3_method_12_code 2 none :: ws) ({ frames := 3, cells := 1, slots := 32, locals := 50 } : Room)) (fun a U => a = #[(.ref a1), (.int p2)] ∧ Z.Warmed39 U.vm ∧ U.heap = h0) (fun _ _ _ _ _ => True) (fun _ U o U' => ∃ v L, o = .returned v ∧ Q11 Z a1 p2 b k1 x0 x1 x2 x3 x4 x5 x6 x7 x8 x9 x10 x11 x12 x13 x14 x15 h0 n0 v U'.heap L ∧ FrameEnd U o U' L ({ frames := 3, cells := 1, slots := 32, locals := 50 } : Room).cells ({ frames := 3, cells := 1, slots := 32, locals := 50 } : Room).slots) := by
  refine MetFree.of_bodySF (plainFor_of_name pn_11) hisR ?_
  intro p e s m args below meth c s₁ Bd hml0 hP hK
  obtain ⟨rfl, hZ, hh⟩ := hP
  have hx := Bd.exec
  have hby := Bd.bytes
  have hml : c.maxLocals = 2 := hml0
  have hown : s.vm.findClass "com/example/bitfold/bitfold/ByteArrayWriter" = some m.cls := findClass_of_methodNamed Bd.named
  have hnm := (name_of_methodNamed Bd.named Bd.method).1
  have hlk := Bd.notSynchronized
  have hret := Bd.returns
  have X0 : Stand p l e ({ frames := 3, cells := 1, slots := 32, locals := 50 } : Room) s m #[(.ref a1), (.int p2)] below meth c s₁ [] 0 0 := Stand.of_body Bd
  have e0 : s₁.heap = h0 := by rw [← hh, Bd.state]; rfl
  have N0 := Fr.nil n0
  show own_G p e below (s₁.setTop (entryFrame m #[(.ref a1), (.int p2)] 2)) (fun s₂ o => ∃ v L, o = .returned v ∧ Q11 Z a1 p2 b k1 x0 x1 x2 x3 x4 x5 x6 x7 x8 x9 x10 x11 x12 x13 x14 x15 h0 n0 v s₂.heap L ∧ FrameEnd s o s₂ L ({ frames := 3, cells := 1, slots := 32, locals := 50 } : Room).cells ({ frames := 3, cells := 1, slots := 32, locals := 50 } : Room).slots)
  refine own_go (fun t k => castTop (ef_11 m a1 p2) k) ?_
  have neab : a1 ≠ b := ne_exa E_a1 E_b (by decide)
  show own_G p e below (s₁.setTop (mkF m 0 #[.val (.ref a1), .val (.int p2)] [])) _
  refine own_go (fun _ k => XS.aloadN X0.here hx rfl (hb hby d11_0) rfl rfl k) ?_
  show own_G p e below (s₁.setTop (mkF m 1 #[.val (.ref a1), .val (.int p2)] [(.ref a1)])) _
  refine own_go (fun _ k => XS.iconst X0.here hx rfl (hb hby d11_1) k) ?_
  show own_G p e below (s₁.setTop (mkF m 2 #[.val (.ref a1), .val (.int p2)] [(.int (1 : Int32)), (.ref a1)])) _
  obtain ⟨cq168, q168, q168'⟩ := E_a1.cell
  obtain ⟨_, _, ⟨T168, L168, k168, n168⟩, -, X168, ⟨Lc168, hQ168, l168, y168, z168⟩, st168⟩ := X0.privateBack hx (y := (⟨"com/example/bitfold/bitfold/ByteArrayWriter", "ensureRoom", "(I)V"⟩ : MethodName)) hown (mvT hZ (hw _ (List.mem_of_getElem? (i := 45) rfl))) (mvT hZ (hw _ (List.mem_of_getElem? (i := 46) rfl))) (own_selects (mvT hZ (hw _ (List.mem_of_getElem? (i := 6) rfl))) (mvP hZ (hw _ (List.mem_of_getElem? (i := 47) rfl))) (mvT hZ (hw _ (List.mem_of_getElem? (i := 46) rfl))) (by decide)) (Cond.privateMethod_at (mvP hZ (hw _ (List.mem_of_getElem? (i := 47) rfl)) (args := #[]))) (mvT hZ (hw _ (List.mem_of_getElem? (i := 48) rfl))) (by decide) (backOf (W := 0) (rm9_1 l Z a0 hw [] a1 b k1 x0 x1 x2 x3 x4 x5 x6 x7 x8 x9 x10 x11 x12 x13 x14 x15 h0 n0 Z0 E_a1 F_bytes_a1 F_size_a1 g_a1 V_b E_b) hZ (hw _ (List.mem_of_getElem? (i := 48) rfl)) (hw _ (List.mem_of_getElem? (i := 7) rfl)) (by decide) (by decide)) (g := (mkF m 2 #[.val (.ref a1), .val (.int p2)] [(.int (1 : Int32)), (.ref a1)])) rfl (by rw [hml]; rfl) (Steps.refl _) (a := a1) (by rw [e0]; exact q168) q168' (argsL := [(.int (1 : Int32))]) (rest := []) (lenOf pd_3 rfl) rfl (by show 2 * 0 + _ ≤ _; exact Nat.le_of_eq rfl) (hb hby d11_2) (fun _ _ => ⟨rfl, e0, (by decide : 0 + 1 ≤ _), (by decide : 0 + 32 ≤ _)⟩)
  dsimp only [Pt.U, Pt.locs, Pt.cells, Pt.slots] at X168 l168 y168 z168 st168 hQ168
  rw [l168, y168, z168] at X168
  obtain ⟨b168, k168q, rfl, Nq168, K168, hsz168, Eo168, Fb168, Fs168, E168q, Vq168⟩ := hQ168
  have N168 := Fr.app N0 Nq168
  refine own_go (fun _ k => st168.trans k) ?_
  have ne169 : a1 ≠ b168 := Nat.ne_of_lt (Nat.lt_of_lt_of_le E_a1.lt hsz168)
  have ne170 : b ≠ b168 := Nat.ne_of_lt (Nat.lt_of_lt_of_le V_b.lt hsz168)
  have ge171 : n0 ≤ b168 := Nat.le_trans Z0 hsz168
  have sz172 : h0.size ≤ b168 := Nat.le_trans (Keep.refl h0 [a1]).1 hsz168
  have f173 := E_a1.keep K168
  have f174 := V_b.keep K168 (ninS (Ne.symm neab) nin0)
  have f175 := E_b.keep K168
  have zs176 : n0 ≤ T168.heap.size := Nat.le_trans Z0 K168.1
  have kp177 : Keep h0 T168.heap [a1] := (Keep.refl h0 [a1]).trans K168 (allS (Or.inl (List.mem_of_getElem? (i := 0) rfl)) all0)
  show own_G p e below (T168.setTop (mkF m 5 #[.val (.ref a1), .val (.int p2)] [])) _
  refine own_go (fun _ k => XS.aloadN X168.here hx rfl (hb hby d11_5) rfl rfl k) ?_
  show own_G p e below (T168.setTop (mkF m 6 #[.val (.ref a1), .val (.int p2)] [(.ref a1)])) _
  obtain ⟨T178, X178, e178, st178⟩ := getF X168 hx hZ hown (host := "") (Or.inl (hw _ (List.mem_of_getElem? (i := 14) rfl))) Via.refl rfl Fb168 (g := (mkF m 6 #[.val (.ref a1), .val (.int p2)] [(.ref a1)])) rfl rfl (hb hby d11_6)
  refine own_go st178 ?_
  show own_G p e below (T178.setTop (mkF m 9 #[.val (.ref a1), .val (.int p2)] [(.ref b168)])) _
  refine own_go (fun _ k => XS.aloadN X178.here hx rfl (hb hby d11_9) rfl rfl k) ?_
  show own_G p e below (T178.setTop (mkF m 10 #[.val (.ref a1), .val (.int p2)] [(.ref a1), (.ref b168)])) _
  refine own_go (fun _ k => XS.dup X178.here hx rfl (hb hby d11_10) rfl rfl k) ?_
  show own_G p e below (T178.setTop (mkF m 11 #[.val (.ref a1), .val (.int p2)] [(.ref a1), (.ref a1), (.ref b168)])) _
  obtain ⟨T179, X179, e179, st179⟩ := getF X178 hx hZ hown (host := "") (Or.inl (hw _ (List.mem_of_getElem? (i := 21) rfl))) Via.refl e178 Fs168 (g := (mkF m 11 #[.val (.ref a1), .val (.int p2)] [(.ref a1), (.ref a1), (.ref b168)])) rfl rfl (hb hby d11_11)
  refine own_go st179 ?_
  show own_G p e below (T179.setTop (mkF m 14 #[.val (.ref a1), .val (.int p2)] [(.int (16 : Int32)), (.ref a1), (.ref b168)])) _
  refine own_go (fun _ k => XS.dupX1 X179.here hx rfl (hb hby d11_14) rfl rfl rfl k) ?_
  show own_G p e below (T179.setTop (mkF m 15 #[.val (.ref a1), .val (.int p2)] [(.int (16 : Int32)), (.ref a1), (.int (16 : Int32)), (.ref b168)])) _
  refine own_go (fun _ k => XS.iconst X179.here hx rfl (hb hby d11_15) k) ?_
  show own_G p e below (T179.setTop (mkF m 16 #[.val (.ref a1), .val (.int p2)] [(.int (1 : Int32)), (.int (16 : Int32)), (.ref a1), (.int (16 : Int32)), (.ref b168)])) _
  refine own_go (fun _ k => XS.iadd X179.here hx rfl (hb hby d11_16) rfl k) ?_
  show own_G p e below (T179.setTop (mkF m 17 #[.val (.ref a1), .val (.int p2)] [(.int (17 : Int32)), (.ref a1), (.int (16 : Int32)), (.ref b168)])) _
  obtain ⟨T180, h180, X180, e180, W180, st180⟩ := putF X179 hx hZ hown (host := "") (Or.inl (hw _ (List.mem_of_getElem? (i := 21) rfl))) Via.refl e179 Fs168 Eo168 (Or.inl (hw _ (List.mem_of_getElem? (i := 22) rfl))) (hw _ (List.mem_of_getElem? (i := 6) rfl)) (ty := .int) (by decide) rfl rfl (g := (mkF m 17 #[.val (.ref a1), .val (.int p2)] [(.int (17 : Int32)), (.ref a1), (.int (16 : Int32)), (.ref b168)])) rfl rfl (hb hby d11_17)
  refine own_go st180 ?_
  have fw180 := Fs168.same W180
  have f181 := Eo168.wr W180
  have f182 := f174.other W180 (Ne.symm neab)
  have f183 := f175.wr W180
  have f184 := Fb168.other W180 (Or.inr (slot_ne (Or.inl (hw _ (List.mem_of_getElem? (i := 15) rfl))) (Or.inl (hw _ (List.mem_of_getElem? (i := 22) rfl))) (by decide) (t := (.array .byte)) (t' := .int) (by decide) (by decide)))
  have f185 := E168q.wr W180
  have f186 := Vq168.other W180 (Ne.symm ne169)
  have zs187 : n0 ≤ h180.size := Nat.le_trans zs176 (Keep.of_wr W180).1
  have kp188 : Keep h0 h180 [a1] := kp177.wr W180 (Or.inl (List.mem_of_getElem? (i := 0) rfl))
  have N180 := Fr.snoc X180 N168 g_a1
  show own_G p e below (T180.setTop (mkF m 20 #[.val (.ref a1), .val (.int p2)] [(.int (16 : Int32)), (.ref b168)])) _
  refine own_go (fun _ k => XS.iloadN X180.here hx rfl (hb hby d11_20) rfl k) ?_
  show own_G p e below (T180.setTop (mkF m 21 #[.val (.ref a1), .val (.int p2)] [(.int p2), (.int (16 : Int32)), (.ref b168)])) _
  refine own_go (fun _ k => XS.i2b X180.here hx rfl (hb hby d11_21) rfl k) ?_
  show own_G p e below (T180.setTop (mkF m 22 #[.val (.ref a1), .val (.int p2)] [(.int (p2.toInt8.toInt32)), (.int (16 : Int32)), (.ref b168)])) _
  obtain ⟨cl189, Ar189, q189, S189, M189, B189, G189⟩ := id f186
  have hin189 : ¬ ((16 : Int32) < 0 ∨ cl189.slots.size ≤ ((16 : Int32)).toNatClampNeg) := inb_of S189 ⟨by decide, by decide⟩
  obtain ⟨T189, h189, X189, e189, W189, st189⟩ := stB X180 hx hZ e180 Ar189 (j := (16 : Int32)) hin189 (g := (mkF m 22 #[.val (.ref a1), .val (.int p2)] [(.int (p2.toInt8.toInt32)), (.int (16 : Int32)), (.ref b168)])) rfl rfl (hb hby d11_22)
  refine own_go st189 ?_
  rw [show nar .byte (p2.toInt8.toInt32) = (p2.toInt8.toInt32) from (own_bb _)] at W189
  have f190 := f181.wr W189
  have f191 := f182.other W189 ne170
  have f192 := f183.wr W189
  have f193 := f184.other W189 (Or.inl ne169)
  have f194 := f185.wr W189
  have f195 := fw180.other W189 (Or.inl ne169)
  have zs196 : n0 ≤ h189.size := Nat.le_trans zs187 (Keep.of_wr W189).1
  have kp197 : Keep h0 h189 [a1] := kp188.wr W189 (Or.inr sz172)
  have V189 : Arv Z h189 b168 k168q .byte (32 : Int32) [(.int x0), (.int x1), (.int x2), (.int x3), (.int x4), (.int x5), (.int x6), (.int x7), (.int x8), (.int x9), (.int x10), (.int x11), (.int x12), (.int x13), (.int x14), (.int x15), (.int (p2.toInt8.toInt32)), (.int (0 : Int32)), (.int (0 : Int32)), (.int (0 : Int32)), (.int (0 : Int32)), (.int (0 : Int32)), (.int (0 : Int32)), (.int (0 : Int32)), (.int (0 : Int32)), (.int (0 : Int32)), (.int (0 : Int32)), (.int (0 : Int32)), (.int (0 : Int32)), (.int (0 : Int32)), (.int (0 : Int32)), (.int (0 : Int32))] (.int (0 : Int32)) := Arv.set Ar189 q189 S189 M189 B189 G189 (fits_nar_byte _) W189 16 rfl (Nat.le_of_ble_eq_true rfl)
  have N189 := Fr.snoc X189 N180 ge171
  show own_G p e below (T189.setTop (mkF m 23 #[.val (.ref a1), .val (.int p2)] [])) _
  refine own_ret X189 hlk (v := none) (fun _ => rfl) (Q11 Z a1 p2 b k1 x0 x1 x2 x3 x4 x5 x6 x7 x8 x9 x10 x11 x12 x13 x14 x15 h0 n0) (own_retV X189 hx hret (hb hby d11_23)) (by decide) (by decide) ?_
  show Q11 Z a1 p2 b k1 x0 x1 x2 x3 x4 x5 x6 x7 x8 x9 x10 x11 x12 x13 x14 x15 h0 n0 _ T189.heap _
  rw [e189]
  exact ⟨b168, k168q, rfl, N189, kp197, sz172, f190, f193, f195, f194, V189⟩
theorem ef_10 (m : MethodId) (a1 : Addr) (p2 : Int32) : entryFrame m #[(.ref a1), (.int p2)] 4 = mkF m 0 #[.val (.ref a1), .val (.int p2), .unset, .unset] [] := by first | (simp [entryFrame, mkF, argsToLocals, Value.category]; done) | rfl
def Q10_16_0 (Z : State) (a1 : Addr) (k1 : ClassId) (x0 x1 x2 x3 x4 x5 x6 x7 x8 x9 x10 x11 x12 x13 x14 x15 : Int32) (h0 : Heap) (n0 : Nat) (v : Option Value) (h : Heap) (L : List Loc) : Prop := v = some (.long (own_le8 x0 x1 x2 x3 x4 x5 x6 x7)) ∧ Fr n0 L ∧ h = h0
set_option maxRecDepth 65536 in
set_option maxHeartbeats 40000000 in
theorem rm10_16_0 (l : Launch) (Z : State) (a0 : Array Value) (hw : ∀ d ∈ tables_1, d.before a0 Z = true) (ws : List Jvm.Cond) (a1 : Addr) (k1 : ClassId) (x0 x1 x2 x3 x4 x5 x6 x7 x8 x9 x10 x11 x12 x13 x14 x15 : Int32) (h0 : Heap) (n0 : Nat) (Z0 : n0 ≤ h0.size) (V_a1 : Arv Z h0 a1 k1 .byte (16 : Int32) [(.int x0), (.int x1), (.int x2), (.int x3), (.int x4), (.int x5), (.int x6), (.int x7), (.int x8), (.int x9), (.int x10), (.int x11), (.int x12), (.int x13), (.int x14), (.int x15)] (.int (0 : Int32))) :
    MetFree l (⟨"com/example/bitfold/bitfold/ByteArrayWriterToByteArrayPinLaw", "le8", "([BI)J"⟩ : MethodName) (head1 (Jvm.Cond.code (⟨"com/example/bitfold/bitfold/ByteArrayWriterToByteArrayPinLaw", "le8", "([BI)J"⟩ : MethodName) method_2_code 4 (some .long) :: ws) ({ frames := 0, cells := 0, slots := 0, locals := 0 } : Room)) (fun a U => a = #[(.ref a1), (.int (0 : Int32))] ∧ Z.Warmed39 U.vm ∧ U.heap = h0) (fun _ _ _ _ _ => True) (fun _ U o U' => ∃ v L, o = .returned v ∧ Q10_16_0 Z a1 k1 x0 x1 x2 x3 x4 x5 x6 x7 x8 x9 x10 x11 x12 x13 x14 x15 h0 n0 v U'.heap L ∧ FrameEnd U o U' L ({ frames := 0, cells := 0, slots := 0, locals := 0 } : Room).cells ({ frames := 0, cells := 0, slots := 0, locals := 0 } : Room).slots) := by
  refine MetFree.of_bodySF (plainFor_of_name pn_10) hisR ?_
  intro p e s m args below meth c s₁ Bd hml0 hP hK
  obtain ⟨rfl, hZ, hh⟩ := hP
  have hx := Bd.exec
  have hby := Bd.bytes
  have hml : c.maxLocals = 4 := hml0
  have hown : s.vm.findClass "com/example/bitfold/bitfold/ByteArrayWriterToByteArrayPinLaw" = some m.cls := findClass_of_methodNamed Bd.named
  have hnm := (name_of_methodNamed Bd.named Bd.method).1
  have hlk := Bd.notSynchronized
  have hret := Bd.returns
  have X0 : Stand p l e ({ frames := 0, cells := 0, slots := 0, locals := 0 } : Room) s m #[(.ref a1), (.int (0 : Int32))] below meth c s₁ [] 0 0 := Stand.of_body Bd
  have e0 : s₁.heap = h0 := by rw [← hh, Bd.state]; rfl
  have N0 := Fr.nil n0
  show own_G p e below (s₁.setTop (entryFrame m #[(.ref a1), (.int (0 : Int32))] 4)) (fun s₂ o => ∃ v L, o = .returned v ∧ Q10_16_0 Z a1 k1 x0 x1 x2 x3 x4 x5 x6 x7 x8 x9 x10 x11 x12 x13 x14 x15 h0 n0 v s₂.heap L ∧ FrameEnd s o s₂ L ({ frames := 0, cells := 0, slots := 0, locals := 0 } : Room).cells ({ frames := 0, cells := 0, slots := 0, locals := 0 } : Room).slots)
  refine own_go (fun t k => castTop (ef_10 m a1 (0 : Int32)) k) ?_
  show own_G p e below (s₁.setTop (mkF m 0 #[.val (.ref a1), .val (.int (0 : Int32)), .unset, .unset] [])) _
  refine own_go (fun _ k => XS.lconst X0.here hx rfl (hb hby d10_0) k) ?_
  show own_G p e below (s₁.setTop (mkF m 1 #[.val (.ref a1), .val (.int (0 : Int32)), .unset, .unset] [(.long (0 : Int64))])) _
  refine own_go (fun _ k => XS.lstoreN X0.here hx rfl (hb hby d10_1) rfl (l' := #[.val (.ref a1), .val (.int (0 : Int32)), .val (.long (0 : Int64)), .second]) rfl k) ?_
  show own_G p e below (s₁.setTop (mkF m 2 #[.val (.ref a1), .val (.int (0 : Int32)), .val (.long (0 : Int64)), .second] [])) _
  refine own_go (fun _ k => XS.lloadN X0.here hx rfl (hb hby d10_2) rfl k) ?_
  show own_G p e below (s₁.setTop (mkF m 3 #[.val (.ref a1), .val (.int (0 : Int32)), .val (.long (0 : Int64)), .second] [(.long (0 : Int64))])) _
  refine own_go (fun _ k => XS.aloadN X0.here hx rfl (hb hby d10_3) rfl rfl k) ?_
  show own_G p e below (s₁.setTop (mkF m 4 #[.val (.ref a1), .val (.int (0 : Int32)), .val (.long (0 : Int64)), .second] [(.ref a1), (.long (0 : Int64))])) _
  refine own_go (fun _ k => XS.iloadN X0.here hx rfl (hb hby d10_4) rfl k) ?_
  show own_G p e below (s₁.setTop (mkF m 5 #[.val (.ref a1), .val (.int (0 : Int32)), .val (.long (0 : Int64)), .second] [(.int (0 : Int32)), (.ref a1), (.long (0 : Int64))])) _
  obtain ⟨cl198, Ar198, q198, S198, M198, B198, G198⟩ := id V_a1
  have hin198 : ¬ ((0 : Int32) < 0 ∨ cl198.slots.size ≤ ((0 : Int32)).toNatClampNeg) := inb_of S198 ⟨by decide, by decide⟩
  have hat198 : cl198.slots[((0 : Int32)).toNatClampNeg]? = some (.int x0) := B198.at hin198 rfl
  refine own_go (X0.baloadBytes hx (j := (0 : Int32)) (v := (.int x0)) (by rw [e0]; exact Ar198.1) (State.isArrayOf_alike hZ.alike Ar198.2.1) Ar198.2.2 hin198 hat198 (g := (mkF m 5 #[.val (.ref a1), .val (.int (0 : Int32)), .val (.long (0 : Int64)), .second] [(.int (0 : Int32)), (.ref a1), (.long (0 : Int64))])) rfl rfl (hb hby d10_5)) ?_
  show own_G p e below (s₁.setTop (mkF m 6 #[.val (.ref a1), .val (.int (0 : Int32)), .val (.long (0 : Int64)), .second] [(.int x0), (.long (0 : Int64))])) _
  refine own_go (fun _ k => XS.i2l X0.here hx rfl (hb hby d10_6) rfl k) ?_
  show own_G p e below (s₁.setTop (mkF m 7 #[.val (.ref a1), .val (.int (0 : Int32)), .val (.long (0 : Int64)), .second] [(.long (x0.toInt64)), (.long (0 : Int64))])) _
  refine own_go (X0.ldc2Long hx hown (mvT hZ (hw _ (List.mem_of_getElem? (i := 62) rfl))) (g := (mkF m 7 #[.val (.ref a1), .val (.int (0 : Int32)), .val (.long (0 : Int64)), .second] [(.long (x0.toInt64)), (.long (0 : Int64))])) rfl (hb hby d10_7)) ?_
  show own_G p e below (s₁.setTop (mkF m 10 #[.val (.ref a1), .val (.int (0 : Int32)), .val (.long (0 : Int64)), .second] [(.long (255 : Int64)), (.long (x0.toInt64)), (.long (0 : Int64))])) _
  refine own_go (fun _ k => XS.land X0.here hx rfl (hb hby d10_10) rfl k) ?_
  show own_G p e below (s₁.setTop (mkF m 11 #[.val (.ref a1), .val (.int (0 : Int32)), .val (.long (0 : Int64)), .second] [(.long ((x0.toInt64) &&& (255 : Int64))), (.long (0 : Int64))])) _
  refine own_go (fun _ k => XS.lor X0.here hx rfl (hb hby d10_11) rfl k) ?_
  show own_G p e below (s₁.setTop (mkF m 12 #[.val (.ref a1), .val (.int (0 : Int32)), .val (.long (0 : Int64)), .second] [(.long ((0 : Int64) ||| ((x0.toInt64) &&& (255 : Int64))))])) _
  refine own_go (fun _ k => XS.lstoreN X0.here hx rfl (hb hby d10_12) rfl (l' := #[.val (.ref a1), .val (.int (0 : Int32)), .val (.long ((0 : Int64) ||| ((x0.toInt64) &&& (255 : Int64)))), .second]) rfl k) ?_
  show own_G p e below (s₁.setTop (mkF m 13 #[.val (.ref a1), .val (.int (0 : Int32)), .val (.long ((0 : Int64) ||| ((x0.toInt64) &&& (255 : Int64)))), .second] [])) _
  refine own_go (fun _ k => XS.lloadN X0.here hx rfl (hb hby d10_13) rfl k) ?_
  show own_G p e below (s₁.setTop (mkF m 14 #[.val (.ref a1), .val (.int (0 : Int32)), .val (.long ((0 : Int64) ||| ((x0.toInt64) &&& (255 : Int64)))), .second] [(.long ((0 : Int64) ||| ((x0.toInt64) &&& (255 : Int64))))])) _
  refine own_go (fun _ k => XS.aloadN X0.here hx rfl (hb hby d10_14) rfl rfl k) ?_
  show own_G p e below (s₁.setTop (mkF m 15 #[.val (.ref a1), .val (.int (0 : Int32)), .val (.long ((0 : Int64) ||| ((x0.toInt64) &&& (255 : Int64)))), .second] [(.ref a1), (.long ((0 : Int64) ||| ((x0.toInt64) &&& (255 : Int64))))])) _
  refine own_go (fun _ k => XS.iloadN X0.here hx rfl (hb hby d10_15) rfl k) ?_
  show own_G p e below (s₁.setTop (mkF m 16 #[.val (.ref a1), .val (.int (0 : Int32)), .val (.long ((0 : Int64) ||| ((x0.toInt64) &&& (255 : Int64)))), .second] [(.int (0 : Int32)), (.ref a1), (.long ((0 : Int64) ||| ((x0.toInt64) &&& (255 : Int64))))])) _
  refine own_go (fun _ k => XS.iconst X0.here hx rfl (hb hby d10_16) k) ?_
  show own_G p e below (s₁.setTop (mkF m 17 #[.val (.ref a1), .val (.int (0 : Int32)), .val (.long ((0 : Int64) ||| ((x0.toInt64) &&& (255 : Int64)))), .second] [(.int (1 : Int32)), (.int (0 : Int32)), (.ref a1), (.long ((0 : Int64) ||| ((x0.toInt64) &&& (255 : Int64))))])) _
  refine own_go (fun _ k => XS.iadd X0.here hx rfl (hb hby d10_17) rfl k) ?_
  show own_G p e below (s₁.setTop (mkF m 18 #[.val (.ref a1), .val (.int (0 : Int32)), .val (.long ((0 : Int64) ||| ((x0.toInt64) &&& (255 : Int64)))), .second] [(.int (1 : Int32)), (.ref a1), (.long ((0 : Int64) ||| ((x0.toInt64) &&& (255 : Int64))))])) _
  obtain ⟨cl199, Ar199, q199, S199, M199, B199, G199⟩ := id V_a1
  have hin199 : ¬ ((1 : Int32) < 0 ∨ cl199.slots.size ≤ ((1 : Int32)).toNatClampNeg) := inb_of S199 ⟨by decide, by decide⟩
  have hat199 : cl199.slots[((1 : Int32)).toNatClampNeg]? = some (.int x1) := B199.at hin199 rfl
  refine own_go (X0.baloadBytes hx (j := (1 : Int32)) (v := (.int x1)) (by rw [e0]; exact Ar199.1) (State.isArrayOf_alike hZ.alike Ar199.2.1) Ar199.2.2 hin199 hat199 (g := (mkF m 18 #[.val (.ref a1), .val (.int (0 : Int32)), .val (.long ((0 : Int64) ||| ((x0.toInt64) &&& (255 : Int64)))), .second] [(.int (1 : Int32)), (.ref a1), (.long ((0 : Int64) ||| ((x0.toInt64) &&& (255 : Int64))))])) rfl rfl (hb hby d10_18)) ?_
  show own_G p e below (s₁.setTop (mkF m 19 #[.val (.ref a1), .val (.int (0 : Int32)), .val (.long ((0 : Int64) ||| ((x0.toInt64) &&& (255 : Int64)))), .second] [(.int x1), (.long ((0 : Int64) ||| ((x0.toInt64) &&& (255 : Int64))))])) _
  refine own_go (fun _ k => XS.i2l X0.here hx rfl (hb hby d10_19) rfl k) ?_
  show own_G p e below (s₁.setTop (mkF m 20 #[.val (.ref a1), .val (.int (0 : Int32)), .val (.long ((0 : Int64) ||| ((x0.toInt64) &&& (255 : Int64)))), .second] [(.long (x1.toInt64)), (.long ((0 : Int64) ||| ((x0.toInt64) &&& (255 : Int64))))])) _
  refine own_go (X0.ldc2Long hx hown (mvT hZ (hw _ (List.mem_of_getElem? (i := 62) rfl))) (g := (mkF m 20 #[.val (.ref a1), .val (.int (0 : Int32)), .val (.long ((0 : Int64) ||| ((x0.toInt64) &&& (255 : Int64)))), .second] [(.long (x1.toInt64)), (.long ((0 : Int64) ||| ((x0.toInt64) &&& (255 : Int64))))])) rfl (hb hby d10_20)) ?_
  show own_G p e below (s₁.setTop (mkF m 23 #[.val (.ref a1), .val (.int (0 : Int32)), .val (.long ((0 : Int64) ||| ((x0.toInt64) &&& (255 : Int64)))), .second] [(.long (255 : Int64)), (.long (x1.toInt64)), (.long ((0 : Int64) ||| ((x0.toInt64) &&& (255 : Int64))))])) _
  refine own_go (fun _ k => XS.land X0.here hx rfl (hb hby d10_23) rfl k) ?_
  show own_G p e below (s₁.setTop (mkF m 24 #[.val (.ref a1), .val (.int (0 : Int32)), .val (.long ((0 : Int64) ||| ((x0.toInt64) &&& (255 : Int64)))), .second] [(.long ((x1.toInt64) &&& (255 : Int64))), (.long ((0 : Int64) ||| ((x0.toInt64) &&& (255 : Int64))))])) _
  refine own_go (fun _ k => XS.bipush X0.here hx rfl (hb hby d10_24) k) ?_
  show own_G p e below (s₁.setTop (mkF m 26 #[.val (.ref a1), .val (.int (0 : Int32)), .val (.long ((0 : Int64) ||| ((x0.toInt64) &&& (255 : Int64)))), .second] [(.int (8 : Int32)), (.long ((x1.toInt64) &&& (255 : Int64))), (.long ((0 : Int64) ||| ((x0.toInt64) &&& (255 : Int64))))])) _
  refine own_go (fun _ k => XS.lshl X0.here hx rfl (hb hby d10_26) rfl k) ?_
  show own_G p e below (s₁.setTop (mkF m 27 #[.val (.ref a1), .val (.int (0 : Int32)), .val (.long ((0 : Int64) ||| ((x0.toInt64) &&& (255 : Int64)))), .second] [(.long (((x1.toInt64) &&& (255 : Int64)) <<< ((8 : Int32) &&& 0x3f).toInt64)), (.long ((0 : Int64) ||| ((x0.toInt64) &&& (255 : Int64))))])) _
  refine own_go (fun _ k => XS.lor X0.here hx rfl (hb hby d10_27) rfl k) ?_
  show own_G p e below (s₁.setTop (mkF m 28 #[.val (.ref a1), .val (.int (0 : Int32)), .val (.long ((0 : Int64) ||| ((x0.toInt64) &&& (255 : Int64)))), .second] [(.long (((0 : Int64) ||| ((x0.toInt64) &&& (255 : Int64))) ||| (((x1.toInt64) &&& (255 : Int64)) <<< ((8 : Int32) &&& 0x3f).toInt64)))])) _
  refine own_go (fun _ k => XS.lstoreN X0.here hx rfl (hb hby d10_28) rfl (l' := #[.val (.ref a1), .val (.int (0 : Int32)), .val (.long (((0 : Int64) ||| ((x0.toInt64) &&& (255 : Int64))) ||| (((x1.toInt64) &&& (255 : Int64)) <<< ((8 : Int32) &&& 0x3f).toInt64))), .second]) rfl k) ?_
  show own_G p e below (s₁.setTop (mkF m 29 #[.val (.ref a1), .val (.int (0 : Int32)), .val (.long (((0 : Int64) ||| ((x0.toInt64) &&& (255 : Int64))) ||| (((x1.toInt64) &&& (255 : Int64)) <<< ((8 : Int32) &&& 0x3f).toInt64))), .second] [])) _
  refine own_go (fun _ k => XS.lloadN X0.here hx rfl (hb hby d10_29) rfl k) ?_
  show own_G p e below (s₁.setTop (mkF m 30 #[.val (.ref a1), .val (.int (0 : Int32)), .val (.long (((0 : Int64) ||| ((x0.toInt64) &&& (255 : Int64))) ||| (((x1.toInt64) &&& (255 : Int64)) <<< ((8 : Int32) &&& 0x3f).toInt64))), .second] [(.long (((0 : Int64) ||| ((x0.toInt64) &&& (255 : Int64))) ||| (((x1.toInt64) &&& (255 : Int64)) <<< ((8 : Int32) &&& 0x3f).toInt64)))])) _
  refine own_go (fun _ k => XS.aloadN X0.here hx rfl (hb hby d10_30) rfl rfl k) ?_
  show own_G p e below (s₁.setTop (mkF m 31 #[.val (.ref a1), .val (.int (0 : Int32)), .val (.long (((0 : Int64) ||| ((x0.toInt64) &&& (255 : Int64))) ||| (((x1.toInt64) &&& (255 : Int64)) <<< ((8 : Int32) &&& 0x3f).toInt64))), .second] [(.ref a1), (.long (((0 : Int64) ||| ((x0.toInt64) &&& (255 : Int64))) ||| (((x1.toInt64) &&& (255 : Int64)) <<< ((8 : Int32) &&& 0x3f).toInt64)))])) _
  refine own_go (fun _ k => XS.iloadN X0.here hx rfl (hb hby d10_31) rfl k) ?_
  show own_G p e below (s₁.setTop (mkF m 32 #[.val (.ref a1), .val (.int (0 : Int32)), .val (.long (((0 : Int64) ||| ((x0.toInt64) &&& (255 : Int64))) ||| (((x1.toInt64) &&& (255 : Int64)) <<< ((8 : Int32) &&& 0x3f).toInt64))), .second] [(.int (0 : Int32)), (.ref a1), (.long (((0 : Int64) ||| ((x0.toInt64) &&& (255 : Int64))) ||| (((x1.toInt64) &&& (255 : Int64)) <<< ((8 : Int32) &&& 0x3f).toInt64)))])) _
  refine own_go (fun _ k => XS.iconst X0.here hx rfl (hb hby d10_32) k) ?_
  show own_G p e below (s₁.setTop (mkF m 33 #[.val (.ref a1), .val (.int (0 : Int32)), .val (.long (((0 : Int64) ||| ((x0.toInt64) &&& (255 : Int64))) ||| (((x1.toInt64) &&& (255 : Int64)) <<< ((8 : Int32) &&& 0x3f).toInt64))), .second] [(.int (2 : Int32)), (.int (0 : Int32)), (.ref a1), (.long (((0 : Int64) ||| ((x0.toInt64) &&& (255 : Int64))) ||| (((x1.toInt64) &&& (255 : Int64)) <<< ((8 : Int32) &&& 0x3f).toInt64)))])) _
  refine own_go (fun _ k => XS.iadd X0.here hx rfl (hb hby d10_33) rfl k) ?_
  show own_G p e below (s₁.setTop (mkF m 34 #[.val (.ref a1), .val (.int (0 : Int32)), .val (.long (((0 : Int64) ||| ((x0.toInt64) &&& (255 : Int64))) ||| (((x1.toInt64) &&& (255 : Int64)) <<< ((8 : Int32) &&& 0x3f).toInt64))), .second] [(.int (2 : Int32)), (.ref a1), (.long (((0 : Int64) ||| ((x0.toInt64) &&& (255 : Int64))) ||| (((x1.toInt64) &&& (255 : Int64)) <<< ((8 : Int32) &&& 0x3f).toInt64)))])) _
  obtain ⟨cl200, Ar200, q200, S200, M200, B200, G200⟩ := id V_a1
  have hin200 : ¬ ((2 : Int32) < 0 ∨ cl200.slots.size ≤ ((2 : Int32)).toNatClampNeg) := inb_of S200 ⟨by decide, by decide⟩
  have hat200 : cl200.slots[((2 : Int32)).toNatClampNeg]? = some (.int x2) := B200.at hin200 rfl
  refine own_go (X0.baloadBytes hx (j := (2 : Int32)) (v := (.int x2)) (by rw [e0]; exact Ar200.1) (State.isArrayOf_alike hZ.alike Ar200.2.1) Ar200.2.2 hin200 hat200 (g := (mkF m 34 #[.val (.ref a1), .val (.int (0 : Int32)), .val (.long (((0 : Int64) ||| ((x0.toInt64) &&& (255 : Int64))) ||| (((x1.toInt64) &&& (255 : Int64)) <<< ((8 : Int32) &&& 0x3f).toInt64))), .second] [(.int (2 : Int32)), (.ref a1), (.long (((0 : Int64) ||| ((x0.toInt64) &&& (255 : Int64))) ||| (((x1.toInt64) &&& (255 : Int64)) <<< ((8 : Int32) &&& 0x3f).toInt64)))])) rfl rfl (hb hby d10_34)) ?_
  show own_G p e below (s₁.setTop (mkF m 35 #[.val (.ref a1), .val (.int (0 : Int32)), .val (.long (((0 : Int64) ||| ((x0.toInt64) &&& (255 : Int64))) ||| (((x1.toInt64) &&& (255 : Int64)) <<< ((8 : Int32) &&& 0x3f).toInt64))), .second] [(.int x2), (.long (((0 : Int64) ||| ((x0.toInt64) &&& (255 : Int64))) ||| (((x1.toInt64) &&& (255 : Int64)) <<< ((8 : Int32) &&& 0x3f).toInt64)))])) _
  refine own_go (fun _ k => XS.i2l X0.here hx rfl (hb hby d10_35) rfl k) ?_
  show own_G p e below (s₁.setTop (mkF m 36 #[.val (.ref a1), .val (.int (0 : Int32)), .val (.long (((0 : Int64) ||| ((x0.toInt64) &&& (255 : Int64))) ||| (((x1.toInt64) &&& (255 : Int64)) <<< ((8 : Int32) &&& 0x3f).toInt64))), .second] [(.long (x2.toInt64)), (.long (((0 : Int64) ||| ((x0.toInt64) &&& (255 : Int64))) ||| (((x1.toInt64) &&& (255 : Int64)) <<< ((8 : Int32) &&& 0x3f).toInt64)))])) _
  refine own_go (X0.ldc2Long hx hown (mvT hZ (hw _ (List.mem_of_getElem? (i := 62) rfl))) (g := (mkF m 36 #[.val (.ref a1), .val (.int (0 : Int32)), .val (.long (((0 : Int64) ||| ((x0.toInt64) &&& (255 : Int64))) ||| (((x1.toInt64) &&& (255 : Int64)) <<< ((8 : Int32) &&& 0x3f).toInt64))), .second] [(.long (x2.toInt64)), (.long (((0 : Int64) ||| ((x0.toInt64) &&& (255 : Int64))) ||| (((x1.toInt64) &&& (255 : Int64)) <<< ((8 : Int32) &&& 0x3f).toInt64)))])) rfl (hb hby d10_36)) ?_
  show own_G p e below (s₁.setTop (mkF m 39 #[.val (.ref a1), .val (.int (0 : Int32)), .val (.long (((0 : Int64) ||| ((x0.toInt64) &&& (255 : Int64))) ||| (((x1.toInt64) &&& (255 : Int64)) <<< ((8 : Int32) &&& 0x3f).toInt64))), .second] [(.long (255 : Int64)), (.long (x2.toInt64)), (.long (((0 : Int64) ||| ((x0.toInt64) &&& (255 : Int64))) ||| (((x1.toInt64) &&& (255 : Int64)) <<< ((8 : Int32) &&& 0x3f).toInt64)))])) _
  refine own_go (fun _ k => XS.land X0.here hx rfl (hb hby d10_39) rfl k) ?_
  show own_G p e below (s₁.setTop (mkF m 40 #[.val (.ref a1), .val (.int (0 : Int32)), .val (.long (((0 : Int64) ||| ((x0.toInt64) &&& (255 : Int64))) ||| (((x1.toInt64) &&& (255 : Int64)) <<< ((8 : Int32) &&& 0x3f).toInt64))), .second] [(.long ((x2.toInt64) &&& (255 : Int64))), (.long (((0 : Int64) ||| ((x0.toInt64) &&& (255 : Int64))) ||| (((x1.toInt64) &&& (255 : Int64)) <<< ((8 : Int32) &&& 0x3f).toInt64)))])) _
  refine own_go (fun _ k => XS.bipush X0.here hx rfl (hb hby d10_40) k) ?_
  show own_G p e below (s₁.setTop (mkF m 42 #[.val (.ref a1), .val (.int (0 : Int32)), .val (.long (((0 : Int64) ||| ((x0.toInt64) &&& (255 : Int64))) ||| (((x1.toInt64) &&& (255 : Int64)) <<< ((8 : Int32) &&& 0x3f).toInt64))), .second] [(.int (16 : Int32)), (.long ((x2.toInt64) &&& (255 : Int64))), (.long (((0 : Int64) ||| ((x0.toInt64) &&& (255 : Int64))) ||| (((x1.toInt64) &&& (255 : Int64)) <<< ((8 : Int32) &&& 0x3f).toInt64)))])) _
  refine own_go (fun _ k => XS.lshl X0.here hx rfl (hb hby d10_42) rfl k) ?_
  show own_G p e below (s₁.setTop (mkF m 43 #[.val (.ref a1), .val (.int (0 : Int32)), .val (.long (((0 : Int64) ||| ((x0.toInt64) &&& (255 : Int64))) ||| (((x1.toInt64) &&& (255 : Int64)) <<< ((8 : Int32) &&& 0x3f).toInt64))), .second] [(.long (((x2.toInt64) &&& (255 : Int64)) <<< ((16 : Int32) &&& 0x3f).toInt64)), (.long (((0 : Int64) ||| ((x0.toInt64) &&& (255 : Int64))) ||| (((x1.toInt64) &&& (255 : Int64)) <<< ((8 : Int32) &&& 0x3f).toInt64)))])) _
  refine own_go (fun _ k => XS.lor X0.here hx rfl (hb hby d10_43) rfl k) ?_
  show own_G p e below (s₁.setTop (mkF m 44 #[.val (.ref a1), .val (.int (0 : Int32)), .val (.long (((0 : Int64) ||| ((x0.toInt64) &&& (255 : Int64))) ||| (((x1.toInt64) &&& (255 : Int64)) <<< ((8 : Int32) &&& 0x3f).toInt64))), .second] [(.long ((((0 : Int64) ||| ((x0.toInt64) &&& (255 : Int64))) ||| (((x1.toInt64) &&& (255 : Int64)) <<< ((8 : Int32) &&& 0x3f).toInt64)) ||| (((x2.toInt64) &&& (255 : Int64)) <<< ((16 : Int32) &&& 0x3f).toInt64)))])) _
  refine own_go (fun _ k => XS.lstoreN X0.here hx rfl (hb hby d10_44) rfl (l' := #[.val (.ref a1), .val (.int (0 : Int32)), .val (.long ((((0 : Int64) ||| ((x0.toInt64) &&& (255 : Int64))) ||| (((x1.toInt64) &&& (255 : Int64)) <<< ((8 : Int32) &&& 0x3f).toInt64)) ||| (((x2.toInt64) &&& (255 : Int64)) <<< ((16 : Int32) &&& 0x3f).toInt64))), .second]) rfl k) ?_
  show own_G p e below (s₁.setTop (mkF m 45 #[.val (.ref a1), .val (.int (0 : Int32)), .val (.long ((((0 : Int64) ||| ((x0.toInt64) &&& (255 : Int64))) ||| (((x1.toInt64) &&& (255 : Int64)) <<< ((8 : Int32) &&& 0x3f).toInt64)) ||| (((x2.toInt64) &&& (255 : Int64)) <<< ((16 : Int32) &&& 0x3f).toInt64))), .second] [])) _
  refine own_go (fun _ k => XS.lloadN X0.here hx rfl (hb hby d10_45) rfl k) ?_
  show own_G p e below (s₁.setTop (mkF m 46 #[.val (.ref a1), .val (.int (0 : Int32)), .val (.long ((((0 : Int64) ||| ((x0.toInt64) &&& (255 : Int64))) ||| (((x1.toInt64) &&& (255 : Int64)) <<< ((8 : Int32) &&& 0x3f).toInt64)) ||| (((x2.toInt64) &&& (255 : Int64)) <<< ((16 : Int32) &&& 0x3f).toInt64))), .second] [(.long ((((0 : Int64) ||| ((x0.toInt64) &&& (255 : Int64))) ||| (((x1.toInt64) &&& (255 : Int64)) <<< ((8 : Int32) &&& 0x3f).toInt64)) ||| (((x2.toInt64) &&& (255 : Int64)) <<< ((16 : Int32) &&& 0x3f).toInt64)))])) _
  refine own_go (fun _ k => XS.aloadN X0.here hx rfl (hb hby d10_46) rfl rfl k) ?_
  show own_G p e below (s₁.setTop (mkF m 47 #[.val (.ref a1), .val (.int (0 : Int32)), .val (.long ((((0 : Int64) ||| ((x0.toInt64) &&& (255 : Int64))) ||| (((x1.toInt64) &&& (255 : Int64)) <<< ((8 : Int32) &&& 0x3f).toInt64)) ||| (((x2.toInt64) &&& (255 : Int64)) <<< ((16 : Int32) &&& 0x3f).toInt64))), .second] [(.ref a1), (.long ((((0 : Int64) ||| ((x0.toInt64) &&& (255 : Int64))) ||| (((x1.toInt64) &&& (255 : Int64)) <<< ((8 : Int32) &&& 0x3f).toInt64)) ||| (((x2.toInt64) &&& (255 : Int64)) <<< ((16 : Int32) &&& 0x3f).toInt64)))])) _
  refine own_go (fun _ k => XS.iloadN X0.here hx rfl (hb hby d10_47) rfl k) ?_
  show own_G p e below (s₁.setTop (mkF m 48 #[.val (.ref a1), .val (.int (0 : Int32)), .val (.long ((((0 : Int64) ||| ((x0.toInt64) &&& (255 : Int64))) ||| (((x1.toInt64) &&& (255 : Int64)) <<< ((8 : Int32) &&& 0x3f).toInt64)) ||| (((x2.toInt64) &&& (255 : Int64)) <<< ((16 : Int32) &&& 0x3f).toInt64))), .second] [(.int (0 : Int32)), (.ref a1), (.long ((((0 : Int64) ||| ((x0.toInt64) &&& (255 : Int64))) ||| (((x1.toInt64) &&& (255 : Int64)) <<< ((8 : Int32) &&& 0x3f).toInt64)) ||| (((x2.toInt64) &&& (255 : Int64)) <<< ((16 : Int32) &&& 0x3f).toInt64)))])) _
  refine own_go (fun _ k => XS.iconst X0.here hx rfl (hb hby d10_48) k) ?_
  show own_G p e below (s₁.setTop (mkF m 49 #[.val (.ref a1), .val (.int (0 : Int32)), .val (.long ((((0 : Int64) ||| ((x0.toInt64) &&& (255 : Int64))) ||| (((x1.toInt64) &&& (255 : Int64)) <<< ((8 : Int32) &&& 0x3f).toInt64)) ||| (((x2.toInt64) &&& (255 : Int64)) <<< ((16 : Int32) &&& 0x3f).toInt64))), .second] [(.int (3 : Int32)), (.int (0 : Int32)), (.ref a1), (.long ((((0 : Int64) ||| ((x0.toInt64) &&& (255 : Int64))) ||| (((x1.toInt64) &&& (255 : Int64)) <<< ((8 : Int32) &&& 0x3f).toInt64)) ||| (((x2.toInt64) &&& (255 : Int64)) <<< ((16 : Int32) &&& 0x3f).toInt64)))])) _
  refine own_go (fun _ k => XS.iadd X0.here hx rfl (hb hby d10_49) rfl k) ?_
  show own_G p e below (s₁.setTop (mkF m 50 #[.val (.ref a1), .val (.int (0 : Int32)), .val (.long ((((0 : Int64) ||| ((x0.toInt64) &&& (255 : Int64))) ||| (((x1.toInt64) &&& (255 : Int64)) <<< ((8 : Int32) &&& 0x3f).toInt64)) ||| (((x2.toInt64) &&& (255 : Int64)) <<< ((16 : Int32) &&& 0x3f).toInt64))), .second] [(.int (3 : Int32)), (.ref a1), (.long ((((0 : Int64) ||| ((x0.toInt64) &&& (255 : Int64))) ||| (((x1.toInt64) &&& (255 : Int64)) <<< ((8 : Int32) &&& 0x3f).toInt64)) ||| (((x2.toInt64) &&& (255 : Int64)) <<< ((16 : Int32) &&& 0x3f).toInt64)))])) _
  obtain ⟨cl201, Ar201, q201, S201, M201, B201, G201⟩ := id V_a1
  have hin201 : ¬ ((3 : Int32) < 0 ∨ cl201.slots.size ≤ ((3 : Int32)).toNatClampNeg) := inb_of S201 ⟨by decide, by decide⟩
  have hat201 : cl201.slots[((3 : Int32)).toNatClampNeg]? = some (.int x3) := B201.at hin201 rfl
  refine own_go (X0.baloadBytes hx (j := (3 : Int32)) (v := (.int x3)) (by rw [e0]; exact Ar201.1) (State.isArrayOf_alike hZ.alike Ar201.2.1) Ar201.2.2 hin201 hat201 (g := (mkF m 50 #[.val (.ref a1), .val (.int (0 : Int32)), .val (.long ((((0 : Int64) ||| ((x0.toInt64) &&& (255 : Int64))) ||| (((x1.toInt64) &&& (255 : Int64)) <<< ((8 : Int32) &&& 0x3f).toInt64)) ||| (((x2.toInt64) &&& (255 : Int64)) <<< ((16 : Int32) &&& 0x3f).toInt64))), .second] [(.int (3 : Int32)), (.ref a1), (.long ((((0 : Int64) ||| ((x0.toInt64) &&& (255 : Int64))) ||| (((x1.toInt64) &&& (255 : Int64)) <<< ((8 : Int32) &&& 0x3f).toInt64)) ||| (((x2.toInt64) &&& (255 : Int64)) <<< ((16 : Int32) &&& 0x3f).toInt64)))])) rfl rfl (hb hby d10_50)) ?_
  show own_G p e below (s₁.setTop (mkF m 51 #[.val (.ref a1), .val (.int (0 : Int32)), .val (.long ((((0 : Int64) ||| ((x0.toInt64) &&& (255 : Int64))) ||| (((x1.toInt64) &&& (255 : Int64)) <<< ((8 : Int32) &&& 0x3f).toInt64)) ||| (((x2.toInt64) &&& (255 : Int64)) <<< ((16 : Int32) &&& 0x3f).toInt64))), .second] [(.int x3), (.long ((((0 : Int64) ||| ((x0.toInt64) &&& (255 : Int64))) ||| (((x1.toInt64) &&& (255 : Int64)) <<< ((8 : Int32) &&& 0x3f).toInt64)) ||| (((x2.toInt64) &&& (255 : Int64)) <<< ((16 : Int32) &&& 0x3f).toInt64)))])) _
  refine own_go (fun _ k => XS.i2l X0.here hx rfl (hb hby d10_51) rfl k) ?_
  show own_G p e below (s₁.setTop (mkF m 52 #[.val (.ref a1), .val (.int (0 : Int32)), .val (.long ((((0 : Int64) ||| ((x0.toInt64) &&& (255 : Int64))) ||| (((x1.toInt64) &&& (255 : Int64)) <<< ((8 : Int32) &&& 0x3f).toInt64)) ||| (((x2.toInt64) &&& (255 : Int64)) <<< ((16 : Int32) &&& 0x3f).toInt64))), .second] [(.long (x3.toInt64)), (.long ((((0 : Int64) ||| ((x0.toInt64) &&& (255 : Int64))) ||| (((x1.toInt64) &&& (255 : Int64)) <<< ((8 : Int32) &&& 0x3f).toInt64)) ||| (((x2.toInt64) &&& (255 : Int64)) <<< ((16 : Int32) &&& 0x3f).toInt64)))])) _
  refine own_go (X0.ldc2Long hx hown (mvT hZ (hw _ (List.mem_of_getElem? (i := 62) rfl))) (g := (mkF m 52 #[.val (.ref a1), .val (.int (0 : Int32)), .val (.long ((((0 : Int64) ||| ((x0.toInt64) &&& (255 : Int64))) ||| (((x1.toInt64) &&& (255 : Int64)) <<< ((8 : Int32) &&& 0x3f).toInt64)) ||| (((x2.toInt64) &&& (255 : Int64)) <<< ((16 : Int32) &&& 0x3f).toInt64))), .second] [(.long (x3.toInt64)), (.long ((((0 : Int64) ||| ((x0.toInt64) &&& (255 : Int64))) ||| (((x1.toInt64) &&& (255 : Int64)) <<< ((8 : Int32) &&& 0x3f).toInt64)) ||| (((x2.toInt64) &&& (255 : Int64)) <<< ((16 : Int32) &&& 0x3f).toInt64)))])) rfl (hb hby d10_52)) ?_
  show own_G p e below (s₁.setTop (mkF m 55 #[.val (.ref a1), .val (.int (0 : Int32)), .val (.long ((((0 : Int64) ||| ((x0.toInt64) &&& (255 : Int64))) ||| (((x1.toInt64) &&& (255 : Int64)) <<< ((8 : Int32) &&& 0x3f).toInt64)) ||| (((x2.toInt64) &&& (255 : Int64)) <<< ((16 : Int32) &&& 0x3f).toInt64))), .second] [(.long (255 : Int64)), (.long (x3.toInt64)), (.long ((((0 : Int64) ||| ((x0.toInt64) &&& (255 : Int64))) ||| (((x1.toInt64) &&& (255 : Int64)) <<< ((8 : Int32) &&& 0x3f).toInt64)) ||| (((x2.toInt64) &&& (255 : Int64)) <<< ((16 : Int32) &&& 0x3f).toInt64)))])) _
  refine own_go (fun _ k => XS.land X0.here hx rfl (hb hby d10_55) rfl k) ?_
  show own_G p e below (s₁.setTop (mkF m 56 #[.val (.ref a1), .val (.int (0 : Int32)), .val (.long ((((0 : Int64) ||| ((x0.toInt64) &&& (255 : Int64))) ||| (((x1.toInt64) &&& (255 : Int64)) <<< ((8 : Int32) &&& 0x3f).toInt64)) ||| (((x2.toInt64) &&& (255 : Int64)) <<< ((16 : Int32) &&& 0x3f).toInt64))), .second] [(.long ((x3.toInt64) &&& (255 : Int64))), (.long ((((0 : Int64) ||| ((x0.toInt64) &&& (255 : Int64))) ||| (((x1.toInt64) &&& (255 : Int64)) <<< ((8 : Int32) &&& 0x3f).toInt64)) ||| (((x2.toInt64) &&& (255 : Int64)) <<< ((16 : Int32) &&& 0x3f).toInt64)))])) _
  refine own_go (fun _ k => XS.bipush X0.here hx rfl (hb hby d10_56) k) ?_
  show own_G p e below (s₁.setTop (mkF m 58 #[.val (.ref a1), .val (.int (0 : Int32)), .val (.long ((((0 : Int64) ||| ((x0.toInt64) &&& (255 : Int64))) ||| (((x1.toInt64) &&& (255 : Int64)) <<< ((8 : Int32) &&& 0x3f).toInt64)) ||| (((x2.toInt64) &&& (255 : Int64)) <<< ((16 : Int32) &&& 0x3f).toInt64))), .second] [(.int (24 : Int32)), (.long ((x3.toInt64) &&& (255 : Int64))), (.long ((((0 : Int64) ||| ((x0.toInt64) &&& (255 : Int64))) ||| (((x1.toInt64) &&& (255 : Int64)) <<< ((8 : Int32) &&& 0x3f).toInt64)) ||| (((x2.toInt64) &&& (255 : Int64)) <<< ((16 : Int32) &&& 0x3f).toInt64)))])) _
  refine own_go (fun _ k => XS.lshl X0.here hx rfl (hb hby d10_58) rfl k) ?_
  show own_G p e below (s₁.setTop (mkF m 59 #[.val (.ref a1), .val (.int (0 : Int32)), .val (.long ((((0 : Int64) ||| ((x0.toInt64) &&& (255 : Int64))) ||| (((x1.toInt64) &&& (255 : Int64)) <<< ((8 : Int32) &&& 0x3f).toInt64)) ||| (((x2.toInt64) &&& (255 : Int64)) <<< ((16 : Int32) &&& 0x3f).toInt64))), .second] [(.long (((x3.toInt64) &&& (255 : Int64)) <<< ((24 : Int32) &&& 0x3f).toInt64)), (.long ((((0 : Int64) ||| ((x0.toInt64) &&& (255 : Int64))) ||| (((x1.toInt64) &&& (255 : Int64)) <<< ((8 : Int32) &&& 0x3f).toInt64)) ||| (((x2.toInt64) &&& (255 : Int64)) <<< ((16 : Int32) &&& 0x3f).toInt64)))])) _
  refine own_go (fun _ k => XS.lor X0.here hx rfl (hb hby d10_59) rfl k) ?_
  show own_G p e below (s₁.setTop (mkF m 60 #[.val (.ref a1), .val (.int (0 : Int32)), .val (.long ((((0 : Int64) ||| ((x0.toInt64) &&& (255 : Int64))) ||| (((x1.toInt64) &&& (255 : Int64)) <<< ((8 : Int32) &&& 0x3f).toInt64)) ||| (((x2.toInt64) &&& (255 : Int64)) <<< ((16 : Int32) &&& 0x3f).toInt64))), .second] [(.long (((((0 : Int64) ||| ((x0.toInt64) &&& (255 : Int64))) ||| (((x1.toInt64) &&& (255 : Int64)) <<< ((8 : Int32) &&& 0x3f).toInt64)) ||| (((x2.toInt64) &&& (255 : Int64)) <<< ((16 : Int32) &&& 0x3f).toInt64)) ||| (((x3.toInt64) &&& (255 : Int64)) <<< ((24 : Int32) &&& 0x3f).toInt64)))])) _
  refine own_go (fun _ k => XS.lstoreN X0.here hx rfl (hb hby d10_60) rfl (l' := #[.val (.ref a1), .val (.int (0 : Int32)), .val (.long (((((0 : Int64) ||| ((x0.toInt64) &&& (255 : Int64))) ||| (((x1.toInt64) &&& (255 : Int64)) <<< ((8 : Int32) &&& 0x3f).toInt64)) ||| (((x2.toInt64) &&& (255 : Int64)) <<< ((16 : Int32) &&& 0x3f).toInt64)) ||| (((x3.toInt64) &&& (255 : Int64)) <<< ((24 : Int32) &&& 0x3f).toInt64))), .second]) rfl k) ?_
  show own_G p e below (s₁.setTop (mkF m 61 #[.val (.ref a1), .val (.int (0 : Int32)), .val (.long (((((0 : Int64) ||| ((x0.toInt64) &&& (255 : Int64))) ||| (((x1.toInt64) &&& (255 : Int64)) <<< ((8 : Int32) &&& 0x3f).toInt64)) ||| (((x2.toInt64) &&& (255 : Int64)) <<< ((16 : Int32) &&& 0x3f).toInt64)) ||| (((x3.toInt64) &&& (255 : Int64)) <<< ((24 : Int32) &&& 0x3f).toInt64))), .second] [])) _
  refine own_go (fun _ k => XS.lloadN X0.here hx rfl (hb hby d10_61) rfl k) ?_
  show own_G p e below (s₁.setTop (mkF m 62 #[.val (.ref a1), .val (.int (0 : Int32)), .val (.long (((((0 : Int64) ||| ((x0.toInt64) &&& (255 : Int64))) ||| (((x1.toInt64) &&& (255 : Int64)) <<< ((8 : Int32) &&& 0x3f).toInt64)) ||| (((x2.toInt64) &&& (255 : Int64)) <<< ((16 : Int32) &&& 0x3f).toInt64)) ||| (((x3.toInt64) &&& (255 : Int64)) <<< ((24 : Int32) &&& 0x3f).toInt64))), .second] [(.long (((((0 : Int64) ||| ((x0.toInt64) &&& (255 : Int64))) ||| (((x1.toInt64) &&& (255 : Int64)) <<< ((8 : Int32) &&& 0x3f).toInt64)) ||| (((x2.toInt64) &&& (255 : Int64)) <<< ((16 : Int32) &&& 0x3f).toInt64)) ||| (((x3.toInt64) &&& (255 : Int64)) <<< ((24 : Int32) &&& 0x3f).toInt64)))])) _
  refine own_go (fun _ k => XS.aloadN X0.here hx rfl (hb hby d10_62) rfl rfl k) ?_
  show own_G p e below (s₁.setTop (mkF m 63 #[.val (.ref a1), .val (.int (0 : Int32)), .val (.long (((((0 : Int64) ||| ((x0.toInt64) &&& (255 : Int64))) ||| (((x1.toInt64) &&& (255 : Int64)) <<< ((8 : Int32) &&& 0x3f).toInt64)) ||| (((x2.toInt64) &&& (255 : Int64)) <<< ((16 : Int32) &&& 0x3f).toInt64)) ||| (((x3.toInt64) &&& (255 : Int64)) <<< ((24 : Int32) &&& 0x3f).toInt64))), .second] [(.ref a1), (.long (((((0 : Int64) ||| ((x0.toInt64) &&& (255 : Int64))) ||| (((x1.toInt64) &&& (255 : Int64)) <<< ((8 : Int32) &&& 0x3f).toInt64)) ||| (((x2.toInt64) &&& (255 : Int64)) <<< ((16 : Int32) &&& 0x3f).toInt64)) ||| (((x3.toInt64) &&& (255 : Int64)) <<< ((24 : Int32) &&& 0x3f).toInt64)))])) _
  refine own_go (fun _ k => XS.iloadN X0.here hx rfl (hb hby d10_63) rfl k) ?_
  show own_G p e below (s₁.setTop (mkF m 64 #[.val (.ref a1), .val (.int (0 : Int32)), .val (.long (((((0 : Int64) ||| ((x0.toInt64) &&& (255 : Int64))) ||| (((x1.toInt64) &&& (255 : Int64)) <<< ((8 : Int32) &&& 0x3f).toInt64)) ||| (((x2.toInt64) &&& (255 : Int64)) <<< ((16 : Int32) &&& 0x3f).toInt64)) ||| (((x3.toInt64) &&& (255 : Int64)) <<< ((24 : Int32) &&& 0x3f).toInt64))), .second] [(.int (0 : Int32)), (.ref a1), (.long (((((0 : Int64) ||| ((x0.toInt64) &&& (255 : Int64))) ||| (((x1.toInt64) &&& (255 : Int64)) <<< ((8 : Int32) &&& 0x3f).toInt64)) ||| (((x2.toInt64) &&& (255 : Int64)) <<< ((16 : Int32) &&& 0x3f).toInt64)) ||| (((x3.toInt64) &&& (255 : Int64)) <<< ((24 : Int32) &&& 0x3f).toInt64)))])) _
  refine own_go (fun _ k => XS.iconst X0.here hx rfl (hb hby d10_64) k) ?_
  show own_G p e below (s₁.setTop (mkF m 65 #[.val (.ref a1), .val (.int (0 : Int32)), .val (.long (((((0 : Int64) ||| ((x0.toInt64) &&& (255 : Int64))) ||| (((x1.toInt64) &&& (255 : Int64)) <<< ((8 : Int32) &&& 0x3f).toInt64)) ||| (((x2.toInt64) &&& (255 : Int64)) <<< ((16 : Int32) &&& 0x3f).toInt64)) ||| (((x3.toInt64) &&& (255 : Int64)) <<< ((24 : Int32) &&& 0x3f).toInt64))), .second] [(.int (4 : Int32)), (.int (0 : Int32)), (.ref a1), (.long (((((0 : Int64) ||| ((x0.toInt64) &&& (255 : Int64))) ||| (((x1.toInt64) &&& (255 : Int64)) <<< ((8 : Int32) &&& 0x3f).toInt64)) ||| (((x2.toInt64) &&& (255 : Int64)) <<< ((16 : Int32) &&& 0x3f).toInt64)) ||| (((x3.toInt64) &&& (255 : Int64)) <<< ((24 : Int32) &&& 0x3f).toInt64)))])) _
  refine own_go (fun _ k => XS.iadd X0.here hx rfl (hb hby d10_65) rfl k) ?_
  show own_G p e below (s₁.setTop (mkF m 66 #[.val (.ref a1), .val (.int (0 : Int32)), .val (.long (((((0 : Int64) ||| ((x0.toInt64) &&& (255 : Int64))) ||| (((x1.toInt64) &&& (255 : Int64)) <<< ((8 : Int32) &&& 0x3f).toInt64)) ||| (((x2.toInt64) &&& (255 : Int64)) <<< ((16 : Int32) &&& 0x3f).toInt64)) ||| (((x3.toInt64) &&& (255 : Int64)) <<< ((24 : Int32) &&& 0x3f).toInt64))), .second] [(.int (4 : Int32)), (.ref a1), (.long (((((0 : Int64) ||| ((x0.toInt64) &&& (255 : Int64))) ||| (((x1.toInt64) &&& (255 : Int64)) <<< ((8 : Int32) &&& 0x3f).toInt64)) ||| (((x2.toInt64) &&& (255 : Int64)) <<< ((16 : Int32) &&& 0x3f).toInt64)) ||| (((x3.toInt64) &&& (255 : Int64)) <<< ((24 : Int32) &&& 0x3f).toInt64)))])) _
  obtain ⟨cl202, Ar202, q202, S202, M202, B202, G202⟩ := id V_a1
  have hin202 : ¬ ((4 : Int32) < 0 ∨ cl202.slots.size ≤ ((4 : Int32)).toNatClampNeg) := inb_of S202 ⟨by decide, by decide⟩
  have hat202 : cl202.slots[((4 : Int32)).toNatClampNeg]? = some (.int x4) := B202.at hin202 rfl
  refine own_go (X0.baloadBytes hx (j := (4 : Int32)) (v := (.int x4)) (by rw [e0]; exact Ar202.1) (State.isArrayOf_alike hZ.alike Ar202.2.1) Ar202.2.2 hin202 hat202 (g := (mkF m 66 #[.val (.ref a1), .val (.int (0 : Int32)), .val (.long (((((0 : Int64) ||| ((x0.toInt64) &&& (255 : Int64))) ||| (((x1.toInt64) &&& (255 : Int64)) <<< ((8 : Int32) &&& 0x3f).toInt64)) ||| (((x2.toInt64) &&& (255 : Int64)) <<< ((16 : Int32) &&& 0x3f).toInt64)) ||| (((x3.toInt64) &&& (255 : Int64)) <<< ((24 : Int32) &&& 0x3f).toInt64))), .second] [(.int (4 : Int32)), (.ref a1), (.long (((((0 : Int64) ||| ((x0.toInt64) &&& (255 : Int64))) ||| (((x1.toInt64) &&& (255 : Int64)) <<< ((8 : Int32) &&& 0x3f).toInt64)) ||| (((x2.toInt64) &&& (255 : Int64)) <<< ((16 : Int32) &&& 0x3f).toInt64)) ||| (((x3.toInt64) &&& (255 : Int64)) <<< ((24 : Int32) &&& 0x3f).toInt64)))])) rfl rfl (hb hby d10_66)) ?_
  show own_G p e below (s₁.setTop (mkF m 67 #[.val (.ref a1), .val (.int (0 : Int32)), .val (.long (((((0 : Int64) ||| ((x0.toInt64) &&& (255 : Int64))) ||| (((x1.toInt64) &&& (255 : Int64)) <<< ((8 : Int32) &&& 0x3f).toInt64)) ||| (((x2.toInt64) &&& (255 : Int64)) <<< ((16 : Int32) &&& 0x3f).toInt64)) ||| (((x3.toInt64) &&& (255 : Int64)) <<< ((24 : Int32) &&& 0x3f).toInt64))), .second] [(.int x4), (.long (((((0 : Int64) ||| ((x0.toInt64) &&& (255 : Int64))) ||| (((x1.toInt64) &&& (255 : Int64)) <<< ((8 : Int32) &&& 0x3f).toInt64)) ||| (((x2.toInt64) &&& (255 : Int64)) <<< ((16 : Int32) &&& 0x3f).toInt64)) ||| (((x3.toInt64) &&& (255 : Int64)) <<< ((24 : Int32) &&& 0x3f).toInt64)))])) _
  refine own_go (fun _ k => XS.i2l X0.here hx rfl (hb hby d10_67) rfl k) ?_
  show own_G p e below (s₁.setTop (mkF m 68 #[.val (.ref a1), .val (.int (0 : Int32)), .val (.long (((((0 : Int64) ||| ((x0.toInt64) &&& (255 : Int64))) ||| (((x1.toInt64) &&& (255 : Int64)) <<< ((8 : Int32) &&& 0x3f).toInt64)) ||| (((x2.toInt64) &&& (255 : Int64)) <<< ((16 : Int32) &&& 0x3f).toInt64)) ||| (((x3.toInt64) &&& (255 : Int64)) <<< ((24 : Int32) &&& 0x3f).toInt64))), .second] [(.long (x4.toInt64)), (.long (((((0 : Int64) ||| ((x0.toInt64) &&& (255 : Int64))) ||| (((x1.toInt64) &&& (255 : Int64)) <<< ((8 : Int32) &&& 0x3f).toInt64)) ||| (((x2.toInt64) &&& (255 : Int64)) <<< ((16 : Int32) &&& 0x3f).toInt64)) ||| (((x3.toInt64) &&& (255 : Int64)) <<< ((24 : Int32) &&& 0x3f).toInt64)))])) _
  refine own_go (X0.ldc2Long hx hown (mvT hZ (hw _ (List.mem_of_getElem? (i := 62) rfl))) (g := (mkF m 68 #[.val (.ref a1), .val (.int (0 : Int32)), .val (.long (((((0 : Int64) ||| ((x0.toInt64) &&& (255 : Int64))) ||| (((x1.toInt64) &&& (255 : Int64)) <<< ((8 : Int32) &&& 0x3f).toInt64)) ||| (((x2.toInt64) &&& (255 : Int64)) <<< ((16 : Int32) &&& 0x3f).toInt64)) ||| (((x3.toInt64) &&& (255 : Int64)) <<< ((24 : Int32) &&& 0x3f).toInt64))), .second] [(.long (x4.toInt64)), (.long (((((0 : Int64) ||| ((x0.toInt64) &&& (255 : Int64))) ||| (((x1.toInt64) &&& (255 : Int64)) <<< ((8 : Int32) &&& 0x3f).toInt64)) ||| (((x2.toInt64) &&& (255 : Int64)) <<< ((16 : Int32) &&& 0x3f).toInt64)) ||| (((x3.toInt64) &&& (255 : Int64)) <<< ((24 : Int32) &&& 0x3f).toInt64)))])) rfl (hb hby d10_68)) ?_
  show own_G p e below (s₁.setTop (mkF m 71 #[.val (.ref a1), .val (.int (0 : Int32)), .val (.long (((((0 : Int64) ||| ((x0.toInt64) &&& (255 : Int64))) ||| (((x1.toInt64) &&& (255 : Int64)) <<< ((8 : Int32) &&& 0x3f).toInt64)) ||| (((x2.toInt64) &&& (255 : Int64)) <<< ((16 : Int32) &&& 0x3f).toInt64)) ||| (((x3.toInt64) &&& (255 : Int64)) <<< ((24 : Int32) &&& 0x3f).toInt64))), .second] [(.long (255 : Int64)), (.long (x4.toInt64)), (.long (((((0 : Int64) ||| ((x0.toInt64) &&& (255 : Int64))) ||| (((x1.toInt64) &&& (255 : Int64)) <<< ((8 : Int32) &&& 0x3f).toInt64)) ||| (((x2.toInt64) &&& (255 : Int64)) <<< ((16 : Int32) &&& 0x3f).toInt64)) ||| (((x3.toInt64) &&& (255 : Int64)) <<< ((24 : Int32) &&& 0x3f).toInt64)))])) _
  refine own_go (fun _ k => XS.land X0.here hx rfl (hb hby d10_71) rfl k) ?_
  show own_G p e below (s₁.setTop (mkF m 72 #[.val (.ref a1), .val (.int (0 : Int32)), .val (.long (((((0 : Int64) ||| ((x0.toInt64) &&& (255 : Int64))) ||| (((x1.toInt64) &&& (255 : Int64)) <<< ((8 : Int32) &&& 0x3f).toInt64)) ||| (((x2.toInt64) &&& (255 : Int64)) <<< ((16 : Int32) &&& 0x3f).toInt64)) ||| (((x3.toInt64) &&& (255 : Int64)) <<< ((24 : Int32) &&& 0x3f).toInt64))), .second] [(.long ((x4.toInt64) &&& (255 : Int64))), (.long (((((0 : Int64) ||| ((x0.toInt64) &&& (255 : Int64))) ||| (((x1.toInt64) &&& (255 : Int64)) <<< ((8 : Int32) &&& 0x3f).toInt64)) ||| (((x2.toInt64) &&& (255 : Int64)) <<< ((16 : Int32) &&& 0x3f).toInt64)) ||| (((x3.toInt64) &&& (255 : Int64)) <<< ((24 : Int32) &&& 0x3f).toInt64)))])) _
  refine own_go (fun _ k => XS.bipush X0.here hx rfl (hb hby d10_72) k) ?_
  show own_G p e below (s₁.setTop (mkF m 74 #[.val (.ref a1), .val (.int (0 : Int32)), .val (.long (((((0 : Int64) ||| ((x0.toInt64) &&& (255 : Int64))) ||| (((x1.toInt64) &&& (255 : Int64)) <<< ((8 : Int32) &&& 0x3f).toInt64)) ||| (((x2.toInt64) &&& (255 : Int64)) <<< ((16 : Int32) &&& 0x3f).toInt64)) ||| (((x3.toInt64) &&& (255 : Int64)) <<< ((24 : Int32) &&& 0x3f).toInt64))), .second] [(.int (32 : Int32)), (.long ((x4.toInt64) &&& (255 : Int64))), (.long (((((0 : Int64) ||| ((x0.toInt64) &&& (255 : Int64))) ||| (((x1.toInt64) &&& (255 : Int64)) <<< ((8 : Int32) &&& 0x3f).toInt64)) ||| (((x2.toInt64) &&& (255 : Int64)) <<< ((16 : Int32) &&& 0x3f).toInt64)) ||| (((x3.toInt64) &&& (255 : Int64)) <<< ((24 : Int32) &&& 0x3f).toInt64)))])) _
  refine own_go (fun _ k => XS.lshl X0.here hx rfl (hb hby d10_74) rfl k) ?_
  show own_G p e below (s₁.setTop (mkF m 75 #[.val (.ref a1), .val (.int (0 : Int32)), .val (.long (((((0 : Int64) ||| ((x0.toInt64) &&& (255 : Int64))) ||| (((x1.toInt64) &&& (255 : Int64)) <<< ((8 : Int32) &&& 0x3f).toInt64)) ||| (((x2.toInt64) &&& (255 : Int64)) <<< ((16 : Int32) &&& 0x3f).toInt64)) ||| (((x3.toInt64) &&& (255 : Int64)) <<< ((24 : Int32) &&& 0x3f).toInt64))), .second] [(.long (((x4.toInt64) &&& (255 : Int64)) <<< ((32 : Int32) &&& 0x3f).toInt64)), (.long (((((0 : Int64) ||| ((x0.toInt64) &&& (255 : Int64))) ||| (((x1.toInt64) &&& (255 : Int64)) <<< ((8 : Int32) &&& 0x3f).toInt64)) ||| (((x2.toInt64) &&& (255 : Int64)) <<< ((16 : Int32) &&& 0x3f).toInt64)) ||| (((x3.toInt64) &&& (255 : Int64)) <<< ((24 : Int32) &&& 0x3f).toInt64)))])) _
  refine own_go (fun _ k => XS.lor X0.here hx rfl (hb hby d10_75) rfl k) ?_
  show own_G p e below (s₁.setTop (mkF m 76 #[.val (.ref a1), .val (.int (0 : Int32)), .val (.long (((((0 : Int64) ||| ((x0.toInt64) &&& (255 : Int64))) ||| (((x1.toInt64) &&& (255 : Int64)) <<< ((8 : Int32) &&& 0x3f).toInt64)) ||| (((x2.toInt64) &&& (255 : Int64)) <<< ((16 : Int32) &&& 0x3f).toInt64)) ||| (((x3.toInt64) &&& (255 : Int64)) <<< ((24 : Int32) &&& 0x3f).toInt64))), .second] [(.long ((((((0 : Int64) ||| ((x0.toInt64) &&& (255 : Int64))) ||| (((x1.toInt64) &&& (255 : Int64)) <<< ((8 : Int32) &&& 0x3f).toInt64)) ||| (((x2.toInt64) &&& (255 : Int64)) <<< ((16 : Int32) &&& 0x3f).toInt64)) ||| (((x3.toInt64) &&& (255 : Int64)) <<< ((24 : Int32) &&& 0x3f).toInt64)) ||| (((x4.toInt64) &&& (255 : Int64)) <<< ((32 : Int32) &&& 0x3f).toInt64)))])) _
  refine own_go (fun _ k => XS.lstoreN X0.here hx rfl (hb hby d10_76) rfl (l' := #[.val (.ref a1), .val (.int (0 : Int32)), .val (.long ((((((0 : Int64) ||| ((x0.toInt64) &&& (255 : Int64))) ||| (((x1.toInt64) &&& (255 : Int64)) <<< ((8 : Int32) &&& 0x3f).toInt64)) ||| (((x2.toInt64) &&& (255 : Int64)) <<< ((16 : Int32) &&& 0x3f).toInt64)) ||| (((x3.toInt64) &&& (255 : Int64)) <<< ((24 : Int32) &&& 0x3f).toInt64)) ||| (((x4.toInt64) &&& (255 : Int64)) <<< ((32 : Int32) &&& 0x3f).toInt64))), .second]) rfl k) ?_
  show own_G p e below (s₁.setTop (mkF m 77 #[.val (.ref a1), .val (.int (0 : Int32)), .val (.long ((((((0 : Int64) ||| ((x0.toInt64) &&& (255 : Int64))) ||| (((x1.toInt64) &&& (255 : Int64)) <<< ((8 : Int32) &&& 0x3f).toInt64)) ||| (((x2.toInt64) &&& (255 : Int64)) <<< ((16 : Int32) &&& 0x3f).toInt64)) ||| (((x3.toInt64) &&& (255 : Int64)) <<< ((24 : Int32) &&& 0x3f).toInt64)) ||| (((x4.toInt64) &&& (255 : Int64)) <<< ((32 : Int32) &&& 0x3f).toInt64))), .second] [])) _
  refine own_go (fun _ k => XS.lloadN X0.here hx rfl (hb hby d10_77) rfl k) ?_
  show own_G p e below (s₁.setTop (mkF m 78 #[.val (.ref a1), .val (.int (0 : Int32)), .val (.long ((((((0 : Int64) ||| ((x0.toInt64) &&& (255 : Int64))) ||| (((x1.toInt64) &&& (255 : Int64)) <<< ((8 : Int32) &&& 0x3f).toInt64)) ||| (((x2.toInt64) &&& (255 : Int64)) <<< ((16 : Int32) &&& 0x3f).toInt64)) ||| (((x3.toInt64) &&& (255 : Int64)) <<< ((24 : Int32) &&& 0x3f).toInt64)) ||| (((x4.toInt64) &&& (255 : Int64)) <<< ((32 : Int32) &&& 0x3f).toInt64))), .second] [(.long ((((((0 : Int64) ||| ((x0.toInt64) &&& (255 : Int64))) ||| (((x1.toInt64) &&& (255 : Int64)) <<< ((8 : Int32) &&& 0x3f).toInt64)) ||| (((x2.toInt64) &&& (255 : Int64)) <<< ((16 : Int32) &&& 0x3f).toInt64)) ||| (((x3.toInt64) &&& (255 : Int64)) <<< ((24 : Int32) &&& 0x3f).toInt64)) ||| (((x4.toInt64) &&& (255 : Int64)) <<< ((32 : Int32) &&& 0x3f).toInt64)))])) _
  refine own_go (fun _ k => XS.aloadN X0.here hx rfl (hb hby d10_78) rfl rfl k) ?_
  show own_G p e below (s₁.setTop (mkF m 79 #[.val (.ref a1), .val (.int (0 : Int32)), .val (.long ((((((0 : Int64) ||| ((x0.toInt64) &&& (255 : Int64))) ||| (((x1.toInt64) &&& (255 : Int64)) <<< ((8 : Int32) &&& 0x3f).toInt64)) ||| (((x2.toInt64) &&& (255 : Int64)) <<< ((16 : Int32) &&& 0x3f).toInt64)) ||| (((x3.toInt64) &&& (255 : Int64)) <<< ((24 : Int32) &&& 0x3f).toInt64)) ||| (((x4.toInt64) &&& (255 : Int64)) <<< ((32 : Int32) &&& 0x3f).toInt64))), .second] [(.ref a1), (.long ((((((0 : Int64) ||| ((x0.toInt64) &&& (255 : Int64))) ||| (((x1.toInt64) &&& (255 : Int64)) <<< ((8 : Int32) &&& 0x3f).toInt64)) ||| (((x2.toInt64) &&& (255 : Int64)) <<< ((16 : Int32) &&& 0x3f).toInt64)) ||| (((x3.toInt64) &&& (255 : Int64)) <<< ((24 : Int32) &&& 0x3f).toInt64)) ||| (((x4.toInt64) &&& (255 : Int64)) <<< ((32 : Int32) &&& 0x3f).toInt64)))])) _
  refine own_go (fun _ k => XS.iloadN X0.here hx rfl (hb hby d10_79) rfl k) ?_
  show own_G p e below (s₁.setTop (mkF m 80 #[.val (.ref a1), .val (.int (0 : Int32)), .val (.long ((((((0 : Int64) ||| ((x0.toInt64) &&& (255 : Int64))) ||| (((x1.toInt64) &&& (255 : Int64)) <<< ((8 : Int32) &&& 0x3f).toInt64)) ||| (((x2.toInt64) &&& (255 : Int64)) <<< ((16 : Int32) &&& 0x3f).toInt64)) ||| (((x3.toInt64) &&& (255 : Int64)) <<< ((24 : Int32) &&& 0x3f).toInt64)) ||| (((x4.toInt64) &&& (255 : Int64)) <<< ((32 : Int32) &&& 0x3f).toInt64))), .second] [(.int (0 : Int32)), (.ref a1), (.long ((((((0 : Int64) ||| ((x0.toInt64) &&& (255 : Int64))) ||| (((x1.toInt64) &&& (255 : Int64)) <<< ((8 : Int32) &&& 0x3f).toInt64)) ||| (((x2.toInt64) &&& (255 : Int64)) <<< ((16 : Int32) &&& 0x3f).toInt64)) ||| (((x3.toInt64) &&& (255 : Int64)) <<< ((24 : Int32) &&& 0x3f).toInt64)) ||| (((x4.toInt64) &&& (255 : Int64)) <<< ((32 : Int32) &&& 0x3f).toInt64)))])) _
  refine own_go (fun _ k => XS.iconst X0.here hx rfl (hb hby d10_80) k) ?_
  show own_G p e below (s₁.setTop (mkF m 81 #[.val (.ref a1), .val (.int (0 : Int32)), .val (.long ((((((0 : Int64) ||| ((x0.toInt64) &&& (255 : Int64))) ||| (((x1.toInt64) &&& (255 : Int64)) <<< ((8 : Int32) &&& 0x3f).toInt64)) ||| (((x2.toInt64) &&& (255 : Int64)) <<< ((16 : Int32) &&& 0x3f).toInt64)) ||| (((x3.toInt64) &&& (255 : Int64)) <<< ((24 : Int32) &&& 0x3f).toInt64)) ||| (((x4.toInt64) &&& (255 : Int64)) <<< ((32 : Int32) &&& 0x3f).toInt64))), .second] [(.int (5 : Int32)), (.int (0 : Int32)), (.ref a1), (.long ((((((0 : Int64) ||| ((x0.toInt64) &&& (255 : Int64))) ||| (((x1.toInt64) &&& (255 : Int64)) <<< ((8 : Int32) &&& 0x3f).toInt64)) ||| (((x2.toInt64) &&& (255 : Int64)) <<< ((16 : Int32) &&& 0x3f).toInt64)) ||| (((x3.toInt64) &&& (255 : Int64)) <<< ((24 : Int32) &&& 0x3f).toInt64)) ||| (((x4.toInt64) &&& (255 : Int64)) <<< ((32 : Int32) &&& 0x3f).toInt64)))])) _
  refine own_go (fun _ k => XS.iadd X0.here hx rfl (hb hby d10_81) rfl k) ?_
  show own_G p e below (s₁.setTop (mkF m 82 #[.val (.ref a1), .val (.int (0 : Int32)), .val (.long ((((((0 : Int64) ||| ((x0.toInt64) &&& (255 : Int64))) ||| (((x1.toInt64) &&& (255 : Int64)) <<< ((8 : Int32) &&& 0x3f).toInt64)) ||| (((x2.toInt64) &&& (255 : Int64)) <<< ((16 : Int32) &&& 0x3f).toInt64)) ||| (((x3.toInt64) &&& (255 : Int64)) <<< ((24 : Int32) &&& 0x3f).toInt64)) ||| (((x4.toInt64) &&& (255 : Int64)) <<< ((32 : Int32) &&& 0x3f).toInt64))), .second] [(.int (5 : Int32)), (.ref a1), (.long ((((((0 : Int64) ||| ((x0.toInt64) &&& (255 : Int64))) ||| (((x1.toInt64) &&& (255 : Int64)) <<< ((8 : Int32) &&& 0x3f).toInt64)) ||| (((x2.toInt64) &&& (255 : Int64)) <<< ((16 : Int32) &&& 0x3f).toInt64)) ||| (((x3.toInt64) &&& (255 : Int64)) <<< ((24 : Int32) &&& 0x3f).toInt64)) ||| (((x4.toInt64) &&& (255 : Int64)) <<< ((32 : Int32) &&& 0x3f).toInt64)))])) _
  obtain ⟨cl203, Ar203, q203, S203, M203, B203, G203⟩ := id V_a1
  have hin203 : ¬ ((5 : Int32) < 0 ∨ cl203.slots.size ≤ ((5 : Int32)).toNatClampNeg) := inb_of S203 ⟨by decide, by decide⟩
  have hat203 : cl203.slots[((5 : Int32)).toNatClampNeg]? = some (.int x5) := B203.at hin203 rfl
  refine own_go (X0.baloadBytes hx (j := (5 : Int32)) (v := (.int x5)) (by rw [e0]; exact Ar203.1) (State.isArrayOf_alike hZ.alike Ar203.2.1) Ar203.2.2 hin203 hat203 (g := (mkF m 82 #[.val (.ref a1), .val (.int (0 : Int32)), .val (.long ((((((0 : Int64) ||| ((x0.toInt64) &&& (255 : Int64))) ||| (((x1.toInt64) &&& (255 : Int64)) <<< ((8 : Int32) &&& 0x3f).toInt64)) ||| (((x2.toInt64) &&& (255 : Int64)) <<< ((16 : Int32) &&& 0x3f).toInt64)) ||| (((x3.toInt64) &&& (255 : Int64)) <<< ((24 : Int32) &&& 0x3f).toInt64)) ||| (((x4.toInt64) &&& (255 : Int64)) <<< ((32 : Int32) &&& 0x3f).toInt64))), .second] [(.int (5 : Int32)), (.ref a1), (.long ((((((0 : Int64) ||| ((x0.toInt64) &&& (255 : Int64))) ||| (((x1.toInt64) &&& (255 : Int64)) <<< ((8 : Int32) &&& 0x3f).toInt64)) ||| (((x2.toInt64) &&& (255 : Int64)) <<< ((16 : Int32) &&& 0x3f).toInt64)) ||| (((x3.toInt64) &&& (255 : Int64)) <<< ((24 : Int32) &&& 0x3f).toInt64)) ||| (((x4.toInt64) &&& (255 : Int64)) <<< ((32 : Int32) &&& 0x3f).toInt64)))])) rfl rfl (hb hby d10_82)) ?_
  show own_G p e below (s₁.setTop (mkF m 83 #[.val (.ref a1), .val (.int (0 : Int32)), .val (.long ((((((0 : Int64) ||| ((x0.toInt64) &&& (255 : Int64))) ||| (((x1.toInt64) &&& (255 : Int64)) <<< ((8 : Int32) &&& 0x3f).toInt64)) ||| (((x2.toInt64) &&& (255 : Int64)) <<< ((16 : Int32) &&& 0x3f).toInt64)) ||| (((x3.toInt64) &&& (255 : Int64)) <<< ((24 : Int32) &&& 0x3f).toInt64)) ||| (((x4.toInt64) &&& (255 : Int64)) <<< ((32 : Int32) &&& 0x3f).toInt64))), .second] [(.int x5), (.long ((((((0 : Int64) ||| ((x0.toInt64) &&& (255 : Int64))) ||| (((x1.toInt64) &&& (255 : Int64)) <<< ((8 : Int32) &&& 0x3f).toInt64)) ||| (((x2.toInt64) &&& (255 : Int64)) <<< ((16 : Int32) &&& 0x3f).toInt64)) ||| (((x3.toInt64) &&& (255 : Int64)) <<< ((24 : Int32) &&& 0x3f).toInt64)) ||| (((x4.toInt64) &&& (255 : Int64)) <<< ((32 : Int32) &&& 0x3f).toInt64)))])) _
  refine own_go (fun _ k => XS.i2l X0.here hx rfl (hb hby d10_83) rfl k) ?_
  show own_G p e below (s₁.setTop (mkF m 84 #[.val (.ref a1), .val (.int (0 : Int32)), .val (.long ((((((0 : Int64) ||| ((x0.toInt64) &&& (255 : Int64))) ||| (((x1.toInt64) &&& (255 : Int64)) <<< ((8 : Int32) &&& 0x3f).toInt64)) ||| (((x2.toInt64) &&& (255 : Int64)) <<< ((16 : Int32) &&& 0x3f).toInt64)) ||| (((x3.toInt64) &&& (255 : Int64)) <<< ((24 : Int32) &&& 0x3f).toInt64)) ||| (((x4.toInt64) &&& (255 : Int64)) <<< ((32 : Int32) &&& 0x3f).toInt64))), .second] [(.long (x5.toInt64)), (.long ((((((0 : Int64) ||| ((x0.toInt64) &&& (255 : Int64))) ||| (((x1.toInt64) &&& (255 : Int64)) <<< ((8 : Int32) &&& 0x3f).toInt64)) ||| (((x2.toInt64) &&& (255 : Int64)) <<< ((16 : Int32) &&& 0x3f).toInt64)) ||| (((x3.toInt64) &&& (255 : Int64)) <<< ((24 : Int32) &&& 0x3f).toInt64)) ||| (((x4.toInt64) &&& (255 : Int64)) <<< ((32 : Int32) &&& 0x3f).toInt64)))])) _
  refine own_go (X0.ldc2Long hx hown (mvT hZ (hw _ (List.mem_of_getElem? (i := 62) rfl))) (g := (mkF m 84 #[.val (.ref a1), .val (.int (0 : Int32)), .val (.long ((((((0 : Int64) ||| ((x0.toInt64) &&& (255 : Int64))) ||| (((x1.toInt64) &&& (255 : Int64)) <<< ((8 : Int32) &&& 0x3f).toInt64)) ||| (((x2.toInt64) &&& (255 : Int64)) <<< ((16 : Int32) &&& 0x3f).toInt64)) ||| (((x3.toInt64) &&& (255 : Int64)) <<< ((24 : Int32) &&& 0x3f).toInt64)) ||| (((x4.toInt64) &&& (255 : Int64)) <<< ((32 : Int32) &&& 0x3f).toInt64))), .second] [(.long (x5.toInt64)), (.long ((((((0 : Int64) ||| ((x0.toInt64) &&& (255 : Int64))) ||| (((x1.toInt64) &&& (255 : Int64)) <<< ((8 : Int32) &&& 0x3f).toInt64)) ||| (((x2.toInt64) &&& (255 : Int64)) <<< ((16 : Int32) &&& 0x3f).toInt64)) ||| (((x3.toInt64) &&& (255 : Int64)) <<< ((24 : Int32) &&& 0x3f).toInt64)) ||| (((x4.toInt64) &&& (255 : Int64)) <<< ((32 : Int32) &&& 0x3f).toInt64)))])) rfl (hb hby d10_84)) ?_
  show own_G p e below (s₁.setTop (mkF m 87 #[.val (.ref a1), .val (.int (0 : Int32)), .val (.long ((((((0 : Int64) ||| ((x0.toInt64) &&& (255 : Int64))) ||| (((x1.toInt64) &&& (255 : Int64)) <<< ((8 : Int32) &&& 0x3f).toInt64)) ||| (((x2.toInt64) &&& (255 : Int64)) <<< ((16 : Int32) &&& 0x3f).toInt64)) ||| (((x3.toInt64) &&& (255 : Int64)) <<< ((24 : Int32) &&& 0x3f).toInt64)) ||| (((x4.toInt64) &&& (255 : Int64)) <<< ((32 : Int32) &&& 0x3f).toInt64))), .second] [(.long (255 : Int64)), (.long (x5.toInt64)), (.long ((((((0 : Int64) ||| ((x0.toInt64) &&& (255 : Int64))) ||| (((x1.toInt64) &&& (255 : Int64)) <<< ((8 : Int32) &&& 0x3f).toInt64)) ||| (((x2.toInt64) &&& (255 : Int64)) <<< ((16 : Int32) &&& 0x3f).toInt64)) ||| (((x3.toInt64) &&& (255 : Int64)) <<< ((24 : Int32) &&& 0x3f).toInt64)) ||| (((x4.toInt64) &&& (255 : Int64)) <<< ((32 : Int32) &&& 0x3f).toInt64)))])) _
  refine own_go (fun _ k => XS.land X0.here hx rfl (hb hby d10_87) rfl k) ?_
  show own_G p e below (s₁.setTop (mkF m 88 #[.val (.ref a1), .val (.int (0 : Int32)), .val (.long ((((((0 : Int64) ||| ((x0.toInt64) &&& (255 : Int64))) ||| (((x1.toInt64) &&& (255 : Int64)) <<< ((8 : Int32) &&& 0x3f).toInt64)) ||| (((x2.toInt64) &&& (255 : Int64)) <<< ((16 : Int32) &&& 0x3f).toInt64)) ||| (((x3.toInt64) &&& (255 : Int64)) <<< ((24 : Int32) &&& 0x3f).toInt64)) ||| (((x4.toInt64) &&& (255 : Int64)) <<< ((32 : Int32) &&& 0x3f).toInt64))), .second] [(.long ((x5.toInt64) &&& (255 : Int64))), (.long ((((((0 : Int64) ||| ((x0.toInt64) &&& (255 : Int64))) ||| (((x1.toInt64) &&& (255 : Int64)) <<< ((8 : Int32) &&& 0x3f).toInt64)) ||| (((x2.toInt64) &&& (255 : Int64)) <<< ((16 : Int32) &&& 0x3f).toInt64)) ||| (((x3.toInt64) &&& (255 : Int64)) <<< ((24 : Int32) &&& 0x3f).toInt64)) ||| (((x4.toInt64) &&& (255 : Int64)) <<< ((32 : Int32) &&& 0x3f).toInt64)))])) _
  refine own_go (fun _ k => XS.bipush X0.here hx rfl (hb hby d10_88) k) ?_
  show own_G p e below (s₁.setTop (mkF m 90 #[.val (.ref a1), .val (.int (0 : Int32)), .val (.long ((((((0 : Int64) ||| ((x0.toInt64) &&& (255 : Int64))) ||| (((x1.toInt64) &&& (255 : Int64)) <<< ((8 : Int32) &&& 0x3f).toInt64)) ||| (((x2.toInt64) &&& (255 : Int64)) <<< ((16 : Int32) &&& 0x3f).toInt64)) ||| (((x3.toInt64) &&& (255 : Int64)) <<< ((24 : Int32) &&& 0x3f).toInt64)) ||| (((x4.toInt64) &&& (255 : Int64)) <<< ((32 : Int32) &&& 0x3f).toInt64))), .second] [(.int (40 : Int32)), (.long ((x5.toInt64) &&& (255 : Int64))), (.long ((((((0 : Int64) ||| ((x0.toInt64) &&& (255 : Int64))) ||| (((x1.toInt64) &&& (255 : Int64)) <<< ((8 : Int32) &&& 0x3f).toInt64)) ||| (((x2.toInt64) &&& (255 : Int64)) <<< ((16 : Int32) &&& 0x3f).toInt64)) ||| (((x3.toInt64) &&& (255 : Int64)) <<< ((24 : Int32) &&& 0x3f).toInt64)) ||| (((x4.toInt64) &&& (255 : Int64)) <<< ((32 : Int32) &&& 0x3f).toInt64)))])) _
  refine own_go (fun _ k => XS.lshl X0.here hx rfl (hb hby d10_90) rfl k) ?_
  show own_G p e below (s₁.setTop (mkF m 91 #[.val (.ref a1), .val (.int (0 : Int32)), .val (.long ((((((0 : Int64) ||| ((x0.toInt64) &&& (255 : Int64))) ||| (((x1.toInt64) &&& (255 : Int64)) <<< ((8 : Int32) &&& 0x3f).toInt64)) ||| (((x2.toInt64) &&& (255 : Int64)) <<< ((16 : Int32) &&& 0x3f).toInt64)) ||| (((x3.toInt64) &&& (255 : Int64)) <<< ((24 : Int32) &&& 0x3f).toInt64)) ||| (((x4.toInt64) &&& (255 : Int64)) <<< ((32 : Int32) &&& 0x3f).toInt64))), .second] [(.long (((x5.toInt64) &&& (255 : Int64)) <<< ((40 : Int32) &&& 0x3f).toInt64)), (.long ((((((0 : Int64) ||| ((x0.toInt64) &&& (255 : Int64))) ||| (((x1.toInt64) &&& (255 : Int64)) <<< ((8 : Int32) &&& 0x3f).toInt64)) ||| (((x2.toInt64) &&& (255 : Int64)) <<< ((16 : Int32) &&& 0x3f).toInt64)) ||| (((x3.toInt64) &&& (255 : Int64)) <<< ((24 : Int32) &&& 0x3f).toInt64)) ||| (((x4.toInt64) &&& (255 : Int64)) <<< ((32 : Int32) &&& 0x3f).toInt64)))])) _
  refine own_go (fun _ k => XS.lor X0.here hx rfl (hb hby d10_91) rfl k) ?_
  show own_G p e below (s₁.setTop (mkF m 92 #[.val (.ref a1), .val (.int (0 : Int32)), .val (.long ((((((0 : Int64) ||| ((x0.toInt64) &&& (255 : Int64))) ||| (((x1.toInt64) &&& (255 : Int64)) <<< ((8 : Int32) &&& 0x3f).toInt64)) ||| (((x2.toInt64) &&& (255 : Int64)) <<< ((16 : Int32) &&& 0x3f).toInt64)) ||| (((x3.toInt64) &&& (255 : Int64)) <<< ((24 : Int32) &&& 0x3f).toInt64)) ||| (((x4.toInt64) &&& (255 : Int64)) <<< ((32 : Int32) &&& 0x3f).toInt64))), .second] [(.long (((((((0 : Int64) ||| ((x0.toInt64) &&& (255 : Int64))) ||| (((x1.toInt64) &&& (255 : Int64)) <<< ((8 : Int32) &&& 0x3f).toInt64)) ||| (((x2.toInt64) &&& (255 : Int64)) <<< ((16 : Int32) &&& 0x3f).toInt64)) ||| (((x3.toInt64) &&& (255 : Int64)) <<< ((24 : Int32) &&& 0x3f).toInt64)) ||| (((x4.toInt64) &&& (255 : Int64)) <<< ((32 : Int32) &&& 0x3f).toInt64)) ||| (((x5.toInt64) &&& (255 : Int64)) <<< ((40 : Int32) &&& 0x3f).toInt64)))])) _
  refine own_go (fun _ k => XS.lstoreN X0.here hx rfl (hb hby d10_92) rfl (l' := #[.val (.ref a1), .val (.int (0 : Int32)), .val (.long (((((((0 : Int64) ||| ((x0.toInt64) &&& (255 : Int64))) ||| (((x1.toInt64) &&& (255 : Int64)) <<< ((8 : Int32) &&& 0x3f).toInt64)) ||| (((x2.toInt64) &&& (255 : Int64)) <<< ((16 : Int32) &&& 0x3f).toInt64)) ||| (((x3.toInt64) &&& (255 : Int64)) <<< ((24 : Int32) &&& 0x3f).toInt64)) ||| (((x4.toInt64) &&& (255 : Int64)) <<< ((32 : Int32) &&& 0x3f).toInt64)) ||| (((x5.toInt64) &&& (255 : Int64)) <<< ((40 : Int32) &&& 0x3f).toInt64))), .second]) rfl k) ?_
  show own_G p e below (s₁.setTop (mkF m 93 #[.val (.ref a1), .val (.int (0 : Int32)), .val (.long (((((((0 : Int64) ||| ((x0.toInt64) &&& (255 : Int64))) ||| (((x1.toInt64) &&& (255 : Int64)) <<< ((8 : Int32) &&& 0x3f).toInt64)) ||| (((x2.toInt64) &&& (255 : Int64)) <<< ((16 : Int32) &&& 0x3f).toInt64)) ||| (((x3.toInt64) &&& (255 : Int64)) <<< ((24 : Int32) &&& 0x3f).toInt64)) ||| (((x4.toInt64) &&& (255 : Int64)) <<< ((32 : Int32) &&& 0x3f).toInt64)) ||| (((x5.toInt64) &&& (255 : Int64)) <<< ((40 : Int32) &&& 0x3f).toInt64))), .second] [])) _
  refine own_go (fun _ k => XS.lloadN X0.here hx rfl (hb hby d10_93) rfl k) ?_
  show own_G p e below (s₁.setTop (mkF m 94 #[.val (.ref a1), .val (.int (0 : Int32)), .val (.long (((((((0 : Int64) ||| ((x0.toInt64) &&& (255 : Int64))) ||| (((x1.toInt64) &&& (255 : Int64)) <<< ((8 : Int32) &&& 0x3f).toInt64)) ||| (((x2.toInt64) &&& (255 : Int64)) <<< ((16 : Int32) &&& 0x3f).toInt64)) ||| (((x3.toInt64) &&& (255 : Int64)) <<< ((24 : Int32) &&& 0x3f).toInt64)) ||| (((x4.toInt64) &&& (255 : Int64)) <<< ((32 : Int32) &&& 0x3f).toInt64)) ||| (((x5.toInt64) &&& (255 : Int64)) <<< ((40 : Int32) &&& 0x3f).toInt64))), .second] [(.long (((((((0 : Int64) ||| ((x0.toInt64) &&& (255 : Int64))) ||| (((x1.toInt64) &&& (255 : Int64)) <<< ((8 : Int32) &&& 0x3f).toInt64)) ||| (((x2.toInt64) &&& (255 : Int64)) <<< ((16 : Int32) &&& 0x3f).toInt64)) ||| (((x3.toInt64) &&& (255 : Int64)) <<< ((24 : Int32) &&& 0x3f).toInt64)) ||| (((x4.toInt64) &&& (255 : Int64)) <<< ((32 : Int32) &&& 0x3f).toInt64)) ||| (((x5.toInt64) &&& (255 : Int64)) <<< ((40 : Int32) &&& 0x3f).toInt64)))])) _
  refine own_go (fun _ k => XS.aloadN X0.here hx rfl (hb hby d10_94) rfl rfl k) ?_
  show own_G p e below (s₁.setTop (mkF m 95 #[.val (.ref a1), .val (.int (0 : Int32)), .val (.long (((((((0 : Int64) ||| ((x0.toInt64) &&& (255 : Int64))) ||| (((x1.toInt64) &&& (255 : Int64)) <<< ((8 : Int32) &&& 0x3f).toInt64)) ||| (((x2.toInt64) &&& (255 : Int64)) <<< ((16 : Int32) &&& 0x3f).toInt64)) ||| (((x3.toInt64) &&& (255 : Int64)) <<< ((24 : Int32) &&& 0x3f).toInt64)) ||| (((x4.toInt64) &&& (255 : Int64)) <<< ((32 : Int32) &&& 0x3f).toInt64)) ||| (((x5.toInt64) &&& (255 : Int64)) <<< ((40 : Int32) &&& 0x3f).toInt64))), .second] [(.ref a1), (.long (((((((0 : Int64) ||| ((x0.toInt64) &&& (255 : Int64))) ||| (((x1.toInt64) &&& (255 : Int64)) <<< ((8 : Int32) &&& 0x3f).toInt64)) ||| (((x2.toInt64) &&& (255 : Int64)) <<< ((16 : Int32) &&& 0x3f).toInt64)) ||| (((x3.toInt64) &&& (255 : Int64)) <<< ((24 : Int32) &&& 0x3f).toInt64)) ||| (((x4.toInt64) &&& (255 : Int64)) <<< ((32 : Int32) &&& 0x3f).toInt64)) ||| (((x5.toInt64) &&& (255 : Int64)) <<< ((40 : Int32) &&& 0x3f).toInt64)))])) _
  refine own_go (fun _ k => XS.iloadN X0.here hx rfl (hb hby d10_95) rfl k) ?_
  show own_G p e below (s₁.setTop (mkF m 96 #[.val (.ref a1), .val (.int (0 : Int32)), .val (.long (((((((0 : Int64) ||| ((x0.toInt64) &&& (255 : Int64))) ||| (((x1.toInt64) &&& (255 : Int64)) <<< ((8 : Int32) &&& 0x3f).toInt64)) ||| (((x2.toInt64) &&& (255 : Int64)) <<< ((16 : Int32) &&& 0x3f).toInt64)) ||| (((x3.toInt64) &&& (255 : Int64)) <<< ((24 : Int32) &&& 0x3f).toInt64)) ||| (((x4.toInt64) &&& (255 : Int64)) <<< ((32 : Int32) &&& 0x3f).toInt64)) ||| (((x5.toInt64) &&& (255 : Int64)) <<< ((40 : Int32) &&& 0x3f).toInt64))), .second] [(.int (0 : Int32)), (.ref a1), (.long (((((((0 : Int64) ||| ((x0.toInt64) &&& (255 : Int64))) ||| (((x1.toInt64) &&& (255 : Int64)) <<< ((8 : Int32) &&& 0x3f).toInt64)) ||| (((x2.toInt64) &&& (255 : Int64)) <<< ((16 : Int32) &&& 0x3f).toInt64)) ||| (((x3.toInt64) &&& (255 : Int64)) <<< ((24 : Int32) &&& 0x3f).toInt64)) ||| (((x4.toInt64) &&& (255 : Int64)) <<< ((32 : Int32) &&& 0x3f).toInt64)) ||| (((x5.toInt64) &&& (255 : Int64)) <<< ((40 : Int32) &&& 0x3f).toInt64)))])) _
  refine own_go (fun _ k => XS.bipush X0.here hx rfl (hb hby d10_96) k) ?_
  show own_G p e below (s₁.setTop (mkF m 98 #[.val (.ref a1), .val (.int (0 : Int32)), .val (.long (((((((0 : Int64) ||| ((x0.toInt64) &&& (255 : Int64))) ||| (((x1.toInt64) &&& (255 : Int64)) <<< ((8 : Int32) &&& 0x3f).toInt64)) ||| (((x2.toInt64) &&& (255 : Int64)) <<< ((16 : Int32) &&& 0x3f).toInt64)) ||| (((x3.toInt64) &&& (255 : Int64)) <<< ((24 : Int32) &&& 0x3f).toInt64)) ||| (((x4.toInt64) &&& (255 : Int64)) <<< ((32 : Int32) &&& 0x3f).toInt64)) ||| (((x5.toInt64) &&& (255 : Int64)) <<< ((40 : Int32) &&& 0x3f).toInt64))), .second] [(.int (6 : Int32)), (.int (0 : Int32)), (.ref a1), (.long (((((((0 : Int64) ||| ((x0.toInt64) &&& (255 : Int64))) ||| (((x1.toInt64) &&& (255 : Int64)) <<< ((8 : Int32) &&& 0x3f).toInt64)) ||| (((x2.toInt64) &&& (255 : Int64)) <<< ((16 : Int32) &&& 0x3f).toInt64)) ||| (((x3.toInt64) &&& (255 : Int64)) <<< ((24 : Int32) &&& 0x3f).toInt64)) ||| (((x4.toInt64) &&& (255 : Int64)) <<< ((32 : Int32) &&& 0x3f).toInt64)) ||| (((x5.toInt64) &&& (255 : Int64)) <<< ((40 : Int32) &&& 0x3f).toInt64)))])) _
  refine own_go (fun _ k => XS.iadd X0.here hx rfl (hb hby d10_98) rfl k) ?_
  show own_G p e below (s₁.setTop (mkF m 99 #[.val (.ref a1), .val (.int (0 : Int32)), .val (.long (((((((0 : Int64) ||| ((x0.toInt64) &&& (255 : Int64))) ||| (((x1.toInt64) &&& (255 : Int64)) <<< ((8 : Int32) &&& 0x3f).toInt64)) ||| (((x2.toInt64) &&& (255 : Int64)) <<< ((16 : Int32) &&& 0x3f).toInt64)) ||| (((x3.toInt64) &&& (255 : Int64)) <<< ((24 : Int32) &&& 0x3f).toInt64)) ||| (((x4.toInt64) &&& (255 : Int64)) <<< ((32 : Int32) &&& 0x3f).toInt64)) ||| (((x5.toInt64) &&& (255 : Int64)) <<< ((40 : Int32) &&& 0x3f).toInt64))), .second] [(.int (6 : Int32)), (.ref a1), (.long (((((((0 : Int64) ||| ((x0.toInt64) &&& (255 : Int64))) ||| (((x1.toInt64) &&& (255 : Int64)) <<< ((8 : Int32) &&& 0x3f).toInt64)) ||| (((x2.toInt64) &&& (255 : Int64)) <<< ((16 : Int32) &&& 0x3f).toInt64)) ||| (((x3.toInt64) &&& (255 : Int64)) <<< ((24 : Int32) &&& 0x3f).toInt64)) ||| (((x4.toInt64) &&& (255 : Int64)) <<< ((32 : Int32) &&& 0x3f).toInt64)) ||| (((x5.toInt64) &&& (255 : Int64)) <<< ((40 : Int32) &&& 0x3f).toInt64)))])) _
  obtain ⟨cl204, Ar204, q204, S204, M204, B204, G204⟩ := id V_a1
  have hin204 : ¬ ((6 : Int32) < 0 ∨ cl204.slots.size ≤ ((6 : Int32)).toNatClampNeg) := inb_of S204 ⟨by decide, by decide⟩
  have hat204 : cl204.slots[((6 : Int32)).toNatClampNeg]? = some (.int x6) := B204.at hin204 rfl
  refine own_go (X0.baloadBytes hx (j := (6 : Int32)) (v := (.int x6)) (by rw [e0]; exact Ar204.1) (State.isArrayOf_alike hZ.alike Ar204.2.1) Ar204.2.2 hin204 hat204 (g := (mkF m 99 #[.val (.ref a1), .val (.int (0 : Int32)), .val (.long (((((((0 : Int64) ||| ((x0.toInt64) &&& (255 : Int64))) ||| (((x1.toInt64) &&& (255 : Int64)) <<< ((8 : Int32) &&& 0x3f).toInt64)) ||| (((x2.toInt64) &&& (255 : Int64)) <<< ((16 : Int32) &&& 0x3f).toInt64)) ||| (((x3.toInt64) &&& (255 : Int64)) <<< ((24 : Int32) &&& 0x3f).toInt64)) ||| (((x4.toInt64) &&& (255 : Int64)) <<< ((32 : Int32) &&& 0x3f).toInt64)) ||| (((x5.toInt64) &&& (255 : Int64)) <<< ((40 : Int32) &&& 0x3f).toInt64))), .second] [(.int (6 : Int32)), (.ref a1), (.long (((((((0 : Int64) ||| ((x0.toInt64) &&& (255 : Int64))) ||| (((x1.toInt64) &&& (255 : Int64)) <<< ((8 : Int32) &&& 0x3f).toInt64)) ||| (((x2.toInt64) &&& (255 : Int64)) <<< ((16 : Int32) &&& 0x3f).toInt64)) ||| (((x3.toInt64) &&& (255 : Int64)) <<< ((24 : Int32) &&& 0x3f).toInt64)) ||| (((x4.toInt64) &&& (255 : Int64)) <<< ((32 : Int32) &&& 0x3f).toInt64)) ||| (((x5.toInt64) &&& (255 : Int64)) <<< ((40 : Int32) &&& 0x3f).toInt64)))])) rfl rfl (hb hby d10_99)) ?_
  show own_G p e below (s₁.setTop (mkF m 100 #[.val (.ref a1), .val (.int (0 : Int32)), .val (.long (((((((0 : Int64) ||| ((x0.toInt64) &&& (255 : Int64))) ||| (((x1.toInt64) &&& (255 : Int64)) <<< ((8 : Int32) &&& 0x3f).toInt64)) ||| (((x2.toInt64) &&& (255 : Int64)) <<< ((16 : Int32) &&& 0x3f).toInt64)) ||| (((x3.toInt64) &&& (255 : Int64)) <<< ((24 : Int32) &&& 0x3f).toInt64)) ||| (((x4.toInt64) &&& (255 : Int64)) <<< ((32 : Int32) &&& 0x3f).toInt64)) ||| (((x5.toInt64) &&& (255 : Int64)) <<< ((40 : Int32) &&& 0x3f).toInt64))), .second] [(.int x6), (.long (((((((0 : Int64) ||| ((x0.toInt64) &&& (255 : Int64))) ||| (((x1.toInt64) &&& (255 : Int64)) <<< ((8 : Int32) &&& 0x3f).toInt64)) ||| (((x2.toInt64) &&& (255 : Int64)) <<< ((16 : Int32) &&& 0x3f).toInt64)) ||| (((x3.toInt64) &&& (255 : Int64)) <<< ((24 : Int32) &&& 0x3f).toInt64)) ||| (((x4.toInt64) &&& (255 : Int64)) <<< ((32 : Int32) &&& 0x3f).toInt64)) ||| (((x5.toInt64) &&& (255 : Int64)) <<< ((40 : Int32) &&& 0x3f).toInt64)))])) _
  refine own_go (fun _ k => XS.i2l X0.here hx rfl (hb hby d10_100) rfl k) ?_
  show own_G p e below (s₁.setTop (mkF m 101 #[.val (.ref a1), .val (.int (0 : Int32)), .val (.long (((((((0 : Int64) ||| ((x0.toInt64) &&& (255 : Int64))) ||| (((x1.toInt64) &&& (255 : Int64)) <<< ((8 : Int32) &&& 0x3f).toInt64)) ||| (((x2.toInt64) &&& (255 : Int64)) <<< ((16 : Int32) &&& 0x3f).toInt64)) ||| (((x3.toInt64) &&& (255 : Int64)) <<< ((24 : Int32) &&& 0x3f).toInt64)) ||| (((x4.toInt64) &&& (255 : Int64)) <<< ((32 : Int32) &&& 0x3f).toInt64)) ||| (((x5.toInt64) &&& (255 : Int64)) <<< ((40 : Int32) &&& 0x3f).toInt64))), .second] [(.long (x6.toInt64)), (.long (((((((0 : Int64) ||| ((x0.toInt64) &&& (255 : Int64))) ||| (((x1.toInt64) &&& (255 : Int64)) <<< ((8 : Int32) &&& 0x3f).toInt64)) ||| (((x2.toInt64) &&& (255 : Int64)) <<< ((16 : Int32) &&& 0x3f).toInt64)) ||| (((x3.toInt64) &&& (255 : Int64)) <<< ((24 : Int32) &&& 0x3f).toInt64)) ||| (((x4.toInt64) &&& (255 : Int64)) <<< ((32 : Int32) &&& 0x3f).toInt64)) ||| (((x5.toInt64) &&& (255 : Int64)) <<< ((40 : Int32) &&& 0x3f).toInt64)))])) _
  refine own_go (X0.ldc2Long hx hown (mvT hZ (hw _ (List.mem_of_getElem? (i := 62) rfl))) (g := (mkF m 101 #[.val (.ref a1), .val (.int (0 : Int32)), .val (.long (((((((0 : Int64) ||| ((x0.toInt64) &&& (255 : Int64))) ||| (((x1.toInt64) &&& (255 : Int64)) <<< ((8 : Int32) &&& 0x3f).toInt64)) ||| (((x2.toInt64) &&& (255 : Int64)) <<< ((16 : Int32) &&& 0x3f).toInt64)) ||| (((x3.toInt64) &&& (255 : Int64)) <<< ((24 : Int32) &&& 0x3f).toInt64)) ||| (((x4.toInt64) &&& (255 : Int64)) <<< ((32 : Int32) &&& 0x3f).toInt64)) ||| (((x5.toInt64) &&& (255 : Int64)) <<< ((40 : Int32) &&& 0x3f).toInt64))), .second] [(.long (x6.toInt64)), (.long (((((((0 : Int64) ||| ((x0.toInt64) &&& (255 : Int64))) ||| (((x1.toInt64) &&& (255 : Int64)) <<< ((8 : Int32) &&& 0x3f).toInt64)) ||| (((x2.toInt64) &&& (255 : Int64)) <<< ((16 : Int32) &&& 0x3f).toInt64)) ||| (((x3.toInt64) &&& (255 : Int64)) <<< ((24 : Int32) &&& 0x3f).toInt64)) ||| (((x4.toInt64) &&& (255 : Int64)) <<< ((32 : Int32) &&& 0x3f).toInt64)) ||| (((x5.toInt64) &&& (255 : Int64)) <<< ((40 : Int32) &&& 0x3f).toInt64)))])) rfl (hb hby d10_101)) ?_
  show own_G p e below (s₁.setTop (mkF m 104 #[.val (.ref a1), .val (.int (0 : Int32)), .val (.long (((((((0 : Int64) ||| ((x0.toInt64) &&& (255 : Int64))) ||| (((x1.toInt64) &&& (255 : Int64)) <<< ((8 : Int32) &&& 0x3f).toInt64)) ||| (((x2.toInt64) &&& (255 : Int64)) <<< ((16 : Int32) &&& 0x3f).toInt64)) ||| (((x3.toInt64) &&& (255 : Int64)) <<< ((24 : Int32) &&& 0x3f).toInt64)) ||| (((x4.toInt64) &&& (255 : Int64)) <<< ((32 : Int32) &&& 0x3f).toInt64)) ||| (((x5.toInt64) &&& (255 : Int64)) <<< ((40 : Int32) &&& 0x3f).toInt64))), .second] [(.long (255 : Int64)), (.long (x6.toInt64)), (.long (((((((0 : Int64) ||| ((x0.toInt64) &&& (255 : Int64))) ||| (((x1.toInt64) &&& (255 : Int64)) <<< ((8 : Int32) &&& 0x3f).toInt64)) ||| (((x2.toInt64) &&& (255 : Int64)) <<< ((16 : Int32) &&& 0x3f).toInt64)) ||| (((x3.toInt64) &&& (255 : Int64)) <<< ((24 : Int32) &&& 0x3f).toInt64)) ||| (((x4.toInt64) &&& (255 : Int64)) <<< ((32 : Int32) &&& 0x3f).toInt64)) ||| (((x5.toInt64) &&& (255 : Int64)) <<< ((40 : Int32) &&& 0x3f).toInt64)))])) _
  refine own_go (fun _ k => XS.land X0.here hx rfl (hb hby d10_104) rfl k) ?_
  show own_G p e below (s₁.setTop (mkF m 105 #[.val (.ref a1), .val (.int (0 : Int32)), .val (.long (((((((0 : Int64) ||| ((x0.toInt64) &&& (255 : Int64))) ||| (((x1.toInt64) &&& (255 : Int64)) <<< ((8 : Int32) &&& 0x3f).toInt64)) ||| (((x2.toInt64) &&& (255 : Int64)) <<< ((16 : Int32) &&& 0x3f).toInt64)) ||| (((x3.toInt64) &&& (255 : Int64)) <<< ((24 : Int32) &&& 0x3f).toInt64)) ||| (((x4.toInt64) &&& (255 : Int64)) <<< ((32 : Int32) &&& 0x3f).toInt64)) ||| (((x5.toInt64) &&& (255 : Int64)) <<< ((40 : Int32) &&& 0x3f).toInt64))), .second] [(.long ((x6.toInt64) &&& (255 : Int64))), (.long (((((((0 : Int64) ||| ((x0.toInt64) &&& (255 : Int64))) ||| (((x1.toInt64) &&& (255 : Int64)) <<< ((8 : Int32) &&& 0x3f).toInt64)) ||| (((x2.toInt64) &&& (255 : Int64)) <<< ((16 : Int32) &&& 0x3f).toInt64)) ||| (((x3.toInt64) &&& (255 : Int64)) <<< ((24 : Int32) &&& 0x3f).toInt64)) ||| (((x4.toInt64) &&& (255 : Int64)) <<< ((32 : Int32) &&& 0x3f).toInt64)) ||| (((x5.toInt64) &&& (255 : Int64)) <<< ((40 : Int32) &&& 0x3f).toInt64)))])) _
  refine own_go (fun _ k => XS.bipush X0.here hx rfl (hb hby d10_105) k) ?_
  show own_G p e below (s₁.setTop (mkF m 107 #[.val (.ref a1), .val (.int (0 : Int32)), .val (.long (((((((0 : Int64) ||| ((x0.toInt64) &&& (255 : Int64))) ||| (((x1.toInt64) &&& (255 : Int64)) <<< ((8 : Int32) &&& 0x3f).toInt64)) ||| (((x2.toInt64) &&& (255 : Int64)) <<< ((16 : Int32) &&& 0x3f).toInt64)) ||| (((x3.toInt64) &&& (255 : Int64)) <<< ((24 : Int32) &&& 0x3f).toInt64)) ||| (((x4.toInt64) &&& (255 : Int64)) <<< ((32 : Int32) &&& 0x3f).toInt64)) ||| (((x5.toInt64) &&& (255 : Int64)) <<< ((40 : Int32) &&& 0x3f).toInt64))), .second] [(.int (48 : Int32)), (.long ((x6.toInt64) &&& (255 : Int64))), (.long (((((((0 : Int64) ||| ((x0.toInt64) &&& (255 : Int64))) ||| (((x1.toInt64) &&& (255 : Int64)) <<< ((8 : Int32) &&& 0x3f).toInt64)) ||| (((x2.toInt64) &&& (255 : Int64)) <<< ((16 : Int32) &&& 0x3f).toInt64)) ||| (((x3.toInt64) &&& (255 : Int64)) <<< ((24 : Int32) &&& 0x3f).toInt64)) ||| (((x4.toInt64) &&& (255 : Int64)) <<< ((32 : Int32) &&& 0x3f).toInt64)) ||| (((x5.toInt64) &&& (255 : Int64)) <<< ((40 : Int32) &&& 0x3f).toInt64)))])) _
  refine own_go (fun _ k => XS.lshl X0.here hx rfl (hb hby d10_107) rfl k) ?_
  show own_G p e below (s₁.setTop (mkF m 108 #[.val (.ref a1), .val (.int (0 : Int32)), .val (.long (((((((0 : Int64) ||| ((x0.toInt64) &&& (255 : Int64))) ||| (((x1.toInt64) &&& (255 : Int64)) <<< ((8 : Int32) &&& 0x3f).toInt64)) ||| (((x2.toInt64) &&& (255 : Int64)) <<< ((16 : Int32) &&& 0x3f).toInt64)) ||| (((x3.toInt64) &&& (255 : Int64)) <<< ((24 : Int32) &&& 0x3f).toInt64)) ||| (((x4.toInt64) &&& (255 : Int64)) <<< ((32 : Int32) &&& 0x3f).toInt64)) ||| (((x5.toInt64) &&& (255 : Int64)) <<< ((40 : Int32) &&& 0x3f).toInt64))), .second] [(.long (((x6.toInt64) &&& (255 : Int64)) <<< ((48 : Int32) &&& 0x3f).toInt64)), (.long (((((((0 : Int64) ||| ((x0.toInt64) &&& (255 : Int64))) ||| (((x1.toInt64) &&& (255 : Int64)) <<< ((8 : Int32) &&& 0x3f).toInt64)) ||| (((x2.toInt64) &&& (255 : Int64)) <<< ((16 : Int32) &&& 0x3f).toInt64)) ||| (((x3.toInt64) &&& (255 : Int64)) <<< ((24 : Int32) &&& 0x3f).toInt64)) ||| (((x4.toInt64) &&& (255 : Int64)) <<< ((32 : Int32) &&& 0x3f).toInt64)) ||| (((x5.toInt64) &&& (255 : Int64)) <<< ((40 : Int32) &&& 0x3f).toInt64)))])) _
  refine own_go (fun _ k => XS.lor X0.here hx rfl (hb hby d10_108) rfl k) ?_
  show own_G p e below (s₁.setTop (mkF m 109 #[.val (.ref a1), .val (.int (0 : Int32)), .val (.long (((((((0 : Int64) ||| ((x0.toInt64) &&& (255 : Int64))) ||| (((x1.toInt64) &&& (255 : Int64)) <<< ((8 : Int32) &&& 0x3f).toInt64)) ||| (((x2.toInt64) &&& (255 : Int64)) <<< ((16 : Int32) &&& 0x3f).toInt64)) ||| (((x3.toInt64) &&& (255 : Int64)) <<< ((24 : Int32) &&& 0x3f).toInt64)) ||| (((x4.toInt64) &&& (255 : Int64)) <<< ((32 : Int32) &&& 0x3f).toInt64)) ||| (((x5.toInt64) &&& (255 : Int64)) <<< ((40 : Int32) &&& 0x3f).toInt64))), .second] [(.long ((((((((0 : Int64) ||| ((x0.toInt64) &&& (255 : Int64))) ||| (((x1.toInt64) &&& (255 : Int64)) <<< ((8 : Int32) &&& 0x3f).toInt64)) ||| (((x2.toInt64) &&& (255 : Int64)) <<< ((16 : Int32) &&& 0x3f).toInt64)) ||| (((x3.toInt64) &&& (255 : Int64)) <<< ((24 : Int32) &&& 0x3f).toInt64)) ||| (((x4.toInt64) &&& (255 : Int64)) <<< ((32 : Int32) &&& 0x3f).toInt64)) ||| (((x5.toInt64) &&& (255 : Int64)) <<< ((40 : Int32) &&& 0x3f).toInt64)) ||| (((x6.toInt64) &&& (255 : Int64)) <<< ((48 : Int32) &&& 0x3f).toInt64)))])) _
  refine own_go (fun _ k => XS.lstoreN X0.here hx rfl (hb hby d10_109) rfl (l' := #[.val (.ref a1), .val (.int (0 : Int32)), .val (.long ((((((((0 : Int64) ||| ((x0.toInt64) &&& (255 : Int64))) ||| (((x1.toInt64) &&& (255 : Int64)) <<< ((8 : Int32) &&& 0x3f).toInt64)) ||| (((x2.toInt64) &&& (255 : Int64)) <<< ((16 : Int32) &&& 0x3f).toInt64)) ||| (((x3.toInt64) &&& (255 : Int64)) <<< ((24 : Int32) &&& 0x3f).toInt64)) ||| (((x4.toInt64) &&& (255 : Int64)) <<< ((32 : Int32) &&& 0x3f).toInt64)) ||| (((x5.toInt64) &&& (255 : Int64)) <<< ((40 : Int32) &&& 0x3f).toInt64)) ||| (((x6.toInt64) &&& (255 : Int64)) <<< ((48 : Int32) &&& 0x3f).toInt64))), .second]) rfl k) ?_
  show own_G p e below (s₁.setTop (mkF m 110 #[.val (.ref a1), .val (.int (0 : Int32)), .val (.long ((((((((0 : Int64) ||| ((x0.toInt64) &&& (255 : Int64))) ||| (((x1.toInt64) &&& (255 : Int64)) <<< ((8 : Int32) &&& 0x3f).toInt64)) ||| (((x2.toInt64) &&& (255 : Int64)) <<< ((16 : Int32) &&& 0x3f).toInt64)) ||| (((x3.toInt64) &&& (255 : Int64)) <<< ((24 : Int32) &&& 0x3f).toInt64)) ||| (((x4.toInt64) &&& (255 : Int64)) <<< ((32 : Int32) &&& 0x3f).toInt64)) ||| (((x5.toInt64) &&& (255 : Int64)) <<< ((40 : Int32) &&& 0x3f).toInt64)) ||| (((x6.toInt64) &&& (255 : Int64)) <<< ((48 : Int32) &&& 0x3f).toInt64))), .second] [])) _
  refine own_go (fun _ k => XS.lloadN X0.here hx rfl (hb hby d10_110) rfl k) ?_
  show own_G p e below (s₁.setTop (mkF m 111 #[.val (.ref a1), .val (.int (0 : Int32)), .val (.long ((((((((0 : Int64) ||| ((x0.toInt64) &&& (255 : Int64))) ||| (((x1.toInt64) &&& (255 : Int64)) <<< ((8 : Int32) &&& 0x3f).toInt64)) ||| (((x2.toInt64) &&& (255 : Int64)) <<< ((16 : Int32) &&& 0x3f).toInt64)) ||| (((x3.toInt64) &&& (255 : Int64)) <<< ((24 : Int32) &&& 0x3f).toInt64)) ||| (((x4.toInt64) &&& (255 : Int64)) <<< ((32 : Int32) &&& 0x3f).toInt64)) ||| (((x5.toInt64) &&& (255 : Int64)) <<< ((40 : Int32) &&& 0x3f).toInt64)) ||| (((x6.toInt64) &&& (255 : Int64)) <<< ((48 : Int32) &&& 0x3f).toInt64))), .second] [(.long ((((((((0 : Int64) ||| ((x0.toInt64) &&& (255 : Int64))) ||| (((x1.toInt64) &&& (255 : Int64)) <<< ((8 : Int32) &&& 0x3f).toInt64)) ||| (((x2.toInt64) &&& (255 : Int64)) <<< ((16 : Int32) &&& 0x3f).toInt64)) ||| (((x3.toInt64) &&& (255 : Int64)) <<< ((24 : Int32) &&& 0x3f).toInt64)) ||| (((x4.toInt64) &&& (255 : Int64)) <<< ((32 : Int32) &&& 0x3f).toInt64)) ||| (((x5.toInt64) &&& (255 : Int64)) <<< ((40 : Int32) &&& 0x3f).toInt64)) ||| (((x6.toInt64) &&& (255 : Int64)) <<< ((48 : Int32) &&& 0x3f).toInt64)))])) _
  refine own_go (fun _ k => XS.aloadN X0.here hx rfl (hb hby d10_111) rfl rfl k) ?_
  show own_G p e below (s₁.setTop (mkF m 112 #[.val (.ref a1), .val (.int (0 : Int32)), .val (.long ((((((((0 : Int64) ||| ((x0.toInt64) &&& (255 : Int64))) ||| (((x1.toInt64) &&& (255 : Int64)) <<< ((8 : Int32) &&& 0x3f).toInt64)) ||| (((x2.toInt64) &&& (255 : Int64)) <<< ((16 : Int32) &&& 0x3f).toInt64)) ||| (((x3.toInt64) &&& (255 : Int64)) <<< ((24 : Int32) &&& 0x3f).toInt64)) ||| (((x4.toInt64) &&& (255 : Int64)) <<< ((32 : Int32) &&& 0x3f).toInt64)) ||| (((x5.toInt64) &&& (255 : Int64)) <<< ((40 : Int32) &&& 0x3f).toInt64)) ||| (((x6.toInt64) &&& (255 : Int64)) <<< ((48 : Int32) &&& 0x3f).toInt64))), .second] [(.ref a1), (.long ((((((((0 : Int64) ||| ((x0.toInt64) &&& (255 : Int64))) ||| (((x1.toInt64) &&& (255 : Int64)) <<< ((8 : Int32) &&& 0x3f).toInt64)) ||| (((x2.toInt64) &&& (255 : Int64)) <<< ((16 : Int32) &&& 0x3f).toInt64)) ||| (((x3.toInt64) &&& (255 : Int64)) <<< ((24 : Int32) &&& 0x3f).toInt64)) ||| (((x4.toInt64) &&& (255 : Int64)) <<< ((32 : Int32) &&& 0x3f).toInt64)) ||| (((x5.toInt64) &&& (255 : Int64)) <<< ((40 : Int32) &&& 0x3f).toInt64)) ||| (((x6.toInt64) &&& (255 : Int64)) <<< ((48 : Int32) &&& 0x3f).toInt64)))])) _
  refine own_go (fun _ k => XS.iloadN X0.here hx rfl (hb hby d10_112) rfl k) ?_
  show own_G p e below (s₁.setTop (mkF m 113 #[.val (.ref a1), .val (.int (0 : Int32)), .val (.long ((((((((0 : Int64) ||| ((x0.toInt64) &&& (255 : Int64))) ||| (((x1.toInt64) &&& (255 : Int64)) <<< ((8 : Int32) &&& 0x3f).toInt64)) ||| (((x2.toInt64) &&& (255 : Int64)) <<< ((16 : Int32) &&& 0x3f).toInt64)) ||| (((x3.toInt64) &&& (255 : Int64)) <<< ((24 : Int32) &&& 0x3f).toInt64)) ||| (((x4.toInt64) &&& (255 : Int64)) <<< ((32 : Int32) &&& 0x3f).toInt64)) ||| (((x5.toInt64) &&& (255 : Int64)) <<< ((40 : Int32) &&& 0x3f).toInt64)) ||| (((x6.toInt64) &&& (255 : Int64)) <<< ((48 : Int32) &&& 0x3f).toInt64))), .second] [(.int (0 : Int32)), (.ref a1), (.long ((((((((0 : Int64) ||| ((x0.toInt64) &&& (255 : Int64))) ||| (((x1.toInt64) &&& (255 : Int64)) <<< ((8 : Int32) &&& 0x3f).toInt64)) ||| (((x2.toInt64) &&& (255 : Int64)) <<< ((16 : Int32) &&& 0x3f).toInt64)) ||| (((x3.toInt64) &&& (255 : Int64)) <<< ((24 : Int32) &&& 0x3f).toInt64)) ||| (((x4.toInt64) &&& (255 : Int64)) <<< ((32 : Int32) &&& 0x3f).toInt64)) ||| (((x5.toInt64) &&& (255 : Int64)) <<< ((40 : Int32) &&& 0x3f).toInt64)) ||| (((x6.toInt64) &&& (255 : Int64)) <<< ((48 : Int32) &&& 0x3f).toInt64)))])) _
  refine own_go (fun _ k => XS.bipush X0.here hx rfl (hb hby d10_113) k) ?_
  show own_G p e below (s₁.setTop (mkF m 115 #[.val (.ref a1), .val (.int (0 : Int32)), .val (.long ((((((((0 : Int64) ||| ((x0.toInt64) &&& (255 : Int64))) ||| (((x1.toInt64) &&& (255 : Int64)) <<< ((8 : Int32) &&& 0x3f).toInt64)) ||| (((x2.toInt64) &&& (255 : Int64)) <<< ((16 : Int32) &&& 0x3f).toInt64)) ||| (((x3.toInt64) &&& (255 : Int64)) <<< ((24 : Int32) &&& 0x3f).toInt64)) ||| (((x4.toInt64) &&& (255 : Int64)) <<< ((32 : Int32) &&& 0x3f).toInt64)) ||| (((x5.toInt64) &&& (255 : Int64)) <<< ((40 : Int32) &&& 0x3f).toInt64)) ||| (((x6.toInt64) &&& (255 : Int64)) <<< ((48 : Int32) &&& 0x3f).toInt64))), .second] [(.int (7 : Int32)), (.int (0 : Int32)), (.ref a1), (.long ((((((((0 : Int64) ||| ((x0.toInt64) &&& (255 : Int64))) ||| (((x1.toInt64) &&& (255 : Int64)) <<< ((8 : Int32) &&& 0x3f).toInt64)) ||| (((x2.toInt64) &&& (255 : Int64)) <<< ((16 : Int32) &&& 0x3f).toInt64)) ||| (((x3.toInt64) &&& (255 : Int64)) <<< ((24 : Int32) &&& 0x3f).toInt64)) ||| (((x4.toInt64) &&& (255 : Int64)) <<< ((32 : Int32) &&& 0x3f).toInt64)) ||| (((x5.toInt64) &&& (255 : Int64)) <<< ((40 : Int32) &&& 0x3f).toInt64)) ||| (((x6.toInt64) &&& (255 : Int64)) <<< ((48 : Int32) &&& 0x3f).toInt64)))])) _
  refine own_go (fun _ k => XS.iadd X0.here hx rfl (hb hby d10_115) rfl k) ?_
  show own_G p e below (s₁.setTop (mkF m 116 #[.val (.ref a1), .val (.int (0 : Int32)), .val (.long ((((((((0 : Int64) ||| ((x0.toInt64) &&& (255 : Int64))) ||| (((x1.toInt64) &&& (255 : Int64)) <<< ((8 : Int32) &&& 0x3f).toInt64)) ||| (((x2.toInt64) &&& (255 : Int64)) <<< ((16 : Int32) &&& 0x3f).toInt64)) ||| (((x3.toInt64) &&& (255 : Int64)) <<< ((24 : Int32) &&& 0x3f).toInt64)) ||| (((x4.toInt64) &&& (255 : Int64)) <<< ((32 : Int32) &&& 0x3f).toInt64)) ||| (((x5.toInt64) &&& (255 : Int64)) <<< ((40 : Int32) &&& 0x3f).toInt64)) ||| (((x6.toInt64) &&& (255 : Int64)) <<< ((48 : Int32) &&& 0x3f).toInt64))), .second] [(.int (7 : Int32)), (.ref a1), (.long ((((((((0 : Int64) ||| ((x0.toInt64) &&& (255 : Int64))) ||| (((x1.toInt64) &&& (255 : Int64)) <<< ((8 : Int32) &&& 0x3f).toInt64)) ||| (((x2.toInt64) &&& (255 : Int64)) <<< ((16 : Int32) &&& 0x3f).toInt64)) ||| (((x3.toInt64) &&& (255 : Int64)) <<< ((24 : Int32) &&& 0x3f).toInt64)) ||| (((x4.toInt64) &&& (255 : Int64)) <<< ((32 : Int32) &&& 0x3f).toInt64)) ||| (((x5.toInt64) &&& (255 : Int64)) <<< ((40 : Int32) &&& 0x3f).toInt64)) ||| (((x6.toInt64) &&& (255 : Int64)) <<< ((48 : Int32) &&& 0x3f).toInt64)))])) _
  obtain ⟨cl205, Ar205, q205, S205, M205, B205, G205⟩ := id V_a1
  have hin205 : ¬ ((7 : Int32) < 0 ∨ cl205.slots.size ≤ ((7 : Int32)).toNatClampNeg) := inb_of S205 ⟨by decide, by decide⟩
  have hat205 : cl205.slots[((7 : Int32)).toNatClampNeg]? = some (.int x7) := B205.at hin205 rfl
  refine own_go (X0.baloadBytes hx (j := (7 : Int32)) (v := (.int x7)) (by rw [e0]; exact Ar205.1) (State.isArrayOf_alike hZ.alike Ar205.2.1) Ar205.2.2 hin205 hat205 (g := (mkF m 116 #[.val (.ref a1), .val (.int (0 : Int32)), .val (.long ((((((((0 : Int64) ||| ((x0.toInt64) &&& (255 : Int64))) ||| (((x1.toInt64) &&& (255 : Int64)) <<< ((8 : Int32) &&& 0x3f).toInt64)) ||| (((x2.toInt64) &&& (255 : Int64)) <<< ((16 : Int32) &&& 0x3f).toInt64)) ||| (((x3.toInt64) &&& (255 : Int64)) <<< ((24 : Int32) &&& 0x3f).toInt64)) ||| (((x4.toInt64) &&& (255 : Int64)) <<< ((32 : Int32) &&& 0x3f).toInt64)) ||| (((x5.toInt64) &&& (255 : Int64)) <<< ((40 : Int32) &&& 0x3f).toInt64)) ||| (((x6.toInt64) &&& (255 : Int64)) <<< ((48 : Int32) &&& 0x3f).toInt64))), .second] [(.int (7 : Int32)), (.ref a1), (.long ((((((((0 : Int64) ||| ((x0.toInt64) &&& (255 : Int64))) ||| (((x1.toInt64) &&& (255 : Int64)) <<< ((8 : Int32) &&& 0x3f).toInt64)) ||| (((x2.toInt64) &&& (255 : Int64)) <<< ((16 : Int32) &&& 0x3f).toInt64)) ||| (((x3.toInt64) &&& (255 : Int64)) <<< ((24 : Int32) &&& 0x3f).toInt64)) ||| (((x4.toInt64) &&& (255 : Int64)) <<< ((32 : Int32) &&& 0x3f).toInt64)) ||| (((x5.toInt64) &&& (255 : Int64)) <<< ((40 : Int32) &&& 0x3f).toInt64)) ||| (((x6.toInt64) &&& (255 : Int64)) <<< ((48 : Int32) &&& 0x3f).toInt64)))])) rfl rfl (hb hby d10_116)) ?_
  show own_G p e below (s₁.setTop (mkF m 117 #[.val (.ref a1), .val (.int (0 : Int32)), .val (.long ((((((((0 : Int64) ||| ((x0.toInt64) &&& (255 : Int64))) ||| (((x1.toInt64) &&& (255 : Int64)) <<< ((8 : Int32) &&& 0x3f).toInt64)) ||| (((x2.toInt64) &&& (255 : Int64)) <<< ((16 : Int32) &&& 0x3f).toInt64)) ||| (((x3.toInt64) &&& (255 : Int64)) <<< ((24 : Int32) &&& 0x3f).toInt64)) ||| (((x4.toInt64) &&& (255 : Int64)) <<< ((32 : Int32) &&& 0x3f).toInt64)) ||| (((x5.toInt64) &&& (255 : Int64)) <<< ((40 : Int32) &&& 0x3f).toInt64)) ||| (((x6.toInt64) &&& (255 : Int64)) <<< ((48 : Int32) &&& 0x3f).toInt64))), .second] [(.int x7), (.long ((((((((0 : Int64) ||| ((x0.toInt64) &&& (255 : Int64))) ||| (((x1.toInt64) &&& (255 : Int64)) <<< ((8 : Int32) &&& 0x3f).toInt64)) ||| (((x2.toInt64) &&& (255 : Int64)) <<< ((16 : Int32) &&& 0x3f).toInt64)) ||| (((x3.toInt64) &&& (255 : Int64)) <<< ((24 : Int32) &&& 0x3f).toInt64)) ||| (((x4.toInt64) &&& (255 : Int64)) <<< ((32 : Int32) &&& 0x3f).toInt64)) ||| (((x5.toInt64) &&& (255 : Int64)) <<< ((40 : Int32) &&& 0x3f).toInt64)) ||| (((x6.toInt64) &&& (255 : Int64)) <<< ((48 : Int32) &&& 0x3f).toInt64)))])) _
  refine own_go (fun _ k => XS.i2l X0.here hx rfl (hb hby d10_117) rfl k) ?_
  show own_G p e below (s₁.setTop (mkF m 118 #[.val (.ref a1), .val (.int (0 : Int32)), .val (.long ((((((((0 : Int64) ||| ((x0.toInt64) &&& (255 : Int64))) ||| (((x1.toInt64) &&& (255 : Int64)) <<< ((8 : Int32) &&& 0x3f).toInt64)) ||| (((x2.toInt64) &&& (255 : Int64)) <<< ((16 : Int32) &&& 0x3f).toInt64)) ||| (((x3.toInt64) &&& (255 : Int64)) <<< ((24 : Int32) &&& 0x3f).toInt64)) ||| (((x4.toInt64) &&& (255 : Int64)) <<< ((32 : Int32) &&& 0x3f).toInt64)) ||| (((x5.toInt64) &&& (255 : Int64)) <<< ((40 : Int32) &&& 0x3f).toInt64)) ||| (((x6.toInt64) &&& (255 : Int64)) <<< ((48 : Int32) &&& 0x3f).toInt64))), .second] [(.long (x7.toInt64)), (.long ((((((((0 : Int64) ||| ((x0.toInt64) &&& (255 : Int64))) ||| (((x1.toInt64) &&& (255 : Int64)) <<< ((8 : Int32) &&& 0x3f).toInt64)) ||| (((x2.toInt64) &&& (255 : Int64)) <<< ((16 : Int32) &&& 0x3f).toInt64)) ||| (((x3.toInt64) &&& (255 : Int64)) <<< ((24 : Int32) &&& 0x3f).toInt64)) ||| (((x4.toInt64) &&& (255 : Int64)) <<< ((32 : Int32) &&& 0x3f).toInt64)) ||| (((x5.toInt64) &&& (255 : Int64)) <<< ((40 : Int32) &&& 0x3f).toInt64)) ||| (((x6.toInt64) &&& (255 : Int64)) <<< ((48 : Int32) &&& 0x3f).toInt64)))])) _
  refine own_go (X0.ldc2Long hx hown (mvT hZ (hw _ (List.mem_of_getElem? (i := 62) rfl))) (g := (mkF m 118 #[.val (.ref a1), .val (.int (0 : Int32)), .val (.long ((((((((0 : Int64) ||| ((x0.toInt64) &&& (255 : Int64))) ||| (((x1.toInt64) &&& (255 : Int64)) <<< ((8 : Int32) &&& 0x3f).toInt64)) ||| (((x2.toInt64) &&& (255 : Int64)) <<< ((16 : Int32) &&& 0x3f).toInt64)) ||| (((x3.toInt64) &&& (255 : Int64)) <<< ((24 : Int32) &&& 0x3f).toInt64)) ||| (((x4.toInt64) &&& (255 : Int64)) <<< ((32 : Int32) &&& 0x3f).toInt64)) ||| (((x5.toInt64) &&& (255 : Int64)) <<< ((40 : Int32) &&& 0x3f).toInt64)) ||| (((x6.toInt64) &&& (255 : Int64)) <<< ((48 : Int32) &&& 0x3f).toInt64))), .second] [(.long (x7.toInt64)), (.long ((((((((0 : Int64) ||| ((x0.toInt64) &&& (255 : Int64))) ||| (((x1.toInt64) &&& (255 : Int64)) <<< ((8 : Int32) &&& 0x3f).toInt64)) ||| (((x2.toInt64) &&& (255 : Int64)) <<< ((16 : Int32) &&& 0x3f).toInt64)) ||| (((x3.toInt64) &&& (255 : Int64)) <<< ((24 : Int32) &&& 0x3f).toInt64)) ||| (((x4.toInt64) &&& (255 : Int64)) <<< ((32 : Int32) &&& 0x3f).toInt64)) ||| (((x5.toInt64) &&& (255 : Int64)) <<< ((40 : Int32) &&& 0x3f).toInt64)) ||| (((x6.toInt64) &&& (255 : Int64)) <<< ((48 : Int32) &&& 0x3f).toInt64)))])) rfl (hb hby d10_118)) ?_
  show own_G p e below (s₁.setTop (mkF m 121 #[.val (.ref a1), .val (.int (0 : Int32)), .val (.long ((((((((0 : Int64) ||| ((x0.toInt64) &&& (255 : Int64))) ||| (((x1.toInt64) &&& (255 : Int64)) <<< ((8 : Int32) &&& 0x3f).toInt64)) ||| (((x2.toInt64) &&& (255 : Int64)) <<< ((16 : Int32) &&& 0x3f).toInt64)) ||| (((x3.toInt64) &&& (255 : Int64)) <<< ((24 : Int32) &&& 0x3f).toInt64)) ||| (((x4.toInt64) &&& (255 : Int64)) <<< ((32 : Int32) &&& 0x3f).toInt64)) ||| (((x5.toInt64) &&& (255 : Int64)) <<< ((40 : Int32) &&& 0x3f).toInt64)) ||| (((x6.toInt64) &&& (255 : Int64)) <<< ((48 : Int32) &&& 0x3f).toInt64))), .second] [(.long (255 : Int64)), (.long (x7.toInt64)), (.long ((((((((0 : Int64) ||| ((x0.toInt64) &&& (255 : Int64))) ||| (((x1.toInt64) &&& (255 : Int64)) <<< ((8 : Int32) &&& 0x3f).toInt64)) ||| (((x2.toInt64) &&& (255 : Int64)) <<< ((16 : Int32) &&& 0x3f).toInt64)) ||| (((x3.toInt64) &&& (255 : Int64)) <<< ((24 : Int32) &&& 0x3f).toInt64)) ||| (((x4.toInt64) &&& (255 : Int64)) <<< ((32 : Int32) &&& 0x3f).toInt64)) ||| (((x5.toInt64) &&& (255 : Int64)) <<< ((40 : Int32) &&& 0x3f).toInt64)) ||| (((x6.toInt64) &&& (255 : Int64)) <<< ((48 : Int32) &&& 0x3f).toInt64)))])) _
  refine own_go (fun _ k => XS.land X0.here hx rfl (hb hby d10_121) rfl k) ?_
  show own_G p e below (s₁.setTop (mkF m 122 #[.val (.ref a1), .val (.int (0 : Int32)), .val (.long ((((((((0 : Int64) ||| ((x0.toInt64) &&& (255 : Int64))) ||| (((x1.toInt64) &&& (255 : Int64)) <<< ((8 : Int32) &&& 0x3f).toInt64)) ||| (((x2.toInt64) &&& (255 : Int64)) <<< ((16 : Int32) &&& 0x3f).toInt64)) ||| (((x3.toInt64) &&& (255 : Int64)) <<< ((24 : Int32) &&& 0x3f).toInt64)) ||| (((x4.toInt64) &&& (255 : Int64)) <<< ((32 : Int32) &&& 0x3f).toInt64)) ||| (((x5.toInt64) &&& (255 : Int64)) <<< ((40 : Int32) &&& 0x3f).toInt64)) ||| (((x6.toInt64) &&& (255 : Int64)) <<< ((48 : Int32) &&& 0x3f).toInt64))), .second] [(.long ((x7.toInt64) &&& (255 : Int64))), (.long ((((((((0 : Int64) ||| ((x0.toInt64) &&& (255 : Int64))) ||| (((x1.toInt64) &&& (255 : Int64)) <<< ((8 : Int32) &&& 0x3f).toInt64)) ||| (((x2.toInt64) &&& (255 : Int64)) <<< ((16 : Int32) &&& 0x3f).toInt64)) ||| (((x3.toInt64) &&& (255 : Int64)) <<< ((24 : Int32) &&& 0x3f).toInt64)) ||| (((x4.toInt64) &&& (255 : Int64)) <<< ((32 : Int32) &&& 0x3f).toInt64)) ||| (((x5.toInt64) &&& (255 : Int64)) <<< ((40 : Int32) &&& 0x3f).toInt64)) ||| (((x6.toInt64) &&& (255 : Int64)) <<< ((48 : Int32) &&& 0x3f).toInt64)))])) _
  refine own_go (fun _ k => XS.bipush X0.here hx rfl (hb hby d10_122) k) ?_
  show own_G p e below (s₁.setTop (mkF m 124 #[.val (.ref a1), .val (.int (0 : Int32)), .val (.long ((((((((0 : Int64) ||| ((x0.toInt64) &&& (255 : Int64))) ||| (((x1.toInt64) &&& (255 : Int64)) <<< ((8 : Int32) &&& 0x3f).toInt64)) ||| (((x2.toInt64) &&& (255 : Int64)) <<< ((16 : Int32) &&& 0x3f).toInt64)) ||| (((x3.toInt64) &&& (255 : Int64)) <<< ((24 : Int32) &&& 0x3f).toInt64)) ||| (((x4.toInt64) &&& (255 : Int64)) <<< ((32 : Int32) &&& 0x3f).toInt64)) ||| (((x5.toInt64) &&& (255 : Int64)) <<< ((40 : Int32) &&& 0x3f).toInt64)) ||| (((x6.toInt64) &&& (255 : Int64)) <<< ((48 : Int32) &&& 0x3f).toInt64))), .second] [(.int (56 : Int32)), (.long ((x7.toInt64) &&& (255 : Int64))), (.long ((((((((0 : Int64) ||| ((x0.toInt64) &&& (255 : Int64))) ||| (((x1.toInt64) &&& (255 : Int64)) <<< ((8 : Int32) &&& 0x3f).toInt64)) ||| (((x2.toInt64) &&& (255 : Int64)) <<< ((16 : Int32) &&& 0x3f).toInt64)) ||| (((x3.toInt64) &&& (255 : Int64)) <<< ((24 : Int32) &&& 0x3f).toInt64)) ||| (((x4.toInt64) &&& (255 : Int64)) <<< ((32 : Int32) &&& 0x3f).toInt64)) ||| (((x5.toInt64) &&& (255 : Int64)) <<< ((40 : Int32) &&& 0x3f).toInt64)) ||| (((x6.toInt64) &&& (255 : Int64)) <<< ((48 : Int32) &&& 0x3f).toInt64)))])) _
  refine own_go (fun _ k => XS.lshl X0.here hx rfl (hb hby d10_124) rfl k) ?_
  show own_G p e below (s₁.setTop (mkF m 125 #[.val (.ref a1), .val (.int (0 : Int32)), .val (.long ((((((((0 : Int64) ||| ((x0.toInt64) &&& (255 : Int64))) ||| (((x1.toInt64) &&& (255 : Int64)) <<< ((8 : Int32) &&& 0x3f).toInt64)) ||| (((x2.toInt64) &&& (255 : Int64)) <<< ((16 : Int32) &&& 0x3f).toInt64)) ||| (((x3.toInt64) &&& (255 : Int64)) <<< ((24 : Int32) &&& 0x3f).toInt64)) ||| (((x4.toInt64) &&& (255 : Int64)) <<< ((32 : Int32) &&& 0x3f).toInt64)) ||| (((x5.toInt64) &&& (255 : Int64)) <<< ((40 : Int32) &&& 0x3f).toInt64)) ||| (((x6.toInt64) &&& (255 : Int64)) <<< ((48 : Int32) &&& 0x3f).toInt64))), .second] [(.long (((x7.toInt64) &&& (255 : Int64)) <<< ((56 : Int32) &&& 0x3f).toInt64)), (.long ((((((((0 : Int64) ||| ((x0.toInt64) &&& (255 : Int64))) ||| (((x1.toInt64) &&& (255 : Int64)) <<< ((8 : Int32) &&& 0x3f).toInt64)) ||| (((x2.toInt64) &&& (255 : Int64)) <<< ((16 : Int32) &&& 0x3f).toInt64)) ||| (((x3.toInt64) &&& (255 : Int64)) <<< ((24 : Int32) &&& 0x3f).toInt64)) ||| (((x4.toInt64) &&& (255 : Int64)) <<< ((32 : Int32) &&& 0x3f).toInt64)) ||| (((x5.toInt64) &&& (255 : Int64)) <<< ((40 : Int32) &&& 0x3f).toInt64)) ||| (((x6.toInt64) &&& (255 : Int64)) <<< ((48 : Int32) &&& 0x3f).toInt64)))])) _
  refine own_go (fun _ k => XS.lor X0.here hx rfl (hb hby d10_125) rfl k) ?_
  show own_G p e below (s₁.setTop (mkF m 126 #[.val (.ref a1), .val (.int (0 : Int32)), .val (.long ((((((((0 : Int64) ||| ((x0.toInt64) &&& (255 : Int64))) ||| (((x1.toInt64) &&& (255 : Int64)) <<< ((8 : Int32) &&& 0x3f).toInt64)) ||| (((x2.toInt64) &&& (255 : Int64)) <<< ((16 : Int32) &&& 0x3f).toInt64)) ||| (((x3.toInt64) &&& (255 : Int64)) <<< ((24 : Int32) &&& 0x3f).toInt64)) ||| (((x4.toInt64) &&& (255 : Int64)) <<< ((32 : Int32) &&& 0x3f).toInt64)) ||| (((x5.toInt64) &&& (255 : Int64)) <<< ((40 : Int32) &&& 0x3f).toInt64)) ||| (((x6.toInt64) &&& (255 : Int64)) <<< ((48 : Int32) &&& 0x3f).toInt64))), .second] [(.long (((((((((0 : Int64) ||| ((x0.toInt64) &&& (255 : Int64))) ||| (((x1.toInt64) &&& (255 : Int64)) <<< ((8 : Int32) &&& 0x3f).toInt64)) ||| (((x2.toInt64) &&& (255 : Int64)) <<< ((16 : Int32) &&& 0x3f).toInt64)) ||| (((x3.toInt64) &&& (255 : Int64)) <<< ((24 : Int32) &&& 0x3f).toInt64)) ||| (((x4.toInt64) &&& (255 : Int64)) <<< ((32 : Int32) &&& 0x3f).toInt64)) ||| (((x5.toInt64) &&& (255 : Int64)) <<< ((40 : Int32) &&& 0x3f).toInt64)) ||| (((x6.toInt64) &&& (255 : Int64)) <<< ((48 : Int32) &&& 0x3f).toInt64)) ||| (((x7.toInt64) &&& (255 : Int64)) <<< ((56 : Int32) &&& 0x3f).toInt64)))])) _
  refine own_go (fun _ k => XS.lstoreN X0.here hx rfl (hb hby d10_126) rfl (l' := #[.val (.ref a1), .val (.int (0 : Int32)), .val (.long (((((((((0 : Int64) ||| ((x0.toInt64) &&& (255 : Int64))) ||| (((x1.toInt64) &&& (255 : Int64)) <<< ((8 : Int32) &&& 0x3f).toInt64)) ||| (((x2.toInt64) &&& (255 : Int64)) <<< ((16 : Int32) &&& 0x3f).toInt64)) ||| (((x3.toInt64) &&& (255 : Int64)) <<< ((24 : Int32) &&& 0x3f).toInt64)) ||| (((x4.toInt64) &&& (255 : Int64)) <<< ((32 : Int32) &&& 0x3f).toInt64)) ||| (((x5.toInt64) &&& (255 : Int64)) <<< ((40 : Int32) &&& 0x3f).toInt64)) ||| (((x6.toInt64) &&& (255 : Int64)) <<< ((48 : Int32) &&& 0x3f).toInt64)) ||| (((x7.toInt64) &&& (255 : Int64)) <<< ((56 : Int32) &&& 0x3f).toInt64))), .second]) rfl k) ?_
  show own_G p e below (s₁.setTop (mkF m 127 #[.val (.ref a1), .val (.int (0 : Int32)), .val (.long (((((((((0 : Int64) ||| ((x0.toInt64) &&& (255 : Int64))) ||| (((x1.toInt64) &&& (255 : Int64)) <<< ((8 : Int32) &&& 0x3f).toInt64)) ||| (((x2.toInt64) &&& (255 : Int64)) <<< ((16 : Int32) &&& 0x3f).toInt64)) ||| (((x3.toInt64) &&& (255 : Int64)) <<< ((24 : Int32) &&& 0x3f).toInt64)) ||| (((x4.toInt64) &&& (255 : Int64)) <<< ((32 : Int32) &&& 0x3f).toInt64)) ||| (((x5.toInt64) &&& (255 : Int64)) <<< ((40 : Int32) &&& 0x3f).toInt64)) ||| (((x6.toInt64) &&& (255 : Int64)) <<< ((48 : Int32) &&& 0x3f).toInt64)) ||| (((x7.toInt64) &&& (255 : Int64)) <<< ((56 : Int32) &&& 0x3f).toInt64))), .second] [])) _
  refine own_go (fun _ k => XS.lloadN X0.here hx rfl (hb hby d10_127) rfl k) ?_
  show own_G p e below (s₁.setTop (mkF m 128 #[.val (.ref a1), .val (.int (0 : Int32)), .val (.long (((((((((0 : Int64) ||| ((x0.toInt64) &&& (255 : Int64))) ||| (((x1.toInt64) &&& (255 : Int64)) <<< ((8 : Int32) &&& 0x3f).toInt64)) ||| (((x2.toInt64) &&& (255 : Int64)) <<< ((16 : Int32) &&& 0x3f).toInt64)) ||| (((x3.toInt64) &&& (255 : Int64)) <<< ((24 : Int32) &&& 0x3f).toInt64)) ||| (((x4.toInt64) &&& (255 : Int64)) <<< ((32 : Int32) &&& 0x3f).toInt64)) ||| (((x5.toInt64) &&& (255 : Int64)) <<< ((40 : Int32) &&& 0x3f).toInt64)) ||| (((x6.toInt64) &&& (255 : Int64)) <<< ((48 : Int32) &&& 0x3f).toInt64)) ||| (((x7.toInt64) &&& (255 : Int64)) <<< ((56 : Int32) &&& 0x3f).toInt64))), .second] [(.long (((((((((0 : Int64) ||| ((x0.toInt64) &&& (255 : Int64))) ||| (((x1.toInt64) &&& (255 : Int64)) <<< ((8 : Int32) &&& 0x3f).toInt64)) ||| (((x2.toInt64) &&& (255 : Int64)) <<< ((16 : Int32) &&& 0x3f).toInt64)) ||| (((x3.toInt64) &&& (255 : Int64)) <<< ((24 : Int32) &&& 0x3f).toInt64)) ||| (((x4.toInt64) &&& (255 : Int64)) <<< ((32 : Int32) &&& 0x3f).toInt64)) ||| (((x5.toInt64) &&& (255 : Int64)) <<< ((40 : Int32) &&& 0x3f).toInt64)) ||| (((x6.toInt64) &&& (255 : Int64)) <<< ((48 : Int32) &&& 0x3f).toInt64)) ||| (((x7.toInt64) &&& (255 : Int64)) <<< ((56 : Int32) &&& 0x3f).toInt64)))])) _
  refine own_ret X0 hlk (v := some (.long (((((((((0 : Int64) ||| ((x0.toInt64) &&& (255 : Int64))) ||| (((x1.toInt64) &&& (255 : Int64)) <<< ((8 : Int32) &&& 0x3f).toInt64)) ||| (((x2.toInt64) &&& (255 : Int64)) <<< ((16 : Int32) &&& 0x3f).toInt64)) ||| (((x3.toInt64) &&& (255 : Int64)) <<< ((24 : Int32) &&& 0x3f).toInt64)) ||| (((x4.toInt64) &&& (255 : Int64)) <<< ((32 : Int32) &&& 0x3f).toInt64)) ||| (((x5.toInt64) &&& (255 : Int64)) <<< ((40 : Int32) &&& 0x3f).toInt64)) ||| (((x6.toInt64) &&& (255 : Int64)) <<< ((48 : Int32) &&& 0x3f).toInt64)) ||| (((x7.toInt64) &&& (255 : Int64)) <<< ((56 : Int32) &&& 0x3f).toInt64)))) (fun h => by rw [hret] at h; cases h) (Q10_16_0 Z a1 k1 x0 x1 x2 x3 x4 x5 x6 x7 x8 x9 x10 x11 x12 x13 x14 x15 h0 n0) (own_retI X0 hx (t := .long) hret rfl (Or.inr (Or.inl ⟨rfl, rfl, _, rfl⟩)) (hb hby d10_128)) (by decide) (by decide) ?_
  show Q10_16_0 Z a1 k1 x0 x1 x2 x3 x4 x5 x6 x7 x8 x9 x10 x11 x12 x13 x14 x15 h0 n0 _ s₁.heap _
  rw [e0]
  exact ⟨rfl, N0, rfl⟩
def Q10_16_8 (Z : State) (a1 : Addr) (k1 : ClassId) (x0 x1 x2 x3 x4 x5 x6 x7 x8 x9 x10 x11 x12 x13 x14 x15 : Int32) (h0 : Heap) (n0 : Nat) (v : Option Value) (h : Heap) (L : List Loc) : Prop := v = some (.long (own_le8 x8 x9 x10 x11 x12 x13 x14 x15)) ∧ Fr n0 L ∧ h = h0
set_option maxRecDepth 65536 in
set_option maxHeartbeats 40000000 in
theorem rm10_16_8 (l : Launch) (Z : State) (a0 : Array Value) (hw : ∀ d ∈ tables_1, d.before a0 Z = true) (ws : List Jvm.Cond) (a1 : Addr) (k1 : ClassId) (x0 x1 x2 x3 x4 x5 x6 x7 x8 x9 x10 x11 x12 x13 x14 x15 : Int32) (h0 : Heap) (n0 : Nat) (Z0 : n0 ≤ h0.size) (V_a1 : Arv Z h0 a1 k1 .byte (16 : Int32) [(.int x0), (.int x1), (.int x2), (.int x3), (.int x4), (.int x5), (.int x6), (.int x7), (.int x8), (.int x9), (.int x10), (.int x11), (.int x12), (.int x13), (.int x14), (.int x15)] (.int (0 : Int32))) :
    MetFree l (⟨"com/example/bitfold/bitfold/ByteArrayWriterToByteArrayPinLaw", "le8", "([BI)J"⟩ : MethodName) (head1 (Jvm.Cond.code (⟨"com/example/bitfold/bitfold/ByteArrayWriterToByteArrayPinLaw", "le8", "([BI)J"⟩ : MethodName) method_2_code 4 (some .long) :: ws) ({ frames := 0, cells := 0, slots := 0, locals := 0 } : Room)) (fun a U => a = #[(.ref a1), (.int (8 : Int32))] ∧ Z.Warmed39 U.vm ∧ U.heap = h0) (fun _ _ _ _ _ => True) (fun _ U o U' => ∃ v L, o = .returned v ∧ Q10_16_8 Z a1 k1 x0 x1 x2 x3 x4 x5 x6 x7 x8 x9 x10 x11 x12 x13 x14 x15 h0 n0 v U'.heap L ∧ FrameEnd U o U' L ({ frames := 0, cells := 0, slots := 0, locals := 0 } : Room).cells ({ frames := 0, cells := 0, slots := 0, locals := 0 } : Room).slots) := by
  refine MetFree.of_bodySF (plainFor_of_name pn_10) hisR ?_
  intro p e s m args below meth c s₁ Bd hml0 hP hK
  obtain ⟨rfl, hZ, hh⟩ := hP
  have hx := Bd.exec
  have hby := Bd.bytes
  have hml : c.maxLocals = 4 := hml0
  have hown : s.vm.findClass "com/example/bitfold/bitfold/ByteArrayWriterToByteArrayPinLaw" = some m.cls := findClass_of_methodNamed Bd.named
  have hnm := (name_of_methodNamed Bd.named Bd.method).1
  have hlk := Bd.notSynchronized
  have hret := Bd.returns
  have X0 : Stand p l e ({ frames := 0, cells := 0, slots := 0, locals := 0 } : Room) s m #[(.ref a1), (.int (8 : Int32))] below meth c s₁ [] 0 0 := Stand.of_body Bd
  have e0 : s₁.heap = h0 := by rw [← hh, Bd.state]; rfl
  have N0 := Fr.nil n0
  show own_G p e below (s₁.setTop (entryFrame m #[(.ref a1), (.int (8 : Int32))] 4)) (fun s₂ o => ∃ v L, o = .returned v ∧ Q10_16_8 Z a1 k1 x0 x1 x2 x3 x4 x5 x6 x7 x8 x9 x10 x11 x12 x13 x14 x15 h0 n0 v s₂.heap L ∧ FrameEnd s o s₂ L ({ frames := 0, cells := 0, slots := 0, locals := 0 } : Room).cells ({ frames := 0, cells := 0, slots := 0, locals := 0 } : Room).slots)
  refine own_go (fun t k => castTop (ef_10 m a1 (8 : Int32)) k) ?_
  show own_G p e below (s₁.setTop (mkF m 0 #[.val (.ref a1), .val (.int (8 : Int32)), .unset, .unset] [])) _
  refine own_go (fun _ k => XS.lconst X0.here hx rfl (hb hby d10_0) k) ?_
  show own_G p e below (s₁.setTop (mkF m 1 #[.val (.ref a1), .val (.int (8 : Int32)), .unset, .unset] [(.long (0 : Int64))])) _
  refine own_go (fun _ k => XS.lstoreN X0.here hx rfl (hb hby d10_1) rfl (l' := #[.val (.ref a1), .val (.int (8 : Int32)), .val (.long (0 : Int64)), .second]) rfl k) ?_
  show own_G p e below (s₁.setTop (mkF m 2 #[.val (.ref a1), .val (.int (8 : Int32)), .val (.long (0 : Int64)), .second] [])) _
  refine own_go (fun _ k => XS.lloadN X0.here hx rfl (hb hby d10_2) rfl k) ?_
  show own_G p e below (s₁.setTop (mkF m 3 #[.val (.ref a1), .val (.int (8 : Int32)), .val (.long (0 : Int64)), .second] [(.long (0 : Int64))])) _
  refine own_go (fun _ k => XS.aloadN X0.here hx rfl (hb hby d10_3) rfl rfl k) ?_
  show own_G p e below (s₁.setTop (mkF m 4 #[.val (.ref a1), .val (.int (8 : Int32)), .val (.long (0 : Int64)), .second] [(.ref a1), (.long (0 : Int64))])) _
  refine own_go (fun _ k => XS.iloadN X0.here hx rfl (hb hby d10_4) rfl k) ?_
  show own_G p e below (s₁.setTop (mkF m 5 #[.val (.ref a1), .val (.int (8 : Int32)), .val (.long (0 : Int64)), .second] [(.int (8 : Int32)), (.ref a1), (.long (0 : Int64))])) _
  obtain ⟨cl206, Ar206, q206, S206, M206, B206, G206⟩ := id V_a1
  have hin206 : ¬ ((8 : Int32) < 0 ∨ cl206.slots.size ≤ ((8 : Int32)).toNatClampNeg) := inb_of S206 ⟨by decide, by decide⟩
  have hat206 : cl206.slots[((8 : Int32)).toNatClampNeg]? = some (.int x8) := B206.at hin206 rfl
  refine own_go (X0.baloadBytes hx (j := (8 : Int32)) (v := (.int x8)) (by rw [e0]; exact Ar206.1) (State.isArrayOf_alike hZ.alike Ar206.2.1) Ar206.2.2 hin206 hat206 (g := (mkF m 5 #[.val (.ref a1), .val (.int (8 : Int32)), .val (.long (0 : Int64)), .second] [(.int (8 : Int32)), (.ref a1), (.long (0 : Int64))])) rfl rfl (hb hby d10_5)) ?_
  show own_G p e below (s₁.setTop (mkF m 6 #[.val (.ref a1), .val (.int (8 : Int32)), .val (.long (0 : Int64)), .second] [(.int x8), (.long (0 : Int64))])) _
  refine own_go (fun _ k => XS.i2l X0.here hx rfl (hb hby d10_6) rfl k) ?_
  show own_G p e below (s₁.setTop (mkF m 7 #[.val (.ref a1), .val (.int (8 : Int32)), .val (.long (0 : Int64)), .second] [(.long (x8.toInt64)), (.long (0 : Int64))])) _
  refine own_go (X0.ldc2Long hx hown (mvT hZ (hw _ (List.mem_of_getElem? (i := 62) rfl))) (g := (mkF m 7 #[.val (.ref a1), .val (.int (8 : Int32)), .val (.long (0 : Int64)), .second] [(.long (x8.toInt64)), (.long (0 : Int64))])) rfl (hb hby d10_7)) ?_
  show own_G p e below (s₁.setTop (mkF m 10 #[.val (.ref a1), .val (.int (8 : Int32)), .val (.long (0 : Int64)), .second] [(.long (255 : Int64)), (.long (x8.toInt64)), (.long (0 : Int64))])) _
  refine own_go (fun _ k => XS.land X0.here hx rfl (hb hby d10_10) rfl k) ?_
  show own_G p e below (s₁.setTop (mkF m 11 #[.val (.ref a1), .val (.int (8 : Int32)), .val (.long (0 : Int64)), .second] [(.long ((x8.toInt64) &&& (255 : Int64))), (.long (0 : Int64))])) _
  refine own_go (fun _ k => XS.lor X0.here hx rfl (hb hby d10_11) rfl k) ?_
  show own_G p e below (s₁.setTop (mkF m 12 #[.val (.ref a1), .val (.int (8 : Int32)), .val (.long (0 : Int64)), .second] [(.long ((0 : Int64) ||| ((x8.toInt64) &&& (255 : Int64))))])) _
  refine own_go (fun _ k => XS.lstoreN X0.here hx rfl (hb hby d10_12) rfl (l' := #[.val (.ref a1), .val (.int (8 : Int32)), .val (.long ((0 : Int64) ||| ((x8.toInt64) &&& (255 : Int64)))), .second]) rfl k) ?_
  show own_G p e below (s₁.setTop (mkF m 13 #[.val (.ref a1), .val (.int (8 : Int32)), .val (.long ((0 : Int64) ||| ((x8.toInt64) &&& (255 : Int64)))), .second] [])) _
  refine own_go (fun _ k => XS.lloadN X0.here hx rfl (hb hby d10_13) rfl k) ?_
  show own_G p e below (s₁.setTop (mkF m 14 #[.val (.ref a1), .val (.int (8 : Int32)), .val (.long ((0 : Int64) ||| ((x8.toInt64) &&& (255 : Int64)))), .second] [(.long ((0 : Int64) ||| ((x8.toInt64) &&& (255 : Int64))))])) _
  refine own_go (fun _ k => XS.aloadN X0.here hx rfl (hb hby d10_14) rfl rfl k) ?_
  show own_G p e below (s₁.setTop (mkF m 15 #[.val (.ref a1), .val (.int (8 : Int32)), .val (.long ((0 : Int64) ||| ((x8.toInt64) &&& (255 : Int64)))), .second] [(.ref a1), (.long ((0 : Int64) ||| ((x8.toInt64) &&& (255 : Int64))))])) _
  refine own_go (fun _ k => XS.iloadN X0.here hx rfl (hb hby d10_15) rfl k) ?_
  show own_G p e below (s₁.setTop (mkF m 16 #[.val (.ref a1), .val (.int (8 : Int32)), .val (.long ((0 : Int64) ||| ((x8.toInt64) &&& (255 : Int64)))), .second] [(.int (8 : Int32)), (.ref a1), (.long ((0 : Int64) ||| ((x8.toInt64) &&& (255 : Int64))))])) _
  refine own_go (fun _ k => XS.iconst X0.here hx rfl (hb hby d10_16) k) ?_
  show own_G p e below (s₁.setTop (mkF m 17 #[.val (.ref a1), .val (.int (8 : Int32)), .val (.long ((0 : Int64) ||| ((x8.toInt64) &&& (255 : Int64)))), .second] [(.int (1 : Int32)), (.int (8 : Int32)), (.ref a1), (.long ((0 : Int64) ||| ((x8.toInt64) &&& (255 : Int64))))])) _
  refine own_go (fun _ k => XS.iadd X0.here hx rfl (hb hby d10_17) rfl k) ?_
  show own_G p e below (s₁.setTop (mkF m 18 #[.val (.ref a1), .val (.int (8 : Int32)), .val (.long ((0 : Int64) ||| ((x8.toInt64) &&& (255 : Int64)))), .second] [(.int (9 : Int32)), (.ref a1), (.long ((0 : Int64) ||| ((x8.toInt64) &&& (255 : Int64))))])) _
  obtain ⟨cl207, Ar207, q207, S207, M207, B207, G207⟩ := id V_a1
  have hin207 : ¬ ((9 : Int32) < 0 ∨ cl207.slots.size ≤ ((9 : Int32)).toNatClampNeg) := inb_of S207 ⟨by decide, by decide⟩
  have hat207 : cl207.slots[((9 : Int32)).toNatClampNeg]? = some (.int x9) := B207.at hin207 rfl
  refine own_go (X0.baloadBytes hx (j := (9 : Int32)) (v := (.int x9)) (by rw [e0]; exact Ar207.1) (State.isArrayOf_alike hZ.alike Ar207.2.1) Ar207.2.2 hin207 hat207 (g := (mkF m 18 #[.val (.ref a1), .val (.int (8 : Int32)), .val (.long ((0 : Int64) ||| ((x8.toInt64) &&& (255 : Int64)))), .second] [(.int (9 : Int32)), (.ref a1), (.long ((0 : Int64) ||| ((x8.toInt64) &&& (255 : Int64))))])) rfl rfl (hb hby d10_18)) ?_
  show own_G p e below (s₁.setTop (mkF m 19 #[.val (.ref a1), .val (.int (8 : Int32)), .val (.long ((0 : Int64) ||| ((x8.toInt64) &&& (255 : Int64)))), .second] [(.int x9), (.long ((0 : Int64) ||| ((x8.toInt64) &&& (255 : Int64))))])) _
  refine own_go (fun _ k => XS.i2l X0.here hx rfl (hb hby d10_19) rfl k) ?_
  show own_G p e below (s₁.setTop (mkF m 20 #[.val (.ref a1), .val (.int (8 : Int32)), .val (.long ((0 : Int64) ||| ((x8.toInt64) &&& (255 : Int64)))), .second] [(.long (x9.toInt64)), (.long ((0 : Int64) ||| ((x8.toInt64) &&& (255 : Int64))))])) _
  refine own_go (X0.ldc2Long hx hown (mvT hZ (hw _ (List.mem_of_getElem? (i := 62) rfl))) (g := (mkF m 20 #[.val (.ref a1), .val (.int (8 : Int32)), .val (.long ((0 : Int64) ||| ((x8.toInt64) &&& (255 : Int64)))), .second] [(.long (x9.toInt64)), (.long ((0 : Int64) ||| ((x8.toInt64) &&& (255 : Int64))))])) rfl (hb hby d10_20)) ?_
  show own_G p e below (s₁.setTop (mkF m 23 #[.val (.ref a1), .val (.int (8 : Int32)), .val (.long ((0 : Int64) ||| ((x8.toInt64) &&& (255 : Int64)))), .second] [(.long (255 : Int64)), (.long (x9.toInt64)), (.long ((0 : Int64) ||| ((x8.toInt64) &&& (255 : Int64))))])) _
  refine own_go (fun _ k => XS.land X0.here hx rfl (hb hby d10_23) rfl k) ?_
  show own_G p e below (s₁.setTop (mkF m 24 #[.val (.ref a1), .val (.int (8 : Int32)), .val (.long ((0 : Int64) ||| ((x8.toInt64) &&& (255 : Int64)))), .second] [(.long ((x9.toInt64) &&& (255 : Int64))), (.long ((0 : Int64) ||| ((x8.toInt64) &&& (255 : Int64))))])) _
  refine own_go (fun _ k => XS.bipush X0.here hx rfl (hb hby d10_24) k) ?_
  show own_G p e below (s₁.setTop (mkF m 26 #[.val (.ref a1), .val (.int (8 : Int32)), .val (.long ((0 : Int64) ||| ((x8.toInt64) &&& (255 : Int64)))), .second] [(.int (8 : Int32)), (.long ((x9.toInt64) &&& (255 : Int64))), (.long ((0 : Int64) ||| ((x8.toInt64) &&& (255 : Int64))))])) _
  refine own_go (fun _ k => XS.lshl X0.here hx rfl (hb hby d10_26) rfl k) ?_
  show own_G p e below (s₁.setTop (mkF m 27 #[.val (.ref a1), .val (.int (8 : Int32)), .val (.long ((0 : Int64) ||| ((x8.toInt64) &&& (255 : Int64)))), .second] [(.long (((x9.toInt64) &&& (255 : Int64)) <<< ((8 : Int32) &&& 0x3f).toInt64)), (.long ((0 : Int64) ||| ((x8.toInt64) &&& (255 : Int64))))])) _
  refine own_go (fun _ k => XS.lor X0.here hx rfl (hb hby d10_27) rfl k) ?_
  show own_G p e below (s₁.setTop (mkF m 28 #[.val (.ref a1), .val (.int (8 : Int32)), .val (.long ((0 : Int64) ||| ((x8.toInt64) &&& (255 : Int64)))), .second] [(.long (((0 : Int64) ||| ((x8.toInt64) &&& (255 : Int64))) ||| (((x9.toInt64) &&& (255 : Int64)) <<< ((8 : Int32) &&& 0x3f).toInt64)))])) _
  refine own_go (fun _ k => XS.lstoreN X0.here hx rfl (hb hby d10_28) rfl (l' := #[.val (.ref a1), .val (.int (8 : Int32)), .val (.long (((0 : Int64) ||| ((x8.toInt64) &&& (255 : Int64))) ||| (((x9.toInt64) &&& (255 : Int64)) <<< ((8 : Int32) &&& 0x3f).toInt64))), .second]) rfl k) ?_
  show own_G p e below (s₁.setTop (mkF m 29 #[.val (.ref a1), .val (.int (8 : Int32)), .val (.long (((0 : Int64) ||| ((x8.toInt64) &&& (255 : Int64))) ||| (((x9.toInt64) &&& (255 : Int64)) <<< ((8 : Int32) &&& 0x3f).toInt64))), .second] [])) _
  refine own_go (fun _ k => XS.lloadN X0.here hx rfl (hb hby d10_29) rfl k) ?_
  show own_G p e below (s₁.setTop (mkF m 30 #[.val (.ref a1), .val (.int (8 : Int32)), .val (.long (((0 : Int64) ||| ((x8.toInt64) &&& (255 : Int64))) ||| (((x9.toInt64) &&& (255 : Int64)) <<< ((8 : Int32) &&& 0x3f).toInt64))), .second] [(.long (((0 : Int64) ||| ((x8.toInt64) &&& (255 : Int64))) ||| (((x9.toInt64) &&& (255 : Int64)) <<< ((8 : Int32) &&& 0x3f).toInt64)))])) _
  refine own_go (fun _ k => XS.aloadN X0.here hx rfl (hb hby d10_30) rfl rfl k) ?_
  show own_G p e below (s₁.setTop (mkF m 31 #[.val (.ref a1), .val (.int (8 : Int32)), .val (.long (((0 : Int64) ||| ((x8.toInt64) &&& (255 : Int64))) ||| (((x9.toInt64) &&& (255 : Int64)) <<< ((8 : Int32) &&& 0x3f).toInt64))), .second] [(.ref a1), (.long (((0 : Int64) ||| ((x8.toInt64) &&& (255 : Int64))) ||| (((x9.toInt64) &&& (255 : Int64)) <<< ((8 : Int32) &&& 0x3f).toInt64)))])) _
  refine own_go (fun _ k => XS.iloadN X0.here hx rfl (hb hby d10_31) rfl k) ?_
  show own_G p e below (s₁.setTop (mkF m 32 #[.val (.ref a1), .val (.int (8 : Int32)), .val (.long (((0 : Int64) ||| ((x8.toInt64) &&& (255 : Int64))) ||| (((x9.toInt64) &&& (255 : Int64)) <<< ((8 : Int32) &&& 0x3f).toInt64))), .second] [(.int (8 : Int32)), (.ref a1), (.long (((0 : Int64) ||| ((x8.toInt64) &&& (255 : Int64))) ||| (((x9.toInt64) &&& (255 : Int64)) <<< ((8 : Int32) &&& 0x3f).toInt64)))])) _
  refine own_go (fun _ k => XS.iconst X0.here hx rfl (hb hby d10_32) k) ?_
  show own_G p e below (s₁.setTop (mkF m 33 #[.val (.ref a1), .val (.int (8 : Int32)), .val (.long (((0 : Int64) ||| ((x8.toInt64) &&& (255 : Int64))) ||| (((x9.toInt64) &&& (255 : Int64)) <<< ((8 : Int32) &&& 0x3f).toInt64))), .second] [(.int (2 : Int32)), (.int (8 : Int32)), (.ref a1), (.long (((0 : Int64) ||| ((x8.toInt64) &&& (255 : Int64))) ||| (((x9.toInt64) &&& (255 : Int64)) <<< ((8 : Int32) &&& 0x3f).toInt64)))])) _
  refine own_go (fun _ k => XS.iadd X0.here hx rfl (hb hby d10_33) rfl k) ?_
  show own_G p e below (s₁.setTop (mkF m 34 #[.val (.ref a1), .val (.int (8 : Int32)), .val (.long (((0 : Int64) ||| ((x8.toInt64) &&& (255 : Int64))) ||| (((x9.toInt64) &&& (255 : Int64)) <<< ((8 : Int32) &&& 0x3f).toInt64))), .second] [(.int (10 : Int32)), (.ref a1), (.long (((0 : Int64) ||| ((x8.toInt64) &&& (255 : Int64))) ||| (((x9.toInt64) &&& (255 : Int64)) <<< ((8 : Int32) &&& 0x3f).toInt64)))])) _
  obtain ⟨cl208, Ar208, q208, S208, M208, B208, G208⟩ := id V_a1
  have hin208 : ¬ ((10 : Int32) < 0 ∨ cl208.slots.size ≤ ((10 : Int32)).toNatClampNeg) := inb_of S208 ⟨by decide, by decide⟩
  have hat208 : cl208.slots[((10 : Int32)).toNatClampNeg]? = some (.int x10) := B208.at hin208 rfl
  refine own_go (X0.baloadBytes hx (j := (10 : Int32)) (v := (.int x10)) (by rw [e0]; exact Ar208.1) (State.isArrayOf_alike hZ.alike Ar208.2.1) Ar208.2.2 hin208 hat208 (g := (mkF m 34 #[.val (.ref a1), .val (.int (8 : Int32)), .val (.long (((0 : Int64) ||| ((x8.toInt64) &&& (255 : Int64))) ||| (((x9.toInt64) &&& (255 : Int64)) <<< ((8 : Int32) &&& 0x3f).toInt64))), .second] [(.int (10 : Int32)), (.ref a1), (.long (((0 : Int64) ||| ((x8.toInt64) &&& (255 : Int64))) ||| (((x9.toInt64) &&& (255 : Int64)) <<< ((8 : Int32) &&& 0x3f).toInt64)))])) rfl rfl (hb hby d10_34)) ?_
  show own_G p e below (s₁.setTop (mkF m 35 #[.val (.ref a1), .val (.int (8 : Int32)), .val (.long (((0 : Int64) ||| ((x8.toInt64) &&& (255 : Int64))) ||| (((x9.toInt64) &&& (255 : Int64)) <<< ((8 : Int32) &&& 0x3f).toInt64))), .second] [(.int x10), (.long (((0 : Int64) ||| ((x8.toInt64) &&& (255 : Int64))) ||| (((x9.toInt64) &&& (255 : Int64)) <<< ((8 : Int32) &&& 0x3f).toInt64)))])) _
  refine own_go (fun _ k => XS.i2l X0.here hx rfl (hb hby d10_35) rfl k) ?_
  show own_G p e below (s₁.setTop (mkF m 36 #[.val (.ref a1), .val (.int (8 : Int32)), .val (.long (((0 : Int64) ||| ((x8.toInt64) &&& (255 : Int64))) ||| (((x9.toInt64) &&& (255 : Int64)) <<< ((8 : Int32) &&& 0x3f).toInt64))), .second] [(.long (x10.toInt64)), (.long (((0 : Int64) ||| ((x8.toInt64) &&& (255 : Int64))) ||| (((x9.toInt64) &&& (255 : Int64)) <<< ((8 : Int32) &&& 0x3f).toInt64)))])) _
  refine own_go (X0.ldc2Long hx hown (mvT hZ (hw _ (List.mem_of_getElem? (i := 62) rfl))) (g := (mkF m 36 #[.val (.ref a1), .val (.int (8 : Int32)), .val (.long (((0 : Int64) ||| ((x8.toInt64) &&& (255 : Int64))) ||| (((x9.toInt64) &&& (255 : Int64)) <<< ((8 : Int32) &&& 0x3f).toInt64))), .second] [(.long (x10.toInt64)), (.long (((0 : Int64) ||| ((x8.toInt64) &&& (255 : Int64))) ||| (((x9.toInt64) &&& (255 : Int64)) <<< ((8 : Int32) &&& 0x3f).toInt64)))])) rfl (hb hby d10_36)) ?_
  show own_G p e below (s₁.setTop (mkF m 39 #[.val (.ref a1), .val (.int (8 : Int32)), .val (.long (((0 : Int64) ||| ((x8.toInt64) &&& (255 : Int64))) ||| (((x9.toInt64) &&& (255 : Int64)) <<< ((8 : Int32) &&& 0x3f).toInt64))), .second] [(.long (255 : Int64)), (.long (x10.toInt64)), (.long (((0 : Int64) ||| ((x8.toInt64) &&& (255 : Int64))) ||| (((x9.toInt64) &&& (255 : Int64)) <<< ((8 : Int32) &&& 0x3f).toInt64)))])) _
  refine own_go (fun _ k => XS.land X0.here hx rfl (hb hby d10_39) rfl k) ?_
  show own_G p e below (s₁.setTop (mkF m 40 #[.val (.ref a1), .val (.int (8 : Int32)), .val (.long (((0 : Int64) ||| ((x8.toInt64) &&& (255 : Int64))) ||| (((x9.toInt64) &&& (255 : Int64)) <<< ((8 : Int32) &&& 0x3f).toInt64))), .second] [(.long ((x10.toInt64) &&& (255 : Int64))), (.long (((0 : Int64) ||| ((x8.toInt64) &&& (255 : Int64))) ||| (((x9.toInt64) &&& (255 : Int64)) <<< ((8 : Int32) &&& 0x3f).toInt64)))])) _
  refine own_go (fun _ k => XS.bipush X0.here hx rfl (hb hby d10_40) k) ?_
  show own_G p e below (s₁.setTop (mkF m 42 #[.val (.ref a1), .val (.int (8 : Int32)), .val (.long (((0 : Int64) ||| ((x8.toInt64) &&& (255 : Int64))) ||| (((x9.toInt64) &&& (255 : Int64)) <<< ((8 : Int32) &&& 0x3f).toInt64))), .second] [(.int (16 : Int32)), (.long ((x10.toInt64) &&& (255 : Int64))), (.long (((0 : Int64) ||| ((x8.toInt64) &&& (255 : Int64))) ||| (((x9.toInt64) &&& (255 : Int64)) <<< ((8 : Int32) &&& 0x3f).toInt64)))])) _
  refine own_go (fun _ k => XS.lshl X0.here hx rfl (hb hby d10_42) rfl k) ?_
  show own_G p e below (s₁.setTop (mkF m 43 #[.val (.ref a1), .val (.int (8 : Int32)), .val (.long (((0 : Int64) ||| ((x8.toInt64) &&& (255 : Int64))) ||| (((x9.toInt64) &&& (255 : Int64)) <<< ((8 : Int32) &&& 0x3f).toInt64))), .second] [(.long (((x10.toInt64) &&& (255 : Int64)) <<< ((16 : Int32) &&& 0x3f).toInt64)), (.long (((0 : Int64) ||| ((x8.toInt64) &&& (255 : Int64))) ||| (((x9.toInt64) &&& (255 : Int64)) <<< ((8 : Int32) &&& 0x3f).toInt64)))])) _
  refine own_go (fun _ k => XS.lor X0.here hx rfl (hb hby d10_43) rfl k) ?_
  show own_G p e below (s₁.setTop (mkF m 44 #[.val (.ref a1), .val (.int (8 : Int32)), .val (.long (((0 : Int64) ||| ((x8.toInt64) &&& (255 : Int64))) ||| (((x9.toInt64) &&& (255 : Int64)) <<< ((8 : Int32) &&& 0x3f).toInt64))), .second] [(.long ((((0 : Int64) ||| ((x8.toInt64) &&& (255 : Int64))) ||| (((x9.toInt64) &&& (255 : Int64)) <<< ((8 : Int32) &&& 0x3f).toInt64)) ||| (((x10.toInt64) &&& (255 : Int64)) <<< ((16 : Int32) &&& 0x3f).toInt64)))])) _
  refine own_go (fun _ k => XS.lstoreN X0.here hx rfl (hb hby d10_44) rfl (l' := #[.val (.ref a1), .val (.int (8 : Int32)), .val (.long ((((0 : Int64) ||| ((x8.toInt64) &&& (255 : Int64))) ||| (((x9.toInt64) &&& (255 : Int64)) <<< ((8 : Int32) &&& 0x3f).toInt64)) ||| (((x10.toInt64) &&& (255 : Int64)) <<< ((16 : Int32) &&& 0x3f).toInt64))), .second]) rfl k) ?_
  show own_G p e below (s₁.setTop (mkF m 45 #[.val (.ref a1), .val (.int (8 : Int32)), .val (.long ((((0 : Int64) ||| ((x8.toInt64) &&& (255 : Int64))) ||| (((x9.toInt64) &&& (255 : Int64)) <<< ((8 : Int32) &&& 0x3f).toInt64)) ||| (((x10.toInt64) &&& (255 : Int64)) <<< ((16 : Int32) &&& 0x3f).toInt64))), .second] [])) _
  refine own_go (fun _ k => XS.lloadN X0.here hx rfl (hb hby d10_45) rfl k) ?_
  show own_G p e below (s₁.setTop (mkF m 46 #[.val (.ref a1), .val (.int (8 : Int32)), .val (.long ((((0 : Int64) ||| ((x8.toInt64) &&& (255 : Int64))) ||| (((x9.toInt64) &&& (255 : Int64)) <<< ((8 : Int32) &&& 0x3f).toInt64)) ||| (((x10.toInt64) &&& (255 : Int64)) <<< ((16 : Int32) &&& 0x3f).toInt64))), .second] [(.long ((((0 : Int64) ||| ((x8.toInt64) &&& (255 : Int64))) ||| (((x9.toInt64) &&& (255 : Int64)) <<< ((8 : Int32) &&& 0x3f).toInt64)) ||| (((x10.toInt64) &&& (255 : Int64)) <<< ((16 : Int32) &&& 0x3f).toInt64)))])) _
  refine own_go (fun _ k => XS.aloadN X0.here hx rfl (hb hby d10_46) rfl rfl k) ?_
  show own_G p e below (s₁.setTop (mkF m 47 #[.val (.ref a1), .val (.int (8 : Int32)), .val (.long ((((0 : Int64) ||| ((x8.toInt64) &&& (255 : Int64))) ||| (((x9.toInt64) &&& (255 : Int64)) <<< ((8 : Int32) &&& 0x3f).toInt64)) ||| (((x10.toInt64) &&& (255 : Int64)) <<< ((16 : Int32) &&& 0x3f).toInt64))), .second] [(.ref a1), (.long ((((0 : Int64) ||| ((x8.toInt64) &&& (255 : Int64))) ||| (((x9.toInt64) &&& (255 : Int64)) <<< ((8 : Int32) &&& 0x3f).toInt64)) ||| (((x10.toInt64) &&& (255 : Int64)) <<< ((16 : Int32) &&& 0x3f).toInt64)))])) _
  refine own_go (fun _ k => XS.iloadN X0.here hx rfl (hb hby d10_47) rfl k) ?_
  show own_G p e below (s₁.setTop (mkF m 48 #[.val (.ref a1), .val (.int (8 : Int32)), .val (.long ((((0 : Int64) ||| ((x8.toInt64) &&& (255 : Int64))) ||| (((x9.toInt64) &&& (255 : Int64)) <<< ((8 : Int32) &&& 0x3f).toInt64)) ||| (((x10.toInt64) &&& (255 : Int64)) <<< ((16 : Int32) &&& 0x3f).toInt64))), .second] [(.int (8 : Int32)), (.ref a1), (.long ((((0 : Int64) ||| ((x8.toInt64) &&& (255 : Int64))) ||| (((x9.toInt64) &&& (255 : Int64)) <<< ((8 : Int32) &&& 0x3f).toInt64)) ||| (((x10.toInt64) &&& (255 : Int64)) <<< ((16 : Int32) &&& 0x3f).toInt64)))])) _
  refine own_go (fun _ k => XS.iconst X0.here hx rfl (hb hby d10_48) k) ?_
  show own_G p e below (s₁.setTop (mkF m 49 #[.val (.ref a1), .val (.int (8 : Int32)), .val (.long ((((0 : Int64) ||| ((x8.toInt64) &&& (255 : Int64))) ||| (((x9.toInt64) &&& (255 : Int64)) <<< ((8 : Int32) &&& 0x3f).toInt64)) ||| (((x10.toInt64) &&& (255 : Int64)) <<< ((16 : Int32) &&& 0x3f).toInt64))), .second] [(.int (3 : Int32)), (.int (8 : Int32)), (.ref a1), (.long ((((0 : Int64) ||| ((x8.toInt64) &&& (255 : Int64))) ||| (((x9.toInt64) &&& (255 : Int64)) <<< ((8 : Int32) &&& 0x3f).toInt64)) ||| (((x10.toInt64) &&& (255 : Int64)) <<< ((16 : Int32) &&& 0x3f).toInt64)))])) _
  refine own_go (fun _ k => XS.iadd X0.here hx rfl (hb hby d10_49) rfl k) ?_
  show own_G p e below (s₁.setTop (mkF m 50 #[.val (.ref a1), .val (.int (8 : Int32)), .val (.long ((((0 : Int64) ||| ((x8.toInt64) &&& (255 : Int64))) ||| (((x9.toInt64) &&& (255 : Int64)) <<< ((8 : Int32) &&& 0x3f).toInt64)) ||| (((x10.toInt64) &&& (255 : Int64)) <<< ((16 : Int32) &&& 0x3f).toInt64))), .second] [(.int (11 : Int32)), (.ref a1), (.long ((((0 : Int64) ||| ((x8.toInt64) &&& (255 : Int64))) ||| (((x9.toInt64) &&& (255 : Int64)) <<< ((8 : Int32) &&& 0x3f).toInt64)) ||| (((x10.toInt64) &&& (255 : Int64)) <<< ((16 : Int32) &&& 0x3f).toInt64)))])) _
  obtain ⟨cl209, Ar209, q209, S209, M209, B209, G209⟩ := id V_a1
  have hin209 : ¬ ((11 : Int32) < 0 ∨ cl209.slots.size ≤ ((11 : Int32)).toNatClampNeg) := inb_of S209 ⟨by decide, by decide⟩
  have hat209 : cl209.slots[((11 : Int32)).toNatClampNeg]? = some (.int x11) := B209.at hin209 rfl
  refine own_go (X0.baloadBytes hx (j := (11 : Int32)) (v := (.int x11)) (by rw [e0]; exact Ar209.1) (State.isArrayOf_alike hZ.alike Ar209.2.1) Ar209.2.2 hin209 hat209 (g := (mkF m 50 #[.val (.ref a1), .val (.int (8 : Int32)), .val (.long ((((0 : Int64) ||| ((x8.toInt64) &&& (255 : Int64))) ||| (((x9.toInt64) &&& (255 : Int64)) <<< ((8 : Int32) &&& 0x3f).toInt64)) ||| (((x10.toInt64) &&& (255 : Int64)) <<< ((16 : Int32) &&& 0x3f).toInt64))), .second] [(.int (11 : Int32)), (.ref a1), (.long ((((0 : Int64) ||| ((x8.toInt64) &&& (255 : Int64))) ||| (((x9.toInt64) &&& (255 : Int64)) <<< ((8 : Int32) &&& 0x3f).toInt64)) ||| (((x10.toInt64) &&& (255 : Int64)) <<< ((16 : Int32) &&& 0x3f).toInt64)))])) rfl rfl (hb hby d10_50)) ?_
  show own_G p e below (s₁.setTop (mkF m 51 #[.val (.ref a1), .val (.int (8 : Int32)), .val (.long ((((0 : Int64) ||| ((x8.toInt64) &&& (255 : Int64))) ||| (((x9.toInt64) &&& (255 : Int64)) <<< ((8 : Int32) &&& 0x3f).toInt64)) ||| (((x10.toInt64) &&& (255 : Int64)) <<< ((16 : Int32) &&& 0x3f).toInt64))), .second] [(.int x11), (.long ((((0 : Int64) ||| ((x8.toInt64) &&& (255 : Int64))) ||| (((x9.toInt64) &&& (255 : Int64)) <<< ((8 : Int32) &&& 0x3f).toInt64)) ||| (((x10.toInt64) &&& (255 : Int64)) <<< ((16 : Int32) &&& 0x3f).toInt64)))])) _
  refine own_go (fun _ k => XS.i2l X0.here hx rfl (hb hby d10_51) rfl k) ?_
  show own_G p e below (s₁.setTop (mkF m 52 #[.val (.ref a1), .val (.int (8 : Int32)), .val (.long ((((0 : Int64) ||| ((x8.toInt64) &&& (255 : Int64))) ||| (((x9.toInt64) &&& (255 : Int64)) <<< ((8 : Int32) &&& 0x3f).toInt64)) ||| (((x10.toInt64) &&& (255 : Int64)) <<< ((16 : Int32) &&& 0x3f).toInt64))), .second] [(.long (x11.toInt64)), (.long ((((0 : Int64) ||| ((x8.toInt64) &&& (255 : Int64))) ||| (((x9.toInt64) &&& (255 : Int64)) <<< ((8 : Int32) &&& 0x3f).toInt64)) ||| (((x10.toInt64) &&& (255 : Int64)) <<< ((16 : Int32) &&& 0x3f).toInt64)))])) _
  refine own_go (X0.ldc2Long hx hown (mvT hZ (hw _ (List.mem_of_getElem? (i := 62) rfl))) (g := (mkF m 52 #[.val (.ref a1), .val (.int (8 : Int32)), .val (.long ((((0 : Int64) ||| ((x8.toInt64) &&& (255 : Int64))) ||| (((x9.toInt64) &&& (255 : Int64)) <<< ((8 : Int32) &&& 0x3f).toInt64)) ||| (((x10.toInt64) &&& (255 : Int64)) <<< ((16 : Int32) &&& 0x3f).toInt64))), .second] [(.long (x11.toInt64)), (.long ((((0 : Int64) ||| ((x8.toInt64) &&& (255 : Int64))) ||| (((x9.toInt64) &&& (255 : Int64)) <<< ((8 : Int32) &&& 0x3f).toInt64)) ||| (((x10.toInt64) &&& (255 : Int64)) <<< ((16 : Int32) &&& 0x3f).toInt64)))])) rfl (hb hby d10_52)) ?_
  show own_G p e below (s₁.setTop (mkF m 55 #[.val (.ref a1), .val (.int (8 : Int32)), .val (.long ((((0 : Int64) ||| ((x8.toInt64) &&& (255 : Int64))) ||| (((x9.toInt64) &&& (255 : Int64)) <<< ((8 : Int32) &&& 0x3f).toInt64)) ||| (((x10.toInt64) &&& (255 : Int64)) <<< ((16 : Int32) &&& 0x3f).toInt64))), .second] [(.long (255 : Int64)), (.long (x11.toInt64)), (.long ((((0 : Int64) ||| ((x8.toInt64) &&& (255 : Int64))) ||| (((x9.toInt64) &&& (255 : Int64)) <<< ((8 : Int32) &&& 0x3f).toInt64)) ||| (((x10.toInt64) &&& (255 : Int64)) <<< ((16 : Int32) &&& 0x3f).toInt64)))])) _
  refine own_go (fun _ k => XS.land X0.here hx rfl (hb hby d10_55) rfl k) ?_
  show own_G p e below (s₁.setTop (mkF m 56 #[.val (.ref a1), .val (.int (8 : Int32)), .val (.long ((((0 : Int64) ||| ((x8.toInt64) &&& (255 : Int64))) ||| (((x9.toInt64) &&& (255 : Int64)) <<< ((8 : Int32) &&& 0x3f).toInt64)) ||| (((x10.toInt64) &&& (255 : Int64)) <<< ((16 : Int32) &&& 0x3f).toInt64))), .second] [(.long ((x11.toInt64) &&& (255 : Int64))), (.long ((((0 : Int64) ||| ((x8.toInt64) &&& (255 : Int64))) ||| (((x9.toInt64) &&& (255 : Int64)) <<< ((8 : Int32) &&& 0x3f).toInt64)) ||| (((x10.toInt64) &&& (255 : Int64)) <<< ((16 : Int32) &&& 0x3f).toInt64)))])) _
  refine own_go (fun _ k => XS.bipush X0.here hx rfl (hb hby d10_56) k) ?_
  show own_G p e below (s₁.setTop (mkF m 58 #[.val (.ref a1), .val (.int (8 : Int32)), .val (.long ((((0 : Int64) ||| ((x8.toInt64) &&& (255 : Int64))) ||| (((x9.toInt64) &&& (255 : Int64)) <<< ((8 : Int32) &&& 0x3f).toInt64)) ||| (((x10.toInt64) &&& (255 : Int64)) <<< ((16 : Int32) &&& 0x3f).toInt64))), .second] [(.int (24 : Int32)), (.long ((x11.toInt64) &&& (255 : Int64))), (.long ((((0 : Int64) ||| ((x8.toInt64) &&& (255 : Int64))) ||| (((x9.toInt64) &&& (255 : Int64)) <<< ((8 : Int32) &&& 0x3f).toInt64)) ||| (((x10.toInt64) &&& (255 : Int64)) <<< ((16 : Int32) &&& 0x3f).toInt64)))])) _
  refine own_go (fun _ k => XS.lshl X0.here hx rfl (hb hby d10_58) rfl k) ?_
  show own_G p e below (s₁.setTop (mkF m 59 #[.val (.ref a1), .val (.int (8 : Int32)), .val (.long ((((0 : Int64) ||| ((x8.toInt64) &&& (255 : Int64))) ||| (((x9.toInt64) &&& (255 : Int64)) <<< ((8 : Int32) &&& 0x3f).toInt64)) ||| (((x10.toInt64) &&& (255 : Int64)) <<< ((16 : Int32) &&& 0x3f).toInt64))), .second] [(.long (((x11.toInt64) &&& (255 : Int64)) <<< ((24 : Int32) &&& 0x3f).toInt64)), (.long ((((0 : Int64) ||| ((x8.toInt64) &&& (255 : Int64))) ||| (((x9.toInt64) &&& (255 : Int64)) <<< ((8 : Int32) &&& 0x3f).toInt64)) ||| (((x10.toInt64) &&& (255 : Int64)) <<< ((16 : Int32) &&& 0x3f).toInt64)))])) _
  refine own_go (fun _ k => XS.lor X0.here hx rfl (hb hby d10_59) rfl k) ?_
  show own_G p e below (s₁.setTop (mkF m 60 #[.val (.ref a1), .val (.int (8 : Int32)), .val (.long ((((0 : Int64) ||| ((x8.toInt64) &&& (255 : Int64))) ||| (((x9.toInt64) &&& (255 : Int64)) <<< ((8 : Int32) &&& 0x3f).toInt64)) ||| (((x10.toInt64) &&& (255 : Int64)) <<< ((16 : Int32) &&& 0x3f).toInt64))), .second] [(.long (((((0 : Int64) ||| ((x8.toInt64) &&& (255 : Int64))) ||| (((x9.toInt64) &&& (255 : Int64)) <<< ((8 : Int32) &&& 0x3f).toInt64)) ||| (((x10.toInt64) &&& (255 : Int64)) <<< ((16 : Int32) &&& 0x3f).toInt64)) ||| (((x11.toInt64) &&& (255 : Int64)) <<< ((24 : Int32) &&& 0x3f).toInt64)))])) _
  refine own_go (fun _ k => XS.lstoreN X0.here hx rfl (hb hby d10_60) rfl (l' := #[.val (.ref a1), .val (.int (8 : Int32)), .val (.long (((((0 : Int64) ||| ((x8.toInt64) &&& (255 : Int64))) ||| (((x9.toInt64) &&& (255 : Int64)) <<< ((8 : Int32) &&& 0x3f).toInt64)) ||| (((x10.toInt64) &&& (255 : Int64)) <<< ((16 : Int32) &&& 0x3f).toInt64)) ||| (((x11.toInt64) &&& (255 : Int64)) <<< ((24 : Int32) &&& 0x3f).toInt64))), .second]) rfl k) ?_
  show own_G p e below (s₁.setTop (mkF m 61 #[.val (.ref a1), .val (.int (8 : Int32)), .val (.long (((((0 : Int64) ||| ((x8.toInt64) &&& (255 : Int64))) ||| (((x9.toInt64) &&& (255 : Int64)) <<< ((8 : Int32) &&& 0x3f).toInt64)) ||| (((x10.toInt64) &&& (255 : Int64)) <<< ((16 : Int32) &&& 0x3f).toInt64)) ||| (((x11.toInt64) &&& (255 : Int64)) <<< ((24 : Int32) &&& 0x3f).toInt64))), .second] [])) _
  refine own_go (fun _ k => XS.lloadN X0.here hx rfl (hb hby d10_61) rfl k) ?_
  show own_G p e below (s₁.setTop (mkF m 62 #[.val (.ref a1), .val (.int (8 : Int32)), .val (.long (((((0 : Int64) ||| ((x8.toInt64) &&& (255 : Int64))) ||| (((x9.toInt64) &&& (255 : Int64)) <<< ((8 : Int32) &&& 0x3f).toInt64)) ||| (((x10.toInt64) &&& (255 : Int64)) <<< ((16 : Int32) &&& 0x3f).toInt64)) ||| (((x11.toInt64) &&& (255 : Int64)) <<< ((24 : Int32) &&& 0x3f).toInt64))), .second] [(.long (((((0 : Int64) ||| ((x8.toInt64) &&& (255 : Int64))) ||| (((x9.toInt64) &&& (255 : Int64)) <<< ((8 : Int32) &&& 0x3f).toInt64)) ||| (((x10.toInt64) &&& (255 : Int64)) <<< ((16 : Int32) &&& 0x3f).toInt64)) ||| (((x11.toInt64) &&& (255 : Int64)) <<< ((24 : Int32) &&& 0x3f).toInt64)))])) _
  refine own_go (fun _ k => XS.aloadN X0.here hx rfl (hb hby d10_62) rfl rfl k) ?_
  show own_G p e below (s₁.setTop (mkF m 63 #[.val (.ref a1), .val (.int (8 : Int32)), .val (.long (((((0 : Int64) ||| ((x8.toInt64) &&& (255 : Int64))) ||| (((x9.toInt64) &&& (255 : Int64)) <<< ((8 : Int32) &&& 0x3f).toInt64)) ||| (((x10.toInt64) &&& (255 : Int64)) <<< ((16 : Int32) &&& 0x3f).toInt64)) ||| (((x11.toInt64) &&& (255 : Int64)) <<< ((24 : Int32) &&& 0x3f).toInt64))), .second] [(.ref a1), (.long (((((0 : Int64) ||| ((x8.toInt64) &&& (255 : Int64))) ||| (((x9.toInt64) &&& (255 : Int64)) <<< ((8 : Int32) &&& 0x3f).toInt64)) ||| (((x10.toInt64) &&& (255 : Int64)) <<< ((16 : Int32) &&& 0x3f).toInt64)) ||| (((x11.toInt64) &&& (255 : Int64)) <<< ((24 : Int32) &&& 0x3f).toInt64)))])) _
  refine own_go (fun _ k => XS.iloadN X0.here hx rfl (hb hby d10_63) rfl k) ?_
  show own_G p e below (s₁.setTop (mkF m 64 #[.val (.ref a1), .val (.int (8 : Int32)), .val (.long (((((0 : Int64) ||| ((x8.toInt64) &&& (255 : Int64))) ||| (((x9.toInt64) &&& (255 : Int64)) <<< ((8 : Int32) &&& 0x3f).toInt64)) ||| (((x10.toInt64) &&& (255 : Int64)) <<< ((16 : Int32) &&& 0x3f).toInt64)) ||| (((x11.toInt64) &&& (255 : Int64)) <<< ((24 : Int32) &&& 0x3f).toInt64))), .second] [(.int (8 : Int32)), (.ref a1), (.long (((((0 : Int64) ||| ((x8.toInt64) &&& (255 : Int64))) ||| (((x9.toInt64) &&& (255 : Int64)) <<< ((8 : Int32) &&& 0x3f).toInt64)) ||| (((x10.toInt64) &&& (255 : Int64)) <<< ((16 : Int32) &&& 0x3f).toInt64)) ||| (((x11.toInt64) &&& (255 : Int64)) <<< ((24 : Int32) &&& 0x3f).toInt64)))])) _
  refine own_go (fun _ k => XS.iconst X0.here hx rfl (hb hby d10_64) k) ?_
  show own_G p e below (s₁.setTop (mkF m 65 #[.val (.ref a1), .val (.int (8 : Int32)), .val (.long (((((0 : Int64) ||| ((x8.toInt64) &&& (255 : Int64))) ||| (((x9.toInt64) &&& (255 : Int64)) <<< ((8 : Int32) &&& 0x3f).toInt64)) ||| (((x10.toInt64) &&& (255 : Int64)) <<< ((16 : Int32) &&& 0x3f).toInt64)) ||| (((x11.toInt64) &&& (255 : Int64)) <<< ((24 : Int32) &&& 0x3f).toInt64))), .second] [(.int (4 : Int32)), (.int (8 : Int32)), (.ref a1), (.long (((((0 : Int64) ||| ((x8.toInt64) &&& (255 : Int64))) ||| (((x9.toInt64) &&& (255 : Int64)) <<< ((8 : Int32) &&& 0x3f).toInt64)) ||| (((x10.toInt64) &&& (255 : Int64)) <<< ((16 : Int32) &&& 0x3f).toInt64)) ||| (((x11.toInt64) &&& (255 : Int64)) <<< ((24 : Int32) &&& 0x3f).toInt64)))])) _
  refine own_go (fun _ k => XS.iadd X0.here hx rfl (hb hby d10_65) rfl k) ?_
  show own_G p e below (s₁.setTop (mkF m 66 #[.val (.ref a1), .val (.int (8 : Int32)), .val (.long (((((0 : Int64) ||| ((x8.toInt64) &&& (255 : Int64))) ||| (((x9.toInt64) &&& (255 : Int64)) <<< ((8 : Int32) &&& 0x3f).toInt64)) ||| (((x10.toInt64) &&& (255 : Int64)) <<< ((16 : Int32) &&& 0x3f).toInt64)) ||| (((x11.toInt64) &&& (255 : Int64)) <<< ((24 : Int32) &&& 0x3f).toInt64))), .second] [(.int (12 : Int32)), (.ref a1), (.long (((((0 : Int64) ||| ((x8.toInt64) &&& (255 : Int64))) ||| (((x9.toInt64) &&& (255 : Int64)) <<< ((8 : Int32) &&& 0x3f).toInt64)) ||| (((x10.toInt64) &&& (255 : Int64)) <<< ((16 : Int32) &&& 0x3f).toInt64)) ||| (((x11.toInt64) &&& (255 : Int64)) <<< ((24 : Int32) &&& 0x3f).toInt64)))])) _
  obtain ⟨cl210, Ar210, q210, S210, M210, B210, G210⟩ := id V_a1
  have hin210 : ¬ ((12 : Int32) < 0 ∨ cl210.slots.size ≤ ((12 : Int32)).toNatClampNeg) := inb_of S210 ⟨by decide, by decide⟩
  have hat210 : cl210.slots[((12 : Int32)).toNatClampNeg]? = some (.int x12) := B210.at hin210 rfl
  refine own_go (X0.baloadBytes hx (j := (12 : Int32)) (v := (.int x12)) (by rw [e0]; exact Ar210.1) (State.isArrayOf_alike hZ.alike Ar210.2.1) Ar210.2.2 hin210 hat210 (g := (mkF m 66 #[.val (.ref a1), .val (.int (8 : Int32)), .val (.long (((((0 : Int64) ||| ((x8.toInt64) &&& (255 : Int64))) ||| (((x9.toInt64) &&& (255 : Int64)) <<< ((8 : Int32) &&& 0x3f).toInt64)) ||| (((x10.toInt64) &&& (255 : Int64)) <<< ((16 : Int32) &&& 0x3f).toInt64)) ||| (((x11.toInt64) &&& (255 : Int64)) <<< ((24 : Int32) &&& 0x3f).toInt64))), .second] [(.int (12 : Int32)), (.ref a1), (.long (((((0 : Int64) ||| ((x8.toInt64) &&& (255 : Int64))) ||| (((x9.toInt64) &&& (255 : Int64)) <<< ((8 : Int32) &&& 0x3f).toInt64)) ||| (((x10.toInt64) &&& (255 : Int64)) <<< ((16 : Int32) &&& 0x3f).toInt64)) ||| (((x11.toInt64) &&& (255 : Int64)) <<< ((24 : Int32) &&& 0x3f).toInt64)))])) rfl rfl (hb hby d10_66)) ?_
  show own_G p e below (s₁.setTop (mkF m 67 #[.val (.ref a1), .val (.int (8 : Int32)), .val (.long (((((0 : Int64) ||| ((x8.toInt64) &&& (255 : Int64))) ||| (((x9.toInt64) &&& (255 : Int64)) <<< ((8 : Int32) &&& 0x3f).toInt64)) ||| (((x10.toInt64) &&& (255 : Int64)) <<< ((16 : Int32) &&& 0x3f).toInt64)) ||| (((x11.toInt64) &&& (255 : Int64)) <<< ((24 : Int32) &&& 0x3f).toInt64))), .second] [(.int x12), (.long (((((0 : Int64) ||| ((x8.toInt64) &&& (255 : Int64))) ||| (((x9.toInt64) &&& (255 : Int64)) <<< ((8 : Int32) &&& 0x3f).toInt64)) ||| (((x10.toInt64) &&& (255 : Int64)) <<< ((16 : Int32) &&& 0x3f).toInt64)) ||| (((x11.toInt64) &&& (255 : Int64)) <<< ((24 : Int32) &&& 0x3f).toInt64)))])) _
  refine own_go (fun _ k => XS.i2l X0.here hx rfl (hb hby d10_67) rfl k) ?_
  show own_G p e below (s₁.setTop (mkF m 68 #[.val (.ref a1), .val (.int (8 : Int32)), .val (.long (((((0 : Int64) ||| ((x8.toInt64) &&& (255 : Int64))) ||| (((x9.toInt64) &&& (255 : Int64)) <<< ((8 : Int32) &&& 0x3f).toInt64)) ||| (((x10.toInt64) &&& (255 : Int64)) <<< ((16 : Int32) &&& 0x3f).toInt64)) ||| (((x11.toInt64) &&& (255 : Int64)) <<< ((24 : Int32) &&& 0x3f).toInt64))), .second] [(.long (x12.toInt64)), (.long (((((0 : Int64) ||| ((x8.toInt64) &&& (255 : Int64))) ||| (((x9.toInt64) &&& (255 : Int64)) <<< ((8 : Int32) &&& 0x3f).toInt64)) ||| (((x10.toInt64) &&& (255 : Int64)) <<< ((16 : Int32) &&& 0x3f).toInt64)) ||| (((x11.toInt64) &&& (255 : Int64)) <<< ((24 : Int32) &&& 0x3f).toInt64)))])) _
  refine own_go (X0.ldc2Long hx hown (mvT hZ (hw _ (List.mem_of_getElem? (i := 62) rfl))) (g := (mkF m 68 #[.val (.ref a1), .val (.int (8 : Int32)), .val (.long (((((0 : Int64) ||| ((x8.toInt64) &&& (255 : Int64))) ||| (((x9.toInt64) &&& (255 : Int64)) <<< ((8 : Int32) &&& 0x3f).toInt64)) ||| (((x10.toInt64) &&& (255 : Int64)) <<< ((16 : Int32) &&& 0x3f).toInt64)) ||| (((x11.toInt64) &&& (255 : Int64)) <<< ((24 : Int32) &&& 0x3f).toInt64))), .second] [(.long (x12.toInt64)), (.long (((((0 : Int64) ||| ((x8.toInt64) &&& (255 : Int64))) ||| (((x9.toInt64) &&& (255 : Int64)) <<< ((8 : Int32) &&& 0x3f).toInt64)) ||| (((x10.toInt64) &&& (255 : Int64)) <<< ((16 : Int32) &&& 0x3f).toInt64)) ||| (((x11.toInt64) &&& (255 : Int64)) <<< ((24 : Int32) &&& 0x3f).toInt64)))])) rfl (hb hby d10_68)) ?_
  show own_G p e below (s₁.setTop (mkF m 71 #[.val (.ref a1), .val (.int (8 : Int32)), .val (.long (((((0 : Int64) ||| ((x8.toInt64) &&& (255 : Int64))) ||| (((x9.toInt64) &&& (255 : Int64)) <<< ((8 : Int32) &&& 0x3f).toInt64)) ||| (((x10.toInt64) &&& (255 : Int64)) <<< ((16 : Int32) &&& 0x3f).toInt64)) ||| (((x11.toInt64) &&& (255 : Int64)) <<< ((24 : Int32) &&& 0x3f).toInt64))), .second] [(.long (255 : Int64)), (.long (x12.toInt64)), (.long (((((0 : Int64) ||| ((x8.toInt64) &&& (255 : Int64))) ||| (((x9.toInt64) &&& (255 : Int64)) <<< ((8 : Int32) &&& 0x3f).toInt64)) ||| (((x10.toInt64) &&& (255 : Int64)) <<< ((16 : Int32) &&& 0x3f).toInt64)) ||| (((x11.toInt64) &&& (255 : Int64)) <<< ((24 : Int32) &&& 0x3f).toInt64)))])) _
  refine own_go (fun _ k => XS.land X0.here hx rfl (hb hby d10_71) rfl k) ?_
  show own_G p e below (s₁.setTop (mkF m 72 #[.val (.ref a1), .val (.int (8 : Int32)), .val (.long (((((0 : Int64) ||| ((x8.toInt64) &&& (255 : Int64))) ||| (((x9.toInt64) &&& (255 : Int64)) <<< ((8 : Int32) &&& 0x3f).toInt64)) ||| (((x10.toInt64) &&& (255 : Int64)) <<< ((16 : Int32) &&& 0x3f).toInt64)) ||| (((x11.toInt64) &&& (255 : Int64)) <<< ((24 : Int32) &&& 0x3f).toInt64))), .second] [(.long ((x12.toInt64) &&& (255 : Int64))), (.long (((((0 : Int64) ||| ((x8.toInt64) &&& (255 : Int64))) ||| (((x9.toInt64) &&& (255 : Int64)) <<< ((8 : Int32) &&& 0x3f).toInt64)) ||| (((x10.toInt64) &&& (255 : Int64)) <<< ((16 : Int32) &&& 0x3f).toInt64)) ||| (((x11.toInt64) &&& (255 : Int64)) <<< ((24 : Int32) &&& 0x3f).toInt64)))])) _
  refine own_go (fun _ k => XS.bipush X0.here hx rfl (hb hby d10_72) k) ?_
  show own_G p e below (s₁.setTop (mkF m 74 #[.val (.ref a1), .val (.int (8 : Int32)), .val (.long (((((0 : Int64) ||| ((x8.toInt64) &&& (255 : Int64))) ||| (((x9.toInt64) &&& (255 : Int64)) <<< ((8 : Int32) &&& 0x3f).toInt64)) ||| (((x10.toInt64) &&& (255 : Int64)) <<< ((16 : Int32) &&& 0x3f).toInt64)) ||| (((x11.toInt64) &&& (255 : Int64)) <<< ((24 : Int32) &&& 0x3f).toInt64))), .second] [(.int (32 : Int32)), (.long ((x12.toInt64) &&& (255 : Int64))), (.long (((((0 : Int64) ||| ((x8.toInt64) &&& (255 : Int64))) ||| (((x9.toInt64) &&& (255 : Int64)) <<< ((8 : Int32) &&& 0x3f).toInt64)) ||| (((x10.toInt64) &&& (255 : Int64)) <<< ((16 : Int32) &&& 0x3f).toInt64)) ||| (((x11.toInt64) &&& (255 : Int64)) <<< ((24 : Int32) &&& 0x3f).toInt64)))])) _
  refine own_go (fun _ k => XS.lshl X0.here hx rfl (hb hby d10_74) rfl k) ?_
  show own_G p e below (s₁.setTop (mkF m 75 #[.val (.ref a1), .val (.int (8 : Int32)), .val (.long (((((0 : Int64) ||| ((x8.toInt64) &&& (255 : Int64))) ||| (((x9.toInt64) &&& (255 : Int64)) <<< ((8 : Int32) &&& 0x3f).toInt64)) ||| (((x10.toInt64) &&& (255 : Int64)) <<< ((16 : Int32) &&& 0x3f).toInt64)) ||| (((x11.toInt64) &&& (255 : Int64)) <<< ((24 : Int32) &&& 0x3f).toInt64))), .second] [(.long (((x12.toInt64) &&& (255 : Int64)) <<< ((32 : Int32) &&& 0x3f).toInt64)), (.long (((((0 : Int64) ||| ((x8.toInt64) &&& (255 : Int64))) ||| (((x9.toInt64) &&& (255 : Int64)) <<< ((8 : Int32) &&& 0x3f).toInt64)) ||| (((x10.toInt64) &&& (255 : Int64)) <<< ((16 : Int32) &&& 0x3f).toInt64)) ||| (((x11.toInt64) &&& (255 : Int64)) <<< ((24 : Int32) &&& 0x3f).toInt64)))])) _
  refine own_go (fun _ k => XS.lor X0.here hx rfl (hb hby d10_75) rfl k) ?_
  show own_G p e below (s₁.setTop (mkF m 76 #[.val (.ref a1), .val (.int (8 : Int32)), .val (.long (((((0 : Int64) ||| ((x8.toInt64) &&& (255 : Int64))) ||| (((x9.toInt64) &&& (255 : Int64)) <<< ((8 : Int32) &&& 0x3f).toInt64)) ||| (((x10.toInt64) &&& (255 : Int64)) <<< ((16 : Int32) &&& 0x3f).toInt64)) ||| (((x11.toInt64) &&& (255 : Int64)) <<< ((24 : Int32) &&& 0x3f).toInt64))), .second] [(.long ((((((0 : Int64) ||| ((x8.toInt64) &&& (255 : Int64))) ||| (((x9.toInt64) &&& (255 : Int64)) <<< ((8 : Int32) &&& 0x3f).toInt64)) ||| (((x10.toInt64) &&& (255 : Int64)) <<< ((16 : Int32) &&& 0x3f).toInt64)) ||| (((x11.toInt64) &&& (255 : Int64)) <<< ((24 : Int32) &&& 0x3f).toInt64)) ||| (((x12.toInt64) &&& (255 : Int64)) <<< ((32 : Int32) &&& 0x3f).toInt64)))])) _
  refine own_go (fun _ k => XS.lstoreN X0.here hx rfl (hb hby d10_76) rfl (l' := #[.val (.ref a1), .val (.int (8 : Int32)), .val (.long ((((((0 : Int64) ||| ((x8.toInt64) &&& (255 : Int64))) ||| (((x9.toInt64) &&& (255 : Int64)) <<< ((8 : Int32) &&& 0x3f).toInt64)) ||| (((x10.toInt64) &&& (255 : Int64)) <<< ((16 : Int32) &&& 0x3f).toInt64)) ||| (((x11.toInt64) &&& (255 : Int64)) <<< ((24 : Int32) &&& 0x3f).toInt64)) ||| (((x12.toInt64) &&& (255 : Int64)) <<< ((32 : Int32) &&& 0x3f).toInt64))), .second]) rfl k) ?_
  show own_G p e below (s₁.setTop (mkF m 77 #[.val (.ref a1), .val (.int (8 : Int32)), .val (.long ((((((0 : Int64) ||| ((x8.toInt64) &&& (255 : Int64))) ||| (((x9.toInt64) &&& (255 : Int64)) <<< ((8 : Int32) &&& 0x3f).toInt64)) ||| (((x10.toInt64) &&& (255 : Int64)) <<< ((16 : Int32) &&& 0x3f).toInt64)) ||| (((x11.toInt64) &&& (255 : Int64)) <<< ((24 : Int32) &&& 0x3f).toInt64)) ||| (((x12.toInt64) &&& (255 : Int64)) <<< ((32 : Int32) &&& 0x3f).toInt64))), .second] [])) _
  refine own_go (fun _ k => XS.lloadN X0.here hx rfl (hb hby d10_77) rfl k) ?_
  show own_G p e below (s₁.setTop (mkF m 78 #[.val (.ref a1), .val (.int (8 : Int32)), .val (.long ((((((0 : Int64) ||| ((x8.toInt64) &&& (255 : Int64))) ||| (((x9.toInt64) &&& (255 : Int64)) <<< ((8 : Int32) &&& 0x3f).toInt64)) ||| (((x10.toInt64) &&& (255 : Int64)) <<< ((16 : Int32) &&& 0x3f).toInt64)) ||| (((x11.toInt64) &&& (255 : Int64)) <<< ((24 : Int32) &&& 0x3f).toInt64)) ||| (((x12.toInt64) &&& (255 : Int64)) <<< ((32 : Int32) &&& 0x3f).toInt64))), .second] [(.long ((((((0 : Int64) ||| ((x8.toInt64) &&& (255 : Int64))) ||| (((x9.toInt64) &&& (255 : Int64)) <<< ((8 : Int32) &&& 0x3f).toInt64)) ||| (((x10.toInt64) &&& (255 : Int64)) <<< ((16 : Int32) &&& 0x3f).toInt64)) ||| (((x11.toInt64) &&& (255 : Int64)) <<< ((24 : Int32) &&& 0x3f).toInt64)) ||| (((x12.toInt64) &&& (255 : Int64)) <<< ((32 : Int32) &&& 0x3f).toInt64)))])) _
  refine own_go (fun _ k => XS.aloadN X0.here hx rfl (hb hby d10_78) rfl rfl k) ?_
  show own_G p e below (s₁.setTop (mkF m 79 #[.val (.ref a1), .val (.int (8 : Int32)), .val (.long ((((((0 : Int64) ||| ((x8.toInt64) &&& (255 : Int64))) ||| (((x9.toInt64) &&& (255 : Int64)) <<< ((8 : Int32) &&& 0x3f).toInt64)) ||| (((x10.toInt64) &&& (255 : Int64)) <<< ((16 : Int32) &&& 0x3f).toInt64)) ||| (((x11.toInt64) &&& (255 : Int64)) <<< ((24 : Int32) &&& 0x3f).toInt64)) ||| (((x12.toInt64) &&& (255 : Int64)) <<< ((32 : Int32) &&& 0x3f).toInt64))), .second] [(.ref a1), (.long ((((((0 : Int64) ||| ((x8.toInt64) &&& (255 : Int64))) ||| (((x9.toInt64) &&& (255 : Int64)) <<< ((8 : Int32) &&& 0x3f).toInt64)) ||| (((x10.toInt64) &&& (255 : Int64)) <<< ((16 : Int32) &&& 0x3f).toInt64)) ||| (((x11.toInt64) &&& (255 : Int64)) <<< ((24 : Int32) &&& 0x3f).toInt64)) ||| (((x12.toInt64) &&& (255 : Int64)) <<< ((32 : Int32) &&& 0x3f).toInt64)))])) _
  refine own_go (fun _ k => XS.iloadN X0.here hx rfl (hb hby d10_79) rfl k) ?_
  show own_G p e below (s₁.setTop (mkF m 80 #[.val (.ref a1), .val (.int (8 : Int32)), .val (.long ((((((0 : Int64) ||| ((x8.toInt64) &&& (255 : Int64))) ||| (((x9.toInt64) &&& (255 : Int64)) <<< ((8 : Int32) &&& 0x3f).toInt64)) ||| (((x10.toInt64) &&& (255 : Int64)) <<< ((16 : Int32) &&& 0x3f).toInt64)) ||| (((x11.toInt64) &&& (255 : Int64)) <<< ((24 : Int32) &&& 0x3f).toInt64)) ||| (((x12.toInt64) &&& (255 : Int64)) <<< ((32 : Int32) &&& 0x3f).toInt64))), .second] [(.int (8 : Int32)), (.ref a1), (.long ((((((0 : Int64) ||| ((x8.toInt64) &&& (255 : Int64))) ||| (((x9.toInt64) &&& (255 : Int64)) <<< ((8 : Int32) &&& 0x3f).toInt64)) ||| (((x10.toInt64) &&& (255 : Int64)) <<< ((16 : Int32) &&& 0x3f).toInt64)) ||| (((x11.toInt64) &&& (255 : Int64)) <<< ((24 : Int32) &&& 0x3f).toInt64)) ||| (((x12.toInt64) &&& (255 : Int64)) <<< ((32 : Int32) &&& 0x3f).toInt64)))])) _
  refine own_go (fun _ k => XS.iconst X0.here hx rfl (hb hby d10_80) k) ?_
  show own_G p e below (s₁.setTop (mkF m 81 #[.val (.ref a1), .val (.int (8 : Int32)), .val (.long ((((((0 : Int64) ||| ((x8.toInt64) &&& (255 : Int64))) ||| (((x9.toInt64) &&& (255 : Int64)) <<< ((8 : Int32) &&& 0x3f).toInt64)) ||| (((x10.toInt64) &&& (255 : Int64)) <<< ((16 : Int32) &&& 0x3f).toInt64)) ||| (((x11.toInt64) &&& (255 : Int64)) <<< ((24 : Int32) &&& 0x3f).toInt64)) ||| (((x12.toInt64) &&& (255 : Int64)) <<< ((32 : Int32) &&& 0x3f).toInt64))), .second] [(.int (5 : Int32)), (.int (8 : Int32)), (.ref a1), (.long ((((((0 : Int64) ||| ((x8.toInt64) &&& (255 : Int64))) ||| (((x9.toInt64) &&& (255 : Int64)) <<< ((8 : Int32) &&& 0x3f).toInt64)) ||| (((x10.toInt64) &&& (255 : Int64)) <<< ((16 : Int32) &&& 0x3f).toInt64)) ||| (((x11.toInt64) &&& (255 : Int64)) <<< ((24 : Int32) &&& 0x3f).toInt64)) ||| (((x12.toInt64) &&& (255 : Int64)) <<< ((32 : Int32) &&& 0x3f).toInt64)))])) _
  refine own_go (fun _ k => XS.iadd X0.here hx rfl (hb hby d10_81) rfl k) ?_
  show own_G p e below (s₁.setTop (mkF m 82 #[.val (.ref a1), .val (.int (8 : Int32)), .val (.long ((((((0 : Int64) ||| ((x8.toInt64) &&& (255 : Int64))) ||| (((x9.toInt64) &&& (255 : Int64)) <<< ((8 : Int32) &&& 0x3f).toInt64)) ||| (((x10.toInt64) &&& (255 : Int64)) <<< ((16 : Int32) &&& 0x3f).toInt64)) ||| (((x11.toInt64) &&& (255 : Int64)) <<< ((24 : Int32) &&& 0x3f).toInt64)) ||| (((x12.toInt64) &&& (255 : Int64)) <<< ((32 : Int32) &&& 0x3f).toInt64))), .second] [(.int (13 : Int32)), (.ref a1), (.long ((((((0 : Int64) ||| ((x8.toInt64) &&& (255 : Int64))) ||| (((x9.toInt64) &&& (255 : Int64)) <<< ((8 : Int32) &&& 0x3f).toInt64)) ||| (((x10.toInt64) &&& (255 : Int64)) <<< ((16 : Int32) &&& 0x3f).toInt64)) ||| (((x11.toInt64) &&& (255 : Int64)) <<< ((24 : Int32) &&& 0x3f).toInt64)) ||| (((x12.toInt64) &&& (255 : Int64)) <<< ((32 : Int32) &&& 0x3f).toInt64)))])) _
  obtain ⟨cl211, Ar211, q211, S211, M211, B211, G211⟩ := id V_a1
  have hin211 : ¬ ((13 : Int32) < 0 ∨ cl211.slots.size ≤ ((13 : Int32)).toNatClampNeg) := inb_of S211 ⟨by decide, by decide⟩
  have hat211 : cl211.slots[((13 : Int32)).toNatClampNeg]? = some (.int x13) := B211.at hin211 rfl
  refine own_go (X0.baloadBytes hx (j := (13 : Int32)) (v := (.int x13)) (by rw [e0]; exact Ar211.1) (State.isArrayOf_alike hZ.alike Ar211.2.1) Ar211.2.2 hin211 hat211 (g := (mkF m 82 #[.val (.ref a1), .val (.int (8 : Int32)), .val (.long ((((((0 : Int64) ||| ((x8.toInt64) &&& (255 : Int64))) ||| (((x9.toInt64) &&& (255 : Int64)) <<< ((8 : Int32) &&& 0x3f).toInt64)) ||| (((x10.toInt64) &&& (255 : Int64)) <<< ((16 : Int32) &&& 0x3f).toInt64)) ||| (((x11.toInt64) &&& (255 : Int64)) <<< ((24 : Int32) &&& 0x3f).toInt64)) ||| (((x12.toInt64) &&& (255 : Int64)) <<< ((32 : Int32) &&& 0x3f).toInt64))), .second] [(.int (13 : Int32)), (.ref a1), (.long ((((((0 : Int64) ||| ((x8.toInt64) &&& (255 : Int64))) ||| (((x9.toInt64) &&& (255 : Int64)) <<< ((8 : Int32) &&& 0x3f).toInt64)) ||| (((x10.toInt64) &&& (255 : Int64)) <<< ((16 : Int32) &&& 0x3f).toInt64)) ||| (((x11.toInt64) &&& (255 : Int64)) <<< ((24 : Int32) &&& 0x3f).toInt64)) ||| (((x12.toInt64) &&& (255 : Int64)) <<< ((32 : Int32) &&& 0x3f).toInt64)))])) rfl rfl (hb hby d10_82)) ?_
  show own_G p e below (s₁.setTop (mkF m 83 #[.val (.ref a1), .val (.int (8 : Int32)), .val (.long ((((((0 : Int64) ||| ((x8.toInt64) &&& (255 : Int64))) ||| (((x9.toInt64) &&& (255 : Int64)) <<< ((8 : Int32) &&& 0x3f).toInt64)) ||| (((x10.toInt64) &&& (255 : Int64)) <<< ((16 : Int32) &&& 0x3f).toInt64)) ||| (((x11.toInt64) &&& (255 : Int64)) <<< ((24 : Int32) &&& 0x3f).toInt64)) ||| (((x12.toInt64) &&& (255 : Int64)) <<< ((32 : Int32) &&& 0x3f).toInt64))), .second] [(.int x13), (.long ((((((0 : Int64) ||| ((x8.toInt64) &&& (255 : Int64))) ||| (((x9.toInt64) &&& (255 : Int64)) <<< ((8 : Int32) &&& 0x3f).toInt64)) ||| (((x10.toInt64) &&& (255 : Int64)) <<< ((16 : Int32) &&& 0x3f).toInt64)) ||| (((x11.toInt64) &&& (255 : Int64)) <<< ((24 : Int32) &&& 0x3f).toInt64)) ||| (((x12.toInt64) &&& (255 : Int64)) <<< ((32 : Int32) &&& 0x3f).toInt64)))])) _
  refine own_go (fun _ k => XS.i2l X0.here hx rfl (hb hby d10_83) rfl k) ?_
  show own_G p e below (s₁.setTop (mkF m 84 #[.val (.ref a1), .val (.int (8 : Int32)), .val (.long ((((((0 : Int64) ||| ((x8.toInt64) &&& (255 : Int64))) ||| (((x9.toInt64) &&& (255 : Int64)) <<< ((8 : Int32) &&& 0x3f).toInt64)) ||| (((x10.toInt64) &&& (255 : Int64)) <<< ((16 : Int32) &&& 0x3f).toInt64)) ||| (((x11.toInt64) &&& (255 : Int64)) <<< ((24 : Int32) &&& 0x3f).toInt64)) ||| (((x12.toInt64) &&& (255 : Int64)) <<< ((32 : Int32) &&& 0x3f).toInt64))), .second] [(.long (x13.toInt64)), (.long ((((((0 : Int64) ||| ((x8.toInt64) &&& (255 : Int64))) ||| (((x9.toInt64) &&& (255 : Int64)) <<< ((8 : Int32) &&& 0x3f).toInt64)) ||| (((x10.toInt64) &&& (255 : Int64)) <<< ((16 : Int32) &&& 0x3f).toInt64)) ||| (((x11.toInt64) &&& (255 : Int64)) <<< ((24 : Int32) &&& 0x3f).toInt64)) ||| (((x12.toInt64) &&& (255 : Int64)) <<< ((32 : Int32) &&& 0x3f).toInt64)))])) _
  refine own_go (X0.ldc2Long hx hown (mvT hZ (hw _ (List.mem_of_getElem? (i := 62) rfl))) (g := (mkF m 84 #[.val (.ref a1), .val (.int (8 : Int32)), .val (.long ((((((0 : Int64) ||| ((x8.toInt64) &&& (255 : Int64))) ||| (((x9.toInt64) &&& (255 : Int64)) <<< ((8 : Int32) &&& 0x3f).toInt64)) ||| (((x10.toInt64) &&& (255 : Int64)) <<< ((16 : Int32) &&& 0x3f).toInt64)) ||| (((x11.toInt64) &&& (255 : Int64)) <<< ((24 : Int32) &&& 0x3f).toInt64)) ||| (((x12.toInt64) &&& (255 : Int64)) <<< ((32 : Int32) &&& 0x3f).toInt64))), .second] [(.long (x13.toInt64)), (.long ((((((0 : Int64) ||| ((x8.toInt64) &&& (255 : Int64))) ||| (((x9.toInt64) &&& (255 : Int64)) <<< ((8 : Int32) &&& 0x3f).toInt64)) ||| (((x10.toInt64) &&& (255 : Int64)) <<< ((16 : Int32) &&& 0x3f).toInt64)) ||| (((x11.toInt64) &&& (255 : Int64)) <<< ((24 : Int32) &&& 0x3f).toInt64)) ||| (((x12.toInt64) &&& (255 : Int64)) <<< ((32 : Int32) &&& 0x3f).toInt64)))])) rfl (hb hby d10_84)) ?_
  show own_G p e below (s₁.setTop (mkF m 87 #[.val (.ref a1), .val (.int (8 : Int32)), .val (.long ((((((0 : Int64) ||| ((x8.toInt64) &&& (255 : Int64))) ||| (((x9.toInt64) &&& (255 : Int64)) <<< ((8 : Int32) &&& 0x3f).toInt64)) ||| (((x10.toInt64) &&& (255 : Int64)) <<< ((16 : Int32) &&& 0x3f).toInt64)) ||| (((x11.toInt64) &&& (255 : Int64)) <<< ((24 : Int32) &&& 0x3f).toInt64)) ||| (((x12.toInt64) &&& (255 : Int64)) <<< ((32 : Int32) &&& 0x3f).toInt64))), .second] [(.long (255 : Int64)), (.long (x13.toInt64)), (.long ((((((0 : Int64) ||| ((x8.toInt64) &&& (255 : Int64))) ||| (((x9.toInt64) &&& (255 : Int64)) <<< ((8 : Int32) &&& 0x3f).toInt64)) ||| (((x10.toInt64) &&& (255 : Int64)) <<< ((16 : Int32) &&& 0x3f).toInt64)) ||| (((x11.toInt64) &&& (255 : Int64)) <<< ((24 : Int32) &&& 0x3f).toInt64)) ||| (((x12.toInt64) &&& (255 : Int64)) <<< ((32 : Int32) &&& 0x3f).toInt64)))])) _
  refine own_go (fun _ k => XS.land X0.here hx rfl (hb hby d10_87) rfl k) ?_
  show own_G p e below (s₁.setTop (mkF m 88 #[.val (.ref a1), .val (.int (8 : Int32)), .val (.long ((((((0 : Int64) ||| ((x8.toInt64) &&& (255 : Int64))) ||| (((x9.toInt64) &&& (255 : Int64)) <<< ((8 : Int32) &&& 0x3f).toInt64)) ||| (((x10.toInt64) &&& (255 : Int64)) <<< ((16 : Int32) &&& 0x3f).toInt64)) ||| (((x11.toInt64) &&& (255 : Int64)) <<< ((24 : Int32) &&& 0x3f).toInt64)) ||| (((x12.toInt64) &&& (255 : Int64)) <<< ((32 : Int32) &&& 0x3f).toInt64))), .second] [(.long ((x13.toInt64) &&& (255 : Int64))), (.long ((((((0 : Int64) ||| ((x8.toInt64) &&& (255 : Int64))) ||| (((x9.toInt64) &&& (255 : Int64)) <<< ((8 : Int32) &&& 0x3f).toInt64)) ||| (((x10.toInt64) &&& (255 : Int64)) <<< ((16 : Int32) &&& 0x3f).toInt64)) ||| (((x11.toInt64) &&& (255 : Int64)) <<< ((24 : Int32) &&& 0x3f).toInt64)) ||| (((x12.toInt64) &&& (255 : Int64)) <<< ((32 : Int32) &&& 0x3f).toInt64)))])) _
  refine own_go (fun _ k => XS.bipush X0.here hx rfl (hb hby d10_88) k) ?_
  show own_G p e below (s₁.setTop (mkF m 90 #[.val (.ref a1), .val (.int (8 : Int32)), .val (.long ((((((0 : Int64) ||| ((x8.toInt64) &&& (255 : Int64))) ||| (((x9.toInt64) &&& (255 : Int64)) <<< ((8 : Int32) &&& 0x3f).toInt64)) ||| (((x10.toInt64) &&& (255 : Int64)) <<< ((16 : Int32) &&& 0x3f).toInt64)) ||| (((x11.toInt64) &&& (255 : Int64)) <<< ((24 : Int32) &&& 0x3f).toInt64)) ||| (((x12.toInt64) &&& (255 : Int64)) <<< ((32 : Int32) &&& 0x3f).toInt64))), .second] [(.int (40 : Int32)), (.long ((x13.toInt64) &&& (255 : Int64))), (.long ((((((0 : Int64) ||| ((x8.toInt64) &&& (255 : Int64))) ||| (((x9.toInt64) &&& (255 : Int64)) <<< ((8 : Int32) &&& 0x3f).toInt64)) ||| (((x10.toInt64) &&& (255 : Int64)) <<< ((16 : Int32) &&& 0x3f).toInt64)) ||| (((x11.toInt64) &&& (255 : Int64)) <<< ((24 : Int32) &&& 0x3f).toInt64)) ||| (((x12.toInt64) &&& (255 : Int64)) <<< ((32 : Int32) &&& 0x3f).toInt64)))])) _
  refine own_go (fun _ k => XS.lshl X0.here hx rfl (hb hby d10_90) rfl k) ?_
  show own_G p e below (s₁.setTop (mkF m 91 #[.val (.ref a1), .val (.int (8 : Int32)), .val (.long ((((((0 : Int64) ||| ((x8.toInt64) &&& (255 : Int64))) ||| (((x9.toInt64) &&& (255 : Int64)) <<< ((8 : Int32) &&& 0x3f).toInt64)) ||| (((x10.toInt64) &&& (255 : Int64)) <<< ((16 : Int32) &&& 0x3f).toInt64)) ||| (((x11.toInt64) &&& (255 : Int64)) <<< ((24 : Int32) &&& 0x3f).toInt64)) ||| (((x12.toInt64) &&& (255 : Int64)) <<< ((32 : Int32) &&& 0x3f).toInt64))), .second] [(.long (((x13.toInt64) &&& (255 : Int64)) <<< ((40 : Int32) &&& 0x3f).toInt64)), (.long ((((((0 : Int64) ||| ((x8.toInt64) &&& (255 : Int64))) ||| (((x9.toInt64) &&& (255 : Int64)) <<< ((8 : Int32) &&& 0x3f).toInt64)) ||| (((x10.toInt64) &&& (255 : Int64)) <<< ((16 : Int32) &&& 0x3f).toInt64)) ||| (((x11.toInt64) &&& (255 : Int64)) <<< ((24 : Int32) &&& 0x3f).toInt64)) ||| (((x12.toInt64) &&& (255 : Int64)) <<< ((32 : Int32) &&& 0x3f).toInt64)))])) _
  refine own_go (fun _ k => XS.lor X0.here hx rfl (hb hby d10_91) rfl k) ?_
  show own_G p e below (s₁.setTop (mkF m 92 #[.val (.ref a1), .val (.int (8 : Int32)), .val (.long ((((((0 : Int64) ||| ((x8.toInt64) &&& (255 : Int64))) ||| (((x9.toInt64) &&& (255 : Int64)) <<< ((8 : Int32) &&& 0x3f).toInt64)) ||| (((x10.toInt64) &&& (255 : Int64)) <<< ((16 : Int32) &&& 0x3f).toInt64)) ||| (((x11.toInt64) &&& (255 : Int64)) <<< ((24 : Int32) &&& 0x3f).toInt64)) ||| (((x12.toInt64) &&& (255 : Int64)) <<< ((32 : Int32) &&& 0x3f).toInt64))), .second] [(.long (((((((0 : Int64) ||| ((x8.toInt64) &&& (255 : Int64))) ||| (((x9.toInt64) &&& (255 : Int64)) <<< ((8 : Int32) &&& 0x3f).toInt64)) ||| (((x10.toInt64) &&& (255 : Int64)) <<< ((16 : Int32) &&& 0x3f).toInt64)) ||| (((x11.toInt64) &&& (255 : Int64)) <<< ((24 : Int32) &&& 0x3f).toInt64)) ||| (((x12.toInt64) &&& (255 : Int64)) <<< ((32 : Int32) &&& 0x3f).toInt64)) ||| (((x13.toInt64) &&& (255 : Int64)) <<< ((40 : Int32) &&& 0x3f).toInt64)))])) _
  refine own_go (fun _ k => XS.lstoreN X0.here hx rfl (hb hby d10_92) rfl (l' := #[.val (.ref a1), .val (.int (8 : Int32)), .val (.long (((((((0 : Int64) ||| ((x8.toInt64) &&& (255 : Int64))) ||| (((x9.toInt64) &&& (255 : Int64)) <<< ((8 : Int32) &&& 0x3f).toInt64)) ||| (((x10.toInt64) &&& (255 : Int64)) <<< ((16 : Int32) &&& 0x3f).toInt64)) ||| (((x11.toInt64) &&& (255 : Int64)) <<< ((24 : Int32) &&& 0x3f).toInt64)) ||| (((x12.toInt64) &&& (255 : Int64)) <<< ((32 : Int32) &&& 0x3f).toInt64)) ||| (((x13.toInt64) &&& (255 : Int64)) <<< ((40 : Int32) &&& 0x3f).toInt64))), .second]) rfl k) ?_
  show own_G p e below (s₁.setTop (mkF m 93 #[.val (.ref a1), .val (.int (8 : Int32)), .val (.long (((((((0 : Int64) ||| ((x8.toInt64) &&& (255 : Int64))) ||| (((x9.toInt64) &&& (255 : Int64)) <<< ((8 : Int32) &&& 0x3f).toInt64)) ||| (((x10.toInt64) &&& (255 : Int64)) <<< ((16 : Int32) &&& 0x3f).toInt64)) ||| (((x11.toInt64) &&& (255 : Int64)) <<< ((24 : Int32) &&& 0x3f).toInt64)) ||| (((x12.toInt64) &&& (255 : Int64)) <<< ((32 : Int32) &&& 0x3f).toInt64)) ||| (((x13.toInt64) &&& (255 : Int64)) <<< ((40 : Int32) &&& 0x3f).toInt64))), .second] [])) _
  refine own_go (fun _ k => XS.lloadN X0.here hx rfl (hb hby d10_93) rfl k) ?_
  show own_G p e below (s₁.setTop (mkF m 94 #[.val (.ref a1), .val (.int (8 : Int32)), .val (.long (((((((0 : Int64) ||| ((x8.toInt64) &&& (255 : Int64))) ||| (((x9.toInt64) &&& (255 : Int64)) <<< ((8 : Int32) &&& 0x3f).toInt64)) ||| (((x10.toInt64) &&& (255 : Int64)) <<< ((16 : Int32) &&& 0x3f).toInt64)) ||| (((x11.toInt64) &&& (255 : Int64)) <<< ((24 : Int32) &&& 0x3f).toInt64)) ||| (((x12.toInt64) &&& (255 : Int64)) <<< ((32 : Int32) &&& 0x3f).toInt64)) ||| (((x13.toInt64) &&& (255 : Int64)) <<< ((40 : Int32) &&& 0x3f).toInt64))), .second] [(.long (((((((0 : Int64) ||| ((x8.toInt64) &&& (255 : Int64))) ||| (((x9.toInt64) &&& (255 : Int64)) <<< ((8 : Int32) &&& 0x3f).toInt64)) ||| (((x10.toInt64) &&& (255 : Int64)) <<< ((16 : Int32) &&& 0x3f).toInt64)) ||| (((x11.toInt64) &&& (255 : Int64)) <<< ((24 : Int32) &&& 0x3f).toInt64)) ||| (((x12.toInt64) &&& (255 : Int64)) <<< ((32 : Int32) &&& 0x3f).toInt64)) ||| (((x13.toInt64) &&& (255 : Int64)) <<< ((40 : Int32) &&& 0x3f).toInt64)))])) _
  refine own_go (fun _ k => XS.aloadN X0.here hx rfl (hb hby d10_94) rfl rfl k) ?_
  show own_G p e below (s₁.setTop (mkF m 95 #[.val (.ref a1), .val (.int (8 : Int32)), .val (.long (((((((0 : Int64) ||| ((x8.toInt64) &&& (255 : Int64))) ||| (((x9.toInt64) &&& (255 : Int64)) <<< ((8 : Int32) &&& 0x3f).toInt64)) ||| (((x10.toInt64) &&& (255 : Int64)) <<< ((16 : Int32) &&& 0x3f).toInt64)) ||| (((x11.toInt64) &&& (255 : Int64)) <<< ((24 : Int32) &&& 0x3f).toInt64)) ||| (((x12.toInt64) &&& (255 : Int64)) <<< ((32 : Int32) &&& 0x3f).toInt64)) ||| (((x13.toInt64) &&& (255 : Int64)) <<< ((40 : Int32) &&& 0x3f).toInt64))), .second] [(.ref a1), (.long (((((((0 : Int64) ||| ((x8.toInt64) &&& (255 : Int64))) ||| (((x9.toInt64) &&& (255 : Int64)) <<< ((8 : Int32) &&& 0x3f).toInt64)) ||| (((x10.toInt64) &&& (255 : Int64)) <<< ((16 : Int32) &&& 0x3f).toInt64)) ||| (((x11.toInt64) &&& (255 : Int64)) <<< ((24 : Int32) &&& 0x3f).toInt64)) ||| (((x12.toInt64) &&& (255 : Int64)) <<< ((32 : Int32) &&& 0x3f).toInt64)) ||| (((x13.toInt64) &&& (255 : Int64)) <<< ((40 : Int32) &&& 0x3f).toInt64)))])) _
  refine own_go (fun _ k => XS.iloadN X0.here hx rfl (hb hby d10_95) rfl k) ?_
  show own_G p e below (s₁.setTop (mkF m 96 #[.val (.ref a1), .val (.int (8 : Int32)), .val (.long (((((((0 : Int64) ||| ((x8.toInt64) &&& (255 : Int64))) ||| (((x9.toInt64) &&& (255 : Int64)) <<< ((8 : Int32) &&& 0x3f).toInt64)) ||| (((x10.toInt64) &&& (255 : Int64)) <<< ((16 : Int32) &&& 0x3f).toInt64)) ||| (((x11.toInt64) &&& (255 : Int64)) <<< ((24 : Int32) &&& 0x3f).toInt64)) ||| (((x12.toInt64) &&& (255 : Int64)) <<< ((32 : Int32) &&& 0x3f).toInt64)) ||| (((x13.toInt64) &&& (255 : Int64)) <<< ((40 : Int32) &&& 0x3f).toInt64))), .second] [(.int (8 : Int32)), (.ref a1), (.long (((((((0 : Int64) ||| ((x8.toInt64) &&& (255 : Int64))) ||| (((x9.toInt64) &&& (255 : Int64)) <<< ((8 : Int32) &&& 0x3f).toInt64)) ||| (((x10.toInt64) &&& (255 : Int64)) <<< ((16 : Int32) &&& 0x3f).toInt64)) ||| (((x11.toInt64) &&& (255 : Int64)) <<< ((24 : Int32) &&& 0x3f).toInt64)) ||| (((x12.toInt64) &&& (255 : Int64)) <<< ((32 : Int32) &&& 0x3f).toInt64)) ||| (((x13.toInt64) &&& (255 : Int64)) <<< ((40 : Int32) &&& 0x3f).toInt64)))])) _
  refine own_go (fun _ k => XS.bipush X0.here hx rfl (hb hby d10_96) k) ?_
  show own_G p e below (s₁.setTop (mkF m 98 #[.val (.ref a1), .val (.int (8 : Int32)), .val (.long (((((((0 : Int64) ||| ((x8.toInt64) &&& (255 : Int64))) ||| (((x9.toInt64) &&& (255 : Int64)) <<< ((8 : Int32) &&& 0x3f).toInt64)) ||| (((x10.toInt64) &&& (255 : Int64)) <<< ((16 : Int32) &&& 0x3f).toInt64)) ||| (((x11.toInt64) &&& (255 : Int64)) <<< ((24 : Int32) &&& 0x3f).toInt64)) ||| (((x12.toInt64) &&& (255 : Int64)) <<< ((32 : Int32) &&& 0x3f).toInt64)) ||| (((x13.toInt64) &&& (255 : Int64)) <<< ((40 : Int32) &&& 0x3f).toInt64))), .second] [(.int (6 : Int32)), (.int (8 : Int32)), (.ref a1), (.long (((((((0 : Int64) ||| ((x8.toInt64) &&& (255 : Int64))) ||| (((x9.toInt64) &&& (255 : Int64)) <<< ((8 : Int32) &&& 0x3f).toInt64)) ||| (((x10.toInt64) &&& (255 : Int64)) <<< ((16 : Int32) &&& 0x3f).toInt64)) ||| (((x11.toInt64) &&& (255 : Int64)) <<< ((24 : Int32) &&& 0x3f).toInt64)) ||| (((x12.toInt64) &&& (255 : Int64)) <<< ((32 : Int32) &&& 0x3f).toInt64)) ||| (((x13.toInt64) &&& (255 : Int64)) <<< ((40 : Int32) &&& 0x3f).toInt64)))])) _
  refine own_go (fun _ k => XS.iadd X0.here hx rfl (hb hby d10_98) rfl k) ?_
  show own_G p e below (s₁.setTop (mkF m 99 #[.val (.ref a1), .val (.int (8 : Int32)), .val (.long (((((((0 : Int64) ||| ((x8.toInt64) &&& (255 : Int64))) ||| (((x9.toInt64) &&& (255 : Int64)) <<< ((8 : Int32) &&& 0x3f).toInt64)) ||| (((x10.toInt64) &&& (255 : Int64)) <<< ((16 : Int32) &&& 0x3f).toInt64)) ||| (((x11.toInt64) &&& (255 : Int64)) <<< ((24 : Int32) &&& 0x3f).toInt64)) ||| (((x12.toInt64) &&& (255 : Int64)) <<< ((32 : Int32) &&& 0x3f).toInt64)) ||| (((x13.toInt64) &&& (255 : Int64)) <<< ((40 : Int32) &&& 0x3f).toInt64))), .second] [(.int (14 : Int32)), (.ref a1), (.long (((((((0 : Int64) ||| ((x8.toInt64) &&& (255 : Int64))) ||| (((x9.toInt64) &&& (255 : Int64)) <<< ((8 : Int32) &&& 0x3f).toInt64)) ||| (((x10.toInt64) &&& (255 : Int64)) <<< ((16 : Int32) &&& 0x3f).toInt64)) ||| (((x11.toInt64) &&& (255 : Int64)) <<< ((24 : Int32) &&& 0x3f).toInt64)) ||| (((x12.toInt64) &&& (255 : Int64)) <<< ((32 : Int32) &&& 0x3f).toInt64)) ||| (((x13.toInt64) &&& (255 : Int64)) <<< ((40 : Int32) &&& 0x3f).toInt64)))])) _
  obtain ⟨cl212, Ar212, q212, S212, M212, B212, G212⟩ := id V_a1
  have hin212 : ¬ ((14 : Int32) < 0 ∨ cl212.slots.size ≤ ((14 : Int32)).toNatClampNeg) := inb_of S212 ⟨by decide, by decide⟩
  have hat212 : cl212.slots[((14 : Int32)).toNatClampNeg]? = some (.int x14) := B212.at hin212 rfl
  refine own_go (X0.baloadBytes hx (j := (14 : Int32)) (v := (.int x14)) (by rw [e0]; exact Ar212.1) (State.isArrayOf_alike hZ.alike Ar212.2.1) Ar212.2.2 hin212 hat212 (g := (mkF m 99 #[.val (.ref a1), .val (.int (8 : Int32)), .val (.long (((((((0 : Int64) ||| ((x8.toInt64) &&& (255 : Int64))) ||| (((x9.toInt64) &&& (255 : Int64)) <<< ((8 : Int32) &&& 0x3f).toInt64)) ||| (((x10.toInt64) &&& (255 : Int64)) <<< ((16 : Int32) &&& 0x3f).toInt64)) ||| (((x11.toInt64) &&& (255 : Int64)) <<< ((24 : Int32) &&& 0x3f).toInt64)) ||| (((x12.toInt64) &&& (255 : Int64)) <<< ((32 : Int32) &&& 0x3f).toInt64)) ||| (((x13.toInt64) &&& (255 : Int64)) <<< ((40 : Int32) &&& 0x3f).toInt64))), .second] [(.int (14 : Int32)), (.ref a1), (.long (((((((0 : Int64) ||| ((x8.toInt64) &&& (255 : Int64))) ||| (((x9.toInt64) &&& (255 : Int64)) <<< ((8 : Int32) &&& 0x3f).toInt64)) ||| (((x10.toInt64) &&& (255 : Int64)) <<< ((16 : Int32) &&& 0x3f).toInt64)) ||| (((x11.toInt64) &&& (255 : Int64)) <<< ((24 : Int32) &&& 0x3f).toInt64)) ||| (((x12.toInt64) &&& (255 : Int64)) <<< ((32 : Int32) &&& 0x3f).toInt64)) ||| (((x13.toInt64) &&& (255 : Int64)) <<< ((40 : Int32) &&& 0x3f).toInt64)))])) rfl rfl (hb hby d10_99)) ?_
  show own_G p e below (s₁.setTop (mkF m 100 #[.val (.ref a1), .val (.int (8 : Int32)), .val (.long (((((((0 : Int64) ||| ((x8.toInt64) &&& (255 : Int64))) ||| (((x9.toInt64) &&& (255 : Int64)) <<< ((8 : Int32) &&& 0x3f).toInt64)) ||| (((x10.toInt64) &&& (255 : Int64)) <<< ((16 : Int32) &&& 0x3f).toInt64)) ||| (((x11.toInt64) &&& (255 : Int64)) <<< ((24 : Int32) &&& 0x3f).toInt64)) ||| (((x12.toInt64) &&& (255 : Int64)) <<< ((32 : Int32) &&& 0x3f).toInt64)) ||| (((x13.toInt64) &&& (255 : Int64)) <<< ((40 : Int32) &&& 0x3f).toInt64))), .second] [(.int x14), (.long (((((((0 : Int64) ||| ((x8.toInt64) &&& (255 : Int64))) ||| (((x9.toInt64) &&& (255 : Int64)) <<< ((8 : Int32) &&& 0x3f).toInt64)) ||| (((x10.toInt64) &&& (255 : Int64)) <<< ((16 : Int32) &&& 0x3f).toInt64)) ||| (((x11.toInt64) &&& (255 : Int64)) <<< ((24 : Int32) &&& 0x3f).toInt64)) ||| (((x12.toInt64) &&& (255 : Int64)) <<< ((32 : Int32) &&& 0x3f).toInt64)) ||| (((x13.toInt64) &&& (255 : Int64)) <<< ((40 : Int32) &&& 0x3f).toInt64)))])) _
  refine own_go (fun _ k => XS.i2l X0.here hx rfl (hb hby d10_100) rfl k) ?_
  show own_G p e below (s₁.setTop (mkF m 101 #[.val (.ref a1), .val (.int (8 : Int32)), .val (.long (((((((0 : Int64) ||| ((x8.toInt64) &&& (255 : Int64))) ||| (((x9.toInt64) &&& (255 : Int64)) <<< ((8 : Int32) &&& 0x3f).toInt64)) ||| (((x10.toInt64) &&& (255 : Int64)) <<< ((16 : Int32) &&& 0x3f).toInt64)) ||| (((x11.toInt64) &&& (255 : Int64)) <<< ((24 : Int32) &&& 0x3f).toInt64)) ||| (((x12.toInt64) &&& (255 : Int64)) <<< ((32 : Int32) &&& 0x3f).toInt64)) ||| (((x13.toInt64) &&& (255 : Int64)) <<< ((40 : Int32) &&& 0x3f).toInt64))), .second] [(.long (x14.toInt64)), (.long (((((((0 : Int64) ||| ((x8.toInt64) &&& (255 : Int64))) ||| (((x9.toInt64) &&& (255 : Int64)) <<< ((8 : Int32) &&& 0x3f).toInt64)) ||| (((x10.toInt64) &&& (255 : Int64)) <<< ((16 : Int32) &&& 0x3f).toInt64)) ||| (((x11.toInt64) &&& (255 : Int64)) <<< ((24 : Int32) &&& 0x3f).toInt64)) ||| (((x12.toInt64) &&& (255 : Int64)) <<< ((32 : Int32) &&& 0x3f).toInt64)) ||| (((x13.toInt64) &&& (255 : Int64)) <<< ((40 : Int32) &&& 0x3f).toInt64)))])) _
  refine own_go (X0.ldc2Long hx hown (mvT hZ (hw _ (List.mem_of_getElem? (i := 62) rfl))) (g := (mkF m 101 #[.val (.ref a1), .val (.int (8 : Int32)), .val (.long (((((((0 : Int64) ||| ((x8.toInt64) &&& (255 : Int64))) ||| (((x9.toInt64) &&& (255 : Int64)) <<< ((8 : Int32) &&& 0x3f).toInt64)) ||| (((x10.toInt64) &&& (255 : Int64)) <<< ((16 : Int32) &&& 0x3f).toInt64)) ||| (((x11.toInt64) &&& (255 : Int64)) <<< ((24 : Int32) &&& 0x3f).toInt64)) ||| (((x12.toInt64) &&& (255 : Int64)) <<< ((32 : Int32) &&& 0x3f).toInt64)) ||| (((x13.toInt64) &&& (255 : Int64)) <<< ((40 : Int32) &&& 0x3f).toInt64))), .second] [(.long (x14.toInt64)), (.long (((((((0 : Int64) ||| ((x8.toInt64) &&& (255 : Int64))) ||| (((x9.toInt64) &&& (255 : Int64)) <<< ((8 : Int32) &&& 0x3f).toInt64)) ||| (((x10.toInt64) &&& (255 : Int64)) <<< ((16 : Int32) &&& 0x3f).toInt64)) ||| (((x11.toInt64) &&& (255 : Int64)) <<< ((24 : Int32) &&& 0x3f).toInt64)) ||| (((x12.toInt64) &&& (255 : Int64)) <<< ((32 : Int32) &&& 0x3f).toInt64)) ||| (((x13.toInt64) &&& (255 : Int64)) <<< ((40 : Int32) &&& 0x3f).toInt64)))])) rfl (hb hby d10_101)) ?_
  show own_G p e below (s₁.setTop (mkF m 104 #[.val (.ref a1), .val (.int (8 : Int32)), .val (.long (((((((0 : Int64) ||| ((x8.toInt64) &&& (255 : Int64))) ||| (((x9.toInt64) &&& (255 : Int64)) <<< ((8 : Int32) &&& 0x3f).toInt64)) ||| (((x10.toInt64) &&& (255 : Int64)) <<< ((16 : Int32) &&& 0x3f).toInt64)) ||| (((x11.toInt64) &&& (255 : Int64)) <<< ((24 : Int32) &&& 0x3f).toInt64)) ||| (((x12.toInt64) &&& (255 : Int64)) <<< ((32 : Int32) &&& 0x3f).toInt64)) ||| (((x13.toInt64) &&& (255 : Int64)) <<< ((40 : Int32) &&& 0x3f).toInt64))), .second] [(.long (255 : Int64)), (.long (x14.toInt64)), (.long (((((((0 : Int64) ||| ((x8.toInt64) &&& (255 : Int64))) ||| (((x9.toInt64) &&& (255 : Int64)) <<< ((8 : Int32) &&& 0x3f).toInt64)) ||| (((x10.toInt64) &&& (255 : Int64)) <<< ((16 : Int32) &&& 0x3f).toInt64)) ||| (((x11.toInt64) &&& (255 : Int64)) <<< ((24 : Int32) &&& 0x3f).toInt64)) ||| (((x12.toInt64) &&& (255 : Int64)) <<< ((32 : Int32) &&& 0x3f).toInt64)) ||| (((x13.toInt64) &&& (255 : Int64)) <<< ((40 : Int32) &&& 0x3f).toInt64)))])) _
  refine own_go (fun _ k => XS.land X0.here hx rfl (hb hby d10_104) rfl k) ?_
  show own_G p e below (s₁.setTop (mkF m 105 #[.val (.ref a1), .val (.int (8 : Int32)), .val (.long (((((((0 : Int64) ||| ((x8.toInt64) &&& (255 : Int64))) ||| (((x9.toInt64) &&& (255 : Int64)) <<< ((8 : Int32) &&& 0x3f).toInt64)) ||| (((x10.toInt64) &&& (255 : Int64)) <<< ((16 : Int32) &&& 0x3f).toInt64)) ||| (((x11.toInt64) &&& (255 : Int64)) <<< ((24 : Int32) &&& 0x3f).toInt64)) ||| (((x12.toInt64) &&& (255 : Int64)) <<< ((32 : Int32) &&& 0x3f).toInt64)) ||| (((x13.toInt64) &&& (255 : Int64)) <<< ((40 : Int32) &&& 0x3f).toInt64))), .second] [(.long ((x14.toInt64) &&& (255 : Int64))), (.long (((((((0 : Int64) ||| ((x8.toInt64) &&& (255 : Int64))) ||| (((x9.toInt64) &&& (255 : Int64)) <<< ((8 : Int32) &&& 0x3f).toInt64)) ||| (((x10.toInt64) &&& (255 : Int64)) <<< ((16 : Int32) &&& 0x3f).toInt64)) ||| (((x11.toInt64) &&& (255 : Int64)) <<< ((24 : Int32) &&& 0x3f).toInt64)) ||| (((x12.toInt64) &&& (255 : Int64)) <<< ((32 : Int32) &&& 0x3f).toInt64)) ||| (((x13.toInt64) &&& (255 : Int64)) <<< ((40 : Int32) &&& 0x3f).toInt64)))])) _
  refine own_go (fun _ k => XS.bipush X0.here hx rfl (hb hby d10_105) k) ?_
  show own_G p e below (s₁.setTop (mkF m 107 #[.val (.ref a1), .val (.int (8 : Int32)), .val (.long (((((((0 : Int64) ||| ((x8.toInt64) &&& (255 : Int64))) ||| (((x9.toInt64) &&& (255 : Int64)) <<< ((8 : Int32) &&& 0x3f).toInt64)) ||| (((x10.toInt64) &&& (255 : Int64)) <<< ((16 : Int32) &&& 0x3f).toInt64)) ||| (((x11.toInt64) &&& (255 : Int64)) <<< ((24 : Int32) &&& 0x3f).toInt64)) ||| (((x12.toInt64) &&& (255 : Int64)) <<< ((32 : Int32) &&& 0x3f).toInt64)) ||| (((x13.toInt64) &&& (255 : Int64)) <<< ((40 : Int32) &&& 0x3f).toInt64))), .second] [(.int (48 : Int32)), (.long ((x14.toInt64) &&& (255 : Int64))), (.long (((((((0 : Int64) ||| ((x8.toInt64) &&& (255 : Int64))) ||| (((x9.toInt64) &&& (255 : Int64)) <<< ((8 : Int32) &&& 0x3f).toInt64)) ||| (((x10.toInt64) &&& (255 : Int64)) <<< ((16 : Int32) &&& 0x3f).toInt64)) ||| (((x11.toInt64) &&& (255 : Int64)) <<< ((24 : Int32) &&& 0x3f).toInt64)) ||| (((x12.toInt64) &&& (255 : Int64)) <<< ((32 : Int32) &&& 0x3f).toInt64)) ||| (((x13.toInt64) &&& (255 : Int64)) <<< ((40 : Int32) &&& 0x3f).toInt64)))])) _
  refine own_go (fun _ k => XS.lshl X0.here hx rfl (hb hby d10_107) rfl k) ?_
  show own_G p e below (s₁.setTop (mkF m 108 #[.val (.ref a1), .val (.int (8 : Int32)), .val (.long (((((((0 : Int64) ||| ((x8.toInt64) &&& (255 : Int64))) ||| (((x9.toInt64) &&& (255 : Int64)) <<< ((8 : Int32) &&& 0x3f).toInt64)) ||| (((x10.toInt64) &&& (255 : Int64)) <<< ((16 : Int32) &&& 0x3f).toInt64)) ||| (((x11.toInt64) &&& (255 : Int64)) <<< ((24 : Int32) &&& 0x3f).toInt64)) ||| (((x12.toInt64) &&& (255 : Int64)) <<< ((32 : Int32) &&& 0x3f).toInt64)) ||| (((x13.toInt64) &&& (255 : Int64)) <<< ((40 : Int32) &&& 0x3f).toInt64))), .second] [(.long (((x14.toInt64) &&& (255 : Int64)) <<< ((48 : Int32) &&& 0x3f).toInt64)), (.long (((((((0 : Int64) ||| ((x8.toInt64) &&& (255 : Int64))) ||| (((x9.toInt64) &&& (255 : Int64)) <<< ((8 : Int32) &&& 0x3f).toInt64)) ||| (((x10.toInt64) &&& (255 : Int64)) <<< ((16 : Int32) &&& 0x3f).toInt64)) ||| (((x11.toInt64) &&& (255 : Int64)) <<< ((24 : Int32) &&& 0x3f).toInt64)) ||| (((x12.toInt64) &&& (255 : Int64)) <<< ((32 : Int32) &&& 0x3f).toInt64)) ||| (((x13.toInt64) &&& (255 : Int64)) <<< ((40 : Int32) &&& 0x3f).toInt64)))])) _
  refine own_go (fun _ k => XS.lor X0.here hx rfl (hb hby d10_108) rfl k) ?_
  show own_G p e below (s₁.setTop (mkF m 109 #[.val (.ref a1), .val (.int (8 : Int32)), .val (.long (((((((0 : Int64) ||| ((x8.toInt64) &&& (255 : Int64))) ||| (((x9.toInt64) &&& (255 : Int64)) <<< ((8 : Int32) &&& 0x3f).toInt64)) ||| (((x10.toInt64) &&& (255 : Int64)) <<< ((16 : Int32) &&& 0x3f).toInt64)) ||| (((x11.toInt64) &&& (255 : Int64)) <<< ((24 : Int32) &&& 0x3f).toInt64)) ||| (((x12.toInt64) &&& (255 : Int64)) <<< ((32 : Int32) &&& 0x3f).toInt64)) ||| (((x13.toInt64) &&& (255 : Int64)) <<< ((40 : Int32) &&& 0x3f).toInt64))), .second] [(.long ((((((((0 : Int64) ||| ((x8.toInt64) &&& (255 : Int64))) ||| (((x9.toInt64) &&& (255 : Int64)) <<< ((8 : Int32) &&& 0x3f).toInt64)) ||| (((x10.toInt64) &&& (255 : Int64)) <<< ((16 : Int32) &&& 0x3f).toInt64)) ||| (((x11.toInt64) &&& (255 : Int64)) <<< ((24 : Int32) &&& 0x3f).toInt64)) ||| (((x12.toInt64) &&& (255 : Int64)) <<< ((32 : Int32) &&& 0x3f).toInt64)) ||| (((x13.toInt64) &&& (255 : Int64)) <<< ((40 : Int32) &&& 0x3f).toInt64)) ||| (((x14.toInt64) &&& (255 : Int64)) <<< ((48 : Int32) &&& 0x3f).toInt64)))])) _
  refine own_go (fun _ k => XS.lstoreN X0.here hx rfl (hb hby d10_109) rfl (l' := #[.val (.ref a1), .val (.int (8 : Int32)), .val (.long ((((((((0 : Int64) ||| ((x8.toInt64) &&& (255 : Int64))) ||| (((x9.toInt64) &&& (255 : Int64)) <<< ((8 : Int32) &&& 0x3f).toInt64)) ||| (((x10.toInt64) &&& (255 : Int64)) <<< ((16 : Int32) &&& 0x3f).toInt64)) ||| (((x11.toInt64) &&& (255 : Int64)) <<< ((24 : Int32) &&& 0x3f).toInt64)) ||| (((x12.toInt64) &&& (255 : Int64)) <<< ((32 : Int32) &&& 0x3f).toInt64)) ||| (((x13.toInt64) &&& (255 : Int64)) <<< ((40 : Int32) &&& 0x3f).toInt64)) ||| (((x14.toInt64) &&& (255 : Int64)) <<< ((48 : Int32) &&& 0x3f).toInt64))), .second]) rfl k) ?_
  show own_G p e below (s₁.setTop (mkF m 110 #[.val (.ref a1), .val (.int (8 : Int32)), .val (.long ((((((((0 : Int64) ||| ((x8.toInt64) &&& (255 : Int64))) ||| (((x9.toInt64) &&& (255 : Int64)) <<< ((8 : Int32) &&& 0x3f).toInt64)) ||| (((x10.toInt64) &&& (255 : Int64)) <<< ((16 : Int32) &&& 0x3f).toInt64)) ||| (((x11.toInt64) &&& (255 : Int64)) <<< ((24 : Int32) &&& 0x3f).toInt64)) ||| (((x12.toInt64) &&& (255 : Int64)) <<< ((32 : Int32) &&& 0x3f).toInt64)) ||| (((x13.toInt64) &&& (255 : Int64)) <<< ((40 : Int32) &&& 0x3f).toInt64)) ||| (((x14.toInt64) &&& (255 : Int64)) <<< ((48 : Int32) &&& 0x3f).toInt64))), .second] [])) _
  refine own_go (fun _ k => XS.lloadN X0.here hx rfl (hb hby d10_110) rfl k) ?_
  show own_G p e below (s₁.setTop (mkF m 111 #[.val (.ref a1), .val (.int (8 : Int32)), .val (.long ((((((((0 : Int64) ||| ((x8.toInt64) &&& (255 : Int64))) ||| (((x9.toInt64) &&& (255 : Int64)) <<< ((8 : Int32) &&& 0x3f).toInt64)) ||| (((x10.toInt64) &&& (255 : Int64)) <<< ((16 : Int32) &&& 0x3f).toInt64)) ||| (((x11.toInt64) &&& (255 : Int64)) <<< ((24 : Int32) &&& 0x3f).toInt64)) ||| (((x12.toInt64) &&& (255 : Int64)) <<< ((32 : Int32) &&& 0x3f).toInt64)) ||| (((x13.toInt64) &&& (255 : Int64)) <<< ((40 : Int32) &&& 0x3f).toInt64)) ||| (((x14.toInt64) &&& (255 : Int64)) <<< ((48 : Int32) &&& 0x3f).toInt64))), .second] [(.long ((((((((0 : Int64) ||| ((x8.toInt64) &&& (255 : Int64))) ||| (((x9.toInt64) &&& (255 : Int64)) <<< ((8 : Int32) &&& 0x3f).toInt64)) ||| (((x10.toInt64) &&& (255 : Int64)) <<< ((16 : Int32) &&& 0x3f).toInt64)) ||| (((x11.toInt64) &&& (255 : Int64)) <<< ((24 : Int32) &&& 0x3f).toInt64)) ||| (((x12.toInt64) &&& (255 : Int64)) <<< ((32 : Int32) &&& 0x3f).toInt64)) ||| (((x13.toInt64) &&& (255 : Int64)) <<< ((40 : Int32) &&& 0x3f).toInt64)) ||| (((x14.toInt64) &&& (255 : Int64)) <<< ((48 : Int32) &&& 0x3f).toInt64)))])) _
  refine own_go (fun _ k => XS.aloadN X0.here hx rfl (hb hby d10_111) rfl rfl k) ?_
  show own_G p e below (s₁.setTop (mkF m 112 #[.val (.ref a1), .val (.int (8 : Int32)), .val (.long ((((((((0 : Int64) ||| ((x8.toInt64) &&& (255 : Int64))) ||| (((x9.toInt64) &&& (255 : Int64)) <<< ((8 : Int32) &&& 0x3f).toInt64)) ||| (((x10.toInt64) &&& (255 : Int64)) <<< ((16 : Int32) &&& 0x3f).toInt64)) ||| (((x11.toInt64) &&& (255 : Int64)) <<< ((24 : Int32) &&& 0x3f).toInt64)) ||| (((x12.toInt64) &&& (255 : Int64)) <<< ((32 : Int32) &&& 0x3f).toInt64)) ||| (((x13.toInt64) &&& (255 : Int64)) <<< ((40 : Int32) &&& 0x3f).toInt64)) ||| (((x14.toInt64) &&& (255 : Int64)) <<< ((48 : Int32) &&& 0x3f).toInt64))), .second] [(.ref a1), (.long ((((((((0 : Int64) ||| ((x8.toInt64) &&& (255 : Int64))) ||| (((x9.toInt64) &&& (255 : Int64)) <<< ((8 : Int32) &&& 0x3f).toInt64)) ||| (((x10.toInt64) &&& (255 : Int64)) <<< ((16 : Int32) &&& 0x3f).toInt64)) ||| (((x11.toInt64) &&& (255 : Int64)) <<< ((24 : Int32) &&& 0x3f).toInt64)) ||| (((x12.toInt64) &&& (255 : Int64)) <<< ((32 : Int32) &&& 0x3f).toInt64)) ||| (((x13.toInt64) &&& (255 : Int64)) <<< ((40 : Int32) &&& 0x3f).toInt64)) ||| (((x14.toInt64) &&& (255 : Int64)) <<< ((48 : Int32) &&& 0x3f).toInt64)))])) _
  refine own_go (fun _ k => XS.iloadN X0.here hx rfl (hb hby d10_112) rfl k) ?_
  show own_G p e below (s₁.setTop (mkF m 113 #[.val (.ref a1), .val (.int (8 : Int32)), .val (.long ((((((((0 : Int64) ||| ((x8.toInt64) &&& (255 : Int64))) ||| (((x9.toInt64) &&& (255 : Int64)) <<< ((8 : Int32) &&& 0x3f).toInt64)) ||| (((x10.toInt64) &&& (255 : Int64)) <<< ((16 : Int32) &&& 0x3f).toInt64)) ||| (((x11.toInt64) &&& (255 : Int64)) <<< ((24 : Int32) &&& 0x3f).toInt64)) ||| (((x12.toInt64) &&& (255 : Int64)) <<< ((32 : Int32) &&& 0x3f).toInt64)) ||| (((x13.toInt64) &&& (255 : Int64)) <<< ((40 : Int32) &&& 0x3f).toInt64)) ||| (((x14.toInt64) &&& (255 : Int64)) <<< ((48 : Int32) &&& 0x3f).toInt64))), .second] [(.int (8 : Int32)), (.ref a1), (.long ((((((((0 : Int64) ||| ((x8.toInt64) &&& (255 : Int64))) ||| (((x9.toInt64) &&& (255 : Int64)) <<< ((8 : Int32) &&& 0x3f).toInt64)) ||| (((x10.toInt64) &&& (255 : Int64)) <<< ((16 : Int32) &&& 0x3f).toInt64)) ||| (((x11.toInt64) &&& (255 : Int64)) <<< ((24 : Int32) &&& 0x3f).toInt64)) ||| (((x12.toInt64) &&& (255 : Int64)) <<< ((32 : Int32) &&& 0x3f).toInt64)) ||| (((x13.toInt64) &&& (255 : Int64)) <<< ((40 : Int32) &&& 0x3f).toInt64)) ||| (((x14.toInt64) &&& (255 : Int64)) <<< ((48 : Int32) &&& 0x3f).toInt64)))])) _
  refine own_go (fun _ k => XS.bipush X0.here hx rfl (hb hby d10_113) k) ?_
  show own_G p e below (s₁.setTop (mkF m 115 #[.val (.ref a1), .val (.int (8 : Int32)), .val (.long ((((((((0 : Int64) ||| ((x8.toInt64) &&& (255 : Int64))) ||| (((x9.toInt64) &&& (255 : Int64)) <<< ((8 : Int32) &&& 0x3f).toInt64)) ||| (((x10.toInt64) &&& (255 : Int64)) <<< ((16 : Int32) &&& 0x3f).toInt64)) ||| (((x11.toInt64) &&& (255 : Int64)) <<< ((24 : Int32) &&& 0x3f).toInt64)) ||| (((x12.toInt64) &&& (255 : Int64)) <<< ((32 : Int32) &&& 0x3f).toInt64)) ||| (((x13.toInt64) &&& (255 : Int64)) <<< ((40 : Int32) &&& 0x3f).toInt64)) ||| (((x14.toInt64) &&& (255 : Int64)) <<< ((48 : Int32) &&& 0x3f).toInt64))), .second] [(.int (7 : Int32)), (.int (8 : Int32)), (.ref a1), (.long ((((((((0 : Int64) ||| ((x8.toInt64) &&& (255 : Int64))) ||| (((x9.toInt64) &&& (255 : Int64)) <<< ((8 : Int32) &&& 0x3f).toInt64)) ||| (((x10.toInt64) &&& (255 : Int64)) <<< ((16 : Int32) &&& 0x3f).toInt64)) ||| (((x11.toInt64) &&& (255 : Int64)) <<< ((24 : Int32) &&& 0x3f).toInt64)) ||| (((x12.toInt64) &&& (255 : Int64)) <<< ((32 : Int32) &&& 0x3f).toInt64)) ||| (((x13.toInt64) &&& (255 : Int64)) <<< ((40 : Int32) &&& 0x3f).toInt64)) ||| (((x14.toInt64) &&& (255 : Int64)) <<< ((48 : Int32) &&& 0x3f).toInt64)))])) _
  refine own_go (fun _ k => XS.iadd X0.here hx rfl (hb hby d10_115) rfl k) ?_
  show own_G p e below (s₁.setTop (mkF m 116 #[.val (.ref a1), .val (.int (8 : Int32)), .val (.long ((((((((0 : Int64) ||| ((x8.toInt64) &&& (255 : Int64))) ||| (((x9.toInt64) &&& (255 : Int64)) <<< ((8 : Int32) &&& 0x3f).toInt64)) ||| (((x10.toInt64) &&& (255 : Int64)) <<< ((16 : Int32) &&& 0x3f).toInt64)) ||| (((x11.toInt64) &&& (255 : Int64)) <<< ((24 : Int32) &&& 0x3f).toInt64)) ||| (((x12.toInt64) &&& (255 : Int64)) <<< ((32 : Int32) &&& 0x3f).toInt64)) ||| (((x13.toInt64) &&& (255 : Int64)) <<< ((40 : Int32) &&& 0x3f).toInt64)) ||| (((x14.toInt64) &&& (255 : Int64)) <<< ((48 : Int32) &&& 0x3f).toInt64))), .second] [(.int (15 : Int32)), (.ref a1), (.long ((((((((0 : Int64) ||| ((x8.toInt64) &&& (255 : Int64))) ||| (((x9.toInt64) &&& (255 : Int64)) <<< ((8 : Int32) &&& 0x3f).toInt64)) ||| (((x10.toInt64) &&& (255 : Int64)) <<< ((16 : Int32) &&& 0x3f).toInt64)) ||| (((x11.toInt64) &&& (255 : Int64)) <<< ((24 : Int32) &&& 0x3f).toInt64)) ||| (((x12.toInt64) &&& (255 : Int64)) <<< ((32 : Int32) &&& 0x3f).toInt64)) ||| (((x13.toInt64) &&& (255 : Int64)) <<< ((40 : Int32) &&& 0x3f).toInt64)) ||| (((x14.toInt64) &&& (255 : Int64)) <<< ((48 : Int32) &&& 0x3f).toInt64)))])) _
  obtain ⟨cl213, Ar213, q213, S213, M213, B213, G213⟩ := id V_a1
  have hin213 : ¬ ((15 : Int32) < 0 ∨ cl213.slots.size ≤ ((15 : Int32)).toNatClampNeg) := inb_of S213 ⟨by decide, by decide⟩
  have hat213 : cl213.slots[((15 : Int32)).toNatClampNeg]? = some (.int x15) := B213.at hin213 rfl
  refine own_go (X0.baloadBytes hx (j := (15 : Int32)) (v := (.int x15)) (by rw [e0]; exact Ar213.1) (State.isArrayOf_alike hZ.alike Ar213.2.1) Ar213.2.2 hin213 hat213 (g := (mkF m 116 #[.val (.ref a1), .val (.int (8 : Int32)), .val (.long ((((((((0 : Int64) ||| ((x8.toInt64) &&& (255 : Int64))) ||| (((x9.toInt64) &&& (255 : Int64)) <<< ((8 : Int32) &&& 0x3f).toInt64)) ||| (((x10.toInt64) &&& (255 : Int64)) <<< ((16 : Int32) &&& 0x3f).toInt64)) ||| (((x11.toInt64) &&& (255 : Int64)) <<< ((24 : Int32) &&& 0x3f).toInt64)) ||| (((x12.toInt64) &&& (255 : Int64)) <<< ((32 : Int32) &&& 0x3f).toInt64)) ||| (((x13.toInt64) &&& (255 : Int64)) <<< ((40 : Int32) &&& 0x3f).toInt64)) ||| (((x14.toInt64) &&& (255 : Int64)) <<< ((48 : Int32) &&& 0x3f).toInt64))), .second] [(.int (15 : Int32)), (.ref a1), (.long ((((((((0 : Int64) ||| ((x8.toInt64) &&& (255 : Int64))) ||| (((x9.toInt64) &&& (255 : Int64)) <<< ((8 : Int32) &&& 0x3f).toInt64)) ||| (((x10.toInt64) &&& (255 : Int64)) <<< ((16 : Int32) &&& 0x3f).toInt64)) ||| (((x11.toInt64) &&& (255 : Int64)) <<< ((24 : Int32) &&& 0x3f).toInt64)) ||| (((x12.toInt64) &&& (255 : Int64)) <<< ((32 : Int32) &&& 0x3f).toInt64)) ||| (((x13.toInt64) &&& (255 : Int64)) <<< ((40 : Int32) &&& 0x3f).toInt64)) ||| (((x14.toInt64) &&& (255 : Int64)) <<< ((48 : Int32) &&& 0x3f).toInt64)))])) rfl rfl (hb hby d10_116)) ?_
  show own_G p e below (s₁.setTop (mkF m 117 #[.val (.ref a1), .val (.int (8 : Int32)), .val (.long ((((((((0 : Int64) ||| ((x8.toInt64) &&& (255 : Int64))) ||| (((x9.toInt64) &&& (255 : Int64)) <<< ((8 : Int32) &&& 0x3f).toInt64)) ||| (((x10.toInt64) &&& (255 : Int64)) <<< ((16 : Int32) &&& 0x3f).toInt64)) ||| (((x11.toInt64) &&& (255 : Int64)) <<< ((24 : Int32) &&& 0x3f).toInt64)) ||| (((x12.toInt64) &&& (255 : Int64)) <<< ((32 : Int32) &&& 0x3f).toInt64)) ||| (((x13.toInt64) &&& (255 : Int64)) <<< ((40 : Int32) &&& 0x3f).toInt64)) ||| (((x14.toInt64) &&& (255 : Int64)) <<< ((48 : Int32) &&& 0x3f).toInt64))), .second] [(.int x15), (.long ((((((((0 : Int64) ||| ((x8.toInt64) &&& (255 : Int64))) ||| (((x9.toInt64) &&& (255 : Int64)) <<< ((8 : Int32) &&& 0x3f).toInt64)) ||| (((x10.toInt64) &&& (255 : Int64)) <<< ((16 : Int32) &&& 0x3f).toInt64)) ||| (((x11.toInt64) &&& (255 : Int64)) <<< ((24 : Int32) &&& 0x3f).toInt64)) ||| (((x12.toInt64) &&& (255 : Int64)) <<< ((32 : Int32) &&& 0x3f).toInt64)) ||| (((x13.toInt64) &&& (255 : Int64)) <<< ((40 : Int32) &&& 0x3f).toInt64)) ||| (((x14.toInt64) &&& (255 : Int64)) <<< ((48 : Int32) &&& 0x3f).toInt64)))])) _
  refine own_go (fun _ k => XS.i2l X0.here hx rfl (hb hby d10_117) rfl k) ?_
  show own_G p e below (s₁.setTop (mkF m 118 #[.val (.ref a1), .val (.int (8 : Int32)), .val (.long ((((((((0 : Int64) ||| ((x8.toInt64) &&& (255 : Int64))) ||| (((x9.toInt64) &&& (255 : Int64)) <<< ((8 : Int32) &&& 0x3f).toInt64)) ||| (((x10.toInt64) &&& (255 : Int64)) <<< ((16 : Int32) &&& 0x3f).toInt64)) ||| (((x11.toInt64) &&& (255 : Int64)) <<< ((24 : Int32) &&& 0x3f).toInt64)) ||| (((x12.toInt64) &&& (255 : Int64)) <<< ((32 : Int32) &&& 0x3f).toInt64)) ||| (((x13.toInt64) &&& (255 : Int64)) <<< ((40 : Int32) &&& 0x3f).toInt64)) ||| (((x14.toInt64) &&& (255 : Int64)) <<< ((48 : Int32) &&& 0x3f).toInt64))), .second] [(.long (x15.toInt64)), (.long ((((((((0 : Int64) ||| ((x8.toInt64) &&& (255 : Int64))) ||| (((x9.toInt64) &&& (255 : Int64)) <<< ((8 : Int32) &&& 0x3f).toInt64)) ||| (((x10.toInt64) &&& (255 : Int64)) <<< ((16 : Int32) &&& 0x3f).toInt64)) ||| (((x11.toInt64) &&& (255 : Int64)) <<< ((24 : Int32) &&& 0x3f).toInt64)) ||| (((x12.toInt64) &&& (255 : Int64)) <<< ((32 : Int32) &&& 0x3f).toInt64)) ||| (((x13.toInt64) &&& (255 : Int64)) <<< ((40 : Int32) &&& 0x3f).toInt64)) ||| (((x14.toInt64) &&& (255 : Int64)) <<< ((48 : Int32) &&& 0x3f).toInt64)))])) _
  refine own_go (X0.ldc2Long hx hown (mvT hZ (hw _ (List.mem_of_getElem? (i := 62) rfl))) (g := (mkF m 118 #[.val (.ref a1), .val (.int (8 : Int32)), .val (.long ((((((((0 : Int64) ||| ((x8.toInt64) &&& (255 : Int64))) ||| (((x9.toInt64) &&& (255 : Int64)) <<< ((8 : Int32) &&& 0x3f).toInt64)) ||| (((x10.toInt64) &&& (255 : Int64)) <<< ((16 : Int32) &&& 0x3f).toInt64)) ||| (((x11.toInt64) &&& (255 : Int64)) <<< ((24 : Int32) &&& 0x3f).toInt64)) ||| (((x12.toInt64) &&& (255 : Int64)) <<< ((32 : Int32) &&& 0x3f).toInt64)) ||| (((x13.toInt64) &&& (255 : Int64)) <<< ((40 : Int32) &&& 0x3f).toInt64)) ||| (((x14.toInt64) &&& (255 : Int64)) <<< ((48 : Int32) &&& 0x3f).toInt64))), .second] [(.long (x15.toInt64)), (.long ((((((((0 : Int64) ||| ((x8.toInt64) &&& (255 : Int64))) ||| (((x9.toInt64) &&& (255 : Int64)) <<< ((8 : Int32) &&& 0x3f).toInt64)) ||| (((x10.toInt64) &&& (255 : Int64)) <<< ((16 : Int32) &&& 0x3f).toInt64)) ||| (((x11.toInt64) &&& (255 : Int64)) <<< ((24 : Int32) &&& 0x3f).toInt64)) ||| (((x12.toInt64) &&& (255 : Int64)) <<< ((32 : Int32) &&& 0x3f).toInt64)) ||| (((x13.toInt64) &&& (255 : Int64)) <<< ((40 : Int32) &&& 0x3f).toInt64)) ||| (((x14.toInt64) &&& (255 : Int64)) <<< ((48 : Int32) &&& 0x3f).toInt64)))])) rfl (hb hby d10_118)) ?_
  show own_G p e below (s₁.setTop (mkF m 121 #[.val (.ref a1), .val (.int (8 : Int32)), .val (.long ((((((((0 : Int64) ||| ((x8.toInt64) &&& (255 : Int64))) ||| (((x9.toInt64) &&& (255 : Int64)) <<< ((8 : Int32) &&& 0x3f).toInt64)) ||| (((x10.toInt64) &&& (255 : Int64)) <<< ((16 : Int32) &&& 0x3f).toInt64)) ||| (((x11.toInt64) &&& (255 : Int64)) <<< ((24 : Int32) &&& 0x3f).toInt64)) ||| (((x12.toInt64) &&& (255 : Int64)) <<< ((32 : Int32) &&& 0x3f).toInt64)) ||| (((x13.toInt64) &&& (255 : Int64)) <<< ((40 : Int32) &&& 0x3f).toInt64)) ||| (((x14.toInt64) &&& (255 : Int64)) <<< ((48 : Int32) &&& 0x3f).toInt64))), .second] [(.long (255 : Int64)), (.long (x15.toInt64)), (.long ((((((((0 : Int64) ||| ((x8.toInt64) &&& (255 : Int64))) ||| (((x9.toInt64) &&& (255 : Int64)) <<< ((8 : Int32) &&& 0x3f).toInt64)) ||| (((x10.toInt64) &&& (255 : Int64)) <<< ((16 : Int32) &&& 0x3f).toInt64)) ||| (((x11.toInt64) &&& (255 : Int64)) <<< ((24 : Int32) &&& 0x3f).toInt64)) ||| (((x12.toInt64) &&& (255 : Int64)) <<< ((32 : Int32) &&& 0x3f).toInt64)) ||| (((x13.toInt64) &&& (255 : Int64)) <<< ((40 : Int32) &&& 0x3f).toInt64)) ||| (((x14.toInt64) &&& (255 : Int64)) <<< ((48 : Int32) &&& 0x3f).toInt64)))])) _
  refine own_go (fun _ k => XS.land X0.here hx rfl (hb hby d10_121) rfl k) ?_
  show own_G p e below (s₁.setTop (mkF m 122 #[.val (.ref a1), .val (.int (8 : Int32)), .val (.long ((((((((0 : Int64) ||| ((x8.toInt64) &&& (255 : Int64))) ||| (((x9.toInt64) &&& (255 : Int64)) <<< ((8 : Int32) &&& 0x3f).toInt64)) ||| (((x10.toInt64) &&& (255 : Int64)) <<< ((16 : Int32) &&& 0x3f).toInt64)) ||| (((x11.toInt64) &&& (255 : Int64)) <<< ((24 : Int32) &&& 0x3f).toInt64)) ||| (((x12.toInt64) &&& (255 : Int64)) <<< ((32 : Int32) &&& 0x3f).toInt64)) ||| (((x13.toInt64) &&& (255 : Int64)) <<< ((40 : Int32) &&& 0x3f).toInt64)) ||| (((x14.toInt64) &&& (255 : Int64)) <<< ((48 : Int32) &&& 0x3f).toInt64))), .second] [(.long ((x15.toInt64) &&& (255 : Int64))), (.long ((((((((0 : Int64) ||| ((x8.toInt64) &&& (255 : Int64))) ||| (((x9.toInt64) &&& (255 : Int64)) <<< ((8 : Int32) &&& 0x3f).toInt64)) ||| (((x10.toInt64) &&& (255 : Int64)) <<< ((16 : Int32) &&& 0x3f).toInt64)) ||| (((x11.toInt64) &&& (255 : Int64)) <<< ((24 : Int32) &&& 0x3f).toInt64)) ||| (((x12.toInt64) &&& (255 : Int64)) <<< ((32 : Int32) &&& 0x3f).toInt64)) ||| (((x13.toInt64) &&& (255 : Int64)) <<< ((40 : Int32) &&& 0x3f).toInt64)) ||| (((x14.toInt64) &&& (255 : Int64)) <<< ((48 : Int32) &&& 0x3f).toInt64)))])) _
  refine own_go (fun _ k => XS.bipush X0.here hx rfl (hb hby d10_122) k) ?_
  show own_G p e below (s₁.setTop (mkF m 124 #[.val (.ref a1), .val (.int (8 : Int32)), .val (.long ((((((((0 : Int64) ||| ((x8.toInt64) &&& (255 : Int64))) ||| (((x9.toInt64) &&& (255 : Int64)) <<< ((8 : Int32) &&& 0x3f).toInt64)) ||| (((x10.toInt64) &&& (255 : Int64)) <<< ((16 : Int32) &&& 0x3f).toInt64)) ||| (((x11.toInt64) &&& (255 : Int64)) <<< ((24 : Int32) &&& 0x3f).toInt64)) ||| (((x12.toInt64) &&& (255 : Int64)) <<< ((32 : Int32) &&& 0x3f).toInt64)) ||| (((x13.toInt64) &&& (255 : Int64)) <<< ((40 : Int32) &&& 0x3f).toInt64)) ||| (((x14.toInt64) &&& (255 : Int64)) <<< ((48 : Int32) &&& 0x3f).toInt64))), .second] [(.int (56 : Int32)), (.long ((x15.toInt64) &&& (255 : Int64))), (.long ((((((((0 : Int64) ||| ((x8.toInt64) &&& (255 : Int64))) ||| (((x9.toInt64) &&& (255 : Int64)) <<< ((8 : Int32) &&& 0x3f).toInt64)) ||| (((x10.toInt64) &&& (255 : Int64)) <<< ((16 : Int32) &&& 0x3f).toInt64)) ||| (((x11.toInt64) &&& (255 : Int64)) <<< ((24 : Int32) &&& 0x3f).toInt64)) ||| (((x12.toInt64) &&& (255 : Int64)) <<< ((32 : Int32) &&& 0x3f).toInt64)) ||| (((x13.toInt64) &&& (255 : Int64)) <<< ((40 : Int32) &&& 0x3f).toInt64)) ||| (((x14.toInt64) &&& (255 : Int64)) <<< ((48 : Int32) &&& 0x3f).toInt64)))])) _
  refine own_go (fun _ k => XS.lshl X0.here hx rfl (hb hby d10_124) rfl k) ?_
  show own_G p e below (s₁.setTop (mkF m 125 #[.val (.ref a1), .val (.int (8 : Int32)), .val (.long ((((((((0 : Int64) ||| ((x8.toInt64) &&& (255 : Int64))) ||| (((x9.toInt64) &&& (255 : Int64)) <<< ((8 : Int32) &&& 0x3f).toInt64)) ||| (((x10.toInt64) &&& (255 : Int64)) <<< ((16 : Int32) &&& 0x3f).toInt64)) ||| (((x11.toInt64) &&& (255 : Int64)) <<< ((24 : Int32) &&& 0x3f).toInt64)) ||| (((x12.toInt64) &&& (255 : Int64)) <<< ((32 : Int32) &&& 0x3f).toInt64)) ||| (((x13.toInt64) &&& (255 : Int64)) <<< ((40 : Int32) &&& 0x3f).toInt64)) ||| (((x14.toInt64) &&& (255 : Int64)) <<< ((48 : Int32) &&& 0x3f).toInt64))), .second] [(.long (((x15.toInt64) &&& (255 : Int64)) <<< ((56 : Int32) &&& 0x3f).toInt64)), (.long ((((((((0 : Int64) ||| ((x8.toInt64) &&& (255 : Int64))) ||| (((x9.toInt64) &&& (255 : Int64)) <<< ((8 : Int32) &&& 0x3f).toInt64)) ||| (((x10.toInt64) &&& (255 : Int64)) <<< ((16 : Int32) &&& 0x3f).toInt64)) ||| (((x11.toInt64) &&& (255 : Int64)) <<< ((24 : Int32) &&& 0x3f).toInt64)) ||| (((x12.toInt64) &&& (255 : Int64)) <<< ((32 : Int32) &&& 0x3f).toInt64)) ||| (((x13.toInt64) &&& (255 : Int64)) <<< ((40 : Int32) &&& 0x3f).toInt64)) ||| (((x14.toInt64) &&& (255 : Int64)) <<< ((48 : Int32) &&& 0x3f).toInt64)))])) _
  refine own_go (fun _ k => XS.lor X0.here hx rfl (hb hby d10_125) rfl k) ?_
  show own_G p e below (s₁.setTop (mkF m 126 #[.val (.ref a1), .val (.int (8 : Int32)), .val (.long ((((((((0 : Int64) ||| ((x8.toInt64) &&& (255 : Int64))) ||| (((x9.toInt64) &&& (255 : Int64)) <<< ((8 : Int32) &&& 0x3f).toInt64)) ||| (((x10.toInt64) &&& (255 : Int64)) <<< ((16 : Int32) &&& 0x3f).toInt64)) ||| (((x11.toInt64) &&& (255 : Int64)) <<< ((24 : Int32) &&& 0x3f).toInt64)) ||| (((x12.toInt64) &&& (255 : Int64)) <<< ((32 : Int32) &&& 0x3f).toInt64)) ||| (((x13.toInt64) &&& (255 : Int64)) <<< ((40 : Int32) &&& 0x3f).toInt64)) ||| (((x14.toInt64) &&& (255 : Int64)) <<< ((48 : Int32) &&& 0x3f).toInt64))), .second] [(.long (((((((((0 : Int64) ||| ((x8.toInt64) &&& (255 : Int64))) ||| (((x9.toInt64) &&& (255 : Int64)) <<< ((8 : Int32) &&& 0x3f).toInt64)) ||| (((x10.toInt64) &&& (255 : Int64)) <<< ((16 : Int32) &&& 0x3f).toInt64)) ||| (((x11.toInt64) &&& (255 : Int64)) <<< ((24 : Int32) &&& 0x3f).toInt64)) ||| (((x12.toInt64) &&& (255 : Int64)) <<< ((32 : Int32) &&& 0x3f).toInt64)) ||| (((x13.toInt64) &&& (255 : Int64)) <<< ((40 : Int32) &&& 0x3f).toInt64)) ||| (((x14.toInt64) &&& (255 : Int64)) <<< ((48 : Int32) &&& 0x3f).toInt64)) ||| (((x15.toInt64) &&& (255 : Int64)) <<< ((56 : Int32) &&& 0x3f).toInt64)))])) _
  refine own_go (fun _ k => XS.lstoreN X0.here hx rfl (hb hby d10_126) rfl (l' := #[.val (.ref a1), .val (.int (8 : Int32)), .val (.long (((((((((0 : Int64) ||| ((x8.toInt64) &&& (255 : Int64))) ||| (((x9.toInt64) &&& (255 : Int64)) <<< ((8 : Int32) &&& 0x3f).toInt64)) ||| (((x10.toInt64) &&& (255 : Int64)) <<< ((16 : Int32) &&& 0x3f).toInt64)) ||| (((x11.toInt64) &&& (255 : Int64)) <<< ((24 : Int32) &&& 0x3f).toInt64)) ||| (((x12.toInt64) &&& (255 : Int64)) <<< ((32 : Int32) &&& 0x3f).toInt64)) ||| (((x13.toInt64) &&& (255 : Int64)) <<< ((40 : Int32) &&& 0x3f).toInt64)) ||| (((x14.toInt64) &&& (255 : Int64)) <<< ((48 : Int32) &&& 0x3f).toInt64)) ||| (((x15.toInt64) &&& (255 : Int64)) <<< ((56 : Int32) &&& 0x3f).toInt64))), .second]) rfl k) ?_
  show own_G p e below (s₁.setTop (mkF m 127 #[.val (.ref a1), .val (.int (8 : Int32)), .val (.long (((((((((0 : Int64) ||| ((x8.toInt64) &&& (255 : Int64))) ||| (((x9.toInt64) &&& (255 : Int64)) <<< ((8 : Int32) &&& 0x3f).toInt64)) ||| (((x10.toInt64) &&& (255 : Int64)) <<< ((16 : Int32) &&& 0x3f).toInt64)) ||| (((x11.toInt64) &&& (255 : Int64)) <<< ((24 : Int32) &&& 0x3f).toInt64)) ||| (((x12.toInt64) &&& (255 : Int64)) <<< ((32 : Int32) &&& 0x3f).toInt64)) ||| (((x13.toInt64) &&& (255 : Int64)) <<< ((40 : Int32) &&& 0x3f).toInt64)) ||| (((x14.toInt64) &&& (255 : Int64)) <<< ((48 : Int32) &&& 0x3f).toInt64)) ||| (((x15.toInt64) &&& (255 : Int64)) <<< ((56 : Int32) &&& 0x3f).toInt64))), .second] [])) _
  refine own_go (fun _ k => XS.lloadN X0.here hx rfl (hb hby d10_127) rfl k) ?_
  show own_G p e below (s₁.setTop (mkF m 128 #[.val (.ref a1), .val (.int (8 : Int32)), .val (.long (((((((((0 : Int64) ||| ((x8.toInt64) &&& (255 : Int64))) ||| (((x9.toInt64) &&& (255 : Int64)) <<< ((8 : Int32) &&& 0x3f).toInt64)) ||| (((x10.toInt64) &&& (255 : Int64)) <<< ((16 : Int32) &&& 0x3f).toInt64)) ||| (((x11.toInt64) &&& (255 : Int64)) <<< ((24 : Int32) &&& 0x3f).toInt64)) ||| (((x12.toInt64) &&& (255 : Int64)) <<< ((32 : Int32) &&& 0x3f).toInt64)) ||| (((x13.toInt64) &&& (255 : Int64)) <<< ((40 : Int32) &&& 0x3f).toInt64)) ||| (((x14.toInt64) &&& (255 : Int64)) <<< ((48 : Int32) &&& 0x3f).toInt64)) ||| (((x15.toInt64) &&& (255 : Int64)) <<< ((56 : Int32) &&& 0x3f).toInt64))), .second] [(.long (((((((((0 : Int64) ||| ((x8.toInt64) &&& (255 : Int64))) ||| (((x9.toInt64) &&& (255 : Int64)) <<< ((8 : Int32) &&& 0x3f).toInt64)) ||| (((x10.toInt64) &&& (255 : Int64)) <<< ((16 : Int32) &&& 0x3f).toInt64)) ||| (((x11.toInt64) &&& (255 : Int64)) <<< ((24 : Int32) &&& 0x3f).toInt64)) ||| (((x12.toInt64) &&& (255 : Int64)) <<< ((32 : Int32) &&& 0x3f).toInt64)) ||| (((x13.toInt64) &&& (255 : Int64)) <<< ((40 : Int32) &&& 0x3f).toInt64)) ||| (((x14.toInt64) &&& (255 : Int64)) <<< ((48 : Int32) &&& 0x3f).toInt64)) ||| (((x15.toInt64) &&& (255 : Int64)) <<< ((56 : Int32) &&& 0x3f).toInt64)))])) _
  refine own_ret X0 hlk (v := some (.long (((((((((0 : Int64) ||| ((x8.toInt64) &&& (255 : Int64))) ||| (((x9.toInt64) &&& (255 : Int64)) <<< ((8 : Int32) &&& 0x3f).toInt64)) ||| (((x10.toInt64) &&& (255 : Int64)) <<< ((16 : Int32) &&& 0x3f).toInt64)) ||| (((x11.toInt64) &&& (255 : Int64)) <<< ((24 : Int32) &&& 0x3f).toInt64)) ||| (((x12.toInt64) &&& (255 : Int64)) <<< ((32 : Int32) &&& 0x3f).toInt64)) ||| (((x13.toInt64) &&& (255 : Int64)) <<< ((40 : Int32) &&& 0x3f).toInt64)) ||| (((x14.toInt64) &&& (255 : Int64)) <<< ((48 : Int32) &&& 0x3f).toInt64)) ||| (((x15.toInt64) &&& (255 : Int64)) <<< ((56 : Int32) &&& 0x3f).toInt64)))) (fun h => by rw [hret] at h; cases h) (Q10_16_8 Z a1 k1 x0 x1 x2 x3 x4 x5 x6 x7 x8 x9 x10 x11 x12 x13 x14 x15 h0 n0) (own_retI X0 hx (t := .long) hret rfl (Or.inr (Or.inl ⟨rfl, rfl, _, rfl⟩)) (hb hby d10_128)) (by decide) (by decide) ?_
  show Q10_16_8 Z a1 k1 x0 x1 x2 x3 x4 x5 x6 x7 x8 x9 x10 x11 x12 x13 x14 x15 h0 n0 _ s₁.heap _
  rw [e0]
  exact ⟨rfl, N0, rfl⟩
def Q10_17_0 (Z : State) (a1 : Addr) (k1 : ClassId) (x0 x1 x2 x3 x4 x5 x6 x7 x8 x9 x10 x11 x12 x13 x14 x15 x16 : Int32) (h0 : Heap) (n0 : Nat) (v : Option Value) (h : Heap) (L : List Loc) : Prop := v = some (.long (own_le8 x0 x1 x2 x3 x4 x5 x6 x7)) ∧ Fr n0 L ∧ h = h0
set_option maxRecDepth 65536 in
set_option maxHeartbeats 40000000 in
theorem rm10_17_0 (l : Launch) (Z : State) (a0 : Array Value) (hw : ∀ d ∈ tables_1, d.before a0 Z = true) (ws : List Jvm.Cond) (a1 : Addr) (k1 : ClassId) (x0 x1 x2 x3 x4 x5 x6 x7 x8 x9 x10 x11 x12 x13 x14 x15 x16 : Int32) (h0 : Heap) (n0 : Nat) (Z0 : n0 ≤ h0.size) (V_a1 : Arv Z h0 a1 k1 .byte (17 : Int32) [(.int x0), (.int x1), (.int x2), (.int x3), (.int x4), (.int x5), (.int x6), (.int x7), (.int x8), (.int x9), (.int x10), (.int x11), (.int x12), (.int x13), (.int x14), (.int x15), (.int x16)] (.int (0 : Int32))) :
    MetFree l (⟨"com/example/bitfold/bitfold/ByteArrayWriterToByteArrayPinLaw", "le8", "([BI)J"⟩ : MethodName) (head1 (Jvm.Cond.code (⟨"com/example/bitfold/bitfold/ByteArrayWriterToByteArrayPinLaw", "le8", "([BI)J"⟩ : MethodName) method_2_code 4 (some .long) :: ws) ({ frames := 0, cells := 0, slots := 0, locals := 0 } : Room)) (fun a U => a = #[(.ref a1), (.int (0 : Int32))] ∧ Z.Warmed39 U.vm ∧ U.heap = h0) (fun _ _ _ _ _ => True) (fun _ U o U' => ∃ v L, o = .returned v ∧ Q10_17_0 Z a1 k1 x0 x1 x2 x3 x4 x5 x6 x7 x8 x9 x10 x11 x12 x13 x14 x15 x16 h0 n0 v U'.heap L ∧ FrameEnd U o U' L ({ frames := 0, cells := 0, slots := 0, locals := 0 } : Room).cells ({ frames := 0, cells := 0, slots := 0, locals := 0 } : Room).slots) := by
  refine MetFree.of_bodySF (plainFor_of_name pn_10) hisR ?_
  intro p e s m args below meth c s₁ Bd hml0 hP hK
  obtain ⟨rfl, hZ, hh⟩ := hP
  have hx := Bd.exec
  have hby := Bd.bytes
  have hml : c.maxLocals = 4 := hml0
  have hown : s.vm.findClass "com/example/bitfold/bitfold/ByteArrayWriterToByteArrayPinLaw" = some m.cls := findClass_of_methodNamed Bd.named
  have hnm := (name_of_methodNamed Bd.named Bd.method).1
  have hlk := Bd.notSynchronized
  have hret := Bd.returns
  have X0 : Stand p l e ({ frames := 0, cells := 0, slots := 0, locals := 0 } : Room) s m #[(.ref a1), (.int (0 : Int32))] below meth c s₁ [] 0 0 := Stand.of_body Bd
  have e0 : s₁.heap = h0 := by rw [← hh, Bd.state]; rfl
  have N0 := Fr.nil n0
  show own_G p e below (s₁.setTop (entryFrame m #[(.ref a1), (.int (0 : Int32))] 4)) (fun s₂ o => ∃ v L, o = .returned v ∧ Q10_17_0 Z a1 k1 x0 x1 x2 x3 x4 x5 x6 x7 x8 x9 x10 x11 x12 x13 x14 x15 x16 h0 n0 v s₂.heap L ∧ FrameEnd s o s₂ L ({ frames := 0, cells := 0, slots := 0, locals := 0 } : Room).cells ({ frames := 0, cells := 0, slots := 0, locals := 0 } : Room).slots)
  refine own_go (fun t k => castTop (ef_10 m a1 (0 : Int32)) k) ?_
  show own_G p e below (s₁.setTop (mkF m 0 #[.val (.ref a1), .val (.int (0 : Int32)), .unset, .unset] [])) _
  refine own_go (fun _ k => XS.lconst X0.here hx rfl (hb hby d10_0) k) ?_
  show own_G p e below (s₁.setTop (mkF m 1 #[.val (.ref a1), .val (.int (0 : Int32)), .unset, .unset] [(.long (0 : Int64))])) _
  refine own_go (fun _ k => XS.lstoreN X0.here hx rfl (hb hby d10_1) rfl (l' := #[.val (.ref a1), .val (.int (0 : Int32)), .val (.long (0 : Int64)), .second]) rfl k) ?_
  show own_G p e below (s₁.setTop (mkF m 2 #[.val (.ref a1), .val (.int (0 : Int32)), .val (.long (0 : Int64)), .second] [])) _
  refine own_go (fun _ k => XS.lloadN X0.here hx rfl (hb hby d10_2) rfl k) ?_
  show own_G p e below (s₁.setTop (mkF m 3 #[.val (.ref a1), .val (.int (0 : Int32)), .val (.long (0 : Int64)), .second] [(.long (0 : Int64))])) _
  refine own_go (fun _ k => XS.aloadN X0.here hx rfl (hb hby d10_3) rfl rfl k) ?_
  show own_G p e below (s₁.setTop (mkF m 4 #[.val (.ref a1), .val (.int (0 : Int32)), .val (.long (0 : Int64)), .second] [(.ref a1), (.long (0 : Int64))])) _
  refine own_go (fun _ k => XS.iloadN X0.here hx rfl (hb hby d10_4) rfl k) ?_
  show own_G p e below (s₁.setTop (mkF m 5 #[.val (.ref a1), .val (.int (0 : Int32)), .val (.long (0 : Int64)), .second] [(.int (0 : Int32)), (.ref a1), (.long (0 : Int64))])) _
  obtain ⟨cl214, Ar214, q214, S214, M214, B214, G214⟩ := id V_a1
  have hin214 : ¬ ((0 : Int32) < 0 ∨ cl214.slots.size ≤ ((0 : Int32)).toNatClampNeg) := inb_of S214 ⟨by decide, by decide⟩
  have hat214 : cl214.slots[((0 : Int32)).toNatClampNeg]? = some (.int x0) := B214.at hin214 rfl
  refine own_go (X0.baloadBytes hx (j := (0 : Int32)) (v := (.int x0)) (by rw [e0]; exact Ar214.1) (State.isArrayOf_alike hZ.alike Ar214.2.1) Ar214.2.2 hin214 hat214 (g := (mkF m 5 #[.val (.ref a1), .val (.int (0 : Int32)), .val (.long (0 : Int64)), .second] [(.int (0 : Int32)), (.ref a1), (.long (0 : Int64))])) rfl rfl (hb hby d10_5)) ?_
  show own_G p e below (s₁.setTop (mkF m 6 #[.val (.ref a1), .val (.int (0 : Int32)), .val (.long (0 : Int64)), .second] [(.int x0), (.long (0 : Int64))])) _
  refine own_go (fun _ k => XS.i2l X0.here hx rfl (hb hby d10_6) rfl k) ?_
  show own_G p e below (s₁.setTop (mkF m 7 #[.val (.ref a1), .val (.int (0 : Int32)), .val (.long (0 : Int64)), .second] [(.long (x0.toInt64)), (.long (0 : Int64))])) _
  refine own_go (X0.ldc2Long hx hown (mvT hZ (hw _ (List.mem_of_getElem? (i := 62) rfl))) (g := (mkF m 7 #[.val (.ref a1), .val (.int (0 : Int32)), .val (.long (0 : Int64)), .second] [(.long (x0.toInt64)), (.long (0 : Int64))])) rfl (hb hby d10_7)) ?_
  show own_G p e below (s₁.setTop (mkF m 10 #[.val (.ref a1), .val (.int (0 : Int32)), .val (.long (0 : Int64)), .second] [(.long (255 : Int64)), (.long (x0.toInt64)), (.long (0 : Int64))])) _
  refine own_go (fun _ k => XS.land X0.here hx rfl (hb hby d10_10) rfl k) ?_
  show own_G p e below (s₁.setTop (mkF m 11 #[.val (.ref a1), .val (.int (0 : Int32)), .val (.long (0 : Int64)), .second] [(.long ((x0.toInt64) &&& (255 : Int64))), (.long (0 : Int64))])) _
  refine own_go (fun _ k => XS.lor X0.here hx rfl (hb hby d10_11) rfl k) ?_
  show own_G p e below (s₁.setTop (mkF m 12 #[.val (.ref a1), .val (.int (0 : Int32)), .val (.long (0 : Int64)), .second] [(.long ((0 : Int64) ||| ((x0.toInt64) &&& (255 : Int64))))])) _
  refine own_go (fun _ k => XS.lstoreN X0.here hx rfl (hb hby d10_12) rfl (l' := #[.val (.ref a1), .val (.int (0 : Int32)), .val (.long ((0 : Int64) ||| ((x0.toInt64) &&& (255 : Int64)))), .second]) rfl k) ?_
  show own_G p e below (s₁.setTop (mkF m 13 #[.val (.ref a1), .val (.int (0 : Int32)), .val (.long ((0 : Int64) ||| ((x0.toInt64) &&& (255 : Int64)))), .second] [])) _
  refine own_go (fun _ k => XS.lloadN X0.here hx rfl (hb hby d10_13) rfl k) ?_
  show own_G p e below (s₁.setTop (mkF m 14 #[.val (.ref a1), .val (.int (0 : Int32)), .val (.long ((0 : Int64) ||| ((x0.toInt64) &&& (255 : Int64)))), .second] [(.long ((0 : Int64) ||| ((x0.toInt64) &&& (255 : Int64))))])) _
  refine own_go (fun _ k => XS.aloadN X0.here hx rfl (hb hby d10_14) rfl rfl k) ?_
  show own_G p e below (s₁.setTop (mkF m 15 #[.val (.ref a1), .val (.int (0 : Int32)), .val (.long ((0 : Int64) ||| ((x0.toInt64) &&& (255 : Int64)))), .second] [(.ref a1), (.long ((0 : Int64) ||| ((x0.toInt64) &&& (255 : Int64))))])) _
  refine own_go (fun _ k => XS.iloadN X0.here hx rfl (hb hby d10_15) rfl k) ?_
  show own_G p e below (s₁.setTop (mkF m 16 #[.val (.ref a1), .val (.int (0 : Int32)), .val (.long ((0 : Int64) ||| ((x0.toInt64) &&& (255 : Int64)))), .second] [(.int (0 : Int32)), (.ref a1), (.long ((0 : Int64) ||| ((x0.toInt64) &&& (255 : Int64))))])) _
  refine own_go (fun _ k => XS.iconst X0.here hx rfl (hb hby d10_16) k) ?_
  show own_G p e below (s₁.setTop (mkF m 17 #[.val (.ref a1), .val (.int (0 : Int32)), .val (.long ((0 : Int64) ||| ((x0.toInt64) &&& (255 : Int64)))), .second] [(.int (1 : Int32)), (.int (0 : Int32)), (.ref a1), (.long ((0 : Int64) ||| ((x0.toInt64) &&& (255 : Int64))))])) _
  refine own_go (fun _ k => XS.iadd X0.here hx rfl (hb hby d10_17) rfl k) ?_
  show own_G p e below (s₁.setTop (mkF m 18 #[.val (.ref a1), .val (.int (0 : Int32)), .val (.long ((0 : Int64) ||| ((x0.toInt64) &&& (255 : Int64)))), .second] [(.int (1 : Int32)), (.ref a1), (.long ((0 : Int64) ||| ((x0.toInt64) &&& (255 : Int64))))])) _
  obtain ⟨cl215, Ar215, q215, S215, M215, B215, G215⟩ := id V_a1
  have hin215 : ¬ ((1 : Int32) < 0 ∨ cl215.slots.size ≤ ((1 : Int32)).toNatClampNeg) := inb_of S215 ⟨by decide, by decide⟩
  have hat215 : cl215.slots[((1 : Int32)).toNatClampNeg]? = some (.int x1) := B215.at hin215 rfl
  refine own_go (X0.baloadBytes hx (j := (1 : Int32)) (v := (.int x1)) (by rw [e0]; exact Ar215.1) (State.isArrayOf_alike hZ.alike Ar215.2.1) Ar215.2.2 hin215 hat215 (g := (mkF m 18 #[.val (.ref a1), .val (.int (0 : Int32)), .val (.long ((0 : Int64) ||| ((x0.toInt64) &&& (255 : Int64)))), .second] [(.int (1 : Int32)), (.ref a1), (.long ((0 : Int64) ||| ((x0.toInt64) &&& (255 : Int64))))])) rfl rfl (hb hby d10_18)) ?_
  show own_G p e below (s₁.setTop (mkF m 19 #[.val (.ref a1), .val (.int (0 : Int32)), .val (.long ((0 : Int64) ||| ((x0.toInt64) &&& (255 : Int64)))), .second] [(.int x1), (.long ((0 : Int64) ||| ((x0.toInt64) &&& (255 : Int64))))])) _
  refine own_go (fun _ k => XS.i2l X0.here hx rfl (hb hby d10_19) rfl k) ?_
  show own_G p e below (s₁.setTop (mkF m 20 #[.val (.ref a1), .val (.int (0 : Int32)), .val (.long ((0 : Int64) ||| ((x0.toInt64) &&& (255 : Int64)))), .second] [(.long (x1.toInt64)), (.long ((0 : Int64) ||| ((x0.toInt64) &&& (255 : Int64))))])) _
  refine own_go (X0.ldc2Long hx hown (mvT hZ (hw _ (List.mem_of_getElem? (i := 62) rfl))) (g := (mkF m 20 #[.val (.ref a1), .val (.int (0 : Int32)), .val (.long ((0 : Int64) ||| ((x0.toInt64) &&& (255 : Int64)))), .second] [(.long (x1.toInt64)), (.long ((0 : Int64) ||| ((x0.toInt64) &&& (255 : Int64))))])) rfl (hb hby d10_20)) ?_
  show own_G p e below (s₁.setTop (mkF m 23 #[.val (.ref a1), .val (.int (0 : Int32)), .val (.long ((0 : Int64) ||| ((x0.toInt64) &&& (255 : Int64)))), .second] [(.long (255 : Int64)), (.long (x1.toInt64)), (.long ((0 : Int64) ||| ((x0.toInt64) &&& (255 : Int64))))])) _
  refine own_go (fun _ k => XS.land X0.here hx rfl (hb hby d10_23) rfl k) ?_
  show own_G p e below (s₁.setTop (mkF m 24 #[.val (.ref a1), .val (.int (0 : Int32)), .val (.long ((0 : Int64) ||| ((x0.toInt64) &&& (255 : Int64)))), .second] [(.long ((x1.toInt64) &&& (255 : Int64))), (.long ((0 : Int64) ||| ((x0.toInt64) &&& (255 : Int64))))])) _
  refine own_go (fun _ k => XS.bipush X0.here hx rfl (hb hby d10_24) k) ?_
  show own_G p e below (s₁.setTop (mkF m 26 #[.val (.ref a1), .val (.int (0 : Int32)), .val (.long ((0 : Int64) ||| ((x0.toInt64) &&& (255 : Int64)))), .second] [(.int (8 : Int32)), (.long ((x1.toInt64) &&& (255 : Int64))), (.long ((0 : Int64) ||| ((x0.toInt64) &&& (255 : Int64))))])) _
  refine own_go (fun _ k => XS.lshl X0.here hx rfl (hb hby d10_26) rfl k) ?_
  show own_G p e below (s₁.setTop (mkF m 27 #[.val (.ref a1), .val (.int (0 : Int32)), .val (.long ((0 : Int64) ||| ((x0.toInt64) &&& (255 : Int64)))), .second] [(.long (((x1.toInt64) &&& (255 : Int64)) <<< ((8 : Int32) &&& 0x3f).toInt64)), (.long ((0 : Int64) ||| ((x0.toInt64) &&& (255 : Int64))))])) _
  refine own_go (fun _ k => XS.lor X0.here hx rfl (hb hby d10_27) rfl k) ?_
  show own_G p e below (s₁.setTop (mkF m 28 #[.val (.ref a1), .val (.int (0 : Int32)), .val (.long ((0 : Int64) ||| ((x0.toInt64) &&& (255 : Int64)))), .second] [(.long (((0 : Int64) ||| ((x0.toInt64) &&& (255 : Int64))) ||| (((x1.toInt64) &&& (255 : Int64)) <<< ((8 : Int32) &&& 0x3f).toInt64)))])) _
  refine own_go (fun _ k => XS.lstoreN X0.here hx rfl (hb hby d10_28) rfl (l' := #[.val (.ref a1), .val (.int (0 : Int32)), .val (.long (((0 : Int64) ||| ((x0.toInt64) &&& (255 : Int64))) ||| (((x1.toInt64) &&& (255 : Int64)) <<< ((8 : Int32) &&& 0x3f).toInt64))), .second]) rfl k) ?_
  show own_G p e below (s₁.setTop (mkF m 29 #[.val (.ref a1), .val (.int (0 : Int32)), .val (.long (((0 : Int64) ||| ((x0.toInt64) &&& (255 : Int64))) ||| (((x1.toInt64) &&& (255 : Int64)) <<< ((8 : Int32) &&& 0x3f).toInt64))), .second] [])) _
  refine own_go (fun _ k => XS.lloadN X0.here hx rfl (hb hby d10_29) rfl k) ?_
  show own_G p e below (s₁.setTop (mkF m 30 #[.val (.ref a1), .val (.int (0 : Int32)), .val (.long (((0 : Int64) ||| ((x0.toInt64) &&& (255 : Int64))) ||| (((x1.toInt64) &&& (255 : Int64)) <<< ((8 : Int32) &&& 0x3f).toInt64))), .second] [(.long (((0 : Int64) ||| ((x0.toInt64) &&& (255 : Int64))) ||| (((x1.toInt64) &&& (255 : Int64)) <<< ((8 : Int32) &&& 0x3f).toInt64)))])) _
  refine own_go (fun _ k => XS.aloadN X0.here hx rfl (hb hby d10_30) rfl rfl k) ?_
  show own_G p e below (s₁.setTop (mkF m 31 #[.val (.ref a1), .val (.int (0 : Int32)), .val (.long (((0 : Int64) ||| ((x0.toInt64) &&& (255 : Int64))) ||| (((x1.toInt64) &&& (255 : Int64)) <<< ((8 : Int32) &&& 0x3f).toInt64))), .second] [(.ref a1), (.long (((0 : Int64) ||| ((x0.toInt64) &&& (255 : Int64))) ||| (((x1.toInt64) &&& (255 : Int64)) <<< ((8 : Int32) &&& 0x3f).toInt64)))])) _
  refine own_go (fun _ k => XS.iloadN X0.here hx rfl (hb hby d10_31) rfl k) ?_
  show own_G p e below (s₁.setTop (mkF m 32 #[.val (.ref a1), .val (.int (0 : Int32)), .val (.long (((0 : Int64) ||| ((x0.toInt64) &&& (255 : Int64))) ||| (((x1.toInt64) &&& (255 : Int64)) <<< ((8 : Int32) &&& 0x3f).toInt64))), .second] [(.int (0 : Int32)), (.ref a1), (.long (((0 : Int64) ||| ((x0.toInt64) &&& (255 : Int64))) ||| (((x1.toInt64) &&& (255 : Int64)) <<< ((8 : Int32) &&& 0x3f).toInt64)))])) _
  refine own_go (fun _ k => XS.iconst X0.here hx rfl (hb hby d10_32) k) ?_
  show own_G p e below (s₁.setTop (mkF m 33 #[.val (.ref a1), .val (.int (0 : Int32)), .val (.long (((0 : Int64) ||| ((x0.toInt64) &&& (255 : Int64))) ||| (((x1.toInt64) &&& (255 : Int64)) <<< ((8 : Int32) &&& 0x3f).toInt64))), .second] [(.int (2 : Int32)), (.int (0 : Int32)), (.ref a1), (.long (((0 : Int64) ||| ((x0.toInt64) &&& (255 : Int64))) ||| (((x1.toInt64) &&& (255 : Int64)) <<< ((8 : Int32) &&& 0x3f).toInt64)))])) _
  refine own_go (fun _ k => XS.iadd X0.here hx rfl (hb hby d10_33) rfl k) ?_
  show own_G p e below (s₁.setTop (mkF m 34 #[.val (.ref a1), .val (.int (0 : Int32)), .val (.long (((0 : Int64) ||| ((x0.toInt64) &&& (255 : Int64))) ||| (((x1.toInt64) &&& (255 : Int64)) <<< ((8 : Int32) &&& 0x3f).toInt64))), .second] [(.int (2 : Int32)), (.ref a1), (.long (((0 : Int64) ||| ((x0.toInt64) &&& (255 : Int64))) ||| (((x1.toInt64) &&& (255 : Int64)) <<< ((8 : Int32) &&& 0x3f).toInt64)))])) _
  obtain ⟨cl216, Ar216, q216, S216, M216, B216, G216⟩ := id V_a1
  have hin216 : ¬ ((2 : Int32) < 0 ∨ cl216.slots.size ≤ ((2 : Int32)).toNatClampNeg) := inb_of S216 ⟨by decide, by decide⟩
  have hat216 : cl216.slots[((2 : Int32)).toNatClampNeg]? = some (.int x2) := B216.at hin216 rfl
  refine own_go (X0.baloadBytes hx (j := (2 : Int32)) (v := (.int x2)) (by rw [e0]; exact Ar216.1) (State.isArrayOf_alike hZ.alike Ar216.2.1) Ar216.2.2 hin216 hat216 (g := (mkF m 34 #[.val (.ref a1), .val (.int (0 : Int32)), .val (.long (((0 : Int64) ||| ((x0.toInt64) &&& (255 : Int64))) ||| (((x1.toInt64) &&& (255 : Int64)) <<< ((8 : Int32) &&& 0x3f).toInt64))), .second] [(.int (2 : Int32)), (.ref a1), (.long (((0 : Int64) ||| ((x0.toInt64) &&& (255 : Int64))) ||| (((x1.toInt64) &&& (255 : Int64)) <<< ((8 : Int32) &&& 0x3f).toInt64)))])) rfl rfl (hb hby d10_34)) ?_
  show own_G p e below (s₁.setTop (mkF m 35 #[.val (.ref a1), .val (.int (0 : Int32)), .val (.long (((0 : Int64) ||| ((x0.toInt64) &&& (255 : Int64))) ||| (((x1.toInt64) &&& (255 : Int64)) <<< ((8 : Int32) &&& 0x3f).toInt64))), .second] [(.int x2), (.long (((0 : Int64) ||| ((x0.toInt64) &&& (255 : Int64))) ||| (((x1.toInt64) &&& (255 : Int64)) <<< ((8 : Int32) &&& 0x3f).toInt64)))])) _
  refine own_go (fun _ k => XS.i2l X0.here hx rfl (hb hby d10_35) rfl k) ?_
  show own_G p e below (s₁.setTop (mkF m 36 #[.val (.ref a1), .val (.int (0 : Int32)), .val (.long (((0 : Int64) ||| ((x0.toInt64) &&& (255 : Int64))) ||| (((x1.toInt64) &&& (255 : Int64)) <<< ((8 : Int32) &&& 0x3f).toInt64))), .second] [(.long (x2.toInt64)), (.long (((0 : Int64) ||| ((x0.toInt64) &&& (255 : Int64))) ||| (((x1.toInt64) &&& (255 : Int64)) <<< ((8 : Int32) &&& 0x3f).toInt64)))])) _
  refine own_go (X0.ldc2Long hx hown (mvT hZ (hw _ (List.mem_of_getElem? (i := 62) rfl))) (g := (mkF m 36 #[.val (.ref a1), .val (.int (0 : Int32)), .val (.long (((0 : Int64) ||| ((x0.toInt64) &&& (255 : Int64))) ||| (((x1.toInt64) &&& (255 : Int64)) <<< ((8 : Int32) &&& 0x3f).toInt64))), .second] [(.long (x2.toInt64)), (.long (((0 : Int64) ||| ((x0.toInt64) &&& (255 : Int64))) ||| (((x1.toInt64) &&& (255 : Int64)) <<< ((8 : Int32) &&& 0x3f).toInt64)))])) rfl (hb hby d10_36)) ?_
  show own_G p e below (s₁.setTop (mkF m 39 #[.val (.ref a1), .val (.int (0 : Int32)), .val (.long (((0 : Int64) ||| ((x0.toInt64) &&& (255 : Int64))) ||| (((x1.toInt64) &&& (255 : Int64)) <<< ((8 : Int32) &&& 0x3f).toInt64))), .second] [(.long (255 : Int64)), (.long (x2.toInt64)), (.long (((0 : Int64) ||| ((x0.toInt64) &&& (255 : Int64))) ||| (((x1.toInt64) &&& (255 : Int64)) <<< ((8 : Int32) &&& 0x3f).toInt64)))])) _
  refine own_go (fun _ k => XS.land X0.here hx rfl (hb hby d10_39) rfl k) ?_
  show own_G p e below (s₁.setTop (mkF m 40 #[.val (.ref a1), .val (.int (0 : Int32)), .val (.long (((0 : Int64) ||| ((x0.toInt64) &&& (255 : Int64))) ||| (((x1.toInt64) &&& (255 : Int64)) <<< ((8 : Int32) &&& 0x3f).toInt64))), .second] [(.long ((x2.toInt64) &&& (255 : Int64))), (.long (((0 : Int64) ||| ((x0.toInt64) &&& (255 : Int64))) ||| (((x1.toInt64) &&& (255 : Int64)) <<< ((8 : Int32) &&& 0x3f).toInt64)))])) _
  refine own_go (fun _ k => XS.bipush X0.here hx rfl (hb hby d10_40) k) ?_
  show own_G p e below (s₁.setTop (mkF m 42 #[.val (.ref a1), .val (.int (0 : Int32)), .val (.long (((0 : Int64) ||| ((x0.toInt64) &&& (255 : Int64))) ||| (((x1.toInt64) &&& (255 : Int64)) <<< ((8 : Int32) &&& 0x3f).toInt64))), .second] [(.int (16 : Int32)), (.long ((x2.toInt64) &&& (255 : Int64))), (.long (((0 : Int64) ||| ((x0.toInt64) &&& (255 : Int64))) ||| (((x1.toInt64) &&& (255 : Int64)) <<< ((8 : Int32) &&& 0x3f).toInt64)))])) _
  refine own_go (fun _ k => XS.lshl X0.here hx rfl (hb hby d10_42) rfl k) ?_
  show own_G p e below (s₁.setTop (mkF m 43 #[.val (.ref a1), .val (.int (0 : Int32)), .val (.long (((0 : Int64) ||| ((x0.toInt64) &&& (255 : Int64))) ||| (((x1.toInt64) &&& (255 : Int64)) <<< ((8 : Int32) &&& 0x3f).toInt64))), .second] [(.long (((x2.toInt64) &&& (255 : Int64)) <<< ((16 : Int32) &&& 0x3f).toInt64)), (.long (((0 : Int64) ||| ((x0.toInt64) &&& (255 : Int64))) ||| (((x1.toInt64) &&& (255 : Int64)) <<< ((8 : Int32) &&& 0x3f).toInt64)))])) _
  refine own_go (fun _ k => XS.lor X0.here hx rfl (hb hby d10_43) rfl k) ?_
  show own_G p e below (s₁.setTop (mkF m 44 #[.val (.ref a1), .val (.int (0 : Int32)), .val (.long (((0 : Int64) ||| ((x0.toInt64) &&& (255 : Int64))) ||| (((x1.toInt64) &&& (255 : Int64)) <<< ((8 : Int32) &&& 0x3f).toInt64))), .second] [(.long ((((0 : Int64) ||| ((x0.toInt64) &&& (255 : Int64))) ||| (((x1.toInt64) &&& (255 : Int64)) <<< ((8 : Int32) &&& 0x3f).toInt64)) ||| (((x2.toInt64) &&& (255 : Int64)) <<< ((16 : Int32) &&& 0x3f).toInt64)))])) _
  refine own_go (fun _ k => XS.lstoreN X0.here hx rfl (hb hby d10_44) rfl (l' := #[.val (.ref a1), .val (.int (0 : Int32)), .val (.long ((((0 : Int64) ||| ((x0.toInt64) &&& (255 : Int64))) ||| (((x1.toInt64) &&& (255 : Int64)) <<< ((8 : Int32) &&& 0x3f).toInt64)) ||| (((x2.toInt64) &&& (255 : Int64)) <<< ((16 : Int32) &&& 0x3f).toInt64))), .second]) rfl k) ?_
  show own_G p e below (s₁.setTop (mkF m 45 #[.val (.ref a1), .val (.int (0 : Int32)), .val (.long ((((0 : Int64) ||| ((x0.toInt64) &&& (255 : Int64))) ||| (((x1.toInt64) &&& (255 : Int64)) <<< ((8 : Int32) &&& 0x3f).toInt64)) ||| (((x2.toInt64) &&& (255 : Int64)) <<< ((16 : Int32) &&& 0x3f).toInt64))), .second] [])) _
  refine own_go (fun _ k => XS.lloadN X0.here hx rfl (hb hby d10_45) rfl k) ?_
  show own_G p e below (s₁.setTop (mkF m 46 #[.val (.ref a1), .val (.int (0 : Int32)), .val (.long ((((0 : Int64) ||| ((x0.toInt64) &&& (255 : Int64))) ||| (((x1.toInt64) &&& (255 : Int64)) <<< ((8 : Int32) &&& 0x3f).toInt64)) ||| (((x2.toInt64) &&& (255 : Int64)) <<< ((16 : Int32) &&& 0x3f).toInt64))), .second] [(.long ((((0 : Int64) ||| ((x0.toInt64) &&& (255 : Int64))) ||| (((x1.toInt64) &&& (255 : Int64)) <<< ((8 : Int32) &&& 0x3f).toInt64)) ||| (((x2.toInt64) &&& (255 : Int64)) <<< ((16 : Int32) &&& 0x3f).toInt64)))])) _
  refine own_go (fun _ k => XS.aloadN X0.here hx rfl (hb hby d10_46) rfl rfl k) ?_
  show own_G p e below (s₁.setTop (mkF m 47 #[.val (.ref a1), .val (.int (0 : Int32)), .val (.long ((((0 : Int64) ||| ((x0.toInt64) &&& (255 : Int64))) ||| (((x1.toInt64) &&& (255 : Int64)) <<< ((8 : Int32) &&& 0x3f).toInt64)) ||| (((x2.toInt64) &&& (255 : Int64)) <<< ((16 : Int32) &&& 0x3f).toInt64))), .second] [(.ref a1), (.long ((((0 : Int64) ||| ((x0.toInt64) &&& (255 : Int64))) ||| (((x1.toInt64) &&& (255 : Int64)) <<< ((8 : Int32) &&& 0x3f).toInt64)) ||| (((x2.toInt64) &&& (255 : Int64)) <<< ((16 : Int32) &&& 0x3f).toInt64)))])) _
  refine own_go (fun _ k => XS.iloadN X0.here hx rfl (hb hby d10_47) rfl k) ?_
  show own_G p e below (s₁.setTop (mkF m 48 #[.val (.ref a1), .val (.int (0 : Int32)), .val (.long ((((0 : Int64) ||| ((x0.toInt64) &&& (255 : Int64))) ||| (((x1.toInt64) &&& (255 : Int64)) <<< ((8 : Int32) &&& 0x3f).toInt64)) ||| (((x2.toInt64) &&& (255 : Int64)) <<< ((16 : Int32) &&& 0x3f).toInt64))), .second] [(.int (0 : Int32)), (.ref a1), (.long ((((0 : Int64) ||| ((x0.toInt64) &&& (255 : Int64))) ||| (((x1.toInt64) &&& (255 : Int64)) <<< ((8 : Int32) &&& 0x3f).toInt64)) ||| (((x2.toInt64) &&& (255 : Int64)) <<< ((16 : Int32) &&& 0x3f).toInt64)))])) _
  refine own_go (fun _ k => XS.iconst X0.here hx rfl (hb hby d10_48) k) ?_
  show own_G p e below (s₁.setTop (mkF m 49 #[.val (.ref a1), .val (.int (0 : Int32)), .val (.long ((((0 : Int64) ||| ((x0.toInt64) &&& (255 : Int64))) ||| (((x1.toInt64) &&& (255 : Int64)) <<< ((8 : Int32) &&& 0x3f).toInt64)) ||| (((x2.toInt64) &&& (255 : Int64)) <<< ((16 : Int32) &&& 0x3f).toInt64))), .second] [(.int (3 : Int32)), (.int (0 : Int32)), (.ref a1), (.long ((((0 : Int64) ||| ((x0.toInt64) &&& (255 : Int64))) ||| (((x1.toInt64) &&& (255 : Int64)) <<< ((8 : Int32) &&& 0x3f).toInt64)) ||| (((x2.toInt64) &&& (255 : Int64)) <<< ((16 : Int32) &&& 0x3f).toInt64)))])) _
  refine own_go (fun _ k => XS.iadd X0.here hx rfl (hb hby d10_49) rfl k) ?_
  show own_G p e below (s₁.setTop (mkF m 50 #[.val (.ref a1), .val (.int (0 : Int32)), .val (.long ((((0 : Int64) ||| ((x0.toInt64) &&& (255 : Int64))) ||| (((x1.toInt64) &&& (255 : Int64)) <<< ((8 : Int32) &&& 0x3f).toInt64)) ||| (((x2.toInt64) &&& (255 : Int64)) <<< ((16 : Int32) &&& 0x3f).toInt64))), .second] [(.int (3 : Int32)), (.ref a1), (.long ((((0 : Int64) ||| ((x0.toInt64) &&& (255 : Int64))) ||| (((x1.toInt64) &&& (255 : Int64)) <<< ((8 : Int32) &&& 0x3f).toInt64)) ||| (((x2.toInt64) &&& (255 : Int64)) <<< ((16 : Int32) &&& 0x3f).toInt64)))])) _
  obtain ⟨cl217, Ar217, q217, S217, M217, B217, G217⟩ := id V_a1
  have hin217 : ¬ ((3 : Int32) < 0 ∨ cl217.slots.size ≤ ((3 : Int32)).toNatClampNeg) := inb_of S217 ⟨by decide, by decide⟩
  have hat217 : cl217.slots[((3 : Int32)).toNatClampNeg]? = some (.int x3) := B217.at hin217 rfl
  refine own_go (X0.baloadBytes hx (j := (3 : Int32)) (v := (.int x3)) (by rw [e0]; exact Ar217.1) (State.isArrayOf_alike hZ.alike Ar217.2.1) Ar217.2.2 hin217 hat217 (g := (mkF m 50 #[.val (.ref a1), .val (.int (0 : Int32)), .val (.long ((((0 : Int64) ||| ((x0.toInt64) &&& (255 : Int64))) ||| (((x1.toInt64) &&& (255 : Int64)) <<< ((8 : Int32) &&& 0x3f).toInt64)) ||| (((x2.toInt64) &&& (255 : Int64)) <<< ((16 : Int32) &&& 0x3f).toInt64))), .second] [(.int (3 : Int32)), (.ref a1), (.long ((((0 : Int64) ||| ((x0.toInt64) &&& (255 : Int64))) ||| (((x1.toInt64) &&& (255 : Int64)) <<< ((8 : Int32) &&& 0x3f).toInt64)) ||| (((x2.toInt64) &&& (255 : Int64)) <<< ((16 : Int32) &&& 0x3f).toInt64)))])) rfl rfl (hb hby d10_50)) ?_
  show own_G p e below (s₁.setTop (mkF m 51 #[.val (.ref a1), .val (.int (0 : Int32)), .val (.long ((((0 : Int64) ||| ((x0.toInt64) &&& (255 : Int64))) ||| (((x1.toInt64) &&& (255 : Int64)) <<< ((8 : Int32) &&& 0x3f).toInt64)) ||| (((x2.toInt64) &&& (255 : Int64)) <<< ((16 : Int32) &&& 0x3f).toInt64))), .second] [(.int x3), (.long ((((0 : Int64) ||| ((x0.toInt64) &&& (255 : Int64))) ||| (((x1.toInt64) &&& (255 : Int64)) <<< ((8 : Int32) &&& 0x3f).toInt64)) ||| (((x2.toInt64) &&& (255 : Int64)) <<< ((16 : Int32) &&& 0x3f).toInt64)))])) _
  refine own_go (fun _ k => XS.i2l X0.here hx rfl (hb hby d10_51) rfl k) ?_
  show own_G p e below (s₁.setTop (mkF m 52 #[.val (.ref a1), .val (.int (0 : Int32)), .val (.long ((((0 : Int64) ||| ((x0.toInt64) &&& (255 : Int64))) ||| (((x1.toInt64) &&& (255 : Int64)) <<< ((8 : Int32) &&& 0x3f).toInt64)) ||| (((x2.toInt64) &&& (255 : Int64)) <<< ((16 : Int32) &&& 0x3f).toInt64))), .second] [(.long (x3.toInt64)), (.long ((((0 : Int64) ||| ((x0.toInt64) &&& (255 : Int64))) ||| (((x1.toInt64) &&& (255 : Int64)) <<< ((8 : Int32) &&& 0x3f).toInt64)) ||| (((x2.toInt64) &&& (255 : Int64)) <<< ((16 : Int32) &&& 0x3f).toInt64)))])) _
  refine own_go (X0.ldc2Long hx hown (mvT hZ (hw _ (List.mem_of_getElem? (i := 62) rfl))) (g := (mkF m 52 #[.val (.ref a1), .val (.int (0 : Int32)), .val (.long ((((0 : Int64) ||| ((x0.toInt64) &&& (255 : Int64))) ||| (((x1.toInt64) &&& (255 : Int64)) <<< ((8 : Int32) &&& 0x3f).toInt64)) ||| (((x2.toInt64) &&& (255 : Int64)) <<< ((16 : Int32) &&& 0x3f).toInt64))), .second] [(.long (x3.toInt64)), (.long ((((0 : Int64) ||| ((x0.toInt64) &&& (255 : Int64))) ||| (((x1.toInt64) &&& (255 : Int64)) <<< ((8 : Int32) &&& 0x3f).toInt64)) ||| (((x2.toInt64) &&& (255 : Int64)) <<< ((16 : Int32) &&& 0x3f).toInt64)))])) rfl (hb hby d10_52)) ?_
  show own_G p e below (s₁.setTop (mkF m 55 #[.val (.ref a1), .val (.int (0 : Int32)), .val (.long ((((0 : Int64) ||| ((x0.toInt64) &&& (255 : Int64))) ||| (((x1.toInt64) &&& (255 : Int64)) <<< ((8 : Int32) &&& 0x3f).toInt64)) ||| (((x2.toInt64) &&& (255 : Int64)) <<< ((16 : Int32) &&& 0x3f).toInt64))), .second] [(.long (255 : Int64)), (.long (x3.toInt64)), (.long ((((0 : Int64) ||| ((x0.toInt64) &&& (255 : Int64))) ||| (((x1.toInt64) &&& (255 : Int64)) <<< ((8 : Int32) &&& 0x3f).toInt64)) ||| (((x2.toInt64) &&& (255 : Int64)) <<< ((16 : Int32) &&& 0x3f).toInt64)))])) _
  refine own_go (fun _ k => XS.land X0.here hx rfl (hb hby d10_55) rfl k) ?_
  show own_G p e below (s₁.setTop (mkF m 56 #[.val (.ref a1), .val (.int (0 : Int32)), .val (.long ((((0 : Int64) ||| ((x0.toInt64) &&& (255 : Int64))) ||| (((x1.toInt64) &&& (255 : Int64)) <<< ((8 : Int32) &&& 0x3f).toInt64)) ||| (((x2.toInt64) &&& (255 : Int64)) <<< ((16 : Int32) &&& 0x3f).toInt64))), .second] [(.long ((x3.toInt64) &&& (255 : Int64))), (.long ((((0 : Int64) ||| ((x0.toInt64) &&& (255 : Int64))) ||| (((x1.toInt64) &&& (255 : Int64)) <<< ((8 : Int32) &&& 0x3f).toInt64)) ||| (((x2.toInt64) &&& (255 : Int64)) <<< ((16 : Int32) &&& 0x3f).toInt64)))])) _
  refine own_go (fun _ k => XS.bipush X0.here hx rfl (hb hby d10_56) k) ?_
  show own_G p e below (s₁.setTop (mkF m 58 #[.val (.ref a1), .val (.int (0 : Int32)), .val (.long ((((0 : Int64) ||| ((x0.toInt64) &&& (255 : Int64))) ||| (((x1.toInt64) &&& (255 : Int64)) <<< ((8 : Int32) &&& 0x3f).toInt64)) ||| (((x2.toInt64) &&& (255 : Int64)) <<< ((16 : Int32) &&& 0x3f).toInt64))), .second] [(.int (24 : Int32)), (.long ((x3.toInt64) &&& (255 : Int64))), (.long ((((0 : Int64) ||| ((x0.toInt64) &&& (255 : Int64))) ||| (((x1.toInt64) &&& (255 : Int64)) <<< ((8 : Int32) &&& 0x3f).toInt64)) ||| (((x2.toInt64) &&& (255 : Int64)) <<< ((16 : Int32) &&& 0x3f).toInt64)))])) _
  refine own_go (fun _ k => XS.lshl X0.here hx rfl (hb hby d10_58) rfl k) ?_
  show own_G p e below (s₁.setTop (mkF m 59 #[.val (.ref a1), .val (.int (0 : Int32)), .val (.long ((((0 : Int64) ||| ((x0.toInt64) &&& (255 : Int64))) ||| (((x1.toInt64) &&& (255 : Int64)) <<< ((8 : Int32) &&& 0x3f).toInt64)) ||| (((x2.toInt64) &&& (255 : Int64)) <<< ((16 : Int32) &&& 0x3f).toInt64))), .second] [(.long (((x3.toInt64) &&& (255 : Int64)) <<< ((24 : Int32) &&& 0x3f).toInt64)), (.long ((((0 : Int64) ||| ((x0.toInt64) &&& (255 : Int64))) ||| (((x1.toInt64) &&& (255 : Int64)) <<< ((8 : Int32) &&& 0x3f).toInt64)) ||| (((x2.toInt64) &&& (255 : Int64)) <<< ((16 : Int32) &&& 0x3f).toInt64)))])) _
  refine own_go (fun _ k => XS.lor X0.here hx rfl (hb hby d10_59) rfl k) ?_
  show own_G p e below (s₁.setTop (mkF m 60 #[.val (.ref a1), .val (.int (0 : Int32)), .val (.long ((((0 : Int64) ||| ((x0.toInt64) &&& (255 : Int64))) ||| (((x1.toInt64) &&& (255 : Int64)) <<< ((8 : Int32) &&& 0x3f).toInt64)) ||| (((x2.toInt64) &&& (255 : Int64)) <<< ((16 : Int32) &&& 0x3f).toInt64))), .second] [(.long (((((0 : Int64) ||| ((x0.toInt64) &&& (255 : Int64))) ||| (((x1.toInt64) &&& (255 : Int64)) <<< ((8 : Int32) &&& 0x3f).toInt64)) ||| (((x2.toInt64) &&& (255 : Int64)) <<< ((16 : Int32) &&& 0x3f).toInt64)) ||| (((x3.toInt64) &&& (255 : Int64)) <<< ((24 : Int32) &&& 0x3f).toInt64)))])) _
  refine own_go (fun _ k => XS.lstoreN X0.here hx rfl (hb hby d10_60) rfl (l' := #[.val (.ref a1), .val (.int (0 : Int32)), .val (.long (((((0 : Int64) ||| ((x0.toInt64) &&& (255 : Int64))) ||| (((x1.toInt64) &&& (255 : Int64)) <<< ((8 : Int32) &&& 0x3f).toInt64)) ||| (((x2.toInt64) &&& (255 : Int64)) <<< ((16 : Int32) &&& 0x3f).toInt64)) ||| (((x3.toInt64) &&& (255 : Int64)) <<< ((24 : Int32) &&& 0x3f).toInt64))), .second]) rfl k) ?_
  show own_G p e below (s₁.setTop (mkF m 61 #[.val (.ref a1), .val (.int (0 : Int32)), .val (.long (((((0 : Int64) ||| ((x0.toInt64) &&& (255 : Int64))) ||| (((x1.toInt64) &&& (255 : Int64)) <<< ((8 : Int32) &&& 0x3f).toInt64)) ||| (((x2.toInt64) &&& (255 : Int64)) <<< ((16 : Int32) &&& 0x3f).toInt64)) ||| (((x3.toInt64) &&& (255 : Int64)) <<< ((24 : Int32) &&& 0x3f).toInt64))), .second] [])) _
  refine own_go (fun _ k => XS.lloadN X0.here hx rfl (hb hby d10_61) rfl k) ?_
  show own_G p e below (s₁.setTop (mkF m 62 #[.val (.ref a1), .val (.int (0 : Int32)), .val (.long (((((0 : Int64) ||| ((x0.toInt64) &&& (255 : Int64))) ||| (((x1.toInt64) &&& (255 : Int64)) <<< ((8 : Int32) &&& 0x3f).toInt64)) ||| (((x2.toInt64) &&& (255 : Int64)) <<< ((16 : Int32) &&& 0x3f).toInt64)) ||| (((x3.toInt64) &&& (255 : Int64)) <<< ((24 : Int32) &&& 0x3f).toInt64))), .second] [(.long (((((0 : Int64) ||| ((x0.toInt64) &&& (255 : Int64))) ||| (((x1.toInt64) &&& (255 : Int64)) <<< ((8 : Int32) &&& 0x3f).toInt64)) ||| (((x2.toInt64) &&& (255 : Int64)) <<< ((16 : Int32) &&& 0x3f).toInt64)) ||| (((x3.toInt64) &&& (255 : Int64)) <<< ((24 : Int32) &&& 0x3f).toInt64)))])) _
  refine own_go (fun _ k => XS.aloadN X0.here hx rfl (hb hby d10_62) rfl rfl k) ?_
  show own_G p e below (s₁.setTop (mkF m 63 #[.val (.ref a1), .val (.int (0 : Int32)), .val (.long (((((0 : Int64) ||| ((x0.toInt64) &&& (255 : Int64))) ||| (((x1.toInt64) &&& (255 : Int64)) <<< ((8 : Int32) &&& 0x3f).toInt64)) ||| (((x2.toInt64) &&& (255 : Int64)) <<< ((16 : Int32) &&& 0x3f).toInt64)) ||| (((x3.toInt64) &&& (255 : Int64)) <<< ((24 : Int32) &&& 0x3f).toInt64))), .second] [(.ref a1), (.long (((((0 : Int64) ||| ((x0.toInt64) &&& (255 : Int64))) ||| (((x1.toInt64) &&& (255 : Int64)) <<< ((8 : Int32) &&& 0x3f).toInt64)) ||| (((x2.toInt64) &&& (255 : Int64)) <<< ((16 : Int32) &&& 0x3f).toInt64)) ||| (((x3.toInt64) &&& (255 : Int64)) <<< ((24 : Int32) &&& 0x3f).toInt64)))])) _
  refine own_go (fun _ k => XS.iloadN X0.here hx rfl (hb hby d10_63) rfl k) ?_
  show own_G p e below (s₁.setTop (mkF m 64 #[.val (.ref a1), .val (.int (0 : Int32)), .val (.long (((((0 : Int64) ||| ((x0.toInt64) &&& (255 : Int64))) ||| (((x1.toInt64) &&& (255 : Int64)) <<< ((8 : Int32) &&& 0x3f).toInt64)) ||| (((x2.toInt64) &&& (255 : Int64)) <<< ((16 : Int32) &&& 0x3f).toInt64)) ||| (((x3.toInt64) &&& (255 : Int64)) <<< ((24 : Int32) &&& 0x3f).toInt64))), .second] [(.int (0 : Int32)), (.ref a1), (.long (((((0 : Int64) ||| ((x0.toInt64) &&& (255 : Int64))) ||| (((x1.toInt64) &&& (255 : Int64)) <<< ((8 : Int32) &&& 0x3f).toInt64)) ||| (((x2.toInt64) &&& (255 : Int64)) <<< ((16 : Int32) &&& 0x3f).toInt64)) ||| (((x3.toInt64) &&& (255 : Int64)) <<< ((24 : Int32) &&& 0x3f).toInt64)))])) _
  refine own_go (fun _ k => XS.iconst X0.here hx rfl (hb hby d10_64) k) ?_
  show own_G p e below (s₁.setTop (mkF m 65 #[.val (.ref a1), .val (.int (0 : Int32)), .val (.long (((((0 : Int64) ||| ((x0.toInt64) &&& (255 : Int64))) ||| (((x1.toInt64) &&& (255 : Int64)) <<< ((8 : Int32) &&& 0x3f).toInt64)) ||| (((x2.toInt64) &&& (255 : Int64)) <<< ((16 : Int32) &&& 0x3f).toInt64)) ||| (((x3.toInt64) &&& (255 : Int64)) <<< ((24 : Int32) &&& 0x3f).toInt64))), .second] [(.int (4 : Int32)), (.int (0 : Int32)), (.ref a1), (.long (((((0 : Int64) ||| ((x0.toInt64) &&& (255 : Int64))) ||| (((x1.toInt64) &&& (255 : Int64)) <<< ((8 : Int32) &&& 0x3f).toInt64)) ||| (((x2.toInt64) &&& (255 : Int64)) <<< ((16 : Int32) &&& 0x3f).toInt64)) ||| (((x3.toInt64) &&& (255 : Int64)) <<< ((24 : Int32) &&& 0x3f).toInt64)))])) _
  refine own_go (fun _ k => XS.iadd X0.here hx rfl (hb hby d10_65) rfl k) ?_
  show own_G p e below (s₁.setTop (mkF m 66 #[.val (.ref a1), .val (.int (0 : Int32)), .val (.long (((((0 : Int64) ||| ((x0.toInt64) &&& (255 : Int64))) ||| (((x1.toInt64) &&& (255 : Int64)) <<< ((8 : Int32) &&& 0x3f).toInt64)) ||| (((x2.toInt64) &&& (255 : Int64)) <<< ((16 : Int32) &&& 0x3f).toInt64)) ||| (((x3.toInt64) &&& (255 : Int64)) <<< ((24 : Int32) &&& 0x3f).toInt64))), .second] [(.int (4 : Int32)), (.ref a1), (.long (((((0 : Int64) ||| ((x0.toInt64) &&& (255 : Int64))) ||| (((x1.toInt64) &&& (255 : Int64)) <<< ((8 : Int32) &&& 0x3f).toInt64)) ||| (((x2.toInt64) &&& (255 : Int64)) <<< ((16 : Int32) &&& 0x3f).toInt64)) ||| (((x3.toInt64) &&& (255 : Int64)) <<< ((24 : Int32) &&& 0x3f).toInt64)))])) _
  obtain ⟨cl218, Ar218, q218, S218, M218, B218, G218⟩ := id V_a1
  have hin218 : ¬ ((4 : Int32) < 0 ∨ cl218.slots.size ≤ ((4 : Int32)).toNatClampNeg) := inb_of S218 ⟨by decide, by decide⟩
  have hat218 : cl218.slots[((4 : Int32)).toNatClampNeg]? = some (.int x4) := B218.at hin218 rfl
  refine own_go (X0.baloadBytes hx (j := (4 : Int32)) (v := (.int x4)) (by rw [e0]; exact Ar218.1) (State.isArrayOf_alike hZ.alike Ar218.2.1) Ar218.2.2 hin218 hat218 (g := (mkF m 66 #[.val (.ref a1), .val (.int (0 : Int32)), .val (.long (((((0 : Int64) ||| ((x0.toInt64) &&& (255 : Int64))) ||| (((x1.toInt64) &&& (255 : Int64)) <<< ((8 : Int32) &&& 0x3f).toInt64)) ||| (((x2.toInt64) &&& (255 : Int64)) <<< ((16 : Int32) &&& 0x3f).toInt64)) ||| (((x3.toInt64) &&& (255 : Int64)) <<< ((24 : Int32) &&& 0x3f).toInt64))), .second] [(.int (4 : Int32)), (.ref a1), (.long (((((0 : Int64) ||| ((x0.toInt64) &&& (255 : Int64))) ||| (((x1.toInt64) &&& (255 : Int64)) <<< ((8 : Int32) &&& 0x3f).toInt64)) ||| (((x2.toInt64) &&& (255 : Int64)) <<< ((16 : Int32) &&& 0x3f).toInt64)) ||| (((x3.toInt64) &&& (255 : Int64)) <<< ((24 : Int32) &&& 0x3f).toInt64)))])) rfl rfl (hb hby d10_66)) ?_
  show own_G p e below (s₁.setTop (mkF m 67 #[.val (.ref a1), .val (.int (0 : Int32)), .val (.long (((((0 : Int64) ||| ((x0.toInt64) &&& (255 : Int64))) ||| (((x1.toInt64) &&& (255 : Int64)) <<< ((8 : Int32) &&& 0x3f).toInt64)) ||| (((x2.toInt64) &&& (255 : Int64)) <<< ((16 : Int32) &&& 0x3f).toInt64)) ||| (((x3.toInt64) &&& (255 : Int64)) <<< ((24 : Int32) &&& 0x3f).toInt64))), .second] [(.int x4), (.long (((((0 : Int64) ||| ((x0.toInt64) &&& (255 : Int64))) ||| (((x1.toInt64) &&& (255 : Int64)) <<< ((8 : Int32) &&& 0x3f).toInt64)) ||| (((x2.toInt64) &&& (255 : Int64)) <<< ((16 : Int32) &&& 0x3f).toInt64)) ||| (((x3.toInt64) &&& (255 : Int64)) <<< ((24 : Int32) &&& 0x3f).toInt64)))])) _
  refine own_go (fun _ k => XS.i2l X0.here hx rfl (hb hby d10_67) rfl k) ?_
  show own_G p e below (s₁.setTop (mkF m 68 #[.val (.ref a1), .val (.int (0 : Int32)), .val (.long (((((0 : Int64) ||| ((x0.toInt64) &&& (255 : Int64))) ||| (((x1.toInt64) &&& (255 : Int64)) <<< ((8 : Int32) &&& 0x3f).toInt64)) ||| (((x2.toInt64) &&& (255 : Int64)) <<< ((16 : Int32) &&& 0x3f).toInt64)) ||| (((x3.toInt64) &&& (255 : Int64)) <<< ((24 : Int32) &&& 0x3f).toInt64))), .second] [(.long (x4.toInt64)), (.long (((((0 : Int64) ||| ((x0.toInt64) &&& (255 : Int64))) ||| (((x1.toInt64) &&& (255 : Int64)) <<< ((8 : Int32) &&& 0x3f).toInt64)) ||| (((x2.toInt64) &&& (255 : Int64)) <<< ((16 : Int32) &&& 0x3f).toInt64)) ||| (((x3.toInt64) &&& (255 : Int64)) <<< ((24 : Int32) &&& 0x3f).toInt64)))])) _
  refine own_go (X0.ldc2Long hx hown (mvT hZ (hw _ (List.mem_of_getElem? (i := 62) rfl))) (g := (mkF m 68 #[.val (.ref a1), .val (.int (0 : Int32)), .val (.long (((((0 : Int64) ||| ((x0.toInt64) &&& (255 : Int64))) ||| (((x1.toInt64) &&& (255 : Int64)) <<< ((8 : Int32) &&& 0x3f).toInt64)) ||| (((x2.toInt64) &&& (255 : Int64)) <<< ((16 : Int32) &&& 0x3f).toInt64)) ||| (((x3.toInt64) &&& (255 : Int64)) <<< ((24 : Int32) &&& 0x3f).toInt64))), .second] [(.long (x4.toInt64)), (.long (((((0 : Int64) ||| ((x0.toInt64) &&& (255 : Int64))) ||| (((x1.toInt64) &&& (255 : Int64)) <<< ((8 : Int32) &&& 0x3f).toInt64)) ||| (((x2.toInt64) &&& (255 : Int64)) <<< ((16 : Int32) &&& 0x3f).toInt64)) ||| (((x3.toInt64) &&& (255 : Int64)) <<< ((24 : Int32) &&& 0x3f).toInt64)))])) rfl (hb hby d10_68)) ?_
  show own_G p e below (s₁.setTop (mkF m 71 #[.val (.ref a1), .val (.int (0 : Int32)), .val (.long (((((0 : Int64) ||| ((x0.toInt64) &&& (255 : Int64))) ||| (((x1.toInt64) &&& (255 : Int64)) <<< ((8 : Int32) &&& 0x3f).toInt64)) ||| (((x2.toInt64) &&& (255 : Int64)) <<< ((16 : Int32) &&& 0x3f).toInt64)) ||| (((x3.toInt64) &&& (255 : Int64)) <<< ((24 : Int32) &&& 0x3f).toInt64))), .second] [(.long (255 : Int64)), (.long (x4.toInt64)), (.long (((((0 : Int64) ||| ((x0.toInt64) &&& (255 : Int64))) ||| (((x1.toInt64) &&& (255 : Int64)) <<< ((8 : Int32) &&& 0x3f).toInt64)) ||| (((x2.toInt64) &&& (255 : Int64)) <<< ((16 : Int32) &&& 0x3f).toInt64)) ||| (((x3.toInt64) &&& (255 : Int64)) <<< ((24 : Int32) &&& 0x3f).toInt64)))])) _
  refine own_go (fun _ k => XS.land X0.here hx rfl (hb hby d10_71) rfl k) ?_
  show own_G p e below (s₁.setTop (mkF m 72 #[.val (.ref a1), .val (.int (0 : Int32)), .val (.long (((((0 : Int64) ||| ((x0.toInt64) &&& (255 : Int64))) ||| (((x1.toInt64) &&& (255 : Int64)) <<< ((8 : Int32) &&& 0x3f).toInt64)) ||| (((x2.toInt64) &&& (255 : Int64)) <<< ((16 : Int32) &&& 0x3f).toInt64)) ||| (((x3.toInt64) &&& (255 : Int64)) <<< ((24 : Int32) &&& 0x3f).toInt64))), .second] [(.long ((x4.toInt64) &&& (255 : Int64))), (.long (((((0 : Int64) ||| ((x0.toInt64) &&& (255 : Int64))) ||| (((x1.toInt64) &&& (255 : Int64)) <<< ((8 : Int32) &&& 0x3f).toInt64)) ||| (((x2.toInt64) &&& (255 : Int64)) <<< ((16 : Int32) &&& 0x3f).toInt64)) ||| (((x3.toInt64) &&& (255 : Int64)) <<< ((24 : Int32) &&& 0x3f).toInt64)))])) _
  refine own_go (fun _ k => XS.bipush X0.here hx rfl (hb hby d10_72) k) ?_
  show own_G p e below (s₁.setTop (mkF m 74 #[.val (.ref a1), .val (.int (0 : Int32)), .val (.long (((((0 : Int64) ||| ((x0.toInt64) &&& (255 : Int64))) ||| (((x1.toInt64) &&& (255 : Int64)) <<< ((8 : Int32) &&& 0x3f).toInt64)) ||| (((x2.toInt64) &&& (255 : Int64)) <<< ((16 : Int32) &&& 0x3f).toInt64)) ||| (((x3.toInt64) &&& (255 : Int64)) <<< ((24 : Int32) &&& 0x3f).toInt64))), .second] [(.int (32 : Int32)), (.long ((x4.toInt64) &&& (255 : Int64))), (.long (((((0 : Int64) ||| ((x0.toInt64) &&& (255 : Int64))) ||| (((x1.toInt64) &&& (255 : Int64)) <<< ((8 : Int32) &&& 0x3f).toInt64)) ||| (((x2.toInt64) &&& (255 : Int64)) <<< ((16 : Int32) &&& 0x3f).toInt64)) ||| (((x3.toInt64) &&& (255 : Int64)) <<< ((24 : Int32) &&& 0x3f).toInt64)))])) _
  refine own_go (fun _ k => XS.lshl X0.here hx rfl (hb hby d10_74) rfl k) ?_
  show own_G p e below (s₁.setTop (mkF m 75 #[.val (.ref a1), .val (.int (0 : Int32)), .val (.long (((((0 : Int64) ||| ((x0.toInt64) &&& (255 : Int64))) ||| (((x1.toInt64) &&& (255 : Int64)) <<< ((8 : Int32) &&& 0x3f).toInt64)) ||| (((x2.toInt64) &&& (255 : Int64)) <<< ((16 : Int32) &&& 0x3f).toInt64)) ||| (((x3.toInt64) &&& (255 : Int64)) <<< ((24 : Int32) &&& 0x3f).toInt64))), .second] [(.long (((x4.toInt64) &&& (255 : Int64)) <<< ((32 : Int32) &&& 0x3f).toInt64)), (.long (((((0 : Int64) ||| ((x0.toInt64) &&& (255 : Int64))) ||| (((x1.toInt64) &&& (255 : Int64)) <<< ((8 : Int32) &&& 0x3f).toInt64)) ||| (((x2.toInt64) &&& (255 : Int64)) <<< ((16 : Int32) &&& 0x3f).toInt64)) ||| (((x3.toInt64) &&& (255 : Int64)) <<< ((24 : Int32) &&& 0x3f).toInt64)))])) _
  refine own_go (fun _ k => XS.lor X0.here hx rfl (hb hby d10_75) rfl k) ?_
  show own_G p e below (s₁.setTop (mkF m 76 #[.val (.ref a1), .val (.int (0 : Int32)), .val (.long (((((0 : Int64) ||| ((x0.toInt64) &&& (255 : Int64))) ||| (((x1.toInt64) &&& (255 : Int64)) <<< ((8 : Int32) &&& 0x3f).toInt64)) ||| (((x2.toInt64) &&& (255 : Int64)) <<< ((16 : Int32) &&& 0x3f).toInt64)) ||| (((x3.toInt64) &&& (255 : Int64)) <<< ((24 : Int32) &&& 0x3f).toInt64))), .second] [(.long ((((((0 : Int64) ||| ((x0.toInt64) &&& (255 : Int64))) ||| (((x1.toInt64) &&& (255 : Int64)) <<< ((8 : Int32) &&& 0x3f).toInt64)) ||| (((x2.toInt64) &&& (255 : Int64)) <<< ((16 : Int32) &&& 0x3f).toInt64)) ||| (((x3.toInt64) &&& (255 : Int64)) <<< ((24 : Int32) &&& 0x3f).toInt64)) ||| (((x4.toInt64) &&& (255 : Int64)) <<< ((32 : Int32) &&& 0x3f).toInt64)))])) _
  refine own_go (fun _ k => XS.lstoreN X0.here hx rfl (hb hby d10_76) rfl (l' := #[.val (.ref a1), .val (.int (0 : Int32)), .val (.long ((((((0 : Int64) ||| ((x0.toInt64) &&& (255 : Int64))) ||| (((x1.toInt64) &&& (255 : Int64)) <<< ((8 : Int32) &&& 0x3f).toInt64)) ||| (((x2.toInt64) &&& (255 : Int64)) <<< ((16 : Int32) &&& 0x3f).toInt64)) ||| (((x3.toInt64) &&& (255 : Int64)) <<< ((24 : Int32) &&& 0x3f).toInt64)) ||| (((x4.toInt64) &&& (255 : Int64)) <<< ((32 : Int32) &&& 0x3f).toInt64))), .second]) rfl k) ?_
  show own_G p e below (s₁.setTop (mkF m 77 #[.val (.ref a1), .val (.int (0 : Int32)), .val (.long ((((((0 : Int64) ||| ((x0.toInt64) &&& (255 : Int64))) ||| (((x1.toInt64) &&& (255 : Int64)) <<< ((8 : Int32) &&& 0x3f).toInt64)) ||| (((x2.toInt64) &&& (255 : Int64)) <<< ((16 : Int32) &&& 0x3f).toInt64)) ||| (((x3.toInt64) &&& (255 : Int64)) <<< ((24 : Int32) &&& 0x3f).toInt64)) ||| (((x4.toInt64) &&& (255 : Int64)) <<< ((32 : Int32) &&& 0x3f).toInt64))), .second] [])) _
  refine own_go (fun _ k => XS.lloadN X0.here hx rfl (hb hby d10_77) rfl k) ?_
  show own_G p e below (s₁.setTop (mkF m 78 #[.val (.ref a1), .val (.int (0 : Int32)), .val (.long ((((((0 : Int64) ||| ((x0.toInt64) &&& (255 : Int64))) ||| (((x1.toInt64) &&& (255 : Int64)) <<< ((8 : Int32) &&& 0x3f).toInt64)) ||| (((x2.toInt64) &&& (255 : Int64)) <<< ((16 : Int32) &&& 0x3f).toInt64)) ||| (((x3.toInt64) &&& (255 : Int64)) <<< ((24 : Int32) &&& 0x3f).toInt64)) ||| (((x4.toInt64) &&& (255 : Int64)) <<< ((32 : Int32) &&& 0x3f).toInt64))), .second] [(.long ((((((0 : Int64) ||| ((x0.toInt64) &&& (255 : Int64))) ||| (((x1.toInt64) &&& (255 : Int64)) <<< ((8 : Int32) &&& 0x3f).toInt64)) ||| (((x2.toInt64) &&& (255 : Int64)) <<< ((16 : Int32) &&& 0x3f).toInt64)) ||| (((x3.toInt64) &&& (255 : Int64)) <<< ((24 : Int32) &&& 0x3f).toInt64)) ||| (((x4.toInt64) &&& (255 : Int64)) <<< ((32 : Int32) &&& 0x3f).toInt64)))])) _
  refine own_go (fun _ k => XS.aloadN X0.here hx rfl (hb hby d10_78) rfl rfl k) ?_
  show own_G p e below (s₁.setTop (mkF m 79 #[.val (.ref a1), .val (.int (0 : Int32)), .val (.long ((((((0 : Int64) ||| ((x0.toInt64) &&& (255 : Int64))) ||| (((x1.toInt64) &&& (255 : Int64)) <<< ((8 : Int32) &&& 0x3f).toInt64)) ||| (((x2.toInt64) &&& (255 : Int64)) <<< ((16 : Int32) &&& 0x3f).toInt64)) ||| (((x3.toInt64) &&& (255 : Int64)) <<< ((24 : Int32) &&& 0x3f).toInt64)) ||| (((x4.toInt64) &&& (255 : Int64)) <<< ((32 : Int32) &&& 0x3f).toInt64))), .second] [(.ref a1), (.long ((((((0 : Int64) ||| ((x0.toInt64) &&& (255 : Int64))) ||| (((x1.toInt64) &&& (255 : Int64)) <<< ((8 : Int32) &&& 0x3f).toInt64)) ||| (((x2.toInt64) &&& (255 : Int64)) <<< ((16 : Int32) &&& 0x3f).toInt64)) ||| (((x3.toInt64) &&& (255 : Int64)) <<< ((24 : Int32) &&& 0x3f).toInt64)) ||| (((x4.toInt64) &&& (255 : Int64)) <<< ((32 : Int32) &&& 0x3f).toInt64)))])) _
  refine own_go (fun _ k => XS.iloadN X0.here hx rfl (hb hby d10_79) rfl k) ?_
  show own_G p e below (s₁.setTop (mkF m 80 #[.val (.ref a1), .val (.int (0 : Int32)), .val (.long ((((((0 : Int64) ||| ((x0.toInt64) &&& (255 : Int64))) ||| (((x1.toInt64) &&& (255 : Int64)) <<< ((8 : Int32) &&& 0x3f).toInt64)) ||| (((x2.toInt64) &&& (255 : Int64)) <<< ((16 : Int32) &&& 0x3f).toInt64)) ||| (((x3.toInt64) &&& (255 : Int64)) <<< ((24 : Int32) &&& 0x3f).toInt64)) ||| (((x4.toInt64) &&& (255 : Int64)) <<< ((32 : Int32) &&& 0x3f).toInt64))), .second] [(.int (0 : Int32)), (.ref a1), (.long ((((((0 : Int64) ||| ((x0.toInt64) &&& (255 : Int64))) ||| (((x1.toInt64) &&& (255 : Int64)) <<< ((8 : Int32) &&& 0x3f).toInt64)) ||| (((x2.toInt64) &&& (255 : Int64)) <<< ((16 : Int32) &&& 0x3f).toInt64)) ||| (((x3.toInt64) &&& (255 : Int64)) <<< ((24 : Int32) &&& 0x3f).toInt64)) ||| (((x4.toInt64) &&& (255 : Int64)) <<< ((32 : Int32) &&& 0x3f).toInt64)))])) _
  refine own_go (fun _ k => XS.iconst X0.here hx rfl (hb hby d10_80) k) ?_
  show own_G p e below (s₁.setTop (mkF m 81 #[.val (.ref a1), .val (.int (0 : Int32)), .val (.long ((((((0 : Int64) ||| ((x0.toInt64) &&& (255 : Int64))) ||| (((x1.toInt64) &&& (255 : Int64)) <<< ((8 : Int32) &&& 0x3f).toInt64)) ||| (((x2.toInt64) &&& (255 : Int64)) <<< ((16 : Int32) &&& 0x3f).toInt64)) ||| (((x3.toInt64) &&& (255 : Int64)) <<< ((24 : Int32) &&& 0x3f).toInt64)) ||| (((x4.toInt64) &&& (255 : Int64)) <<< ((32 : Int32) &&& 0x3f).toInt64))), .second] [(.int (5 : Int32)), (.int (0 : Int32)), (.ref a1), (.long ((((((0 : Int64) ||| ((x0.toInt64) &&& (255 : Int64))) ||| (((x1.toInt64) &&& (255 : Int64)) <<< ((8 : Int32) &&& 0x3f).toInt64)) ||| (((x2.toInt64) &&& (255 : Int64)) <<< ((16 : Int32) &&& 0x3f).toInt64)) ||| (((x3.toInt64) &&& (255 : Int64)) <<< ((24 : Int32) &&& 0x3f).toInt64)) ||| (((x4.toInt64) &&& (255 : Int64)) <<< ((32 : Int32) &&& 0x3f).toInt64)))])) _
  refine own_go (fun _ k => XS.iadd X0.here hx rfl (hb hby d10_81) rfl k) ?_
  show own_G p e below (s₁.setTop (mkF m 82 #[.val (.ref a1), .val (.int (0 : Int32)), .val (.long ((((((0 : Int64) ||| ((x0.toInt64) &&& (255 : Int64))) ||| (((x1.toInt64) &&& (255 : Int64)) <<< ((8 : Int32) &&& 0x3f).toInt64)) ||| (((x2.toInt64) &&& (255 : Int64)) <<< ((16 : Int32) &&& 0x3f).toInt64)) ||| (((x3.toInt64) &&& (255 : Int64)) <<< ((24 : Int32) &&& 0x3f).toInt64)) ||| (((x4.toInt64) &&& (255 : Int64)) <<< ((32 : Int32) &&& 0x3f).toInt64))), .second] [(.int (5 : Int32)), (.ref a1), (.long ((((((0 : Int64) ||| ((x0.toInt64) &&& (255 : Int64))) ||| (((x1.toInt64) &&& (255 : Int64)) <<< ((8 : Int32) &&& 0x3f).toInt64)) ||| (((x2.toInt64) &&& (255 : Int64)) <<< ((16 : Int32) &&& 0x3f).toInt64)) ||| (((x3.toInt64) &&& (255 : Int64)) <<< ((24 : Int32) &&& 0x3f).toInt64)) ||| (((x4.toInt64) &&& (255 : Int64)) <<< ((32 : Int32) &&& 0x3f).toInt64)))])) _
  obtain ⟨cl219, Ar219, q219, S219, M219, B219, G219⟩ := id V_a1
  have hin219 : ¬ ((5 : Int32) < 0 ∨ cl219.slots.size ≤ ((5 : Int32)).toNatClampNeg) := inb_of S219 ⟨by decide, by decide⟩
  have hat219 : cl219.slots[((5 : Int32)).toNatClampNeg]? = some (.int x5) := B219.at hin219 rfl
  refine own_go (X0.baloadBytes hx (j := (5 : Int32)) (v := (.int x5)) (by rw [e0]; exact Ar219.1) (State.isArrayOf_alike hZ.alike Ar219.2.1) Ar219.2.2 hin219 hat219 (g := (mkF m 82 #[.val (.ref a1), .val (.int (0 : Int32)), .val (.long ((((((0 : Int64) ||| ((x0.toInt64) &&& (255 : Int64))) ||| (((x1.toInt64) &&& (255 : Int64)) <<< ((8 : Int32) &&& 0x3f).toInt64)) ||| (((x2.toInt64) &&& (255 : Int64)) <<< ((16 : Int32) &&& 0x3f).toInt64)) ||| (((x3.toInt64) &&& (255 : Int64)) <<< ((24 : Int32) &&& 0x3f).toInt64)) ||| (((x4.toInt64) &&& (255 : Int64)) <<< ((32 : Int32) &&& 0x3f).toInt64))), .second] [(.int (5 : Int32)), (.ref a1), (.long ((((((0 : Int64) ||| ((x0.toInt64) &&& (255 : Int64))) ||| (((x1.toInt64) &&& (255 : Int64)) <<< ((8 : Int32) &&& 0x3f).toInt64)) ||| (((x2.toInt64) &&& (255 : Int64)) <<< ((16 : Int32) &&& 0x3f).toInt64)) ||| (((x3.toInt64) &&& (255 : Int64)) <<< ((24 : Int32) &&& 0x3f).toInt64)) ||| (((x4.toInt64) &&& (255 : Int64)) <<< ((32 : Int32) &&& 0x3f).toInt64)))])) rfl rfl (hb hby d10_82)) ?_
  show own_G p e below (s₁.setTop (mkF m 83 #[.val (.ref a1), .val (.int (0 : Int32)), .val (.long ((((((0 : Int64) ||| ((x0.toInt64) &&& (255 : Int64))) ||| (((x1.toInt64) &&& (255 : Int64)) <<< ((8 : Int32) &&& 0x3f).toInt64)) ||| (((x2.toInt64) &&& (255 : Int64)) <<< ((16 : Int32) &&& 0x3f).toInt64)) ||| (((x3.toInt64) &&& (255 : Int64)) <<< ((24 : Int32) &&& 0x3f).toInt64)) ||| (((x4.toInt64) &&& (255 : Int64)) <<< ((32 : Int32) &&& 0x3f).toInt64))), .second] [(.int x5), (.long ((((((0 : Int64) ||| ((x0.toInt64) &&& (255 : Int64))) ||| (((x1.toInt64) &&& (255 : Int64)) <<< ((8 : Int32) &&& 0x3f).toInt64)) ||| (((x2.toInt64) &&& (255 : Int64)) <<< ((16 : Int32) &&& 0x3f).toInt64)) ||| (((x3.toInt64) &&& (255 : Int64)) <<< ((24 : Int32) &&& 0x3f).toInt64)) ||| (((x4.toInt64) &&& (255 : Int64)) <<< ((32 : Int32) &&& 0x3f).toInt64)))])) _
  refine own_go (fun _ k => XS.i2l X0.here hx rfl (hb hby d10_83) rfl k) ?_
  show own_G p e below (s₁.setTop (mkF m 84 #[.val (.ref a1), .val (.int (0 : Int32)), .val (.long ((((((0 : Int64) ||| ((x0.toInt64) &&& (255 : Int64))) ||| (((x1.toInt64) &&& (255 : Int64)) <<< ((8 : Int32) &&& 0x3f).toInt64)) ||| (((x2.toInt64) &&& (255 : Int64)) <<< ((16 : Int32) &&& 0x3f).toInt64)) ||| (((x3.toInt64) &&& (255 : Int64)) <<< ((24 : Int32) &&& 0x3f).toInt64)) ||| (((x4.toInt64) &&& (255 : Int64)) <<< ((32 : Int32) &&& 0x3f).toInt64))), .second] [(.long (x5.toInt64)), (.long ((((((0 : Int64) ||| ((x0.toInt64) &&& (255 : Int64))) ||| (((x1.toInt64) &&& (255 : Int64)) <<< ((8 : Int32) &&& 0x3f).toInt64)) ||| (((x2.toInt64) &&& (255 : Int64)) <<< ((16 : Int32) &&& 0x3f).toInt64)) ||| (((x3.toInt64) &&& (255 : Int64)) <<< ((24 : Int32) &&& 0x3f).toInt64)) ||| (((x4.toInt64) &&& (255 : Int64)) <<< ((32 : Int32) &&& 0x3f).toInt64)))])) _
  refine own_go (X0.ldc2Long hx hown (mvT hZ (hw _ (List.mem_of_getElem? (i := 62) rfl))) (g := (mkF m 84 #[.val (.ref a1), .val (.int (0 : Int32)), .val (.long ((((((0 : Int64) ||| ((x0.toInt64) &&& (255 : Int64))) ||| (((x1.toInt64) &&& (255 : Int64)) <<< ((8 : Int32) &&& 0x3f).toInt64)) ||| (((x2.toInt64) &&& (255 : Int64)) <<< ((16 : Int32) &&& 0x3f).toInt64)) ||| (((x3.toInt64) &&& (255 : Int64)) <<< ((24 : Int32) &&& 0x3f).toInt64)) ||| (((x4.toInt64) &&& (255 : Int64)) <<< ((32 : Int32) &&& 0x3f).toInt64))), .second] [(.long (x5.toInt64)), (.long ((((((0 : Int64) ||| ((x0.toInt64) &&& (255 : Int64))) ||| (((x1.toInt64) &&& (255 : Int64)) <<< ((8 : Int32) &&& 0x3f).toInt64)) ||| (((x2.toInt64) &&& (255 : Int64)) <<< ((16 : Int32) &&& 0x3f).toInt64)) ||| (((x3.toInt64) &&& (255 : Int64)) <<< ((24 : Int32) &&& 0x3f).toInt64)) ||| (((x4.toInt64) &&& (255 : Int64)) <<< ((32 : Int32) &&& 0x3f).toInt64)))])) rfl (hb hby d10_84)) ?_
  show own_G p e below (s₁.setTop (mkF m 87 #[.val (.ref a1), .val (.int (0 : Int32)), .val (.long ((((((0 : Int64) ||| ((x0.toInt64) &&& (255 : Int64))) ||| (((x1.toInt64) &&& (255 : Int64)) <<< ((8 : Int32) &&& 0x3f).toInt64)) ||| (((x2.toInt64) &&& (255 : Int64)) <<< ((16 : Int32) &&& 0x3f).toInt64)) ||| (((x3.toInt64) &&& (255 : Int64)) <<< ((24 : Int32) &&& 0x3f).toInt64)) ||| (((x4.toInt64) &&& (255 : Int64)) <<< ((32 : Int32) &&& 0x3f).toInt64))), .second] [(.long (255 : Int64)), (.long (x5.toInt64)), (.long ((((((0 : Int64) ||| ((x0.toInt64) &&& (255 : Int64))) ||| (((x1.toInt64) &&& (255 : Int64)) <<< ((8 : Int32) &&& 0x3f).toInt64)) ||| (((x2.toInt64) &&& (255 : Int64)) <<< ((16 : Int32) &&& 0x3f).toInt64)) ||| (((x3.toInt64) &&& (255 : Int64)) <<< ((24 : Int32) &&& 0x3f).toInt64)) ||| (((x4.toInt64) &&& (255 : Int64)) <<< ((32 : Int32) &&& 0x3f).toInt64)))])) _
  refine own_go (fun _ k => XS.land X0.here hx rfl (hb hby d10_87) rfl k) ?_
  show own_G p e below (s₁.setTop (mkF m 88 #[.val (.ref a1), .val (.int (0 : Int32)), .val (.long ((((((0 : Int64) ||| ((x0.toInt64) &&& (255 : Int64))) ||| (((x1.toInt64) &&& (255 : Int64)) <<< ((8 : Int32) &&& 0x3f).toInt64)) ||| (((x2.toInt64) &&& (255 : Int64)) <<< ((16 : Int32) &&& 0x3f).toInt64)) ||| (((x3.toInt64) &&& (255 : Int64)) <<< ((24 : Int32) &&& 0x3f).toInt64)) ||| (((x4.toInt64) &&& (255 : Int64)) <<< ((32 : Int32) &&& 0x3f).toInt64))), .second] [(.long ((x5.toInt64) &&& (255 : Int64))), (.long ((((((0 : Int64) ||| ((x0.toInt64) &&& (255 : Int64))) ||| (((x1.toInt64) &&& (255 : Int64)) <<< ((8 : Int32) &&& 0x3f).toInt64)) ||| (((x2.toInt64) &&& (255 : Int64)) <<< ((16 : Int32) &&& 0x3f).toInt64)) ||| (((x3.toInt64) &&& (255 : Int64)) <<< ((24 : Int32) &&& 0x3f).toInt64)) ||| (((x4.toInt64) &&& (255 : Int64)) <<< ((32 : Int32) &&& 0x3f).toInt64)))])) _
  refine own_go (fun _ k => XS.bipush X0.here hx rfl (hb hby d10_88) k) ?_
  show own_G p e below (s₁.setTop (mkF m 90 #[.val (.ref a1), .val (.int (0 : Int32)), .val (.long ((((((0 : Int64) ||| ((x0.toInt64) &&& (255 : Int64))) ||| (((x1.toInt64) &&& (255 : Int64)) <<< ((8 : Int32) &&& 0x3f).toInt64)) ||| (((x2.toInt64) &&& (255 : Int64)) <<< ((16 : Int32) &&& 0x3f).toInt64)) ||| (((x3.toInt64) &&& (255 : Int64)) <<< ((24 : Int32) &&& 0x3f).toInt64)) ||| (((x4.toInt64) &&& (255 : Int64)) <<< ((32 : Int32) &&& 0x3f).toInt64))), .second] [(.int (40 : Int32)), (.long ((x5.toInt64) &&& (255 : Int64))), (.long ((((((0 : Int64) ||| ((x0.toInt64) &&& (255 : Int64))) ||| (((x1.toInt64) &&& (255 : Int64)) <<< ((8 : Int32) &&& 0x3f).toInt64)) ||| (((x2.toInt64) &&& (255 : Int64)) <<< ((16 : Int32) &&& 0x3f).toInt64)) ||| (((x3.toInt64) &&& (255 : Int64)) <<< ((24 : Int32) &&& 0x3f).toInt64)) ||| (((x4.toInt64) &&& (255 : Int64)) <<< ((32 : Int32) &&& 0x3f).toInt64)))])) _
  refine own_go (fun _ k => XS.lshl X0.here hx rfl (hb hby d10_90) rfl k) ?_
  show own_G p e below (s₁.setTop (mkF m 91 #[.val (.ref a1), .val (.int (0 : Int32)), .val (.long ((((((0 : Int64) ||| ((x0.toInt64) &&& (255 : Int64))) ||| (((x1.toInt64) &&& (255 : Int64)) <<< ((8 : Int32) &&& 0x3f).toInt64)) ||| (((x2.toInt64) &&& (255 : Int64)) <<< ((16 : Int32) &&& 0x3f).toInt64)) ||| (((x3.toInt64) &&& (255 : Int64)) <<< ((24 : Int32) &&& 0x3f).toInt64)) ||| (((x4.toInt64) &&& (255 : Int64)) <<< ((32 : Int32) &&& 0x3f).toInt64))), .second] [(.long (((x5.toInt64) &&& (255 : Int64)) <<< ((40 : Int32) &&& 0x3f).toInt64)), (.long ((((((0 : Int64) ||| ((x0.toInt64) &&& (255 : Int64))) ||| (((x1.toInt64) &&& (255 : Int64)) <<< ((8 : Int32) &&& 0x3f).toInt64)) ||| (((x2.toInt64) &&& (255 : Int64)) <<< ((16 : Int32) &&& 0x3f).toInt64)) ||| (((x3.toInt64) &&& (255 : Int64)) <<< ((24 : Int32) &&& 0x3f).toInt64)) ||| (((x4.toInt64) &&& (255 : Int64)) <<< ((32 : Int32) &&& 0x3f).toInt64)))])) _
  refine own_go (fun _ k => XS.lor X0.here hx rfl (hb hby d10_91) rfl k) ?_
  show own_G p e below (s₁.setTop (mkF m 92 #[.val (.ref a1), .val (.int (0 : Int32)), .val (.long ((((((0 : Int64) ||| ((x0.toInt64) &&& (255 : Int64))) ||| (((x1.toInt64) &&& (255 : Int64)) <<< ((8 : Int32) &&& 0x3f).toInt64)) ||| (((x2.toInt64) &&& (255 : Int64)) <<< ((16 : Int32) &&& 0x3f).toInt64)) ||| (((x3.toInt64) &&& (255 : Int64)) <<< ((24 : Int32) &&& 0x3f).toInt64)) ||| (((x4.toInt64) &&& (255 : Int64)) <<< ((32 : Int32) &&& 0x3f).toInt64))), .second] [(.long (((((((0 : Int64) ||| ((x0.toInt64) &&& (255 : Int64))) ||| (((x1.toInt64) &&& (255 : Int64)) <<< ((8 : Int32) &&& 0x3f).toInt64)) ||| (((x2.toInt64) &&& (255 : Int64)) <<< ((16 : Int32) &&& 0x3f).toInt64)) ||| (((x3.toInt64) &&& (255 : Int64)) <<< ((24 : Int32) &&& 0x3f).toInt64)) ||| (((x4.toInt64) &&& (255 : Int64)) <<< ((32 : Int32) &&& 0x3f).toInt64)) ||| (((x5.toInt64) &&& (255 : Int64)) <<< ((40 : Int32) &&& 0x3f).toInt64)))])) _
  refine own_go (fun _ k => XS.lstoreN X0.here hx rfl (hb hby d10_92) rfl (l' := #[.val (.ref a1), .val (.int (0 : Int32)), .val (.long (((((((0 : Int64) ||| ((x0.toInt64) &&& (255 : Int64))) ||| (((x1.toInt64) &&& (255 : Int64)) <<< ((8 : Int32) &&& 0x3f).toInt64)) ||| (((x2.toInt64) &&& (255 : Int64)) <<< ((16 : Int32) &&& 0x3f).toInt64)) ||| (((x3.toInt64) &&& (255 : Int64)) <<< ((24 : Int32) &&& 0x3f).toInt64)) ||| (((x4.toInt64) &&& (255 : Int64)) <<< ((32 : Int32) &&& 0x3f).toInt64)) ||| (((x5.toInt64) &&& (255 : Int64)) <<< ((40 : Int32) &&& 0x3f).toInt64))), .second]) rfl k) ?_
  show own_G p e below (s₁.setTop (mkF m 93 #[.val (.ref a1), .val (.int (0 : Int32)), .val (.long (((((((0 : Int64) ||| ((x0.toInt64) &&& (255 : Int64))) ||| (((x1.toInt64) &&& (255 : Int64)) <<< ((8 : Int32) &&& 0x3f).toInt64)) ||| (((x2.toInt64) &&& (255 : Int64)) <<< ((16 : Int32) &&& 0x3f).toInt64)) ||| (((x3.toInt64) &&& (255 : Int64)) <<< ((24 : Int32) &&& 0x3f).toInt64)) ||| (((x4.toInt64) &&& (255 : Int64)) <<< ((32 : Int32) &&& 0x3f).toInt64)) ||| (((x5.toInt64) &&& (255 : Int64)) <<< ((40 : Int32) &&& 0x3f).toInt64))), .second] [])) _
  refine own_go (fun _ k => XS.lloadN X0.here hx rfl (hb hby d10_93) rfl k) ?_
  show own_G p e below (s₁.setTop (mkF m 94 #[.val (.ref a1), .val (.int (0 : Int32)), .val (.long (((((((0 : Int64) ||| ((x0.toInt64) &&& (255 : Int64))) ||| (((x1.toInt64) &&& (255 : Int64)) <<< ((8 : Int32) &&& 0x3f).toInt64)) ||| (((x2.toInt64) &&& (255 : Int64)) <<< ((16 : Int32) &&& 0x3f).toInt64)) ||| (((x3.toInt64) &&& (255 : Int64)) <<< ((24 : Int32) &&& 0x3f).toInt64)) ||| (((x4.toInt64) &&& (255 : Int64)) <<< ((32 : Int32) &&& 0x3f).toInt64)) ||| (((x5.toInt64) &&& (255 : Int64)) <<< ((40 : Int32) &&& 0x3f).toInt64))), .second] [(.long (((((((0 : Int64) ||| ((x0.toInt64) &&& (255 : Int64))) ||| (((x1.toInt64) &&& (255 : Int64)) <<< ((8 : Int32) &&& 0x3f).toInt64)) ||| (((x2.toInt64) &&& (255 : Int64)) <<< ((16 : Int32) &&& 0x3f).toInt64)) ||| (((x3.toInt64) &&& (255 : Int64)) <<< ((24 : Int32) &&& 0x3f).toInt64)) ||| (((x4.toInt64) &&& (255 : Int64)) <<< ((32 : Int32) &&& 0x3f).toInt64)) ||| (((x5.toInt64) &&& (255 : Int64)) <<< ((40 : Int32) &&& 0x3f).toInt64)))])) _
  refine own_go (fun _ k => XS.aloadN X0.here hx rfl (hb hby d10_94) rfl rfl k) ?_
  show own_G p e below (s₁.setTop (mkF m 95 #[.val (.ref a1), .val (.int (0 : Int32)), .val (.long (((((((0 : Int64) ||| ((x0.toInt64) &&& (255 : Int64))) ||| (((x1.toInt64) &&& (255 : Int64)) <<< ((8 : Int32) &&& 0x3f).toInt64)) ||| (((x2.toInt64) &&& (255 : Int64)) <<< ((16 : Int32) &&& 0x3f).toInt64)) ||| (((x3.toInt64) &&& (255 : Int64)) <<< ((24 : Int32) &&& 0x3f).toInt64)) ||| (((x4.toInt64) &&& (255 : Int64)) <<< ((32 : Int32) &&& 0x3f).toInt64)) ||| (((x5.toInt64) &&& (255 : Int64)) <<< ((40 : Int32) &&& 0x3f).toInt64))), .second] [(.ref a1), (.long (((((((0 : Int64) ||| ((x0.toInt64) &&& (255 : Int64))) ||| (((x1.toInt64) &&& (255 : Int64)) <<< ((8 : Int32) &&& 0x3f).toInt64)) ||| (((x2.toInt64) &&& (255 : Int64)) <<< ((16 : Int32) &&& 0x3f).toInt64)) ||| (((x3.toInt64) &&& (255 : Int64)) <<< ((24 : Int32) &&& 0x3f).toInt64)) ||| (((x4.toInt64) &&& (255 : Int64)) <<< ((32 : Int32) &&& 0x3f).toInt64)) ||| (((x5.toInt64) &&& (255 : Int64)) <<< ((40 : Int32) &&& 0x3f).toInt64)))])) _
  refine own_go (fun _ k => XS.iloadN X0.here hx rfl (hb hby d10_95) rfl k) ?_
  show own_G p e below (s₁.setTop (mkF m 96 #[.val (.ref a1), .val (.int (0 : Int32)), .val (.long (((((((0 : Int64) ||| ((x0.toInt64) &&& (255 : Int64))) ||| (((x1.toInt64) &&& (255 : Int64)) <<< ((8 : Int32) &&& 0x3f).toInt64)) ||| (((x2.toInt64) &&& (255 : Int64)) <<< ((16 : Int32) &&& 0x3f).toInt64)) ||| (((x3.toInt64) &&& (255 : Int64)) <<< ((24 : Int32) &&& 0x3f).toInt64)) ||| (((x4.toInt64) &&& (255 : Int64)) <<< ((32 : Int32) &&& 0x3f).toInt64)) ||| (((x5.toInt64) &&& (255 : Int64)) <<< ((40 : Int32) &&& 0x3f).toInt64))), .second] [(.int (0 : Int32)), (.ref a1), (.long (((((((0 : Int64) ||| ((x0.toInt64) &&& (255 : Int64))) ||| (((x1.toInt64) &&& (255 : Int64)) <<< ((8 : Int32) &&& 0x3f).toInt64)) ||| (((x2.toInt64) &&& (255 : Int64)) <<< ((16 : Int32) &&& 0x3f).toInt64)) ||| (((x3.toInt64) &&& (255 : Int64)) <<< ((24 : Int32) &&& 0x3f).toInt64)) ||| (((x4.toInt64) &&& (255 : Int64)) <<< ((32 : Int32) &&& 0x3f).toInt64)) ||| (((x5.toInt64) &&& (255 : Int64)) <<< ((40 : Int32) &&& 0x3f).toInt64)))])) _
  refine own_go (fun _ k => XS.bipush X0.here hx rfl (hb hby d10_96) k) ?_
  show own_G p e below (s₁.setTop (mkF m 98 #[.val (.ref a1), .val (.int (0 : Int32)), .val (.long (((((((0 : Int64) ||| ((x0.toInt64) &&& (255 : Int64))) ||| (((x1.toInt64) &&& (255 : Int64)) <<< ((8 : Int32) &&& 0x3f).toInt64)) ||| (((x2.toInt64) &&& (255 : Int64)) <<< ((16 : Int32) &&& 0x3f).toInt64)) ||| (((x3.toInt64) &&& (255 : Int64)) <<< ((24 : Int32) &&& 0x3f).toInt64)) ||| (((x4.toInt64) &&& (255 : Int64)) <<< ((32 : Int32) &&& 0x3f).toInt64)) ||| (((x5.toInt64) &&& (255 : Int64)) <<< ((40 : Int32) &&& 0x3f).toInt64))), .second] [(.int (6 : Int32)), (.int (0 : Int32)), (.ref a1), (.long (((((((0 : Int64) ||| ((x0.toInt64) &&& (255 : Int64))) ||| (((x1.toInt64) &&& (255 : Int64)) <<< ((8 : Int32) &&& 0x3f).toInt64)) ||| (((x2.toInt64) &&& (255 : Int64)) <<< ((16 : Int32) &&& 0x3f).toInt64)) ||| (((x3.toInt64) &&& (255 : Int64)) <<< ((24 : Int32) &&& 0x3f).toInt64)) ||| (((x4.toInt64) &&& (255 : Int64)) <<< ((32 : Int32) &&& 0x3f).toInt64)) ||| (((x5.toInt64) &&& (255 : Int64)) <<< ((40 : Int32) &&& 0x3f).toInt64)))])) _
  refine own_go (fun _ k => XS.iadd X0.here hx rfl (hb hby d10_98) rfl k) ?_
  show own_G p e below (s₁.setTop (mkF m 99 #[.val (.ref a1), .val (.int (0 : Int32)), .val (.long (((((((0 : Int64) ||| ((x0.toInt64) &&& (255 : Int64))) ||| (((x1.toInt64) &&& (255 : Int64)) <<< ((8 : Int32) &&& 0x3f).toInt64)) ||| (((x2.toInt64) &&& (255 : Int64)) <<< ((16 : Int32) &&& 0x3f).toInt64)) ||| (((x3.toInt64) &&& (255 : Int64)) <<< ((24 : Int32) &&& 0x3f).toInt64)) ||| (((x4.toInt64) &&& (255 : Int64)) <<< ((32 : Int32) &&& 0x3f).toInt64)) ||| (((x5.toInt64) &&& (255 : Int64)) <<< ((40 : Int32) &&& 0x3f).toInt64))), .second] [(.int (6 : Int32)), (.ref a1), (.long (((((((0 : Int64) ||| ((x0.toInt64) &&& (255 : Int64))) ||| (((x1.toInt64) &&& (255 : Int64)) <<< ((8 : Int32) &&& 0x3f).toInt64)) ||| (((x2.toInt64) &&& (255 : Int64)) <<< ((16 : Int32) &&& 0x3f).toInt64)) ||| (((x3.toInt64) &&& (255 : Int64)) <<< ((24 : Int32) &&& 0x3f).toInt64)) ||| (((x4.toInt64) &&& (255 : Int64)) <<< ((32 : Int32) &&& 0x3f).toInt64)) ||| (((x5.toInt64) &&& (255 : Int64)) <<< ((40 : Int32) &&& 0x3f).toInt64)))])) _
  obtain ⟨cl220, Ar220, q220, S220, M220, B220, G220⟩ := id V_a1
  have hin220 : ¬ ((6 : Int32) < 0 ∨ cl220.slots.size ≤ ((6 : Int32)).toNatClampNeg) := inb_of S220 ⟨by decide, by decide⟩
  have hat220 : cl220.slots[((6 : Int32)).toNatClampNeg]? = some (.int x6) := B220.at hin220 rfl
  refine own_go (X0.baloadBytes hx (j := (6 : Int32)) (v := (.int x6)) (by rw [e0]; exact Ar220.1) (State.isArrayOf_alike hZ.alike Ar220.2.1) Ar220.2.2 hin220 hat220 (g := (mkF m 99 #[.val (.ref a1), .val (.int (0 : Int32)), .val (.long (((((((0 : Int64) ||| ((x0.toInt64) &&& (255 : Int64))) ||| (((x1.toInt64) &&& (255 : Int64)) <<< ((8 : Int32) &&& 0x3f).toInt64)) ||| (((x2.toInt64) &&& (255 : Int64)) <<< ((16 : Int32) &&& 0x3f).toInt64)) ||| (((x3.toInt64) &&& (255 : Int64)) <<< ((24 : Int32) &&& 0x3f).toInt64)) ||| (((x4.toInt64) &&& (255 : Int64)) <<< ((32 : Int32) &&& 0x3f).toInt64)) ||| (((x5.toInt64) &&& (255 : Int64)) <<< ((40 : Int32) &&& 0x3f).toInt64))), .second] [(.int (6 : Int32)), (.ref a1), (.long (((((((0 : Int64) ||| ((x0.toInt64) &&& (255 : Int64))) ||| (((x1.toInt64) &&& (255 : Int64)) <<< ((8 : Int32) &&& 0x3f).toInt64)) ||| (((x2.toInt64) &&& (255 : Int64)) <<< ((16 : Int32) &&& 0x3f).toInt64)) ||| (((x3.toInt64) &&& (255 : Int64)) <<< ((24 : Int32) &&& 0x3f).toInt64)) ||| (((x4.toInt64) &&& (255 : Int64)) <<< ((32 : Int32) &&& 0x3f).toInt64)) ||| (((x5.toInt64) &&& (255 : Int64)) <<< ((40 : Int32) &&& 0x3f).toInt64)))])) rfl rfl (hb hby d10_99)) ?_
  show own_G p e below (s₁.setTop (mkF m 100 #[.val (.ref a1), .val (.int (0 : Int32)), .val (.long (((((((0 : Int64) ||| ((x0.toInt64) &&& (255 : Int64))) ||| (((x1.toInt64) &&& (255 : Int64)) <<< ((8 : Int32) &&& 0x3f).toInt64)) ||| (((x2.toInt64) &&& (255 : Int64)) <<< ((16 : Int32) &&& 0x3f).toInt64)) ||| (((x3.toInt64) &&& (255 : Int64)) <<< ((24 : Int32) &&& 0x3f).toInt64)) ||| (((x4.toInt64) &&& (255 : Int64)) <<< ((32 : Int32) &&& 0x3f).toInt64)) ||| (((x5.toInt64) &&& (255 : Int64)) <<< ((40 : Int32) &&& 0x3f).toInt64))), .second] [(.int x6), (.long (((((((0 : Int64) ||| ((x0.toInt64) &&& (255 : Int64))) ||| (((x1.toInt64) &&& (255 : Int64)) <<< ((8 : Int32) &&& 0x3f).toInt64)) ||| (((x2.toInt64) &&& (255 : Int64)) <<< ((16 : Int32) &&& 0x3f).toInt64)) ||| (((x3.toInt64) &&& (255 : Int64)) <<< ((24 : Int32) &&& 0x3f).toInt64)) ||| (((x4.toInt64) &&& (255 : Int64)) <<< ((32 : Int32) &&& 0x3f).toInt64)) ||| (((x5.toInt64) &&& (255 : Int64)) <<< ((40 : Int32) &&& 0x3f).toInt64)))])) _
  refine own_go (fun _ k => XS.i2l X0.here hx rfl (hb hby d10_100) rfl k) ?_
  show own_G p e below (s₁.setTop (mkF m 101 #[.val (.ref a1), .val (.int (0 : Int32)), .val (.long (((((((0 : Int64) ||| ((x0.toInt64) &&& (255 : Int64))) ||| (((x1.toInt64) &&& (255 : Int64)) <<< ((8 : Int32) &&& 0x3f).toInt64)) ||| (((x2.toInt64) &&& (255 : Int64)) <<< ((16 : Int32) &&& 0x3f).toInt64)) ||| (((x3.toInt64) &&& (255 : Int64)) <<< ((24 : Int32) &&& 0x3f).toInt64)) ||| (((x4.toInt64) &&& (255 : Int64)) <<< ((32 : Int32) &&& 0x3f).toInt64)) ||| (((x5.toInt64) &&& (255 : Int64)) <<< ((40 : Int32) &&& 0x3f).toInt64))), .second] [(.long (x6.toInt64)), (.long (((((((0 : Int64) ||| ((x0.toInt64) &&& (255 : Int64))) ||| (((x1.toInt64) &&& (255 : Int64)) <<< ((8 : Int32) &&& 0x3f).toInt64)) ||| (((x2.toInt64) &&& (255 : Int64)) <<< ((16 : Int32) &&& 0x3f).toInt64)) ||| (((x3.toInt64) &&& (255 : Int64)) <<< ((24 : Int32) &&& 0x3f).toInt64)) ||| (((x4.toInt64) &&& (255 : Int64)) <<< ((32 : Int32) &&& 0x3f).toInt64)) ||| (((x5.toInt64) &&& (255 : Int64)) <<< ((40 : Int32) &&& 0x3f).toInt64)))])) _
  refine own_go (X0.ldc2Long hx hown (mvT hZ (hw _ (List.mem_of_getElem? (i := 62) rfl))) (g := (mkF m 101 #[.val (.ref a1), .val (.int (0 : Int32)), .val (.long (((((((0 : Int64) ||| ((x0.toInt64) &&& (255 : Int64))) ||| (((x1.toInt64) &&& (255 : Int64)) <<< ((8 : Int32) &&& 0x3f).toInt64)) ||| (((x2.toInt64) &&& (255 : Int64)) <<< ((16 : Int32) &&& 0x3f).toInt64)) ||| (((x3.toInt64) &&& (255 : Int64)) <<< ((24 : Int32) &&& 0x3f).toInt64)) ||| (((x4.toInt64) &&& (255 : Int64)) <<< ((32 : Int32) &&& 0x3f).toInt64)) ||| (((x5.toInt64) &&& (255 : Int64)) <<< ((40 : Int32) &&& 0x3f).toInt64))), .second] [(.long (x6.toInt64)), (.long (((((((0 : Int64) ||| ((x0.toInt64) &&& (255 : Int64))) ||| (((x1.toInt64) &&& (255 : Int64)) <<< ((8 : Int32) &&& 0x3f).toInt64)) ||| (((x2.toInt64) &&& (255 : Int64)) <<< ((16 : Int32) &&& 0x3f).toInt64)) ||| (((x3.toInt64) &&& (255 : Int64)) <<< ((24 : Int32) &&& 0x3f).toInt64)) ||| (((x4.toInt64) &&& (255 : Int64)) <<< ((32 : Int32) &&& 0x3f).toInt64)) ||| (((x5.toInt64) &&& (255 : Int64)) <<< ((40 : Int32) &&& 0x3f).toInt64)))])) rfl (hb hby d10_101)) ?_
  show own_G p e below (s₁.setTop (mkF m 104 #[.val (.ref a1), .val (.int (0 : Int32)), .val (.long (((((((0 : Int64) ||| ((x0.toInt64) &&& (255 : Int64))) ||| (((x1.toInt64) &&& (255 : Int64)) <<< ((8 : Int32) &&& 0x3f).toInt64)) ||| (((x2.toInt64) &&& (255 : Int64)) <<< ((16 : Int32) &&& 0x3f).toInt64)) ||| (((x3.toInt64) &&& (255 : Int64)) <<< ((24 : Int32) &&& 0x3f).toInt64)) ||| (((x4.toInt64) &&& (255 : Int64)) <<< ((32 : Int32) &&& 0x3f).toInt64)) ||| (((x5.toInt64) &&& (255 : Int64)) <<< ((40 : Int32) &&& 0x3f).toInt64))), .second] [(.long (255 : Int64)), (.long (x6.toInt64)), (.long (((((((0 : Int64) ||| ((x0.toInt64) &&& (255 : Int64))) ||| (((x1.toInt64) &&& (255 : Int64)) <<< ((8 : Int32) &&& 0x3f).toInt64)) ||| (((x2.toInt64) &&& (255 : Int64)) <<< ((16 : Int32) &&& 0x3f).toInt64)) ||| (((x3.toInt64) &&& (255 : Int64)) <<< ((24 : Int32) &&& 0x3f).toInt64)) ||| (((x4.toInt64) &&& (255 : Int64)) <<< ((32 : Int32) &&& 0x3f).toInt64)) ||| (((x5.toInt64) &&& (255 : Int64)) <<< ((40 : Int32) &&& 0x3f).toInt64)))])) _
  refine own_go (fun _ k => XS.land X0.here hx rfl (hb hby d10_104) rfl k) ?_
  show own_G p e below (s₁.setTop (mkF m 105 #[.val (.ref a1), .val (.int (0 : Int32)), .val (.long (((((((0 : Int64) ||| ((x0.toInt64) &&& (255 : Int64))) ||| (((x1.toInt64) &&& (255 : Int64)) <<< ((8 : Int32) &&& 0x3f).toInt64)) ||| (((x2.toInt64) &&& (255 : Int64)) <<< ((16 : Int32) &&& 0x3f).toInt64)) ||| (((x3.toInt64) &&& (255 : Int64)) <<< ((24 : Int32) &&& 0x3f).toInt64)) ||| (((x4.toInt64) &&& (255 : Int64)) <<< ((32 : Int32) &&& 0x3f).toInt64)) ||| (((x5.toInt64) &&& (255 : Int64)) <<< ((40 : Int32) &&& 0x3f).toInt64))), .second] [(.long ((x6.toInt64) &&& (255 : Int64))), (.long (((((((0 : Int64) ||| ((x0.toInt64) &&& (255 : Int64))) ||| (((x1.toInt64) &&& (255 : Int64)) <<< ((8 : Int32) &&& 0x3f).toInt64)) ||| (((x2.toInt64) &&& (255 : Int64)) <<< ((16 : Int32) &&& 0x3f).toInt64)) ||| (((x3.toInt64) &&& (255 : Int64)) <<< ((24 : Int32) &&& 0x3f).toInt64)) ||| (((x4.toInt64) &&& (255 : Int64)) <<< ((32 : Int32) &&& 0x3f).toInt64)) ||| (((x5.toInt64) &&& (255 : Int64)) <<< ((40 : Int32) &&& 0x3f).toInt64)))])) _
  refine own_go (fun _ k => XS.bipush X0.here hx rfl (hb hby d10_105) k) ?_
  show own_G p e below (s₁.setTop (mkF m 107 #[.val (.ref a1), .val (.int (0 : Int32)), .val (.long (((((((0 : Int64) ||| ((x0.toInt64) &&& (255 : Int64))) ||| (((x1.toInt64) &&& (255 : Int64)) <<< ((8 : Int32) &&& 0x3f).toInt64)) ||| (((x2.toInt64) &&& (255 : Int64)) <<< ((16 : Int32) &&& 0x3f).toInt64)) ||| (((x3.toInt64) &&& (255 : Int64)) <<< ((24 : Int32) &&& 0x3f).toInt64)) ||| (((x4.toInt64) &&& (255 : Int64)) <<< ((32 : Int32) &&& 0x3f).toInt64)) ||| (((x5.toInt64) &&& (255 : Int64)) <<< ((40 : Int32) &&& 0x3f).toInt64))), .second] [(.int (48 : Int32)), (.long ((x6.toInt64) &&& (255 : Int64))), (.long (((((((0 : Int64) ||| ((x0.toInt64) &&& (255 : Int64))) ||| (((x1.toInt64) &&& (255 : Int64)) <<< ((8 : Int32) &&& 0x3f).toInt64)) ||| (((x2.toInt64) &&& (255 : Int64)) <<< ((16 : Int32) &&& 0x3f).toInt64)) ||| (((x3.toInt64) &&& (255 : Int64)) <<< ((24 : Int32) &&& 0x3f).toInt64)) ||| (((x4.toInt64) &&& (255 : Int64)) <<< ((32 : Int32) &&& 0x3f).toInt64)) ||| (((x5.toInt64) &&& (255 : Int64)) <<< ((40 : Int32) &&& 0x3f).toInt64)))])) _
  refine own_go (fun _ k => XS.lshl X0.here hx rfl (hb hby d10_107) rfl k) ?_
  show own_G p e below (s₁.setTop (mkF m 108 #[.val (.ref a1), .val (.int (0 : Int32)), .val (.long (((((((0 : Int64) ||| ((x0.toInt64) &&& (255 : Int64))) ||| (((x1.toInt64) &&& (255 : Int64)) <<< ((8 : Int32) &&& 0x3f).toInt64)) ||| (((x2.toInt64) &&& (255 : Int64)) <<< ((16 : Int32) &&& 0x3f).toInt64)) ||| (((x3.toInt64) &&& (255 : Int64)) <<< ((24 : Int32) &&& 0x3f).toInt64)) ||| (((x4.toInt64) &&& (255 : Int64)) <<< ((32 : Int32) &&& 0x3f).toInt64)) ||| (((x5.toInt64) &&& (255 : Int64)) <<< ((40 : Int32) &&& 0x3f).toInt64))), .second] [(.long (((x6.toInt64) &&& (255 : Int64)) <<< ((48 : Int32) &&& 0x3f).toInt64)), (.long (((((((0 : Int64) ||| ((x0.toInt64) &&& (255 : Int64))) ||| (((x1.toInt64) &&& (255 : Int64)) <<< ((8 : Int32) &&& 0x3f).toInt64)) ||| (((x2.toInt64) &&& (255 : Int64)) <<< ((16 : Int32) &&& 0x3f).toInt64)) ||| (((x3.toInt64) &&& (255 : Int64)) <<< ((24 : Int32) &&& 0x3f).toInt64)) ||| (((x4.toInt64) &&& (255 : Int64)) <<< ((32 : Int32) &&& 0x3f).toInt64)) ||| (((x5.toInt64) &&& (255 : Int64)) <<< ((40 : Int32) &&& 0x3f).toInt64)))])) _
  refine own_go (fun _ k => XS.lor X0.here hx rfl (hb hby d10_108) rfl k) ?_
  show own_G p e below (s₁.setTop (mkF m 109 #[.val (.ref a1), .val (.int (0 : Int32)), .val (.long (((((((0 : Int64) ||| ((x0.toInt64) &&& (255 : Int64))) ||| (((x1.toInt64) &&& (255 : Int64)) <<< ((8 : Int32) &&& 0x3f).toInt64)) ||| (((x2.toInt64) &&& (255 : Int64)) <<< ((16 : Int32) &&& 0x3f).toInt64)) ||| (((x3.toInt64) &&& (255 : Int64)) <<< ((24 : Int32) &&& 0x3f).toInt64)) ||| (((x4.toInt64) &&& (255 : Int64)) <<< ((32 : Int32) &&& 0x3f).toInt64)) ||| (((x5.toInt64) &&& (255 : Int64)) <<< ((40 : Int32) &&& 0x3f).toInt64))), .second] [(.long ((((((((0 : Int64) ||| ((x0.toInt64) &&& (255 : Int64))) ||| (((x1.toInt64) &&& (255 : Int64)) <<< ((8 : Int32) &&& 0x3f).toInt64)) ||| (((x2.toInt64) &&& (255 : Int64)) <<< ((16 : Int32) &&& 0x3f).toInt64)) ||| (((x3.toInt64) &&& (255 : Int64)) <<< ((24 : Int32) &&& 0x3f).toInt64)) ||| (((x4.toInt64) &&& (255 : Int64)) <<< ((32 : Int32) &&& 0x3f).toInt64)) ||| (((x5.toInt64) &&& (255 : Int64)) <<< ((40 : Int32) &&& 0x3f).toInt64)) ||| (((x6.toInt64) &&& (255 : Int64)) <<< ((48 : Int32) &&& 0x3f).toInt64)))])) _
  refine own_go (fun _ k => XS.lstoreN X0.here hx rfl (hb hby d10_109) rfl (l' := #[.val (.ref a1), .val (.int (0 : Int32)), .val (.long ((((((((0 : Int64) ||| ((x0.toInt64) &&& (255 : Int64))) ||| (((x1.toInt64) &&& (255 : Int64)) <<< ((8 : Int32) &&& 0x3f).toInt64)) ||| (((x2.toInt64) &&& (255 : Int64)) <<< ((16 : Int32) &&& 0x3f).toInt64)) ||| (((x3.toInt64) &&& (255 : Int64)) <<< ((24 : Int32) &&& 0x3f).toInt64)) ||| (((x4.toInt64) &&& (255 : Int64)) <<< ((32 : Int32) &&& 0x3f).toInt64)) ||| (((x5.toInt64) &&& (255 : Int64)) <<< ((40 : Int32) &&& 0x3f).toInt64)) ||| (((x6.toInt64) &&& (255 : Int64)) <<< ((48 : Int32) &&& 0x3f).toInt64))), .second]) rfl k) ?_
  show own_G p e below (s₁.setTop (mkF m 110 #[.val (.ref a1), .val (.int (0 : Int32)), .val (.long ((((((((0 : Int64) ||| ((x0.toInt64) &&& (255 : Int64))) ||| (((x1.toInt64) &&& (255 : Int64)) <<< ((8 : Int32) &&& 0x3f).toInt64)) ||| (((x2.toInt64) &&& (255 : Int64)) <<< ((16 : Int32) &&& 0x3f).toInt64)) ||| (((x3.toInt64) &&& (255 : Int64)) <<< ((24 : Int32) &&& 0x3f).toInt64)) ||| (((x4.toInt64) &&& (255 : Int64)) <<< ((32 : Int32) &&& 0x3f).toInt64)) ||| (((x5.toInt64) &&& (255 : Int64)) <<< ((40 : Int32) &&& 0x3f).toInt64)) ||| (((x6.toInt64) &&& (255 : Int64)) <<< ((48 : Int32) &&& 0x3f).toInt64))), .second] [])) _
  refine own_go (fun _ k => XS.lloadN X0.here hx rfl (hb hby d10_110) rfl k) ?_
  show own_G p e below (s₁.setTop (mkF m 111 #[.val (.ref a1), .val (.int (0 : Int32)), .val (.long ((((((((0 : Int64) ||| ((x0.toInt64) &&& (255 : Int64))) ||| (((x1.toInt64) &&& (255 : Int64)) <<< ((8 : Int32) &&& 0x3f).toInt64)) ||| (((x2.toInt64) &&& (255 : Int64)) <<< ((16 : Int32) &&& 0x3f).toInt64)) ||| (((x3.toInt64) &&& (255 : Int64)) <<< ((24 : Int32) &&& 0x3f).toInt64)) ||| (((x4.toInt64) &&& (255 : Int64)) <<< ((32 : Int32) &&& 0x3f).toInt64)) ||| (((x5.toInt64) &&& (255 : Int64)) <<< ((40 : Int32) &&& 0x3f).toInt64)) ||| (((x6.toInt64) &&& (255 : Int64)) <<< ((48 : Int32) &&& 0x3f).toInt64))), .second] [(.long ((((((((0 : Int64) ||| ((x0.toInt64) &&& (255 : Int64))) ||| (((x1.toInt64) &&& (255 : Int64)) <<< ((8 : Int32) &&& 0x3f).toInt64)) ||| (((x2.toInt64) &&& (255 : Int64)) <<< ((16 : Int32) &&& 0x3f).toInt64)) ||| (((x3.toInt64) &&& (255 : Int64)) <<< ((24 : Int32) &&& 0x3f).toInt64)) ||| (((x4.toInt64) &&& (255 : Int64)) <<< ((32 : Int32) &&& 0x3f).toInt64)) ||| (((x5.toInt64) &&& (255 : Int64)) <<< ((40 : Int32) &&& 0x3f).toInt64)) ||| (((x6.toInt64) &&& (255 : Int64)) <<< ((48 : Int32) &&& 0x3f).toInt64)))])) _
  refine own_go (fun _ k => XS.aloadN X0.here hx rfl (hb hby d10_111) rfl rfl k) ?_
  show own_G p e below (s₁.setTop (mkF m 112 #[.val (.ref a1), .val (.int (0 : Int32)), .val (.long ((((((((0 : Int64) ||| ((x0.toInt64) &&& (255 : Int64))) ||| (((x1.toInt64) &&& (255 : Int64)) <<< ((8 : Int32) &&& 0x3f).toInt64)) ||| (((x2.toInt64) &&& (255 : Int64)) <<< ((16 : Int32) &&& 0x3f).toInt64)) ||| (((x3.toInt64) &&& (255 : Int64)) <<< ((24 : Int32) &&& 0x3f).toInt64)) ||| (((x4.toInt64) &&& (255 : Int64)) <<< ((32 : Int32) &&& 0x3f).toInt64)) ||| (((x5.toInt64) &&& (255 : Int64)) <<< ((40 : Int32) &&& 0x3f).toInt64)) ||| (((x6.toInt64) &&& (255 : Int64)) <<< ((48 : Int32) &&& 0x3f).toInt64))), .second] [(.ref a1), (.long ((((((((0 : Int64) ||| ((x0.toInt64) &&& (255 : Int64))) ||| (((x1.toInt64) &&& (255 : Int64)) <<< ((8 : Int32) &&& 0x3f).toInt64)) ||| (((x2.toInt64) &&& (255 : Int64)) <<< ((16 : Int32) &&& 0x3f).toInt64)) ||| (((x3.toInt64) &&& (255 : Int64)) <<< ((24 : Int32) &&& 0x3f).toInt64)) ||| (((x4.toInt64) &&& (255 : Int64)) <<< ((32 : Int32) &&& 0x3f).toInt64)) ||| (((x5.toInt64) &&& (255 : Int64)) <<< ((40 : Int32) &&& 0x3f).toInt64)) ||| (((x6.toInt64) &&& (255 : Int64)) <<< ((48 : Int32) &&& 0x3f).toInt64)))])) _
  refine own_go (fun _ k => XS.iloadN X0.here hx rfl (hb hby d10_112) rfl k) ?_
  show own_G p e below (s₁.setTop (mkF m 113 #[.val (.ref a1), .val (.int (0 : Int32)), .val (.long ((((((((0 : Int64) ||| ((x0.toInt64) &&& (255 : Int64))) ||| (((x1.toInt64) &&& (255 : Int64)) <<< ((8 : Int32) &&& 0x3f).toInt64)) ||| (((x2.toInt64) &&& (255 : Int64)) <<< ((16 : Int32) &&& 0x3f).toInt64)) ||| (((x3.toInt64) &&& (255 : Int64)) <<< ((24 : Int32) &&& 0x3f).toInt64)) ||| (((x4.toInt64) &&& (255 : Int64)) <<< ((32 : Int32) &&& 0x3f).toInt64)) ||| (((x5.toInt64) &&& (255 : Int64)) <<< ((40 : Int32) &&& 0x3f).toInt64)) ||| (((x6.toInt64) &&& (255 : Int64)) <<< ((48 : Int32) &&& 0x3f).toInt64))), .second] [(.int (0 : Int32)), (.ref a1), (.long ((((((((0 : Int64) ||| ((x0.toInt64) &&& (255 : Int64))) ||| (((x1.toInt64) &&& (255 : Int64)) <<< ((8 : Int32) &&& 0x3f).toInt64)) ||| (((x2.toInt64) &&& (255 : Int64)) <<< ((16 : Int32) &&& 0x3f).toInt64)) ||| (((x3.toInt64) &&& (255 : Int64)) <<< ((24 : Int32) &&& 0x3f).toInt64)) ||| (((x4.toInt64) &&& (255 : Int64)) <<< ((32 : Int32) &&& 0x3f).toInt64)) ||| (((x5.toInt64) &&& (255 : Int64)) <<< ((40 : Int32) &&& 0x3f).toInt64)) ||| (((x6.toInt64) &&& (255 : Int64)) <<< ((48 : Int32) &&& 0x3f).toInt64)))])) _
  refine own_go (fun _ k => XS.bipush X0.here hx rfl (hb hby d10_113) k) ?_
  show own_G p e below (s₁.setTop (mkF m 115 #[.val (.ref a1), .val (.int (0 : Int32)), .val (.long ((((((((0 : Int64) ||| ((x0.toInt64) &&& (255 : Int64))) ||| (((x1.toInt64) &&& (255 : Int64)) <<< ((8 : Int32) &&& 0x3f).toInt64)) ||| (((x2.toInt64) &&& (255 : Int64)) <<< ((16 : Int32) &&& 0x3f).toInt64)) ||| (((x3.toInt64) &&& (255 : Int64)) <<< ((24 : Int32) &&& 0x3f).toInt64)) ||| (((x4.toInt64) &&& (255 : Int64)) <<< ((32 : Int32) &&& 0x3f).toInt64)) ||| (((x5.toInt64) &&& (255 : Int64)) <<< ((40 : Int32) &&& 0x3f).toInt64)) ||| (((x6.toInt64) &&& (255 : Int64)) <<< ((48 : Int32) &&& 0x3f).toInt64))), .second] [(.int (7 : Int32)), (.int (0 : Int32)), (.ref a1), (.long ((((((((0 : Int64) ||| ((x0.toInt64) &&& (255 : Int64))) ||| (((x1.toInt64) &&& (255 : Int64)) <<< ((8 : Int32) &&& 0x3f).toInt64)) ||| (((x2.toInt64) &&& (255 : Int64)) <<< ((16 : Int32) &&& 0x3f).toInt64)) ||| (((x3.toInt64) &&& (255 : Int64)) <<< ((24 : Int32) &&& 0x3f).toInt64)) ||| (((x4.toInt64) &&& (255 : Int64)) <<< ((32 : Int32) &&& 0x3f).toInt64)) ||| (((x5.toInt64) &&& (255 : Int64)) <<< ((40 : Int32) &&& 0x3f).toInt64)) ||| (((x6.toInt64) &&& (255 : Int64)) <<< ((48 : Int32) &&& 0x3f).toInt64)))])) _
  refine own_go (fun _ k => XS.iadd X0.here hx rfl (hb hby d10_115) rfl k) ?_
  show own_G p e below (s₁.setTop (mkF m 116 #[.val (.ref a1), .val (.int (0 : Int32)), .val (.long ((((((((0 : Int64) ||| ((x0.toInt64) &&& (255 : Int64))) ||| (((x1.toInt64) &&& (255 : Int64)) <<< ((8 : Int32) &&& 0x3f).toInt64)) ||| (((x2.toInt64) &&& (255 : Int64)) <<< ((16 : Int32) &&& 0x3f).toInt64)) ||| (((x3.toInt64) &&& (255 : Int64)) <<< ((24 : Int32) &&& 0x3f).toInt64)) ||| (((x4.toInt64) &&& (255 : Int64)) <<< ((32 : Int32) &&& 0x3f).toInt64)) ||| (((x5.toInt64) &&& (255 : Int64)) <<< ((40 : Int32) &&& 0x3f).toInt64)) ||| (((x6.toInt64) &&& (255 : Int64)) <<< ((48 : Int32) &&& 0x3f).toInt64))), .second] [(.int (7 : Int32)), (.ref a1), (.long ((((((((0 : Int64) ||| ((x0.toInt64) &&& (255 : Int64))) ||| (((x1.toInt64) &&& (255 : Int64)) <<< ((8 : Int32) &&& 0x3f).toInt64)) ||| (((x2.toInt64) &&& (255 : Int64)) <<< ((16 : Int32) &&& 0x3f).toInt64)) ||| (((x3.toInt64) &&& (255 : Int64)) <<< ((24 : Int32) &&& 0x3f).toInt64)) ||| (((x4.toInt64) &&& (255 : Int64)) <<< ((32 : Int32) &&& 0x3f).toInt64)) ||| (((x5.toInt64) &&& (255 : Int64)) <<< ((40 : Int32) &&& 0x3f).toInt64)) ||| (((x6.toInt64) &&& (255 : Int64)) <<< ((48 : Int32) &&& 0x3f).toInt64)))])) _
  obtain ⟨cl221, Ar221, q221, S221, M221, B221, G221⟩ := id V_a1
  have hin221 : ¬ ((7 : Int32) < 0 ∨ cl221.slots.size ≤ ((7 : Int32)).toNatClampNeg) := inb_of S221 ⟨by decide, by decide⟩
  have hat221 : cl221.slots[((7 : Int32)).toNatClampNeg]? = some (.int x7) := B221.at hin221 rfl
  refine own_go (X0.baloadBytes hx (j := (7 : Int32)) (v := (.int x7)) (by rw [e0]; exact Ar221.1) (State.isArrayOf_alike hZ.alike Ar221.2.1) Ar221.2.2 hin221 hat221 (g := (mkF m 116 #[.val (.ref a1), .val (.int (0 : Int32)), .val (.long ((((((((0 : Int64) ||| ((x0.toInt64) &&& (255 : Int64))) ||| (((x1.toInt64) &&& (255 : Int64)) <<< ((8 : Int32) &&& 0x3f).toInt64)) ||| (((x2.toInt64) &&& (255 : Int64)) <<< ((16 : Int32) &&& 0x3f).toInt64)) ||| (((x3.toInt64) &&& (255 : Int64)) <<< ((24 : Int32) &&& 0x3f).toInt64)) ||| (((x4.toInt64) &&& (255 : Int64)) <<< ((32 : Int32) &&& 0x3f).toInt64)) ||| (((x5.toInt64) &&& (255 : Int64)) <<< ((40 : Int32) &&& 0x3f).toInt64)) ||| (((x6.toInt64) &&& (255 : Int64)) <<< ((48 : Int32) &&& 0x3f).toInt64))), .second] [(.int (7 : Int32)), (.ref a1), (.long ((((((((0 : Int64) ||| ((x0.toInt64) &&& (255 : Int64))) ||| (((x1.toInt64) &&& (255 : Int64)) <<< ((8 : Int32) &&& 0x3f).toInt64)) ||| (((x2.toInt64) &&& (255 : Int64)) <<< ((16 : Int32) &&& 0x3f).toInt64)) ||| (((x3.toInt64) &&& (255 : Int64)) <<< ((24 : Int32) &&& 0x3f).toInt64)) ||| (((x4.toInt64) &&& (255 : Int64)) <<< ((32 : Int32) &&& 0x3f).toInt64)) ||| (((x5.toInt64) &&& (255 : Int64)) <<< ((40 : Int32) &&& 0x3f).toInt64)) ||| (((x6.toInt64) &&& (255 : Int64)) <<< ((48 : Int32) &&& 0x3f).toInt64)))])) rfl rfl (hb hby d10_116)) ?_
  show own_G p e below (s₁.setTop (mkF m 117 #[.val (.ref a1), .val (.int (0 : Int32)), .val (.long ((((((((0 : Int64) ||| ((x0.toInt64) &&& (255 : Int64))) ||| (((x1.toInt64) &&& (255 : Int64)) <<< ((8 : Int32) &&& 0x3f).toInt64)) ||| (((x2.toInt64) &&& (255 : Int64)) <<< ((16 : Int32) &&& 0x3f).toInt64)) ||| (((x3.toInt64) &&& (255 : Int64)) <<< ((24 : Int32) &&& 0x3f).toInt64)) ||| (((x4.toInt64) &&& (255 : Int64)) <<< ((32 : Int32) &&& 0x3f).toInt64)) ||| (((x5.toInt64) &&& (255 : Int64)) <<< ((40 : Int32) &&& 0x3f).toInt64)) ||| (((x6.toInt64) &&& (255 : Int64)) <<< ((48 : Int32) &&& 0x3f).toInt64))), .second] [(.int x7), (.long ((((((((0 : Int64) ||| ((x0.toInt64) &&& (255 : Int64))) ||| (((x1.toInt64) &&& (255 : Int64)) <<< ((8 : Int32) &&& 0x3f).toInt64)) ||| (((x2.toInt64) &&& (255 : Int64)) <<< ((16 : Int32) &&& 0x3f).toInt64)) ||| (((x3.toInt64) &&& (255 : Int64)) <<< ((24 : Int32) &&& 0x3f).toInt64)) ||| (((x4.toInt64) &&& (255 : Int64)) <<< ((32 : Int32) &&& 0x3f).toInt64)) ||| (((x5.toInt64) &&& (255 : Int64)) <<< ((40 : Int32) &&& 0x3f).toInt64)) ||| (((x6.toInt64) &&& (255 : Int64)) <<< ((48 : Int32) &&& 0x3f).toInt64)))])) _
  refine own_go (fun _ k => XS.i2l X0.here hx rfl (hb hby d10_117) rfl k) ?_
  show own_G p e below (s₁.setTop (mkF m 118 #[.val (.ref a1), .val (.int (0 : Int32)), .val (.long ((((((((0 : Int64) ||| ((x0.toInt64) &&& (255 : Int64))) ||| (((x1.toInt64) &&& (255 : Int64)) <<< ((8 : Int32) &&& 0x3f).toInt64)) ||| (((x2.toInt64) &&& (255 : Int64)) <<< ((16 : Int32) &&& 0x3f).toInt64)) ||| (((x3.toInt64) &&& (255 : Int64)) <<< ((24 : Int32) &&& 0x3f).toInt64)) ||| (((x4.toInt64) &&& (255 : Int64)) <<< ((32 : Int32) &&& 0x3f).toInt64)) ||| (((x5.toInt64) &&& (255 : Int64)) <<< ((40 : Int32) &&& 0x3f).toInt64)) ||| (((x6.toInt64) &&& (255 : Int64)) <<< ((48 : Int32) &&& 0x3f).toInt64))), .second] [(.long (x7.toInt64)), (.long ((((((((0 : Int64) ||| ((x0.toInt64) &&& (255 : Int64))) ||| (((x1.toInt64) &&& (255 : Int64)) <<< ((8 : Int32) &&& 0x3f).toInt64)) ||| (((x2.toInt64) &&& (255 : Int64)) <<< ((16 : Int32) &&& 0x3f).toInt64)) ||| (((x3.toInt64) &&& (255 : Int64)) <<< ((24 : Int32) &&& 0x3f).toInt64)) ||| (((x4.toInt64) &&& (255 : Int64)) <<< ((32 : Int32) &&& 0x3f).toInt64)) ||| (((x5.toInt64) &&& (255 : Int64)) <<< ((40 : Int32) &&& 0x3f).toInt64)) ||| (((x6.toInt64) &&& (255 : Int64)) <<< ((48 : Int32) &&& 0x3f).toInt64)))])) _
  refine own_go (X0.ldc2Long hx hown (mvT hZ (hw _ (List.mem_of_getElem? (i := 62) rfl))) (g := (mkF m 118 #[.val (.ref a1), .val (.int (0 : Int32)), .val (.long ((((((((0 : Int64) ||| ((x0.toInt64) &&& (255 : Int64))) ||| (((x1.toInt64) &&& (255 : Int64)) <<< ((8 : Int32) &&& 0x3f).toInt64)) ||| (((x2.toInt64) &&& (255 : Int64)) <<< ((16 : Int32) &&& 0x3f).toInt64)) ||| (((x3.toInt64) &&& (255 : Int64)) <<< ((24 : Int32) &&& 0x3f).toInt64)) ||| (((x4.toInt64) &&& (255 : Int64)) <<< ((32 : Int32) &&& 0x3f).toInt64)) ||| (((x5.toInt64) &&& (255 : Int64)) <<< ((40 : Int32) &&& 0x3f).toInt64)) ||| (((x6.toInt64) &&& (255 : Int64)) <<< ((48 : Int32) &&& 0x3f).toInt64))), .second] [(.long (x7.toInt64)), (.long ((((((((0 : Int64) ||| ((x0.toInt64) &&& (255 : Int64))) ||| (((x1.toInt64) &&& (255 : Int64)) <<< ((8 : Int32) &&& 0x3f).toInt64)) ||| (((x2.toInt64) &&& (255 : Int64)) <<< ((16 : Int32) &&& 0x3f).toInt64)) ||| (((x3.toInt64) &&& (255 : Int64)) <<< ((24 : Int32) &&& 0x3f).toInt64)) ||| (((x4.toInt64) &&& (255 : Int64)) <<< ((32 : Int32) &&& 0x3f).toInt64)) ||| (((x5.toInt64) &&& (255 : Int64)) <<< ((40 : Int32) &&& 0x3f).toInt64)) ||| (((x6.toInt64) &&& (255 : Int64)) <<< ((48 : Int32) &&& 0x3f).toInt64)))])) rfl (hb hby d10_118)) ?_
  show own_G p e below (s₁.setTop (mkF m 121 #[.val (.ref a1), .val (.int (0 : Int32)), .val (.long ((((((((0 : Int64) ||| ((x0.toInt64) &&& (255 : Int64))) ||| (((x1.toInt64) &&& (255 : Int64)) <<< ((8 : Int32) &&& 0x3f).toInt64)) ||| (((x2.toInt64) &&& (255 : Int64)) <<< ((16 : Int32) &&& 0x3f).toInt64)) ||| (((x3.toInt64) &&& (255 : Int64)) <<< ((24 : Int32) &&& 0x3f).toInt64)) ||| (((x4.toInt64) &&& (255 : Int64)) <<< ((32 : Int32) &&& 0x3f).toInt64)) ||| (((x5.toInt64) &&& (255 : Int64)) <<< ((40 : Int32) &&& 0x3f).toInt64)) ||| (((x6.toInt64) &&& (255 : Int64)) <<< ((48 : Int32) &&& 0x3f).toInt64))), .second] [(.long (255 : Int64)), (.long (x7.toInt64)), (.long ((((((((0 : Int64) ||| ((x0.toInt64) &&& (255 : Int64))) ||| (((x1.toInt64) &&& (255 : Int64)) <<< ((8 : Int32) &&& 0x3f).toInt64)) ||| (((x2.toInt64) &&& (255 : Int64)) <<< ((16 : Int32) &&& 0x3f).toInt64)) ||| (((x3.toInt64) &&& (255 : Int64)) <<< ((24 : Int32) &&& 0x3f).toInt64)) ||| (((x4.toInt64) &&& (255 : Int64)) <<< ((32 : Int32) &&& 0x3f).toInt64)) ||| (((x5.toInt64) &&& (255 : Int64)) <<< ((40 : Int32) &&& 0x3f).toInt64)) ||| (((x6.toInt64) &&& (255 : Int64)) <<< ((48 : Int32) &&& 0x3f).toInt64)))])) _
  refine own_go (fun _ k => XS.land X0.here hx rfl (hb hby d10_121) rfl k) ?_
  show own_G p e below (s₁.setTop (mkF m 122 #[.val (.ref a1), .val (.int (0 : Int32)), .val (.long ((((((((0 : Int64) ||| ((x0.toInt64) &&& (255 : Int64))) ||| (((x1.toInt64) &&& (255 : Int64)) <<< ((8 : Int32) &&& 0x3f).toInt64)) ||| (((x2.toInt64) &&& (255 : Int64)) <<< ((16 : Int32) &&& 0x3f).toInt64)) ||| (((x3.toInt64) &&& (255 : Int64)) <<< ((24 : Int32) &&& 0x3f).toInt64)) ||| (((x4.toInt64) &&& (255 : Int64)) <<< ((32 : Int32) &&& 0x3f).toInt64)) ||| (((x5.toInt64) &&& (255 : Int64)) <<< ((40 : Int32) &&& 0x3f).toInt64)) ||| (((x6.toInt64) &&& (255 : Int64)) <<< ((48 : Int32) &&& 0x3f).toInt64))), .second] [(.long ((x7.toInt64) &&& (255 : Int64))), (.long ((((((((0 : Int64) ||| ((x0.toInt64) &&& (255 : Int64))) ||| (((x1.toInt64) &&& (255 : Int64)) <<< ((8 : Int32) &&& 0x3f).toInt64)) ||| (((x2.toInt64) &&& (255 : Int64)) <<< ((16 : Int32) &&& 0x3f).toInt64)) ||| (((x3.toInt64) &&& (255 : Int64)) <<< ((24 : Int32) &&& 0x3f).toInt64)) ||| (((x4.toInt64) &&& (255 : Int64)) <<< ((32 : Int32) &&& 0x3f).toInt64)) ||| (((x5.toInt64) &&& (255 : Int64)) <<< ((40 : Int32) &&& 0x3f).toInt64)) ||| (((x6.toInt64) &&& (255 : Int64)) <<< ((48 : Int32) &&& 0x3f).toInt64)))])) _
  refine own_go (fun _ k => XS.bipush X0.here hx rfl (hb hby d10_122) k) ?_
  show own_G p e below (s₁.setTop (mkF m 124 #[.val (.ref a1), .val (.int (0 : Int32)), .val (.long ((((((((0 : Int64) ||| ((x0.toInt64) &&& (255 : Int64))) ||| (((x1.toInt64) &&& (255 : Int64)) <<< ((8 : Int32) &&& 0x3f).toInt64)) ||| (((x2.toInt64) &&& (255 : Int64)) <<< ((16 : Int32) &&& 0x3f).toInt64)) ||| (((x3.toInt64) &&& (255 : Int64)) <<< ((24 : Int32) &&& 0x3f).toInt64)) ||| (((x4.toInt64) &&& (255 : Int64)) <<< ((32 : Int32) &&& 0x3f).toInt64)) ||| (((x5.toInt64) &&& (255 : Int64)) <<< ((40 : Int32) &&& 0x3f).toInt64)) ||| (((x6.toInt64) &&& (255 : Int64)) <<< ((48 : Int32) &&& 0x3f).toInt64))), .second] [(.int (56 : Int32)), (.long ((x7.toInt64) &&& (255 : Int64))), (.long ((((((((0 : Int64) ||| ((x0.toInt64) &&& (255 : Int64))) ||| (((x1.toInt64) &&& (255 : Int64)) <<< ((8 : Int32) &&& 0x3f).toInt64)) ||| (((x2.toInt64) &&& (255 : Int64)) <<< ((16 : Int32) &&& 0x3f).toInt64)) ||| (((x3.toInt64) &&& (255 : Int64)) <<< ((24 : Int32) &&& 0x3f).toInt64)) ||| (((x4.toInt64) &&& (255 : Int64)) <<< ((32 : Int32) &&& 0x3f).toInt64)) ||| (((x5.toInt64) &&& (255 : Int64)) <<< ((40 : Int32) &&& 0x3f).toInt64)) ||| (((x6.toInt64) &&& (255 : Int64)) <<< ((48 : Int32) &&& 0x3f).toInt64)))])) _
  refine own_go (fun _ k => XS.lshl X0.here hx rfl (hb hby d10_124) rfl k) ?_
  show own_G p e below (s₁.setTop (mkF m 125 #[.val (.ref a1), .val (.int (0 : Int32)), .val (.long ((((((((0 : Int64) ||| ((x0.toInt64) &&& (255 : Int64))) ||| (((x1.toInt64) &&& (255 : Int64)) <<< ((8 : Int32) &&& 0x3f).toInt64)) ||| (((x2.toInt64) &&& (255 : Int64)) <<< ((16 : Int32) &&& 0x3f).toInt64)) ||| (((x3.toInt64) &&& (255 : Int64)) <<< ((24 : Int32) &&& 0x3f).toInt64)) ||| (((x4.toInt64) &&& (255 : Int64)) <<< ((32 : Int32) &&& 0x3f).toInt64)) ||| (((x5.toInt64) &&& (255 : Int64)) <<< ((40 : Int32) &&& 0x3f).toInt64)) ||| (((x6.toInt64) &&& (255 : Int64)) <<< ((48 : Int32) &&& 0x3f).toInt64))), .second] [(.long (((x7.toInt64) &&& (255 : Int64)) <<< ((56 : Int32) &&& 0x3f).toInt64)), (.long ((((((((0 : Int64) ||| ((x0.toInt64) &&& (255 : Int64))) ||| (((x1.toInt64) &&& (255 : Int64)) <<< ((8 : Int32) &&& 0x3f).toInt64)) ||| (((x2.toInt64) &&& (255 : Int64)) <<< ((16 : Int32) &&& 0x3f).toInt64)) ||| (((x3.toInt64) &&& (255 : Int64)) <<< ((24 : Int32) &&& 0x3f).toInt64)) ||| (((x4.toInt64) &&& (255 : Int64)) <<< ((32 : Int32) &&& 0x3f).toInt64)) ||| (((x5.toInt64) &&& (255 : Int64)) <<< ((40 : Int32) &&& 0x3f).toInt64)) ||| (((x6.toInt64) &&& (255 : Int64)) <<< ((48 : Int32) &&& 0x3f).toInt64)))])) _
  refine own_go (fun _ k => XS.lor X0.here hx rfl (hb hby d10_125) rfl k) ?_
  show own_G p e below (s₁.setTop (mkF m 126 #[.val (.ref a1), .val (.int (0 : Int32)), .val (.long ((((((((0 : Int64) ||| ((x0.toInt64) &&& (255 : Int64))) ||| (((x1.toInt64) &&& (255 : Int64)) <<< ((8 : Int32) &&& 0x3f).toInt64)) ||| (((x2.toInt64) &&& (255 : Int64)) <<< ((16 : Int32) &&& 0x3f).toInt64)) ||| (((x3.toInt64) &&& (255 : Int64)) <<< ((24 : Int32) &&& 0x3f).toInt64)) ||| (((x4.toInt64) &&& (255 : Int64)) <<< ((32 : Int32) &&& 0x3f).toInt64)) ||| (((x5.toInt64) &&& (255 : Int64)) <<< ((40 : Int32) &&& 0x3f).toInt64)) ||| (((x6.toInt64) &&& (255 : Int64)) <<< ((48 : Int32) &&& 0x3f).toInt64))), .second] [(.long (((((((((0 : Int64) ||| ((x0.toInt64) &&& (255 : Int64))) ||| (((x1.toInt64) &&& (255 : Int64)) <<< ((8 : Int32) &&& 0x3f).toInt64)) ||| (((x2.toInt64) &&& (255 : Int64)) <<< ((16 : Int32) &&& 0x3f).toInt64)) ||| (((x3.toInt64) &&& (255 : Int64)) <<< ((24 : Int32) &&& 0x3f).toInt64)) ||| (((x4.toInt64) &&& (255 : Int64)) <<< ((32 : Int32) &&& 0x3f).toInt64)) ||| (((x5.toInt64) &&& (255 : Int64)) <<< ((40 : Int32) &&& 0x3f).toInt64)) ||| (((x6.toInt64) &&& (255 : Int64)) <<< ((48 : Int32) &&& 0x3f).toInt64)) ||| (((x7.toInt64) &&& (255 : Int64)) <<< ((56 : Int32) &&& 0x3f).toInt64)))])) _
  refine own_go (fun _ k => XS.lstoreN X0.here hx rfl (hb hby d10_126) rfl (l' := #[.val (.ref a1), .val (.int (0 : Int32)), .val (.long (((((((((0 : Int64) ||| ((x0.toInt64) &&& (255 : Int64))) ||| (((x1.toInt64) &&& (255 : Int64)) <<< ((8 : Int32) &&& 0x3f).toInt64)) ||| (((x2.toInt64) &&& (255 : Int64)) <<< ((16 : Int32) &&& 0x3f).toInt64)) ||| (((x3.toInt64) &&& (255 : Int64)) <<< ((24 : Int32) &&& 0x3f).toInt64)) ||| (((x4.toInt64) &&& (255 : Int64)) <<< ((32 : Int32) &&& 0x3f).toInt64)) ||| (((x5.toInt64) &&& (255 : Int64)) <<< ((40 : Int32) &&& 0x3f).toInt64)) ||| (((x6.toInt64) &&& (255 : Int64)) <<< ((48 : Int32) &&& 0x3f).toInt64)) ||| (((x7.toInt64) &&& (255 : Int64)) <<< ((56 : Int32) &&& 0x3f).toInt64))), .second]) rfl k) ?_
  show own_G p e below (s₁.setTop (mkF m 127 #[.val (.ref a1), .val (.int (0 : Int32)), .val (.long (((((((((0 : Int64) ||| ((x0.toInt64) &&& (255 : Int64))) ||| (((x1.toInt64) &&& (255 : Int64)) <<< ((8 : Int32) &&& 0x3f).toInt64)) ||| (((x2.toInt64) &&& (255 : Int64)) <<< ((16 : Int32) &&& 0x3f).toInt64)) ||| (((x3.toInt64) &&& (255 : Int64)) <<< ((24 : Int32) &&& 0x3f).toInt64)) ||| (((x4.toInt64) &&& (255 : Int64)) <<< ((32 : Int32) &&& 0x3f).toInt64)) ||| (((x5.toInt64) &&& (255 : Int64)) <<< ((40 : Int32) &&& 0x3f).toInt64)) ||| (((x6.toInt64) &&& (255 : Int64)) <<< ((48 : Int32) &&& 0x3f).toInt64)) ||| (((x7.toInt64) &&& (255 : Int64)) <<< ((56 : Int32) &&& 0x3f).toInt64))), .second] [])) _
  refine own_go (fun _ k => XS.lloadN X0.here hx rfl (hb hby d10_127) rfl k) ?_
  show own_G p e below (s₁.setTop (mkF m 128 #[.val (.ref a1), .val (.int (0 : Int32)), .val (.long (((((((((0 : Int64) ||| ((x0.toInt64) &&& (255 : Int64))) ||| (((x1.toInt64) &&& (255 : Int64)) <<< ((8 : Int32) &&& 0x3f).toInt64)) ||| (((x2.toInt64) &&& (255 : Int64)) <<< ((16 : Int32) &&& 0x3f).toInt64)) ||| (((x3.toInt64) &&& (255 : Int64)) <<< ((24 : Int32) &&& 0x3f).toInt64)) ||| (((x4.toInt64) &&& (255 : Int64)) <<< ((32 : Int32) &&& 0x3f).toInt64)) ||| (((x5.toInt64) &&& (255 : Int64)) <<< ((40 : Int32) &&& 0x3f).toInt64)) ||| (((x6.toInt64) &&& (255 : Int64)) <<< ((48 : Int32) &&& 0x3f).toInt64)) ||| (((x7.toInt64) &&& (255 : Int64)) <<< ((56 : Int32) &&& 0x3f).toInt64))), .second] [(.long (((((((((0 : Int64) ||| ((x0.toInt64) &&& (255 : Int64))) ||| (((x1.toInt64) &&& (255 : Int64)) <<< ((8 : Int32) &&& 0x3f).toInt64)) ||| (((x2.toInt64) &&& (255 : Int64)) <<< ((16 : Int32) &&& 0x3f).toInt64)) ||| (((x3.toInt64) &&& (255 : Int64)) <<< ((24 : Int32) &&& 0x3f).toInt64)) ||| (((x4.toInt64) &&& (255 : Int64)) <<< ((32 : Int32) &&& 0x3f).toInt64)) ||| (((x5.toInt64) &&& (255 : Int64)) <<< ((40 : Int32) &&& 0x3f).toInt64)) ||| (((x6.toInt64) &&& (255 : Int64)) <<< ((48 : Int32) &&& 0x3f).toInt64)) ||| (((x7.toInt64) &&& (255 : Int64)) <<< ((56 : Int32) &&& 0x3f).toInt64)))])) _
  refine own_ret X0 hlk (v := some (.long (((((((((0 : Int64) ||| ((x0.toInt64) &&& (255 : Int64))) ||| (((x1.toInt64) &&& (255 : Int64)) <<< ((8 : Int32) &&& 0x3f).toInt64)) ||| (((x2.toInt64) &&& (255 : Int64)) <<< ((16 : Int32) &&& 0x3f).toInt64)) ||| (((x3.toInt64) &&& (255 : Int64)) <<< ((24 : Int32) &&& 0x3f).toInt64)) ||| (((x4.toInt64) &&& (255 : Int64)) <<< ((32 : Int32) &&& 0x3f).toInt64)) ||| (((x5.toInt64) &&& (255 : Int64)) <<< ((40 : Int32) &&& 0x3f).toInt64)) ||| (((x6.toInt64) &&& (255 : Int64)) <<< ((48 : Int32) &&& 0x3f).toInt64)) ||| (((x7.toInt64) &&& (255 : Int64)) <<< ((56 : Int32) &&& 0x3f).toInt64)))) (fun h => by rw [hret] at h; cases h) (Q10_17_0 Z a1 k1 x0 x1 x2 x3 x4 x5 x6 x7 x8 x9 x10 x11 x12 x13 x14 x15 x16 h0 n0) (own_retI X0 hx (t := .long) hret rfl (Or.inr (Or.inl ⟨rfl, rfl, _, rfl⟩)) (hb hby d10_128)) (by decide) (by decide) ?_
  show Q10_17_0 Z a1 k1 x0 x1 x2 x3 x4 x5 x6 x7 x8 x9 x10 x11 x12 x13 x14 x15 x16 h0 n0 _ s₁.heap _
  rw [e0]
  exact ⟨rfl, N0, rfl⟩
def Q10_17_8 (Z : State) (a1 : Addr) (k1 : ClassId) (x0 x1 x2 x3 x4 x5 x6 x7 x8 x9 x10 x11 x12 x13 x14 x15 x16 : Int32) (h0 : Heap) (n0 : Nat) (v : Option Value) (h : Heap) (L : List Loc) : Prop := v = some (.long (own_le8 x8 x9 x10 x11 x12 x13 x14 x15)) ∧ Fr n0 L ∧ h = h0
set_option maxRecDepth 65536 in
set_option maxHeartbeats 40000000 in
theorem rm10_17_8 (l : Launch) (Z : State) (a0 : Array Value) (hw : ∀ d ∈ tables_1, d.before a0 Z = true) (ws : List Jvm.Cond) (a1 : Addr) (k1 : ClassId) (x0 x1 x2 x3 x4 x5 x6 x7 x8 x9 x10 x11 x12 x13 x14 x15 x16 : Int32) (h0 : Heap) (n0 : Nat) (Z0 : n0 ≤ h0.size) (V_a1 : Arv Z h0 a1 k1 .byte (17 : Int32) [(.int x0), (.int x1), (.int x2), (.int x3), (.int x4), (.int x5), (.int x6), (.int x7), (.int x8), (.int x9), (.int x10), (.int x11), (.int x12), (.int x13), (.int x14), (.int x15), (.int x16)] (.int (0 : Int32))) :
    MetFree l (⟨"com/example/bitfold/bitfold/ByteArrayWriterToByteArrayPinLaw", "le8", "([BI)J"⟩ : MethodName) (head1 (Jvm.Cond.code (⟨"com/example/bitfold/bitfold/ByteArrayWriterToByteArrayPinLaw", "le8", "([BI)J"⟩ : MethodName) method_2_code 4 (some .long) :: ws) ({ frames := 0, cells := 0, slots := 0, locals := 0 } : Room)) (fun a U => a = #[(.ref a1), (.int (8 : Int32))] ∧ Z.Warmed39 U.vm ∧ U.heap = h0) (fun _ _ _ _ _ => True) (fun _ U o U' => ∃ v L, o = .returned v ∧ Q10_17_8 Z a1 k1 x0 x1 x2 x3 x4 x5 x6 x7 x8 x9 x10 x11 x12 x13 x14 x15 x16 h0 n0 v U'.heap L ∧ FrameEnd U o U' L ({ frames := 0, cells := 0, slots := 0, locals := 0 } : Room).cells ({ frames := 0, cells := 0, slots := 0, locals := 0 } : Room).slots) := by
  refine MetFree.of_bodySF (plainFor_of_name pn_10) hisR ?_
  intro p e s m args below meth c s₁ Bd hml0 hP hK
  obtain ⟨rfl, hZ, hh⟩ := hP
  have hx := Bd.exec
  have hby := Bd.bytes
  have hml : c.maxLocals = 4 := hml0
  have hown : s.vm.findClass "com/example/bitfold/bitfold/ByteArrayWriterToByteArrayPinLaw" = some m.cls := findClass_of_methodNamed Bd.named
  have hnm := (name_of_methodNamed Bd.named Bd.method).1
  have hlk := Bd.notSynchronized
  have hret := Bd.returns
  have X0 : Stand p l e ({ frames := 0, cells := 0, slots := 0, locals := 0 } : Room) s m #[(.ref a1), (.int (8 : Int32))] below meth c s₁ [] 0 0 := Stand.of_body Bd
  have e0 : s₁.heap = h0 := by rw [← hh, Bd.state]; rfl
  have N0 := Fr.nil n0
  show own_G p e below (s₁.setTop (entryFrame m #[(.ref a1), (.int (8 : Int32))] 4)) (fun s₂ o => ∃ v L, o = .returned v ∧ Q10_17_8 Z a1 k1 x0 x1 x2 x3 x4 x5 x6 x7 x8 x9 x10 x11 x12 x13 x14 x15 x16 h0 n0 v s₂.heap L ∧ FrameEnd s o s₂ L ({ frames := 0, cells := 0, slots := 0, locals := 0 } : Room).cells ({ frames := 0, cells := 0, slots := 0, locals := 0 } : Room).slots)
  refine own_go (fun t k => castTop (ef_10 m a1 (8 : Int32)) k) ?_
  show own_G p e below (s₁.setTop (mkF m 0 #[.val (.ref a1), .val (.int (8 : Int32)), .unset, .unset] [])) _
  refine own_go (fun _ k => XS.lconst X0.here hx rfl (hb hby d10_0) k) ?_
  show own_G p e below (s₁.setTop (mkF m 1 #[.val (.ref a1), .val (.int (8 : Int32)), .unset, .unset] [(.long (0 : Int64))])) _
  refine own_go (fun _ k => XS.lstoreN X0.here hx rfl (hb hby d10_1) rfl (l' := #[.val (.ref a1), .val (.int (8 : Int32)), .val (.long (0 : Int64)), .second]) rfl k) ?_
  show own_G p e below (s₁.setTop (mkF m 2 #[.val (.ref a1), .val (.int (8 : Int32)), .val (.long (0 : Int64)), .second] [])) _
  refine own_go (fun _ k => XS.lloadN X0.here hx rfl (hb hby d10_2) rfl k) ?_
  show own_G p e below (s₁.setTop (mkF m 3 #[.val (.ref a1), .val (.int (8 : Int32)), .val (.long (0 : Int64)), .second] [(.long (0 : Int64))])) _
  refine own_go (fun _ k => XS.aloadN X0.here hx rfl (hb hby d10_3) rfl rfl k) ?_
  show own_G p e below (s₁.setTop (mkF m 4 #[.val (.ref a1), .val (.int (8 : Int32)), .val (.long (0 : Int64)), .second] [(.ref a1), (.long (0 : Int64))])) _
  refine own_go (fun _ k => XS.iloadN X0.here hx rfl (hb hby d10_4) rfl k) ?_
  show own_G p e below (s₁.setTop (mkF m 5 #[.val (.ref a1), .val (.int (8 : Int32)), .val (.long (0 : Int64)), .second] [(.int (8 : Int32)), (.ref a1), (.long (0 : Int64))])) _
  obtain ⟨cl222, Ar222, q222, S222, M222, B222, G222⟩ := id V_a1
  have hin222 : ¬ ((8 : Int32) < 0 ∨ cl222.slots.size ≤ ((8 : Int32)).toNatClampNeg) := inb_of S222 ⟨by decide, by decide⟩
  have hat222 : cl222.slots[((8 : Int32)).toNatClampNeg]? = some (.int x8) := B222.at hin222 rfl
  refine own_go (X0.baloadBytes hx (j := (8 : Int32)) (v := (.int x8)) (by rw [e0]; exact Ar222.1) (State.isArrayOf_alike hZ.alike Ar222.2.1) Ar222.2.2 hin222 hat222 (g := (mkF m 5 #[.val (.ref a1), .val (.int (8 : Int32)), .val (.long (0 : Int64)), .second] [(.int (8 : Int32)), (.ref a1), (.long (0 : Int64))])) rfl rfl (hb hby d10_5)) ?_
  show own_G p e below (s₁.setTop (mkF m 6 #[.val (.ref a1), .val (.int (8 : Int32)), .val (.long (0 : Int64)), .second] [(.int x8), (.long (0 : Int64))])) _
  refine own_go (fun _ k => XS.i2l X0.here hx rfl (hb hby d10_6) rfl k) ?_
  show own_G p e below (s₁.setTop (mkF m 7 #[.val (.ref a1), .val (.int (8 : Int32)), .val (.long (0 : Int64)), .second] [(.long (x8.toInt64)), (.long (0 : Int64))])) _
  refine own_go (X0.ldc2Long hx hown (mvT hZ (hw _ (List.mem_of_getElem? (i := 62) rfl))) (g := (mkF m 7 #[.val (.ref a1), .val (.int (8 : Int32)), .val (.long (0 : Int64)), .second] [(.long (x8.toInt64)), (.long (0 : Int64))])) rfl (hb hby d10_7)) ?_
  show own_G p e below (s₁.setTop (mkF m 10 #[.val (.ref a1), .val (.int (8 : Int32)), .val (.long (0 : Int64)), .second] [(.long (255 : Int64)), (.long (x8.toInt64)), (.long (0 : Int64))])) _
  refine own_go (fun _ k => XS.land X0.here hx rfl (hb hby d10_10) rfl k) ?_
  show own_G p e below (s₁.setTop (mkF m 11 #[.val (.ref a1), .val (.int (8 : Int32)), .val (.long (0 : Int64)), .second] [(.long ((x8.toInt64) &&& (255 : Int64))), (.long (0 : Int64))])) _
  refine own_go (fun _ k => XS.lor X0.here hx rfl (hb hby d10_11) rfl k) ?_
  show own_G p e below (s₁.setTop (mkF m 12 #[.val (.ref a1), .val (.int (8 : Int32)), .val (.long (0 : Int64)), .second] [(.long ((0 : Int64) ||| ((x8.toInt64) &&& (255 : Int64))))])) _
  refine own_go (fun _ k => XS.lstoreN X0.here hx rfl (hb hby d10_12) rfl (l' := #[.val (.ref a1), .val (.int (8 : Int32)), .val (.long ((0 : Int64) ||| ((x8.toInt64) &&& (255 : Int64)))), .second]) rfl k) ?_
  show own_G p e below (s₁.setTop (mkF m 13 #[.val (.ref a1), .val (.int (8 : Int32)), .val (.long ((0 : Int64) ||| ((x8.toInt64) &&& (255 : Int64)))), .second] [])) _
  refine own_go (fun _ k => XS.lloadN X0.here hx rfl (hb hby d10_13) rfl k) ?_
  show own_G p e below (s₁.setTop (mkF m 14 #[.val (.ref a1), .val (.int (8 : Int32)), .val (.long ((0 : Int64) ||| ((x8.toInt64) &&& (255 : Int64)))), .second] [(.long ((0 : Int64) ||| ((x8.toInt64) &&& (255 : Int64))))])) _
  refine own_go (fun _ k => XS.aloadN X0.here hx rfl (hb hby d10_14) rfl rfl k) ?_
  show own_G p e below (s₁.setTop (mkF m 15 #[.val (.ref a1), .val (.int (8 : Int32)), .val (.long ((0 : Int64) ||| ((x8.toInt64) &&& (255 : Int64)))), .second] [(.ref a1), (.long ((0 : Int64) ||| ((x8.toInt64) &&& (255 : Int64))))])) _
  refine own_go (fun _ k => XS.iloadN X0.here hx rfl (hb hby d10_15) rfl k) ?_
  show own_G p e below (s₁.setTop (mkF m 16 #[.val (.ref a1), .val (.int (8 : Int32)), .val (.long ((0 : Int64) ||| ((x8.toInt64) &&& (255 : Int64)))), .second] [(.int (8 : Int32)), (.ref a1), (.long ((0 : Int64) ||| ((x8.toInt64) &&& (255 : Int64))))])) _
  refine own_go (fun _ k => XS.iconst X0.here hx rfl (hb hby d10_16) k) ?_
  show own_G p e below (s₁.setTop (mkF m 17 #[.val (.ref a1), .val (.int (8 : Int32)), .val (.long ((0 : Int64) ||| ((x8.toInt64) &&& (255 : Int64)))), .second] [(.int (1 : Int32)), (.int (8 : Int32)), (.ref a1), (.long ((0 : Int64) ||| ((x8.toInt64) &&& (255 : Int64))))])) _
  refine own_go (fun _ k => XS.iadd X0.here hx rfl (hb hby d10_17) rfl k) ?_
  show own_G p e below (s₁.setTop (mkF m 18 #[.val (.ref a1), .val (.int (8 : Int32)), .val (.long ((0 : Int64) ||| ((x8.toInt64) &&& (255 : Int64)))), .second] [(.int (9 : Int32)), (.ref a1), (.long ((0 : Int64) ||| ((x8.toInt64) &&& (255 : Int64))))])) _
  obtain ⟨cl223, Ar223, q223, S223, M223, B223, G223⟩ := id V_a1
  have hin223 : ¬ ((9 : Int32) < 0 ∨ cl223.slots.size ≤ ((9 : Int32)).toNatClampNeg) := inb_of S223 ⟨by decide, by decide⟩
  have hat223 : cl223.slots[((9 : Int32)).toNatClampNeg]? = some (.int x9) := B223.at hin223 rfl
  refine own_go (X0.baloadBytes hx (j := (9 : Int32)) (v := (.int x9)) (by rw [e0]; exact Ar223.1) (State.isArrayOf_alike hZ.alike Ar223.2.1) Ar223.2.2 hin223 hat223 (g := (mkF m 18 #[.val (.ref a1), .val (.int (8 : Int32)), .val (.long ((0 : Int64) ||| ((x8.toInt64) &&& (255 : Int64)))), .second] [(.int (9 : Int32)), (.ref a1), (.long ((0 : Int64) ||| ((x8.toInt64) &&& (255 : Int64))))])) rfl rfl (hb hby d10_18)) ?_
  show own_G p e below (s₁.setTop (mkF m 19 #[.val (.ref a1), .val (.int (8 : Int32)), .val (.long ((0 : Int64) ||| ((x8.toInt64) &&& (255 : Int64)))), .second] [(.int x9), (.long ((0 : Int64) ||| ((x8.toInt64) &&& (255 : Int64))))])) _
  refine own_go (fun _ k => XS.i2l X0.here hx rfl (hb hby d10_19) rfl k) ?_
  show own_G p e below (s₁.setTop (mkF m 20 #[.val (.ref a1), .val (.int (8 : Int32)), .val (.long ((0 : Int64) ||| ((x8.toInt64) &&& (255 : Int64)))), .second] [(.long (x9.toInt64)), (.long ((0 : Int64) ||| ((x8.toInt64) &&& (255 : Int64))))])) _
  refine own_go (X0.ldc2Long hx hown (mvT hZ (hw _ (List.mem_of_getElem? (i := 62) rfl))) (g := (mkF m 20 #[.val (.ref a1), .val (.int (8 : Int32)), .val (.long ((0 : Int64) ||| ((x8.toInt64) &&& (255 : Int64)))), .second] [(.long (x9.toInt64)), (.long ((0 : Int64) ||| ((x8.toInt64) &&& (255 : Int64))))])) rfl (hb hby d10_20)) ?_
  show own_G p e below (s₁.setTop (mkF m 23 #[.val (.ref a1), .val (.int (8 : Int32)), .val (.long ((0 : Int64) ||| ((x8.toInt64) &&& (255 : Int64)))), .second] [(.long (255 : Int64)), (.long (x9.toInt64)), (.long ((0 : Int64) ||| ((x8.toInt64) &&& (255 : Int64))))])) _
  refine own_go (fun _ k => XS.land X0.here hx rfl (hb hby d10_23) rfl k) ?_
  show own_G p e below (s₁.setTop (mkF m 24 #[.val (.ref a1), .val (.int (8 : Int32)), .val (.long ((0 : Int64) ||| ((x8.toInt64) &&& (255 : Int64)))), .second] [(.long ((x9.toInt64) &&& (255 : Int64))), (.long ((0 : Int64) ||| ((x8.toInt64) &&& (255 : Int64))))])) _
  refine own_go (fun _ k => XS.bipush X0.here hx rfl (hb hby d10_24) k) ?_
  show own_G p e below (s₁.setTop (mkF m 26 #[.val (.ref a1), .val (.int (8 : Int32)), .val (.long ((0 : Int64) ||| ((x8.toInt64) &&& (255 : Int64)))), .second] [(.int (8 : Int32)), (.long ((x9.toInt64) &&& (255 : Int64))), (.long ((0 : Int64) ||| ((x8.toInt64) &&& (255 : Int64))))])) _
  refine own_go (fun _ k => XS.lshl X0.here hx rfl (hb hby d10_26) rfl k) ?_
  show own_G p e below (s₁.setTop (mkF m 27 #[.val (.ref a1), .val (.int (8 : Int32)), .val (.long ((0 : Int64) ||| ((x8.toInt64) &&& (255 : Int64)))), .second] [(.long (((x9.toInt64) &&& (255 : Int64)) <<< ((8 : Int32) &&& 0x3f).toInt64)), (.long ((0 : Int64) ||| ((x8.toInt64) &&& (255 : Int64))))])) _
  refine own_go (fun _ k => XS.lor X0.here hx rfl (hb hby d10_27) rfl k) ?_
  show own_G p e below (s₁.setTop (mkF m 28 #[.val (.ref a1), .val (.int (8 : Int32)), .val (.long ((0 : Int64) ||| ((x8.toInt64) &&& (255 : Int64)))), .second] [(.long (((0 : Int64) ||| ((x8.toInt64) &&& (255 : Int64))) ||| (((x9.toInt64) &&& (255 : Int64)) <<< ((8 : Int32) &&& 0x3f).toInt64)))])) _
  refine own_go (fun _ k => XS.lstoreN X0.here hx rfl (hb hby d10_28) rfl (l' := #[.val (.ref a1), .val (.int (8 : Int32)), .val (.long (((0 : Int64) ||| ((x8.toInt64) &&& (255 : Int64))) ||| (((x9.toInt64) &&& (255 : Int64)) <<< ((8 : Int32) &&& 0x3f).toInt64))), .second]) rfl k) ?_
  show own_G p e below (s₁.setTop (mkF m 29 #[.val (.ref a1), .val (.int (8 : Int32)), .val (.long (((0 : Int64) ||| ((x8.toInt64) &&& (255 : Int64))) ||| (((x9.toInt64) &&& (255 : Int64)) <<< ((8 : Int32) &&& 0x3f).toInt64))), .second] [])) _
  refine own_go (fun _ k => XS.lloadN X0.here hx rfl (hb hby d10_29) rfl k) ?_
  show own_G p e below (s₁.setTop (mkF m 30 #[.val (.ref a1), .val (.int (8 : Int32)), .val (.long (((0 : Int64) ||| ((x8.toInt64) &&& (255 : Int64))) ||| (((x9.toInt64) &&& (255 : Int64)) <<< ((8 : Int32) &&& 0x3f).toInt64))), .second] [(.long (((0 : Int64) ||| ((x8.toInt64) &&& (255 : Int64))) ||| (((x9.toInt64) &&& (255 : Int64)) <<< ((8 : Int32) &&& 0x3f).toInt64)))])) _
  refine own_go (fun _ k => XS.aloadN X0.here hx rfl (hb hby d10_30) rfl rfl k) ?_
  show own_G p e below (s₁.setTop (mkF m 31 #[.val (.ref a1), .val (.int (8 : Int32)), .val (.long (((0 : Int64) ||| ((x8.toInt64) &&& (255 : Int64))) ||| (((x9.toInt64) &&& (255 : Int64)) <<< ((8 : Int32) &&& 0x3f).toInt64))), .second] [(.ref a1), (.long (((0 : Int64) ||| ((x8.toInt64) &&& (255 : Int64))) ||| (((x9.toInt64) &&& (255 : Int64)) <<< ((8 : Int32) &&& 0x3f).toInt64)))])) _
  refine own_go (fun _ k => XS.iloadN X0.here hx rfl (hb hby d10_31) rfl k) ?_
  show own_G p e below (s₁.setTop (mkF m 32 #[.val (.ref a1), .val (.int (8 : Int32)), .val (.long (((0 : Int64) ||| ((x8.toInt64) &&& (255 : Int64))) ||| (((x9.toInt64) &&& (255 : Int64)) <<< ((8 : Int32) &&& 0x3f).toInt64))), .second] [(.int (8 : Int32)), (.ref a1), (.long (((0 : Int64) ||| ((x8.toInt64) &&& (255 : Int64))) ||| (((x9.toInt64) &&& (255 : Int64)) <<< ((8 : Int32) &&& 0x3f).toInt64)))])) _
  refine own_go (fun _ k => XS.iconst X0.here hx rfl (hb hby d10_32) k) ?_
  show own_G p e below (s₁.setTop (mkF m 33 #[.val (.ref a1), .val (.int (8 : Int32)), .val (.long (((0 : Int64) ||| ((x8.toInt64) &&& (255 : Int64))) ||| (((x9.toInt64) &&& (255 : Int64)) <<< ((8 : Int32) &&& 0x3f).toInt64))), .second] [(.int (2 : Int32)), (.int (8 : Int32)), (.ref a1), (.long (((0 : Int64) ||| ((x8.toInt64) &&& (255 : Int64))) ||| (((x9.toInt64) &&& (255 : Int64)) <<< ((8 : Int32) &&& 0x3f).toInt64)))])) _
  refine own_go (fun _ k => XS.iadd X0.here hx rfl (hb hby d10_33) rfl k) ?_
  show own_G p e below (s₁.setTop (mkF m 34 #[.val (.ref a1), .val (.int (8 : Int32)), .val (.long (((0 : Int64) ||| ((x8.toInt64) &&& (255 : Int64))) ||| (((x9.toInt64) &&& (255 : Int64)) <<< ((8 : Int32) &&& 0x3f).toInt64))), .second] [(.int (10 : Int32)), (.ref a1), (.long (((0 : Int64) ||| ((x8.toInt64) &&& (255 : Int64))) ||| (((x9.toInt64) &&& (255 : Int64)) <<< ((8 : Int32) &&& 0x3f).toInt64)))])) _
  obtain ⟨cl224, Ar224, q224, S224, M224, B224, G224⟩ := id V_a1
  have hin224 : ¬ ((10 : Int32) < 0 ∨ cl224.slots.size ≤ ((10 : Int32)).toNatClampNeg) := inb_of S224 ⟨by decide, by decide⟩
  have hat224 : cl224.slots[((10 : Int32)).toNatClampNeg]? = some (.int x10) := B224.at hin224 rfl
  refine own_go (X0.baloadBytes hx (j := (10 : Int32)) (v := (.int x10)) (by rw [e0]; exact Ar224.1) (State.isArrayOf_alike hZ.alike Ar224.2.1) Ar224.2.2 hin224 hat224 (g := (mkF m 34 #[.val (.ref a1), .val (.int (8 : Int32)), .val (.long (((0 : Int64) ||| ((x8.toInt64) &&& (255 : Int64))) ||| (((x9.toInt64) &&& (255 : Int64)) <<< ((8 : Int32) &&& 0x3f).toInt64))), .second] [(.int (10 : Int32)), (.ref a1), (.long (((0 : Int64) ||| ((x8.toInt64) &&& (255 : Int64))) ||| (((x9.toInt64) &&& (255 : Int64)) <<< ((8 : Int32) &&& 0x3f).toInt64)))])) rfl rfl (hb hby d10_34)) ?_
  show own_G p e below (s₁.setTop (mkF m 35 #[.val (.ref a1), .val (.int (8 : Int32)), .val (.long (((0 : Int64) ||| ((x8.toInt64) &&& (255 : Int64))) ||| (((x9.toInt64) &&& (255 : Int64)) <<< ((8 : Int32) &&& 0x3f).toInt64))), .second] [(.int x10), (.long (((0 : Int64) ||| ((x8.toInt64) &&& (255 : Int64))) ||| (((x9.toInt64) &&& (255 : Int64)) <<< ((8 : Int32) &&& 0x3f).toInt64)))])) _
  refine own_go (fun _ k => XS.i2l X0.here hx rfl (hb hby d10_35) rfl k) ?_
  show own_G p e below (s₁.setTop (mkF m 36 #[.val (.ref a1), .val (.int (8 : Int32)), .val (.long (((0 : Int64) ||| ((x8.toInt64) &&& (255 : Int64))) ||| (((x9.toInt64) &&& (255 : Int64)) <<< ((8 : Int32) &&& 0x3f).toInt64))), .second] [(.long (x10.toInt64)), (.long (((0 : Int64) ||| ((x8.toInt64) &&& (255 : Int64))) ||| (((x9.toInt64) &&& (255 : Int64)) <<< ((8 : Int32) &&& 0x3f).toInt64)))])) _
  refine own_go (X0.ldc2Long hx hown (mvT hZ (hw _ (List.mem_of_getElem? (i := 62) rfl))) (g := (mkF m 36 #[.val (.ref a1), .val (.int (8 : Int32)), .val (.long (((0 : Int64) ||| ((x8.toInt64) &&& (255 : Int64))) ||| (((x9.toInt64) &&& (255 : Int64)) <<< ((8 : Int32) &&& 0x3f).toInt64))), .second] [(.long (x10.toInt64)), (.long (((0 : Int64) ||| ((x8.toInt64) &&& (255 : Int64))) ||| (((x9.toInt64) &&& (255 : Int64)) <<< ((8 : Int32) &&& 0x3f).toInt64)))])) rfl (hb hby d10_36)) ?_
  show own_G p e below (s₁.setTop (mkF m 39 #[.val (.ref a1), .val (.int (8 : Int32)), .val (.long (((0 : Int64) ||| ((x8.toInt64) &&& (255 : Int64))) ||| (((x9.toInt64) &&& (255 : Int64)) <<< ((8 : Int32) &&& 0x3f).toInt64))), .second] [(.long (255 : Int64)), (.long (x10.toInt64)), (.long (((0 : Int64) ||| ((x8.toInt64) &&& (255 : Int64))) ||| (((x9.toInt64) &&& (255 : Int64)) <<< ((8 : Int32) &&& 0x3f).toInt64)))])) _
  refine own_go (fun _ k => XS.land X0.here hx rfl (hb hby d10_39) rfl k) ?_
  show own_G p e below (s₁.setTop (mkF m 40 #[.val (.ref a1), .val (.int (8 : Int32)), .val (.long (((0 : Int64) ||| ((x8.toInt64) &&& (255 : Int64))) ||| (((x9.toInt64) &&& (255 : Int64)) <<< ((8 : Int32) &&& 0x3f).toInt64))), .second] [(.long ((x10.toInt64) &&& (255 : Int64))), (.long (((0 : Int64) ||| ((x8.toInt64) &&& (255 : Int64))) ||| (((x9.toInt64) &&& (255 : Int64)) <<< ((8 : Int32) &&& 0x3f).toInt64)))])) _
  refine own_go (fun _ k => XS.bipush X0.here hx rfl (hb hby d10_40) k) ?_
  show own_G p e below (s₁.setTop (mkF m 42 #[.val (.ref a1), .val (.int (8 : Int32)), .val (.long (((0 : Int64) ||| ((x8.toInt64) &&& (255 : Int64))) ||| (((x9.toInt64) &&& (255 : Int64)) <<< ((8 : Int32) &&& 0x3f).toInt64))), .second] [(.int (16 : Int32)), (.long ((x10.toInt64) &&& (255 : Int64))), (.long (((0 : Int64) ||| ((x8.toInt64) &&& (255 : Int64))) ||| (((x9.toInt64) &&& (255 : Int64)) <<< ((8 : Int32) &&& 0x3f).toInt64)))])) _
  refine own_go (fun _ k => XS.lshl X0.here hx rfl (hb hby d10_42) rfl k) ?_
  show own_G p e below (s₁.setTop (mkF m 43 #[.val (.ref a1), .val (.int (8 : Int32)), .val (.long (((0 : Int64) ||| ((x8.toInt64) &&& (255 : Int64))) ||| (((x9.toInt64) &&& (255 : Int64)) <<< ((8 : Int32) &&& 0x3f).toInt64))), .second] [(.long (((x10.toInt64) &&& (255 : Int64)) <<< ((16 : Int32) &&& 0x3f).toInt64)), (.long (((0 : Int64) ||| ((x8.toInt64) &&& (255 : Int64))) ||| (((x9.toInt64) &&& (255 : Int64)) <<< ((8 : Int32) &&& 0x3f).toInt64)))])) _
  refine own_go (fun _ k => XS.lor X0.here hx rfl (hb hby d10_43) rfl k) ?_
  show own_G p e below (s₁.setTop (mkF m 44 #[.val (.ref a1), .val (.int (8 : Int32)), .val (.long (((0 : Int64) ||| ((x8.toInt64) &&& (255 : Int64))) ||| (((x9.toInt64) &&& (255 : Int64)) <<< ((8 : Int32) &&& 0x3f).toInt64))), .second] [(.long ((((0 : Int64) ||| ((x8.toInt64) &&& (255 : Int64))) ||| (((x9.toInt64) &&& (255 : Int64)) <<< ((8 : Int32) &&& 0x3f).toInt64)) ||| (((x10.toInt64) &&& (255 : Int64)) <<< ((16 : Int32) &&& 0x3f).toInt64)))])) _
  refine own_go (fun _ k => XS.lstoreN X0.here hx rfl (hb hby d10_44) rfl (l' := #[.val (.ref a1), .val (.int (8 : Int32)), .val (.long ((((0 : Int64) ||| ((x8.toInt64) &&& (255 : Int64))) ||| (((x9.toInt64) &&& (255 : Int64)) <<< ((8 : Int32) &&& 0x3f).toInt64)) ||| (((x10.toInt64) &&& (255 : Int64)) <<< ((16 : Int32) &&& 0x3f).toInt64))), .second]) rfl k) ?_
  show own_G p e below (s₁.setTop (mkF m 45 #[.val (.ref a1), .val (.int (8 : Int32)), .val (.long ((((0 : Int64) ||| ((x8.toInt64) &&& (255 : Int64))) ||| (((x9.toInt64) &&& (255 : Int64)) <<< ((8 : Int32) &&& 0x3f).toInt64)) ||| (((x10.toInt64) &&& (255 : Int64)) <<< ((16 : Int32) &&& 0x3f).toInt64))), .second] [])) _
  refine own_go (fun _ k => XS.lloadN X0.here hx rfl (hb hby d10_45) rfl k) ?_
  show own_G p e below (s₁.setTop (mkF m 46 #[.val (.ref a1), .val (.int (8 : Int32)), .val (.long ((((0 : Int64) ||| ((x8.toInt64) &&& (255 : Int64))) ||| (((x9.toInt64) &&& (255 : Int64)) <<< ((8 : Int32) &&& 0x3f).toInt64)) ||| (((x10.toInt64) &&& (255 : Int64)) <<< ((16 : Int32) &&& 0x3f).toInt64))), .second] [(.long ((((0 : Int64) ||| ((x8.toInt64) &&& (255 : Int64))) ||| (((x9.toInt64) &&& (255 : Int64)) <<< ((8 : Int32) &&& 0x3f).toInt64)) ||| (((x10.toInt64) &&& (255 : Int64)) <<< ((16 : Int32) &&& 0x3f).toInt64)))])) _
  refine own_go (fun _ k => XS.aloadN X0.here hx rfl (hb hby d10_46) rfl rfl k) ?_
  show own_G p e below (s₁.setTop (mkF m 47 #[.val (.ref a1), .val (.int (8 : Int32)), .val (.long ((((0 : Int64) ||| ((x8.toInt64) &&& (255 : Int64))) ||| (((x9.toInt64) &&& (255 : Int64)) <<< ((8 : Int32) &&& 0x3f).toInt64)) ||| (((x10.toInt64) &&& (255 : Int64)) <<< ((16 : Int32) &&& 0x3f).toInt64))), .second] [(.ref a1), (.long ((((0 : Int64) ||| ((x8.toInt64) &&& (255 : Int64))) ||| (((x9.toInt64) &&& (255 : Int64)) <<< ((8 : Int32) &&& 0x3f).toInt64)) ||| (((x10.toInt64) &&& (255 : Int64)) <<< ((16 : Int32) &&& 0x3f).toInt64)))])) _
  refine own_go (fun _ k => XS.iloadN X0.here hx rfl (hb hby d10_47) rfl k) ?_
  show own_G p e below (s₁.setTop (mkF m 48 #[.val (.ref a1), .val (.int (8 : Int32)), .val (.long ((((0 : Int64) ||| ((x8.toInt64) &&& (255 : Int64))) ||| (((x9.toInt64) &&& (255 : Int64)) <<< ((8 : Int32) &&& 0x3f).toInt64)) ||| (((x10.toInt64) &&& (255 : Int64)) <<< ((16 : Int32) &&& 0x3f).toInt64))), .second] [(.int (8 : Int32)), (.ref a1), (.long ((((0 : Int64) ||| ((x8.toInt64) &&& (255 : Int64))) ||| (((x9.toInt64) &&& (255 : Int64)) <<< ((8 : Int32) &&& 0x3f).toInt64)) ||| (((x10.toInt64) &&& (255 : Int64)) <<< ((16 : Int32) &&& 0x3f).toInt64)))])) _
  refine own_go (fun _ k => XS.iconst X0.here hx rfl (hb hby d10_48) k) ?_
  show own_G p e below (s₁.setTop (mkF m 49 #[.val (.ref a1), .val (.int (8 : Int32)), .val (.long ((((0 : Int64) ||| ((x8.toInt64) &&& (255 : Int64))) ||| (((x9.toInt64) &&& (255 : Int64)) <<< ((8 : Int32) &&& 0x3f).toInt64)) ||| (((x10.toInt64) &&& (255 : Int64)) <<< ((16 : Int32) &&& 0x3f).toInt64))), .second] [(.int (3 : Int32)), (.int (8 : Int32)), (.ref a1), (.long ((((0 : Int64) ||| ((x8.toInt64) &&& (255 : Int64))) ||| (((x9.toInt64) &&& (255 : Int64)) <<< ((8 : Int32) &&& 0x3f).toInt64)) ||| (((x10.toInt64) &&& (255 : Int64)) <<< ((16 : Int32) &&& 0x3f).toInt64)))])) _
  refine own_go (fun _ k => XS.iadd X0.here hx rfl (hb hby d10_49) rfl k) ?_
  show own_G p e below (s₁.setTop (mkF m 50 #[.val (.ref a1), .val (.int (8 : Int32)), .val (.long ((((0 : Int64) ||| ((x8.toInt64) &&& (255 : Int64))) ||| (((x9.toInt64) &&& (255 : Int64)) <<< ((8 : Int32) &&& 0x3f).toInt64)) ||| (((x10.toInt64) &&& (255 : Int64)) <<< ((16 : Int32) &&& 0x3f).toInt64))), .second] [(.int (11 : Int32)), (.ref a1), (.long ((((0 : Int64) ||| ((x8.toInt64) &&& (255 : Int64))) ||| (((x9.toInt64) &&& (255 : Int64)) <<< ((8 : Int32) &&& 0x3f).toInt64)) ||| (((x10.toInt64) &&& (255 : Int64)) <<< ((16 : Int32) &&& 0x3f).toInt64)))])) _
  obtain ⟨cl225, Ar225, q225, S225, M225, B225, G225⟩ := id V_a1
  have hin225 : ¬ ((11 : Int32) < 0 ∨ cl225.slots.size ≤ ((11 : Int32)).toNatClampNeg) := inb_of S225 ⟨by decide, by decide⟩
  have hat225 : cl225.slots[((11 : Int32)).toNatClampNeg]? = some (.int x11) := B225.at hin225 rfl
  refine own_go (X0.baloadBytes hx (j := (11 : Int32)) (v := (.int x11)) (by rw [e0]; exact Ar225.1) (State.isArrayOf_alike hZ.alike Ar225.2.1) Ar225.2.2 hin225 hat225 (g := (mkF m 50 #[.val (.ref a1), .val (.int (8 : Int32)), .val (.long ((((0 : Int64) ||| ((x8.toInt64) &&& (255 : Int64))) ||| (((x9.toInt64) &&& (255 : Int64)) <<< ((8 : Int32) &&& 0x3f).toInt64)) ||| (((x10.toInt64) &&& (255 : Int64)) <<< ((16 : Int32) &&& 0x3f).toInt64))), .second] [(.int (11 : Int32)), (.ref a1), (.long ((((0 : Int64) ||| ((x8.toInt64) &&& (255 : Int64))) ||| (((x9.toInt64) &&& (255 : Int64)) <<< ((8 : Int32) &&& 0x3f).toInt64)) ||| (((x10.toInt64) &&& (255 : Int64)) <<< ((16 : Int32) &&& 0x3f).toInt64)))])) rfl rfl (hb hby d10_50)) ?_
  show own_G p e below (s₁.setTop (mkF m 51 #[.val (.ref a1), .val (.int (8 : Int32)), .val (.long ((((0 : Int64) ||| ((x8.toInt64) &&& (255 : Int64))) ||| (((x9.toInt64) &&& (255 : Int64)) <<< ((8 : Int32) &&& 0x3f).toInt64)) ||| (((x10.toInt64) &&& (255 : Int64)) <<< ((16 : Int32) &&& 0x3f).toInt64))), .second] [(.int x11), (.long ((((0 : Int64) ||| ((x8.toInt64) &&& (255 : Int64))) ||| (((x9.toInt64) &&& (255 : Int64)) <<< ((8 : Int32) &&& 0x3f).toInt64)) ||| (((x10.toInt64) &&& (255 : Int64)) <<< ((16 : Int32) &&& 0x3f).toInt64)))])) _
  refine own_go (fun _ k => XS.i2l X0.here hx rfl (hb hby d10_51) rfl k) ?_
  show own_G p e below (s₁.setTop (mkF m 52 #[.val (.ref a1), .val (.int (8 : Int32)), .val (.long ((((0 : Int64) ||| ((x8.toInt64) &&& (255 : Int64))) ||| (((x9.toInt64) &&& (255 : Int64)) <<< ((8 : Int32) &&& 0x3f).toInt64)) ||| (((x10.toInt64) &&& (255 : Int64)) <<< ((16 : Int32) &&& 0x3f).toInt64))), .second] [(.long (x11.toInt64)), (.long ((((0 : Int64) ||| ((x8.toInt64) &&& (255 : Int64))) ||| (((x9.toInt64) &&& (255 : Int64)) <<< ((8 : Int32) &&& 0x3f).toInt64)) ||| (((x10.toInt64) &&& (255 : Int64)) <<< ((16 : Int32) &&& 0x3f).toInt64)))])) _
  refine own_go (X0.ldc2Long hx hown (mvT hZ (hw _ (List.mem_of_getElem? (i := 62) rfl))) (g := (mkF m 52 #[.val (.ref a1), .val (.int (8 : Int32)), .val (.long ((((0 : Int64) ||| ((x8.toInt64) &&& (255 : Int64))) ||| (((x9.toInt64) &&& (255 : Int64)) <<< ((8 : Int32) &&& 0x3f).toInt64)) ||| (((x10.toInt64) &&& (255 : Int64)) <<< ((16 : Int32) &&& 0x3f).toInt64))), .second] [(.long (x11.toInt64)), (.long ((((0 : Int64) ||| ((x8.toInt64) &&& (255 : Int64))) ||| (((x9.toInt64) &&& (255 : Int64)) <<< ((8 : Int32) &&& 0x3f).toInt64)) ||| (((x10.toInt64) &&& (255 : Int64)) <<< ((16 : Int32) &&& 0x3f).toInt64)))])) rfl (hb hby d10_52)) ?_
  show own_G p e below (s₁.setTop (mkF m 55 #[.val (.ref a1), .val (.int (8 : Int32)), .val (.long ((((0 : Int64) ||| ((x8.toInt64) &&& (255 : Int64))) ||| (((x9.toInt64) &&& (255 : Int64)) <<< ((8 : Int32) &&& 0x3f).toInt64)) ||| (((x10.toInt64) &&& (255 : Int64)) <<< ((16 : Int32) &&& 0x3f).toInt64))), .second] [(.long (255 : Int64)), (.long (x11.toInt64)), (.long ((((0 : Int64) ||| ((x8.toInt64) &&& (255 : Int64))) ||| (((x9.toInt64) &&& (255 : Int64)) <<< ((8 : Int32) &&& 0x3f).toInt64)) ||| (((x10.toInt64) &&& (255 : Int64)) <<< ((16 : Int32) &&& 0x3f).toInt64)))])) _
  refine own_go (fun _ k => XS.land X0.here hx rfl (hb hby d10_55) rfl k) ?_
  show own_G p e below (s₁.setTop (mkF m 56 #[.val (.ref a1), .val (.int (8 : Int32)), .val (.long ((((0 : Int64) ||| ((x8.toInt64) &&& (255 : Int64))) ||| (((x9.toInt64) &&& (255 : Int64)) <<< ((8 : Int32) &&& 0x3f).toInt64)) ||| (((x10.toInt64) &&& (255 : Int64)) <<< ((16 : Int32) &&& 0x3f).toInt64))), .second] [(.long ((x11.toInt64) &&& (255 : Int64))), (.long ((((0 : Int64) ||| ((x8.toInt64) &&& (255 : Int64))) ||| (((x9.toInt64) &&& (255 : Int64)) <<< ((8 : Int32) &&& 0x3f).toInt64)) ||| (((x10.toInt64) &&& (255 : Int64)) <<< ((16 : Int32) &&& 0x3f).toInt64)))])) _
  refine own_go (fun _ k => XS.bipush X0.here hx rfl (hb hby d10_56) k) ?_
  show own_G p e below (s₁.setTop (mkF m 58 #[.val (.ref a1), .val (.int (8 : Int32)), .val (.long ((((0 : Int64) ||| ((x8.toInt64) &&& (255 : Int64))) ||| (((x9.toInt64) &&& (255 : Int64)) <<< ((8 : Int32) &&& 0x3f).toInt64)) ||| (((x10.toInt64) &&& (255 : Int64)) <<< ((16 : Int32) &&& 0x3f).toInt64))), .second] [(.int (24 : Int32)), (.long ((x11.toInt64) &&& (255 : Int64))), (.long ((((0 : Int64) ||| ((x8.toInt64) &&& (255 : Int64))) ||| (((x9.toInt64) &&& (255 : Int64)) <<< ((8 : Int32) &&& 0x3f).toInt64)) ||| (((x10.toInt64) &&& (255 : Int64)) <<< ((16 : Int32) &&& 0x3f).toInt64)))])) _
  refine own_go (fun _ k => XS.lshl X0.here hx rfl (hb hby d10_58) rfl k) ?_
  show own_G p e below (s₁.setTop (mkF m 59 #[.val (.ref a1), .val (.int (8 : Int32)), .val (.long ((((0 : Int64) ||| ((x8.toInt64) &&& (255 : Int64))) ||| (((x9.toInt64) &&& (255 : Int64)) <<< ((8 : Int32) &&& 0x3f).toInt64)) ||| (((x10.toInt64) &&& (255 : Int64)) <<< ((16 : Int32) &&& 0x3f).toInt64))), .second] [(.long (((x11.toInt64) &&& (255 : Int64)) <<< ((24 : Int32) &&& 0x3f).toInt64)), (.long ((((0 : Int64) ||| ((x8.toInt64) &&& (255 : Int64))) ||| (((x9.toInt64) &&& (255 : Int64)) <<< ((8 : Int32) &&& 0x3f).toInt64)) ||| (((x10.toInt64) &&& (255 : Int64)) <<< ((16 : Int32) &&& 0x3f).toInt64)))])) _
  refine own_go (fun _ k => XS.lor X0.here hx rfl (hb hby d10_59) rfl k) ?_
  show own_G p e below (s₁.setTop (mkF m 60 #[.val (.ref a1), .val (.int (8 : Int32)), .val (.long ((((0 : Int64) ||| ((x8.toInt64) &&& (255 : Int64))) ||| (((x9.toInt64) &&& (255 : Int64)) <<< ((8 : Int32) &&& 0x3f).toInt64)) ||| (((x10.toInt64) &&& (255 : Int64)) <<< ((16 : Int32) &&& 0x3f).toInt64))), .second] [(.long (((((0 : Int64) ||| ((x8.toInt64) &&& (255 : Int64))) ||| (((x9.toInt64) &&& (255 : Int64)) <<< ((8 : Int32) &&& 0x3f).toInt64)) ||| (((x10.toInt64) &&& (255 : Int64)) <<< ((16 : Int32) &&& 0x3f).toInt64)) ||| (((x11.toInt64) &&& (255 : Int64)) <<< ((24 : Int32) &&& 0x3f).toInt64)))])) _
  refine own_go (fun _ k => XS.lstoreN X0.here hx rfl (hb hby d10_60) rfl (l' := #[.val (.ref a1), .val (.int (8 : Int32)), .val (.long (((((0 : Int64) ||| ((x8.toInt64) &&& (255 : Int64))) ||| (((x9.toInt64) &&& (255 : Int64)) <<< ((8 : Int32) &&& 0x3f).toInt64)) ||| (((x10.toInt64) &&& (255 : Int64)) <<< ((16 : Int32) &&& 0x3f).toInt64)) ||| (((x11.toInt64) &&& (255 : Int64)) <<< ((24 : Int32) &&& 0x3f).toInt64))), .second]) rfl k) ?_
  show own_G p e below (s₁.setTop (mkF m 61 #[.val (.ref a1), .val (.int (8 : Int32)), .val (.long (((((0 : Int64) ||| ((x8.toInt64) &&& (255 : Int64))) ||| (((x9.toInt64) &&& (255 : Int64)) <<< ((8 : Int32) &&& 0x3f).toInt64)) ||| (((x10.toInt64) &&& (255 : Int64)) <<< ((16 : Int32) &&& 0x3f).toInt64)) ||| (((x11.toInt64) &&& (255 : Int64)) <<< ((24 : Int32) &&& 0x3f).toInt64))), .second] [])) _
  refine own_go (fun _ k => XS.lloadN X0.here hx rfl (hb hby d10_61) rfl k) ?_
  show own_G p e below (s₁.setTop (mkF m 62 #[.val (.ref a1), .val (.int (8 : Int32)), .val (.long (((((0 : Int64) ||| ((x8.toInt64) &&& (255 : Int64))) ||| (((x9.toInt64) &&& (255 : Int64)) <<< ((8 : Int32) &&& 0x3f).toInt64)) ||| (((x10.toInt64) &&& (255 : Int64)) <<< ((16 : Int32) &&& 0x3f).toInt64)) ||| (((x11.toInt64) &&& (255 : Int64)) <<< ((24 : Int32) &&& 0x3f).toInt64))), .second] [(.long (((((0 : Int64) ||| ((x8.toInt64) &&& (255 : Int64))) ||| (((x9.toInt64) &&& (255 : Int64)) <<< ((8 : Int32) &&& 0x3f).toInt64)) ||| (((x10.toInt64) &&& (255 : Int64)) <<< ((16 : Int32) &&& 0x3f).toInt64)) ||| (((x11.toInt64) &&& (255 : Int64)) <<< ((24 : Int32) &&& 0x3f).toInt64)))])) _
  refine own_go (fun _ k => XS.aloadN X0.here hx rfl (hb hby d10_62) rfl rfl k) ?_
  show own_G p e below (s₁.setTop (mkF m 63 #[.val (.ref a1), .val (.int (8 : Int32)), .val (.long (((((0 : Int64) ||| ((x8.toInt64) &&& (255 : Int64))) ||| (((x9.toInt64) &&& (255 : Int64)) <<< ((8 : Int32) &&& 0x3f).toInt64)) ||| (((x10.toInt64) &&& (255 : Int64)) <<< ((16 : Int32) &&& 0x3f).toInt64)) ||| (((x11.toInt64) &&& (255 : Int64)) <<< ((24 : Int32) &&& 0x3f).toInt64))), .second] [(.ref a1), (.long (((((0 : Int64) ||| ((x8.toInt64) &&& (255 : Int64))) ||| (((x9.toInt64) &&& (255 : Int64)) <<< ((8 : Int32) &&& 0x3f).toInt64)) ||| (((x10.toInt64) &&& (255 : Int64)) <<< ((16 : Int32) &&& 0x3f).toInt64)) ||| (((x11.toInt64) &&& (255 : Int64)) <<< ((24 : Int32) &&& 0x3f).toInt64)))])) _
  refine own_go (fun _ k => XS.iloadN X0.here hx rfl (hb hby d10_63) rfl k) ?_
  show own_G p e below (s₁.setTop (mkF m 64 #[.val (.ref a1), .val (.int (8 : Int32)), .val (.long (((((0 : Int64) ||| ((x8.toInt64) &&& (255 : Int64))) ||| (((x9.toInt64) &&& (255 : Int64)) <<< ((8 : Int32) &&& 0x3f).toInt64)) ||| (((x10.toInt64) &&& (255 : Int64)) <<< ((16 : Int32) &&& 0x3f).toInt64)) ||| (((x11.toInt64) &&& (255 : Int64)) <<< ((24 : Int32) &&& 0x3f).toInt64))), .second] [(.int (8 : Int32)), (.ref a1), (.long (((((0 : Int64) ||| ((x8.toInt64) &&& (255 : Int64))) ||| (((x9.toInt64) &&& (255 : Int64)) <<< ((8 : Int32) &&& 0x3f).toInt64)) ||| (((x10.toInt64) &&& (255 : Int64)) <<< ((16 : Int32) &&& 0x3f).toInt64)) ||| (((x11.toInt64) &&& (255 : Int64)) <<< ((24 : Int32) &&& 0x3f).toInt64)))])) _
  refine own_go (fun _ k => XS.iconst X0.here hx rfl (hb hby d10_64) k) ?_
  show own_G p e below (s₁.setTop (mkF m 65 #[.val (.ref a1), .val (.int (8 : Int32)), .val (.long (((((0 : Int64) ||| ((x8.toInt64) &&& (255 : Int64))) ||| (((x9.toInt64) &&& (255 : Int64)) <<< ((8 : Int32) &&& 0x3f).toInt64)) ||| (((x10.toInt64) &&& (255 : Int64)) <<< ((16 : Int32) &&& 0x3f).toInt64)) ||| (((x11.toInt64) &&& (255 : Int64)) <<< ((24 : Int32) &&& 0x3f).toInt64))), .second] [(.int (4 : Int32)), (.int (8 : Int32)), (.ref a1), (.long (((((0 : Int64) ||| ((x8.toInt64) &&& (255 : Int64))) ||| (((x9.toInt64) &&& (255 : Int64)) <<< ((8 : Int32) &&& 0x3f).toInt64)) ||| (((x10.toInt64) &&& (255 : Int64)) <<< ((16 : Int32) &&& 0x3f).toInt64)) ||| (((x11.toInt64) &&& (255 : Int64)) <<< ((24 : Int32) &&& 0x3f).toInt64)))])) _
  refine own_go (fun _ k => XS.iadd X0.here hx rfl (hb hby d10_65) rfl k) ?_
  show own_G p e below (s₁.setTop (mkF m 66 #[.val (.ref a1), .val (.int (8 : Int32)), .val (.long (((((0 : Int64) ||| ((x8.toInt64) &&& (255 : Int64))) ||| (((x9.toInt64) &&& (255 : Int64)) <<< ((8 : Int32) &&& 0x3f).toInt64)) ||| (((x10.toInt64) &&& (255 : Int64)) <<< ((16 : Int32) &&& 0x3f).toInt64)) ||| (((x11.toInt64) &&& (255 : Int64)) <<< ((24 : Int32) &&& 0x3f).toInt64))), .second] [(.int (12 : Int32)), (.ref a1), (.long (((((0 : Int64) ||| ((x8.toInt64) &&& (255 : Int64))) ||| (((x9.toInt64) &&& (255 : Int64)) <<< ((8 : Int32) &&& 0x3f).toInt64)) ||| (((x10.toInt64) &&& (255 : Int64)) <<< ((16 : Int32) &&& 0x3f).toInt64)) ||| (((x11.toInt64) &&& (255 : Int64)) <<< ((24 : Int32) &&& 0x3f).toInt64)))])) _
  obtain ⟨cl226, Ar226, q226, S226, M226, B226, G226⟩ := id V_a1
  have hin226 : ¬ ((12 : Int32) < 0 ∨ cl226.slots.size ≤ ((12 : Int32)).toNatClampNeg) := inb_of S226 ⟨by decide, by decide⟩
  have hat226 : cl226.slots[((12 : Int32)).toNatClampNeg]? = some (.int x12) := B226.at hin226 rfl
  refine own_go (X0.baloadBytes hx (j := (12 : Int32)) (v := (.int x12)) (by rw [e0]; exact Ar226.1) (State.isArrayOf_alike hZ.alike Ar226.2.1) Ar226.2.2 hin226 hat226 (g := (mkF m 66 #[.val (.ref a1), .val (.int (8 : Int32)), .val (.long (((((0 : Int64) ||| ((x8.toInt64) &&& (255 : Int64))) ||| (((x9.toInt64) &&& (255 : Int64)) <<< ((8 : Int32) &&& 0x3f).toInt64)) ||| (((x10.toInt64) &&& (255 : Int64)) <<< ((16 : Int32) &&& 0x3f).toInt64)) ||| (((x11.toInt64) &&& (255 : Int64)) <<< ((24 : Int32) &&& 0x3f).toInt64))), .second] [(.int (12 : Int32)), (.ref a1), (.long (((((0 : Int64) ||| ((x8.toInt64) &&& (255 : Int64))) ||| (((x9.toInt64) &&& (255 : Int64)) <<< ((8 : Int32) &&& 0x3f).toInt64)) ||| (((x10.toInt64) &&& (255 : Int64)) <<< ((16 : Int32) &&& 0x3f).toInt64)) ||| (((x11.toInt64) &&& (255 : Int64)) <<< ((24 : Int32) &&& 0x3f).toInt64)))])) rfl rfl (hb hby d10_66)) ?_
  show own_G p e below (s₁.setTop (mkF m 67 #[.val (.ref a1), .val (.int (8 : Int32)), .val (.long (((((0 : Int64) ||| ((x8.toInt64) &&& (255 : Int64))) ||| (((x9.toInt64) &&& (255 : Int64)) <<< ((8 : Int32) &&& 0x3f).toInt64)) ||| (((x10.toInt64) &&& (255 : Int64)) <<< ((16 : Int32) &&& 0x3f).toInt64)) ||| (((x11.toInt64) &&& (255 : Int64)) <<< ((24 : Int32) &&& 0x3f).toInt64))), .second] [(.int x12), (.long (((((0 : Int64) ||| ((x8.toInt64) &&& (255 : Int64))) ||| (((x9.toInt64) &&& (255 : Int64)) <<< ((8 : Int32) &&& 0x3f).toInt64)) ||| (((x10.toInt64) &&& (255 : Int64)) <<< ((16 : Int32) &&& 0x3f).toInt64)) ||| (((x11.toInt64) &&& (255 : Int64)) <<< ((24 : Int32) &&& 0x3f).toInt64)))])) _
  refine own_go (fun _ k => XS.i2l X0.here hx rfl (hb hby d10_67) rfl k) ?_
  show own_G p e below (s₁.setTop (mkF m 68 #[.val (.ref a1), .val (.int (8 : Int32)), .val (.long (((((0 : Int64) ||| ((x8.toInt64) &&& (255 : Int64))) ||| (((x9.toInt64) &&& (255 : Int64)) <<< ((8 : Int32) &&& 0x3f).toInt64)) ||| (((x10.toInt64) &&& (255 : Int64)) <<< ((16 : Int32) &&& 0x3f).toInt64)) ||| (((x11.toInt64) &&& (255 : Int64)) <<< ((24 : Int32) &&& 0x3f).toInt64))), .second] [(.long (x12.toInt64)), (.long (((((0 : Int64) ||| ((x8.toInt64) &&& (255 : Int64))) ||| (((x9.toInt64) &&& (255 : Int64)) <<< ((8 : Int32) &&& 0x3f).toInt64)) ||| (((x10.toInt64) &&& (255 : Int64)) <<< ((16 : Int32) &&& 0x3f).toInt64)) ||| (((x11.toInt64) &&& (255 : Int64)) <<< ((24 : Int32) &&& 0x3f).toInt64)))])) _
  refine own_go (X0.ldc2Long hx hown (mvT hZ (hw _ (List.mem_of_getElem? (i := 62) rfl))) (g := (mkF m 68 #[.val (.ref a1), .val (.int (8 : Int32)), .val (.long (((((0 : Int64) ||| ((x8.toInt64) &&& (255 : Int64))) ||| (((x9.toInt64) &&& (255 : Int64)) <<< ((8 : Int32) &&& 0x3f).toInt64)) ||| (((x10.toInt64) &&& (255 : Int64)) <<< ((16 : Int32) &&& 0x3f).toInt64)) ||| (((x11.toInt64) &&& (255 : Int64)) <<< ((24 : Int32) &&& 0x3f).toInt64))), .second] [(.long (x12.toInt64)), (.long (((((0 : Int64) ||| ((x8.toInt64) &&& (255 : Int64))) ||| (((x9.toInt64) &&& (255 : Int64)) <<< ((8 : Int32) &&& 0x3f).toInt64)) ||| (((x10.toInt64) &&& (255 : Int64)) <<< ((16 : Int32) &&& 0x3f).toInt64)) ||| (((x11.toInt64) &&& (255 : Int64)) <<< ((24 : Int32) &&& 0x3f).toInt64)))])) rfl (hb hby d10_68)) ?_
  show own_G p e below (s₁.setTop (mkF m 71 #[.val (.ref a1), .val (.int (8 : Int32)), .val (.long (((((0 : Int64) ||| ((x8.toInt64) &&& (255 : Int64))) ||| (((x9.toInt64) &&& (255 : Int64)) <<< ((8 : Int32) &&& 0x3f).toInt64)) ||| (((x10.toInt64) &&& (255 : Int64)) <<< ((16 : Int32) &&& 0x3f).toInt64)) ||| (((x11.toInt64) &&& (255 : Int64)) <<< ((24 : Int32) &&& 0x3f).toInt64))), .second] [(.long (255 : Int64)), (.long (x12.toInt64)), (.long (((((0 : Int64) ||| ((x8.toInt64) &&& (255 : Int64))) ||| (((x9.toInt64) &&& (255 : Int64)) <<< ((8 : Int32) &&& 0x3f).toInt64)) ||| (((x10.toInt64) &&& (255 : Int64)) <<< ((16 : Int32) &&& 0x3f).toInt64)) ||| (((x11.toInt64) &&& (255 : Int64)) <<< ((24 : Int32) &&& 0x3f).toInt64)))])) _
  refine own_go (fun _ k => XS.land X0.here hx rfl (hb hby d10_71) rfl k) ?_
  show own_G p e below (s₁.setTop (mkF m 72 #[.val (.ref a1), .val (.int (8 : Int32)), .val (.long (((((0 : Int64) ||| ((x8.toInt64) &&& (255 : Int64))) ||| (((x9.toInt64) &&& (255 : Int64)) <<< ((8 : Int32) &&& 0x3f).toInt64)) ||| (((x10.toInt64) &&& (255 : Int64)) <<< ((16 : Int32) &&& 0x3f).toInt64)) ||| (((x11.toInt64) &&& (255 : Int64)) <<< ((24 : Int32) &&& 0x3f).toInt64))), .second] [(.long ((x12.toInt64) &&& (255 : Int64))), (.long (((((0 : Int64) ||| ((x8.toInt64) &&& (255 : Int64))) ||| (((x9.toInt64) &&& (255 : Int64)) <<< ((8 : Int32) &&& 0x3f).toInt64)) ||| (((x10.toInt64) &&& (255 : Int64)) <<< ((16 : Int32) &&& 0x3f).toInt64)) ||| (((x11.toInt64) &&& (255 : Int64)) <<< ((24 : Int32) &&& 0x3f).toInt64)))])) _
  refine own_go (fun _ k => XS.bipush X0.here hx rfl (hb hby d10_72) k) ?_
  show own_G p e below (s₁.setTop (mkF m 74 #[.val (.ref a1), .val (.int (8 : Int32)), .val (.long (((((0 : Int64) ||| ((x8.toInt64) &&& (255 : Int64))) ||| (((x9.toInt64) &&& (255 : Int64)) <<< ((8 : Int32) &&& 0x3f).toInt64)) ||| (((x10.toInt64) &&& (255 : Int64)) <<< ((16 : Int32) &&& 0x3f).toInt64)) ||| (((x11.toInt64) &&& (255 : Int64)) <<< ((24 : Int32) &&& 0x3f).toInt64))), .second] [(.int (32 : Int32)), (.long ((x12.toInt64) &&& (255 : Int64))), (.long (((((0 : Int64) ||| ((x8.toInt64) &&& (255 : Int64))) ||| (((x9.toInt64) &&& (255 : Int64)) <<< ((8 : Int32) &&& 0x3f).toInt64)) ||| (((x10.toInt64) &&& (255 : Int64)) <<< ((16 : Int32) &&& 0x3f).toInt64)) ||| (((x11.toInt64) &&& (255 : Int64)) <<< ((24 : Int32) &&& 0x3f).toInt64)))])) _
  refine own_go (fun _ k => XS.lshl X0.here hx rfl (hb hby d10_74) rfl k) ?_
  show own_G p e below (s₁.setTop (mkF m 75 #[.val (.ref a1), .val (.int (8 : Int32)), .val (.long (((((0 : Int64) ||| ((x8.toInt64) &&& (255 : Int64))) ||| (((x9.toInt64) &&& (255 : Int64)) <<< ((8 : Int32) &&& 0x3f).toInt64)) ||| (((x10.toInt64) &&& (255 : Int64)) <<< ((16 : Int32) &&& 0x3f).toInt64)) ||| (((x11.toInt64) &&& (255 : Int64)) <<< ((24 : Int32) &&& 0x3f).toInt64))), .second] [(.long (((x12.toInt64) &&& (255 : Int64)) <<< ((32 : Int32) &&& 0x3f).toInt64)), (.long (((((0 : Int64) ||| ((x8.toInt64) &&& (255 : Int64))) ||| (((x9.toInt64) &&& (255 : Int64)) <<< ((8 : Int32) &&& 0x3f).toInt64)) ||| (((x10.toInt64) &&& (255 : Int64)) <<< ((16 : Int32) &&& 0x3f).toInt64)) ||| (((x11.toInt64) &&& (255 : Int64)) <<< ((24 : Int32) &&& 0x3f).toInt64)))])) _
  refine own_go (fun _ k => XS.lor X0.here hx rfl (hb hby d10_75) rfl k) ?_
  show own_G p e below (s₁.setTop (mkF m 76 #[.val (.ref a1), .val (.int (8 : Int32)), .val (.long (((((0 : Int64) ||| ((x8.toInt64) &&& (255 : Int64))) ||| (((x9.toInt64) &&& (255 : Int64)) <<< ((8 : Int32) &&& 0x3f).toInt64)) ||| (((x10.toInt64) &&& (255 : Int64)) <<< ((16 : Int32) &&& 0x3f).toInt64)) ||| (((x11.toInt64) &&& (255 : Int64)) <<< ((24 : Int32) &&& 0x3f).toInt64))), .second] [(.long ((((((0 : Int64) ||| ((x8.toInt64) &&& (255 : Int64))) ||| (((x9.toInt64) &&& (255 : Int64)) <<< ((8 : Int32) &&& 0x3f).toInt64)) ||| (((x10.toInt64) &&& (255 : Int64)) <<< ((16 : Int32) &&& 0x3f).toInt64)) ||| (((x11.toInt64) &&& (255 : Int64)) <<< ((24 : Int32) &&& 0x3f).toInt64)) ||| (((x12.toInt64) &&& (255 : Int64)) <<< ((32 : Int32) &&& 0x3f).toInt64)))])) _
  refine own_go (fun _ k => XS.lstoreN X0.here hx rfl (hb hby d10_76) rfl (l' := #[.val (.ref a1), .val (.int (8 : Int32)), .val (.long ((((((0 : Int64) ||| ((x8.toInt64) &&& (255 : Int64))) ||| (((x9.toInt64) &&& (255 : Int64)) <<< ((8 : Int32) &&& 0x3f).toInt64)) ||| (((x10.toInt64) &&& (255 : Int64)) <<< ((16 : Int32) &&& 0x3f).toInt64)) ||| (((x11.toInt64) &&& (255 : Int64)) <<< ((24 : Int32) &&& 0x3f).toInt64)) ||| (((x12.toInt64) &&& (255 : Int64)) <<< ((32 : Int32) &&& 0x3f).toInt64))), .second]) rfl k) ?_
  show own_G p e below (s₁.setTop (mkF m 77 #[.val (.ref a1), .val (.int (8 : Int32)), .val (.long ((((((0 : Int64) ||| ((x8.toInt64) &&& (255 : Int64))) ||| (((x9.toInt64) &&& (255 : Int64)) <<< ((8 : Int32) &&& 0x3f).toInt64)) ||| (((x10.toInt64) &&& (255 : Int64)) <<< ((16 : Int32) &&& 0x3f).toInt64)) ||| (((x11.toInt64) &&& (255 : Int64)) <<< ((24 : Int32) &&& 0x3f).toInt64)) ||| (((x12.toInt64) &&& (255 : Int64)) <<< ((32 : Int32) &&& 0x3f).toInt64))), .second] [])) _
  refine own_go (fun _ k => XS.lloadN X0.here hx rfl (hb hby d10_77) rfl k) ?_
  show own_G p e below (s₁.setTop (mkF m 78 #[.val (.ref a1), .val (.int (8 : Int32)), .val (.long ((((((0 : Int64) ||| ((x8.toInt64) &&& (255 : Int64))) ||| (((x9.toInt64) &&& (255 : Int64)) <<< ((8 : Int32) &&& 0x3f).toInt64)) ||| (((x10.toInt64) &&& (255 : Int64)) <<< ((16 : Int32) &&& 0x3f).toInt64)) ||| (((x11.toInt64) &&& (255 : Int64)) <<< ((24 : Int32) &&& 0x3f).toInt64)) ||| (((x12.toInt64) &&& (255 : Int64)) <<< ((32 : Int32) &&& 0x3f).toInt64))), .second] [(.long ((((((0 : Int64) ||| ((x8.toInt64) &&& (255 : Int64))) ||| (((x9.toInt64) &&& (255 : Int64)) <<< ((8 : Int32) &&& 0x3f).toInt64)) ||| (((x10.toInt64) &&& (255 : Int64)) <<< ((16 : Int32) &&& 0x3f).toInt64)) ||| (((x11.toInt64) &&& (255 : Int64)) <<< ((24 : Int32) &&& 0x3f).toInt64)) ||| (((x12.toInt64) &&& (255 : Int64)) <<< ((32 : Int32) &&& 0x3f).toInt64)))])) _
  refine own_go (fun _ k => XS.aloadN X0.here hx rfl (hb hby d10_78) rfl rfl k) ?_
  show own_G p e below (s₁.setTop (mkF m 79 #[.val (.ref a1), .val (.int (8 : Int32)), .val (.long ((((((0 : Int64) ||| ((x8.toInt64) &&& (255 : Int64))) ||| (((x9.toInt64) &&& (255 : Int64)) <<< ((8 : Int32) &&& 0x3f).toInt64)) ||| (((x10.toInt64) &&& (255 : Int64)) <<< ((16 : Int32) &&& 0x3f).toInt64)) ||| (((x11.toInt64) &&& (255 : Int64)) <<< ((24 : Int32) &&& 0x3f).toInt64)) ||| (((x12.toInt64) &&& (255 : Int64)) <<< ((32 : Int32) &&& 0x3f).toInt64))), .second] [(.ref a1), (.long ((((((0 : Int64) ||| ((x8.toInt64) &&& (255 : Int64))) ||| (((x9.toInt64) &&& (255 : Int64)) <<< ((8 : Int32) &&& 0x3f).toInt64)) ||| (((x10.toInt64) &&& (255 : Int64)) <<< ((16 : Int32) &&& 0x3f).toInt64)) ||| (((x11.toInt64) &&& (255 : Int64)) <<< ((24 : Int32) &&& 0x3f).toInt64)) ||| (((x12.toInt64) &&& (255 : Int64)) <<< ((32 : Int32) &&& 0x3f).toInt64)))])) _
  refine own_go (fun _ k => XS.iloadN X0.here hx rfl (hb hby d10_79) rfl k) ?_
  show own_G p e below (s₁.setTop (mkF m 80 #[.val (.ref a1), .val (.int (8 : Int32)), .val (.long ((((((0 : Int64) ||| ((x8.toInt64) &&& (255 : Int64))) ||| (((x9.toInt64) &&& (255 : Int64)) <<< ((8 : Int32) &&& 0x3f).toInt64)) ||| (((x10.toInt64) &&& (255 : Int64)) <<< ((16 : Int32) &&& 0x3f).toInt64)) ||| (((x11.toInt64) &&& (255 : Int64)) <<< ((24 : Int32) &&& 0x3f).toInt64)) ||| (((x12.toInt64) &&& (255 : Int64)) <<< ((32 : Int32) &&& 0x3f).toInt64))), .second] [(.int (8 : Int32)), (.ref a1), (.long ((((((0 : Int64) ||| ((x8.toInt64) &&& (255 : Int64))) ||| (((x9.toInt64) &&& (255 : Int64)) <<< ((8 : Int32) &&& 0x3f).toInt64)) ||| (((x10.toInt64) &&& (255 : Int64)) <<< ((16 : Int32) &&& 0x3f).toInt64)) ||| (((x11.toInt64) &&& (255 : Int64)) <<< ((24 : Int32) &&& 0x3f).toInt64)) ||| (((x12.toInt64) &&& (255 : Int64)) <<< ((32 : Int32) &&& 0x3f).toInt64)))])) _
  refine own_go (fun _ k => XS.iconst X0.here hx rfl (hb hby d10_80) k) ?_
  show own_G p e below (s₁.setTop (mkF m 81 #[.val (.ref a1), .val (.int (8 : Int32)), .val (.long ((((((0 : Int64) ||| ((x8.toInt64) &&& (255 : Int64))) ||| (((x9.toInt64) &&& (255 : Int64)) <<< ((8 : Int32) &&& 0x3f).toInt64)) ||| (((x10.toInt64) &&& (255 : Int64)) <<< ((16 : Int32) &&& 0x3f).toInt64)) ||| (((x11.toInt64) &&& (255 : Int64)) <<< ((24 : Int32) &&& 0x3f).toInt64)) ||| (((x12.toInt64) &&& (255 : Int64)) <<< ((32 : Int32) &&& 0x3f).toInt64))), .second] [(.int (5 : Int32)), (.int (8 : Int32)), (.ref a1), (.long ((((((0 : Int64) ||| ((x8.toInt64) &&& (255 : Int64))) ||| (((x9.toInt64) &&& (255 : Int64)) <<< ((8 : Int32) &&& 0x3f).toInt64)) ||| (((x10.toInt64) &&& (255 : Int64)) <<< ((16 : Int32) &&& 0x3f).toInt64)) ||| (((x11.toInt64) &&& (255 : Int64)) <<< ((24 : Int32) &&& 0x3f).toInt64)) ||| (((x12.toInt64) &&& (255 : Int64)) <<< ((32 : Int32) &&& 0x3f).toInt64)))])) _
  refine own_go (fun _ k => XS.iadd X0.here hx rfl (hb hby d10_81) rfl k) ?_
  show own_G p e below (s₁.setTop (mkF m 82 #[.val (.ref a1), .val (.int (8 : Int32)), .val (.long ((((((0 : Int64) ||| ((x8.toInt64) &&& (255 : Int64))) ||| (((x9.toInt64) &&& (255 : Int64)) <<< ((8 : Int32) &&& 0x3f).toInt64)) ||| (((x10.toInt64) &&& (255 : Int64)) <<< ((16 : Int32) &&& 0x3f).toInt64)) ||| (((x11.toInt64) &&& (255 : Int64)) <<< ((24 : Int32) &&& 0x3f).toInt64)) ||| (((x12.toInt64) &&& (255 : Int64)) <<< ((32 : Int32) &&& 0x3f).toInt64))), .second] [(.int (13 : Int32)), (.ref a1), (.long ((((((0 : Int64) ||| ((x8.toInt64) &&& (255 : Int64))) ||| (((x9.toInt64) &&& (255 : Int64)) <<< ((8 : Int32) &&& 0x3f).toInt64)) ||| (((x10.toInt64) &&& (255 : Int64)) <<< ((16 : Int32) &&& 0x3f).toInt64)) ||| (((x11.toInt64) &&& (255 : Int64)) <<< ((24 : Int32) &&& 0x3f).toInt64)) ||| (((x12.toInt64) &&& (255 : Int64)) <<< ((32 : Int32) &&& 0x3f).toInt64)))])) _
  obtain ⟨cl227, Ar227, q227, S227, M227, B227, G227⟩ := id V_a1
  have hin227 : ¬ ((13 : Int32) < 0 ∨ cl227.slots.size ≤ ((13 : Int32)).toNatClampNeg) := inb_of S227 ⟨by decide, by decide⟩
  have hat227 : cl227.slots[((13 : Int32)).toNatClampNeg]? = some (.int x13) := B227.at hin227 rfl
  refine own_go (X0.baloadBytes hx (j := (13 : Int32)) (v := (.int x13)) (by rw [e0]; exact Ar227.1) (State.isArrayOf_alike hZ.alike Ar227.2.1) Ar227.2.2 hin227 hat227 (g := (mkF m 82 #[.val (.ref a1), .val (.int (8 : Int32)), .val (.long ((((((0 : Int64) ||| ((x8.toInt64) &&& (255 : Int64))) ||| (((x9.toInt64) &&& (255 : Int64)) <<< ((8 : Int32) &&& 0x3f).toInt64)) ||| (((x10.toInt64) &&& (255 : Int64)) <<< ((16 : Int32) &&& 0x3f).toInt64)) ||| (((x11.toInt64) &&& (255 : Int64)) <<< ((24 : Int32) &&& 0x3f).toInt64)) ||| (((x12.toInt64) &&& (255 : Int64)) <<< ((32 : Int32) &&& 0x3f).toInt64))), .second] [(.int (13 : Int32)), (.ref a1), (.long ((((((0 : Int64) ||| ((x8.toInt64) &&& (255 : Int64))) ||| (((x9.toInt64) &&& (255 : Int64)) <<< ((8 : Int32) &&& 0x3f).toInt64)) ||| (((x10.toInt64) &&& (255 : Int64)) <<< ((16 : Int32) &&& 0x3f).toInt64)) ||| (((x11.toInt64) &&& (255 : Int64)) <<< ((24 : Int32) &&& 0x3f).toInt64)) ||| (((x12.toInt64) &&& (255 : Int64)) <<< ((32 : Int32) &&& 0x3f).toInt64)))])) rfl rfl (hb hby d10_82)) ?_
  show own_G p e below (s₁.setTop (mkF m 83 #[.val (.ref a1), .val (.int (8 : Int32)), .val (.long ((((((0 : Int64) ||| ((x8.toInt64) &&& (255 : Int64))) ||| (((x9.toInt64) &&& (255 : Int64)) <<< ((8 : Int32) &&& 0x3f).toInt64)) ||| (((x10.toInt64) &&& (255 : Int64)) <<< ((16 : Int32) &&& 0x3f).toInt64)) ||| (((x11.toInt64) &&& (255 : Int64)) <<< ((24 : Int32) &&& 0x3f).toInt64)) ||| (((x12.toInt64) &&& (255 : Int64)) <<< ((32 : Int32) &&& 0x3f).toInt64))), .second] [(.int x13), (.long ((((((0 : Int64) ||| ((x8.toInt64) &&& (255 : Int64))) ||| (((x9.toInt64) &&& (255 : Int64)) <<< ((8 : Int32) &&& 0x3f).toInt64)) ||| (((x10.toInt64) &&& (255 : Int64)) <<< ((16 : Int32) &&& 0x3f).toInt64)) ||| (((x11.toInt64) &&& (255 : Int64)) <<< ((24 : Int32) &&& 0x3f).toInt64)) ||| (((x12.toInt64) &&& (255 : Int64)) <<< ((32 : Int32) &&& 0x3f).toInt64)))])) _
  refine own_go (fun _ k => XS.i2l X0.here hx rfl (hb hby d10_83) rfl k) ?_
  show own_G p e below (s₁.setTop (mkF m 84 #[.val (.ref a1), .val (.int (8 : Int32)), .val (.long ((((((0 : Int64) ||| ((x8.toInt64) &&& (255 : Int64))) ||| (((x9.toInt64) &&& (255 : Int64)) <<< ((8 : Int32) &&& 0x3f).toInt64)) ||| (((x10.toInt64) &&& (255 : Int64)) <<< ((16 : Int32) &&& 0x3f).toInt64)) ||| (((x11.toInt64) &&& (255 : Int64)) <<< ((24 : Int32) &&& 0x3f).toInt64)) ||| (((x12.toInt64) &&& (255 : Int64)) <<< ((32 : Int32) &&& 0x3f).toInt64))), .second] [(.long (x13.toInt64)), (.long ((((((0 : Int64) ||| ((x8.toInt64) &&& (255 : Int64))) ||| (((x9.toInt64) &&& (255 : Int64)) <<< ((8 : Int32) &&& 0x3f).toInt64)) ||| (((x10.toInt64) &&& (255 : Int64)) <<< ((16 : Int32) &&& 0x3f).toInt64)) ||| (((x11.toInt64) &&& (255 : Int64)) <<< ((24 : Int32) &&& 0x3f).toInt64)) ||| (((x12.toInt64) &&& (255 : Int64)) <<< ((32 : Int32) &&& 0x3f).toInt64)))])) _
  refine own_go (X0.ldc2Long hx hown (mvT hZ (hw _ (List.mem_of_getElem? (i := 62) rfl))) (g := (mkF m 84 #[.val (.ref a1), .val (.int (8 : Int32)), .val (.long ((((((0 : Int64) ||| ((x8.toInt64) &&& (255 : Int64))) ||| (((x9.toInt64) &&& (255 : Int64)) <<< ((8 : Int32) &&& 0x3f).toInt64)) ||| (((x10.toInt64) &&& (255 : Int64)) <<< ((16 : Int32) &&& 0x3f).toInt64)) ||| (((x11.toInt64) &&& (255 : Int64)) <<< ((24 : Int32) &&& 0x3f).toInt64)) ||| (((x12.toInt64) &&& (255 : Int64)) <<< ((32 : Int32) &&& 0x3f).toInt64))), .second] [(.long (x13.toInt64)), (.long ((((((0 : Int64) ||| ((x8.toInt64) &&& (255 : Int64))) ||| (((x9.toInt64) &&& (255 : Int64)) <<< ((8 : Int32) &&& 0x3f).toInt64)) ||| (((x10.toInt64) &&& (255 : Int64)) <<< ((16 : Int32) &&& 0x3f).toInt64)) ||| (((x11.toInt64) &&& (255 : Int64)) <<< ((24 : Int32) &&& 0x3f).toInt64)) ||| (((x12.toInt64) &&& (255 : Int64)) <<< ((32 : Int32) &&& 0x3f).toInt64)))])) rfl (hb hby d10_84)) ?_
  show own_G p e below (s₁.setTop (mkF m 87 #[.val (.ref a1), .val (.int (8 : Int32)), .val (.long ((((((0 : Int64) ||| ((x8.toInt64) &&& (255 : Int64))) ||| (((x9.toInt64) &&& (255 : Int64)) <<< ((8 : Int32) &&& 0x3f).toInt64)) ||| (((x10.toInt64) &&& (255 : Int64)) <<< ((16 : Int32) &&& 0x3f).toInt64)) ||| (((x11.toInt64) &&& (255 : Int64)) <<< ((24 : Int32) &&& 0x3f).toInt64)) ||| (((x12.toInt64) &&& (255 : Int64)) <<< ((32 : Int32) &&& 0x3f).toInt64))), .second] [(.long (255 : Int64)), (.long (x13.toInt64)), (.long ((((((0 : Int64) ||| ((x8.toInt64) &&& (255 : Int64))) ||| (((x9.toInt64) &&& (255 : Int64)) <<< ((8 : Int32) &&& 0x3f).toInt64)) ||| (((x10.toInt64) &&& (255 : Int64)) <<< ((16 : Int32) &&& 0x3f).toInt64)) ||| (((x11.toInt64) &&& (255 : Int64)) <<< ((24 : Int32) &&& 0x3f).toInt64)) ||| (((x12.toInt64) &&& (255 : Int64)) <<< ((32 : Int32) &&& 0x3f).toInt64)))])) _
  refine own_go (fun _ k => XS.land X0.here hx rfl (hb hby d10_87) rfl k) ?_
  show own_G p e below (s₁.setTop (mkF m 88 #[.val (.ref a1), .val (.int (8 : Int32)), .val (.long ((((((0 : Int64) ||| ((x8.toInt64) &&& (255 : Int64))) ||| (((x9.toInt64) &&& (255 : Int64)) <<< ((8 : Int32) &&& 0x3f).toInt64)) ||| (((x10.toInt64) &&& (255 : Int64)) <<< ((16 : Int32) &&& 0x3f).toInt64)) ||| (((x11.toInt64) &&& (255 : Int64)) <<< ((24 : Int32) &&& 0x3f).toInt64)) ||| (((x12.toInt64) &&& (255 : Int64)) <<< ((32 : Int32) &&& 0x3f).toInt64))), .second] [(.long ((x13.toInt64) &&& (255 : Int64))), (.long ((((((0 : Int64) ||| ((x8.toInt64) &&& (255 : Int64))) ||| (((x9.toInt64) &&& (255 : Int64)) <<< ((8 : Int32) &&& 0x3f).toInt64)) ||| (((x10.toInt64) &&& (255 : Int64)) <<< ((16 : Int32) &&& 0x3f).toInt64)) ||| (((x11.toInt64) &&& (255 : Int64)) <<< ((24 : Int32) &&& 0x3f).toInt64)) ||| (((x12.toInt64) &&& (255 : Int64)) <<< ((32 : Int32) &&& 0x3f).toInt64)))])) _
  refine own_go (fun _ k => XS.bipush X0.here hx rfl (hb hby d10_88) k) ?_
  show own_G p e below (s₁.setTop (mkF m 90 #[.val (.ref a1), .val (.int (8 : Int32)), .val (.long ((((((0 : Int64) ||| ((x8.toInt64) &&& (255 : Int64))) ||| (((x9.toInt64) &&& (255 : Int64)) <<< ((8 : Int32) &&& 0x3f).toInt64)) ||| (((x10.toInt64) &&& (255 : Int64)) <<< ((16 : Int32) &&& 0x3f).toInt64)) ||| (((x11.toInt64) &&& (255 : Int64)) <<< ((24 : Int32) &&& 0x3f).toInt64)) ||| (((x12.toInt64) &&& (255 : Int64)) <<< ((32 : Int32) &&& 0x3f).toInt64))), .second] [(.int (40 : Int32)), (.long ((x13.toInt64) &&& (255 : Int64))), (.long ((((((0 : Int64) ||| ((x8.toInt64) &&& (255 : Int64))) ||| (((x9.toInt64) &&& (255 : Int64)) <<< ((8 : Int32) &&& 0x3f).toInt64)) ||| (((x10.toInt64) &&& (255 : Int64)) <<< ((16 : Int32) &&& 0x3f).toInt64)) ||| (((x11.toInt64) &&& (255 : Int64)) <<< ((24 : Int32) &&& 0x3f).toInt64)) ||| (((x12.toInt64) &&& (255 : Int64)) <<< ((32 : Int32) &&& 0x3f).toInt64)))])) _
  refine own_go (fun _ k => XS.lshl X0.here hx rfl (hb hby d10_90) rfl k) ?_
  show own_G p e below (s₁.setTop (mkF m 91 #[.val (.ref a1), .val (.int (8 : Int32)), .val (.long ((((((0 : Int64) ||| ((x8.toInt64) &&& (255 : Int64))) ||| (((x9.toInt64) &&& (255 : Int64)) <<< ((8 : Int32) &&& 0x3f).toInt64)) ||| (((x10.toInt64) &&& (255 : Int64)) <<< ((16 : Int32) &&& 0x3f).toInt64)) ||| (((x11.toInt64) &&& (255 : Int64)) <<< ((24 : Int32) &&& 0x3f).toInt64)) ||| (((x12.toInt64) &&& (255 : Int64)) <<< ((32 : Int32) &&& 0x3f).toInt64))), .second] [(.long (((x13.toInt64) &&& (255 : Int64)) <<< ((40 : Int32) &&& 0x3f).toInt64)), (.long ((((((0 : Int64) ||| ((x8.toInt64) &&& (255 : Int64))) ||| (((x9.toInt64) &&& (255 : Int64)) <<< ((8 : Int32) &&& 0x3f).toInt64)) ||| (((x10.toInt64) &&& (255 : Int64)) <<< ((16 : Int32) &&& 0x3f).toInt64)) ||| (((x11.toInt64) &&& (255 : Int64)) <<< ((24 : Int32) &&& 0x3f).toInt64)) ||| (((x12.toInt64) &&& (255 : Int64)) <<< ((32 : Int32) &&& 0x3f).toInt64)))])) _
  refine own_go (fun _ k => XS.lor X0.here hx rfl (hb hby d10_91) rfl k) ?_
  show own_G p e below (s₁.setTop (mkF m 92 #[.val (.ref a1), .val (.int (8 : Int32)), .val (.long ((((((0 : Int64) ||| ((x8.toInt64) &&& (255 : Int64))) ||| (((x9.toInt64) &&& (255 : Int64)) <<< ((8 : Int32) &&& 0x3f).toInt64)) ||| (((x10.toInt64) &&& (255 : Int64)) <<< ((16 : Int32) &&& 0x3f).toInt64)) ||| (((x11.toInt64) &&& (255 : Int64)) <<< ((24 : Int32) &&& 0x3f).toInt64)) ||| (((x12.toInt64) &&& (255 : Int64)) <<< ((32 : Int32) &&& 0x3f).toInt64))), .second] [(.long (((((((0 : Int64) ||| ((x8.toInt64) &&& (255 : Int64))) ||| (((x9.toInt64) &&& (255 : Int64)) <<< ((8 : Int32) &&& 0x3f).toInt64)) ||| (((x10.toInt64) &&& (255 : Int64)) <<< ((16 : Int32) &&& 0x3f).toInt64)) ||| (((x11.toInt64) &&& (255 : Int64)) <<< ((24 : Int32) &&& 0x3f).toInt64)) ||| (((x12.toInt64) &&& (255 : Int64)) <<< ((32 : Int32) &&& 0x3f).toInt64)) ||| (((x13.toInt64) &&& (255 : Int64)) <<< ((40 : Int32) &&& 0x3f).toInt64)))])) _
  refine own_go (fun _ k => XS.lstoreN X0.here hx rfl (hb hby d10_92) rfl (l' := #[.val (.ref a1), .val (.int (8 : Int32)), .val (.long (((((((0 : Int64) ||| ((x8.toInt64) &&& (255 : Int64))) ||| (((x9.toInt64) &&& (255 : Int64)) <<< ((8 : Int32) &&& 0x3f).toInt64)) ||| (((x10.toInt64) &&& (255 : Int64)) <<< ((16 : Int32) &&& 0x3f).toInt64)) ||| (((x11.toInt64) &&& (255 : Int64)) <<< ((24 : Int32) &&& 0x3f).toInt64)) ||| (((x12.toInt64) &&& (255 : Int64)) <<< ((32 : Int32) &&& 0x3f).toInt64)) ||| (((x13.toInt64) &&& (255 : Int64)) <<< ((40 : Int32) &&& 0x3f).toInt64))), .second]) rfl k) ?_
  show own_G p e below (s₁.setTop (mkF m 93 #[.val (.ref a1), .val (.int (8 : Int32)), .val (.long (((((((0 : Int64) ||| ((x8.toInt64) &&& (255 : Int64))) ||| (((x9.toInt64) &&& (255 : Int64)) <<< ((8 : Int32) &&& 0x3f).toInt64)) ||| (((x10.toInt64) &&& (255 : Int64)) <<< ((16 : Int32) &&& 0x3f).toInt64)) ||| (((x11.toInt64) &&& (255 : Int64)) <<< ((24 : Int32) &&& 0x3f).toInt64)) ||| (((x12.toInt64) &&& (255 : Int64)) <<< ((32 : Int32) &&& 0x3f).toInt64)) ||| (((x13.toInt64) &&& (255 : Int64)) <<< ((40 : Int32) &&& 0x3f).toInt64))), .second] [])) _
  refine own_go (fun _ k => XS.lloadN X0.here hx rfl (hb hby d10_93) rfl k) ?_
  show own_G p e below (s₁.setTop (mkF m 94 #[.val (.ref a1), .val (.int (8 : Int32)), .val (.long (((((((0 : Int64) ||| ((x8.toInt64) &&& (255 : Int64))) ||| (((x9.toInt64) &&& (255 : Int64)) <<< ((8 : Int32) &&& 0x3f).toInt64)) ||| (((x10.toInt64) &&& (255 : Int64)) <<< ((16 : Int32) &&& 0x3f).toInt64)) ||| (((x11.toInt64) &&& (255 : Int64)) <<< ((24 : Int32) &&& 0x3f).toInt64)) ||| (((x12.toInt64) &&& (255 : Int64)) <<< ((32 : Int32) &&& 0x3f).toInt64)) ||| (((x13.toInt64) &&& (255 : Int64)) <<< ((40 : Int32) &&& 0x3f).toInt64))), .second] [(.long (((((((0 : Int64) ||| ((x8.toInt64) &&& (255 : Int64))) ||| (((x9.toInt64) &&& (255 : Int64)) <<< ((8 : Int32) &&& 0x3f).toInt64)) ||| (((x10.toInt64) &&& (255 : Int64)) <<< ((16 : Int32) &&& 0x3f).toInt64)) ||| (((x11.toInt64) &&& (255 : Int64)) <<< ((24 : Int32) &&& 0x3f).toInt64)) ||| (((x12.toInt64) &&& (255 : Int64)) <<< ((32 : Int32) &&& 0x3f).toInt64)) ||| (((x13.toInt64) &&& (255 : Int64)) <<< ((40 : Int32) &&& 0x3f).toInt64)))])) _
  refine own_go (fun _ k => XS.aloadN X0.here hx rfl (hb hby d10_94) rfl rfl k) ?_
  show own_G p e below (s₁.setTop (mkF m 95 #[.val (.ref a1), .val (.int (8 : Int32)), .val (.long (((((((0 : Int64) ||| ((x8.toInt64) &&& (255 : Int64))) ||| (((x9.toInt64) &&& (255 : Int64)) <<< ((8 : Int32) &&& 0x3f).toInt64)) ||| (((x10.toInt64) &&& (255 : Int64)) <<< ((16 : Int32) &&& 0x3f).toInt64)) ||| (((x11.toInt64) &&& (255 : Int64)) <<< ((24 : Int32) &&& 0x3f).toInt64)) ||| (((x12.toInt64) &&& (255 : Int64)) <<< ((32 : Int32) &&& 0x3f).toInt64)) ||| (((x13.toInt64) &&& (255 : Int64)) <<< ((40 : Int32) &&& 0x3f).toInt64))), .second] [(.ref a1), (.long (((((((0 : Int64) ||| ((x8.toInt64) &&& (255 : Int64))) ||| (((x9.toInt64) &&& (255 : Int64)) <<< ((8 : Int32) &&& 0x3f).toInt64)) ||| (((x10.toInt64) &&& (255 : Int64)) <<< ((16 : Int32) &&& 0x3f).toInt64)) ||| (((x11.toInt64) &&& (255 : Int64)) <<< ((24 : Int32) &&& 0x3f).toInt64)) ||| (((x12.toInt64) &&& (255 : Int64)) <<< ((32 : Int32) &&& 0x3f).toInt64)) ||| (((x13.toInt64) &&& (255 : Int64)) <<< ((40 : Int32) &&& 0x3f).toInt64)))])) _
  refine own_go (fun _ k => XS.iloadN X0.here hx rfl (hb hby d10_95) rfl k) ?_
  show own_G p e below (s₁.setTop (mkF m 96 #[.val (.ref a1), .val (.int (8 : Int32)), .val (.long (((((((0 : Int64) ||| ((x8.toInt64) &&& (255 : Int64))) ||| (((x9.toInt64) &&& (255 : Int64)) <<< ((8 : Int32) &&& 0x3f).toInt64)) ||| (((x10.toInt64) &&& (255 : Int64)) <<< ((16 : Int32) &&& 0x3f).toInt64)) ||| (((x11.toInt64) &&& (255 : Int64)) <<< ((24 : Int32) &&& 0x3f).toInt64)) ||| (((x12.toInt64) &&& (255 : Int64)) <<< ((32 : Int32) &&& 0x3f).toInt64)) ||| (((x13.toInt64) &&& (255 : Int64)) <<< ((40 : Int32) &&& 0x3f).toInt64))), .second] [(.int (8 : Int32)), (.ref a1), (.long (((((((0 : Int64) ||| ((x8.toInt64) &&& (255 : Int64))) ||| (((x9.toInt64) &&& (255 : Int64)) <<< ((8 : Int32) &&& 0x3f).toInt64)) ||| (((x10.toInt64) &&& (255 : Int64)) <<< ((16 : Int32) &&& 0x3f).toInt64)) ||| (((x11.toInt64) &&& (255 : Int64)) <<< ((24 : Int32) &&& 0x3f).toInt64)) ||| (((x12.toInt64) &&& (255 : Int64)) <<< ((32 : Int32) &&& 0x3f).toInt64)) ||| (((x13.toInt64) &&& (255 : Int64)) <<< ((40 : Int32) &&& 0x3f).toInt64)))])) _
  refine own_go (fun _ k => XS.bipush X0.here hx rfl (hb hby d10_96) k) ?_
  show own_G p e below (s₁.setTop (mkF m 98 #[.val (.ref a1), .val (.int (8 : Int32)), .val (.long (((((((0 : Int64) ||| ((x8.toInt64) &&& (255 : Int64))) ||| (((x9.toInt64) &&& (255 : Int64)) <<< ((8 : Int32) &&& 0x3f).toInt64)) ||| (((x10.toInt64) &&& (255 : Int64)) <<< ((16 : Int32) &&& 0x3f).toInt64)) ||| (((x11.toInt64) &&& (255 : Int64)) <<< ((24 : Int32) &&& 0x3f).toInt64)) ||| (((x12.toInt64) &&& (255 : Int64)) <<< ((32 : Int32) &&& 0x3f).toInt64)) ||| (((x13.toInt64) &&& (255 : Int64)) <<< ((40 : Int32) &&& 0x3f).toInt64))), .second] [(.int (6 : Int32)), (.int (8 : Int32)), (.ref a1), (.long (((((((0 : Int64) ||| ((x8.toInt64) &&& (255 : Int64))) ||| (((x9.toInt64) &&& (255 : Int64)) <<< ((8 : Int32) &&& 0x3f).toInt64)) ||| (((x10.toInt64) &&& (255 : Int64)) <<< ((16 : Int32) &&& 0x3f).toInt64)) ||| (((x11.toInt64) &&& (255 : Int64)) <<< ((24 : Int32) &&& 0x3f).toInt64)) ||| (((x12.toInt64) &&& (255 : Int64)) <<< ((32 : Int32) &&& 0x3f).toInt64)) ||| (((x13.toInt64) &&& (255 : Int64)) <<< ((40 : Int32) &&& 0x3f).toInt64)))])) _
  refine own_go (fun _ k => XS.iadd X0.here hx rfl (hb hby d10_98) rfl k) ?_
  show own_G p e below (s₁.setTop (mkF m 99 #[.val (.ref a1), .val (.int (8 : Int32)), .val (.long (((((((0 : Int64) ||| ((x8.toInt64) &&& (255 : Int64))) ||| (((x9.toInt64) &&& (255 : Int64)) <<< ((8 : Int32) &&& 0x3f).toInt64)) ||| (((x10.toInt64) &&& (255 : Int64)) <<< ((16 : Int32) &&& 0x3f).toInt64)) ||| (((x11.toInt64) &&& (255 : Int64)) <<< ((24 : Int32) &&& 0x3f).toInt64)) ||| (((x12.toInt64) &&& (255 : Int64)) <<< ((32 : Int32) &&& 0x3f).toInt64)) ||| (((x13.toInt64) &&& (255 : Int64)) <<< ((40 : Int32) &&& 0x3f).toInt64))), .second] [(.int (14 : Int32)), (.ref a1), (.long (((((((0 : Int64) ||| ((x8.toInt64) &&& (255 : Int64))) ||| (((x9.toInt64) &&& (255 : Int64)) <<< ((8 : Int32) &&& 0x3f).toInt64)) ||| (((x10.toInt64) &&& (255 : Int64)) <<< ((16 : Int32) &&& 0x3f).toInt64)) ||| (((x11.toInt64) &&& (255 : Int64)) <<< ((24 : Int32) &&& 0x3f).toInt64)) ||| (((x12.toInt64) &&& (255 : Int64)) <<< ((32 : Int32) &&& 0x3f).toInt64)) ||| (((x13.toInt64) &&& (255 : Int64)) <<< ((40 : Int32) &&& 0x3f).toInt64)))])) _
  obtain ⟨cl228, Ar228, q228, S228, M228, B228, G228⟩ := id V_a1
  have hin228 : ¬ ((14 : Int32) < 0 ∨ cl228.slots.size ≤ ((14 : Int32)).toNatClampNeg) := inb_of S228 ⟨by decide, by decide⟩
  have hat228 : cl228.slots[((14 : Int32)).toNatClampNeg]? = some (.int x14) := B228.at hin228 rfl
  refine own_go (X0.baloadBytes hx (j := (14 : Int32)) (v := (.int x14)) (by rw [e0]; exact Ar228.1) (State.isArrayOf_alike hZ.alike Ar228.2.1) Ar228.2.2 hin228 hat228 (g := (mkF m 99 #[.val (.ref a1), .val (.int (8 : Int32)), .val (.long (((((((0 : Int64) ||| ((x8.toInt64) &&& (255 : Int64))) ||| (((x9.toInt64) &&& (255 : Int64)) <<< ((8 : Int32) &&& 0x3f).toInt64)) ||| (((x10.toInt64) &&& (255 : Int64)) <<< ((16 : Int32) &&& 0x3f).toInt64)) ||| (((x11.toInt64) &&& (255 : Int64)) <<< ((24 : Int32) &&& 0x3f).toInt64)) ||| (((x12.toInt64) &&& (255 : Int64)) <<< ((32 : Int32) &&& 0x3f).toInt64)) ||| (((x13.toInt64) &&& (255 : Int64)) <<< ((40 : Int32) &&& 0x3f).toInt64))), .second] [(.int (14 : Int32)), (.ref a1), (.long (((((((0 : Int64) ||| ((x8.toInt64) &&& (255 : Int64))) ||| (((x9.toInt64) &&& (255 : Int64)) <<< ((8 : Int32) &&& 0x3f).toInt64)) ||| (((x10.toInt64) &&& (255 : Int64)) <<< ((16 : Int32) &&& 0x3f).toInt64)) ||| (((x11.toInt64) &&& (255 : Int64)) <<< ((24 : Int32) &&& 0x3f).toInt64)) ||| (((x12.toInt64) &&& (255 : Int64)) <<< ((32 : Int32) &&& 0x3f).toInt64)) ||| (((x13.toInt64) &&& (255 : Int64)) <<< ((40 : Int32) &&& 0x3f).toInt64)))])) rfl rfl (hb hby d10_99)) ?_
  show own_G p e below (s₁.setTop (mkF m 100 #[.val (.ref a1), .val (.int (8 : Int32)), .val (.long (((((((0 : Int64) ||| ((x8.toInt64) &&& (255 : Int64))) ||| (((x9.toInt64) &&& (255 : Int64)) <<< ((8 : Int32) &&& 0x3f).toInt64)) ||| (((x10.toInt64) &&& (255 : Int64)) <<< ((16 : Int32) &&& 0x3f).toInt64)) ||| (((x11.toInt64) &&& (255 : Int64)) <<< ((24 : Int32) &&& 0x3f).toInt64)) ||| (((x12.toInt64) &&& (255 : Int64)) <<< ((32 : Int32) &&& 0x3f).toInt64)) ||| (((x13.toInt64) &&& (255 : Int64)) <<< ((40 : Int32) &&& 0x3f).toInt64))), .second] [(.int x14), (.long (((((((0 : Int64) ||| ((x8.toInt64) &&& (255 : Int64))) ||| (((x9.toInt64) &&& (255 : Int64)) <<< ((8 : Int32) &&& 0x3f).toInt64)) ||| (((x10.toInt64) &&& (255 : Int64)) <<< ((16 : Int32) &&& 0x3f).toInt64)) ||| (((x11.toInt64) &&& (255 : Int64)) <<< ((24 : Int32) &&& 0x3f).toInt64)) ||| (((x12.toInt64) &&& (255 : Int64)) <<< ((32 : Int32) &&& 0x3f).toInt64)) ||| (((x13.toInt64) &&& (255 : Int64)) <<< ((40 : Int32) &&& 0x3f).toInt64)))])) _
  refine own_go (fun _ k => XS.i2l X0.here hx rfl (hb hby d10_100) rfl k) ?_
  show own_G p e below (s₁.setTop (mkF m 101 #[.val (.ref a1), .val (.int (8 : Int32)), .val (.long (((((((0 : Int64) ||| ((x8.toInt64) &&& (255 : Int64))) ||| (((x9.toInt64) &&& (255 : Int64)) <<< ((8 : Int32) &&& 0x3f).toInt64)) ||| (((x10.toInt64) &&& (255 : Int64)) <<< ((16 : Int32) &&& 0x3f).toInt64)) ||| (((x11.toInt64) &&& (255 : Int64)) <<< ((24 : Int32) &&& 0x3f).toInt64)) ||| (((x12.toInt64) &&& (255 : Int64)) <<< ((32 : Int32) &&& 0x3f).toInt64)) ||| (((x13.toInt64) &&& (255 : Int64)) <<< ((40 : Int32) &&& 0x3f).toInt64))), .second] [(.long (x14.toInt64)), (.long (((((((0 : Int64) ||| ((x8.toInt64) &&& (255 : Int64))) ||| (((x9.toInt64) &&& (255 : Int64)) <<< ((8 : Int32) &&& 0x3f).toInt64)) ||| (((x10.toInt64) &&& (255 : Int64)) <<< ((16 : Int32) &&& 0x3f).toInt64)) ||| (((x11.toInt64) &&& (255 : Int64)) <<< ((24 : Int32) &&& 0x3f).toInt64)) ||| (((x12.toInt64) &&& (255 : Int64)) <<< ((32 : Int32) &&& 0x3f).toInt64)) ||| (((x13.toInt64) &&& (255 : Int64)) <<< ((40 : Int32) &&& 0x3f).toInt64)))])) _
  refine own_go (X0.ldc2Long hx hown (mvT hZ (hw _ (List.mem_of_getElem? (i := 62) rfl))) (g := (mkF m 101 #[.val (.ref a1), .val (.int (8 : Int32)), .val (.long (((((((0 : Int64) ||| ((x8.toInt64) &&& (255 : Int64))) ||| (((x9.toInt64) &&& (255 : Int64)) <<< ((8 : Int32) &&& 0x3f).toInt64)) ||| (((x10.toInt64) &&& (255 : Int64)) <<< ((16 : Int32) &&& 0x3f).toInt64)) ||| (((x11.toInt64) &&& (255 : Int64)) <<< ((24 : Int32) &&& 0x3f).toInt64)) ||| (((x12.toInt64) &&& (255 : Int64)) <<< ((32 : Int32) &&& 0x3f).toInt64)) ||| (((x13.toInt64) &&& (255 : Int64)) <<< ((40 : Int32) &&& 0x3f).toInt64))), .second] [(.long (x14.toInt64)), (.long (((((((0 : Int64) ||| ((x8.toInt64) &&& (255 : Int64))) ||| (((x9.toInt64) &&& (255 : Int64)) <<< ((8 : Int32) &&& 0x3f).toInt64)) ||| (((x10.toInt64) &&& (255 : Int64)) <<< ((16 : Int32) &&& 0x3f).toInt64)) ||| (((x11.toInt64) &&& (255 : Int64)) <<< ((24 : Int32) &&& 0x3f).toInt64)) ||| (((x12.toInt64) &&& (255 : Int64)) <<< ((32 : Int32) &&& 0x3f).toInt64)) ||| (((x13.toInt64) &&& (255 : Int64)) <<< ((40 : Int32) &&& 0x3f).toInt64)))])) rfl (hb hby d10_101)) ?_
  show own_G p e below (s₁.setTop (mkF m 104 #[.val (.ref a1), .val (.int (8 : Int32)), .val (.long (((((((0 : Int64) ||| ((x8.toInt64) &&& (255 : Int64))) ||| (((x9.toInt64) &&& (255 : Int64)) <<< ((8 : Int32) &&& 0x3f).toInt64)) ||| (((x10.toInt64) &&& (255 : Int64)) <<< ((16 : Int32) &&& 0x3f).toInt64)) ||| (((x11.toInt64) &&& (255 : Int64)) <<< ((24 : Int32) &&& 0x3f).toInt64)) ||| (((x12.toInt64) &&& (255 : Int64)) <<< ((32 : Int32) &&& 0x3f).toInt64)) ||| (((x13.toInt64) &&& (255 : Int64)) <<< ((40 : Int32) &&& 0x3f).toInt64))), .second] [(.long (255 : Int64)), (.long (x14.toInt64)), (.long (((((((0 : Int64) ||| ((x8.toInt64) &&& (255 : Int64))) ||| (((x9.toInt64) &&& (255 : Int64)) <<< ((8 : Int32) &&& 0x3f).toInt64)) ||| (((x10.toInt64) &&& (255 : Int64)) <<< ((16 : Int32) &&& 0x3f).toInt64)) ||| (((x11.toInt64) &&& (255 : Int64)) <<< ((24 : Int32) &&& 0x3f).toInt64)) ||| (((x12.toInt64) &&& (255 : Int64)) <<< ((32 : Int32) &&& 0x3f).toInt64)) ||| (((x13.toInt64) &&& (255 : Int64)) <<< ((40 : Int32) &&& 0x3f).toInt64)))])) _
  refine own_go (fun _ k => XS.land X0.here hx rfl (hb hby d10_104) rfl k) ?_
  show own_G p e below (s₁.setTop (mkF m 105 #[.val (.ref a1), .val (.int (8 : Int32)), .val (.long (((((((0 : Int64) ||| ((x8.toInt64) &&& (255 : Int64))) ||| (((x9.toInt64) &&& (255 : Int64)) <<< ((8 : Int32) &&& 0x3f).toInt64)) ||| (((x10.toInt64) &&& (255 : Int64)) <<< ((16 : Int32) &&& 0x3f).toInt64)) ||| (((x11.toInt64) &&& (255 : Int64)) <<< ((24 : Int32) &&& 0x3f).toInt64)) ||| (((x12.toInt64) &&& (255 : Int64)) <<< ((32 : Int32) &&& 0x3f).toInt64)) ||| (((x13.toInt64) &&& (255 : Int64)) <<< ((40 : Int32) &&& 0x3f).toInt64))), .second] [(.long ((x14.toInt64) &&& (255 : Int64))), (.long (((((((0 : Int64) ||| ((x8.toInt64) &&& (255 : Int64))) ||| (((x9.toInt64) &&& (255 : Int64)) <<< ((8 : Int32) &&& 0x3f).toInt64)) ||| (((x10.toInt64) &&& (255 : Int64)) <<< ((16 : Int32) &&& 0x3f).toInt64)) ||| (((x11.toInt64) &&& (255 : Int64)) <<< ((24 : Int32) &&& 0x3f).toInt64)) ||| (((x12.toInt64) &&& (255 : Int64)) <<< ((32 : Int32) &&& 0x3f).toInt64)) ||| (((x13.toInt64) &&& (255 : Int64)) <<< ((40 : Int32) &&& 0x3f).toInt64)))])) _
  refine own_go (fun _ k => XS.bipush X0.here hx rfl (hb hby d10_105) k) ?_
  show own_G p e below (s₁.setTop (mkF m 107 #[.val (.ref a1), .val (.int (8 : Int32)), .val (.long (((((((0 : Int64) ||| ((x8.toInt64) &&& (255 : Int64))) ||| (((x9.toInt64) &&& (255 : Int64)) <<< ((8 : Int32) &&& 0x3f).toInt64)) ||| (((x10.toInt64) &&& (255 : Int64)) <<< ((16 : Int32) &&& 0x3f).toInt64)) ||| (((x11.toInt64) &&& (255 : Int64)) <<< ((24 : Int32) &&& 0x3f).toInt64)) ||| (((x12.toInt64) &&& (255 : Int64)) <<< ((32 : Int32) &&& 0x3f).toInt64)) ||| (((x13.toInt64) &&& (255 : Int64)) <<< ((40 : Int32) &&& 0x3f).toInt64))), .second] [(.int (48 : Int32)), (.long ((x14.toInt64) &&& (255 : Int64))), (.long (((((((0 : Int64) ||| ((x8.toInt64) &&& (255 : Int64))) ||| (((x9.toInt64) &&& (255 : Int64)) <<< ((8 : Int32) &&& 0x3f).toInt64)) ||| (((x10.toInt64) &&& (255 : Int64)) <<< ((16 : Int32) &&& 0x3f).toInt64)) ||| (((x11.toInt64) &&& (255 : Int64)) <<< ((24 : Int32) &&& 0x3f).toInt64)) ||| (((x12.toInt64) &&& (255 : Int64)) <<< ((32 : Int32) &&& 0x3f).toInt64)) ||| (((x13.toInt64) &&& (255 : Int64)) <<< ((40 : Int32) &&& 0x3f).toInt64)))])) _
  refine own_go (fun _ k => XS.lshl X0.here hx rfl (hb hby d10_107) rfl k) ?_
  show own_G p e below (s₁.setTop (mkF m 108 #[.val (.ref a1), .val (.int (8 : Int32)), .val (.long (((((((0 : Int64) ||| ((x8.toInt64) &&& (255 : Int64))) ||| (((x9.toInt64) &&& (255 : Int64)) <<< ((8 : Int32) &&& 0x3f).toInt64)) ||| (((x10.toInt64) &&& (255 : Int64)) <<< ((16 : Int32) &&& 0x3f).toInt64)) ||| (((x11.toInt64) &&& (255 : Int64)) <<< ((24 : Int32) &&& 0x3f).toInt64)) ||| (((x12.toInt64) &&& (255 : Int64)) <<< ((32 : Int32) &&& 0x3f).toInt64)) ||| (((x13.toInt64) &&& (255 : Int64)) <<< ((40 : Int32) &&& 0x3f).toInt64))), .second] [(.long (((x14.toInt64) &&& (255 : Int64)) <<< ((48 : Int32) &&& 0x3f).toInt64)), (.long (((((((0 : Int64) ||| ((x8.toInt64) &&& (255 : Int64))) ||| (((x9.toInt64) &&& (255 : Int64)) <<< ((8 : Int32) &&& 0x3f).toInt64)) ||| (((x10.toInt64) &&& (255 : Int64)) <<< ((16 : Int32) &&& 0x3f).toInt64)) ||| (((x11.toInt64) &&& (255 : Int64)) <<< ((24 : Int32) &&& 0x3f).toInt64)) ||| (((x12.toInt64) &&& (255 : Int64)) <<< ((32 : Int32) &&& 0x3f).toInt64)) ||| (((x13.toInt64) &&& (255 : Int64)) <<< ((40 : Int32) &&& 0x3f).toInt64)))])) _
  refine own_go (fun _ k => XS.lor X0.here hx rfl (hb hby d10_108) rfl k) ?_
  show own_G p e below (s₁.setTop (mkF m 109 #[.val (.ref a1), .val (.int (8 : Int32)), .val (.long (((((((0 : Int64) ||| ((x8.toInt64) &&& (255 : Int64))) ||| (((x9.toInt64) &&& (255 : Int64)) <<< ((8 : Int32) &&& 0x3f).toInt64)) ||| (((x10.toInt64) &&& (255 : Int64)) <<< ((16 : Int32) &&& 0x3f).toInt64)) ||| (((x11.toInt64) &&& (255 : Int64)) <<< ((24 : Int32) &&& 0x3f).toInt64)) ||| (((x12.toInt64) &&& (255 : Int64)) <<< ((32 : Int32) &&& 0x3f).toInt64)) ||| (((x13.toInt64) &&& (255 : Int64)) <<< ((40 : Int32) &&& 0x3f).toInt64))), .second] [(.long ((((((((0 : Int64) ||| ((x8.toInt64) &&& (255 : Int64))) ||| (((x9.toInt64) &&& (255 : Int64)) <<< ((8 : Int32) &&& 0x3f).toInt64)) ||| (((x10.toInt64) &&& (255 : Int64)) <<< ((16 : Int32) &&& 0x3f).toInt64)) ||| (((x11.toInt64) &&& (255 : Int64)) <<< ((24 : Int32) &&& 0x3f).toInt64)) ||| (((x12.toInt64) &&& (255 : Int64)) <<< ((32 : Int32) &&& 0x3f).toInt64)) ||| (((x13.toInt64) &&& (255 : Int64)) <<< ((40 : Int32) &&& 0x3f).toInt64)) ||| (((x14.toInt64) &&& (255 : Int64)) <<< ((48 : Int32) &&& 0x3f).toInt64)))])) _
  refine own_go (fun _ k => XS.lstoreN X0.here hx rfl (hb hby d10_109) rfl (l' := #[.val (.ref a1), .val (.int (8 : Int32)), .val (.long ((((((((0 : Int64) ||| ((x8.toInt64) &&& (255 : Int64))) ||| (((x9.toInt64) &&& (255 : Int64)) <<< ((8 : Int32) &&& 0x3f).toInt64)) ||| (((x10.toInt64) &&& (255 : Int64)) <<< ((16 : Int32) &&& 0x3f).toInt64)) ||| (((x11.toInt64) &&& (255 : Int64)) <<< ((24 : Int32) &&& 0x3f).toInt64)) ||| (((x12.toInt64) &&& (255 : Int64)) <<< ((32 : Int32) &&& 0x3f).toInt64)) ||| (((x13.toInt64) &&& (255 : Int64)) <<< ((40 : Int32) &&& 0x3f).toInt64)) ||| (((x14.toInt64) &&& (255 : Int64)) <<< ((48 : Int32) &&& 0x3f).toInt64))), .second]) rfl k) ?_
  show own_G p e below (s₁.setTop (mkF m 110 #[.val (.ref a1), .val (.int (8 : Int32)), .val (.long ((((((((0 : Int64) ||| ((x8.toInt64) &&& (255 : Int64))) ||| (((x9.toInt64) &&& (255 : Int64)) <<< ((8 : Int32) &&& 0x3f).toInt64)) ||| (((x10.toInt64) &&& (255 : Int64)) <<< ((16 : Int32) &&& 0x3f).toInt64)) ||| (((x11.toInt64) &&& (255 : Int64)) <<< ((24 : Int32) &&& 0x3f).toInt64)) ||| (((x12.toInt64) &&& (255 : Int64)) <<< ((32 : Int32) &&& 0x3f).toInt64)) ||| (((x13.toInt64) &&& (255 : Int64)) <<< ((40 : Int32) &&& 0x3f).toInt64)) ||| (((x14.toInt64) &&& (255 : Int64)) <<< ((48 : Int32) &&& 0x3f).toInt64))), .second] [])) _
  refine own_go (fun _ k => XS.lloadN X0.here hx rfl (hb hby d10_110) rfl k) ?_
  show own_G p e below (s₁.setTop (mkF m 111 #[.val (.ref a1), .val (.int (8 : Int32)), .val (.long ((((((((0 : Int64) ||| ((x8.toInt64) &&& (255 : Int64))) ||| (((x9.toInt64) &&& (255 : Int64)) <<< ((8 : Int32) &&& 0x3f).toInt64)) ||| (((x10.toInt64) &&& (255 : Int64)) <<< ((16 : Int32) &&& 0x3f).toInt64)) ||| (((x11.toInt64) &&& (255 : Int64)) <<< ((24 : Int32) &&& 0x3f).toInt64)) ||| (((x12.toInt64) &&& (255 : Int64)) <<< ((32 : Int32) &&& 0x3f).toInt64)) ||| (((x13.toInt64) &&& (255 : Int64)) <<< ((40 : Int32) &&& 0x3f).toInt64)) ||| (((x14.toInt64) &&& (255 : Int64)) <<< ((48 : Int32) &&& 0x3f).toInt64))), .second] [(.long ((((((((0 : Int64) ||| ((x8.toInt64) &&& (255 : Int64))) ||| (((x9.toInt64) &&& (255 : Int64)) <<< ((8 : Int32) &&& 0x3f).toInt64)) ||| (((x10.toInt64) &&& (255 : Int64)) <<< ((16 : Int32) &&& 0x3f).toInt64)) ||| (((x11.toInt64) &&& (255 : Int64)) <<< ((24 : Int32) &&& 0x3f).toInt64)) ||| (((x12.toInt64) &&& (255 : Int64)) <<< ((32 : Int32) &&& 0x3f).toInt64)) ||| (((x13.toInt64) &&& (255 : Int64)) <<< ((40 : Int32) &&& 0x3f).toInt64)) ||| (((x14.toInt64) &&& (255 : Int64)) <<< ((48 : Int32) &&& 0x3f).toInt64)))])) _
  refine own_go (fun _ k => XS.aloadN X0.here hx rfl (hb hby d10_111) rfl rfl k) ?_
  show own_G p e below (s₁.setTop (mkF m 112 #[.val (.ref a1), .val (.int (8 : Int32)), .val (.long ((((((((0 : Int64) ||| ((x8.toInt64) &&& (255 : Int64))) ||| (((x9.toInt64) &&& (255 : Int64)) <<< ((8 : Int32) &&& 0x3f).toInt64)) ||| (((x10.toInt64) &&& (255 : Int64)) <<< ((16 : Int32) &&& 0x3f).toInt64)) ||| (((x11.toInt64) &&& (255 : Int64)) <<< ((24 : Int32) &&& 0x3f).toInt64)) ||| (((x12.toInt64) &&& (255 : Int64)) <<< ((32 : Int32) &&& 0x3f).toInt64)) ||| (((x13.toInt64) &&& (255 : Int64)) <<< ((40 : Int32) &&& 0x3f).toInt64)) ||| (((x14.toInt64) &&& (255 : Int64)) <<< ((48 : Int32) &&& 0x3f).toInt64))), .second] [(.ref a1), (.long ((((((((0 : Int64) ||| ((x8.toInt64) &&& (255 : Int64))) ||| (((x9.toInt64) &&& (255 : Int64)) <<< ((8 : Int32) &&& 0x3f).toInt64)) ||| (((x10.toInt64) &&& (255 : Int64)) <<< ((16 : Int32) &&& 0x3f).toInt64)) ||| (((x11.toInt64) &&& (255 : Int64)) <<< ((24 : Int32) &&& 0x3f).toInt64)) ||| (((x12.toInt64) &&& (255 : Int64)) <<< ((32 : Int32) &&& 0x3f).toInt64)) ||| (((x13.toInt64) &&& (255 : Int64)) <<< ((40 : Int32) &&& 0x3f).toInt64)) ||| (((x14.toInt64) &&& (255 : Int64)) <<< ((48 : Int32) &&& 0x3f).toInt64)))])) _
  refine own_go (fun _ k => XS.iloadN X0.here hx rfl (hb hby d10_112) rfl k) ?_
  show own_G p e below (s₁.setTop (mkF m 113 #[.val (.ref a1), .val (.int (8 : Int32)), .val (.long ((((((((0 : Int64) ||| ((x8.toInt64) &&& (255 : Int64))) ||| (((x9.toInt64) &&& (255 : Int64)) <<< ((8 : Int32) &&& 0x3f).toInt64)) ||| (((x10.toInt64) &&& (255 : Int64)) <<< ((16 : Int32) &&& 0x3f).toInt64)) ||| (((x11.toInt64) &&& (255 : Int64)) <<< ((24 : Int32) &&& 0x3f).toInt64)) ||| (((x12.toInt64) &&& (255 : Int64)) <<< ((32 : Int32) &&& 0x3f).toInt64)) ||| (((x13.toInt64) &&& (255 : Int64)) <<< ((40 : Int32) &&& 0x3f).toInt64)) ||| (((x14.toInt64) &&& (255 : Int64)) <<< ((48 : Int32) &&& 0x3f).toInt64))), .second] [(.int (8 : Int32)), (.ref a1), (.long ((((((((0 : Int64) ||| ((x8.toInt64) &&& (255 : Int64))) ||| (((x9.toInt64) &&& (255 : Int64)) <<< ((8 : Int32) &&& 0x3f).toInt64)) ||| (((x10.toInt64) &&& (255 : Int64)) <<< ((16 : Int32) &&& 0x3f).toInt64)) ||| (((x11.toInt64) &&& (255 : Int64)) <<< ((24 : Int32) &&& 0x3f).toInt64)) ||| (((x12.toInt64) &&& (255 : Int64)) <<< ((32 : Int32) &&& 0x3f).toInt64)) ||| (((x13.toInt64) &&& (255 : Int64)) <<< ((40 : Int32) &&& 0x3f).toInt64)) ||| (((x14.toInt64) &&& (255 : Int64)) <<< ((48 : Int32) &&& 0x3f).toInt64)))])) _
  refine own_go (fun _ k => XS.bipush X0.here hx rfl (hb hby d10_113) k) ?_
  show own_G p e below (s₁.setTop (mkF m 115 #[.val (.ref a1), .val (.int (8 : Int32)), .val (.long ((((((((0 : Int64) ||| ((x8.toInt64) &&& (255 : Int64))) ||| (((x9.toInt64) &&& (255 : Int64)) <<< ((8 : Int32) &&& 0x3f).toInt64)) ||| (((x10.toInt64) &&& (255 : Int64)) <<< ((16 : Int32) &&& 0x3f).toInt64)) ||| (((x11.toInt64) &&& (255 : Int64)) <<< ((24 : Int32) &&& 0x3f).toInt64)) ||| (((x12.toInt64) &&& (255 : Int64)) <<< ((32 : Int32) &&& 0x3f).toInt64)) ||| (((x13.toInt64) &&& (255 : Int64)) <<< ((40 : Int32) &&& 0x3f).toInt64)) ||| (((x14.toInt64) &&& (255 : Int64)) <<< ((48 : Int32) &&& 0x3f).toInt64))), .second] [(.int (7 : Int32)), (.int (8 : Int32)), (.ref a1), (.long ((((((((0 : Int64) ||| ((x8.toInt64) &&& (255 : Int64))) ||| (((x9.toInt64) &&& (255 : Int64)) <<< ((8 : Int32) &&& 0x3f).toInt64)) ||| (((x10.toInt64) &&& (255 : Int64)) <<< ((16 : Int32) &&& 0x3f).toInt64)) ||| (((x11.toInt64) &&& (255 : Int64)) <<< ((24 : Int32) &&& 0x3f).toInt64)) ||| (((x12.toInt64) &&& (255 : Int64)) <<< ((32 : Int32) &&& 0x3f).toInt64)) ||| (((x13.toInt64) &&& (255 : Int64)) <<< ((40 : Int32) &&& 0x3f).toInt64)) ||| (((x14.toInt64) &&& (255 : Int64)) <<< ((48 : Int32) &&& 0x3f).toInt64)))])) _
  refine own_go (fun _ k => XS.iadd X0.here hx rfl (hb hby d10_115) rfl k) ?_
  show own_G p e below (s₁.setTop (mkF m 116 #[.val (.ref a1), .val (.int (8 : Int32)), .val (.long ((((((((0 : Int64) ||| ((x8.toInt64) &&& (255 : Int64))) ||| (((x9.toInt64) &&& (255 : Int64)) <<< ((8 : Int32) &&& 0x3f).toInt64)) ||| (((x10.toInt64) &&& (255 : Int64)) <<< ((16 : Int32) &&& 0x3f).toInt64)) ||| (((x11.toInt64) &&& (255 : Int64)) <<< ((24 : Int32) &&& 0x3f).toInt64)) ||| (((x12.toInt64) &&& (255 : Int64)) <<< ((32 : Int32) &&& 0x3f).toInt64)) ||| (((x13.toInt64) &&& (255 : Int64)) <<< ((40 : Int32) &&& 0x3f).toInt64)) ||| (((x14.toInt64) &&& (255 : Int64)) <<< ((48 : Int32) &&& 0x3f).toInt64))), .second] [(.int (15 : Int32)), (.ref a1), (.long ((((((((0 : Int64) ||| ((x8.toInt64) &&& (255 : Int64))) ||| (((x9.toInt64) &&& (255 : Int64)) <<< ((8 : Int32) &&& 0x3f).toInt64)) ||| (((x10.toInt64) &&& (255 : Int64)) <<< ((16 : Int32) &&& 0x3f).toInt64)) ||| (((x11.toInt64) &&& (255 : Int64)) <<< ((24 : Int32) &&& 0x3f).toInt64)) ||| (((x12.toInt64) &&& (255 : Int64)) <<< ((32 : Int32) &&& 0x3f).toInt64)) ||| (((x13.toInt64) &&& (255 : Int64)) <<< ((40 : Int32) &&& 0x3f).toInt64)) ||| (((x14.toInt64) &&& (255 : Int64)) <<< ((48 : Int32) &&& 0x3f).toInt64)))])) _
  obtain ⟨cl229, Ar229, q229, S229, M229, B229, G229⟩ := id V_a1
  have hin229 : ¬ ((15 : Int32) < 0 ∨ cl229.slots.size ≤ ((15 : Int32)).toNatClampNeg) := inb_of S229 ⟨by decide, by decide⟩
  have hat229 : cl229.slots[((15 : Int32)).toNatClampNeg]? = some (.int x15) := B229.at hin229 rfl
  refine own_go (X0.baloadBytes hx (j := (15 : Int32)) (v := (.int x15)) (by rw [e0]; exact Ar229.1) (State.isArrayOf_alike hZ.alike Ar229.2.1) Ar229.2.2 hin229 hat229 (g := (mkF m 116 #[.val (.ref a1), .val (.int (8 : Int32)), .val (.long ((((((((0 : Int64) ||| ((x8.toInt64) &&& (255 : Int64))) ||| (((x9.toInt64) &&& (255 : Int64)) <<< ((8 : Int32) &&& 0x3f).toInt64)) ||| (((x10.toInt64) &&& (255 : Int64)) <<< ((16 : Int32) &&& 0x3f).toInt64)) ||| (((x11.toInt64) &&& (255 : Int64)) <<< ((24 : Int32) &&& 0x3f).toInt64)) ||| (((x12.toInt64) &&& (255 : Int64)) <<< ((32 : Int32) &&& 0x3f).toInt64)) ||| (((x13.toInt64) &&& (255 : Int64)) <<< ((40 : Int32) &&& 0x3f).toInt64)) ||| (((x14.toInt64) &&& (255 : Int64)) <<< ((48 : Int32) &&& 0x3f).toInt64))), .second] [(.int (15 : Int32)), (.ref a1), (.long ((((((((0 : Int64) ||| ((x8.toInt64) &&& (255 : Int64))) ||| (((x9.toInt64) &&& (255 : Int64)) <<< ((8 : Int32) &&& 0x3f).toInt64)) ||| (((x10.toInt64) &&& (255 : Int64)) <<< ((16 : Int32) &&& 0x3f).toInt64)) ||| (((x11.toInt64) &&& (255 : Int64)) <<< ((24 : Int32) &&& 0x3f).toInt64)) ||| (((x12.toInt64) &&& (255 : Int64)) <<< ((32 : Int32) &&& 0x3f).toInt64)) ||| (((x13.toInt64) &&& (255 : Int64)) <<< ((40 : Int32) &&& 0x3f).toInt64)) ||| (((x14.toInt64) &&& (255 : Int64)) <<< ((48 : Int32) &&& 0x3f).toInt64)))])) rfl rfl (hb hby d10_116)) ?_
  show own_G p e below (s₁.setTop (mkF m 117 #[.val (.ref a1), .val (.int (8 : Int32)), .val (.long ((((((((0 : Int64) ||| ((x8.toInt64) &&& (255 : Int64))) ||| (((x9.toInt64) &&& (255 : Int64)) <<< ((8 : Int32) &&& 0x3f).toInt64)) ||| (((x10.toInt64) &&& (255 : Int64)) <<< ((16 : Int32) &&& 0x3f).toInt64)) ||| (((x11.toInt64) &&& (255 : Int64)) <<< ((24 : Int32) &&& 0x3f).toInt64)) ||| (((x12.toInt64) &&& (255 : Int64)) <<< ((32 : Int32) &&& 0x3f).toInt64)) ||| (((x13.toInt64) &&& (255 : Int64)) <<< ((40 : Int32) &&& 0x3f).toInt64)) ||| (((x14.toInt64) &&& (255 : Int64)) <<< ((48 : Int32) &&& 0x3f).toInt64))), .second] [(.int x15), (.long ((((((((0 : Int64) ||| ((x8.toInt64) &&& (255 : Int64))) ||| (((x9.toInt64) &&& (255 : Int64)) <<< ((8 : Int32) &&& 0x3f).toInt64)) ||| (((x10.toInt64) &&& (255 : Int64)) <<< ((16 : Int32) &&& 0x3f).toInt64)) ||| (((x11.toInt64) &&& (255 : Int64)) <<< ((24 : Int32) &&& 0x3f).toInt64)) ||| (((x12.toInt64) &&& (255 : Int64)) <<< ((32 : Int32) &&& 0x3f).toInt64)) ||| (((x13.toInt64) &&& (255 : Int64)) <<< ((40 : Int32) &&& 0x3f).toInt64)) ||| (((x14.toInt64) &&& (255 : Int64)) <<< ((48 : Int32) &&& 0x3f).toInt64)))])) _
  refine own_go (fun _ k => XS.i2l X0.here hx rfl (hb hby d10_117) rfl k) ?_
  show own_G p e below (s₁.setTop (mkF m 118 #[.val (.ref a1), .val (.int (8 : Int32)), .val (.long ((((((((0 : Int64) ||| ((x8.toInt64) &&& (255 : Int64))) ||| (((x9.toInt64) &&& (255 : Int64)) <<< ((8 : Int32) &&& 0x3f).toInt64)) ||| (((x10.toInt64) &&& (255 : Int64)) <<< ((16 : Int32) &&& 0x3f).toInt64)) ||| (((x11.toInt64) &&& (255 : Int64)) <<< ((24 : Int32) &&& 0x3f).toInt64)) ||| (((x12.toInt64) &&& (255 : Int64)) <<< ((32 : Int32) &&& 0x3f).toInt64)) ||| (((x13.toInt64) &&& (255 : Int64)) <<< ((40 : Int32) &&& 0x3f).toInt64)) ||| (((x14.toInt64) &&& (255 : Int64)) <<< ((48 : Int32) &&& 0x3f).toInt64))), .second] [(.long (x15.toInt64)), (.long ((((((((0 : Int64) ||| ((x8.toInt64) &&& (255 : Int64))) ||| (((x9.toInt64) &&& (255 : Int64)) <<< ((8 : Int32) &&& 0x3f).toInt64)) ||| (((x10.toInt64) &&& (255 : Int64)) <<< ((16 : Int32) &&& 0x3f).toInt64)) ||| (((x11.toInt64) &&& (255 : Int64)) <<< ((24 : Int32) &&& 0x3f).toInt64)) ||| (((x12.toInt64) &&& (255 : Int64)) <<< ((32 : Int32) &&& 0x3f).toInt64)) ||| (((x13.toInt64) &&& (255 : Int64)) <<< ((40 : Int32) &&& 0x3f).toInt64)) ||| (((x14.toInt64) &&& (255 : Int64)) <<< ((48 : Int32) &&& 0x3f).toInt64)))])) _
  refine own_go (X0.ldc2Long hx hown (mvT hZ (hw _ (List.mem_of_getElem? (i := 62) rfl))) (g := (mkF m 118 #[.val (.ref a1), .val (.int (8 : Int32)), .val (.long ((((((((0 : Int64) ||| ((x8.toInt64) &&& (255 : Int64))) ||| (((x9.toInt64) &&& (255 : Int64)) <<< ((8 : Int32) &&& 0x3f).toInt64)) ||| (((x10.toInt64) &&& (255 : Int64)) <<< ((16 : Int32) &&& 0x3f).toInt64)) ||| (((x11.toInt64) &&& (255 : Int64)) <<< ((24 : Int32) &&& 0x3f).toInt64)) ||| (((x12.toInt64) &&& (255 : Int64)) <<< ((32 : Int32) &&& 0x3f).toInt64)) ||| (((x13.toInt64) &&& (255 : Int64)) <<< ((40 : Int32) &&& 0x3f).toInt64)) ||| (((x14.toInt64) &&& (255 : Int64)) <<< ((48 : Int32) &&& 0x3f).toInt64))), .second] [(.long (x15.toInt64)), (.long ((((((((0 : Int64) ||| ((x8.toInt64) &&& (255 : Int64))) ||| (((x9.toInt64) &&& (255 : Int64)) <<< ((8 : Int32) &&& 0x3f).toInt64)) ||| (((x10.toInt64) &&& (255 : Int64)) <<< ((16 : Int32) &&& 0x3f).toInt64)) ||| (((x11.toInt64) &&& (255 : Int64)) <<< ((24 : Int32) &&& 0x3f).toInt64)) ||| (((x12.toInt64) &&& (255 : Int64)) <<< ((32 : Int32) &&& 0x3f).toInt64)) ||| (((x13.toInt64) &&& (255 : Int64)) <<< ((40 : Int32) &&& 0x3f).toInt64)) ||| (((x14.toInt64) &&& (255 : Int64)) <<< ((48 : Int32) &&& 0x3f).toInt64)))])) rfl (hb hby d10_118)) ?_
  show own_G p e below (s₁.setTop (mkF m 121 #[.val (.ref a1), .val (.int (8 : Int32)), .val (.long ((((((((0 : Int64) ||| ((x8.toInt64) &&& (255 : Int64))) ||| (((x9.toInt64) &&& (255 : Int64)) <<< ((8 : Int32) &&& 0x3f).toInt64)) ||| (((x10.toInt64) &&& (255 : Int64)) <<< ((16 : Int32) &&& 0x3f).toInt64)) ||| (((x11.toInt64) &&& (255 : Int64)) <<< ((24 : Int32) &&& 0x3f).toInt64)) ||| (((x12.toInt64) &&& (255 : Int64)) <<< ((32 : Int32) &&& 0x3f).toInt64)) ||| (((x13.toInt64) &&& (255 : Int64)) <<< ((40 : Int32) &&& 0x3f).toInt64)) ||| (((x14.toInt64) &&& (255 : Int64)) <<< ((48 : Int32) &&& 0x3f).toInt64))), .second] [(.long (255 : Int64)), (.long (x15.toInt64)), (.long ((((((((0 : Int64) ||| ((x8.toInt64) &&& (255 : Int64))) ||| (((x9.toInt64) &&& (255 : Int64)) <<< ((8 : Int32) &&& 0x3f).toInt64)) ||| (((x10.toInt64) &&& (255 : Int64)) <<< ((16 : Int32) &&& 0x3f).toInt64)) ||| (((x11.toInt64) &&& (255 : Int64)) <<< ((24 : Int32) &&& 0x3f).toInt64)) ||| (((x12.toInt64) &&& (255 : Int64)) <<< ((32 : Int32) &&& 0x3f).toInt64)) ||| (((x13.toInt64) &&& (255 : Int64)) <<< ((40 : Int32) &&& 0x3f).toInt64)) ||| (((x14.toInt64) &&& (255 : Int64)) <<< ((48 : Int32) &&& 0x3f).toInt64)))])) _
  refine own_go (fun _ k => XS.land X0.here hx rfl (hb hby d10_121) rfl k) ?_
  show own_G p e below (s₁.setTop (mkF m 122 #[.val (.ref a1), .val (.int (8 : Int32)), .val (.long ((((((((0 : Int64) ||| ((x8.toInt64) &&& (255 : Int64))) ||| (((x9.toInt64) &&& (255 : Int64)) <<< ((8 : Int32) &&& 0x3f).toInt64)) ||| (((x10.toInt64) &&& (255 : Int64)) <<< ((16 : Int32) &&& 0x3f).toInt64)) ||| (((x11.toInt64) &&& (255 : Int64)) <<< ((24 : Int32) &&& 0x3f).toInt64)) ||| (((x12.toInt64) &&& (255 : Int64)) <<< ((32 : Int32) &&& 0x3f).toInt64)) ||| (((x13.toInt64) &&& (255 : Int64)) <<< ((40 : Int32) &&& 0x3f).toInt64)) ||| (((x14.toInt64) &&& (255 : Int64)) <<< ((48 : Int32) &&& 0x3f).toInt64))), .second] [(.long ((x15.toInt64) &&& (255 : Int64))), (.long ((((((((0 : Int64) ||| ((x8.toInt64) &&& (255 : Int64))) ||| (((x9.toInt64) &&& (255 : Int64)) <<< ((8 : Int32) &&& 0x3f).toInt64)) ||| (((x10.toInt64) &&& (255 : Int64)) <<< ((16 : Int32) &&& 0x3f).toInt64)) ||| (((x11.toInt64) &&& (255 : Int64)) <<< ((24 : Int32) &&& 0x3f).toInt64)) ||| (((x12.toInt64) &&& (255 : Int64)) <<< ((32 : Int32) &&& 0x3f).toInt64)) ||| (((x13.toInt64) &&& (255 : Int64)) <<< ((40 : Int32) &&& 0x3f).toInt64)) ||| (((x14.toInt64) &&& (255 : Int64)) <<< ((48 : Int32) &&& 0x3f).toInt64)))])) _
  refine own_go (fun _ k => XS.bipush X0.here hx rfl (hb hby d10_122) k) ?_
  show own_G p e below (s₁.setTop (mkF m 124 #[.val (.ref a1), .val (.int (8 : Int32)), .val (.long ((((((((0 : Int64) ||| ((x8.toInt64) &&& (255 : Int64))) ||| (((x9.toInt64) &&& (255 : Int64)) <<< ((8 : Int32) &&& 0x3f).toInt64)) ||| (((x10.toInt64) &&& (255 : Int64)) <<< ((16 : Int32) &&& 0x3f).toInt64)) ||| (((x11.toInt64) &&& (255 : Int64)) <<< ((24 : Int32) &&& 0x3f).toInt64)) ||| (((x12.toInt64) &&& (255 : Int64)) <<< ((32 : Int32) &&& 0x3f).toInt64)) ||| (((x13.toInt64) &&& (255 : Int64)) <<< ((40 : Int32) &&& 0x3f).toInt64)) ||| (((x14.toInt64) &&& (255 : Int64)) <<< ((48 : Int32) &&& 0x3f).toInt64))), .second] [(.int (56 : Int32)), (.long ((x15.toInt64) &&& (255 : Int64))), (.long ((((((((0 : Int64) ||| ((x8.toInt64) &&& (255 : Int64))) ||| (((x9.toInt64) &&& (255 : Int64)) <<< ((8 : Int32) &&& 0x3f).toInt64)) ||| (((x10.toInt64) &&& (255 : Int64)) <<< ((16 : Int32) &&& 0x3f).toInt64)) ||| (((x11.toInt64) &&& (255 : Int64)) <<< ((24 : Int32) &&& 0x3f).toInt64)) ||| (((x12.toInt64) &&& (255 : Int64)) <<< ((32 : Int32) &&& 0x3f).toInt64)) ||| (((x13.toInt64) &&& (255 : Int64)) <<< ((40 : Int32) &&& 0x3f).toInt64)) ||| (((x14.toInt64) &&& (255 : Int64)) <<< ((48 : Int32) &&& 0x3f).toInt64)))])) _
  refine own_go (fun _ k => XS.lshl X0.here hx rfl (hb hby d10_124) rfl k) ?_
  show own_G p e below (s₁.setTop (mkF m 125 #[.val (.ref a1), .val (.int (8 : Int32)), .val (.long ((((((((0 : Int64) ||| ((x8.toInt64) &&& (255 : Int64))) ||| (((x9.toInt64) &&& (255 : Int64)) <<< ((8 : Int32) &&& 0x3f).toInt64)) ||| (((x10.toInt64) &&& (255 : Int64)) <<< ((16 : Int32) &&& 0x3f).toInt64)) ||| (((x11.toInt64) &&& (255 : Int64)) <<< ((24 : Int32) &&& 0x3f).toInt64)) ||| (((x12.toInt64) &&& (255 : Int64)) <<< ((32 : Int32) &&& 0x3f).toInt64)) ||| (((x13.toInt64) &&& (255 : Int64)) <<< ((40 : Int32) &&& 0x3f).toInt64)) ||| (((x14.toInt64) &&& (255 : Int64)) <<< ((48 : Int32) &&& 0x3f).toInt64))), .second] [(.long (((x15.toInt64) &&& (255 : Int64)) <<< ((56 : Int32) &&& 0x3f).toInt64)), (.long ((((((((0 : Int64) ||| ((x8.toInt64) &&& (255 : Int64))) ||| (((x9.toInt64) &&& (255 : Int64)) <<< ((8 : Int32) &&& 0x3f).toInt64)) ||| (((x10.toInt64) &&& (255 : Int64)) <<< ((16 : Int32) &&& 0x3f).toInt64)) ||| (((x11.toInt64) &&& (255 : Int64)) <<< ((24 : Int32) &&& 0x3f).toInt64)) ||| (((x12.toInt64) &&& (255 : Int64)) <<< ((32 : Int32) &&& 0x3f).toInt64)) ||| (((x13.toInt64) &&& (255 : Int64)) <<< ((40 : Int32) &&& 0x3f).toInt64)) ||| (((x14.toInt64) &&& (255 : Int64)) <<< ((48 : Int32) &&& 0x3f).toInt64)))])) _
  refine own_go (fun _ k => XS.lor X0.here hx rfl (hb hby d10_125) rfl k) ?_
  show own_G p e below (s₁.setTop (mkF m 126 #[.val (.ref a1), .val (.int (8 : Int32)), .val (.long ((((((((0 : Int64) ||| ((x8.toInt64) &&& (255 : Int64))) ||| (((x9.toInt64) &&& (255 : Int64)) <<< ((8 : Int32) &&& 0x3f).toInt64)) ||| (((x10.toInt64) &&& (255 : Int64)) <<< ((16 : Int32) &&& 0x3f).toInt64)) ||| (((x11.toInt64) &&& (255 : Int64)) <<< ((24 : Int32) &&& 0x3f).toInt64)) ||| (((x12.toInt64) &&& (255 : Int64)) <<< ((32 : Int32) &&& 0x3f).toInt64)) ||| (((x13.toInt64) &&& (255 : Int64)) <<< ((40 : Int32) &&& 0x3f).toInt64)) ||| (((x14.toInt64) &&& (255 : Int64)) <<< ((48 : Int32) &&& 0x3f).toInt64))), .second] [(.long (((((((((0 : Int64) ||| ((x8.toInt64) &&& (255 : Int64))) ||| (((x9.toInt64) &&& (255 : Int64)) <<< ((8 : Int32) &&& 0x3f).toInt64)) ||| (((x10.toInt64) &&& (255 : Int64)) <<< ((16 : Int32) &&& 0x3f).toInt64)) ||| (((x11.toInt64) &&& (255 : Int64)) <<< ((24 : Int32) &&& 0x3f).toInt64)) ||| (((x12.toInt64) &&& (255 : Int64)) <<< ((32 : Int32) &&& 0x3f).toInt64)) ||| (((x13.toInt64) &&& (255 : Int64)) <<< ((40 : Int32) &&& 0x3f).toInt64)) ||| (((x14.toInt64) &&& (255 : Int64)) <<< ((48 : Int32) &&& 0x3f).toInt64)) ||| (((x15.toInt64) &&& (255 : Int64)) <<< ((56 : Int32) &&& 0x3f).toInt64)))])) _
  refine own_go (fun _ k => XS.lstoreN X0.here hx rfl (hb hby d10_126) rfl (l' := #[.val (.ref a1), .val (.int (8 : Int32)), .val (.long (((((((((0 : Int64) ||| ((x8.toInt64) &&& (255 : Int64))) ||| (((x9.toInt64) &&& (255 : Int64)) <<< ((8 : Int32) &&& 0x3f).toInt64)) ||| (((x10.toInt64) &&& (255 : Int64)) <<< ((16 : Int32) &&& 0x3f).toInt64)) ||| (((x11.toInt64) &&& (255 : Int64)) <<< ((24 : Int32) &&& 0x3f).toInt64)) ||| (((x12.toInt64) &&& (255 : Int64)) <<< ((32 : Int32) &&& 0x3f).toInt64)) ||| (((x13.toInt64) &&& (255 : Int64)) <<< ((40 : Int32) &&& 0x3f).toInt64)) ||| (((x14.toInt64) &&& (255 : Int64)) <<< ((48 : Int32) &&& 0x3f).toInt64)) ||| (((x15.toInt64) &&& (255 : Int64)) <<< ((56 : Int32) &&& 0x3f).toInt64))), .second]) rfl k) ?_
  show own_G p e below (s₁.setTop (mkF m 127 #[.val (.ref a1), .val (.int (8 : Int32)), .val (.long (((((((((0 : Int64) ||| ((x8.toInt64) &&& (255 : Int64))) ||| (((x9.toInt64) &&& (255 : Int64)) <<< ((8 : Int32) &&& 0x3f).toInt64)) ||| (((x10.toInt64) &&& (255 : Int64)) <<< ((16 : Int32) &&& 0x3f).toInt64)) ||| (((x11.toInt64) &&& (255 : Int64)) <<< ((24 : Int32) &&& 0x3f).toInt64)) ||| (((x12.toInt64) &&& (255 : Int64)) <<< ((32 : Int32) &&& 0x3f).toInt64)) ||| (((x13.toInt64) &&& (255 : Int64)) <<< ((40 : Int32) &&& 0x3f).toInt64)) ||| (((x14.toInt64) &&& (255 : Int64)) <<< ((48 : Int32) &&& 0x3f).toInt64)) ||| (((x15.toInt64) &&& (255 : Int64)) <<< ((56 : Int32) &&& 0x3f).toInt64))), .second] [])) _
  refine own_go (fun _ k => XS.lloadN X0.here hx rfl (hb hby d10_127) rfl k) ?_
  show own_G p e below (s₁.setTop (mkF m 128 #[.val (.ref a1), .val (.int (8 : Int32)), .val (.long (((((((((0 : Int64) ||| ((x8.toInt64) &&& (255 : Int64))) ||| (((x9.toInt64) &&& (255 : Int64)) <<< ((8 : Int32) &&& 0x3f).toInt64)) ||| (((x10.toInt64) &&& (255 : Int64)) <<< ((16 : Int32) &&& 0x3f).toInt64)) ||| (((x11.toInt64) &&& (255 : Int64)) <<< ((24 : Int32) &&& 0x3f).toInt64)) ||| (((x12.toInt64) &&& (255 : Int64)) <<< ((32 : Int32) &&& 0x3f).toInt64)) ||| (((x13.toInt64) &&& (255 : Int64)) <<< ((40 : Int32) &&& 0x3f).toInt64)) ||| (((x14.toInt64) &&& (255 : Int64)) <<< ((48 : Int32) &&& 0x3f).toInt64)) ||| (((x15.toInt64) &&& (255 : Int64)) <<< ((56 : Int32) &&& 0x3f).toInt64))), .second] [(.long (((((((((0 : Int64) ||| ((x8.toInt64) &&& (255 : Int64))) ||| (((x9.toInt64) &&& (255 : Int64)) <<< ((8 : Int32) &&& 0x3f).toInt64)) ||| (((x10.toInt64) &&& (255 : Int64)) <<< ((16 : Int32) &&& 0x3f).toInt64)) ||| (((x11.toInt64) &&& (255 : Int64)) <<< ((24 : Int32) &&& 0x3f).toInt64)) ||| (((x12.toInt64) &&& (255 : Int64)) <<< ((32 : Int32) &&& 0x3f).toInt64)) ||| (((x13.toInt64) &&& (255 : Int64)) <<< ((40 : Int32) &&& 0x3f).toInt64)) ||| (((x14.toInt64) &&& (255 : Int64)) <<< ((48 : Int32) &&& 0x3f).toInt64)) ||| (((x15.toInt64) &&& (255 : Int64)) <<< ((56 : Int32) &&& 0x3f).toInt64)))])) _
  refine own_ret X0 hlk (v := some (.long (((((((((0 : Int64) ||| ((x8.toInt64) &&& (255 : Int64))) ||| (((x9.toInt64) &&& (255 : Int64)) <<< ((8 : Int32) &&& 0x3f).toInt64)) ||| (((x10.toInt64) &&& (255 : Int64)) <<< ((16 : Int32) &&& 0x3f).toInt64)) ||| (((x11.toInt64) &&& (255 : Int64)) <<< ((24 : Int32) &&& 0x3f).toInt64)) ||| (((x12.toInt64) &&& (255 : Int64)) <<< ((32 : Int32) &&& 0x3f).toInt64)) ||| (((x13.toInt64) &&& (255 : Int64)) <<< ((40 : Int32) &&& 0x3f).toInt64)) ||| (((x14.toInt64) &&& (255 : Int64)) <<< ((48 : Int32) &&& 0x3f).toInt64)) ||| (((x15.toInt64) &&& (255 : Int64)) <<< ((56 : Int32) &&& 0x3f).toInt64)))) (fun h => by rw [hret] at h; cases h) (Q10_17_8 Z a1 k1 x0 x1 x2 x3 x4 x5 x6 x7 x8 x9 x10 x11 x12 x13 x14 x15 x16 h0 n0) (own_retI X0 hx (t := .long) hret rfl (Or.inr (Or.inl ⟨rfl, rfl, _, rfl⟩)) (hb hby d10_128)) (by decide) (by decide) ?_
  show Q10_17_8 Z a1 k1 x0 x1 x2 x3 x4 x5 x6 x7 x8 x9 x10 x11 x12 x13 x14 x15 x16 h0 n0 _ s₁.heap _
  rw [e0]
  exact ⟨rfl, N0, rfl⟩
theorem ef_0 (m : MethodId) (q1 : Int64) (q2 : Int64) (p3 : Int32) : entryFrame m #[(.long q1), (.long q2), (.int p3)] maxLocals = mkF m 0 #[.val (.long q1), .second, .val (.long q2), .second, .val (.int p3), .unset, .unset, .unset, .unset, .unset, .unset] [] := by first | (simp [entryFrame, mkF, argsToLocals, Value.category, maxLocals]; done) | rfl
def Q0 (Z : State) (q1 : Int64) (q2 : Int64) (p3 : Int32) (h0 : Heap) (n0 : Nat) (v : Option Value) (h : Heap) (L : List Loc) : Prop := v = some (.int (1 : Int32)) ∧ Fr n0 L
set_option maxRecDepth 65536 in
set_option maxHeartbeats 40000000 in
theorem rm0 (l : Launch) (Z : State) (a0 : Array Value) (hw : ∀ d ∈ tables_1, d.before a0 Z = true) (ws : List Jvm.Cond) (q1 : Int64) (q2 : Int64) (p3 : Int32) (h0 : Heap) (n0 : Nat) (Z0 : n0 ≤ h0.size)  :
    MetFree l x (head1 (Jvm.Cond.code x code maxLocals ret :: ws) room_1) (fun a U => a = #[(.long q1), (.long q2), (.int p3)] ∧ Z.Warmed39 U.vm ∧ U.heap = h0) (fun _ _ _ _ _ => True) (fun _ U o U' => ∃ v L, o = .returned v ∧ Q0 Z q1 q2 p3 h0 n0 v U'.heap L ∧ FrameEnd U o U' L room_1.cells room_1.slots) := by
  refine MetFree.of_bodySF (plainFor_of_name pn_0) hisR ?_
  intro p e s m args below meth c s₁ Bd hml0 hP hK
  obtain ⟨rfl, hZ, hh⟩ := hP
  have hx := Bd.exec
  have hby := Bd.bytes
  have hml : c.maxLocals = 11 := hml0
  have hown : s.vm.findClass "com/example/bitfold/bitfold/ByteArrayWriterToByteArrayPinLaw" = some m.cls := findClass_of_methodNamed Bd.named
  have hnm := (name_of_methodNamed Bd.named Bd.method).1
  have hlk := Bd.notSynchronized
  have hret := Bd.returns
  have X0 : Stand p l e room_1 s m #[(.long q1), (.long q2), (.int p3)] below meth c s₁ [] 0 0 := Stand.of_body Bd
  have e0 : s₁.heap = h0 := by rw [← hh, Bd.state]; rfl
  have N0 := Fr.nil n0
  show own_G p e below (s₁.setTop (entryFrame m #[(.long q1), (.long q2), (.int p3)] maxLocals)) (fun s₂ o => ∃ v L, o = .returned v ∧ Q0 Z q1 q2 p3 h0 n0 v s₂.heap L ∧ FrameEnd s o s₂ L room_1.cells room_1.slots)
  refine own_go (fun t k => castTop (ef_0 m q1 q2 p3) k) ?_
  show own_G p e below (s₁.setTop (mkF m 0 #[.val (.long q1), .second, .val (.long q2), .second, .val (.int p3), .unset, .unset, .unset, .unset, .unset, .unset] [])) _
  refine own_go (fun _ k => XS.bipush X0.here hx rfl (hb hby at_0) k) ?_
  show own_G p e below (s₁.setTop (mkF m 2 #[.val (.long q1), .second, .val (.long q2), .second, .val (.int p3), .unset, .unset, .unset, .unset, .unset, .unset] [(.int (16 : Int32))])) _
  obtain ⟨T230, h230, k230, X230, e230, E230, A230, Y230, st230⟩ := newPE X0 hx hZ (hw _ (List.mem_of_getElem? (i := 0) rfl)) e0 (g := (mkF m 2 #[.val (.long q1), .second, .val (.long q2), .second, .val (.int p3), .unset, .unset, .unset, .unset, .unset, .unset] [(.int (16 : Int32))])) rfl (hb hby at_2) rfl (by decide) (cap := 16) (by decide) (by decide) (by decide) (by decide) (ad := "[B") (by decide)
  obtain ⟨b230, g230⟩ : ∃ z, z = h0.size := ⟨_, rfl⟩
  rw [← g230] at A230 Y230 st230
  refine own_go st230 ?_
  have ge231 : n0 ≤ b230 := Nat.le_trans Z0 (Nat.le_of_eq g230.symm)
  have zs232 : n0 ≤ h230.size := Nat.le_trans Z0 E230.1
  have V230 : Arv Z h230 b230 k230 .byte (16 : Int32) [(.int (0 : Int32)), (.int (0 : Int32)), (.int (0 : Int32)), (.int (0 : Int32)), (.int (0 : Int32)), (.int (0 : Int32)), (.int (0 : Int32)), (.int (0 : Int32)), (.int (0 : Int32)), (.int (0 : Int32)), (.int (0 : Int32)), (.int (0 : Int32)), (.int (0 : Int32)), (.int (0 : Int32)), (.int (0 : Int32)), (.int (0 : Int32))] (.int (0 : Int32)) := (Arv.new A230 (by decide)).pad (pad_rep [] (.int (0 : Int32)) 16)
  show own_G p e below (T230.setTop (mkF m 4 #[.val (.long q1), .second, .val (.long q2), .second, .val (.int p3), .unset, .unset, .unset, .unset, .unset, .unset] [(.ref b230)])) _
  refine own_go (fun _ k => XS.astore X230.here hx rfl (hb hby at_4) rfl rfl (l' := #[.val (.long q1), .second, .val (.long q2), .second, .val (.int p3), .val (.ref b230), .unset, .unset, .unset, .unset, .unset]) rfl k) ?_
  show own_G p e below (T230.setTop (mkF m 6 #[.val (.long q1), .second, .val (.long q2), .second, .val (.int p3), .val (.ref b230), .unset, .unset, .unset, .unset, .unset] [])) _
  refine own_go (fun _ k => XS.aload X230.here hx rfl (hb hby at_6) rfl rfl k) ?_
  show own_G p e below (T230.setTop (mkF m 8 #[.val (.long q1), .second, .val (.long q2), .second, .val (.int p3), .val (.ref b230), .unset, .unset, .unset, .unset, .unset] [(.ref b230)])) _
  refine own_go (fun _ k => XS.iconst X230.here hx rfl (hb hby at_8) k) ?_
  show own_G p e below (T230.setTop (mkF m 9 #[.val (.long q1), .second, .val (.long q2), .second, .val (.int p3), .val (.ref b230), .unset, .unset, .unset, .unset, .unset] [(.int (0 : Int32)), (.ref b230)])) _
  refine own_go (fun _ k => XS.lloadN X230.here hx rfl (hb hby at_9) rfl k) ?_
  show own_G p e below (T230.setTop (mkF m 10 #[.val (.long q1), .second, .val (.long q2), .second, .val (.int p3), .val (.ref b230), .unset, .unset, .unset, .unset, .unset] [(.long q1), (.int (0 : Int32)), (.ref b230)])) _
  obtain ⟨_, _, ⟨T233, L233, k233, n233⟩, -, X233, ⟨Lc233, hQ233, l233, y233, z233⟩, st233⟩ := Jvm.LawKit.callS X230 hx (y := (⟨"com/example/bitfold/bitfold/ByteArrayWriterToByteArrayPinLaw", "put8", "([BIJ)V"⟩ : MethodName)) hown (mvT hZ (hw _ (List.mem_of_getElem? (i := 1) rfl))) (mvT hZ (hw _ (List.mem_of_getElem? (i := 2) rfl))) (mvT hZ (hw _ (List.mem_of_getElem? (i := 3) rfl))) (mvT hZ (hw _ (List.mem_of_getElem? (i := 4) rfl))) (by decide) (backOf (W := 0) (rm1_0 l Z a0 hw [] b230 q1 k230 (0 : Int32) (0 : Int32) (0 : Int32) (0 : Int32) (0 : Int32) (0 : Int32) (0 : Int32) (0 : Int32) (0 : Int32) (0 : Int32) (0 : Int32) (0 : Int32) (0 : Int32) (0 : Int32) (0 : Int32) (0 : Int32) h230 n0 zs232 V230 ge231) hZ (hw _ (List.mem_of_getElem? (i := 4) rfl)) (hw _ (List.mem_of_getElem? (i := 3) rfl)) (by decide) (by decide)) (g := (mkF m 10 #[.val (.long q1), .second, .val (.long q2), .second, .val (.int p3), .val (.ref b230), .unset, .unset, .unset, .unset, .unset] [(.long q1), (.int (0 : Int32)), (.ref b230)])) rfl (by rw [hml]; rfl) (argsL := [(.ref b230), (.int (0 : Int32)), (.long q1)]) (rest := []) (lenOf pd_4 rfl) rfl (by show 2 * 0 + _ ≤ _; exact Nat.le_of_eq rfl) (hb hby at_10) (fun _ _ => ⟨rfl, e230, (by decide : 0 + 1 + 0 ≤ _), (by decide : 0 + 16 + 0 ≤ _)⟩)
  dsimp only [Pt.U, Pt.locs, Pt.cells, Pt.slots] at X233 l233 y233 z233 st233 hQ233
  rw [l233, y233, z233] at X233
  obtain ⟨rfl, Nq233, K233, V233⟩ := hQ233
  have N233 := Fr.app N0 Nq233
  refine own_go st233 ?_
  have f234 := Y230.keep K233
  have zs235 : n0 ≤ T233.heap.size := Nat.le_trans zs232 K233.1
  show own_G p e below (T233.setTop (mkF m 13 #[.val (.long q1), .second, .val (.long q2), .second, .val (.int p3), .val (.ref b230), .unset, .unset, .unset, .unset, .unset] [])) _
  refine own_go (fun _ k => XS.aload X233.here hx rfl (hb hby at_13) rfl rfl k) ?_
  show own_G p e below (T233.setTop (mkF m 15 #[.val (.long q1), .second, .val (.long q2), .second, .val (.int p3), .val (.ref b230), .unset, .unset, .unset, .unset, .unset] [(.ref b230)])) _
  refine own_go (fun _ k => XS.bipush X233.here hx rfl (hb hby at_15) k) ?_
  show own_G p e below (T233.setTop (mkF m 17 #[.val (.long q1), .second, .val (.long q2), .second, .val (.int p3), .val (.ref b230), .unset, .unset, .unset, .unset, .unset] [(.int (8 : Int32)), (.ref b230)])) _
  refine own_go (fun _ k => XS.lloadN X233.here hx rfl (hb hby at_17) rfl k) ?_
  show own_G p e below (T233.setTop (mkF m 18 #[.val (.long q1), .second, .val (.long q2), .second, .val (.int p3), .val (.ref b230), .unset, .unset, .unset, .unset, .unset] [(.long q2), (.int (8 : Int32)), (.ref b230)])) _
  obtain ⟨_, _, ⟨T236, L236, k236, n236⟩, -, X236, ⟨Lc236, hQ236, l236, y236, z236⟩, st236⟩ := Jvm.LawKit.callS X233 hx (y := (⟨"com/example/bitfold/bitfold/ByteArrayWriterToByteArrayPinLaw", "put8", "([BIJ)V"⟩ : MethodName)) hown (mvT hZ (hw _ (List.mem_of_getElem? (i := 1) rfl))) (mvT hZ (hw _ (List.mem_of_getElem? (i := 2) rfl))) (mvT hZ (hw _ (List.mem_of_getElem? (i := 3) rfl))) (mvT hZ (hw _ (List.mem_of_getElem? (i := 4) rfl))) (by decide) (backOf (W := 0) (rm1_8 l Z a0 hw [] b230 q2 k230 (q1.toInt32.toInt8.toInt32) (own_b q1 (8 : Int32)) (own_b q1 (16 : Int32)) (own_b q1 (24 : Int32)) (own_b q1 (32 : Int32)) (own_b q1 (40 : Int32)) (own_b q1 (48 : Int32)) (own_b q1 (56 : Int32)) (0 : Int32) (0 : Int32) (0 : Int32) (0 : Int32) (0 : Int32) (0 : Int32) (0 : Int32) (0 : Int32) T233.heap n0 zs235 V233 ge231) hZ (hw _ (List.mem_of_getElem? (i := 4) rfl)) (hw _ (List.mem_of_getElem? (i := 3) rfl)) (by decide) (by decide)) (g := (mkF m 18 #[.val (.long q1), .second, .val (.long q2), .second, .val (.int p3), .val (.ref b230), .unset, .unset, .unset, .unset, .unset] [(.long q2), (.int (8 : Int32)), (.ref b230)])) rfl (by rw [hml]; rfl) (argsL := [(.ref b230), (.int (8 : Int32)), (.long q2)]) (rest := []) (lenOf pd_4 rfl) rfl (by show 2 * 0 + _ ≤ _; exact Nat.le_of_eq rfl) (hb hby at_18) (fun _ _ => ⟨rfl, rfl, (by decide : 0 + 1 + 0 + 0 ≤ _), (by decide : 0 + 16 + 0 + 0 ≤ _)⟩)
  dsimp only [Pt.U, Pt.locs, Pt.cells, Pt.slots] at X236 l236 y236 z236 st236 hQ236
  rw [l236, y236, z236] at X236
  obtain ⟨rfl, Nq236, K236, V236⟩ := hQ236
  have N236 := Fr.app N233 Nq236
  refine own_go st236 ?_
  have f237 := f234.keep K236
  have zs238 : n0 ≤ T236.heap.size := Nat.le_trans zs235 K236.1
  show own_G p e below (T236.setTop (mkF m 21 #[.val (.long q1), .second, .val (.long q2), .second, .val (.int p3), .val (.ref b230), .unset, .unset, .unset, .unset, .unset] [])) _
  obtain ⟨T239, h239, X239, e239, E239, A239, D239, -, st239⟩ := newO X236 hx hZ hown (hw _ (List.mem_of_getElem? (i := 5) rfl)) (hw _ (List.mem_of_getElem? (i := 6) rfl)) (hw _ (List.mem_of_getElem? (i := 7) rfl)) rfl (g := (mkF m 21 #[.val (.long q1), .second, .val (.long q2), .second, .val (.int p3), .val (.ref b230), .unset, .unset, .unset, .unset, .unset] [])) rfl (hb hby at_21) (by decide) (by decide)
  obtain ⟨b239, g239⟩ : ∃ z, z = T236.heap.size := ⟨_, rfl⟩
  rw [← g239] at A239 D239 st239
  refine own_go st239 ?_
  have ne240 : b230 ≠ b239 := Nat.ne_of_lt (Nat.lt_of_lt_of_le f237.lt (Nat.le_of_eq g239.symm))
  have ge241 : n0 ≤ b239 := Nat.le_trans zs238 (Nat.le_of_eq g239.symm)
  have f242 := f237.ext E239
  have f243 := V236.ext E239
  have zs244 : n0 ≤ h239.size := Nat.le_trans zs238 E239.1
  have f245 : Fld Z h239 b239 "com/example/bitfold/bitfold/ByteArrayWriter" "bytes" "[B" .null := D239 (Or.inl (hw _ (List.mem_of_getElem? (i := 15) rfl))) (ty := (.array .byte)) (by decide)
  have f246 : Fld Z h239 b239 "com/example/bitfold/bitfold/ByteArrayWriter" "size" "I" (.int (0 : Int32)) := D239 (Or.inl (hw _ (List.mem_of_getElem? (i := 22) rfl))) (ty := .int) (by decide)
  show own_G p e below (T239.setTop (mkF m 24 #[.val (.long q1), .second, .val (.long q2), .second, .val (.int p3), .val (.ref b230), .unset, .unset, .unset, .unset, .unset] [(.ref b239)])) _
  refine own_go (fun _ k => XS.dup X239.here hx rfl (hb hby at_24) rfl rfl k) ?_
  show own_G p e below (T239.setTop (mkF m 25 #[.val (.long q1), .second, .val (.long q2), .second, .val (.int p3), .val (.ref b230), .unset, .unset, .unset, .unset, .unset] [(.ref b239), (.ref b239)])) _
  obtain ⟨_, _, ⟨T247, L247, k247, n247⟩, -, X247, ⟨Lc247, hQ247, l247, y247, z247⟩, st247⟩ := X239.specialBack hx (y := (⟨"com/example/bitfold/bitfold/ByteArrayWriter", "<init>", "()V"⟩ : MethodName)) rfl hown (mvT hZ (hw _ (List.mem_of_getElem? (i := 8) rfl))) (mvT hZ (hw _ (List.mem_of_getElem? (i := 9) rfl))) (mvT hZ (hw _ (List.mem_of_getElem? (i := 10) rfl))) (by decide) (backOf (W := 1) (rm2 l Z a0 hw [] b239 h239 n0 zs244 A239 f245 f246 ge241) hZ (hw _ (List.mem_of_getElem? (i := 10) rfl)) (hw _ (List.mem_of_getElem? (i := 7) rfl)) (by decide) (by decide)) (g := (mkF m 25 #[.val (.long q1), .second, .val (.long q2), .second, .val (.int p3), .val (.ref b230), .unset, .unset, .unset, .unset, .unset] [(.ref b239), (.ref b239)])) rfl (by rw [hml]; rfl) (Steps.refl _) (a := b239) (argsL := []) (rest := [(.ref b239)]) (lenOf pd_5 rfl) rfl (by show 2 * 0 + _ ≤ _; exact Nat.le_of_eq rfl) (hb hby at_25) (fun _ _ => ⟨rfl, e239, (by decide : 0 + 1 + 0 + 0 + 1 + 1 ≤ _), (by decide : 0 + 16 + 0 + 0 + 2 + 16 ≤ _)⟩)
  dsimp only [Pt.U, Pt.locs, Pt.cells, Pt.slots] at X247 l247 y247 z247 st247 hQ247
  rw [l247, y247, z247] at X247
  obtain ⟨b247, k247q, rfl, Nq247, K247, hsz247, Eo247, Fb247, Fs247, E247q, Vq247⟩ := hQ247
  have N247 := Fr.app N236 Nq247
  refine own_go (fun _ k => st247.trans k) ?_
  have ne248 : b230 ≠ b247 := Nat.ne_of_lt (Nat.lt_of_lt_of_le f242.lt hsz247)
  have ne249 : b239 ≠ b247 := Nat.ne_of_lt (Nat.lt_of_lt_of_le A239.lt hsz247)
  have ge250 : n0 ≤ b247 := Nat.le_trans zs244 hsz247
  have f251 := f242.keep K247
  have f252 := f243.keep K247 (ninS ne240 nin0)
  have f253 := A239.keep K247
  have zs254 : n0 ≤ T247.heap.size := Nat.le_trans zs244 K247.1
  show own_G p e below (T247.setTop (mkF m 28 #[.val (.long q1), .second, .val (.long q2), .second, .val (.int p3), .val (.ref b230), .unset, .unset, .unset, .unset, .unset] [(.ref b239)])) _
  refine own_go (fun _ k => XS.astore X247.here hx rfl (hb hby at_28) rfl rfl (l' := #[.val (.long q1), .second, .val (.long q2), .second, .val (.int p3), .val (.ref b230), .val (.ref b239), .unset, .unset, .unset, .unset]) rfl k) ?_
  show own_G p e below (T247.setTop (mkF m 30 #[.val (.long q1), .second, .val (.long q2), .second, .val (.int p3), .val (.ref b230), .val (.ref b239), .unset, .unset, .unset, .unset] [])) _
  refine own_go (fun _ k => XS.aload X247.here hx rfl (hb hby at_30) rfl rfl k) ?_
  show own_G p e below (T247.setTop (mkF m 32 #[.val (.long q1), .second, .val (.long q2), .second, .val (.int p3), .val (.ref b230), .val (.ref b239), .unset, .unset, .unset, .unset] [(.ref b239)])) _
  obtain ⟨cq255, kq255, q255a, q255b, q255c⟩ := isOf hZ rfl Eo247
  obtain ⟨_, _, ⟨T255, L255, k255, n255⟩, -, X255, ⟨Lc255, hQ255, l255, y255, z255⟩, st255⟩ := X247.virtualBack hx (y := (⟨"com/example/bitfold/bitfold/ByteArrayWriter", "toByteArray", "()[B"⟩ : MethodName)) (z := (⟨"com/example/bitfold/bitfold/ByteArrayWriter", "toByteArray", "()[B"⟩ : MethodName)) hown (mvT hZ (hw _ (List.mem_of_getElem? (i := 16) rfl))) (mvT hZ (hw _ (List.mem_of_getElem? (i := 17) rfl))) (notFace_of_selects (args := #[]) (mvT hZ (hw _ (List.mem_of_getElem? (i := 19) rfl)))) (mvT hZ (hw _ (List.mem_of_getElem? (i := 19) rfl))) (mvT hZ (hw _ (List.mem_of_getElem? (i := 18) rfl))) (by decide) (backOf (W := 0) (rm4 l Z a0 hw [] b239 b247 k247q (16 : Int32) (0 : Int32) [(.int (0 : Int32)), (.int (0 : Int32)), (.int (0 : Int32)), (.int (0 : Int32)), (.int (0 : Int32)), (.int (0 : Int32)), (.int (0 : Int32)), (.int (0 : Int32)), (.int (0 : Int32)), (.int (0 : Int32)), (.int (0 : Int32)), (.int (0 : Int32)), (.int (0 : Int32)), (.int (0 : Int32)), (.int (0 : Int32)), (.int (0 : Int32))] 0 T247.heap n0 zs254 Fb247 Fs247 Vq247 E247q (by decide) (by decide) (by decide) (Nat.le_of_ble_eq_true rfl)) hZ (hw _ (List.mem_of_getElem? (i := 20) rfl)) (hw _ (List.mem_of_getElem? (i := 7) rfl)) (by decide) (by decide)) q255a q255c (g := (mkF m 32 #[.val (.long q1), .second, .val (.long q2), .second, .val (.int p3), .val (.ref b230), .val (.ref b239), .unset, .unset, .unset, .unset] [(.ref b239)])) rfl (by rw [hml]; rfl) (Steps.refl _) (argsL := []) (rest := []) (lenOf pd_6 rfl) rfl (by show 2 * 0 + _ ≤ _; exact Nat.le_of_eq rfl) (hb hby at_32) (fun _ _ => ⟨rfl, rfl, (by decide : 0 + 1 + 0 + 0 + 1 + 1 + 1 ≤ _), (by decide : 0 + 16 + 0 + 0 + 2 + 16 + 0 ≤ _)⟩)
  dsimp only [Pt.U, Pt.locs, Pt.cells, Pt.slots] at X255 l255 y255 z255 st255 hQ255
  rw [l255, y255, z255] at X255
  obtain ⟨b255, k255q, rfl, Nq255, K255, hsz255, E255q, Vq255⟩ := hQ255
  have N255 := Fr.app N247 Nq255
  refine own_go (fun _ k => st255.trans k) ?_
  have ne256 : b230 ≠ b255 := Nat.ne_of_lt (Nat.lt_of_lt_of_le f251.lt hsz255)
  have ne257 : b239 ≠ b255 := Nat.ne_of_lt (Nat.lt_of_lt_of_le Eo247.lt hsz255)
  have ne258 : b247 ≠ b255 := Nat.ne_of_lt (Nat.lt_of_lt_of_le E247q.lt hsz255)
  have ge259 : n0 ≤ b255 := Nat.le_trans zs254 hsz255
  have f260 := f251.keep K255
  have f261 := f252.keep K255 nin0
  have f262 := Eo247.keep K255
  have f263 := Fb247.keep K255 nin0
  have f264 := Fs247.keep K255 nin0
  have f265 := E247q.keep K255
  have f266 := Vq247.keep K255 nin0
  have zs267 : n0 ≤ T255.heap.size := Nat.le_trans zs254 K255.1
  have V255 : Arv Z T255.heap b255 k255q .byte (0 : Int32) [] (.int (0 : Int32)) := Vq255
  show own_G p e below (T255.setTop (mkF m 35 #[.val (.long q1), .second, .val (.long q2), .second, .val (.int p3), .val (.ref b230), .val (.ref b239), .unset, .unset, .unset, .unset] [(.ref b255)])) _
  refine own_go (fun _ k => XS.astore X255.here hx rfl (hb hby at_35) rfl rfl (l' := #[.val (.long q1), .second, .val (.long q2), .second, .val (.int p3), .val (.ref b230), .val (.ref b239), .val (.ref b255), .unset, .unset, .unset]) rfl k) ?_
  show own_G p e below (T255.setTop (mkF m 37 #[.val (.long q1), .second, .val (.long q2), .second, .val (.int p3), .val (.ref b230), .val (.ref b239), .val (.ref b255), .unset, .unset, .unset] [])) _
  refine own_go (fun _ k => XS.aload X255.here hx rfl (hb hby at_37) rfl rfl k) ?_
  show own_G p e below (T255.setTop (mkF m 39 #[.val (.long q1), .second, .val (.long q2), .second, .val (.int p3), .val (.ref b230), .val (.ref b239), .val (.ref b255), .unset, .unset, .unset] [(.ref b255)])) _
  refine own_go (fun _ k => XS.ifnullNo X255.here hx rfl (hb hby at_39) rfl k) ?_
  show own_G p e below (T255.setTop (mkF m 42 #[.val (.long q1), .second, .val (.long q2), .second, .val (.int p3), .val (.ref b230), .val (.ref b239), .val (.ref b255), .unset, .unset, .unset] [])) _
  refine own_go (fun _ k => XS.aload X255.here hx rfl (hb hby at_42) rfl rfl k) ?_
  show own_G p e below (T255.setTop (mkF m 44 #[.val (.long q1), .second, .val (.long q2), .second, .val (.int p3), .val (.ref b230), .val (.ref b239), .val (.ref b255), .unset, .unset, .unset] [(.ref b255)])) _
  obtain ⟨cl268, Ar268, q268, S268, M268, B268, G268⟩ := id V255
  refine own_go (X255.arraylength hx Ar268.1 (State.isArrayOf_alike hZ.alike Ar268.2.1) (g := (mkF m 44 #[.val (.long q1), .second, .val (.long q2), .second, .val (.int p3), .val (.ref b230), .val (.ref b239), .val (.ref b255), .unset, .unset, .unset] [(.ref b255)])) rfl rfl (hb hby at_44)) ?_
  rw [len_of S268 M268]
  show own_G p e below (T255.setTop (mkF m 45 #[.val (.long q1), .second, .val (.long q2), .second, .val (.int p3), .val (.ref b230), .val (.ref b239), .val (.ref b255), .unset, .unset, .unset] [(.int (0 : Int32))])) _
  refine own_go (fun _ k => XS.ifNo X255.here hx rfl (hb hby at_45) rfl ((if0 _ _).trans (teq (by decide : (0 : Int32) = (0 : Int32))).2) k) ?_
  show own_G p e below (T255.setTop (mkF m 48 #[.val (.long q1), .second, .val (.long q2), .second, .val (.int p3), .val (.ref b230), .val (.ref b239), .val (.ref b255), .unset, .unset, .unset] [])) _
  refine own_go (fun _ k => XS.aload X255.here hx rfl (hb hby at_48) rfl rfl k) ?_
  show own_G p e below (T255.setTop (mkF m 50 #[.val (.long q1), .second, .val (.long q2), .second, .val (.int p3), .val (.ref b230), .val (.ref b239), .val (.ref b255), .unset, .unset, .unset] [(.ref b239)])) _
  obtain ⟨cq269, kq269, q269a, q269b, q269c⟩ := isOf hZ rfl f262
  obtain ⟨_, _, ⟨T269, L269, k269, n269⟩, -, X269, ⟨Lc269, hQ269, l269, y269, z269⟩, st269⟩ := X255.virtualBack hx (y := (⟨"com/example/bitfold/bitfold/ByteArrayWriter", "size", "()I"⟩ : MethodName)) (z := (⟨"com/example/bitfold/bitfold/ByteArrayWriter", "size", "()I"⟩ : MethodName)) hown (mvT hZ (hw _ (List.mem_of_getElem? (i := 35) rfl))) (mvT hZ (hw _ (List.mem_of_getElem? (i := 36) rfl))) (notFace_of_selects (args := #[]) (mvT hZ (hw _ (List.mem_of_getElem? (i := 38) rfl)))) (mvT hZ (hw _ (List.mem_of_getElem? (i := 38) rfl))) (mvT hZ (hw _ (List.mem_of_getElem? (i := 37) rfl))) (by decide) (backOf (W := 0) (rm7 l Z a0 hw [] b239 (0 : Int32) T255.heap n0 zs267 f264) hZ (hw _ (List.mem_of_getElem? (i := 39) rfl)) (hw _ (List.mem_of_getElem? (i := 7) rfl)) (by decide) (by decide)) q269a q269c (g := (mkF m 50 #[.val (.long q1), .second, .val (.long q2), .second, .val (.int p3), .val (.ref b230), .val (.ref b239), .val (.ref b255), .unset, .unset, .unset] [(.ref b239)])) rfl (by rw [hml]; rfl) (Steps.refl _) (argsL := []) (rest := []) (lenOf pd_7 rfl) rfl (by show 2 * 0 + _ ≤ _; exact Nat.le_of_eq rfl) (hb hby at_50) (fun _ _ => ⟨rfl, rfl, (by decide : 0 + 1 + 0 + 0 + 1 + 1 + 1 + 0 ≤ _), (by decide : 0 + 16 + 0 + 0 + 2 + 16 + 0 + 0 ≤ _)⟩)
  dsimp only [Pt.U, Pt.locs, Pt.cells, Pt.slots] at X269 l269 y269 z269 st269 hQ269
  rw [l269, y269, z269] at X269
  obtain ⟨rfl, Nq269, hh269⟩ := hQ269
  have N269 := Fr.app N255 Nq269
  refine own_go (fun _ k => st269.trans k) ?_
  have e269 : T269.heap = T255.heap := hh269
  show own_G p e below (T269.setTop (mkF m 53 #[.val (.long q1), .second, .val (.long q2), .second, .val (.int p3), .val (.ref b230), .val (.ref b239), .val (.ref b255), .unset, .unset, .unset] [(.int (0 : Int32))])) _
  refine own_go (fun _ k => XS.ifYes X269.here hx rfl (pc0 := 53) (pc' := 58) rfl (hb hby at_53) rfl ((if0 _ _).trans (teq (by decide : (0 : Int32) = (0 : Int32))).1) (by decide) (by decide) k) ?_
  show own_G p e below (T269.setTop (mkF m 58 #[.val (.long q1), .second, .val (.long q2), .second, .val (.int p3), .val (.ref b230), .val (.ref b239), .val (.ref b255), .unset, .unset, .unset] [])) _
  refine own_go (fun _ k => XS.aload X269.here hx rfl (hb hby at_58) rfl rfl k) ?_
  show own_G p e below (T269.setTop (mkF m 60 #[.val (.long q1), .second, .val (.long q2), .second, .val (.int p3), .val (.ref b230), .val (.ref b239), .val (.ref b255), .unset, .unset, .unset] [(.ref b239)])) _
  refine own_go (fun _ k => XS.aload X269.here hx rfl (hb hby at_60) rfl rfl k) ?_
  show own_G p e below (T269.setTop (mkF m 62 #[.val (.long q1), .second, .val (.long q2), .second, .val (.int p3), .val (.ref b230), .val (.ref b239), .val (.ref b255), .unset, .unset, .unset] [(.ref b230), (.ref b239)])) _
  obtain ⟨cq270, kq270, q270a, q270b, q270c⟩ := isOf hZ e269 f262
  obtain ⟨_, _, ⟨T270, L270, k270, n270⟩, -, X270, ⟨Lc270, hQ270, l270, y270, z270⟩, st270⟩ := X269.virtualBack hx (y := (⟨"com/example/bitfold/bitfold/ByteArrayWriter", "writeBytes", "([B)V"⟩ : MethodName)) (z := (⟨"com/example/bitfold/bitfold/ByteArrayWriter", "writeBytes", "([B)V"⟩ : MethodName)) hown (mvT hZ (hw _ (List.mem_of_getElem? (i := 40) rfl))) (mvT hZ (hw _ (List.mem_of_getElem? (i := 41) rfl))) (notFace_of_selects (args := #[]) (mvT hZ (hw _ (List.mem_of_getElem? (i := 43) rfl)))) (mvT hZ (hw _ (List.mem_of_getElem? (i := 43) rfl))) (mvT hZ (hw _ (List.mem_of_getElem? (i := 42) rfl))) (by decide) (backOf (W := 0) (rm8 l Z a0 hw [] b239 b230 b247 k247q k230 (q1.toInt32.toInt8.toInt32) (own_b q1 (8 : Int32)) (own_b q1 (16 : Int32)) (own_b q1 (24 : Int32)) (own_b q1 (32 : Int32)) (own_b q1 (40 : Int32)) (own_b q1 (48 : Int32)) (own_b q1 (56 : Int32)) (q2.toInt32.toInt8.toInt32) (own_b q2 (8 : Int32)) (own_b q2 (16 : Int32)) (own_b q2 (24 : Int32)) (own_b q2 (32 : Int32)) (own_b q2 (40 : Int32)) (own_b q2 (48 : Int32)) (own_b q2 (56 : Int32)) T255.heap n0 zs267 f262 f263 f264 ge241 f266 f265 ge250 f261 f260 ne248) hZ (hw _ (List.mem_of_getElem? (i := 44) rfl)) (hw _ (List.mem_of_getElem? (i := 7) rfl)) (by decide) (by decide)) q270a q270c (g := (mkF m 62 #[.val (.long q1), .second, .val (.long q2), .second, .val (.int p3), .val (.ref b230), .val (.ref b239), .val (.ref b255), .unset, .unset, .unset] [(.ref b230), (.ref b239)])) rfl (by rw [hml]; rfl) (Steps.refl _) (argsL := [(.ref b230)]) (rest := []) (lenOf pd_8 rfl) rfl (by show 2 * 0 + _ ≤ _; exact Nat.le_of_eq rfl) (hb hby at_62) (fun _ _ => ⟨rfl, e269, (by decide : 0 + 1 + 0 + 0 + 1 + 1 + 1 + 0 + 0 ≤ _), (by decide : 0 + 16 + 0 + 0 + 2 + 16 + 0 + 0 + 0 ≤ _)⟩)
  dsimp only [Pt.U, Pt.locs, Pt.cells, Pt.slots] at X270 l270 y270 z270 st270 hQ270
  rw [l270, y270, z270] at X270
  obtain ⟨rfl, Nq270, K270, Eo270, Fb270, Fs270, E270q, Vq270⟩ := hQ270
  have N270 := Fr.app N269 Nq270
  refine own_go (fun _ k => st270.trans k) ?_
  have f271 := f260.keep K270
  have f272 := f261.keep K270 (ninS ne240 (ninS ne248 nin0))
  have f273 := f262.keep K270
  have f274 := f265.keep K270
  have f275 := V255.keep K270 (ninS (Ne.symm ne257) (ninS (Ne.symm ne258) nin0))
  have f276 := E255q.keep K270
  have zs277 : n0 ≤ T270.heap.size := Nat.le_trans zs267 K270.1
  show own_G p e below (T270.setTop (mkF m 65 #[.val (.long q1), .second, .val (.long q2), .second, .val (.int p3), .val (.ref b230), .val (.ref b239), .val (.ref b255), .unset, .unset, .unset] [])) _
  refine own_go (fun _ k => XS.aload X270.here hx rfl (hb hby at_65) rfl rfl k) ?_
  show own_G p e below (T270.setTop (mkF m 67 #[.val (.long q1), .second, .val (.long q2), .second, .val (.int p3), .val (.ref b230), .val (.ref b239), .val (.ref b255), .unset, .unset, .unset] [(.ref b239)])) _
  obtain ⟨cq278, kq278, q278a, q278b, q278c⟩ := isOf hZ rfl Eo270
  obtain ⟨_, _, ⟨T278, L278, k278, n278⟩, -, X278, ⟨Lc278, hQ278, l278, y278, z278⟩, st278⟩ := X270.virtualBack hx (y := (⟨"com/example/bitfold/bitfold/ByteArrayWriter", "toByteArray", "()[B"⟩ : MethodName)) (z := (⟨"com/example/bitfold/bitfold/ByteArrayWriter", "toByteArray", "()[B"⟩ : MethodName)) hown (mvT hZ (hw _ (List.mem_of_getElem? (i := 16) rfl))) (mvT hZ (hw _ (List.mem_of_getElem? (i := 17) rfl))) (notFace_of_selects (args := #[]) (mvT hZ (hw _ (List.mem_of_getElem? (i := 19) rfl)))) (mvT hZ (hw _ (List.mem_of_getElem? (i := 19) rfl))) (mvT hZ (hw _ (List.mem_of_getElem? (i := 18) rfl))) (by decide) (backOf (W := 0) (rm4 l Z a0 hw [] b239 b247 k247q (16 : Int32) (16 : Int32) [(.int (q1.toInt32.toInt8.toInt32)), (.int (own_b q1 (8 : Int32))), (.int (own_b q1 (16 : Int32))), (.int (own_b q1 (24 : Int32))), (.int (own_b q1 (32 : Int32))), (.int (own_b q1 (40 : Int32))), (.int (own_b q1 (48 : Int32))), (.int (own_b q1 (56 : Int32))), (.int (q2.toInt32.toInt8.toInt32)), (.int (own_b q2 (8 : Int32))), (.int (own_b q2 (16 : Int32))), (.int (own_b q2 (24 : Int32))), (.int (own_b q2 (32 : Int32))), (.int (own_b q2 (40 : Int32))), (.int (own_b q2 (48 : Int32))), (.int (own_b q2 (56 : Int32)))] 16 T270.heap n0 zs277 Fb270 Fs270 Vq270 E270q (by decide) (by decide) (by decide) (Nat.le_of_ble_eq_true rfl)) hZ (hw _ (List.mem_of_getElem? (i := 20) rfl)) (hw _ (List.mem_of_getElem? (i := 7) rfl)) (by decide) (by decide)) q278a q278c (g := (mkF m 67 #[.val (.long q1), .second, .val (.long q2), .second, .val (.int p3), .val (.ref b230), .val (.ref b239), .val (.ref b255), .unset, .unset, .unset] [(.ref b239)])) rfl (by rw [hml]; rfl) (Steps.refl _) (argsL := []) (rest := []) (lenOf pd_6 rfl) rfl (by show 2 * 0 + _ ≤ _; exact Nat.le_of_eq rfl) (hb hby at_67) (fun _ _ => ⟨rfl, rfl, (by decide : 0 + 1 + 0 + 0 + 1 + 1 + 1 + 0 + 0 + 1 ≤ _), (by decide : 0 + 16 + 0 + 0 + 2 + 16 + 0 + 0 + 0 + 16 ≤ _)⟩)
  dsimp only [Pt.U, Pt.locs, Pt.cells, Pt.slots] at X278 l278 y278 z278 st278 hQ278
  rw [l278, y278, z278] at X278
  obtain ⟨b278, k278q, rfl, Nq278, K278, hsz278, E278q, Vq278⟩ := hQ278
  have N278 := Fr.app N270 Nq278
  refine own_go (fun _ k => st278.trans k) ?_
  have ne279 : b230 ≠ b278 := Nat.ne_of_lt (Nat.lt_of_lt_of_le f271.lt hsz278)
  have ne280 : b239 ≠ b278 := Nat.ne_of_lt (Nat.lt_of_lt_of_le Eo270.lt hsz278)
  have ne281 : b247 ≠ b278 := Nat.ne_of_lt (Nat.lt_of_lt_of_le E270q.lt hsz278)
  have ne282 : b255 ≠ b278 := Nat.ne_of_lt (Nat.lt_of_lt_of_le f275.lt hsz278)
  have ge283 : n0 ≤ b278 := Nat.le_trans zs277 hsz278
  have f284 := f271.keep K278
  have f285 := f272.keep K278 nin0
  have f286 := Eo270.keep K278
  have f287 := E270q.keep K278
  have f288 := f275.keep K278 nin0
  have f289 := f276.keep K278
  have f290 := Fb270.keep K278 nin0
  have f291 := Fs270.keep K278 nin0
  have f292 := Vq270.keep K278 nin0
  have zs293 : n0 ≤ T278.heap.size := Nat.le_trans zs277 K278.1
  have V278 : Arv Z T278.heap b278 k278q .byte (16 : Int32) [(.int (q1.toInt32.toInt8.toInt32)), (.int (own_b q1 (8 : Int32))), (.int (own_b q1 (16 : Int32))), (.int (own_b q1 (24 : Int32))), (.int (own_b q1 (32 : Int32))), (.int (own_b q1 (40 : Int32))), (.int (own_b q1 (48 : Int32))), (.int (own_b q1 (56 : Int32))), (.int (q2.toInt32.toInt8.toInt32)), (.int (own_b q2 (8 : Int32))), (.int (own_b q2 (16 : Int32))), (.int (own_b q2 (24 : Int32))), (.int (own_b q2 (32 : Int32))), (.int (own_b q2 (40 : Int32))), (.int (own_b q2 (48 : Int32))), (.int (own_b q2 (56 : Int32)))] (.int (0 : Int32)) := Vq278
  show own_G p e below (T278.setTop (mkF m 70 #[.val (.long q1), .second, .val (.long q2), .second, .val (.int p3), .val (.ref b230), .val (.ref b239), .val (.ref b255), .unset, .unset, .unset] [(.ref b278)])) _
  refine own_go (fun _ k => XS.astore X278.here hx rfl (hb hby at_70) rfl rfl (l' := #[.val (.long q1), .second, .val (.long q2), .second, .val (.int p3), .val (.ref b230), .val (.ref b239), .val (.ref b255), .val (.ref b278), .unset, .unset]) rfl k) ?_
  show own_G p e below (T278.setTop (mkF m 72 #[.val (.long q1), .second, .val (.long q2), .second, .val (.int p3), .val (.ref b230), .val (.ref b239), .val (.ref b255), .val (.ref b278), .unset, .unset] [])) _
  refine own_go (fun _ k => XS.aload X278.here hx rfl (hb hby at_72) rfl rfl k) ?_
  show own_G p e below (T278.setTop (mkF m 74 #[.val (.long q1), .second, .val (.long q2), .second, .val (.int p3), .val (.ref b230), .val (.ref b239), .val (.ref b255), .val (.ref b278), .unset, .unset] [(.ref b278)])) _
  refine own_go (fun _ k => XS.ifnullNo X278.here hx rfl (hb hby at_74) rfl k) ?_
  show own_G p e below (T278.setTop (mkF m 77 #[.val (.long q1), .second, .val (.long q2), .second, .val (.int p3), .val (.ref b230), .val (.ref b239), .val (.ref b255), .val (.ref b278), .unset, .unset] [])) _
  refine own_go (fun _ k => XS.aload X278.here hx rfl (hb hby at_77) rfl rfl k) ?_
  show own_G p e below (T278.setTop (mkF m 79 #[.val (.long q1), .second, .val (.long q2), .second, .val (.int p3), .val (.ref b230), .val (.ref b239), .val (.ref b255), .val (.ref b278), .unset, .unset] [(.ref b278)])) _
  obtain ⟨cl294, Ar294, q294, S294, M294, B294, G294⟩ := id V278
  refine own_go (X278.arraylength hx Ar294.1 (State.isArrayOf_alike hZ.alike Ar294.2.1) (g := (mkF m 79 #[.val (.long q1), .second, .val (.long q2), .second, .val (.int p3), .val (.ref b230), .val (.ref b239), .val (.ref b255), .val (.ref b278), .unset, .unset] [(.ref b278)])) rfl rfl (hb hby at_79)) ?_
  rw [len_of S294 M294]
  show own_G p e below (T278.setTop (mkF m 80 #[.val (.long q1), .second, .val (.long q2), .second, .val (.int p3), .val (.ref b230), .val (.ref b239), .val (.ref b255), .val (.ref b278), .unset, .unset] [(.int (16 : Int32))])) _
  refine own_go (fun _ k => XS.bipush X278.here hx rfl (hb hby at_80) k) ?_
  show own_G p e below (T278.setTop (mkF m 82 #[.val (.long q1), .second, .val (.long q2), .second, .val (.int p3), .val (.ref b230), .val (.ref b239), .val (.ref b255), .val (.ref b278), .unset, .unset] [(.int (16 : Int32)), (.int (16 : Int32))])) _
  refine own_go (fun _ k => XS.icmpNo X278.here hx rfl (hb hby at_82) rfl (teq (by decide : (16 : Int32) = (16 : Int32))).2 k) ?_
  show own_G p e below (T278.setTop (mkF m 85 #[.val (.long q1), .second, .val (.long q2), .second, .val (.int p3), .val (.ref b230), .val (.ref b239), .val (.ref b255), .val (.ref b278), .unset, .unset] [])) _
  refine own_go (fun _ k => XS.aload X278.here hx rfl (hb hby at_85) rfl rfl k) ?_
  show own_G p e below (T278.setTop (mkF m 87 #[.val (.long q1), .second, .val (.long q2), .second, .val (.int p3), .val (.ref b230), .val (.ref b239), .val (.ref b255), .val (.ref b278), .unset, .unset] [(.ref b239)])) _
  obtain ⟨cq295, kq295, q295a, q295b, q295c⟩ := isOf hZ rfl f286
  obtain ⟨_, _, ⟨T295, L295, k295, n295⟩, -, X295, ⟨Lc295, hQ295, l295, y295, z295⟩, st295⟩ := X278.virtualBack hx (y := (⟨"com/example/bitfold/bitfold/ByteArrayWriter", "size", "()I"⟩ : MethodName)) (z := (⟨"com/example/bitfold/bitfold/ByteArrayWriter", "size", "()I"⟩ : MethodName)) hown (mvT hZ (hw _ (List.mem_of_getElem? (i := 35) rfl))) (mvT hZ (hw _ (List.mem_of_getElem? (i := 36) rfl))) (notFace_of_selects (args := #[]) (mvT hZ (hw _ (List.mem_of_getElem? (i := 38) rfl)))) (mvT hZ (hw _ (List.mem_of_getElem? (i := 38) rfl))) (mvT hZ (hw _ (List.mem_of_getElem? (i := 37) rfl))) (by decide) (backOf (W := 0) (rm7 l Z a0 hw [] b239 (16 : Int32) T278.heap n0 zs293 f291) hZ (hw _ (List.mem_of_getElem? (i := 39) rfl)) (hw _ (List.mem_of_getElem? (i := 7) rfl)) (by decide) (by decide)) q295a q295c (g := (mkF m 87 #[.val (.long q1), .second, .val (.long q2), .second, .val (.int p3), .val (.ref b230), .val (.ref b239), .val (.ref b255), .val (.ref b278), .unset, .unset] [(.ref b239)])) rfl (by rw [hml]; rfl) (Steps.refl _) (argsL := []) (rest := []) (lenOf pd_7 rfl) rfl (by show 2 * 0 + _ ≤ _; exact Nat.le_of_eq rfl) (hb hby at_87) (fun _ _ => ⟨rfl, rfl, (by decide : 0 + 1 + 0 + 0 + 1 + 1 + 1 + 0 + 0 + 1 + 0 ≤ _), (by decide : 0 + 16 + 0 + 0 + 2 + 16 + 0 + 0 + 0 + 16 + 0 ≤ _)⟩)
  dsimp only [Pt.U, Pt.locs, Pt.cells, Pt.slots] at X295 l295 y295 z295 st295 hQ295
  rw [l295, y295, z295] at X295
  obtain ⟨rfl, Nq295, hh295⟩ := hQ295
  have N295 := Fr.app N278 Nq295
  refine own_go (fun _ k => st295.trans k) ?_
  have e295 : T295.heap = T278.heap := hh295
  show own_G p e below (T295.setTop (mkF m 90 #[.val (.long q1), .second, .val (.long q2), .second, .val (.int p3), .val (.ref b230), .val (.ref b239), .val (.ref b255), .val (.ref b278), .unset, .unset] [(.int (16 : Int32))])) _
  refine own_go (fun _ k => XS.bipush X295.here hx rfl (hb hby at_90) k) ?_
  show own_G p e below (T295.setTop (mkF m 92 #[.val (.long q1), .second, .val (.long q2), .second, .val (.int p3), .val (.ref b230), .val (.ref b239), .val (.ref b255), .val (.ref b278), .unset, .unset] [(.int (16 : Int32)), (.int (16 : Int32))])) _
  refine own_go (fun _ k => XS.icmpYes X295.here hx rfl (pc0 := 92) (pc' := 97) rfl (hb hby at_92) rfl (teq (by decide : (16 : Int32) = (16 : Int32))).1 (by decide) (by decide) k) ?_
  show own_G p e below (T295.setTop (mkF m 97 #[.val (.long q1), .second, .val (.long q2), .second, .val (.int p3), .val (.ref b230), .val (.ref b239), .val (.ref b255), .val (.ref b278), .unset, .unset] [])) _
  refine own_go (fun _ k => XS.aload X295.here hx rfl (hb hby at_97) rfl rfl k) ?_
  show own_G p e below (T295.setTop (mkF m 99 #[.val (.long q1), .second, .val (.long q2), .second, .val (.int p3), .val (.ref b230), .val (.ref b239), .val (.ref b255), .val (.ref b278), .unset, .unset] [(.ref b278)])) _
  refine own_go (fun _ k => XS.iconst X295.here hx rfl (hb hby at_99) k) ?_
  show own_G p e below (T295.setTop (mkF m 100 #[.val (.long q1), .second, .val (.long q2), .second, .val (.int p3), .val (.ref b230), .val (.ref b239), .val (.ref b255), .val (.ref b278), .unset, .unset] [(.int (0 : Int32)), (.ref b278)])) _
  obtain ⟨_, _, ⟨T296, L296, k296, n296⟩, -, X296, ⟨Lc296, hQ296, l296, y296, z296⟩, st296⟩ := Jvm.LawKit.callS X295 hx (y := (⟨"com/example/bitfold/bitfold/ByteArrayWriterToByteArrayPinLaw", "le8", "([BI)J"⟩ : MethodName)) hown (mvT hZ (hw _ (List.mem_of_getElem? (i := 59) rfl))) (mvT hZ (hw _ (List.mem_of_getElem? (i := 60) rfl))) (mvT hZ (hw _ (List.mem_of_getElem? (i := 3) rfl))) (mvT hZ (hw _ (List.mem_of_getElem? (i := 61) rfl))) (by decide) (backOf (W := 0) (rm10_16_0 l Z a0 hw [] b278 k278q (q1.toInt32.toInt8.toInt32) (own_b q1 (8 : Int32)) (own_b q1 (16 : Int32)) (own_b q1 (24 : Int32)) (own_b q1 (32 : Int32)) (own_b q1 (40 : Int32)) (own_b q1 (48 : Int32)) (own_b q1 (56 : Int32)) (q2.toInt32.toInt8.toInt32) (own_b q2 (8 : Int32)) (own_b q2 (16 : Int32)) (own_b q2 (24 : Int32)) (own_b q2 (32 : Int32)) (own_b q2 (40 : Int32)) (own_b q2 (48 : Int32)) (own_b q2 (56 : Int32)) T278.heap n0 zs293 V278) hZ (hw _ (List.mem_of_getElem? (i := 61) rfl)) (hw _ (List.mem_of_getElem? (i := 3) rfl)) (by decide) (by decide)) (g := (mkF m 100 #[.val (.long q1), .second, .val (.long q2), .second, .val (.int p3), .val (.ref b230), .val (.ref b239), .val (.ref b255), .val (.ref b278), .unset, .unset] [(.int (0 : Int32)), (.ref b278)])) rfl (by rw [hml]; rfl) (argsL := [(.ref b278), (.int (0 : Int32))]) (rest := []) (lenOf pd_9 rfl) rfl (by show 2 * 0 + _ ≤ _; exact Nat.le_of_eq rfl) (hb hby at_100) (fun _ _ => ⟨rfl, e295, (by decide : 0 + 1 + 0 + 0 + 1 + 1 + 1 + 0 + 0 + 1 + 0 + 0 ≤ _), (by decide : 0 + 16 + 0 + 0 + 2 + 16 + 0 + 0 + 0 + 16 + 0 + 0 ≤ _)⟩)
  dsimp only [Pt.U, Pt.locs, Pt.cells, Pt.slots] at X296 l296 y296 z296 st296 hQ296
  rw [l296, y296, z296] at X296
  obtain ⟨rfl, Nq296, hh296⟩ := hQ296
  have N296 := Fr.app N295 Nq296
  refine own_go st296 ?_
  have e296 : T296.heap = T278.heap := hh296
  show own_G p e below (T296.setTop (mkF m 103 #[.val (.long q1), .second, .val (.long q2), .second, .val (.int p3), .val (.ref b230), .val (.ref b239), .val (.ref b255), .val (.ref b278), .unset, .unset] [(.long (own_le8 (q1.toInt32.toInt8.toInt32) (own_b q1 (8 : Int32)) (own_b q1 (16 : Int32)) (own_b q1 (24 : Int32)) (own_b q1 (32 : Int32)) (own_b q1 (40 : Int32)) (own_b q1 (48 : Int32)) (own_b q1 (56 : Int32))))])) _
  refine own_go (fun _ k => XS.lloadN X296.here hx rfl (hb hby at_103) rfl k) ?_
  show own_G p e below (T296.setTop (mkF m 104 #[.val (.long q1), .second, .val (.long q2), .second, .val (.int p3), .val (.ref b230), .val (.ref b239), .val (.ref b255), .val (.ref b278), .unset, .unset] [(.long q1), (.long (own_le8 (q1.toInt32.toInt8.toInt32) (own_b q1 (8 : Int32)) (own_b q1 (16 : Int32)) (own_b q1 (24 : Int32)) (own_b q1 (32 : Int32)) (own_b q1 (40 : Int32)) (own_b q1 (48 : Int32)) (own_b q1 (56 : Int32))))])) _
  refine own_go (fun _ k => XS.lcmp X296.here hx rfl (hb hby at_104) rfl k) ?_
  show own_G p e below (T296.setTop (mkF m 105 #[.val (.long q1), .second, .val (.long q2), .second, .val (.int p3), .val (.ref b230), .val (.ref b239), .val (.ref b255), .val (.ref b278), .unset, .unset] [(.int (lcmpW (own_le8 (q1.toInt32.toInt8.toInt32) (own_b q1 (8 : Int32)) (own_b q1 (16 : Int32)) (own_b q1 (24 : Int32)) (own_b q1 (32 : Int32)) (own_b q1 (40 : Int32)) (own_b q1 (48 : Int32)) (own_b q1 (56 : Int32))) q1))])) _
  refine own_go (fun _ k => XS.ifNo X296.here hx rfl (hb hby at_105) rfl ((if0 _ _).trans (teq ((lw_eq _ _).mpr (own_le q1))).2) k) ?_
  show own_G p e below (T296.setTop (mkF m 108 #[.val (.long q1), .second, .val (.long q2), .second, .val (.int p3), .val (.ref b230), .val (.ref b239), .val (.ref b255), .val (.ref b278), .unset, .unset] [])) _
  refine own_go (fun _ k => XS.aload X296.here hx rfl (hb hby at_108) rfl rfl k) ?_
  show own_G p e below (T296.setTop (mkF m 110 #[.val (.long q1), .second, .val (.long q2), .second, .val (.int p3), .val (.ref b230), .val (.ref b239), .val (.ref b255), .val (.ref b278), .unset, .unset] [(.ref b278)])) _
  refine own_go (fun _ k => XS.bipush X296.here hx rfl (hb hby at_110) k) ?_
  show own_G p e below (T296.setTop (mkF m 112 #[.val (.long q1), .second, .val (.long q2), .second, .val (.int p3), .val (.ref b230), .val (.ref b239), .val (.ref b255), .val (.ref b278), .unset, .unset] [(.int (8 : Int32)), (.ref b278)])) _
  obtain ⟨_, _, ⟨T297, L297, k297, n297⟩, -, X297, ⟨Lc297, hQ297, l297, y297, z297⟩, st297⟩ := Jvm.LawKit.callS X296 hx (y := (⟨"com/example/bitfold/bitfold/ByteArrayWriterToByteArrayPinLaw", "le8", "([BI)J"⟩ : MethodName)) hown (mvT hZ (hw _ (List.mem_of_getElem? (i := 59) rfl))) (mvT hZ (hw _ (List.mem_of_getElem? (i := 60) rfl))) (mvT hZ (hw _ (List.mem_of_getElem? (i := 3) rfl))) (mvT hZ (hw _ (List.mem_of_getElem? (i := 61) rfl))) (by decide) (backOf (W := 0) (rm10_16_8 l Z a0 hw [] b278 k278q (q1.toInt32.toInt8.toInt32) (own_b q1 (8 : Int32)) (own_b q1 (16 : Int32)) (own_b q1 (24 : Int32)) (own_b q1 (32 : Int32)) (own_b q1 (40 : Int32)) (own_b q1 (48 : Int32)) (own_b q1 (56 : Int32)) (q2.toInt32.toInt8.toInt32) (own_b q2 (8 : Int32)) (own_b q2 (16 : Int32)) (own_b q2 (24 : Int32)) (own_b q2 (32 : Int32)) (own_b q2 (40 : Int32)) (own_b q2 (48 : Int32)) (own_b q2 (56 : Int32)) T278.heap n0 zs293 V278) hZ (hw _ (List.mem_of_getElem? (i := 61) rfl)) (hw _ (List.mem_of_getElem? (i := 3) rfl)) (by decide) (by decide)) (g := (mkF m 112 #[.val (.long q1), .second, .val (.long q2), .second, .val (.int p3), .val (.ref b230), .val (.ref b239), .val (.ref b255), .val (.ref b278), .unset, .unset] [(.int (8 : Int32)), (.ref b278)])) rfl (by rw [hml]; rfl) (argsL := [(.ref b278), (.int (8 : Int32))]) (rest := []) (lenOf pd_9 rfl) rfl (by show 2 * 0 + _ ≤ _; exact Nat.le_of_eq rfl) (hb hby at_112) (fun _ _ => ⟨rfl, e296, (by decide : 0 + 1 + 0 + 0 + 1 + 1 + 1 + 0 + 0 + 1 + 0 + 0 + 0 ≤ _), (by decide : 0 + 16 + 0 + 0 + 2 + 16 + 0 + 0 + 0 + 16 + 0 + 0 + 0 ≤ _)⟩)
  dsimp only [Pt.U, Pt.locs, Pt.cells, Pt.slots] at X297 l297 y297 z297 st297 hQ297
  rw [l297, y297, z297] at X297
  obtain ⟨rfl, Nq297, hh297⟩ := hQ297
  have N297 := Fr.app N296 Nq297
  refine own_go st297 ?_
  have e297 : T297.heap = T278.heap := hh297
  show own_G p e below (T297.setTop (mkF m 115 #[.val (.long q1), .second, .val (.long q2), .second, .val (.int p3), .val (.ref b230), .val (.ref b239), .val (.ref b255), .val (.ref b278), .unset, .unset] [(.long (own_le8 (q2.toInt32.toInt8.toInt32) (own_b q2 (8 : Int32)) (own_b q2 (16 : Int32)) (own_b q2 (24 : Int32)) (own_b q2 (32 : Int32)) (own_b q2 (40 : Int32)) (own_b q2 (48 : Int32)) (own_b q2 (56 : Int32))))])) _
  refine own_go (fun _ k => XS.lloadN X297.here hx rfl (hb hby at_115) rfl k) ?_
  show own_G p e below (T297.setTop (mkF m 116 #[.val (.long q1), .second, .val (.long q2), .second, .val (.int p3), .val (.ref b230), .val (.ref b239), .val (.ref b255), .val (.ref b278), .unset, .unset] [(.long q2), (.long (own_le8 (q2.toInt32.toInt8.toInt32) (own_b q2 (8 : Int32)) (own_b q2 (16 : Int32)) (own_b q2 (24 : Int32)) (own_b q2 (32 : Int32)) (own_b q2 (40 : Int32)) (own_b q2 (48 : Int32)) (own_b q2 (56 : Int32))))])) _
  refine own_go (fun _ k => XS.lcmp X297.here hx rfl (hb hby at_116) rfl k) ?_
  show own_G p e below (T297.setTop (mkF m 117 #[.val (.long q1), .second, .val (.long q2), .second, .val (.int p3), .val (.ref b230), .val (.ref b239), .val (.ref b255), .val (.ref b278), .unset, .unset] [(.int (lcmpW (own_le8 (q2.toInt32.toInt8.toInt32) (own_b q2 (8 : Int32)) (own_b q2 (16 : Int32)) (own_b q2 (24 : Int32)) (own_b q2 (32 : Int32)) (own_b q2 (40 : Int32)) (own_b q2 (48 : Int32)) (own_b q2 (56 : Int32))) q2))])) _
  refine own_go (fun _ k => XS.ifYes X297.here hx rfl (pc0 := 117) (pc' := 122) rfl (hb hby at_117) rfl ((if0 _ _).trans (teq ((lw_eq _ _).mpr (own_le q2))).1) (by decide) (by decide) k) ?_
  show own_G p e below (T297.setTop (mkF m 122 #[.val (.long q1), .second, .val (.long q2), .second, .val (.int p3), .val (.ref b230), .val (.ref b239), .val (.ref b255), .val (.ref b278), .unset, .unset] [])) _
  refine own_go (fun _ k => XS.aload X297.here hx rfl (hb hby at_122) rfl rfl k) ?_
  show own_G p e below (T297.setTop (mkF m 124 #[.val (.long q1), .second, .val (.long q2), .second, .val (.int p3), .val (.ref b230), .val (.ref b239), .val (.ref b255), .val (.ref b278), .unset, .unset] [(.ref b278)])) _
  refine own_go (fun _ k => XS.iconst X297.here hx rfl (hb hby at_124) k) ?_
  show own_G p e below (T297.setTop (mkF m 125 #[.val (.long q1), .second, .val (.long q2), .second, .val (.int p3), .val (.ref b230), .val (.ref b239), .val (.ref b255), .val (.ref b278), .unset, .unset] [(.int (0 : Int32)), (.ref b278)])) _
  refine own_go (fun _ k => XS.aload X297.here hx rfl (hb hby at_125) rfl rfl k) ?_
  show own_G p e below (T297.setTop (mkF m 127 #[.val (.long q1), .second, .val (.long q2), .second, .val (.int p3), .val (.ref b230), .val (.ref b239), .val (.ref b255), .val (.ref b278), .unset, .unset] [(.ref b278), (.int (0 : Int32)), (.ref b278)])) _
  refine own_go (fun _ k => XS.iconst X297.here hx rfl (hb hby at_127) k) ?_
  show own_G p e below (T297.setTop (mkF m 128 #[.val (.long q1), .second, .val (.long q2), .second, .val (.int p3), .val (.ref b230), .val (.ref b239), .val (.ref b255), .val (.ref b278), .unset, .unset] [(.int (0 : Int32)), (.ref b278), (.int (0 : Int32)), (.ref b278)])) _
  obtain ⟨cl298, Ar298, q298, S298, M298, B298, G298⟩ := id V278
  have hin298 : ¬ ((0 : Int32) < 0 ∨ cl298.slots.size ≤ ((0 : Int32)).toNatClampNeg) := inb_of S298 ⟨by decide, by decide⟩
  have hat298 : cl298.slots[((0 : Int32)).toNatClampNeg]? = some (.int (q1.toInt32.toInt8.toInt32)) := B298.at hin298 rfl
  refine own_go (X297.baloadBytes hx (j := (0 : Int32)) (v := (.int (q1.toInt32.toInt8.toInt32))) (by rw [e297]; exact Ar298.1) (State.isArrayOf_alike hZ.alike Ar298.2.1) Ar298.2.2 hin298 hat298 (g := (mkF m 128 #[.val (.long q1), .second, .val (.long q2), .second, .val (.int p3), .val (.ref b230), .val (.ref b239), .val (.ref b255), .val (.ref b278), .unset, .unset] [(.int (0 : Int32)), (.ref b278), (.int (0 : Int32)), (.ref b278)])) rfl rfl (hb hby at_128)) ?_
  show own_G p e below (T297.setTop (mkF m 129 #[.val (.long q1), .second, .val (.long q2), .second, .val (.int p3), .val (.ref b230), .val (.ref b239), .val (.ref b255), .val (.ref b278), .unset, .unset] [(.int (q1.toInt32.toInt8.toInt32)), (.int (0 : Int32)), (.ref b278)])) _
  refine own_go (fun _ k => XS.iconst X297.here hx rfl (hb hby at_129) k) ?_
  show own_G p e below (T297.setTop (mkF m 130 #[.val (.long q1), .second, .val (.long q2), .second, .val (.int p3), .val (.ref b230), .val (.ref b239), .val (.ref b255), .val (.ref b278), .unset, .unset] [(.int (1 : Int32)), (.int (q1.toInt32.toInt8.toInt32)), (.int (0 : Int32)), (.ref b278)])) _
  refine own_go (fun _ k => XS.ixor X297.here hx rfl (hb hby at_130) rfl k) ?_
  show own_G p e below (T297.setTop (mkF m 131 #[.val (.long q1), .second, .val (.long q2), .second, .val (.int p3), .val (.ref b230), .val (.ref b239), .val (.ref b255), .val (.ref b278), .unset, .unset] [(.int ((q1.toInt32.toInt8.toInt32) ^^^ (1 : Int32))), (.int (0 : Int32)), (.ref b278)])) _
  refine own_go (fun _ k => XS.i2b X297.here hx rfl (hb hby at_131) rfl k) ?_
  show own_G p e below (T297.setTop (mkF m 132 #[.val (.long q1), .second, .val (.long q2), .second, .val (.int p3), .val (.ref b230), .val (.ref b239), .val (.ref b255), .val (.ref b278), .unset, .unset] [(.int (((q1.toInt32.toInt8.toInt32) ^^^ (1 : Int32)).toInt8.toInt32)), (.int (0 : Int32)), (.ref b278)])) _
  obtain ⟨cl299, Ar299, q299, S299, M299, B299, G299⟩ := id V278
  have hin299 : ¬ ((0 : Int32) < 0 ∨ cl299.slots.size ≤ ((0 : Int32)).toNatClampNeg) := inb_of S299 ⟨by decide, by decide⟩
  obtain ⟨T299, h299, X299, e299, W299, st299⟩ := stB X297 hx hZ e297 Ar299 (j := (0 : Int32)) hin299 (g := (mkF m 132 #[.val (.long q1), .second, .val (.long q2), .second, .val (.int p3), .val (.ref b230), .val (.ref b239), .val (.ref b255), .val (.ref b278), .unset, .unset] [(.int (((q1.toInt32.toInt8.toInt32) ^^^ (1 : Int32)).toInt8.toInt32)), (.int (0 : Int32)), (.ref b278)])) rfl rfl (hb hby at_132)
  refine own_go st299 ?_
  rw [show nar .byte (((q1.toInt32.toInt8.toInt32) ^^^ (1 : Int32)).toInt8.toInt32) = (((q1.toInt32.toInt8.toInt32) ^^^ (1 : Int32)).toInt8.toInt32) from (own_bb _)] at W299
  have f300 := f284.wr W299
  have f301 := f285.other W299 ne279
  have f302 := f286.wr W299
  have f303 := f287.wr W299
  have f304 := f288.other W299 ne282
  have f305 := f289.wr W299
  have f306 := f290.other W299 (Or.inl ne280)
  have f307 := f291.other W299 (Or.inl ne280)
  have f308 := f292.other W299 ne281
  have f309 := E278q.wr W299
  have zs310 : n0 ≤ h299.size := Nat.le_trans zs293 (Keep.of_wr W299).1
  have V299 : Arv Z h299 b278 k278q .byte (16 : Int32) [(.int (((q1.toInt32.toInt8.toInt32) ^^^ (1 : Int32)).toInt8.toInt32)), (.int (own_b q1 (8 : Int32))), (.int (own_b q1 (16 : Int32))), (.int (own_b q1 (24 : Int32))), (.int (own_b q1 (32 : Int32))), (.int (own_b q1 (40 : Int32))), (.int (own_b q1 (48 : Int32))), (.int (own_b q1 (56 : Int32))), (.int (q2.toInt32.toInt8.toInt32)), (.int (own_b q2 (8 : Int32))), (.int (own_b q2 (16 : Int32))), (.int (own_b q2 (24 : Int32))), (.int (own_b q2 (32 : Int32))), (.int (own_b q2 (40 : Int32))), (.int (own_b q2 (48 : Int32))), (.int (own_b q2 (56 : Int32)))] (.int (0 : Int32)) := Arv.set Ar299 q299 S299 M299 B299 G299 (fits_nar_byte _) W299 0 rfl (Nat.le_of_ble_eq_true rfl)
  have N299 := Fr.snoc X299 N297 ge283
  show own_G p e below (T299.setTop (mkF m 133 #[.val (.long q1), .second, .val (.long q2), .second, .val (.int p3), .val (.ref b230), .val (.ref b239), .val (.ref b255), .val (.ref b278), .unset, .unset] [])) _
  refine own_go (fun _ k => XS.aload X299.here hx rfl (hb hby at_133) rfl rfl k) ?_
  show own_G p e below (T299.setTop (mkF m 135 #[.val (.long q1), .second, .val (.long q2), .second, .val (.int p3), .val (.ref b230), .val (.ref b239), .val (.ref b255), .val (.ref b278), .unset, .unset] [(.ref b278)])) _
  refine own_go (fun _ k => XS.bipush X299.here hx rfl (hb hby at_135) k) ?_
  show own_G p e below (T299.setTop (mkF m 137 #[.val (.long q1), .second, .val (.long q2), .second, .val (.int p3), .val (.ref b230), .val (.ref b239), .val (.ref b255), .val (.ref b278), .unset, .unset] [(.int (15 : Int32)), (.ref b278)])) _
  refine own_go (fun _ k => XS.aload X299.here hx rfl (hb hby at_137) rfl rfl k) ?_
  show own_G p e below (T299.setTop (mkF m 139 #[.val (.long q1), .second, .val (.long q2), .second, .val (.int p3), .val (.ref b230), .val (.ref b239), .val (.ref b255), .val (.ref b278), .unset, .unset] [(.ref b278), (.int (15 : Int32)), (.ref b278)])) _
  refine own_go (fun _ k => XS.bipush X299.here hx rfl (hb hby at_139) k) ?_
  show own_G p e below (T299.setTop (mkF m 141 #[.val (.long q1), .second, .val (.long q2), .second, .val (.int p3), .val (.ref b230), .val (.ref b239), .val (.ref b255), .val (.ref b278), .unset, .unset] [(.int (15 : Int32)), (.ref b278), (.int (15 : Int32)), (.ref b278)])) _
  obtain ⟨cl311, Ar311, q311, S311, M311, B311, G311⟩ := id V299
  have hin311 : ¬ ((15 : Int32) < 0 ∨ cl311.slots.size ≤ ((15 : Int32)).toNatClampNeg) := inb_of S311 ⟨by decide, by decide⟩
  have hat311 : cl311.slots[((15 : Int32)).toNatClampNeg]? = some (.int (own_b q2 (56 : Int32))) := B311.at hin311 rfl
  refine own_go (X299.baloadBytes hx (j := (15 : Int32)) (v := (.int (own_b q2 (56 : Int32)))) (by rw [e299]; exact Ar311.1) (State.isArrayOf_alike hZ.alike Ar311.2.1) Ar311.2.2 hin311 hat311 (g := (mkF m 141 #[.val (.long q1), .second, .val (.long q2), .second, .val (.int p3), .val (.ref b230), .val (.ref b239), .val (.ref b255), .val (.ref b278), .unset, .unset] [(.int (15 : Int32)), (.ref b278), (.int (15 : Int32)), (.ref b278)])) rfl rfl (hb hby at_141)) ?_
  show own_G p e below (T299.setTop (mkF m 142 #[.val (.long q1), .second, .val (.long q2), .second, .val (.int p3), .val (.ref b230), .val (.ref b239), .val (.ref b255), .val (.ref b278), .unset, .unset] [(.int (own_b q2 (56 : Int32))), (.int (15 : Int32)), (.ref b278)])) _
  refine own_go (fun _ k => XS.iconst X299.here hx rfl (hb hby at_142) k) ?_
  show own_G p e below (T299.setTop (mkF m 143 #[.val (.long q1), .second, .val (.long q2), .second, .val (.int p3), .val (.ref b230), .val (.ref b239), .val (.ref b255), .val (.ref b278), .unset, .unset] [(.int (1 : Int32)), (.int (own_b q2 (56 : Int32))), (.int (15 : Int32)), (.ref b278)])) _
  refine own_go (fun _ k => XS.ixor X299.here hx rfl (hb hby at_143) rfl k) ?_
  show own_G p e below (T299.setTop (mkF m 144 #[.val (.long q1), .second, .val (.long q2), .second, .val (.int p3), .val (.ref b230), .val (.ref b239), .val (.ref b255), .val (.ref b278), .unset, .unset] [(.int ((own_b q2 (56 : Int32)) ^^^ (1 : Int32))), (.int (15 : Int32)), (.ref b278)])) _
  refine own_go (fun _ k => XS.i2b X299.here hx rfl (hb hby at_144) rfl k) ?_
  show own_G p e below (T299.setTop (mkF m 145 #[.val (.long q1), .second, .val (.long q2), .second, .val (.int p3), .val (.ref b230), .val (.ref b239), .val (.ref b255), .val (.ref b278), .unset, .unset] [(.int (((own_b q2 (56 : Int32)) ^^^ (1 : Int32)).toInt8.toInt32)), (.int (15 : Int32)), (.ref b278)])) _
  obtain ⟨cl312, Ar312, q312, S312, M312, B312, G312⟩ := id V299
  have hin312 : ¬ ((15 : Int32) < 0 ∨ cl312.slots.size ≤ ((15 : Int32)).toNatClampNeg) := inb_of S312 ⟨by decide, by decide⟩
  obtain ⟨T312, h312, X312, e312, W312, st312⟩ := stB X299 hx hZ e299 Ar312 (j := (15 : Int32)) hin312 (g := (mkF m 145 #[.val (.long q1), .second, .val (.long q2), .second, .val (.int p3), .val (.ref b230), .val (.ref b239), .val (.ref b255), .val (.ref b278), .unset, .unset] [(.int (((own_b q2 (56 : Int32)) ^^^ (1 : Int32)).toInt8.toInt32)), (.int (15 : Int32)), (.ref b278)])) rfl rfl (hb hby at_145)
  refine own_go st312 ?_
  rw [show nar .byte (((own_b q2 (56 : Int32)) ^^^ (1 : Int32)).toInt8.toInt32) = (((own_b q2 (56 : Int32)) ^^^ (1 : Int32)).toInt8.toInt32) from (own_bb _)] at W312
  have f313 := f300.wr W312
  have f314 := f301.other W312 ne279
  have f315 := f302.wr W312
  have f316 := f303.wr W312
  have f317 := f304.other W312 ne282
  have f318 := f305.wr W312
  have f319 := f306.other W312 (Or.inl ne280)
  have f320 := f307.other W312 (Or.inl ne280)
  have f321 := f308.other W312 ne281
  have f322 := f309.wr W312
  have zs323 : n0 ≤ h312.size := Nat.le_trans zs310 (Keep.of_wr W312).1
  have V312 : Arv Z h312 b278 k278q .byte (16 : Int32) [(.int (((q1.toInt32.toInt8.toInt32) ^^^ (1 : Int32)).toInt8.toInt32)), (.int (own_b q1 (8 : Int32))), (.int (own_b q1 (16 : Int32))), (.int (own_b q1 (24 : Int32))), (.int (own_b q1 (32 : Int32))), (.int (own_b q1 (40 : Int32))), (.int (own_b q1 (48 : Int32))), (.int (own_b q1 (56 : Int32))), (.int (q2.toInt32.toInt8.toInt32)), (.int (own_b q2 (8 : Int32))), (.int (own_b q2 (16 : Int32))), (.int (own_b q2 (24 : Int32))), (.int (own_b q2 (32 : Int32))), (.int (own_b q2 (40 : Int32))), (.int (own_b q2 (48 : Int32))), (.int (((own_b q2 (56 : Int32)) ^^^ (1 : Int32)).toInt8.toInt32))] (.int (0 : Int32)) := Arv.set Ar312 q312 S312 M312 B312 G312 (fits_nar_byte _) W312 15 rfl (Nat.le_of_ble_eq_true rfl)
  have N312 := Fr.snoc X312 N299 ge283
  show own_G p e below (T312.setTop (mkF m 146 #[.val (.long q1), .second, .val (.long q2), .second, .val (.int p3), .val (.ref b230), .val (.ref b239), .val (.ref b255), .val (.ref b278), .unset, .unset] [])) _
  refine own_go (fun _ k => XS.aload X312.here hx rfl (hb hby at_146) rfl rfl k) ?_
  show own_G p e below (T312.setTop (mkF m 148 #[.val (.long q1), .second, .val (.long q2), .second, .val (.int p3), .val (.ref b230), .val (.ref b239), .val (.ref b255), .val (.ref b278), .unset, .unset] [(.ref b239)])) _
  refine own_go (fun _ k => XS.iload X312.here hx rfl (hb hby at_148) rfl k) ?_
  show own_G p e below (T312.setTop (mkF m 150 #[.val (.long q1), .second, .val (.long q2), .second, .val (.int p3), .val (.ref b230), .val (.ref b239), .val (.ref b255), .val (.ref b278), .unset, .unset] [(.int p3), (.ref b239)])) _
  obtain ⟨cq324, kq324, q324a, q324b, q324c⟩ := isOf hZ e312 f315
  obtain ⟨_, _, ⟨T324, L324, k324, n324⟩, -, X324, ⟨Lc324, hQ324, l324, y324, z324⟩, st324⟩ := X312.virtualBack hx (y := (⟨"com/example/bitfold/bitfold/ByteArrayWriter", "writeByte", "(I)V"⟩ : MethodName)) (z := (⟨"com/example/bitfold/bitfold/ByteArrayWriter", "writeByte", "(I)V"⟩ : MethodName)) hown (mvT hZ (hw _ (List.mem_of_getElem? (i := 63) rfl))) (mvT hZ (hw _ (List.mem_of_getElem? (i := 64) rfl))) (notFace_of_selects (args := #[]) (mvT hZ (hw _ (List.mem_of_getElem? (i := 66) rfl)))) (mvT hZ (hw _ (List.mem_of_getElem? (i := 66) rfl))) (mvT hZ (hw _ (List.mem_of_getElem? (i := 65) rfl))) (by decide) (backOf (W := 0) (rm11 l Z a0 hw [] b239 p3 b247 k247q (q1.toInt32.toInt8.toInt32) (own_b q1 (8 : Int32)) (own_b q1 (16 : Int32)) (own_b q1 (24 : Int32)) (own_b q1 (32 : Int32)) (own_b q1 (40 : Int32)) (own_b q1 (48 : Int32)) (own_b q1 (56 : Int32)) (q2.toInt32.toInt8.toInt32) (own_b q2 (8 : Int32)) (own_b q2 (16 : Int32)) (own_b q2 (24 : Int32)) (own_b q2 (32 : Int32)) (own_b q2 (40 : Int32)) (own_b q2 (48 : Int32)) (own_b q2 (56 : Int32)) h312 n0 zs323 f315 f319 f320 ge241 f321 f316) hZ (hw _ (List.mem_of_getElem? (i := 67) rfl)) (hw _ (List.mem_of_getElem? (i := 7) rfl)) (by decide) (by decide)) q324a q324c (g := (mkF m 150 #[.val (.long q1), .second, .val (.long q2), .second, .val (.int p3), .val (.ref b230), .val (.ref b239), .val (.ref b255), .val (.ref b278), .unset, .unset] [(.int p3), (.ref b239)])) rfl (by rw [hml]; rfl) (Steps.refl _) (argsL := [(.int p3)]) (rest := []) (lenOf pd_3 rfl) rfl (by show 2 * 0 + _ ≤ _; exact Nat.le_of_eq rfl) (hb hby at_150) (fun _ _ => ⟨rfl, e312, (by decide : 0 + 1 + 0 + 0 + 1 + 1 + 1 + 0 + 0 + 1 + 0 + 0 + 0 + 1 ≤ _), (by decide : 0 + 16 + 0 + 0 + 2 + 16 + 0 + 0 + 0 + 16 + 0 + 0 + 0 + 32 ≤ _)⟩)
  dsimp only [Pt.U, Pt.locs, Pt.cells, Pt.slots] at X324 l324 y324 z324 st324 hQ324
  rw [l324, y324, z324] at X324
  obtain ⟨b324, k324q, rfl, Nq324, K324, hsz324, Eo324, Fb324, Fs324, E324q, Vq324⟩ := hQ324
  have N324 := Fr.app N312 Nq324
  refine own_go (fun _ k => st324.trans k) ?_
  have ne325 : b230 ≠ b324 := Nat.ne_of_lt (Nat.lt_of_lt_of_le f313.lt hsz324)
  have ne326 : b239 ≠ b324 := Nat.ne_of_lt (Nat.lt_of_lt_of_le f315.lt hsz324)
  have ne327 : b247 ≠ b324 := Nat.ne_of_lt (Nat.lt_of_lt_of_le f316.lt hsz324)
  have ne328 : b255 ≠ b324 := Nat.ne_of_lt (Nat.lt_of_lt_of_le f317.lt hsz324)
  have ne329 : b278 ≠ b324 := Nat.ne_of_lt (Nat.lt_of_lt_of_le f322.lt hsz324)
  have ge330 : n0 ≤ b324 := Nat.le_trans zs323 hsz324
  have f331 := f313.keep K324
  have f332 := f314.keep K324 (ninS ne240 nin0)
  have f333 := f315.keep K324
  have f334 := f316.keep K324
  have f335 := f317.keep K324 (ninS (Ne.symm ne257) nin0)
  have f336 := f318.keep K324
  have f337 := f321.keep K324 (ninS (Ne.symm ne249) nin0)
  have f338 := f322.keep K324
  have f339 := V312.keep K324 (ninS (Ne.symm ne280) nin0)
  have zs340 : n0 ≤ T324.heap.size := Nat.le_trans zs323 K324.1
  show own_G p e below (T324.setTop (mkF m 153 #[.val (.long q1), .second, .val (.long q2), .second, .val (.int p3), .val (.ref b230), .val (.ref b239), .val (.ref b255), .val (.ref b278), .unset, .unset] [])) _
  refine own_go (fun _ k => XS.aload X324.here hx rfl (hb hby at_153) rfl rfl k) ?_
  show own_G p e below (T324.setTop (mkF m 155 #[.val (.long q1), .second, .val (.long q2), .second, .val (.int p3), .val (.ref b230), .val (.ref b239), .val (.ref b255), .val (.ref b278), .unset, .unset] [(.ref b239)])) _
  obtain ⟨cq341, kq341, q341a, q341b, q341c⟩ := isOf hZ rfl Eo324
  obtain ⟨_, _, ⟨T341, L341, k341, n341⟩, -, X341, ⟨Lc341, hQ341, l341, y341, z341⟩, st341⟩ := X324.virtualBack hx (y := (⟨"com/example/bitfold/bitfold/ByteArrayWriter", "toByteArray", "()[B"⟩ : MethodName)) (z := (⟨"com/example/bitfold/bitfold/ByteArrayWriter", "toByteArray", "()[B"⟩ : MethodName)) hown (mvT hZ (hw _ (List.mem_of_getElem? (i := 16) rfl))) (mvT hZ (hw _ (List.mem_of_getElem? (i := 17) rfl))) (notFace_of_selects (args := #[]) (mvT hZ (hw _ (List.mem_of_getElem? (i := 19) rfl)))) (mvT hZ (hw _ (List.mem_of_getElem? (i := 19) rfl))) (mvT hZ (hw _ (List.mem_of_getElem? (i := 18) rfl))) (by decide) (backOf (W := 0) (rm4 l Z a0 hw [] b239 b324 k324q (32 : Int32) (17 : Int32) [(.int (q1.toInt32.toInt8.toInt32)), (.int (own_b q1 (8 : Int32))), (.int (own_b q1 (16 : Int32))), (.int (own_b q1 (24 : Int32))), (.int (own_b q1 (32 : Int32))), (.int (own_b q1 (40 : Int32))), (.int (own_b q1 (48 : Int32))), (.int (own_b q1 (56 : Int32))), (.int (q2.toInt32.toInt8.toInt32)), (.int (own_b q2 (8 : Int32))), (.int (own_b q2 (16 : Int32))), (.int (own_b q2 (24 : Int32))), (.int (own_b q2 (32 : Int32))), (.int (own_b q2 (40 : Int32))), (.int (own_b q2 (48 : Int32))), (.int (own_b q2 (56 : Int32))), (.int (p3.toInt8.toInt32)), (.int (0 : Int32)), (.int (0 : Int32)), (.int (0 : Int32)), (.int (0 : Int32)), (.int (0 : Int32)), (.int (0 : Int32)), (.int (0 : Int32)), (.int (0 : Int32)), (.int (0 : Int32)), (.int (0 : Int32)), (.int (0 : Int32)), (.int (0 : Int32)), (.int (0 : Int32)), (.int (0 : Int32)), (.int (0 : Int32))] 17 T324.heap n0 zs340 Fb324 Fs324 Vq324 E324q (by decide) (by decide) (by decide) (Nat.le_of_ble_eq_true rfl)) hZ (hw _ (List.mem_of_getElem? (i := 20) rfl)) (hw _ (List.mem_of_getElem? (i := 7) rfl)) (by decide) (by decide)) q341a q341c (g := (mkF m 155 #[.val (.long q1), .second, .val (.long q2), .second, .val (.int p3), .val (.ref b230), .val (.ref b239), .val (.ref b255), .val (.ref b278), .unset, .unset] [(.ref b239)])) rfl (by rw [hml]; rfl) (Steps.refl _) (argsL := []) (rest := []) (lenOf pd_6 rfl) rfl (by show 2 * 0 + _ ≤ _; exact Nat.le_of_eq rfl) (hb hby at_155) (fun _ _ => ⟨rfl, rfl, (by decide : 0 + 1 + 0 + 0 + 1 + 1 + 1 + 0 + 0 + 1 + 0 + 0 + 0 + 1 + 1 ≤ _), (by decide : 0 + 16 + 0 + 0 + 2 + 16 + 0 + 0 + 0 + 16 + 0 + 0 + 0 + 32 + 17 ≤ _)⟩)
  dsimp only [Pt.U, Pt.locs, Pt.cells, Pt.slots] at X341 l341 y341 z341 st341 hQ341
  rw [l341, y341, z341] at X341
  obtain ⟨b341, k341q, rfl, Nq341, K341, hsz341, E341q, Vq341⟩ := hQ341
  have N341 := Fr.app N324 Nq341
  refine own_go (fun _ k => st341.trans k) ?_
  have ne342 : b230 ≠ b341 := Nat.ne_of_lt (Nat.lt_of_lt_of_le f331.lt hsz341)
  have ne343 : b239 ≠ b341 := Nat.ne_of_lt (Nat.lt_of_lt_of_le Eo324.lt hsz341)
  have ne344 : b247 ≠ b341 := Nat.ne_of_lt (Nat.lt_of_lt_of_le f334.lt hsz341)
  have ne345 : b255 ≠ b341 := Nat.ne_of_lt (Nat.lt_of_lt_of_le f335.lt hsz341)
  have ne346 : b278 ≠ b341 := Nat.ne_of_lt (Nat.lt_of_lt_of_le f338.lt hsz341)
  have ne347 : b324 ≠ b341 := Nat.ne_of_lt (Nat.lt_of_lt_of_le E324q.lt hsz341)
  have ge348 : n0 ≤ b341 := Nat.le_trans zs340 hsz341
  have f349 := f331.keep K341
  have f350 := f332.keep K341 nin0
  have f351 := Eo324.keep K341
  have f352 := f334.keep K341
  have f353 := f335.keep K341 nin0
  have f354 := f336.keep K341
  have f355 := f337.keep K341 nin0
  have f356 := f338.keep K341
  have f357 := f339.keep K341 nin0
  have f358 := Fb324.keep K341 nin0
  have f359 := Fs324.keep K341 nin0
  have f360 := E324q.keep K341
  have f361 := Vq324.keep K341 nin0
  have zs362 : n0 ≤ T341.heap.size := Nat.le_trans zs340 K341.1
  have V341 : Arv Z T341.heap b341 k341q .byte (17 : Int32) [(.int (q1.toInt32.toInt8.toInt32)), (.int (own_b q1 (8 : Int32))), (.int (own_b q1 (16 : Int32))), (.int (own_b q1 (24 : Int32))), (.int (own_b q1 (32 : Int32))), (.int (own_b q1 (40 : Int32))), (.int (own_b q1 (48 : Int32))), (.int (own_b q1 (56 : Int32))), (.int (q2.toInt32.toInt8.toInt32)), (.int (own_b q2 (8 : Int32))), (.int (own_b q2 (16 : Int32))), (.int (own_b q2 (24 : Int32))), (.int (own_b q2 (32 : Int32))), (.int (own_b q2 (40 : Int32))), (.int (own_b q2 (48 : Int32))), (.int (own_b q2 (56 : Int32))), (.int (p3.toInt8.toInt32))] (.int (0 : Int32)) := Vq341
  show own_G p e below (T341.setTop (mkF m 158 #[.val (.long q1), .second, .val (.long q2), .second, .val (.int p3), .val (.ref b230), .val (.ref b239), .val (.ref b255), .val (.ref b278), .unset, .unset] [(.ref b341)])) _
  refine own_go (fun _ k => XS.astore X341.here hx rfl (hb hby at_158) rfl rfl (l' := #[.val (.long q1), .second, .val (.long q2), .second, .val (.int p3), .val (.ref b230), .val (.ref b239), .val (.ref b255), .val (.ref b278), .val (.ref b341), .unset]) rfl k) ?_
  show own_G p e below (T341.setTop (mkF m 160 #[.val (.long q1), .second, .val (.long q2), .second, .val (.int p3), .val (.ref b230), .val (.ref b239), .val (.ref b255), .val (.ref b278), .val (.ref b341), .unset] [])) _
  refine own_go (fun _ k => XS.aload X341.here hx rfl (hb hby at_160) rfl rfl k) ?_
  show own_G p e below (T341.setTop (mkF m 162 #[.val (.long q1), .second, .val (.long q2), .second, .val (.int p3), .val (.ref b230), .val (.ref b239), .val (.ref b255), .val (.ref b278), .val (.ref b341), .unset] [(.ref b341)])) _
  refine own_go (fun _ k => XS.ifnullNo X341.here hx rfl (hb hby at_162) rfl k) ?_
  show own_G p e below (T341.setTop (mkF m 165 #[.val (.long q1), .second, .val (.long q2), .second, .val (.int p3), .val (.ref b230), .val (.ref b239), .val (.ref b255), .val (.ref b278), .val (.ref b341), .unset] [])) _
  refine own_go (fun _ k => XS.aload X341.here hx rfl (hb hby at_165) rfl rfl k) ?_
  show own_G p e below (T341.setTop (mkF m 167 #[.val (.long q1), .second, .val (.long q2), .second, .val (.int p3), .val (.ref b230), .val (.ref b239), .val (.ref b255), .val (.ref b278), .val (.ref b341), .unset] [(.ref b341)])) _
  refine own_go (fun _ k => XS.aload X341.here hx rfl (hb hby at_167) rfl rfl k) ?_
  show own_G p e below (T341.setTop (mkF m 169 #[.val (.long q1), .second, .val (.long q2), .second, .val (.int p3), .val (.ref b230), .val (.ref b239), .val (.ref b255), .val (.ref b278), .val (.ref b341), .unset] [(.ref b278), (.ref b341)])) _
  refine own_go (fun _ k => Jvm.RoadKit.acmp (g := (mkF m 169 #[.val (.long q1), .second, .val (.long q2), .second, .val (.int p3), .val (.ref b230), .val (.ref b239), .val (.ref b255), .val (.ref b278), .val (.ref b341), .unset] [(.ref b278), (.ref b341)])) X341 hx rfl rfl rfl (pc0 := 169) (pc' := 172) (same := false) rfl (hb hby at_169) rfl (decide_eq_false fun q => (Ne.symm ne346) (Value.ref.inj q)) (by decide) (by decide) k) ?_
  show own_G p e below (T341.setTop (mkF m 172 #[.val (.long q1), .second, .val (.long q2), .second, .val (.int p3), .val (.ref b230), .val (.ref b239), .val (.ref b255), .val (.ref b278), .val (.ref b341), .unset] [])) _
  refine own_go (fun _ k => XS.aload X341.here hx rfl (hb hby at_172) rfl rfl k) ?_
  show own_G p e below (T341.setTop (mkF m 174 #[.val (.long q1), .second, .val (.long q2), .second, .val (.int p3), .val (.ref b230), .val (.ref b239), .val (.ref b255), .val (.ref b278), .val (.ref b341), .unset] [(.ref b341)])) _
  obtain ⟨cl363, Ar363, q363, S363, M363, B363, G363⟩ := id V341
  refine own_go (X341.arraylength hx Ar363.1 (State.isArrayOf_alike hZ.alike Ar363.2.1) (g := (mkF m 174 #[.val (.long q1), .second, .val (.long q2), .second, .val (.int p3), .val (.ref b230), .val (.ref b239), .val (.ref b255), .val (.ref b278), .val (.ref b341), .unset] [(.ref b341)])) rfl rfl (hb hby at_174)) ?_
  rw [len_of S363 M363]
  show own_G p e below (T341.setTop (mkF m 175 #[.val (.long q1), .second, .val (.long q2), .second, .val (.int p3), .val (.ref b230), .val (.ref b239), .val (.ref b255), .val (.ref b278), .val (.ref b341), .unset] [(.int (17 : Int32))])) _
  refine own_go (fun _ k => XS.bipush X341.here hx rfl (hb hby at_175) k) ?_
  show own_G p e below (T341.setTop (mkF m 177 #[.val (.long q1), .second, .val (.long q2), .second, .val (.int p3), .val (.ref b230), .val (.ref b239), .val (.ref b255), .val (.ref b278), .val (.ref b341), .unset] [(.int (17 : Int32)), (.int (17 : Int32))])) _
  refine own_go (fun _ k => XS.icmpNo X341.here hx rfl (hb hby at_177) rfl (teq (by decide : (17 : Int32) = (17 : Int32))).2 k) ?_
  show own_G p e below (T341.setTop (mkF m 180 #[.val (.long q1), .second, .val (.long q2), .second, .val (.int p3), .val (.ref b230), .val (.ref b239), .val (.ref b255), .val (.ref b278), .val (.ref b341), .unset] [])) _
  refine own_go (fun _ k => XS.aload X341.here hx rfl (hb hby at_180) rfl rfl k) ?_
  show own_G p e below (T341.setTop (mkF m 182 #[.val (.long q1), .second, .val (.long q2), .second, .val (.int p3), .val (.ref b230), .val (.ref b239), .val (.ref b255), .val (.ref b278), .val (.ref b341), .unset] [(.ref b239)])) _
  obtain ⟨cq364, kq364, q364a, q364b, q364c⟩ := isOf hZ rfl f351
  obtain ⟨_, _, ⟨T364, L364, k364, n364⟩, -, X364, ⟨Lc364, hQ364, l364, y364, z364⟩, st364⟩ := X341.virtualBack hx (y := (⟨"com/example/bitfold/bitfold/ByteArrayWriter", "size", "()I"⟩ : MethodName)) (z := (⟨"com/example/bitfold/bitfold/ByteArrayWriter", "size", "()I"⟩ : MethodName)) hown (mvT hZ (hw _ (List.mem_of_getElem? (i := 35) rfl))) (mvT hZ (hw _ (List.mem_of_getElem? (i := 36) rfl))) (notFace_of_selects (args := #[]) (mvT hZ (hw _ (List.mem_of_getElem? (i := 38) rfl)))) (mvT hZ (hw _ (List.mem_of_getElem? (i := 38) rfl))) (mvT hZ (hw _ (List.mem_of_getElem? (i := 37) rfl))) (by decide) (backOf (W := 0) (rm7 l Z a0 hw [] b239 (17 : Int32) T341.heap n0 zs362 f359) hZ (hw _ (List.mem_of_getElem? (i := 39) rfl)) (hw _ (List.mem_of_getElem? (i := 7) rfl)) (by decide) (by decide)) q364a q364c (g := (mkF m 182 #[.val (.long q1), .second, .val (.long q2), .second, .val (.int p3), .val (.ref b230), .val (.ref b239), .val (.ref b255), .val (.ref b278), .val (.ref b341), .unset] [(.ref b239)])) rfl (by rw [hml]; rfl) (Steps.refl _) (argsL := []) (rest := []) (lenOf pd_7 rfl) rfl (by show 2 * 0 + _ ≤ _; exact Nat.le_of_eq rfl) (hb hby at_182) (fun _ _ => ⟨rfl, rfl, (by decide : 0 + 1 + 0 + 0 + 1 + 1 + 1 + 0 + 0 + 1 + 0 + 0 + 0 + 1 + 1 + 0 ≤ _), (by decide : 0 + 16 + 0 + 0 + 2 + 16 + 0 + 0 + 0 + 16 + 0 + 0 + 0 + 32 + 17 + 0 ≤ _)⟩)
  dsimp only [Pt.U, Pt.locs, Pt.cells, Pt.slots] at X364 l364 y364 z364 st364 hQ364
  rw [l364, y364, z364] at X364
  obtain ⟨rfl, Nq364, hh364⟩ := hQ364
  have N364 := Fr.app N341 Nq364
  refine own_go (fun _ k => st364.trans k) ?_
  have e364 : T364.heap = T341.heap := hh364
  show own_G p e below (T364.setTop (mkF m 185 #[.val (.long q1), .second, .val (.long q2), .second, .val (.int p3), .val (.ref b230), .val (.ref b239), .val (.ref b255), .val (.ref b278), .val (.ref b341), .unset] [(.int (17 : Int32))])) _
  refine own_go (fun _ k => XS.bipush X364.here hx rfl (hb hby at_185) k) ?_
  show own_G p e below (T364.setTop (mkF m 187 #[.val (.long q1), .second, .val (.long q2), .second, .val (.int p3), .val (.ref b230), .val (.ref b239), .val (.ref b255), .val (.ref b278), .val (.ref b341), .unset] [(.int (17 : Int32)), (.int (17 : Int32))])) _
  refine own_go (fun _ k => XS.icmpYes X364.here hx rfl (pc0 := 187) (pc' := 192) rfl (hb hby at_187) rfl (teq (by decide : (17 : Int32) = (17 : Int32))).1 (by decide) (by decide) k) ?_
  show own_G p e below (T364.setTop (mkF m 192 #[.val (.long q1), .second, .val (.long q2), .second, .val (.int p3), .val (.ref b230), .val (.ref b239), .val (.ref b255), .val (.ref b278), .val (.ref b341), .unset] [])) _
  refine own_go (fun _ k => XS.aload X364.here hx rfl (hb hby at_192) rfl rfl k) ?_
  show own_G p e below (T364.setTop (mkF m 194 #[.val (.long q1), .second, .val (.long q2), .second, .val (.int p3), .val (.ref b230), .val (.ref b239), .val (.ref b255), .val (.ref b278), .val (.ref b341), .unset] [(.ref b341)])) _
  refine own_go (fun _ k => XS.iconst X364.here hx rfl (hb hby at_194) k) ?_
  show own_G p e below (T364.setTop (mkF m 195 #[.val (.long q1), .second, .val (.long q2), .second, .val (.int p3), .val (.ref b230), .val (.ref b239), .val (.ref b255), .val (.ref b278), .val (.ref b341), .unset] [(.int (0 : Int32)), (.ref b341)])) _
  obtain ⟨_, _, ⟨T365, L365, k365, n365⟩, -, X365, ⟨Lc365, hQ365, l365, y365, z365⟩, st365⟩ := Jvm.LawKit.callS X364 hx (y := (⟨"com/example/bitfold/bitfold/ByteArrayWriterToByteArrayPinLaw", "le8", "([BI)J"⟩ : MethodName)) hown (mvT hZ (hw _ (List.mem_of_getElem? (i := 59) rfl))) (mvT hZ (hw _ (List.mem_of_getElem? (i := 60) rfl))) (mvT hZ (hw _ (List.mem_of_getElem? (i := 3) rfl))) (mvT hZ (hw _ (List.mem_of_getElem? (i := 61) rfl))) (by decide) (backOf (W := 0) (rm10_17_0 l Z a0 hw [] b341 k341q (q1.toInt32.toInt8.toInt32) (own_b q1 (8 : Int32)) (own_b q1 (16 : Int32)) (own_b q1 (24 : Int32)) (own_b q1 (32 : Int32)) (own_b q1 (40 : Int32)) (own_b q1 (48 : Int32)) (own_b q1 (56 : Int32)) (q2.toInt32.toInt8.toInt32) (own_b q2 (8 : Int32)) (own_b q2 (16 : Int32)) (own_b q2 (24 : Int32)) (own_b q2 (32 : Int32)) (own_b q2 (40 : Int32)) (own_b q2 (48 : Int32)) (own_b q2 (56 : Int32)) (p3.toInt8.toInt32) T341.heap n0 zs362 V341) hZ (hw _ (List.mem_of_getElem? (i := 61) rfl)) (hw _ (List.mem_of_getElem? (i := 3) rfl)) (by decide) (by decide)) (g := (mkF m 195 #[.val (.long q1), .second, .val (.long q2), .second, .val (.int p3), .val (.ref b230), .val (.ref b239), .val (.ref b255), .val (.ref b278), .val (.ref b341), .unset] [(.int (0 : Int32)), (.ref b341)])) rfl (by rw [hml]; rfl) (argsL := [(.ref b341), (.int (0 : Int32))]) (rest := []) (lenOf pd_9 rfl) rfl (by show 2 * 0 + _ ≤ _; exact Nat.le_of_eq rfl) (hb hby at_195) (fun _ _ => ⟨rfl, e364, (by decide : 0 + 1 + 0 + 0 + 1 + 1 + 1 + 0 + 0 + 1 + 0 + 0 + 0 + 1 + 1 + 0 + 0 ≤ _), (by decide : 0 + 16 + 0 + 0 + 2 + 16 + 0 + 0 + 0 + 16 + 0 + 0 + 0 + 32 + 17 + 0 + 0 ≤ _)⟩)
  dsimp only [Pt.U, Pt.locs, Pt.cells, Pt.slots] at X365 l365 y365 z365 st365 hQ365
  rw [l365, y365, z365] at X365
  obtain ⟨rfl, Nq365, hh365⟩ := hQ365
  have N365 := Fr.app N364 Nq365
  refine own_go st365 ?_
  have e365 : T365.heap = T341.heap := hh365
  show own_G p e below (T365.setTop (mkF m 198 #[.val (.long q1), .second, .val (.long q2), .second, .val (.int p3), .val (.ref b230), .val (.ref b239), .val (.ref b255), .val (.ref b278), .val (.ref b341), .unset] [(.long (own_le8 (q1.toInt32.toInt8.toInt32) (own_b q1 (8 : Int32)) (own_b q1 (16 : Int32)) (own_b q1 (24 : Int32)) (own_b q1 (32 : Int32)) (own_b q1 (40 : Int32)) (own_b q1 (48 : Int32)) (own_b q1 (56 : Int32))))])) _
  refine own_go (fun _ k => XS.lloadN X365.here hx rfl (hb hby at_198) rfl k) ?_
  show own_G p e below (T365.setTop (mkF m 199 #[.val (.long q1), .second, .val (.long q2), .second, .val (.int p3), .val (.ref b230), .val (.ref b239), .val (.ref b255), .val (.ref b278), .val (.ref b341), .unset] [(.long q1), (.long (own_le8 (q1.toInt32.toInt8.toInt32) (own_b q1 (8 : Int32)) (own_b q1 (16 : Int32)) (own_b q1 (24 : Int32)) (own_b q1 (32 : Int32)) (own_b q1 (40 : Int32)) (own_b q1 (48 : Int32)) (own_b q1 (56 : Int32))))])) _
  refine own_go (fun _ k => XS.lcmp X365.here hx rfl (hb hby at_199) rfl k) ?_
  show own_G p e below (T365.setTop (mkF m 200 #[.val (.long q1), .second, .val (.long q2), .second, .val (.int p3), .val (.ref b230), .val (.ref b239), .val (.ref b255), .val (.ref b278), .val (.ref b341), .unset] [(.int (lcmpW (own_le8 (q1.toInt32.toInt8.toInt32) (own_b q1 (8 : Int32)) (own_b q1 (16 : Int32)) (own_b q1 (24 : Int32)) (own_b q1 (32 : Int32)) (own_b q1 (40 : Int32)) (own_b q1 (48 : Int32)) (own_b q1 (56 : Int32))) q1))])) _
  refine own_go (fun _ k => XS.ifNo X365.here hx rfl (hb hby at_200) rfl ((if0 _ _).trans (teq ((lw_eq _ _).mpr (own_le q1))).2) k) ?_
  show own_G p e below (T365.setTop (mkF m 203 #[.val (.long q1), .second, .val (.long q2), .second, .val (.int p3), .val (.ref b230), .val (.ref b239), .val (.ref b255), .val (.ref b278), .val (.ref b341), .unset] [])) _
  refine own_go (fun _ k => XS.aload X365.here hx rfl (hb hby at_203) rfl rfl k) ?_
  show own_G p e below (T365.setTop (mkF m 205 #[.val (.long q1), .second, .val (.long q2), .second, .val (.int p3), .val (.ref b230), .val (.ref b239), .val (.ref b255), .val (.ref b278), .val (.ref b341), .unset] [(.ref b341)])) _
  refine own_go (fun _ k => XS.bipush X365.here hx rfl (hb hby at_205) k) ?_
  show own_G p e below (T365.setTop (mkF m 207 #[.val (.long q1), .second, .val (.long q2), .second, .val (.int p3), .val (.ref b230), .val (.ref b239), .val (.ref b255), .val (.ref b278), .val (.ref b341), .unset] [(.int (8 : Int32)), (.ref b341)])) _
  obtain ⟨_, _, ⟨T366, L366, k366, n366⟩, -, X366, ⟨Lc366, hQ366, l366, y366, z366⟩, st366⟩ := Jvm.LawKit.callS X365 hx (y := (⟨"com/example/bitfold/bitfold/ByteArrayWriterToByteArrayPinLaw", "le8", "([BI)J"⟩ : MethodName)) hown (mvT hZ (hw _ (List.mem_of_getElem? (i := 59) rfl))) (mvT hZ (hw _ (List.mem_of_getElem? (i := 60) rfl))) (mvT hZ (hw _ (List.mem_of_getElem? (i := 3) rfl))) (mvT hZ (hw _ (List.mem_of_getElem? (i := 61) rfl))) (by decide) (backOf (W := 0) (rm10_17_8 l Z a0 hw [] b341 k341q (q1.toInt32.toInt8.toInt32) (own_b q1 (8 : Int32)) (own_b q1 (16 : Int32)) (own_b q1 (24 : Int32)) (own_b q1 (32 : Int32)) (own_b q1 (40 : Int32)) (own_b q1 (48 : Int32)) (own_b q1 (56 : Int32)) (q2.toInt32.toInt8.toInt32) (own_b q2 (8 : Int32)) (own_b q2 (16 : Int32)) (own_b q2 (24 : Int32)) (own_b q2 (32 : Int32)) (own_b q2 (40 : Int32)) (own_b q2 (48 : Int32)) (own_b q2 (56 : Int32)) (p3.toInt8.toInt32) T341.heap n0 zs362 V341) hZ (hw _ (List.mem_of_getElem? (i := 61) rfl)) (hw _ (List.mem_of_getElem? (i := 3) rfl)) (by decide) (by decide)) (g := (mkF m 207 #[.val (.long q1), .second, .val (.long q2), .second, .val (.int p3), .val (.ref b230), .val (.ref b239), .val (.ref b255), .val (.ref b278), .val (.ref b341), .unset] [(.int (8 : Int32)), (.ref b341)])) rfl (by rw [hml]; rfl) (argsL := [(.ref b341), (.int (8 : Int32))]) (rest := []) (lenOf pd_9 rfl) rfl (by show 2 * 0 + _ ≤ _; exact Nat.le_of_eq rfl) (hb hby at_207) (fun _ _ => ⟨rfl, e365, (by decide : 0 + 1 + 0 + 0 + 1 + 1 + 1 + 0 + 0 + 1 + 0 + 0 + 0 + 1 + 1 + 0 + 0 + 0 ≤ _), (by decide : 0 + 16 + 0 + 0 + 2 + 16 + 0 + 0 + 0 + 16 + 0 + 0 + 0 + 32 + 17 + 0 + 0 + 0 ≤ _)⟩)
  dsimp only [Pt.U, Pt.locs, Pt.cells, Pt.slots] at X366 l366 y366 z366 st366 hQ366
  rw [l366, y366, z366] at X366
  obtain ⟨rfl, Nq366, hh366⟩ := hQ366
  have N366 := Fr.app N365 Nq366
  refine own_go st366 ?_
  have e366 : T366.heap = T341.heap := hh366
  show own_G p e below (T366.setTop (mkF m 210 #[.val (.long q1), .second, .val (.long q2), .second, .val (.int p3), .val (.ref b230), .val (.ref b239), .val (.ref b255), .val (.ref b278), .val (.ref b341), .unset] [(.long (own_le8 (q2.toInt32.toInt8.toInt32) (own_b q2 (8 : Int32)) (own_b q2 (16 : Int32)) (own_b q2 (24 : Int32)) (own_b q2 (32 : Int32)) (own_b q2 (40 : Int32)) (own_b q2 (48 : Int32)) (own_b q2 (56 : Int32))))])) _
  refine own_go (fun _ k => XS.lloadN X366.here hx rfl (hb hby at_210) rfl k) ?_
  show own_G p e below (T366.setTop (mkF m 211 #[.val (.long q1), .second, .val (.long q2), .second, .val (.int p3), .val (.ref b230), .val (.ref b239), .val (.ref b255), .val (.ref b278), .val (.ref b341), .unset] [(.long q2), (.long (own_le8 (q2.toInt32.toInt8.toInt32) (own_b q2 (8 : Int32)) (own_b q2 (16 : Int32)) (own_b q2 (24 : Int32)) (own_b q2 (32 : Int32)) (own_b q2 (40 : Int32)) (own_b q2 (48 : Int32)) (own_b q2 (56 : Int32))))])) _
  refine own_go (fun _ k => XS.lcmp X366.here hx rfl (hb hby at_211) rfl k) ?_
  show own_G p e below (T366.setTop (mkF m 212 #[.val (.long q1), .second, .val (.long q2), .second, .val (.int p3), .val (.ref b230), .val (.ref b239), .val (.ref b255), .val (.ref b278), .val (.ref b341), .unset] [(.int (lcmpW (own_le8 (q2.toInt32.toInt8.toInt32) (own_b q2 (8 : Int32)) (own_b q2 (16 : Int32)) (own_b q2 (24 : Int32)) (own_b q2 (32 : Int32)) (own_b q2 (40 : Int32)) (own_b q2 (48 : Int32)) (own_b q2 (56 : Int32))) q2))])) _
  refine own_go (fun _ k => XS.ifNo X366.here hx rfl (hb hby at_212) rfl ((if0 _ _).trans (teq ((lw_eq _ _).mpr (own_le q2))).2) k) ?_
  show own_G p e below (T366.setTop (mkF m 215 #[.val (.long q1), .second, .val (.long q2), .second, .val (.int p3), .val (.ref b230), .val (.ref b239), .val (.ref b255), .val (.ref b278), .val (.ref b341), .unset] [])) _
  refine own_go (fun _ k => XS.aload X366.here hx rfl (hb hby at_215) rfl rfl k) ?_
  show own_G p e below (T366.setTop (mkF m 217 #[.val (.long q1), .second, .val (.long q2), .second, .val (.int p3), .val (.ref b230), .val (.ref b239), .val (.ref b255), .val (.ref b278), .val (.ref b341), .unset] [(.ref b341)])) _
  refine own_go (fun _ k => XS.bipush X366.here hx rfl (hb hby at_217) k) ?_
  show own_G p e below (T366.setTop (mkF m 219 #[.val (.long q1), .second, .val (.long q2), .second, .val (.int p3), .val (.ref b230), .val (.ref b239), .val (.ref b255), .val (.ref b278), .val (.ref b341), .unset] [(.int (16 : Int32)), (.ref b341)])) _
  obtain ⟨cl367, Ar367, q367, S367, M367, B367, G367⟩ := id V341
  have hin367 : ¬ ((16 : Int32) < 0 ∨ cl367.slots.size ≤ ((16 : Int32)).toNatClampNeg) := inb_of S367 ⟨by decide, by decide⟩
  have hat367 : cl367.slots[((16 : Int32)).toNatClampNeg]? = some (.int (p3.toInt8.toInt32)) := B367.at hin367 rfl
  refine own_go (X366.baloadBytes hx (j := (16 : Int32)) (v := (.int (p3.toInt8.toInt32))) (by rw [e366]; exact Ar367.1) (State.isArrayOf_alike hZ.alike Ar367.2.1) Ar367.2.2 hin367 hat367 (g := (mkF m 219 #[.val (.long q1), .second, .val (.long q2), .second, .val (.int p3), .val (.ref b230), .val (.ref b239), .val (.ref b255), .val (.ref b278), .val (.ref b341), .unset] [(.int (16 : Int32)), (.ref b341)])) rfl rfl (hb hby at_219)) ?_
  show own_G p e below (T366.setTop (mkF m 220 #[.val (.long q1), .second, .val (.long q2), .second, .val (.int p3), .val (.ref b230), .val (.ref b239), .val (.ref b255), .val (.ref b278), .val (.ref b341), .unset] [(.int (p3.toInt8.toInt32))])) _
  refine own_go (fun _ k => XS.iload X366.here hx rfl (hb hby at_220) rfl k) ?_
  show own_G p e below (T366.setTop (mkF m 222 #[.val (.long q1), .second, .val (.long q2), .second, .val (.int p3), .val (.ref b230), .val (.ref b239), .val (.ref b255), .val (.ref b278), .val (.ref b341), .unset] [(.int p3), (.int (p3.toInt8.toInt32))])) _
  refine own_go (fun _ k => XS.i2b X366.here hx rfl (hb hby at_222) rfl k) ?_
  show own_G p e below (T366.setTop (mkF m 223 #[.val (.long q1), .second, .val (.long q2), .second, .val (.int p3), .val (.ref b230), .val (.ref b239), .val (.ref b255), .val (.ref b278), .val (.ref b341), .unset] [(.int (p3.toInt8.toInt32)), (.int (p3.toInt8.toInt32))])) _
  refine own_go (fun _ k => XS.icmpYes X366.here hx rfl (pc0 := 223) (pc' := 228) rfl (hb hby at_223) rfl (teq (rfl : (p3.toInt8.toInt32) = (p3.toInt8.toInt32))).1 (by decide) (by decide) k) ?_
  show own_G p e below (T366.setTop (mkF m 228 #[.val (.long q1), .second, .val (.long q2), .second, .val (.int p3), .val (.ref b230), .val (.ref b239), .val (.ref b255), .val (.ref b278), .val (.ref b341), .unset] [])) _
  refine own_go (fun _ k => XS.aload X366.here hx rfl (hb hby at_228) rfl rfl k) ?_
  show own_G p e below (T366.setTop (mkF m 230 #[.val (.long q1), .second, .val (.long q2), .second, .val (.int p3), .val (.ref b230), .val (.ref b239), .val (.ref b255), .val (.ref b278), .val (.ref b341), .unset] [(.ref b341)])) _
  refine own_go (fun _ k => XS.bipush X366.here hx rfl (hb hby at_230) k) ?_
  show own_G p e below (T366.setTop (mkF m 232 #[.val (.long q1), .second, .val (.long q2), .second, .val (.int p3), .val (.ref b230), .val (.ref b239), .val (.ref b255), .val (.ref b278), .val (.ref b341), .unset] [(.int (16 : Int32)), (.ref b341)])) _
  refine own_go (fun _ k => XS.aload X366.here hx rfl (hb hby at_232) rfl rfl k) ?_
  show own_G p e below (T366.setTop (mkF m 234 #[.val (.long q1), .second, .val (.long q2), .second, .val (.int p3), .val (.ref b230), .val (.ref b239), .val (.ref b255), .val (.ref b278), .val (.ref b341), .unset] [(.ref b341), (.int (16 : Int32)), (.ref b341)])) _
  refine own_go (fun _ k => XS.bipush X366.here hx rfl (hb hby at_234) k) ?_
  show own_G p e below (T366.setTop (mkF m 236 #[.val (.long q1), .second, .val (.long q2), .second, .val (.int p3), .val (.ref b230), .val (.ref b239), .val (.ref b255), .val (.ref b278), .val (.ref b341), .unset] [(.int (16 : Int32)), (.ref b341), (.int (16 : Int32)), (.ref b341)])) _
  obtain ⟨cl368, Ar368, q368, S368, M368, B368, G368⟩ := id V341
  have hin368 : ¬ ((16 : Int32) < 0 ∨ cl368.slots.size ≤ ((16 : Int32)).toNatClampNeg) := inb_of S368 ⟨by decide, by decide⟩
  have hat368 : cl368.slots[((16 : Int32)).toNatClampNeg]? = some (.int (p3.toInt8.toInt32)) := B368.at hin368 rfl
  refine own_go (X366.baloadBytes hx (j := (16 : Int32)) (v := (.int (p3.toInt8.toInt32))) (by rw [e366]; exact Ar368.1) (State.isArrayOf_alike hZ.alike Ar368.2.1) Ar368.2.2 hin368 hat368 (g := (mkF m 236 #[.val (.long q1), .second, .val (.long q2), .second, .val (.int p3), .val (.ref b230), .val (.ref b239), .val (.ref b255), .val (.ref b278), .val (.ref b341), .unset] [(.int (16 : Int32)), (.ref b341), (.int (16 : Int32)), (.ref b341)])) rfl rfl (hb hby at_236)) ?_
  show own_G p e below (T366.setTop (mkF m 237 #[.val (.long q1), .second, .val (.long q2), .second, .val (.int p3), .val (.ref b230), .val (.ref b239), .val (.ref b255), .val (.ref b278), .val (.ref b341), .unset] [(.int (p3.toInt8.toInt32)), (.int (16 : Int32)), (.ref b341)])) _
  refine own_go (fun _ k => XS.iconst X366.here hx rfl (hb hby at_237) k) ?_
  show own_G p e below (T366.setTop (mkF m 238 #[.val (.long q1), .second, .val (.long q2), .second, .val (.int p3), .val (.ref b230), .val (.ref b239), .val (.ref b255), .val (.ref b278), .val (.ref b341), .unset] [(.int (1 : Int32)), (.int (p3.toInt8.toInt32)), (.int (16 : Int32)), (.ref b341)])) _
  refine own_go (fun _ k => XS.ixor X366.here hx rfl (hb hby at_238) rfl k) ?_
  show own_G p e below (T366.setTop (mkF m 239 #[.val (.long q1), .second, .val (.long q2), .second, .val (.int p3), .val (.ref b230), .val (.ref b239), .val (.ref b255), .val (.ref b278), .val (.ref b341), .unset] [(.int ((p3.toInt8.toInt32) ^^^ (1 : Int32))), (.int (16 : Int32)), (.ref b341)])) _
  refine own_go (fun _ k => XS.i2b X366.here hx rfl (hb hby at_239) rfl k) ?_
  show own_G p e below (T366.setTop (mkF m 240 #[.val (.long q1), .second, .val (.long q2), .second, .val (.int p3), .val (.ref b230), .val (.ref b239), .val (.ref b255), .val (.ref b278), .val (.ref b341), .unset] [(.int (((p3.toInt8.toInt32) ^^^ (1 : Int32)).toInt8.toInt32)), (.int (16 : Int32)), (.ref b341)])) _
  obtain ⟨cl369, Ar369, q369, S369, M369, B369, G369⟩ := id V341
  have hin369 : ¬ ((16 : Int32) < 0 ∨ cl369.slots.size ≤ ((16 : Int32)).toNatClampNeg) := inb_of S369 ⟨by decide, by decide⟩
  obtain ⟨T369, h369, X369, e369, W369, st369⟩ := stB X366 hx hZ e366 Ar369 (j := (16 : Int32)) hin369 (g := (mkF m 240 #[.val (.long q1), .second, .val (.long q2), .second, .val (.int p3), .val (.ref b230), .val (.ref b239), .val (.ref b255), .val (.ref b278), .val (.ref b341), .unset] [(.int (((p3.toInt8.toInt32) ^^^ (1 : Int32)).toInt8.toInt32)), (.int (16 : Int32)), (.ref b341)])) rfl rfl (hb hby at_240)
  refine own_go st369 ?_
  rw [show nar .byte (((p3.toInt8.toInt32) ^^^ (1 : Int32)).toInt8.toInt32) = (((p3.toInt8.toInt32) ^^^ (1 : Int32)).toInt8.toInt32) from (own_bb _)] at W369
  have f370 := f349.wr W369
  have f371 := f350.other W369 ne342
  have f372 := f351.wr W369
  have f373 := f352.wr W369
  have f374 := f353.other W369 ne345
  have f375 := f354.wr W369
  have f376 := f355.other W369 ne344
  have f377 := f356.wr W369
  have f378 := f357.other W369 ne346
  have f379 := f358.other W369 (Or.inl ne343)
  have f380 := f359.other W369 (Or.inl ne343)
  have f381 := f360.wr W369
  have f382 := f361.other W369 ne347
  have f383 := E341q.wr W369
  have zs384 : n0 ≤ h369.size := Nat.le_trans zs362 (Keep.of_wr W369).1
  have V369 : Arv Z h369 b341 k341q .byte (17 : Int32) [(.int (q1.toInt32.toInt8.toInt32)), (.int (own_b q1 (8 : Int32))), (.int (own_b q1 (16 : Int32))), (.int (own_b q1 (24 : Int32))), (.int (own_b q1 (32 : Int32))), (.int (own_b q1 (40 : Int32))), (.int (own_b q1 (48 : Int32))), (.int (own_b q1 (56 : Int32))), (.int (q2.toInt32.toInt8.toInt32)), (.int (own_b q2 (8 : Int32))), (.int (own_b q2 (16 : Int32))), (.int (own_b q2 (24 : Int32))), (.int (own_b q2 (32 : Int32))), (.int (own_b q2 (40 : Int32))), (.int (own_b q2 (48 : Int32))), (.int (own_b q2 (56 : Int32))), (.int (((p3.toInt8.toInt32) ^^^ (1 : Int32)).toInt8.toInt32))] (.int (0 : Int32)) := Arv.set Ar369 q369 S369 M369 B369 G369 (fits_nar_byte _) W369 16 rfl (Nat.le_of_ble_eq_true rfl)
  have N369 := Fr.snoc X369 N366 ge348
  show own_G p e below (T369.setTop (mkF m 241 #[.val (.long q1), .second, .val (.long q2), .second, .val (.int p3), .val (.ref b230), .val (.ref b239), .val (.ref b255), .val (.ref b278), .val (.ref b341), .unset] [])) _
  refine own_go (fun _ k => XS.aload X369.here hx rfl (hb hby at_241) rfl rfl k) ?_
  show own_G p e below (T369.setTop (mkF m 243 #[.val (.long q1), .second, .val (.long q2), .second, .val (.int p3), .val (.ref b230), .val (.ref b239), .val (.ref b255), .val (.ref b278), .val (.ref b341), .unset] [(.ref b341)])) _
  refine own_go (fun _ k => XS.iconst X369.here hx rfl (hb hby at_243) k) ?_
  show own_G p e below (T369.setTop (mkF m 244 #[.val (.long q1), .second, .val (.long q2), .second, .val (.int p3), .val (.ref b230), .val (.ref b239), .val (.ref b255), .val (.ref b278), .val (.ref b341), .unset] [(.int (3 : Int32)), (.ref b341)])) _
  refine own_go (fun _ k => XS.aload X369.here hx rfl (hb hby at_244) rfl rfl k) ?_
  show own_G p e below (T369.setTop (mkF m 246 #[.val (.long q1), .second, .val (.long q2), .second, .val (.int p3), .val (.ref b230), .val (.ref b239), .val (.ref b255), .val (.ref b278), .val (.ref b341), .unset] [(.ref b341), (.int (3 : Int32)), (.ref b341)])) _
  refine own_go (fun _ k => XS.iconst X369.here hx rfl (hb hby at_246) k) ?_
  show own_G p e below (T369.setTop (mkF m 247 #[.val (.long q1), .second, .val (.long q2), .second, .val (.int p3), .val (.ref b230), .val (.ref b239), .val (.ref b255), .val (.ref b278), .val (.ref b341), .unset] [(.int (3 : Int32)), (.ref b341), (.int (3 : Int32)), (.ref b341)])) _
  obtain ⟨cl385, Ar385, q385, S385, M385, B385, G385⟩ := id V369
  have hin385 : ¬ ((3 : Int32) < 0 ∨ cl385.slots.size ≤ ((3 : Int32)).toNatClampNeg) := inb_of S385 ⟨by decide, by decide⟩
  have hat385 : cl385.slots[((3 : Int32)).toNatClampNeg]? = some (.int (own_b q1 (24 : Int32))) := B385.at hin385 rfl
  refine own_go (X369.baloadBytes hx (j := (3 : Int32)) (v := (.int (own_b q1 (24 : Int32)))) (by rw [e369]; exact Ar385.1) (State.isArrayOf_alike hZ.alike Ar385.2.1) Ar385.2.2 hin385 hat385 (g := (mkF m 247 #[.val (.long q1), .second, .val (.long q2), .second, .val (.int p3), .val (.ref b230), .val (.ref b239), .val (.ref b255), .val (.ref b278), .val (.ref b341), .unset] [(.int (3 : Int32)), (.ref b341), (.int (3 : Int32)), (.ref b341)])) rfl rfl (hb hby at_247)) ?_
  show own_G p e below (T369.setTop (mkF m 248 #[.val (.long q1), .second, .val (.long q2), .second, .val (.int p3), .val (.ref b230), .val (.ref b239), .val (.ref b255), .val (.ref b278), .val (.ref b341), .unset] [(.int (own_b q1 (24 : Int32))), (.int (3 : Int32)), (.ref b341)])) _
  refine own_go (fun _ k => XS.iconst X369.here hx rfl (hb hby at_248) k) ?_
  show own_G p e below (T369.setTop (mkF m 249 #[.val (.long q1), .second, .val (.long q2), .second, .val (.int p3), .val (.ref b230), .val (.ref b239), .val (.ref b255), .val (.ref b278), .val (.ref b341), .unset] [(.int (1 : Int32)), (.int (own_b q1 (24 : Int32))), (.int (3 : Int32)), (.ref b341)])) _
  refine own_go (fun _ k => XS.ixor X369.here hx rfl (hb hby at_249) rfl k) ?_
  show own_G p e below (T369.setTop (mkF m 250 #[.val (.long q1), .second, .val (.long q2), .second, .val (.int p3), .val (.ref b230), .val (.ref b239), .val (.ref b255), .val (.ref b278), .val (.ref b341), .unset] [(.int ((own_b q1 (24 : Int32)) ^^^ (1 : Int32))), (.int (3 : Int32)), (.ref b341)])) _
  refine own_go (fun _ k => XS.i2b X369.here hx rfl (hb hby at_250) rfl k) ?_
  show own_G p e below (T369.setTop (mkF m 251 #[.val (.long q1), .second, .val (.long q2), .second, .val (.int p3), .val (.ref b230), .val (.ref b239), .val (.ref b255), .val (.ref b278), .val (.ref b341), .unset] [(.int (((own_b q1 (24 : Int32)) ^^^ (1 : Int32)).toInt8.toInt32)), (.int (3 : Int32)), (.ref b341)])) _
  obtain ⟨cl386, Ar386, q386, S386, M386, B386, G386⟩ := id V369
  have hin386 : ¬ ((3 : Int32) < 0 ∨ cl386.slots.size ≤ ((3 : Int32)).toNatClampNeg) := inb_of S386 ⟨by decide, by decide⟩
  obtain ⟨T386, h386, X386, e386, W386, st386⟩ := stB X369 hx hZ e369 Ar386 (j := (3 : Int32)) hin386 (g := (mkF m 251 #[.val (.long q1), .second, .val (.long q2), .second, .val (.int p3), .val (.ref b230), .val (.ref b239), .val (.ref b255), .val (.ref b278), .val (.ref b341), .unset] [(.int (((own_b q1 (24 : Int32)) ^^^ (1 : Int32)).toInt8.toInt32)), (.int (3 : Int32)), (.ref b341)])) rfl rfl (hb hby at_251)
  refine own_go st386 ?_
  rw [show nar .byte (((own_b q1 (24 : Int32)) ^^^ (1 : Int32)).toInt8.toInt32) = (((own_b q1 (24 : Int32)) ^^^ (1 : Int32)).toInt8.toInt32) from (own_bb _)] at W386
  have f387 := f370.wr W386
  have f388 := f371.other W386 ne342
  have f389 := f372.wr W386
  have f390 := f373.wr W386
  have f391 := f374.other W386 ne345
  have f392 := f375.wr W386
  have f393 := f376.other W386 ne344
  have f394 := f377.wr W386
  have f395 := f378.other W386 ne346
  have f396 := f379.other W386 (Or.inl ne343)
  have f397 := f380.other W386 (Or.inl ne343)
  have f398 := f381.wr W386
  have f399 := f382.other W386 ne347
  have f400 := f383.wr W386
  have zs401 : n0 ≤ h386.size := Nat.le_trans zs384 (Keep.of_wr W386).1
  have V386 : Arv Z h386 b341 k341q .byte (17 : Int32) [(.int (q1.toInt32.toInt8.toInt32)), (.int (own_b q1 (8 : Int32))), (.int (own_b q1 (16 : Int32))), (.int (((own_b q1 (24 : Int32)) ^^^ (1 : Int32)).toInt8.toInt32)), (.int (own_b q1 (32 : Int32))), (.int (own_b q1 (40 : Int32))), (.int (own_b q1 (48 : Int32))), (.int (own_b q1 (56 : Int32))), (.int (q2.toInt32.toInt8.toInt32)), (.int (own_b q2 (8 : Int32))), (.int (own_b q2 (16 : Int32))), (.int (own_b q2 (24 : Int32))), (.int (own_b q2 (32 : Int32))), (.int (own_b q2 (40 : Int32))), (.int (own_b q2 (48 : Int32))), (.int (own_b q2 (56 : Int32))), (.int (((p3.toInt8.toInt32) ^^^ (1 : Int32)).toInt8.toInt32))] (.int (0 : Int32)) := Arv.set Ar386 q386 S386 M386 B386 G386 (fits_nar_byte _) W386 3 rfl (Nat.le_of_ble_eq_true rfl)
  have N386 := Fr.snoc X386 N369 ge348
  show own_G p e below (T386.setTop (mkF m 252 #[.val (.long q1), .second, .val (.long q2), .second, .val (.int p3), .val (.ref b230), .val (.ref b239), .val (.ref b255), .val (.ref b278), .val (.ref b341), .unset] [])) _
  refine own_go (fun _ k => XS.aload X386.here hx rfl (hb hby at_252) rfl rfl k) ?_
  show own_G p e below (T386.setTop (mkF m 254 #[.val (.long q1), .second, .val (.long q2), .second, .val (.int p3), .val (.ref b230), .val (.ref b239), .val (.ref b255), .val (.ref b278), .val (.ref b341), .unset] [(.ref b239)])) _
  obtain ⟨cq402, kq402, q402a, q402b, q402c⟩ := isOf hZ e386 f389
  obtain ⟨_, _, ⟨T402, L402, k402, n402⟩, -, X402, ⟨Lc402, hQ402, l402, y402, z402⟩, st402⟩ := X386.virtualBack hx (y := (⟨"com/example/bitfold/bitfold/ByteArrayWriter", "toByteArray", "()[B"⟩ : MethodName)) (z := (⟨"com/example/bitfold/bitfold/ByteArrayWriter", "toByteArray", "()[B"⟩ : MethodName)) hown (mvT hZ (hw _ (List.mem_of_getElem? (i := 16) rfl))) (mvT hZ (hw _ (List.mem_of_getElem? (i := 17) rfl))) (notFace_of_selects (args := #[]) (mvT hZ (hw _ (List.mem_of_getElem? (i := 19) rfl)))) (mvT hZ (hw _ (List.mem_of_getElem? (i := 19) rfl))) (mvT hZ (hw _ (List.mem_of_getElem? (i := 18) rfl))) (by decide) (backOf (W := 0) (rm4 l Z a0 hw [] b239 b324 k324q (32 : Int32) (17 : Int32) [(.int (q1.toInt32.toInt8.toInt32)), (.int (own_b q1 (8 : Int32))), (.int (own_b q1 (16 : Int32))), (.int (own_b q1 (24 : Int32))), (.int (own_b q1 (32 : Int32))), (.int (own_b q1 (40 : Int32))), (.int (own_b q1 (48 : Int32))), (.int (own_b q1 (56 : Int32))), (.int (q2.toInt32.toInt8.toInt32)), (.int (own_b q2 (8 : Int32))), (.int (own_b q2 (16 : Int32))), (.int (own_b q2 (24 : Int32))), (.int (own_b q2 (32 : Int32))), (.int (own_b q2 (40 : Int32))), (.int (own_b q2 (48 : Int32))), (.int (own_b q2 (56 : Int32))), (.int (p3.toInt8.toInt32)), (.int (0 : Int32)), (.int (0 : Int32)), (.int (0 : Int32)), (.int (0 : Int32)), (.int (0 : Int32)), (.int (0 : Int32)), (.int (0 : Int32)), (.int (0 : Int32)), (.int (0 : Int32)), (.int (0 : Int32)), (.int (0 : Int32)), (.int (0 : Int32)), (.int (0 : Int32)), (.int (0 : Int32)), (.int (0 : Int32))] 17 h386 n0 zs401 f396 f397 f399 f398 (by decide) (by decide) (by decide) (Nat.le_of_ble_eq_true rfl)) hZ (hw _ (List.mem_of_getElem? (i := 20) rfl)) (hw _ (List.mem_of_getElem? (i := 7) rfl)) (by decide) (by decide)) q402a q402c (g := (mkF m 254 #[.val (.long q1), .second, .val (.long q2), .second, .val (.int p3), .val (.ref b230), .val (.ref b239), .val (.ref b255), .val (.ref b278), .val (.ref b341), .unset] [(.ref b239)])) rfl (by rw [hml]; rfl) (Steps.refl _) (argsL := []) (rest := []) (lenOf pd_6 rfl) rfl (by show 2 * 0 + _ ≤ _; exact Nat.le_of_eq rfl) (hb hby at_254) (fun _ _ => ⟨rfl, e386, (by decide : 0 + 1 + 0 + 0 + 1 + 1 + 1 + 0 + 0 + 1 + 0 + 0 + 0 + 1 + 1 + 0 + 0 + 0 + 1 ≤ _), (by decide : 0 + 16 + 0 + 0 + 2 + 16 + 0 + 0 + 0 + 16 + 0 + 0 + 0 + 32 + 17 + 0 + 0 + 0 + 17 ≤ _)⟩)
  dsimp only [Pt.U, Pt.locs, Pt.cells, Pt.slots] at X402 l402 y402 z402 st402 hQ402
  rw [l402, y402, z402] at X402
  obtain ⟨b402, k402q, rfl, Nq402, K402, hsz402, E402q, Vq402⟩ := hQ402
  have N402 := Fr.app N386 Nq402
  refine own_go (fun _ k => st402.trans k) ?_
  have ne403 : b230 ≠ b402 := Nat.ne_of_lt (Nat.lt_of_lt_of_le f387.lt hsz402)
  have ne404 : b239 ≠ b402 := Nat.ne_of_lt (Nat.lt_of_lt_of_le f389.lt hsz402)
  have ne405 : b247 ≠ b402 := Nat.ne_of_lt (Nat.lt_of_lt_of_le f390.lt hsz402)
  have ne406 : b255 ≠ b402 := Nat.ne_of_lt (Nat.lt_of_lt_of_le f391.lt hsz402)
  have ne407 : b278 ≠ b402 := Nat.ne_of_lt (Nat.lt_of_lt_of_le f394.lt hsz402)
  have ne408 : b324 ≠ b402 := Nat.ne_of_lt (Nat.lt_of_lt_of_le f398.lt hsz402)
  have ne409 : b341 ≠ b402 := Nat.ne_of_lt (Nat.lt_of_lt_of_le f400.lt hsz402)
  have ge410 : n0 ≤ b402 := Nat.le_trans zs401 hsz402
  have f411 := f387.keep K402
  have f412 := f388.keep K402 nin0
  have f413 := f389.keep K402
  have f414 := f390.keep K402
  have f415 := f391.keep K402 nin0
  have f416 := f392.keep K402
  have f417 := f393.keep K402 nin0
  have f418 := f394.keep K402
  have f419 := f395.keep K402 nin0
  have f420 := f396.keep K402 nin0
  have f421 := f397.keep K402 nin0
  have f422 := f398.keep K402
  have f423 := f399.keep K402 nin0
  have f424 := f400.keep K402
  have f425 := V386.keep K402 nin0
  have zs426 : n0 ≤ T402.heap.size := Nat.le_trans zs401 K402.1
  have V402 : Arv Z T402.heap b402 k402q .byte (17 : Int32) [(.int (q1.toInt32.toInt8.toInt32)), (.int (own_b q1 (8 : Int32))), (.int (own_b q1 (16 : Int32))), (.int (own_b q1 (24 : Int32))), (.int (own_b q1 (32 : Int32))), (.int (own_b q1 (40 : Int32))), (.int (own_b q1 (48 : Int32))), (.int (own_b q1 (56 : Int32))), (.int (q2.toInt32.toInt8.toInt32)), (.int (own_b q2 (8 : Int32))), (.int (own_b q2 (16 : Int32))), (.int (own_b q2 (24 : Int32))), (.int (own_b q2 (32 : Int32))), (.int (own_b q2 (40 : Int32))), (.int (own_b q2 (48 : Int32))), (.int (own_b q2 (56 : Int32))), (.int (p3.toInt8.toInt32))] (.int (0 : Int32)) := Vq402
  show own_G p e below (T402.setTop (mkF m 257 #[.val (.long q1), .second, .val (.long q2), .second, .val (.int p3), .val (.ref b230), .val (.ref b239), .val (.ref b255), .val (.ref b278), .val (.ref b341), .unset] [(.ref b402)])) _
  refine own_go (fun _ k => XS.astore X402.here hx rfl (hb hby at_257) rfl rfl (l' := #[.val (.long q1), .second, .val (.long q2), .second, .val (.int p3), .val (.ref b230), .val (.ref b239), .val (.ref b255), .val (.ref b278), .val (.ref b341), .val (.ref b402)]) rfl k) ?_
  show own_G p e below (T402.setTop (mkF m 259 #[.val (.long q1), .second, .val (.long q2), .second, .val (.int p3), .val (.ref b230), .val (.ref b239), .val (.ref b255), .val (.ref b278), .val (.ref b341), .val (.ref b402)] [])) _
  refine own_go (fun _ k => XS.aload X402.here hx rfl (hb hby at_259) rfl rfl k) ?_
  show own_G p e below (T402.setTop (mkF m 261 #[.val (.long q1), .second, .val (.long q2), .second, .val (.int p3), .val (.ref b230), .val (.ref b239), .val (.ref b255), .val (.ref b278), .val (.ref b341), .val (.ref b402)] [(.ref b402)])) _
  refine own_go (fun _ k => XS.ifnullNo X402.here hx rfl (hb hby at_261) rfl k) ?_
  show own_G p e below (T402.setTop (mkF m 264 #[.val (.long q1), .second, .val (.long q2), .second, .val (.int p3), .val (.ref b230), .val (.ref b239), .val (.ref b255), .val (.ref b278), .val (.ref b341), .val (.ref b402)] [])) _
  refine own_go (fun _ k => XS.aload X402.here hx rfl (hb hby at_264) rfl rfl k) ?_
  show own_G p e below (T402.setTop (mkF m 266 #[.val (.long q1), .second, .val (.long q2), .second, .val (.int p3), .val (.ref b230), .val (.ref b239), .val (.ref b255), .val (.ref b278), .val (.ref b341), .val (.ref b402)] [(.ref b402)])) _
  refine own_go (fun _ k => XS.aload X402.here hx rfl (hb hby at_266) rfl rfl k) ?_
  show own_G p e below (T402.setTop (mkF m 268 #[.val (.long q1), .second, .val (.long q2), .second, .val (.int p3), .val (.ref b230), .val (.ref b239), .val (.ref b255), .val (.ref b278), .val (.ref b341), .val (.ref b402)] [(.ref b341), (.ref b402)])) _
  refine own_go (fun _ k => Jvm.RoadKit.acmp (g := (mkF m 268 #[.val (.long q1), .second, .val (.long q2), .second, .val (.int p3), .val (.ref b230), .val (.ref b239), .val (.ref b255), .val (.ref b278), .val (.ref b341), .val (.ref b402)] [(.ref b341), (.ref b402)])) X402 hx rfl rfl rfl (pc0 := 268) (pc' := 271) (same := false) rfl (hb hby at_268) rfl (decide_eq_false fun q => (Ne.symm ne409) (Value.ref.inj q)) (by decide) (by decide) k) ?_
  show own_G p e below (T402.setTop (mkF m 271 #[.val (.long q1), .second, .val (.long q2), .second, .val (.int p3), .val (.ref b230), .val (.ref b239), .val (.ref b255), .val (.ref b278), .val (.ref b341), .val (.ref b402)] [])) _
  refine own_go (fun _ k => XS.aload X402.here hx rfl (hb hby at_271) rfl rfl k) ?_
  show own_G p e below (T402.setTop (mkF m 273 #[.val (.long q1), .second, .val (.long q2), .second, .val (.int p3), .val (.ref b230), .val (.ref b239), .val (.ref b255), .val (.ref b278), .val (.ref b341), .val (.ref b402)] [(.ref b402)])) _
  obtain ⟨cl427, Ar427, q427, S427, M427, B427, G427⟩ := id V402
  refine own_go (X402.arraylength hx Ar427.1 (State.isArrayOf_alike hZ.alike Ar427.2.1) (g := (mkF m 273 #[.val (.long q1), .second, .val (.long q2), .second, .val (.int p3), .val (.ref b230), .val (.ref b239), .val (.ref b255), .val (.ref b278), .val (.ref b341), .val (.ref b402)] [(.ref b402)])) rfl rfl (hb hby at_273)) ?_
  rw [len_of S427 M427]
  show own_G p e below (T402.setTop (mkF m 274 #[.val (.long q1), .second, .val (.long q2), .second, .val (.int p3), .val (.ref b230), .val (.ref b239), .val (.ref b255), .val (.ref b278), .val (.ref b341), .val (.ref b402)] [(.int (17 : Int32))])) _
  refine own_go (fun _ k => XS.bipush X402.here hx rfl (hb hby at_274) k) ?_
  show own_G p e below (T402.setTop (mkF m 276 #[.val (.long q1), .second, .val (.long q2), .second, .val (.int p3), .val (.ref b230), .val (.ref b239), .val (.ref b255), .val (.ref b278), .val (.ref b341), .val (.ref b402)] [(.int (17 : Int32)), (.int (17 : Int32))])) _
  refine own_go (fun _ k => XS.icmpYes X402.here hx rfl (pc0 := 276) (pc' := 281) rfl (hb hby at_276) rfl (teq (by decide : (17 : Int32) = (17 : Int32))).1 (by decide) (by decide) k) ?_
  show own_G p e below (T402.setTop (mkF m 281 #[.val (.long q1), .second, .val (.long q2), .second, .val (.int p3), .val (.ref b230), .val (.ref b239), .val (.ref b255), .val (.ref b278), .val (.ref b341), .val (.ref b402)] [])) _
  refine own_go (fun _ k => XS.aload X402.here hx rfl (hb hby at_281) rfl rfl k) ?_
  show own_G p e below (T402.setTop (mkF m 283 #[.val (.long q1), .second, .val (.long q2), .second, .val (.int p3), .val (.ref b230), .val (.ref b239), .val (.ref b255), .val (.ref b278), .val (.ref b341), .val (.ref b402)] [(.ref b402)])) _
  refine own_go (fun _ k => XS.iconst X402.here hx rfl (hb hby at_283) k) ?_
  show own_G p e below (T402.setTop (mkF m 284 #[.val (.long q1), .second, .val (.long q2), .second, .val (.int p3), .val (.ref b230), .val (.ref b239), .val (.ref b255), .val (.ref b278), .val (.ref b341), .val (.ref b402)] [(.int (0 : Int32)), (.ref b402)])) _
  obtain ⟨_, _, ⟨T428, L428, k428, n428⟩, -, X428, ⟨Lc428, hQ428, l428, y428, z428⟩, st428⟩ := Jvm.LawKit.callS X402 hx (y := (⟨"com/example/bitfold/bitfold/ByteArrayWriterToByteArrayPinLaw", "le8", "([BI)J"⟩ : MethodName)) hown (mvT hZ (hw _ (List.mem_of_getElem? (i := 59) rfl))) (mvT hZ (hw _ (List.mem_of_getElem? (i := 60) rfl))) (mvT hZ (hw _ (List.mem_of_getElem? (i := 3) rfl))) (mvT hZ (hw _ (List.mem_of_getElem? (i := 61) rfl))) (by decide) (backOf (W := 0) (rm10_17_0 l Z a0 hw [] b402 k402q (q1.toInt32.toInt8.toInt32) (own_b q1 (8 : Int32)) (own_b q1 (16 : Int32)) (own_b q1 (24 : Int32)) (own_b q1 (32 : Int32)) (own_b q1 (40 : Int32)) (own_b q1 (48 : Int32)) (own_b q1 (56 : Int32)) (q2.toInt32.toInt8.toInt32) (own_b q2 (8 : Int32)) (own_b q2 (16 : Int32)) (own_b q2 (24 : Int32)) (own_b q2 (32 : Int32)) (own_b q2 (40 : Int32)) (own_b q2 (48 : Int32)) (own_b q2 (56 : Int32)) (p3.toInt8.toInt32) T402.heap n0 zs426 V402) hZ (hw _ (List.mem_of_getElem? (i := 61) rfl)) (hw _ (List.mem_of_getElem? (i := 3) rfl)) (by decide) (by decide)) (g := (mkF m 284 #[.val (.long q1), .second, .val (.long q2), .second, .val (.int p3), .val (.ref b230), .val (.ref b239), .val (.ref b255), .val (.ref b278), .val (.ref b341), .val (.ref b402)] [(.int (0 : Int32)), (.ref b402)])) rfl (by rw [hml]; rfl) (argsL := [(.ref b402), (.int (0 : Int32))]) (rest := []) (lenOf pd_9 rfl) rfl (by show 2 * 0 + _ ≤ _; exact Nat.le_of_eq rfl) (hb hby at_284) (fun _ _ => ⟨rfl, rfl, (by decide : 0 + 1 + 0 + 0 + 1 + 1 + 1 + 0 + 0 + 1 + 0 + 0 + 0 + 1 + 1 + 0 + 0 + 0 + 1 + 0 ≤ _), (by decide : 0 + 16 + 0 + 0 + 2 + 16 + 0 + 0 + 0 + 16 + 0 + 0 + 0 + 32 + 17 + 0 + 0 + 0 + 17 + 0 ≤ _)⟩)
  dsimp only [Pt.U, Pt.locs, Pt.cells, Pt.slots] at X428 l428 y428 z428 st428 hQ428
  rw [l428, y428, z428] at X428
  obtain ⟨rfl, Nq428, hh428⟩ := hQ428
  have N428 := Fr.app N402 Nq428
  refine own_go st428 ?_
  have e428 : T428.heap = T402.heap := hh428
  show own_G p e below (T428.setTop (mkF m 287 #[.val (.long q1), .second, .val (.long q2), .second, .val (.int p3), .val (.ref b230), .val (.ref b239), .val (.ref b255), .val (.ref b278), .val (.ref b341), .val (.ref b402)] [(.long (own_le8 (q1.toInt32.toInt8.toInt32) (own_b q1 (8 : Int32)) (own_b q1 (16 : Int32)) (own_b q1 (24 : Int32)) (own_b q1 (32 : Int32)) (own_b q1 (40 : Int32)) (own_b q1 (48 : Int32)) (own_b q1 (56 : Int32))))])) _
  refine own_go (fun _ k => XS.lloadN X428.here hx rfl (hb hby at_287) rfl k) ?_
  show own_G p e below (T428.setTop (mkF m 288 #[.val (.long q1), .second, .val (.long q2), .second, .val (.int p3), .val (.ref b230), .val (.ref b239), .val (.ref b255), .val (.ref b278), .val (.ref b341), .val (.ref b402)] [(.long q1), (.long (own_le8 (q1.toInt32.toInt8.toInt32) (own_b q1 (8 : Int32)) (own_b q1 (16 : Int32)) (own_b q1 (24 : Int32)) (own_b q1 (32 : Int32)) (own_b q1 (40 : Int32)) (own_b q1 (48 : Int32)) (own_b q1 (56 : Int32))))])) _
  refine own_go (fun _ k => XS.lcmp X428.here hx rfl (hb hby at_288) rfl k) ?_
  show own_G p e below (T428.setTop (mkF m 289 #[.val (.long q1), .second, .val (.long q2), .second, .val (.int p3), .val (.ref b230), .val (.ref b239), .val (.ref b255), .val (.ref b278), .val (.ref b341), .val (.ref b402)] [(.int (lcmpW (own_le8 (q1.toInt32.toInt8.toInt32) (own_b q1 (8 : Int32)) (own_b q1 (16 : Int32)) (own_b q1 (24 : Int32)) (own_b q1 (32 : Int32)) (own_b q1 (40 : Int32)) (own_b q1 (48 : Int32)) (own_b q1 (56 : Int32))) q1))])) _
  refine own_go (fun _ k => XS.ifNo X428.here hx rfl (hb hby at_289) rfl ((if0 _ _).trans (teq ((lw_eq _ _).mpr (own_le q1))).2) k) ?_
  show own_G p e below (T428.setTop (mkF m 292 #[.val (.long q1), .second, .val (.long q2), .second, .val (.int p3), .val (.ref b230), .val (.ref b239), .val (.ref b255), .val (.ref b278), .val (.ref b341), .val (.ref b402)] [])) _
  refine own_go (fun _ k => XS.aload X428.here hx rfl (hb hby at_292) rfl rfl k) ?_
  show own_G p e below (T428.setTop (mkF m 294 #[.val (.long q1), .second, .val (.long q2), .second, .val (.int p3), .val (.ref b230), .val (.ref b239), .val (.ref b255), .val (.ref b278), .val (.ref b341), .val (.ref b402)] [(.ref b402)])) _
  refine own_go (fun _ k => XS.bipush X428.here hx rfl (hb hby at_294) k) ?_
  show own_G p e below (T428.setTop (mkF m 296 #[.val (.long q1), .second, .val (.long q2), .second, .val (.int p3), .val (.ref b230), .val (.ref b239), .val (.ref b255), .val (.ref b278), .val (.ref b341), .val (.ref b402)] [(.int (8 : Int32)), (.ref b402)])) _
  obtain ⟨_, _, ⟨T429, L429, k429, n429⟩, -, X429, ⟨Lc429, hQ429, l429, y429, z429⟩, st429⟩ := Jvm.LawKit.callS X428 hx (y := (⟨"com/example/bitfold/bitfold/ByteArrayWriterToByteArrayPinLaw", "le8", "([BI)J"⟩ : MethodName)) hown (mvT hZ (hw _ (List.mem_of_getElem? (i := 59) rfl))) (mvT hZ (hw _ (List.mem_of_getElem? (i := 60) rfl))) (mvT hZ (hw _ (List.mem_of_getElem? (i := 3) rfl))) (mvT hZ (hw _ (List.mem_of_getElem? (i := 61) rfl))) (by decide) (backOf (W := 0) (rm10_17_8 l Z a0 hw [] b402 k402q (q1.toInt32.toInt8.toInt32) (own_b q1 (8 : Int32)) (own_b q1 (16 : Int32)) (own_b q1 (24 : Int32)) (own_b q1 (32 : Int32)) (own_b q1 (40 : Int32)) (own_b q1 (48 : Int32)) (own_b q1 (56 : Int32)) (q2.toInt32.toInt8.toInt32) (own_b q2 (8 : Int32)) (own_b q2 (16 : Int32)) (own_b q2 (24 : Int32)) (own_b q2 (32 : Int32)) (own_b q2 (40 : Int32)) (own_b q2 (48 : Int32)) (own_b q2 (56 : Int32)) (p3.toInt8.toInt32) T402.heap n0 zs426 V402) hZ (hw _ (List.mem_of_getElem? (i := 61) rfl)) (hw _ (List.mem_of_getElem? (i := 3) rfl)) (by decide) (by decide)) (g := (mkF m 296 #[.val (.long q1), .second, .val (.long q2), .second, .val (.int p3), .val (.ref b230), .val (.ref b239), .val (.ref b255), .val (.ref b278), .val (.ref b341), .val (.ref b402)] [(.int (8 : Int32)), (.ref b402)])) rfl (by rw [hml]; rfl) (argsL := [(.ref b402), (.int (8 : Int32))]) (rest := []) (lenOf pd_9 rfl) rfl (by show 2 * 0 + _ ≤ _; exact Nat.le_of_eq rfl) (hb hby at_296) (fun _ _ => ⟨rfl, e428, (by decide : 0 + 1 + 0 + 0 + 1 + 1 + 1 + 0 + 0 + 1 + 0 + 0 + 0 + 1 + 1 + 0 + 0 + 0 + 1 + 0 + 0 ≤ _), (by decide : 0 + 16 + 0 + 0 + 2 + 16 + 0 + 0 + 0 + 16 + 0 + 0 + 0 + 32 + 17 + 0 + 0 + 0 + 17 + 0 + 0 ≤ _)⟩)
  dsimp only [Pt.U, Pt.locs, Pt.cells, Pt.slots] at X429 l429 y429 z429 st429 hQ429
  rw [l429, y429, z429] at X429
  obtain ⟨rfl, Nq429, hh429⟩ := hQ429
  have N429 := Fr.app N428 Nq429
  refine own_go st429 ?_
  have e429 : T429.heap = T402.heap := hh429
  show own_G p e below (T429.setTop (mkF m 299 #[.val (.long q1), .second, .val (.long q2), .second, .val (.int p3), .val (.ref b230), .val (.ref b239), .val (.ref b255), .val (.ref b278), .val (.ref b341), .val (.ref b402)] [(.long (own_le8 (q2.toInt32.toInt8.toInt32) (own_b q2 (8 : Int32)) (own_b q2 (16 : Int32)) (own_b q2 (24 : Int32)) (own_b q2 (32 : Int32)) (own_b q2 (40 : Int32)) (own_b q2 (48 : Int32)) (own_b q2 (56 : Int32))))])) _
  refine own_go (fun _ k => XS.lloadN X429.here hx rfl (hb hby at_299) rfl k) ?_
  show own_G p e below (T429.setTop (mkF m 300 #[.val (.long q1), .second, .val (.long q2), .second, .val (.int p3), .val (.ref b230), .val (.ref b239), .val (.ref b255), .val (.ref b278), .val (.ref b341), .val (.ref b402)] [(.long q2), (.long (own_le8 (q2.toInt32.toInt8.toInt32) (own_b q2 (8 : Int32)) (own_b q2 (16 : Int32)) (own_b q2 (24 : Int32)) (own_b q2 (32 : Int32)) (own_b q2 (40 : Int32)) (own_b q2 (48 : Int32)) (own_b q2 (56 : Int32))))])) _
  refine own_go (fun _ k => XS.lcmp X429.here hx rfl (hb hby at_300) rfl k) ?_
  show own_G p e below (T429.setTop (mkF m 301 #[.val (.long q1), .second, .val (.long q2), .second, .val (.int p3), .val (.ref b230), .val (.ref b239), .val (.ref b255), .val (.ref b278), .val (.ref b341), .val (.ref b402)] [(.int (lcmpW (own_le8 (q2.toInt32.toInt8.toInt32) (own_b q2 (8 : Int32)) (own_b q2 (16 : Int32)) (own_b q2 (24 : Int32)) (own_b q2 (32 : Int32)) (own_b q2 (40 : Int32)) (own_b q2 (48 : Int32)) (own_b q2 (56 : Int32))) q2))])) _
  refine own_go (fun _ k => XS.ifNo X429.here hx rfl (hb hby at_301) rfl ((if0 _ _).trans (teq ((lw_eq _ _).mpr (own_le q2))).2) k) ?_
  show own_G p e below (T429.setTop (mkF m 304 #[.val (.long q1), .second, .val (.long q2), .second, .val (.int p3), .val (.ref b230), .val (.ref b239), .val (.ref b255), .val (.ref b278), .val (.ref b341), .val (.ref b402)] [])) _
  refine own_go (fun _ k => XS.aload X429.here hx rfl (hb hby at_304) rfl rfl k) ?_
  show own_G p e below (T429.setTop (mkF m 306 #[.val (.long q1), .second, .val (.long q2), .second, .val (.int p3), .val (.ref b230), .val (.ref b239), .val (.ref b255), .val (.ref b278), .val (.ref b341), .val (.ref b402)] [(.ref b402)])) _
  refine own_go (fun _ k => XS.bipush X429.here hx rfl (hb hby at_306) k) ?_
  show own_G p e below (T429.setTop (mkF m 308 #[.val (.long q1), .second, .val (.long q2), .second, .val (.int p3), .val (.ref b230), .val (.ref b239), .val (.ref b255), .val (.ref b278), .val (.ref b341), .val (.ref b402)] [(.int (16 : Int32)), (.ref b402)])) _
  obtain ⟨cl430, Ar430, q430, S430, M430, B430, G430⟩ := id V402
  have hin430 : ¬ ((16 : Int32) < 0 ∨ cl430.slots.size ≤ ((16 : Int32)).toNatClampNeg) := inb_of S430 ⟨by decide, by decide⟩
  have hat430 : cl430.slots[((16 : Int32)).toNatClampNeg]? = some (.int (p3.toInt8.toInt32)) := B430.at hin430 rfl
  refine own_go (X429.baloadBytes hx (j := (16 : Int32)) (v := (.int (p3.toInt8.toInt32))) (by rw [e429]; exact Ar430.1) (State.isArrayOf_alike hZ.alike Ar430.2.1) Ar430.2.2 hin430 hat430 (g := (mkF m 308 #[.val (.long q1), .second, .val (.long q2), .second, .val (.int p3), .val (.ref b230), .val (.ref b239), .val (.ref b255), .val (.ref b278), .val (.ref b341), .val (.ref b402)] [(.int (16 : Int32)), (.ref b402)])) rfl rfl (hb hby at_308)) ?_
  show own_G p e below (T429.setTop (mkF m 309 #[.val (.long q1), .second, .val (.long q2), .second, .val (.int p3), .val (.ref b230), .val (.ref b239), .val (.ref b255), .val (.ref b278), .val (.ref b341), .val (.ref b402)] [(.int (p3.toInt8.toInt32))])) _
  refine own_go (fun _ k => XS.iload X429.here hx rfl (hb hby at_309) rfl k) ?_
  show own_G p e below (T429.setTop (mkF m 311 #[.val (.long q1), .second, .val (.long q2), .second, .val (.int p3), .val (.ref b230), .val (.ref b239), .val (.ref b255), .val (.ref b278), .val (.ref b341), .val (.ref b402)] [(.int p3), (.int (p3.toInt8.toInt32))])) _
  refine own_go (fun _ k => XS.i2b X429.here hx rfl (hb hby at_311) rfl k) ?_
  show own_G p e below (T429.setTop (mkF m 312 #[.val (.long q1), .second, .val (.long q2), .second, .val (.int p3), .val (.ref b230), .val (.ref b239), .val (.ref b255), .val (.ref b278), .val (.ref b341), .val (.ref b402)] [(.int (p3.toInt8.toInt32)), (.int (p3.toInt8.toInt32))])) _
  refine own_go (fun _ k => XS.icmpNo X429.here hx rfl (hb hby at_312) rfl (teq (rfl : (p3.toInt8.toInt32) = (p3.toInt8.toInt32))).2 k) ?_
  show own_G p e below (T429.setTop (mkF m 315 #[.val (.long q1), .second, .val (.long q2), .second, .val (.int p3), .val (.ref b230), .val (.ref b239), .val (.ref b255), .val (.ref b278), .val (.ref b341), .val (.ref b402)] [])) _
  refine own_go (fun _ k => XS.iconst X429.here hx rfl (hb hby at_315) k) ?_
  show own_G p e below (T429.setTop (mkF m 316 #[.val (.long q1), .second, .val (.long q2), .second, .val (.int p3), .val (.ref b230), .val (.ref b239), .val (.ref b255), .val (.ref b278), .val (.ref b341), .val (.ref b402)] [(.int (1 : Int32))])) _
  refine own_go (fun _ k => XS.goto X429.here hx rfl (pc0 := 316) (pc' := 320) rfl (hb hby at_316) (by decide) (by decide) k) ?_
  show own_G p e below (T429.setTop (mkF m 320 #[.val (.long q1), .second, .val (.long q2), .second, .val (.int p3), .val (.ref b230), .val (.ref b239), .val (.ref b255), .val (.ref b278), .val (.ref b341), .val (.ref b402)] [(.int (1 : Int32))])) _
  refine own_ret X429 hlk (v := some (.int (1 : Int32))) (fun h => by rw [hret] at h; cases h) (Q0 Z q1 q2 p3 h0 n0) (own_retI X429 hx (t := .boolean) hret rfl (Or.inl ⟨rfl, by simp, _, rfl⟩) (hb hby at_320)) (by decide) (by decide) ?_
  show Q0 Z q1 q2 p3 h0 n0 _ T429.heap _
  rw [e429]
  exact ⟨rfl, N429⟩
set_option maxRecDepth 65536 in
set_option maxHeartbeats 40000000 in
theorem comes_1 {Post : Tables → Env → Array Value → State → Outcome → State → Prop} (hpost : ∀ tb e args s v u, (limb_1_1.after args s (.returned v) u = true ∧ limb_1_2.after args s (.returned v) u = true ∧ True) → FrameEnd s (.returned v) u (Jvm.fieldLocs frame_1_writes args s ++ Jvm.arrayLocs frame_1_arrays args s ++ Jvm.staticLocs frame_1_statics s) 24 320 → Post tb e args s (.returned v) u) :
    ArmFor flags0 classFile x code maxLocals ret World_1 tables_1 room_1 Calls_1 rest_1 Pre_1 Post := by
  intro l hfl _ _ p e ha hc hk s m args below hf hA hF happ hP
  obtain ⟨hcalls, hrest, hpre⟩ := hP
  obtain ⟨-, -, -, hnamed, -, -, -, hat⟩ := (Spec.applies_iff hf).mp happ
  obtain ⟨hg, hn⟩ := and_e (Cond.before_iff.mp (show (Jvm.Cond.and given_1 narrow_1).before args s = true from hpre))
  obtain ⟨g1, g2⟩ := and_e hg
  obtain ⟨g3, g4⟩ := and_e g2
  obtain ⟨g5, g6⟩ := and_e g4
  obtain ⟨w0, w1, w2, rfl⟩ : ∃ w0 w1 w2 : Value, args = #[w0, w1, w2] := by
    have hs : args.size = 3 := by simpa [Cond.value, given_1] using g1
    obtain ⟨L⟩ := args
    match L, hs with
    | [w0, w1, w2], _ => exact ⟨w0, w1, w2, rfl⟩
  have hw := fun d (hd : d ∈ tables_1) => atoms_spec (ws := Jvm.Cond.code x code maxLocals ret :: tables_1) hat d (List.mem_cons_of_mem _ hd)
  obtain ⟨i0, ei0⟩ := isL_v g3
  obtain rfl : w0 = (.long i0) := Option.some.inj ei0
  obtain ⟨i1, ei1⟩ := isL_v g5
  obtain rfl : w1 = (.long i1) := Option.some.inj ei1
  obtain ⟨i2, ei2⟩ := is_v g6
  obtain rfl : w2 = (.int i2) := Option.some.inj ei2
  obtain ⟨n, o, h1, h2, h3, _, L, rfl, ⟨rfl, N⟩, hq⟩ := rm0 l s _ hw tables_1 i0 i1 i2 s.heap s.heap.size (Nat.le_refl _) p e ha hc hk s m _ below hf ((Spec.applies_iff_loose hf).mp happ).1 ⟨rfl, State.Warmed39.refl s, rfl⟩ trivial
  refine ⟨n, _, h1, h2, h3, hpost _ _ _ _ _ _ ⟨Cond.after_iff.mpr rfl, Cond.after_iff.mpr (eq_i res_at (Term.int_eval (1)) rfl), trivial⟩ ⟨hq.1, hq.2.1, (hq.2.2.sift fun y hy => Or.inr (N y hy)).mono (by decide) (by decide)⟩⟩
theorem main_1_1 : Claimed_1_1 := comes_1 fun _ _ _ _ _ _ h hF => ⟨h.1, hF⟩
theorem main_1_2 : Claimed_1_2 := comes_1 fun _ _ _ _ _ _ h hF => ⟨h.2.1, hF⟩
end Jvm.Pilot.@@N@@
namespace Jvm.Pilot.@@N@@
open Jvm Jvm.ClassFile Sem Op Lib Jvm.Free Jvm.Stand Jvm.Pilot.@@N@@.Jvm.D
/-! MADE BY PROGRAM (witnessworld.py) out of the Statement's table words and the real class files: 12 classes; the members and pool entries that the words name. The judged class is class 1, her method 3. -/
namespace start1
open Jvm.ClassFile
def u (s : String) : CpInfo := .utf8 (stringToUtf16 s)
/-- a pool by its gaps: so many unusable entries, then the entry; so many at the end -/
def gap : Nat → List CpInfo → List CpInfo
  | 0, r => r
  | n + 1, r => .unusable :: gap n r
def poolList (es : List (Nat × CpInfo)) (last : Nat) : List CpInfo := es.foldr (fun e r => gap e.1 (e.2 :: r)) (gap last [])
def pool (es : List (Nat × CpInfo)) (last : Nat) : Array CpInfo := ⟨poolList es last⟩
def fileOf (pool : Array CpInfo) (this : Nat) (attrs : Array Attribute := #[]) (ms : Array MethodInfo := #[]) (fl : Nat := 33) (sup : Nat := 0) (ifs : Array Nat := #[]) (fds : Array FieldInfo := #[]) : ClassFile where
  minorVersion := 0
  majorVersion := 65
  constantPool := pool
  accessFlags := fl
  thisClass := this
  superClass := sup
  interfaces := ifs
  fields := fds
  methods := ms
  attributes := attrs
def plain (name : String) (sup : Option ClassId) : Class where
  name := name
  kind := .ordinary
  loader := none
  accessFlags := 33
  super := sup
  interfaces := #[]
  cf := none
  fields := #[]
  methods := #[]
  instanceTypes := #[]
  staticTypes := #[]
  resolved := #[]
  callSites := []
  init := .initialized
  statics := none
  mirror := none

def pool0 : Array CpInfo := pool [(5, u "<init>"), (0, u "()V"), (1, .class_ 10), (1, u "java/lang/Object"), (85, u "clone"), (0, u "()Ljava/lang/Object;")] 26

def k0c0 : Code := { maxStack := 0, maxLocals := 1, code := object_method_1_code, exceptionTable := #[], attributes := #[] }
def k0m0 : Method := { name := "<init>", desc := "()V", sig := { parameters := [], returnType := none }, accessFlags := 1, code := some k0c0 }
def k0m1 : Method := { name := "clone", desc := "()Ljava/lang/Object;", sig := { parameters := [], returnType := some (.object "java/lang/Object") }, accessFlags := 260, code := none }
/-- java/lang/Object -/
def k0 : Class := { plain "java/lang/Object" none with
  accessFlags := 33
  interfaces := #[]
  cf := some (fileOf pool0 8 #[] #[{ accessFlags := 1, nameIndex := 5, descriptorIndex := 6, attributes := #[] }, { accessFlags := 260, nameIndex := 96, descriptorIndex := 97, attributes := #[] }] 33 0 #[] #[])
  fields := #[]
  methods := #[k0m0, k0m1]
  instanceTypes := #[]
  staticTypes := #[]
  resolved := Array.replicate 124 none
  statics := none }

def pool1 : Array CpInfo := pool [(2, .class_ 4), (0, .nameAndType 5 6), (0, u "java/lang/Object"), (0, u "<init>"), (0, u "()V"), (0, .long 255), (1, .methodref 10 11), (0, .class_ 12), (0, .nameAndType 13 14), (0, u "com/example/bitfold/bitfold/ByteArrayWriterToByteArrayPinLaw"), (0, u "put8"), (0, u "([BIJ)V"), (0, .class_ 16), (0, u "com/example/bitfold/bitfold/ByteArrayWriter"), (0, .methodref 15 3), (0, .methodref 15 19), (0, .nameAndType 20 21), (0, u "toByteArray"), (0, u "()[B"), (0, .methodref 15 23), (0, .nameAndType 24 25), (0, u "size"), (0, u "()I"), (0, .methodref 15 27), (0, .nameAndType 28 29), (0, u "writeBytes"), (0, u "([B)V"), (0, .methodref 10 31), (0, .nameAndType 32 33), (0, u "le8"), (0, u "([BI)J"), (0, .methodref 15 35), (0, .nameAndType 36 37), (0, u "writeByte"), (0, u "(I)V"), (2, u "law"), (0, u "(JJI)Z")] 5

def k1m0 : Method := { name := "<init>", desc := "()V", sig := { parameters := [], returnType := none }, accessFlags := 1, code := none }
def k1c1 : Code := { maxStack := 6, maxLocals := 4, code := method_2_code, exceptionTable := #[], attributes := #[] }
def k1m1 : Method := { name := "le8", desc := "([BI)J", sig := { parameters := [(.array .byte), .int], returnType := some .long }, accessFlags := 10, code := some k1c1 }
def k1c2 : Code := { maxStack := 5, maxLocals := 4, code := method_3_code, exceptionTable := #[], attributes := #[] }
def k1m2 : Method := { name := "put8", desc := "([BIJ)V", sig := { parameters := [(.array .byte), .int, .long], returnType := none }, accessFlags := 10, code := some k1c2 }
def k1c3 : Code := { maxStack := 4, maxLocals := 11, code := code, exceptionTable := #[], attributes := #[] }
def k1m3 : Method := { name := "law", desc := "(JJI)Z", sig := { parameters := [.long, .long, .int], returnType := some .boolean }, accessFlags := 9, code := some k1c3 }
/-- com/example/bitfold/bitfold/ByteArrayWriterToByteArrayPinLaw -/
def k1 : Class := { plain "com/example/bitfold/bitfold/ByteArrayWriterToByteArrayPinLaw" (some 0) with
  accessFlags := 49
  interfaces := #[]
  cf := some (fileOf pool1 10 #[] #[{ accessFlags := 1, nameIndex := 5, descriptorIndex := 6, attributes := #[] }, { accessFlags := 10, nameIndex := 32, descriptorIndex := 33, attributes := #[] }, { accessFlags := 10, nameIndex := 13, descriptorIndex := 14, attributes := #[] }, { accessFlags := 9, nameIndex := 40, descriptorIndex := 41, attributes := #[] }] 49 2 #[] #[])
  fields := #[]
  methods := #[k1m0, k1m1, k1m2, k1m3]
  instanceTypes := #[]
  staticTypes := #[]
  resolved := Array.replicate 47 none
  statics := none }

def pool2 : Array CpInfo := pool [(1, .methodref 2 3), (0, .class_ 4), (0, .nameAndType 5 6), (0, u "java/lang/Object"), (0, u "<init>"), (0, u "()V"), (0, .fieldref 8 9), (0, .class_ 10), (0, .nameAndType 11 12), (0, u "com/example/bitfold/bitfold/ByteArrayWriter"), (0, u "bytes"), (0, u "[B"), (28, u "(I)V"), (14, .methodref 8 57), (0, .nameAndType 58 41), (0, u "ensureRoom"), (0, .fieldref 8 60), (0, .nameAndType 61 62), (0, u "size"), (0, u "I"), (16, u "TLONG_UNITS"), (0, u "[J"), (4, u "writeByte"), (12, .methodref 99 100), (0, .class_ 101), (0, .nameAndType 102 103), (0, u "java/lang/System"), (0, u "arraycopy"), (0, u "(Ljava/lang/Object;ILjava/lang/Object;II)V"), (0, .methodref 105 106), (0, .class_ 107), (0, .nameAndType 108 109), (0, u "java/util/Arrays"), (0, u "copyOf"), (0, u "([BI)[B"), (7, .long 2147483639), (7, .long 2), (1, .methodref 128 129), (0, .class_ 130), (0, .nameAndType 131 132), (0, u "java/lang/Math"), (0, u "max"), (0, u "(JJ)J"), (0, .methodref 128 134), (0, .nameAndType 135 132), (0, u "min"), (6, u "SMALL_WHOLE"), (2, u "ZFLOAT_ONE_BYTE_MAX"), (1, u "ZDOUBLE_ONE_BYTE_MAX"), (1, u "AS_FLOAT"), (1, u "NEGATIVE"), (1, u "TLONG_MORE"), (1, u "TLONG_LOW_BITS"), (13, u "writeBytes"), (0, u "([B)V"), (0, u "()I"), (0, u "toByteArray"), (0, u "()[B")] 20

def k2c0 : Code := { maxStack := 2, maxLocals := 1, code := prog_3_method_1_code, exceptionTable := #[], attributes := #[] }
def k2m0 : Method := { name := "<init>", desc := "()V", sig := { parameters := [], returnType := none }, accessFlags := 1, code := some k2c0 }
def k2c1 : Code := { maxStack := 5, maxLocals := 2, code := prog_3_method_12_code, exceptionTable := #[], attributes := #[] }
def k2m1 : Method := { name := "writeByte", desc := "(I)V", sig := { parameters := [.int], returnType := none }, accessFlags := 0, code := some k2c1 }
def k2c2 : Code := { maxStack := 5, maxLocals := 2, code := prog_3_method_13_code, exceptionTable := #[], attributes := #[] }
def k2m2 : Method := { name := "writeBytes", desc := "([B)V", sig := { parameters := [(.array .byte)], returnType := none }, accessFlags := 0, code := some k2c2 }
def k2c3 : Code := { maxStack := 1, maxLocals := 1, code := prog_3_method_14_code, exceptionTable := #[], attributes := #[] }
def k2m3 : Method := { name := "size", desc := "()I", sig := { parameters := [], returnType := some .int }, accessFlags := 1, code := some k2c3 }
def k2c4 : Code := { maxStack := 2, maxLocals := 1, code := prog_3_method_15_code, exceptionTable := #[], attributes := #[] }
def k2m4 : Method := { name := "toByteArray", desc := "()[B", sig := { parameters := [], returnType := some (.array .byte) }, accessFlags := 1, code := some k2c4 }
def k2c5 : Code := { maxStack := 6, maxLocals := 6, code := prog_3_method_19_code, exceptionTable := #[], attributes := #[] }
def k2m5 : Method := { name := "ensureRoom", desc := "(I)V", sig := { parameters := [.int], returnType := none }, accessFlags := 2, code := some k2c5 }
/-- com/example/bitfold/bitfold/ByteArrayWriter -/
def k2 : Class := { plain "com/example/bitfold/bitfold/ByteArrayWriter" (some 0) with
  accessFlags := 49
  interfaces := #[]
  cf := some (fileOf pool2 8 #[] #[{ accessFlags := 1, nameIndex := 5, descriptorIndex := 6, attributes := #[] }, { accessFlags := 0, nameIndex := 85, descriptorIndex := 41, attributes := #[] }, { accessFlags := 0, nameIndex := 169, descriptorIndex := 170, attributes := #[] }, { accessFlags := 1, nameIndex := 61, descriptorIndex := 171, attributes := #[] }, { accessFlags := 1, nameIndex := 172, descriptorIndex := 173, attributes := #[] }, { accessFlags := 2, nameIndex := 58, descriptorIndex := 41, attributes := #[] }] 49 2 #[] #[{ accessFlags := 24, nameIndex := 142, descriptorIndex := 62, attributes := #[] }, { accessFlags := 24, nameIndex := 145, descriptorIndex := 62, attributes := #[] }, { accessFlags := 24, nameIndex := 147, descriptorIndex := 62, attributes := #[] }, { accessFlags := 24, nameIndex := 149, descriptorIndex := 62, attributes := #[] }, { accessFlags := 24, nameIndex := 151, descriptorIndex := 62, attributes := #[] }, { accessFlags := 26, nameIndex := 79, descriptorIndex := 80, attributes := #[] }, { accessFlags := 24, nameIndex := 153, descriptorIndex := 62, attributes := #[] }, { accessFlags := 24, nameIndex := 155, descriptorIndex := 62, attributes := #[] }, { accessFlags := 2, nameIndex := 11, descriptorIndex := 12, attributes := #[] }, { accessFlags := 2, nameIndex := 61, descriptorIndex := 62, attributes := #[] }])
  fields := #[{ name := "SMALL_WHOLE", type := .int, accessFlags := 24, slot := 0, constantValue := 0 }, { name := "ZFLOAT_ONE_BYTE_MAX", type := .int, accessFlags := 24, slot := 1, constantValue := 0 }, { name := "ZDOUBLE_ONE_BYTE_MAX", type := .int, accessFlags := 24, slot := 2, constantValue := 0 }, { name := "AS_FLOAT", type := .int, accessFlags := 24, slot := 3, constantValue := 0 }, { name := "NEGATIVE", type := .int, accessFlags := 24, slot := 4, constantValue := 0 }, { name := "TLONG_UNITS", type := (.array .long), accessFlags := 26, slot := 5, constantValue := 0 }, { name := "TLONG_MORE", type := .int, accessFlags := 24, slot := 6, constantValue := 0 }, { name := "TLONG_LOW_BITS", type := .int, accessFlags := 24, slot := 7, constantValue := 0 }, { name := "bytes", type := (.array .byte), accessFlags := 2, slot := 0, constantValue := 0 }, { name := "size", type := .int, accessFlags := 2, slot := 1, constantValue := 0 }]
  methods := #[k2m0, k2m1, k2m2, k2m3, k2m4, k2m5]
  instanceTypes := #[(.array .byte), .int]
  staticTypes := #[.int, .int, .int, .int, .int, (.array .long), .int, .int]
  resolved := Array.replicate 194 none
  statics := none }

def pool3 : Array CpInfo := pool [(2, .class_ 4), (1, u "java/lang/Object"), (0, u "<init>"), (0, u "()V"), (7, .class_ 16), (1, u "java/util/Arrays"), (57, .class_ 76), (1, u "java/util/Arrays$NaturalOrder"), (32, u "()Ljava/lang/Object;"), (3, .class_ 115), (1, u "java/util/Arrays$LegacyMergeSort"), (1, u "Z"), (10, .nameAndType 129 109), (0, u "clone"), (20, .methodref 151 152), (0, .class_ 153), (0, .nameAndType 154 155), (0, u "java/lang/System"), (0, u "arraycopy"), (0, u "(Ljava/lang/Object;ILjava/lang/Object;II)V"), (146, u "copyOf"), (1, .methodref 305 306), (0, .class_ 307), (0, .nameAndType 308 309), (0, u "java/lang/Math"), (0, u "min"), (0, u "(II)I"), (0, .methodref 311 128), (0, .class_ 312), (0, u "[B"), (62, .class_ 376), (0, u "java/util/Arrays$ArrayList"), (68, u "$assertionsDisabled"), (269, u "MIN_ARRAY_SORT_GRAN"), (0, u "I"), (2, u "INSERTIONSORT_THRESHOLD"), (149, u "([BI)[B"), (105, .class_ 976), (0, u "java/util/Arrays$ArrayItr")] 52

def k3m0 : Method := { name := "<init>", desc := "()V", sig := { parameters := [], returnType := none }, accessFlags := 2, code := none }
def k3c1 : Code := { maxStack := 6, maxLocals := 3, code := jdk_65_method_121_code, exceptionTable := #[], attributes := #[] }
def k3m1 : Method := { name := "copyOf", desc := "([BI)[B", sig := { parameters := [(.array .byte), .int], returnType := some (.array .byte) }, accessFlags := 9, code := some k3c1 }
/-- java/util/Arrays -/
def k3 : Class := { plain "java/util/Arrays" (some 0) with
  accessFlags := 49
  interfaces := #[]
  cf := some (fileOf pool3 14 #[.nestMembers #[975, 375, 113, 74]] #[{ accessFlags := 2, nameIndex := 5, descriptorIndex := 6, attributes := #[] }, { accessFlags := 9, nameIndex := 302, descriptorIndex := 869, attributes := #[] }] 49 2 #[] #[{ accessFlags := 26, nameIndex := 715, descriptorIndex := 716, attributes := #[] }, { accessFlags := 26, nameIndex := 719, descriptorIndex := 716, attributes := #[] }, { accessFlags := 4120, nameIndex := 445, descriptorIndex := 117, attributes := #[] }])
  fields := #[{ name := "MIN_ARRAY_SORT_GRAN", type := .int, accessFlags := 26, slot := 0, constantValue := 0 }, { name := "INSERTIONSORT_THRESHOLD", type := .int, accessFlags := 26, slot := 1, constantValue := 0 }, { name := "$assertionsDisabled", type := .boolean, accessFlags := 4120, slot := 2, constantValue := 0 }]
  methods := #[k3m0, k3m1]
  instanceTypes := #[]
  staticTypes := #[.int, .int, .boolean]
  resolved := Array.replicate 1029 none
  statics := none }

def pool4 : Array CpInfo := pool [(1, .class_ 2), (0, u "java/lang/Math"), (1, .class_ 6), (1, u "java/lang/Object"), (0, u "<init>"), (0, u "()V"), (89, .class_ 100), (1, u "java/lang/Math$RandomNumberGeneratorHolder"), (20, u "(JJ)J"), (50, u "negativeZeroFloatBits"), (0, u "J"), (2, u "negativeZeroDoubleBits"), (21, u "max"), (2, u "min"), (43, u "$assertionsDisabled"), (0, u "Z"), (88, u "(II)I"), (2, u "twoToTheDoubleScaleDown"), (0, u "D"), (4, u "twoToTheDoubleScaleUp"), (9, u "E"), (3, u "PI"), (2, u "TAU"), (2, u "DEGREES_TO_RADIANS"), (0, u "RADIANS_TO_DEGREES")] 94

def k4m0 : Method := { name := "<init>", desc := "()V", sig := { parameters := [], returnType := none }, accessFlags := 2, code := none }
def k4c1 : Code := { maxStack := 4, maxLocals := 4, code := jdk_29_method_66_code, exceptionTable := #[], attributes := #[] }
def k4m1 : Method := { name := "max", desc := "(JJ)J", sig := { parameters := [.long, .long], returnType := some .long }, accessFlags := 9, code := some k4c1 }
def k4c2 : Code := { maxStack := 2, maxLocals := 2, code := jdk_29_method_69_code, exceptionTable := #[], attributes := #[] }
def k4m2 : Method := { name := "min", desc := "(II)I", sig := { parameters := [.int, .int], returnType := some .int }, accessFlags := 9, code := some k4c2 }
def k4c3 : Code := { maxStack := 4, maxLocals := 4, code := jdk_29_method_70_code, exceptionTable := #[], attributes := #[] }
def k4m3 : Method := { name := "min", desc := "(JJ)J", sig := { parameters := [.long, .long], returnType := some .long }, accessFlags := 9, code := some k4c3 }
/-- java/lang/Math -/
def k4 : Class := { plain "java/lang/Math" (some 0) with
  accessFlags := 49
  interfaces := #[]
  cf := some (fileOf pool4 1 #[.nestMembers #[98]] #[{ accessFlags := 2, nameIndex := 7, descriptorIndex := 8, attributes := #[] }, { accessFlags := 9, nameIndex := 198, descriptorIndex := 121, attributes := #[] }, { accessFlags := 9, nameIndex := 201, descriptorIndex := 335, attributes := #[] }, { accessFlags := 9, nameIndex := 201, descriptorIndex := 121, attributes := #[] }] 49 4 #[] #[{ accessFlags := 25, nameIndex := 354, descriptorIndex := 339, attributes := #[] }, { accessFlags := 25, nameIndex := 358, descriptorIndex := 339, attributes := #[] }, { accessFlags := 25, nameIndex := 361, descriptorIndex := 339, attributes := #[] }, { accessFlags := 26, nameIndex := 364, descriptorIndex := 339, attributes := #[] }, { accessFlags := 26, nameIndex := 365, descriptorIndex := 339, attributes := #[] }, { accessFlags := 26, nameIndex := 172, descriptorIndex := 173, attributes := #[] }, { accessFlags := 26, nameIndex := 176, descriptorIndex := 173, attributes := #[] }, { accessFlags := 8, nameIndex := 344, descriptorIndex := 339, attributes := #[] }, { accessFlags := 8, nameIndex := 338, descriptorIndex := 339, attributes := #[] }, { accessFlags := 4120, nameIndex := 245, descriptorIndex := 246, attributes := #[] }])
  fields := #[{ name := "E", type := .double, accessFlags := 25, slot := 0, constantValue := 0 }, { name := "PI", type := .double, accessFlags := 25, slot := 1, constantValue := 0 }, { name := "TAU", type := .double, accessFlags := 25, slot := 2, constantValue := 0 }, { name := "DEGREES_TO_RADIANS", type := .double, accessFlags := 26, slot := 3, constantValue := 0 }, { name := "RADIANS_TO_DEGREES", type := .double, accessFlags := 26, slot := 4, constantValue := 0 }, { name := "negativeZeroFloatBits", type := .long, accessFlags := 26, slot := 5, constantValue := 0 }, { name := "negativeZeroDoubleBits", type := .long, accessFlags := 26, slot := 6, constantValue := 0 }, { name := "twoToTheDoubleScaleUp", type := .double, accessFlags := 8, slot := 7, constantValue := 0 }, { name := "twoToTheDoubleScaleDown", type := .double, accessFlags := 8, slot := 8, constantValue := 0 }, { name := "$assertionsDisabled", type := .boolean, accessFlags := 4120, slot := 9, constantValue := 0 }]
  methods := #[k4m0, k4m1, k4m2, k4m3]
  instanceTypes := #[]
  staticTypes := #[.double, .double, .double, .double, .double, .long, .long, .double, .double, .boolean]
  resolved := Array.replicate 460 none
  statics := none }

def pool5 : Array CpInfo := pool [(2, .class_ 4), (1, u "java/lang/Object"), (0, u "<init>"), (0, u "()V"), (1, .class_ 10), (1, u "java/lang/System"), (0, u "allowSecurityManager"), (0, u "I"), (16, u "cons"), (0, u "Ljava/io/Console;"), (77, .class_ 110), (1, u "java/lang/System$CallersHolder"), (43, u "initialErrStream"), (0, u "Ljava/io/PrintStream;"), (19, u "security"), (0, u "Ljava/lang/SecurityManager;"), (31, .class_ 209), (0, u "java/lang/System$1"), (7, u "props"), (0, u "Ljava/util/Properties;"), (2, u "lineSeparator"), (0, u "Ljava/lang/String;"), (96, .class_ 321), (1, u "java/lang/System$LoggerFinder"), (5, .class_ 328), (0, u "java/lang/System$Logger"), (67, u "err"), (2, u "out"), (91, u "notSupportedJnuEncoding"), (15, u "in"), (17, u "initialIn"), (0, u "Ljava/io/InputStream;"), (35, u "bootLayer"), (0, u "Ljava/lang/ModuleLayer;"), (99, .class_ 664), (0, u "java/lang/System$2"), (9, u "NEVER"), (2, u "MAYBE"), (49, u "arraycopy"), (0, u "(Ljava/lang/Object;ILjava/lang/Object;II)V"), (72, .class_ 802), (0, u "java/lang/System$Logger$Level")] 31

def k5m0 : Method := { name := "<init>", desc := "()V", sig := { parameters := [], returnType := none }, accessFlags := 2, code := none }
def k5m1 : Method := { name := "arraycopy", desc := "(Ljava/lang/Object;ILjava/lang/Object;II)V", sig := { parameters := [(.object "java/lang/Object"), .int, (.object "java/lang/Object"), .int, .int], returnType := none }, accessFlags := 265, code := none }
/-- java/lang/System -/
def k5 : Class := { plain "java/lang/System" (some 0) with
  accessFlags := 49
  interfaces := #[]
  cf := some (fileOf pool5 8 #[.nestMembers #[319, 327, 801, 108, 663, 208]] #[{ accessFlags := 2, nameIndex := 5, descriptorIndex := 6, attributes := #[] }, { accessFlags := 265, nameIndex := 727, descriptorIndex := 728, attributes := #[] }] 49 2 #[] #[{ accessFlags := 25, nameIndex := 507, descriptorIndex := 526, attributes := #[] }, { accessFlags := 25, nameIndex := 399, descriptorIndex := 155, attributes := #[] }, { accessFlags := 25, nameIndex := 396, descriptorIndex := 155, attributes := #[] }, { accessFlags := 10, nameIndex := 525, descriptorIndex := 526, attributes := #[] }, { accessFlags := 26, nameIndex := 674, descriptorIndex := 12, attributes := #[] }, { accessFlags := 26, nameIndex := 677, descriptorIndex := 12, attributes := #[] }, { accessFlags := 10, nameIndex := 11, descriptorIndex := 12, attributes := #[] }, { accessFlags := 74, nameIndex := 175, descriptorIndex := 176, attributes := #[] }, { accessFlags := 10, nameIndex := 491, descriptorIndex := 222, attributes := #[] }, { accessFlags := 74, nameIndex := 29, descriptorIndex := 30, attributes := #[] }, { accessFlags := 74, nameIndex := 154, descriptorIndex := 155, attributes := #[] }, { accessFlags := 10, nameIndex := 217, descriptorIndex := 218, attributes := #[] }, { accessFlags := 10, nameIndex := 221, descriptorIndex := 222, attributes := #[] }, { accessFlags := 8, nameIndex := 562, descriptorIndex := 563, attributes := #[] }])
  fields := #[{ name := "in", type := (.object "java/io/InputStream"), accessFlags := 25, slot := 0, constantValue := 0 }, { name := "out", type := (.object "java/io/PrintStream"), accessFlags := 25, slot := 1, constantValue := 0 }, { name := "err", type := (.object "java/io/PrintStream"), accessFlags := 25, slot := 2, constantValue := 0 }, { name := "initialIn", type := (.object "java/io/InputStream"), accessFlags := 10, slot := 3, constantValue := 0 }, { name := "NEVER", type := .int, accessFlags := 26, slot := 4, constantValue := 0 }, { name := "MAYBE", type := .int, accessFlags := 26, slot := 5, constantValue := 0 }, { name := "allowSecurityManager", type := .int, accessFlags := 10, slot := 6, constantValue := 0 }, { name := "security", type := (.object "java/lang/SecurityManager"), accessFlags := 74, slot := 7, constantValue := 0 }, { name := "notSupportedJnuEncoding", type := (.object "java/lang/String"), accessFlags := 10, slot := 8, constantValue := 0 }, { name := "cons", type := (.object "java/io/Console"), accessFlags := 74, slot := 9, constantValue := 0 }, { name := "initialErrStream", type := (.object "java/io/PrintStream"), accessFlags := 74, slot := 10, constantValue := 0 }, { name := "props", type := (.object "java/util/Properties"), accessFlags := 10, slot := 11, constantValue := 0 }, { name := "lineSeparator", type := (.object "java/lang/String"), accessFlags := 10, slot := 12, constantValue := 0 }, { name := "bootLayer", type := (.object "java/lang/ModuleLayer"), accessFlags := 8, slot := 13, constantValue := 0 }]
  methods := #[k5m0, k5m1]
  instanceTypes := #[]
  staticTypes := #[(.object "java/io/InputStream"), (.object "java/io/PrintStream"), (.object "java/io/PrintStream"), (.object "java/io/InputStream"), .int, .int, .int, (.object "java/lang/SecurityManager"), (.object "java/lang/String"), (.object "java/io/Console"), (.object "java/io/PrintStream"), (.object "java/util/Properties"), (.object "java/lang/String"), (.object "java/lang/ModuleLayer")]
  resolved := Array.replicate 834 none
  statics := none }

def pool6 : Array CpInfo := pool [(1, .class_ 2), (0, u "java/lang/Cloneable"), (0, .class_ 4), (0, u "java/lang/Object")] 2

/-- java/lang/Cloneable -/
def k6 : Class := { plain "java/lang/Cloneable" (some 0) with
  accessFlags := 1537
  interfaces := #[]
  cf := some (fileOf pool6 1 #[] #[] 1537 3 #[] #[])
  fields := #[]
  methods := #[]
  instanceTypes := #[]
  staticTypes := #[]
  resolved := Array.replicate 7 none
  statics := none }

def pool7 : Array CpInfo := pool [(1, u "java/io/Serializable"), (0, .class_ 1), (0, u "java/lang/Object"), (0, .class_ 3)] 3

/-- java/io/Serializable -/
def k7 : Class := { plain "java/io/Serializable" (some 0) with
  accessFlags := 1537
  interfaces := #[]
  cf := some (fileOf pool7 2 #[] #[] 1537 4 #[] #[])
  fields := #[]
  methods := #[]
  instanceTypes := #[]
  staticTypes := #[]
  resolved := Array.replicate 8 none
  statics := none }

/-- the primitive byte -/
def k8 : Class := { plain "byte" none with kind := .primitive 'B', accessFlags := 0x411 }
/-- [B -/
def k9 : Class := { plain "[B" (some 0) with kind := .array 8 .byte, interfaces := #[6, 7], accessFlags := 1041 }

/-- the primitive int -/
def k10 : Class := { plain "int" none with kind := .primitive 'I', accessFlags := 0x411 }
/-- [I -/
def k11 : Class := { plain "[I" (some 0) with kind := .array 10 .int, interfaces := #[6, 7], accessFlags := 1041 }

def heap : Heap := #[]
def classes : Array Class := #[k0, k1, k2, k3, k4, k5, k6, k7, k8, k9, k10, k11]
def interned : List (Array UInt16 × Addr) := []
def slotsUsed : Nat := 0
def theMethod : MethodId := ⟨1, 3⟩
def args0 : Array Value := #[.long 5, .long 5, .int 5]
def aboutOver (below : List Frame) : State where
  vm := { classes := classes, interned := interned.toArray }
  heap := heap
  slotsUsed := slotsUsed
  threads := #[{ frames := .invoking theMethod args0 :: below }]
def below0 : List Frame := [.native { method := ⟨0, 0⟩, args := #[] }]
def about1 : State := aboutOver below0
def p0 : Program := .bare "" "" ""
def e0 : Env := launch0.env 0 0 0
theorem w_frames : about1.frames = Frame.invoking theMethod args0 :: below0 := rfl
set_option maxRecDepth 65536 in
theorem w_args : argsFit about1.vm theMethod args0 = true := by decide +kernel
set_option maxRecDepth 65536 in
theorem w_heap : heapFits about1 = true := by decide +kernel
set_option maxRecDepth 65536 in
theorem w_runnable : about1.curStatus? = some .runnable := by decide +kernel
set_option maxRecDepth 65536 in
theorem w_alone : about1.alone = true := by decide +kernel
set_option maxRecDepth 65536 in
theorem w_named : about1.methodNamed? x = some theMethod := by decide +kernel
set_option maxRecDepth 65536 in
theorem w_hears : about1.hears theMethod below0 = true := by decide +kernel
set_option maxRecDepth 65536 in
theorem w_ripe : about1.ripe theMethod args0 below0 = true := by decide +kernel
theorem w_running : about1.status = .running := rfl
set_option maxRecDepth 65536 in
theorem w_room : about1.hasRoom e0.platform room_1 = true :=
  launch0.hasRoom_least _ room_1 (by decide +kernel) (by decide +kernel) (by decide +kernel) (by decide +kernel) (by decide +kernel) (by decide +kernel)
theorem allAtoms_all (ts : List Jvm.Cond) (a : Array Jvm.Value) (st : Jvm.State) : (allAtoms ts).before a st = ts.all (fun c => c.before a st) := by
  induction ts with
  | nil => rfl
  | cons c t ih =>
    show (Jvm.Cond.and c (allAtoms t)).before a st = _
    rw [Jvm.Cond.before_and, ih, List.all_cons]
def words1 : List Jvm.Cond := Jvm.Cond.code x code maxLocals ret :: tables_1
/-- a 'code' word, met by the world's own term for the bytes: nothing is compared byte by byte -/
theorem code_word {y : MethodName} {bytes : ByteArray} {mx : Nat} {rt : Option FieldType} {a : Array Value} {s : State} {m : MethodId} {meth : Method} {c : Code} (h1 : s.methodNamed? y = some m) (h2 : s.vm.method? m = some meth) (h3 : meth.code = some c) (h4 : c.code = bytes)
    (h5 : (c.maxLocals == mx && c.exceptionTable.isEmpty && decide (c.maxStack ≤ mostOperands) && decide (meth.sig.returnType = rt) && !meth.locks && decide (parseMethodDescriptor y.desc = some meth.sig)) = true) : (Jvm.Cond.code y bytes mx rt).before a s = true := by
  simp only [Bool.and_eq_true, beq_iff_eq, Bool.not_eq_true', decide_eq_true_eq] at h5
  obtain ⟨⟨⟨⟨⟨g1, g2⟩, g3⟩, g4⟩, g5⟩, g6⟩ := h5
  simp [Cond.before, Cond.holds, Cond.value, h1, h2, h3, h4, g1, g2, g3, g4, g5, g6]
def isCode : Jvm.Cond → Bool
  | .code _ _ _ _ => true
  | _ => false
theorem all_split {L : List Jvm.Cond} {P : Jvm.Cond → Bool} (h1 : L.all (fun c => isCode c || P c) = true) (h2 : ∀ c ∈ L.filter isCode, P c = true) : L.all P = true := by
  refine List.all_eq_true.mpr fun c hc => ?_
  have h := List.all_eq_true.mp h1 c hc
  rcases Bool.eq_false_or_eq_true (isCode c) with hi | hi
  · exact h2 c (List.mem_filter.mpr ⟨hc, hi⟩)
  · simpa [hi] using h
set_option maxRecDepth 65536 in
theorem w_c0 : (Jvm.Cond.code x code maxLocals ret).before args0 about1 = true := code_word (m := ⟨1, 3⟩) (meth := k1m3) (c := k1c3) (by decide +kernel) rfl rfl rfl (by decide +kernel)
set_option maxRecDepth 65536 in
theorem w_c1 : (Jvm.Cond.code ({ cls := "com/example/bitfold/bitfold/ByteArrayWriterToByteArrayPinLaw", name := "put8", desc := "([BIJ)V" } : Jvm.MethodName) method_3_code (4 : Nat) (Option.none : Option Jvm.ClassFile.FieldType)).before args0 about1 = true := code_word (m := ⟨1, 2⟩) (meth := k1m2) (c := k1c2) (by decide +kernel) rfl rfl rfl (by decide +kernel)
set_option maxRecDepth 65536 in
theorem w_c2 : (Jvm.Cond.code ({ cls := "com/example/bitfold/bitfold/ByteArrayWriter", name := "<init>", desc := "()V" } : Jvm.MethodName) prog_3_method_1_code (1 : Nat) (Option.none : Option Jvm.ClassFile.FieldType)).before args0 about1 = true := code_word (m := ⟨2, 0⟩) (meth := k2m0) (c := k2c0) (by decide +kernel) rfl rfl rfl (by decide +kernel)
set_option maxRecDepth 65536 in
theorem w_c3 : (Jvm.Cond.code ({ cls := "java/lang/Object", name := "<init>", desc := "()V" } : Jvm.MethodName) object_method_1_code (1 : Nat) (Option.none : Option Jvm.ClassFile.FieldType)).before args0 about1 = true := code_word (m := ⟨0, 0⟩) (meth := k0m0) (c := k0c0) (by decide +kernel) rfl rfl rfl (by decide +kernel)
set_option maxRecDepth 65536 in
theorem w_c4 : (Jvm.Cond.code ({ cls := "com/example/bitfold/bitfold/ByteArrayWriter", name := "toByteArray", desc := "()[B" } : Jvm.MethodName) prog_3_method_15_code (1 : Nat) (Option.some (Jvm.ClassFile.FieldType.array Jvm.ClassFile.FieldType.byte))).before args0 about1 = true := code_word (m := ⟨2, 4⟩) (meth := k2m4) (c := k2c4) (by decide +kernel) rfl rfl rfl (by decide +kernel)
set_option maxRecDepth 65536 in
theorem w_c5 : (Jvm.Cond.code ({ cls := "java/util/Arrays", name := "copyOf", desc := "([BI)[B" } : Jvm.MethodName) jdk_65_method_121_code (3 : Nat) (Option.some (Jvm.ClassFile.FieldType.array Jvm.ClassFile.FieldType.byte))).before args0 about1 = true := code_word (m := ⟨3, 1⟩) (meth := k3m1) (c := k3c1) (by decide +kernel) rfl rfl rfl (by decide +kernel)
set_option maxRecDepth 65536 in
theorem w_c6 : (Jvm.Cond.code ({ cls := "java/lang/Math", name := "min", desc := "(II)I" } : Jvm.MethodName) jdk_29_method_69_code (2 : Nat) (Option.some Jvm.ClassFile.FieldType.int)).before args0 about1 = true := code_word (m := ⟨4, 2⟩) (meth := k4m2) (c := k4c2) (by decide +kernel) rfl rfl rfl (by decide +kernel)
set_option maxRecDepth 65536 in
theorem w_c7 : (Jvm.Cond.code ({ cls := "com/example/bitfold/bitfold/ByteArrayWriter", name := "size", desc := "()I" } : Jvm.MethodName) prog_3_method_14_code (1 : Nat) (Option.some Jvm.ClassFile.FieldType.int)).before args0 about1 = true := code_word (m := ⟨2, 3⟩) (meth := k2m3) (c := k2c3) (by decide +kernel) rfl rfl rfl (by decide +kernel)
set_option maxRecDepth 65536 in
theorem w_c8 : (Jvm.Cond.code ({ cls := "com/example/bitfold/bitfold/ByteArrayWriter", name := "writeBytes", desc := "([B)V" } : Jvm.MethodName) prog_3_method_13_code (2 : Nat) (Option.none : Option Jvm.ClassFile.FieldType)).before args0 about1 = true := code_word (m := ⟨2, 2⟩) (meth := k2m2) (c := k2c2) (by decide +kernel) rfl rfl rfl (by decide +kernel)
set_option maxRecDepth 65536 in
theorem w_c9 : (Jvm.Cond.code ({ cls := "com/example/bitfold/bitfold/ByteArrayWriter", name := "ensureRoom", desc := "(I)V" } : Jvm.MethodName) prog_3_method_19_code (6 : Nat) (Option.none : Option Jvm.ClassFile.FieldType)).before args0 about1 = true := code_word (m := ⟨2, 5⟩) (meth := k2m5) (c := k2c5) (by decide +kernel) rfl rfl rfl (by decide +kernel)
set_option maxRecDepth 65536 in
theorem w_c10 : (Jvm.Cond.code ({ cls := "com/example/bitfold/bitfold/ByteArrayWriterToByteArrayPinLaw", name := "le8", desc := "([BI)J" } : Jvm.MethodName) method_2_code (4 : Nat) (Option.some Jvm.ClassFile.FieldType.long)).before args0 about1 = true := code_word (m := ⟨1, 1⟩) (meth := k1m1) (c := k1c1) (by decide +kernel) rfl rfl rfl (by decide +kernel)
set_option maxRecDepth 65536 in
theorem w_c11 : (Jvm.Cond.code ({ cls := "com/example/bitfold/bitfold/ByteArrayWriter", name := "writeByte", desc := "(I)V" } : Jvm.MethodName) prog_3_method_12_code (2 : Nat) (Option.none : Option Jvm.ClassFile.FieldType)).before args0 about1 = true := code_word (m := ⟨2, 1⟩) (meth := k2m1) (c := k2c1) (by decide +kernel) rfl rfl rfl (by decide +kernel)
set_option maxRecDepth 65536 in
theorem w_c12 : (Jvm.Cond.code ({ cls := "java/lang/Math", name := "max", desc := "(JJ)J" } : Jvm.MethodName) jdk_29_method_66_code (4 : Nat) (Option.some Jvm.ClassFile.FieldType.long)).before args0 about1 = true := code_word (m := ⟨4, 1⟩) (meth := k4m1) (c := k4c1) (by decide +kernel) rfl rfl rfl (by decide +kernel)
set_option maxRecDepth 65536 in
theorem w_c13 : (Jvm.Cond.code ({ cls := "java/lang/Math", name := "min", desc := "(JJ)J" } : Jvm.MethodName) jdk_29_method_70_code (4 : Nat) (Option.some Jvm.ClassFile.FieldType.long)).before args0 about1 = true := code_word (m := ⟨4, 3⟩) (meth := k4m3) (c := k4c3) (by decide +kernel) rfl rfl rfl (by decide +kernel)
def codes1 : List Jvm.Cond := [Jvm.Cond.code x code maxLocals ret, Jvm.Cond.code ({ cls := "com/example/bitfold/bitfold/ByteArrayWriterToByteArrayPinLaw", name := "put8", desc := "([BIJ)V" } : Jvm.MethodName) method_3_code (4 : Nat) (Option.none : Option Jvm.ClassFile.FieldType), Jvm.Cond.code ({ cls := "com/example/bitfold/bitfold/ByteArrayWriter", name := "<init>", desc := "()V" } : Jvm.MethodName) prog_3_method_1_code (1 : Nat) (Option.none : Option Jvm.ClassFile.FieldType), Jvm.Cond.code ({ cls := "java/lang/Object", name := "<init>", desc := "()V" } : Jvm.MethodName) object_method_1_code (1 : Nat) (Option.none : Option Jvm.ClassFile.FieldType), Jvm.Cond.code ({ cls := "com/example/bitfold/bitfold/ByteArrayWriter", name := "toByteArray", desc := "()[B" } : Jvm.MethodName) prog_3_method_15_code (1 : Nat) (Option.some (Jvm.ClassFile.FieldType.array Jvm.ClassFile.FieldType.byte)), Jvm.Cond.code ({ cls := "java/util/Arrays", name := "copyOf", desc := "([BI)[B" } : Jvm.MethodName) jdk_65_method_121_code (3 : Nat) (Option.some (Jvm.ClassFile.FieldType.array Jvm.ClassFile.FieldType.byte)), Jvm.Cond.code ({ cls := "java/lang/Math", name := "min", desc := "(II)I" } : Jvm.MethodName) jdk_29_method_69_code (2 : Nat) (Option.some Jvm.ClassFile.FieldType.int), Jvm.Cond.code ({ cls := "com/example/bitfold/bitfold/ByteArrayWriter", name := "size", desc := "()I" } : Jvm.MethodName) prog_3_method_14_code (1 : Nat) (Option.some Jvm.ClassFile.FieldType.int), Jvm.Cond.code ({ cls := "com/example/bitfold/bitfold/ByteArrayWriter", name := "writeBytes", desc := "([B)V" } : Jvm.MethodName) prog_3_method_13_code (2 : Nat) (Option.none : Option Jvm.ClassFile.FieldType), Jvm.Cond.code ({ cls := "com/example/bitfold/bitfold/ByteArrayWriter", name := "ensureRoom", desc := "(I)V" } : Jvm.MethodName) prog_3_method_19_code (6 : Nat) (Option.none : Option Jvm.ClassFile.FieldType), Jvm.Cond.code ({ cls := "com/example/bitfold/bitfold/ByteArrayWriterToByteArrayPinLaw", name := "le8", desc := "([BI)J" } : Jvm.MethodName) method_2_code (4 : Nat) (Option.some Jvm.ClassFile.FieldType.long), Jvm.Cond.code ({ cls := "com/example/bitfold/bitfold/ByteArrayWriter", name := "writeByte", desc := "(I)V" } : Jvm.MethodName) prog_3_method_12_code (2 : Nat) (Option.none : Option Jvm.ClassFile.FieldType), Jvm.Cond.code ({ cls := "java/lang/Math", name := "max", desc := "(JJ)J" } : Jvm.MethodName) jdk_29_method_66_code (4 : Nat) (Option.some Jvm.ClassFile.FieldType.long), Jvm.Cond.code ({ cls := "java/lang/Math", name := "min", desc := "(JJ)J" } : Jvm.MethodName) jdk_29_method_70_code (4 : Nat) (Option.some Jvm.ClassFile.FieldType.long)]
set_option maxRecDepth 65536 in
theorem codes_eq : words1.filter isCode = codes1 := rfl
theorem w_codes : ∀ c ∈ words1.filter isCode, c.before args0 about1 = true := by
  rw [codes_eq]
  intro c hc
  simp only [codes1, List.mem_cons, List.not_mem_nil, or_false] at hc
  rcases hc with rfl | rfl | rfl | rfl | rfl | rfl | rfl | rfl | rfl | rfl | rfl | rfl | rfl | rfl
  · exact w_c0
  · exact w_c1
  · exact w_c2
  · exact w_c3
  · exact w_c4
  · exact w_c5
  · exact w_c6
  · exact w_c7
  · exact w_c8
  · exact w_c9
  · exact w_c10
  · exact w_c11
  · exact w_c12
  · exact w_c13
set_option maxRecDepth 65536 in
theorem w_t1 : (words1.take 24).all (fun c => isCode c || c.before args0 about1) = true := by decide +kernel
set_option maxRecDepth 65536 in
theorem w_t2 : ((words1.drop 24).take 24).all (fun c => isCode c || c.before args0 about1) = true := by decide +kernel
set_option maxRecDepth 65536 in
theorem w_t3 : (((words1.drop 24).drop 24).take 24).all (fun c => isCode c || c.before args0 about1) = true := by decide +kernel
set_option maxRecDepth 65536 in
theorem w_t4 : (((words1.drop 24).drop 24).drop 24).all (fun c => isCode c || c.before args0 about1) = true := by decide +kernel
theorem w_tables : (allAtoms (Jvm.Cond.code x code maxLocals ret :: tables_1)).before args0 about1 = true := by
  rw [allAtoms_all]
  show words1.all (fun c => c.before args0 about1) = true
  refine all_split ?_ w_codes
  rw [← List.take_append_drop 24 words1, List.all_append, w_t1, ← List.take_append_drop 24 (words1.drop 24), List.all_append, w_t2, ← List.take_append_drop 24 ((words1.drop 24).drop 24), List.all_append, w_t3, w_t4]
  rfl
set_option maxRecDepth 65536 in
theorem w_case : (Jvm.Cond.and given_1 narrow_1).before args0 about1 = true := by decide +kernel
theorem w_applies : (headSpec (Jvm.Cond.code x code maxLocals ret :: tables_1) room_1).applies x e0.platform about1 = true :=
  (Spec.applies_iff w_frames).mpr ⟨w_running, w_runnable, w_alone, w_named, w_hears, w_ripe, w_room, w_tables⟩
theorem atStart : AtStart classFile x code maxLocals ret World_1 tables_1 room_1 Calls_1 rest_1 Pre_1 launch0 p0 e0 about1 theMethod args0 below0 :=
  ⟨lists_1, trivial, launch0.admits_env _ _ _, launch0.least_env, fairChoices_fair.cas, fairChoices_fair.clock, w_frames, w_args, w_heap, w_applies, trivial, trivial, w_case⟩
end start1
theorem witness_1 : WitnessClaimed_1 := ⟨start1.p0, start1.e0, start1.about1, start1.theMethod, start1.args0, start1.below0, start1.atStart⟩
end Jvm.Pilot.@@N@@
