import JvmDerived
import JvmDerived.Pilot.@@N@@Statement
import JvmDerived.Pilot.@@N@@Code
set_option linter.unusedVariables false
set_option linter.unusedSimpArgs false
namespace Jvm.Pilot.@@N@@
open Jvm Jvm.ClassFile Sem Op Lib Jvm.Free Jvm.Stand Jvm.LawKit Jvm.RoadKit Bundle Jvm.Pilot.@@N@@.Jvm.D
/-! the goal of a walk, read forwards: from the state S the run comes to an end that P likes -/
def own_G (p : Program) (e : Env) (below : List Frame) (S : State) (P : State → Outcome → Prop) : Prop := ∃ s₂ o, Steps p.tables e below S s₂ ∧ s₂.status = .running ∧ Ended s₂ below o ∧ P s₂ o
theorem own_go {p : Program} {e : Env} {below : List Frame} {A B : State} {P : State → Outcome → Prop} (h : ∀ t, Steps p.tables e below A t → Steps p.tables e below B t) (g : own_G p e below A P) : own_G p e below B P := by
  obtain ⟨s₂, o, h1, h2⟩ := g
  exact ⟨s₂, o, h _ h1, h2⟩
theorem own_ret {p : Program} {l : Launch} {e : Env} {R : Room} {s : State} {m : MethodId} {args : Array Value} {below : List Frame} {meth : Method} {c : Code} {T : State} {locs : List Loc} {cells slots : Nat} (X : Stand p l e R s m args below meth c T locs cells slots) (hlocks : meth.locks = false) {v : Option Value} (hv : meth.sig.returnType = none → v = none) {g : JFrame} (Q : Option Value → Heap → List Loc → Prop) {C S : Nat}
    (st : ∀ fs : List Frame, (∀ (f : JFrame) (acts : List Action), f.method = m → f.locked = none → f.entered = [] → (doReturn e (T.setTop f) acts v).1 = T.setFrames fs) → Steps p.tables e below (T.setTop g) (T.setFrames fs))
    (hc : cells ≤ C) (hs : slots ≤ S) (hQ : Q v T.heap locs) : own_G p e below (T.setTop g) (fun s₂ o => ∃ v L, o = .returned v ∧ Q v s₂.heap L ∧ FrameEnd s o s₂ L C S) := by
  obtain ⟨fs, hr, hrun, hended, hW, hsame⟩ := X.leave (v := v) hv hlocks
  exact ⟨_, _, st fs hr, hrun, hended, _, _, rfl, hQ, ⟨_, rfl⟩, hW, hsame.mono hc hs⟩
theorem own_retI {p : Program} {l : Launch} {e : Env} {R : Room} {s : State} {m : MethodId} {args : Array Value} {below : List Frame} {meth : Method} {c : Code} {T : State} {locs : List Loc} {cells slots : Nat} (X : Stand p l e R s m args below meth c T locs cells slots) (hx : p.tables.exec = Jvm.exec) {pc : Nat} {Ls : Array Slot} {w : Value} {t : FieldType} {i : Instr} {rest : List Value} (hret : meth.sig.returnType = some t) (hn : narrow t w = w)
    (hi : (i = .ireturn ∧ (t = .int ∨ t = .boolean ∨ t = .byte ∨ t = .char ∨ t = .short) ∧ ∃ z, w = .int z) ∨ (i = .lreturn ∧ t = .long ∧ ∃ z, w = .long z) ∨ (i = .dreturn ∧ t = .double ∧ ∃ z, w = .double z) ∨ (i = .freturn ∧ t = .float ∧ ∃ z, w = .float z) ∨ (i = .areturn ∧ t.isReference = true ∧ w.isRef = true))
    (hd : decode c.code pc = .ok (i, 1)) (fs : List Frame) (hl : ∀ (f : JFrame) (acts : List Action), f.method = m → f.locked = none → f.entered = [] → (doReturn e (T.setTop f) acts (some w)).1 = T.setFrames fs) :
    Steps p.tables e below (T.setTop (mkF m pc Ls (w :: rest))) (T.setFrames fs) := retOut X hx hret hn hi hd hl
theorem own_retV {p : Program} {l : Launch} {e : Env} {R : Room} {s : State} {m : MethodId} {args : Array Value} {below : List Frame} {meth : Method} {c : Code} {T : State} {locs : List Loc} {cells slots : Nat} (X : Stand p l e R s m args below meth c T locs cells slots) (hx : p.tables.exec = Jvm.exec) {pc : Nat} {Ls : Array Slot} (hret : meth.sig.returnType = none)
    (hd : decode c.code pc = .ok (.return_, 1)) (fs : List Frame) (hl : ∀ (f : JFrame) (acts : List Action), f.method = m → f.locked = none → f.entered = [] → (doReturn e (T.setTop f) acts none).1 = T.setFrames fs) :
    Steps p.tables e below (T.setTop (mkF m pc Ls [])) (T.setFrames fs) := X.returnOut hx hret hd hl
theorem own_selects {s : State} {args : Array Value} {y : MethodName} {n : Nat} (hins : (Jvm.Cond.instantiable y.cls n).before args s = true) (hpriv : (Jvm.Cond.privateMethod y).before args s = true) (hinst : (Jvm.Cond.instanceMethod y).before args s = true) (hy : y.cls ≠ "java/lang/invoke/MethodHandle" ∧ y.cls ≠ "java/lang/invoke/VarHandle") :
    (Jvm.Cond.selects y.cls y y).before args s = true := by
  obtain ⟨c, k, hc, hk, -, hniab, -, -⟩ := Cond.instantiable_spec hins
  exact selects_self_of_private hc hk (Bool.or_eq_false_iff.mp hniab).1 (Cond.privateMethod_at hpriv) hinst hy
theorem own_bb (x : Int32) : nar .byte x.toInt8.toInt32 = x.toInt8.toInt32 := by
  show x.toInt8.toInt32.toInt8.toInt32 = _
  simp
theorem own_fit {z : Int32} (h : nar .byte z = z) : fits .byte (.int z) = true := by
  rw [← h]; exact fits_nar_byte z
theorem own_lt32 {a b : Int32} : a < b ↔ a.toInt < b.toInt := Int32.lt_iff_toInt_lt
/-! Arrays.copyOf(byte[], int): its two returning roads, in plain lists -/
def own_mini (a b : Int32) : Int32 := if b < a then b else a
theorem own_arv_of {Z : State} {h : Heap} {a : Addr} {k : ClassId} {ty : FieldType} {z : Int32} {vs vs' : List Value} {d : Value} (V : Arv Z h a k ty z vs d) (q : ∀ i, i < z.toNatClampNeg → vs'.getD i d = vs.getD i d) : Arv Z h a k ty z vs' d := by
  obtain ⟨c, A, r1, r2, r3, H, G⟩ := V
  exact ⟨c, A, r1, r2, r3, fun i hi => by rw [q i (r2 ▸ hi)]; exact H i hi, fun i hi => by rw [q i (r2 ▸ hi)]; exact G i hi⟩
theorem own_cp1 {Z : State} {h : Heap} {a : Addr} {k : ClassId} {ty : FieldType} {z y : Int32} {vs : List Value} {d : Value} (e : y = z) (V : Arv Z h a k ty z vs d) : Arv Z h a k ty y (vs.take y.toNatClampNeg) d := by
  subst e
  refine own_arv_of V fun i hi => ?_
  simp [List.getD_eq_getElem?_getD, List.getElem?_take, hi]
theorem own_nonneg {z : Int32} (h : ¬ z < 0) : z.toInt = (z.toNatClampNeg : Int) := nat_of h
theorem own_mini_nn {z y : Int32} (hz : ¬ z < 0) (hy : ¬ y < 0) : ¬ own_mini z y < 0 := by unfold own_mini; split <;> assumption
theorem own_mini_le {z y : Int32} (hz : ¬ z < 0) (hy : ¬ y < 0) : (own_mini z y).toNatClampNeg ≤ z.toNatClampNeg ∧ (own_mini z y).toNatClampNeg ≤ y.toNatClampNeg ∧ ((own_mini z y).toNatClampNeg = z.toNatClampNeg ∨ (own_mini z y).toNatClampNeg = y.toNatClampNeg) := by
  have h1 := own_nonneg hz
  have h2 := own_nonneg hy
  unfold own_mini
  split
  · rename_i h; rw [own_lt32] at h; exact ⟨by omega, by omega, Or.inr rfl⟩
  · rename_i h; rw [own_lt32] at h; exact ⟨by omega, by omega, Or.inl rfl⟩
theorem own_cplist {vs : List Value} {d : Value} {zn yn nn : Nat} (h1 : nn ≤ zn) (h2 : nn ≤ yn) (h3 : nn = zn ∨ nn = yn) (hv : vs.length ≤ zn) (i : Nat) (hi : i < yn) :
    (vs.take yn).getD i d = ((([] ++ List.replicate yn d).take 0) ++ ((List.range nn).map fun i => vs.getD (0 + i) d) ++ ([] ++ List.replicate yn d).drop (0 + nn)).getD i d := by
  simp only [List.getD_eq_getElem?_getD, List.getElem?_take, hi, if_true, List.take_zero, List.nil_append, Nat.zero_add]
  by_cases hn : i < nn
  · rw [List.getElem?_append_left (by simpa using hn)]
    simp [hn]
  · have hz : vs[i]? = none := by rw [List.getElem?_eq_none_iff]; omega
    rw [List.getElem?_append_right (by simpa using Nat.le_of_not_lt hn), hz]
    simp only [List.length_map, List.length_range, List.getElem?_drop, List.getElem?_replicate]
    rw [if_pos (by omega)]
    rfl
theorem own_cp2 {Z : State} {h : Heap} {a : Addr} {k : ClassId} {ty : FieldType} {z y : Int32} {vs : List Value} {d : Value} (hz : ¬ z < 0) (hy : ¬ y < 0) (hv : vs.length ≤ z.toNatClampNeg)
    (V : Arv Z h a k ty y ((([] ++ List.replicate y.toNatClampNeg d).take (0 : Int32).toNatClampNeg) ++ ((List.range (own_mini z y).toNatClampNeg).map fun i => vs.getD ((0 : Int32).toNatClampNeg + i) d) ++ ([] ++ List.replicate y.toNatClampNeg d).drop ((0 : Int32).toNatClampNeg + (own_mini z y).toNatClampNeg)) d) :
    Arv Z h a k ty y (vs.take y.toNatClampNeg) d := by
  obtain ⟨h1, h2, h3⟩ := own_mini_le hz hy
  exact own_arv_of V fun i hi => own_cplist h1 h2 h3 hv i hi
def own_maxi (a b : Int32) : Int32 := if a < b then b else a
/-! the bytes of a short, an int, a long, as the writer lays them -/
def own_hi (s : Int32) : Int32 := (XT.ushr s (8 : Int32)).toInt8.toInt32
def own_lo (s : Int32) : Int32 := s.toInt8.toInt32
def own_s0 (i : Int32) : Int32 := (XT.ushr i (16 : Int32)).toInt16.toInt32
def own_s1 (i : Int32) : Int32 := i.toInt16.toInt32
def own_i0 (q : Int64) : Int32 := (XT.ushrL q (32 : Int32)).toInt32
def own_i1 (q : Int64) : Int32 := q.toInt32
def own_gi (x0 x1 x2 x3 : Int32) : Int32 := ((((x0 &&& (255 : Int32)) <<< ((24 : Int32) &&& 31)) ||| ((x1 &&& (255 : Int32)) <<< ((16 : Int32) &&& 31))) ||| ((x2 &&& (255 : Int32)) <<< ((8 : Int32) &&& 31))) ||| (x3 &&& (255 : Int32))
def own_z (x : Int32) (k : Int32) : Int64 := ((x &&& (255 : Int32)).toInt64) <<< (k &&& 0x3f).toInt64
def own_gl (x0 x1 x2 x3 x4 x5 x6 x7 : Int32) : Int64 := (((((((own_z x0 56) ||| (own_z x1 48)) ||| (own_z x2 40)) ||| (own_z x3 32)) ||| (own_z x4 24)) ||| (own_z x5 16)) ||| (own_z x6 8)) ||| ((x7 &&& (255 : Int32)).toInt64)
theorem own_ff (i : Nat) : (255#32).getLsbD i = decide (i < 8) := by
  rw [show (255#32) = BitVec.setWidth 32 (BitVec.allOnes 8) from rfl, BitVec.getLsbD_setWidth, BitVec.getLsbD_allOnes]
  by_cases h : i < 8
  · simp [h]; omega
  · simp [h]
theorem own_i8 (x : Int32) : (x.toInt8.toInt32 &&& (255 : Int32)).toBitVec = x.toBitVec &&& 255#32 := by
  rw [Int32.toBitVec_and]
  show (x.toBitVec.signExtend 8).signExtend 32 &&& 255#32 = _
  apply BitVec.eq_of_getLsbD_eq
  intro i hi
  simp only [BitVec.getLsbD_and, BitVec.getLsbD_signExtend]
  by_cases h8 : i < 8
  · simp [h8, hi]
  · have : (255#32).getLsbD i = false := by rw [own_ff]; simp [h8]
    simp [this]
theorem own_ushrB (x y : Int32) (k : Nat) (hk : ((y &&& 31).toUInt32.toBitVec.toNat % 32) = k) : (XT.ushr x y).toBitVec = x.toBitVec >>> k := by
  show (x.toUInt32 >>> (y &&& 31).toUInt32).toBitVec = _
  rw [UInt32.toBitVec_shiftRight, BitVec.ushiftRight_eq', BitVec.toNat_umod, show (32 : BitVec 32).toNat = 32 from rfl, hk]
  rfl
theorem own_shb (b : Int64) (y : Int32) (k : Nat) (hy : (y.toInt64.toUInt64 &&& Int64.toUInt64 63).toBitVec.toNat % 64 = k) : (XT.ushrL b y).toBitVec = b.toBitVec >>> k := by
  show (b.toUInt64 >>> (y.toInt64.toUInt64 &&& Int64.toUInt64 63)).toBitVec = _
  rw [UInt64.toBitVec_shiftRight, BitVec.ushiftRight_eq', BitVec.toNat_umod, show (64 : BitVec 64).toNat = 64 from rfl, hy]
  rfl
/-- the byte x & 255, bit by bit: of the short s, high and low -/
theorem own_bhi (s : Int32) (j : Nat) : (own_hi s &&& (255 : Int32)).toBitVec.getLsbD j = (s.toBitVec.getLsbD (8 + j) && decide (j < 8)) := by
  unfold own_hi
  rw [own_i8, own_ushrB s 8 8 (by decide), BitVec.getLsbD_and, own_ff, BitVec.getLsbD_ushiftRight]
theorem own_blo (s : Int32) (j : Nat) : (own_lo s &&& (255 : Int32)).toBitVec.getLsbD j = (s.toBitVec.getLsbD j && decide (j < 8)) := by
  unfold own_lo
  rw [own_i8, BitVec.getLsbD_and, own_ff]
theorem own_bs0 (i : Int32) (j : Nat) (h : j < 16) : (own_s0 i).toBitVec.getLsbD j = i.toBitVec.getLsbD (16 + j) := by
  unfold own_s0
  show (((XT.ushr i 16).toBitVec.signExtend 16).signExtend 32).getLsbD j = _
  rw [own_ushrB i 16 16 (by decide)]
  simp [-BitVec.getLsbD_eq_getElem, BitVec.getLsbD_signExtend, h, show j < 32 by omega]
theorem own_bs1 (i : Int32) (j : Nat) (h : j < 16) : (own_s1 i).toBitVec.getLsbD j = i.toBitVec.getLsbD j := by
  unfold own_s1
  show ((i.toBitVec.signExtend 16).signExtend 32).getLsbD j = _
  simp [-BitVec.getLsbD_eq_getElem, BitVec.getLsbD_signExtend, h, show j < 32 by omega]
theorem own_bi0 (q : Int64) (j : Nat) (h : j < 32) : (own_i0 q).toBitVec.getLsbD j = q.toBitVec.getLsbD (32 + j) := by
  unfold own_i0
  show ((XT.ushrL q 32).toBitVec.signExtend 32).getLsbD j = _
  rw [own_shb q 32 32 (by decide)]
  simp [-BitVec.getLsbD_eq_getElem, BitVec.getLsbD_signExtend, h, show j < 64 by omega]
theorem own_bi1 (q : Int64) (j : Nat) (h : j < 32) : (own_i1 q).toBitVec.getLsbD j = q.toBitVec.getLsbD j := by
  unfold own_i1
  show (q.toBitVec.signExtend 32).getLsbD j = _
  simp [-BitVec.getLsbD_eq_getElem, BitVec.getLsbD_signExtend, h, show j < 64 by omega]
/-- the four bytes of an int, bit by bit -/
theorem own_y0 (i : Int32) (j : Nat) : (own_hi (own_s0 i) &&& (255 : Int32)).toBitVec.getLsbD j = (i.toBitVec.getLsbD (24 + j) && decide (j < 8)) := by
  rw [own_bhi]
  by_cases h : j < 8
  · rw [own_bs0 _ _ (by omega), show 16 + (8 + j) = 24 + j by omega]
  · simp [h]
theorem own_y1 (i : Int32) (j : Nat) : (own_lo (own_s0 i) &&& (255 : Int32)).toBitVec.getLsbD j = (i.toBitVec.getLsbD (16 + j) && decide (j < 8)) := by
  rw [own_blo]
  by_cases h : j < 8
  · rw [own_bs0 _ _ (by omega)]
  · simp [h]
theorem own_y2 (i : Int32) (j : Nat) : (own_hi (own_s1 i) &&& (255 : Int32)).toBitVec.getLsbD j = (i.toBitVec.getLsbD (8 + j) && decide (j < 8)) := by
  rw [own_bhi]
  by_cases h : j < 8
  · rw [own_bs1 _ _ (by omega)]
  · simp [h]
theorem own_y3 (i : Int32) (j : Nat) : (own_lo (own_s1 i) &&& (255 : Int32)).toBitVec.getLsbD j = (i.toBitVec.getLsbD j && decide (j < 8)) := by
  rw [own_blo]
  by_cases h : j < 8
  · rw [own_bs1 _ _ (by omega)]
  · simp [h]
theorem own_gi_eq (i : Int32) : own_gi (own_hi (own_s0 i)) (own_lo (own_s0 i)) (own_hi (own_s1 i)) (own_lo (own_s1 i)) = i := by
  apply Int32.toBitVec_inj.mp
  unfold own_gi
  rw [Int32.toBitVec_or, Int32.toBitVec_or, Int32.toBitVec_or, Int32.toBitVec_shiftLeft, Int32.toBitVec_shiftLeft, Int32.toBitVec_shiftLeft, BitVec.shiftLeft_eq', BitVec.shiftLeft_eq', BitVec.shiftLeft_eq']
  rw [show (((24 : Int32) &&& 31).toBitVec.smod 32).toNat = 24 from by decide, show (((16 : Int32) &&& 31).toBitVec.smod 32).toNat = 16 from by decide, show (((8 : Int32) &&& 31).toBitVec.smod 32).toNat = 8 from by decide]
  apply BitVec.eq_of_getLsbD_eq
  intro j hj
  simp only [BitVec.getLsbD_or, BitVec.getLsbD_shiftLeft, own_y0, own_y1, own_y2, own_y3]
  by_cases h1 : j < 8
  · simp [h1, show j < 16 by omega, show j < 24 by omega]
  by_cases h2 : j < 16
  · simp [h1, h2, hj, show j < 24 by omega, show 8 + (j - 8) = j by omega, show j - 8 < 8 by omega]
  by_cases h3 : j < 24
  · simp [h1, h2, h3, hj, show 16 + (j - 16) = j by omega, show j - 16 < 8 by omega, show ¬ j - 8 < 8 by omega]
  · simp [h1, h2, h3, hj, show 24 + (j - 24) = j by omega, show j - 24 < 8 by omega, show ¬ j - 8 < 8 by omega, show ¬ j - 16 < 8 by omega]
theorem own_zB (x : Int32) (k : Int32) (n : Nat) (hk : ((k &&& 0x3f).toInt64.toBitVec.smod 64).toNat = n) (f : Nat → Bool) (hx : ∀ j, (x &&& (255 : Int32)).toBitVec.getLsbD j = (f j && decide (j < 8))) (j : Nat) (hj : j < 64) : (own_z x k).toBitVec.getLsbD j = (!decide (j < n) && (f (j - n) && decide (j - n < 8))) := by
  unfold own_z
  rw [Int64.toBitVec_shiftLeft, BitVec.shiftLeft_eq', hk, BitVec.getLsbD_shiftLeft]
  have : ∀ j, j < 64 → ((x &&& (255 : Int32)).toInt64.toBitVec).getLsbD j = (f j && decide (j < 8)) := by
    intro j hj
    show ((x &&& (255 : Int32)).toBitVec.signExtend 64).getLsbD j = _
    rw [BitVec.getLsbD_signExtend]
    by_cases h : j < 32
    · simp only [hj, h, decide_true, Bool.true_and, if_true, hx]
    · have m : (x &&& (255 : Int32)).toBitVec.msb = false := by rw [BitVec.msb_eq_getLsbD_last, hx]; simp
      rw [if_neg h, m]; simp [show ¬ j < 8 by omega]
  by_cases hn : j < n
  · simp [hn]
  · rw [this _ (by omega)]; simp [hn, hj]
theorem own_zB0 (x : Int32) (f : Nat → Bool) (hx : ∀ j, (x &&& (255 : Int32)).toBitVec.getLsbD j = (f j && decide (j < 8))) (j : Nat) (hj : j < 64) : ((x &&& (255 : Int32)).toInt64).toBitVec.getLsbD j = (f j && decide (j < 8)) := by
  show ((x &&& (255 : Int32)).toBitVec.signExtend 64).getLsbD j = _
  rw [BitVec.getLsbD_signExtend]
  by_cases h : j < 32
  · simp only [hj, h, decide_true, Bool.true_and, if_true, hx]
  · have m : (x &&& (255 : Int32)).toBitVec.msb = false := by rw [BitVec.msb_eq_getLsbD_last, hx]; simp
    rw [if_neg h, m]; simp [show ¬ j < 8 by omega]
theorem own_gl_eq (q : Int64) : own_gl (own_hi (own_s0 (own_i0 q))) (own_lo (own_s0 (own_i0 q))) (own_hi (own_s1 (own_i0 q))) (own_lo (own_s1 (own_i0 q))) (own_hi (own_s0 (own_i1 q))) (own_lo (own_s0 (own_i1 q))) (own_hi (own_s1 (own_i1 q))) (own_lo (own_s1 (own_i1 q))) = q := by
  apply Int64.toBitVec_inj.mp
  unfold own_gl
  rw [Int64.toBitVec_or, Int64.toBitVec_or, Int64.toBitVec_or, Int64.toBitVec_or, Int64.toBitVec_or, Int64.toBitVec_or, Int64.toBitVec_or]
  apply BitVec.eq_of_getLsbD_eq
  intro j hj
  simp only [BitVec.getLsbD_or]
  rw [own_zB _ 56 56 (by decide) _ (own_y0 (own_i0 q)) j hj, own_zB _ 48 48 (by decide) _ (own_y1 (own_i0 q)) j hj, own_zB _ 40 40 (by decide) _ (own_y2 (own_i0 q)) j hj, own_zB _ 32 32 (by decide) _ (own_y3 (own_i0 q)) j hj, own_zB _ 24 24 (by decide) _ (own_y0 (own_i1 q)) j hj, own_zB _ 16 16 (by decide) _ (own_y1 (own_i1 q)) j hj, own_zB _ 8 8 (by decide) _ (own_y2 (own_i1 q)) j hj, own_zB0 _ _ (own_y3 (own_i1 q)) j hj]
  by_cases h1 : j < 8
  · simp [-BitVec.getLsbD_eq_getElem, h1, show j < 16 by omega, show j < 24 by omega, show j < 32 by omega, show j < 40 by omega, show j < 48 by omega, show j < 56 by omega, own_bi1 q j (by omega)]
  by_cases h2 : j < 16
  · simp [-BitVec.getLsbD_eq_getElem, h1, h2, show j < 24 by omega, show j < 32 by omega, show j < 40 by omega, show j < 48 by omega, show j < 56 by omega, show j - 8 < 8 by omega, show 8 + (j - 8) = j by omega, own_bi1 q j (by omega)]
  by_cases h3 : j < 24
  · simp [-BitVec.getLsbD_eq_getElem, h1, h2, h3, show j < 32 by omega, show j < 40 by omega, show j < 48 by omega, show j < 56 by omega, show j - 16 < 8 by omega, show ¬ j - 8 < 8 by omega, show 16 + (j - 16) = j by omega, own_bi1 q j (by omega)]
  by_cases h4 : j < 32
  · simp [-BitVec.getLsbD_eq_getElem, h1, h2, h3, h4, show j < 40 by omega, show j < 48 by omega, show j < 56 by omega, show j - 24 < 8 by omega, show ¬ j - 8 < 8 by omega, show ¬ j - 16 < 8 by omega, show 24 + (j - 24) = j by omega, own_bi1 q j (by omega)]
  by_cases h5 : j < 40
  · simp [-BitVec.getLsbD_eq_getElem, h1, h2, h3, h4, h5, show j < 48 by omega, show j < 56 by omega, show j - 32 < 8 by omega, show ¬ j - 8 < 8 by omega, show ¬ j - 16 < 8 by omega, show ¬ j - 24 < 8 by omega, own_bi0 q (j - 32) (by omega), show 32 + (j - 32) = j by omega]
  by_cases h6 : j < 48
  · simp [-BitVec.getLsbD_eq_getElem, h1, h2, h3, h4, h5, h6, show j < 56 by omega, show j - 40 < 8 by omega, show ¬ j - 8 < 8 by omega, show ¬ j - 16 < 8 by omega, show ¬ j - 24 < 8 by omega, show ¬ j - 32 < 8 by omega, own_bi0 q (8 + (j - 40)) (by omega), show 32 + (8 + (j - 40)) = j by omega]
  by_cases h7 : j < 56
  · simp [-BitVec.getLsbD_eq_getElem, h1, h2, h3, h4, h5, h6, h7, show j - 48 < 8 by omega, show ¬ j - 8 < 8 by omega, show ¬ j - 16 < 8 by omega, show ¬ j - 24 < 8 by omega, show ¬ j - 32 < 8 by omega, show ¬ j - 40 < 8 by omega, own_bi0 q (16 + (j - 48)) (by omega), show 32 + (16 + (j - 48)) = j by omega]
  · simp [-BitVec.getLsbD_eq_getElem, h1, h2, h3, h4, h5, h6, h7, show j - 56 < 8 by omega, show ¬ j - 8 < 8 by omega, show ¬ j - 16 < 8 by omega, show ¬ j - 24 < 8 by omega, show ¬ j - 32 < 8 by omega, show ¬ j - 40 < 8 by omega, show ¬ j - 48 < 8 by omega, own_bi0 q (24 + (j - 56)) (by omega), show 32 + (24 + (j - 56)) = j by omega]
def own_sb (s : Int32) : List Value := [.int (own_hi s), .int (own_lo s)]
def own_ib (i : Int32) : List Value := own_sb (own_s0 i) ++ own_sb (own_s1 i)
def own_lb (q : Int64) : List Value := own_ib (own_i0 q) ++ own_ib (own_i1 q)
theorem own_len_sb (s : Int32) : (own_sb s).length = 2 := rfl
theorem own_len_ib (s : Int32) : (own_ib s).length = 4 := rfl
theorem own_len_lb (s : Int64) : (own_lb s).length = 8 := rfl
theorem own_sb_eq (vs : List Value) (s : Int32) : (vs ++ [.int ((XT.ushr s (8 : Int32)).toInt8.toInt32)]) ++ [.int (s.toInt8.toInt32)] = vs ++ own_sb s := by rw [List.append_assoc]; rfl
theorem own_ib_eq (vs : List Value) (i : Int32) : (vs ++ own_sb ((XT.ushr i (16 : Int32)).toInt16.toInt32)) ++ own_sb (i.toInt16.toInt32) = vs ++ own_ib i := by rw [List.append_assoc]; rfl
theorem own_lb_eq (vs : List Value) (q : Int64) : (vs ++ own_ib ((XT.ushrL q (32 : Int32)).toInt32)) ++ own_ib (q.toInt32) = vs ++ own_lb q := by rw [List.append_assoc]; rfl
theorem own_ofI {n : Nat} (h : n ≤ 200) : (Int32.ofNat n).toInt = n := Int32.toInt_ofNat_of_lt (by omega)
theorem own_tn {n : Nat} (h : n ≤ 200) : (Int32.ofNat n).toNatClampNeg = n := by
  show (Int32.ofNat n).toInt.toNat = n
  rw [own_ofI h]; omega
theorem own_posI {z : Int32} (h : 1 ≤ z.toNatClampNeg) : z.toInt = (z.toNatClampNeg : Int) := by
  have : z.toNatClampNeg = z.toInt.toNat := rfl
  omega
theorem own_one (n : Nat) : Int32.ofNat n + (1 : Int32) = Int32.ofNat (n + 1) := (Int32.ofNat_add n 1).symm
theorem own_len1 (vs : List Value) (x : Value) : Int32.ofNat (vs ++ [x]).length = Int32.ofNat vs.length + (1 : Int32) := by
  rw [own_one]; simp
theorem own_hle {n : Nat} {z : Int32} (h : n + 1 ≤ z.toNatClampNeg) (hz : z.toNatClampNeg ≤ 64) : ¬ z < Int32.ofNat n + (1 : Int32) := by
  rw [own_one, own_lt32, own_ofI (by omega), own_posI (by omega)]; omega
theorem own_idx {n : Nat} {z : Int32} (h : n + 1 ≤ z.toNatClampNeg) (hz : z.toNatClampNeg ≤ 64) : ¬ Int32.ofNat n < 0 ∧ Int32.ofNat n < z := by
  have e := own_posI (z := z) (by omega)
  rw [own_lt32, own_lt32, own_ofI (by omega), show (0 : Int32).toInt = 0 from rfl]; omega
theorem own_of32 {vs : List Value} (h : vs.length = 32) : Int32.ofNat vs.length = (32 : Int32) := by rw [h]; rfl
theorem own_set (vs : List Value) (d v : Value) : (vs ++ List.replicate 1 d).set vs.length v = vs ++ [v] := by
  induction vs with
  | nil => rfl
  | cons a t ih => exact congrArg (a :: ·) ih
theorem own_rd {A l C u : List Value} {o z : Int32} {d : Value} (hu : u = A ++ l ++ C) (ho : o = Int32.ofNat A.length) (hlen : u.length ≤ 64) (hz : z = Int32.ofNat u.length) : ∀ j, j < l.length → ¬ (o + Int32.ofNat j) < 0 ∧ (o + Int32.ofNat j) < z ∧ u.getD (o + Int32.ofNat j).toNatClampNeg d = l.getD j d := by
  intro j hj
  have e : u.length = A.length + l.length + C.length := by rw [hu]; simp; try omega
  subst ho hz
  rw [← Int32.ofNat_add, own_tn (by omega), own_lt32, own_lt32, own_ofI (by omega), own_ofI (by omega), show (0 : Int32).toInt = 0 from rfl]
  refine ⟨by omega, by omega, ?_⟩
  subst hu
  rw [List.append_assoc, List.getD_eq_getElem?_getD, List.getElem?_append_right (by omega), show A.length + j - A.length = j by omega, List.getElem?_append_left hj, List.getD_eq_getElem?_getD]
/-- a part that is there or not -/
def own_opt (f : Int32) (l : List Value) : List Value := if f = 0 then [] else l
def own_opn (f k : Int32) : Int32 := if f = 0 then 0 else k
theorem own_opt_no {f : Int32} (h : f = 0) (l : List Value) : own_opt f l = [] := if_pos h
theorem own_opt_yes {f : Int32} (h : ¬ f = 0) (l : List Value) : own_opt f l = l := if_neg h
theorem own_opn_len (f k : Int32) (l : List Value) (h : k = Int32.ofNat l.length) : own_opn f k = Int32.ofNat (own_opt f l).length := by
  unfold own_opn own_opt; split
  · rfl
  · exact h
theorem own_sum (A B : List Value) : Int32.ofNat A.length + Int32.ofNat B.length = Int32.ofNat (A ++ B).length := by
  rw [← Int32.ofNat_add]; simp
theorem own_takeall (u : List Value) (h : u.length ≤ 200) : u.take (Int32.ofNat u.length).toNatClampNeg = u := by
  rw [own_tn h]; exact List.take_length ..
theorem own_ofnn {n : Nat} (h : n ≤ 200) : ¬ Int32.ofNat n < 0 := by
  rw [own_lt32, own_ofI h, show (0 : Int32).toInt = 0 from rfl]; omega
theorem own_push {Z : State} {h h' : Heap} {a : Addr} {k : ClassId} {ty : FieldType} {z j : Int32} {vs : List Value} {dv v : Value} {c : Cell} (A : Arr Z h a c ty) (q1 : c.cls = k) (S : c.slots.size = z.toNatClampNeg) (q3 : ¬ z < 0) (H : Has c vs dv) (G : ∀ i, i < c.slots.size → fits ty (vs.getD i dv) = true) (hv : fits ty v = true) (W : Wr h h' a j.toNatClampNeg v) (hj : j.toNatClampNeg = vs.length) : Arv Z h' a k ty z (vs ++ [v]) dv := by
  have V : Arv Z h a k ty z (vs ++ List.replicate 1 dv) dv := Arv.pad (⟨c, A, q1, S, q3, H, G⟩ : Arv Z h a k ty z vs dv) (pad_rep vs dv 1)
  obtain ⟨c', A', r1, r2, r3, H', G'⟩ := V
  have q := Arv.set A' r1 r2 r3 H' G' hv W vs.length hj (by simp)
  rw [own_set] at q
  exact q
theorem own_stay {u0 u1 l : List Value} {f o0 : Int32} (hu : u1 = u0 ++ own_opt f l) (h : f = 0) (ho : o0 = Int32.ofNat u0.length) : o0 = Int32.ofNat u1.length := by
  rw [hu, own_opt_no h, List.append_nil]; exact ho
theorem own_stepo {u0 u1 l : List Value} {f o0 k : Int32} (hu : u1 = u0 ++ own_opt f l) (h : ¬ f = 0) (ho : o0 = Int32.ofNat u0.length) (hk : k = Int32.ofNat l.length) : o0 + k = Int32.ofNat u1.length := by
  rw [hu, own_opt_yes h, ← own_sum, ← ho, ← hk]
theorem own_rd0 {A l C u : List Value} {o z : Int32} {d : Value} (hu : u = A ++ l ++ C) (ho : o = Int32.ofNat A.length) (hlen : u.length ≤ 64) (hz : z = Int32.ofNat u.length) (hl : 0 < l.length) : (¬ o < 0 ∧ o < z) ∧ u.getD o.toNatClampNeg d = l.getD 0 d := by
  have q := own_rd (d := d) hu ho hlen hz 0 hl
  rw [show o + Int32.ofNat 0 = o from Int32.add_zero _] at q
  exact ⟨⟨q.1, q.2.1⟩, q.2.2⟩
theorem own_cap {z : Int32} {n m : Nat} (hz : (z = 32 ∧ n ≤ 32) ∨ z = 64) (h : n ≤ m) (hm : m ≤ 64) : n ≤ z.toNatClampNeg := by
  rcases hz with ⟨rfl, h2⟩ | rfl
  · exact h2
  · exact Nat.le_trans h hm
theorem own_app0 {u : List Value} {x d : Value} (h : 0 < u.length) : (u ++ [x]).getD 0 d = u.getD 0 d := by
  rw [List.getD_eq_getElem?_getD, List.getElem?_append_left h, List.getD_eq_getElem?_getD]
theorem own_pos {n : Int32} {k : Nat} (hn : n = Int32.ofNat k) (hk : k ≤ 200) (h : (0 : Int32) < n) : 0 < k := by
  rw [hn, own_lt32, own_ofI hk, show (0 : Int32).toInt = 0 from rfl] at h; omega
theorem own_posI0 {k : Nat} (h : 0 < k) (hk : k ≤ 200) : (0 : Int32) < Int32.ofNat k := by
  rw [own_lt32, own_ofI hk, show (0 : Int32).toInt = 0 from rfl]; omega
theorem own_int {Z : State} {h : Heap} {a : Addr} {k : ClassId} {z : Int32} {u : List Value} {d : Value} (V : Arv Z h a k .byte z u d) {i : Nat} (hi : i < z.toNatClampNeg) : ∃ x, u.getD i d = .int x := by
  obtain ⟨c, A, r1, r2, r3, H, G⟩ := V
  exact fit_I (G i (r2 ▸ hi)) (by simp)
theorem d1_0 : decode prog_2_method_1_code 0 = .ok (.aload_n 0, 1) := by decide +kernel
theorem d1_1 : decode prog_2_method_1_code 1 = .ok (.invokespecial 1, 3) := by decide +kernel
theorem d1_4 : decode prog_2_method_1_code 4 = .ok (.aload_n 0, 1) := by decide +kernel
theorem d1_5 : decode prog_2_method_1_code 5 = .ok (.bipush 32, 2) := by decide +kernel
theorem d1_7 : decode prog_2_method_1_code 7 = .ok (.newarray .byte, 2) := by decide +kernel
theorem d1_9 : decode prog_2_method_1_code 9 = .ok (.putfield 7, 3) := by decide +kernel
theorem d1_12 : decode prog_2_method_1_code 12 = .ok (.return_, 1) := by decide +kernel
theorem d3_0 : decode prog_2_method_8_code 0 = .ok (.aload_n 0, 1) := by decide +kernel
theorem d3_1 : decode prog_2_method_8_code 1 = .ok (.getfield 7, 3) := by decide +kernel
theorem d3_4 : decode prog_2_method_8_code 4 = .ok (.aload_n 0, 1) := by decide +kernel
theorem d3_5 : decode prog_2_method_8_code 5 = .ok (.getfield 17, 3) := by decide +kernel
theorem d3_8 : decode prog_2_method_8_code 8 = .ok (.invokestatic 53, 3) := by decide +kernel
theorem d3_11 : decode prog_2_method_8_code 11 = .ok (.areturn, 1) := by decide +kernel
theorem d4_0 : decode jdk_65_method_121_code 0 = .ok (.iload_n 1, 1) := by decide +kernel
theorem d4_1 : decode jdk_65_method_121_code 1 = .ok (.aload_n 0, 1) := by decide +kernel
theorem d4_2 : decode jdk_65_method_121_code 2 = .ok (.arraylength, 1) := by decide +kernel
theorem d4_3 : decode jdk_65_method_121_code 3 = .ok (.if_icmp .ne 11, 3) := by decide +kernel
theorem d4_6 : decode jdk_65_method_121_code 6 = .ok (.aload_n 0, 1) := by decide +kernel
theorem d4_7 : decode jdk_65_method_121_code 7 = .ok (.invokevirtual 310, 3) := by decide +kernel
theorem d4_10 : decode jdk_65_method_121_code 10 = .ok (.checkcast 311, 3) := by decide +kernel
theorem d4_13 : decode jdk_65_method_121_code 13 = .ok (.areturn, 1) := by decide +kernel
theorem d4_14 : decode jdk_65_method_121_code 14 = .ok (.iload_n 1, 1) := by decide +kernel
theorem d4_15 : decode jdk_65_method_121_code 15 = .ok (.newarray .byte, 2) := by decide +kernel
theorem d4_17 : decode jdk_65_method_121_code 17 = .ok (.astore_n 2, 1) := by decide +kernel
theorem d4_18 : decode jdk_65_method_121_code 18 = .ok (.aload_n 0, 1) := by decide +kernel
theorem d4_19 : decode jdk_65_method_121_code 19 = .ok (.iconst 0, 1) := by decide +kernel
theorem d4_20 : decode jdk_65_method_121_code 20 = .ok (.aload_n 2, 1) := by decide +kernel
theorem d4_21 : decode jdk_65_method_121_code 21 = .ok (.iconst 0, 1) := by decide +kernel
theorem d4_22 : decode jdk_65_method_121_code 22 = .ok (.aload_n 0, 1) := by decide +kernel
theorem d4_23 : decode jdk_65_method_121_code 23 = .ok (.arraylength, 1) := by decide +kernel
theorem d4_24 : decode jdk_65_method_121_code 24 = .ok (.iload_n 1, 1) := by decide +kernel
theorem d4_25 : decode jdk_65_method_121_code 25 = .ok (.invokestatic 304, 3) := by decide +kernel
theorem d4_28 : decode jdk_65_method_121_code 28 = .ok (.invokestatic 150, 3) := by decide +kernel
theorem d4_31 : decode jdk_65_method_121_code 31 = .ok (.aload_n 2, 1) := by decide +kernel
theorem d4_32 : decode jdk_65_method_121_code 32 = .ok (.areturn, 1) := by decide +kernel
theorem d5_0 : decode jdk_29_method_69_code 0 = .ok (.iload_n 0, 1) := by decide +kernel
theorem d5_1 : decode jdk_29_method_69_code 1 = .ok (.iload_n 1, 1) := by decide +kernel
theorem d5_2 : decode jdk_29_method_69_code 2 = .ok (.if_icmp .gt 7, 3) := by decide +kernel
theorem d5_5 : decode jdk_29_method_69_code 5 = .ok (.iload_n 0, 1) := by decide +kernel
theorem d5_6 : decode jdk_29_method_69_code 6 = .ok (.goto 4, 3) := by decide +kernel
theorem d5_9 : decode jdk_29_method_69_code 9 = .ok (.iload_n 1, 1) := by decide +kernel
theorem d5_10 : decode jdk_29_method_69_code 10 = .ok (.ireturn, 1) := by decide +kernel
theorem d6_0 : decode prog_2_method_2_code 0 = .ok (.aload_n 0, 1) := by decide +kernel
theorem d6_1 : decode prog_2_method_2_code 1 = .ok (.iconst 1, 1) := by decide +kernel
theorem d6_2 : decode prog_2_method_2_code 2 = .ok (.invokevirtual 13, 3) := by decide +kernel
theorem d6_5 : decode prog_2_method_2_code 5 = .ok (.aload_n 0, 1) := by decide +kernel
theorem d6_6 : decode prog_2_method_2_code 6 = .ok (.getfield 7, 3) := by decide +kernel
theorem d6_9 : decode prog_2_method_2_code 9 = .ok (.aload_n 0, 1) := by decide +kernel
theorem d6_10 : decode prog_2_method_2_code 10 = .ok (.dup, 1) := by decide +kernel
theorem d6_11 : decode prog_2_method_2_code 11 = .ok (.getfield 17, 3) := by decide +kernel
theorem d6_14 : decode prog_2_method_2_code 14 = .ok (.dup_x1, 1) := by decide +kernel
theorem d6_15 : decode prog_2_method_2_code 15 = .ok (.iconst 1, 1) := by decide +kernel
theorem d6_16 : decode prog_2_method_2_code 16 = .ok (.iadd, 1) := by decide +kernel
theorem d6_17 : decode prog_2_method_2_code 17 = .ok (.putfield 17, 3) := by decide +kernel
theorem d6_20 : decode prog_2_method_2_code 20 = .ok (.iload_n 1, 1) := by decide +kernel
theorem d6_21 : decode prog_2_method_2_code 21 = .ok (.i2b, 1) := by decide +kernel
theorem d6_22 : decode prog_2_method_2_code 22 = .ok (.bastore, 1) := by decide +kernel
theorem d6_23 : decode prog_2_method_2_code 23 = .ok (.aload_n 0, 1) := by decide +kernel
theorem d6_24 : decode prog_2_method_2_code 24 = .ok (.areturn, 1) := by decide +kernel
theorem d7_0 : decode prog_2_method_9_code 0 = .ok (.aload_n 0, 1) := by decide +kernel
theorem d7_1 : decode prog_2_method_9_code 1 = .ok (.getfield 17, 3) := by decide +kernel
theorem d7_4 : decode prog_2_method_9_code 4 = .ok (.iload_n 1, 1) := by decide +kernel
theorem d7_5 : decode prog_2_method_9_code 5 = .ok (.iadd, 1) := by decide +kernel
theorem d7_6 : decode prog_2_method_9_code 6 = .ok (.aload_n 0, 1) := by decide +kernel
theorem d7_7 : decode prog_2_method_9_code 7 = .ok (.getfield 7, 3) := by decide +kernel
theorem d7_10 : decode prog_2_method_9_code 10 = .ok (.arraylength, 1) := by decide +kernel
theorem d7_11 : decode prog_2_method_9_code 11 = .ok (.if_icmp .le 30, 3) := by decide +kernel
theorem d7_14 : decode prog_2_method_9_code 14 = .ok (.aload_n 0, 1) := by decide +kernel
theorem d7_15 : decode prog_2_method_9_code 15 = .ok (.aload_n 0, 1) := by decide +kernel
theorem d7_16 : decode prog_2_method_9_code 16 = .ok (.getfield 7, 3) := by decide +kernel
theorem d7_19 : decode prog_2_method_9_code 19 = .ok (.aload_n 0, 1) := by decide +kernel
theorem d7_20 : decode prog_2_method_9_code 20 = .ok (.getfield 7, 3) := by decide +kernel
theorem d7_23 : decode prog_2_method_9_code 23 = .ok (.arraylength, 1) := by decide +kernel
theorem d7_24 : decode prog_2_method_9_code 24 = .ok (.iconst 2, 1) := by decide +kernel
theorem d7_25 : decode prog_2_method_9_code 25 = .ok (.imul, 1) := by decide +kernel
theorem d7_26 : decode prog_2_method_9_code 26 = .ok (.aload_n 0, 1) := by decide +kernel
theorem d7_27 : decode prog_2_method_9_code 27 = .ok (.getfield 17, 3) := by decide +kernel
theorem d7_30 : decode prog_2_method_9_code 30 = .ok (.iload_n 1, 1) := by decide +kernel
theorem d7_31 : decode prog_2_method_9_code 31 = .ok (.iadd, 1) := by decide +kernel
theorem d7_32 : decode prog_2_method_9_code 32 = .ok (.invokestatic 59, 3) := by decide +kernel
theorem d7_35 : decode prog_2_method_9_code 35 = .ok (.invokestatic 53, 3) := by decide +kernel
theorem d7_38 : decode prog_2_method_9_code 38 = .ok (.putfield 7, 3) := by decide +kernel
theorem d7_41 : decode prog_2_method_9_code 41 = .ok (.return_, 1) := by decide +kernel
theorem d8_0 : decode prog_2_method_5_code 0 = .ok (.aload_n 0, 1) := by decide +kernel
theorem d8_1 : decode prog_2_method_5_code 1 = .ok (.lload_n 1, 1) := by decide +kernel
theorem d8_2 : decode prog_2_method_5_code 2 = .ok (.bipush 32, 2) := by decide +kernel
theorem d8_4 : decode prog_2_method_5_code 4 = .ok (.lushr, 1) := by decide +kernel
theorem d8_5 : decode prog_2_method_5_code 5 = .ok (.l2i, 1) := by decide +kernel
theorem d8_6 : decode prog_2_method_5_code 6 = .ok (.invokevirtual 29, 3) := by decide +kernel
theorem d8_9 : decode prog_2_method_5_code 9 = .ok (.lload_n 1, 1) := by decide +kernel
theorem d8_10 : decode prog_2_method_5_code 10 = .ok (.l2i, 1) := by decide +kernel
theorem d8_11 : decode prog_2_method_5_code 11 = .ok (.invokevirtual 29, 3) := by decide +kernel
theorem d8_14 : decode prog_2_method_5_code 14 = .ok (.areturn, 1) := by decide +kernel
theorem d9_0 : decode prog_2_method_4_code 0 = .ok (.aload_n 0, 1) := by decide +kernel
theorem d9_1 : decode prog_2_method_4_code 1 = .ok (.iload_n 1, 1) := by decide +kernel
theorem d9_2 : decode prog_2_method_4_code 2 = .ok (.bipush 16, 2) := by decide +kernel
theorem d9_4 : decode prog_2_method_4_code 4 = .ok (.iushr, 1) := by decide +kernel
theorem d9_5 : decode prog_2_method_4_code 5 = .ok (.i2s, 1) := by decide +kernel
theorem d9_6 : decode prog_2_method_4_code 6 = .ok (.invokevirtual 25, 3) := by decide +kernel
theorem d9_9 : decode prog_2_method_4_code 9 = .ok (.iload_n 1, 1) := by decide +kernel
theorem d9_10 : decode prog_2_method_4_code 10 = .ok (.i2s, 1) := by decide +kernel
theorem d9_11 : decode prog_2_method_4_code 11 = .ok (.invokevirtual 25, 3) := by decide +kernel
theorem d9_14 : decode prog_2_method_4_code 14 = .ok (.areturn, 1) := by decide +kernel
theorem d10_0 : decode prog_2_method_3_code 0 = .ok (.aload_n 0, 1) := by decide +kernel
theorem d10_1 : decode prog_2_method_3_code 1 = .ok (.iload_n 1, 1) := by decide +kernel
theorem d10_2 : decode prog_2_method_3_code 2 = .ok (.bipush 8, 2) := by decide +kernel
theorem d10_4 : decode prog_2_method_3_code 4 = .ok (.iushr, 1) := by decide +kernel
theorem d10_5 : decode prog_2_method_3_code 5 = .ok (.invokevirtual 21, 3) := by decide +kernel
theorem d10_8 : decode prog_2_method_3_code 8 = .ok (.iload_n 1, 1) := by decide +kernel
theorem d10_9 : decode prog_2_method_3_code 9 = .ok (.invokevirtual 21, 3) := by decide +kernel
theorem d10_12 : decode prog_2_method_3_code 12 = .ok (.areturn, 1) := by decide +kernel
theorem d11_0 : decode method_2_code 0 = .ok (.aload_n 0, 1) := by decide +kernel
theorem d11_1 : decode method_2_code 1 = .ok (.iload_n 1, 1) := by decide +kernel
theorem d11_2 : decode method_2_code 2 = .ok (.baload, 1) := by decide +kernel
theorem d11_3 : decode method_2_code 3 = .ok (.sipush 255, 3) := by decide +kernel
theorem d11_6 : decode method_2_code 6 = .ok (.iand, 1) := by decide +kernel
theorem d11_7 : decode method_2_code 7 = .ok (.i2l, 1) := by decide +kernel
theorem d11_8 : decode method_2_code 8 = .ok (.bipush 56, 2) := by decide +kernel
theorem d11_10 : decode method_2_code 10 = .ok (.lshl, 1) := by decide +kernel
theorem d11_11 : decode method_2_code 11 = .ok (.aload_n 0, 1) := by decide +kernel
theorem d11_12 : decode method_2_code 12 = .ok (.iload_n 1, 1) := by decide +kernel
theorem d11_13 : decode method_2_code 13 = .ok (.iconst 1, 1) := by decide +kernel
theorem d11_14 : decode method_2_code 14 = .ok (.iadd, 1) := by decide +kernel
theorem d11_15 : decode method_2_code 15 = .ok (.baload, 1) := by decide +kernel
theorem d11_16 : decode method_2_code 16 = .ok (.sipush 255, 3) := by decide +kernel
theorem d11_19 : decode method_2_code 19 = .ok (.iand, 1) := by decide +kernel
theorem d11_20 : decode method_2_code 20 = .ok (.i2l, 1) := by decide +kernel
theorem d11_21 : decode method_2_code 21 = .ok (.bipush 48, 2) := by decide +kernel
theorem d11_23 : decode method_2_code 23 = .ok (.lshl, 1) := by decide +kernel
theorem d11_24 : decode method_2_code 24 = .ok (.lor, 1) := by decide +kernel
theorem d11_25 : decode method_2_code 25 = .ok (.aload_n 0, 1) := by decide +kernel
theorem d11_26 : decode method_2_code 26 = .ok (.iload_n 1, 1) := by decide +kernel
theorem d11_27 : decode method_2_code 27 = .ok (.iconst 2, 1) := by decide +kernel
theorem d11_28 : decode method_2_code 28 = .ok (.iadd, 1) := by decide +kernel
theorem d11_29 : decode method_2_code 29 = .ok (.baload, 1) := by decide +kernel
theorem d11_30 : decode method_2_code 30 = .ok (.sipush 255, 3) := by decide +kernel
theorem d11_33 : decode method_2_code 33 = .ok (.iand, 1) := by decide +kernel
theorem d11_34 : decode method_2_code 34 = .ok (.i2l, 1) := by decide +kernel
theorem d11_35 : decode method_2_code 35 = .ok (.bipush 40, 2) := by decide +kernel
theorem d11_37 : decode method_2_code 37 = .ok (.lshl, 1) := by decide +kernel
theorem d11_38 : decode method_2_code 38 = .ok (.lor, 1) := by decide +kernel
theorem d11_39 : decode method_2_code 39 = .ok (.aload_n 0, 1) := by decide +kernel
theorem d11_40 : decode method_2_code 40 = .ok (.iload_n 1, 1) := by decide +kernel
theorem d11_41 : decode method_2_code 41 = .ok (.iconst 3, 1) := by decide +kernel
theorem d11_42 : decode method_2_code 42 = .ok (.iadd, 1) := by decide +kernel
theorem d11_43 : decode method_2_code 43 = .ok (.baload, 1) := by decide +kernel
theorem d11_44 : decode method_2_code 44 = .ok (.sipush 255, 3) := by decide +kernel
theorem d11_47 : decode method_2_code 47 = .ok (.iand, 1) := by decide +kernel
theorem d11_48 : decode method_2_code 48 = .ok (.i2l, 1) := by decide +kernel
theorem d11_49 : decode method_2_code 49 = .ok (.bipush 32, 2) := by decide +kernel
theorem d11_51 : decode method_2_code 51 = .ok (.lshl, 1) := by decide +kernel
theorem d11_52 : decode method_2_code 52 = .ok (.lor, 1) := by decide +kernel
theorem d11_53 : decode method_2_code 53 = .ok (.aload_n 0, 1) := by decide +kernel
theorem d11_54 : decode method_2_code 54 = .ok (.iload_n 1, 1) := by decide +kernel
theorem d11_55 : decode method_2_code 55 = .ok (.iconst 4, 1) := by decide +kernel
theorem d11_56 : decode method_2_code 56 = .ok (.iadd, 1) := by decide +kernel
theorem d11_57 : decode method_2_code 57 = .ok (.baload, 1) := by decide +kernel
theorem d11_58 : decode method_2_code 58 = .ok (.sipush 255, 3) := by decide +kernel
theorem d11_61 : decode method_2_code 61 = .ok (.iand, 1) := by decide +kernel
theorem d11_62 : decode method_2_code 62 = .ok (.i2l, 1) := by decide +kernel
theorem d11_63 : decode method_2_code 63 = .ok (.bipush 24, 2) := by decide +kernel
theorem d11_65 : decode method_2_code 65 = .ok (.lshl, 1) := by decide +kernel
theorem d11_66 : decode method_2_code 66 = .ok (.lor, 1) := by decide +kernel
theorem d11_67 : decode method_2_code 67 = .ok (.aload_n 0, 1) := by decide +kernel
theorem d11_68 : decode method_2_code 68 = .ok (.iload_n 1, 1) := by decide +kernel
theorem d11_69 : decode method_2_code 69 = .ok (.iconst 5, 1) := by decide +kernel
theorem d11_70 : decode method_2_code 70 = .ok (.iadd, 1) := by decide +kernel
theorem d11_71 : decode method_2_code 71 = .ok (.baload, 1) := by decide +kernel
theorem d11_72 : decode method_2_code 72 = .ok (.sipush 255, 3) := by decide +kernel
theorem d11_75 : decode method_2_code 75 = .ok (.iand, 1) := by decide +kernel
theorem d11_76 : decode method_2_code 76 = .ok (.i2l, 1) := by decide +kernel
theorem d11_77 : decode method_2_code 77 = .ok (.bipush 16, 2) := by decide +kernel
theorem d11_79 : decode method_2_code 79 = .ok (.lshl, 1) := by decide +kernel
theorem d11_80 : decode method_2_code 80 = .ok (.lor, 1) := by decide +kernel
theorem d11_81 : decode method_2_code 81 = .ok (.aload_n 0, 1) := by decide +kernel
theorem d11_82 : decode method_2_code 82 = .ok (.iload_n 1, 1) := by decide +kernel
theorem d11_83 : decode method_2_code 83 = .ok (.bipush 6, 2) := by decide +kernel
theorem d11_85 : decode method_2_code 85 = .ok (.iadd, 1) := by decide +kernel
theorem d11_86 : decode method_2_code 86 = .ok (.baload, 1) := by decide +kernel
theorem d11_87 : decode method_2_code 87 = .ok (.sipush 255, 3) := by decide +kernel
theorem d11_90 : decode method_2_code 90 = .ok (.iand, 1) := by decide +kernel
theorem d11_91 : decode method_2_code 91 = .ok (.i2l, 1) := by decide +kernel
theorem d11_92 : decode method_2_code 92 = .ok (.bipush 8, 2) := by decide +kernel
theorem d11_94 : decode method_2_code 94 = .ok (.lshl, 1) := by decide +kernel
theorem d11_95 : decode method_2_code 95 = .ok (.lor, 1) := by decide +kernel
theorem d11_96 : decode method_2_code 96 = .ok (.aload_n 0, 1) := by decide +kernel
theorem d11_97 : decode method_2_code 97 = .ok (.iload_n 1, 1) := by decide +kernel
theorem d11_98 : decode method_2_code 98 = .ok (.bipush 7, 2) := by decide +kernel
theorem d11_100 : decode method_2_code 100 = .ok (.iadd, 1) := by decide +kernel
theorem d11_101 : decode method_2_code 101 = .ok (.baload, 1) := by decide +kernel
theorem d11_102 : decode method_2_code 102 = .ok (.sipush 255, 3) := by decide +kernel
theorem d11_105 : decode method_2_code 105 = .ok (.iand, 1) := by decide +kernel
theorem d11_106 : decode method_2_code 106 = .ok (.i2l, 1) := by decide +kernel
theorem d11_107 : decode method_2_code 107 = .ok (.lor, 1) := by decide +kernel
theorem d11_108 : decode method_2_code 108 = .ok (.lreturn, 1) := by decide +kernel
theorem d12_0 : decode method_3_code 0 = .ok (.aload_n 0, 1) := by decide +kernel
theorem d12_1 : decode method_3_code 1 = .ok (.iload_n 1, 1) := by decide +kernel
theorem d12_2 : decode method_3_code 2 = .ok (.baload, 1) := by decide +kernel
theorem d12_3 : decode method_3_code 3 = .ok (.sipush 255, 3) := by decide +kernel
theorem d12_6 : decode method_3_code 6 = .ok (.iand, 1) := by decide +kernel
theorem d12_7 : decode method_3_code 7 = .ok (.bipush 24, 2) := by decide +kernel
theorem d12_9 : decode method_3_code 9 = .ok (.ishl, 1) := by decide +kernel
theorem d12_10 : decode method_3_code 10 = .ok (.aload_n 0, 1) := by decide +kernel
theorem d12_11 : decode method_3_code 11 = .ok (.iload_n 1, 1) := by decide +kernel
theorem d12_12 : decode method_3_code 12 = .ok (.iconst 1, 1) := by decide +kernel
theorem d12_13 : decode method_3_code 13 = .ok (.iadd, 1) := by decide +kernel
theorem d12_14 : decode method_3_code 14 = .ok (.baload, 1) := by decide +kernel
theorem d12_15 : decode method_3_code 15 = .ok (.sipush 255, 3) := by decide +kernel
theorem d12_18 : decode method_3_code 18 = .ok (.iand, 1) := by decide +kernel
theorem d12_19 : decode method_3_code 19 = .ok (.bipush 16, 2) := by decide +kernel
theorem d12_21 : decode method_3_code 21 = .ok (.ishl, 1) := by decide +kernel
theorem d12_22 : decode method_3_code 22 = .ok (.ior, 1) := by decide +kernel
theorem d12_23 : decode method_3_code 23 = .ok (.aload_n 0, 1) := by decide +kernel
theorem d12_24 : decode method_3_code 24 = .ok (.iload_n 1, 1) := by decide +kernel
theorem d12_25 : decode method_3_code 25 = .ok (.iconst 2, 1) := by decide +kernel
theorem d12_26 : decode method_3_code 26 = .ok (.iadd, 1) := by decide +kernel
theorem d12_27 : decode method_3_code 27 = .ok (.baload, 1) := by decide +kernel
theorem d12_28 : decode method_3_code 28 = .ok (.sipush 255, 3) := by decide +kernel
theorem d12_31 : decode method_3_code 31 = .ok (.iand, 1) := by decide +kernel
theorem d12_32 : decode method_3_code 32 = .ok (.bipush 8, 2) := by decide +kernel
theorem d12_34 : decode method_3_code 34 = .ok (.ishl, 1) := by decide +kernel
theorem d12_35 : decode method_3_code 35 = .ok (.ior, 1) := by decide +kernel
theorem d12_36 : decode method_3_code 36 = .ok (.aload_n 0, 1) := by decide +kernel
theorem d12_37 : decode method_3_code 37 = .ok (.iload_n 1, 1) := by decide +kernel
theorem d12_38 : decode method_3_code 38 = .ok (.iconst 3, 1) := by decide +kernel
theorem d12_39 : decode method_3_code 39 = .ok (.iadd, 1) := by decide +kernel
theorem d12_40 : decode method_3_code 40 = .ok (.baload, 1) := by decide +kernel
theorem d12_41 : decode method_3_code 41 = .ok (.sipush 255, 3) := by decide +kernel
theorem d12_44 : decode method_3_code 44 = .ok (.iand, 1) := by decide +kernel
theorem d12_45 : decode method_3_code 45 = .ok (.ior, 1) := by decide +kernel
theorem d12_46 : decode method_3_code 46 = .ok (.ireturn, 1) := by decide +kernel
theorem d13_0 : decode jdk_29_method_65_code 0 = .ok (.iload_n 0, 1) := by decide +kernel
theorem d13_1 : decode jdk_29_method_65_code 1 = .ok (.iload_n 1, 1) := by decide +kernel
theorem d13_2 : decode jdk_29_method_65_code 2 = .ok (.if_icmp .lt 7, 3) := by decide +kernel
theorem d13_5 : decode jdk_29_method_65_code 5 = .ok (.iload_n 0, 1) := by decide +kernel
theorem d13_6 : decode jdk_29_method_65_code 6 = .ok (.goto 4, 3) := by decide +kernel
theorem d13_9 : decode jdk_29_method_65_code 9 = .ok (.iload_n 1, 1) := by decide +kernel
theorem d13_10 : decode jdk_29_method_65_code 10 = .ok (.ireturn, 1) := by decide +kernel
theorem pn_0 : plainName "com/example/orbweave/orbweave/ByteWriterToByteArrayPinLaw" = true := by first | (simp [plainName, overriddenIn]; done) | decide +kernel
theorem pn_1 : plainName "com/example/orbweave/orbweave/ByteWriter" = true := by first | (simp [plainName, overriddenIn]; done) | decide +kernel
theorem pn_3 : plainName "com/example/orbweave/orbweave/ByteWriter" = true := by first | (simp [plainName, overriddenIn]; done) | decide +kernel
theorem pn_4 : plainName "java/util/Arrays" = true := by first | (simp [plainName, overriddenIn]; done) | decide +kernel
theorem pn_6 : plainName "com/example/orbweave/orbweave/ByteWriter" = true := by first | (simp [plainName, overriddenIn]; done) | decide +kernel
theorem pn_7 : plainName "com/example/orbweave/orbweave/ByteWriter" = true := by first | (simp [plainName, overriddenIn]; done) | decide +kernel
theorem pn_8 : plainName "com/example/orbweave/orbweave/ByteWriter" = true := by first | (simp [plainName, overriddenIn]; done) | decide +kernel
theorem pn_9 : plainName "com/example/orbweave/orbweave/ByteWriter" = true := by first | (simp [plainName, overriddenIn]; done) | decide +kernel
theorem pn_10 : plainName "com/example/orbweave/orbweave/ByteWriter" = true := by first | (simp [plainName, overriddenIn]; done) | decide +kernel
theorem pn_11 : plainName "com/example/orbweave/orbweave/ByteWriterToByteArrayPinLaw" = true := by first | (simp [plainName, overriddenIn]; done) | decide +kernel
theorem pn_12 : plainName "com/example/orbweave/orbweave/ByteWriterToByteArrayPinLaw" = true := by first | (simp [plainName, overriddenIn]; done) | decide +kernel
theorem pd_0 : parseMethodDescriptor "(II)I" = some ⟨[.int, .int], some .int⟩ := by decide +kernel
theorem pd_1 : parseMethodDescriptor "([BI)[B" = some ⟨[(.array .byte), .int], some (.array .byte)⟩ := by decide +kernel
theorem pd_2 : parseMethodDescriptor "(I)V" = some ⟨[.int], none⟩ := by decide +kernel
theorem pd_3 : parseMethodDescriptor "(I)Lcom/example/orbweave/orbweave/ByteWriter;" = some ⟨[.int], some (.object "com/example/orbweave/orbweave/ByteWriter")⟩ := by decide +kernel
theorem pd_4 : parseMethodDescriptor "(S)Lcom/example/orbweave/orbweave/ByteWriter;" = some ⟨[.short], some (.object "com/example/orbweave/orbweave/ByteWriter")⟩ := by decide +kernel
theorem pd_5 : parseMethodDescriptor "()V" = some ⟨[], none⟩ := by decide +kernel
theorem pd_6 : parseMethodDescriptor "(J)Lcom/example/orbweave/orbweave/ByteWriter;" = some ⟨[.long], some (.object "com/example/orbweave/orbweave/ByteWriter")⟩ := by decide +kernel
theorem pd_7 : parseMethodDescriptor "()[B" = some ⟨[], some (.array .byte)⟩ := by decide +kernel
theorem pd_8 : parseMethodDescriptor "([BI)J" = some ⟨[(.array .byte), .int], some .long⟩ := by decide +kernel
theorem pd_9 : parseMethodDescriptor "([BI)I" = some ⟨[(.array .byte), .int], some .int⟩ := by decide +kernel
theorem ef_1 (m : MethodId) (a1 : Addr) : entryFrame m #[(.ref a1)] 1 = mkF m 0 #[.val (.ref a1)] [] := by first | (simp [entryFrame, mkF, argsToLocals, Value.category]; done) | rfl
def Q1 (Z : State) (a1 : Addr) (h0 : Heap) (n0 : Nat) (v : Option Value) (h : Heap) (L : List Loc) : Prop := ∃ (b : Addr) (k : ClassId), v = none ∧ Fr n0 L ∧ Keep h0 h [a1] ∧ h0.size ≤ b ∧ Exa Z h a1 "com/example/orbweave/orbweave/ByteWriter" ∧ Fld Z h a1 "com/example/orbweave/orbweave/ByteWriter" "_bytes" "[B" (.ref b) ∧ Fld Z h a1 "com/example/orbweave/orbweave/ByteWriter" "_length" "I" (.int (Int32.ofNat ([] : List Value).length)) ∧ Exa Z h b "[B" ∧ Arv Z h b k .byte (32 : Int32) ([] : List Value) (.int (0 : Int32))
set_option maxRecDepth 65536 in
set_option maxHeartbeats 40000000 in
theorem rm1 (l : Launch) (Z : State) (a0 : Array Value) (hw : ∀ d ∈ tables_1, d.before a0 Z = true) (ws : List Jvm.Cond) (a1 : Addr) (h0 : Heap) (n0 : Nat) (Z0 : n0 ≤ h0.size) (E_a1 : Exa Z h0 a1 "com/example/orbweave/orbweave/ByteWriter") (F__bytes_a1 : Fld Z h0 a1 "com/example/orbweave/orbweave/ByteWriter" "_bytes" "[B" .null) (F__length_a1 : Fld Z h0 a1 "com/example/orbweave/orbweave/ByteWriter" "_length" "I" (.int (0 : Int32))) (g_a1 : n0 ≤ a1) :
    MetFree l (⟨"com/example/orbweave/orbweave/ByteWriter", "<init>", "()V"⟩ : MethodName) (head1 (Jvm.Cond.code (⟨"com/example/orbweave/orbweave/ByteWriter", "<init>", "()V"⟩ : MethodName) prog_2_method_1_code 1 none :: ws) ({ frames := 1, cells := 1, slots := 32, locals := 12 } : Room)) (fun a U => a = #[(.ref a1)] ∧ Z.Warmed39 U.vm ∧ U.heap = h0) (fun _ _ _ _ _ => True) (fun _ U o U' => ∃ v L, o = .returned v ∧ Q1 Z a1 h0 n0 v U'.heap L ∧ FrameEnd U o U' L ({ frames := 1, cells := 1, slots := 32, locals := 12 } : Room).cells ({ frames := 1, cells := 1, slots := 32, locals := 12 } : Room).slots) := by
  refine MetFree.of_bodySF (plainFor_of_name pn_1) hisR ?_
  intro p e s m args below meth c s₁ Bd hml0 hP hK
  obtain ⟨rfl, hZ, hh⟩ := hP
  have hx := Bd.exec
  have hby := Bd.bytes
  have hml : c.maxLocals = 1 := hml0
  have hown : s.vm.findClass "com/example/orbweave/orbweave/ByteWriter" = some m.cls := findClass_of_methodNamed Bd.named
  have hnm := (name_of_methodNamed Bd.named Bd.method).1
  have hlk := Bd.notSynchronized
  have hret := Bd.returns
  have X0 : Stand p l e ({ frames := 1, cells := 1, slots := 32, locals := 12 } : Room) s m #[(.ref a1)] below meth c s₁ [] 0 0 := Stand.of_body Bd
  have e0 : s₁.heap = h0 := by rw [← hh, Bd.state]; rfl
  have N0 := Fr.nil n0
  show own_G p e below (s₁.setTop (entryFrame m #[(.ref a1)] 1)) (fun s₂ o => ∃ v L, o = .returned v ∧ Q1 Z a1 h0 n0 v s₂.heap L ∧ FrameEnd s o s₂ L ({ frames := 1, cells := 1, slots := 32, locals := 12 } : Room).cells ({ frames := 1, cells := 1, slots := 32, locals := 12 } : Room).slots)
  refine own_go (fun t k => castTop (ef_1 m a1) k) ?_
  show own_G p e below (s₁.setTop (mkF m 0 #[.val (.ref a1)] [])) _
  refine own_go (fun _ k => XS.aloadN X0.here hx rfl (hb hby d1_0) rfl rfl k) ?_
  show own_G p e below (s₁.setTop (mkF m 1 #[.val (.ref a1)] [(.ref a1)])) _
  obtain ⟨T1, X1, e1, st1⟩ := initO X0 hx hZ hown (hw _ (List.mem_of_getElem? (i := 6) rfl)) (hw _ (List.mem_of_getElem? (i := 7) rfl)) (hw _ (List.mem_of_getElem? (i := 8) rfl)) e0 (g := (mkF m 1 #[.val (.ref a1)] [(.ref a1)])) rfl (by rw [hml]; rfl) rfl (hb hby d1_1) (by decide) (W := 0) (by show 2 * 0 + _ ≤ _; exact Nat.le_of_eq rfl) (by decide)
  refine own_go st1 ?_
  show own_G p e below (T1.setTop (mkF m 4 #[.val (.ref a1)] [])) _
  refine own_go (fun _ k => XS.aloadN X1.here hx rfl (hb hby d1_4) rfl rfl k) ?_
  show own_G p e below (T1.setTop (mkF m 5 #[.val (.ref a1)] [(.ref a1)])) _
  refine own_go (fun _ k => XS.bipush X1.here hx rfl (hb hby d1_5) k) ?_
  show own_G p e below (T1.setTop (mkF m 7 #[.val (.ref a1)] [(.int (32 : Int32)), (.ref a1)])) _
  obtain ⟨T2, h2, k2, X2, e2, E2, A2, Y2, st2⟩ := newPE X1 hx hZ (hw _ (List.mem_of_getElem? (i := 9) rfl)) e1 (g := (mkF m 7 #[.val (.ref a1)] [(.int (32 : Int32)), (.ref a1)])) rfl (hb hby d1_7) rfl (by decide) (cap := 32) (by decide) (by decide) (by decide) (by decide) (ad := "[B") (by decide)
  obtain ⟨b2, g2⟩ : ∃ z, z = h0.size := ⟨_, rfl⟩
  rw [← g2] at A2 Y2 st2
  refine own_go st2 ?_
  have ne3 : a1 ≠ b2 := Nat.ne_of_lt (Nat.lt_of_lt_of_le E_a1.lt (Nat.le_of_eq g2.symm))
  have ge4 : n0 ≤ b2 := Nat.le_trans Z0 (Nat.le_of_eq g2.symm)
  have sz5 : h0.size ≤ b2 := Nat.le_trans (Keep.refl h0 [a1]).1 (Nat.le_of_eq g2.symm)
  have f6 := E_a1.ext E2
  have f7 := F__bytes_a1.ext E2
  have f8 := F__length_a1.ext E2
  have zs9 : n0 ≤ h2.size := Nat.le_trans Z0 E2.1
  have kp10 : Keep h0 h2 [a1] := (Keep.refl h0 [a1]).ext E2
  have V2 : Arv Z h2 b2 k2 .byte (32 : Int32) [] (.int (0 : Int32)) := Arv.new A2 (by decide)
  show own_G p e below (T2.setTop (mkF m 9 #[.val (.ref a1)] [(.ref b2), (.ref a1)])) _
  obtain ⟨T11, h11, X11, e11, W11, st11⟩ := putF X2 hx hZ hown (host := "") (Or.inl (hw _ (List.mem_of_getElem? (i := 10) rfl))) Via.refl e2 f7 f6 (Or.inl (hw _ (List.mem_of_getElem? (i := 11) rfl))) (hw _ (List.mem_of_getElem? (i := 1) rfl)) (ty := (.array .byte)) (by decide) rfl rfl (g := (mkF m 9 #[.val (.ref a1)] [(.ref b2), (.ref a1)])) rfl rfl (hb hby d1_9)
  refine own_go st11 ?_
  have fw11 := f7.same W11
  have f12 := f6.wr W11
  have f13 := f8.other W11 (Or.inr (slot_ne (Or.inl (hw _ (List.mem_of_getElem? (i := 18) rfl))) (Or.inl (hw _ (List.mem_of_getElem? (i := 11) rfl))) (by decide) (t := .int) (t' := (.array .byte)) (by decide) (by decide)))
  have f14 := V2.other W11 (Ne.symm ne3)
  have f15 := Y2.wr W11
  have zs16 : n0 ≤ h11.size := Nat.le_trans zs9 (Keep.of_wr W11).1
  have kp17 : Keep h0 h11 [a1] := kp10.wr W11 (Or.inl (List.mem_of_getElem? (i := 0) rfl))
  have N11 := Fr.snoc X11 N0 g_a1
  show own_G p e below (T11.setTop (mkF m 12 #[.val (.ref a1)] [])) _
  refine own_ret X11 hlk (v := none) (fun _ => rfl) (Q1 Z a1 h0 n0) (own_retV X11 hx hret (hb hby d1_12)) (by decide) (by decide) ?_
  show Q1 Z a1 h0 n0 _ T11.heap _
  rw [e11]
  exact ⟨b2, k2, rfl, N11, kp17, sz5, f12, fw11, f13, f15, f14⟩
theorem ef_5 (m : MethodId) (p1 : Int32) (p2 : Int32) : entryFrame m #[(.int p1), (.int p2)] 2 = mkF m 0 #[.val (.int p1), .val (.int p2)] [] := by first | (simp [entryFrame, mkF, argsToLocals, Value.category]; done) | rfl
def Q5 (Z : State) (p1 : Int32) (p2 : Int32) (h0 : Heap) (n0 : Nat) (v : Option Value) (h : Heap) (L : List Loc) : Prop := v = some (.int (own_mini p1 p2)) ∧ Fr n0 L ∧ h = h0
set_option maxRecDepth 65536 in
set_option maxHeartbeats 40000000 in
theorem rm5 (l : Launch) (Z : State) (a0 : Array Value) (hw : ∀ d ∈ tables_1, d.before a0 Z = true) (ws : List Jvm.Cond) (p1 : Int32) (p2 : Int32) (h0 : Heap) (n0 : Nat) (Z0 : n0 ≤ h0.size)  :
    MetFree l (⟨"java/lang/Math", "min", "(II)I"⟩ : MethodName) (head1 (Jvm.Cond.code (⟨"java/lang/Math", "min", "(II)I"⟩ : MethodName) jdk_29_method_69_code 2 (some .int) :: ws) ({ frames := 0, cells := 0, slots := 0, locals := 0 } : Room)) (fun a U => a = #[(.int p1), (.int p2)] ∧ Z.Warmed39 U.vm ∧ U.heap = h0) (fun _ _ _ _ _ => True) (fun _ U o U' => ∃ v L, o = .returned v ∧ Q5 Z p1 p2 h0 n0 v U'.heap L ∧ FrameEnd U o U' L ({ frames := 0, cells := 0, slots := 0, locals := 0 } : Room).cells ({ frames := 0, cells := 0, slots := 0, locals := 0 } : Room).slots) := by
  refine MetFree.of_bodySF (Jvm.Free.JP.mathPlain rfl (by decide +kernel)) hisR ?_
  intro p e s m args below meth c s₁ Bd hml0 hP hK
  obtain ⟨rfl, hZ, hh⟩ := hP
  have hx := Bd.exec
  have hby := Bd.bytes
  have hml : c.maxLocals = 2 := hml0
  have hown : s.vm.findClass "java/lang/Math" = some m.cls := findClass_of_methodNamed Bd.named
  have hnm := (name_of_methodNamed Bd.named Bd.method).1
  have hlk := Bd.notSynchronized
  have hret := Bd.returns
  have X0 : Stand p l e ({ frames := 0, cells := 0, slots := 0, locals := 0 } : Room) s m #[(.int p1), (.int p2)] below meth c s₁ [] 0 0 := Stand.of_body Bd
  have e0 : s₁.heap = h0 := by rw [← hh, Bd.state]; rfl
  have N0 := Fr.nil n0
  show own_G p e below (s₁.setTop (entryFrame m #[(.int p1), (.int p2)] 2)) (fun s₂ o => ∃ v L, o = .returned v ∧ Q5 Z p1 p2 h0 n0 v s₂.heap L ∧ FrameEnd s o s₂ L ({ frames := 0, cells := 0, slots := 0, locals := 0 } : Room).cells ({ frames := 0, cells := 0, slots := 0, locals := 0 } : Room).slots)
  refine own_go (fun t k => castTop (ef_5 m p1 p2) k) ?_
  show own_G p e below (s₁.setTop (mkF m 0 #[.val (.int p1), .val (.int p2)] [])) _
  refine own_go (fun _ k => XS.iloadN X0.here hx rfl (hb hby d5_0) rfl k) ?_
  show own_G p e below (s₁.setTop (mkF m 1 #[.val (.int p1), .val (.int p2)] [(.int p1)])) _
  refine own_go (fun _ k => XS.iloadN X0.here hx rfl (hb hby d5_1) rfl k) ?_
  show own_G p e below (s₁.setTop (mkF m 2 #[.val (.int p1), .val (.int p2)] [(.int p2), (.int p1)])) _
  by_cases hc2_18 : p2 < p1
  · refine own_go (fun _ k => XS.icmpYes X0.here hx rfl (pc0 := 2) (pc' := 9) rfl (hb hby d5_2) rfl (tlt hc2_18).2.2.1 (by decide) (by decide) k) ?_
    show own_G p e below (s₁.setTop (mkF m 9 #[.val (.int p1), .val (.int p2)] [])) _
    refine own_go (fun _ k => XS.iloadN X0.here hx rfl (hb hby d5_9) rfl k) ?_
    show own_G p e below (s₁.setTop (mkF m 10 #[.val (.int p1), .val (.int p2)] [(.int p2)])) _
    refine own_ret X0 hlk (v := some (.int p2)) (fun h => by rw [hret] at h; cases h) (Q5 Z p1 p2 h0 n0) (own_retI X0 hx (t := .int) hret rfl (Or.inl ⟨rfl, by simp, _, rfl⟩) (hb hby d5_10)) (by decide) (by decide) ?_
    show Q5 Z p1 p2 h0 n0 _ s₁.heap _
    rw [e0]
    exact ⟨by simp [own_mini, hc2_18], N0, rfl⟩
  · refine own_go (fun _ k => XS.icmpNo X0.here hx rfl (hb hby d5_2) rfl (flt hc2_18).2.2.1 k) ?_
    show own_G p e below (s₁.setTop (mkF m 5 #[.val (.int p1), .val (.int p2)] [])) _
    refine own_go (fun _ k => XS.iloadN X0.here hx rfl (hb hby d5_5) rfl k) ?_
    show own_G p e below (s₁.setTop (mkF m 6 #[.val (.int p1), .val (.int p2)] [(.int p1)])) _
    refine own_go (fun _ k => XS.goto X0.here hx rfl (pc0 := 6) (pc' := 10) rfl (hb hby d5_6) (by decide) (by decide) k) ?_
    show own_G p e below (s₁.setTop (mkF m 10 #[.val (.int p1), .val (.int p2)] [(.int p1)])) _
    refine own_ret X0 hlk (v := some (.int p1)) (fun h => by rw [hret] at h; cases h) (Q5 Z p1 p2 h0 n0) (own_retI X0 hx (t := .int) hret rfl (Or.inl ⟨rfl, by simp, _, rfl⟩) (hb hby d5_10)) (by decide) (by decide) ?_
    show Q5 Z p1 p2 h0 n0 _ s₁.heap _
    rw [e0]
    exact ⟨by simp [own_mini, hc2_18], N0, rfl⟩
theorem ef_4 (m : MethodId) (a1 : Addr) (p2 : Int32) : entryFrame m #[(.ref a1), (.int p2)] 3 = mkF m 0 #[.val (.ref a1), .val (.int p2), .unset] [] := by first | (simp [entryFrame, mkF, argsToLocals, Value.category]; done) | rfl
def Q4 (Z : State) (a1 : Addr) (p2 : Int32) (k1 : ClassId) (z : Int32) (vs : List Value) (cap : Nat) (h0 : Heap) (n0 : Nat) (v : Option Value) (h : Heap) (L : List Loc) : Prop := ∃ (b : Addr) (k : ClassId), v = some (.ref b) ∧ Fr n0 L ∧ Keep h0 h [] ∧ h0.size ≤ b ∧ Exa Z h b "[B" ∧ Arv Z h b k .byte p2 (vs.take p2.toNatClampNeg) (.int (0 : Int32))
set_option maxRecDepth 65536 in
set_option maxHeartbeats 40000000 in
theorem rm4 (l : Launch) (Z : State) (a0 : Array Value) (hw : ∀ d ∈ tables_1, d.before a0 Z = true) (ws : List Jvm.Cond) (a1 : Addr) (p2 : Int32) (k1 : ClassId) (z : Int32) (vs : List Value) (cap : Nat) (h0 : Heap) (n0 : Nat) (Z0 : n0 ≤ h0.size) (V_a1 : Arv Z h0 a1 k1 .byte z vs (.int (0 : Int32))) (E_a1 : Exa Z h0 a1 "[B") (hp2 : ¬ p2 < (0 : Int32)) (hcap : p2.toNatClampNeg ≤ cap) (hcap8 : cap * 8 ≤ 536870912) (hvl : vs.length ≤ z.toNatClampNeg) :
    MetFree l (⟨"java/util/Arrays", "copyOf", "([BI)[B"⟩ : MethodName) (head1 (Jvm.Cond.code (⟨"java/util/Arrays", "copyOf", "([BI)[B"⟩ : MethodName) jdk_65_method_121_code 3 (some (.array .byte)) :: ws) ({ frames := 1, cells := 1, slots := cap, locals := 18 } : Room)) (fun a U => a = #[(.ref a1), (.int p2)] ∧ Z.Warmed39 U.vm ∧ U.heap = h0) (fun _ _ _ _ _ => True) (fun _ U o U' => ∃ v L, o = .returned v ∧ Q4 Z a1 p2 k1 z vs cap h0 n0 v U'.heap L ∧ FrameEnd U o U' L ({ frames := 1, cells := 1, slots := cap, locals := 18 } : Room).cells ({ frames := 1, cells := 1, slots := cap, locals := 18 } : Room).slots) := by
  refine MetFree.of_bodySF (plainFor_of_name pn_4) hisR ?_
  intro p e s m args below meth c s₁ Bd hml0 hP hK
  obtain ⟨rfl, hZ, hh⟩ := hP
  have hx := Bd.exec
  have hby := Bd.bytes
  have hml : c.maxLocals = 3 := hml0
  have hown : s.vm.findClass "java/util/Arrays" = some m.cls := findClass_of_methodNamed Bd.named
  have hnm := (name_of_methodNamed Bd.named Bd.method).1
  have hlk := Bd.notSynchronized
  have hret := Bd.returns
  have X0 : Stand p l e ({ frames := 1, cells := 1, slots := cap, locals := 18 } : Room) s m #[(.ref a1), (.int p2)] below meth c s₁ [] 0 0 := Stand.of_body Bd
  have e0 : s₁.heap = h0 := by rw [← hh, Bd.state]; rfl
  have N0 := Fr.nil n0
  show own_G p e below (s₁.setTop (entryFrame m #[(.ref a1), (.int p2)] 3)) (fun s₂ o => ∃ v L, o = .returned v ∧ Q4 Z a1 p2 k1 z vs cap h0 n0 v s₂.heap L ∧ FrameEnd s o s₂ L ({ frames := 1, cells := 1, slots := cap, locals := 18 } : Room).cells ({ frames := 1, cells := 1, slots := cap, locals := 18 } : Room).slots)
  refine own_go (fun t k => castTop (ef_4 m a1 p2) k) ?_
  have hz0 : ¬ z < 0 := by obtain ⟨_, _, _, _, q, _⟩ := V_a1; exact q
  show own_G p e below (s₁.setTop (mkF m 0 #[.val (.ref a1), .val (.int p2), .unset] [])) _
  refine own_go (fun _ k => XS.iloadN X0.here hx rfl (hb hby d4_0) rfl k) ?_
  show own_G p e below (s₁.setTop (mkF m 1 #[.val (.ref a1), .val (.int p2), .unset] [(.int p2)])) _
  refine own_go (fun _ k => XS.aloadN X0.here hx rfl (hb hby d4_1) rfl rfl k) ?_
  show own_G p e below (s₁.setTop (mkF m 2 #[.val (.ref a1), .val (.int p2), .unset] [(.ref a1), (.int p2)])) _
  obtain ⟨cl19, Ar19, q19, S19, M19, B19, G19⟩ := id V_a1
  refine own_go (X0.arraylength hx (by rw [e0]; exact Ar19.1) (State.isArrayOf_alike hZ.alike Ar19.2.1) (g := (mkF m 2 #[.val (.ref a1), .val (.int p2), .unset] [(.ref a1), (.int p2)])) rfl rfl (hb hby d4_2)) ?_
  rw [len_of S19 M19]
  show own_G p e below (s₁.setTop (mkF m 3 #[.val (.ref a1), .val (.int p2), .unset] [(.int z), (.int p2)])) _
  by_cases hc3_20 : p2 = z
  · refine own_go (fun _ k => XS.icmpNo X0.here hx rfl (hb hby d4_3) rfl (teq hc3_20).2 k) ?_
    have hceq : p2 = z := hc3_20
    show own_G p e below (s₁.setTop (mkF m 6 #[.val (.ref a1), .val (.int p2), .unset] [])) _
    refine own_go (fun _ k => XS.aloadN X0.here hx rfl (hb hby d4_6) rfl rfl k) ?_
    show own_G p e below (s₁.setTop (mkF m 7 #[.val (.ref a1), .val (.int p2), .unset] [(.ref a1)])) _
    obtain ⟨T21, h21, X21, e21, E21, A21, Y21, st21⟩ := cloneH X0 hx hZ hown (hw _ (List.mem_of_getElem? (i := 67) rfl)) (hw _ (List.mem_of_getElem? (i := 68) rfl)) (hw _ (List.mem_of_getElem? (i := 72) rfl)) (hw _ (List.mem_of_getElem? (i := 70) rfl)) (hw _ (List.mem_of_getElem? (i := 71) rfl)) (hw _ (List.mem_of_getElem? (i := 73) rfl)) e0 V_a1.arh E_a1 (g := (mkF m 7 #[.val (.ref a1), .val (.int p2), .unset] [(.ref a1)])) rfl (by rw [hml]; rfl) rfl (hb hby d4_7) (Nat.le_of_ble_eq_true rfl) (W := 0) (cap := cap) (by show 2 * 0 + _ ≤ _; exact Nat.le_of_eq rfl) (Nat.le_of_ble_eq_true rfl) (by rw [← hceq]; exact hcap) (Nat.le_of_ble_eq_true rfl) (by simp)
    obtain ⟨b21, g21⟩ : ∃ z, z = h0.size := ⟨_, rfl⟩
    rw [← g21] at A21 Y21 st21
    refine own_go st21 ?_
    have V21 : Arv Z h21 b21 k1 .byte z vs (.int (0 : Int32)) := A21
    have ne22 : a1 ≠ b21 := Nat.ne_of_lt (Nat.lt_of_lt_of_le V_a1.lt (Nat.le_of_eq g21.symm))
    have ge23 : n0 ≤ b21 := Nat.le_trans Z0 (Nat.le_of_eq g21.symm)
    have sz24 : h0.size ≤ b21 := Nat.le_trans (Keep.refl h0 []).1 (Nat.le_of_eq g21.symm)
    have f25 := V_a1.ext E21
    have f26 := E_a1.ext E21
    have zs27 : n0 ≤ h21.size := Nat.le_trans Z0 E21.1
    have kp28 : Keep h0 h21 [] := (Keep.refl h0 []).ext E21
    show own_G p e below (T21.setTop (mkF m 10 #[.val (.ref a1), .val (.int p2), .unset] [(.ref b21)])) _
    obtain ⟨T29, X29, e29, st29⟩ := castY X21 hx hZ hown (hw _ (List.mem_of_getElem? (i := 74) rfl)) e21 (Ins.self Y21) (g := (mkF m 10 #[.val (.ref a1), .val (.int p2), .unset] [(.ref b21)])) rfl rfl (hb hby d4_10)
    refine own_go st29 ?_
    show own_G p e below (T29.setTop (mkF m 13 #[.val (.ref a1), .val (.int p2), .unset] [(.ref b21)])) _
    refine own_ret X29 hlk (v := some (.ref b21)) (fun h => by rw [hret] at h; cases h) (Q4 Z a1 p2 k1 z vs cap h0 n0) (own_retI X29 hx (t := (.array .byte)) hret rfl (Or.inr (Or.inr (Or.inr (Or.inr ⟨rfl, rfl, rfl⟩)))) (hb hby d4_13)) (Nat.le_of_ble_eq_true rfl) (by simp) ?_
    show Q4 Z a1 p2 k1 z vs cap h0 n0 _ T29.heap _
    rw [e29]
    exact ⟨b21, k1, rfl, N0, kp28, sz24, Y21, own_cp1 hceq V21⟩
  · refine own_go (fun _ k => XS.icmpYes X0.here hx rfl (pc0 := 3) (pc' := 14) rfl (hb hby d4_3) rfl (feq hc3_20).2 (by decide) (by decide) k) ?_
    show own_G p e below (s₁.setTop (mkF m 14 #[.val (.ref a1), .val (.int p2), .unset] [])) _
    refine own_go (fun _ k => XS.iloadN X0.here hx rfl (hb hby d4_14) rfl k) ?_
    show own_G p e below (s₁.setTop (mkF m 15 #[.val (.ref a1), .val (.int p2), .unset] [(.int p2)])) _
    obtain ⟨T30, h30, k30, X30, e30, E30, A30, Y30, st30⟩ := newPE X0 hx hZ (hw _ (List.mem_of_getElem? (i := 9) rfl)) e0 (g := (mkF m 15 #[.val (.ref a1), .val (.int p2), .unset] [(.int p2)])) rfl (hb hby d4_15) rfl hp2 (cap := cap) hcap hcap8 (Nat.le_of_ble_eq_true rfl) (by simp) (ad := "[B") (by decide)
    obtain ⟨b30, g30⟩ : ∃ z, z = h0.size := ⟨_, rfl⟩
    rw [← g30] at A30 Y30 st30
    refine own_go st30 ?_
    have ne31 : a1 ≠ b30 := Nat.ne_of_lt (Nat.lt_of_lt_of_le V_a1.lt (Nat.le_of_eq g30.symm))
    have ge32 : n0 ≤ b30 := Nat.le_trans Z0 (Nat.le_of_eq g30.symm)
    have sz33 : h0.size ≤ b30 := Nat.le_trans (Keep.refl h0 []).1 (Nat.le_of_eq g30.symm)
    have f34 := V_a1.ext E30
    have f35 := E_a1.ext E30
    have zs36 : n0 ≤ h30.size := Nat.le_trans Z0 E30.1
    have kp37 : Keep h0 h30 [] := (Keep.refl h0 []).ext E30
    have V30 : Arv Z h30 b30 k30 .byte p2 [] (.int (0 : Int32)) := Arv.new A30 hp2
    show own_G p e below (T30.setTop (mkF m 17 #[.val (.ref a1), .val (.int p2), .unset] [(.ref b30)])) _
    refine own_go (fun _ k => XS.astoreN X30.here hx rfl (hb hby d4_17) rfl rfl (l' := #[.val (.ref a1), .val (.int p2), .val (.ref b30)]) rfl k) ?_
    show own_G p e below (T30.setTop (mkF m 18 #[.val (.ref a1), .val (.int p2), .val (.ref b30)] [])) _
    refine own_go (fun _ k => XS.aloadN X30.here hx rfl (hb hby d4_18) rfl rfl k) ?_
    show own_G p e below (T30.setTop (mkF m 19 #[.val (.ref a1), .val (.int p2), .val (.ref b30)] [(.ref a1)])) _
    refine own_go (fun _ k => XS.iconst X30.here hx rfl (hb hby d4_19) k) ?_
    show own_G p e below (T30.setTop (mkF m 20 #[.val (.ref a1), .val (.int p2), .val (.ref b30)] [(.int (0 : Int32)), (.ref a1)])) _
    refine own_go (fun _ k => XS.aloadN X30.here hx rfl (hb hby d4_20) rfl rfl k) ?_
    show own_G p e below (T30.setTop (mkF m 21 #[.val (.ref a1), .val (.int p2), .val (.ref b30)] [(.ref b30), (.int (0 : Int32)), (.ref a1)])) _
    refine own_go (fun _ k => XS.iconst X30.here hx rfl (hb hby d4_21) k) ?_
    show own_G p e below (T30.setTop (mkF m 22 #[.val (.ref a1), .val (.int p2), .val (.ref b30)] [(.int (0 : Int32)), (.ref b30), (.int (0 : Int32)), (.ref a1)])) _
    refine own_go (fun _ k => XS.aloadN X30.here hx rfl (hb hby d4_22) rfl rfl k) ?_
    show own_G p e below (T30.setTop (mkF m 23 #[.val (.ref a1), .val (.int p2), .val (.ref b30)] [(.ref a1), (.int (0 : Int32)), (.ref b30), (.int (0 : Int32)), (.ref a1)])) _
    obtain ⟨cl38, Ar38, q38, S38, M38, B38, G38⟩ := id f34
    refine own_go (X30.arraylength hx (by rw [e30]; exact Ar38.1) (State.isArrayOf_alike hZ.alike Ar38.2.1) (g := (mkF m 23 #[.val (.ref a1), .val (.int p2), .val (.ref b30)] [(.ref a1), (.int (0 : Int32)), (.ref b30), (.int (0 : Int32)), (.ref a1)])) rfl rfl (hb hby d4_23)) ?_
    rw [len_of S38 M38]
    show own_G p e below (T30.setTop (mkF m 24 #[.val (.ref a1), .val (.int p2), .val (.ref b30)] [(.int z), (.int (0 : Int32)), (.ref b30), (.int (0 : Int32)), (.ref a1)])) _
    refine own_go (fun _ k => XS.iloadN X30.here hx rfl (hb hby d4_24) rfl k) ?_
    show own_G p e below (T30.setTop (mkF m 25 #[.val (.ref a1), .val (.int p2), .val (.ref b30)] [(.int p2), (.int z), (.int (0 : Int32)), (.ref b30), (.int (0 : Int32)), (.ref a1)])) _
    obtain ⟨_, _, ⟨T39, L39, k39, n39⟩, -, X39, ⟨Lc39, hQ39, l39, y39, z39⟩, st39⟩ := Jvm.LawKit.callS X30 hx (y := (⟨"java/lang/Math", "min", "(II)I"⟩ : MethodName)) hown (mvT hZ (hw _ (List.mem_of_getElem? (i := 23) rfl))) (mvT hZ (hw _ (List.mem_of_getElem? (i := 24) rfl))) (mvT hZ (hw _ (List.mem_of_getElem? (i := 25) rfl))) (mvT hZ (hw _ (List.mem_of_getElem? (i := 26) rfl))) (by decide) (backOf (W := 4) (rm5 l Z a0 hw [] z p2 h30 n0 zs36 ) hZ (hw _ (List.mem_of_getElem? (i := 26) rfl)) (hw _ (List.mem_of_getElem? (i := 25) rfl)) (Nat.le_of_ble_eq_true rfl) (Nat.le_of_ble_eq_true rfl)) (g := (mkF m 25 #[.val (.ref a1), .val (.int p2), .val (.ref b30)] [(.int p2), (.int z), (.int (0 : Int32)), (.ref b30), (.int (0 : Int32)), (.ref a1)])) rfl (by rw [hml]; rfl) (argsL := [(.int z), (.int p2)]) (rest := [(.int (0 : Int32)), (.ref b30), (.int (0 : Int32)), (.ref a1)]) (lenOf pd_0 rfl) rfl (by show 2 * 0 + _ ≤ _; exact Nat.le_of_eq rfl) (hb hby d4_25) (fun _ _ => ⟨rfl, e30, (Nat.le_of_ble_eq_true rfl : 0 + 1 + 0 ≤ _), (by simp : 0 + cap + 0 ≤ _)⟩)
    dsimp only [Pt.U, Pt.locs, Pt.cells, Pt.slots] at X39 l39 y39 z39 st39 hQ39
    subst l39 y39 z39
    obtain ⟨rfl, Nq39, hh39⟩ := hQ39
    have N39 := Fr.app N0 Nq39
    refine own_go st39 ?_
    have e39 : T39.heap = h30 := hh39
    show own_G p e below (T39.setTop (mkF m 28 #[.val (.ref a1), .val (.int p2), .val (.ref b30)] [(.int (own_mini z p2)), (.int (0 : Int32)), (.ref b30), (.int (0 : Int32)), (.ref a1)])) _
    have hmn := own_mini_le hz0 hp2
    obtain ⟨T40, h40, L40, X40, e40, N40, K40, V40, st40⟩ := cpA X39 hx hZ hown (hw _ (List.mem_of_getElem? (i := 27) rfl)) (hw _ (List.mem_of_getElem? (i := 30) rfl)) (hw _ (List.mem_of_getElem? (i := 28) rfl)) (hw _ (List.mem_of_getElem? (i := 29) rfl)) e39 f34 (V30.pad (pad_rep [] (.int (0 : Int32)) p2.toNatClampNeg)) (Or.inl ⟨rfl, rfl⟩) (by decide) (by decide) (own_mini_nn hz0 hp2) (by simpa using hmn.1) (by simpa using hmn.2.1) rfl (by simpa using hmn.2.1) N39 ge32 (g := (mkF m 28 #[.val (.ref a1), .val (.int p2), .val (.ref b30)] [(.int (own_mini z p2)), (.int (0 : Int32)), (.ref b30), (.int (0 : Int32)), (.ref a1)])) rfl (by rw [hml]; rfl) rfl (hb hby d4_28) (Nat.le_of_ble_eq_true rfl) (W := 0) (by show 2 * 0 + _ ≤ _; exact Nat.le_of_eq rfl) (Nat.le_of_ble_eq_true rfl)
    refine own_go st40 ?_
    have f41 := f34.keep K40 (ninS ne31 nin0)
    have f42 := f35.keep K40
    have f43 := Y30.keep K40
    have zs44 : n0 ≤ h40.size := Nat.le_trans zs36 K40.1
    have kp45 : Keep h0 h40 [] := kp37.trans K40 (allS (Or.inr sz33) all0)
    show own_G p e below (T40.setTop (mkF m 31 #[.val (.ref a1), .val (.int p2), .val (.ref b30)] [])) _
    refine own_go (fun _ k => XS.aloadN X40.here hx rfl (hb hby d4_31) rfl rfl k) ?_
    show own_G p e below (T40.setTop (mkF m 32 #[.val (.ref a1), .val (.int p2), .val (.ref b30)] [(.ref b30)])) _
    refine own_ret X40 hlk (v := some (.ref b30)) (fun h => by rw [hret] at h; cases h) (Q4 Z a1 p2 k1 z vs cap h0 n0) (own_retI X40 hx (t := (.array .byte)) hret rfl (Or.inr (Or.inr (Or.inr (Or.inr ⟨rfl, rfl, rfl⟩)))) (hb hby d4_32)) (Nat.le_of_ble_eq_true rfl) (by simp) ?_
    show Q4 Z a1 p2 k1 z vs cap h0 n0 _ T40.heap _
    rw [e40]
    exact ⟨b30, k30, rfl, N40, kp45, sz33, f43, own_cp2 hz0 hp2 hvl V40⟩
theorem ef_3 (m : MethodId) (a1 : Addr) : entryFrame m #[(.ref a1)] 1 = mkF m 0 #[.val (.ref a1)] [] := by first | (simp [entryFrame, mkF, argsToLocals, Value.category]; done) | rfl
def Q3 (Z : State) (a1 : Addr) (b : Addr) (k1 : ClassId) (z sz : Int32) (vs : List Value) (cap : Nat) (h0 : Heap) (n0 : Nat) (v : Option Value) (h : Heap) (L : List Loc) : Prop := ∃ (r : Addr) (k : ClassId), v = some (.ref r) ∧ Fr n0 L ∧ Keep h0 h [] ∧ h0.size ≤ r ∧ Exa Z h r "[B" ∧ Arv Z h r k .byte sz (vs.take sz.toNatClampNeg) (.int (0 : Int32))
set_option maxRecDepth 65536 in
set_option maxHeartbeats 40000000 in
theorem rm3 (l : Launch) (Z : State) (a0 : Array Value) (hw : ∀ d ∈ tables_1, d.before a0 Z = true) (ws : List Jvm.Cond) (a1 : Addr) (b : Addr) (k1 : ClassId) (z sz : Int32) (vs : List Value) (cap : Nat) (h0 : Heap) (n0 : Nat) (Z0 : n0 ≤ h0.size)  (F__bytes_a1 : Fld Z h0 a1 "com/example/orbweave/orbweave/ByteWriter" "_bytes" "[B" (.ref b)) (F__length_a1 : Fld Z h0 a1 "com/example/orbweave/orbweave/ByteWriter" "_length" "I" (.int sz)) (V_b : Arv Z h0 b k1 .byte z vs (.int (0 : Int32))) (E_b : Exa Z h0 b "[B") (hsz0 : ¬ sz < (0 : Int32)) (hcap : sz.toNatClampNeg ≤ cap) (hcap8 : cap * 8 ≤ 536870912) (hvl : vs.length ≤ z.toNatClampNeg) :
    MetFree l (⟨"com/example/orbweave/orbweave/ByteWriter", "toByteArray", "()[B"⟩ : MethodName) (head1 (Jvm.Cond.code (⟨"com/example/orbweave/orbweave/ByteWriter", "toByteArray", "()[B"⟩ : MethodName) prog_2_method_8_code 1 (some (.array .byte)) :: ws) ({ frames := 2, cells := 1, slots := cap, locals := 32 } : Room)) (fun a U => a = #[(.ref a1)] ∧ Z.Warmed39 U.vm ∧ U.heap = h0) (fun _ _ _ _ _ => True) (fun _ U o U' => ∃ v L, o = .returned v ∧ Q3 Z a1 b k1 z sz vs cap h0 n0 v U'.heap L ∧ FrameEnd U o U' L ({ frames := 2, cells := 1, slots := cap, locals := 32 } : Room).cells ({ frames := 2, cells := 1, slots := cap, locals := 32 } : Room).slots) := by
  refine MetFree.of_bodySF (plainFor_of_name pn_3) hisR ?_
  intro p e s m args below meth c s₁ Bd hml0 hP hK
  obtain ⟨rfl, hZ, hh⟩ := hP
  have hx := Bd.exec
  have hby := Bd.bytes
  have hml : c.maxLocals = 1 := hml0
  have hown : s.vm.findClass "com/example/orbweave/orbweave/ByteWriter" = some m.cls := findClass_of_methodNamed Bd.named
  have hnm := (name_of_methodNamed Bd.named Bd.method).1
  have hlk := Bd.notSynchronized
  have hret := Bd.returns
  have X0 : Stand p l e ({ frames := 2, cells := 1, slots := cap, locals := 32 } : Room) s m #[(.ref a1)] below meth c s₁ [] 0 0 := Stand.of_body Bd
  have e0 : s₁.heap = h0 := by rw [← hh, Bd.state]; rfl
  have N0 := Fr.nil n0
  show own_G p e below (s₁.setTop (entryFrame m #[(.ref a1)] 1)) (fun s₂ o => ∃ v L, o = .returned v ∧ Q3 Z a1 b k1 z sz vs cap h0 n0 v s₂.heap L ∧ FrameEnd s o s₂ L ({ frames := 2, cells := 1, slots := cap, locals := 32 } : Room).cells ({ frames := 2, cells := 1, slots := cap, locals := 32 } : Room).slots)
  refine own_go (fun t k => castTop (ef_3 m a1) k) ?_
  show own_G p e below (s₁.setTop (mkF m 0 #[.val (.ref a1)] [])) _
  refine own_go (fun _ k => XS.aloadN X0.here hx rfl (hb hby d3_0) rfl rfl k) ?_
  show own_G p e below (s₁.setTop (mkF m 1 #[.val (.ref a1)] [(.ref a1)])) _
  obtain ⟨T46, X46, e46, st46⟩ := getF X0 hx hZ hown (host := "") (Or.inl (hw _ (List.mem_of_getElem? (i := 10) rfl))) Via.refl e0 F__bytes_a1 (g := (mkF m 1 #[.val (.ref a1)] [(.ref a1)])) rfl rfl (hb hby d3_1)
  refine own_go st46 ?_
  show own_G p e below (T46.setTop (mkF m 4 #[.val (.ref a1)] [(.ref b)])) _
  refine own_go (fun _ k => XS.aloadN X46.here hx rfl (hb hby d3_4) rfl rfl k) ?_
  show own_G p e below (T46.setTop (mkF m 5 #[.val (.ref a1)] [(.ref a1), (.ref b)])) _
  obtain ⟨T47, X47, e47, st47⟩ := getF X46 hx hZ hown (host := "") (Or.inl (hw _ (List.mem_of_getElem? (i := 17) rfl))) Via.refl e46 F__length_a1 (g := (mkF m 5 #[.val (.ref a1)] [(.ref a1), (.ref b)])) rfl rfl (hb hby d3_5)
  refine own_go st47 ?_
  show own_G p e below (T47.setTop (mkF m 8 #[.val (.ref a1)] [(.int sz), (.ref b)])) _
  obtain ⟨_, _, ⟨T48, L48, k48, n48⟩, -, X48, ⟨Lc48, hQ48, l48, y48, z48⟩, st48⟩ := Jvm.LawKit.callS X47 hx (y := (⟨"java/util/Arrays", "copyOf", "([BI)[B"⟩ : MethodName)) hown (mvT hZ (hw _ (List.mem_of_getElem? (i := 19) rfl))) (mvT hZ (hw _ (List.mem_of_getElem? (i := 20) rfl))) (mvT hZ (hw _ (List.mem_of_getElem? (i := 21) rfl))) (mvT hZ (hw _ (List.mem_of_getElem? (i := 22) rfl))) (by decide) (backOf (W := 0) (rm4 l Z a0 hw [] b sz k1 z vs cap h0 n0 Z0 V_b E_b hsz0 hcap hcap8 hvl) hZ (hw _ (List.mem_of_getElem? (i := 22) rfl)) (hw _ (List.mem_of_getElem? (i := 21) rfl)) (Nat.le_of_ble_eq_true rfl) (Nat.le_of_ble_eq_true rfl)) (g := (mkF m 8 #[.val (.ref a1)] [(.int sz), (.ref b)])) rfl (by rw [hml]; rfl) (argsL := [(.ref b), (.int sz)]) (rest := []) (lenOf pd_1 rfl) rfl (by show 2 * 0 + _ ≤ _; exact Nat.le_of_eq rfl) (hb hby d3_8) (fun _ _ => ⟨rfl, e47, (Nat.le_of_ble_eq_true rfl : 0 + 1 ≤ _), (by simp : 0 + cap ≤ _)⟩)
  dsimp only [Pt.U, Pt.locs, Pt.cells, Pt.slots] at X48 l48 y48 z48 st48 hQ48
  subst l48 y48 z48
  obtain ⟨r48, k48q, rfl, Nq48, K48, hsz48, E48q, Vq48⟩ := hQ48
  have N48 := Fr.app N0 Nq48
  refine own_go st48 ?_
  have ne49 : a1 ≠ r48 := Nat.ne_of_lt (Nat.lt_of_lt_of_le F__bytes_a1.lt hsz48)
  have ne50 : b ≠ r48 := Nat.ne_of_lt (Nat.lt_of_lt_of_le V_b.lt hsz48)
  have ge51 : n0 ≤ r48 := Nat.le_trans Z0 hsz48
  have sz52 : h0.size ≤ r48 := Nat.le_trans (Keep.refl h0 []).1 hsz48
  have f53 := F__bytes_a1.keep K48 nin0
  have f54 := F__length_a1.keep K48 nin0
  have f55 := V_b.keep K48 nin0
  have f56 := E_b.keep K48
  have zs57 : n0 ≤ T48.heap.size := Nat.le_trans Z0 K48.1
  have kp58 : Keep h0 T48.heap [] := (Keep.refl h0 []).trans K48 all0
  show own_G p e below (T48.setTop (mkF m 11 #[.val (.ref a1)] [(.ref r48)])) _
  refine own_ret X48 hlk (v := some (.ref r48)) (fun h => by rw [hret] at h; cases h) (Q3 Z a1 b k1 z sz vs cap h0 n0) (own_retI X48 hx (t := (.array .byte)) hret rfl (Or.inr (Or.inr (Or.inr (Or.inr ⟨rfl, rfl, rfl⟩)))) (hb hby d3_11)) (Nat.le_of_ble_eq_true rfl) (by simp) ?_
  show Q3 Z a1 b k1 z sz vs cap h0 n0 _ T48.heap _
  exact ⟨r48, k48q, rfl, N48, kp58, sz52, E48q, Vq48⟩
theorem ef_13 (m : MethodId) (p1 : Int32) (p2 : Int32) : entryFrame m #[(.int p1), (.int p2)] 2 = mkF m 0 #[.val (.int p1), .val (.int p2)] [] := by first | (simp [entryFrame, mkF, argsToLocals, Value.category]; done) | rfl
def Q13 (Z : State) (p1 : Int32) (p2 : Int32) (h0 : Heap) (n0 : Nat) (v : Option Value) (h : Heap) (L : List Loc) : Prop := ∃ z : Int32, v = some (.int z) ∧ Fr n0 L ∧ h = h0 ∧ z = own_maxi p1 p2
set_option maxRecDepth 65536 in
set_option maxHeartbeats 40000000 in
theorem rm13 (l : Launch) (Z : State) (a0 : Array Value) (hw : ∀ d ∈ tables_1, d.before a0 Z = true) (ws : List Jvm.Cond) (p1 : Int32) (p2 : Int32) (h0 : Heap) (n0 : Nat) (Z0 : n0 ≤ h0.size)  :
    MetFree l (⟨"java/lang/Math", "max", "(II)I"⟩ : MethodName) (head1 (Jvm.Cond.code (⟨"java/lang/Math", "max", "(II)I"⟩ : MethodName) jdk_29_method_65_code 2 (some .int) :: ws) ({ frames := 0, cells := 0, slots := 0, locals := 0 } : Room)) (fun a U => a = #[(.int p1), (.int p2)] ∧ Z.Warmed39 U.vm ∧ U.heap = h0) (fun _ _ _ _ _ => True) (fun _ U o U' => ∃ v L, o = .returned v ∧ Q13 Z p1 p2 h0 n0 v U'.heap L ∧ FrameEnd U o U' L ({ frames := 0, cells := 0, slots := 0, locals := 0 } : Room).cells ({ frames := 0, cells := 0, slots := 0, locals := 0 } : Room).slots) := by
  refine MetFree.of_bodySF (Jvm.Free.JP.mathPlain rfl (by decide +kernel)) hisR ?_
  intro p e s m args below meth c s₁ Bd hml0 hP hK
  obtain ⟨rfl, hZ, hh⟩ := hP
  have hx := Bd.exec
  have hby := Bd.bytes
  have hml : c.maxLocals = 2 := hml0
  have hown : s.vm.findClass "java/lang/Math" = some m.cls := findClass_of_methodNamed Bd.named
  have hnm := (name_of_methodNamed Bd.named Bd.method).1
  have hlk := Bd.notSynchronized
  have hret := Bd.returns
  have X0 : Stand p l e ({ frames := 0, cells := 0, slots := 0, locals := 0 } : Room) s m #[(.int p1), (.int p2)] below meth c s₁ [] 0 0 := Stand.of_body Bd
  have e0 : s₁.heap = h0 := by rw [← hh, Bd.state]; rfl
  have N0 := Fr.nil n0
  show own_G p e below (s₁.setTop (entryFrame m #[(.int p1), (.int p2)] 2)) (fun s₂ o => ∃ v L, o = .returned v ∧ Q13 Z p1 p2 h0 n0 v s₂.heap L ∧ FrameEnd s o s₂ L ({ frames := 0, cells := 0, slots := 0, locals := 0 } : Room).cells ({ frames := 0, cells := 0, slots := 0, locals := 0 } : Room).slots)
  refine own_go (fun t k => castTop (ef_13 m p1 p2) k) ?_
  show own_G p e below (s₁.setTop (mkF m 0 #[.val (.int p1), .val (.int p2)] [])) _
  refine own_go (fun _ k => XS.iloadN X0.here hx rfl (hb hby d13_0) rfl k) ?_
  show own_G p e below (s₁.setTop (mkF m 1 #[.val (.int p1), .val (.int p2)] [(.int p1)])) _
  refine own_go (fun _ k => XS.iloadN X0.here hx rfl (hb hby d13_1) rfl k) ?_
  show own_G p e below (s₁.setTop (mkF m 2 #[.val (.int p1), .val (.int p2)] [(.int p2), (.int p1)])) _
  by_cases hc2_59 : p1 < p2
  · refine own_go (fun _ k => XS.icmpYes X0.here hx rfl (pc0 := 2) (pc' := 9) rfl (hb hby d13_2) rfl (tlt hc2_59).1 (by decide) (by decide) k) ?_
    show own_G p e below (s₁.setTop (mkF m 9 #[.val (.int p1), .val (.int p2)] [])) _
    refine own_go (fun _ k => XS.iloadN X0.here hx rfl (hb hby d13_9) rfl k) ?_
    show own_G p e below (s₁.setTop (mkF m 10 #[.val (.int p1), .val (.int p2)] [(.int p2)])) _
    refine own_ret X0 hlk (v := some (.int p2)) (fun h => by rw [hret] at h; cases h) (Q13 Z p1 p2 h0 n0) (own_retI X0 hx (t := .int) hret rfl (Or.inl ⟨rfl, by simp, _, rfl⟩) (hb hby d13_10)) (by decide) (by decide) ?_
    show Q13 Z p1 p2 h0 n0 _ s₁.heap _
    rw [e0]
    exact ⟨_, rfl, N0, rfl, by simp [own_maxi, hc2_59]⟩
  · refine own_go (fun _ k => XS.icmpNo X0.here hx rfl (hb hby d13_2) rfl (flt hc2_59).1 k) ?_
    show own_G p e below (s₁.setTop (mkF m 5 #[.val (.int p1), .val (.int p2)] [])) _
    refine own_go (fun _ k => XS.iloadN X0.here hx rfl (hb hby d13_5) rfl k) ?_
    show own_G p e below (s₁.setTop (mkF m 6 #[.val (.int p1), .val (.int p2)] [(.int p1)])) _
    refine own_go (fun _ k => XS.goto X0.here hx rfl (pc0 := 6) (pc' := 10) rfl (hb hby d13_6) (by decide) (by decide) k) ?_
    show own_G p e below (s₁.setTop (mkF m 10 #[.val (.int p1), .val (.int p2)] [(.int p1)])) _
    refine own_ret X0 hlk (v := some (.int p1)) (fun h => by rw [hret] at h; cases h) (Q13 Z p1 p2 h0 n0) (own_retI X0 hx (t := .int) hret rfl (Or.inl ⟨rfl, by simp, _, rfl⟩) (hb hby d13_10)) (by decide) (by decide) ?_
    show Q13 Z p1 p2 h0 n0 _ s₁.heap _
    rw [e0]
    exact ⟨_, rfl, N0, rfl, by simp [own_maxi, hc2_59]⟩
theorem ef_7 (m : MethodId) (a1 : Addr) (p2 : Int32) : entryFrame m #[(.ref a1), (.int p2)] 2 = mkF m 0 #[.val (.ref a1), .val (.int p2)] [] := by first | (simp [entryFrame, mkF, argsToLocals, Value.category]; done) | rfl
def Q7_0 (Z : State) (a1 : Addr) (b : Addr) (k1 : ClassId) (z : Int32) (vs : List Value) (h0 : Heap) (n0 : Nat) (v : Option Value) (h : Heap) (L : List Loc) : Prop := v = none ∧ Fr n0 L ∧ h = h0
set_option maxRecDepth 65536 in
set_option maxHeartbeats 40000000 in
theorem rm7_0 (l : Launch) (Z : State) (a0 : Array Value) (hw : ∀ d ∈ tables_1, d.before a0 Z = true) (ws : List Jvm.Cond) (a1 : Addr) (b : Addr) (k1 : ClassId) (z : Int32) (vs : List Value) (h0 : Heap) (n0 : Nat) (Z0 : n0 ≤ h0.size) (F_b : Fld Z h0 a1 "com/example/orbweave/orbweave/ByteWriter" "_bytes" "[B" (.ref b)) (F_l : Fld Z h0 a1 "com/example/orbweave/orbweave/ByteWriter" "_length" "I" (.int (Int32.ofNat vs.length))) (V_b : Arv Z h0 b k1 .byte z vs (.int (0 : Int32))) (hle : ¬ z < ((Int32.ofNat vs.length) + (1 : Int32))) :
    MetFree l (⟨"com/example/orbweave/orbweave/ByteWriter", "ensure", "(I)V"⟩ : MethodName) (head1 (Jvm.Cond.code (⟨"com/example/orbweave/orbweave/ByteWriter", "ensure", "(I)V"⟩ : MethodName) prog_2_method_9_code 2 none :: ws) ({ frames := 0, cells := 0, slots := 0, locals := 0 } : Room)) (fun a U => a = #[(.ref a1), (.int (1 : Int32))] ∧ Z.Warmed39 U.vm ∧ U.heap = h0) (fun _ _ _ _ _ => True) (fun _ U o U' => ∃ v L, o = .returned v ∧ Q7_0 Z a1 b k1 z vs h0 n0 v U'.heap L ∧ FrameEnd U o U' L ({ frames := 0, cells := 0, slots := 0, locals := 0 } : Room).cells ({ frames := 0, cells := 0, slots := 0, locals := 0 } : Room).slots) := by
  refine MetFree.of_bodySF (plainFor_of_name pn_7) hisR ?_
  intro p e s m args below meth c s₁ Bd hml0 hP hK
  obtain ⟨rfl, hZ, hh⟩ := hP
  have hx := Bd.exec
  have hby := Bd.bytes
  have hml : c.maxLocals = 2 := hml0
  have hown : s.vm.findClass "com/example/orbweave/orbweave/ByteWriter" = some m.cls := findClass_of_methodNamed Bd.named
  have hnm := (name_of_methodNamed Bd.named Bd.method).1
  have hlk := Bd.notSynchronized
  have hret := Bd.returns
  have X0 : Stand p l e ({ frames := 0, cells := 0, slots := 0, locals := 0 } : Room) s m #[(.ref a1), (.int (1 : Int32))] below meth c s₁ [] 0 0 := Stand.of_body Bd
  have e0 : s₁.heap = h0 := by rw [← hh, Bd.state]; rfl
  have N0 := Fr.nil n0
  show own_G p e below (s₁.setTop (entryFrame m #[(.ref a1), (.int (1 : Int32))] 2)) (fun s₂ o => ∃ v L, o = .returned v ∧ Q7_0 Z a1 b k1 z vs h0 n0 v s₂.heap L ∧ FrameEnd s o s₂ L ({ frames := 0, cells := 0, slots := 0, locals := 0 } : Room).cells ({ frames := 0, cells := 0, slots := 0, locals := 0 } : Room).slots)
  refine own_go (fun t k => castTop (ef_7 m a1 (1 : Int32)) k) ?_
  show own_G p e below (s₁.setTop (mkF m 0 #[.val (.ref a1), .val (.int (1 : Int32))] [])) _
  refine own_go (fun _ k => XS.aloadN X0.here hx rfl (hb hby d7_0) rfl rfl k) ?_
  show own_G p e below (s₁.setTop (mkF m 1 #[.val (.ref a1), .val (.int (1 : Int32))] [(.ref a1)])) _
  obtain ⟨T60, X60, e60, st60⟩ := getF X0 hx hZ hown (host := "") (Or.inl (hw _ (List.mem_of_getElem? (i := 17) rfl))) Via.refl e0 F_l (g := (mkF m 1 #[.val (.ref a1), .val (.int (1 : Int32))] [(.ref a1)])) rfl rfl (hb hby d7_1)
  refine own_go st60 ?_
  show own_G p e below (T60.setTop (mkF m 4 #[.val (.ref a1), .val (.int (1 : Int32))] [(.int (Int32.ofNat vs.length))])) _
  refine own_go (fun _ k => XS.iloadN X60.here hx rfl (hb hby d7_4) rfl k) ?_
  show own_G p e below (T60.setTop (mkF m 5 #[.val (.ref a1), .val (.int (1 : Int32))] [(.int (1 : Int32)), (.int (Int32.ofNat vs.length))])) _
  refine own_go (fun _ k => XS.iadd X60.here hx rfl (hb hby d7_5) rfl k) ?_
  show own_G p e below (T60.setTop (mkF m 6 #[.val (.ref a1), .val (.int (1 : Int32))] [(.int ((Int32.ofNat vs.length) + (1 : Int32)))])) _
  refine own_go (fun _ k => XS.aloadN X60.here hx rfl (hb hby d7_6) rfl rfl k) ?_
  show own_G p e below (T60.setTop (mkF m 7 #[.val (.ref a1), .val (.int (1 : Int32))] [(.ref a1), (.int ((Int32.ofNat vs.length) + (1 : Int32)))])) _
  obtain ⟨T61, X61, e61, st61⟩ := getF X60 hx hZ hown (host := "") (Or.inl (hw _ (List.mem_of_getElem? (i := 10) rfl))) Via.refl e60 F_b (g := (mkF m 7 #[.val (.ref a1), .val (.int (1 : Int32))] [(.ref a1), (.int ((Int32.ofNat vs.length) + (1 : Int32)))])) rfl rfl (hb hby d7_7)
  refine own_go st61 ?_
  show own_G p e below (T61.setTop (mkF m 10 #[.val (.ref a1), .val (.int (1 : Int32))] [(.ref b), (.int ((Int32.ofNat vs.length) + (1 : Int32)))])) _
  obtain ⟨cl62, Ar62, q62, S62, M62, B62, G62⟩ := id V_b
  refine own_go (X61.arraylength hx (by rw [e61]; exact Ar62.1) (State.isArrayOf_alike hZ.alike Ar62.2.1) (g := (mkF m 10 #[.val (.ref a1), .val (.int (1 : Int32))] [(.ref b), (.int ((Int32.ofNat vs.length) + (1 : Int32)))])) rfl rfl (hb hby d7_10)) ?_
  rw [len_of S62 M62]
  show own_G p e below (T61.setTop (mkF m 11 #[.val (.ref a1), .val (.int (1 : Int32))] [(.int z), (.int ((Int32.ofNat vs.length) + (1 : Int32)))])) _
  refine own_go (fun _ k => XS.icmpYes X61.here hx rfl (pc0 := 11) (pc' := 41) rfl (hb hby d7_11) rfl (flt hle).2.2.2 (by decide) (by decide) k) ?_
  show own_G p e below (T61.setTop (mkF m 41 #[.val (.ref a1), .val (.int (1 : Int32))] [])) _
  refine own_ret X61 hlk (v := none) (fun _ => rfl) (Q7_0 Z a1 b k1 z vs h0 n0) (own_retV X61 hx hret (hb hby d7_41)) (by decide) (by decide) ?_
  show Q7_0 Z a1 b k1 z vs h0 n0 _ T61.heap _
  rw [e61]
  exact ⟨rfl, N0, rfl⟩
def Q7_1 (Z : State) (a1 : Addr) (b : Addr) (k1 : ClassId) (vs : List Value) (h0 : Heap) (n0 : Nat) (v : Option Value) (h : Heap) (L : List Loc) : Prop := ∃ (b' : Addr) (k' : ClassId), v = none ∧ Fr n0 L ∧ Keep h0 h [a1] ∧ h0.size ≤ b' ∧ Exa Z h a1 "com/example/orbweave/orbweave/ByteWriter" ∧ Fld Z h a1 "com/example/orbweave/orbweave/ByteWriter" "_bytes" "[B" (.ref b') ∧ Fld Z h a1 "com/example/orbweave/orbweave/ByteWriter" "_length" "I" (.int (Int32.ofNat vs.length)) ∧ Exa Z h b' "[B" ∧ Arv Z h b' k' .byte (64 : Int32) vs (.int (0 : Int32))
set_option maxRecDepth 65536 in
set_option maxHeartbeats 40000000 in
theorem rm7_1 (l : Launch) (Z : State) (a0 : Array Value) (hw : ∀ d ∈ tables_1, d.before a0 Z = true) (ws : List Jvm.Cond) (a1 : Addr) (b : Addr) (k1 : ClassId) (vs : List Value) (h0 : Heap) (n0 : Nat) (Z0 : n0 ≤ h0.size) (E_a1 : Exa Z h0 a1 "com/example/orbweave/orbweave/ByteWriter") (F_b : Fld Z h0 a1 "com/example/orbweave/orbweave/ByteWriter" "_bytes" "[B" (.ref b)) (F_l : Fld Z h0 a1 "com/example/orbweave/orbweave/ByteWriter" "_length" "I" (.int (32 : Int32))) (g_a1 : n0 ≤ a1) (V_b : Arv Z h0 b k1 .byte (32 : Int32) vs (.int (0 : Int32))) (E_b : Exa Z h0 b "[B") (g_b : n0 ≤ b) (hlen : vs.length = 32) :
    MetFree l (⟨"com/example/orbweave/orbweave/ByteWriter", "ensure", "(I)V"⟩ : MethodName) (head1 (Jvm.Cond.code (⟨"com/example/orbweave/orbweave/ByteWriter", "ensure", "(I)V"⟩ : MethodName) prog_2_method_9_code 2 none :: ws) ({ frames := 2, cells := 1, slots := 64, locals := 33 } : Room)) (fun a U => a = #[(.ref a1), (.int (1 : Int32))] ∧ Z.Warmed39 U.vm ∧ U.heap = h0) (fun _ _ _ _ _ => True) (fun _ U o U' => ∃ v L, o = .returned v ∧ Q7_1 Z a1 b k1 vs h0 n0 v U'.heap L ∧ FrameEnd U o U' L ({ frames := 2, cells := 1, slots := 64, locals := 33 } : Room).cells ({ frames := 2, cells := 1, slots := 64, locals := 33 } : Room).slots) := by
  refine MetFree.of_bodySF (plainFor_of_name pn_7) hisR ?_
  intro p e s m args below meth c s₁ Bd hml0 hP hK
  obtain ⟨rfl, hZ, hh⟩ := hP
  have hx := Bd.exec
  have hby := Bd.bytes
  have hml : c.maxLocals = 2 := hml0
  have hown : s.vm.findClass "com/example/orbweave/orbweave/ByteWriter" = some m.cls := findClass_of_methodNamed Bd.named
  have hnm := (name_of_methodNamed Bd.named Bd.method).1
  have hlk := Bd.notSynchronized
  have hret := Bd.returns
  have X0 : Stand p l e ({ frames := 2, cells := 1, slots := 64, locals := 33 } : Room) s m #[(.ref a1), (.int (1 : Int32))] below meth c s₁ [] 0 0 := Stand.of_body Bd
  have e0 : s₁.heap = h0 := by rw [← hh, Bd.state]; rfl
  have N0 := Fr.nil n0
  show own_G p e below (s₁.setTop (entryFrame m #[(.ref a1), (.int (1 : Int32))] 2)) (fun s₂ o => ∃ v L, o = .returned v ∧ Q7_1 Z a1 b k1 vs h0 n0 v s₂.heap L ∧ FrameEnd s o s₂ L ({ frames := 2, cells := 1, slots := 64, locals := 33 } : Room).cells ({ frames := 2, cells := 1, slots := 64, locals := 33 } : Room).slots)
  refine own_go (fun t k => castTop (ef_7 m a1 (1 : Int32)) k) ?_
  have neab : a1 ≠ b := ne_exa E_a1 E_b (by decide)
  show own_G p e below (s₁.setTop (mkF m 0 #[.val (.ref a1), .val (.int (1 : Int32))] [])) _
  refine own_go (fun _ k => XS.aloadN X0.here hx rfl (hb hby d7_0) rfl rfl k) ?_
  show own_G p e below (s₁.setTop (mkF m 1 #[.val (.ref a1), .val (.int (1 : Int32))] [(.ref a1)])) _
  obtain ⟨T63, X63, e63, st63⟩ := getF X0 hx hZ hown (host := "") (Or.inl (hw _ (List.mem_of_getElem? (i := 17) rfl))) Via.refl e0 F_l (g := (mkF m 1 #[.val (.ref a1), .val (.int (1 : Int32))] [(.ref a1)])) rfl rfl (hb hby d7_1)
  refine own_go st63 ?_
  show own_G p e below (T63.setTop (mkF m 4 #[.val (.ref a1), .val (.int (1 : Int32))] [(.int (32 : Int32))])) _
  refine own_go (fun _ k => XS.iloadN X63.here hx rfl (hb hby d7_4) rfl k) ?_
  show own_G p e below (T63.setTop (mkF m 5 #[.val (.ref a1), .val (.int (1 : Int32))] [(.int (1 : Int32)), (.int (32 : Int32))])) _
  refine own_go (fun _ k => XS.iadd X63.here hx rfl (hb hby d7_5) rfl k) ?_
  show own_G p e below (T63.setTop (mkF m 6 #[.val (.ref a1), .val (.int (1 : Int32))] [(.int (33 : Int32))])) _
  refine own_go (fun _ k => XS.aloadN X63.here hx rfl (hb hby d7_6) rfl rfl k) ?_
  show own_G p e below (T63.setTop (mkF m 7 #[.val (.ref a1), .val (.int (1 : Int32))] [(.ref a1), (.int (33 : Int32))])) _
  obtain ⟨T64, X64, e64, st64⟩ := getF X63 hx hZ hown (host := "") (Or.inl (hw _ (List.mem_of_getElem? (i := 10) rfl))) Via.refl e63 F_b (g := (mkF m 7 #[.val (.ref a1), .val (.int (1 : Int32))] [(.ref a1), (.int (33 : Int32))])) rfl rfl (hb hby d7_7)
  refine own_go st64 ?_
  show own_G p e below (T64.setTop (mkF m 10 #[.val (.ref a1), .val (.int (1 : Int32))] [(.ref b), (.int (33 : Int32))])) _
  obtain ⟨cl65, Ar65, q65, S65, M65, B65, G65⟩ := id V_b
  refine own_go (X64.arraylength hx (by rw [e64]; exact Ar65.1) (State.isArrayOf_alike hZ.alike Ar65.2.1) (g := (mkF m 10 #[.val (.ref a1), .val (.int (1 : Int32))] [(.ref b), (.int (33 : Int32))])) rfl rfl (hb hby d7_10)) ?_
  rw [len_of S65 M65]
  show own_G p e below (T64.setTop (mkF m 11 #[.val (.ref a1), .val (.int (1 : Int32))] [(.int (32 : Int32)), (.int (33 : Int32))])) _
  refine own_go (fun _ k => XS.icmpNo X64.here hx rfl (hb hby d7_11) rfl (tlt (by decide : (32 : Int32) < (33 : Int32))).2.2.2 k) ?_
  show own_G p e below (T64.setTop (mkF m 14 #[.val (.ref a1), .val (.int (1 : Int32))] [])) _
  refine own_go (fun _ k => XS.aloadN X64.here hx rfl (hb hby d7_14) rfl rfl k) ?_
  show own_G p e below (T64.setTop (mkF m 15 #[.val (.ref a1), .val (.int (1 : Int32))] [(.ref a1)])) _
  refine own_go (fun _ k => XS.aloadN X64.here hx rfl (hb hby d7_15) rfl rfl k) ?_
  show own_G p e below (T64.setTop (mkF m 16 #[.val (.ref a1), .val (.int (1 : Int32))] [(.ref a1), (.ref a1)])) _
  obtain ⟨T66, X66, e66, st66⟩ := getF X64 hx hZ hown (host := "") (Or.inl (hw _ (List.mem_of_getElem? (i := 10) rfl))) Via.refl e64 F_b (g := (mkF m 16 #[.val (.ref a1), .val (.int (1 : Int32))] [(.ref a1), (.ref a1)])) rfl rfl (hb hby d7_16)
  refine own_go st66 ?_
  show own_G p e below (T66.setTop (mkF m 19 #[.val (.ref a1), .val (.int (1 : Int32))] [(.ref b), (.ref a1)])) _
  refine own_go (fun _ k => XS.aloadN X66.here hx rfl (hb hby d7_19) rfl rfl k) ?_
  show own_G p e below (T66.setTop (mkF m 20 #[.val (.ref a1), .val (.int (1 : Int32))] [(.ref a1), (.ref b), (.ref a1)])) _
  obtain ⟨T67, X67, e67, st67⟩ := getF X66 hx hZ hown (host := "") (Or.inl (hw _ (List.mem_of_getElem? (i := 10) rfl))) Via.refl e66 F_b (g := (mkF m 20 #[.val (.ref a1), .val (.int (1 : Int32))] [(.ref a1), (.ref b), (.ref a1)])) rfl rfl (hb hby d7_20)
  refine own_go st67 ?_
  show own_G p e below (T67.setTop (mkF m 23 #[.val (.ref a1), .val (.int (1 : Int32))] [(.ref b), (.ref b), (.ref a1)])) _
  obtain ⟨cl68, Ar68, q68, S68, M68, B68, G68⟩ := id V_b
  refine own_go (X67.arraylength hx (by rw [e67]; exact Ar68.1) (State.isArrayOf_alike hZ.alike Ar68.2.1) (g := (mkF m 23 #[.val (.ref a1), .val (.int (1 : Int32))] [(.ref b), (.ref b), (.ref a1)])) rfl rfl (hb hby d7_23)) ?_
  rw [len_of S68 M68]
  show own_G p e below (T67.setTop (mkF m 24 #[.val (.ref a1), .val (.int (1 : Int32))] [(.int (32 : Int32)), (.ref b), (.ref a1)])) _
  refine own_go (fun _ k => XS.iconst X67.here hx rfl (hb hby d7_24) k) ?_
  show own_G p e below (T67.setTop (mkF m 25 #[.val (.ref a1), .val (.int (1 : Int32))] [(.int (2 : Int32)), (.int (32 : Int32)), (.ref b), (.ref a1)])) _
  refine own_go (fun _ k => XS.imul X67.here hx rfl (hb hby d7_25) rfl k) ?_
  show own_G p e below (T67.setTop (mkF m 26 #[.val (.ref a1), .val (.int (1 : Int32))] [(.int (64 : Int32)), (.ref b), (.ref a1)])) _
  refine own_go (fun _ k => XS.aloadN X67.here hx rfl (hb hby d7_26) rfl rfl k) ?_
  show own_G p e below (T67.setTop (mkF m 27 #[.val (.ref a1), .val (.int (1 : Int32))] [(.ref a1), (.int (64 : Int32)), (.ref b), (.ref a1)])) _
  obtain ⟨T69, X69, e69, st69⟩ := getF X67 hx hZ hown (host := "") (Or.inl (hw _ (List.mem_of_getElem? (i := 17) rfl))) Via.refl e67 F_l (g := (mkF m 27 #[.val (.ref a1), .val (.int (1 : Int32))] [(.ref a1), (.int (64 : Int32)), (.ref b), (.ref a1)])) rfl rfl (hb hby d7_27)
  refine own_go st69 ?_
  show own_G p e below (T69.setTop (mkF m 30 #[.val (.ref a1), .val (.int (1 : Int32))] [(.int (32 : Int32)), (.int (64 : Int32)), (.ref b), (.ref a1)])) _
  refine own_go (fun _ k => XS.iloadN X69.here hx rfl (hb hby d7_30) rfl k) ?_
  show own_G p e below (T69.setTop (mkF m 31 #[.val (.ref a1), .val (.int (1 : Int32))] [(.int (1 : Int32)), (.int (32 : Int32)), (.int (64 : Int32)), (.ref b), (.ref a1)])) _
  refine own_go (fun _ k => XS.iadd X69.here hx rfl (hb hby d7_31) rfl k) ?_
  show own_G p e below (T69.setTop (mkF m 32 #[.val (.ref a1), .val (.int (1 : Int32))] [(.int (33 : Int32)), (.int (64 : Int32)), (.ref b), (.ref a1)])) _
  obtain ⟨_, _, ⟨T70, L70, k70, n70⟩, -, X70, ⟨Lc70, hQ70, l70, y70, z70⟩, st70⟩ := Jvm.LawKit.callS X69 hx (y := (⟨"java/lang/Math", "max", "(II)I"⟩ : MethodName)) hown (mvT hZ (hw _ (List.mem_of_getElem? (i := 64) rfl))) (mvT hZ (hw _ (List.mem_of_getElem? (i := 65) rfl))) (mvT hZ (hw _ (List.mem_of_getElem? (i := 25) rfl))) (mvT hZ (hw _ (List.mem_of_getElem? (i := 66) rfl))) (by decide) (backOf (W := 2) (rm13 l Z a0 hw [] (64 : Int32) (33 : Int32) h0 n0 Z0 ) hZ (hw _ (List.mem_of_getElem? (i := 66) rfl)) (hw _ (List.mem_of_getElem? (i := 25) rfl)) (by decide) (by decide)) (g := (mkF m 32 #[.val (.ref a1), .val (.int (1 : Int32))] [(.int (33 : Int32)), (.int (64 : Int32)), (.ref b), (.ref a1)])) rfl (by rw [hml]; rfl) (argsL := [(.int (64 : Int32)), (.int (33 : Int32))]) (rest := [(.ref b), (.ref a1)]) (lenOf pd_0 rfl) rfl (by show 2 * 0 + _ ≤ _; exact Nat.le_of_eq rfl) (hb hby d7_32) (fun _ _ => ⟨rfl, e69, (by decide : 0 + 0 ≤ _), (by decide : 0 + 0 ≤ _)⟩)
  dsimp only [Pt.U, Pt.locs, Pt.cells, Pt.slots] at X70 l70 y70 z70 st70 hQ70
  subst l70 y70 z70
  obtain ⟨z70', rfl, Nq70, hh70, hz70⟩ := hQ70
  have N70 := Fr.app N0 Nq70
  refine own_go st70 ?_
  have e70 : T70.heap = h0 := hh70
  obtain rfl : z70' = (64 : Int32) := hz70.trans (by decide)
  show own_G p e below (T70.setTop (mkF m 35 #[.val (.ref a1), .val (.int (1 : Int32))] [(.int (64 : Int32)), (.ref b), (.ref a1)])) _
  obtain ⟨_, _, ⟨T71, L71, k71, n71⟩, -, X71, ⟨Lc71, hQ71, l71, y71, z71⟩, st71⟩ := Jvm.LawKit.callS X70 hx (y := (⟨"java/util/Arrays", "copyOf", "([BI)[B"⟩ : MethodName)) hown (mvT hZ (hw _ (List.mem_of_getElem? (i := 19) rfl))) (mvT hZ (hw _ (List.mem_of_getElem? (i := 20) rfl))) (mvT hZ (hw _ (List.mem_of_getElem? (i := 21) rfl))) (mvT hZ (hw _ (List.mem_of_getElem? (i := 22) rfl))) (by decide) (backOf (W := 1) (rm4 l Z a0 hw [] b (64 : Int32) k1 (32 : Int32) vs 64 h0 n0 Z0 V_b E_b (by decide) (by decide) (by decide) (by rw [hlen]; decide)) hZ (hw _ (List.mem_of_getElem? (i := 22) rfl)) (hw _ (List.mem_of_getElem? (i := 21) rfl)) (by decide) (by decide)) (g := (mkF m 35 #[.val (.ref a1), .val (.int (1 : Int32))] [(.int (64 : Int32)), (.ref b), (.ref a1)])) rfl (by rw [hml]; rfl) (argsL := [(.ref b), (.int (64 : Int32))]) (rest := [(.ref a1)]) (lenOf pd_1 rfl) rfl (by show 2 * 0 + _ ≤ _; exact Nat.le_of_eq rfl) (hb hby d7_35) (fun _ _ => ⟨rfl, e70, (by decide : 0 + 0 + 1 ≤ _), (by decide : 0 + 0 + 64 ≤ _)⟩)
  dsimp only [Pt.U, Pt.locs, Pt.cells, Pt.slots] at X71 l71 y71 z71 st71 hQ71
  subst l71 y71 z71
  obtain ⟨r71, k71q, rfl, Nq71, K71, hsz71, E71q, Vq71⟩ := hQ71
  have N71 := Fr.app N70 Nq71
  refine own_go st71 ?_
  have ne72 : a1 ≠ r71 := Nat.ne_of_lt (Nat.lt_of_lt_of_le E_a1.lt hsz71)
  have ne73 : b ≠ r71 := Nat.ne_of_lt (Nat.lt_of_lt_of_le V_b.lt hsz71)
  have ge74 : n0 ≤ r71 := Nat.le_trans Z0 hsz71
  have sz75 : h0.size ≤ r71 := Nat.le_trans (Keep.refl h0 [a1]).1 hsz71
  have f76 := E_a1.keep K71
  have f77 := F_b.keep K71 nin0
  have f78 := F_l.keep K71 nin0
  have f79 := V_b.keep K71 nin0
  have f80 := E_b.keep K71
  have zs81 : n0 ≤ T71.heap.size := Nat.le_trans Z0 K71.1
  have kp82 : Keep h0 T71.heap [a1] := (Keep.refl h0 [a1]).trans K71 all0
  have V71 : Arv Z T71.heap r71 k71q .byte (64 : Int32) vs (.int (0 : Int32)) := by rw [List.take_of_length_le (by rw [hlen]; decide)] at Vq71; exact Vq71
  show own_G p e below (T71.setTop (mkF m 38 #[.val (.ref a1), .val (.int (1 : Int32))] [(.ref r71), (.ref a1)])) _
  obtain ⟨T83, h83, X83, e83, W83, st83⟩ := putF X71 hx hZ hown (host := "") (Or.inl (hw _ (List.mem_of_getElem? (i := 10) rfl))) Via.refl rfl f77 f76 (Or.inl (hw _ (List.mem_of_getElem? (i := 11) rfl))) (hw _ (List.mem_of_getElem? (i := 1) rfl)) (ty := (.array .byte)) (by decide) rfl rfl (g := (mkF m 38 #[.val (.ref a1), .val (.int (1 : Int32))] [(.ref r71), (.ref a1)])) rfl rfl (hb hby d7_38)
  refine own_go st83 ?_
  have fw83 := f77.same W83
  have f84 := f76.wr W83
  have f85 := f78.other W83 (Or.inr (slot_ne (Or.inl (hw _ (List.mem_of_getElem? (i := 18) rfl))) (Or.inl (hw _ (List.mem_of_getElem? (i := 11) rfl))) (by decide) (t := .int) (t' := (.array .byte)) (by decide) (by decide)))
  have f86 := f79.other W83 (Ne.symm neab)
  have f87 := f80.wr W83
  have f88 := V71.other W83 (Ne.symm ne72)
  have f89 := E71q.wr W83
  have zs90 : n0 ≤ h83.size := Nat.le_trans zs81 (Keep.of_wr W83).1
  have kp91 : Keep h0 h83 [a1] := kp82.wr W83 (Or.inl (List.mem_of_getElem? (i := 0) rfl))
  have N83 := Fr.snoc X83 N71 g_a1
  show own_G p e below (T83.setTop (mkF m 41 #[.val (.ref a1), .val (.int (1 : Int32))] [])) _
  refine own_ret X83 hlk (v := none) (fun _ => rfl) (Q7_1 Z a1 b k1 vs h0 n0) (own_retV X83 hx hret (hb hby d7_41)) (by decide) (by decide) ?_
  show Q7_1 Z a1 b k1 vs h0 n0 _ T83.heap _
  rw [e83]
  exact ⟨r71, k71q, rfl, N83, kp91, sz75, f84, fw83, (by rw [own_of32 hlen]; exact f85), f89, f88⟩
theorem ef_6 (m : MethodId) (a1 : Addr) (p2 : Int32) : entryFrame m #[(.ref a1), (.int p2)] 2 = mkF m 0 #[.val (.ref a1), .val (.int p2)] [] := by first | (simp [entryFrame, mkF, argsToLocals, Value.category]; done) | rfl
def Q6_0 (Z : State) (a1 : Addr) (p2 : Int32) (b : Addr) (k1 : ClassId) (z : Int32) (vs : List Value) (h0 : Heap) (n0 : Nat) (v : Option Value) (h : Heap) (L : List Loc) : Prop := v = some (.ref a1) ∧ Fr n0 L ∧ Keep h0 h [a1, b] ∧ Exa Z h a1 "com/example/orbweave/orbweave/ByteWriter" ∧ Fld Z h a1 "com/example/orbweave/orbweave/ByteWriter" "_bytes" "[B" (.ref b) ∧ Fld Z h a1 "com/example/orbweave/orbweave/ByteWriter" "_length" "I" (.int (Int32.ofNat (vs ++ [Value.int (p2.toInt8.toInt32)]).length)) ∧ Exa Z h b "[B" ∧ Arv Z h b k1 .byte z (vs ++ [Value.int (p2.toInt8.toInt32)]) (.int (0 : Int32))
set_option maxRecDepth 65536 in
set_option maxHeartbeats 40000000 in
theorem rm6_0 (l : Launch) (Z : State) (a0 : Array Value) (hw : ∀ d ∈ tables_1, d.before a0 Z = true) (ws : List Jvm.Cond) (a1 : Addr) (p2 : Int32) (b : Addr) (k1 : ClassId) (z : Int32) (vs : List Value) (h0 : Heap) (n0 : Nat) (Z0 : n0 ≤ h0.size) (E_a1 : Exa Z h0 a1 "com/example/orbweave/orbweave/ByteWriter") (F_b : Fld Z h0 a1 "com/example/orbweave/orbweave/ByteWriter" "_bytes" "[B" (.ref b)) (F_l : Fld Z h0 a1 "com/example/orbweave/orbweave/ByteWriter" "_length" "I" (.int (Int32.ofNat vs.length))) (g_a1 : n0 ≤ a1) (V_b : Arv Z h0 b k1 .byte z vs (.int (0 : Int32))) (E_b : Exa Z h0 b "[B") (g_b : n0 ≤ b) (hlt : vs.length + 1 ≤ z.toNatClampNeg) (hz : z.toNatClampNeg ≤ 64) :
    MetFree l (⟨"com/example/orbweave/orbweave/ByteWriter", "writeByte", "(I)Lcom/example/orbweave/orbweave/ByteWriter;"⟩ : MethodName) (head1 (Jvm.Cond.code (⟨"com/example/orbweave/orbweave/ByteWriter", "writeByte", "(I)Lcom/example/orbweave/orbweave/ByteWriter;"⟩ : MethodName) prog_2_method_2_code 2 (some (.object "com/example/orbweave/orbweave/ByteWriter")) :: ws) ({ frames := 1, cells := 0, slots := 0, locals := 13 } : Room)) (fun a U => a = #[(.ref a1), (.int p2)] ∧ Z.Warmed39 U.vm ∧ U.heap = h0) (fun _ _ _ _ _ => True) (fun _ U o U' => ∃ v L, o = .returned v ∧ Q6_0 Z a1 p2 b k1 z vs h0 n0 v U'.heap L ∧ FrameEnd U o U' L ({ frames := 1, cells := 0, slots := 0, locals := 13 } : Room).cells ({ frames := 1, cells := 0, slots := 0, locals := 13 } : Room).slots) := by
  refine MetFree.of_bodySF (plainFor_of_name pn_6) hisR ?_
  intro p e s m args below meth c s₁ Bd hml0 hP hK
  obtain ⟨rfl, hZ, hh⟩ := hP
  have hx := Bd.exec
  have hby := Bd.bytes
  have hml : c.maxLocals = 2 := hml0
  have hown : s.vm.findClass "com/example/orbweave/orbweave/ByteWriter" = some m.cls := findClass_of_methodNamed Bd.named
  have hnm := (name_of_methodNamed Bd.named Bd.method).1
  have hlk := Bd.notSynchronized
  have hret := Bd.returns
  have X0 : Stand p l e ({ frames := 1, cells := 0, slots := 0, locals := 13 } : Room) s m #[(.ref a1), (.int p2)] below meth c s₁ [] 0 0 := Stand.of_body Bd
  have e0 : s₁.heap = h0 := by rw [← hh, Bd.state]; rfl
  have N0 := Fr.nil n0
  show own_G p e below (s₁.setTop (entryFrame m #[(.ref a1), (.int p2)] 2)) (fun s₂ o => ∃ v L, o = .returned v ∧ Q6_0 Z a1 p2 b k1 z vs h0 n0 v s₂.heap L ∧ FrameEnd s o s₂ L ({ frames := 1, cells := 0, slots := 0, locals := 13 } : Room).cells ({ frames := 1, cells := 0, slots := 0, locals := 13 } : Room).slots)
  refine own_go (fun t k => castTop (ef_6 m a1 p2) k) ?_
  have neab : a1 ≠ b := ne_exa E_a1 E_b (by decide)
  show own_G p e below (s₁.setTop (mkF m 0 #[.val (.ref a1), .val (.int p2)] [])) _
  refine own_go (fun _ k => XS.aloadN X0.here hx rfl (hb hby d6_0) rfl rfl k) ?_
  show own_G p e below (s₁.setTop (mkF m 1 #[.val (.ref a1), .val (.int p2)] [(.ref a1)])) _
  refine own_go (fun _ k => XS.iconst X0.here hx rfl (hb hby d6_1) k) ?_
  show own_G p e below (s₁.setTop (mkF m 2 #[.val (.ref a1), .val (.int p2)] [(.int (1 : Int32)), (.ref a1)])) _
  obtain ⟨cq92, q92, q92'⟩ := E_a1.cell
  obtain ⟨_, _, ⟨T92, L92, k92, n92⟩, -, X92, ⟨Lc92, hQ92, l92, y92, z92⟩, st92⟩ := X0.privateBack hx (y := (⟨"com/example/orbweave/orbweave/ByteWriter", "ensure", "(I)V"⟩ : MethodName)) hown (mvT hZ (hw _ (List.mem_of_getElem? (i := 36) rfl))) (mvT hZ (hw _ (List.mem_of_getElem? (i := 37) rfl))) (own_selects (mvT hZ (hw _ (List.mem_of_getElem? (i := 1) rfl))) (mvP hZ (hw _ (List.mem_of_getElem? (i := 38) rfl))) (mvT hZ (hw _ (List.mem_of_getElem? (i := 37) rfl))) (by decide)) (Cond.privateMethod_at (mvP hZ (hw _ (List.mem_of_getElem? (i := 38) rfl)) (args := #[]))) (mvT hZ (hw _ (List.mem_of_getElem? (i := 39) rfl))) (by decide) (backOf (W := 0) (rm7_0 l Z a0 hw [] a1 b k1 z vs h0 n0 Z0 F_b F_l V_b (own_hle hlt hz)) hZ (hw _ (List.mem_of_getElem? (i := 39) rfl)) (hw _ (List.mem_of_getElem? (i := 2) rfl)) (by decide) (by decide)) (g := (mkF m 2 #[.val (.ref a1), .val (.int p2)] [(.int (1 : Int32)), (.ref a1)])) rfl (by rw [hml]; rfl) (Steps.refl _) (a := a1) (by rw [e0]; exact q92) q92' (argsL := [(.int (1 : Int32))]) (rest := []) (lenOf pd_2 rfl) rfl (by show 2 * 0 + _ ≤ _; exact Nat.le_of_eq rfl) (hb hby d6_2) (fun _ _ => ⟨rfl, e0, (by decide : 0 + 0 ≤ _), (by decide : 0 + 0 ≤ _)⟩)
  dsimp only [Pt.U, Pt.locs, Pt.cells, Pt.slots] at X92 l92 y92 z92 st92 hQ92
  subst l92 y92 z92
  obtain ⟨rfl, Nq92, hh92⟩ := hQ92
  have N92 := Fr.app N0 Nq92
  refine own_go (fun _ k => st92.trans k) ?_
  have e92 : T92.heap = h0 := hh92
  show own_G p e below (T92.setTop (mkF m 5 #[.val (.ref a1), .val (.int p2)] [])) _
  refine own_go (fun _ k => XS.aloadN X92.here hx rfl (hb hby d6_5) rfl rfl k) ?_
  show own_G p e below (T92.setTop (mkF m 6 #[.val (.ref a1), .val (.int p2)] [(.ref a1)])) _
  obtain ⟨T93, X93, e93, st93⟩ := getF X92 hx hZ hown (host := "") (Or.inl (hw _ (List.mem_of_getElem? (i := 10) rfl))) Via.refl e92 F_b (g := (mkF m 6 #[.val (.ref a1), .val (.int p2)] [(.ref a1)])) rfl rfl (hb hby d6_6)
  refine own_go st93 ?_
  show own_G p e below (T93.setTop (mkF m 9 #[.val (.ref a1), .val (.int p2)] [(.ref b)])) _
  refine own_go (fun _ k => XS.aloadN X93.here hx rfl (hb hby d6_9) rfl rfl k) ?_
  show own_G p e below (T93.setTop (mkF m 10 #[.val (.ref a1), .val (.int p2)] [(.ref a1), (.ref b)])) _
  refine own_go (fun _ k => XS.dup X93.here hx rfl (hb hby d6_10) rfl rfl k) ?_
  show own_G p e below (T93.setTop (mkF m 11 #[.val (.ref a1), .val (.int p2)] [(.ref a1), (.ref a1), (.ref b)])) _
  obtain ⟨T94, X94, e94, st94⟩ := getF X93 hx hZ hown (host := "") (Or.inl (hw _ (List.mem_of_getElem? (i := 17) rfl))) Via.refl e93 F_l (g := (mkF m 11 #[.val (.ref a1), .val (.int p2)] [(.ref a1), (.ref a1), (.ref b)])) rfl rfl (hb hby d6_11)
  refine own_go st94 ?_
  show own_G p e below (T94.setTop (mkF m 14 #[.val (.ref a1), .val (.int p2)] [(.int (Int32.ofNat vs.length)), (.ref a1), (.ref b)])) _
  refine own_go (fun _ k => XS.dupX1 X94.here hx rfl (hb hby d6_14) rfl rfl rfl k) ?_
  show own_G p e below (T94.setTop (mkF m 15 #[.val (.ref a1), .val (.int p2)] [(.int (Int32.ofNat vs.length)), (.ref a1), (.int (Int32.ofNat vs.length)), (.ref b)])) _
  refine own_go (fun _ k => XS.iconst X94.here hx rfl (hb hby d6_15) k) ?_
  show own_G p e below (T94.setTop (mkF m 16 #[.val (.ref a1), .val (.int p2)] [(.int (1 : Int32)), (.int (Int32.ofNat vs.length)), (.ref a1), (.int (Int32.ofNat vs.length)), (.ref b)])) _
  refine own_go (fun _ k => XS.iadd X94.here hx rfl (hb hby d6_16) rfl k) ?_
  show own_G p e below (T94.setTop (mkF m 17 #[.val (.ref a1), .val (.int p2)] [(.int ((Int32.ofNat vs.length) + (1 : Int32))), (.ref a1), (.int (Int32.ofNat vs.length)), (.ref b)])) _
  obtain ⟨T95, h95, X95, e95, W95, st95⟩ := putF X94 hx hZ hown (host := "") (Or.inl (hw _ (List.mem_of_getElem? (i := 17) rfl))) Via.refl e94 F_l E_a1 (Or.inl (hw _ (List.mem_of_getElem? (i := 18) rfl))) (hw _ (List.mem_of_getElem? (i := 1) rfl)) (ty := .int) (by decide) rfl rfl (g := (mkF m 17 #[.val (.ref a1), .val (.int p2)] [(.int ((Int32.ofNat vs.length) + (1 : Int32))), (.ref a1), (.int (Int32.ofNat vs.length)), (.ref b)])) rfl rfl (hb hby d6_17)
  refine own_go st95 ?_
  have fw95 := F_l.same W95
  have f96 := E_a1.wr W95
  have f97 := F_b.other W95 (Or.inr (slot_ne (Or.inl (hw _ (List.mem_of_getElem? (i := 11) rfl))) (Or.inl (hw _ (List.mem_of_getElem? (i := 18) rfl))) (by decide) (t := (.array .byte)) (t' := .int) (by decide) (by decide)))
  have f98 := V_b.other W95 (Ne.symm neab)
  have f99 := E_b.wr W95
  have zs100 : n0 ≤ h95.size := Nat.le_trans Z0 (Keep.of_wr W95).1
  have kp101 : Keep h0 h95 [a1, b] := (Keep.refl h0 [a1, b]).wr W95 (Or.inl (List.mem_of_getElem? (i := 0) rfl))
  have N95 := Fr.snoc X95 N92 g_a1
  show own_G p e below (T95.setTop (mkF m 20 #[.val (.ref a1), .val (.int p2)] [(.int (Int32.ofNat vs.length)), (.ref b)])) _
  refine own_go (fun _ k => XS.iloadN X95.here hx rfl (hb hby d6_20) rfl k) ?_
  show own_G p e below (T95.setTop (mkF m 21 #[.val (.ref a1), .val (.int p2)] [(.int p2), (.int (Int32.ofNat vs.length)), (.ref b)])) _
  refine own_go (fun _ k => XS.i2b X95.here hx rfl (hb hby d6_21) rfl k) ?_
  show own_G p e below (T95.setTop (mkF m 22 #[.val (.ref a1), .val (.int p2)] [(.int (p2.toInt8.toInt32)), (.int (Int32.ofNat vs.length)), (.ref b)])) _
  obtain ⟨cl102, Ar102, q102, S102, M102, B102, G102⟩ := id f98
  have hin102 : ¬ ((Int32.ofNat vs.length) < 0 ∨ cl102.slots.size ≤ ((Int32.ofNat vs.length)).toNatClampNeg) := inb_of S102 (own_idx hlt hz)
  obtain ⟨T102, h102, X102, e102, W102, st102⟩ := stB X95 hx hZ e95 Ar102 (j := (Int32.ofNat vs.length)) hin102 (g := (mkF m 22 #[.val (.ref a1), .val (.int p2)] [(.int (p2.toInt8.toInt32)), (.int (Int32.ofNat vs.length)), (.ref b)])) rfl rfl (hb hby d6_22)
  refine own_go st102 ?_
  rw [show nar .byte (p2.toInt8.toInt32) = (p2.toInt8.toInt32) from (own_bb _)] at W102
  have f103 := f96.wr W102
  have f104 := f97.other W102 (Or.inl neab)
  have f105 := f99.wr W102
  have f106 := fw95.other W102 (Or.inl neab)
  have zs107 : n0 ≤ h102.size := Nat.le_trans zs100 (Keep.of_wr W102).1
  have kp108 : Keep h0 h102 [a1, b] := kp101.wr W102 (Or.inl (List.mem_of_getElem? (i := 1) rfl))
  have V102 : Arv Z h102 b k1 .byte z (vs ++ [Value.int (p2.toInt8.toInt32)]) (.int (0 : Int32)) := own_push Ar102 q102 S102 M102 B102 G102 (fits_nar_byte _) W102 (own_tn (by omega))
  have N102 := Fr.snoc X102 N95 g_b
  show own_G p e below (T102.setTop (mkF m 23 #[.val (.ref a1), .val (.int p2)] [])) _
  refine own_go (fun _ k => XS.aloadN X102.here hx rfl (hb hby d6_23) rfl rfl k) ?_
  show own_G p e below (T102.setTop (mkF m 24 #[.val (.ref a1), .val (.int p2)] [(.ref a1)])) _
  refine own_ret X102 hlk (v := some (.ref a1)) (fun h => by rw [hret] at h; cases h) (Q6_0 Z a1 p2 b k1 z vs h0 n0) (own_retI X102 hx (t := (.object "com/example/orbweave/orbweave/ByteWriter")) hret rfl (Or.inr (Or.inr (Or.inr (Or.inr ⟨rfl, rfl, rfl⟩)))) (hb hby d6_24)) (by decide) (by decide) ?_
  show Q6_0 Z a1 p2 b k1 z vs h0 n0 _ T102.heap _
  rw [e102]
  exact ⟨rfl, N102, kp108, f103, f104, (by rw [own_len1]; exact f106), f105, V102⟩
def Q6_1 (Z : State) (a1 : Addr) (p2 : Int32) (b : Addr) (k1 : ClassId) (vs : List Value) (h0 : Heap) (n0 : Nat) (v : Option Value) (h : Heap) (L : List Loc) : Prop := ∃ (b' : Addr) (k' : ClassId), v = some (.ref a1) ∧ Fr n0 L ∧ Keep h0 h [a1] ∧ h0.size ≤ b' ∧ Exa Z h a1 "com/example/orbweave/orbweave/ByteWriter" ∧ Fld Z h a1 "com/example/orbweave/orbweave/ByteWriter" "_bytes" "[B" (.ref b') ∧ Fld Z h a1 "com/example/orbweave/orbweave/ByteWriter" "_length" "I" (.int (Int32.ofNat (vs ++ [Value.int (p2.toInt8.toInt32)]).length)) ∧ Exa Z h b' "[B" ∧ Arv Z h b' k' .byte (64 : Int32) (vs ++ [Value.int (p2.toInt8.toInt32)]) (.int (0 : Int32))
set_option maxRecDepth 65536 in
set_option maxHeartbeats 40000000 in
theorem rm6_1 (l : Launch) (Z : State) (a0 : Array Value) (hw : ∀ d ∈ tables_1, d.before a0 Z = true) (ws : List Jvm.Cond) (a1 : Addr) (p2 : Int32) (b : Addr) (k1 : ClassId) (vs : List Value) (h0 : Heap) (n0 : Nat) (Z0 : n0 ≤ h0.size) (E_a1 : Exa Z h0 a1 "com/example/orbweave/orbweave/ByteWriter") (F_b : Fld Z h0 a1 "com/example/orbweave/orbweave/ByteWriter" "_bytes" "[B" (.ref b)) (F_l : Fld Z h0 a1 "com/example/orbweave/orbweave/ByteWriter" "_length" "I" (.int (32 : Int32))) (g_a1 : n0 ≤ a1) (V_b : Arv Z h0 b k1 .byte (32 : Int32) vs (.int (0 : Int32))) (E_b : Exa Z h0 b "[B") (g_b : n0 ≤ b) (hlen : vs.length = 32) :
    MetFree l (⟨"com/example/orbweave/orbweave/ByteWriter", "writeByte", "(I)Lcom/example/orbweave/orbweave/ByteWriter;"⟩ : MethodName) (head1 (Jvm.Cond.code (⟨"com/example/orbweave/orbweave/ByteWriter", "writeByte", "(I)Lcom/example/orbweave/orbweave/ByteWriter;"⟩ : MethodName) prog_2_method_2_code 2 (some (.object "com/example/orbweave/orbweave/ByteWriter")) :: ws) ({ frames := 3, cells := 1, slots := 64, locals := 46 } : Room)) (fun a U => a = #[(.ref a1), (.int p2)] ∧ Z.Warmed39 U.vm ∧ U.heap = h0) (fun _ _ _ _ _ => True) (fun _ U o U' => ∃ v L, o = .returned v ∧ Q6_1 Z a1 p2 b k1 vs h0 n0 v U'.heap L ∧ FrameEnd U o U' L ({ frames := 3, cells := 1, slots := 64, locals := 46 } : Room).cells ({ frames := 3, cells := 1, slots := 64, locals := 46 } : Room).slots) := by
  refine MetFree.of_bodySF (plainFor_of_name pn_6) hisR ?_
  intro p e s m args below meth c s₁ Bd hml0 hP hK
  obtain ⟨rfl, hZ, hh⟩ := hP
  have hx := Bd.exec
  have hby := Bd.bytes
  have hml : c.maxLocals = 2 := hml0
  have hown : s.vm.findClass "com/example/orbweave/orbweave/ByteWriter" = some m.cls := findClass_of_methodNamed Bd.named
  have hnm := (name_of_methodNamed Bd.named Bd.method).1
  have hlk := Bd.notSynchronized
  have hret := Bd.returns
  have X0 : Stand p l e ({ frames := 3, cells := 1, slots := 64, locals := 46 } : Room) s m #[(.ref a1), (.int p2)] below meth c s₁ [] 0 0 := Stand.of_body Bd
  have e0 : s₁.heap = h0 := by rw [← hh, Bd.state]; rfl
  have N0 := Fr.nil n0
  show own_G p e below (s₁.setTop (entryFrame m #[(.ref a1), (.int p2)] 2)) (fun s₂ o => ∃ v L, o = .returned v ∧ Q6_1 Z a1 p2 b k1 vs h0 n0 v s₂.heap L ∧ FrameEnd s o s₂ L ({ frames := 3, cells := 1, slots := 64, locals := 46 } : Room).cells ({ frames := 3, cells := 1, slots := 64, locals := 46 } : Room).slots)
  refine own_go (fun t k => castTop (ef_6 m a1 p2) k) ?_
  have neab : a1 ≠ b := ne_exa E_a1 E_b (by decide)
  show own_G p e below (s₁.setTop (mkF m 0 #[.val (.ref a1), .val (.int p2)] [])) _
  refine own_go (fun _ k => XS.aloadN X0.here hx rfl (hb hby d6_0) rfl rfl k) ?_
  show own_G p e below (s₁.setTop (mkF m 1 #[.val (.ref a1), .val (.int p2)] [(.ref a1)])) _
  refine own_go (fun _ k => XS.iconst X0.here hx rfl (hb hby d6_1) k) ?_
  show own_G p e below (s₁.setTop (mkF m 2 #[.val (.ref a1), .val (.int p2)] [(.int (1 : Int32)), (.ref a1)])) _
  obtain ⟨cq109, q109, q109'⟩ := E_a1.cell
  obtain ⟨_, _, ⟨T109, L109, k109, n109⟩, -, X109, ⟨Lc109, hQ109, l109, y109, z109⟩, st109⟩ := X0.privateBack hx (y := (⟨"com/example/orbweave/orbweave/ByteWriter", "ensure", "(I)V"⟩ : MethodName)) hown (mvT hZ (hw _ (List.mem_of_getElem? (i := 36) rfl))) (mvT hZ (hw _ (List.mem_of_getElem? (i := 37) rfl))) (own_selects (mvT hZ (hw _ (List.mem_of_getElem? (i := 1) rfl))) (mvP hZ (hw _ (List.mem_of_getElem? (i := 38) rfl))) (mvT hZ (hw _ (List.mem_of_getElem? (i := 37) rfl))) (by decide)) (Cond.privateMethod_at (mvP hZ (hw _ (List.mem_of_getElem? (i := 38) rfl)) (args := #[]))) (mvT hZ (hw _ (List.mem_of_getElem? (i := 39) rfl))) (by decide) (backOf (W := 0) (rm7_1 l Z a0 hw [] a1 b k1 vs h0 n0 Z0 E_a1 F_b F_l g_a1 V_b E_b g_b hlen) hZ (hw _ (List.mem_of_getElem? (i := 39) rfl)) (hw _ (List.mem_of_getElem? (i := 2) rfl)) (by decide) (by decide)) (g := (mkF m 2 #[.val (.ref a1), .val (.int p2)] [(.int (1 : Int32)), (.ref a1)])) rfl (by rw [hml]; rfl) (Steps.refl _) (a := a1) (by rw [e0]; exact q109) q109' (argsL := [(.int (1 : Int32))]) (rest := []) (lenOf pd_2 rfl) rfl (by show 2 * 0 + _ ≤ _; exact Nat.le_of_eq rfl) (hb hby d6_2) (fun _ _ => ⟨rfl, e0, (by decide : 0 + 1 ≤ _), (by decide : 0 + 64 ≤ _)⟩)
  dsimp only [Pt.U, Pt.locs, Pt.cells, Pt.slots] at X109 l109 y109 z109 st109 hQ109
  subst l109 y109 z109
  obtain ⟨b109, k109q, rfl, Nq109, K109, hsz109, Eo109, Fb109, Fl109, Eb109, Vq109⟩ := hQ109
  have N109 := Fr.app N0 Nq109
  refine own_go (fun _ k => st109.trans k) ?_
  have ne110 : a1 ≠ b109 := Nat.ne_of_lt (Nat.lt_of_lt_of_le E_a1.lt hsz109)
  have ne111 : b ≠ b109 := Nat.ne_of_lt (Nat.lt_of_lt_of_le V_b.lt hsz109)
  have ge112 : n0 ≤ b109 := Nat.le_trans Z0 hsz109
  have sz113 : h0.size ≤ b109 := Nat.le_trans (Keep.refl h0 [a1]).1 hsz109
  have f114 := E_a1.keep K109
  have f115 := V_b.keep K109 (ninS (Ne.symm neab) nin0)
  have f116 := E_b.keep K109
  have zs117 : n0 ≤ T109.heap.size := Nat.le_trans Z0 K109.1
  have kp118 : Keep h0 T109.heap [a1] := (Keep.refl h0 [a1]).trans K109 (allS (Or.inl (List.mem_of_getElem? (i := 0) rfl)) all0)
  have Fx109 := Fl109
  rw [own_of32 hlen] at Fx109
  show own_G p e below (T109.setTop (mkF m 5 #[.val (.ref a1), .val (.int p2)] [])) _
  refine own_go (fun _ k => XS.aloadN X109.here hx rfl (hb hby d6_5) rfl rfl k) ?_
  show own_G p e below (T109.setTop (mkF m 6 #[.val (.ref a1), .val (.int p2)] [(.ref a1)])) _
  obtain ⟨T119, X119, e119, st119⟩ := getF X109 hx hZ hown (host := "") (Or.inl (hw _ (List.mem_of_getElem? (i := 10) rfl))) Via.refl rfl Fb109 (g := (mkF m 6 #[.val (.ref a1), .val (.int p2)] [(.ref a1)])) rfl rfl (hb hby d6_6)
  refine own_go st119 ?_
  show own_G p e below (T119.setTop (mkF m 9 #[.val (.ref a1), .val (.int p2)] [(.ref b109)])) _
  refine own_go (fun _ k => XS.aloadN X119.here hx rfl (hb hby d6_9) rfl rfl k) ?_
  show own_G p e below (T119.setTop (mkF m 10 #[.val (.ref a1), .val (.int p2)] [(.ref a1), (.ref b109)])) _
  refine own_go (fun _ k => XS.dup X119.here hx rfl (hb hby d6_10) rfl rfl k) ?_
  show own_G p e below (T119.setTop (mkF m 11 #[.val (.ref a1), .val (.int p2)] [(.ref a1), (.ref a1), (.ref b109)])) _
  obtain ⟨T120, X120, e120, st120⟩ := getF X119 hx hZ hown (host := "") (Or.inl (hw _ (List.mem_of_getElem? (i := 17) rfl))) Via.refl e119 Fx109 (g := (mkF m 11 #[.val (.ref a1), .val (.int p2)] [(.ref a1), (.ref a1), (.ref b109)])) rfl rfl (hb hby d6_11)
  refine own_go st120 ?_
  show own_G p e below (T120.setTop (mkF m 14 #[.val (.ref a1), .val (.int p2)] [(.int (32 : Int32)), (.ref a1), (.ref b109)])) _
  refine own_go (fun _ k => XS.dupX1 X120.here hx rfl (hb hby d6_14) rfl rfl rfl k) ?_
  show own_G p e below (T120.setTop (mkF m 15 #[.val (.ref a1), .val (.int p2)] [(.int (32 : Int32)), (.ref a1), (.int (32 : Int32)), (.ref b109)])) _
  refine own_go (fun _ k => XS.iconst X120.here hx rfl (hb hby d6_15) k) ?_
  show own_G p e below (T120.setTop (mkF m 16 #[.val (.ref a1), .val (.int p2)] [(.int (1 : Int32)), (.int (32 : Int32)), (.ref a1), (.int (32 : Int32)), (.ref b109)])) _
  refine own_go (fun _ k => XS.iadd X120.here hx rfl (hb hby d6_16) rfl k) ?_
  show own_G p e below (T120.setTop (mkF m 17 #[.val (.ref a1), .val (.int p2)] [(.int (33 : Int32)), (.ref a1), (.int (32 : Int32)), (.ref b109)])) _
  obtain ⟨T121, h121, X121, e121, W121, st121⟩ := putF X120 hx hZ hown (host := "") (Or.inl (hw _ (List.mem_of_getElem? (i := 17) rfl))) Via.refl e120 Fx109 Eo109 (Or.inl (hw _ (List.mem_of_getElem? (i := 18) rfl))) (hw _ (List.mem_of_getElem? (i := 1) rfl)) (ty := .int) (by decide) rfl rfl (g := (mkF m 17 #[.val (.ref a1), .val (.int p2)] [(.int (33 : Int32)), (.ref a1), (.int (32 : Int32)), (.ref b109)])) rfl rfl (hb hby d6_17)
  refine own_go st121 ?_
  have fw121 := Fx109.same W121
  have f122 := Eo109.wr W121
  have f123 := f115.other W121 (Ne.symm neab)
  have f124 := f116.wr W121
  have f125 := Fb109.other W121 (Or.inr (slot_ne (Or.inl (hw _ (List.mem_of_getElem? (i := 11) rfl))) (Or.inl (hw _ (List.mem_of_getElem? (i := 18) rfl))) (by decide) (t := (.array .byte)) (t' := .int) (by decide) (by decide)))
  have f126 := Eb109.wr W121
  have f127 := Vq109.other W121 (Ne.symm ne110)
  have zs128 : n0 ≤ h121.size := Nat.le_trans zs117 (Keep.of_wr W121).1
  have kp129 : Keep h0 h121 [a1] := kp118.wr W121 (Or.inl (List.mem_of_getElem? (i := 0) rfl))
  have N121 := Fr.snoc X121 N109 g_a1
  show own_G p e below (T121.setTop (mkF m 20 #[.val (.ref a1), .val (.int p2)] [(.int (32 : Int32)), (.ref b109)])) _
  refine own_go (fun _ k => XS.iloadN X121.here hx rfl (hb hby d6_20) rfl k) ?_
  show own_G p e below (T121.setTop (mkF m 21 #[.val (.ref a1), .val (.int p2)] [(.int p2), (.int (32 : Int32)), (.ref b109)])) _
  refine own_go (fun _ k => XS.i2b X121.here hx rfl (hb hby d6_21) rfl k) ?_
  show own_G p e below (T121.setTop (mkF m 22 #[.val (.ref a1), .val (.int p2)] [(.int (p2.toInt8.toInt32)), (.int (32 : Int32)), (.ref b109)])) _
  obtain ⟨cl130, Ar130, q130, S130, M130, B130, G130⟩ := id f127
  have hin130 : ¬ ((32 : Int32) < 0 ∨ cl130.slots.size ≤ ((32 : Int32)).toNatClampNeg) := inb_of S130 ⟨by decide, by decide⟩
  obtain ⟨T130, h130, X130, e130, W130, st130⟩ := stB X121 hx hZ e121 Ar130 (j := (32 : Int32)) hin130 (g := (mkF m 22 #[.val (.ref a1), .val (.int p2)] [(.int (p2.toInt8.toInt32)), (.int (32 : Int32)), (.ref b109)])) rfl rfl (hb hby d6_22)
  refine own_go st130 ?_
  rw [show nar .byte (p2.toInt8.toInt32) = (p2.toInt8.toInt32) from (own_bb _)] at W130
  have f131 := f122.wr W130
  have f132 := f123.other W130 ne111
  have f133 := f124.wr W130
  have f134 := f125.other W130 (Or.inl ne110)
  have f135 := f126.wr W130
  have f136 := fw121.other W130 (Or.inl ne110)
  have zs137 : n0 ≤ h130.size := Nat.le_trans zs128 (Keep.of_wr W130).1
  have kp138 : Keep h0 h130 [a1] := kp129.wr W130 (Or.inr sz113)
  have V130 : Arv Z h130 b109 k109q .byte (64 : Int32) (vs ++ [Value.int (p2.toInt8.toInt32)]) (.int (0 : Int32)) := own_push Ar130 q130 S130 M130 B130 G130 (fits_nar_byte _) W130 (by rw [hlen]; decide)
  have N130 := Fr.snoc X130 N121 ge112
  show own_G p e below (T130.setTop (mkF m 23 #[.val (.ref a1), .val (.int p2)] [])) _
  refine own_go (fun _ k => XS.aloadN X130.here hx rfl (hb hby d6_23) rfl rfl k) ?_
  show own_G p e below (T130.setTop (mkF m 24 #[.val (.ref a1), .val (.int p2)] [(.ref a1)])) _
  refine own_ret X130 hlk (v := some (.ref a1)) (fun h => by rw [hret] at h; cases h) (Q6_1 Z a1 p2 b k1 vs h0 n0) (own_retI X130 hx (t := (.object "com/example/orbweave/orbweave/ByteWriter")) hret rfl (Or.inr (Or.inr (Or.inr (Or.inr ⟨rfl, rfl, rfl⟩)))) (hb hby d6_24)) (by decide) (by decide) ?_
  show Q6_1 Z a1 p2 b k1 vs h0 n0 _ T130.heap _
  rw [e130]
  exact ⟨b109, k109q, rfl, N130, kp138, sz113, f131, f134, (by rw [own_len1, own_of32 hlen]; exact f136), f135, V130⟩
theorem ef_10 (m : MethodId) (a1 : Addr) (p2 : Int32) : entryFrame m #[(.ref a1), (.int p2)] 2 = mkF m 0 #[.val (.ref a1), .val (.int p2)] [] := by first | (simp [entryFrame, mkF, argsToLocals, Value.category]; done) | rfl
def Q10_0 (Z : State) (a1 : Addr) (p2 : Int32) (b : Addr) (k1 : ClassId) (z : Int32) (vs : List Value) (h0 : Heap) (n0 : Nat) (v : Option Value) (h : Heap) (L : List Loc) : Prop := v = some (.ref a1) ∧ Fr n0 L ∧ Keep h0 h [a1, b] ∧ Exa Z h a1 "com/example/orbweave/orbweave/ByteWriter" ∧ Fld Z h a1 "com/example/orbweave/orbweave/ByteWriter" "_bytes" "[B" (.ref b) ∧ Fld Z h a1 "com/example/orbweave/orbweave/ByteWriter" "_length" "I" (.int (Int32.ofNat (vs ++ own_sb p2).length)) ∧ Exa Z h b "[B" ∧ Arv Z h b k1 .byte z (vs ++ own_sb p2) (.int (0 : Int32))
set_option maxRecDepth 65536 in
set_option maxHeartbeats 40000000 in
theorem rm10_0 (l : Launch) (Z : State) (a0 : Array Value) (hw : ∀ d ∈ tables_1, d.before a0 Z = true) (ws : List Jvm.Cond) (a1 : Addr) (p2 : Int32) (b : Addr) (k1 : ClassId) (z : Int32) (vs : List Value) (h0 : Heap) (n0 : Nat) (Z0 : n0 ≤ h0.size) (E_a1 : Exa Z h0 a1 "com/example/orbweave/orbweave/ByteWriter") (F_b : Fld Z h0 a1 "com/example/orbweave/orbweave/ByteWriter" "_bytes" "[B" (.ref b)) (F_l : Fld Z h0 a1 "com/example/orbweave/orbweave/ByteWriter" "_length" "I" (.int (Int32.ofNat vs.length))) (g_a1 : n0 ≤ a1) (V_b : Arv Z h0 b k1 .byte z vs (.int (0 : Int32))) (E_b : Exa Z h0 b "[B") (g_b : n0 ≤ b) (hlt : vs.length + 2 ≤ z.toNatClampNeg) (hz : z.toNatClampNeg ≤ 64) :
    MetFree l (⟨"com/example/orbweave/orbweave/ByteWriter", "writeShort", "(S)Lcom/example/orbweave/orbweave/ByteWriter;"⟩ : MethodName) (head1 (Jvm.Cond.code (⟨"com/example/orbweave/orbweave/ByteWriter", "writeShort", "(S)Lcom/example/orbweave/orbweave/ByteWriter;"⟩ : MethodName) prog_2_method_3_code 2 (some (.object "com/example/orbweave/orbweave/ByteWriter")) :: ws) ({ frames := 2, cells := 0, slots := 0, locals := 26 } : Room)) (fun a U => a = #[(.ref a1), (.int p2)] ∧ Z.Warmed39 U.vm ∧ U.heap = h0) (fun _ _ _ _ _ => True) (fun _ U o U' => ∃ v L, o = .returned v ∧ Q10_0 Z a1 p2 b k1 z vs h0 n0 v U'.heap L ∧ FrameEnd U o U' L ({ frames := 2, cells := 0, slots := 0, locals := 26 } : Room).cells ({ frames := 2, cells := 0, slots := 0, locals := 26 } : Room).slots) := by
  refine MetFree.of_bodySF (plainFor_of_name pn_10) hisR ?_
  intro p e s m args below meth c s₁ Bd hml0 hP hK
  obtain ⟨rfl, hZ, hh⟩ := hP
  have hx := Bd.exec
  have hby := Bd.bytes
  have hml : c.maxLocals = 2 := hml0
  have hown : s.vm.findClass "com/example/orbweave/orbweave/ByteWriter" = some m.cls := findClass_of_methodNamed Bd.named
  have hnm := (name_of_methodNamed Bd.named Bd.method).1
  have hlk := Bd.notSynchronized
  have hret := Bd.returns
  have X0 : Stand p l e ({ frames := 2, cells := 0, slots := 0, locals := 26 } : Room) s m #[(.ref a1), (.int p2)] below meth c s₁ [] 0 0 := Stand.of_body Bd
  have e0 : s₁.heap = h0 := by rw [← hh, Bd.state]; rfl
  have N0 := Fr.nil n0
  show own_G p e below (s₁.setTop (entryFrame m #[(.ref a1), (.int p2)] 2)) (fun s₂ o => ∃ v L, o = .returned v ∧ Q10_0 Z a1 p2 b k1 z vs h0 n0 v s₂.heap L ∧ FrameEnd s o s₂ L ({ frames := 2, cells := 0, slots := 0, locals := 26 } : Room).cells ({ frames := 2, cells := 0, slots := 0, locals := 26 } : Room).slots)
  refine own_go (fun t k => castTop (ef_10 m a1 p2) k) ?_
  have neab : a1 ≠ b := ne_exa E_a1 E_b (by decide)
  show own_G p e below (s₁.setTop (mkF m 0 #[.val (.ref a1), .val (.int p2)] [])) _
  refine own_go (fun _ k => XS.aloadN X0.here hx rfl (hb hby d10_0) rfl rfl k) ?_
  show own_G p e below (s₁.setTop (mkF m 1 #[.val (.ref a1), .val (.int p2)] [(.ref a1)])) _
  refine own_go (fun _ k => XS.iloadN X0.here hx rfl (hb hby d10_1) rfl k) ?_
  show own_G p e below (s₁.setTop (mkF m 2 #[.val (.ref a1), .val (.int p2)] [(.int p2), (.ref a1)])) _
  refine own_go (fun _ k => XS.bipush X0.here hx rfl (hb hby d10_2) k) ?_
  show own_G p e below (s₁.setTop (mkF m 4 #[.val (.ref a1), .val (.int p2)] [(.int (8 : Int32)), (.int p2), (.ref a1)])) _
  refine own_go (fun _ k => XT.iushr X0.here hx rfl (hb hby d10_4) rfl k) ?_
  show own_G p e below (s₁.setTop (mkF m 5 #[.val (.ref a1), .val (.int p2)] [(.int (XT.ushr p2 (8 : Int32))), (.ref a1)])) _
  obtain ⟨cq139, kq139, q139a, q139b, q139c⟩ := isOf hZ e0 E_a1
  obtain ⟨_, _, ⟨T139, L139, k139, n139⟩, -, X139, ⟨Lc139, hQ139, l139, y139, z139⟩, st139⟩ := X0.virtualBack hx (y := (⟨"com/example/orbweave/orbweave/ByteWriter", "writeByte", "(I)Lcom/example/orbweave/orbweave/ByteWriter;"⟩ : MethodName)) (z := (⟨"com/example/orbweave/orbweave/ByteWriter", "writeByte", "(I)Lcom/example/orbweave/orbweave/ByteWriter;"⟩ : MethodName)) hown (mvT hZ (hw _ (List.mem_of_getElem? (i := 55) rfl))) (mvT hZ (hw _ (List.mem_of_getElem? (i := 32) rfl))) (notFace_of_selects (args := #[]) (mvT hZ (hw _ (List.mem_of_getElem? (i := 34) rfl)))) (mvT hZ (hw _ (List.mem_of_getElem? (i := 34) rfl))) (mvT hZ (hw _ (List.mem_of_getElem? (i := 33) rfl))) (by decide) (backOf (W := 0) (rm6_0 l Z a0 hw [] a1 (XT.ushr p2 (8 : Int32)) b k1 z vs h0 n0 Z0 E_a1 F_b F_l g_a1 V_b E_b g_b (by omega) hz) hZ (hw _ (List.mem_of_getElem? (i := 35) rfl)) (hw _ (List.mem_of_getElem? (i := 2) rfl)) (by decide) (by decide)) q139a q139c (g := (mkF m 5 #[.val (.ref a1), .val (.int p2)] [(.int (XT.ushr p2 (8 : Int32))), (.ref a1)])) rfl (by rw [hml]; rfl) (Steps.refl _) (argsL := [(.int (XT.ushr p2 (8 : Int32)))]) (rest := []) (lenOf pd_3 rfl) rfl (by show 2 * 0 + _ ≤ _; exact Nat.le_of_eq rfl) (hb hby d10_5) (fun _ _ => ⟨rfl, e0, (by decide : 0 + 0 ≤ _), (by decide : 0 + 0 ≤ _)⟩)
  dsimp only [Pt.U, Pt.locs, Pt.cells, Pt.slots] at X139 l139 y139 z139 st139 hQ139
  subst l139 y139 z139
  obtain ⟨rfl, Nq139, K139, Eo139, Fb139, Fl139, Eb139, Vq139⟩ := hQ139
  have N139 := Fr.app N0 Nq139
  refine own_go (fun _ k => st139.trans k) ?_
  have f140 := E_a1.keep K139
  have f141 := E_b.keep K139
  have zs142 : n0 ≤ T139.heap.size := Nat.le_trans Z0 K139.1
  have kp143 : Keep h0 T139.heap [a1, b] := (Keep.refl h0 [a1, b]).trans K139 (allS (Or.inl (List.mem_of_getElem? (i := 0) rfl)) (allS (Or.inl (List.mem_of_getElem? (i := 1) rfl)) all0))
  show own_G p e below (T139.setTop (mkF m 8 #[.val (.ref a1), .val (.int p2)] [(.ref a1)])) _
  refine own_go (fun _ k => XS.iloadN X139.here hx rfl (hb hby d10_8) rfl k) ?_
  show own_G p e below (T139.setTop (mkF m 9 #[.val (.ref a1), .val (.int p2)] [(.int p2), (.ref a1)])) _
  obtain ⟨cq144, kq144, q144a, q144b, q144c⟩ := isOf hZ rfl Eo139
  obtain ⟨_, _, ⟨T144, L144, k144, n144⟩, -, X144, ⟨Lc144, hQ144, l144, y144, z144⟩, st144⟩ := X139.virtualBack hx (y := (⟨"com/example/orbweave/orbweave/ByteWriter", "writeByte", "(I)Lcom/example/orbweave/orbweave/ByteWriter;"⟩ : MethodName)) (z := (⟨"com/example/orbweave/orbweave/ByteWriter", "writeByte", "(I)Lcom/example/orbweave/orbweave/ByteWriter;"⟩ : MethodName)) hown (mvT hZ (hw _ (List.mem_of_getElem? (i := 55) rfl))) (mvT hZ (hw _ (List.mem_of_getElem? (i := 32) rfl))) (notFace_of_selects (args := #[]) (mvT hZ (hw _ (List.mem_of_getElem? (i := 34) rfl)))) (mvT hZ (hw _ (List.mem_of_getElem? (i := 34) rfl))) (mvT hZ (hw _ (List.mem_of_getElem? (i := 33) rfl))) (by decide) (backOf (W := 0) (rm6_0 l Z a0 hw [] a1 p2 b k1 z (vs ++ [Value.int ((XT.ushr p2 (8 : Int32)).toInt8.toInt32)]) T139.heap n0 zs142 Eo139 Fb139 Fl139 g_a1 Vq139 Eb139 g_b (by simp only [List.length_append, List.length_cons, List.length_nil, own_len_sb, own_len_ib, own_len_lb]; omega) hz) hZ (hw _ (List.mem_of_getElem? (i := 35) rfl)) (hw _ (List.mem_of_getElem? (i := 2) rfl)) (by decide) (by decide)) q144a q144c (g := (mkF m 9 #[.val (.ref a1), .val (.int p2)] [(.int p2), (.ref a1)])) rfl (by rw [hml]; rfl) (Steps.refl _) (argsL := [(.int p2)]) (rest := []) (lenOf pd_3 rfl) rfl (by show 2 * 0 + _ ≤ _; exact Nat.le_of_eq rfl) (hb hby d10_9) (fun _ _ => ⟨rfl, rfl, (by decide : 0 + 0 + 0 ≤ _), (by decide : 0 + 0 + 0 ≤ _)⟩)
  dsimp only [Pt.U, Pt.locs, Pt.cells, Pt.slots] at X144 l144 y144 z144 st144 hQ144
  subst l144 y144 z144
  obtain ⟨rfl, Nq144, K144, Eo144, Fb144, Fl144, Eb144, Vq144⟩ := hQ144
  have N144 := Fr.app N139 Nq144
  refine own_go (fun _ k => st144.trans k) ?_
  have f145 := Eo139.keep K144
  have f146 := Eb139.keep K144
  have zs147 : n0 ≤ T144.heap.size := Nat.le_trans zs142 K144.1
  have kp148 : Keep h0 T144.heap [a1, b] := kp143.trans K144 (allS (Or.inl (List.mem_of_getElem? (i := 0) rfl)) (allS (Or.inl (List.mem_of_getElem? (i := 1) rfl)) all0))
  show own_G p e below (T144.setTop (mkF m 12 #[.val (.ref a1), .val (.int p2)] [(.ref a1)])) _
  refine own_ret X144 hlk (v := some (.ref a1)) (fun h => by rw [hret] at h; cases h) (Q10_0 Z a1 p2 b k1 z vs h0 n0) (own_retI X144 hx (t := (.object "com/example/orbweave/orbweave/ByteWriter")) hret rfl (Or.inr (Or.inr (Or.inr (Or.inr ⟨rfl, rfl, rfl⟩)))) (hb hby d10_12)) (by decide) (by decide) ?_
  show Q10_0 Z a1 p2 b k1 z vs h0 n0 _ T144.heap _
  rw [own_sb_eq] at Fl144 Vq144
  exact ⟨rfl, N144, kp148, Eo144, Fb144, Fl144, Eb144, Vq144⟩
def Q10_1 (Z : State) (a1 : Addr) (p2 : Int32) (b : Addr) (k1 : ClassId) (vs : List Value) (h0 : Heap) (n0 : Nat) (v : Option Value) (h : Heap) (L : List Loc) : Prop := ∃ (b' : Addr) (k' : ClassId), v = some (.ref a1) ∧ Fr n0 L ∧ Keep h0 h [a1] ∧ h0.size ≤ b' ∧ Exa Z h a1 "com/example/orbweave/orbweave/ByteWriter" ∧ Fld Z h a1 "com/example/orbweave/orbweave/ByteWriter" "_bytes" "[B" (.ref b') ∧ Fld Z h a1 "com/example/orbweave/orbweave/ByteWriter" "_length" "I" (.int (Int32.ofNat (vs ++ own_sb p2).length)) ∧ Exa Z h b' "[B" ∧ Arv Z h b' k' .byte (64 : Int32) (vs ++ own_sb p2) (.int (0 : Int32))
set_option maxRecDepth 65536 in
set_option maxHeartbeats 40000000 in
theorem rm10_1 (l : Launch) (Z : State) (a0 : Array Value) (hw : ∀ d ∈ tables_1, d.before a0 Z = true) (ws : List Jvm.Cond) (a1 : Addr) (p2 : Int32) (b : Addr) (k1 : ClassId) (vs : List Value) (h0 : Heap) (n0 : Nat) (Z0 : n0 ≤ h0.size) (E_a1 : Exa Z h0 a1 "com/example/orbweave/orbweave/ByteWriter") (F_b : Fld Z h0 a1 "com/example/orbweave/orbweave/ByteWriter" "_bytes" "[B" (.ref b)) (F_l : Fld Z h0 a1 "com/example/orbweave/orbweave/ByteWriter" "_length" "I" (.int (32 : Int32))) (g_a1 : n0 ≤ a1) (V_b : Arv Z h0 b k1 .byte (32 : Int32) vs (.int (0 : Int32))) (E_b : Exa Z h0 b "[B") (g_b : n0 ≤ b) (hlen : vs.length = 32) :
    MetFree l (⟨"com/example/orbweave/orbweave/ByteWriter", "writeShort", "(S)Lcom/example/orbweave/orbweave/ByteWriter;"⟩ : MethodName) (head1 (Jvm.Cond.code (⟨"com/example/orbweave/orbweave/ByteWriter", "writeShort", "(S)Lcom/example/orbweave/orbweave/ByteWriter;"⟩ : MethodName) prog_2_method_3_code 2 (some (.object "com/example/orbweave/orbweave/ByteWriter")) :: ws) ({ frames := 4, cells := 1, slots := 64, locals := 59 } : Room)) (fun a U => a = #[(.ref a1), (.int p2)] ∧ Z.Warmed39 U.vm ∧ U.heap = h0) (fun _ _ _ _ _ => True) (fun _ U o U' => ∃ v L, o = .returned v ∧ Q10_1 Z a1 p2 b k1 vs h0 n0 v U'.heap L ∧ FrameEnd U o U' L ({ frames := 4, cells := 1, slots := 64, locals := 59 } : Room).cells ({ frames := 4, cells := 1, slots := 64, locals := 59 } : Room).slots) := by
  refine MetFree.of_bodySF (plainFor_of_name pn_10) hisR ?_
  intro p e s m args below meth c s₁ Bd hml0 hP hK
  obtain ⟨rfl, hZ, hh⟩ := hP
  have hx := Bd.exec
  have hby := Bd.bytes
  have hml : c.maxLocals = 2 := hml0
  have hown : s.vm.findClass "com/example/orbweave/orbweave/ByteWriter" = some m.cls := findClass_of_methodNamed Bd.named
  have hnm := (name_of_methodNamed Bd.named Bd.method).1
  have hlk := Bd.notSynchronized
  have hret := Bd.returns
  have X0 : Stand p l e ({ frames := 4, cells := 1, slots := 64, locals := 59 } : Room) s m #[(.ref a1), (.int p2)] below meth c s₁ [] 0 0 := Stand.of_body Bd
  have e0 : s₁.heap = h0 := by rw [← hh, Bd.state]; rfl
  have N0 := Fr.nil n0
  show own_G p e below (s₁.setTop (entryFrame m #[(.ref a1), (.int p2)] 2)) (fun s₂ o => ∃ v L, o = .returned v ∧ Q10_1 Z a1 p2 b k1 vs h0 n0 v s₂.heap L ∧ FrameEnd s o s₂ L ({ frames := 4, cells := 1, slots := 64, locals := 59 } : Room).cells ({ frames := 4, cells := 1, slots := 64, locals := 59 } : Room).slots)
  refine own_go (fun t k => castTop (ef_10 m a1 p2) k) ?_
  have neab : a1 ≠ b := ne_exa E_a1 E_b (by decide)
  show own_G p e below (s₁.setTop (mkF m 0 #[.val (.ref a1), .val (.int p2)] [])) _
  refine own_go (fun _ k => XS.aloadN X0.here hx rfl (hb hby d10_0) rfl rfl k) ?_
  show own_G p e below (s₁.setTop (mkF m 1 #[.val (.ref a1), .val (.int p2)] [(.ref a1)])) _
  refine own_go (fun _ k => XS.iloadN X0.here hx rfl (hb hby d10_1) rfl k) ?_
  show own_G p e below (s₁.setTop (mkF m 2 #[.val (.ref a1), .val (.int p2)] [(.int p2), (.ref a1)])) _
  refine own_go (fun _ k => XS.bipush X0.here hx rfl (hb hby d10_2) k) ?_
  show own_G p e below (s₁.setTop (mkF m 4 #[.val (.ref a1), .val (.int p2)] [(.int (8 : Int32)), (.int p2), (.ref a1)])) _
  refine own_go (fun _ k => XT.iushr X0.here hx rfl (hb hby d10_4) rfl k) ?_
  show own_G p e below (s₁.setTop (mkF m 5 #[.val (.ref a1), .val (.int p2)] [(.int (XT.ushr p2 (8 : Int32))), (.ref a1)])) _
  obtain ⟨cq149, kq149, q149a, q149b, q149c⟩ := isOf hZ e0 E_a1
  obtain ⟨_, _, ⟨T149, L149, k149, n149⟩, -, X149, ⟨Lc149, hQ149, l149, y149, z149⟩, st149⟩ := X0.virtualBack hx (y := (⟨"com/example/orbweave/orbweave/ByteWriter", "writeByte", "(I)Lcom/example/orbweave/orbweave/ByteWriter;"⟩ : MethodName)) (z := (⟨"com/example/orbweave/orbweave/ByteWriter", "writeByte", "(I)Lcom/example/orbweave/orbweave/ByteWriter;"⟩ : MethodName)) hown (mvT hZ (hw _ (List.mem_of_getElem? (i := 55) rfl))) (mvT hZ (hw _ (List.mem_of_getElem? (i := 32) rfl))) (notFace_of_selects (args := #[]) (mvT hZ (hw _ (List.mem_of_getElem? (i := 34) rfl)))) (mvT hZ (hw _ (List.mem_of_getElem? (i := 34) rfl))) (mvT hZ (hw _ (List.mem_of_getElem? (i := 33) rfl))) (by decide) (backOf (W := 0) (rm6_1 l Z a0 hw [] a1 (XT.ushr p2 (8 : Int32)) b k1 vs h0 n0 Z0 E_a1 F_b F_l g_a1 V_b E_b g_b hlen) hZ (hw _ (List.mem_of_getElem? (i := 35) rfl)) (hw _ (List.mem_of_getElem? (i := 2) rfl)) (by decide) (by decide)) q149a q149c (g := (mkF m 5 #[.val (.ref a1), .val (.int p2)] [(.int (XT.ushr p2 (8 : Int32))), (.ref a1)])) rfl (by rw [hml]; rfl) (Steps.refl _) (argsL := [(.int (XT.ushr p2 (8 : Int32)))]) (rest := []) (lenOf pd_3 rfl) rfl (by show 2 * 0 + _ ≤ _; exact Nat.le_of_eq rfl) (hb hby d10_5) (fun _ _ => ⟨rfl, e0, (by decide : 0 + 1 ≤ _), (by decide : 0 + 64 ≤ _)⟩)
  dsimp only [Pt.U, Pt.locs, Pt.cells, Pt.slots] at X149 l149 y149 z149 st149 hQ149
  subst l149 y149 z149
  obtain ⟨b149, k149q, rfl, Nq149, K149, hsz149, Eo149, Fb149, Fl149, Eb149, Vq149⟩ := hQ149
  have N149 := Fr.app N0 Nq149
  refine own_go (fun _ k => st149.trans k) ?_
  have ne150 : a1 ≠ b149 := Nat.ne_of_lt (Nat.lt_of_lt_of_le E_a1.lt hsz149)
  have ne151 : b ≠ b149 := Nat.ne_of_lt (Nat.lt_of_lt_of_le V_b.lt hsz149)
  have ge152 : n0 ≤ b149 := Nat.le_trans Z0 hsz149
  have sz153 : h0.size ≤ b149 := Nat.le_trans (Keep.refl h0 [a1]).1 hsz149
  have f154 := E_a1.keep K149
  have f155 := V_b.keep K149 (ninS (Ne.symm neab) nin0)
  have f156 := E_b.keep K149
  have zs157 : n0 ≤ T149.heap.size := Nat.le_trans Z0 K149.1
  have kp158 : Keep h0 T149.heap [a1] := (Keep.refl h0 [a1]).trans K149 (allS (Or.inl (List.mem_of_getElem? (i := 0) rfl)) all0)
  show own_G p e below (T149.setTop (mkF m 8 #[.val (.ref a1), .val (.int p2)] [(.ref a1)])) _
  refine own_go (fun _ k => XS.iloadN X149.here hx rfl (hb hby d10_8) rfl k) ?_
  show own_G p e below (T149.setTop (mkF m 9 #[.val (.ref a1), .val (.int p2)] [(.int p2), (.ref a1)])) _
  obtain ⟨cq159, kq159, q159a, q159b, q159c⟩ := isOf hZ rfl Eo149
  obtain ⟨_, _, ⟨T159, L159, k159, n159⟩, -, X159, ⟨Lc159, hQ159, l159, y159, z159⟩, st159⟩ := X149.virtualBack hx (y := (⟨"com/example/orbweave/orbweave/ByteWriter", "writeByte", "(I)Lcom/example/orbweave/orbweave/ByteWriter;"⟩ : MethodName)) (z := (⟨"com/example/orbweave/orbweave/ByteWriter", "writeByte", "(I)Lcom/example/orbweave/orbweave/ByteWriter;"⟩ : MethodName)) hown (mvT hZ (hw _ (List.mem_of_getElem? (i := 55) rfl))) (mvT hZ (hw _ (List.mem_of_getElem? (i := 32) rfl))) (notFace_of_selects (args := #[]) (mvT hZ (hw _ (List.mem_of_getElem? (i := 34) rfl)))) (mvT hZ (hw _ (List.mem_of_getElem? (i := 34) rfl))) (mvT hZ (hw _ (List.mem_of_getElem? (i := 33) rfl))) (by decide) (backOf (W := 0) (rm6_0 l Z a0 hw [] a1 p2 b149 k149q (64 : Int32) (vs ++ [Value.int ((XT.ushr p2 (8 : Int32)).toInt8.toInt32)]) T149.heap n0 zs157 Eo149 Fb149 Fl149 g_a1 Vq149 Eb149 ge152 (by rw [show ((64 : Int32)).toNatClampNeg = 64 from by decide]; simp only [List.length_append, List.length_cons, List.length_nil, own_len_sb, own_len_ib, own_len_lb]; omega) (by decide)) hZ (hw _ (List.mem_of_getElem? (i := 35) rfl)) (hw _ (List.mem_of_getElem? (i := 2) rfl)) (by decide) (by decide)) q159a q159c (g := (mkF m 9 #[.val (.ref a1), .val (.int p2)] [(.int p2), (.ref a1)])) rfl (by rw [hml]; rfl) (Steps.refl _) (argsL := [(.int p2)]) (rest := []) (lenOf pd_3 rfl) rfl (by show 2 * 0 + _ ≤ _; exact Nat.le_of_eq rfl) (hb hby d10_9) (fun _ _ => ⟨rfl, rfl, (by decide : 0 + 1 + 0 ≤ _), (by decide : 0 + 64 + 0 ≤ _)⟩)
  dsimp only [Pt.U, Pt.locs, Pt.cells, Pt.slots] at X159 l159 y159 z159 st159 hQ159
  subst l159 y159 z159
  obtain ⟨rfl, Nq159, K159, Eo159, Fb159, Fl159, Eb159, Vq159⟩ := hQ159
  have N159 := Fr.app N149 Nq159
  refine own_go (fun _ k => st159.trans k) ?_
  have f160 := Eo149.keep K159
  have f161 := f155.keep K159 (ninS (Ne.symm neab) (ninS ne151 nin0))
  have f162 := f156.keep K159
  have f163 := Eb149.keep K159
  have zs164 : n0 ≤ T159.heap.size := Nat.le_trans zs157 K159.1
  have kp165 : Keep h0 T159.heap [a1] := kp158.trans K159 (allS (Or.inl (List.mem_of_getElem? (i := 0) rfl)) (allS (Or.inr sz153) all0))
  show own_G p e below (T159.setTop (mkF m 12 #[.val (.ref a1), .val (.int p2)] [(.ref a1)])) _
  refine own_ret X159 hlk (v := some (.ref a1)) (fun h => by rw [hret] at h; cases h) (Q10_1 Z a1 p2 b k1 vs h0 n0) (own_retI X159 hx (t := (.object "com/example/orbweave/orbweave/ByteWriter")) hret rfl (Or.inr (Or.inr (Or.inr (Or.inr ⟨rfl, rfl, rfl⟩)))) (hb hby d10_12)) (by decide) (by decide) ?_
  show Q10_1 Z a1 p2 b k1 vs h0 n0 _ T159.heap _
  rw [own_sb_eq] at Fl159 Vq159
  exact ⟨b149, k149q, rfl, N159, kp165, sz153, Eo159, Fb159, Fl159, Eb159, Vq159⟩
theorem ef_9 (m : MethodId) (a1 : Addr) (p2 : Int32) : entryFrame m #[(.ref a1), (.int p2)] 2 = mkF m 0 #[.val (.ref a1), .val (.int p2)] [] := by first | (simp [entryFrame, mkF, argsToLocals, Value.category]; done) | rfl
def Q9_0 (Z : State) (a1 : Addr) (p2 : Int32) (b : Addr) (k1 : ClassId) (z : Int32) (vs : List Value) (h0 : Heap) (n0 : Nat) (v : Option Value) (h : Heap) (L : List Loc) : Prop := v = some (.ref a1) ∧ Fr n0 L ∧ Keep h0 h [a1, b] ∧ Exa Z h a1 "com/example/orbweave/orbweave/ByteWriter" ∧ Fld Z h a1 "com/example/orbweave/orbweave/ByteWriter" "_bytes" "[B" (.ref b) ∧ Fld Z h a1 "com/example/orbweave/orbweave/ByteWriter" "_length" "I" (.int (Int32.ofNat (vs ++ own_ib p2).length)) ∧ Exa Z h b "[B" ∧ Arv Z h b k1 .byte z (vs ++ own_ib p2) (.int (0 : Int32))
set_option maxRecDepth 65536 in
set_option maxHeartbeats 40000000 in
theorem rm9_0 (l : Launch) (Z : State) (a0 : Array Value) (hw : ∀ d ∈ tables_1, d.before a0 Z = true) (ws : List Jvm.Cond) (a1 : Addr) (p2 : Int32) (b : Addr) (k1 : ClassId) (z : Int32) (vs : List Value) (h0 : Heap) (n0 : Nat) (Z0 : n0 ≤ h0.size) (E_a1 : Exa Z h0 a1 "com/example/orbweave/orbweave/ByteWriter") (F_b : Fld Z h0 a1 "com/example/orbweave/orbweave/ByteWriter" "_bytes" "[B" (.ref b)) (F_l : Fld Z h0 a1 "com/example/orbweave/orbweave/ByteWriter" "_length" "I" (.int (Int32.ofNat vs.length))) (g_a1 : n0 ≤ a1) (V_b : Arv Z h0 b k1 .byte z vs (.int (0 : Int32))) (E_b : Exa Z h0 b "[B") (g_b : n0 ≤ b) (hlt : vs.length + 4 ≤ z.toNatClampNeg) (hz : z.toNatClampNeg ≤ 64) :
    MetFree l (⟨"com/example/orbweave/orbweave/ByteWriter", "writeInt", "(I)Lcom/example/orbweave/orbweave/ByteWriter;"⟩ : MethodName) (head1 (Jvm.Cond.code (⟨"com/example/orbweave/orbweave/ByteWriter", "writeInt", "(I)Lcom/example/orbweave/orbweave/ByteWriter;"⟩ : MethodName) prog_2_method_4_code 2 (some (.object "com/example/orbweave/orbweave/ByteWriter")) :: ws) ({ frames := 3, cells := 0, slots := 0, locals := 39 } : Room)) (fun a U => a = #[(.ref a1), (.int p2)] ∧ Z.Warmed39 U.vm ∧ U.heap = h0) (fun _ _ _ _ _ => True) (fun _ U o U' => ∃ v L, o = .returned v ∧ Q9_0 Z a1 p2 b k1 z vs h0 n0 v U'.heap L ∧ FrameEnd U o U' L ({ frames := 3, cells := 0, slots := 0, locals := 39 } : Room).cells ({ frames := 3, cells := 0, slots := 0, locals := 39 } : Room).slots) := by
  refine MetFree.of_bodySF (plainFor_of_name pn_9) hisR ?_
  intro p e s m args below meth c s₁ Bd hml0 hP hK
  obtain ⟨rfl, hZ, hh⟩ := hP
  have hx := Bd.exec
  have hby := Bd.bytes
  have hml : c.maxLocals = 2 := hml0
  have hown : s.vm.findClass "com/example/orbweave/orbweave/ByteWriter" = some m.cls := findClass_of_methodNamed Bd.named
  have hnm := (name_of_methodNamed Bd.named Bd.method).1
  have hlk := Bd.notSynchronized
  have hret := Bd.returns
  have X0 : Stand p l e ({ frames := 3, cells := 0, slots := 0, locals := 39 } : Room) s m #[(.ref a1), (.int p2)] below meth c s₁ [] 0 0 := Stand.of_body Bd
  have e0 : s₁.heap = h0 := by rw [← hh, Bd.state]; rfl
  have N0 := Fr.nil n0
  show own_G p e below (s₁.setTop (entryFrame m #[(.ref a1), (.int p2)] 2)) (fun s₂ o => ∃ v L, o = .returned v ∧ Q9_0 Z a1 p2 b k1 z vs h0 n0 v s₂.heap L ∧ FrameEnd s o s₂ L ({ frames := 3, cells := 0, slots := 0, locals := 39 } : Room).cells ({ frames := 3, cells := 0, slots := 0, locals := 39 } : Room).slots)
  refine own_go (fun t k => castTop (ef_9 m a1 p2) k) ?_
  have neab : a1 ≠ b := ne_exa E_a1 E_b (by decide)
  show own_G p e below (s₁.setTop (mkF m 0 #[.val (.ref a1), .val (.int p2)] [])) _
  refine own_go (fun _ k => XS.aloadN X0.here hx rfl (hb hby d9_0) rfl rfl k) ?_
  show own_G p e below (s₁.setTop (mkF m 1 #[.val (.ref a1), .val (.int p2)] [(.ref a1)])) _
  refine own_go (fun _ k => XS.iloadN X0.here hx rfl (hb hby d9_1) rfl k) ?_
  show own_G p e below (s₁.setTop (mkF m 2 #[.val (.ref a1), .val (.int p2)] [(.int p2), (.ref a1)])) _
  refine own_go (fun _ k => XS.bipush X0.here hx rfl (hb hby d9_2) k) ?_
  show own_G p e below (s₁.setTop (mkF m 4 #[.val (.ref a1), .val (.int p2)] [(.int (16 : Int32)), (.int p2), (.ref a1)])) _
  refine own_go (fun _ k => XT.iushr X0.here hx rfl (hb hby d9_4) rfl k) ?_
  show own_G p e below (s₁.setTop (mkF m 5 #[.val (.ref a1), .val (.int p2)] [(.int (XT.ushr p2 (16 : Int32))), (.ref a1)])) _
  refine own_go (fun _ k => XS.i2s X0.here hx rfl (hb hby d9_5) rfl k) ?_
  show own_G p e below (s₁.setTop (mkF m 6 #[.val (.ref a1), .val (.int p2)] [(.int ((XT.ushr p2 (16 : Int32)).toInt16.toInt32)), (.ref a1)])) _
  obtain ⟨cq166, kq166, q166a, q166b, q166c⟩ := isOf hZ e0 E_a1
  obtain ⟨_, _, ⟨T166, L166, k166, n166⟩, -, X166, ⟨Lc166, hQ166, l166, y166, z166⟩, st166⟩ := X0.virtualBack hx (y := (⟨"com/example/orbweave/orbweave/ByteWriter", "writeShort", "(S)Lcom/example/orbweave/orbweave/ByteWriter;"⟩ : MethodName)) (z := (⟨"com/example/orbweave/orbweave/ByteWriter", "writeShort", "(S)Lcom/example/orbweave/orbweave/ByteWriter;"⟩ : MethodName)) hown (mvT hZ (hw _ (List.mem_of_getElem? (i := 50) rfl))) (mvT hZ (hw _ (List.mem_of_getElem? (i := 51) rfl))) (notFace_of_selects (args := #[]) (mvT hZ (hw _ (List.mem_of_getElem? (i := 53) rfl)))) (mvT hZ (hw _ (List.mem_of_getElem? (i := 53) rfl))) (mvT hZ (hw _ (List.mem_of_getElem? (i := 52) rfl))) (by decide) (backOf (W := 0) (rm10_0 l Z a0 hw [] a1 ((XT.ushr p2 (16 : Int32)).toInt16.toInt32) b k1 z vs h0 n0 Z0 E_a1 F_b F_l g_a1 V_b E_b g_b (by omega) hz) hZ (hw _ (List.mem_of_getElem? (i := 54) rfl)) (hw _ (List.mem_of_getElem? (i := 2) rfl)) (by decide) (by decide)) q166a q166c (g := (mkF m 6 #[.val (.ref a1), .val (.int p2)] [(.int ((XT.ushr p2 (16 : Int32)).toInt16.toInt32)), (.ref a1)])) rfl (by rw [hml]; rfl) (Steps.refl _) (argsL := [(.int ((XT.ushr p2 (16 : Int32)).toInt16.toInt32))]) (rest := []) (lenOf pd_4 rfl) rfl (by show 2 * 0 + _ ≤ _; exact Nat.le_of_eq rfl) (hb hby d9_6) (fun _ _ => ⟨rfl, e0, (by decide : 0 + 0 ≤ _), (by decide : 0 + 0 ≤ _)⟩)
  dsimp only [Pt.U, Pt.locs, Pt.cells, Pt.slots] at X166 l166 y166 z166 st166 hQ166
  subst l166 y166 z166
  obtain ⟨rfl, Nq166, K166, Eo166, Fb166, Fl166, Eb166, Vq166⟩ := hQ166
  have N166 := Fr.app N0 Nq166
  refine own_go (fun _ k => st166.trans k) ?_
  have f167 := E_a1.keep K166
  have f168 := E_b.keep K166
  have zs169 : n0 ≤ T166.heap.size := Nat.le_trans Z0 K166.1
  have kp170 : Keep h0 T166.heap [a1, b] := (Keep.refl h0 [a1, b]).trans K166 (allS (Or.inl (List.mem_of_getElem? (i := 0) rfl)) (allS (Or.inl (List.mem_of_getElem? (i := 1) rfl)) all0))
  show own_G p e below (T166.setTop (mkF m 9 #[.val (.ref a1), .val (.int p2)] [(.ref a1)])) _
  refine own_go (fun _ k => XS.iloadN X166.here hx rfl (hb hby d9_9) rfl k) ?_
  show own_G p e below (T166.setTop (mkF m 10 #[.val (.ref a1), .val (.int p2)] [(.int p2), (.ref a1)])) _
  refine own_go (fun _ k => XS.i2s X166.here hx rfl (hb hby d9_10) rfl k) ?_
  show own_G p e below (T166.setTop (mkF m 11 #[.val (.ref a1), .val (.int p2)] [(.int (p2.toInt16.toInt32)), (.ref a1)])) _
  obtain ⟨cq171, kq171, q171a, q171b, q171c⟩ := isOf hZ rfl Eo166
  obtain ⟨_, _, ⟨T171, L171, k171, n171⟩, -, X171, ⟨Lc171, hQ171, l171, y171, z171⟩, st171⟩ := X166.virtualBack hx (y := (⟨"com/example/orbweave/orbweave/ByteWriter", "writeShort", "(S)Lcom/example/orbweave/orbweave/ByteWriter;"⟩ : MethodName)) (z := (⟨"com/example/orbweave/orbweave/ByteWriter", "writeShort", "(S)Lcom/example/orbweave/orbweave/ByteWriter;"⟩ : MethodName)) hown (mvT hZ (hw _ (List.mem_of_getElem? (i := 50) rfl))) (mvT hZ (hw _ (List.mem_of_getElem? (i := 51) rfl))) (notFace_of_selects (args := #[]) (mvT hZ (hw _ (List.mem_of_getElem? (i := 53) rfl)))) (mvT hZ (hw _ (List.mem_of_getElem? (i := 53) rfl))) (mvT hZ (hw _ (List.mem_of_getElem? (i := 52) rfl))) (by decide) (backOf (W := 0) (rm10_0 l Z a0 hw [] a1 (p2.toInt16.toInt32) b k1 z (vs ++ own_sb ((XT.ushr p2 (16 : Int32)).toInt16.toInt32)) T166.heap n0 zs169 Eo166 Fb166 Fl166 g_a1 Vq166 Eb166 g_b (by simp only [List.length_append, List.length_cons, List.length_nil, own_len_sb, own_len_ib, own_len_lb]; omega) hz) hZ (hw _ (List.mem_of_getElem? (i := 54) rfl)) (hw _ (List.mem_of_getElem? (i := 2) rfl)) (by decide) (by decide)) q171a q171c (g := (mkF m 11 #[.val (.ref a1), .val (.int p2)] [(.int (p2.toInt16.toInt32)), (.ref a1)])) rfl (by rw [hml]; rfl) (Steps.refl _) (argsL := [(.int (p2.toInt16.toInt32))]) (rest := []) (lenOf pd_4 rfl) rfl (by show 2 * 0 + _ ≤ _; exact Nat.le_of_eq rfl) (hb hby d9_11) (fun _ _ => ⟨rfl, rfl, (by decide : 0 + 0 + 0 ≤ _), (by decide : 0 + 0 + 0 ≤ _)⟩)
  dsimp only [Pt.U, Pt.locs, Pt.cells, Pt.slots] at X171 l171 y171 z171 st171 hQ171
  subst l171 y171 z171
  obtain ⟨rfl, Nq171, K171, Eo171, Fb171, Fl171, Eb171, Vq171⟩ := hQ171
  have N171 := Fr.app N166 Nq171
  refine own_go (fun _ k => st171.trans k) ?_
  have f172 := Eo166.keep K171
  have f173 := Eb166.keep K171
  have zs174 : n0 ≤ T171.heap.size := Nat.le_trans zs169 K171.1
  have kp175 : Keep h0 T171.heap [a1, b] := kp170.trans K171 (allS (Or.inl (List.mem_of_getElem? (i := 0) rfl)) (allS (Or.inl (List.mem_of_getElem? (i := 1) rfl)) all0))
  show own_G p e below (T171.setTop (mkF m 14 #[.val (.ref a1), .val (.int p2)] [(.ref a1)])) _
  refine own_ret X171 hlk (v := some (.ref a1)) (fun h => by rw [hret] at h; cases h) (Q9_0 Z a1 p2 b k1 z vs h0 n0) (own_retI X171 hx (t := (.object "com/example/orbweave/orbweave/ByteWriter")) hret rfl (Or.inr (Or.inr (Or.inr (Or.inr ⟨rfl, rfl, rfl⟩)))) (hb hby d9_14)) (by decide) (by decide) ?_
  show Q9_0 Z a1 p2 b k1 z vs h0 n0 _ T171.heap _
  rw [own_ib_eq] at Fl171 Vq171
  exact ⟨rfl, N171, kp175, Eo171, Fb171, Fl171, Eb171, Vq171⟩
def Q9_1 (Z : State) (a1 : Addr) (p2 : Int32) (b : Addr) (k1 : ClassId) (vs : List Value) (h0 : Heap) (n0 : Nat) (v : Option Value) (h : Heap) (L : List Loc) : Prop := ∃ (b' : Addr) (k' : ClassId), v = some (.ref a1) ∧ Fr n0 L ∧ Keep h0 h [a1] ∧ h0.size ≤ b' ∧ Exa Z h a1 "com/example/orbweave/orbweave/ByteWriter" ∧ Fld Z h a1 "com/example/orbweave/orbweave/ByteWriter" "_bytes" "[B" (.ref b') ∧ Fld Z h a1 "com/example/orbweave/orbweave/ByteWriter" "_length" "I" (.int (Int32.ofNat (vs ++ own_ib p2).length)) ∧ Exa Z h b' "[B" ∧ Arv Z h b' k' .byte (64 : Int32) (vs ++ own_ib p2) (.int (0 : Int32))
set_option maxRecDepth 65536 in
set_option maxHeartbeats 40000000 in
theorem rm9_1 (l : Launch) (Z : State) (a0 : Array Value) (hw : ∀ d ∈ tables_1, d.before a0 Z = true) (ws : List Jvm.Cond) (a1 : Addr) (p2 : Int32) (b : Addr) (k1 : ClassId) (vs : List Value) (h0 : Heap) (n0 : Nat) (Z0 : n0 ≤ h0.size) (E_a1 : Exa Z h0 a1 "com/example/orbweave/orbweave/ByteWriter") (F_b : Fld Z h0 a1 "com/example/orbweave/orbweave/ByteWriter" "_bytes" "[B" (.ref b)) (F_l : Fld Z h0 a1 "com/example/orbweave/orbweave/ByteWriter" "_length" "I" (.int (32 : Int32))) (g_a1 : n0 ≤ a1) (V_b : Arv Z h0 b k1 .byte (32 : Int32) vs (.int (0 : Int32))) (E_b : Exa Z h0 b "[B") (g_b : n0 ≤ b) (hlen : vs.length = 32) :
    MetFree l (⟨"com/example/orbweave/orbweave/ByteWriter", "writeInt", "(I)Lcom/example/orbweave/orbweave/ByteWriter;"⟩ : MethodName) (head1 (Jvm.Cond.code (⟨"com/example/orbweave/orbweave/ByteWriter", "writeInt", "(I)Lcom/example/orbweave/orbweave/ByteWriter;"⟩ : MethodName) prog_2_method_4_code 2 (some (.object "com/example/orbweave/orbweave/ByteWriter")) :: ws) ({ frames := 5, cells := 1, slots := 64, locals := 72 } : Room)) (fun a U => a = #[(.ref a1), (.int p2)] ∧ Z.Warmed39 U.vm ∧ U.heap = h0) (fun _ _ _ _ _ => True) (fun _ U o U' => ∃ v L, o = .returned v ∧ Q9_1 Z a1 p2 b k1 vs h0 n0 v U'.heap L ∧ FrameEnd U o U' L ({ frames := 5, cells := 1, slots := 64, locals := 72 } : Room).cells ({ frames := 5, cells := 1, slots := 64, locals := 72 } : Room).slots) := by
  refine MetFree.of_bodySF (plainFor_of_name pn_9) hisR ?_
  intro p e s m args below meth c s₁ Bd hml0 hP hK
  obtain ⟨rfl, hZ, hh⟩ := hP
  have hx := Bd.exec
  have hby := Bd.bytes
  have hml : c.maxLocals = 2 := hml0
  have hown : s.vm.findClass "com/example/orbweave/orbweave/ByteWriter" = some m.cls := findClass_of_methodNamed Bd.named
  have hnm := (name_of_methodNamed Bd.named Bd.method).1
  have hlk := Bd.notSynchronized
  have hret := Bd.returns
  have X0 : Stand p l e ({ frames := 5, cells := 1, slots := 64, locals := 72 } : Room) s m #[(.ref a1), (.int p2)] below meth c s₁ [] 0 0 := Stand.of_body Bd
  have e0 : s₁.heap = h0 := by rw [← hh, Bd.state]; rfl
  have N0 := Fr.nil n0
  show own_G p e below (s₁.setTop (entryFrame m #[(.ref a1), (.int p2)] 2)) (fun s₂ o => ∃ v L, o = .returned v ∧ Q9_1 Z a1 p2 b k1 vs h0 n0 v s₂.heap L ∧ FrameEnd s o s₂ L ({ frames := 5, cells := 1, slots := 64, locals := 72 } : Room).cells ({ frames := 5, cells := 1, slots := 64, locals := 72 } : Room).slots)
  refine own_go (fun t k => castTop (ef_9 m a1 p2) k) ?_
  have neab : a1 ≠ b := ne_exa E_a1 E_b (by decide)
  show own_G p e below (s₁.setTop (mkF m 0 #[.val (.ref a1), .val (.int p2)] [])) _
  refine own_go (fun _ k => XS.aloadN X0.here hx rfl (hb hby d9_0) rfl rfl k) ?_
  show own_G p e below (s₁.setTop (mkF m 1 #[.val (.ref a1), .val (.int p2)] [(.ref a1)])) _
  refine own_go (fun _ k => XS.iloadN X0.here hx rfl (hb hby d9_1) rfl k) ?_
  show own_G p e below (s₁.setTop (mkF m 2 #[.val (.ref a1), .val (.int p2)] [(.int p2), (.ref a1)])) _
  refine own_go (fun _ k => XS.bipush X0.here hx rfl (hb hby d9_2) k) ?_
  show own_G p e below (s₁.setTop (mkF m 4 #[.val (.ref a1), .val (.int p2)] [(.int (16 : Int32)), (.int p2), (.ref a1)])) _
  refine own_go (fun _ k => XT.iushr X0.here hx rfl (hb hby d9_4) rfl k) ?_
  show own_G p e below (s₁.setTop (mkF m 5 #[.val (.ref a1), .val (.int p2)] [(.int (XT.ushr p2 (16 : Int32))), (.ref a1)])) _
  refine own_go (fun _ k => XS.i2s X0.here hx rfl (hb hby d9_5) rfl k) ?_
  show own_G p e below (s₁.setTop (mkF m 6 #[.val (.ref a1), .val (.int p2)] [(.int ((XT.ushr p2 (16 : Int32)).toInt16.toInt32)), (.ref a1)])) _
  obtain ⟨cq176, kq176, q176a, q176b, q176c⟩ := isOf hZ e0 E_a1
  obtain ⟨_, _, ⟨T176, L176, k176, n176⟩, -, X176, ⟨Lc176, hQ176, l176, y176, z176⟩, st176⟩ := X0.virtualBack hx (y := (⟨"com/example/orbweave/orbweave/ByteWriter", "writeShort", "(S)Lcom/example/orbweave/orbweave/ByteWriter;"⟩ : MethodName)) (z := (⟨"com/example/orbweave/orbweave/ByteWriter", "writeShort", "(S)Lcom/example/orbweave/orbweave/ByteWriter;"⟩ : MethodName)) hown (mvT hZ (hw _ (List.mem_of_getElem? (i := 50) rfl))) (mvT hZ (hw _ (List.mem_of_getElem? (i := 51) rfl))) (notFace_of_selects (args := #[]) (mvT hZ (hw _ (List.mem_of_getElem? (i := 53) rfl)))) (mvT hZ (hw _ (List.mem_of_getElem? (i := 53) rfl))) (mvT hZ (hw _ (List.mem_of_getElem? (i := 52) rfl))) (by decide) (backOf (W := 0) (rm10_1 l Z a0 hw [] a1 ((XT.ushr p2 (16 : Int32)).toInt16.toInt32) b k1 vs h0 n0 Z0 E_a1 F_b F_l g_a1 V_b E_b g_b hlen) hZ (hw _ (List.mem_of_getElem? (i := 54) rfl)) (hw _ (List.mem_of_getElem? (i := 2) rfl)) (by decide) (by decide)) q176a q176c (g := (mkF m 6 #[.val (.ref a1), .val (.int p2)] [(.int ((XT.ushr p2 (16 : Int32)).toInt16.toInt32)), (.ref a1)])) rfl (by rw [hml]; rfl) (Steps.refl _) (argsL := [(.int ((XT.ushr p2 (16 : Int32)).toInt16.toInt32))]) (rest := []) (lenOf pd_4 rfl) rfl (by show 2 * 0 + _ ≤ _; exact Nat.le_of_eq rfl) (hb hby d9_6) (fun _ _ => ⟨rfl, e0, (by decide : 0 + 1 ≤ _), (by decide : 0 + 64 ≤ _)⟩)
  dsimp only [Pt.U, Pt.locs, Pt.cells, Pt.slots] at X176 l176 y176 z176 st176 hQ176
  subst l176 y176 z176
  obtain ⟨b176, k176q, rfl, Nq176, K176, hsz176, Eo176, Fb176, Fl176, Eb176, Vq176⟩ := hQ176
  have N176 := Fr.app N0 Nq176
  refine own_go (fun _ k => st176.trans k) ?_
  have ne177 : a1 ≠ b176 := Nat.ne_of_lt (Nat.lt_of_lt_of_le E_a1.lt hsz176)
  have ne178 : b ≠ b176 := Nat.ne_of_lt (Nat.lt_of_lt_of_le V_b.lt hsz176)
  have ge179 : n0 ≤ b176 := Nat.le_trans Z0 hsz176
  have sz180 : h0.size ≤ b176 := Nat.le_trans (Keep.refl h0 [a1]).1 hsz176
  have f181 := E_a1.keep K176
  have f182 := V_b.keep K176 (ninS (Ne.symm neab) nin0)
  have f183 := E_b.keep K176
  have zs184 : n0 ≤ T176.heap.size := Nat.le_trans Z0 K176.1
  have kp185 : Keep h0 T176.heap [a1] := (Keep.refl h0 [a1]).trans K176 (allS (Or.inl (List.mem_of_getElem? (i := 0) rfl)) all0)
  show own_G p e below (T176.setTop (mkF m 9 #[.val (.ref a1), .val (.int p2)] [(.ref a1)])) _
  refine own_go (fun _ k => XS.iloadN X176.here hx rfl (hb hby d9_9) rfl k) ?_
  show own_G p e below (T176.setTop (mkF m 10 #[.val (.ref a1), .val (.int p2)] [(.int p2), (.ref a1)])) _
  refine own_go (fun _ k => XS.i2s X176.here hx rfl (hb hby d9_10) rfl k) ?_
  show own_G p e below (T176.setTop (mkF m 11 #[.val (.ref a1), .val (.int p2)] [(.int (p2.toInt16.toInt32)), (.ref a1)])) _
  obtain ⟨cq186, kq186, q186a, q186b, q186c⟩ := isOf hZ rfl Eo176
  obtain ⟨_, _, ⟨T186, L186, k186, n186⟩, -, X186, ⟨Lc186, hQ186, l186, y186, z186⟩, st186⟩ := X176.virtualBack hx (y := (⟨"com/example/orbweave/orbweave/ByteWriter", "writeShort", "(S)Lcom/example/orbweave/orbweave/ByteWriter;"⟩ : MethodName)) (z := (⟨"com/example/orbweave/orbweave/ByteWriter", "writeShort", "(S)Lcom/example/orbweave/orbweave/ByteWriter;"⟩ : MethodName)) hown (mvT hZ (hw _ (List.mem_of_getElem? (i := 50) rfl))) (mvT hZ (hw _ (List.mem_of_getElem? (i := 51) rfl))) (notFace_of_selects (args := #[]) (mvT hZ (hw _ (List.mem_of_getElem? (i := 53) rfl)))) (mvT hZ (hw _ (List.mem_of_getElem? (i := 53) rfl))) (mvT hZ (hw _ (List.mem_of_getElem? (i := 52) rfl))) (by decide) (backOf (W := 0) (rm10_0 l Z a0 hw [] a1 (p2.toInt16.toInt32) b176 k176q (64 : Int32) (vs ++ own_sb ((XT.ushr p2 (16 : Int32)).toInt16.toInt32)) T176.heap n0 zs184 Eo176 Fb176 Fl176 g_a1 Vq176 Eb176 ge179 (by rw [show ((64 : Int32)).toNatClampNeg = 64 from by decide]; simp only [List.length_append, List.length_cons, List.length_nil, own_len_sb, own_len_ib, own_len_lb]; omega) (by decide)) hZ (hw _ (List.mem_of_getElem? (i := 54) rfl)) (hw _ (List.mem_of_getElem? (i := 2) rfl)) (by decide) (by decide)) q186a q186c (g := (mkF m 11 #[.val (.ref a1), .val (.int p2)] [(.int (p2.toInt16.toInt32)), (.ref a1)])) rfl (by rw [hml]; rfl) (Steps.refl _) (argsL := [(.int (p2.toInt16.toInt32))]) (rest := []) (lenOf pd_4 rfl) rfl (by show 2 * 0 + _ ≤ _; exact Nat.le_of_eq rfl) (hb hby d9_11) (fun _ _ => ⟨rfl, rfl, (by decide : 0 + 1 + 0 ≤ _), (by decide : 0 + 64 + 0 ≤ _)⟩)
  dsimp only [Pt.U, Pt.locs, Pt.cells, Pt.slots] at X186 l186 y186 z186 st186 hQ186
  subst l186 y186 z186
  obtain ⟨rfl, Nq186, K186, Eo186, Fb186, Fl186, Eb186, Vq186⟩ := hQ186
  have N186 := Fr.app N176 Nq186
  refine own_go (fun _ k => st186.trans k) ?_
  have f187 := Eo176.keep K186
  have f188 := f182.keep K186 (ninS (Ne.symm neab) (ninS ne178 nin0))
  have f189 := f183.keep K186
  have f190 := Eb176.keep K186
  have zs191 : n0 ≤ T186.heap.size := Nat.le_trans zs184 K186.1
  have kp192 : Keep h0 T186.heap [a1] := kp185.trans K186 (allS (Or.inl (List.mem_of_getElem? (i := 0) rfl)) (allS (Or.inr sz180) all0))
  show own_G p e below (T186.setTop (mkF m 14 #[.val (.ref a1), .val (.int p2)] [(.ref a1)])) _
  refine own_ret X186 hlk (v := some (.ref a1)) (fun h => by rw [hret] at h; cases h) (Q9_1 Z a1 p2 b k1 vs h0 n0) (own_retI X186 hx (t := (.object "com/example/orbweave/orbweave/ByteWriter")) hret rfl (Or.inr (Or.inr (Or.inr (Or.inr ⟨rfl, rfl, rfl⟩)))) (hb hby d9_14)) (by decide) (by decide) ?_
  show Q9_1 Z a1 p2 b k1 vs h0 n0 _ T186.heap _
  rw [own_ib_eq] at Fl186 Vq186
  exact ⟨b176, k176q, rfl, N186, kp192, sz180, Eo186, Fb186, Fl186, Eb186, Vq186⟩
theorem ef_8 (m : MethodId) (a1 : Addr) (q2 : Int64) : entryFrame m #[(.ref a1), (.long q2)] 3 = mkF m 0 #[.val (.ref a1), .val (.long q2), .second] [] := by first | (simp [entryFrame, mkF, argsToLocals, Value.category]; done) | rfl
def Q8_0 (Z : State) (a1 : Addr) (q2 : Int64) (b : Addr) (k1 : ClassId) (z : Int32) (vs : List Value) (h0 : Heap) (n0 : Nat) (v : Option Value) (h : Heap) (L : List Loc) : Prop := v = some (.ref a1) ∧ Fr n0 L ∧ Keep h0 h [a1, b] ∧ Exa Z h a1 "com/example/orbweave/orbweave/ByteWriter" ∧ Fld Z h a1 "com/example/orbweave/orbweave/ByteWriter" "_bytes" "[B" (.ref b) ∧ Fld Z h a1 "com/example/orbweave/orbweave/ByteWriter" "_length" "I" (.int (Int32.ofNat (vs ++ own_lb q2).length)) ∧ Exa Z h b "[B" ∧ Arv Z h b k1 .byte z (vs ++ own_lb q2) (.int (0 : Int32))
set_option maxRecDepth 65536 in
set_option maxHeartbeats 40000000 in
theorem rm8_0 (l : Launch) (Z : State) (a0 : Array Value) (hw : ∀ d ∈ tables_1, d.before a0 Z = true) (ws : List Jvm.Cond) (a1 : Addr) (q2 : Int64) (b : Addr) (k1 : ClassId) (z : Int32) (vs : List Value) (h0 : Heap) (n0 : Nat) (Z0 : n0 ≤ h0.size) (E_a1 : Exa Z h0 a1 "com/example/orbweave/orbweave/ByteWriter") (F_b : Fld Z h0 a1 "com/example/orbweave/orbweave/ByteWriter" "_bytes" "[B" (.ref b)) (F_l : Fld Z h0 a1 "com/example/orbweave/orbweave/ByteWriter" "_length" "I" (.int (Int32.ofNat vs.length))) (g_a1 : n0 ≤ a1) (V_b : Arv Z h0 b k1 .byte z vs (.int (0 : Int32))) (E_b : Exa Z h0 b "[B") (g_b : n0 ≤ b) (hlt : vs.length + 8 ≤ z.toNatClampNeg) (hz : z.toNatClampNeg ≤ 64) :
    MetFree l (⟨"com/example/orbweave/orbweave/ByteWriter", "writeLong", "(J)Lcom/example/orbweave/orbweave/ByteWriter;"⟩ : MethodName) (head1 (Jvm.Cond.code (⟨"com/example/orbweave/orbweave/ByteWriter", "writeLong", "(J)Lcom/example/orbweave/orbweave/ByteWriter;"⟩ : MethodName) prog_2_method_5_code 3 (some (.object "com/example/orbweave/orbweave/ByteWriter")) :: ws) ({ frames := 4, cells := 0, slots := 0, locals := 52 } : Room)) (fun a U => a = #[(.ref a1), (.long q2)] ∧ Z.Warmed39 U.vm ∧ U.heap = h0) (fun _ _ _ _ _ => True) (fun _ U o U' => ∃ v L, o = .returned v ∧ Q8_0 Z a1 q2 b k1 z vs h0 n0 v U'.heap L ∧ FrameEnd U o U' L ({ frames := 4, cells := 0, slots := 0, locals := 52 } : Room).cells ({ frames := 4, cells := 0, slots := 0, locals := 52 } : Room).slots) := by
  refine MetFree.of_bodySF (plainFor_of_name pn_8) hisR ?_
  intro p e s m args below meth c s₁ Bd hml0 hP hK
  obtain ⟨rfl, hZ, hh⟩ := hP
  have hx := Bd.exec
  have hby := Bd.bytes
  have hml : c.maxLocals = 3 := hml0
  have hown : s.vm.findClass "com/example/orbweave/orbweave/ByteWriter" = some m.cls := findClass_of_methodNamed Bd.named
  have hnm := (name_of_methodNamed Bd.named Bd.method).1
  have hlk := Bd.notSynchronized
  have hret := Bd.returns
  have X0 : Stand p l e ({ frames := 4, cells := 0, slots := 0, locals := 52 } : Room) s m #[(.ref a1), (.long q2)] below meth c s₁ [] 0 0 := Stand.of_body Bd
  have e0 : s₁.heap = h0 := by rw [← hh, Bd.state]; rfl
  have N0 := Fr.nil n0
  show own_G p e below (s₁.setTop (entryFrame m #[(.ref a1), (.long q2)] 3)) (fun s₂ o => ∃ v L, o = .returned v ∧ Q8_0 Z a1 q2 b k1 z vs h0 n0 v s₂.heap L ∧ FrameEnd s o s₂ L ({ frames := 4, cells := 0, slots := 0, locals := 52 } : Room).cells ({ frames := 4, cells := 0, slots := 0, locals := 52 } : Room).slots)
  refine own_go (fun t k => castTop (ef_8 m a1 q2) k) ?_
  have neab : a1 ≠ b := ne_exa E_a1 E_b (by decide)
  show own_G p e below (s₁.setTop (mkF m 0 #[.val (.ref a1), .val (.long q2), .second] [])) _
  refine own_go (fun _ k => XS.aloadN X0.here hx rfl (hb hby d8_0) rfl rfl k) ?_
  show own_G p e below (s₁.setTop (mkF m 1 #[.val (.ref a1), .val (.long q2), .second] [(.ref a1)])) _
  refine own_go (fun _ k => XS.lloadN X0.here hx rfl (hb hby d8_1) rfl k) ?_
  show own_G p e below (s₁.setTop (mkF m 2 #[.val (.ref a1), .val (.long q2), .second] [(.long q2), (.ref a1)])) _
  refine own_go (fun _ k => XS.bipush X0.here hx rfl (hb hby d8_2) k) ?_
  show own_G p e below (s₁.setTop (mkF m 4 #[.val (.ref a1), .val (.long q2), .second] [(.int (32 : Int32)), (.long q2), (.ref a1)])) _
  refine own_go (fun _ k => XT.lushr X0.here hx rfl (hb hby d8_4) rfl k) ?_
  show own_G p e below (s₁.setTop (mkF m 5 #[.val (.ref a1), .val (.long q2), .second] [(.long (XT.ushrL q2 (32 : Int32))), (.ref a1)])) _
  refine own_go (fun _ k => XS.l2i X0.here hx rfl (hb hby d8_5) rfl k) ?_
  show own_G p e below (s₁.setTop (mkF m 6 #[.val (.ref a1), .val (.long q2), .second] [(.int ((XT.ushrL q2 (32 : Int32)).toInt32)), (.ref a1)])) _
  obtain ⟨cq193, kq193, q193a, q193b, q193c⟩ := isOf hZ e0 E_a1
  obtain ⟨_, _, ⟨T193, L193, k193, n193⟩, -, X193, ⟨Lc193, hQ193, l193, y193, z193⟩, st193⟩ := X0.virtualBack hx (y := (⟨"com/example/orbweave/orbweave/ByteWriter", "writeInt", "(I)Lcom/example/orbweave/orbweave/ByteWriter;"⟩ : MethodName)) (z := (⟨"com/example/orbweave/orbweave/ByteWriter", "writeInt", "(I)Lcom/example/orbweave/orbweave/ByteWriter;"⟩ : MethodName)) hown (mvT hZ (hw _ (List.mem_of_getElem? (i := 45) rfl))) (mvT hZ (hw _ (List.mem_of_getElem? (i := 46) rfl))) (notFace_of_selects (args := #[]) (mvT hZ (hw _ (List.mem_of_getElem? (i := 48) rfl)))) (mvT hZ (hw _ (List.mem_of_getElem? (i := 48) rfl))) (mvT hZ (hw _ (List.mem_of_getElem? (i := 47) rfl))) (by decide) (backOf (W := 0) (rm9_0 l Z a0 hw [] a1 ((XT.ushrL q2 (32 : Int32)).toInt32) b k1 z vs h0 n0 Z0 E_a1 F_b F_l g_a1 V_b E_b g_b (by omega) hz) hZ (hw _ (List.mem_of_getElem? (i := 49) rfl)) (hw _ (List.mem_of_getElem? (i := 2) rfl)) (by decide) (by decide)) q193a q193c (g := (mkF m 6 #[.val (.ref a1), .val (.long q2), .second] [(.int ((XT.ushrL q2 (32 : Int32)).toInt32)), (.ref a1)])) rfl (by rw [hml]; rfl) (Steps.refl _) (argsL := [(.int ((XT.ushrL q2 (32 : Int32)).toInt32))]) (rest := []) (lenOf pd_3 rfl) rfl (by show 2 * 0 + _ ≤ _; exact Nat.le_of_eq rfl) (hb hby d8_6) (fun _ _ => ⟨rfl, e0, (by decide : 0 + 0 ≤ _), (by decide : 0 + 0 ≤ _)⟩)
  dsimp only [Pt.U, Pt.locs, Pt.cells, Pt.slots] at X193 l193 y193 z193 st193 hQ193
  subst l193 y193 z193
  obtain ⟨rfl, Nq193, K193, Eo193, Fb193, Fl193, Eb193, Vq193⟩ := hQ193
  have N193 := Fr.app N0 Nq193
  refine own_go (fun _ k => st193.trans k) ?_
  have f194 := E_a1.keep K193
  have f195 := E_b.keep K193
  have zs196 : n0 ≤ T193.heap.size := Nat.le_trans Z0 K193.1
  have kp197 : Keep h0 T193.heap [a1, b] := (Keep.refl h0 [a1, b]).trans K193 (allS (Or.inl (List.mem_of_getElem? (i := 0) rfl)) (allS (Or.inl (List.mem_of_getElem? (i := 1) rfl)) all0))
  show own_G p e below (T193.setTop (mkF m 9 #[.val (.ref a1), .val (.long q2), .second] [(.ref a1)])) _
  refine own_go (fun _ k => XS.lloadN X193.here hx rfl (hb hby d8_9) rfl k) ?_
  show own_G p e below (T193.setTop (mkF m 10 #[.val (.ref a1), .val (.long q2), .second] [(.long q2), (.ref a1)])) _
  refine own_go (fun _ k => XS.l2i X193.here hx rfl (hb hby d8_10) rfl k) ?_
  show own_G p e below (T193.setTop (mkF m 11 #[.val (.ref a1), .val (.long q2), .second] [(.int (q2.toInt32)), (.ref a1)])) _
  obtain ⟨cq198, kq198, q198a, q198b, q198c⟩ := isOf hZ rfl Eo193
  obtain ⟨_, _, ⟨T198, L198, k198, n198⟩, -, X198, ⟨Lc198, hQ198, l198, y198, z198⟩, st198⟩ := X193.virtualBack hx (y := (⟨"com/example/orbweave/orbweave/ByteWriter", "writeInt", "(I)Lcom/example/orbweave/orbweave/ByteWriter;"⟩ : MethodName)) (z := (⟨"com/example/orbweave/orbweave/ByteWriter", "writeInt", "(I)Lcom/example/orbweave/orbweave/ByteWriter;"⟩ : MethodName)) hown (mvT hZ (hw _ (List.mem_of_getElem? (i := 45) rfl))) (mvT hZ (hw _ (List.mem_of_getElem? (i := 46) rfl))) (notFace_of_selects (args := #[]) (mvT hZ (hw _ (List.mem_of_getElem? (i := 48) rfl)))) (mvT hZ (hw _ (List.mem_of_getElem? (i := 48) rfl))) (mvT hZ (hw _ (List.mem_of_getElem? (i := 47) rfl))) (by decide) (backOf (W := 0) (rm9_0 l Z a0 hw [] a1 (q2.toInt32) b k1 z (vs ++ own_ib ((XT.ushrL q2 (32 : Int32)).toInt32)) T193.heap n0 zs196 Eo193 Fb193 Fl193 g_a1 Vq193 Eb193 g_b (by simp only [List.length_append, List.length_cons, List.length_nil, own_len_sb, own_len_ib, own_len_lb]; omega) hz) hZ (hw _ (List.mem_of_getElem? (i := 49) rfl)) (hw _ (List.mem_of_getElem? (i := 2) rfl)) (by decide) (by decide)) q198a q198c (g := (mkF m 11 #[.val (.ref a1), .val (.long q2), .second] [(.int (q2.toInt32)), (.ref a1)])) rfl (by rw [hml]; rfl) (Steps.refl _) (argsL := [(.int (q2.toInt32))]) (rest := []) (lenOf pd_3 rfl) rfl (by show 2 * 0 + _ ≤ _; exact Nat.le_of_eq rfl) (hb hby d8_11) (fun _ _ => ⟨rfl, rfl, (by decide : 0 + 0 + 0 ≤ _), (by decide : 0 + 0 + 0 ≤ _)⟩)
  dsimp only [Pt.U, Pt.locs, Pt.cells, Pt.slots] at X198 l198 y198 z198 st198 hQ198
  subst l198 y198 z198
  obtain ⟨rfl, Nq198, K198, Eo198, Fb198, Fl198, Eb198, Vq198⟩ := hQ198
  have N198 := Fr.app N193 Nq198
  refine own_go (fun _ k => st198.trans k) ?_
  have f199 := Eo193.keep K198
  have f200 := Eb193.keep K198
  have zs201 : n0 ≤ T198.heap.size := Nat.le_trans zs196 K198.1
  have kp202 : Keep h0 T198.heap [a1, b] := kp197.trans K198 (allS (Or.inl (List.mem_of_getElem? (i := 0) rfl)) (allS (Or.inl (List.mem_of_getElem? (i := 1) rfl)) all0))
  show own_G p e below (T198.setTop (mkF m 14 #[.val (.ref a1), .val (.long q2), .second] [(.ref a1)])) _
  refine own_ret X198 hlk (v := some (.ref a1)) (fun h => by rw [hret] at h; cases h) (Q8_0 Z a1 q2 b k1 z vs h0 n0) (own_retI X198 hx (t := (.object "com/example/orbweave/orbweave/ByteWriter")) hret rfl (Or.inr (Or.inr (Or.inr (Or.inr ⟨rfl, rfl, rfl⟩)))) (hb hby d8_14)) (by decide) (by decide) ?_
  show Q8_0 Z a1 q2 b k1 z vs h0 n0 _ T198.heap _
  rw [own_lb_eq] at Fl198 Vq198
  exact ⟨rfl, N198, kp202, Eo198, Fb198, Fl198, Eb198, Vq198⟩
theorem ef_11 (m : MethodId) (a1 : Addr) (p2 : Int32) : entryFrame m #[(.ref a1), (.int p2)] 2 = mkF m 0 #[.val (.ref a1), .val (.int p2)] [] := by first | (simp [entryFrame, mkF, argsToLocals, Value.category]; done) | rfl
def Q11 (Z : State) (a1 : Addr) (p2 : Int32) (k1 : ClassId) (z : Int32) (us : List Value) (qq : Int64) (h0 : Heap) (n0 : Nat) (v : Option Value) (h : Heap) (L : List Loc) : Prop := v = some (.long qq) ∧ Fr n0 L ∧ h = h0
set_option maxRecDepth 65536 in
set_option maxHeartbeats 40000000 in
theorem rm11 (l : Launch) (Z : State) (a0 : Array Value) (hw : ∀ d ∈ tables_1, d.before a0 Z = true) (ws : List Jvm.Cond) (a1 : Addr) (p2 : Int32) (k1 : ClassId) (z : Int32) (us : List Value) (qq : Int64) (h0 : Heap) (n0 : Nat) (Z0 : n0 ≤ h0.size) (V_a1 : Arv Z h0 a1 k1 .byte z us (.int (0 : Int32))) (hr : ∀ j, j < 8 → ¬ (p2 + Int32.ofNat j) < 0 ∧ (p2 + Int32.ofNat j) < z ∧ us.getD (p2 + Int32.ofNat j).toNatClampNeg (.int (0 : Int32)) = (own_lb qq).getD j (.int (0 : Int32))) :
    MetFree l (⟨"com/example/orbweave/orbweave/ByteWriterToByteArrayPinLaw", "getLong", "([BI)J"⟩ : MethodName) (head1 (Jvm.Cond.code (⟨"com/example/orbweave/orbweave/ByteWriterToByteArrayPinLaw", "getLong", "([BI)J"⟩ : MethodName) method_2_code 2 (some .long) :: ws) ({ frames := 0, cells := 0, slots := 0, locals := 0 } : Room)) (fun a U => a = #[(.ref a1), (.int p2)] ∧ Z.Warmed39 U.vm ∧ U.heap = h0) (fun _ _ _ _ _ => True) (fun _ U o U' => ∃ v L, o = .returned v ∧ Q11 Z a1 p2 k1 z us qq h0 n0 v U'.heap L ∧ FrameEnd U o U' L ({ frames := 0, cells := 0, slots := 0, locals := 0 } : Room).cells ({ frames := 0, cells := 0, slots := 0, locals := 0 } : Room).slots) := by
  refine MetFree.of_bodySF (plainFor_of_name pn_11) hisR ?_
  intro p e s m args below meth c s₁ Bd hml0 hP hK
  obtain ⟨rfl, hZ, hh⟩ := hP
  have hx := Bd.exec
  have hby := Bd.bytes
  have hml : c.maxLocals = 2 := hml0
  have hown : s.vm.findClass "com/example/orbweave/orbweave/ByteWriterToByteArrayPinLaw" = some m.cls := findClass_of_methodNamed Bd.named
  have hnm := (name_of_methodNamed Bd.named Bd.method).1
  have hlk := Bd.notSynchronized
  have hret := Bd.returns
  have X0 : Stand p l e ({ frames := 0, cells := 0, slots := 0, locals := 0 } : Room) s m #[(.ref a1), (.int p2)] below meth c s₁ [] 0 0 := Stand.of_body Bd
  have e0 : s₁.heap = h0 := by rw [← hh, Bd.state]; rfl
  have N0 := Fr.nil n0
  show own_G p e below (s₁.setTop (entryFrame m #[(.ref a1), (.int p2)] 2)) (fun s₂ o => ∃ v L, o = .returned v ∧ Q11 Z a1 p2 k1 z us qq h0 n0 v s₂.heap L ∧ FrameEnd s o s₂ L ({ frames := 0, cells := 0, slots := 0, locals := 0 } : Room).cells ({ frames := 0, cells := 0, slots := 0, locals := 0 } : Room).slots)
  refine own_go (fun t k => castTop (ef_11 m a1 p2) k) ?_
  have hr0 := hr 0 (by decide)
  rw [show p2 + Int32.ofNat 0 = p2 from Int32.add_zero _] at hr0
  show own_G p e below (s₁.setTop (mkF m 0 #[.val (.ref a1), .val (.int p2)] [])) _
  refine own_go (fun _ k => XS.aloadN X0.here hx rfl (hb hby d11_0) rfl rfl k) ?_
  show own_G p e below (s₁.setTop (mkF m 1 #[.val (.ref a1), .val (.int p2)] [(.ref a1)])) _
  refine own_go (fun _ k => XS.iloadN X0.here hx rfl (hb hby d11_1) rfl k) ?_
  show own_G p e below (s₁.setTop (mkF m 2 #[.val (.ref a1), .val (.int p2)] [(.int p2), (.ref a1)])) _
  obtain ⟨cl203, Ar203, q203, S203, M203, B203, G203⟩ := id V_a1
  have hin203 : ¬ (p2 < 0 ∨ cl203.slots.size ≤ (p2).toNatClampNeg) := inb_of S203 ⟨hr0.1, hr0.2.1⟩
  have hat203 : cl203.slots[(p2).toNatClampNeg]? = some (.int (own_hi (own_s0 (own_i0 qq)))) := B203.at hin203 hr0.2.2
  refine own_go (X0.baloadBytes hx (j := p2) (v := (.int (own_hi (own_s0 (own_i0 qq))))) (by rw [e0]; exact Ar203.1) (State.isArrayOf_alike hZ.alike Ar203.2.1) Ar203.2.2 hin203 hat203 (g := (mkF m 2 #[.val (.ref a1), .val (.int p2)] [(.int p2), (.ref a1)])) rfl rfl (hb hby d11_2)) ?_
  show own_G p e below (s₁.setTop (mkF m 3 #[.val (.ref a1), .val (.int p2)] [(.int (own_hi (own_s0 (own_i0 qq))))])) _
  refine own_go (fun _ k => XS.sipush X0.here hx rfl (hb hby d11_3) k) ?_
  show own_G p e below (s₁.setTop (mkF m 6 #[.val (.ref a1), .val (.int p2)] [(.int (255 : Int32)), (.int (own_hi (own_s0 (own_i0 qq))))])) _
  refine own_go (fun _ k => XS.iand X0.here hx rfl (hb hby d11_6) rfl k) ?_
  show own_G p e below (s₁.setTop (mkF m 7 #[.val (.ref a1), .val (.int p2)] [(.int ((own_hi (own_s0 (own_i0 qq))) &&& (255 : Int32)))])) _
  refine own_go (fun _ k => XS.i2l X0.here hx rfl (hb hby d11_7) rfl k) ?_
  show own_G p e below (s₁.setTop (mkF m 8 #[.val (.ref a1), .val (.int p2)] [(.long (((own_hi (own_s0 (own_i0 qq))) &&& (255 : Int32)).toInt64))])) _
  refine own_go (fun _ k => XS.bipush X0.here hx rfl (hb hby d11_8) k) ?_
  show own_G p e below (s₁.setTop (mkF m 10 #[.val (.ref a1), .val (.int p2)] [(.int (56 : Int32)), (.long (((own_hi (own_s0 (own_i0 qq))) &&& (255 : Int32)).toInt64))])) _
  refine own_go (fun _ k => XS.lshl X0.here hx rfl (hb hby d11_10) rfl k) ?_
  show own_G p e below (s₁.setTop (mkF m 11 #[.val (.ref a1), .val (.int p2)] [(.long ((((own_hi (own_s0 (own_i0 qq))) &&& (255 : Int32)).toInt64) <<< ((56 : Int32) &&& 0x3f).toInt64))])) _
  refine own_go (fun _ k => XS.aloadN X0.here hx rfl (hb hby d11_11) rfl rfl k) ?_
  show own_G p e below (s₁.setTop (mkF m 12 #[.val (.ref a1), .val (.int p2)] [(.ref a1), (.long ((((own_hi (own_s0 (own_i0 qq))) &&& (255 : Int32)).toInt64) <<< ((56 : Int32) &&& 0x3f).toInt64))])) _
  refine own_go (fun _ k => XS.iloadN X0.here hx rfl (hb hby d11_12) rfl k) ?_
  show own_G p e below (s₁.setTop (mkF m 13 #[.val (.ref a1), .val (.int p2)] [(.int p2), (.ref a1), (.long ((((own_hi (own_s0 (own_i0 qq))) &&& (255 : Int32)).toInt64) <<< ((56 : Int32) &&& 0x3f).toInt64))])) _
  refine own_go (fun _ k => XS.iconst X0.here hx rfl (hb hby d11_13) k) ?_
  show own_G p e below (s₁.setTop (mkF m 14 #[.val (.ref a1), .val (.int p2)] [(.int (1 : Int32)), (.int p2), (.ref a1), (.long ((((own_hi (own_s0 (own_i0 qq))) &&& (255 : Int32)).toInt64) <<< ((56 : Int32) &&& 0x3f).toInt64))])) _
  refine own_go (fun _ k => XS.iadd X0.here hx rfl (hb hby d11_14) rfl k) ?_
  show own_G p e below (s₁.setTop (mkF m 15 #[.val (.ref a1), .val (.int p2)] [(.int (p2 + (1 : Int32))), (.ref a1), (.long ((((own_hi (own_s0 (own_i0 qq))) &&& (255 : Int32)).toInt64) <<< ((56 : Int32) &&& 0x3f).toInt64))])) _
  obtain ⟨cl204, Ar204, q204, S204, M204, B204, G204⟩ := id V_a1
  have hin204 : ¬ ((p2 + (1 : Int32)) < 0 ∨ cl204.slots.size ≤ ((p2 + (1 : Int32))).toNatClampNeg) := inb_of S204 ⟨(hr 1 (by decide)).1, (hr 1 (by decide)).2.1⟩
  have hat204 : cl204.slots[((p2 + (1 : Int32))).toNatClampNeg]? = some (.int (own_lo (own_s0 (own_i0 qq)))) := B204.at hin204 (hr 1 (by decide)).2.2
  refine own_go (X0.baloadBytes hx (j := (p2 + (1 : Int32))) (v := (.int (own_lo (own_s0 (own_i0 qq))))) (by rw [e0]; exact Ar204.1) (State.isArrayOf_alike hZ.alike Ar204.2.1) Ar204.2.2 hin204 hat204 (g := (mkF m 15 #[.val (.ref a1), .val (.int p2)] [(.int (p2 + (1 : Int32))), (.ref a1), (.long ((((own_hi (own_s0 (own_i0 qq))) &&& (255 : Int32)).toInt64) <<< ((56 : Int32) &&& 0x3f).toInt64))])) rfl rfl (hb hby d11_15)) ?_
  show own_G p e below (s₁.setTop (mkF m 16 #[.val (.ref a1), .val (.int p2)] [(.int (own_lo (own_s0 (own_i0 qq)))), (.long ((((own_hi (own_s0 (own_i0 qq))) &&& (255 : Int32)).toInt64) <<< ((56 : Int32) &&& 0x3f).toInt64))])) _
  refine own_go (fun _ k => XS.sipush X0.here hx rfl (hb hby d11_16) k) ?_
  show own_G p e below (s₁.setTop (mkF m 19 #[.val (.ref a1), .val (.int p2)] [(.int (255 : Int32)), (.int (own_lo (own_s0 (own_i0 qq)))), (.long ((((own_hi (own_s0 (own_i0 qq))) &&& (255 : Int32)).toInt64) <<< ((56 : Int32) &&& 0x3f).toInt64))])) _
  refine own_go (fun _ k => XS.iand X0.here hx rfl (hb hby d11_19) rfl k) ?_
  show own_G p e below (s₁.setTop (mkF m 20 #[.val (.ref a1), .val (.int p2)] [(.int ((own_lo (own_s0 (own_i0 qq))) &&& (255 : Int32))), (.long ((((own_hi (own_s0 (own_i0 qq))) &&& (255 : Int32)).toInt64) <<< ((56 : Int32) &&& 0x3f).toInt64))])) _
  refine own_go (fun _ k => XS.i2l X0.here hx rfl (hb hby d11_20) rfl k) ?_
  show own_G p e below (s₁.setTop (mkF m 21 #[.val (.ref a1), .val (.int p2)] [(.long (((own_lo (own_s0 (own_i0 qq))) &&& (255 : Int32)).toInt64)), (.long ((((own_hi (own_s0 (own_i0 qq))) &&& (255 : Int32)).toInt64) <<< ((56 : Int32) &&& 0x3f).toInt64))])) _
  refine own_go (fun _ k => XS.bipush X0.here hx rfl (hb hby d11_21) k) ?_
  show own_G p e below (s₁.setTop (mkF m 23 #[.val (.ref a1), .val (.int p2)] [(.int (48 : Int32)), (.long (((own_lo (own_s0 (own_i0 qq))) &&& (255 : Int32)).toInt64)), (.long ((((own_hi (own_s0 (own_i0 qq))) &&& (255 : Int32)).toInt64) <<< ((56 : Int32) &&& 0x3f).toInt64))])) _
  refine own_go (fun _ k => XS.lshl X0.here hx rfl (hb hby d11_23) rfl k) ?_
  show own_G p e below (s₁.setTop (mkF m 24 #[.val (.ref a1), .val (.int p2)] [(.long ((((own_lo (own_s0 (own_i0 qq))) &&& (255 : Int32)).toInt64) <<< ((48 : Int32) &&& 0x3f).toInt64)), (.long ((((own_hi (own_s0 (own_i0 qq))) &&& (255 : Int32)).toInt64) <<< ((56 : Int32) &&& 0x3f).toInt64))])) _
  refine own_go (fun _ k => XS.lor X0.here hx rfl (hb hby d11_24) rfl k) ?_
  show own_G p e below (s₁.setTop (mkF m 25 #[.val (.ref a1), .val (.int p2)] [(.long (((((own_hi (own_s0 (own_i0 qq))) &&& (255 : Int32)).toInt64) <<< ((56 : Int32) &&& 0x3f).toInt64) ||| ((((own_lo (own_s0 (own_i0 qq))) &&& (255 : Int32)).toInt64) <<< ((48 : Int32) &&& 0x3f).toInt64)))])) _
  refine own_go (fun _ k => XS.aloadN X0.here hx rfl (hb hby d11_25) rfl rfl k) ?_
  show own_G p e below (s₁.setTop (mkF m 26 #[.val (.ref a1), .val (.int p2)] [(.ref a1), (.long (((((own_hi (own_s0 (own_i0 qq))) &&& (255 : Int32)).toInt64) <<< ((56 : Int32) &&& 0x3f).toInt64) ||| ((((own_lo (own_s0 (own_i0 qq))) &&& (255 : Int32)).toInt64) <<< ((48 : Int32) &&& 0x3f).toInt64)))])) _
  refine own_go (fun _ k => XS.iloadN X0.here hx rfl (hb hby d11_26) rfl k) ?_
  show own_G p e below (s₁.setTop (mkF m 27 #[.val (.ref a1), .val (.int p2)] [(.int p2), (.ref a1), (.long (((((own_hi (own_s0 (own_i0 qq))) &&& (255 : Int32)).toInt64) <<< ((56 : Int32) &&& 0x3f).toInt64) ||| ((((own_lo (own_s0 (own_i0 qq))) &&& (255 : Int32)).toInt64) <<< ((48 : Int32) &&& 0x3f).toInt64)))])) _
  refine own_go (fun _ k => XS.iconst X0.here hx rfl (hb hby d11_27) k) ?_
  show own_G p e below (s₁.setTop (mkF m 28 #[.val (.ref a1), .val (.int p2)] [(.int (2 : Int32)), (.int p2), (.ref a1), (.long (((((own_hi (own_s0 (own_i0 qq))) &&& (255 : Int32)).toInt64) <<< ((56 : Int32) &&& 0x3f).toInt64) ||| ((((own_lo (own_s0 (own_i0 qq))) &&& (255 : Int32)).toInt64) <<< ((48 : Int32) &&& 0x3f).toInt64)))])) _
  refine own_go (fun _ k => XS.iadd X0.here hx rfl (hb hby d11_28) rfl k) ?_
  show own_G p e below (s₁.setTop (mkF m 29 #[.val (.ref a1), .val (.int p2)] [(.int (p2 + (2 : Int32))), (.ref a1), (.long (((((own_hi (own_s0 (own_i0 qq))) &&& (255 : Int32)).toInt64) <<< ((56 : Int32) &&& 0x3f).toInt64) ||| ((((own_lo (own_s0 (own_i0 qq))) &&& (255 : Int32)).toInt64) <<< ((48 : Int32) &&& 0x3f).toInt64)))])) _
  obtain ⟨cl205, Ar205, q205, S205, M205, B205, G205⟩ := id V_a1
  have hin205 : ¬ ((p2 + (2 : Int32)) < 0 ∨ cl205.slots.size ≤ ((p2 + (2 : Int32))).toNatClampNeg) := inb_of S205 ⟨(hr 2 (by decide)).1, (hr 2 (by decide)).2.1⟩
  have hat205 : cl205.slots[((p2 + (2 : Int32))).toNatClampNeg]? = some (.int (own_hi (own_s1 (own_i0 qq)))) := B205.at hin205 (hr 2 (by decide)).2.2
  refine own_go (X0.baloadBytes hx (j := (p2 + (2 : Int32))) (v := (.int (own_hi (own_s1 (own_i0 qq))))) (by rw [e0]; exact Ar205.1) (State.isArrayOf_alike hZ.alike Ar205.2.1) Ar205.2.2 hin205 hat205 (g := (mkF m 29 #[.val (.ref a1), .val (.int p2)] [(.int (p2 + (2 : Int32))), (.ref a1), (.long (((((own_hi (own_s0 (own_i0 qq))) &&& (255 : Int32)).toInt64) <<< ((56 : Int32) &&& 0x3f).toInt64) ||| ((((own_lo (own_s0 (own_i0 qq))) &&& (255 : Int32)).toInt64) <<< ((48 : Int32) &&& 0x3f).toInt64)))])) rfl rfl (hb hby d11_29)) ?_
  show own_G p e below (s₁.setTop (mkF m 30 #[.val (.ref a1), .val (.int p2)] [(.int (own_hi (own_s1 (own_i0 qq)))), (.long (((((own_hi (own_s0 (own_i0 qq))) &&& (255 : Int32)).toInt64) <<< ((56 : Int32) &&& 0x3f).toInt64) ||| ((((own_lo (own_s0 (own_i0 qq))) &&& (255 : Int32)).toInt64) <<< ((48 : Int32) &&& 0x3f).toInt64)))])) _
  refine own_go (fun _ k => XS.sipush X0.here hx rfl (hb hby d11_30) k) ?_
  show own_G p e below (s₁.setTop (mkF m 33 #[.val (.ref a1), .val (.int p2)] [(.int (255 : Int32)), (.int (own_hi (own_s1 (own_i0 qq)))), (.long (((((own_hi (own_s0 (own_i0 qq))) &&& (255 : Int32)).toInt64) <<< ((56 : Int32) &&& 0x3f).toInt64) ||| ((((own_lo (own_s0 (own_i0 qq))) &&& (255 : Int32)).toInt64) <<< ((48 : Int32) &&& 0x3f).toInt64)))])) _
  refine own_go (fun _ k => XS.iand X0.here hx rfl (hb hby d11_33) rfl k) ?_
  show own_G p e below (s₁.setTop (mkF m 34 #[.val (.ref a1), .val (.int p2)] [(.int ((own_hi (own_s1 (own_i0 qq))) &&& (255 : Int32))), (.long (((((own_hi (own_s0 (own_i0 qq))) &&& (255 : Int32)).toInt64) <<< ((56 : Int32) &&& 0x3f).toInt64) ||| ((((own_lo (own_s0 (own_i0 qq))) &&& (255 : Int32)).toInt64) <<< ((48 : Int32) &&& 0x3f).toInt64)))])) _
  refine own_go (fun _ k => XS.i2l X0.here hx rfl (hb hby d11_34) rfl k) ?_
  show own_G p e below (s₁.setTop (mkF m 35 #[.val (.ref a1), .val (.int p2)] [(.long (((own_hi (own_s1 (own_i0 qq))) &&& (255 : Int32)).toInt64)), (.long (((((own_hi (own_s0 (own_i0 qq))) &&& (255 : Int32)).toInt64) <<< ((56 : Int32) &&& 0x3f).toInt64) ||| ((((own_lo (own_s0 (own_i0 qq))) &&& (255 : Int32)).toInt64) <<< ((48 : Int32) &&& 0x3f).toInt64)))])) _
  refine own_go (fun _ k => XS.bipush X0.here hx rfl (hb hby d11_35) k) ?_
  show own_G p e below (s₁.setTop (mkF m 37 #[.val (.ref a1), .val (.int p2)] [(.int (40 : Int32)), (.long (((own_hi (own_s1 (own_i0 qq))) &&& (255 : Int32)).toInt64)), (.long (((((own_hi (own_s0 (own_i0 qq))) &&& (255 : Int32)).toInt64) <<< ((56 : Int32) &&& 0x3f).toInt64) ||| ((((own_lo (own_s0 (own_i0 qq))) &&& (255 : Int32)).toInt64) <<< ((48 : Int32) &&& 0x3f).toInt64)))])) _
  refine own_go (fun _ k => XS.lshl X0.here hx rfl (hb hby d11_37) rfl k) ?_
  show own_G p e below (s₁.setTop (mkF m 38 #[.val (.ref a1), .val (.int p2)] [(.long ((((own_hi (own_s1 (own_i0 qq))) &&& (255 : Int32)).toInt64) <<< ((40 : Int32) &&& 0x3f).toInt64)), (.long (((((own_hi (own_s0 (own_i0 qq))) &&& (255 : Int32)).toInt64) <<< ((56 : Int32) &&& 0x3f).toInt64) ||| ((((own_lo (own_s0 (own_i0 qq))) &&& (255 : Int32)).toInt64) <<< ((48 : Int32) &&& 0x3f).toInt64)))])) _
  refine own_go (fun _ k => XS.lor X0.here hx rfl (hb hby d11_38) rfl k) ?_
  show own_G p e below (s₁.setTop (mkF m 39 #[.val (.ref a1), .val (.int p2)] [(.long ((((((own_hi (own_s0 (own_i0 qq))) &&& (255 : Int32)).toInt64) <<< ((56 : Int32) &&& 0x3f).toInt64) ||| ((((own_lo (own_s0 (own_i0 qq))) &&& (255 : Int32)).toInt64) <<< ((48 : Int32) &&& 0x3f).toInt64)) ||| ((((own_hi (own_s1 (own_i0 qq))) &&& (255 : Int32)).toInt64) <<< ((40 : Int32) &&& 0x3f).toInt64)))])) _
  refine own_go (fun _ k => XS.aloadN X0.here hx rfl (hb hby d11_39) rfl rfl k) ?_
  show own_G p e below (s₁.setTop (mkF m 40 #[.val (.ref a1), .val (.int p2)] [(.ref a1), (.long ((((((own_hi (own_s0 (own_i0 qq))) &&& (255 : Int32)).toInt64) <<< ((56 : Int32) &&& 0x3f).toInt64) ||| ((((own_lo (own_s0 (own_i0 qq))) &&& (255 : Int32)).toInt64) <<< ((48 : Int32) &&& 0x3f).toInt64)) ||| ((((own_hi (own_s1 (own_i0 qq))) &&& (255 : Int32)).toInt64) <<< ((40 : Int32) &&& 0x3f).toInt64)))])) _
  refine own_go (fun _ k => XS.iloadN X0.here hx rfl (hb hby d11_40) rfl k) ?_
  show own_G p e below (s₁.setTop (mkF m 41 #[.val (.ref a1), .val (.int p2)] [(.int p2), (.ref a1), (.long ((((((own_hi (own_s0 (own_i0 qq))) &&& (255 : Int32)).toInt64) <<< ((56 : Int32) &&& 0x3f).toInt64) ||| ((((own_lo (own_s0 (own_i0 qq))) &&& (255 : Int32)).toInt64) <<< ((48 : Int32) &&& 0x3f).toInt64)) ||| ((((own_hi (own_s1 (own_i0 qq))) &&& (255 : Int32)).toInt64) <<< ((40 : Int32) &&& 0x3f).toInt64)))])) _
  refine own_go (fun _ k => XS.iconst X0.here hx rfl (hb hby d11_41) k) ?_
  show own_G p e below (s₁.setTop (mkF m 42 #[.val (.ref a1), .val (.int p2)] [(.int (3 : Int32)), (.int p2), (.ref a1), (.long ((((((own_hi (own_s0 (own_i0 qq))) &&& (255 : Int32)).toInt64) <<< ((56 : Int32) &&& 0x3f).toInt64) ||| ((((own_lo (own_s0 (own_i0 qq))) &&& (255 : Int32)).toInt64) <<< ((48 : Int32) &&& 0x3f).toInt64)) ||| ((((own_hi (own_s1 (own_i0 qq))) &&& (255 : Int32)).toInt64) <<< ((40 : Int32) &&& 0x3f).toInt64)))])) _
  refine own_go (fun _ k => XS.iadd X0.here hx rfl (hb hby d11_42) rfl k) ?_
  show own_G p e below (s₁.setTop (mkF m 43 #[.val (.ref a1), .val (.int p2)] [(.int (p2 + (3 : Int32))), (.ref a1), (.long ((((((own_hi (own_s0 (own_i0 qq))) &&& (255 : Int32)).toInt64) <<< ((56 : Int32) &&& 0x3f).toInt64) ||| ((((own_lo (own_s0 (own_i0 qq))) &&& (255 : Int32)).toInt64) <<< ((48 : Int32) &&& 0x3f).toInt64)) ||| ((((own_hi (own_s1 (own_i0 qq))) &&& (255 : Int32)).toInt64) <<< ((40 : Int32) &&& 0x3f).toInt64)))])) _
  obtain ⟨cl206, Ar206, q206, S206, M206, B206, G206⟩ := id V_a1
  have hin206 : ¬ ((p2 + (3 : Int32)) < 0 ∨ cl206.slots.size ≤ ((p2 + (3 : Int32))).toNatClampNeg) := inb_of S206 ⟨(hr 3 (by decide)).1, (hr 3 (by decide)).2.1⟩
  have hat206 : cl206.slots[((p2 + (3 : Int32))).toNatClampNeg]? = some (.int (own_lo (own_s1 (own_i0 qq)))) := B206.at hin206 (hr 3 (by decide)).2.2
  refine own_go (X0.baloadBytes hx (j := (p2 + (3 : Int32))) (v := (.int (own_lo (own_s1 (own_i0 qq))))) (by rw [e0]; exact Ar206.1) (State.isArrayOf_alike hZ.alike Ar206.2.1) Ar206.2.2 hin206 hat206 (g := (mkF m 43 #[.val (.ref a1), .val (.int p2)] [(.int (p2 + (3 : Int32))), (.ref a1), (.long ((((((own_hi (own_s0 (own_i0 qq))) &&& (255 : Int32)).toInt64) <<< ((56 : Int32) &&& 0x3f).toInt64) ||| ((((own_lo (own_s0 (own_i0 qq))) &&& (255 : Int32)).toInt64) <<< ((48 : Int32) &&& 0x3f).toInt64)) ||| ((((own_hi (own_s1 (own_i0 qq))) &&& (255 : Int32)).toInt64) <<< ((40 : Int32) &&& 0x3f).toInt64)))])) rfl rfl (hb hby d11_43)) ?_
  show own_G p e below (s₁.setTop (mkF m 44 #[.val (.ref a1), .val (.int p2)] [(.int (own_lo (own_s1 (own_i0 qq)))), (.long ((((((own_hi (own_s0 (own_i0 qq))) &&& (255 : Int32)).toInt64) <<< ((56 : Int32) &&& 0x3f).toInt64) ||| ((((own_lo (own_s0 (own_i0 qq))) &&& (255 : Int32)).toInt64) <<< ((48 : Int32) &&& 0x3f).toInt64)) ||| ((((own_hi (own_s1 (own_i0 qq))) &&& (255 : Int32)).toInt64) <<< ((40 : Int32) &&& 0x3f).toInt64)))])) _
  refine own_go (fun _ k => XS.sipush X0.here hx rfl (hb hby d11_44) k) ?_
  show own_G p e below (s₁.setTop (mkF m 47 #[.val (.ref a1), .val (.int p2)] [(.int (255 : Int32)), (.int (own_lo (own_s1 (own_i0 qq)))), (.long ((((((own_hi (own_s0 (own_i0 qq))) &&& (255 : Int32)).toInt64) <<< ((56 : Int32) &&& 0x3f).toInt64) ||| ((((own_lo (own_s0 (own_i0 qq))) &&& (255 : Int32)).toInt64) <<< ((48 : Int32) &&& 0x3f).toInt64)) ||| ((((own_hi (own_s1 (own_i0 qq))) &&& (255 : Int32)).toInt64) <<< ((40 : Int32) &&& 0x3f).toInt64)))])) _
  refine own_go (fun _ k => XS.iand X0.here hx rfl (hb hby d11_47) rfl k) ?_
  show own_G p e below (s₁.setTop (mkF m 48 #[.val (.ref a1), .val (.int p2)] [(.int ((own_lo (own_s1 (own_i0 qq))) &&& (255 : Int32))), (.long ((((((own_hi (own_s0 (own_i0 qq))) &&& (255 : Int32)).toInt64) <<< ((56 : Int32) &&& 0x3f).toInt64) ||| ((((own_lo (own_s0 (own_i0 qq))) &&& (255 : Int32)).toInt64) <<< ((48 : Int32) &&& 0x3f).toInt64)) ||| ((((own_hi (own_s1 (own_i0 qq))) &&& (255 : Int32)).toInt64) <<< ((40 : Int32) &&& 0x3f).toInt64)))])) _
  refine own_go (fun _ k => XS.i2l X0.here hx rfl (hb hby d11_48) rfl k) ?_
  show own_G p e below (s₁.setTop (mkF m 49 #[.val (.ref a1), .val (.int p2)] [(.long (((own_lo (own_s1 (own_i0 qq))) &&& (255 : Int32)).toInt64)), (.long ((((((own_hi (own_s0 (own_i0 qq))) &&& (255 : Int32)).toInt64) <<< ((56 : Int32) &&& 0x3f).toInt64) ||| ((((own_lo (own_s0 (own_i0 qq))) &&& (255 : Int32)).toInt64) <<< ((48 : Int32) &&& 0x3f).toInt64)) ||| ((((own_hi (own_s1 (own_i0 qq))) &&& (255 : Int32)).toInt64) <<< ((40 : Int32) &&& 0x3f).toInt64)))])) _
  refine own_go (fun _ k => XS.bipush X0.here hx rfl (hb hby d11_49) k) ?_
  show own_G p e below (s₁.setTop (mkF m 51 #[.val (.ref a1), .val (.int p2)] [(.int (32 : Int32)), (.long (((own_lo (own_s1 (own_i0 qq))) &&& (255 : Int32)).toInt64)), (.long ((((((own_hi (own_s0 (own_i0 qq))) &&& (255 : Int32)).toInt64) <<< ((56 : Int32) &&& 0x3f).toInt64) ||| ((((own_lo (own_s0 (own_i0 qq))) &&& (255 : Int32)).toInt64) <<< ((48 : Int32) &&& 0x3f).toInt64)) ||| ((((own_hi (own_s1 (own_i0 qq))) &&& (255 : Int32)).toInt64) <<< ((40 : Int32) &&& 0x3f).toInt64)))])) _
  refine own_go (fun _ k => XS.lshl X0.here hx rfl (hb hby d11_51) rfl k) ?_
  show own_G p e below (s₁.setTop (mkF m 52 #[.val (.ref a1), .val (.int p2)] [(.long ((((own_lo (own_s1 (own_i0 qq))) &&& (255 : Int32)).toInt64) <<< ((32 : Int32) &&& 0x3f).toInt64)), (.long ((((((own_hi (own_s0 (own_i0 qq))) &&& (255 : Int32)).toInt64) <<< ((56 : Int32) &&& 0x3f).toInt64) ||| ((((own_lo (own_s0 (own_i0 qq))) &&& (255 : Int32)).toInt64) <<< ((48 : Int32) &&& 0x3f).toInt64)) ||| ((((own_hi (own_s1 (own_i0 qq))) &&& (255 : Int32)).toInt64) <<< ((40 : Int32) &&& 0x3f).toInt64)))])) _
  refine own_go (fun _ k => XS.lor X0.here hx rfl (hb hby d11_52) rfl k) ?_
  show own_G p e below (s₁.setTop (mkF m 53 #[.val (.ref a1), .val (.int p2)] [(.long (((((((own_hi (own_s0 (own_i0 qq))) &&& (255 : Int32)).toInt64) <<< ((56 : Int32) &&& 0x3f).toInt64) ||| ((((own_lo (own_s0 (own_i0 qq))) &&& (255 : Int32)).toInt64) <<< ((48 : Int32) &&& 0x3f).toInt64)) ||| ((((own_hi (own_s1 (own_i0 qq))) &&& (255 : Int32)).toInt64) <<< ((40 : Int32) &&& 0x3f).toInt64)) ||| ((((own_lo (own_s1 (own_i0 qq))) &&& (255 : Int32)).toInt64) <<< ((32 : Int32) &&& 0x3f).toInt64)))])) _
  refine own_go (fun _ k => XS.aloadN X0.here hx rfl (hb hby d11_53) rfl rfl k) ?_
  show own_G p e below (s₁.setTop (mkF m 54 #[.val (.ref a1), .val (.int p2)] [(.ref a1), (.long (((((((own_hi (own_s0 (own_i0 qq))) &&& (255 : Int32)).toInt64) <<< ((56 : Int32) &&& 0x3f).toInt64) ||| ((((own_lo (own_s0 (own_i0 qq))) &&& (255 : Int32)).toInt64) <<< ((48 : Int32) &&& 0x3f).toInt64)) ||| ((((own_hi (own_s1 (own_i0 qq))) &&& (255 : Int32)).toInt64) <<< ((40 : Int32) &&& 0x3f).toInt64)) ||| ((((own_lo (own_s1 (own_i0 qq))) &&& (255 : Int32)).toInt64) <<< ((32 : Int32) &&& 0x3f).toInt64)))])) _
  refine own_go (fun _ k => XS.iloadN X0.here hx rfl (hb hby d11_54) rfl k) ?_
  show own_G p e below (s₁.setTop (mkF m 55 #[.val (.ref a1), .val (.int p2)] [(.int p2), (.ref a1), (.long (((((((own_hi (own_s0 (own_i0 qq))) &&& (255 : Int32)).toInt64) <<< ((56 : Int32) &&& 0x3f).toInt64) ||| ((((own_lo (own_s0 (own_i0 qq))) &&& (255 : Int32)).toInt64) <<< ((48 : Int32) &&& 0x3f).toInt64)) ||| ((((own_hi (own_s1 (own_i0 qq))) &&& (255 : Int32)).toInt64) <<< ((40 : Int32) &&& 0x3f).toInt64)) ||| ((((own_lo (own_s1 (own_i0 qq))) &&& (255 : Int32)).toInt64) <<< ((32 : Int32) &&& 0x3f).toInt64)))])) _
  refine own_go (fun _ k => XS.iconst X0.here hx rfl (hb hby d11_55) k) ?_
  show own_G p e below (s₁.setTop (mkF m 56 #[.val (.ref a1), .val (.int p2)] [(.int (4 : Int32)), (.int p2), (.ref a1), (.long (((((((own_hi (own_s0 (own_i0 qq))) &&& (255 : Int32)).toInt64) <<< ((56 : Int32) &&& 0x3f).toInt64) ||| ((((own_lo (own_s0 (own_i0 qq))) &&& (255 : Int32)).toInt64) <<< ((48 : Int32) &&& 0x3f).toInt64)) ||| ((((own_hi (own_s1 (own_i0 qq))) &&& (255 : Int32)).toInt64) <<< ((40 : Int32) &&& 0x3f).toInt64)) ||| ((((own_lo (own_s1 (own_i0 qq))) &&& (255 : Int32)).toInt64) <<< ((32 : Int32) &&& 0x3f).toInt64)))])) _
  refine own_go (fun _ k => XS.iadd X0.here hx rfl (hb hby d11_56) rfl k) ?_
  show own_G p e below (s₁.setTop (mkF m 57 #[.val (.ref a1), .val (.int p2)] [(.int (p2 + (4 : Int32))), (.ref a1), (.long (((((((own_hi (own_s0 (own_i0 qq))) &&& (255 : Int32)).toInt64) <<< ((56 : Int32) &&& 0x3f).toInt64) ||| ((((own_lo (own_s0 (own_i0 qq))) &&& (255 : Int32)).toInt64) <<< ((48 : Int32) &&& 0x3f).toInt64)) ||| ((((own_hi (own_s1 (own_i0 qq))) &&& (255 : Int32)).toInt64) <<< ((40 : Int32) &&& 0x3f).toInt64)) ||| ((((own_lo (own_s1 (own_i0 qq))) &&& (255 : Int32)).toInt64) <<< ((32 : Int32) &&& 0x3f).toInt64)))])) _
  obtain ⟨cl207, Ar207, q207, S207, M207, B207, G207⟩ := id V_a1
  have hin207 : ¬ ((p2 + (4 : Int32)) < 0 ∨ cl207.slots.size ≤ ((p2 + (4 : Int32))).toNatClampNeg) := inb_of S207 ⟨(hr 4 (by decide)).1, (hr 4 (by decide)).2.1⟩
  have hat207 : cl207.slots[((p2 + (4 : Int32))).toNatClampNeg]? = some (.int (own_hi (own_s0 (own_i1 qq)))) := B207.at hin207 (hr 4 (by decide)).2.2
  refine own_go (X0.baloadBytes hx (j := (p2 + (4 : Int32))) (v := (.int (own_hi (own_s0 (own_i1 qq))))) (by rw [e0]; exact Ar207.1) (State.isArrayOf_alike hZ.alike Ar207.2.1) Ar207.2.2 hin207 hat207 (g := (mkF m 57 #[.val (.ref a1), .val (.int p2)] [(.int (p2 + (4 : Int32))), (.ref a1), (.long (((((((own_hi (own_s0 (own_i0 qq))) &&& (255 : Int32)).toInt64) <<< ((56 : Int32) &&& 0x3f).toInt64) ||| ((((own_lo (own_s0 (own_i0 qq))) &&& (255 : Int32)).toInt64) <<< ((48 : Int32) &&& 0x3f).toInt64)) ||| ((((own_hi (own_s1 (own_i0 qq))) &&& (255 : Int32)).toInt64) <<< ((40 : Int32) &&& 0x3f).toInt64)) ||| ((((own_lo (own_s1 (own_i0 qq))) &&& (255 : Int32)).toInt64) <<< ((32 : Int32) &&& 0x3f).toInt64)))])) rfl rfl (hb hby d11_57)) ?_
  show own_G p e below (s₁.setTop (mkF m 58 #[.val (.ref a1), .val (.int p2)] [(.int (own_hi (own_s0 (own_i1 qq)))), (.long (((((((own_hi (own_s0 (own_i0 qq))) &&& (255 : Int32)).toInt64) <<< ((56 : Int32) &&& 0x3f).toInt64) ||| ((((own_lo (own_s0 (own_i0 qq))) &&& (255 : Int32)).toInt64) <<< ((48 : Int32) &&& 0x3f).toInt64)) ||| ((((own_hi (own_s1 (own_i0 qq))) &&& (255 : Int32)).toInt64) <<< ((40 : Int32) &&& 0x3f).toInt64)) ||| ((((own_lo (own_s1 (own_i0 qq))) &&& (255 : Int32)).toInt64) <<< ((32 : Int32) &&& 0x3f).toInt64)))])) _
  refine own_go (fun _ k => XS.sipush X0.here hx rfl (hb hby d11_58) k) ?_
  show own_G p e below (s₁.setTop (mkF m 61 #[.val (.ref a1), .val (.int p2)] [(.int (255 : Int32)), (.int (own_hi (own_s0 (own_i1 qq)))), (.long (((((((own_hi (own_s0 (own_i0 qq))) &&& (255 : Int32)).toInt64) <<< ((56 : Int32) &&& 0x3f).toInt64) ||| ((((own_lo (own_s0 (own_i0 qq))) &&& (255 : Int32)).toInt64) <<< ((48 : Int32) &&& 0x3f).toInt64)) ||| ((((own_hi (own_s1 (own_i0 qq))) &&& (255 : Int32)).toInt64) <<< ((40 : Int32) &&& 0x3f).toInt64)) ||| ((((own_lo (own_s1 (own_i0 qq))) &&& (255 : Int32)).toInt64) <<< ((32 : Int32) &&& 0x3f).toInt64)))])) _
  refine own_go (fun _ k => XS.iand X0.here hx rfl (hb hby d11_61) rfl k) ?_
  show own_G p e below (s₁.setTop (mkF m 62 #[.val (.ref a1), .val (.int p2)] [(.int ((own_hi (own_s0 (own_i1 qq))) &&& (255 : Int32))), (.long (((((((own_hi (own_s0 (own_i0 qq))) &&& (255 : Int32)).toInt64) <<< ((56 : Int32) &&& 0x3f).toInt64) ||| ((((own_lo (own_s0 (own_i0 qq))) &&& (255 : Int32)).toInt64) <<< ((48 : Int32) &&& 0x3f).toInt64)) ||| ((((own_hi (own_s1 (own_i0 qq))) &&& (255 : Int32)).toInt64) <<< ((40 : Int32) &&& 0x3f).toInt64)) ||| ((((own_lo (own_s1 (own_i0 qq))) &&& (255 : Int32)).toInt64) <<< ((32 : Int32) &&& 0x3f).toInt64)))])) _
  refine own_go (fun _ k => XS.i2l X0.here hx rfl (hb hby d11_62) rfl k) ?_
  show own_G p e below (s₁.setTop (mkF m 63 #[.val (.ref a1), .val (.int p2)] [(.long (((own_hi (own_s0 (own_i1 qq))) &&& (255 : Int32)).toInt64)), (.long (((((((own_hi (own_s0 (own_i0 qq))) &&& (255 : Int32)).toInt64) <<< ((56 : Int32) &&& 0x3f).toInt64) ||| ((((own_lo (own_s0 (own_i0 qq))) &&& (255 : Int32)).toInt64) <<< ((48 : Int32) &&& 0x3f).toInt64)) ||| ((((own_hi (own_s1 (own_i0 qq))) &&& (255 : Int32)).toInt64) <<< ((40 : Int32) &&& 0x3f).toInt64)) ||| ((((own_lo (own_s1 (own_i0 qq))) &&& (255 : Int32)).toInt64) <<< ((32 : Int32) &&& 0x3f).toInt64)))])) _
  refine own_go (fun _ k => XS.bipush X0.here hx rfl (hb hby d11_63) k) ?_
  show own_G p e below (s₁.setTop (mkF m 65 #[.val (.ref a1), .val (.int p2)] [(.int (24 : Int32)), (.long (((own_hi (own_s0 (own_i1 qq))) &&& (255 : Int32)).toInt64)), (.long (((((((own_hi (own_s0 (own_i0 qq))) &&& (255 : Int32)).toInt64) <<< ((56 : Int32) &&& 0x3f).toInt64) ||| ((((own_lo (own_s0 (own_i0 qq))) &&& (255 : Int32)).toInt64) <<< ((48 : Int32) &&& 0x3f).toInt64)) ||| ((((own_hi (own_s1 (own_i0 qq))) &&& (255 : Int32)).toInt64) <<< ((40 : Int32) &&& 0x3f).toInt64)) ||| ((((own_lo (own_s1 (own_i0 qq))) &&& (255 : Int32)).toInt64) <<< ((32 : Int32) &&& 0x3f).toInt64)))])) _
  refine own_go (fun _ k => XS.lshl X0.here hx rfl (hb hby d11_65) rfl k) ?_
  show own_G p e below (s₁.setTop (mkF m 66 #[.val (.ref a1), .val (.int p2)] [(.long ((((own_hi (own_s0 (own_i1 qq))) &&& (255 : Int32)).toInt64) <<< ((24 : Int32) &&& 0x3f).toInt64)), (.long (((((((own_hi (own_s0 (own_i0 qq))) &&& (255 : Int32)).toInt64) <<< ((56 : Int32) &&& 0x3f).toInt64) ||| ((((own_lo (own_s0 (own_i0 qq))) &&& (255 : Int32)).toInt64) <<< ((48 : Int32) &&& 0x3f).toInt64)) ||| ((((own_hi (own_s1 (own_i0 qq))) &&& (255 : Int32)).toInt64) <<< ((40 : Int32) &&& 0x3f).toInt64)) ||| ((((own_lo (own_s1 (own_i0 qq))) &&& (255 : Int32)).toInt64) <<< ((32 : Int32) &&& 0x3f).toInt64)))])) _
  refine own_go (fun _ k => XS.lor X0.here hx rfl (hb hby d11_66) rfl k) ?_
  show own_G p e below (s₁.setTop (mkF m 67 #[.val (.ref a1), .val (.int p2)] [(.long ((((((((own_hi (own_s0 (own_i0 qq))) &&& (255 : Int32)).toInt64) <<< ((56 : Int32) &&& 0x3f).toInt64) ||| ((((own_lo (own_s0 (own_i0 qq))) &&& (255 : Int32)).toInt64) <<< ((48 : Int32) &&& 0x3f).toInt64)) ||| ((((own_hi (own_s1 (own_i0 qq))) &&& (255 : Int32)).toInt64) <<< ((40 : Int32) &&& 0x3f).toInt64)) ||| ((((own_lo (own_s1 (own_i0 qq))) &&& (255 : Int32)).toInt64) <<< ((32 : Int32) &&& 0x3f).toInt64)) ||| ((((own_hi (own_s0 (own_i1 qq))) &&& (255 : Int32)).toInt64) <<< ((24 : Int32) &&& 0x3f).toInt64)))])) _
  refine own_go (fun _ k => XS.aloadN X0.here hx rfl (hb hby d11_67) rfl rfl k) ?_
  show own_G p e below (s₁.setTop (mkF m 68 #[.val (.ref a1), .val (.int p2)] [(.ref a1), (.long ((((((((own_hi (own_s0 (own_i0 qq))) &&& (255 : Int32)).toInt64) <<< ((56 : Int32) &&& 0x3f).toInt64) ||| ((((own_lo (own_s0 (own_i0 qq))) &&& (255 : Int32)).toInt64) <<< ((48 : Int32) &&& 0x3f).toInt64)) ||| ((((own_hi (own_s1 (own_i0 qq))) &&& (255 : Int32)).toInt64) <<< ((40 : Int32) &&& 0x3f).toInt64)) ||| ((((own_lo (own_s1 (own_i0 qq))) &&& (255 : Int32)).toInt64) <<< ((32 : Int32) &&& 0x3f).toInt64)) ||| ((((own_hi (own_s0 (own_i1 qq))) &&& (255 : Int32)).toInt64) <<< ((24 : Int32) &&& 0x3f).toInt64)))])) _
  refine own_go (fun _ k => XS.iloadN X0.here hx rfl (hb hby d11_68) rfl k) ?_
  show own_G p e below (s₁.setTop (mkF m 69 #[.val (.ref a1), .val (.int p2)] [(.int p2), (.ref a1), (.long ((((((((own_hi (own_s0 (own_i0 qq))) &&& (255 : Int32)).toInt64) <<< ((56 : Int32) &&& 0x3f).toInt64) ||| ((((own_lo (own_s0 (own_i0 qq))) &&& (255 : Int32)).toInt64) <<< ((48 : Int32) &&& 0x3f).toInt64)) ||| ((((own_hi (own_s1 (own_i0 qq))) &&& (255 : Int32)).toInt64) <<< ((40 : Int32) &&& 0x3f).toInt64)) ||| ((((own_lo (own_s1 (own_i0 qq))) &&& (255 : Int32)).toInt64) <<< ((32 : Int32) &&& 0x3f).toInt64)) ||| ((((own_hi (own_s0 (own_i1 qq))) &&& (255 : Int32)).toInt64) <<< ((24 : Int32) &&& 0x3f).toInt64)))])) _
  refine own_go (fun _ k => XS.iconst X0.here hx rfl (hb hby d11_69) k) ?_
  show own_G p e below (s₁.setTop (mkF m 70 #[.val (.ref a1), .val (.int p2)] [(.int (5 : Int32)), (.int p2), (.ref a1), (.long ((((((((own_hi (own_s0 (own_i0 qq))) &&& (255 : Int32)).toInt64) <<< ((56 : Int32) &&& 0x3f).toInt64) ||| ((((own_lo (own_s0 (own_i0 qq))) &&& (255 : Int32)).toInt64) <<< ((48 : Int32) &&& 0x3f).toInt64)) ||| ((((own_hi (own_s1 (own_i0 qq))) &&& (255 : Int32)).toInt64) <<< ((40 : Int32) &&& 0x3f).toInt64)) ||| ((((own_lo (own_s1 (own_i0 qq))) &&& (255 : Int32)).toInt64) <<< ((32 : Int32) &&& 0x3f).toInt64)) ||| ((((own_hi (own_s0 (own_i1 qq))) &&& (255 : Int32)).toInt64) <<< ((24 : Int32) &&& 0x3f).toInt64)))])) _
  refine own_go (fun _ k => XS.iadd X0.here hx rfl (hb hby d11_70) rfl k) ?_
  show own_G p e below (s₁.setTop (mkF m 71 #[.val (.ref a1), .val (.int p2)] [(.int (p2 + (5 : Int32))), (.ref a1), (.long ((((((((own_hi (own_s0 (own_i0 qq))) &&& (255 : Int32)).toInt64) <<< ((56 : Int32) &&& 0x3f).toInt64) ||| ((((own_lo (own_s0 (own_i0 qq))) &&& (255 : Int32)).toInt64) <<< ((48 : Int32) &&& 0x3f).toInt64)) ||| ((((own_hi (own_s1 (own_i0 qq))) &&& (255 : Int32)).toInt64) <<< ((40 : Int32) &&& 0x3f).toInt64)) ||| ((((own_lo (own_s1 (own_i0 qq))) &&& (255 : Int32)).toInt64) <<< ((32 : Int32) &&& 0x3f).toInt64)) ||| ((((own_hi (own_s0 (own_i1 qq))) &&& (255 : Int32)).toInt64) <<< ((24 : Int32) &&& 0x3f).toInt64)))])) _
  obtain ⟨cl208, Ar208, q208, S208, M208, B208, G208⟩ := id V_a1
  have hin208 : ¬ ((p2 + (5 : Int32)) < 0 ∨ cl208.slots.size ≤ ((p2 + (5 : Int32))).toNatClampNeg) := inb_of S208 ⟨(hr 5 (by decide)).1, (hr 5 (by decide)).2.1⟩
  have hat208 : cl208.slots[((p2 + (5 : Int32))).toNatClampNeg]? = some (.int (own_lo (own_s0 (own_i1 qq)))) := B208.at hin208 (hr 5 (by decide)).2.2
  refine own_go (X0.baloadBytes hx (j := (p2 + (5 : Int32))) (v := (.int (own_lo (own_s0 (own_i1 qq))))) (by rw [e0]; exact Ar208.1) (State.isArrayOf_alike hZ.alike Ar208.2.1) Ar208.2.2 hin208 hat208 (g := (mkF m 71 #[.val (.ref a1), .val (.int p2)] [(.int (p2 + (5 : Int32))), (.ref a1), (.long ((((((((own_hi (own_s0 (own_i0 qq))) &&& (255 : Int32)).toInt64) <<< ((56 : Int32) &&& 0x3f).toInt64) ||| ((((own_lo (own_s0 (own_i0 qq))) &&& (255 : Int32)).toInt64) <<< ((48 : Int32) &&& 0x3f).toInt64)) ||| ((((own_hi (own_s1 (own_i0 qq))) &&& (255 : Int32)).toInt64) <<< ((40 : Int32) &&& 0x3f).toInt64)) ||| ((((own_lo (own_s1 (own_i0 qq))) &&& (255 : Int32)).toInt64) <<< ((32 : Int32) &&& 0x3f).toInt64)) ||| ((((own_hi (own_s0 (own_i1 qq))) &&& (255 : Int32)).toInt64) <<< ((24 : Int32) &&& 0x3f).toInt64)))])) rfl rfl (hb hby d11_71)) ?_
  show own_G p e below (s₁.setTop (mkF m 72 #[.val (.ref a1), .val (.int p2)] [(.int (own_lo (own_s0 (own_i1 qq)))), (.long ((((((((own_hi (own_s0 (own_i0 qq))) &&& (255 : Int32)).toInt64) <<< ((56 : Int32) &&& 0x3f).toInt64) ||| ((((own_lo (own_s0 (own_i0 qq))) &&& (255 : Int32)).toInt64) <<< ((48 : Int32) &&& 0x3f).toInt64)) ||| ((((own_hi (own_s1 (own_i0 qq))) &&& (255 : Int32)).toInt64) <<< ((40 : Int32) &&& 0x3f).toInt64)) ||| ((((own_lo (own_s1 (own_i0 qq))) &&& (255 : Int32)).toInt64) <<< ((32 : Int32) &&& 0x3f).toInt64)) ||| ((((own_hi (own_s0 (own_i1 qq))) &&& (255 : Int32)).toInt64) <<< ((24 : Int32) &&& 0x3f).toInt64)))])) _
  refine own_go (fun _ k => XS.sipush X0.here hx rfl (hb hby d11_72) k) ?_
  show own_G p e below (s₁.setTop (mkF m 75 #[.val (.ref a1), .val (.int p2)] [(.int (255 : Int32)), (.int (own_lo (own_s0 (own_i1 qq)))), (.long ((((((((own_hi (own_s0 (own_i0 qq))) &&& (255 : Int32)).toInt64) <<< ((56 : Int32) &&& 0x3f).toInt64) ||| ((((own_lo (own_s0 (own_i0 qq))) &&& (255 : Int32)).toInt64) <<< ((48 : Int32) &&& 0x3f).toInt64)) ||| ((((own_hi (own_s1 (own_i0 qq))) &&& (255 : Int32)).toInt64) <<< ((40 : Int32) &&& 0x3f).toInt64)) ||| ((((own_lo (own_s1 (own_i0 qq))) &&& (255 : Int32)).toInt64) <<< ((32 : Int32) &&& 0x3f).toInt64)) ||| ((((own_hi (own_s0 (own_i1 qq))) &&& (255 : Int32)).toInt64) <<< ((24 : Int32) &&& 0x3f).toInt64)))])) _
  refine own_go (fun _ k => XS.iand X0.here hx rfl (hb hby d11_75) rfl k) ?_
  show own_G p e below (s₁.setTop (mkF m 76 #[.val (.ref a1), .val (.int p2)] [(.int ((own_lo (own_s0 (own_i1 qq))) &&& (255 : Int32))), (.long ((((((((own_hi (own_s0 (own_i0 qq))) &&& (255 : Int32)).toInt64) <<< ((56 : Int32) &&& 0x3f).toInt64) ||| ((((own_lo (own_s0 (own_i0 qq))) &&& (255 : Int32)).toInt64) <<< ((48 : Int32) &&& 0x3f).toInt64)) ||| ((((own_hi (own_s1 (own_i0 qq))) &&& (255 : Int32)).toInt64) <<< ((40 : Int32) &&& 0x3f).toInt64)) ||| ((((own_lo (own_s1 (own_i0 qq))) &&& (255 : Int32)).toInt64) <<< ((32 : Int32) &&& 0x3f).toInt64)) ||| ((((own_hi (own_s0 (own_i1 qq))) &&& (255 : Int32)).toInt64) <<< ((24 : Int32) &&& 0x3f).toInt64)))])) _
  refine own_go (fun _ k => XS.i2l X0.here hx rfl (hb hby d11_76) rfl k) ?_
  show own_G p e below (s₁.setTop (mkF m 77 #[.val (.ref a1), .val (.int p2)] [(.long (((own_lo (own_s0 (own_i1 qq))) &&& (255 : Int32)).toInt64)), (.long ((((((((own_hi (own_s0 (own_i0 qq))) &&& (255 : Int32)).toInt64) <<< ((56 : Int32) &&& 0x3f).toInt64) ||| ((((own_lo (own_s0 (own_i0 qq))) &&& (255 : Int32)).toInt64) <<< ((48 : Int32) &&& 0x3f).toInt64)) ||| ((((own_hi (own_s1 (own_i0 qq))) &&& (255 : Int32)).toInt64) <<< ((40 : Int32) &&& 0x3f).toInt64)) ||| ((((own_lo (own_s1 (own_i0 qq))) &&& (255 : Int32)).toInt64) <<< ((32 : Int32) &&& 0x3f).toInt64)) ||| ((((own_hi (own_s0 (own_i1 qq))) &&& (255 : Int32)).toInt64) <<< ((24 : Int32) &&& 0x3f).toInt64)))])) _
  refine own_go (fun _ k => XS.bipush X0.here hx rfl (hb hby d11_77) k) ?_
  show own_G p e below (s₁.setTop (mkF m 79 #[.val (.ref a1), .val (.int p2)] [(.int (16 : Int32)), (.long (((own_lo (own_s0 (own_i1 qq))) &&& (255 : Int32)).toInt64)), (.long ((((((((own_hi (own_s0 (own_i0 qq))) &&& (255 : Int32)).toInt64) <<< ((56 : Int32) &&& 0x3f).toInt64) ||| ((((own_lo (own_s0 (own_i0 qq))) &&& (255 : Int32)).toInt64) <<< ((48 : Int32) &&& 0x3f).toInt64)) ||| ((((own_hi (own_s1 (own_i0 qq))) &&& (255 : Int32)).toInt64) <<< ((40 : Int32) &&& 0x3f).toInt64)) ||| ((((own_lo (own_s1 (own_i0 qq))) &&& (255 : Int32)).toInt64) <<< ((32 : Int32) &&& 0x3f).toInt64)) ||| ((((own_hi (own_s0 (own_i1 qq))) &&& (255 : Int32)).toInt64) <<< ((24 : Int32) &&& 0x3f).toInt64)))])) _
  refine own_go (fun _ k => XS.lshl X0.here hx rfl (hb hby d11_79) rfl k) ?_
  show own_G p e below (s₁.setTop (mkF m 80 #[.val (.ref a1), .val (.int p2)] [(.long ((((own_lo (own_s0 (own_i1 qq))) &&& (255 : Int32)).toInt64) <<< ((16 : Int32) &&& 0x3f).toInt64)), (.long ((((((((own_hi (own_s0 (own_i0 qq))) &&& (255 : Int32)).toInt64) <<< ((56 : Int32) &&& 0x3f).toInt64) ||| ((((own_lo (own_s0 (own_i0 qq))) &&& (255 : Int32)).toInt64) <<< ((48 : Int32) &&& 0x3f).toInt64)) ||| ((((own_hi (own_s1 (own_i0 qq))) &&& (255 : Int32)).toInt64) <<< ((40 : Int32) &&& 0x3f).toInt64)) ||| ((((own_lo (own_s1 (own_i0 qq))) &&& (255 : Int32)).toInt64) <<< ((32 : Int32) &&& 0x3f).toInt64)) ||| ((((own_hi (own_s0 (own_i1 qq))) &&& (255 : Int32)).toInt64) <<< ((24 : Int32) &&& 0x3f).toInt64)))])) _
  refine own_go (fun _ k => XS.lor X0.here hx rfl (hb hby d11_80) rfl k) ?_
  show own_G p e below (s₁.setTop (mkF m 81 #[.val (.ref a1), .val (.int p2)] [(.long (((((((((own_hi (own_s0 (own_i0 qq))) &&& (255 : Int32)).toInt64) <<< ((56 : Int32) &&& 0x3f).toInt64) ||| ((((own_lo (own_s0 (own_i0 qq))) &&& (255 : Int32)).toInt64) <<< ((48 : Int32) &&& 0x3f).toInt64)) ||| ((((own_hi (own_s1 (own_i0 qq))) &&& (255 : Int32)).toInt64) <<< ((40 : Int32) &&& 0x3f).toInt64)) ||| ((((own_lo (own_s1 (own_i0 qq))) &&& (255 : Int32)).toInt64) <<< ((32 : Int32) &&& 0x3f).toInt64)) ||| ((((own_hi (own_s0 (own_i1 qq))) &&& (255 : Int32)).toInt64) <<< ((24 : Int32) &&& 0x3f).toInt64)) ||| ((((own_lo (own_s0 (own_i1 qq))) &&& (255 : Int32)).toInt64) <<< ((16 : Int32) &&& 0x3f).toInt64)))])) _
  refine own_go (fun _ k => XS.aloadN X0.here hx rfl (hb hby d11_81) rfl rfl k) ?_
  show own_G p e below (s₁.setTop (mkF m 82 #[.val (.ref a1), .val (.int p2)] [(.ref a1), (.long (((((((((own_hi (own_s0 (own_i0 qq))) &&& (255 : Int32)).toInt64) <<< ((56 : Int32) &&& 0x3f).toInt64) ||| ((((own_lo (own_s0 (own_i0 qq))) &&& (255 : Int32)).toInt64) <<< ((48 : Int32) &&& 0x3f).toInt64)) ||| ((((own_hi (own_s1 (own_i0 qq))) &&& (255 : Int32)).toInt64) <<< ((40 : Int32) &&& 0x3f).toInt64)) ||| ((((own_lo (own_s1 (own_i0 qq))) &&& (255 : Int32)).toInt64) <<< ((32 : Int32) &&& 0x3f).toInt64)) ||| ((((own_hi (own_s0 (own_i1 qq))) &&& (255 : Int32)).toInt64) <<< ((24 : Int32) &&& 0x3f).toInt64)) ||| ((((own_lo (own_s0 (own_i1 qq))) &&& (255 : Int32)).toInt64) <<< ((16 : Int32) &&& 0x3f).toInt64)))])) _
  refine own_go (fun _ k => XS.iloadN X0.here hx rfl (hb hby d11_82) rfl k) ?_
  show own_G p e below (s₁.setTop (mkF m 83 #[.val (.ref a1), .val (.int p2)] [(.int p2), (.ref a1), (.long (((((((((own_hi (own_s0 (own_i0 qq))) &&& (255 : Int32)).toInt64) <<< ((56 : Int32) &&& 0x3f).toInt64) ||| ((((own_lo (own_s0 (own_i0 qq))) &&& (255 : Int32)).toInt64) <<< ((48 : Int32) &&& 0x3f).toInt64)) ||| ((((own_hi (own_s1 (own_i0 qq))) &&& (255 : Int32)).toInt64) <<< ((40 : Int32) &&& 0x3f).toInt64)) ||| ((((own_lo (own_s1 (own_i0 qq))) &&& (255 : Int32)).toInt64) <<< ((32 : Int32) &&& 0x3f).toInt64)) ||| ((((own_hi (own_s0 (own_i1 qq))) &&& (255 : Int32)).toInt64) <<< ((24 : Int32) &&& 0x3f).toInt64)) ||| ((((own_lo (own_s0 (own_i1 qq))) &&& (255 : Int32)).toInt64) <<< ((16 : Int32) &&& 0x3f).toInt64)))])) _
  refine own_go (fun _ k => XS.bipush X0.here hx rfl (hb hby d11_83) k) ?_
  show own_G p e below (s₁.setTop (mkF m 85 #[.val (.ref a1), .val (.int p2)] [(.int (6 : Int32)), (.int p2), (.ref a1), (.long (((((((((own_hi (own_s0 (own_i0 qq))) &&& (255 : Int32)).toInt64) <<< ((56 : Int32) &&& 0x3f).toInt64) ||| ((((own_lo (own_s0 (own_i0 qq))) &&& (255 : Int32)).toInt64) <<< ((48 : Int32) &&& 0x3f).toInt64)) ||| ((((own_hi (own_s1 (own_i0 qq))) &&& (255 : Int32)).toInt64) <<< ((40 : Int32) &&& 0x3f).toInt64)) ||| ((((own_lo (own_s1 (own_i0 qq))) &&& (255 : Int32)).toInt64) <<< ((32 : Int32) &&& 0x3f).toInt64)) ||| ((((own_hi (own_s0 (own_i1 qq))) &&& (255 : Int32)).toInt64) <<< ((24 : Int32) &&& 0x3f).toInt64)) ||| ((((own_lo (own_s0 (own_i1 qq))) &&& (255 : Int32)).toInt64) <<< ((16 : Int32) &&& 0x3f).toInt64)))])) _
  refine own_go (fun _ k => XS.iadd X0.here hx rfl (hb hby d11_85) rfl k) ?_
  show own_G p e below (s₁.setTop (mkF m 86 #[.val (.ref a1), .val (.int p2)] [(.int (p2 + (6 : Int32))), (.ref a1), (.long (((((((((own_hi (own_s0 (own_i0 qq))) &&& (255 : Int32)).toInt64) <<< ((56 : Int32) &&& 0x3f).toInt64) ||| ((((own_lo (own_s0 (own_i0 qq))) &&& (255 : Int32)).toInt64) <<< ((48 : Int32) &&& 0x3f).toInt64)) ||| ((((own_hi (own_s1 (own_i0 qq))) &&& (255 : Int32)).toInt64) <<< ((40 : Int32) &&& 0x3f).toInt64)) ||| ((((own_lo (own_s1 (own_i0 qq))) &&& (255 : Int32)).toInt64) <<< ((32 : Int32) &&& 0x3f).toInt64)) ||| ((((own_hi (own_s0 (own_i1 qq))) &&& (255 : Int32)).toInt64) <<< ((24 : Int32) &&& 0x3f).toInt64)) ||| ((((own_lo (own_s0 (own_i1 qq))) &&& (255 : Int32)).toInt64) <<< ((16 : Int32) &&& 0x3f).toInt64)))])) _
  obtain ⟨cl209, Ar209, q209, S209, M209, B209, G209⟩ := id V_a1
  have hin209 : ¬ ((p2 + (6 : Int32)) < 0 ∨ cl209.slots.size ≤ ((p2 + (6 : Int32))).toNatClampNeg) := inb_of S209 ⟨(hr 6 (by decide)).1, (hr 6 (by decide)).2.1⟩
  have hat209 : cl209.slots[((p2 + (6 : Int32))).toNatClampNeg]? = some (.int (own_hi (own_s1 (own_i1 qq)))) := B209.at hin209 (hr 6 (by decide)).2.2
  refine own_go (X0.baloadBytes hx (j := (p2 + (6 : Int32))) (v := (.int (own_hi (own_s1 (own_i1 qq))))) (by rw [e0]; exact Ar209.1) (State.isArrayOf_alike hZ.alike Ar209.2.1) Ar209.2.2 hin209 hat209 (g := (mkF m 86 #[.val (.ref a1), .val (.int p2)] [(.int (p2 + (6 : Int32))), (.ref a1), (.long (((((((((own_hi (own_s0 (own_i0 qq))) &&& (255 : Int32)).toInt64) <<< ((56 : Int32) &&& 0x3f).toInt64) ||| ((((own_lo (own_s0 (own_i0 qq))) &&& (255 : Int32)).toInt64) <<< ((48 : Int32) &&& 0x3f).toInt64)) ||| ((((own_hi (own_s1 (own_i0 qq))) &&& (255 : Int32)).toInt64) <<< ((40 : Int32) &&& 0x3f).toInt64)) ||| ((((own_lo (own_s1 (own_i0 qq))) &&& (255 : Int32)).toInt64) <<< ((32 : Int32) &&& 0x3f).toInt64)) ||| ((((own_hi (own_s0 (own_i1 qq))) &&& (255 : Int32)).toInt64) <<< ((24 : Int32) &&& 0x3f).toInt64)) ||| ((((own_lo (own_s0 (own_i1 qq))) &&& (255 : Int32)).toInt64) <<< ((16 : Int32) &&& 0x3f).toInt64)))])) rfl rfl (hb hby d11_86)) ?_
  show own_G p e below (s₁.setTop (mkF m 87 #[.val (.ref a1), .val (.int p2)] [(.int (own_hi (own_s1 (own_i1 qq)))), (.long (((((((((own_hi (own_s0 (own_i0 qq))) &&& (255 : Int32)).toInt64) <<< ((56 : Int32) &&& 0x3f).toInt64) ||| ((((own_lo (own_s0 (own_i0 qq))) &&& (255 : Int32)).toInt64) <<< ((48 : Int32) &&& 0x3f).toInt64)) ||| ((((own_hi (own_s1 (own_i0 qq))) &&& (255 : Int32)).toInt64) <<< ((40 : Int32) &&& 0x3f).toInt64)) ||| ((((own_lo (own_s1 (own_i0 qq))) &&& (255 : Int32)).toInt64) <<< ((32 : Int32) &&& 0x3f).toInt64)) ||| ((((own_hi (own_s0 (own_i1 qq))) &&& (255 : Int32)).toInt64) <<< ((24 : Int32) &&& 0x3f).toInt64)) ||| ((((own_lo (own_s0 (own_i1 qq))) &&& (255 : Int32)).toInt64) <<< ((16 : Int32) &&& 0x3f).toInt64)))])) _
  refine own_go (fun _ k => XS.sipush X0.here hx rfl (hb hby d11_87) k) ?_
  show own_G p e below (s₁.setTop (mkF m 90 #[.val (.ref a1), .val (.int p2)] [(.int (255 : Int32)), (.int (own_hi (own_s1 (own_i1 qq)))), (.long (((((((((own_hi (own_s0 (own_i0 qq))) &&& (255 : Int32)).toInt64) <<< ((56 : Int32) &&& 0x3f).toInt64) ||| ((((own_lo (own_s0 (own_i0 qq))) &&& (255 : Int32)).toInt64) <<< ((48 : Int32) &&& 0x3f).toInt64)) ||| ((((own_hi (own_s1 (own_i0 qq))) &&& (255 : Int32)).toInt64) <<< ((40 : Int32) &&& 0x3f).toInt64)) ||| ((((own_lo (own_s1 (own_i0 qq))) &&& (255 : Int32)).toInt64) <<< ((32 : Int32) &&& 0x3f).toInt64)) ||| ((((own_hi (own_s0 (own_i1 qq))) &&& (255 : Int32)).toInt64) <<< ((24 : Int32) &&& 0x3f).toInt64)) ||| ((((own_lo (own_s0 (own_i1 qq))) &&& (255 : Int32)).toInt64) <<< ((16 : Int32) &&& 0x3f).toInt64)))])) _
  refine own_go (fun _ k => XS.iand X0.here hx rfl (hb hby d11_90) rfl k) ?_
  show own_G p e below (s₁.setTop (mkF m 91 #[.val (.ref a1), .val (.int p2)] [(.int ((own_hi (own_s1 (own_i1 qq))) &&& (255 : Int32))), (.long (((((((((own_hi (own_s0 (own_i0 qq))) &&& (255 : Int32)).toInt64) <<< ((56 : Int32) &&& 0x3f).toInt64) ||| ((((own_lo (own_s0 (own_i0 qq))) &&& (255 : Int32)).toInt64) <<< ((48 : Int32) &&& 0x3f).toInt64)) ||| ((((own_hi (own_s1 (own_i0 qq))) &&& (255 : Int32)).toInt64) <<< ((40 : Int32) &&& 0x3f).toInt64)) ||| ((((own_lo (own_s1 (own_i0 qq))) &&& (255 : Int32)).toInt64) <<< ((32 : Int32) &&& 0x3f).toInt64)) ||| ((((own_hi (own_s0 (own_i1 qq))) &&& (255 : Int32)).toInt64) <<< ((24 : Int32) &&& 0x3f).toInt64)) ||| ((((own_lo (own_s0 (own_i1 qq))) &&& (255 : Int32)).toInt64) <<< ((16 : Int32) &&& 0x3f).toInt64)))])) _
  refine own_go (fun _ k => XS.i2l X0.here hx rfl (hb hby d11_91) rfl k) ?_
  show own_G p e below (s₁.setTop (mkF m 92 #[.val (.ref a1), .val (.int p2)] [(.long (((own_hi (own_s1 (own_i1 qq))) &&& (255 : Int32)).toInt64)), (.long (((((((((own_hi (own_s0 (own_i0 qq))) &&& (255 : Int32)).toInt64) <<< ((56 : Int32) &&& 0x3f).toInt64) ||| ((((own_lo (own_s0 (own_i0 qq))) &&& (255 : Int32)).toInt64) <<< ((48 : Int32) &&& 0x3f).toInt64)) ||| ((((own_hi (own_s1 (own_i0 qq))) &&& (255 : Int32)).toInt64) <<< ((40 : Int32) &&& 0x3f).toInt64)) ||| ((((own_lo (own_s1 (own_i0 qq))) &&& (255 : Int32)).toInt64) <<< ((32 : Int32) &&& 0x3f).toInt64)) ||| ((((own_hi (own_s0 (own_i1 qq))) &&& (255 : Int32)).toInt64) <<< ((24 : Int32) &&& 0x3f).toInt64)) ||| ((((own_lo (own_s0 (own_i1 qq))) &&& (255 : Int32)).toInt64) <<< ((16 : Int32) &&& 0x3f).toInt64)))])) _
  refine own_go (fun _ k => XS.bipush X0.here hx rfl (hb hby d11_92) k) ?_
  show own_G p e below (s₁.setTop (mkF m 94 #[.val (.ref a1), .val (.int p2)] [(.int (8 : Int32)), (.long (((own_hi (own_s1 (own_i1 qq))) &&& (255 : Int32)).toInt64)), (.long (((((((((own_hi (own_s0 (own_i0 qq))) &&& (255 : Int32)).toInt64) <<< ((56 : Int32) &&& 0x3f).toInt64) ||| ((((own_lo (own_s0 (own_i0 qq))) &&& (255 : Int32)).toInt64) <<< ((48 : Int32) &&& 0x3f).toInt64)) ||| ((((own_hi (own_s1 (own_i0 qq))) &&& (255 : Int32)).toInt64) <<< ((40 : Int32) &&& 0x3f).toInt64)) ||| ((((own_lo (own_s1 (own_i0 qq))) &&& (255 : Int32)).toInt64) <<< ((32 : Int32) &&& 0x3f).toInt64)) ||| ((((own_hi (own_s0 (own_i1 qq))) &&& (255 : Int32)).toInt64) <<< ((24 : Int32) &&& 0x3f).toInt64)) ||| ((((own_lo (own_s0 (own_i1 qq))) &&& (255 : Int32)).toInt64) <<< ((16 : Int32) &&& 0x3f).toInt64)))])) _
  refine own_go (fun _ k => XS.lshl X0.here hx rfl (hb hby d11_94) rfl k) ?_
  show own_G p e below (s₁.setTop (mkF m 95 #[.val (.ref a1), .val (.int p2)] [(.long ((((own_hi (own_s1 (own_i1 qq))) &&& (255 : Int32)).toInt64) <<< ((8 : Int32) &&& 0x3f).toInt64)), (.long (((((((((own_hi (own_s0 (own_i0 qq))) &&& (255 : Int32)).toInt64) <<< ((56 : Int32) &&& 0x3f).toInt64) ||| ((((own_lo (own_s0 (own_i0 qq))) &&& (255 : Int32)).toInt64) <<< ((48 : Int32) &&& 0x3f).toInt64)) ||| ((((own_hi (own_s1 (own_i0 qq))) &&& (255 : Int32)).toInt64) <<< ((40 : Int32) &&& 0x3f).toInt64)) ||| ((((own_lo (own_s1 (own_i0 qq))) &&& (255 : Int32)).toInt64) <<< ((32 : Int32) &&& 0x3f).toInt64)) ||| ((((own_hi (own_s0 (own_i1 qq))) &&& (255 : Int32)).toInt64) <<< ((24 : Int32) &&& 0x3f).toInt64)) ||| ((((own_lo (own_s0 (own_i1 qq))) &&& (255 : Int32)).toInt64) <<< ((16 : Int32) &&& 0x3f).toInt64)))])) _
  refine own_go (fun _ k => XS.lor X0.here hx rfl (hb hby d11_95) rfl k) ?_
  show own_G p e below (s₁.setTop (mkF m 96 #[.val (.ref a1), .val (.int p2)] [(.long ((((((((((own_hi (own_s0 (own_i0 qq))) &&& (255 : Int32)).toInt64) <<< ((56 : Int32) &&& 0x3f).toInt64) ||| ((((own_lo (own_s0 (own_i0 qq))) &&& (255 : Int32)).toInt64) <<< ((48 : Int32) &&& 0x3f).toInt64)) ||| ((((own_hi (own_s1 (own_i0 qq))) &&& (255 : Int32)).toInt64) <<< ((40 : Int32) &&& 0x3f).toInt64)) ||| ((((own_lo (own_s1 (own_i0 qq))) &&& (255 : Int32)).toInt64) <<< ((32 : Int32) &&& 0x3f).toInt64)) ||| ((((own_hi (own_s0 (own_i1 qq))) &&& (255 : Int32)).toInt64) <<< ((24 : Int32) &&& 0x3f).toInt64)) ||| ((((own_lo (own_s0 (own_i1 qq))) &&& (255 : Int32)).toInt64) <<< ((16 : Int32) &&& 0x3f).toInt64)) ||| ((((own_hi (own_s1 (own_i1 qq))) &&& (255 : Int32)).toInt64) <<< ((8 : Int32) &&& 0x3f).toInt64)))])) _
  refine own_go (fun _ k => XS.aloadN X0.here hx rfl (hb hby d11_96) rfl rfl k) ?_
  show own_G p e below (s₁.setTop (mkF m 97 #[.val (.ref a1), .val (.int p2)] [(.ref a1), (.long ((((((((((own_hi (own_s0 (own_i0 qq))) &&& (255 : Int32)).toInt64) <<< ((56 : Int32) &&& 0x3f).toInt64) ||| ((((own_lo (own_s0 (own_i0 qq))) &&& (255 : Int32)).toInt64) <<< ((48 : Int32) &&& 0x3f).toInt64)) ||| ((((own_hi (own_s1 (own_i0 qq))) &&& (255 : Int32)).toInt64) <<< ((40 : Int32) &&& 0x3f).toInt64)) ||| ((((own_lo (own_s1 (own_i0 qq))) &&& (255 : Int32)).toInt64) <<< ((32 : Int32) &&& 0x3f).toInt64)) ||| ((((own_hi (own_s0 (own_i1 qq))) &&& (255 : Int32)).toInt64) <<< ((24 : Int32) &&& 0x3f).toInt64)) ||| ((((own_lo (own_s0 (own_i1 qq))) &&& (255 : Int32)).toInt64) <<< ((16 : Int32) &&& 0x3f).toInt64)) ||| ((((own_hi (own_s1 (own_i1 qq))) &&& (255 : Int32)).toInt64) <<< ((8 : Int32) &&& 0x3f).toInt64)))])) _
  refine own_go (fun _ k => XS.iloadN X0.here hx rfl (hb hby d11_97) rfl k) ?_
  show own_G p e below (s₁.setTop (mkF m 98 #[.val (.ref a1), .val (.int p2)] [(.int p2), (.ref a1), (.long ((((((((((own_hi (own_s0 (own_i0 qq))) &&& (255 : Int32)).toInt64) <<< ((56 : Int32) &&& 0x3f).toInt64) ||| ((((own_lo (own_s0 (own_i0 qq))) &&& (255 : Int32)).toInt64) <<< ((48 : Int32) &&& 0x3f).toInt64)) ||| ((((own_hi (own_s1 (own_i0 qq))) &&& (255 : Int32)).toInt64) <<< ((40 : Int32) &&& 0x3f).toInt64)) ||| ((((own_lo (own_s1 (own_i0 qq))) &&& (255 : Int32)).toInt64) <<< ((32 : Int32) &&& 0x3f).toInt64)) ||| ((((own_hi (own_s0 (own_i1 qq))) &&& (255 : Int32)).toInt64) <<< ((24 : Int32) &&& 0x3f).toInt64)) ||| ((((own_lo (own_s0 (own_i1 qq))) &&& (255 : Int32)).toInt64) <<< ((16 : Int32) &&& 0x3f).toInt64)) ||| ((((own_hi (own_s1 (own_i1 qq))) &&& (255 : Int32)).toInt64) <<< ((8 : Int32) &&& 0x3f).toInt64)))])) _
  refine own_go (fun _ k => XS.bipush X0.here hx rfl (hb hby d11_98) k) ?_
  show own_G p e below (s₁.setTop (mkF m 100 #[.val (.ref a1), .val (.int p2)] [(.int (7 : Int32)), (.int p2), (.ref a1), (.long ((((((((((own_hi (own_s0 (own_i0 qq))) &&& (255 : Int32)).toInt64) <<< ((56 : Int32) &&& 0x3f).toInt64) ||| ((((own_lo (own_s0 (own_i0 qq))) &&& (255 : Int32)).toInt64) <<< ((48 : Int32) &&& 0x3f).toInt64)) ||| ((((own_hi (own_s1 (own_i0 qq))) &&& (255 : Int32)).toInt64) <<< ((40 : Int32) &&& 0x3f).toInt64)) ||| ((((own_lo (own_s1 (own_i0 qq))) &&& (255 : Int32)).toInt64) <<< ((32 : Int32) &&& 0x3f).toInt64)) ||| ((((own_hi (own_s0 (own_i1 qq))) &&& (255 : Int32)).toInt64) <<< ((24 : Int32) &&& 0x3f).toInt64)) ||| ((((own_lo (own_s0 (own_i1 qq))) &&& (255 : Int32)).toInt64) <<< ((16 : Int32) &&& 0x3f).toInt64)) ||| ((((own_hi (own_s1 (own_i1 qq))) &&& (255 : Int32)).toInt64) <<< ((8 : Int32) &&& 0x3f).toInt64)))])) _
  refine own_go (fun _ k => XS.iadd X0.here hx rfl (hb hby d11_100) rfl k) ?_
  show own_G p e below (s₁.setTop (mkF m 101 #[.val (.ref a1), .val (.int p2)] [(.int (p2 + (7 : Int32))), (.ref a1), (.long ((((((((((own_hi (own_s0 (own_i0 qq))) &&& (255 : Int32)).toInt64) <<< ((56 : Int32) &&& 0x3f).toInt64) ||| ((((own_lo (own_s0 (own_i0 qq))) &&& (255 : Int32)).toInt64) <<< ((48 : Int32) &&& 0x3f).toInt64)) ||| ((((own_hi (own_s1 (own_i0 qq))) &&& (255 : Int32)).toInt64) <<< ((40 : Int32) &&& 0x3f).toInt64)) ||| ((((own_lo (own_s1 (own_i0 qq))) &&& (255 : Int32)).toInt64) <<< ((32 : Int32) &&& 0x3f).toInt64)) ||| ((((own_hi (own_s0 (own_i1 qq))) &&& (255 : Int32)).toInt64) <<< ((24 : Int32) &&& 0x3f).toInt64)) ||| ((((own_lo (own_s0 (own_i1 qq))) &&& (255 : Int32)).toInt64) <<< ((16 : Int32) &&& 0x3f).toInt64)) ||| ((((own_hi (own_s1 (own_i1 qq))) &&& (255 : Int32)).toInt64) <<< ((8 : Int32) &&& 0x3f).toInt64)))])) _
  obtain ⟨cl210, Ar210, q210, S210, M210, B210, G210⟩ := id V_a1
  have hin210 : ¬ ((p2 + (7 : Int32)) < 0 ∨ cl210.slots.size ≤ ((p2 + (7 : Int32))).toNatClampNeg) := inb_of S210 ⟨(hr 7 (by decide)).1, (hr 7 (by decide)).2.1⟩
  have hat210 : cl210.slots[((p2 + (7 : Int32))).toNatClampNeg]? = some (.int (own_lo (own_s1 (own_i1 qq)))) := B210.at hin210 (hr 7 (by decide)).2.2
  refine own_go (X0.baloadBytes hx (j := (p2 + (7 : Int32))) (v := (.int (own_lo (own_s1 (own_i1 qq))))) (by rw [e0]; exact Ar210.1) (State.isArrayOf_alike hZ.alike Ar210.2.1) Ar210.2.2 hin210 hat210 (g := (mkF m 101 #[.val (.ref a1), .val (.int p2)] [(.int (p2 + (7 : Int32))), (.ref a1), (.long ((((((((((own_hi (own_s0 (own_i0 qq))) &&& (255 : Int32)).toInt64) <<< ((56 : Int32) &&& 0x3f).toInt64) ||| ((((own_lo (own_s0 (own_i0 qq))) &&& (255 : Int32)).toInt64) <<< ((48 : Int32) &&& 0x3f).toInt64)) ||| ((((own_hi (own_s1 (own_i0 qq))) &&& (255 : Int32)).toInt64) <<< ((40 : Int32) &&& 0x3f).toInt64)) ||| ((((own_lo (own_s1 (own_i0 qq))) &&& (255 : Int32)).toInt64) <<< ((32 : Int32) &&& 0x3f).toInt64)) ||| ((((own_hi (own_s0 (own_i1 qq))) &&& (255 : Int32)).toInt64) <<< ((24 : Int32) &&& 0x3f).toInt64)) ||| ((((own_lo (own_s0 (own_i1 qq))) &&& (255 : Int32)).toInt64) <<< ((16 : Int32) &&& 0x3f).toInt64)) ||| ((((own_hi (own_s1 (own_i1 qq))) &&& (255 : Int32)).toInt64) <<< ((8 : Int32) &&& 0x3f).toInt64)))])) rfl rfl (hb hby d11_101)) ?_
  show own_G p e below (s₁.setTop (mkF m 102 #[.val (.ref a1), .val (.int p2)] [(.int (own_lo (own_s1 (own_i1 qq)))), (.long ((((((((((own_hi (own_s0 (own_i0 qq))) &&& (255 : Int32)).toInt64) <<< ((56 : Int32) &&& 0x3f).toInt64) ||| ((((own_lo (own_s0 (own_i0 qq))) &&& (255 : Int32)).toInt64) <<< ((48 : Int32) &&& 0x3f).toInt64)) ||| ((((own_hi (own_s1 (own_i0 qq))) &&& (255 : Int32)).toInt64) <<< ((40 : Int32) &&& 0x3f).toInt64)) ||| ((((own_lo (own_s1 (own_i0 qq))) &&& (255 : Int32)).toInt64) <<< ((32 : Int32) &&& 0x3f).toInt64)) ||| ((((own_hi (own_s0 (own_i1 qq))) &&& (255 : Int32)).toInt64) <<< ((24 : Int32) &&& 0x3f).toInt64)) ||| ((((own_lo (own_s0 (own_i1 qq))) &&& (255 : Int32)).toInt64) <<< ((16 : Int32) &&& 0x3f).toInt64)) ||| ((((own_hi (own_s1 (own_i1 qq))) &&& (255 : Int32)).toInt64) <<< ((8 : Int32) &&& 0x3f).toInt64)))])) _
  refine own_go (fun _ k => XS.sipush X0.here hx rfl (hb hby d11_102) k) ?_
  show own_G p e below (s₁.setTop (mkF m 105 #[.val (.ref a1), .val (.int p2)] [(.int (255 : Int32)), (.int (own_lo (own_s1 (own_i1 qq)))), (.long ((((((((((own_hi (own_s0 (own_i0 qq))) &&& (255 : Int32)).toInt64) <<< ((56 : Int32) &&& 0x3f).toInt64) ||| ((((own_lo (own_s0 (own_i0 qq))) &&& (255 : Int32)).toInt64) <<< ((48 : Int32) &&& 0x3f).toInt64)) ||| ((((own_hi (own_s1 (own_i0 qq))) &&& (255 : Int32)).toInt64) <<< ((40 : Int32) &&& 0x3f).toInt64)) ||| ((((own_lo (own_s1 (own_i0 qq))) &&& (255 : Int32)).toInt64) <<< ((32 : Int32) &&& 0x3f).toInt64)) ||| ((((own_hi (own_s0 (own_i1 qq))) &&& (255 : Int32)).toInt64) <<< ((24 : Int32) &&& 0x3f).toInt64)) ||| ((((own_lo (own_s0 (own_i1 qq))) &&& (255 : Int32)).toInt64) <<< ((16 : Int32) &&& 0x3f).toInt64)) ||| ((((own_hi (own_s1 (own_i1 qq))) &&& (255 : Int32)).toInt64) <<< ((8 : Int32) &&& 0x3f).toInt64)))])) _
  refine own_go (fun _ k => XS.iand X0.here hx rfl (hb hby d11_105) rfl k) ?_
  show own_G p e below (s₁.setTop (mkF m 106 #[.val (.ref a1), .val (.int p2)] [(.int ((own_lo (own_s1 (own_i1 qq))) &&& (255 : Int32))), (.long ((((((((((own_hi (own_s0 (own_i0 qq))) &&& (255 : Int32)).toInt64) <<< ((56 : Int32) &&& 0x3f).toInt64) ||| ((((own_lo (own_s0 (own_i0 qq))) &&& (255 : Int32)).toInt64) <<< ((48 : Int32) &&& 0x3f).toInt64)) ||| ((((own_hi (own_s1 (own_i0 qq))) &&& (255 : Int32)).toInt64) <<< ((40 : Int32) &&& 0x3f).toInt64)) ||| ((((own_lo (own_s1 (own_i0 qq))) &&& (255 : Int32)).toInt64) <<< ((32 : Int32) &&& 0x3f).toInt64)) ||| ((((own_hi (own_s0 (own_i1 qq))) &&& (255 : Int32)).toInt64) <<< ((24 : Int32) &&& 0x3f).toInt64)) ||| ((((own_lo (own_s0 (own_i1 qq))) &&& (255 : Int32)).toInt64) <<< ((16 : Int32) &&& 0x3f).toInt64)) ||| ((((own_hi (own_s1 (own_i1 qq))) &&& (255 : Int32)).toInt64) <<< ((8 : Int32) &&& 0x3f).toInt64)))])) _
  refine own_go (fun _ k => XS.i2l X0.here hx rfl (hb hby d11_106) rfl k) ?_
  show own_G p e below (s₁.setTop (mkF m 107 #[.val (.ref a1), .val (.int p2)] [(.long (((own_lo (own_s1 (own_i1 qq))) &&& (255 : Int32)).toInt64)), (.long ((((((((((own_hi (own_s0 (own_i0 qq))) &&& (255 : Int32)).toInt64) <<< ((56 : Int32) &&& 0x3f).toInt64) ||| ((((own_lo (own_s0 (own_i0 qq))) &&& (255 : Int32)).toInt64) <<< ((48 : Int32) &&& 0x3f).toInt64)) ||| ((((own_hi (own_s1 (own_i0 qq))) &&& (255 : Int32)).toInt64) <<< ((40 : Int32) &&& 0x3f).toInt64)) ||| ((((own_lo (own_s1 (own_i0 qq))) &&& (255 : Int32)).toInt64) <<< ((32 : Int32) &&& 0x3f).toInt64)) ||| ((((own_hi (own_s0 (own_i1 qq))) &&& (255 : Int32)).toInt64) <<< ((24 : Int32) &&& 0x3f).toInt64)) ||| ((((own_lo (own_s0 (own_i1 qq))) &&& (255 : Int32)).toInt64) <<< ((16 : Int32) &&& 0x3f).toInt64)) ||| ((((own_hi (own_s1 (own_i1 qq))) &&& (255 : Int32)).toInt64) <<< ((8 : Int32) &&& 0x3f).toInt64)))])) _
  refine own_go (fun _ k => XS.lor X0.here hx rfl (hb hby d11_107) rfl k) ?_
  show own_G p e below (s₁.setTop (mkF m 108 #[.val (.ref a1), .val (.int p2)] [(.long (((((((((((own_hi (own_s0 (own_i0 qq))) &&& (255 : Int32)).toInt64) <<< ((56 : Int32) &&& 0x3f).toInt64) ||| ((((own_lo (own_s0 (own_i0 qq))) &&& (255 : Int32)).toInt64) <<< ((48 : Int32) &&& 0x3f).toInt64)) ||| ((((own_hi (own_s1 (own_i0 qq))) &&& (255 : Int32)).toInt64) <<< ((40 : Int32) &&& 0x3f).toInt64)) ||| ((((own_lo (own_s1 (own_i0 qq))) &&& (255 : Int32)).toInt64) <<< ((32 : Int32) &&& 0x3f).toInt64)) ||| ((((own_hi (own_s0 (own_i1 qq))) &&& (255 : Int32)).toInt64) <<< ((24 : Int32) &&& 0x3f).toInt64)) ||| ((((own_lo (own_s0 (own_i1 qq))) &&& (255 : Int32)).toInt64) <<< ((16 : Int32) &&& 0x3f).toInt64)) ||| ((((own_hi (own_s1 (own_i1 qq))) &&& (255 : Int32)).toInt64) <<< ((8 : Int32) &&& 0x3f).toInt64)) ||| (((own_lo (own_s1 (own_i1 qq))) &&& (255 : Int32)).toInt64)))])) _
  refine own_ret X0 hlk (v := some (.long (((((((((((own_hi (own_s0 (own_i0 qq))) &&& (255 : Int32)).toInt64) <<< ((56 : Int32) &&& 0x3f).toInt64) ||| ((((own_lo (own_s0 (own_i0 qq))) &&& (255 : Int32)).toInt64) <<< ((48 : Int32) &&& 0x3f).toInt64)) ||| ((((own_hi (own_s1 (own_i0 qq))) &&& (255 : Int32)).toInt64) <<< ((40 : Int32) &&& 0x3f).toInt64)) ||| ((((own_lo (own_s1 (own_i0 qq))) &&& (255 : Int32)).toInt64) <<< ((32 : Int32) &&& 0x3f).toInt64)) ||| ((((own_hi (own_s0 (own_i1 qq))) &&& (255 : Int32)).toInt64) <<< ((24 : Int32) &&& 0x3f).toInt64)) ||| ((((own_lo (own_s0 (own_i1 qq))) &&& (255 : Int32)).toInt64) <<< ((16 : Int32) &&& 0x3f).toInt64)) ||| ((((own_hi (own_s1 (own_i1 qq))) &&& (255 : Int32)).toInt64) <<< ((8 : Int32) &&& 0x3f).toInt64)) ||| (((own_lo (own_s1 (own_i1 qq))) &&& (255 : Int32)).toInt64)))) (fun h => by rw [hret] at h; cases h) (Q11 Z a1 p2 k1 z us qq h0 n0) (own_retI X0 hx (t := .long) hret rfl (Or.inr (Or.inl ⟨rfl, rfl, _, rfl⟩)) (hb hby d11_108)) (by decide) (by decide) ?_
  show Q11 Z a1 p2 k1 z us qq h0 n0 _ s₁.heap _
  rw [e0]
  exact ⟨congrArg (fun z => some (Value.long z)) (own_gl_eq qq), N0, rfl⟩
theorem ef_12 (m : MethodId) (a1 : Addr) (p2 : Int32) : entryFrame m #[(.ref a1), (.int p2)] 2 = mkF m 0 #[.val (.ref a1), .val (.int p2)] [] := by first | (simp [entryFrame, mkF, argsToLocals, Value.category]; done) | rfl
def Q12 (Z : State) (a1 : Addr) (p2 : Int32) (k1 : ClassId) (z : Int32) (us : List Value) (qq : Int32) (h0 : Heap) (n0 : Nat) (v : Option Value) (h : Heap) (L : List Loc) : Prop := v = some (.int qq) ∧ Fr n0 L ∧ h = h0
set_option maxRecDepth 65536 in
set_option maxHeartbeats 40000000 in
theorem rm12 (l : Launch) (Z : State) (a0 : Array Value) (hw : ∀ d ∈ tables_1, d.before a0 Z = true) (ws : List Jvm.Cond) (a1 : Addr) (p2 : Int32) (k1 : ClassId) (z : Int32) (us : List Value) (qq : Int32) (h0 : Heap) (n0 : Nat) (Z0 : n0 ≤ h0.size) (V_a1 : Arv Z h0 a1 k1 .byte z us (.int (0 : Int32))) (hr : ∀ j, j < 4 → ¬ (p2 + Int32.ofNat j) < 0 ∧ (p2 + Int32.ofNat j) < z ∧ us.getD (p2 + Int32.ofNat j).toNatClampNeg (.int (0 : Int32)) = (own_ib qq).getD j (.int (0 : Int32))) :
    MetFree l (⟨"com/example/orbweave/orbweave/ByteWriterToByteArrayPinLaw", "getInt", "([BI)I"⟩ : MethodName) (head1 (Jvm.Cond.code (⟨"com/example/orbweave/orbweave/ByteWriterToByteArrayPinLaw", "getInt", "([BI)I"⟩ : MethodName) method_3_code 2 (some .int) :: ws) ({ frames := 0, cells := 0, slots := 0, locals := 0 } : Room)) (fun a U => a = #[(.ref a1), (.int p2)] ∧ Z.Warmed39 U.vm ∧ U.heap = h0) (fun _ _ _ _ _ => True) (fun _ U o U' => ∃ v L, o = .returned v ∧ Q12 Z a1 p2 k1 z us qq h0 n0 v U'.heap L ∧ FrameEnd U o U' L ({ frames := 0, cells := 0, slots := 0, locals := 0 } : Room).cells ({ frames := 0, cells := 0, slots := 0, locals := 0 } : Room).slots) := by
  refine MetFree.of_bodySF (plainFor_of_name pn_12) hisR ?_
  intro p e s m args below meth c s₁ Bd hml0 hP hK
  obtain ⟨rfl, hZ, hh⟩ := hP
  have hx := Bd.exec
  have hby := Bd.bytes
  have hml : c.maxLocals = 2 := hml0
  have hown : s.vm.findClass "com/example/orbweave/orbweave/ByteWriterToByteArrayPinLaw" = some m.cls := findClass_of_methodNamed Bd.named
  have hnm := (name_of_methodNamed Bd.named Bd.method).1
  have hlk := Bd.notSynchronized
  have hret := Bd.returns
  have X0 : Stand p l e ({ frames := 0, cells := 0, slots := 0, locals := 0 } : Room) s m #[(.ref a1), (.int p2)] below meth c s₁ [] 0 0 := Stand.of_body Bd
  have e0 : s₁.heap = h0 := by rw [← hh, Bd.state]; rfl
  have N0 := Fr.nil n0
  show own_G p e below (s₁.setTop (entryFrame m #[(.ref a1), (.int p2)] 2)) (fun s₂ o => ∃ v L, o = .returned v ∧ Q12 Z a1 p2 k1 z us qq h0 n0 v s₂.heap L ∧ FrameEnd s o s₂ L ({ frames := 0, cells := 0, slots := 0, locals := 0 } : Room).cells ({ frames := 0, cells := 0, slots := 0, locals := 0 } : Room).slots)
  refine own_go (fun t k => castTop (ef_12 m a1 p2) k) ?_
  have hr0 := hr 0 (by decide)
  rw [show p2 + Int32.ofNat 0 = p2 from Int32.add_zero _] at hr0
  show own_G p e below (s₁.setTop (mkF m 0 #[.val (.ref a1), .val (.int p2)] [])) _
  refine own_go (fun _ k => XS.aloadN X0.here hx rfl (hb hby d12_0) rfl rfl k) ?_
  show own_G p e below (s₁.setTop (mkF m 1 #[.val (.ref a1), .val (.int p2)] [(.ref a1)])) _
  refine own_go (fun _ k => XS.iloadN X0.here hx rfl (hb hby d12_1) rfl k) ?_
  show own_G p e below (s₁.setTop (mkF m 2 #[.val (.ref a1), .val (.int p2)] [(.int p2), (.ref a1)])) _
  obtain ⟨cl211, Ar211, q211, S211, M211, B211, G211⟩ := id V_a1
  have hin211 : ¬ (p2 < 0 ∨ cl211.slots.size ≤ (p2).toNatClampNeg) := inb_of S211 ⟨hr0.1, hr0.2.1⟩
  have hat211 : cl211.slots[(p2).toNatClampNeg]? = some (.int (own_hi (own_s0 qq))) := B211.at hin211 hr0.2.2
  refine own_go (X0.baloadBytes hx (j := p2) (v := (.int (own_hi (own_s0 qq)))) (by rw [e0]; exact Ar211.1) (State.isArrayOf_alike hZ.alike Ar211.2.1) Ar211.2.2 hin211 hat211 (g := (mkF m 2 #[.val (.ref a1), .val (.int p2)] [(.int p2), (.ref a1)])) rfl rfl (hb hby d12_2)) ?_
  show own_G p e below (s₁.setTop (mkF m 3 #[.val (.ref a1), .val (.int p2)] [(.int (own_hi (own_s0 qq)))])) _
  refine own_go (fun _ k => XS.sipush X0.here hx rfl (hb hby d12_3) k) ?_
  show own_G p e below (s₁.setTop (mkF m 6 #[.val (.ref a1), .val (.int p2)] [(.int (255 : Int32)), (.int (own_hi (own_s0 qq)))])) _
  refine own_go (fun _ k => XS.iand X0.here hx rfl (hb hby d12_6) rfl k) ?_
  show own_G p e below (s₁.setTop (mkF m 7 #[.val (.ref a1), .val (.int p2)] [(.int ((own_hi (own_s0 qq)) &&& (255 : Int32)))])) _
  refine own_go (fun _ k => XS.bipush X0.here hx rfl (hb hby d12_7) k) ?_
  show own_G p e below (s₁.setTop (mkF m 9 #[.val (.ref a1), .val (.int p2)] [(.int (24 : Int32)), (.int ((own_hi (own_s0 qq)) &&& (255 : Int32)))])) _
  refine own_go (fun _ k => XS.ishl X0.here hx rfl (hb hby d12_9) rfl k) ?_
  show own_G p e below (s₁.setTop (mkF m 10 #[.val (.ref a1), .val (.int p2)] [(.int (((own_hi (own_s0 qq)) &&& (255 : Int32)) <<< ((24 : Int32) &&& 31)))])) _
  refine own_go (fun _ k => XS.aloadN X0.here hx rfl (hb hby d12_10) rfl rfl k) ?_
  show own_G p e below (s₁.setTop (mkF m 11 #[.val (.ref a1), .val (.int p2)] [(.ref a1), (.int (((own_hi (own_s0 qq)) &&& (255 : Int32)) <<< ((24 : Int32) &&& 31)))])) _
  refine own_go (fun _ k => XS.iloadN X0.here hx rfl (hb hby d12_11) rfl k) ?_
  show own_G p e below (s₁.setTop (mkF m 12 #[.val (.ref a1), .val (.int p2)] [(.int p2), (.ref a1), (.int (((own_hi (own_s0 qq)) &&& (255 : Int32)) <<< ((24 : Int32) &&& 31)))])) _
  refine own_go (fun _ k => XS.iconst X0.here hx rfl (hb hby d12_12) k) ?_
  show own_G p e below (s₁.setTop (mkF m 13 #[.val (.ref a1), .val (.int p2)] [(.int (1 : Int32)), (.int p2), (.ref a1), (.int (((own_hi (own_s0 qq)) &&& (255 : Int32)) <<< ((24 : Int32) &&& 31)))])) _
  refine own_go (fun _ k => XS.iadd X0.here hx rfl (hb hby d12_13) rfl k) ?_
  show own_G p e below (s₁.setTop (mkF m 14 #[.val (.ref a1), .val (.int p2)] [(.int (p2 + (1 : Int32))), (.ref a1), (.int (((own_hi (own_s0 qq)) &&& (255 : Int32)) <<< ((24 : Int32) &&& 31)))])) _
  obtain ⟨cl212, Ar212, q212, S212, M212, B212, G212⟩ := id V_a1
  have hin212 : ¬ ((p2 + (1 : Int32)) < 0 ∨ cl212.slots.size ≤ ((p2 + (1 : Int32))).toNatClampNeg) := inb_of S212 ⟨(hr 1 (by decide)).1, (hr 1 (by decide)).2.1⟩
  have hat212 : cl212.slots[((p2 + (1 : Int32))).toNatClampNeg]? = some (.int (own_lo (own_s0 qq))) := B212.at hin212 (hr 1 (by decide)).2.2
  refine own_go (X0.baloadBytes hx (j := (p2 + (1 : Int32))) (v := (.int (own_lo (own_s0 qq)))) (by rw [e0]; exact Ar212.1) (State.isArrayOf_alike hZ.alike Ar212.2.1) Ar212.2.2 hin212 hat212 (g := (mkF m 14 #[.val (.ref a1), .val (.int p2)] [(.int (p2 + (1 : Int32))), (.ref a1), (.int (((own_hi (own_s0 qq)) &&& (255 : Int32)) <<< ((24 : Int32) &&& 31)))])) rfl rfl (hb hby d12_14)) ?_
  show own_G p e below (s₁.setTop (mkF m 15 #[.val (.ref a1), .val (.int p2)] [(.int (own_lo (own_s0 qq))), (.int (((own_hi (own_s0 qq)) &&& (255 : Int32)) <<< ((24 : Int32) &&& 31)))])) _
  refine own_go (fun _ k => XS.sipush X0.here hx rfl (hb hby d12_15) k) ?_
  show own_G p e below (s₁.setTop (mkF m 18 #[.val (.ref a1), .val (.int p2)] [(.int (255 : Int32)), (.int (own_lo (own_s0 qq))), (.int (((own_hi (own_s0 qq)) &&& (255 : Int32)) <<< ((24 : Int32) &&& 31)))])) _
  refine own_go (fun _ k => XS.iand X0.here hx rfl (hb hby d12_18) rfl k) ?_
  show own_G p e below (s₁.setTop (mkF m 19 #[.val (.ref a1), .val (.int p2)] [(.int ((own_lo (own_s0 qq)) &&& (255 : Int32))), (.int (((own_hi (own_s0 qq)) &&& (255 : Int32)) <<< ((24 : Int32) &&& 31)))])) _
  refine own_go (fun _ k => XS.bipush X0.here hx rfl (hb hby d12_19) k) ?_
  show own_G p e below (s₁.setTop (mkF m 21 #[.val (.ref a1), .val (.int p2)] [(.int (16 : Int32)), (.int ((own_lo (own_s0 qq)) &&& (255 : Int32))), (.int (((own_hi (own_s0 qq)) &&& (255 : Int32)) <<< ((24 : Int32) &&& 31)))])) _
  refine own_go (fun _ k => XS.ishl X0.here hx rfl (hb hby d12_21) rfl k) ?_
  show own_G p e below (s₁.setTop (mkF m 22 #[.val (.ref a1), .val (.int p2)] [(.int (((own_lo (own_s0 qq)) &&& (255 : Int32)) <<< ((16 : Int32) &&& 31))), (.int (((own_hi (own_s0 qq)) &&& (255 : Int32)) <<< ((24 : Int32) &&& 31)))])) _
  refine own_go (fun _ k => XS.ior X0.here hx rfl (hb hby d12_22) rfl k) ?_
  show own_G p e below (s₁.setTop (mkF m 23 #[.val (.ref a1), .val (.int p2)] [(.int ((((own_hi (own_s0 qq)) &&& (255 : Int32)) <<< ((24 : Int32) &&& 31)) ||| (((own_lo (own_s0 qq)) &&& (255 : Int32)) <<< ((16 : Int32) &&& 31))))])) _
  refine own_go (fun _ k => XS.aloadN X0.here hx rfl (hb hby d12_23) rfl rfl k) ?_
  show own_G p e below (s₁.setTop (mkF m 24 #[.val (.ref a1), .val (.int p2)] [(.ref a1), (.int ((((own_hi (own_s0 qq)) &&& (255 : Int32)) <<< ((24 : Int32) &&& 31)) ||| (((own_lo (own_s0 qq)) &&& (255 : Int32)) <<< ((16 : Int32) &&& 31))))])) _
  refine own_go (fun _ k => XS.iloadN X0.here hx rfl (hb hby d12_24) rfl k) ?_
  show own_G p e below (s₁.setTop (mkF m 25 #[.val (.ref a1), .val (.int p2)] [(.int p2), (.ref a1), (.int ((((own_hi (own_s0 qq)) &&& (255 : Int32)) <<< ((24 : Int32) &&& 31)) ||| (((own_lo (own_s0 qq)) &&& (255 : Int32)) <<< ((16 : Int32) &&& 31))))])) _
  refine own_go (fun _ k => XS.iconst X0.here hx rfl (hb hby d12_25) k) ?_
  show own_G p e below (s₁.setTop (mkF m 26 #[.val (.ref a1), .val (.int p2)] [(.int (2 : Int32)), (.int p2), (.ref a1), (.int ((((own_hi (own_s0 qq)) &&& (255 : Int32)) <<< ((24 : Int32) &&& 31)) ||| (((own_lo (own_s0 qq)) &&& (255 : Int32)) <<< ((16 : Int32) &&& 31))))])) _
  refine own_go (fun _ k => XS.iadd X0.here hx rfl (hb hby d12_26) rfl k) ?_
  show own_G p e below (s₁.setTop (mkF m 27 #[.val (.ref a1), .val (.int p2)] [(.int (p2 + (2 : Int32))), (.ref a1), (.int ((((own_hi (own_s0 qq)) &&& (255 : Int32)) <<< ((24 : Int32) &&& 31)) ||| (((own_lo (own_s0 qq)) &&& (255 : Int32)) <<< ((16 : Int32) &&& 31))))])) _
  obtain ⟨cl213, Ar213, q213, S213, M213, B213, G213⟩ := id V_a1
  have hin213 : ¬ ((p2 + (2 : Int32)) < 0 ∨ cl213.slots.size ≤ ((p2 + (2 : Int32))).toNatClampNeg) := inb_of S213 ⟨(hr 2 (by decide)).1, (hr 2 (by decide)).2.1⟩
  have hat213 : cl213.slots[((p2 + (2 : Int32))).toNatClampNeg]? = some (.int (own_hi (own_s1 qq))) := B213.at hin213 (hr 2 (by decide)).2.2
  refine own_go (X0.baloadBytes hx (j := (p2 + (2 : Int32))) (v := (.int (own_hi (own_s1 qq)))) (by rw [e0]; exact Ar213.1) (State.isArrayOf_alike hZ.alike Ar213.2.1) Ar213.2.2 hin213 hat213 (g := (mkF m 27 #[.val (.ref a1), .val (.int p2)] [(.int (p2 + (2 : Int32))), (.ref a1), (.int ((((own_hi (own_s0 qq)) &&& (255 : Int32)) <<< ((24 : Int32) &&& 31)) ||| (((own_lo (own_s0 qq)) &&& (255 : Int32)) <<< ((16 : Int32) &&& 31))))])) rfl rfl (hb hby d12_27)) ?_
  show own_G p e below (s₁.setTop (mkF m 28 #[.val (.ref a1), .val (.int p2)] [(.int (own_hi (own_s1 qq))), (.int ((((own_hi (own_s0 qq)) &&& (255 : Int32)) <<< ((24 : Int32) &&& 31)) ||| (((own_lo (own_s0 qq)) &&& (255 : Int32)) <<< ((16 : Int32) &&& 31))))])) _
  refine own_go (fun _ k => XS.sipush X0.here hx rfl (hb hby d12_28) k) ?_
  show own_G p e below (s₁.setTop (mkF m 31 #[.val (.ref a1), .val (.int p2)] [(.int (255 : Int32)), (.int (own_hi (own_s1 qq))), (.int ((((own_hi (own_s0 qq)) &&& (255 : Int32)) <<< ((24 : Int32) &&& 31)) ||| (((own_lo (own_s0 qq)) &&& (255 : Int32)) <<< ((16 : Int32) &&& 31))))])) _
  refine own_go (fun _ k => XS.iand X0.here hx rfl (hb hby d12_31) rfl k) ?_
  show own_G p e below (s₁.setTop (mkF m 32 #[.val (.ref a1), .val (.int p2)] [(.int ((own_hi (own_s1 qq)) &&& (255 : Int32))), (.int ((((own_hi (own_s0 qq)) &&& (255 : Int32)) <<< ((24 : Int32) &&& 31)) ||| (((own_lo (own_s0 qq)) &&& (255 : Int32)) <<< ((16 : Int32) &&& 31))))])) _
  refine own_go (fun _ k => XS.bipush X0.here hx rfl (hb hby d12_32) k) ?_
  show own_G p e below (s₁.setTop (mkF m 34 #[.val (.ref a1), .val (.int p2)] [(.int (8 : Int32)), (.int ((own_hi (own_s1 qq)) &&& (255 : Int32))), (.int ((((own_hi (own_s0 qq)) &&& (255 : Int32)) <<< ((24 : Int32) &&& 31)) ||| (((own_lo (own_s0 qq)) &&& (255 : Int32)) <<< ((16 : Int32) &&& 31))))])) _
  refine own_go (fun _ k => XS.ishl X0.here hx rfl (hb hby d12_34) rfl k) ?_
  show own_G p e below (s₁.setTop (mkF m 35 #[.val (.ref a1), .val (.int p2)] [(.int (((own_hi (own_s1 qq)) &&& (255 : Int32)) <<< ((8 : Int32) &&& 31))), (.int ((((own_hi (own_s0 qq)) &&& (255 : Int32)) <<< ((24 : Int32) &&& 31)) ||| (((own_lo (own_s0 qq)) &&& (255 : Int32)) <<< ((16 : Int32) &&& 31))))])) _
  refine own_go (fun _ k => XS.ior X0.here hx rfl (hb hby d12_35) rfl k) ?_
  show own_G p e below (s₁.setTop (mkF m 36 #[.val (.ref a1), .val (.int p2)] [(.int (((((own_hi (own_s0 qq)) &&& (255 : Int32)) <<< ((24 : Int32) &&& 31)) ||| (((own_lo (own_s0 qq)) &&& (255 : Int32)) <<< ((16 : Int32) &&& 31))) ||| (((own_hi (own_s1 qq)) &&& (255 : Int32)) <<< ((8 : Int32) &&& 31))))])) _
  refine own_go (fun _ k => XS.aloadN X0.here hx rfl (hb hby d12_36) rfl rfl k) ?_
  show own_G p e below (s₁.setTop (mkF m 37 #[.val (.ref a1), .val (.int p2)] [(.ref a1), (.int (((((own_hi (own_s0 qq)) &&& (255 : Int32)) <<< ((24 : Int32) &&& 31)) ||| (((own_lo (own_s0 qq)) &&& (255 : Int32)) <<< ((16 : Int32) &&& 31))) ||| (((own_hi (own_s1 qq)) &&& (255 : Int32)) <<< ((8 : Int32) &&& 31))))])) _
  refine own_go (fun _ k => XS.iloadN X0.here hx rfl (hb hby d12_37) rfl k) ?_
  show own_G p e below (s₁.setTop (mkF m 38 #[.val (.ref a1), .val (.int p2)] [(.int p2), (.ref a1), (.int (((((own_hi (own_s0 qq)) &&& (255 : Int32)) <<< ((24 : Int32) &&& 31)) ||| (((own_lo (own_s0 qq)) &&& (255 : Int32)) <<< ((16 : Int32) &&& 31))) ||| (((own_hi (own_s1 qq)) &&& (255 : Int32)) <<< ((8 : Int32) &&& 31))))])) _
  refine own_go (fun _ k => XS.iconst X0.here hx rfl (hb hby d12_38) k) ?_
  show own_G p e below (s₁.setTop (mkF m 39 #[.val (.ref a1), .val (.int p2)] [(.int (3 : Int32)), (.int p2), (.ref a1), (.int (((((own_hi (own_s0 qq)) &&& (255 : Int32)) <<< ((24 : Int32) &&& 31)) ||| (((own_lo (own_s0 qq)) &&& (255 : Int32)) <<< ((16 : Int32) &&& 31))) ||| (((own_hi (own_s1 qq)) &&& (255 : Int32)) <<< ((8 : Int32) &&& 31))))])) _
  refine own_go (fun _ k => XS.iadd X0.here hx rfl (hb hby d12_39) rfl k) ?_
  show own_G p e below (s₁.setTop (mkF m 40 #[.val (.ref a1), .val (.int p2)] [(.int (p2 + (3 : Int32))), (.ref a1), (.int (((((own_hi (own_s0 qq)) &&& (255 : Int32)) <<< ((24 : Int32) &&& 31)) ||| (((own_lo (own_s0 qq)) &&& (255 : Int32)) <<< ((16 : Int32) &&& 31))) ||| (((own_hi (own_s1 qq)) &&& (255 : Int32)) <<< ((8 : Int32) &&& 31))))])) _
  obtain ⟨cl214, Ar214, q214, S214, M214, B214, G214⟩ := id V_a1
  have hin214 : ¬ ((p2 + (3 : Int32)) < 0 ∨ cl214.slots.size ≤ ((p2 + (3 : Int32))).toNatClampNeg) := inb_of S214 ⟨(hr 3 (by decide)).1, (hr 3 (by decide)).2.1⟩
  have hat214 : cl214.slots[((p2 + (3 : Int32))).toNatClampNeg]? = some (.int (own_lo (own_s1 qq))) := B214.at hin214 (hr 3 (by decide)).2.2
  refine own_go (X0.baloadBytes hx (j := (p2 + (3 : Int32))) (v := (.int (own_lo (own_s1 qq)))) (by rw [e0]; exact Ar214.1) (State.isArrayOf_alike hZ.alike Ar214.2.1) Ar214.2.2 hin214 hat214 (g := (mkF m 40 #[.val (.ref a1), .val (.int p2)] [(.int (p2 + (3 : Int32))), (.ref a1), (.int (((((own_hi (own_s0 qq)) &&& (255 : Int32)) <<< ((24 : Int32) &&& 31)) ||| (((own_lo (own_s0 qq)) &&& (255 : Int32)) <<< ((16 : Int32) &&& 31))) ||| (((own_hi (own_s1 qq)) &&& (255 : Int32)) <<< ((8 : Int32) &&& 31))))])) rfl rfl (hb hby d12_40)) ?_
  show own_G p e below (s₁.setTop (mkF m 41 #[.val (.ref a1), .val (.int p2)] [(.int (own_lo (own_s1 qq))), (.int (((((own_hi (own_s0 qq)) &&& (255 : Int32)) <<< ((24 : Int32) &&& 31)) ||| (((own_lo (own_s0 qq)) &&& (255 : Int32)) <<< ((16 : Int32) &&& 31))) ||| (((own_hi (own_s1 qq)) &&& (255 : Int32)) <<< ((8 : Int32) &&& 31))))])) _
  refine own_go (fun _ k => XS.sipush X0.here hx rfl (hb hby d12_41) k) ?_
  show own_G p e below (s₁.setTop (mkF m 44 #[.val (.ref a1), .val (.int p2)] [(.int (255 : Int32)), (.int (own_lo (own_s1 qq))), (.int (((((own_hi (own_s0 qq)) &&& (255 : Int32)) <<< ((24 : Int32) &&& 31)) ||| (((own_lo (own_s0 qq)) &&& (255 : Int32)) <<< ((16 : Int32) &&& 31))) ||| (((own_hi (own_s1 qq)) &&& (255 : Int32)) <<< ((8 : Int32) &&& 31))))])) _
  refine own_go (fun _ k => XS.iand X0.here hx rfl (hb hby d12_44) rfl k) ?_
  show own_G p e below (s₁.setTop (mkF m 45 #[.val (.ref a1), .val (.int p2)] [(.int ((own_lo (own_s1 qq)) &&& (255 : Int32))), (.int (((((own_hi (own_s0 qq)) &&& (255 : Int32)) <<< ((24 : Int32) &&& 31)) ||| (((own_lo (own_s0 qq)) &&& (255 : Int32)) <<< ((16 : Int32) &&& 31))) ||| (((own_hi (own_s1 qq)) &&& (255 : Int32)) <<< ((8 : Int32) &&& 31))))])) _
  refine own_go (fun _ k => XS.ior X0.here hx rfl (hb hby d12_45) rfl k) ?_
  show own_G p e below (s₁.setTop (mkF m 46 #[.val (.ref a1), .val (.int p2)] [(.int ((((((own_hi (own_s0 qq)) &&& (255 : Int32)) <<< ((24 : Int32) &&& 31)) ||| (((own_lo (own_s0 qq)) &&& (255 : Int32)) <<< ((16 : Int32) &&& 31))) ||| (((own_hi (own_s1 qq)) &&& (255 : Int32)) <<< ((8 : Int32) &&& 31))) ||| ((own_lo (own_s1 qq)) &&& (255 : Int32))))])) _
  refine own_ret X0 hlk (v := some (.int ((((((own_hi (own_s0 qq)) &&& (255 : Int32)) <<< ((24 : Int32) &&& 31)) ||| (((own_lo (own_s0 qq)) &&& (255 : Int32)) <<< ((16 : Int32) &&& 31))) ||| (((own_hi (own_s1 qq)) &&& (255 : Int32)) <<< ((8 : Int32) &&& 31))) ||| ((own_lo (own_s1 qq)) &&& (255 : Int32))))) (fun h => by rw [hret] at h; cases h) (Q12 Z a1 p2 k1 z us qq h0 n0) (own_retI X0 hx (t := .int) hret rfl (Or.inl ⟨rfl, by simp, _, rfl⟩) (hb hby d12_46)) (by decide) (by decide) ?_
  show Q12 Z a1 p2 k1 z us qq h0 n0 _ s₁.heap _
  rw [e0]
  exact ⟨congrArg (fun z => some (Value.int z)) (own_gi_eq qq), N0, rfl⟩
theorem ef_0 (m : MethodId) (q1 : Int64) (q2 : Int64) (q3 : Int64) (q4 : Int64) (p5 : Int32) (p6 : Int32) : entryFrame m #[(.long q1), (.long q2), (.long q3), (.long q4), (.int p5), (.int p6)] maxLocals = mkF m 0 #[.val (.long q1), .second, .val (.long q2), .second, .val (.long q3), .second, .val (.long q4), .second, .val (.int p5), .val (.int p6), .unset, .unset, .unset, .unset, .unset, .unset, .unset, .unset, .unset, .unset, .unset, .unset, .unset] [] := by first | (simp [entryFrame, mkF, argsToLocals, Value.category, maxLocals]; done) | rfl
def Q0 (Z : State) (q1 : Int64) (q2 : Int64) (q3 : Int64) (q4 : Int64) (p5 : Int32) (p6 : Int32) (h0 : Heap) (n0 : Nat) (v : Option Value) (h : Heap) (L : List Loc) : Prop := v = some (.int (1 : Int32)) ∧ Fr n0 L
set_option maxRecDepth 65536 in
set_option maxHeartbeats 40000000 in
theorem rm0 (l : Launch) (Z : State) (a0 : Array Value) (hw : ∀ d ∈ tables_1, d.before a0 Z = true) (ws : List Jvm.Cond) (q1 : Int64) (q2 : Int64) (q3 : Int64) (q4 : Int64) (p5 : Int32) (p6 : Int32) (h0 : Heap) (n0 : Nat) (Z0 : n0 ≤ h0.size)  :
    MetFree l x (head1 (Jvm.Cond.code x code maxLocals ret :: ws) room_1) (fun a U => a = #[(.long q1), (.long q2), (.long q3), (.long q4), (.int p5), (.int p6)] ∧ Z.Warmed39 U.vm ∧ U.heap = h0) (fun _ _ _ _ _ => True) (fun _ U o U' => ∃ v L, o = .returned v ∧ Q0 Z q1 q2 q3 q4 p5 p6 h0 n0 v U'.heap L ∧ FrameEnd U o U' L room_1.cells room_1.slots) := by
  refine MetFree.of_bodySF (plainFor_of_name pn_0) hisR ?_
  intro p e s m args below meth c s₁ Bd hml0 hP hK
  obtain ⟨rfl, hZ, hh⟩ := hP
  have hx := Bd.exec
  have hby := Bd.bytes
  have hml : c.maxLocals = 23 := hml0
  have hown : s.vm.findClass "com/example/orbweave/orbweave/ByteWriterToByteArrayPinLaw" = some m.cls := findClass_of_methodNamed Bd.named
  have hnm := (name_of_methodNamed Bd.named Bd.method).1
  have hlk := Bd.notSynchronized
  have hret := Bd.returns
  have X0 : Stand p l e room_1 s m #[(.long q1), (.long q2), (.long q3), (.long q4), (.int p5), (.int p6)] below meth c s₁ [] 0 0 := Stand.of_body Bd
  have e0 : s₁.heap = h0 := by rw [← hh, Bd.state]; rfl
  have N0 := Fr.nil n0
  show own_G p e below (s₁.setTop (entryFrame m #[(.long q1), (.long q2), (.long q3), (.long q4), (.int p5), (.int p6)] maxLocals)) (fun s₂ o => ∃ v L, o = .returned v ∧ Q0 Z q1 q2 q3 q4 p5 p6 h0 n0 v s₂.heap L ∧ FrameEnd s o s₂ L room_1.cells room_1.slots)
  refine own_go (fun t k => castTop (ef_0 m q1 q2 q3 q4 p5 p6) k) ?_
  show own_G p e below (s₁.setTop (mkF m 0 #[.val (.long q1), .second, .val (.long q2), .second, .val (.long q3), .second, .val (.long q4), .second, .val (.int p5), .val (.int p6), .unset, .unset, .unset, .unset, .unset, .unset, .unset, .unset, .unset, .unset, .unset, .unset, .unset] [])) _
  obtain ⟨T215, h215, X215, e215, E215, A215, D215, -, st215⟩ := newO X0 hx hZ hown (hw _ (List.mem_of_getElem? (i := 0) rfl)) (hw _ (List.mem_of_getElem? (i := 1) rfl)) (hw _ (List.mem_of_getElem? (i := 2) rfl)) e0 (g := (mkF m 0 #[.val (.long q1), .second, .val (.long q2), .second, .val (.long q3), .second, .val (.long q4), .second, .val (.int p5), .val (.int p6), .unset, .unset, .unset, .unset, .unset, .unset, .unset, .unset, .unset, .unset, .unset, .unset, .unset] [])) rfl (hb hby at_0) (by decide) (by decide)
  obtain ⟨b215, g215⟩ : ∃ z, z = h0.size := ⟨_, rfl⟩
  rw [← g215] at A215 D215 st215
  refine own_go st215 ?_
  have ge216 : n0 ≤ b215 := Nat.le_trans Z0 (Nat.le_of_eq g215.symm)
  have zs217 : n0 ≤ h215.size := Nat.le_trans Z0 E215.1
  have f218 : Fld Z h215 b215 "com/example/orbweave/orbweave/ByteWriter" "_bytes" "[B" .null := D215 (Or.inl (hw _ (List.mem_of_getElem? (i := 11) rfl))) (ty := (.array .byte)) (by decide)
  have f219 : Fld Z h215 b215 "com/example/orbweave/orbweave/ByteWriter" "_length" "I" (.int (0 : Int32)) := D215 (Or.inl (hw _ (List.mem_of_getElem? (i := 18) rfl))) (ty := .int) (by decide)
  show own_G p e below (T215.setTop (mkF m 3 #[.val (.long q1), .second, .val (.long q2), .second, .val (.long q3), .second, .val (.long q4), .second, .val (.int p5), .val (.int p6), .unset, .unset, .unset, .unset, .unset, .unset, .unset, .unset, .unset, .unset, .unset, .unset, .unset] [(.ref b215)])) _
  refine own_go (fun _ k => XS.dup X215.here hx rfl (hb hby at_3) rfl rfl k) ?_
  show own_G p e below (T215.setTop (mkF m 4 #[.val (.long q1), .second, .val (.long q2), .second, .val (.long q3), .second, .val (.long q4), .second, .val (.int p5), .val (.int p6), .unset, .unset, .unset, .unset, .unset, .unset, .unset, .unset, .unset, .unset, .unset, .unset, .unset] [(.ref b215), (.ref b215)])) _
  obtain ⟨_, _, ⟨T220, L220, k220, n220⟩, -, X220, ⟨Lc220, hQ220, l220, y220, z220⟩, st220⟩ := X215.specialBack hx (y := (⟨"com/example/orbweave/orbweave/ByteWriter", "<init>", "()V"⟩ : MethodName)) rfl hown (mvT hZ (hw _ (List.mem_of_getElem? (i := 3) rfl))) (mvT hZ (hw _ (List.mem_of_getElem? (i := 4) rfl))) (mvT hZ (hw _ (List.mem_of_getElem? (i := 5) rfl))) (by decide) (backOf (W := 1) (rm1 l Z a0 hw [] b215 h215 n0 zs217 A215 f218 f219 ge216) hZ (hw _ (List.mem_of_getElem? (i := 5) rfl)) (hw _ (List.mem_of_getElem? (i := 2) rfl)) (by decide) (by decide)) (g := (mkF m 4 #[.val (.long q1), .second, .val (.long q2), .second, .val (.long q3), .second, .val (.long q4), .second, .val (.int p5), .val (.int p6), .unset, .unset, .unset, .unset, .unset, .unset, .unset, .unset, .unset, .unset, .unset, .unset, .unset] [(.ref b215), (.ref b215)])) rfl (by rw [hml]; rfl) (Steps.refl _) (a := b215) (argsL := []) (rest := [(.ref b215)]) (lenOf pd_5 rfl) rfl (by show 2 * 0 + _ ≤ _; exact Nat.le_of_eq rfl) (hb hby at_4) (fun _ _ => ⟨rfl, e215, (by decide : 0 + 1 + 1 ≤ _), (by decide : 0 + 2 + 32 ≤ _)⟩)
  dsimp only [Pt.U, Pt.locs, Pt.cells, Pt.slots] at X220 l220 y220 z220 st220 hQ220
  subst l220 y220 z220
  obtain ⟨b220, k220q, rfl, Nq220, K220, hsz220, Eo220, Fb220, Fl220, Eb220, Vq220⟩ := hQ220
  have N220 := Fr.app N0 Nq220
  refine own_go (fun _ k => st220.trans k) ?_
  have ne221 : b215 ≠ b220 := Nat.ne_of_lt (Nat.lt_of_lt_of_le A215.lt hsz220)
  have ge222 : n0 ≤ b220 := Nat.le_trans zs217 hsz220
  have f223 := A215.keep K220
  have zs224 : n0 ≤ T220.heap.size := Nat.le_trans zs217 K220.1
  show own_G p e below (T220.setTop (mkF m 7 #[.val (.long q1), .second, .val (.long q2), .second, .val (.long q3), .second, .val (.long q4), .second, .val (.int p5), .val (.int p6), .unset, .unset, .unset, .unset, .unset, .unset, .unset, .unset, .unset, .unset, .unset, .unset, .unset] [(.ref b215)])) _
  refine own_go (fun _ k => XS.astore X220.here hx rfl (hb hby at_7) rfl rfl (l' := #[.val (.long q1), .second, .val (.long q2), .second, .val (.long q3), .second, .val (.long q4), .second, .val (.int p5), .val (.int p6), .val (.ref b215), .unset, .unset, .unset, .unset, .unset, .unset, .unset, .unset, .unset, .unset, .unset, .unset]) rfl k) ?_
  show own_G p e below (T220.setTop (mkF m 9 #[.val (.long q1), .second, .val (.long q2), .second, .val (.long q3), .second, .val (.long q4), .second, .val (.int p5), .val (.int p6), .val (.ref b215), .unset, .unset, .unset, .unset, .unset, .unset, .unset, .unset, .unset, .unset, .unset, .unset] [])) _
  refine own_go (fun _ k => XS.iload X220.here hx rfl (hb hby at_9) rfl k) ?_
  show own_G p e below (T220.setTop (mkF m 11 #[.val (.long q1), .second, .val (.long q2), .second, .val (.long q3), .second, .val (.long q4), .second, .val (.int p5), .val (.int p6), .val (.ref b215), .unset, .unset, .unset, .unset, .unset, .unset, .unset, .unset, .unset, .unset, .unset, .unset] [(.int p6)])) _
  refine own_go (fun _ k => XS.iconst X220.here hx rfl (hb hby at_11) k) ?_
  show own_G p e below (T220.setTop (mkF m 12 #[.val (.long q1), .second, .val (.long q2), .second, .val (.long q3), .second, .val (.long q4), .second, .val (.int p5), .val (.int p6), .val (.ref b215), .unset, .unset, .unset, .unset, .unset, .unset, .unset, .unset, .unset, .unset, .unset, .unset] [(.int (1 : Int32)), (.int p6)])) _
  refine own_go (fun _ k => XS.iand X220.here hx rfl (hb hby at_12) rfl k) ?_
  show own_G p e below (T220.setTop (mkF m 13 #[.val (.long q1), .second, .val (.long q2), .second, .val (.long q3), .second, .val (.long q4), .second, .val (.int p5), .val (.int p6), .val (.ref b215), .unset, .unset, .unset, .unset, .unset, .unset, .unset, .unset, .unset, .unset, .unset, .unset] [(.int (p6 &&& (1 : Int32)))])) _
  suffices JF1 : ∀ (f1 : Int32) (_ : f1 = 0 ∨ f1 = 1), own_G p e below (T220.setTop (mkF m 21 #[.val (.long q1), .second, .val (.long q2), .second, .val (.long q3), .second, .val (.long q4), .second, .val (.int p5), .val (.int p6), .val (.ref b215), .unset, .unset, .unset, .unset, .unset, .unset, .unset, .unset, .unset, .unset, .unset, .unset] [(.int f1)])) (fun s₂ o => ∃ v L, o = .returned v ∧ Q0 Z q1 q2 q3 q4 p5 p6 h0 n0 v s₂.heap L ∧ FrameEnd s o s₂ L room_1.cells room_1.slots) by
    show own_G p e below (T220.setTop (mkF m 13 #[.val (.long q1), .second, .val (.long q2), .second, .val (.long q3), .second, .val (.long q4), .second, .val (.int p5), .val (.int p6), .val (.ref b215), .unset, .unset, .unset, .unset, .unset, .unset, .unset, .unset, .unset, .unset, .unset, .unset] [(.int (p6 &&& (1 : Int32)))])) _
    by_cases hc13_225 : (p6 &&& (1 : Int32)) = (0 : Int32)
    · refine own_go (fun _ k => XS.ifYes X220.here hx rfl (pc0 := 13) (pc' := 20) rfl (hb hby at_13) rfl ((if0 _ _).trans (teq hc13_225).1) (by decide) (by decide) k) ?_
      show own_G p e below (T220.setTop (mkF m 20 #[.val (.long q1), .second, .val (.long q2), .second, .val (.long q3), .second, .val (.long q4), .second, .val (.int p5), .val (.int p6), .val (.ref b215), .unset, .unset, .unset, .unset, .unset, .unset, .unset, .unset, .unset, .unset, .unset, .unset] [])) _
      refine own_go (fun _ k => XS.iconst X220.here hx rfl (hb hby at_20) k) ?_
      show own_G p e below (T220.setTop (mkF m 21 #[.val (.long q1), .second, .val (.long q2), .second, .val (.long q3), .second, .val (.long q4), .second, .val (.int p5), .val (.int p6), .val (.ref b215), .unset, .unset, .unset, .unset, .unset, .unset, .unset, .unset, .unset, .unset, .unset, .unset] [(.int (0 : Int32))])) _
      exact JF1 _ (Or.inl rfl)
    · refine own_go (fun _ k => XS.ifNo X220.here hx rfl (hb hby at_13) rfl ((if0 _ _).trans (feq hc13_225).1) k) ?_
      show own_G p e below (T220.setTop (mkF m 16 #[.val (.long q1), .second, .val (.long q2), .second, .val (.long q3), .second, .val (.long q4), .second, .val (.int p5), .val (.int p6), .val (.ref b215), .unset, .unset, .unset, .unset, .unset, .unset, .unset, .unset, .unset, .unset, .unset, .unset] [])) _
      refine own_go (fun _ k => XS.iconst X220.here hx rfl (hb hby at_16) k) ?_
      show own_G p e below (T220.setTop (mkF m 17 #[.val (.long q1), .second, .val (.long q2), .second, .val (.long q3), .second, .val (.long q4), .second, .val (.int p5), .val (.int p6), .val (.ref b215), .unset, .unset, .unset, .unset, .unset, .unset, .unset, .unset, .unset, .unset, .unset, .unset] [(.int (1 : Int32))])) _
      refine own_go (fun _ k => XS.goto X220.here hx rfl (pc0 := 17) (pc' := 21) rfl (hb hby at_17) (by decide) (by decide) k) ?_
      show own_G p e below (T220.setTop (mkF m 21 #[.val (.long q1), .second, .val (.long q2), .second, .val (.long q3), .second, .val (.long q4), .second, .val (.int p5), .val (.int p6), .val (.ref b215), .unset, .unset, .unset, .unset, .unset, .unset, .unset, .unset, .unset, .unset, .unset, .unset] [(.int (1 : Int32))])) _
      exact JF1 _ (Or.inr rfl)
  intro f1 hf1
  show own_G p e below (T220.setTop (mkF m 21 #[.val (.long q1), .second, .val (.long q2), .second, .val (.long q3), .second, .val (.long q4), .second, .val (.int p5), .val (.int p6), .val (.ref b215), .unset, .unset, .unset, .unset, .unset, .unset, .unset, .unset, .unset, .unset, .unset, .unset] [(.int f1)])) _
  refine own_go (fun _ k => XS.istore X220.here hx rfl (hb hby at_21) rfl (l' := #[.val (.long q1), .second, .val (.long q2), .second, .val (.long q3), .second, .val (.long q4), .second, .val (.int p5), .val (.int p6), .val (.ref b215), .val (.int f1), .unset, .unset, .unset, .unset, .unset, .unset, .unset, .unset, .unset, .unset, .unset]) rfl k) ?_
  show own_G p e below (T220.setTop (mkF m 23 #[.val (.long q1), .second, .val (.long q2), .second, .val (.long q3), .second, .val (.long q4), .second, .val (.int p5), .val (.int p6), .val (.ref b215), .val (.int f1), .unset, .unset, .unset, .unset, .unset, .unset, .unset, .unset, .unset, .unset, .unset] [])) _
  refine own_go (fun _ k => XS.iload X220.here hx rfl (hb hby at_23) rfl k) ?_
  show own_G p e below (T220.setTop (mkF m 25 #[.val (.long q1), .second, .val (.long q2), .second, .val (.long q3), .second, .val (.long q4), .second, .val (.int p5), .val (.int p6), .val (.ref b215), .val (.int f1), .unset, .unset, .unset, .unset, .unset, .unset, .unset, .unset, .unset, .unset, .unset] [(.int p6)])) _
  refine own_go (fun _ k => XS.iconst X220.here hx rfl (hb hby at_25) k) ?_
  show own_G p e below (T220.setTop (mkF m 26 #[.val (.long q1), .second, .val (.long q2), .second, .val (.long q3), .second, .val (.long q4), .second, .val (.int p5), .val (.int p6), .val (.ref b215), .val (.int f1), .unset, .unset, .unset, .unset, .unset, .unset, .unset, .unset, .unset, .unset, .unset] [(.int (2 : Int32)), (.int p6)])) _
  refine own_go (fun _ k => XS.iand X220.here hx rfl (hb hby at_26) rfl k) ?_
  show own_G p e below (T220.setTop (mkF m 27 #[.val (.long q1), .second, .val (.long q2), .second, .val (.long q3), .second, .val (.long q4), .second, .val (.int p5), .val (.int p6), .val (.ref b215), .val (.int f1), .unset, .unset, .unset, .unset, .unset, .unset, .unset, .unset, .unset, .unset, .unset] [(.int (p6 &&& (2 : Int32)))])) _
  suffices JF2 : ∀ (f2 : Int32) (_ : f2 = 0 ∨ f2 = 1), own_G p e below (T220.setTop (mkF m 35 #[.val (.long q1), .second, .val (.long q2), .second, .val (.long q3), .second, .val (.long q4), .second, .val (.int p5), .val (.int p6), .val (.ref b215), .val (.int f1), .unset, .unset, .unset, .unset, .unset, .unset, .unset, .unset, .unset, .unset, .unset] [(.int f2)])) (fun s₂ o => ∃ v L, o = .returned v ∧ Q0 Z q1 q2 q3 q4 p5 p6 h0 n0 v s₂.heap L ∧ FrameEnd s o s₂ L room_1.cells room_1.slots) by
    show own_G p e below (T220.setTop (mkF m 27 #[.val (.long q1), .second, .val (.long q2), .second, .val (.long q3), .second, .val (.long q4), .second, .val (.int p5), .val (.int p6), .val (.ref b215), .val (.int f1), .unset, .unset, .unset, .unset, .unset, .unset, .unset, .unset, .unset, .unset, .unset] [(.int (p6 &&& (2 : Int32)))])) _
    by_cases hc27_226 : (p6 &&& (2 : Int32)) = (0 : Int32)
    · refine own_go (fun _ k => XS.ifYes X220.here hx rfl (pc0 := 27) (pc' := 34) rfl (hb hby at_27) rfl ((if0 _ _).trans (teq hc27_226).1) (by decide) (by decide) k) ?_
      show own_G p e below (T220.setTop (mkF m 34 #[.val (.long q1), .second, .val (.long q2), .second, .val (.long q3), .second, .val (.long q4), .second, .val (.int p5), .val (.int p6), .val (.ref b215), .val (.int f1), .unset, .unset, .unset, .unset, .unset, .unset, .unset, .unset, .unset, .unset, .unset] [])) _
      refine own_go (fun _ k => XS.iconst X220.here hx rfl (hb hby at_34) k) ?_
      show own_G p e below (T220.setTop (mkF m 35 #[.val (.long q1), .second, .val (.long q2), .second, .val (.long q3), .second, .val (.long q4), .second, .val (.int p5), .val (.int p6), .val (.ref b215), .val (.int f1), .unset, .unset, .unset, .unset, .unset, .unset, .unset, .unset, .unset, .unset, .unset] [(.int (0 : Int32))])) _
      exact JF2 _ (Or.inl rfl)
    · refine own_go (fun _ k => XS.ifNo X220.here hx rfl (hb hby at_27) rfl ((if0 _ _).trans (feq hc27_226).1) k) ?_
      show own_G p e below (T220.setTop (mkF m 30 #[.val (.long q1), .second, .val (.long q2), .second, .val (.long q3), .second, .val (.long q4), .second, .val (.int p5), .val (.int p6), .val (.ref b215), .val (.int f1), .unset, .unset, .unset, .unset, .unset, .unset, .unset, .unset, .unset, .unset, .unset] [])) _
      refine own_go (fun _ k => XS.iconst X220.here hx rfl (hb hby at_30) k) ?_
      show own_G p e below (T220.setTop (mkF m 31 #[.val (.long q1), .second, .val (.long q2), .second, .val (.long q3), .second, .val (.long q4), .second, .val (.int p5), .val (.int p6), .val (.ref b215), .val (.int f1), .unset, .unset, .unset, .unset, .unset, .unset, .unset, .unset, .unset, .unset, .unset] [(.int (1 : Int32))])) _
      refine own_go (fun _ k => XS.goto X220.here hx rfl (pc0 := 31) (pc' := 35) rfl (hb hby at_31) (by decide) (by decide) k) ?_
      show own_G p e below (T220.setTop (mkF m 35 #[.val (.long q1), .second, .val (.long q2), .second, .val (.long q3), .second, .val (.long q4), .second, .val (.int p5), .val (.int p6), .val (.ref b215), .val (.int f1), .unset, .unset, .unset, .unset, .unset, .unset, .unset, .unset, .unset, .unset, .unset] [(.int (1 : Int32))])) _
      exact JF2 _ (Or.inr rfl)
  intro f2 hf2
  show own_G p e below (T220.setTop (mkF m 35 #[.val (.long q1), .second, .val (.long q2), .second, .val (.long q3), .second, .val (.long q4), .second, .val (.int p5), .val (.int p6), .val (.ref b215), .val (.int f1), .unset, .unset, .unset, .unset, .unset, .unset, .unset, .unset, .unset, .unset, .unset] [(.int f2)])) _
  refine own_go (fun _ k => XS.istore X220.here hx rfl (hb hby at_35) rfl (l' := #[.val (.long q1), .second, .val (.long q2), .second, .val (.long q3), .second, .val (.long q4), .second, .val (.int p5), .val (.int p6), .val (.ref b215), .val (.int f1), .val (.int f2), .unset, .unset, .unset, .unset, .unset, .unset, .unset, .unset, .unset, .unset]) rfl k) ?_
  show own_G p e below (T220.setTop (mkF m 37 #[.val (.long q1), .second, .val (.long q2), .second, .val (.long q3), .second, .val (.long q4), .second, .val (.int p5), .val (.int p6), .val (.ref b215), .val (.int f1), .val (.int f2), .unset, .unset, .unset, .unset, .unset, .unset, .unset, .unset, .unset, .unset] [])) _
  refine own_go (fun _ k => XS.iload X220.here hx rfl (hb hby at_37) rfl k) ?_
  show own_G p e below (T220.setTop (mkF m 39 #[.val (.long q1), .second, .val (.long q2), .second, .val (.long q3), .second, .val (.long q4), .second, .val (.int p5), .val (.int p6), .val (.ref b215), .val (.int f1), .val (.int f2), .unset, .unset, .unset, .unset, .unset, .unset, .unset, .unset, .unset, .unset] [(.int p6)])) _
  refine own_go (fun _ k => XS.iconst X220.here hx rfl (hb hby at_39) k) ?_
  show own_G p e below (T220.setTop (mkF m 40 #[.val (.long q1), .second, .val (.long q2), .second, .val (.long q3), .second, .val (.long q4), .second, .val (.int p5), .val (.int p6), .val (.ref b215), .val (.int f1), .val (.int f2), .unset, .unset, .unset, .unset, .unset, .unset, .unset, .unset, .unset, .unset] [(.int (4 : Int32)), (.int p6)])) _
  refine own_go (fun _ k => XS.iand X220.here hx rfl (hb hby at_40) rfl k) ?_
  show own_G p e below (T220.setTop (mkF m 41 #[.val (.long q1), .second, .val (.long q2), .second, .val (.long q3), .second, .val (.long q4), .second, .val (.int p5), .val (.int p6), .val (.ref b215), .val (.int f1), .val (.int f2), .unset, .unset, .unset, .unset, .unset, .unset, .unset, .unset, .unset, .unset] [(.int (p6 &&& (4 : Int32)))])) _
  suffices JF3 : ∀ (f3 : Int32) (_ : f3 = 0 ∨ f3 = 1), own_G p e below (T220.setTop (mkF m 49 #[.val (.long q1), .second, .val (.long q2), .second, .val (.long q3), .second, .val (.long q4), .second, .val (.int p5), .val (.int p6), .val (.ref b215), .val (.int f1), .val (.int f2), .unset, .unset, .unset, .unset, .unset, .unset, .unset, .unset, .unset, .unset] [(.int f3)])) (fun s₂ o => ∃ v L, o = .returned v ∧ Q0 Z q1 q2 q3 q4 p5 p6 h0 n0 v s₂.heap L ∧ FrameEnd s o s₂ L room_1.cells room_1.slots) by
    show own_G p e below (T220.setTop (mkF m 41 #[.val (.long q1), .second, .val (.long q2), .second, .val (.long q3), .second, .val (.long q4), .second, .val (.int p5), .val (.int p6), .val (.ref b215), .val (.int f1), .val (.int f2), .unset, .unset, .unset, .unset, .unset, .unset, .unset, .unset, .unset, .unset] [(.int (p6 &&& (4 : Int32)))])) _
    by_cases hc41_227 : (p6 &&& (4 : Int32)) = (0 : Int32)
    · refine own_go (fun _ k => XS.ifYes X220.here hx rfl (pc0 := 41) (pc' := 48) rfl (hb hby at_41) rfl ((if0 _ _).trans (teq hc41_227).1) (by decide) (by decide) k) ?_
      show own_G p e below (T220.setTop (mkF m 48 #[.val (.long q1), .second, .val (.long q2), .second, .val (.long q3), .second, .val (.long q4), .second, .val (.int p5), .val (.int p6), .val (.ref b215), .val (.int f1), .val (.int f2), .unset, .unset, .unset, .unset, .unset, .unset, .unset, .unset, .unset, .unset] [])) _
      refine own_go (fun _ k => XS.iconst X220.here hx rfl (hb hby at_48) k) ?_
      show own_G p e below (T220.setTop (mkF m 49 #[.val (.long q1), .second, .val (.long q2), .second, .val (.long q3), .second, .val (.long q4), .second, .val (.int p5), .val (.int p6), .val (.ref b215), .val (.int f1), .val (.int f2), .unset, .unset, .unset, .unset, .unset, .unset, .unset, .unset, .unset, .unset] [(.int (0 : Int32))])) _
      exact JF3 _ (Or.inl rfl)
    · refine own_go (fun _ k => XS.ifNo X220.here hx rfl (hb hby at_41) rfl ((if0 _ _).trans (feq hc41_227).1) k) ?_
      show own_G p e below (T220.setTop (mkF m 44 #[.val (.long q1), .second, .val (.long q2), .second, .val (.long q3), .second, .val (.long q4), .second, .val (.int p5), .val (.int p6), .val (.ref b215), .val (.int f1), .val (.int f2), .unset, .unset, .unset, .unset, .unset, .unset, .unset, .unset, .unset, .unset] [])) _
      refine own_go (fun _ k => XS.iconst X220.here hx rfl (hb hby at_44) k) ?_
      show own_G p e below (T220.setTop (mkF m 45 #[.val (.long q1), .second, .val (.long q2), .second, .val (.long q3), .second, .val (.long q4), .second, .val (.int p5), .val (.int p6), .val (.ref b215), .val (.int f1), .val (.int f2), .unset, .unset, .unset, .unset, .unset, .unset, .unset, .unset, .unset, .unset] [(.int (1 : Int32))])) _
      refine own_go (fun _ k => XS.goto X220.here hx rfl (pc0 := 45) (pc' := 49) rfl (hb hby at_45) (by decide) (by decide) k) ?_
      show own_G p e below (T220.setTop (mkF m 49 #[.val (.long q1), .second, .val (.long q2), .second, .val (.long q3), .second, .val (.long q4), .second, .val (.int p5), .val (.int p6), .val (.ref b215), .val (.int f1), .val (.int f2), .unset, .unset, .unset, .unset, .unset, .unset, .unset, .unset, .unset, .unset] [(.int (1 : Int32))])) _
      exact JF3 _ (Or.inr rfl)
  intro f3 hf3
  show own_G p e below (T220.setTop (mkF m 49 #[.val (.long q1), .second, .val (.long q2), .second, .val (.long q3), .second, .val (.long q4), .second, .val (.int p5), .val (.int p6), .val (.ref b215), .val (.int f1), .val (.int f2), .unset, .unset, .unset, .unset, .unset, .unset, .unset, .unset, .unset, .unset] [(.int f3)])) _
  refine own_go (fun _ k => XS.istore X220.here hx rfl (hb hby at_49) rfl (l' := #[.val (.long q1), .second, .val (.long q2), .second, .val (.long q3), .second, .val (.long q4), .second, .val (.int p5), .val (.int p6), .val (.ref b215), .val (.int f1), .val (.int f2), .val (.int f3), .unset, .unset, .unset, .unset, .unset, .unset, .unset, .unset, .unset]) rfl k) ?_
  show own_G p e below (T220.setTop (mkF m 51 #[.val (.long q1), .second, .val (.long q2), .second, .val (.long q3), .second, .val (.long q4), .second, .val (.int p5), .val (.int p6), .val (.ref b215), .val (.int f1), .val (.int f2), .val (.int f3), .unset, .unset, .unset, .unset, .unset, .unset, .unset, .unset, .unset] [])) _
  refine own_go (fun _ k => XS.iload X220.here hx rfl (hb hby at_51) rfl k) ?_
  show own_G p e below (T220.setTop (mkF m 53 #[.val (.long q1), .second, .val (.long q2), .second, .val (.long q3), .second, .val (.long q4), .second, .val (.int p5), .val (.int p6), .val (.ref b215), .val (.int f1), .val (.int f2), .val (.int f3), .unset, .unset, .unset, .unset, .unset, .unset, .unset, .unset, .unset] [(.int p6)])) _
  refine own_go (fun _ k => XS.bipush X220.here hx rfl (hb hby at_53) k) ?_
  show own_G p e below (T220.setTop (mkF m 55 #[.val (.long q1), .second, .val (.long q2), .second, .val (.long q3), .second, .val (.long q4), .second, .val (.int p5), .val (.int p6), .val (.ref b215), .val (.int f1), .val (.int f2), .val (.int f3), .unset, .unset, .unset, .unset, .unset, .unset, .unset, .unset, .unset] [(.int (8 : Int32)), (.int p6)])) _
  refine own_go (fun _ k => XS.iand X220.here hx rfl (hb hby at_55) rfl k) ?_
  show own_G p e below (T220.setTop (mkF m 56 #[.val (.long q1), .second, .val (.long q2), .second, .val (.long q3), .second, .val (.long q4), .second, .val (.int p5), .val (.int p6), .val (.ref b215), .val (.int f1), .val (.int f2), .val (.int f3), .unset, .unset, .unset, .unset, .unset, .unset, .unset, .unset, .unset] [(.int (p6 &&& (8 : Int32)))])) _
  suffices JF4 : ∀ (f4 : Int32) (_ : f4 = 0 ∨ f4 = 1), own_G p e below (T220.setTop (mkF m 64 #[.val (.long q1), .second, .val (.long q2), .second, .val (.long q3), .second, .val (.long q4), .second, .val (.int p5), .val (.int p6), .val (.ref b215), .val (.int f1), .val (.int f2), .val (.int f3), .unset, .unset, .unset, .unset, .unset, .unset, .unset, .unset, .unset] [(.int f4)])) (fun s₂ o => ∃ v L, o = .returned v ∧ Q0 Z q1 q2 q3 q4 p5 p6 h0 n0 v s₂.heap L ∧ FrameEnd s o s₂ L room_1.cells room_1.slots) by
    show own_G p e below (T220.setTop (mkF m 56 #[.val (.long q1), .second, .val (.long q2), .second, .val (.long q3), .second, .val (.long q4), .second, .val (.int p5), .val (.int p6), .val (.ref b215), .val (.int f1), .val (.int f2), .val (.int f3), .unset, .unset, .unset, .unset, .unset, .unset, .unset, .unset, .unset] [(.int (p6 &&& (8 : Int32)))])) _
    by_cases hc56_228 : (p6 &&& (8 : Int32)) = (0 : Int32)
    · refine own_go (fun _ k => XS.ifYes X220.here hx rfl (pc0 := 56) (pc' := 63) rfl (hb hby at_56) rfl ((if0 _ _).trans (teq hc56_228).1) (by decide) (by decide) k) ?_
      show own_G p e below (T220.setTop (mkF m 63 #[.val (.long q1), .second, .val (.long q2), .second, .val (.long q3), .second, .val (.long q4), .second, .val (.int p5), .val (.int p6), .val (.ref b215), .val (.int f1), .val (.int f2), .val (.int f3), .unset, .unset, .unset, .unset, .unset, .unset, .unset, .unset, .unset] [])) _
      refine own_go (fun _ k => XS.iconst X220.here hx rfl (hb hby at_63) k) ?_
      show own_G p e below (T220.setTop (mkF m 64 #[.val (.long q1), .second, .val (.long q2), .second, .val (.long q3), .second, .val (.long q4), .second, .val (.int p5), .val (.int p6), .val (.ref b215), .val (.int f1), .val (.int f2), .val (.int f3), .unset, .unset, .unset, .unset, .unset, .unset, .unset, .unset, .unset] [(.int (0 : Int32))])) _
      exact JF4 _ (Or.inl rfl)
    · refine own_go (fun _ k => XS.ifNo X220.here hx rfl (hb hby at_56) rfl ((if0 _ _).trans (feq hc56_228).1) k) ?_
      show own_G p e below (T220.setTop (mkF m 59 #[.val (.long q1), .second, .val (.long q2), .second, .val (.long q3), .second, .val (.long q4), .second, .val (.int p5), .val (.int p6), .val (.ref b215), .val (.int f1), .val (.int f2), .val (.int f3), .unset, .unset, .unset, .unset, .unset, .unset, .unset, .unset, .unset] [])) _
      refine own_go (fun _ k => XS.iconst X220.here hx rfl (hb hby at_59) k) ?_
      show own_G p e below (T220.setTop (mkF m 60 #[.val (.long q1), .second, .val (.long q2), .second, .val (.long q3), .second, .val (.long q4), .second, .val (.int p5), .val (.int p6), .val (.ref b215), .val (.int f1), .val (.int f2), .val (.int f3), .unset, .unset, .unset, .unset, .unset, .unset, .unset, .unset, .unset] [(.int (1 : Int32))])) _
      refine own_go (fun _ k => XS.goto X220.here hx rfl (pc0 := 60) (pc' := 64) rfl (hb hby at_60) (by decide) (by decide) k) ?_
      show own_G p e below (T220.setTop (mkF m 64 #[.val (.long q1), .second, .val (.long q2), .second, .val (.long q3), .second, .val (.long q4), .second, .val (.int p5), .val (.int p6), .val (.ref b215), .val (.int f1), .val (.int f2), .val (.int f3), .unset, .unset, .unset, .unset, .unset, .unset, .unset, .unset, .unset] [(.int (1 : Int32))])) _
      exact JF4 _ (Or.inr rfl)
  intro f4 hf4
  show own_G p e below (T220.setTop (mkF m 64 #[.val (.long q1), .second, .val (.long q2), .second, .val (.long q3), .second, .val (.long q4), .second, .val (.int p5), .val (.int p6), .val (.ref b215), .val (.int f1), .val (.int f2), .val (.int f3), .unset, .unset, .unset, .unset, .unset, .unset, .unset, .unset, .unset] [(.int f4)])) _
  refine own_go (fun _ k => XS.istore X220.here hx rfl (hb hby at_64) rfl (l' := #[.val (.long q1), .second, .val (.long q2), .second, .val (.long q3), .second, .val (.long q4), .second, .val (.int p5), .val (.int p6), .val (.ref b215), .val (.int f1), .val (.int f2), .val (.int f3), .val (.int f4), .unset, .unset, .unset, .unset, .unset, .unset, .unset, .unset]) rfl k) ?_
  show own_G p e below (T220.setTop (mkF m 66 #[.val (.long q1), .second, .val (.long q2), .second, .val (.long q3), .second, .val (.long q4), .second, .val (.int p5), .val (.int p6), .val (.ref b215), .val (.int f1), .val (.int f2), .val (.int f3), .val (.int f4), .unset, .unset, .unset, .unset, .unset, .unset, .unset, .unset] [])) _
  refine own_go (fun _ k => XS.iload X220.here hx rfl (hb hby at_66) rfl k) ?_
  show own_G p e below (T220.setTop (mkF m 68 #[.val (.long q1), .second, .val (.long q2), .second, .val (.long q3), .second, .val (.long q4), .second, .val (.int p5), .val (.int p6), .val (.ref b215), .val (.int f1), .val (.int f2), .val (.int f3), .val (.int f4), .unset, .unset, .unset, .unset, .unset, .unset, .unset, .unset] [(.int p6)])) _
  refine own_go (fun _ k => XS.bipush X220.here hx rfl (hb hby at_68) k) ?_
  show own_G p e below (T220.setTop (mkF m 70 #[.val (.long q1), .second, .val (.long q2), .second, .val (.long q3), .second, .val (.long q4), .second, .val (.int p5), .val (.int p6), .val (.ref b215), .val (.int f1), .val (.int f2), .val (.int f3), .val (.int f4), .unset, .unset, .unset, .unset, .unset, .unset, .unset, .unset] [(.int (16 : Int32)), (.int p6)])) _
  refine own_go (fun _ k => XS.iand X220.here hx rfl (hb hby at_70) rfl k) ?_
  show own_G p e below (T220.setTop (mkF m 71 #[.val (.long q1), .second, .val (.long q2), .second, .val (.long q3), .second, .val (.long q4), .second, .val (.int p5), .val (.int p6), .val (.ref b215), .val (.int f1), .val (.int f2), .val (.int f3), .val (.int f4), .unset, .unset, .unset, .unset, .unset, .unset, .unset, .unset] [(.int (p6 &&& (16 : Int32)))])) _
  suffices JF5 : ∀ (f5 : Int32) (_ : f5 = 0 ∨ f5 = 1), own_G p e below (T220.setTop (mkF m 79 #[.val (.long q1), .second, .val (.long q2), .second, .val (.long q3), .second, .val (.long q4), .second, .val (.int p5), .val (.int p6), .val (.ref b215), .val (.int f1), .val (.int f2), .val (.int f3), .val (.int f4), .unset, .unset, .unset, .unset, .unset, .unset, .unset, .unset] [(.int f5)])) (fun s₂ o => ∃ v L, o = .returned v ∧ Q0 Z q1 q2 q3 q4 p5 p6 h0 n0 v s₂.heap L ∧ FrameEnd s o s₂ L room_1.cells room_1.slots) by
    show own_G p e below (T220.setTop (mkF m 71 #[.val (.long q1), .second, .val (.long q2), .second, .val (.long q3), .second, .val (.long q4), .second, .val (.int p5), .val (.int p6), .val (.ref b215), .val (.int f1), .val (.int f2), .val (.int f3), .val (.int f4), .unset, .unset, .unset, .unset, .unset, .unset, .unset, .unset] [(.int (p6 &&& (16 : Int32)))])) _
    by_cases hc71_229 : (p6 &&& (16 : Int32)) = (0 : Int32)
    · refine own_go (fun _ k => XS.ifYes X220.here hx rfl (pc0 := 71) (pc' := 78) rfl (hb hby at_71) rfl ((if0 _ _).trans (teq hc71_229).1) (by decide) (by decide) k) ?_
      show own_G p e below (T220.setTop (mkF m 78 #[.val (.long q1), .second, .val (.long q2), .second, .val (.long q3), .second, .val (.long q4), .second, .val (.int p5), .val (.int p6), .val (.ref b215), .val (.int f1), .val (.int f2), .val (.int f3), .val (.int f4), .unset, .unset, .unset, .unset, .unset, .unset, .unset, .unset] [])) _
      refine own_go (fun _ k => XS.iconst X220.here hx rfl (hb hby at_78) k) ?_
      show own_G p e below (T220.setTop (mkF m 79 #[.val (.long q1), .second, .val (.long q2), .second, .val (.long q3), .second, .val (.long q4), .second, .val (.int p5), .val (.int p6), .val (.ref b215), .val (.int f1), .val (.int f2), .val (.int f3), .val (.int f4), .unset, .unset, .unset, .unset, .unset, .unset, .unset, .unset] [(.int (0 : Int32))])) _
      exact JF5 _ (Or.inl rfl)
    · refine own_go (fun _ k => XS.ifNo X220.here hx rfl (hb hby at_71) rfl ((if0 _ _).trans (feq hc71_229).1) k) ?_
      show own_G p e below (T220.setTop (mkF m 74 #[.val (.long q1), .second, .val (.long q2), .second, .val (.long q3), .second, .val (.long q4), .second, .val (.int p5), .val (.int p6), .val (.ref b215), .val (.int f1), .val (.int f2), .val (.int f3), .val (.int f4), .unset, .unset, .unset, .unset, .unset, .unset, .unset, .unset] [])) _
      refine own_go (fun _ k => XS.iconst X220.here hx rfl (hb hby at_74) k) ?_
      show own_G p e below (T220.setTop (mkF m 75 #[.val (.long q1), .second, .val (.long q2), .second, .val (.long q3), .second, .val (.long q4), .second, .val (.int p5), .val (.int p6), .val (.ref b215), .val (.int f1), .val (.int f2), .val (.int f3), .val (.int f4), .unset, .unset, .unset, .unset, .unset, .unset, .unset, .unset] [(.int (1 : Int32))])) _
      refine own_go (fun _ k => XS.goto X220.here hx rfl (pc0 := 75) (pc' := 79) rfl (hb hby at_75) (by decide) (by decide) k) ?_
      show own_G p e below (T220.setTop (mkF m 79 #[.val (.long q1), .second, .val (.long q2), .second, .val (.long q3), .second, .val (.long q4), .second, .val (.int p5), .val (.int p6), .val (.ref b215), .val (.int f1), .val (.int f2), .val (.int f3), .val (.int f4), .unset, .unset, .unset, .unset, .unset, .unset, .unset, .unset] [(.int (1 : Int32))])) _
      exact JF5 _ (Or.inr rfl)
  intro f5 hf5
  show own_G p e below (T220.setTop (mkF m 79 #[.val (.long q1), .second, .val (.long q2), .second, .val (.long q3), .second, .val (.long q4), .second, .val (.int p5), .val (.int p6), .val (.ref b215), .val (.int f1), .val (.int f2), .val (.int f3), .val (.int f4), .unset, .unset, .unset, .unset, .unset, .unset, .unset, .unset] [(.int f5)])) _
  refine own_go (fun _ k => XS.istore X220.here hx rfl (hb hby at_79) rfl (l' := #[.val (.long q1), .second, .val (.long q2), .second, .val (.long q3), .second, .val (.long q4), .second, .val (.int p5), .val (.int p6), .val (.ref b215), .val (.int f1), .val (.int f2), .val (.int f3), .val (.int f4), .val (.int f5), .unset, .unset, .unset, .unset, .unset, .unset, .unset]) rfl k) ?_
  show own_G p e below (T220.setTop (mkF m 81 #[.val (.long q1), .second, .val (.long q2), .second, .val (.long q3), .second, .val (.long q4), .second, .val (.int p5), .val (.int p6), .val (.ref b215), .val (.int f1), .val (.int f2), .val (.int f3), .val (.int f4), .val (.int f5), .unset, .unset, .unset, .unset, .unset, .unset, .unset] [])) _
  refine own_go (fun _ k => XS.iload X220.here hx rfl (hb hby at_81) rfl k) ?_
  show own_G p e below (T220.setTop (mkF m 83 #[.val (.long q1), .second, .val (.long q2), .second, .val (.long q3), .second, .val (.long q4), .second, .val (.int p5), .val (.int p6), .val (.ref b215), .val (.int f1), .val (.int f2), .val (.int f3), .val (.int f4), .val (.int f5), .unset, .unset, .unset, .unset, .unset, .unset, .unset] [(.int p6)])) _
  refine own_go (fun _ k => XS.bipush X220.here hx rfl (hb hby at_83) k) ?_
  show own_G p e below (T220.setTop (mkF m 85 #[.val (.long q1), .second, .val (.long q2), .second, .val (.long q3), .second, .val (.long q4), .second, .val (.int p5), .val (.int p6), .val (.ref b215), .val (.int f1), .val (.int f2), .val (.int f3), .val (.int f4), .val (.int f5), .unset, .unset, .unset, .unset, .unset, .unset, .unset] [(.int (32 : Int32)), (.int p6)])) _
  refine own_go (fun _ k => XS.iand X220.here hx rfl (hb hby at_85) rfl k) ?_
  show own_G p e below (T220.setTop (mkF m 86 #[.val (.long q1), .second, .val (.long q2), .second, .val (.long q3), .second, .val (.long q4), .second, .val (.int p5), .val (.int p6), .val (.ref b215), .val (.int f1), .val (.int f2), .val (.int f3), .val (.int f4), .val (.int f5), .unset, .unset, .unset, .unset, .unset, .unset, .unset] [(.int (p6 &&& (32 : Int32)))])) _
  suffices JF6 : ∀ (f6 : Int32) (_ : f6 = 0 ∨ f6 = 1), own_G p e below (T220.setTop (mkF m 94 #[.val (.long q1), .second, .val (.long q2), .second, .val (.long q3), .second, .val (.long q4), .second, .val (.int p5), .val (.int p6), .val (.ref b215), .val (.int f1), .val (.int f2), .val (.int f3), .val (.int f4), .val (.int f5), .unset, .unset, .unset, .unset, .unset, .unset, .unset] [(.int f6)])) (fun s₂ o => ∃ v L, o = .returned v ∧ Q0 Z q1 q2 q3 q4 p5 p6 h0 n0 v s₂.heap L ∧ FrameEnd s o s₂ L room_1.cells room_1.slots) by
    show own_G p e below (T220.setTop (mkF m 86 #[.val (.long q1), .second, .val (.long q2), .second, .val (.long q3), .second, .val (.long q4), .second, .val (.int p5), .val (.int p6), .val (.ref b215), .val (.int f1), .val (.int f2), .val (.int f3), .val (.int f4), .val (.int f5), .unset, .unset, .unset, .unset, .unset, .unset, .unset] [(.int (p6 &&& (32 : Int32)))])) _
    by_cases hc86_230 : (p6 &&& (32 : Int32)) = (0 : Int32)
    · refine own_go (fun _ k => XS.ifYes X220.here hx rfl (pc0 := 86) (pc' := 93) rfl (hb hby at_86) rfl ((if0 _ _).trans (teq hc86_230).1) (by decide) (by decide) k) ?_
      show own_G p e below (T220.setTop (mkF m 93 #[.val (.long q1), .second, .val (.long q2), .second, .val (.long q3), .second, .val (.long q4), .second, .val (.int p5), .val (.int p6), .val (.ref b215), .val (.int f1), .val (.int f2), .val (.int f3), .val (.int f4), .val (.int f5), .unset, .unset, .unset, .unset, .unset, .unset, .unset] [])) _
      refine own_go (fun _ k => XS.iconst X220.here hx rfl (hb hby at_93) k) ?_
      show own_G p e below (T220.setTop (mkF m 94 #[.val (.long q1), .second, .val (.long q2), .second, .val (.long q3), .second, .val (.long q4), .second, .val (.int p5), .val (.int p6), .val (.ref b215), .val (.int f1), .val (.int f2), .val (.int f3), .val (.int f4), .val (.int f5), .unset, .unset, .unset, .unset, .unset, .unset, .unset] [(.int (0 : Int32))])) _
      exact JF6 _ (Or.inl rfl)
    · refine own_go (fun _ k => XS.ifNo X220.here hx rfl (hb hby at_86) rfl ((if0 _ _).trans (feq hc86_230).1) k) ?_
      show own_G p e below (T220.setTop (mkF m 89 #[.val (.long q1), .second, .val (.long q2), .second, .val (.long q3), .second, .val (.long q4), .second, .val (.int p5), .val (.int p6), .val (.ref b215), .val (.int f1), .val (.int f2), .val (.int f3), .val (.int f4), .val (.int f5), .unset, .unset, .unset, .unset, .unset, .unset, .unset] [])) _
      refine own_go (fun _ k => XS.iconst X220.here hx rfl (hb hby at_89) k) ?_
      show own_G p e below (T220.setTop (mkF m 90 #[.val (.long q1), .second, .val (.long q2), .second, .val (.long q3), .second, .val (.long q4), .second, .val (.int p5), .val (.int p6), .val (.ref b215), .val (.int f1), .val (.int f2), .val (.int f3), .val (.int f4), .val (.int f5), .unset, .unset, .unset, .unset, .unset, .unset, .unset] [(.int (1 : Int32))])) _
      refine own_go (fun _ k => XS.goto X220.here hx rfl (pc0 := 90) (pc' := 94) rfl (hb hby at_90) (by decide) (by decide) k) ?_
      show own_G p e below (T220.setTop (mkF m 94 #[.val (.long q1), .second, .val (.long q2), .second, .val (.long q3), .second, .val (.long q4), .second, .val (.int p5), .val (.int p6), .val (.ref b215), .val (.int f1), .val (.int f2), .val (.int f3), .val (.int f4), .val (.int f5), .unset, .unset, .unset, .unset, .unset, .unset, .unset] [(.int (1 : Int32))])) _
      exact JF6 _ (Or.inr rfl)
  intro f6 hf6
  show own_G p e below (T220.setTop (mkF m 94 #[.val (.long q1), .second, .val (.long q2), .second, .val (.long q3), .second, .val (.long q4), .second, .val (.int p5), .val (.int p6), .val (.ref b215), .val (.int f1), .val (.int f2), .val (.int f3), .val (.int f4), .val (.int f5), .unset, .unset, .unset, .unset, .unset, .unset, .unset] [(.int f6)])) _
  refine own_go (fun _ k => XS.istore X220.here hx rfl (hb hby at_94) rfl (l' := #[.val (.long q1), .second, .val (.long q2), .second, .val (.long q3), .second, .val (.long q4), .second, .val (.int p5), .val (.int p6), .val (.ref b215), .val (.int f1), .val (.int f2), .val (.int f3), .val (.int f4), .val (.int f5), .val (.int f6), .unset, .unset, .unset, .unset, .unset, .unset]) rfl k) ?_
  show own_G p e below (T220.setTop (mkF m 96 #[.val (.long q1), .second, .val (.long q2), .second, .val (.long q3), .second, .val (.long q4), .second, .val (.int p5), .val (.int p6), .val (.ref b215), .val (.int f1), .val (.int f2), .val (.int f3), .val (.int f4), .val (.int f5), .val (.int f6), .unset, .unset, .unset, .unset, .unset, .unset] [])) _
  refine own_go (fun _ k => XS.iload X220.here hx rfl (hb hby at_96) rfl k) ?_
  obtain ⟨c0, hc0, hk0⟩ : ∃ c, ([] : List Value).length = 8 * c ∧ c ≤ 0 := ⟨0, rfl, Nat.le_refl _⟩
  show own_G p e below (T220.setTop (mkF m 98 #[.val (.long q1), .second, .val (.long q2), .second, .val (.long q3), .second, .val (.long q4), .second, .val (.int p5), .val (.int p6), .val (.ref b215), .val (.int f1), .val (.int f2), .val (.int f3), .val (.int f4), .val (.int f5), .val (.int f6), .unset, .unset, .unset, .unset, .unset, .unset] [(.int f1)])) _
  suffices JW1 : ∀ (T' : State) (L' : List Loc) (u' : List Value) (_ : Stand p l e room_1 s m #[(.long q1), (.long q2), (.long q3), (.long q4), (.int p5), (.int p6)] below meth c T' L' 2 34) (_ : Fr n0 L') (_ : n0 ≤ T'.heap.size) (_ : Exa Z T'.heap b215 "com/example/orbweave/orbweave/ByteWriter") (_ : Fld Z T'.heap b215 "com/example/orbweave/orbweave/ByteWriter" "_bytes" "[B" (.ref b220)) (_ : Fld Z T'.heap b215 "com/example/orbweave/orbweave/ByteWriter" "_length" "I" (.int (Int32.ofNat u'.length))) (_ : Exa Z T'.heap b220 "[B") (_ : Arv Z T'.heap b220 k220q .byte (32 : Int32) u' (.int (0 : Int32))) (_ : u' = (([] : List Value) ++ own_opt f1 (own_lb q1))) (_ : ∃ c, u'.length = 8 * c ∧ c ≤ 1), own_G p e below (T'.setTop (mkF m 108 #[.val (.long q1), .second, .val (.long q2), .second, .val (.long q3), .second, .val (.long q4), .second, .val (.int p5), .val (.int p6), .val (.ref b215), .val (.int f1), .val (.int f2), .val (.int f3), .val (.int f4), .val (.int f5), .val (.int f6), .unset, .unset, .unset, .unset, .unset, .unset] [])) (fun s₂ o => ∃ v L, o = .returned v ∧ Q0 Z q1 q2 q3 q4 p5 p6 h0 n0 v s₂.heap L ∧ FrameEnd s o s₂ L room_1.cells room_1.slots) by
    show own_G p e below (T220.setTop (mkF m 98 #[.val (.long q1), .second, .val (.long q2), .second, .val (.long q3), .second, .val (.long q4), .second, .val (.int p5), .val (.int p6), .val (.ref b215), .val (.int f1), .val (.int f2), .val (.int f3), .val (.int f4), .val (.int f5), .val (.int f6), .unset, .unset, .unset, .unset, .unset, .unset] [(.int f1)])) _
    by_cases hc98_231 : f1 = (0 : Int32)
    · refine own_go (fun _ k => XS.ifYes X220.here hx rfl (pc0 := 98) (pc' := 108) rfl (hb hby at_98) rfl ((if0 _ _).trans (teq hc98_231).1) (by decide) (by decide) k) ?_
      show own_G p e below (T220.setTop (mkF m 108 #[.val (.long q1), .second, .val (.long q2), .second, .val (.long q3), .second, .val (.long q4), .second, .val (.int p5), .val (.int p6), .val (.ref b215), .val (.int f1), .val (.int f2), .val (.int f3), .val (.int f4), .val (.int f5), .val (.int f6), .unset, .unset, .unset, .unset, .unset, .unset] [])) _
      exact JW1 T220 _ _ X220 N220 zs224 Eo220 Fb220 Fl220 Eb220 Vq220 (by rw [own_opt_no hc98_231, List.append_nil]) ⟨c0, hc0, by omega⟩
    · refine own_go (fun _ k => XS.ifNo X220.here hx rfl (hb hby at_98) rfl ((if0 _ _).trans (feq hc98_231).1) k) ?_
      show own_G p e below (T220.setTop (mkF m 101 #[.val (.long q1), .second, .val (.long q2), .second, .val (.long q3), .second, .val (.long q4), .second, .val (.int p5), .val (.int p6), .val (.ref b215), .val (.int f1), .val (.int f2), .val (.int f3), .val (.int f4), .val (.int f5), .val (.int f6), .unset, .unset, .unset, .unset, .unset, .unset] [])) _
      refine own_go (fun _ k => XS.aload X220.here hx rfl (hb hby at_101) rfl rfl k) ?_
      show own_G p e below (T220.setTop (mkF m 103 #[.val (.long q1), .second, .val (.long q2), .second, .val (.long q3), .second, .val (.long q4), .second, .val (.int p5), .val (.int p6), .val (.ref b215), .val (.int f1), .val (.int f2), .val (.int f3), .val (.int f4), .val (.int f5), .val (.int f6), .unset, .unset, .unset, .unset, .unset, .unset] [(.ref b215)])) _
      refine own_go (fun _ k => XS.lloadN X220.here hx rfl (hb hby at_103) rfl k) ?_
      show own_G p e below (T220.setTop (mkF m 104 #[.val (.long q1), .second, .val (.long q2), .second, .val (.long q3), .second, .val (.long q4), .second, .val (.int p5), .val (.int p6), .val (.ref b215), .val (.int f1), .val (.int f2), .val (.int f3), .val (.int f4), .val (.int f5), .val (.int f6), .unset, .unset, .unset, .unset, .unset, .unset] [(.long q1), (.ref b215)])) _
      obtain ⟨cq232, kq232, q232a, q232b, q232c⟩ := isOf hZ rfl Eo220
      obtain ⟨_, _, ⟨T232, L232, k232, n232⟩, -, X232, ⟨Lc232, hQ232, l232, y232, z232⟩, st232⟩ := X220.virtualBack hx (y := (⟨"com/example/orbweave/orbweave/ByteWriter", "writeLong", "(J)Lcom/example/orbweave/orbweave/ByteWriter;"⟩ : MethodName)) (z := (⟨"com/example/orbweave/orbweave/ByteWriter", "writeLong", "(J)Lcom/example/orbweave/orbweave/ByteWriter;"⟩ : MethodName)) hown (mvT hZ (hw _ (List.mem_of_getElem? (i := 40) rfl))) (mvT hZ (hw _ (List.mem_of_getElem? (i := 41) rfl))) (notFace_of_selects (args := #[]) (mvT hZ (hw _ (List.mem_of_getElem? (i := 43) rfl)))) (mvT hZ (hw _ (List.mem_of_getElem? (i := 43) rfl))) (mvT hZ (hw _ (List.mem_of_getElem? (i := 42) rfl))) (by decide) (backOf (W := 0) (rm8_0 l Z a0 hw [] b215 q1 b220 k220q (32 : Int32) ([] : List Value) T220.heap n0 zs224 Eo220 Fb220 Fl220 ge216 Vq220 Eb220 ge222 (by rw [show ((32 : Int32)).toNatClampNeg = 32 from by decide]; omega) (by decide)) hZ (hw _ (List.mem_of_getElem? (i := 44) rfl)) (hw _ (List.mem_of_getElem? (i := 2) rfl)) (by decide) (by decide)) q232a q232c (g := (mkF m 104 #[.val (.long q1), .second, .val (.long q2), .second, .val (.long q3), .second, .val (.long q4), .second, .val (.int p5), .val (.int p6), .val (.ref b215), .val (.int f1), .val (.int f2), .val (.int f3), .val (.int f4), .val (.int f5), .val (.int f6), .unset, .unset, .unset, .unset, .unset, .unset] [(.long q1), (.ref b215)])) rfl (by rw [hml]; rfl) (Steps.refl _) (argsL := [(.long q1)]) (rest := []) (lenOf pd_6 rfl) rfl (by show 2 * 0 + _ ≤ _; exact Nat.le_of_eq rfl) (hb hby at_104) (fun _ _ => ⟨rfl, rfl, (by decide : 0 + 1 + 1 + 0 ≤ _), (by decide : 0 + 2 + 32 + 0 ≤ _)⟩)
      dsimp only [Pt.U, Pt.locs, Pt.cells, Pt.slots] at X232 l232 y232 z232 st232 hQ232
      subst l232 y232 z232
      obtain ⟨rfl, Nq232, K232, Eo232, Fb232, Fl232, Eb232, Vq232⟩ := hQ232
      have N232 := Fr.app N220 Nq232
      refine own_go (fun _ k => st232.trans k) ?_
      have f233 := Eo220.keep K232
      have f234 := Eb220.keep K232
      have zs235 : n0 ≤ T232.heap.size := Nat.le_trans zs224 K232.1
      show own_G p e below (T232.setTop (mkF m 107 #[.val (.long q1), .second, .val (.long q2), .second, .val (.long q3), .second, .val (.long q4), .second, .val (.int p5), .val (.int p6), .val (.ref b215), .val (.int f1), .val (.int f2), .val (.int f3), .val (.int f4), .val (.int f5), .val (.int f6), .unset, .unset, .unset, .unset, .unset, .unset] [(.ref b215)])) _
      refine own_go (fun _ k => XS.pop X232.here hx rfl (hb hby at_107) rfl rfl k) ?_
      show own_G p e below (T232.setTop (mkF m 108 #[.val (.long q1), .second, .val (.long q2), .second, .val (.long q3), .second, .val (.long q4), .second, .val (.int p5), .val (.int p6), .val (.ref b215), .val (.int f1), .val (.int f2), .val (.int f3), .val (.int f4), .val (.int f5), .val (.int f6), .unset, .unset, .unset, .unset, .unset, .unset] [])) _
      exact JW1 T232 _ _ X232 N232 zs235 Eo232 Fb232 Fl232 Eb232 Vq232 (by rw [own_opt_yes hc98_231]) ⟨c0 + 1, by simp only [List.length_append, List.length_cons, List.length_nil, own_len_sb, own_len_ib, own_len_lb]; omega, by omega⟩
  intro TJ1 LJ1 u1 XJ1 NJ1 zJ1 EJ1 FbJ1 FlJ1 EbJ1 VJ1 hu1 hl1
  obtain ⟨c1, hc1, hk1⟩ := hl1
  show own_G p e below (TJ1.setTop (mkF m 108 #[.val (.long q1), .second, .val (.long q2), .second, .val (.long q3), .second, .val (.long q4), .second, .val (.int p5), .val (.int p6), .val (.ref b215), .val (.int f1), .val (.int f2), .val (.int f3), .val (.int f4), .val (.int f5), .val (.int f6), .unset, .unset, .unset, .unset, .unset, .unset] [])) _
  refine own_go (fun _ k => XS.iload XJ1.here hx rfl (hb hby at_108) rfl k) ?_
  show own_G p e below (TJ1.setTop (mkF m 110 #[.val (.long q1), .second, .val (.long q2), .second, .val (.long q3), .second, .val (.long q4), .second, .val (.int p5), .val (.int p6), .val (.ref b215), .val (.int f1), .val (.int f2), .val (.int f3), .val (.int f4), .val (.int f5), .val (.int f6), .unset, .unset, .unset, .unset, .unset, .unset] [(.int f2)])) _
  suffices JW2 : ∀ (T' : State) (L' : List Loc) (u' : List Value) (_ : Stand p l e room_1 s m #[(.long q1), (.long q2), (.long q3), (.long q4), (.int p5), (.int p6)] below meth c T' L' 2 34) (_ : Fr n0 L') (_ : n0 ≤ T'.heap.size) (_ : Exa Z T'.heap b215 "com/example/orbweave/orbweave/ByteWriter") (_ : Fld Z T'.heap b215 "com/example/orbweave/orbweave/ByteWriter" "_bytes" "[B" (.ref b220)) (_ : Fld Z T'.heap b215 "com/example/orbweave/orbweave/ByteWriter" "_length" "I" (.int (Int32.ofNat u'.length))) (_ : Exa Z T'.heap b220 "[B") (_ : Arv Z T'.heap b220 k220q .byte (32 : Int32) u' (.int (0 : Int32))) (_ : u' = (u1 ++ own_opt f2 (own_lb q2))) (_ : ∃ c, u'.length = 8 * c ∧ c ≤ 2), own_G p e below (T'.setTop (mkF m 120 #[.val (.long q1), .second, .val (.long q2), .second, .val (.long q3), .second, .val (.long q4), .second, .val (.int p5), .val (.int p6), .val (.ref b215), .val (.int f1), .val (.int f2), .val (.int f3), .val (.int f4), .val (.int f5), .val (.int f6), .unset, .unset, .unset, .unset, .unset, .unset] [])) (fun s₂ o => ∃ v L, o = .returned v ∧ Q0 Z q1 q2 q3 q4 p5 p6 h0 n0 v s₂.heap L ∧ FrameEnd s o s₂ L room_1.cells room_1.slots) by
    show own_G p e below (TJ1.setTop (mkF m 110 #[.val (.long q1), .second, .val (.long q2), .second, .val (.long q3), .second, .val (.long q4), .second, .val (.int p5), .val (.int p6), .val (.ref b215), .val (.int f1), .val (.int f2), .val (.int f3), .val (.int f4), .val (.int f5), .val (.int f6), .unset, .unset, .unset, .unset, .unset, .unset] [(.int f2)])) _
    by_cases hc110_236 : f2 = (0 : Int32)
    · refine own_go (fun _ k => XS.ifYes XJ1.here hx rfl (pc0 := 110) (pc' := 120) rfl (hb hby at_110) rfl ((if0 _ _).trans (teq hc110_236).1) (by decide) (by decide) k) ?_
      show own_G p e below (TJ1.setTop (mkF m 120 #[.val (.long q1), .second, .val (.long q2), .second, .val (.long q3), .second, .val (.long q4), .second, .val (.int p5), .val (.int p6), .val (.ref b215), .val (.int f1), .val (.int f2), .val (.int f3), .val (.int f4), .val (.int f5), .val (.int f6), .unset, .unset, .unset, .unset, .unset, .unset] [])) _
      exact JW2 TJ1 _ _ XJ1 NJ1 zJ1 EJ1 FbJ1 FlJ1 EbJ1 VJ1 (by rw [own_opt_no hc110_236, List.append_nil]) ⟨c1, hc1, by omega⟩
    · refine own_go (fun _ k => XS.ifNo XJ1.here hx rfl (hb hby at_110) rfl ((if0 _ _).trans (feq hc110_236).1) k) ?_
      show own_G p e below (TJ1.setTop (mkF m 113 #[.val (.long q1), .second, .val (.long q2), .second, .val (.long q3), .second, .val (.long q4), .second, .val (.int p5), .val (.int p6), .val (.ref b215), .val (.int f1), .val (.int f2), .val (.int f3), .val (.int f4), .val (.int f5), .val (.int f6), .unset, .unset, .unset, .unset, .unset, .unset] [])) _
      refine own_go (fun _ k => XS.aload XJ1.here hx rfl (hb hby at_113) rfl rfl k) ?_
      show own_G p e below (TJ1.setTop (mkF m 115 #[.val (.long q1), .second, .val (.long q2), .second, .val (.long q3), .second, .val (.long q4), .second, .val (.int p5), .val (.int p6), .val (.ref b215), .val (.int f1), .val (.int f2), .val (.int f3), .val (.int f4), .val (.int f5), .val (.int f6), .unset, .unset, .unset, .unset, .unset, .unset] [(.ref b215)])) _
      refine own_go (fun _ k => XS.lloadN XJ1.here hx rfl (hb hby at_115) rfl k) ?_
      show own_G p e below (TJ1.setTop (mkF m 116 #[.val (.long q1), .second, .val (.long q2), .second, .val (.long q3), .second, .val (.long q4), .second, .val (.int p5), .val (.int p6), .val (.ref b215), .val (.int f1), .val (.int f2), .val (.int f3), .val (.int f4), .val (.int f5), .val (.int f6), .unset, .unset, .unset, .unset, .unset, .unset] [(.long q2), (.ref b215)])) _
      obtain ⟨cq237, kq237, q237a, q237b, q237c⟩ := isOf hZ rfl EJ1
      obtain ⟨_, _, ⟨T237, L237, k237, n237⟩, -, X237, ⟨Lc237, hQ237, l237, y237, z237⟩, st237⟩ := XJ1.virtualBack hx (y := (⟨"com/example/orbweave/orbweave/ByteWriter", "writeLong", "(J)Lcom/example/orbweave/orbweave/ByteWriter;"⟩ : MethodName)) (z := (⟨"com/example/orbweave/orbweave/ByteWriter", "writeLong", "(J)Lcom/example/orbweave/orbweave/ByteWriter;"⟩ : MethodName)) hown (mvT hZ (hw _ (List.mem_of_getElem? (i := 40) rfl))) (mvT hZ (hw _ (List.mem_of_getElem? (i := 41) rfl))) (notFace_of_selects (args := #[]) (mvT hZ (hw _ (List.mem_of_getElem? (i := 43) rfl)))) (mvT hZ (hw _ (List.mem_of_getElem? (i := 43) rfl))) (mvT hZ (hw _ (List.mem_of_getElem? (i := 42) rfl))) (by decide) (backOf (W := 0) (rm8_0 l Z a0 hw [] b215 q2 b220 k220q (32 : Int32) u1 TJ1.heap n0 zJ1 EJ1 FbJ1 FlJ1 ge216 VJ1 EbJ1 ge222 (by rw [show ((32 : Int32)).toNatClampNeg = 32 from by decide]; omega) (by decide)) hZ (hw _ (List.mem_of_getElem? (i := 44) rfl)) (hw _ (List.mem_of_getElem? (i := 2) rfl)) (by decide) (by decide)) q237a q237c (g := (mkF m 116 #[.val (.long q1), .second, .val (.long q2), .second, .val (.long q3), .second, .val (.long q4), .second, .val (.int p5), .val (.int p6), .val (.ref b215), .val (.int f1), .val (.int f2), .val (.int f3), .val (.int f4), .val (.int f5), .val (.int f6), .unset, .unset, .unset, .unset, .unset, .unset] [(.long q2), (.ref b215)])) rfl (by rw [hml]; rfl) (Steps.refl _) (argsL := [(.long q2)]) (rest := []) (lenOf pd_6 rfl) rfl (by show 2 * 0 + _ ≤ _; exact Nat.le_of_eq rfl) (hb hby at_116) (fun _ _ => ⟨rfl, rfl, (by decide : 2 + 0 ≤ _), (by decide : 34 + 0 ≤ _)⟩)
      dsimp only [Pt.U, Pt.locs, Pt.cells, Pt.slots] at X237 l237 y237 z237 st237 hQ237
      subst l237 y237 z237
      obtain ⟨rfl, Nq237, K237, Eo237, Fb237, Fl237, Eb237, Vq237⟩ := hQ237
      have N237 := Fr.app NJ1 Nq237
      refine own_go (fun _ k => st237.trans k) ?_
      have f238 := EJ1.keep K237
      have f239 := EbJ1.keep K237
      have zs240 : n0 ≤ T237.heap.size := Nat.le_trans zJ1 K237.1
      show own_G p e below (T237.setTop (mkF m 119 #[.val (.long q1), .second, .val (.long q2), .second, .val (.long q3), .second, .val (.long q4), .second, .val (.int p5), .val (.int p6), .val (.ref b215), .val (.int f1), .val (.int f2), .val (.int f3), .val (.int f4), .val (.int f5), .val (.int f6), .unset, .unset, .unset, .unset, .unset, .unset] [(.ref b215)])) _
      refine own_go (fun _ k => XS.pop X237.here hx rfl (hb hby at_119) rfl rfl k) ?_
      show own_G p e below (T237.setTop (mkF m 120 #[.val (.long q1), .second, .val (.long q2), .second, .val (.long q3), .second, .val (.long q4), .second, .val (.int p5), .val (.int p6), .val (.ref b215), .val (.int f1), .val (.int f2), .val (.int f3), .val (.int f4), .val (.int f5), .val (.int f6), .unset, .unset, .unset, .unset, .unset, .unset] [])) _
      exact JW2 T237 _ _ X237 N237 zs240 Eo237 Fb237 Fl237 Eb237 Vq237 (by rw [own_opt_yes hc110_236]) ⟨c1 + 1, by simp only [List.length_append, List.length_cons, List.length_nil, own_len_sb, own_len_ib, own_len_lb]; omega, by omega⟩
  intro TJ2 LJ2 u2 XJ2 NJ2 zJ2 EJ2 FbJ2 FlJ2 EbJ2 VJ2 hu2 hl2
  obtain ⟨c2, hc2, hk2⟩ := hl2
  show own_G p e below (TJ2.setTop (mkF m 120 #[.val (.long q1), .second, .val (.long q2), .second, .val (.long q3), .second, .val (.long q4), .second, .val (.int p5), .val (.int p6), .val (.ref b215), .val (.int f1), .val (.int f2), .val (.int f3), .val (.int f4), .val (.int f5), .val (.int f6), .unset, .unset, .unset, .unset, .unset, .unset] [])) _
  refine own_go (fun _ k => XS.iload XJ2.here hx rfl (hb hby at_120) rfl k) ?_
  show own_G p e below (TJ2.setTop (mkF m 122 #[.val (.long q1), .second, .val (.long q2), .second, .val (.long q3), .second, .val (.long q4), .second, .val (.int p5), .val (.int p6), .val (.ref b215), .val (.int f1), .val (.int f2), .val (.int f3), .val (.int f4), .val (.int f5), .val (.int f6), .unset, .unset, .unset, .unset, .unset, .unset] [(.int f3)])) _
  suffices JW3 : ∀ (T' : State) (L' : List Loc) (u' : List Value) (_ : Stand p l e room_1 s m #[(.long q1), (.long q2), (.long q3), (.long q4), (.int p5), (.int p6)] below meth c T' L' 2 34) (_ : Fr n0 L') (_ : n0 ≤ T'.heap.size) (_ : Exa Z T'.heap b215 "com/example/orbweave/orbweave/ByteWriter") (_ : Fld Z T'.heap b215 "com/example/orbweave/orbweave/ByteWriter" "_bytes" "[B" (.ref b220)) (_ : Fld Z T'.heap b215 "com/example/orbweave/orbweave/ByteWriter" "_length" "I" (.int (Int32.ofNat u'.length))) (_ : Exa Z T'.heap b220 "[B") (_ : Arv Z T'.heap b220 k220q .byte (32 : Int32) u' (.int (0 : Int32))) (_ : u' = (u2 ++ own_opt f3 (own_lb q3))) (_ : ∃ c, u'.length = 8 * c ∧ c ≤ 3), own_G p e below (T'.setTop (mkF m 133 #[.val (.long q1), .second, .val (.long q2), .second, .val (.long q3), .second, .val (.long q4), .second, .val (.int p5), .val (.int p6), .val (.ref b215), .val (.int f1), .val (.int f2), .val (.int f3), .val (.int f4), .val (.int f5), .val (.int f6), .unset, .unset, .unset, .unset, .unset, .unset] [])) (fun s₂ o => ∃ v L, o = .returned v ∧ Q0 Z q1 q2 q3 q4 p5 p6 h0 n0 v s₂.heap L ∧ FrameEnd s o s₂ L room_1.cells room_1.slots) by
    show own_G p e below (TJ2.setTop (mkF m 122 #[.val (.long q1), .second, .val (.long q2), .second, .val (.long q3), .second, .val (.long q4), .second, .val (.int p5), .val (.int p6), .val (.ref b215), .val (.int f1), .val (.int f2), .val (.int f3), .val (.int f4), .val (.int f5), .val (.int f6), .unset, .unset, .unset, .unset, .unset, .unset] [(.int f3)])) _
    by_cases hc122_241 : f3 = (0 : Int32)
    · refine own_go (fun _ k => XS.ifYes XJ2.here hx rfl (pc0 := 122) (pc' := 133) rfl (hb hby at_122) rfl ((if0 _ _).trans (teq hc122_241).1) (by decide) (by decide) k) ?_
      show own_G p e below (TJ2.setTop (mkF m 133 #[.val (.long q1), .second, .val (.long q2), .second, .val (.long q3), .second, .val (.long q4), .second, .val (.int p5), .val (.int p6), .val (.ref b215), .val (.int f1), .val (.int f2), .val (.int f3), .val (.int f4), .val (.int f5), .val (.int f6), .unset, .unset, .unset, .unset, .unset, .unset] [])) _
      exact JW3 TJ2 _ _ XJ2 NJ2 zJ2 EJ2 FbJ2 FlJ2 EbJ2 VJ2 (by rw [own_opt_no hc122_241, List.append_nil]) ⟨c2, hc2, by omega⟩
    · refine own_go (fun _ k => XS.ifNo XJ2.here hx rfl (hb hby at_122) rfl ((if0 _ _).trans (feq hc122_241).1) k) ?_
      show own_G p e below (TJ2.setTop (mkF m 125 #[.val (.long q1), .second, .val (.long q2), .second, .val (.long q3), .second, .val (.long q4), .second, .val (.int p5), .val (.int p6), .val (.ref b215), .val (.int f1), .val (.int f2), .val (.int f3), .val (.int f4), .val (.int f5), .val (.int f6), .unset, .unset, .unset, .unset, .unset, .unset] [])) _
      refine own_go (fun _ k => XS.aload XJ2.here hx rfl (hb hby at_125) rfl rfl k) ?_
      show own_G p e below (TJ2.setTop (mkF m 127 #[.val (.long q1), .second, .val (.long q2), .second, .val (.long q3), .second, .val (.long q4), .second, .val (.int p5), .val (.int p6), .val (.ref b215), .val (.int f1), .val (.int f2), .val (.int f3), .val (.int f4), .val (.int f5), .val (.int f6), .unset, .unset, .unset, .unset, .unset, .unset] [(.ref b215)])) _
      refine own_go (fun _ k => XS.lload XJ2.here hx rfl (hb hby at_127) rfl k) ?_
      show own_G p e below (TJ2.setTop (mkF m 129 #[.val (.long q1), .second, .val (.long q2), .second, .val (.long q3), .second, .val (.long q4), .second, .val (.int p5), .val (.int p6), .val (.ref b215), .val (.int f1), .val (.int f2), .val (.int f3), .val (.int f4), .val (.int f5), .val (.int f6), .unset, .unset, .unset, .unset, .unset, .unset] [(.long q3), (.ref b215)])) _
      obtain ⟨cq242, kq242, q242a, q242b, q242c⟩ := isOf hZ rfl EJ2
      obtain ⟨_, _, ⟨T242, L242, k242, n242⟩, -, X242, ⟨Lc242, hQ242, l242, y242, z242⟩, st242⟩ := XJ2.virtualBack hx (y := (⟨"com/example/orbweave/orbweave/ByteWriter", "writeLong", "(J)Lcom/example/orbweave/orbweave/ByteWriter;"⟩ : MethodName)) (z := (⟨"com/example/orbweave/orbweave/ByteWriter", "writeLong", "(J)Lcom/example/orbweave/orbweave/ByteWriter;"⟩ : MethodName)) hown (mvT hZ (hw _ (List.mem_of_getElem? (i := 40) rfl))) (mvT hZ (hw _ (List.mem_of_getElem? (i := 41) rfl))) (notFace_of_selects (args := #[]) (mvT hZ (hw _ (List.mem_of_getElem? (i := 43) rfl)))) (mvT hZ (hw _ (List.mem_of_getElem? (i := 43) rfl))) (mvT hZ (hw _ (List.mem_of_getElem? (i := 42) rfl))) (by decide) (backOf (W := 0) (rm8_0 l Z a0 hw [] b215 q3 b220 k220q (32 : Int32) u2 TJ2.heap n0 zJ2 EJ2 FbJ2 FlJ2 ge216 VJ2 EbJ2 ge222 (by rw [show ((32 : Int32)).toNatClampNeg = 32 from by decide]; omega) (by decide)) hZ (hw _ (List.mem_of_getElem? (i := 44) rfl)) (hw _ (List.mem_of_getElem? (i := 2) rfl)) (by decide) (by decide)) q242a q242c (g := (mkF m 129 #[.val (.long q1), .second, .val (.long q2), .second, .val (.long q3), .second, .val (.long q4), .second, .val (.int p5), .val (.int p6), .val (.ref b215), .val (.int f1), .val (.int f2), .val (.int f3), .val (.int f4), .val (.int f5), .val (.int f6), .unset, .unset, .unset, .unset, .unset, .unset] [(.long q3), (.ref b215)])) rfl (by rw [hml]; rfl) (Steps.refl _) (argsL := [(.long q3)]) (rest := []) (lenOf pd_6 rfl) rfl (by show 2 * 0 + _ ≤ _; exact Nat.le_of_eq rfl) (hb hby at_129) (fun _ _ => ⟨rfl, rfl, (by decide : 2 + 0 ≤ _), (by decide : 34 + 0 ≤ _)⟩)
      dsimp only [Pt.U, Pt.locs, Pt.cells, Pt.slots] at X242 l242 y242 z242 st242 hQ242
      subst l242 y242 z242
      obtain ⟨rfl, Nq242, K242, Eo242, Fb242, Fl242, Eb242, Vq242⟩ := hQ242
      have N242 := Fr.app NJ2 Nq242
      refine own_go (fun _ k => st242.trans k) ?_
      have f243 := EJ2.keep K242
      have f244 := EbJ2.keep K242
      have zs245 : n0 ≤ T242.heap.size := Nat.le_trans zJ2 K242.1
      show own_G p e below (T242.setTop (mkF m 132 #[.val (.long q1), .second, .val (.long q2), .second, .val (.long q3), .second, .val (.long q4), .second, .val (.int p5), .val (.int p6), .val (.ref b215), .val (.int f1), .val (.int f2), .val (.int f3), .val (.int f4), .val (.int f5), .val (.int f6), .unset, .unset, .unset, .unset, .unset, .unset] [(.ref b215)])) _
      refine own_go (fun _ k => XS.pop X242.here hx rfl (hb hby at_132) rfl rfl k) ?_
      show own_G p e below (T242.setTop (mkF m 133 #[.val (.long q1), .second, .val (.long q2), .second, .val (.long q3), .second, .val (.long q4), .second, .val (.int p5), .val (.int p6), .val (.ref b215), .val (.int f1), .val (.int f2), .val (.int f3), .val (.int f4), .val (.int f5), .val (.int f6), .unset, .unset, .unset, .unset, .unset, .unset] [])) _
      exact JW3 T242 _ _ X242 N242 zs245 Eo242 Fb242 Fl242 Eb242 Vq242 (by rw [own_opt_yes hc122_241]) ⟨c2 + 1, by simp only [List.length_append, List.length_cons, List.length_nil, own_len_sb, own_len_ib, own_len_lb]; omega, by omega⟩
  intro TJ3 LJ3 u3 XJ3 NJ3 zJ3 EJ3 FbJ3 FlJ3 EbJ3 VJ3 hu3 hl3
  obtain ⟨c3, hc3, hk3⟩ := hl3
  show own_G p e below (TJ3.setTop (mkF m 133 #[.val (.long q1), .second, .val (.long q2), .second, .val (.long q3), .second, .val (.long q4), .second, .val (.int p5), .val (.int p6), .val (.ref b215), .val (.int f1), .val (.int f2), .val (.int f3), .val (.int f4), .val (.int f5), .val (.int f6), .unset, .unset, .unset, .unset, .unset, .unset] [])) _
  refine own_go (fun _ k => XS.iload XJ3.here hx rfl (hb hby at_133) rfl k) ?_
  show own_G p e below (TJ3.setTop (mkF m 135 #[.val (.long q1), .second, .val (.long q2), .second, .val (.long q3), .second, .val (.long q4), .second, .val (.int p5), .val (.int p6), .val (.ref b215), .val (.int f1), .val (.int f2), .val (.int f3), .val (.int f4), .val (.int f5), .val (.int f6), .unset, .unset, .unset, .unset, .unset, .unset] [(.int f4)])) _
  suffices JW4 : ∀ (T' : State) (L' : List Loc) (u' : List Value) (_ : Stand p l e room_1 s m #[(.long q1), (.long q2), (.long q3), (.long q4), (.int p5), (.int p6)] below meth c T' L' 2 34) (_ : Fr n0 L') (_ : n0 ≤ T'.heap.size) (_ : Exa Z T'.heap b215 "com/example/orbweave/orbweave/ByteWriter") (_ : Fld Z T'.heap b215 "com/example/orbweave/orbweave/ByteWriter" "_bytes" "[B" (.ref b220)) (_ : Fld Z T'.heap b215 "com/example/orbweave/orbweave/ByteWriter" "_length" "I" (.int (Int32.ofNat u'.length))) (_ : Exa Z T'.heap b220 "[B") (_ : Arv Z T'.heap b220 k220q .byte (32 : Int32) u' (.int (0 : Int32))) (_ : u' = (u3 ++ own_opt f4 (own_lb q4))) (_ : ∃ c, u'.length = 8 * c ∧ c ≤ 4), own_G p e below (T'.setTop (mkF m 146 #[.val (.long q1), .second, .val (.long q2), .second, .val (.long q3), .second, .val (.long q4), .second, .val (.int p5), .val (.int p6), .val (.ref b215), .val (.int f1), .val (.int f2), .val (.int f3), .val (.int f4), .val (.int f5), .val (.int f6), .unset, .unset, .unset, .unset, .unset, .unset] [])) (fun s₂ o => ∃ v L, o = .returned v ∧ Q0 Z q1 q2 q3 q4 p5 p6 h0 n0 v s₂.heap L ∧ FrameEnd s o s₂ L room_1.cells room_1.slots) by
    show own_G p e below (TJ3.setTop (mkF m 135 #[.val (.long q1), .second, .val (.long q2), .second, .val (.long q3), .second, .val (.long q4), .second, .val (.int p5), .val (.int p6), .val (.ref b215), .val (.int f1), .val (.int f2), .val (.int f3), .val (.int f4), .val (.int f5), .val (.int f6), .unset, .unset, .unset, .unset, .unset, .unset] [(.int f4)])) _
    by_cases hc135_246 : f4 = (0 : Int32)
    · refine own_go (fun _ k => XS.ifYes XJ3.here hx rfl (pc0 := 135) (pc' := 146) rfl (hb hby at_135) rfl ((if0 _ _).trans (teq hc135_246).1) (by decide) (by decide) k) ?_
      show own_G p e below (TJ3.setTop (mkF m 146 #[.val (.long q1), .second, .val (.long q2), .second, .val (.long q3), .second, .val (.long q4), .second, .val (.int p5), .val (.int p6), .val (.ref b215), .val (.int f1), .val (.int f2), .val (.int f3), .val (.int f4), .val (.int f5), .val (.int f6), .unset, .unset, .unset, .unset, .unset, .unset] [])) _
      exact JW4 TJ3 _ _ XJ3 NJ3 zJ3 EJ3 FbJ3 FlJ3 EbJ3 VJ3 (by rw [own_opt_no hc135_246, List.append_nil]) ⟨c3, hc3, by omega⟩
    · refine own_go (fun _ k => XS.ifNo XJ3.here hx rfl (hb hby at_135) rfl ((if0 _ _).trans (feq hc135_246).1) k) ?_
      show own_G p e below (TJ3.setTop (mkF m 138 #[.val (.long q1), .second, .val (.long q2), .second, .val (.long q3), .second, .val (.long q4), .second, .val (.int p5), .val (.int p6), .val (.ref b215), .val (.int f1), .val (.int f2), .val (.int f3), .val (.int f4), .val (.int f5), .val (.int f6), .unset, .unset, .unset, .unset, .unset, .unset] [])) _
      refine own_go (fun _ k => XS.aload XJ3.here hx rfl (hb hby at_138) rfl rfl k) ?_
      show own_G p e below (TJ3.setTop (mkF m 140 #[.val (.long q1), .second, .val (.long q2), .second, .val (.long q3), .second, .val (.long q4), .second, .val (.int p5), .val (.int p6), .val (.ref b215), .val (.int f1), .val (.int f2), .val (.int f3), .val (.int f4), .val (.int f5), .val (.int f6), .unset, .unset, .unset, .unset, .unset, .unset] [(.ref b215)])) _
      refine own_go (fun _ k => XS.lload XJ3.here hx rfl (hb hby at_140) rfl k) ?_
      show own_G p e below (TJ3.setTop (mkF m 142 #[.val (.long q1), .second, .val (.long q2), .second, .val (.long q3), .second, .val (.long q4), .second, .val (.int p5), .val (.int p6), .val (.ref b215), .val (.int f1), .val (.int f2), .val (.int f3), .val (.int f4), .val (.int f5), .val (.int f6), .unset, .unset, .unset, .unset, .unset, .unset] [(.long q4), (.ref b215)])) _
      obtain ⟨cq247, kq247, q247a, q247b, q247c⟩ := isOf hZ rfl EJ3
      obtain ⟨_, _, ⟨T247, L247, k247, n247⟩, -, X247, ⟨Lc247, hQ247, l247, y247, z247⟩, st247⟩ := XJ3.virtualBack hx (y := (⟨"com/example/orbweave/orbweave/ByteWriter", "writeLong", "(J)Lcom/example/orbweave/orbweave/ByteWriter;"⟩ : MethodName)) (z := (⟨"com/example/orbweave/orbweave/ByteWriter", "writeLong", "(J)Lcom/example/orbweave/orbweave/ByteWriter;"⟩ : MethodName)) hown (mvT hZ (hw _ (List.mem_of_getElem? (i := 40) rfl))) (mvT hZ (hw _ (List.mem_of_getElem? (i := 41) rfl))) (notFace_of_selects (args := #[]) (mvT hZ (hw _ (List.mem_of_getElem? (i := 43) rfl)))) (mvT hZ (hw _ (List.mem_of_getElem? (i := 43) rfl))) (mvT hZ (hw _ (List.mem_of_getElem? (i := 42) rfl))) (by decide) (backOf (W := 0) (rm8_0 l Z a0 hw [] b215 q4 b220 k220q (32 : Int32) u3 TJ3.heap n0 zJ3 EJ3 FbJ3 FlJ3 ge216 VJ3 EbJ3 ge222 (by rw [show ((32 : Int32)).toNatClampNeg = 32 from by decide]; omega) (by decide)) hZ (hw _ (List.mem_of_getElem? (i := 44) rfl)) (hw _ (List.mem_of_getElem? (i := 2) rfl)) (by decide) (by decide)) q247a q247c (g := (mkF m 142 #[.val (.long q1), .second, .val (.long q2), .second, .val (.long q3), .second, .val (.long q4), .second, .val (.int p5), .val (.int p6), .val (.ref b215), .val (.int f1), .val (.int f2), .val (.int f3), .val (.int f4), .val (.int f5), .val (.int f6), .unset, .unset, .unset, .unset, .unset, .unset] [(.long q4), (.ref b215)])) rfl (by rw [hml]; rfl) (Steps.refl _) (argsL := [(.long q4)]) (rest := []) (lenOf pd_6 rfl) rfl (by show 2 * 0 + _ ≤ _; exact Nat.le_of_eq rfl) (hb hby at_142) (fun _ _ => ⟨rfl, rfl, (by decide : 2 + 0 ≤ _), (by decide : 34 + 0 ≤ _)⟩)
      dsimp only [Pt.U, Pt.locs, Pt.cells, Pt.slots] at X247 l247 y247 z247 st247 hQ247
      subst l247 y247 z247
      obtain ⟨rfl, Nq247, K247, Eo247, Fb247, Fl247, Eb247, Vq247⟩ := hQ247
      have N247 := Fr.app NJ3 Nq247
      refine own_go (fun _ k => st247.trans k) ?_
      have f248 := EJ3.keep K247
      have f249 := EbJ3.keep K247
      have zs250 : n0 ≤ T247.heap.size := Nat.le_trans zJ3 K247.1
      show own_G p e below (T247.setTop (mkF m 145 #[.val (.long q1), .second, .val (.long q2), .second, .val (.long q3), .second, .val (.long q4), .second, .val (.int p5), .val (.int p6), .val (.ref b215), .val (.int f1), .val (.int f2), .val (.int f3), .val (.int f4), .val (.int f5), .val (.int f6), .unset, .unset, .unset, .unset, .unset, .unset] [(.ref b215)])) _
      refine own_go (fun _ k => XS.pop X247.here hx rfl (hb hby at_145) rfl rfl k) ?_
      show own_G p e below (T247.setTop (mkF m 146 #[.val (.long q1), .second, .val (.long q2), .second, .val (.long q3), .second, .val (.long q4), .second, .val (.int p5), .val (.int p6), .val (.ref b215), .val (.int f1), .val (.int f2), .val (.int f3), .val (.int f4), .val (.int f5), .val (.int f6), .unset, .unset, .unset, .unset, .unset, .unset] [])) _
      exact JW4 T247 _ _ X247 N247 zs250 Eo247 Fb247 Fl247 Eb247 Vq247 (by rw [own_opt_yes hc135_246]) ⟨c3 + 1, by simp only [List.length_append, List.length_cons, List.length_nil, own_len_sb, own_len_ib, own_len_lb]; omega, by omega⟩
  intro TJ4 LJ4 u4 XJ4 NJ4 zJ4 EJ4 FbJ4 FlJ4 EbJ4 VJ4 hu4 hl4
  obtain ⟨c4, hc4, hk4⟩ := hl4
  show own_G p e below (TJ4.setTop (mkF m 146 #[.val (.long q1), .second, .val (.long q2), .second, .val (.long q3), .second, .val (.long q4), .second, .val (.int p5), .val (.int p6), .val (.ref b215), .val (.int f1), .val (.int f2), .val (.int f3), .val (.int f4), .val (.int f5), .val (.int f6), .unset, .unset, .unset, .unset, .unset, .unset] [])) _
  refine own_go (fun _ k => XS.iload XJ4.here hx rfl (hb hby at_146) rfl k) ?_
  show own_G p e below (TJ4.setTop (mkF m 148 #[.val (.long q1), .second, .val (.long q2), .second, .val (.long q3), .second, .val (.long q4), .second, .val (.int p5), .val (.int p6), .val (.ref b215), .val (.int f1), .val (.int f2), .val (.int f3), .val (.int f4), .val (.int f5), .val (.int f6), .unset, .unset, .unset, .unset, .unset, .unset] [(.int f5)])) _
  suffices JW5 : ∀ (T' : State) (L' : List Loc) (u' : List Value) (b' : Addr) (k' : ClassId) (z' : Int32) (_ : Stand p l e room_1 s m #[(.long q1), (.long q2), (.long q3), (.long q4), (.int p5), (.int p6)] below meth c T' L' 3 98) (_ : Fr n0 L') (_ : n0 ≤ T'.heap.size) (_ : n0 ≤ b') (_ : b215 ≠ b') (_ : Exa Z T'.heap b215 "com/example/orbweave/orbweave/ByteWriter") (_ : Fld Z T'.heap b215 "com/example/orbweave/orbweave/ByteWriter" "_bytes" "[B" (.ref b')) (_ : Fld Z T'.heap b215 "com/example/orbweave/orbweave/ByteWriter" "_length" "I" (.int (Int32.ofNat u'.length))) (_ : Exa Z T'.heap b' "[B") (_ : Arv Z T'.heap b' k' .byte z' u' (.int (0 : Int32))) (_ : u' = (u4 ++ own_opt f5 [Value.int (p5.toInt8.toInt32)])) (_ : (z' = 32 ∧ u'.length ≤ 32) ∨ z' = 64) (_ : ∃ c e, u'.length = 8 * c + e ∧ c ≤ 4 ∧ e ≤ 1), own_G p e below (T'.setTop (mkF m 159 #[.val (.long q1), .second, .val (.long q2), .second, .val (.long q3), .second, .val (.long q4), .second, .val (.int p5), .val (.int p6), .val (.ref b215), .val (.int f1), .val (.int f2), .val (.int f3), .val (.int f4), .val (.int f5), .val (.int f6), .unset, .unset, .unset, .unset, .unset, .unset] [])) (fun s₂ o => ∃ v L, o = .returned v ∧ Q0 Z q1 q2 q3 q4 p5 p6 h0 n0 v s₂.heap L ∧ FrameEnd s o s₂ L room_1.cells room_1.slots) by
    show own_G p e below (TJ4.setTop (mkF m 148 #[.val (.long q1), .second, .val (.long q2), .second, .val (.long q3), .second, .val (.long q4), .second, .val (.int p5), .val (.int p6), .val (.ref b215), .val (.int f1), .val (.int f2), .val (.int f3), .val (.int f4), .val (.int f5), .val (.int f6), .unset, .unset, .unset, .unset, .unset, .unset] [(.int f5)])) _
    by_cases hc148_251 : f5 = (0 : Int32)
    · refine own_go (fun _ k => XS.ifYes XJ4.here hx rfl (pc0 := 148) (pc' := 159) rfl (hb hby at_148) rfl ((if0 _ _).trans (teq hc148_251).1) (by decide) (by decide) k) ?_
      show own_G p e below (TJ4.setTop (mkF m 159 #[.val (.long q1), .second, .val (.long q2), .second, .val (.long q3), .second, .val (.long q4), .second, .val (.int p5), .val (.int p6), .val (.ref b215), .val (.int f1), .val (.int f2), .val (.int f3), .val (.int f4), .val (.int f5), .val (.int f6), .unset, .unset, .unset, .unset, .unset, .unset] [])) _
      exact JW5 TJ4 _ _ _ _ _ (XJ4.more (by decide) (by decide)) NJ4 zJ4 ge222 ne221 EJ4 FbJ4 FlJ4 EbJ4 VJ4 (by rw [own_opt_no hc148_251, List.append_nil]) (Or.inl ⟨rfl, by omega⟩) ⟨c4, 0, by omega, by omega, by omega⟩
    · refine own_go (fun _ k => XS.ifNo XJ4.here hx rfl (hb hby at_148) rfl ((if0 _ _).trans (feq hc148_251).1) k) ?_
      show own_G p e below (TJ4.setTop (mkF m 151 #[.val (.long q1), .second, .val (.long q2), .second, .val (.long q3), .second, .val (.long q4), .second, .val (.int p5), .val (.int p6), .val (.ref b215), .val (.int f1), .val (.int f2), .val (.int f3), .val (.int f4), .val (.int f5), .val (.int f6), .unset, .unset, .unset, .unset, .unset, .unset] [])) _
      refine own_go (fun _ k => XS.aload XJ4.here hx rfl (hb hby at_151) rfl rfl k) ?_
      show own_G p e below (TJ4.setTop (mkF m 153 #[.val (.long q1), .second, .val (.long q2), .second, .val (.long q3), .second, .val (.long q4), .second, .val (.int p5), .val (.int p6), .val (.ref b215), .val (.int f1), .val (.int f2), .val (.int f3), .val (.int f4), .val (.int f5), .val (.int f6), .unset, .unset, .unset, .unset, .unset, .unset] [(.ref b215)])) _
      refine own_go (fun _ k => XS.iload XJ4.here hx rfl (hb hby at_153) rfl k) ?_
      show own_G p e below (TJ4.setTop (mkF m 155 #[.val (.long q1), .second, .val (.long q2), .second, .val (.long q3), .second, .val (.long q4), .second, .val (.int p5), .val (.int p6), .val (.ref b215), .val (.int f1), .val (.int f2), .val (.int f3), .val (.int f4), .val (.int f5), .val (.int f6), .unset, .unset, .unset, .unset, .unset, .unset] [(.int p5), (.ref b215)])) _
      by_cases hlen : u4.length = 32
      · show own_G p e below (TJ4.setTop (mkF m 155 #[.val (.long q1), .second, .val (.long q2), .second, .val (.long q3), .second, .val (.long q4), .second, .val (.int p5), .val (.int p6), .val (.ref b215), .val (.int f1), .val (.int f2), .val (.int f3), .val (.int f4), .val (.int f5), .val (.int f6), .unset, .unset, .unset, .unset, .unset, .unset] [(.int p5), (.ref b215)])) _
        obtain ⟨cq252, kq252, q252a, q252b, q252c⟩ := isOf hZ rfl EJ4
        obtain ⟨_, _, ⟨T252, L252, k252, n252⟩, -, X252, ⟨Lc252, hQ252, l252, y252, z252⟩, st252⟩ := XJ4.virtualBack hx (y := (⟨"com/example/orbweave/orbweave/ByteWriter", "writeByte", "(I)Lcom/example/orbweave/orbweave/ByteWriter;"⟩ : MethodName)) (z := (⟨"com/example/orbweave/orbweave/ByteWriter", "writeByte", "(I)Lcom/example/orbweave/orbweave/ByteWriter;"⟩ : MethodName)) hown (mvT hZ (hw _ (List.mem_of_getElem? (i := 31) rfl))) (mvT hZ (hw _ (List.mem_of_getElem? (i := 32) rfl))) (notFace_of_selects (args := #[]) (mvT hZ (hw _ (List.mem_of_getElem? (i := 34) rfl)))) (mvT hZ (hw _ (List.mem_of_getElem? (i := 34) rfl))) (mvT hZ (hw _ (List.mem_of_getElem? (i := 33) rfl))) (by decide) (backOf (W := 0) (rm6_1 l Z a0 hw [] b215 p5 b220 k220q u4 TJ4.heap n0 zJ4 EJ4 FbJ4 (by have q := FlJ4; rw [own_of32 hlen] at q; exact q) ge216 VJ4 EbJ4 ge222 hlen) hZ (hw _ (List.mem_of_getElem? (i := 35) rfl)) (hw _ (List.mem_of_getElem? (i := 2) rfl)) (by decide) (by decide)) q252a q252c (g := (mkF m 155 #[.val (.long q1), .second, .val (.long q2), .second, .val (.long q3), .second, .val (.long q4), .second, .val (.int p5), .val (.int p6), .val (.ref b215), .val (.int f1), .val (.int f2), .val (.int f3), .val (.int f4), .val (.int f5), .val (.int f6), .unset, .unset, .unset, .unset, .unset, .unset] [(.int p5), (.ref b215)])) rfl (by rw [hml]; rfl) (Steps.refl _) (argsL := [(.int p5)]) (rest := []) (lenOf pd_3 rfl) rfl (by show 2 * 0 + _ ≤ _; exact Nat.le_of_eq rfl) (hb hby at_155) (fun _ _ => ⟨rfl, rfl, (by decide : 2 + 1 ≤ _), (by decide : 34 + 64 ≤ _)⟩)
        dsimp only [Pt.U, Pt.locs, Pt.cells, Pt.slots] at X252 l252 y252 z252 st252 hQ252
        subst l252 y252 z252
        obtain ⟨b252, k252q, rfl, Nq252, K252, hsz252, Eo252, Fb252, Fl252, Eb252, Vq252⟩ := hQ252
        have N252 := Fr.app NJ4 Nq252
        refine own_go (fun _ k => st252.trans k) ?_
        have ne253 : b215 ≠ b252 := Nat.ne_of_lt (Nat.lt_of_lt_of_le EJ4.lt hsz252)
        have ne254 : b220 ≠ b252 := Nat.ne_of_lt (Nat.lt_of_lt_of_le EbJ4.lt hsz252)
        have ge255 : n0 ≤ b252 := Nat.le_trans zJ4 hsz252
        have f256 := EJ4.keep K252
        have f257 := EbJ4.keep K252
        have f258 := VJ4.keep K252 (ninS (Ne.symm ne221) nin0)
        have zs259 : n0 ≤ T252.heap.size := Nat.le_trans zJ4 K252.1
        show own_G p e below (T252.setTop (mkF m 158 #[.val (.long q1), .second, .val (.long q2), .second, .val (.long q3), .second, .val (.long q4), .second, .val (.int p5), .val (.int p6), .val (.ref b215), .val (.int f1), .val (.int f2), .val (.int f3), .val (.int f4), .val (.int f5), .val (.int f6), .unset, .unset, .unset, .unset, .unset, .unset] [(.ref b215)])) _
        refine own_go (fun _ k => XS.pop X252.here hx rfl (hb hby at_158) rfl rfl k) ?_
        show own_G p e below (T252.setTop (mkF m 159 #[.val (.long q1), .second, .val (.long q2), .second, .val (.long q3), .second, .val (.long q4), .second, .val (.int p5), .val (.int p6), .val (.ref b215), .val (.int f1), .val (.int f2), .val (.int f3), .val (.int f4), .val (.int f5), .val (.int f6), .unset, .unset, .unset, .unset, .unset, .unset] [])) _
        exact JW5 T252 _ _ _ _ _ (X252.more (by decide) (by decide)) N252 zs259 ge255 ne253 Eo252 Fb252 Fl252 Eb252 Vq252 (by rw [own_opt_yes hc148_251]) (Or.inr rfl) ⟨c4, 1, by simp only [List.length_append, List.length_cons, List.length_nil, own_len_sb, own_len_ib, own_len_lb]; omega, by omega, by omega⟩
      · show own_G p e below (TJ4.setTop (mkF m 155 #[.val (.long q1), .second, .val (.long q2), .second, .val (.long q3), .second, .val (.long q4), .second, .val (.int p5), .val (.int p6), .val (.ref b215), .val (.int f1), .val (.int f2), .val (.int f3), .val (.int f4), .val (.int f5), .val (.int f6), .unset, .unset, .unset, .unset, .unset, .unset] [(.int p5), (.ref b215)])) _
        obtain ⟨cq260, kq260, q260a, q260b, q260c⟩ := isOf hZ rfl EJ4
        obtain ⟨_, _, ⟨T260, L260, k260, n260⟩, -, X260, ⟨Lc260, hQ260, l260, y260, z260⟩, st260⟩ := XJ4.virtualBack hx (y := (⟨"com/example/orbweave/orbweave/ByteWriter", "writeByte", "(I)Lcom/example/orbweave/orbweave/ByteWriter;"⟩ : MethodName)) (z := (⟨"com/example/orbweave/orbweave/ByteWriter", "writeByte", "(I)Lcom/example/orbweave/orbweave/ByteWriter;"⟩ : MethodName)) hown (mvT hZ (hw _ (List.mem_of_getElem? (i := 31) rfl))) (mvT hZ (hw _ (List.mem_of_getElem? (i := 32) rfl))) (notFace_of_selects (args := #[]) (mvT hZ (hw _ (List.mem_of_getElem? (i := 34) rfl)))) (mvT hZ (hw _ (List.mem_of_getElem? (i := 34) rfl))) (mvT hZ (hw _ (List.mem_of_getElem? (i := 33) rfl))) (by decide) (backOf (W := 0) (rm6_0 l Z a0 hw [] b215 p5 b220 k220q (32 : Int32) u4 TJ4.heap n0 zJ4 EJ4 FbJ4 FlJ4 ge216 VJ4 EbJ4 ge222 (by rw [show ((32 : Int32)).toNatClampNeg = 32 from by decide]; omega) (by decide)) hZ (hw _ (List.mem_of_getElem? (i := 35) rfl)) (hw _ (List.mem_of_getElem? (i := 2) rfl)) (by decide) (by decide)) q260a q260c (g := (mkF m 155 #[.val (.long q1), .second, .val (.long q2), .second, .val (.long q3), .second, .val (.long q4), .second, .val (.int p5), .val (.int p6), .val (.ref b215), .val (.int f1), .val (.int f2), .val (.int f3), .val (.int f4), .val (.int f5), .val (.int f6), .unset, .unset, .unset, .unset, .unset, .unset] [(.int p5), (.ref b215)])) rfl (by rw [hml]; rfl) (Steps.refl _) (argsL := [(.int p5)]) (rest := []) (lenOf pd_3 rfl) rfl (by show 2 * 0 + _ ≤ _; exact Nat.le_of_eq rfl) (hb hby at_155) (fun _ _ => ⟨rfl, rfl, (by decide : 2 + 0 ≤ _), (by decide : 34 + 0 ≤ _)⟩)
        dsimp only [Pt.U, Pt.locs, Pt.cells, Pt.slots] at X260 l260 y260 z260 st260 hQ260
        subst l260 y260 z260
        obtain ⟨rfl, Nq260, K260, Eo260, Fb260, Fl260, Eb260, Vq260⟩ := hQ260
        have N260 := Fr.app NJ4 Nq260
        refine own_go (fun _ k => st260.trans k) ?_
        have f261 := EJ4.keep K260
        have f262 := EbJ4.keep K260
        have zs263 : n0 ≤ T260.heap.size := Nat.le_trans zJ4 K260.1
        show own_G p e below (T260.setTop (mkF m 158 #[.val (.long q1), .second, .val (.long q2), .second, .val (.long q3), .second, .val (.long q4), .second, .val (.int p5), .val (.int p6), .val (.ref b215), .val (.int f1), .val (.int f2), .val (.int f3), .val (.int f4), .val (.int f5), .val (.int f6), .unset, .unset, .unset, .unset, .unset, .unset] [(.ref b215)])) _
        refine own_go (fun _ k => XS.pop X260.here hx rfl (hb hby at_158) rfl rfl k) ?_
        show own_G p e below (T260.setTop (mkF m 159 #[.val (.long q1), .second, .val (.long q2), .second, .val (.long q3), .second, .val (.long q4), .second, .val (.int p5), .val (.int p6), .val (.ref b215), .val (.int f1), .val (.int f2), .val (.int f3), .val (.int f4), .val (.int f5), .val (.int f6), .unset, .unset, .unset, .unset, .unset, .unset] [])) _
        exact JW5 T260 _ _ _ _ _ (X260.more (by decide) (by decide)) N260 zs263 ge222 ne221 Eo260 Fb260 Fl260 Eb260 Vq260 (by rw [own_opt_yes hc148_251]) (Or.inl ⟨rfl, by simp only [List.length_append, List.length_cons, List.length_nil, own_len_sb, own_len_ib, own_len_lb]; omega⟩) ⟨c4, 1, by simp only [List.length_append, List.length_cons, List.length_nil, own_len_sb, own_len_ib, own_len_lb]; omega, by omega, by omega⟩
  intro TJ5 LJ5 u5 bJ5 kJ5 zJ5q XJ5 NJ5 zJ5 gbJ5 neJ5 EJ5 FbJ5 FlJ5 EbJ5 VJ5 hu5 hz5 hl5
  show own_G p e below (TJ5.setTop (mkF m 159 #[.val (.long q1), .second, .val (.long q2), .second, .val (.long q3), .second, .val (.long q4), .second, .val (.int p5), .val (.int p6), .val (.ref b215), .val (.int f1), .val (.int f2), .val (.int f3), .val (.int f4), .val (.int f5), .val (.int f6), .unset, .unset, .unset, .unset, .unset, .unset] [])) _
  refine own_go (fun _ k => XS.iload XJ5.here hx rfl (hb hby at_159) rfl k) ?_
  obtain ⟨c5, e5, hc5, hk5, he5⟩ := hl5
  show own_G p e below (TJ5.setTop (mkF m 161 #[.val (.long q1), .second, .val (.long q2), .second, .val (.long q3), .second, .val (.long q4), .second, .val (.int p5), .val (.int p6), .val (.ref b215), .val (.int f1), .val (.int f2), .val (.int f3), .val (.int f4), .val (.int f5), .val (.int f6), .unset, .unset, .unset, .unset, .unset, .unset] [(.int f6)])) _
  suffices JW6 : ∀ (T' : State) (L' : List Loc) (u' : List Value) (b' : Addr) (k' : ClassId) (z' : Int32) (_ : Stand p l e room_1 s m #[(.long q1), (.long q2), (.long q3), (.long q4), (.int p5), (.int p6)] below meth c T' L' 4 162) (_ : Fr n0 L') (_ : n0 ≤ T'.heap.size) (_ : n0 ≤ b') (_ : b215 ≠ b') (_ : Exa Z T'.heap b215 "com/example/orbweave/orbweave/ByteWriter") (_ : Fld Z T'.heap b215 "com/example/orbweave/orbweave/ByteWriter" "_bytes" "[B" (.ref b')) (_ : Fld Z T'.heap b215 "com/example/orbweave/orbweave/ByteWriter" "_length" "I" (.int (Int32.ofNat u'.length))) (_ : Exa Z T'.heap b' "[B") (_ : Arv Z T'.heap b' k' .byte z' u' (.int (0 : Int32))) (_ : u' = (u5 ++ own_opt f6 (own_ib p5))) (_ : (z' = 32 ∧ u'.length ≤ 32) ∨ z' = 64) (_ : u'.length ≤ 37), own_G p e below (T'.setTop (mkF m 172 #[.val (.long q1), .second, .val (.long q2), .second, .val (.long q3), .second, .val (.long q4), .second, .val (.int p5), .val (.int p6), .val (.ref b215), .val (.int f1), .val (.int f2), .val (.int f3), .val (.int f4), .val (.int f5), .val (.int f6), .unset, .unset, .unset, .unset, .unset, .unset] [])) (fun s₂ o => ∃ v L, o = .returned v ∧ Q0 Z q1 q2 q3 q4 p5 p6 h0 n0 v s₂.heap L ∧ FrameEnd s o s₂ L room_1.cells room_1.slots) by
    show own_G p e below (TJ5.setTop (mkF m 161 #[.val (.long q1), .second, .val (.long q2), .second, .val (.long q3), .second, .val (.long q4), .second, .val (.int p5), .val (.int p6), .val (.ref b215), .val (.int f1), .val (.int f2), .val (.int f3), .val (.int f4), .val (.int f5), .val (.int f6), .unset, .unset, .unset, .unset, .unset, .unset] [(.int f6)])) _
    by_cases hc161_264 : f6 = (0 : Int32)
    · refine own_go (fun _ k => XS.ifYes XJ5.here hx rfl (pc0 := 161) (pc' := 172) rfl (hb hby at_161) rfl ((if0 _ _).trans (teq hc161_264).1) (by decide) (by decide) k) ?_
      show own_G p e below (TJ5.setTop (mkF m 172 #[.val (.long q1), .second, .val (.long q2), .second, .val (.long q3), .second, .val (.long q4), .second, .val (.int p5), .val (.int p6), .val (.ref b215), .val (.int f1), .val (.int f2), .val (.int f3), .val (.int f4), .val (.int f5), .val (.int f6), .unset, .unset, .unset, .unset, .unset, .unset] [])) _
      exact JW6 TJ5 _ _ _ _ _ (XJ5.more (by decide) (by decide)) NJ5 zJ5 gbJ5 neJ5 EJ5 FbJ5 FlJ5 EbJ5 VJ5 (by rw [own_opt_no hc161_264, List.append_nil]) hz5 (by omega)
    · refine own_go (fun _ k => XS.ifNo XJ5.here hx rfl (hb hby at_161) rfl ((if0 _ _).trans (feq hc161_264).1) k) ?_
      show own_G p e below (TJ5.setTop (mkF m 164 #[.val (.long q1), .second, .val (.long q2), .second, .val (.long q3), .second, .val (.long q4), .second, .val (.int p5), .val (.int p6), .val (.ref b215), .val (.int f1), .val (.int f2), .val (.int f3), .val (.int f4), .val (.int f5), .val (.int f6), .unset, .unset, .unset, .unset, .unset, .unset] [])) _
      refine own_go (fun _ k => XS.aload XJ5.here hx rfl (hb hby at_164) rfl rfl k) ?_
      show own_G p e below (TJ5.setTop (mkF m 166 #[.val (.long q1), .second, .val (.long q2), .second, .val (.long q3), .second, .val (.long q4), .second, .val (.int p5), .val (.int p6), .val (.ref b215), .val (.int f1), .val (.int f2), .val (.int f3), .val (.int f4), .val (.int f5), .val (.int f6), .unset, .unset, .unset, .unset, .unset, .unset] [(.ref b215)])) _
      refine own_go (fun _ k => XS.iload XJ5.here hx rfl (hb hby at_166) rfl k) ?_
      show own_G p e below (TJ5.setTop (mkF m 168 #[.val (.long q1), .second, .val (.long q2), .second, .val (.long q3), .second, .val (.long q4), .second, .val (.int p5), .val (.int p6), .val (.ref b215), .val (.int f1), .val (.int f2), .val (.int f3), .val (.int f4), .val (.int f5), .val (.int f6), .unset, .unset, .unset, .unset, .unset, .unset] [(.int p5), (.ref b215)])) _
      rcases hz5 with ⟨rfl, h32⟩ | rfl
      · by_cases hlen : u5.length = 32
        · show own_G p e below (TJ5.setTop (mkF m 168 #[.val (.long q1), .second, .val (.long q2), .second, .val (.long q3), .second, .val (.long q4), .second, .val (.int p5), .val (.int p6), .val (.ref b215), .val (.int f1), .val (.int f2), .val (.int f3), .val (.int f4), .val (.int f5), .val (.int f6), .unset, .unset, .unset, .unset, .unset, .unset] [(.int p5), (.ref b215)])) _
          obtain ⟨cq265, kq265, q265a, q265b, q265c⟩ := isOf hZ rfl EJ5
          obtain ⟨_, _, ⟨T265, L265, k265, n265⟩, -, X265, ⟨Lc265, hQ265, l265, y265, z265⟩, st265⟩ := XJ5.virtualBack hx (y := (⟨"com/example/orbweave/orbweave/ByteWriter", "writeInt", "(I)Lcom/example/orbweave/orbweave/ByteWriter;"⟩ : MethodName)) (z := (⟨"com/example/orbweave/orbweave/ByteWriter", "writeInt", "(I)Lcom/example/orbweave/orbweave/ByteWriter;"⟩ : MethodName)) hown (mvT hZ (hw _ (List.mem_of_getElem? (i := 56) rfl))) (mvT hZ (hw _ (List.mem_of_getElem? (i := 46) rfl))) (notFace_of_selects (args := #[]) (mvT hZ (hw _ (List.mem_of_getElem? (i := 48) rfl)))) (mvT hZ (hw _ (List.mem_of_getElem? (i := 48) rfl))) (mvT hZ (hw _ (List.mem_of_getElem? (i := 47) rfl))) (by decide) (backOf (W := 0) (rm9_1 l Z a0 hw [] b215 p5 bJ5 kJ5 u5 TJ5.heap n0 zJ5 EJ5 FbJ5 (by have q := FlJ5; rw [own_of32 hlen] at q; exact q) ge216 VJ5 EbJ5 gbJ5 hlen) hZ (hw _ (List.mem_of_getElem? (i := 49) rfl)) (hw _ (List.mem_of_getElem? (i := 2) rfl)) (by decide) (by decide)) q265a q265c (g := (mkF m 168 #[.val (.long q1), .second, .val (.long q2), .second, .val (.long q3), .second, .val (.long q4), .second, .val (.int p5), .val (.int p6), .val (.ref b215), .val (.int f1), .val (.int f2), .val (.int f3), .val (.int f4), .val (.int f5), .val (.int f6), .unset, .unset, .unset, .unset, .unset, .unset] [(.int p5), (.ref b215)])) rfl (by rw [hml]; rfl) (Steps.refl _) (argsL := [(.int p5)]) (rest := []) (lenOf pd_3 rfl) rfl (by show 2 * 0 + _ ≤ _; exact Nat.le_of_eq rfl) (hb hby at_168) (fun _ _ => ⟨rfl, rfl, (by decide : 3 + 1 ≤ _), (by decide : 98 + 64 ≤ _)⟩)
          dsimp only [Pt.U, Pt.locs, Pt.cells, Pt.slots] at X265 l265 y265 z265 st265 hQ265
          subst l265 y265 z265
          obtain ⟨b265, k265q, rfl, Nq265, K265, hsz265, Eo265, Fb265, Fl265, Eb265, Vq265⟩ := hQ265
          have N265 := Fr.app NJ5 Nq265
          refine own_go (fun _ k => st265.trans k) ?_
          have ne266 : b215 ≠ b265 := Nat.ne_of_lt (Nat.lt_of_lt_of_le EJ5.lt hsz265)
          have ne267 : bJ5 ≠ b265 := Nat.ne_of_lt (Nat.lt_of_lt_of_le EbJ5.lt hsz265)
          have ge268 : n0 ≤ b265 := Nat.le_trans zJ5 hsz265
          have f269 := EJ5.keep K265
          have f270 := EbJ5.keep K265
          have f271 := VJ5.keep K265 (ninS (Ne.symm neJ5) nin0)
          have zs272 : n0 ≤ T265.heap.size := Nat.le_trans zJ5 K265.1
          show own_G p e below (T265.setTop (mkF m 171 #[.val (.long q1), .second, .val (.long q2), .second, .val (.long q3), .second, .val (.long q4), .second, .val (.int p5), .val (.int p6), .val (.ref b215), .val (.int f1), .val (.int f2), .val (.int f3), .val (.int f4), .val (.int f5), .val (.int f6), .unset, .unset, .unset, .unset, .unset, .unset] [(.ref b215)])) _
          refine own_go (fun _ k => XS.pop X265.here hx rfl (hb hby at_171) rfl rfl k) ?_
          show own_G p e below (T265.setTop (mkF m 172 #[.val (.long q1), .second, .val (.long q2), .second, .val (.long q3), .second, .val (.long q4), .second, .val (.int p5), .val (.int p6), .val (.ref b215), .val (.int f1), .val (.int f2), .val (.int f3), .val (.int f4), .val (.int f5), .val (.int f6), .unset, .unset, .unset, .unset, .unset, .unset] [])) _
          exact JW6 T265 _ _ _ _ _ (X265.more (by decide) (by decide)) N265 zs272 ge268 ne266 Eo265 Fb265 Fl265 Eb265 Vq265 (by rw [own_opt_yes hc161_264]) (Or.inr rfl) (by simp only [List.length_append, List.length_cons, List.length_nil, own_len_sb, own_len_ib, own_len_lb]; omega)
        · show own_G p e below (TJ5.setTop (mkF m 168 #[.val (.long q1), .second, .val (.long q2), .second, .val (.long q3), .second, .val (.long q4), .second, .val (.int p5), .val (.int p6), .val (.ref b215), .val (.int f1), .val (.int f2), .val (.int f3), .val (.int f4), .val (.int f5), .val (.int f6), .unset, .unset, .unset, .unset, .unset, .unset] [(.int p5), (.ref b215)])) _
          obtain ⟨cq273, kq273, q273a, q273b, q273c⟩ := isOf hZ rfl EJ5
          obtain ⟨_, _, ⟨T273, L273, k273, n273⟩, -, X273, ⟨Lc273, hQ273, l273, y273, z273⟩, st273⟩ := XJ5.virtualBack hx (y := (⟨"com/example/orbweave/orbweave/ByteWriter", "writeInt", "(I)Lcom/example/orbweave/orbweave/ByteWriter;"⟩ : MethodName)) (z := (⟨"com/example/orbweave/orbweave/ByteWriter", "writeInt", "(I)Lcom/example/orbweave/orbweave/ByteWriter;"⟩ : MethodName)) hown (mvT hZ (hw _ (List.mem_of_getElem? (i := 56) rfl))) (mvT hZ (hw _ (List.mem_of_getElem? (i := 46) rfl))) (notFace_of_selects (args := #[]) (mvT hZ (hw _ (List.mem_of_getElem? (i := 48) rfl)))) (mvT hZ (hw _ (List.mem_of_getElem? (i := 48) rfl))) (mvT hZ (hw _ (List.mem_of_getElem? (i := 47) rfl))) (by decide) (backOf (W := 0) (rm9_0 l Z a0 hw [] b215 p5 bJ5 kJ5 (32 : Int32) u5 TJ5.heap n0 zJ5 EJ5 FbJ5 FlJ5 ge216 VJ5 EbJ5 gbJ5 (by rw [show ((32 : Int32)).toNatClampNeg = 32 from by decide]; omega) (by decide)) hZ (hw _ (List.mem_of_getElem? (i := 49) rfl)) (hw _ (List.mem_of_getElem? (i := 2) rfl)) (by decide) (by decide)) q273a q273c (g := (mkF m 168 #[.val (.long q1), .second, .val (.long q2), .second, .val (.long q3), .second, .val (.long q4), .second, .val (.int p5), .val (.int p6), .val (.ref b215), .val (.int f1), .val (.int f2), .val (.int f3), .val (.int f4), .val (.int f5), .val (.int f6), .unset, .unset, .unset, .unset, .unset, .unset] [(.int p5), (.ref b215)])) rfl (by rw [hml]; rfl) (Steps.refl _) (argsL := [(.int p5)]) (rest := []) (lenOf pd_3 rfl) rfl (by show 2 * 0 + _ ≤ _; exact Nat.le_of_eq rfl) (hb hby at_168) (fun _ _ => ⟨rfl, rfl, (by decide : 3 + 0 ≤ _), (by decide : 98 + 0 ≤ _)⟩)
          dsimp only [Pt.U, Pt.locs, Pt.cells, Pt.slots] at X273 l273 y273 z273 st273 hQ273
          subst l273 y273 z273
          obtain ⟨rfl, Nq273, K273, Eo273, Fb273, Fl273, Eb273, Vq273⟩ := hQ273
          have N273 := Fr.app NJ5 Nq273
          refine own_go (fun _ k => st273.trans k) ?_
          have f274 := EJ5.keep K273
          have f275 := EbJ5.keep K273
          have zs276 : n0 ≤ T273.heap.size := Nat.le_trans zJ5 K273.1
          show own_G p e below (T273.setTop (mkF m 171 #[.val (.long q1), .second, .val (.long q2), .second, .val (.long q3), .second, .val (.long q4), .second, .val (.int p5), .val (.int p6), .val (.ref b215), .val (.int f1), .val (.int f2), .val (.int f3), .val (.int f4), .val (.int f5), .val (.int f6), .unset, .unset, .unset, .unset, .unset, .unset] [(.ref b215)])) _
          refine own_go (fun _ k => XS.pop X273.here hx rfl (hb hby at_171) rfl rfl k) ?_
          show own_G p e below (T273.setTop (mkF m 172 #[.val (.long q1), .second, .val (.long q2), .second, .val (.long q3), .second, .val (.long q4), .second, .val (.int p5), .val (.int p6), .val (.ref b215), .val (.int f1), .val (.int f2), .val (.int f3), .val (.int f4), .val (.int f5), .val (.int f6), .unset, .unset, .unset, .unset, .unset, .unset] [])) _
          exact JW6 T273 _ _ _ _ _ (X273.more (by decide) (by decide)) N273 zs276 gbJ5 neJ5 Eo273 Fb273 Fl273 Eb273 Vq273 (by rw [own_opt_yes hc161_264]) (Or.inl ⟨rfl, by simp only [List.length_append, List.length_cons, List.length_nil, own_len_sb, own_len_ib, own_len_lb]; omega⟩) (by simp only [List.length_append, List.length_cons, List.length_nil, own_len_sb, own_len_ib, own_len_lb]; omega)
      · show own_G p e below (TJ5.setTop (mkF m 168 #[.val (.long q1), .second, .val (.long q2), .second, .val (.long q3), .second, .val (.long q4), .second, .val (.int p5), .val (.int p6), .val (.ref b215), .val (.int f1), .val (.int f2), .val (.int f3), .val (.int f4), .val (.int f5), .val (.int f6), .unset, .unset, .unset, .unset, .unset, .unset] [(.int p5), (.ref b215)])) _
        obtain ⟨cq277, kq277, q277a, q277b, q277c⟩ := isOf hZ rfl EJ5
        obtain ⟨_, _, ⟨T277, L277, k277, n277⟩, -, X277, ⟨Lc277, hQ277, l277, y277, z277⟩, st277⟩ := XJ5.virtualBack hx (y := (⟨"com/example/orbweave/orbweave/ByteWriter", "writeInt", "(I)Lcom/example/orbweave/orbweave/ByteWriter;"⟩ : MethodName)) (z := (⟨"com/example/orbweave/orbweave/ByteWriter", "writeInt", "(I)Lcom/example/orbweave/orbweave/ByteWriter;"⟩ : MethodName)) hown (mvT hZ (hw _ (List.mem_of_getElem? (i := 56) rfl))) (mvT hZ (hw _ (List.mem_of_getElem? (i := 46) rfl))) (notFace_of_selects (args := #[]) (mvT hZ (hw _ (List.mem_of_getElem? (i := 48) rfl)))) (mvT hZ (hw _ (List.mem_of_getElem? (i := 48) rfl))) (mvT hZ (hw _ (List.mem_of_getElem? (i := 47) rfl))) (by decide) (backOf (W := 0) (rm9_0 l Z a0 hw [] b215 p5 bJ5 kJ5 (64 : Int32) u5 TJ5.heap n0 zJ5 EJ5 FbJ5 FlJ5 ge216 VJ5 EbJ5 gbJ5 (by rw [show ((64 : Int32)).toNatClampNeg = 64 from by decide]; omega) (by decide)) hZ (hw _ (List.mem_of_getElem? (i := 49) rfl)) (hw _ (List.mem_of_getElem? (i := 2) rfl)) (by decide) (by decide)) q277a q277c (g := (mkF m 168 #[.val (.long q1), .second, .val (.long q2), .second, .val (.long q3), .second, .val (.long q4), .second, .val (.int p5), .val (.int p6), .val (.ref b215), .val (.int f1), .val (.int f2), .val (.int f3), .val (.int f4), .val (.int f5), .val (.int f6), .unset, .unset, .unset, .unset, .unset, .unset] [(.int p5), (.ref b215)])) rfl (by rw [hml]; rfl) (Steps.refl _) (argsL := [(.int p5)]) (rest := []) (lenOf pd_3 rfl) rfl (by show 2 * 0 + _ ≤ _; exact Nat.le_of_eq rfl) (hb hby at_168) (fun _ _ => ⟨rfl, rfl, (by decide : 3 + 0 ≤ _), (by decide : 98 + 0 ≤ _)⟩)
        dsimp only [Pt.U, Pt.locs, Pt.cells, Pt.slots] at X277 l277 y277 z277 st277 hQ277
        subst l277 y277 z277
        obtain ⟨rfl, Nq277, K277, Eo277, Fb277, Fl277, Eb277, Vq277⟩ := hQ277
        have N277 := Fr.app NJ5 Nq277
        refine own_go (fun _ k => st277.trans k) ?_
        have f278 := EJ5.keep K277
        have f279 := EbJ5.keep K277
        have zs280 : n0 ≤ T277.heap.size := Nat.le_trans zJ5 K277.1
        show own_G p e below (T277.setTop (mkF m 171 #[.val (.long q1), .second, .val (.long q2), .second, .val (.long q3), .second, .val (.long q4), .second, .val (.int p5), .val (.int p6), .val (.ref b215), .val (.int f1), .val (.int f2), .val (.int f3), .val (.int f4), .val (.int f5), .val (.int f6), .unset, .unset, .unset, .unset, .unset, .unset] [(.ref b215)])) _
        refine own_go (fun _ k => XS.pop X277.here hx rfl (hb hby at_171) rfl rfl k) ?_
        show own_G p e below (T277.setTop (mkF m 172 #[.val (.long q1), .second, .val (.long q2), .second, .val (.long q3), .second, .val (.long q4), .second, .val (.int p5), .val (.int p6), .val (.ref b215), .val (.int f1), .val (.int f2), .val (.int f3), .val (.int f4), .val (.int f5), .val (.int f6), .unset, .unset, .unset, .unset, .unset, .unset] [])) _
        exact JW6 T277 _ _ _ _ _ (X277.more (by decide) (by decide)) N277 zs280 gbJ5 neJ5 Eo277 Fb277 Fl277 Eb277 Vq277 (by rw [own_opt_yes hc161_264]) (Or.inr rfl) (by simp only [List.length_append, List.length_cons, List.length_nil, own_len_sb, own_len_ib, own_len_lb]; omega)
  intro TJ6 LJ6 u6 bJ6 kJ6 zJ6q XJ6 NJ6 zJ6 gbJ6 neJ6 EJ6 FbJ6 FlJ6 EbJ6 VJ6 hu6 hz6 hl6
  show own_G p e below (TJ6.setTop (mkF m 172 #[.val (.long q1), .second, .val (.long q2), .second, .val (.long q3), .second, .val (.long q4), .second, .val (.int p5), .val (.int p6), .val (.ref b215), .val (.int f1), .val (.int f2), .val (.int f3), .val (.int f4), .val (.int f5), .val (.int f6), .unset, .unset, .unset, .unset, .unset, .unset] [])) _
  refine own_go (fun _ k => XS.iload XJ6.here hx rfl (hb hby at_172) rfl k) ?_
  show own_G p e below (TJ6.setTop (mkF m 174 #[.val (.long q1), .second, .val (.long q2), .second, .val (.long q3), .second, .val (.long q4), .second, .val (.int p5), .val (.int p6), .val (.ref b215), .val (.int f1), .val (.int f2), .val (.int f3), .val (.int f4), .val (.int f5), .val (.int f6), .unset, .unset, .unset, .unset, .unset, .unset] [(.int f1)])) _
  suffices JN1 : ∀ (g1 : Int32) (_ : g1 = own_opn f1 8), own_G p e below (TJ6.setTop (mkF m 183 #[.val (.long q1), .second, .val (.long q2), .second, .val (.long q3), .second, .val (.long q4), .second, .val (.int p5), .val (.int p6), .val (.ref b215), .val (.int f1), .val (.int f2), .val (.int f3), .val (.int f4), .val (.int f5), .val (.int f6), .unset, .unset, .unset, .unset, .unset, .unset] [(.int g1)])) (fun s₂ o => ∃ v L, o = .returned v ∧ Q0 Z q1 q2 q3 q4 p5 p6 h0 n0 v s₂.heap L ∧ FrameEnd s o s₂ L room_1.cells room_1.slots) by
    show own_G p e below (TJ6.setTop (mkF m 174 #[.val (.long q1), .second, .val (.long q2), .second, .val (.long q3), .second, .val (.long q4), .second, .val (.int p5), .val (.int p6), .val (.ref b215), .val (.int f1), .val (.int f2), .val (.int f3), .val (.int f4), .val (.int f5), .val (.int f6), .unset, .unset, .unset, .unset, .unset, .unset] [(.int f1)])) _
    by_cases hc174_281 : f1 = (0 : Int32)
    · refine own_go (fun _ k => XS.ifYes XJ6.here hx rfl (pc0 := 174) (pc' := 182) rfl (hb hby at_174) rfl ((if0 _ _).trans (teq hc174_281).1) (by decide) (by decide) k) ?_
      show own_G p e below (TJ6.setTop (mkF m 182 #[.val (.long q1), .second, .val (.long q2), .second, .val (.long q3), .second, .val (.long q4), .second, .val (.int p5), .val (.int p6), .val (.ref b215), .val (.int f1), .val (.int f2), .val (.int f3), .val (.int f4), .val (.int f5), .val (.int f6), .unset, .unset, .unset, .unset, .unset, .unset] [])) _
      refine own_go (fun _ k => XS.iconst XJ6.here hx rfl (hb hby at_182) k) ?_
      show own_G p e below (TJ6.setTop (mkF m 183 #[.val (.long q1), .second, .val (.long q2), .second, .val (.long q3), .second, .val (.long q4), .second, .val (.int p5), .val (.int p6), .val (.ref b215), .val (.int f1), .val (.int f2), .val (.int f3), .val (.int f4), .val (.int f5), .val (.int f6), .unset, .unset, .unset, .unset, .unset, .unset] [(.int (0 : Int32))])) _
      exact JN1 _ (by simp [own_opn, hc174_281])
    · refine own_go (fun _ k => XS.ifNo XJ6.here hx rfl (hb hby at_174) rfl ((if0 _ _).trans (feq hc174_281).1) k) ?_
      show own_G p e below (TJ6.setTop (mkF m 177 #[.val (.long q1), .second, .val (.long q2), .second, .val (.long q3), .second, .val (.long q4), .second, .val (.int p5), .val (.int p6), .val (.ref b215), .val (.int f1), .val (.int f2), .val (.int f3), .val (.int f4), .val (.int f5), .val (.int f6), .unset, .unset, .unset, .unset, .unset, .unset] [])) _
      refine own_go (fun _ k => XS.bipush XJ6.here hx rfl (hb hby at_177) k) ?_
      show own_G p e below (TJ6.setTop (mkF m 179 #[.val (.long q1), .second, .val (.long q2), .second, .val (.long q3), .second, .val (.long q4), .second, .val (.int p5), .val (.int p6), .val (.ref b215), .val (.int f1), .val (.int f2), .val (.int f3), .val (.int f4), .val (.int f5), .val (.int f6), .unset, .unset, .unset, .unset, .unset, .unset] [(.int (8 : Int32))])) _
      refine own_go (fun _ k => XS.goto XJ6.here hx rfl (pc0 := 179) (pc' := 183) rfl (hb hby at_179) (by decide) (by decide) k) ?_
      show own_G p e below (TJ6.setTop (mkF m 183 #[.val (.long q1), .second, .val (.long q2), .second, .val (.long q3), .second, .val (.long q4), .second, .val (.int p5), .val (.int p6), .val (.ref b215), .val (.int f1), .val (.int f2), .val (.int f3), .val (.int f4), .val (.int f5), .val (.int f6), .unset, .unset, .unset, .unset, .unset, .unset] [(.int (8 : Int32))])) _
      exact JN1 _ (by simp [own_opn, hc174_281])
  intro g1 hg1
  show own_G p e below (TJ6.setTop (mkF m 183 #[.val (.long q1), .second, .val (.long q2), .second, .val (.long q3), .second, .val (.long q4), .second, .val (.int p5), .val (.int p6), .val (.ref b215), .val (.int f1), .val (.int f2), .val (.int f3), .val (.int f4), .val (.int f5), .val (.int f6), .unset, .unset, .unset, .unset, .unset, .unset] [(.int g1)])) _
  refine own_go (fun _ k => XS.iload XJ6.here hx rfl (hb hby at_183) rfl k) ?_
  show own_G p e below (TJ6.setTop (mkF m 185 #[.val (.long q1), .second, .val (.long q2), .second, .val (.long q3), .second, .val (.long q4), .second, .val (.int p5), .val (.int p6), .val (.ref b215), .val (.int f1), .val (.int f2), .val (.int f3), .val (.int f4), .val (.int f5), .val (.int f6), .unset, .unset, .unset, .unset, .unset, .unset] [(.int f2), (.int g1)])) _
  suffices JN2 : ∀ (g2 : Int32) (_ : g2 = own_opn f2 8), own_G p e below (TJ6.setTop (mkF m 194 #[.val (.long q1), .second, .val (.long q2), .second, .val (.long q3), .second, .val (.long q4), .second, .val (.int p5), .val (.int p6), .val (.ref b215), .val (.int f1), .val (.int f2), .val (.int f3), .val (.int f4), .val (.int f5), .val (.int f6), .unset, .unset, .unset, .unset, .unset, .unset] [(.int g2), (.int g1)])) (fun s₂ o => ∃ v L, o = .returned v ∧ Q0 Z q1 q2 q3 q4 p5 p6 h0 n0 v s₂.heap L ∧ FrameEnd s o s₂ L room_1.cells room_1.slots) by
    show own_G p e below (TJ6.setTop (mkF m 185 #[.val (.long q1), .second, .val (.long q2), .second, .val (.long q3), .second, .val (.long q4), .second, .val (.int p5), .val (.int p6), .val (.ref b215), .val (.int f1), .val (.int f2), .val (.int f3), .val (.int f4), .val (.int f5), .val (.int f6), .unset, .unset, .unset, .unset, .unset, .unset] [(.int f2), (.int g1)])) _
    by_cases hc185_282 : f2 = (0 : Int32)
    · refine own_go (fun _ k => XS.ifYes XJ6.here hx rfl (pc0 := 185) (pc' := 193) rfl (hb hby at_185) rfl ((if0 _ _).trans (teq hc185_282).1) (by decide) (by decide) k) ?_
      show own_G p e below (TJ6.setTop (mkF m 193 #[.val (.long q1), .second, .val (.long q2), .second, .val (.long q3), .second, .val (.long q4), .second, .val (.int p5), .val (.int p6), .val (.ref b215), .val (.int f1), .val (.int f2), .val (.int f3), .val (.int f4), .val (.int f5), .val (.int f6), .unset, .unset, .unset, .unset, .unset, .unset] [(.int g1)])) _
      refine own_go (fun _ k => XS.iconst XJ6.here hx rfl (hb hby at_193) k) ?_
      show own_G p e below (TJ6.setTop (mkF m 194 #[.val (.long q1), .second, .val (.long q2), .second, .val (.long q3), .second, .val (.long q4), .second, .val (.int p5), .val (.int p6), .val (.ref b215), .val (.int f1), .val (.int f2), .val (.int f3), .val (.int f4), .val (.int f5), .val (.int f6), .unset, .unset, .unset, .unset, .unset, .unset] [(.int (0 : Int32)), (.int g1)])) _
      exact JN2 _ (by simp [own_opn, hc185_282])
    · refine own_go (fun _ k => XS.ifNo XJ6.here hx rfl (hb hby at_185) rfl ((if0 _ _).trans (feq hc185_282).1) k) ?_
      show own_G p e below (TJ6.setTop (mkF m 188 #[.val (.long q1), .second, .val (.long q2), .second, .val (.long q3), .second, .val (.long q4), .second, .val (.int p5), .val (.int p6), .val (.ref b215), .val (.int f1), .val (.int f2), .val (.int f3), .val (.int f4), .val (.int f5), .val (.int f6), .unset, .unset, .unset, .unset, .unset, .unset] [(.int g1)])) _
      refine own_go (fun _ k => XS.bipush XJ6.here hx rfl (hb hby at_188) k) ?_
      show own_G p e below (TJ6.setTop (mkF m 190 #[.val (.long q1), .second, .val (.long q2), .second, .val (.long q3), .second, .val (.long q4), .second, .val (.int p5), .val (.int p6), .val (.ref b215), .val (.int f1), .val (.int f2), .val (.int f3), .val (.int f4), .val (.int f5), .val (.int f6), .unset, .unset, .unset, .unset, .unset, .unset] [(.int (8 : Int32)), (.int g1)])) _
      refine own_go (fun _ k => XS.goto XJ6.here hx rfl (pc0 := 190) (pc' := 194) rfl (hb hby at_190) (by decide) (by decide) k) ?_
      show own_G p e below (TJ6.setTop (mkF m 194 #[.val (.long q1), .second, .val (.long q2), .second, .val (.long q3), .second, .val (.long q4), .second, .val (.int p5), .val (.int p6), .val (.ref b215), .val (.int f1), .val (.int f2), .val (.int f3), .val (.int f4), .val (.int f5), .val (.int f6), .unset, .unset, .unset, .unset, .unset, .unset] [(.int (8 : Int32)), (.int g1)])) _
      exact JN2 _ (by simp [own_opn, hc185_282])
  intro g2 hg2
  show own_G p e below (TJ6.setTop (mkF m 194 #[.val (.long q1), .second, .val (.long q2), .second, .val (.long q3), .second, .val (.long q4), .second, .val (.int p5), .val (.int p6), .val (.ref b215), .val (.int f1), .val (.int f2), .val (.int f3), .val (.int f4), .val (.int f5), .val (.int f6), .unset, .unset, .unset, .unset, .unset, .unset] [(.int g2), (.int g1)])) _
  refine own_go (fun _ k => XS.iadd XJ6.here hx rfl (hb hby at_194) rfl k) ?_
  show own_G p e below (TJ6.setTop (mkF m 195 #[.val (.long q1), .second, .val (.long q2), .second, .val (.long q3), .second, .val (.long q4), .second, .val (.int p5), .val (.int p6), .val (.ref b215), .val (.int f1), .val (.int f2), .val (.int f3), .val (.int f4), .val (.int f5), .val (.int f6), .unset, .unset, .unset, .unset, .unset, .unset] [(.int (g1 + g2))])) _
  refine own_go (fun _ k => XS.iload XJ6.here hx rfl (hb hby at_195) rfl k) ?_
  show own_G p e below (TJ6.setTop (mkF m 197 #[.val (.long q1), .second, .val (.long q2), .second, .val (.long q3), .second, .val (.long q4), .second, .val (.int p5), .val (.int p6), .val (.ref b215), .val (.int f1), .val (.int f2), .val (.int f3), .val (.int f4), .val (.int f5), .val (.int f6), .unset, .unset, .unset, .unset, .unset, .unset] [(.int f3), (.int (g1 + g2))])) _
  suffices JN3 : ∀ (g3 : Int32) (_ : g3 = own_opn f3 8), own_G p e below (TJ6.setTop (mkF m 206 #[.val (.long q1), .second, .val (.long q2), .second, .val (.long q3), .second, .val (.long q4), .second, .val (.int p5), .val (.int p6), .val (.ref b215), .val (.int f1), .val (.int f2), .val (.int f3), .val (.int f4), .val (.int f5), .val (.int f6), .unset, .unset, .unset, .unset, .unset, .unset] [(.int g3), (.int (g1 + g2))])) (fun s₂ o => ∃ v L, o = .returned v ∧ Q0 Z q1 q2 q3 q4 p5 p6 h0 n0 v s₂.heap L ∧ FrameEnd s o s₂ L room_1.cells room_1.slots) by
    show own_G p e below (TJ6.setTop (mkF m 197 #[.val (.long q1), .second, .val (.long q2), .second, .val (.long q3), .second, .val (.long q4), .second, .val (.int p5), .val (.int p6), .val (.ref b215), .val (.int f1), .val (.int f2), .val (.int f3), .val (.int f4), .val (.int f5), .val (.int f6), .unset, .unset, .unset, .unset, .unset, .unset] [(.int f3), (.int (g1 + g2))])) _
    by_cases hc197_283 : f3 = (0 : Int32)
    · refine own_go (fun _ k => XS.ifYes XJ6.here hx rfl (pc0 := 197) (pc' := 205) rfl (hb hby at_197) rfl ((if0 _ _).trans (teq hc197_283).1) (by decide) (by decide) k) ?_
      show own_G p e below (TJ6.setTop (mkF m 205 #[.val (.long q1), .second, .val (.long q2), .second, .val (.long q3), .second, .val (.long q4), .second, .val (.int p5), .val (.int p6), .val (.ref b215), .val (.int f1), .val (.int f2), .val (.int f3), .val (.int f4), .val (.int f5), .val (.int f6), .unset, .unset, .unset, .unset, .unset, .unset] [(.int (g1 + g2))])) _
      refine own_go (fun _ k => XS.iconst XJ6.here hx rfl (hb hby at_205) k) ?_
      show own_G p e below (TJ6.setTop (mkF m 206 #[.val (.long q1), .second, .val (.long q2), .second, .val (.long q3), .second, .val (.long q4), .second, .val (.int p5), .val (.int p6), .val (.ref b215), .val (.int f1), .val (.int f2), .val (.int f3), .val (.int f4), .val (.int f5), .val (.int f6), .unset, .unset, .unset, .unset, .unset, .unset] [(.int (0 : Int32)), (.int (g1 + g2))])) _
      exact JN3 _ (by simp [own_opn, hc197_283])
    · refine own_go (fun _ k => XS.ifNo XJ6.here hx rfl (hb hby at_197) rfl ((if0 _ _).trans (feq hc197_283).1) k) ?_
      show own_G p e below (TJ6.setTop (mkF m 200 #[.val (.long q1), .second, .val (.long q2), .second, .val (.long q3), .second, .val (.long q4), .second, .val (.int p5), .val (.int p6), .val (.ref b215), .val (.int f1), .val (.int f2), .val (.int f3), .val (.int f4), .val (.int f5), .val (.int f6), .unset, .unset, .unset, .unset, .unset, .unset] [(.int (g1 + g2))])) _
      refine own_go (fun _ k => XS.bipush XJ6.here hx rfl (hb hby at_200) k) ?_
      show own_G p e below (TJ6.setTop (mkF m 202 #[.val (.long q1), .second, .val (.long q2), .second, .val (.long q3), .second, .val (.long q4), .second, .val (.int p5), .val (.int p6), .val (.ref b215), .val (.int f1), .val (.int f2), .val (.int f3), .val (.int f4), .val (.int f5), .val (.int f6), .unset, .unset, .unset, .unset, .unset, .unset] [(.int (8 : Int32)), (.int (g1 + g2))])) _
      refine own_go (fun _ k => XS.goto XJ6.here hx rfl (pc0 := 202) (pc' := 206) rfl (hb hby at_202) (by decide) (by decide) k) ?_
      show own_G p e below (TJ6.setTop (mkF m 206 #[.val (.long q1), .second, .val (.long q2), .second, .val (.long q3), .second, .val (.long q4), .second, .val (.int p5), .val (.int p6), .val (.ref b215), .val (.int f1), .val (.int f2), .val (.int f3), .val (.int f4), .val (.int f5), .val (.int f6), .unset, .unset, .unset, .unset, .unset, .unset] [(.int (8 : Int32)), (.int (g1 + g2))])) _
      exact JN3 _ (by simp [own_opn, hc197_283])
  intro g3 hg3
  show own_G p e below (TJ6.setTop (mkF m 206 #[.val (.long q1), .second, .val (.long q2), .second, .val (.long q3), .second, .val (.long q4), .second, .val (.int p5), .val (.int p6), .val (.ref b215), .val (.int f1), .val (.int f2), .val (.int f3), .val (.int f4), .val (.int f5), .val (.int f6), .unset, .unset, .unset, .unset, .unset, .unset] [(.int g3), (.int (g1 + g2))])) _
  refine own_go (fun _ k => XS.iadd XJ6.here hx rfl (hb hby at_206) rfl k) ?_
  show own_G p e below (TJ6.setTop (mkF m 207 #[.val (.long q1), .second, .val (.long q2), .second, .val (.long q3), .second, .val (.long q4), .second, .val (.int p5), .val (.int p6), .val (.ref b215), .val (.int f1), .val (.int f2), .val (.int f3), .val (.int f4), .val (.int f5), .val (.int f6), .unset, .unset, .unset, .unset, .unset, .unset] [(.int ((g1 + g2) + g3))])) _
  refine own_go (fun _ k => XS.iload XJ6.here hx rfl (hb hby at_207) rfl k) ?_
  show own_G p e below (TJ6.setTop (mkF m 209 #[.val (.long q1), .second, .val (.long q2), .second, .val (.long q3), .second, .val (.long q4), .second, .val (.int p5), .val (.int p6), .val (.ref b215), .val (.int f1), .val (.int f2), .val (.int f3), .val (.int f4), .val (.int f5), .val (.int f6), .unset, .unset, .unset, .unset, .unset, .unset] [(.int f4), (.int ((g1 + g2) + g3))])) _
  suffices JN4 : ∀ (g4 : Int32) (_ : g4 = own_opn f4 8), own_G p e below (TJ6.setTop (mkF m 218 #[.val (.long q1), .second, .val (.long q2), .second, .val (.long q3), .second, .val (.long q4), .second, .val (.int p5), .val (.int p6), .val (.ref b215), .val (.int f1), .val (.int f2), .val (.int f3), .val (.int f4), .val (.int f5), .val (.int f6), .unset, .unset, .unset, .unset, .unset, .unset] [(.int g4), (.int ((g1 + g2) + g3))])) (fun s₂ o => ∃ v L, o = .returned v ∧ Q0 Z q1 q2 q3 q4 p5 p6 h0 n0 v s₂.heap L ∧ FrameEnd s o s₂ L room_1.cells room_1.slots) by
    show own_G p e below (TJ6.setTop (mkF m 209 #[.val (.long q1), .second, .val (.long q2), .second, .val (.long q3), .second, .val (.long q4), .second, .val (.int p5), .val (.int p6), .val (.ref b215), .val (.int f1), .val (.int f2), .val (.int f3), .val (.int f4), .val (.int f5), .val (.int f6), .unset, .unset, .unset, .unset, .unset, .unset] [(.int f4), (.int ((g1 + g2) + g3))])) _
    by_cases hc209_284 : f4 = (0 : Int32)
    · refine own_go (fun _ k => XS.ifYes XJ6.here hx rfl (pc0 := 209) (pc' := 217) rfl (hb hby at_209) rfl ((if0 _ _).trans (teq hc209_284).1) (by decide) (by decide) k) ?_
      show own_G p e below (TJ6.setTop (mkF m 217 #[.val (.long q1), .second, .val (.long q2), .second, .val (.long q3), .second, .val (.long q4), .second, .val (.int p5), .val (.int p6), .val (.ref b215), .val (.int f1), .val (.int f2), .val (.int f3), .val (.int f4), .val (.int f5), .val (.int f6), .unset, .unset, .unset, .unset, .unset, .unset] [(.int ((g1 + g2) + g3))])) _
      refine own_go (fun _ k => XS.iconst XJ6.here hx rfl (hb hby at_217) k) ?_
      show own_G p e below (TJ6.setTop (mkF m 218 #[.val (.long q1), .second, .val (.long q2), .second, .val (.long q3), .second, .val (.long q4), .second, .val (.int p5), .val (.int p6), .val (.ref b215), .val (.int f1), .val (.int f2), .val (.int f3), .val (.int f4), .val (.int f5), .val (.int f6), .unset, .unset, .unset, .unset, .unset, .unset] [(.int (0 : Int32)), (.int ((g1 + g2) + g3))])) _
      exact JN4 _ (by simp [own_opn, hc209_284])
    · refine own_go (fun _ k => XS.ifNo XJ6.here hx rfl (hb hby at_209) rfl ((if0 _ _).trans (feq hc209_284).1) k) ?_
      show own_G p e below (TJ6.setTop (mkF m 212 #[.val (.long q1), .second, .val (.long q2), .second, .val (.long q3), .second, .val (.long q4), .second, .val (.int p5), .val (.int p6), .val (.ref b215), .val (.int f1), .val (.int f2), .val (.int f3), .val (.int f4), .val (.int f5), .val (.int f6), .unset, .unset, .unset, .unset, .unset, .unset] [(.int ((g1 + g2) + g3))])) _
      refine own_go (fun _ k => XS.bipush XJ6.here hx rfl (hb hby at_212) k) ?_
      show own_G p e below (TJ6.setTop (mkF m 214 #[.val (.long q1), .second, .val (.long q2), .second, .val (.long q3), .second, .val (.long q4), .second, .val (.int p5), .val (.int p6), .val (.ref b215), .val (.int f1), .val (.int f2), .val (.int f3), .val (.int f4), .val (.int f5), .val (.int f6), .unset, .unset, .unset, .unset, .unset, .unset] [(.int (8 : Int32)), (.int ((g1 + g2) + g3))])) _
      refine own_go (fun _ k => XS.goto XJ6.here hx rfl (pc0 := 214) (pc' := 218) rfl (hb hby at_214) (by decide) (by decide) k) ?_
      show own_G p e below (TJ6.setTop (mkF m 218 #[.val (.long q1), .second, .val (.long q2), .second, .val (.long q3), .second, .val (.long q4), .second, .val (.int p5), .val (.int p6), .val (.ref b215), .val (.int f1), .val (.int f2), .val (.int f3), .val (.int f4), .val (.int f5), .val (.int f6), .unset, .unset, .unset, .unset, .unset, .unset] [(.int (8 : Int32)), (.int ((g1 + g2) + g3))])) _
      exact JN4 _ (by simp [own_opn, hc209_284])
  intro g4 hg4
  show own_G p e below (TJ6.setTop (mkF m 218 #[.val (.long q1), .second, .val (.long q2), .second, .val (.long q3), .second, .val (.long q4), .second, .val (.int p5), .val (.int p6), .val (.ref b215), .val (.int f1), .val (.int f2), .val (.int f3), .val (.int f4), .val (.int f5), .val (.int f6), .unset, .unset, .unset, .unset, .unset, .unset] [(.int g4), (.int ((g1 + g2) + g3))])) _
  refine own_go (fun _ k => XS.iadd XJ6.here hx rfl (hb hby at_218) rfl k) ?_
  show own_G p e below (TJ6.setTop (mkF m 219 #[.val (.long q1), .second, .val (.long q2), .second, .val (.long q3), .second, .val (.long q4), .second, .val (.int p5), .val (.int p6), .val (.ref b215), .val (.int f1), .val (.int f2), .val (.int f3), .val (.int f4), .val (.int f5), .val (.int f6), .unset, .unset, .unset, .unset, .unset, .unset] [(.int (((g1 + g2) + g3) + g4))])) _
  refine own_go (fun _ k => XS.iload XJ6.here hx rfl (hb hby at_219) rfl k) ?_
  show own_G p e below (TJ6.setTop (mkF m 221 #[.val (.long q1), .second, .val (.long q2), .second, .val (.long q3), .second, .val (.long q4), .second, .val (.int p5), .val (.int p6), .val (.ref b215), .val (.int f1), .val (.int f2), .val (.int f3), .val (.int f4), .val (.int f5), .val (.int f6), .unset, .unset, .unset, .unset, .unset, .unset] [(.int f5), (.int (((g1 + g2) + g3) + g4))])) _
  suffices JN5 : ∀ (g5 : Int32) (_ : g5 = own_opn f5 1), own_G p e below (TJ6.setTop (mkF m 229 #[.val (.long q1), .second, .val (.long q2), .second, .val (.long q3), .second, .val (.long q4), .second, .val (.int p5), .val (.int p6), .val (.ref b215), .val (.int f1), .val (.int f2), .val (.int f3), .val (.int f4), .val (.int f5), .val (.int f6), .unset, .unset, .unset, .unset, .unset, .unset] [(.int g5), (.int (((g1 + g2) + g3) + g4))])) (fun s₂ o => ∃ v L, o = .returned v ∧ Q0 Z q1 q2 q3 q4 p5 p6 h0 n0 v s₂.heap L ∧ FrameEnd s o s₂ L room_1.cells room_1.slots) by
    show own_G p e below (TJ6.setTop (mkF m 221 #[.val (.long q1), .second, .val (.long q2), .second, .val (.long q3), .second, .val (.long q4), .second, .val (.int p5), .val (.int p6), .val (.ref b215), .val (.int f1), .val (.int f2), .val (.int f3), .val (.int f4), .val (.int f5), .val (.int f6), .unset, .unset, .unset, .unset, .unset, .unset] [(.int f5), (.int (((g1 + g2) + g3) + g4))])) _
    by_cases hc221_285 : f5 = (0 : Int32)
    · refine own_go (fun _ k => XS.ifYes XJ6.here hx rfl (pc0 := 221) (pc' := 228) rfl (hb hby at_221) rfl ((if0 _ _).trans (teq hc221_285).1) (by decide) (by decide) k) ?_
      show own_G p e below (TJ6.setTop (mkF m 228 #[.val (.long q1), .second, .val (.long q2), .second, .val (.long q3), .second, .val (.long q4), .second, .val (.int p5), .val (.int p6), .val (.ref b215), .val (.int f1), .val (.int f2), .val (.int f3), .val (.int f4), .val (.int f5), .val (.int f6), .unset, .unset, .unset, .unset, .unset, .unset] [(.int (((g1 + g2) + g3) + g4))])) _
      refine own_go (fun _ k => XS.iconst XJ6.here hx rfl (hb hby at_228) k) ?_
      show own_G p e below (TJ6.setTop (mkF m 229 #[.val (.long q1), .second, .val (.long q2), .second, .val (.long q3), .second, .val (.long q4), .second, .val (.int p5), .val (.int p6), .val (.ref b215), .val (.int f1), .val (.int f2), .val (.int f3), .val (.int f4), .val (.int f5), .val (.int f6), .unset, .unset, .unset, .unset, .unset, .unset] [(.int (0 : Int32)), (.int (((g1 + g2) + g3) + g4))])) _
      exact JN5 _ (by simp [own_opn, hc221_285])
    · refine own_go (fun _ k => XS.ifNo XJ6.here hx rfl (hb hby at_221) rfl ((if0 _ _).trans (feq hc221_285).1) k) ?_
      show own_G p e below (TJ6.setTop (mkF m 224 #[.val (.long q1), .second, .val (.long q2), .second, .val (.long q3), .second, .val (.long q4), .second, .val (.int p5), .val (.int p6), .val (.ref b215), .val (.int f1), .val (.int f2), .val (.int f3), .val (.int f4), .val (.int f5), .val (.int f6), .unset, .unset, .unset, .unset, .unset, .unset] [(.int (((g1 + g2) + g3) + g4))])) _
      refine own_go (fun _ k => XS.iconst XJ6.here hx rfl (hb hby at_224) k) ?_
      show own_G p e below (TJ6.setTop (mkF m 225 #[.val (.long q1), .second, .val (.long q2), .second, .val (.long q3), .second, .val (.long q4), .second, .val (.int p5), .val (.int p6), .val (.ref b215), .val (.int f1), .val (.int f2), .val (.int f3), .val (.int f4), .val (.int f5), .val (.int f6), .unset, .unset, .unset, .unset, .unset, .unset] [(.int (1 : Int32)), (.int (((g1 + g2) + g3) + g4))])) _
      refine own_go (fun _ k => XS.goto XJ6.here hx rfl (pc0 := 225) (pc' := 229) rfl (hb hby at_225) (by decide) (by decide) k) ?_
      show own_G p e below (TJ6.setTop (mkF m 229 #[.val (.long q1), .second, .val (.long q2), .second, .val (.long q3), .second, .val (.long q4), .second, .val (.int p5), .val (.int p6), .val (.ref b215), .val (.int f1), .val (.int f2), .val (.int f3), .val (.int f4), .val (.int f5), .val (.int f6), .unset, .unset, .unset, .unset, .unset, .unset] [(.int (1 : Int32)), (.int (((g1 + g2) + g3) + g4))])) _
      exact JN5 _ (by simp [own_opn, hc221_285])
  intro g5 hg5
  show own_G p e below (TJ6.setTop (mkF m 229 #[.val (.long q1), .second, .val (.long q2), .second, .val (.long q3), .second, .val (.long q4), .second, .val (.int p5), .val (.int p6), .val (.ref b215), .val (.int f1), .val (.int f2), .val (.int f3), .val (.int f4), .val (.int f5), .val (.int f6), .unset, .unset, .unset, .unset, .unset, .unset] [(.int g5), (.int (((g1 + g2) + g3) + g4))])) _
  refine own_go (fun _ k => XS.iadd XJ6.here hx rfl (hb hby at_229) rfl k) ?_
  show own_G p e below (TJ6.setTop (mkF m 230 #[.val (.long q1), .second, .val (.long q2), .second, .val (.long q3), .second, .val (.long q4), .second, .val (.int p5), .val (.int p6), .val (.ref b215), .val (.int f1), .val (.int f2), .val (.int f3), .val (.int f4), .val (.int f5), .val (.int f6), .unset, .unset, .unset, .unset, .unset, .unset] [(.int ((((g1 + g2) + g3) + g4) + g5))])) _
  refine own_go (fun _ k => XS.iload XJ6.here hx rfl (hb hby at_230) rfl k) ?_
  show own_G p e below (TJ6.setTop (mkF m 232 #[.val (.long q1), .second, .val (.long q2), .second, .val (.long q3), .second, .val (.long q4), .second, .val (.int p5), .val (.int p6), .val (.ref b215), .val (.int f1), .val (.int f2), .val (.int f3), .val (.int f4), .val (.int f5), .val (.int f6), .unset, .unset, .unset, .unset, .unset, .unset] [(.int f6), (.int ((((g1 + g2) + g3) + g4) + g5))])) _
  suffices JN6 : ∀ (g6 : Int32) (_ : g6 = own_opn f6 4), own_G p e below (TJ6.setTop (mkF m 240 #[.val (.long q1), .second, .val (.long q2), .second, .val (.long q3), .second, .val (.long q4), .second, .val (.int p5), .val (.int p6), .val (.ref b215), .val (.int f1), .val (.int f2), .val (.int f3), .val (.int f4), .val (.int f5), .val (.int f6), .unset, .unset, .unset, .unset, .unset, .unset] [(.int g6), (.int ((((g1 + g2) + g3) + g4) + g5))])) (fun s₂ o => ∃ v L, o = .returned v ∧ Q0 Z q1 q2 q3 q4 p5 p6 h0 n0 v s₂.heap L ∧ FrameEnd s o s₂ L room_1.cells room_1.slots) by
    show own_G p e below (TJ6.setTop (mkF m 232 #[.val (.long q1), .second, .val (.long q2), .second, .val (.long q3), .second, .val (.long q4), .second, .val (.int p5), .val (.int p6), .val (.ref b215), .val (.int f1), .val (.int f2), .val (.int f3), .val (.int f4), .val (.int f5), .val (.int f6), .unset, .unset, .unset, .unset, .unset, .unset] [(.int f6), (.int ((((g1 + g2) + g3) + g4) + g5))])) _
    by_cases hc232_286 : f6 = (0 : Int32)
    · refine own_go (fun _ k => XS.ifYes XJ6.here hx rfl (pc0 := 232) (pc' := 239) rfl (hb hby at_232) rfl ((if0 _ _).trans (teq hc232_286).1) (by decide) (by decide) k) ?_
      show own_G p e below (TJ6.setTop (mkF m 239 #[.val (.long q1), .second, .val (.long q2), .second, .val (.long q3), .second, .val (.long q4), .second, .val (.int p5), .val (.int p6), .val (.ref b215), .val (.int f1), .val (.int f2), .val (.int f3), .val (.int f4), .val (.int f5), .val (.int f6), .unset, .unset, .unset, .unset, .unset, .unset] [(.int ((((g1 + g2) + g3) + g4) + g5))])) _
      refine own_go (fun _ k => XS.iconst XJ6.here hx rfl (hb hby at_239) k) ?_
      show own_G p e below (TJ6.setTop (mkF m 240 #[.val (.long q1), .second, .val (.long q2), .second, .val (.long q3), .second, .val (.long q4), .second, .val (.int p5), .val (.int p6), .val (.ref b215), .val (.int f1), .val (.int f2), .val (.int f3), .val (.int f4), .val (.int f5), .val (.int f6), .unset, .unset, .unset, .unset, .unset, .unset] [(.int (0 : Int32)), (.int ((((g1 + g2) + g3) + g4) + g5))])) _
      exact JN6 _ (by simp [own_opn, hc232_286])
    · refine own_go (fun _ k => XS.ifNo XJ6.here hx rfl (hb hby at_232) rfl ((if0 _ _).trans (feq hc232_286).1) k) ?_
      show own_G p e below (TJ6.setTop (mkF m 235 #[.val (.long q1), .second, .val (.long q2), .second, .val (.long q3), .second, .val (.long q4), .second, .val (.int p5), .val (.int p6), .val (.ref b215), .val (.int f1), .val (.int f2), .val (.int f3), .val (.int f4), .val (.int f5), .val (.int f6), .unset, .unset, .unset, .unset, .unset, .unset] [(.int ((((g1 + g2) + g3) + g4) + g5))])) _
      refine own_go (fun _ k => XS.iconst XJ6.here hx rfl (hb hby at_235) k) ?_
      show own_G p e below (TJ6.setTop (mkF m 236 #[.val (.long q1), .second, .val (.long q2), .second, .val (.long q3), .second, .val (.long q4), .second, .val (.int p5), .val (.int p6), .val (.ref b215), .val (.int f1), .val (.int f2), .val (.int f3), .val (.int f4), .val (.int f5), .val (.int f6), .unset, .unset, .unset, .unset, .unset, .unset] [(.int (4 : Int32)), (.int ((((g1 + g2) + g3) + g4) + g5))])) _
      refine own_go (fun _ k => XS.goto XJ6.here hx rfl (pc0 := 236) (pc' := 240) rfl (hb hby at_236) (by decide) (by decide) k) ?_
      show own_G p e below (TJ6.setTop (mkF m 240 #[.val (.long q1), .second, .val (.long q2), .second, .val (.long q3), .second, .val (.long q4), .second, .val (.int p5), .val (.int p6), .val (.ref b215), .val (.int f1), .val (.int f2), .val (.int f3), .val (.int f4), .val (.int f5), .val (.int f6), .unset, .unset, .unset, .unset, .unset, .unset] [(.int (4 : Int32)), (.int ((((g1 + g2) + g3) + g4) + g5))])) _
      exact JN6 _ (by simp [own_opn, hc232_286])
  intro g6 hg6
  show own_G p e below (TJ6.setTop (mkF m 240 #[.val (.long q1), .second, .val (.long q2), .second, .val (.long q3), .second, .val (.long q4), .second, .val (.int p5), .val (.int p6), .val (.ref b215), .val (.int f1), .val (.int f2), .val (.int f3), .val (.int f4), .val (.int f5), .val (.int f6), .unset, .unset, .unset, .unset, .unset, .unset] [(.int g6), (.int ((((g1 + g2) + g3) + g4) + g5))])) _
  refine own_go (fun _ k => XS.iadd XJ6.here hx rfl (hb hby at_240) rfl k) ?_
  show own_G p e below (TJ6.setTop (mkF m 241 #[.val (.long q1), .second, .val (.long q2), .second, .val (.long q3), .second, .val (.long q4), .second, .val (.int p5), .val (.int p6), .val (.ref b215), .val (.int f1), .val (.int f2), .val (.int f3), .val (.int f4), .val (.int f5), .val (.int f6), .unset, .unset, .unset, .unset, .unset, .unset] [(.int (((((g1 + g2) + g3) + g4) + g5) + g6))])) _
  generalize hn : (((((g1 + g2) + g3) + g4) + g5) + g6) = n
  have hN : n = Int32.ofNat u6.length := by
    rw [← hn, hu6, ← own_sum, hu5, ← own_sum, hu4, ← own_sum, hu3, ← own_sum, hu2, ← own_sum, hu1, List.nil_append, hg1, hg2, hg3, hg4, hg5, hg6, own_opn_len f1 8 (own_lb q1) rfl, own_opn_len f2 8 (own_lb q2) rfl, own_opn_len f3 8 (own_lb q3) rfl, own_opn_len f4 8 (own_lb q4) rfl, own_opn_len f5 1 [Value.int (p5.toInt8.toInt32)] rfl, own_opn_len f6 4 (own_ib p5) rfl]
  have hr6 : u6 = u6 ++ ([] : List Value) := (List.append_nil _).symm
  have hr5 : u6 = u5 ++ (own_opt f6 (own_ib p5)) := hu6
  have hr4 : u6 = u4 ++ ((own_opt f5 [Value.int (p5.toInt8.toInt32)]) ++ (own_opt f6 (own_ib p5))) := by rw [hr5, hu5, List.append_assoc]
  have hr3 : u6 = u3 ++ ((own_opt f4 (own_lb q4)) ++ ((own_opt f5 [Value.int (p5.toInt8.toInt32)]) ++ (own_opt f6 (own_ib p5)))) := by rw [hr4, hu4, List.append_assoc]
  have hr2 : u6 = u2 ++ ((own_opt f3 (own_lb q3)) ++ ((own_opt f4 (own_lb q4)) ++ ((own_opt f5 [Value.int (p5.toInt8.toInt32)]) ++ (own_opt f6 (own_ib p5))))) := by rw [hr3, hu3, List.append_assoc]
  have hr1 : u6 = u1 ++ ((own_opt f2 (own_lb q2)) ++ ((own_opt f3 (own_lb q3)) ++ ((own_opt f4 (own_lb q4)) ++ ((own_opt f5 [Value.int (p5.toInt8.toInt32)]) ++ (own_opt f6 (own_ib p5)))))) := by rw [hr2, hu2, List.append_assoc]
  show own_G p e below (TJ6.setTop (mkF m 241 #[.val (.long q1), .second, .val (.long q2), .second, .val (.long q3), .second, .val (.long q4), .second, .val (.int p5), .val (.int p6), .val (.ref b215), .val (.int f1), .val (.int f2), .val (.int f3), .val (.int f4), .val (.int f5), .val (.int f6), .unset, .unset, .unset, .unset, .unset, .unset] [(.int n)])) _
  refine own_go (fun _ k => XS.istore XJ6.here hx rfl (hb hby at_241) rfl (l' := #[.val (.long q1), .second, .val (.long q2), .second, .val (.long q3), .second, .val (.long q4), .second, .val (.int p5), .val (.int p6), .val (.ref b215), .val (.int f1), .val (.int f2), .val (.int f3), .val (.int f4), .val (.int f5), .val (.int f6), .val (.int n), .unset, .unset, .unset, .unset, .unset]) rfl k) ?_
  show own_G p e below (TJ6.setTop (mkF m 243 #[.val (.long q1), .second, .val (.long q2), .second, .val (.long q3), .second, .val (.long q4), .second, .val (.int p5), .val (.int p6), .val (.ref b215), .val (.int f1), .val (.int f2), .val (.int f3), .val (.int f4), .val (.int f5), .val (.int f6), .val (.int n), .unset, .unset, .unset, .unset, .unset] [])) _
  refine own_go (fun _ k => XS.aload XJ6.here hx rfl (hb hby at_243) rfl rfl k) ?_
  show own_G p e below (TJ6.setTop (mkF m 245 #[.val (.long q1), .second, .val (.long q2), .second, .val (.long q3), .second, .val (.long q4), .second, .val (.int p5), .val (.int p6), .val (.ref b215), .val (.int f1), .val (.int f2), .val (.int f3), .val (.int f4), .val (.int f5), .val (.int f6), .val (.int n), .unset, .unset, .unset, .unset, .unset] [(.ref b215)])) _
  obtain ⟨cq287, kq287, q287a, q287b, q287c⟩ := isOf hZ rfl EJ6
  obtain ⟨_, _, ⟨T287, L287, k287, n287⟩, -, X287, ⟨Lc287, hQ287, l287, y287, z287⟩, st287⟩ := XJ6.virtualBack hx (y := (⟨"com/example/orbweave/orbweave/ByteWriter", "toByteArray", "()[B"⟩ : MethodName)) (z := (⟨"com/example/orbweave/orbweave/ByteWriter", "toByteArray", "()[B"⟩ : MethodName)) hown (mvT hZ (hw _ (List.mem_of_getElem? (i := 12) rfl))) (mvT hZ (hw _ (List.mem_of_getElem? (i := 13) rfl))) (notFace_of_selects (args := #[]) (mvT hZ (hw _ (List.mem_of_getElem? (i := 15) rfl)))) (mvT hZ (hw _ (List.mem_of_getElem? (i := 15) rfl))) (mvT hZ (hw _ (List.mem_of_getElem? (i := 14) rfl))) (by decide) (backOf (W := 0) (rm3 l Z a0 hw [] b215 bJ6 kJ6 zJ6q (Int32.ofNat u6.length) u6 37 TJ6.heap n0 zJ6 FbJ6 FlJ6 VJ6 EbJ6 (own_ofnn (by omega)) (by rw [own_tn (by omega)]; omega) (by decide) (own_cap hz6 hl6 (by decide))) hZ (hw _ (List.mem_of_getElem? (i := 16) rfl)) (hw _ (List.mem_of_getElem? (i := 2) rfl)) (by decide) (by decide)) q287a q287c (g := (mkF m 245 #[.val (.long q1), .second, .val (.long q2), .second, .val (.long q3), .second, .val (.long q4), .second, .val (.int p5), .val (.int p6), .val (.ref b215), .val (.int f1), .val (.int f2), .val (.int f3), .val (.int f4), .val (.int f5), .val (.int f6), .val (.int n), .unset, .unset, .unset, .unset, .unset] [(.ref b215)])) rfl (by rw [hml]; rfl) (Steps.refl _) (argsL := []) (rest := []) (lenOf pd_7 rfl) rfl (by show 2 * 0 + _ ≤ _; exact Nat.le_of_eq rfl) (hb hby at_245) (fun _ _ => ⟨rfl, rfl, (by decide : 4 + 1 ≤ _), (by decide : 162 + 37 ≤ _)⟩)
  dsimp only [Pt.U, Pt.locs, Pt.cells, Pt.slots] at X287 l287 y287 z287 st287 hQ287
  subst l287 y287 z287
  obtain ⟨b287, k287q, rfl, Nq287, K287, hsz287, E287q, Vq287⟩ := hQ287
  have N287 := Fr.app NJ6 Nq287
  refine own_go (fun _ k => st287.trans k) ?_
  have ne288 : b215 ≠ b287 := Nat.ne_of_lt (Nat.lt_of_lt_of_le EJ6.lt hsz287)
  have ne289 : bJ6 ≠ b287 := Nat.ne_of_lt (Nat.lt_of_lt_of_le EbJ6.lt hsz287)
  have ge290 : n0 ≤ b287 := Nat.le_trans zJ6 hsz287
  have f291 := EJ6.keep K287
  have f292 := FbJ6.keep K287 nin0
  have f293 := FlJ6.keep K287 nin0
  have f294 := EbJ6.keep K287
  have f295 := VJ6.keep K287 nin0
  have zs296 : n0 ≤ T287.heap.size := Nat.le_trans zJ6 K287.1
  rw [own_takeall _ (by omega)] at Vq287
  show own_G p e below (T287.setTop (mkF m 248 #[.val (.long q1), .second, .val (.long q2), .second, .val (.long q3), .second, .val (.long q4), .second, .val (.int p5), .val (.int p6), .val (.ref b215), .val (.int f1), .val (.int f2), .val (.int f3), .val (.int f4), .val (.int f5), .val (.int f6), .val (.int n), .unset, .unset, .unset, .unset, .unset] [(.ref b287)])) _
  refine own_go (fun _ k => XS.astore X287.here hx rfl (hb hby at_248) rfl rfl (l' := #[.val (.long q1), .second, .val (.long q2), .second, .val (.long q3), .second, .val (.long q4), .second, .val (.int p5), .val (.int p6), .val (.ref b215), .val (.int f1), .val (.int f2), .val (.int f3), .val (.int f4), .val (.int f5), .val (.int f6), .val (.int n), .val (.ref b287), .unset, .unset, .unset, .unset]) rfl k) ?_
  show own_G p e below (T287.setTop (mkF m 250 #[.val (.long q1), .second, .val (.long q2), .second, .val (.long q3), .second, .val (.long q4), .second, .val (.int p5), .val (.int p6), .val (.ref b215), .val (.int f1), .val (.int f2), .val (.int f3), .val (.int f4), .val (.int f5), .val (.int f6), .val (.int n), .val (.ref b287), .unset, .unset, .unset, .unset] [])) _
  refine own_go (fun _ k => XS.aload X287.here hx rfl (hb hby at_250) rfl rfl k) ?_
  show own_G p e below (T287.setTop (mkF m 252 #[.val (.long q1), .second, .val (.long q2), .second, .val (.long q3), .second, .val (.long q4), .second, .val (.int p5), .val (.int p6), .val (.ref b215), .val (.int f1), .val (.int f2), .val (.int f3), .val (.int f4), .val (.int f5), .val (.int f6), .val (.int n), .val (.ref b287), .unset, .unset, .unset, .unset] [(.ref b287)])) _
  obtain ⟨cl297, Ar297, q297, S297, M297, B297, G297⟩ := id Vq287
  refine own_go (X287.arraylength hx Ar297.1 (State.isArrayOf_alike hZ.alike Ar297.2.1) (g := (mkF m 252 #[.val (.long q1), .second, .val (.long q2), .second, .val (.long q3), .second, .val (.long q4), .second, .val (.int p5), .val (.int p6), .val (.ref b215), .val (.int f1), .val (.int f2), .val (.int f3), .val (.int f4), .val (.int f5), .val (.int f6), .val (.int n), .val (.ref b287), .unset, .unset, .unset, .unset] [(.ref b287)])) rfl rfl (hb hby at_252)) ?_
  rw [len_of S297 M297]
  show own_G p e below (T287.setTop (mkF m 253 #[.val (.long q1), .second, .val (.long q2), .second, .val (.long q3), .second, .val (.long q4), .second, .val (.int p5), .val (.int p6), .val (.ref b215), .val (.int f1), .val (.int f2), .val (.int f3), .val (.int f4), .val (.int f5), .val (.int f6), .val (.int n), .val (.ref b287), .unset, .unset, .unset, .unset] [(.int (Int32.ofNat u6.length))])) _
  refine own_go (fun _ k => XS.iload X287.here hx rfl (hb hby at_253) rfl k) ?_
  show own_G p e below (T287.setTop (mkF m 255 #[.val (.long q1), .second, .val (.long q2), .second, .val (.long q3), .second, .val (.long q4), .second, .val (.int p5), .val (.int p6), .val (.ref b215), .val (.int f1), .val (.int f2), .val (.int f3), .val (.int f4), .val (.int f5), .val (.int f6), .val (.int n), .val (.ref b287), .unset, .unset, .unset, .unset] [(.int n), (.int (Int32.ofNat u6.length))])) _
  refine own_go (fun _ k => XS.icmpYes X287.here hx rfl (pc0 := 255) (pc' := 260) rfl (hb hby at_255) rfl (teq hN.symm).1 (by decide) (by decide) k) ?_
  show own_G p e below (T287.setTop (mkF m 260 #[.val (.long q1), .second, .val (.long q2), .second, .val (.long q3), .second, .val (.long q4), .second, .val (.int p5), .val (.int p6), .val (.ref b215), .val (.int f1), .val (.int f2), .val (.int f3), .val (.int f4), .val (.int f5), .val (.int f6), .val (.int n), .val (.ref b287), .unset, .unset, .unset, .unset] [])) _
  refine own_go (fun _ k => XS.iconst X287.here hx rfl (hb hby at_260) k) ?_
  show own_G p e below (T287.setTop (mkF m 261 #[.val (.long q1), .second, .val (.long q2), .second, .val (.long q3), .second, .val (.long q4), .second, .val (.int p5), .val (.int p6), .val (.ref b215), .val (.int f1), .val (.int f2), .val (.int f3), .val (.int f4), .val (.int f5), .val (.int f6), .val (.int n), .val (.ref b287), .unset, .unset, .unset, .unset] [(.int (0 : Int32))])) _
  refine own_go (fun _ k => XS.istore X287.here hx rfl (hb hby at_261) rfl (l' := #[.val (.long q1), .second, .val (.long q2), .second, .val (.long q3), .second, .val (.long q4), .second, .val (.int p5), .val (.int p6), .val (.ref b215), .val (.int f1), .val (.int f2), .val (.int f3), .val (.int f4), .val (.int f5), .val (.int f6), .val (.int n), .val (.ref b287), .val (.int (0 : Int32)), .unset, .unset, .unset]) rfl k) ?_
  show own_G p e below (T287.setTop (mkF m 263 #[.val (.long q1), .second, .val (.long q2), .second, .val (.long q3), .second, .val (.long q4), .second, .val (.int p5), .val (.int p6), .val (.ref b215), .val (.int f1), .val (.int f2), .val (.int f3), .val (.int f4), .val (.int f5), .val (.int f6), .val (.int n), .val (.ref b287), .val (.int (0 : Int32)), .unset, .unset, .unset] [])) _
  refine own_go (fun _ k => XS.iconst X287.here hx rfl (hb hby at_263) k) ?_
  show own_G p e below (T287.setTop (mkF m 264 #[.val (.long q1), .second, .val (.long q2), .second, .val (.long q3), .second, .val (.long q4), .second, .val (.int p5), .val (.int p6), .val (.ref b215), .val (.int f1), .val (.int f2), .val (.int f3), .val (.int f4), .val (.int f5), .val (.int f6), .val (.int n), .val (.ref b287), .val (.int (0 : Int32)), .unset, .unset, .unset] [(.int (1 : Int32))])) _
  refine own_go (fun _ k => XS.istore X287.here hx rfl (hb hby at_264) rfl (l' := #[.val (.long q1), .second, .val (.long q2), .second, .val (.long q3), .second, .val (.long q4), .second, .val (.int p5), .val (.int p6), .val (.ref b215), .val (.int f1), .val (.int f2), .val (.int f3), .val (.int f4), .val (.int f5), .val (.int f6), .val (.int n), .val (.ref b287), .val (.int (0 : Int32)), .val (.int (1 : Int32)), .unset, .unset]) rfl k) ?_
  have ho0 : (0 : Int32) = Int32.ofNat ([] : List Value).length := rfl
  show own_G p e below (T287.setTop (mkF m 266 #[.val (.long q1), .second, .val (.long q2), .second, .val (.long q3), .second, .val (.long q4), .second, .val (.int p5), .val (.int p6), .val (.ref b215), .val (.int f1), .val (.int f2), .val (.int f3), .val (.int f4), .val (.int f5), .val (.int f6), .val (.int n), .val (.ref b287), .val (.int (0 : Int32)), .val (.int (1 : Int32)), .unset, .unset] [])) _
  refine own_go (fun _ k => XS.iload X287.here hx rfl (hb hby at_266) rfl k) ?_
  show own_G p e below (T287.setTop (mkF m 268 #[.val (.long q1), .second, .val (.long q2), .second, .val (.long q3), .second, .val (.long q4), .second, .val (.int p5), .val (.int p6), .val (.ref b215), .val (.int f1), .val (.int f2), .val (.int f3), .val (.int f4), .val (.int f5), .val (.int f6), .val (.int n), .val (.ref b287), .val (.int (0 : Int32)), .val (.int (1 : Int32)), .unset, .unset] [(.int f1)])) _
  suffices JC1 : ∀ (T' : State) (L' : List Loc) (o' : Int32) (_ : Stand p l e room_1 s m #[(.long q1), (.long q2), (.long q3), (.long q4), (.int p5), (.int p6)] below meth c T' L' 5 199) (_ : Fr n0 L') (_ : T'.heap = T287.heap) (_ : o' = Int32.ofNat u1.length), own_G p e below (T'.setTop (mkF m 298 #[.val (.long q1), .second, .val (.long q2), .second, .val (.long q3), .second, .val (.long q4), .second, .val (.int p5), .val (.int p6), .val (.ref b215), .val (.int f1), .val (.int f2), .val (.int f3), .val (.int f4), .val (.int f5), .val (.int f6), .val (.int n), .val (.ref b287), .val (.int o'), .val (.int (1 : Int32)), .unset, .unset] [])) (fun s₂ o => ∃ v L, o = .returned v ∧ Q0 Z q1 q2 q3 q4 p5 p6 h0 n0 v s₂.heap L ∧ FrameEnd s o s₂ L room_1.cells room_1.slots) by
    show own_G p e below (T287.setTop (mkF m 268 #[.val (.long q1), .second, .val (.long q2), .second, .val (.long q3), .second, .val (.long q4), .second, .val (.int p5), .val (.int p6), .val (.ref b215), .val (.int f1), .val (.int f2), .val (.int f3), .val (.int f4), .val (.int f5), .val (.int f6), .val (.int n), .val (.ref b287), .val (.int (0 : Int32)), .val (.int (1 : Int32)), .unset, .unset] [(.int f1)])) _
    by_cases hc268_298 : f1 = (0 : Int32)
    · refine own_go (fun _ k => XS.ifYes X287.here hx rfl (pc0 := 268) (pc' := 298) rfl (hb hby at_268) rfl ((if0 _ _).trans (teq hc268_298).1) (by decide) (by decide) k) ?_
      show own_G p e below (T287.setTop (mkF m 298 #[.val (.long q1), .second, .val (.long q2), .second, .val (.long q3), .second, .val (.long q4), .second, .val (.int p5), .val (.int p6), .val (.ref b215), .val (.int f1), .val (.int f2), .val (.int f3), .val (.int f4), .val (.int f5), .val (.int f6), .val (.int n), .val (.ref b287), .val (.int (0 : Int32)), .val (.int (1 : Int32)), .unset, .unset] [])) _
      exact JC1 T287 _ _ X287 N287 rfl (own_stay hu1 hc268_298 ho0)
    · refine own_go (fun _ k => XS.ifNo X287.here hx rfl (hb hby at_268) rfl ((if0 _ _).trans (feq hc268_298).1) k) ?_
      show own_G p e below (T287.setTop (mkF m 271 #[.val (.long q1), .second, .val (.long q2), .second, .val (.long q3), .second, .val (.long q4), .second, .val (.int p5), .val (.int p6), .val (.ref b215), .val (.int f1), .val (.int f2), .val (.int f3), .val (.int f4), .val (.int f5), .val (.int f6), .val (.int n), .val (.ref b287), .val (.int (0 : Int32)), .val (.int (1 : Int32)), .unset, .unset] [])) _
      refine own_go (fun _ k => XS.iload X287.here hx rfl (hb hby at_271) rfl k) ?_
      show own_G p e below (T287.setTop (mkF m 273 #[.val (.long q1), .second, .val (.long q2), .second, .val (.long q3), .second, .val (.long q4), .second, .val (.int p5), .val (.int p6), .val (.ref b215), .val (.int f1), .val (.int f2), .val (.int f3), .val (.int f4), .val (.int f5), .val (.int f6), .val (.int n), .val (.ref b287), .val (.int (0 : Int32)), .val (.int (1 : Int32)), .unset, .unset] [(.int (1 : Int32))])) _
      refine own_go (fun _ k => XS.ifNo X287.here hx rfl (hb hby at_273) rfl ((if0 _ _).trans (feq (by decide : ¬ ((1 : Int32) = (0 : Int32)))).1) k) ?_
      show own_G p e below (T287.setTop (mkF m 276 #[.val (.long q1), .second, .val (.long q2), .second, .val (.long q3), .second, .val (.long q4), .second, .val (.int p5), .val (.int p6), .val (.ref b215), .val (.int f1), .val (.int f2), .val (.int f3), .val (.int f4), .val (.int f5), .val (.int f6), .val (.int n), .val (.ref b287), .val (.int (0 : Int32)), .val (.int (1 : Int32)), .unset, .unset] [])) _
      refine own_go (fun _ k => XS.aload X287.here hx rfl (hb hby at_276) rfl rfl k) ?_
      show own_G p e below (T287.setTop (mkF m 278 #[.val (.long q1), .second, .val (.long q2), .second, .val (.long q3), .second, .val (.long q4), .second, .val (.int p5), .val (.int p6), .val (.ref b215), .val (.int f1), .val (.int f2), .val (.int f3), .val (.int f4), .val (.int f5), .val (.int f6), .val (.int n), .val (.ref b287), .val (.int (0 : Int32)), .val (.int (1 : Int32)), .unset, .unset] [(.ref b287)])) _
      refine own_go (fun _ k => XS.iload X287.here hx rfl (hb hby at_278) rfl k) ?_
      show own_G p e below (T287.setTop (mkF m 280 #[.val (.long q1), .second, .val (.long q2), .second, .val (.long q3), .second, .val (.long q4), .second, .val (.int p5), .val (.int p6), .val (.ref b215), .val (.int f1), .val (.int f2), .val (.int f3), .val (.int f4), .val (.int f5), .val (.int f6), .val (.int n), .val (.ref b287), .val (.int (0 : Int32)), .val (.int (1 : Int32)), .unset, .unset] [(.int (0 : Int32)), (.ref b287)])) _
      obtain ⟨_, _, ⟨T299, L299, k299, n299⟩, -, X299, ⟨Lc299, hQ299, l299, y299, z299⟩, st299⟩ := Jvm.LawKit.callS X287 hx (y := (⟨"com/example/orbweave/orbweave/ByteWriterToByteArrayPinLaw", "getLong", "([BI)J"⟩ : MethodName)) hown (mvT hZ (hw _ (List.mem_of_getElem? (i := 57) rfl))) (mvT hZ (hw _ (List.mem_of_getElem? (i := 58) rfl))) (mvT hZ (hw _ (List.mem_of_getElem? (i := 59) rfl))) (mvT hZ (hw _ (List.mem_of_getElem? (i := 60) rfl))) (by decide) (backOf (W := 0) (rm11 l Z a0 hw [] b287 (0 : Int32) k287q (Int32.ofNat u6.length) u6 q1 T287.heap n0 zs296 Vq287 (own_rd (A := ([] : List Value)) (l := (own_lb q1)) (d := (.int (0 : Int32))) (by rw [hr1, hu1, own_opt_yes hc268_298]) ho0 (by omega) rfl)) hZ (hw _ (List.mem_of_getElem? (i := 60) rfl)) (hw _ (List.mem_of_getElem? (i := 59) rfl)) (by decide) (by decide)) (g := (mkF m 280 #[.val (.long q1), .second, .val (.long q2), .second, .val (.long q3), .second, .val (.long q4), .second, .val (.int p5), .val (.int p6), .val (.ref b215), .val (.int f1), .val (.int f2), .val (.int f3), .val (.int f4), .val (.int f5), .val (.int f6), .val (.int n), .val (.ref b287), .val (.int (0 : Int32)), .val (.int (1 : Int32)), .unset, .unset] [(.int (0 : Int32)), (.ref b287)])) rfl (by rw [hml]; rfl) (argsL := [(.ref b287), (.int (0 : Int32))]) (rest := []) (lenOf pd_8 rfl) rfl (by show 2 * 0 + _ ≤ _; exact Nat.le_of_eq rfl) (hb hby at_280) (fun _ _ => ⟨rfl, rfl, (by decide : 4 + 1 + 0 ≤ _), (by decide : 162 + 37 + 0 ≤ _)⟩)
      dsimp only [Pt.U, Pt.locs, Pt.cells, Pt.slots] at X299 l299 y299 z299 st299 hQ299
      subst l299 y299 z299
      obtain ⟨rfl, Nq299, hh299⟩ := hQ299
      have N299 := Fr.app N287 Nq299
      refine own_go st299 ?_
      have e299 : T299.heap = T287.heap := hh299
      show own_G p e below (T299.setTop (mkF m 283 #[.val (.long q1), .second, .val (.long q2), .second, .val (.long q3), .second, .val (.long q4), .second, .val (.int p5), .val (.int p6), .val (.ref b215), .val (.int f1), .val (.int f2), .val (.int f3), .val (.int f4), .val (.int f5), .val (.int f6), .val (.int n), .val (.ref b287), .val (.int (0 : Int32)), .val (.int (1 : Int32)), .unset, .unset] [(.long q1)])) _
      refine own_go (fun _ k => XS.lloadN X299.here hx rfl (hb hby at_283) rfl k) ?_
      show own_G p e below (T299.setTop (mkF m 284 #[.val (.long q1), .second, .val (.long q2), .second, .val (.long q3), .second, .val (.long q4), .second, .val (.int p5), .val (.int p6), .val (.ref b215), .val (.int f1), .val (.int f2), .val (.int f3), .val (.int f4), .val (.int f5), .val (.int f6), .val (.int n), .val (.ref b287), .val (.int (0 : Int32)), .val (.int (1 : Int32)), .unset, .unset] [(.long q1), (.long q1)])) _
      refine own_go (fun _ k => XS.lcmp X299.here hx rfl (hb hby at_284) rfl k) ?_
      show own_G p e below (T299.setTop (mkF m 285 #[.val (.long q1), .second, .val (.long q2), .second, .val (.long q3), .second, .val (.long q4), .second, .val (.int p5), .val (.int p6), .val (.ref b215), .val (.int f1), .val (.int f2), .val (.int f3), .val (.int f4), .val (.int f5), .val (.int f6), .val (.int n), .val (.ref b287), .val (.int (0 : Int32)), .val (.int (1 : Int32)), .unset, .unset] [(.int (lcmpW q1 q1))])) _
      refine own_go (fun _ k => XS.ifNo X299.here hx rfl (hb hby at_285) rfl ((if0 _ _).trans (teq ((lw_eq _ _).mpr (rfl : q1 = q1))).2) k) ?_
      show own_G p e below (T299.setTop (mkF m 288 #[.val (.long q1), .second, .val (.long q2), .second, .val (.long q3), .second, .val (.long q4), .second, .val (.int p5), .val (.int p6), .val (.ref b215), .val (.int f1), .val (.int f2), .val (.int f3), .val (.int f4), .val (.int f5), .val (.int f6), .val (.int n), .val (.ref b287), .val (.int (0 : Int32)), .val (.int (1 : Int32)), .unset, .unset] [])) _
      refine own_go (fun _ k => XS.iconst X299.here hx rfl (hb hby at_288) k) ?_
      show own_G p e below (T299.setTop (mkF m 289 #[.val (.long q1), .second, .val (.long q2), .second, .val (.long q3), .second, .val (.long q4), .second, .val (.int p5), .val (.int p6), .val (.ref b215), .val (.int f1), .val (.int f2), .val (.int f3), .val (.int f4), .val (.int f5), .val (.int f6), .val (.int n), .val (.ref b287), .val (.int (0 : Int32)), .val (.int (1 : Int32)), .unset, .unset] [(.int (1 : Int32))])) _
      refine own_go (fun _ k => XS.goto X299.here hx rfl (pc0 := 289) (pc' := 293) rfl (hb hby at_289) (by decide) (by decide) k) ?_
      show own_G p e below (T299.setTop (mkF m 293 #[.val (.long q1), .second, .val (.long q2), .second, .val (.long q3), .second, .val (.long q4), .second, .val (.int p5), .val (.int p6), .val (.ref b215), .val (.int f1), .val (.int f2), .val (.int f3), .val (.int f4), .val (.int f5), .val (.int f6), .val (.int n), .val (.ref b287), .val (.int (0 : Int32)), .val (.int (1 : Int32)), .unset, .unset] [(.int (1 : Int32))])) _
      refine own_go (fun _ k => XS.istore X299.here hx rfl (hb hby at_293) rfl (l' := #[.val (.long q1), .second, .val (.long q2), .second, .val (.long q3), .second, .val (.long q4), .second, .val (.int p5), .val (.int p6), .val (.ref b215), .val (.int f1), .val (.int f2), .val (.int f3), .val (.int f4), .val (.int f5), .val (.int f6), .val (.int n), .val (.ref b287), .val (.int (0 : Int32)), .val (.int (1 : Int32)), .unset, .unset]) rfl k) ?_
      show own_G p e below (T299.setTop (mkF m 295 #[.val (.long q1), .second, .val (.long q2), .second, .val (.long q3), .second, .val (.long q4), .second, .val (.int p5), .val (.int p6), .val (.ref b215), .val (.int f1), .val (.int f2), .val (.int f3), .val (.int f4), .val (.int f5), .val (.int f6), .val (.int n), .val (.ref b287), .val (.int (0 : Int32)), .val (.int (1 : Int32)), .unset, .unset] [])) _
      refine own_go (fun _ k => XS.iinc X299.here hx rfl (hb hby at_295) rfl (l' := #[.val (.long q1), .second, .val (.long q2), .second, .val (.long q3), .second, .val (.long q4), .second, .val (.int p5), .val (.int p6), .val (.ref b215), .val (.int f1), .val (.int f2), .val (.int f3), .val (.int f4), .val (.int f5), .val (.int f6), .val (.int n), .val (.ref b287), .val (.int (8 : Int32)), .val (.int (1 : Int32)), .unset, .unset]) rfl k) ?_
      show own_G p e below (T299.setTop (mkF m 298 #[.val (.long q1), .second, .val (.long q2), .second, .val (.long q3), .second, .val (.long q4), .second, .val (.int p5), .val (.int p6), .val (.ref b215), .val (.int f1), .val (.int f2), .val (.int f3), .val (.int f4), .val (.int f5), .val (.int f6), .val (.int n), .val (.ref b287), .val (.int (8 : Int32)), .val (.int (1 : Int32)), .unset, .unset] [])) _
      exact JC1 T299 _ _ X299 N299 e299 (own_stepo hu1 hc268_298 ho0 rfl)
  intro TC1 LC1 o1 XC1 NC1 eC1 ho1
  show own_G p e below (TC1.setTop (mkF m 298 #[.val (.long q1), .second, .val (.long q2), .second, .val (.long q3), .second, .val (.long q4), .second, .val (.int p5), .val (.int p6), .val (.ref b215), .val (.int f1), .val (.int f2), .val (.int f3), .val (.int f4), .val (.int f5), .val (.int f6), .val (.int n), .val (.ref b287), .val (.int o1), .val (.int (1 : Int32)), .unset, .unset] [])) _
  refine own_go (fun _ k => XS.iload XC1.here hx rfl (hb hby at_298) rfl k) ?_
  show own_G p e below (TC1.setTop (mkF m 300 #[.val (.long q1), .second, .val (.long q2), .second, .val (.long q3), .second, .val (.long q4), .second, .val (.int p5), .val (.int p6), .val (.ref b215), .val (.int f1), .val (.int f2), .val (.int f3), .val (.int f4), .val (.int f5), .val (.int f6), .val (.int n), .val (.ref b287), .val (.int o1), .val (.int (1 : Int32)), .unset, .unset] [(.int f2)])) _
  suffices JC2 : ∀ (T' : State) (L' : List Loc) (o' : Int32) (_ : Stand p l e room_1 s m #[(.long q1), (.long q2), (.long q3), (.long q4), (.int p5), (.int p6)] below meth c T' L' 5 199) (_ : Fr n0 L') (_ : T'.heap = T287.heap) (_ : o' = Int32.ofNat u2.length), own_G p e below (T'.setTop (mkF m 330 #[.val (.long q1), .second, .val (.long q2), .second, .val (.long q3), .second, .val (.long q4), .second, .val (.int p5), .val (.int p6), .val (.ref b215), .val (.int f1), .val (.int f2), .val (.int f3), .val (.int f4), .val (.int f5), .val (.int f6), .val (.int n), .val (.ref b287), .val (.int o'), .val (.int (1 : Int32)), .unset, .unset] [])) (fun s₂ o => ∃ v L, o = .returned v ∧ Q0 Z q1 q2 q3 q4 p5 p6 h0 n0 v s₂.heap L ∧ FrameEnd s o s₂ L room_1.cells room_1.slots) by
    show own_G p e below (TC1.setTop (mkF m 300 #[.val (.long q1), .second, .val (.long q2), .second, .val (.long q3), .second, .val (.long q4), .second, .val (.int p5), .val (.int p6), .val (.ref b215), .val (.int f1), .val (.int f2), .val (.int f3), .val (.int f4), .val (.int f5), .val (.int f6), .val (.int n), .val (.ref b287), .val (.int o1), .val (.int (1 : Int32)), .unset, .unset] [(.int f2)])) _
    by_cases hc300_300 : f2 = (0 : Int32)
    · refine own_go (fun _ k => XS.ifYes XC1.here hx rfl (pc0 := 300) (pc' := 330) rfl (hb hby at_300) rfl ((if0 _ _).trans (teq hc300_300).1) (by decide) (by decide) k) ?_
      show own_G p e below (TC1.setTop (mkF m 330 #[.val (.long q1), .second, .val (.long q2), .second, .val (.long q3), .second, .val (.long q4), .second, .val (.int p5), .val (.int p6), .val (.ref b215), .val (.int f1), .val (.int f2), .val (.int f3), .val (.int f4), .val (.int f5), .val (.int f6), .val (.int n), .val (.ref b287), .val (.int o1), .val (.int (1 : Int32)), .unset, .unset] [])) _
      exact JC2 TC1 _ _ XC1 NC1 eC1 (own_stay hu2 hc300_300 ho1)
    · refine own_go (fun _ k => XS.ifNo XC1.here hx rfl (hb hby at_300) rfl ((if0 _ _).trans (feq hc300_300).1) k) ?_
      show own_G p e below (TC1.setTop (mkF m 303 #[.val (.long q1), .second, .val (.long q2), .second, .val (.long q3), .second, .val (.long q4), .second, .val (.int p5), .val (.int p6), .val (.ref b215), .val (.int f1), .val (.int f2), .val (.int f3), .val (.int f4), .val (.int f5), .val (.int f6), .val (.int n), .val (.ref b287), .val (.int o1), .val (.int (1 : Int32)), .unset, .unset] [])) _
      refine own_go (fun _ k => XS.iload XC1.here hx rfl (hb hby at_303) rfl k) ?_
      show own_G p e below (TC1.setTop (mkF m 305 #[.val (.long q1), .second, .val (.long q2), .second, .val (.long q3), .second, .val (.long q4), .second, .val (.int p5), .val (.int p6), .val (.ref b215), .val (.int f1), .val (.int f2), .val (.int f3), .val (.int f4), .val (.int f5), .val (.int f6), .val (.int n), .val (.ref b287), .val (.int o1), .val (.int (1 : Int32)), .unset, .unset] [(.int (1 : Int32))])) _
      refine own_go (fun _ k => XS.ifNo XC1.here hx rfl (hb hby at_305) rfl ((if0 _ _).trans (feq (by decide : ¬ ((1 : Int32) = (0 : Int32)))).1) k) ?_
      show own_G p e below (TC1.setTop (mkF m 308 #[.val (.long q1), .second, .val (.long q2), .second, .val (.long q3), .second, .val (.long q4), .second, .val (.int p5), .val (.int p6), .val (.ref b215), .val (.int f1), .val (.int f2), .val (.int f3), .val (.int f4), .val (.int f5), .val (.int f6), .val (.int n), .val (.ref b287), .val (.int o1), .val (.int (1 : Int32)), .unset, .unset] [])) _
      refine own_go (fun _ k => XS.aload XC1.here hx rfl (hb hby at_308) rfl rfl k) ?_
      show own_G p e below (TC1.setTop (mkF m 310 #[.val (.long q1), .second, .val (.long q2), .second, .val (.long q3), .second, .val (.long q4), .second, .val (.int p5), .val (.int p6), .val (.ref b215), .val (.int f1), .val (.int f2), .val (.int f3), .val (.int f4), .val (.int f5), .val (.int f6), .val (.int n), .val (.ref b287), .val (.int o1), .val (.int (1 : Int32)), .unset, .unset] [(.ref b287)])) _
      refine own_go (fun _ k => XS.iload XC1.here hx rfl (hb hby at_310) rfl k) ?_
      show own_G p e below (TC1.setTop (mkF m 312 #[.val (.long q1), .second, .val (.long q2), .second, .val (.long q3), .second, .val (.long q4), .second, .val (.int p5), .val (.int p6), .val (.ref b215), .val (.int f1), .val (.int f2), .val (.int f3), .val (.int f4), .val (.int f5), .val (.int f6), .val (.int n), .val (.ref b287), .val (.int o1), .val (.int (1 : Int32)), .unset, .unset] [(.int o1), (.ref b287)])) _
      obtain ⟨_, _, ⟨T301, L301, k301, n301⟩, -, X301, ⟨Lc301, hQ301, l301, y301, z301⟩, st301⟩ := Jvm.LawKit.callS XC1 hx (y := (⟨"com/example/orbweave/orbweave/ByteWriterToByteArrayPinLaw", "getLong", "([BI)J"⟩ : MethodName)) hown (mvT hZ (hw _ (List.mem_of_getElem? (i := 57) rfl))) (mvT hZ (hw _ (List.mem_of_getElem? (i := 58) rfl))) (mvT hZ (hw _ (List.mem_of_getElem? (i := 59) rfl))) (mvT hZ (hw _ (List.mem_of_getElem? (i := 60) rfl))) (by decide) (backOf (W := 0) (rm11 l Z a0 hw [] b287 o1 k287q (Int32.ofNat u6.length) u6 q2 T287.heap n0 zs296 Vq287 (own_rd (A := u1) (l := (own_lb q2)) (d := (.int (0 : Int32))) (by rw [hr2, hu2, own_opt_yes hc300_300]) ho1 (by omega) rfl)) hZ (hw _ (List.mem_of_getElem? (i := 60) rfl)) (hw _ (List.mem_of_getElem? (i := 59) rfl)) (by decide) (by decide)) (g := (mkF m 312 #[.val (.long q1), .second, .val (.long q2), .second, .val (.long q3), .second, .val (.long q4), .second, .val (.int p5), .val (.int p6), .val (.ref b215), .val (.int f1), .val (.int f2), .val (.int f3), .val (.int f4), .val (.int f5), .val (.int f6), .val (.int n), .val (.ref b287), .val (.int o1), .val (.int (1 : Int32)), .unset, .unset] [(.int o1), (.ref b287)])) rfl (by rw [hml]; rfl) (argsL := [(.ref b287), (.int o1)]) (rest := []) (lenOf pd_8 rfl) rfl (by show 2 * 0 + _ ≤ _; exact Nat.le_of_eq rfl) (hb hby at_312) (fun _ _ => ⟨rfl, eC1, (by decide : 5 + 0 ≤ _), (by decide : 199 + 0 ≤ _)⟩)
      dsimp only [Pt.U, Pt.locs, Pt.cells, Pt.slots] at X301 l301 y301 z301 st301 hQ301
      subst l301 y301 z301
      obtain ⟨rfl, Nq301, hh301⟩ := hQ301
      have N301 := Fr.app NC1 Nq301
      refine own_go st301 ?_
      have e301 : T301.heap = T287.heap := hh301
      show own_G p e below (T301.setTop (mkF m 315 #[.val (.long q1), .second, .val (.long q2), .second, .val (.long q3), .second, .val (.long q4), .second, .val (.int p5), .val (.int p6), .val (.ref b215), .val (.int f1), .val (.int f2), .val (.int f3), .val (.int f4), .val (.int f5), .val (.int f6), .val (.int n), .val (.ref b287), .val (.int o1), .val (.int (1 : Int32)), .unset, .unset] [(.long q2)])) _
      refine own_go (fun _ k => XS.lloadN X301.here hx rfl (hb hby at_315) rfl k) ?_
      show own_G p e below (T301.setTop (mkF m 316 #[.val (.long q1), .second, .val (.long q2), .second, .val (.long q3), .second, .val (.long q4), .second, .val (.int p5), .val (.int p6), .val (.ref b215), .val (.int f1), .val (.int f2), .val (.int f3), .val (.int f4), .val (.int f5), .val (.int f6), .val (.int n), .val (.ref b287), .val (.int o1), .val (.int (1 : Int32)), .unset, .unset] [(.long q2), (.long q2)])) _
      refine own_go (fun _ k => XS.lcmp X301.here hx rfl (hb hby at_316) rfl k) ?_
      show own_G p e below (T301.setTop (mkF m 317 #[.val (.long q1), .second, .val (.long q2), .second, .val (.long q3), .second, .val (.long q4), .second, .val (.int p5), .val (.int p6), .val (.ref b215), .val (.int f1), .val (.int f2), .val (.int f3), .val (.int f4), .val (.int f5), .val (.int f6), .val (.int n), .val (.ref b287), .val (.int o1), .val (.int (1 : Int32)), .unset, .unset] [(.int (lcmpW q2 q2))])) _
      refine own_go (fun _ k => XS.ifNo X301.here hx rfl (hb hby at_317) rfl ((if0 _ _).trans (teq ((lw_eq _ _).mpr (rfl : q2 = q2))).2) k) ?_
      show own_G p e below (T301.setTop (mkF m 320 #[.val (.long q1), .second, .val (.long q2), .second, .val (.long q3), .second, .val (.long q4), .second, .val (.int p5), .val (.int p6), .val (.ref b215), .val (.int f1), .val (.int f2), .val (.int f3), .val (.int f4), .val (.int f5), .val (.int f6), .val (.int n), .val (.ref b287), .val (.int o1), .val (.int (1 : Int32)), .unset, .unset] [])) _
      refine own_go (fun _ k => XS.iconst X301.here hx rfl (hb hby at_320) k) ?_
      show own_G p e below (T301.setTop (mkF m 321 #[.val (.long q1), .second, .val (.long q2), .second, .val (.long q3), .second, .val (.long q4), .second, .val (.int p5), .val (.int p6), .val (.ref b215), .val (.int f1), .val (.int f2), .val (.int f3), .val (.int f4), .val (.int f5), .val (.int f6), .val (.int n), .val (.ref b287), .val (.int o1), .val (.int (1 : Int32)), .unset, .unset] [(.int (1 : Int32))])) _
      refine own_go (fun _ k => XS.goto X301.here hx rfl (pc0 := 321) (pc' := 325) rfl (hb hby at_321) (by decide) (by decide) k) ?_
      show own_G p e below (T301.setTop (mkF m 325 #[.val (.long q1), .second, .val (.long q2), .second, .val (.long q3), .second, .val (.long q4), .second, .val (.int p5), .val (.int p6), .val (.ref b215), .val (.int f1), .val (.int f2), .val (.int f3), .val (.int f4), .val (.int f5), .val (.int f6), .val (.int n), .val (.ref b287), .val (.int o1), .val (.int (1 : Int32)), .unset, .unset] [(.int (1 : Int32))])) _
      refine own_go (fun _ k => XS.istore X301.here hx rfl (hb hby at_325) rfl (l' := #[.val (.long q1), .second, .val (.long q2), .second, .val (.long q3), .second, .val (.long q4), .second, .val (.int p5), .val (.int p6), .val (.ref b215), .val (.int f1), .val (.int f2), .val (.int f3), .val (.int f4), .val (.int f5), .val (.int f6), .val (.int n), .val (.ref b287), .val (.int o1), .val (.int (1 : Int32)), .unset, .unset]) rfl k) ?_
      show own_G p e below (T301.setTop (mkF m 327 #[.val (.long q1), .second, .val (.long q2), .second, .val (.long q3), .second, .val (.long q4), .second, .val (.int p5), .val (.int p6), .val (.ref b215), .val (.int f1), .val (.int f2), .val (.int f3), .val (.int f4), .val (.int f5), .val (.int f6), .val (.int n), .val (.ref b287), .val (.int o1), .val (.int (1 : Int32)), .unset, .unset] [])) _
      refine own_go (fun _ k => XS.iinc X301.here hx rfl (hb hby at_327) rfl (l' := #[.val (.long q1), .second, .val (.long q2), .second, .val (.long q3), .second, .val (.long q4), .second, .val (.int p5), .val (.int p6), .val (.ref b215), .val (.int f1), .val (.int f2), .val (.int f3), .val (.int f4), .val (.int f5), .val (.int f6), .val (.int n), .val (.ref b287), .val (.int (o1 + (8 : Int32))), .val (.int (1 : Int32)), .unset, .unset]) rfl k) ?_
      show own_G p e below (T301.setTop (mkF m 330 #[.val (.long q1), .second, .val (.long q2), .second, .val (.long q3), .second, .val (.long q4), .second, .val (.int p5), .val (.int p6), .val (.ref b215), .val (.int f1), .val (.int f2), .val (.int f3), .val (.int f4), .val (.int f5), .val (.int f6), .val (.int n), .val (.ref b287), .val (.int (o1 + (8 : Int32))), .val (.int (1 : Int32)), .unset, .unset] [])) _
      exact JC2 T301 _ _ X301 N301 e301 (own_stepo hu2 hc300_300 ho1 rfl)
  intro TC2 LC2 o2 XC2 NC2 eC2 ho2
  show own_G p e below (TC2.setTop (mkF m 330 #[.val (.long q1), .second, .val (.long q2), .second, .val (.long q3), .second, .val (.long q4), .second, .val (.int p5), .val (.int p6), .val (.ref b215), .val (.int f1), .val (.int f2), .val (.int f3), .val (.int f4), .val (.int f5), .val (.int f6), .val (.int n), .val (.ref b287), .val (.int o2), .val (.int (1 : Int32)), .unset, .unset] [])) _
  refine own_go (fun _ k => XS.iload XC2.here hx rfl (hb hby at_330) rfl k) ?_
  show own_G p e below (TC2.setTop (mkF m 332 #[.val (.long q1), .second, .val (.long q2), .second, .val (.long q3), .second, .val (.long q4), .second, .val (.int p5), .val (.int p6), .val (.ref b215), .val (.int f1), .val (.int f2), .val (.int f3), .val (.int f4), .val (.int f5), .val (.int f6), .val (.int n), .val (.ref b287), .val (.int o2), .val (.int (1 : Int32)), .unset, .unset] [(.int f3)])) _
  suffices JC3 : ∀ (T' : State) (L' : List Loc) (o' : Int32) (_ : Stand p l e room_1 s m #[(.long q1), (.long q2), (.long q3), (.long q4), (.int p5), (.int p6)] below meth c T' L' 5 199) (_ : Fr n0 L') (_ : T'.heap = T287.heap) (_ : o' = Int32.ofNat u3.length), own_G p e below (T'.setTop (mkF m 363 #[.val (.long q1), .second, .val (.long q2), .second, .val (.long q3), .second, .val (.long q4), .second, .val (.int p5), .val (.int p6), .val (.ref b215), .val (.int f1), .val (.int f2), .val (.int f3), .val (.int f4), .val (.int f5), .val (.int f6), .val (.int n), .val (.ref b287), .val (.int o'), .val (.int (1 : Int32)), .unset, .unset] [])) (fun s₂ o => ∃ v L, o = .returned v ∧ Q0 Z q1 q2 q3 q4 p5 p6 h0 n0 v s₂.heap L ∧ FrameEnd s o s₂ L room_1.cells room_1.slots) by
    show own_G p e below (TC2.setTop (mkF m 332 #[.val (.long q1), .second, .val (.long q2), .second, .val (.long q3), .second, .val (.long q4), .second, .val (.int p5), .val (.int p6), .val (.ref b215), .val (.int f1), .val (.int f2), .val (.int f3), .val (.int f4), .val (.int f5), .val (.int f6), .val (.int n), .val (.ref b287), .val (.int o2), .val (.int (1 : Int32)), .unset, .unset] [(.int f3)])) _
    by_cases hc332_302 : f3 = (0 : Int32)
    · refine own_go (fun _ k => XS.ifYes XC2.here hx rfl (pc0 := 332) (pc' := 363) rfl (hb hby at_332) rfl ((if0 _ _).trans (teq hc332_302).1) (by decide) (by decide) k) ?_
      show own_G p e below (TC2.setTop (mkF m 363 #[.val (.long q1), .second, .val (.long q2), .second, .val (.long q3), .second, .val (.long q4), .second, .val (.int p5), .val (.int p6), .val (.ref b215), .val (.int f1), .val (.int f2), .val (.int f3), .val (.int f4), .val (.int f5), .val (.int f6), .val (.int n), .val (.ref b287), .val (.int o2), .val (.int (1 : Int32)), .unset, .unset] [])) _
      exact JC3 TC2 _ _ XC2 NC2 eC2 (own_stay hu3 hc332_302 ho2)
    · refine own_go (fun _ k => XS.ifNo XC2.here hx rfl (hb hby at_332) rfl ((if0 _ _).trans (feq hc332_302).1) k) ?_
      show own_G p e below (TC2.setTop (mkF m 335 #[.val (.long q1), .second, .val (.long q2), .second, .val (.long q3), .second, .val (.long q4), .second, .val (.int p5), .val (.int p6), .val (.ref b215), .val (.int f1), .val (.int f2), .val (.int f3), .val (.int f4), .val (.int f5), .val (.int f6), .val (.int n), .val (.ref b287), .val (.int o2), .val (.int (1 : Int32)), .unset, .unset] [])) _
      refine own_go (fun _ k => XS.iload XC2.here hx rfl (hb hby at_335) rfl k) ?_
      show own_G p e below (TC2.setTop (mkF m 337 #[.val (.long q1), .second, .val (.long q2), .second, .val (.long q3), .second, .val (.long q4), .second, .val (.int p5), .val (.int p6), .val (.ref b215), .val (.int f1), .val (.int f2), .val (.int f3), .val (.int f4), .val (.int f5), .val (.int f6), .val (.int n), .val (.ref b287), .val (.int o2), .val (.int (1 : Int32)), .unset, .unset] [(.int (1 : Int32))])) _
      refine own_go (fun _ k => XS.ifNo XC2.here hx rfl (hb hby at_337) rfl ((if0 _ _).trans (feq (by decide : ¬ ((1 : Int32) = (0 : Int32)))).1) k) ?_
      show own_G p e below (TC2.setTop (mkF m 340 #[.val (.long q1), .second, .val (.long q2), .second, .val (.long q3), .second, .val (.long q4), .second, .val (.int p5), .val (.int p6), .val (.ref b215), .val (.int f1), .val (.int f2), .val (.int f3), .val (.int f4), .val (.int f5), .val (.int f6), .val (.int n), .val (.ref b287), .val (.int o2), .val (.int (1 : Int32)), .unset, .unset] [])) _
      refine own_go (fun _ k => XS.aload XC2.here hx rfl (hb hby at_340) rfl rfl k) ?_
      show own_G p e below (TC2.setTop (mkF m 342 #[.val (.long q1), .second, .val (.long q2), .second, .val (.long q3), .second, .val (.long q4), .second, .val (.int p5), .val (.int p6), .val (.ref b215), .val (.int f1), .val (.int f2), .val (.int f3), .val (.int f4), .val (.int f5), .val (.int f6), .val (.int n), .val (.ref b287), .val (.int o2), .val (.int (1 : Int32)), .unset, .unset] [(.ref b287)])) _
      refine own_go (fun _ k => XS.iload XC2.here hx rfl (hb hby at_342) rfl k) ?_
      show own_G p e below (TC2.setTop (mkF m 344 #[.val (.long q1), .second, .val (.long q2), .second, .val (.long q3), .second, .val (.long q4), .second, .val (.int p5), .val (.int p6), .val (.ref b215), .val (.int f1), .val (.int f2), .val (.int f3), .val (.int f4), .val (.int f5), .val (.int f6), .val (.int n), .val (.ref b287), .val (.int o2), .val (.int (1 : Int32)), .unset, .unset] [(.int o2), (.ref b287)])) _
      obtain ⟨_, _, ⟨T303, L303, k303, n303⟩, -, X303, ⟨Lc303, hQ303, l303, y303, z303⟩, st303⟩ := Jvm.LawKit.callS XC2 hx (y := (⟨"com/example/orbweave/orbweave/ByteWriterToByteArrayPinLaw", "getLong", "([BI)J"⟩ : MethodName)) hown (mvT hZ (hw _ (List.mem_of_getElem? (i := 57) rfl))) (mvT hZ (hw _ (List.mem_of_getElem? (i := 58) rfl))) (mvT hZ (hw _ (List.mem_of_getElem? (i := 59) rfl))) (mvT hZ (hw _ (List.mem_of_getElem? (i := 60) rfl))) (by decide) (backOf (W := 0) (rm11 l Z a0 hw [] b287 o2 k287q (Int32.ofNat u6.length) u6 q3 T287.heap n0 zs296 Vq287 (own_rd (A := u2) (l := (own_lb q3)) (d := (.int (0 : Int32))) (by rw [hr3, hu3, own_opt_yes hc332_302]) ho2 (by omega) rfl)) hZ (hw _ (List.mem_of_getElem? (i := 60) rfl)) (hw _ (List.mem_of_getElem? (i := 59) rfl)) (by decide) (by decide)) (g := (mkF m 344 #[.val (.long q1), .second, .val (.long q2), .second, .val (.long q3), .second, .val (.long q4), .second, .val (.int p5), .val (.int p6), .val (.ref b215), .val (.int f1), .val (.int f2), .val (.int f3), .val (.int f4), .val (.int f5), .val (.int f6), .val (.int n), .val (.ref b287), .val (.int o2), .val (.int (1 : Int32)), .unset, .unset] [(.int o2), (.ref b287)])) rfl (by rw [hml]; rfl) (argsL := [(.ref b287), (.int o2)]) (rest := []) (lenOf pd_8 rfl) rfl (by show 2 * 0 + _ ≤ _; exact Nat.le_of_eq rfl) (hb hby at_344) (fun _ _ => ⟨rfl, eC2, (by decide : 5 + 0 ≤ _), (by decide : 199 + 0 ≤ _)⟩)
      dsimp only [Pt.U, Pt.locs, Pt.cells, Pt.slots] at X303 l303 y303 z303 st303 hQ303
      subst l303 y303 z303
      obtain ⟨rfl, Nq303, hh303⟩ := hQ303
      have N303 := Fr.app NC2 Nq303
      refine own_go st303 ?_
      have e303 : T303.heap = T287.heap := hh303
      show own_G p e below (T303.setTop (mkF m 347 #[.val (.long q1), .second, .val (.long q2), .second, .val (.long q3), .second, .val (.long q4), .second, .val (.int p5), .val (.int p6), .val (.ref b215), .val (.int f1), .val (.int f2), .val (.int f3), .val (.int f4), .val (.int f5), .val (.int f6), .val (.int n), .val (.ref b287), .val (.int o2), .val (.int (1 : Int32)), .unset, .unset] [(.long q3)])) _
      refine own_go (fun _ k => XS.lload X303.here hx rfl (hb hby at_347) rfl k) ?_
      show own_G p e below (T303.setTop (mkF m 349 #[.val (.long q1), .second, .val (.long q2), .second, .val (.long q3), .second, .val (.long q4), .second, .val (.int p5), .val (.int p6), .val (.ref b215), .val (.int f1), .val (.int f2), .val (.int f3), .val (.int f4), .val (.int f5), .val (.int f6), .val (.int n), .val (.ref b287), .val (.int o2), .val (.int (1 : Int32)), .unset, .unset] [(.long q3), (.long q3)])) _
      refine own_go (fun _ k => XS.lcmp X303.here hx rfl (hb hby at_349) rfl k) ?_
      show own_G p e below (T303.setTop (mkF m 350 #[.val (.long q1), .second, .val (.long q2), .second, .val (.long q3), .second, .val (.long q4), .second, .val (.int p5), .val (.int p6), .val (.ref b215), .val (.int f1), .val (.int f2), .val (.int f3), .val (.int f4), .val (.int f5), .val (.int f6), .val (.int n), .val (.ref b287), .val (.int o2), .val (.int (1 : Int32)), .unset, .unset] [(.int (lcmpW q3 q3))])) _
      refine own_go (fun _ k => XS.ifNo X303.here hx rfl (hb hby at_350) rfl ((if0 _ _).trans (teq ((lw_eq _ _).mpr (rfl : q3 = q3))).2) k) ?_
      show own_G p e below (T303.setTop (mkF m 353 #[.val (.long q1), .second, .val (.long q2), .second, .val (.long q3), .second, .val (.long q4), .second, .val (.int p5), .val (.int p6), .val (.ref b215), .val (.int f1), .val (.int f2), .val (.int f3), .val (.int f4), .val (.int f5), .val (.int f6), .val (.int n), .val (.ref b287), .val (.int o2), .val (.int (1 : Int32)), .unset, .unset] [])) _
      refine own_go (fun _ k => XS.iconst X303.here hx rfl (hb hby at_353) k) ?_
      show own_G p e below (T303.setTop (mkF m 354 #[.val (.long q1), .second, .val (.long q2), .second, .val (.long q3), .second, .val (.long q4), .second, .val (.int p5), .val (.int p6), .val (.ref b215), .val (.int f1), .val (.int f2), .val (.int f3), .val (.int f4), .val (.int f5), .val (.int f6), .val (.int n), .val (.ref b287), .val (.int o2), .val (.int (1 : Int32)), .unset, .unset] [(.int (1 : Int32))])) _
      refine own_go (fun _ k => XS.goto X303.here hx rfl (pc0 := 354) (pc' := 358) rfl (hb hby at_354) (by decide) (by decide) k) ?_
      show own_G p e below (T303.setTop (mkF m 358 #[.val (.long q1), .second, .val (.long q2), .second, .val (.long q3), .second, .val (.long q4), .second, .val (.int p5), .val (.int p6), .val (.ref b215), .val (.int f1), .val (.int f2), .val (.int f3), .val (.int f4), .val (.int f5), .val (.int f6), .val (.int n), .val (.ref b287), .val (.int o2), .val (.int (1 : Int32)), .unset, .unset] [(.int (1 : Int32))])) _
      refine own_go (fun _ k => XS.istore X303.here hx rfl (hb hby at_358) rfl (l' := #[.val (.long q1), .second, .val (.long q2), .second, .val (.long q3), .second, .val (.long q4), .second, .val (.int p5), .val (.int p6), .val (.ref b215), .val (.int f1), .val (.int f2), .val (.int f3), .val (.int f4), .val (.int f5), .val (.int f6), .val (.int n), .val (.ref b287), .val (.int o2), .val (.int (1 : Int32)), .unset, .unset]) rfl k) ?_
      show own_G p e below (T303.setTop (mkF m 360 #[.val (.long q1), .second, .val (.long q2), .second, .val (.long q3), .second, .val (.long q4), .second, .val (.int p5), .val (.int p6), .val (.ref b215), .val (.int f1), .val (.int f2), .val (.int f3), .val (.int f4), .val (.int f5), .val (.int f6), .val (.int n), .val (.ref b287), .val (.int o2), .val (.int (1 : Int32)), .unset, .unset] [])) _
      refine own_go (fun _ k => XS.iinc X303.here hx rfl (hb hby at_360) rfl (l' := #[.val (.long q1), .second, .val (.long q2), .second, .val (.long q3), .second, .val (.long q4), .second, .val (.int p5), .val (.int p6), .val (.ref b215), .val (.int f1), .val (.int f2), .val (.int f3), .val (.int f4), .val (.int f5), .val (.int f6), .val (.int n), .val (.ref b287), .val (.int (o2 + (8 : Int32))), .val (.int (1 : Int32)), .unset, .unset]) rfl k) ?_
      show own_G p e below (T303.setTop (mkF m 363 #[.val (.long q1), .second, .val (.long q2), .second, .val (.long q3), .second, .val (.long q4), .second, .val (.int p5), .val (.int p6), .val (.ref b215), .val (.int f1), .val (.int f2), .val (.int f3), .val (.int f4), .val (.int f5), .val (.int f6), .val (.int n), .val (.ref b287), .val (.int (o2 + (8 : Int32))), .val (.int (1 : Int32)), .unset, .unset] [])) _
      exact JC3 T303 _ _ X303 N303 e303 (own_stepo hu3 hc332_302 ho2 rfl)
  intro TC3 LC3 o3 XC3 NC3 eC3 ho3
  show own_G p e below (TC3.setTop (mkF m 363 #[.val (.long q1), .second, .val (.long q2), .second, .val (.long q3), .second, .val (.long q4), .second, .val (.int p5), .val (.int p6), .val (.ref b215), .val (.int f1), .val (.int f2), .val (.int f3), .val (.int f4), .val (.int f5), .val (.int f6), .val (.int n), .val (.ref b287), .val (.int o3), .val (.int (1 : Int32)), .unset, .unset] [])) _
  refine own_go (fun _ k => XS.iload XC3.here hx rfl (hb hby at_363) rfl k) ?_
  show own_G p e below (TC3.setTop (mkF m 365 #[.val (.long q1), .second, .val (.long q2), .second, .val (.long q3), .second, .val (.long q4), .second, .val (.int p5), .val (.int p6), .val (.ref b215), .val (.int f1), .val (.int f2), .val (.int f3), .val (.int f4), .val (.int f5), .val (.int f6), .val (.int n), .val (.ref b287), .val (.int o3), .val (.int (1 : Int32)), .unset, .unset] [(.int f4)])) _
  suffices JC4 : ∀ (T' : State) (L' : List Loc) (o' : Int32) (_ : Stand p l e room_1 s m #[(.long q1), (.long q2), (.long q3), (.long q4), (.int p5), (.int p6)] below meth c T' L' 5 199) (_ : Fr n0 L') (_ : T'.heap = T287.heap) (_ : o' = Int32.ofNat u4.length), own_G p e below (T'.setTop (mkF m 396 #[.val (.long q1), .second, .val (.long q2), .second, .val (.long q3), .second, .val (.long q4), .second, .val (.int p5), .val (.int p6), .val (.ref b215), .val (.int f1), .val (.int f2), .val (.int f3), .val (.int f4), .val (.int f5), .val (.int f6), .val (.int n), .val (.ref b287), .val (.int o'), .val (.int (1 : Int32)), .unset, .unset] [])) (fun s₂ o => ∃ v L, o = .returned v ∧ Q0 Z q1 q2 q3 q4 p5 p6 h0 n0 v s₂.heap L ∧ FrameEnd s o s₂ L room_1.cells room_1.slots) by
    show own_G p e below (TC3.setTop (mkF m 365 #[.val (.long q1), .second, .val (.long q2), .second, .val (.long q3), .second, .val (.long q4), .second, .val (.int p5), .val (.int p6), .val (.ref b215), .val (.int f1), .val (.int f2), .val (.int f3), .val (.int f4), .val (.int f5), .val (.int f6), .val (.int n), .val (.ref b287), .val (.int o3), .val (.int (1 : Int32)), .unset, .unset] [(.int f4)])) _
    by_cases hc365_304 : f4 = (0 : Int32)
    · refine own_go (fun _ k => XS.ifYes XC3.here hx rfl (pc0 := 365) (pc' := 396) rfl (hb hby at_365) rfl ((if0 _ _).trans (teq hc365_304).1) (by decide) (by decide) k) ?_
      show own_G p e below (TC3.setTop (mkF m 396 #[.val (.long q1), .second, .val (.long q2), .second, .val (.long q3), .second, .val (.long q4), .second, .val (.int p5), .val (.int p6), .val (.ref b215), .val (.int f1), .val (.int f2), .val (.int f3), .val (.int f4), .val (.int f5), .val (.int f6), .val (.int n), .val (.ref b287), .val (.int o3), .val (.int (1 : Int32)), .unset, .unset] [])) _
      exact JC4 TC3 _ _ XC3 NC3 eC3 (own_stay hu4 hc365_304 ho3)
    · refine own_go (fun _ k => XS.ifNo XC3.here hx rfl (hb hby at_365) rfl ((if0 _ _).trans (feq hc365_304).1) k) ?_
      show own_G p e below (TC3.setTop (mkF m 368 #[.val (.long q1), .second, .val (.long q2), .second, .val (.long q3), .second, .val (.long q4), .second, .val (.int p5), .val (.int p6), .val (.ref b215), .val (.int f1), .val (.int f2), .val (.int f3), .val (.int f4), .val (.int f5), .val (.int f6), .val (.int n), .val (.ref b287), .val (.int o3), .val (.int (1 : Int32)), .unset, .unset] [])) _
      refine own_go (fun _ k => XS.iload XC3.here hx rfl (hb hby at_368) rfl k) ?_
      show own_G p e below (TC3.setTop (mkF m 370 #[.val (.long q1), .second, .val (.long q2), .second, .val (.long q3), .second, .val (.long q4), .second, .val (.int p5), .val (.int p6), .val (.ref b215), .val (.int f1), .val (.int f2), .val (.int f3), .val (.int f4), .val (.int f5), .val (.int f6), .val (.int n), .val (.ref b287), .val (.int o3), .val (.int (1 : Int32)), .unset, .unset] [(.int (1 : Int32))])) _
      refine own_go (fun _ k => XS.ifNo XC3.here hx rfl (hb hby at_370) rfl ((if0 _ _).trans (feq (by decide : ¬ ((1 : Int32) = (0 : Int32)))).1) k) ?_
      show own_G p e below (TC3.setTop (mkF m 373 #[.val (.long q1), .second, .val (.long q2), .second, .val (.long q3), .second, .val (.long q4), .second, .val (.int p5), .val (.int p6), .val (.ref b215), .val (.int f1), .val (.int f2), .val (.int f3), .val (.int f4), .val (.int f5), .val (.int f6), .val (.int n), .val (.ref b287), .val (.int o3), .val (.int (1 : Int32)), .unset, .unset] [])) _
      refine own_go (fun _ k => XS.aload XC3.here hx rfl (hb hby at_373) rfl rfl k) ?_
      show own_G p e below (TC3.setTop (mkF m 375 #[.val (.long q1), .second, .val (.long q2), .second, .val (.long q3), .second, .val (.long q4), .second, .val (.int p5), .val (.int p6), .val (.ref b215), .val (.int f1), .val (.int f2), .val (.int f3), .val (.int f4), .val (.int f5), .val (.int f6), .val (.int n), .val (.ref b287), .val (.int o3), .val (.int (1 : Int32)), .unset, .unset] [(.ref b287)])) _
      refine own_go (fun _ k => XS.iload XC3.here hx rfl (hb hby at_375) rfl k) ?_
      show own_G p e below (TC3.setTop (mkF m 377 #[.val (.long q1), .second, .val (.long q2), .second, .val (.long q3), .second, .val (.long q4), .second, .val (.int p5), .val (.int p6), .val (.ref b215), .val (.int f1), .val (.int f2), .val (.int f3), .val (.int f4), .val (.int f5), .val (.int f6), .val (.int n), .val (.ref b287), .val (.int o3), .val (.int (1 : Int32)), .unset, .unset] [(.int o3), (.ref b287)])) _
      obtain ⟨_, _, ⟨T305, L305, k305, n305⟩, -, X305, ⟨Lc305, hQ305, l305, y305, z305⟩, st305⟩ := Jvm.LawKit.callS XC3 hx (y := (⟨"com/example/orbweave/orbweave/ByteWriterToByteArrayPinLaw", "getLong", "([BI)J"⟩ : MethodName)) hown (mvT hZ (hw _ (List.mem_of_getElem? (i := 57) rfl))) (mvT hZ (hw _ (List.mem_of_getElem? (i := 58) rfl))) (mvT hZ (hw _ (List.mem_of_getElem? (i := 59) rfl))) (mvT hZ (hw _ (List.mem_of_getElem? (i := 60) rfl))) (by decide) (backOf (W := 0) (rm11 l Z a0 hw [] b287 o3 k287q (Int32.ofNat u6.length) u6 q4 T287.heap n0 zs296 Vq287 (own_rd (A := u3) (l := (own_lb q4)) (d := (.int (0 : Int32))) (by rw [hr4, hu4, own_opt_yes hc365_304]) ho3 (by omega) rfl)) hZ (hw _ (List.mem_of_getElem? (i := 60) rfl)) (hw _ (List.mem_of_getElem? (i := 59) rfl)) (by decide) (by decide)) (g := (mkF m 377 #[.val (.long q1), .second, .val (.long q2), .second, .val (.long q3), .second, .val (.long q4), .second, .val (.int p5), .val (.int p6), .val (.ref b215), .val (.int f1), .val (.int f2), .val (.int f3), .val (.int f4), .val (.int f5), .val (.int f6), .val (.int n), .val (.ref b287), .val (.int o3), .val (.int (1 : Int32)), .unset, .unset] [(.int o3), (.ref b287)])) rfl (by rw [hml]; rfl) (argsL := [(.ref b287), (.int o3)]) (rest := []) (lenOf pd_8 rfl) rfl (by show 2 * 0 + _ ≤ _; exact Nat.le_of_eq rfl) (hb hby at_377) (fun _ _ => ⟨rfl, eC3, (by decide : 5 + 0 ≤ _), (by decide : 199 + 0 ≤ _)⟩)
      dsimp only [Pt.U, Pt.locs, Pt.cells, Pt.slots] at X305 l305 y305 z305 st305 hQ305
      subst l305 y305 z305
      obtain ⟨rfl, Nq305, hh305⟩ := hQ305
      have N305 := Fr.app NC3 Nq305
      refine own_go st305 ?_
      have e305 : T305.heap = T287.heap := hh305
      show own_G p e below (T305.setTop (mkF m 380 #[.val (.long q1), .second, .val (.long q2), .second, .val (.long q3), .second, .val (.long q4), .second, .val (.int p5), .val (.int p6), .val (.ref b215), .val (.int f1), .val (.int f2), .val (.int f3), .val (.int f4), .val (.int f5), .val (.int f6), .val (.int n), .val (.ref b287), .val (.int o3), .val (.int (1 : Int32)), .unset, .unset] [(.long q4)])) _
      refine own_go (fun _ k => XS.lload X305.here hx rfl (hb hby at_380) rfl k) ?_
      show own_G p e below (T305.setTop (mkF m 382 #[.val (.long q1), .second, .val (.long q2), .second, .val (.long q3), .second, .val (.long q4), .second, .val (.int p5), .val (.int p6), .val (.ref b215), .val (.int f1), .val (.int f2), .val (.int f3), .val (.int f4), .val (.int f5), .val (.int f6), .val (.int n), .val (.ref b287), .val (.int o3), .val (.int (1 : Int32)), .unset, .unset] [(.long q4), (.long q4)])) _
      refine own_go (fun _ k => XS.lcmp X305.here hx rfl (hb hby at_382) rfl k) ?_
      show own_G p e below (T305.setTop (mkF m 383 #[.val (.long q1), .second, .val (.long q2), .second, .val (.long q3), .second, .val (.long q4), .second, .val (.int p5), .val (.int p6), .val (.ref b215), .val (.int f1), .val (.int f2), .val (.int f3), .val (.int f4), .val (.int f5), .val (.int f6), .val (.int n), .val (.ref b287), .val (.int o3), .val (.int (1 : Int32)), .unset, .unset] [(.int (lcmpW q4 q4))])) _
      refine own_go (fun _ k => XS.ifNo X305.here hx rfl (hb hby at_383) rfl ((if0 _ _).trans (teq ((lw_eq _ _).mpr (rfl : q4 = q4))).2) k) ?_
      show own_G p e below (T305.setTop (mkF m 386 #[.val (.long q1), .second, .val (.long q2), .second, .val (.long q3), .second, .val (.long q4), .second, .val (.int p5), .val (.int p6), .val (.ref b215), .val (.int f1), .val (.int f2), .val (.int f3), .val (.int f4), .val (.int f5), .val (.int f6), .val (.int n), .val (.ref b287), .val (.int o3), .val (.int (1 : Int32)), .unset, .unset] [])) _
      refine own_go (fun _ k => XS.iconst X305.here hx rfl (hb hby at_386) k) ?_
      show own_G p e below (T305.setTop (mkF m 387 #[.val (.long q1), .second, .val (.long q2), .second, .val (.long q3), .second, .val (.long q4), .second, .val (.int p5), .val (.int p6), .val (.ref b215), .val (.int f1), .val (.int f2), .val (.int f3), .val (.int f4), .val (.int f5), .val (.int f6), .val (.int n), .val (.ref b287), .val (.int o3), .val (.int (1 : Int32)), .unset, .unset] [(.int (1 : Int32))])) _
      refine own_go (fun _ k => XS.goto X305.here hx rfl (pc0 := 387) (pc' := 391) rfl (hb hby at_387) (by decide) (by decide) k) ?_
      show own_G p e below (T305.setTop (mkF m 391 #[.val (.long q1), .second, .val (.long q2), .second, .val (.long q3), .second, .val (.long q4), .second, .val (.int p5), .val (.int p6), .val (.ref b215), .val (.int f1), .val (.int f2), .val (.int f3), .val (.int f4), .val (.int f5), .val (.int f6), .val (.int n), .val (.ref b287), .val (.int o3), .val (.int (1 : Int32)), .unset, .unset] [(.int (1 : Int32))])) _
      refine own_go (fun _ k => XS.istore X305.here hx rfl (hb hby at_391) rfl (l' := #[.val (.long q1), .second, .val (.long q2), .second, .val (.long q3), .second, .val (.long q4), .second, .val (.int p5), .val (.int p6), .val (.ref b215), .val (.int f1), .val (.int f2), .val (.int f3), .val (.int f4), .val (.int f5), .val (.int f6), .val (.int n), .val (.ref b287), .val (.int o3), .val (.int (1 : Int32)), .unset, .unset]) rfl k) ?_
      show own_G p e below (T305.setTop (mkF m 393 #[.val (.long q1), .second, .val (.long q2), .second, .val (.long q3), .second, .val (.long q4), .second, .val (.int p5), .val (.int p6), .val (.ref b215), .val (.int f1), .val (.int f2), .val (.int f3), .val (.int f4), .val (.int f5), .val (.int f6), .val (.int n), .val (.ref b287), .val (.int o3), .val (.int (1 : Int32)), .unset, .unset] [])) _
      refine own_go (fun _ k => XS.iinc X305.here hx rfl (hb hby at_393) rfl (l' := #[.val (.long q1), .second, .val (.long q2), .second, .val (.long q3), .second, .val (.long q4), .second, .val (.int p5), .val (.int p6), .val (.ref b215), .val (.int f1), .val (.int f2), .val (.int f3), .val (.int f4), .val (.int f5), .val (.int f6), .val (.int n), .val (.ref b287), .val (.int (o3 + (8 : Int32))), .val (.int (1 : Int32)), .unset, .unset]) rfl k) ?_
      show own_G p e below (T305.setTop (mkF m 396 #[.val (.long q1), .second, .val (.long q2), .second, .val (.long q3), .second, .val (.long q4), .second, .val (.int p5), .val (.int p6), .val (.ref b215), .val (.int f1), .val (.int f2), .val (.int f3), .val (.int f4), .val (.int f5), .val (.int f6), .val (.int n), .val (.ref b287), .val (.int (o3 + (8 : Int32))), .val (.int (1 : Int32)), .unset, .unset] [])) _
      exact JC4 T305 _ _ X305 N305 e305 (own_stepo hu4 hc365_304 ho3 rfl)
  intro TC4 LC4 o4 XC4 NC4 eC4 ho4
  show own_G p e below (TC4.setTop (mkF m 396 #[.val (.long q1), .second, .val (.long q2), .second, .val (.long q3), .second, .val (.long q4), .second, .val (.int p5), .val (.int p6), .val (.ref b215), .val (.int f1), .val (.int f2), .val (.int f3), .val (.int f4), .val (.int f5), .val (.int f6), .val (.int n), .val (.ref b287), .val (.int o4), .val (.int (1 : Int32)), .unset, .unset] [])) _
  refine own_go (fun _ k => XS.iload XC4.here hx rfl (hb hby at_396) rfl k) ?_
  show own_G p e below (TC4.setTop (mkF m 398 #[.val (.long q1), .second, .val (.long q2), .second, .val (.long q3), .second, .val (.long q4), .second, .val (.int p5), .val (.int p6), .val (.ref b215), .val (.int f1), .val (.int f2), .val (.int f3), .val (.int f4), .val (.int f5), .val (.int f6), .val (.int n), .val (.ref b287), .val (.int o4), .val (.int (1 : Int32)), .unset, .unset] [(.int f5)])) _
  suffices JC5 : ∀ (T' : State) (L' : List Loc) (o' : Int32) (_ : Stand p l e room_1 s m #[(.long q1), (.long q2), (.long q3), (.long q4), (.int p5), (.int p6)] below meth c T' L' 5 199) (_ : Fr n0 L') (_ : T'.heap = T287.heap) (_ : o' = Int32.ofNat u5.length), own_G p e below (T'.setTop (mkF m 427 #[.val (.long q1), .second, .val (.long q2), .second, .val (.long q3), .second, .val (.long q4), .second, .val (.int p5), .val (.int p6), .val (.ref b215), .val (.int f1), .val (.int f2), .val (.int f3), .val (.int f4), .val (.int f5), .val (.int f6), .val (.int n), .val (.ref b287), .val (.int o'), .val (.int (1 : Int32)), .unset, .unset] [])) (fun s₂ o => ∃ v L, o = .returned v ∧ Q0 Z q1 q2 q3 q4 p5 p6 h0 n0 v s₂.heap L ∧ FrameEnd s o s₂ L room_1.cells room_1.slots) by
    show own_G p e below (TC4.setTop (mkF m 398 #[.val (.long q1), .second, .val (.long q2), .second, .val (.long q3), .second, .val (.long q4), .second, .val (.int p5), .val (.int p6), .val (.ref b215), .val (.int f1), .val (.int f2), .val (.int f3), .val (.int f4), .val (.int f5), .val (.int f6), .val (.int n), .val (.ref b287), .val (.int o4), .val (.int (1 : Int32)), .unset, .unset] [(.int f5)])) _
    by_cases hc398_306 : f5 = (0 : Int32)
    · refine own_go (fun _ k => XS.ifYes XC4.here hx rfl (pc0 := 398) (pc' := 427) rfl (hb hby at_398) rfl ((if0 _ _).trans (teq hc398_306).1) (by decide) (by decide) k) ?_
      show own_G p e below (TC4.setTop (mkF m 427 #[.val (.long q1), .second, .val (.long q2), .second, .val (.long q3), .second, .val (.long q4), .second, .val (.int p5), .val (.int p6), .val (.ref b215), .val (.int f1), .val (.int f2), .val (.int f3), .val (.int f4), .val (.int f5), .val (.int f6), .val (.int n), .val (.ref b287), .val (.int o4), .val (.int (1 : Int32)), .unset, .unset] [])) _
      exact JC5 TC4 _ _ XC4 NC4 eC4 (own_stay hu5 hc398_306 ho4)
    · refine own_go (fun _ k => XS.ifNo XC4.here hx rfl (hb hby at_398) rfl ((if0 _ _).trans (feq hc398_306).1) k) ?_
      show own_G p e below (TC4.setTop (mkF m 401 #[.val (.long q1), .second, .val (.long q2), .second, .val (.long q3), .second, .val (.long q4), .second, .val (.int p5), .val (.int p6), .val (.ref b215), .val (.int f1), .val (.int f2), .val (.int f3), .val (.int f4), .val (.int f5), .val (.int f6), .val (.int n), .val (.ref b287), .val (.int o4), .val (.int (1 : Int32)), .unset, .unset] [])) _
      refine own_go (fun _ k => XS.iload XC4.here hx rfl (hb hby at_401) rfl k) ?_
      show own_G p e below (TC4.setTop (mkF m 403 #[.val (.long q1), .second, .val (.long q2), .second, .val (.long q3), .second, .val (.long q4), .second, .val (.int p5), .val (.int p6), .val (.ref b215), .val (.int f1), .val (.int f2), .val (.int f3), .val (.int f4), .val (.int f5), .val (.int f6), .val (.int n), .val (.ref b287), .val (.int o4), .val (.int (1 : Int32)), .unset, .unset] [(.int (1 : Int32))])) _
      refine own_go (fun _ k => XS.ifNo XC4.here hx rfl (hb hby at_403) rfl ((if0 _ _).trans (feq (by decide : ¬ ((1 : Int32) = (0 : Int32)))).1) k) ?_
      show own_G p e below (TC4.setTop (mkF m 406 #[.val (.long q1), .second, .val (.long q2), .second, .val (.long q3), .second, .val (.long q4), .second, .val (.int p5), .val (.int p6), .val (.ref b215), .val (.int f1), .val (.int f2), .val (.int f3), .val (.int f4), .val (.int f5), .val (.int f6), .val (.int n), .val (.ref b287), .val (.int o4), .val (.int (1 : Int32)), .unset, .unset] [])) _
      refine own_go (fun _ k => XS.aload XC4.here hx rfl (hb hby at_406) rfl rfl k) ?_
      show own_G p e below (TC4.setTop (mkF m 408 #[.val (.long q1), .second, .val (.long q2), .second, .val (.long q3), .second, .val (.long q4), .second, .val (.int p5), .val (.int p6), .val (.ref b215), .val (.int f1), .val (.int f2), .val (.int f3), .val (.int f4), .val (.int f5), .val (.int f6), .val (.int n), .val (.ref b287), .val (.int o4), .val (.int (1 : Int32)), .unset, .unset] [(.ref b287)])) _
      refine own_go (fun _ k => XS.iload XC4.here hx rfl (hb hby at_408) rfl k) ?_
      have hq5 := own_rd0 (A := u4) (l := [Value.int (p5.toInt8.toInt32)]) (C := (own_opt f6 (own_ib p5))) (u := u6) (d := (.int (0 : Int32))) (by rw [hr5, hu5, own_opt_yes hc398_306]) ho4 (by omega) rfl (Nat.le_of_ble_eq_true rfl)
      show own_G p e below (TC4.setTop (mkF m 410 #[.val (.long q1), .second, .val (.long q2), .second, .val (.long q3), .second, .val (.long q4), .second, .val (.int p5), .val (.int p6), .val (.ref b215), .val (.int f1), .val (.int f2), .val (.int f3), .val (.int f4), .val (.int f5), .val (.int f6), .val (.int n), .val (.ref b287), .val (.int o4), .val (.int (1 : Int32)), .unset, .unset] [(.int o4), (.ref b287)])) _
      obtain ⟨cl307, Ar307, q307, S307, M307, B307, G307⟩ := id Vq287
      have hin307 : ¬ (o4 < 0 ∨ cl307.slots.size ≤ (o4).toNatClampNeg) := inb_of S307 hq5.1
      have hat307 : cl307.slots[(o4).toNatClampNeg]? = some (.int (p5.toInt8.toInt32)) := B307.at hin307 hq5.2
      refine own_go (XC4.baloadBytes hx (j := o4) (v := (.int (p5.toInt8.toInt32))) (by rw [eC4]; exact Ar307.1) (State.isArrayOf_alike hZ.alike Ar307.2.1) Ar307.2.2 hin307 hat307 (g := (mkF m 410 #[.val (.long q1), .second, .val (.long q2), .second, .val (.long q3), .second, .val (.long q4), .second, .val (.int p5), .val (.int p6), .val (.ref b215), .val (.int f1), .val (.int f2), .val (.int f3), .val (.int f4), .val (.int f5), .val (.int f6), .val (.int n), .val (.ref b287), .val (.int o4), .val (.int (1 : Int32)), .unset, .unset] [(.int o4), (.ref b287)])) rfl rfl (hb hby at_410)) ?_
      show own_G p e below (TC4.setTop (mkF m 411 #[.val (.long q1), .second, .val (.long q2), .second, .val (.long q3), .second, .val (.long q4), .second, .val (.int p5), .val (.int p6), .val (.ref b215), .val (.int f1), .val (.int f2), .val (.int f3), .val (.int f4), .val (.int f5), .val (.int f6), .val (.int n), .val (.ref b287), .val (.int o4), .val (.int (1 : Int32)), .unset, .unset] [(.int (p5.toInt8.toInt32))])) _
      refine own_go (fun _ k => XS.iload XC4.here hx rfl (hb hby at_411) rfl k) ?_
      show own_G p e below (TC4.setTop (mkF m 413 #[.val (.long q1), .second, .val (.long q2), .second, .val (.long q3), .second, .val (.long q4), .second, .val (.int p5), .val (.int p6), .val (.ref b215), .val (.int f1), .val (.int f2), .val (.int f3), .val (.int f4), .val (.int f5), .val (.int f6), .val (.int n), .val (.ref b287), .val (.int o4), .val (.int (1 : Int32)), .unset, .unset] [(.int p5), (.int (p5.toInt8.toInt32))])) _
      refine own_go (fun _ k => XS.i2b XC4.here hx rfl (hb hby at_413) rfl k) ?_
      show own_G p e below (TC4.setTop (mkF m 414 #[.val (.long q1), .second, .val (.long q2), .second, .val (.long q3), .second, .val (.long q4), .second, .val (.int p5), .val (.int p6), .val (.ref b215), .val (.int f1), .val (.int f2), .val (.int f3), .val (.int f4), .val (.int f5), .val (.int f6), .val (.int n), .val (.ref b287), .val (.int o4), .val (.int (1 : Int32)), .unset, .unset] [(.int (p5.toInt8.toInt32)), (.int (p5.toInt8.toInt32))])) _
      refine own_go (fun _ k => XS.icmpNo XC4.here hx rfl (hb hby at_414) rfl (teq (rfl : (p5.toInt8.toInt32) = (p5.toInt8.toInt32))).2 k) ?_
      show own_G p e below (TC4.setTop (mkF m 417 #[.val (.long q1), .second, .val (.long q2), .second, .val (.long q3), .second, .val (.long q4), .second, .val (.int p5), .val (.int p6), .val (.ref b215), .val (.int f1), .val (.int f2), .val (.int f3), .val (.int f4), .val (.int f5), .val (.int f6), .val (.int n), .val (.ref b287), .val (.int o4), .val (.int (1 : Int32)), .unset, .unset] [])) _
      refine own_go (fun _ k => XS.iconst XC4.here hx rfl (hb hby at_417) k) ?_
      show own_G p e below (TC4.setTop (mkF m 418 #[.val (.long q1), .second, .val (.long q2), .second, .val (.long q3), .second, .val (.long q4), .second, .val (.int p5), .val (.int p6), .val (.ref b215), .val (.int f1), .val (.int f2), .val (.int f3), .val (.int f4), .val (.int f5), .val (.int f6), .val (.int n), .val (.ref b287), .val (.int o4), .val (.int (1 : Int32)), .unset, .unset] [(.int (1 : Int32))])) _
      refine own_go (fun _ k => XS.goto XC4.here hx rfl (pc0 := 418) (pc' := 422) rfl (hb hby at_418) (by decide) (by decide) k) ?_
      show own_G p e below (TC4.setTop (mkF m 422 #[.val (.long q1), .second, .val (.long q2), .second, .val (.long q3), .second, .val (.long q4), .second, .val (.int p5), .val (.int p6), .val (.ref b215), .val (.int f1), .val (.int f2), .val (.int f3), .val (.int f4), .val (.int f5), .val (.int f6), .val (.int n), .val (.ref b287), .val (.int o4), .val (.int (1 : Int32)), .unset, .unset] [(.int (1 : Int32))])) _
      refine own_go (fun _ k => XS.istore XC4.here hx rfl (hb hby at_422) rfl (l' := #[.val (.long q1), .second, .val (.long q2), .second, .val (.long q3), .second, .val (.long q4), .second, .val (.int p5), .val (.int p6), .val (.ref b215), .val (.int f1), .val (.int f2), .val (.int f3), .val (.int f4), .val (.int f5), .val (.int f6), .val (.int n), .val (.ref b287), .val (.int o4), .val (.int (1 : Int32)), .unset, .unset]) rfl k) ?_
      show own_G p e below (TC4.setTop (mkF m 424 #[.val (.long q1), .second, .val (.long q2), .second, .val (.long q3), .second, .val (.long q4), .second, .val (.int p5), .val (.int p6), .val (.ref b215), .val (.int f1), .val (.int f2), .val (.int f3), .val (.int f4), .val (.int f5), .val (.int f6), .val (.int n), .val (.ref b287), .val (.int o4), .val (.int (1 : Int32)), .unset, .unset] [])) _
      refine own_go (fun _ k => XS.iinc XC4.here hx rfl (hb hby at_424) rfl (l' := #[.val (.long q1), .second, .val (.long q2), .second, .val (.long q3), .second, .val (.long q4), .second, .val (.int p5), .val (.int p6), .val (.ref b215), .val (.int f1), .val (.int f2), .val (.int f3), .val (.int f4), .val (.int f5), .val (.int f6), .val (.int n), .val (.ref b287), .val (.int (o4 + (1 : Int32))), .val (.int (1 : Int32)), .unset, .unset]) rfl k) ?_
      show own_G p e below (TC4.setTop (mkF m 427 #[.val (.long q1), .second, .val (.long q2), .second, .val (.long q3), .second, .val (.long q4), .second, .val (.int p5), .val (.int p6), .val (.ref b215), .val (.int f1), .val (.int f2), .val (.int f3), .val (.int f4), .val (.int f5), .val (.int f6), .val (.int n), .val (.ref b287), .val (.int (o4 + (1 : Int32))), .val (.int (1 : Int32)), .unset, .unset] [])) _
      exact JC5 TC4 _ _ XC4 NC4 eC4 (own_stepo hu5 hc398_306 ho4 rfl)
  intro TC5 LC5 o5 XC5 NC5 eC5 ho5
  show own_G p e below (TC5.setTop (mkF m 427 #[.val (.long q1), .second, .val (.long q2), .second, .val (.long q3), .second, .val (.long q4), .second, .val (.int p5), .val (.int p6), .val (.ref b215), .val (.int f1), .val (.int f2), .val (.int f3), .val (.int f4), .val (.int f5), .val (.int f6), .val (.int n), .val (.ref b287), .val (.int o5), .val (.int (1 : Int32)), .unset, .unset] [])) _
  refine own_go (fun _ k => XS.iload XC5.here hx rfl (hb hby at_427) rfl k) ?_
  show own_G p e below (TC5.setTop (mkF m 429 #[.val (.long q1), .second, .val (.long q2), .second, .val (.long q3), .second, .val (.long q4), .second, .val (.int p5), .val (.int p6), .val (.ref b215), .val (.int f1), .val (.int f2), .val (.int f3), .val (.int f4), .val (.int f5), .val (.int f6), .val (.int n), .val (.ref b287), .val (.int o5), .val (.int (1 : Int32)), .unset, .unset] [(.int f6)])) _
  suffices JC6 : ∀ (T' : State) (L' : List Loc) (o' : Int32) (_ : Stand p l e room_1 s m #[(.long q1), (.long q2), (.long q3), (.long q4), (.int p5), (.int p6)] below meth c T' L' 5 199) (_ : Fr n0 L') (_ : T'.heap = T287.heap) (_ : o' = Int32.ofNat u6.length), own_G p e below (T'.setTop (mkF m 459 #[.val (.long q1), .second, .val (.long q2), .second, .val (.long q3), .second, .val (.long q4), .second, .val (.int p5), .val (.int p6), .val (.ref b215), .val (.int f1), .val (.int f2), .val (.int f3), .val (.int f4), .val (.int f5), .val (.int f6), .val (.int n), .val (.ref b287), .val (.int o'), .val (.int (1 : Int32)), .unset, .unset] [])) (fun s₂ o => ∃ v L, o = .returned v ∧ Q0 Z q1 q2 q3 q4 p5 p6 h0 n0 v s₂.heap L ∧ FrameEnd s o s₂ L room_1.cells room_1.slots) by
    show own_G p e below (TC5.setTop (mkF m 429 #[.val (.long q1), .second, .val (.long q2), .second, .val (.long q3), .second, .val (.long q4), .second, .val (.int p5), .val (.int p6), .val (.ref b215), .val (.int f1), .val (.int f2), .val (.int f3), .val (.int f4), .val (.int f5), .val (.int f6), .val (.int n), .val (.ref b287), .val (.int o5), .val (.int (1 : Int32)), .unset, .unset] [(.int f6)])) _
    by_cases hc429_308 : f6 = (0 : Int32)
    · refine own_go (fun _ k => XS.ifYes XC5.here hx rfl (pc0 := 429) (pc' := 459) rfl (hb hby at_429) rfl ((if0 _ _).trans (teq hc429_308).1) (by decide) (by decide) k) ?_
      show own_G p e below (TC5.setTop (mkF m 459 #[.val (.long q1), .second, .val (.long q2), .second, .val (.long q3), .second, .val (.long q4), .second, .val (.int p5), .val (.int p6), .val (.ref b215), .val (.int f1), .val (.int f2), .val (.int f3), .val (.int f4), .val (.int f5), .val (.int f6), .val (.int n), .val (.ref b287), .val (.int o5), .val (.int (1 : Int32)), .unset, .unset] [])) _
      exact JC6 TC5 _ _ XC5 NC5 eC5 (own_stay hu6 hc429_308 ho5)
    · refine own_go (fun _ k => XS.ifNo XC5.here hx rfl (hb hby at_429) rfl ((if0 _ _).trans (feq hc429_308).1) k) ?_
      show own_G p e below (TC5.setTop (mkF m 432 #[.val (.long q1), .second, .val (.long q2), .second, .val (.long q3), .second, .val (.long q4), .second, .val (.int p5), .val (.int p6), .val (.ref b215), .val (.int f1), .val (.int f2), .val (.int f3), .val (.int f4), .val (.int f5), .val (.int f6), .val (.int n), .val (.ref b287), .val (.int o5), .val (.int (1 : Int32)), .unset, .unset] [])) _
      refine own_go (fun _ k => XS.iload XC5.here hx rfl (hb hby at_432) rfl k) ?_
      show own_G p e below (TC5.setTop (mkF m 434 #[.val (.long q1), .second, .val (.long q2), .second, .val (.long q3), .second, .val (.long q4), .second, .val (.int p5), .val (.int p6), .val (.ref b215), .val (.int f1), .val (.int f2), .val (.int f3), .val (.int f4), .val (.int f5), .val (.int f6), .val (.int n), .val (.ref b287), .val (.int o5), .val (.int (1 : Int32)), .unset, .unset] [(.int (1 : Int32))])) _
      refine own_go (fun _ k => XS.ifNo XC5.here hx rfl (hb hby at_434) rfl ((if0 _ _).trans (feq (by decide : ¬ ((1 : Int32) = (0 : Int32)))).1) k) ?_
      show own_G p e below (TC5.setTop (mkF m 437 #[.val (.long q1), .second, .val (.long q2), .second, .val (.long q3), .second, .val (.long q4), .second, .val (.int p5), .val (.int p6), .val (.ref b215), .val (.int f1), .val (.int f2), .val (.int f3), .val (.int f4), .val (.int f5), .val (.int f6), .val (.int n), .val (.ref b287), .val (.int o5), .val (.int (1 : Int32)), .unset, .unset] [])) _
      refine own_go (fun _ k => XS.aload XC5.here hx rfl (hb hby at_437) rfl rfl k) ?_
      show own_G p e below (TC5.setTop (mkF m 439 #[.val (.long q1), .second, .val (.long q2), .second, .val (.long q3), .second, .val (.long q4), .second, .val (.int p5), .val (.int p6), .val (.ref b215), .val (.int f1), .val (.int f2), .val (.int f3), .val (.int f4), .val (.int f5), .val (.int f6), .val (.int n), .val (.ref b287), .val (.int o5), .val (.int (1 : Int32)), .unset, .unset] [(.ref b287)])) _
      refine own_go (fun _ k => XS.iload XC5.here hx rfl (hb hby at_439) rfl k) ?_
      show own_G p e below (TC5.setTop (mkF m 441 #[.val (.long q1), .second, .val (.long q2), .second, .val (.long q3), .second, .val (.long q4), .second, .val (.int p5), .val (.int p6), .val (.ref b215), .val (.int f1), .val (.int f2), .val (.int f3), .val (.int f4), .val (.int f5), .val (.int f6), .val (.int n), .val (.ref b287), .val (.int o5), .val (.int (1 : Int32)), .unset, .unset] [(.int o5), (.ref b287)])) _
      obtain ⟨_, _, ⟨T309, L309, k309, n309⟩, -, X309, ⟨Lc309, hQ309, l309, y309, z309⟩, st309⟩ := Jvm.LawKit.callS XC5 hx (y := (⟨"com/example/orbweave/orbweave/ByteWriterToByteArrayPinLaw", "getInt", "([BI)I"⟩ : MethodName)) hown (mvT hZ (hw _ (List.mem_of_getElem? (i := 61) rfl))) (mvT hZ (hw _ (List.mem_of_getElem? (i := 62) rfl))) (mvT hZ (hw _ (List.mem_of_getElem? (i := 59) rfl))) (mvT hZ (hw _ (List.mem_of_getElem? (i := 63) rfl))) (by decide) (backOf (W := 0) (rm12 l Z a0 hw [] b287 o5 k287q (Int32.ofNat u6.length) u6 p5 T287.heap n0 zs296 Vq287 (own_rd (A := u5) (l := (own_ib p5)) (d := (.int (0 : Int32))) (by rw [hr6, hu6, own_opt_yes hc429_308]) ho5 (by omega) rfl)) hZ (hw _ (List.mem_of_getElem? (i := 63) rfl)) (hw _ (List.mem_of_getElem? (i := 59) rfl)) (by decide) (by decide)) (g := (mkF m 441 #[.val (.long q1), .second, .val (.long q2), .second, .val (.long q3), .second, .val (.long q4), .second, .val (.int p5), .val (.int p6), .val (.ref b215), .val (.int f1), .val (.int f2), .val (.int f3), .val (.int f4), .val (.int f5), .val (.int f6), .val (.int n), .val (.ref b287), .val (.int o5), .val (.int (1 : Int32)), .unset, .unset] [(.int o5), (.ref b287)])) rfl (by rw [hml]; rfl) (argsL := [(.ref b287), (.int o5)]) (rest := []) (lenOf pd_9 rfl) rfl (by show 2 * 0 + _ ≤ _; exact Nat.le_of_eq rfl) (hb hby at_441) (fun _ _ => ⟨rfl, eC5, (by decide : 5 + 0 ≤ _), (by decide : 199 + 0 ≤ _)⟩)
      dsimp only [Pt.U, Pt.locs, Pt.cells, Pt.slots] at X309 l309 y309 z309 st309 hQ309
      subst l309 y309 z309
      obtain ⟨rfl, Nq309, hh309⟩ := hQ309
      have N309 := Fr.app NC5 Nq309
      refine own_go st309 ?_
      have e309 : T309.heap = T287.heap := hh309
      show own_G p e below (T309.setTop (mkF m 444 #[.val (.long q1), .second, .val (.long q2), .second, .val (.long q3), .second, .val (.long q4), .second, .val (.int p5), .val (.int p6), .val (.ref b215), .val (.int f1), .val (.int f2), .val (.int f3), .val (.int f4), .val (.int f5), .val (.int f6), .val (.int n), .val (.ref b287), .val (.int o5), .val (.int (1 : Int32)), .unset, .unset] [(.int p5)])) _
      refine own_go (fun _ k => XS.iload X309.here hx rfl (hb hby at_444) rfl k) ?_
      show own_G p e below (T309.setTop (mkF m 446 #[.val (.long q1), .second, .val (.long q2), .second, .val (.long q3), .second, .val (.long q4), .second, .val (.int p5), .val (.int p6), .val (.ref b215), .val (.int f1), .val (.int f2), .val (.int f3), .val (.int f4), .val (.int f5), .val (.int f6), .val (.int n), .val (.ref b287), .val (.int o5), .val (.int (1 : Int32)), .unset, .unset] [(.int p5), (.int p5)])) _
      refine own_go (fun _ k => XS.icmpNo X309.here hx rfl (hb hby at_446) rfl (teq (rfl : p5 = p5)).2 k) ?_
      show own_G p e below (T309.setTop (mkF m 449 #[.val (.long q1), .second, .val (.long q2), .second, .val (.long q3), .second, .val (.long q4), .second, .val (.int p5), .val (.int p6), .val (.ref b215), .val (.int f1), .val (.int f2), .val (.int f3), .val (.int f4), .val (.int f5), .val (.int f6), .val (.int n), .val (.ref b287), .val (.int o5), .val (.int (1 : Int32)), .unset, .unset] [])) _
      refine own_go (fun _ k => XS.iconst X309.here hx rfl (hb hby at_449) k) ?_
      show own_G p e below (T309.setTop (mkF m 450 #[.val (.long q1), .second, .val (.long q2), .second, .val (.long q3), .second, .val (.long q4), .second, .val (.int p5), .val (.int p6), .val (.ref b215), .val (.int f1), .val (.int f2), .val (.int f3), .val (.int f4), .val (.int f5), .val (.int f6), .val (.int n), .val (.ref b287), .val (.int o5), .val (.int (1 : Int32)), .unset, .unset] [(.int (1 : Int32))])) _
      refine own_go (fun _ k => XS.goto X309.here hx rfl (pc0 := 450) (pc' := 454) rfl (hb hby at_450) (by decide) (by decide) k) ?_
      show own_G p e below (T309.setTop (mkF m 454 #[.val (.long q1), .second, .val (.long q2), .second, .val (.long q3), .second, .val (.long q4), .second, .val (.int p5), .val (.int p6), .val (.ref b215), .val (.int f1), .val (.int f2), .val (.int f3), .val (.int f4), .val (.int f5), .val (.int f6), .val (.int n), .val (.ref b287), .val (.int o5), .val (.int (1 : Int32)), .unset, .unset] [(.int (1 : Int32))])) _
      refine own_go (fun _ k => XS.istore X309.here hx rfl (hb hby at_454) rfl (l' := #[.val (.long q1), .second, .val (.long q2), .second, .val (.long q3), .second, .val (.long q4), .second, .val (.int p5), .val (.int p6), .val (.ref b215), .val (.int f1), .val (.int f2), .val (.int f3), .val (.int f4), .val (.int f5), .val (.int f6), .val (.int n), .val (.ref b287), .val (.int o5), .val (.int (1 : Int32)), .unset, .unset]) rfl k) ?_
      show own_G p e below (T309.setTop (mkF m 456 #[.val (.long q1), .second, .val (.long q2), .second, .val (.long q3), .second, .val (.long q4), .second, .val (.int p5), .val (.int p6), .val (.ref b215), .val (.int f1), .val (.int f2), .val (.int f3), .val (.int f4), .val (.int f5), .val (.int f6), .val (.int n), .val (.ref b287), .val (.int o5), .val (.int (1 : Int32)), .unset, .unset] [])) _
      refine own_go (fun _ k => XS.iinc X309.here hx rfl (hb hby at_456) rfl (l' := #[.val (.long q1), .second, .val (.long q2), .second, .val (.long q3), .second, .val (.long q4), .second, .val (.int p5), .val (.int p6), .val (.ref b215), .val (.int f1), .val (.int f2), .val (.int f3), .val (.int f4), .val (.int f5), .val (.int f6), .val (.int n), .val (.ref b287), .val (.int (o5 + (4 : Int32))), .val (.int (1 : Int32)), .unset, .unset]) rfl k) ?_
      show own_G p e below (T309.setTop (mkF m 459 #[.val (.long q1), .second, .val (.long q2), .second, .val (.long q3), .second, .val (.long q4), .second, .val (.int p5), .val (.int p6), .val (.ref b215), .val (.int f1), .val (.int f2), .val (.int f3), .val (.int f4), .val (.int f5), .val (.int f6), .val (.int n), .val (.ref b287), .val (.int (o5 + (4 : Int32))), .val (.int (1 : Int32)), .unset, .unset] [])) _
      exact JC6 T309 _ _ X309 N309 e309 (own_stepo hu6 hc429_308 ho5 rfl)
  intro TC6 LC6 o6 XC6 NC6 eC6 ho6
  show own_G p e below (TC6.setTop (mkF m 459 #[.val (.long q1), .second, .val (.long q2), .second, .val (.long q3), .second, .val (.long q4), .second, .val (.int p5), .val (.int p6), .val (.ref b215), .val (.int f1), .val (.int f2), .val (.int f3), .val (.int f4), .val (.int f5), .val (.int f6), .val (.int n), .val (.ref b287), .val (.int o6), .val (.int (1 : Int32)), .unset, .unset] [])) _
  refine own_go (fun _ k => XS.iload XC6.here hx rfl (hb hby at_459) rfl k) ?_
  show own_G p e below (TC6.setTop (mkF m 461 #[.val (.long q1), .second, .val (.long q2), .second, .val (.long q3), .second, .val (.long q4), .second, .val (.int p5), .val (.int p6), .val (.ref b215), .val (.int f1), .val (.int f2), .val (.int f3), .val (.int f4), .val (.int f5), .val (.int f6), .val (.int n), .val (.ref b287), .val (.int o6), .val (.int (1 : Int32)), .unset, .unset] [(.int (1 : Int32))])) _
  refine own_go (fun _ k => XS.ifYes XC6.here hx rfl (pc0 := 461) (pc' := 466) rfl (hb hby at_461) rfl ((if0 _ _).trans (feq (by decide : ¬ ((1 : Int32) = (0 : Int32)))).2) (by decide) (by decide) k) ?_
  show own_G p e below (TC6.setTop (mkF m 466 #[.val (.long q1), .second, .val (.long q2), .second, .val (.long q3), .second, .val (.long q4), .second, .val (.int p5), .val (.int p6), .val (.ref b215), .val (.int f1), .val (.int f2), .val (.int f3), .val (.int f4), .val (.int f5), .val (.int f6), .val (.int n), .val (.ref b287), .val (.int o6), .val (.int (1 : Int32)), .unset, .unset] [])) _
  refine own_go (fun _ k => XS.iload XC6.here hx rfl (hb hby at_466) rfl k) ?_
  show own_G p e below (TC6.setTop (mkF m 468 #[.val (.long q1), .second, .val (.long q2), .second, .val (.long q3), .second, .val (.long q4), .second, .val (.int p5), .val (.int p6), .val (.ref b215), .val (.int f1), .val (.int f2), .val (.int f3), .val (.int f4), .val (.int f5), .val (.int f6), .val (.int n), .val (.ref b287), .val (.int o6), .val (.int (1 : Int32)), .unset, .unset] [(.int n)])) _
  by_cases hc468_310 : (0 : Int32) < n
  · refine own_go (fun _ k => XS.ifNo XC6.here hx rfl (hb hby at_468) rfl ((if0 _ _).trans (tlt hc468_310).2.2.2) k) ?_
    have hp0 : 0 < u6.length := own_pos hN (by omega) hc468_310
    obtain ⟨v0, hv0⟩ : ∃ x, u6.getD 0 (.int (0 : Int32)) = .int x := own_int Vq287 (by rw [own_tn (by omega)]; exact hp0)
    show own_G p e below (TC6.setTop (mkF m 471 #[.val (.long q1), .second, .val (.long q2), .second, .val (.long q3), .second, .val (.long q4), .second, .val (.int p5), .val (.int p6), .val (.ref b215), .val (.int f1), .val (.int f2), .val (.int f3), .val (.int f4), .val (.int f5), .val (.int f6), .val (.int n), .val (.ref b287), .val (.int o6), .val (.int (1 : Int32)), .unset, .unset] [])) _
    refine own_go (fun _ k => XS.aload XC6.here hx rfl (hb hby at_471) rfl rfl k) ?_
    show own_G p e below (TC6.setTop (mkF m 473 #[.val (.long q1), .second, .val (.long q2), .second, .val (.long q3), .second, .val (.long q4), .second, .val (.int p5), .val (.int p6), .val (.ref b215), .val (.int f1), .val (.int f2), .val (.int f3), .val (.int f4), .val (.int f5), .val (.int f6), .val (.int n), .val (.ref b287), .val (.int o6), .val (.int (1 : Int32)), .unset, .unset] [(.ref b287)])) _
    refine own_go (fun _ k => XS.iconst XC6.here hx rfl (hb hby at_473) k) ?_
    show own_G p e below (TC6.setTop (mkF m 474 #[.val (.long q1), .second, .val (.long q2), .second, .val (.long q3), .second, .val (.long q4), .second, .val (.int p5), .val (.int p6), .val (.ref b215), .val (.int f1), .val (.int f2), .val (.int f3), .val (.int f4), .val (.int f5), .val (.int f6), .val (.int n), .val (.ref b287), .val (.int o6), .val (.int (1 : Int32)), .unset, .unset] [(.int (0 : Int32)), (.ref b287)])) _
    obtain ⟨cl311, Ar311, q311, S311, M311, B311, G311⟩ := id Vq287
    have hin311 : ¬ ((0 : Int32) < 0 ∨ cl311.slots.size ≤ ((0 : Int32)).toNatClampNeg) := inb_of S311 ⟨by decide, own_posI0 hp0 (by omega)⟩
    have hat311 : cl311.slots[((0 : Int32)).toNatClampNeg]? = some (.int v0) := B311.at hin311 hv0
    refine own_go (XC6.baloadBytes hx (j := (0 : Int32)) (v := (.int v0)) (by rw [eC6]; exact Ar311.1) (State.isArrayOf_alike hZ.alike Ar311.2.1) Ar311.2.2 hin311 hat311 (g := (mkF m 474 #[.val (.long q1), .second, .val (.long q2), .second, .val (.long q3), .second, .val (.long q4), .second, .val (.int p5), .val (.int p6), .val (.ref b215), .val (.int f1), .val (.int f2), .val (.int f3), .val (.int f4), .val (.int f5), .val (.int f6), .val (.int n), .val (.ref b287), .val (.int o6), .val (.int (1 : Int32)), .unset, .unset] [(.int (0 : Int32)), (.ref b287)])) rfl rfl (hb hby at_474)) ?_
    show own_G p e below (TC6.setTop (mkF m 475 #[.val (.long q1), .second, .val (.long q2), .second, .val (.long q3), .second, .val (.long q4), .second, .val (.int p5), .val (.int p6), .val (.ref b215), .val (.int f1), .val (.int f2), .val (.int f3), .val (.int f4), .val (.int f5), .val (.int f6), .val (.int n), .val (.ref b287), .val (.int o6), .val (.int (1 : Int32)), .unset, .unset] [(.int v0)])) _
    refine own_go (fun _ k => XS.goto XC6.here hx rfl (pc0 := 475) (pc' := 479) rfl (hb hby at_475) (by decide) (by decide) k) ?_
    show own_G p e below (TC6.setTop (mkF m 479 #[.val (.long q1), .second, .val (.long q2), .second, .val (.long q3), .second, .val (.long q4), .second, .val (.int p5), .val (.int p6), .val (.ref b215), .val (.int f1), .val (.int f2), .val (.int f3), .val (.int f4), .val (.int f5), .val (.int f6), .val (.int n), .val (.ref b287), .val (.int o6), .val (.int (1 : Int32)), .unset, .unset] [(.int v0)])) _
    refine own_go (fun _ k => XS.istore XC6.here hx rfl (hb hby at_479) rfl (l' := #[.val (.long q1), .second, .val (.long q2), .second, .val (.long q3), .second, .val (.long q4), .second, .val (.int p5), .val (.int p6), .val (.ref b215), .val (.int f1), .val (.int f2), .val (.int f3), .val (.int f4), .val (.int f5), .val (.int f6), .val (.int n), .val (.ref b287), .val (.int o6), .val (.int (1 : Int32)), .val (.int v0), .unset]) rfl k) ?_
    show own_G p e below (TC6.setTop (mkF m 481 #[.val (.long q1), .second, .val (.long q2), .second, .val (.long q3), .second, .val (.long q4), .second, .val (.int p5), .val (.int p6), .val (.ref b215), .val (.int f1), .val (.int f2), .val (.int f3), .val (.int f4), .val (.int f5), .val (.int f6), .val (.int n), .val (.ref b287), .val (.int o6), .val (.int (1 : Int32)), .val (.int v0), .unset] [])) _
    refine own_go (fun _ k => XS.iload XC6.here hx rfl (hb hby at_481) rfl k) ?_
    show own_G p e below (TC6.setTop (mkF m 483 #[.val (.long q1), .second, .val (.long q2), .second, .val (.long q3), .second, .val (.long q4), .second, .val (.int p5), .val (.int p6), .val (.ref b215), .val (.int f1), .val (.int f2), .val (.int f3), .val (.int f4), .val (.int f5), .val (.int f6), .val (.int n), .val (.ref b287), .val (.int o6), .val (.int (1 : Int32)), .val (.int v0), .unset] [(.int n)])) _
    refine own_go (fun _ k => XS.ifNo XC6.here hx rfl (hb hby at_483) rfl ((if0 _ _).trans (tlt hc468_310).2.2.2) k) ?_
    show own_G p e below (TC6.setTop (mkF m 486 #[.val (.long q1), .second, .val (.long q2), .second, .val (.long q3), .second, .val (.long q4), .second, .val (.int p5), .val (.int p6), .val (.ref b215), .val (.int f1), .val (.int f2), .val (.int f3), .val (.int f4), .val (.int f5), .val (.int f6), .val (.int n), .val (.ref b287), .val (.int o6), .val (.int (1 : Int32)), .val (.int v0), .unset] [])) _
    refine own_go (fun _ k => XS.aload XC6.here hx rfl (hb hby at_486) rfl rfl k) ?_
    show own_G p e below (TC6.setTop (mkF m 488 #[.val (.long q1), .second, .val (.long q2), .second, .val (.long q3), .second, .val (.long q4), .second, .val (.int p5), .val (.int p6), .val (.ref b215), .val (.int f1), .val (.int f2), .val (.int f3), .val (.int f4), .val (.int f5), .val (.int f6), .val (.int n), .val (.ref b287), .val (.int o6), .val (.int (1 : Int32)), .val (.int v0), .unset] [(.ref b287)])) _
    refine own_go (fun _ k => XS.iconst XC6.here hx rfl (hb hby at_488) k) ?_
    show own_G p e below (TC6.setTop (mkF m 489 #[.val (.long q1), .second, .val (.long q2), .second, .val (.long q3), .second, .val (.long q4), .second, .val (.int p5), .val (.int p6), .val (.ref b215), .val (.int f1), .val (.int f2), .val (.int f3), .val (.int f4), .val (.int f5), .val (.int f6), .val (.int n), .val (.ref b287), .val (.int o6), .val (.int (1 : Int32)), .val (.int v0), .unset] [(.int (0 : Int32)), (.ref b287)])) _
    refine own_go (fun _ k => XS.aload XC6.here hx rfl (hb hby at_489) rfl rfl k) ?_
    show own_G p e below (TC6.setTop (mkF m 491 #[.val (.long q1), .second, .val (.long q2), .second, .val (.long q3), .second, .val (.long q4), .second, .val (.int p5), .val (.int p6), .val (.ref b215), .val (.int f1), .val (.int f2), .val (.int f3), .val (.int f4), .val (.int f5), .val (.int f6), .val (.int n), .val (.ref b287), .val (.int o6), .val (.int (1 : Int32)), .val (.int v0), .unset] [(.ref b287), (.int (0 : Int32)), (.ref b287)])) _
    refine own_go (fun _ k => XS.iconst XC6.here hx rfl (hb hby at_491) k) ?_
    show own_G p e below (TC6.setTop (mkF m 492 #[.val (.long q1), .second, .val (.long q2), .second, .val (.long q3), .second, .val (.long q4), .second, .val (.int p5), .val (.int p6), .val (.ref b215), .val (.int f1), .val (.int f2), .val (.int f3), .val (.int f4), .val (.int f5), .val (.int f6), .val (.int n), .val (.ref b287), .val (.int o6), .val (.int (1 : Int32)), .val (.int v0), .unset] [(.int (0 : Int32)), (.ref b287), (.int (0 : Int32)), (.ref b287)])) _
    obtain ⟨cl312, Ar312, q312, S312, M312, B312, G312⟩ := id Vq287
    have hin312 : ¬ ((0 : Int32) < 0 ∨ cl312.slots.size ≤ ((0 : Int32)).toNatClampNeg) := inb_of S312 ⟨by decide, own_posI0 hp0 (by omega)⟩
    have hat312 : cl312.slots[((0 : Int32)).toNatClampNeg]? = some (.int v0) := B312.at hin312 hv0
    refine own_go (XC6.baloadBytes hx (j := (0 : Int32)) (v := (.int v0)) (by rw [eC6]; exact Ar312.1) (State.isArrayOf_alike hZ.alike Ar312.2.1) Ar312.2.2 hin312 hat312 (g := (mkF m 492 #[.val (.long q1), .second, .val (.long q2), .second, .val (.long q3), .second, .val (.long q4), .second, .val (.int p5), .val (.int p6), .val (.ref b215), .val (.int f1), .val (.int f2), .val (.int f3), .val (.int f4), .val (.int f5), .val (.int f6), .val (.int n), .val (.ref b287), .val (.int o6), .val (.int (1 : Int32)), .val (.int v0), .unset] [(.int (0 : Int32)), (.ref b287), (.int (0 : Int32)), (.ref b287)])) rfl rfl (hb hby at_492)) ?_
    show own_G p e below (TC6.setTop (mkF m 493 #[.val (.long q1), .second, .val (.long q2), .second, .val (.long q3), .second, .val (.long q4), .second, .val (.int p5), .val (.int p6), .val (.ref b215), .val (.int f1), .val (.int f2), .val (.int f3), .val (.int f4), .val (.int f5), .val (.int f6), .val (.int n), .val (.ref b287), .val (.int o6), .val (.int (1 : Int32)), .val (.int v0), .unset] [(.int v0), (.int (0 : Int32)), (.ref b287)])) _
    refine own_go (fun _ k => XS.iconst XC6.here hx rfl (hb hby at_493) k) ?_
    show own_G p e below (TC6.setTop (mkF m 494 #[.val (.long q1), .second, .val (.long q2), .second, .val (.long q3), .second, .val (.long q4), .second, .val (.int p5), .val (.int p6), .val (.ref b215), .val (.int f1), .val (.int f2), .val (.int f3), .val (.int f4), .val (.int f5), .val (.int f6), .val (.int n), .val (.ref b287), .val (.int o6), .val (.int (1 : Int32)), .val (.int v0), .unset] [(.int (1 : Int32)), (.int v0), (.int (0 : Int32)), (.ref b287)])) _
    refine own_go (fun _ k => XS.iadd XC6.here hx rfl (hb hby at_494) rfl k) ?_
    show own_G p e below (TC6.setTop (mkF m 495 #[.val (.long q1), .second, .val (.long q2), .second, .val (.long q3), .second, .val (.long q4), .second, .val (.int p5), .val (.int p6), .val (.ref b215), .val (.int f1), .val (.int f2), .val (.int f3), .val (.int f4), .val (.int f5), .val (.int f6), .val (.int n), .val (.ref b287), .val (.int o6), .val (.int (1 : Int32)), .val (.int v0), .unset] [(.int (v0 + (1 : Int32))), (.int (0 : Int32)), (.ref b287)])) _
    refine own_go (fun _ k => XS.i2b XC6.here hx rfl (hb hby at_495) rfl k) ?_
    show own_G p e below (TC6.setTop (mkF m 496 #[.val (.long q1), .second, .val (.long q2), .second, .val (.long q3), .second, .val (.long q4), .second, .val (.int p5), .val (.int p6), .val (.ref b215), .val (.int f1), .val (.int f2), .val (.int f3), .val (.int f4), .val (.int f5), .val (.int f6), .val (.int n), .val (.ref b287), .val (.int o6), .val (.int (1 : Int32)), .val (.int v0), .unset] [(.int ((v0 + (1 : Int32)).toInt8.toInt32)), (.int (0 : Int32)), (.ref b287)])) _
    obtain ⟨cl313, Ar313, q313, S313, M313, B313, G313⟩ := id Vq287
    have hin313 : ¬ ((0 : Int32) < 0 ∨ cl313.slots.size ≤ ((0 : Int32)).toNatClampNeg) := inb_of S313 ⟨by decide, own_posI0 hp0 (by omega)⟩
    obtain ⟨T313, h313, X313, e313, W313, st313⟩ := stB XC6 hx hZ eC6 Ar313 (j := (0 : Int32)) hin313 (g := (mkF m 496 #[.val (.long q1), .second, .val (.long q2), .second, .val (.long q3), .second, .val (.long q4), .second, .val (.int p5), .val (.int p6), .val (.ref b215), .val (.int f1), .val (.int f2), .val (.int f3), .val (.int f4), .val (.int f5), .val (.int f6), .val (.int n), .val (.ref b287), .val (.int o6), .val (.int (1 : Int32)), .val (.int v0), .unset] [(.int ((v0 + (1 : Int32)).toInt8.toInt32)), (.int (0 : Int32)), (.ref b287)])) rfl rfl (hb hby at_496)
    refine own_go st313 ?_
    rw [show nar .byte ((v0 + (1 : Int32)).toInt8.toInt32) = ((v0 + (1 : Int32)).toInt8.toInt32) from (own_bb _)] at W313
    have f314 := f291.wr W313
    have f315 := f292.other W313 (Or.inl ne288)
    have f316 := f293.other W313 (Or.inl ne288)
    have f317 := f294.wr W313
    have f318 := f295.other W313 ne289
    have f319 := E287q.wr W313
    have zs320 : n0 ≤ h313.size := Nat.le_trans zs296 (Keep.of_wr W313).1
    have N313 := Fr.snoc X313 NC6 ge290
    show own_G p e below (T313.setTop (mkF m 497 #[.val (.long q1), .second, .val (.long q2), .second, .val (.long q3), .second, .val (.long q4), .second, .val (.int p5), .val (.int p6), .val (.ref b215), .val (.int f1), .val (.int f2), .val (.int f3), .val (.int f4), .val (.int f5), .val (.int f6), .val (.int n), .val (.ref b287), .val (.int o6), .val (.int (1 : Int32)), .val (.int v0), .unset] [])) _
    refine own_go (fun _ k => XS.aload X313.here hx rfl (hb hby at_497) rfl rfl k) ?_
    show own_G p e below (T313.setTop (mkF m 499 #[.val (.long q1), .second, .val (.long q2), .second, .val (.long q3), .second, .val (.long q4), .second, .val (.int p5), .val (.int p6), .val (.ref b215), .val (.int f1), .val (.int f2), .val (.int f3), .val (.int f4), .val (.int f5), .val (.int f6), .val (.int n), .val (.ref b287), .val (.int o6), .val (.int (1 : Int32)), .val (.int v0), .unset] [(.ref b215)])) _
    refine own_go (fun _ k => XS.iload X313.here hx rfl (hb hby at_499) rfl k) ?_
    show own_G p e below (T313.setTop (mkF m 501 #[.val (.long q1), .second, .val (.long q2), .second, .val (.long q3), .second, .val (.long q4), .second, .val (.int p5), .val (.int p6), .val (.ref b215), .val (.int f1), .val (.int f2), .val (.int f3), .val (.int f4), .val (.int f5), .val (.int f6), .val (.int n), .val (.ref b287), .val (.int o6), .val (.int (1 : Int32)), .val (.int v0), .unset] [(.int p5), (.ref b215)])) _
    refine own_go (fun _ k => XS.bipush X313.here hx rfl (hb hby at_501) k) ?_
    show own_G p e below (T313.setTop (mkF m 503 #[.val (.long q1), .second, .val (.long q2), .second, .val (.long q3), .second, .val (.long q4), .second, .val (.int p5), .val (.int p6), .val (.ref b215), .val (.int f1), .val (.int f2), .val (.int f3), .val (.int f4), .val (.int f5), .val (.int f6), .val (.int n), .val (.ref b287), .val (.int o6), .val (.int (1 : Int32)), .val (.int v0), .unset] [(.int (8 : Int32)), (.int p5), (.ref b215)])) _
    refine own_go (fun _ k => XT.iushr X313.here hx rfl (hb hby at_503) rfl k) ?_
    show own_G p e below (T313.setTop (mkF m 504 #[.val (.long q1), .second, .val (.long q2), .second, .val (.long q3), .second, .val (.long q4), .second, .val (.int p5), .val (.int p6), .val (.ref b215), .val (.int f1), .val (.int f2), .val (.int f3), .val (.int f4), .val (.int f5), .val (.int f6), .val (.int n), .val (.ref b287), .val (.int o6), .val (.int (1 : Int32)), .val (.int v0), .unset] [(.int (XT.ushr p5 (8 : Int32))), (.ref b215)])) _
    rcases hz6 with ⟨rfl, h32⟩ | rfl
    · by_cases hlen : u6.length = 32
      · show own_G p e below (T313.setTop (mkF m 504 #[.val (.long q1), .second, .val (.long q2), .second, .val (.long q3), .second, .val (.long q4), .second, .val (.int p5), .val (.int p6), .val (.ref b215), .val (.int f1), .val (.int f2), .val (.int f3), .val (.int f4), .val (.int f5), .val (.int f6), .val (.int n), .val (.ref b287), .val (.int o6), .val (.int (1 : Int32)), .val (.int v0), .unset] [(.int (XT.ushr p5 (8 : Int32))), (.ref b215)])) _
        obtain ⟨cq321, kq321, q321a, q321b, q321c⟩ := isOf hZ e313 f314
        obtain ⟨_, _, ⟨T321, L321, k321, n321⟩, -, X321, ⟨Lc321, hQ321, l321, y321, z321⟩, st321⟩ := X313.virtualBack hx (y := (⟨"com/example/orbweave/orbweave/ByteWriter", "writeByte", "(I)Lcom/example/orbweave/orbweave/ByteWriter;"⟩ : MethodName)) (z := (⟨"com/example/orbweave/orbweave/ByteWriter", "writeByte", "(I)Lcom/example/orbweave/orbweave/ByteWriter;"⟩ : MethodName)) hown (mvT hZ (hw _ (List.mem_of_getElem? (i := 31) rfl))) (mvT hZ (hw _ (List.mem_of_getElem? (i := 32) rfl))) (notFace_of_selects (args := #[]) (mvT hZ (hw _ (List.mem_of_getElem? (i := 34) rfl)))) (mvT hZ (hw _ (List.mem_of_getElem? (i := 34) rfl))) (mvT hZ (hw _ (List.mem_of_getElem? (i := 33) rfl))) (by decide) (backOf (W := 0) (rm6_1 l Z a0 hw [] b215 (XT.ushr p5 (8 : Int32)) bJ6 kJ6 u6 h313 n0 zs320 f314 f315 (by have q := f316; rw [own_of32 hlen] at q; exact q) ge216 f318 f317 gbJ6 hlen) hZ (hw _ (List.mem_of_getElem? (i := 35) rfl)) (hw _ (List.mem_of_getElem? (i := 2) rfl)) (by decide) (by decide)) q321a q321c (g := (mkF m 504 #[.val (.long q1), .second, .val (.long q2), .second, .val (.long q3), .second, .val (.long q4), .second, .val (.int p5), .val (.int p6), .val (.ref b215), .val (.int f1), .val (.int f2), .val (.int f3), .val (.int f4), .val (.int f5), .val (.int f6), .val (.int n), .val (.ref b287), .val (.int o6), .val (.int (1 : Int32)), .val (.int v0), .unset] [(.int (XT.ushr p5 (8 : Int32))), (.ref b215)])) rfl (by rw [hml]; rfl) (Steps.refl _) (argsL := [(.int (XT.ushr p5 (8 : Int32)))]) (rest := []) (lenOf pd_3 rfl) rfl (by show 2 * 0 + _ ≤ _; exact Nat.le_of_eq rfl) (hb hby at_504) (fun _ _ => ⟨rfl, e313, (by decide : 5 + 1 ≤ _), (by decide : 199 + 64 ≤ _)⟩)
        dsimp only [Pt.U, Pt.locs, Pt.cells, Pt.slots] at X321 l321 y321 z321 st321 hQ321
        subst l321 y321 z321
        obtain ⟨b321, k321q, rfl, Nq321, K321, hsz321, Eo321, Fb321, Fl321, Eb321, Vq321⟩ := hQ321
        have N321 := Fr.app N313 Nq321
        refine own_go (fun _ k => st321.trans k) ?_
        have ne322 : b215 ≠ b321 := Nat.ne_of_lt (Nat.lt_of_lt_of_le f314.lt hsz321)
        have ne323 : bJ6 ≠ b321 := Nat.ne_of_lt (Nat.lt_of_lt_of_le f317.lt hsz321)
        have ne324 : b287 ≠ b321 := Nat.ne_of_lt (Nat.lt_of_lt_of_le f319.lt hsz321)
        have ge325 : n0 ≤ b321 := Nat.le_trans zs320 hsz321
        have f326 := f314.keep K321
        have f327 := f317.keep K321
        have f328 := f318.keep K321 (ninS (Ne.symm neJ6) nin0)
        have f329 := f319.keep K321
        have zs330 : n0 ≤ T321.heap.size := Nat.le_trans zs320 K321.1
        show own_G p e below (T321.setTop (mkF m 507 #[.val (.long q1), .second, .val (.long q2), .second, .val (.long q3), .second, .val (.long q4), .second, .val (.int p5), .val (.int p6), .val (.ref b215), .val (.int f1), .val (.int f2), .val (.int f3), .val (.int f4), .val (.int f5), .val (.int f6), .val (.int n), .val (.ref b287), .val (.int o6), .val (.int (1 : Int32)), .val (.int v0), .unset] [(.ref b215)])) _
        refine own_go (fun _ k => XS.pop X321.here hx rfl (hb hby at_507) rfl rfl k) ?_
        show own_G p e below (T321.setTop (mkF m 508 #[.val (.long q1), .second, .val (.long q2), .second, .val (.long q3), .second, .val (.long q4), .second, .val (.int p5), .val (.int p6), .val (.ref b215), .val (.int f1), .val (.int f2), .val (.int f3), .val (.int f4), .val (.int f5), .val (.int f6), .val (.int n), .val (.ref b287), .val (.int o6), .val (.int (1 : Int32)), .val (.int v0), .unset] [])) _
        refine own_go (fun _ k => XS.aload X321.here hx rfl (hb hby at_508) rfl rfl k) ?_
        show own_G p e below (T321.setTop (mkF m 510 #[.val (.long q1), .second, .val (.long q2), .second, .val (.long q3), .second, .val (.long q4), .second, .val (.int p5), .val (.int p6), .val (.ref b215), .val (.int f1), .val (.int f2), .val (.int f3), .val (.int f4), .val (.int f5), .val (.int f6), .val (.int n), .val (.ref b287), .val (.int o6), .val (.int (1 : Int32)), .val (.int v0), .unset] [(.ref b215)])) _
        obtain ⟨cq331, kq331, q331a, q331b, q331c⟩ := isOf hZ rfl Eo321
        obtain ⟨_, _, ⟨T331, L331, k331, n331⟩, -, X331, ⟨Lc331, hQ331, l331, y331, z331⟩, st331⟩ := X321.virtualBack hx (y := (⟨"com/example/orbweave/orbweave/ByteWriter", "toByteArray", "()[B"⟩ : MethodName)) (z := (⟨"com/example/orbweave/orbweave/ByteWriter", "toByteArray", "()[B"⟩ : MethodName)) hown (mvT hZ (hw _ (List.mem_of_getElem? (i := 12) rfl))) (mvT hZ (hw _ (List.mem_of_getElem? (i := 13) rfl))) (notFace_of_selects (args := #[]) (mvT hZ (hw _ (List.mem_of_getElem? (i := 15) rfl)))) (mvT hZ (hw _ (List.mem_of_getElem? (i := 15) rfl))) (mvT hZ (hw _ (List.mem_of_getElem? (i := 14) rfl))) (by decide) (backOf (W := 0) (rm3 l Z a0 hw [] b215 b321 k321q (64 : Int32) (Int32.ofNat (u6 ++ [Value.int ((XT.ushr p5 (8 : Int32)).toInt8.toInt32)]).length) (u6 ++ [Value.int ((XT.ushr p5 (8 : Int32)).toInt8.toInt32)]) 38 T321.heap n0 zs330 Fb321 Fl321 Vq321 Eb321 (own_ofnn (by simp only [List.length_append, List.length_cons, List.length_nil, own_len_sb, own_len_ib, own_len_lb]; omega)) (by rw [own_tn (by simp only [List.length_append, List.length_cons, List.length_nil, own_len_sb, own_len_ib, own_len_lb]; omega)]; simp only [List.length_append, List.length_cons, List.length_nil, own_len_sb, own_len_ib, own_len_lb]; omega) (by decide) (by rw [show ((64 : Int32)).toNatClampNeg = 64 from by decide]; simp only [List.length_append, List.length_cons, List.length_nil, own_len_sb, own_len_ib, own_len_lb]; omega)) hZ (hw _ (List.mem_of_getElem? (i := 16) rfl)) (hw _ (List.mem_of_getElem? (i := 2) rfl)) (by decide) (by decide)) q331a q331c (g := (mkF m 510 #[.val (.long q1), .second, .val (.long q2), .second, .val (.long q3), .second, .val (.long q4), .second, .val (.int p5), .val (.int p6), .val (.ref b215), .val (.int f1), .val (.int f2), .val (.int f3), .val (.int f4), .val (.int f5), .val (.int f6), .val (.int n), .val (.ref b287), .val (.int o6), .val (.int (1 : Int32)), .val (.int v0), .unset] [(.ref b215)])) rfl (by rw [hml]; rfl) (Steps.refl _) (argsL := []) (rest := []) (lenOf pd_7 rfl) rfl (by show 2 * 0 + _ ≤ _; exact Nat.le_of_eq rfl) (hb hby at_510) (fun _ _ => ⟨rfl, rfl, (by decide : 5 + 1 + 1 ≤ _), (by decide : 199 + 64 + 38 ≤ _)⟩)
        dsimp only [Pt.U, Pt.locs, Pt.cells, Pt.slots] at X331 l331 y331 z331 st331 hQ331
        subst l331 y331 z331
        obtain ⟨b331, k331q, rfl, Nq331, K331, hsz331, E331q, Vq331⟩ := hQ331
        have N331 := Fr.app N321 Nq331
        refine own_go (fun _ k => st331.trans k) ?_
        have ne332 : b215 ≠ b331 := Nat.ne_of_lt (Nat.lt_of_lt_of_le Eo321.lt hsz331)
        have ne333 : bJ6 ≠ b331 := Nat.ne_of_lt (Nat.lt_of_lt_of_le f327.lt hsz331)
        have ne334 : b287 ≠ b331 := Nat.ne_of_lt (Nat.lt_of_lt_of_le f329.lt hsz331)
        have ne335 : b321 ≠ b331 := Nat.ne_of_lt (Nat.lt_of_lt_of_le Eb321.lt hsz331)
        have ge336 : n0 ≤ b331 := Nat.le_trans zs330 hsz331
        have f337 := Eo321.keep K331
        have f338 := f327.keep K331
        have f339 := f328.keep K331 nin0
        have f340 := f329.keep K331
        have f341 := Fb321.keep K331 nin0
        have f342 := Fl321.keep K331 nin0
        have f343 := Eb321.keep K331
        have f344 := Vq321.keep K331 nin0
        have zs345 : n0 ≤ T331.heap.size := Nat.le_trans zs330 K331.1
        rw [own_takeall _ (by simp only [List.length_append, List.length_cons, List.length_nil, own_len_sb, own_len_ib, own_len_lb]; omega)] at Vq331
        show own_G p e below (T331.setTop (mkF m 513 #[.val (.long q1), .second, .val (.long q2), .second, .val (.long q3), .second, .val (.long q4), .second, .val (.int p5), .val (.int p6), .val (.ref b215), .val (.int f1), .val (.int f2), .val (.int f3), .val (.int f4), .val (.int f5), .val (.int f6), .val (.int n), .val (.ref b287), .val (.int o6), .val (.int (1 : Int32)), .val (.int v0), .unset] [(.ref b331)])) _
        refine own_go (fun _ k => XS.astore X331.here hx rfl (hb hby at_513) rfl rfl (l' := #[.val (.long q1), .second, .val (.long q2), .second, .val (.long q3), .second, .val (.long q4), .second, .val (.int p5), .val (.int p6), .val (.ref b215), .val (.int f1), .val (.int f2), .val (.int f3), .val (.int f4), .val (.int f5), .val (.int f6), .val (.int n), .val (.ref b287), .val (.int o6), .val (.int (1 : Int32)), .val (.int v0), .val (.ref b331)]) rfl k) ?_
        show own_G p e below (T331.setTop (mkF m 515 #[.val (.long q1), .second, .val (.long q2), .second, .val (.long q3), .second, .val (.long q4), .second, .val (.int p5), .val (.int p6), .val (.ref b215), .val (.int f1), .val (.int f2), .val (.int f3), .val (.int f4), .val (.int f5), .val (.int f6), .val (.int n), .val (.ref b287), .val (.int o6), .val (.int (1 : Int32)), .val (.int v0), .val (.ref b331)] [])) _
        refine own_go (fun _ k => XS.aload X331.here hx rfl (hb hby at_515) rfl rfl k) ?_
        show own_G p e below (T331.setTop (mkF m 517 #[.val (.long q1), .second, .val (.long q2), .second, .val (.long q3), .second, .val (.long q4), .second, .val (.int p5), .val (.int p6), .val (.ref b215), .val (.int f1), .val (.int f2), .val (.int f3), .val (.int f4), .val (.int f5), .val (.int f6), .val (.int n), .val (.ref b287), .val (.int o6), .val (.int (1 : Int32)), .val (.int v0), .val (.ref b331)] [(.ref b331)])) _
        obtain ⟨cl346, Ar346, q346, S346, M346, B346, G346⟩ := id Vq331
        refine own_go (X331.arraylength hx Ar346.1 (State.isArrayOf_alike hZ.alike Ar346.2.1) (g := (mkF m 517 #[.val (.long q1), .second, .val (.long q2), .second, .val (.long q3), .second, .val (.long q4), .second, .val (.int p5), .val (.int p6), .val (.ref b215), .val (.int f1), .val (.int f2), .val (.int f3), .val (.int f4), .val (.int f5), .val (.int f6), .val (.int n), .val (.ref b287), .val (.int o6), .val (.int (1 : Int32)), .val (.int v0), .val (.ref b331)] [(.ref b331)])) rfl rfl (hb hby at_517)) ?_
        rw [len_of S346 M346]
        show own_G p e below (T331.setTop (mkF m 518 #[.val (.long q1), .second, .val (.long q2), .second, .val (.long q3), .second, .val (.long q4), .second, .val (.int p5), .val (.int p6), .val (.ref b215), .val (.int f1), .val (.int f2), .val (.int f3), .val (.int f4), .val (.int f5), .val (.int f6), .val (.int n), .val (.ref b287), .val (.int o6), .val (.int (1 : Int32)), .val (.int v0), .val (.ref b331)] [(.int (Int32.ofNat (u6 ++ [Value.int ((XT.ushr p5 (8 : Int32)).toInt8.toInt32)]).length))])) _
        refine own_go (fun _ k => XS.iload X331.here hx rfl (hb hby at_518) rfl k) ?_
        show own_G p e below (T331.setTop (mkF m 520 #[.val (.long q1), .second, .val (.long q2), .second, .val (.long q3), .second, .val (.long q4), .second, .val (.int p5), .val (.int p6), .val (.ref b215), .val (.int f1), .val (.int f2), .val (.int f3), .val (.int f4), .val (.int f5), .val (.int f6), .val (.int n), .val (.ref b287), .val (.int o6), .val (.int (1 : Int32)), .val (.int v0), .val (.ref b331)] [(.int n), (.int (Int32.ofNat (u6 ++ [Value.int ((XT.ushr p5 (8 : Int32)).toInt8.toInt32)]).length))])) _
        refine own_go (fun _ k => XS.iconst X331.here hx rfl (hb hby at_520) k) ?_
        show own_G p e below (T331.setTop (mkF m 521 #[.val (.long q1), .second, .val (.long q2), .second, .val (.long q3), .second, .val (.long q4), .second, .val (.int p5), .val (.int p6), .val (.ref b215), .val (.int f1), .val (.int f2), .val (.int f3), .val (.int f4), .val (.int f5), .val (.int f6), .val (.int n), .val (.ref b287), .val (.int o6), .val (.int (1 : Int32)), .val (.int v0), .val (.ref b331)] [(.int (1 : Int32)), (.int n), (.int (Int32.ofNat (u6 ++ [Value.int ((XT.ushr p5 (8 : Int32)).toInt8.toInt32)]).length))])) _
        refine own_go (fun _ k => XS.iadd X331.here hx rfl (hb hby at_521) rfl k) ?_
        show own_G p e below (T331.setTop (mkF m 522 #[.val (.long q1), .second, .val (.long q2), .second, .val (.long q3), .second, .val (.long q4), .second, .val (.int p5), .val (.int p6), .val (.ref b215), .val (.int f1), .val (.int f2), .val (.int f3), .val (.int f4), .val (.int f5), .val (.int f6), .val (.int n), .val (.ref b287), .val (.int o6), .val (.int (1 : Int32)), .val (.int v0), .val (.ref b331)] [(.int (n + (1 : Int32))), (.int (Int32.ofNat (u6 ++ [Value.int ((XT.ushr p5 (8 : Int32)).toInt8.toInt32)]).length))])) _
        refine own_go (fun _ k => XS.icmpYes X331.here hx rfl (pc0 := 522) (pc' := 527) rfl (hb hby at_522) rfl (teq (by rw [own_len1, hN])).1 (by decide) (by decide) k) ?_
        show own_G p e below (T331.setTop (mkF m 527 #[.val (.long q1), .second, .val (.long q2), .second, .val (.long q3), .second, .val (.long q4), .second, .val (.int p5), .val (.int p6), .val (.ref b215), .val (.int f1), .val (.int f2), .val (.int f3), .val (.int f4), .val (.int f5), .val (.int f6), .val (.int n), .val (.ref b287), .val (.int o6), .val (.int (1 : Int32)), .val (.int v0), .val (.ref b331)] [])) _
        refine own_go (fun _ k => XS.iload X331.here hx rfl (hb hby at_527) rfl k) ?_
        show own_G p e below (T331.setTop (mkF m 529 #[.val (.long q1), .second, .val (.long q2), .second, .val (.long q3), .second, .val (.long q4), .second, .val (.int p5), .val (.int p6), .val (.ref b215), .val (.int f1), .val (.int f2), .val (.int f3), .val (.int f4), .val (.int f5), .val (.int f6), .val (.int n), .val (.ref b287), .val (.int o6), .val (.int (1 : Int32)), .val (.int v0), .val (.ref b331)] [(.int n)])) _
        refine own_go (fun _ k => XS.ifNo X331.here hx rfl (hb hby at_529) rfl ((if0 _ _).trans (tlt hc468_310).2.2.2) k) ?_
        show own_G p e below (T331.setTop (mkF m 532 #[.val (.long q1), .second, .val (.long q2), .second, .val (.long q3), .second, .val (.long q4), .second, .val (.int p5), .val (.int p6), .val (.ref b215), .val (.int f1), .val (.int f2), .val (.int f3), .val (.int f4), .val (.int f5), .val (.int f6), .val (.int n), .val (.ref b287), .val (.int o6), .val (.int (1 : Int32)), .val (.int v0), .val (.ref b331)] [])) _
        refine own_go (fun _ k => XS.aload X331.here hx rfl (hb hby at_532) rfl rfl k) ?_
        show own_G p e below (T331.setTop (mkF m 534 #[.val (.long q1), .second, .val (.long q2), .second, .val (.long q3), .second, .val (.long q4), .second, .val (.int p5), .val (.int p6), .val (.ref b215), .val (.int f1), .val (.int f2), .val (.int f3), .val (.int f4), .val (.int f5), .val (.int f6), .val (.int n), .val (.ref b287), .val (.int o6), .val (.int (1 : Int32)), .val (.int v0), .val (.ref b331)] [(.ref b331)])) _
        refine own_go (fun _ k => XS.iconst X331.here hx rfl (hb hby at_534) k) ?_
        show own_G p e below (T331.setTop (mkF m 535 #[.val (.long q1), .second, .val (.long q2), .second, .val (.long q3), .second, .val (.long q4), .second, .val (.int p5), .val (.int p6), .val (.ref b215), .val (.int f1), .val (.int f2), .val (.int f3), .val (.int f4), .val (.int f5), .val (.int f6), .val (.int n), .val (.ref b287), .val (.int o6), .val (.int (1 : Int32)), .val (.int v0), .val (.ref b331)] [(.int (0 : Int32)), (.ref b331)])) _
        obtain ⟨cl347, Ar347, q347, S347, M347, B347, G347⟩ := id Vq331
        have hin347 : ¬ ((0 : Int32) < 0 ∨ cl347.slots.size ≤ ((0 : Int32)).toNatClampNeg) := inb_of S347 ⟨by decide, own_posI0 (by simp) (by simp only [List.length_append, List.length_cons, List.length_nil, own_len_sb, own_len_ib, own_len_lb]; omega)⟩
        have hat347 : cl347.slots[((0 : Int32)).toNatClampNeg]? = some (.int v0) := B347.at hin347 ((own_app0 hp0).trans hv0)
        refine own_go (X331.baloadBytes hx (j := (0 : Int32)) (v := (.int v0)) Ar347.1 (State.isArrayOf_alike hZ.alike Ar347.2.1) Ar347.2.2 hin347 hat347 (g := (mkF m 535 #[.val (.long q1), .second, .val (.long q2), .second, .val (.long q3), .second, .val (.long q4), .second, .val (.int p5), .val (.int p6), .val (.ref b215), .val (.int f1), .val (.int f2), .val (.int f3), .val (.int f4), .val (.int f5), .val (.int f6), .val (.int n), .val (.ref b287), .val (.int o6), .val (.int (1 : Int32)), .val (.int v0), .val (.ref b331)] [(.int (0 : Int32)), (.ref b331)])) rfl rfl (hb hby at_535)) ?_
        show own_G p e below (T331.setTop (mkF m 536 #[.val (.long q1), .second, .val (.long q2), .second, .val (.long q3), .second, .val (.long q4), .second, .val (.int p5), .val (.int p6), .val (.ref b215), .val (.int f1), .val (.int f2), .val (.int f3), .val (.int f4), .val (.int f5), .val (.int f6), .val (.int n), .val (.ref b287), .val (.int o6), .val (.int (1 : Int32)), .val (.int v0), .val (.ref b331)] [(.int v0)])) _
        refine own_go (fun _ k => XS.iload X331.here hx rfl (hb hby at_536) rfl k) ?_
        show own_G p e below (T331.setTop (mkF m 538 #[.val (.long q1), .second, .val (.long q2), .second, .val (.long q3), .second, .val (.long q4), .second, .val (.int p5), .val (.int p6), .val (.ref b215), .val (.int f1), .val (.int f2), .val (.int f3), .val (.int f4), .val (.int f5), .val (.int f6), .val (.int n), .val (.ref b287), .val (.int o6), .val (.int (1 : Int32)), .val (.int v0), .val (.ref b331)] [(.int v0), (.int v0)])) _
        refine own_go (fun _ k => XS.icmpYes X331.here hx rfl (pc0 := 538) (pc' := 543) rfl (hb hby at_538) rfl (teq (rfl : v0 = v0)).1 (by decide) (by decide) k) ?_
        show own_G p e below (T331.setTop (mkF m 543 #[.val (.long q1), .second, .val (.long q2), .second, .val (.long q3), .second, .val (.long q4), .second, .val (.int p5), .val (.int p6), .val (.ref b215), .val (.int f1), .val (.int f2), .val (.int f3), .val (.int f4), .val (.int f5), .val (.int f6), .val (.int n), .val (.ref b287), .val (.int o6), .val (.int (1 : Int32)), .val (.int v0), .val (.ref b331)] [])) _
        refine own_go (fun _ k => XS.aload X331.here hx rfl (hb hby at_543) rfl rfl k) ?_
        show own_G p e below (T331.setTop (mkF m 545 #[.val (.long q1), .second, .val (.long q2), .second, .val (.long q3), .second, .val (.long q4), .second, .val (.int p5), .val (.int p6), .val (.ref b215), .val (.int f1), .val (.int f2), .val (.int f3), .val (.int f4), .val (.int f5), .val (.int f6), .val (.int n), .val (.ref b287), .val (.int o6), .val (.int (1 : Int32)), .val (.int v0), .val (.ref b331)] [(.ref b331)])) _
        refine own_go (fun _ k => XS.iload X331.here hx rfl (hb hby at_545) rfl k) ?_
        have hq7 := own_rd0 (A := u6) (l := [Value.int ((XT.ushr p5 (8 : Int32)).toInt8.toInt32)]) (C := ([] : List Value)) (u := (u6 ++ [Value.int ((XT.ushr p5 (8 : Int32)).toInt8.toInt32)])) (d := (.int (0 : Int32))) (by simp) hN (by simp only [List.length_append, List.length_cons, List.length_nil, own_len_sb, own_len_ib, own_len_lb]; omega) rfl (Nat.le_of_ble_eq_true rfl)
        show own_G p e below (T331.setTop (mkF m 547 #[.val (.long q1), .second, .val (.long q2), .second, .val (.long q3), .second, .val (.long q4), .second, .val (.int p5), .val (.int p6), .val (.ref b215), .val (.int f1), .val (.int f2), .val (.int f3), .val (.int f4), .val (.int f5), .val (.int f6), .val (.int n), .val (.ref b287), .val (.int o6), .val (.int (1 : Int32)), .val (.int v0), .val (.ref b331)] [(.int n), (.ref b331)])) _
        obtain ⟨cl348, Ar348, q348, S348, M348, B348, G348⟩ := id Vq331
        have hin348 : ¬ (n < 0 ∨ cl348.slots.size ≤ (n).toNatClampNeg) := inb_of S348 hq7.1
        have hat348 : cl348.slots[(n).toNatClampNeg]? = some (.int ((XT.ushr p5 (8 : Int32)).toInt8.toInt32)) := B348.at hin348 hq7.2
        refine own_go (X331.baloadBytes hx (j := n) (v := (.int ((XT.ushr p5 (8 : Int32)).toInt8.toInt32))) Ar348.1 (State.isArrayOf_alike hZ.alike Ar348.2.1) Ar348.2.2 hin348 hat348 (g := (mkF m 547 #[.val (.long q1), .second, .val (.long q2), .second, .val (.long q3), .second, .val (.long q4), .second, .val (.int p5), .val (.int p6), .val (.ref b215), .val (.int f1), .val (.int f2), .val (.int f3), .val (.int f4), .val (.int f5), .val (.int f6), .val (.int n), .val (.ref b287), .val (.int o6), .val (.int (1 : Int32)), .val (.int v0), .val (.ref b331)] [(.int n), (.ref b331)])) rfl rfl (hb hby at_547)) ?_
        show own_G p e below (T331.setTop (mkF m 548 #[.val (.long q1), .second, .val (.long q2), .second, .val (.long q3), .second, .val (.long q4), .second, .val (.int p5), .val (.int p6), .val (.ref b215), .val (.int f1), .val (.int f2), .val (.int f3), .val (.int f4), .val (.int f5), .val (.int f6), .val (.int n), .val (.ref b287), .val (.int o6), .val (.int (1 : Int32)), .val (.int v0), .val (.ref b331)] [(.int ((XT.ushr p5 (8 : Int32)).toInt8.toInt32))])) _
        refine own_go (fun _ k => XS.iload X331.here hx rfl (hb hby at_548) rfl k) ?_
        show own_G p e below (T331.setTop (mkF m 550 #[.val (.long q1), .second, .val (.long q2), .second, .val (.long q3), .second, .val (.long q4), .second, .val (.int p5), .val (.int p6), .val (.ref b215), .val (.int f1), .val (.int f2), .val (.int f3), .val (.int f4), .val (.int f5), .val (.int f6), .val (.int n), .val (.ref b287), .val (.int o6), .val (.int (1 : Int32)), .val (.int v0), .val (.ref b331)] [(.int p5), (.int ((XT.ushr p5 (8 : Int32)).toInt8.toInt32))])) _
        refine own_go (fun _ k => XS.bipush X331.here hx rfl (hb hby at_550) k) ?_
        show own_G p e below (T331.setTop (mkF m 552 #[.val (.long q1), .second, .val (.long q2), .second, .val (.long q3), .second, .val (.long q4), .second, .val (.int p5), .val (.int p6), .val (.ref b215), .val (.int f1), .val (.int f2), .val (.int f3), .val (.int f4), .val (.int f5), .val (.int f6), .val (.int n), .val (.ref b287), .val (.int o6), .val (.int (1 : Int32)), .val (.int v0), .val (.ref b331)] [(.int (8 : Int32)), (.int p5), (.int ((XT.ushr p5 (8 : Int32)).toInt8.toInt32))])) _
        refine own_go (fun _ k => XT.iushr X331.here hx rfl (hb hby at_552) rfl k) ?_
        show own_G p e below (T331.setTop (mkF m 553 #[.val (.long q1), .second, .val (.long q2), .second, .val (.long q3), .second, .val (.long q4), .second, .val (.int p5), .val (.int p6), .val (.ref b215), .val (.int f1), .val (.int f2), .val (.int f3), .val (.int f4), .val (.int f5), .val (.int f6), .val (.int n), .val (.ref b287), .val (.int o6), .val (.int (1 : Int32)), .val (.int v0), .val (.ref b331)] [(.int (XT.ushr p5 (8 : Int32))), (.int ((XT.ushr p5 (8 : Int32)).toInt8.toInt32))])) _
        refine own_go (fun _ k => XS.i2b X331.here hx rfl (hb hby at_553) rfl k) ?_
        show own_G p e below (T331.setTop (mkF m 554 #[.val (.long q1), .second, .val (.long q2), .second, .val (.long q3), .second, .val (.long q4), .second, .val (.int p5), .val (.int p6), .val (.ref b215), .val (.int f1), .val (.int f2), .val (.int f3), .val (.int f4), .val (.int f5), .val (.int f6), .val (.int n), .val (.ref b287), .val (.int o6), .val (.int (1 : Int32)), .val (.int v0), .val (.ref b331)] [(.int ((XT.ushr p5 (8 : Int32)).toInt8.toInt32)), (.int ((XT.ushr p5 (8 : Int32)).toInt8.toInt32))])) _
        refine own_go (fun _ k => XS.icmpNo X331.here hx rfl (hb hby at_554) rfl (teq (rfl : ((XT.ushr p5 (8 : Int32)).toInt8.toInt32) = ((XT.ushr p5 (8 : Int32)).toInt8.toInt32))).2 k) ?_
        show own_G p e below (T331.setTop (mkF m 557 #[.val (.long q1), .second, .val (.long q2), .second, .val (.long q3), .second, .val (.long q4), .second, .val (.int p5), .val (.int p6), .val (.ref b215), .val (.int f1), .val (.int f2), .val (.int f3), .val (.int f4), .val (.int f5), .val (.int f6), .val (.int n), .val (.ref b287), .val (.int o6), .val (.int (1 : Int32)), .val (.int v0), .val (.ref b331)] [])) _
        refine own_go (fun _ k => XS.iconst X331.here hx rfl (hb hby at_557) k) ?_
        show own_G p e below (T331.setTop (mkF m 558 #[.val (.long q1), .second, .val (.long q2), .second, .val (.long q3), .second, .val (.long q4), .second, .val (.int p5), .val (.int p6), .val (.ref b215), .val (.int f1), .val (.int f2), .val (.int f3), .val (.int f4), .val (.int f5), .val (.int f6), .val (.int n), .val (.ref b287), .val (.int o6), .val (.int (1 : Int32)), .val (.int v0), .val (.ref b331)] [(.int (1 : Int32))])) _
        refine own_go (fun _ k => XS.goto X331.here hx rfl (pc0 := 558) (pc' := 562) rfl (hb hby at_558) (by decide) (by decide) k) ?_
        show own_G p e below (T331.setTop (mkF m 562 #[.val (.long q1), .second, .val (.long q2), .second, .val (.long q3), .second, .val (.long q4), .second, .val (.int p5), .val (.int p6), .val (.ref b215), .val (.int f1), .val (.int f2), .val (.int f3), .val (.int f4), .val (.int f5), .val (.int f6), .val (.int n), .val (.ref b287), .val (.int o6), .val (.int (1 : Int32)), .val (.int v0), .val (.ref b331)] [(.int (1 : Int32))])) _
        refine own_ret X331 hlk (v := some (.int (1 : Int32))) (fun h => by rw [hret] at h; cases h) (Q0 Z q1 q2 q3 q4 p5 p6 h0 n0) (own_retI X331 hx (t := .boolean) hret rfl (Or.inl ⟨rfl, by simp, _, rfl⟩) (hb hby at_562)) (by decide) (by decide) ?_
        show Q0 Z q1 q2 q3 q4 p5 p6 h0 n0 _ T331.heap _
        exact ⟨rfl, N331⟩
      · show own_G p e below (T313.setTop (mkF m 504 #[.val (.long q1), .second, .val (.long q2), .second, .val (.long q3), .second, .val (.long q4), .second, .val (.int p5), .val (.int p6), .val (.ref b215), .val (.int f1), .val (.int f2), .val (.int f3), .val (.int f4), .val (.int f5), .val (.int f6), .val (.int n), .val (.ref b287), .val (.int o6), .val (.int (1 : Int32)), .val (.int v0), .unset] [(.int (XT.ushr p5 (8 : Int32))), (.ref b215)])) _
        obtain ⟨cq349, kq349, q349a, q349b, q349c⟩ := isOf hZ e313 f314
        obtain ⟨_, _, ⟨T349, L349, k349, n349⟩, -, X349, ⟨Lc349, hQ349, l349, y349, z349⟩, st349⟩ := X313.virtualBack hx (y := (⟨"com/example/orbweave/orbweave/ByteWriter", "writeByte", "(I)Lcom/example/orbweave/orbweave/ByteWriter;"⟩ : MethodName)) (z := (⟨"com/example/orbweave/orbweave/ByteWriter", "writeByte", "(I)Lcom/example/orbweave/orbweave/ByteWriter;"⟩ : MethodName)) hown (mvT hZ (hw _ (List.mem_of_getElem? (i := 31) rfl))) (mvT hZ (hw _ (List.mem_of_getElem? (i := 32) rfl))) (notFace_of_selects (args := #[]) (mvT hZ (hw _ (List.mem_of_getElem? (i := 34) rfl)))) (mvT hZ (hw _ (List.mem_of_getElem? (i := 34) rfl))) (mvT hZ (hw _ (List.mem_of_getElem? (i := 33) rfl))) (by decide) (backOf (W := 0) (rm6_0 l Z a0 hw [] b215 (XT.ushr p5 (8 : Int32)) bJ6 kJ6 (32 : Int32) u6 h313 n0 zs320 f314 f315 f316 ge216 f318 f317 gbJ6 (by rw [show ((32 : Int32)).toNatClampNeg = 32 from by decide]; omega) (by decide)) hZ (hw _ (List.mem_of_getElem? (i := 35) rfl)) (hw _ (List.mem_of_getElem? (i := 2) rfl)) (by decide) (by decide)) q349a q349c (g := (mkF m 504 #[.val (.long q1), .second, .val (.long q2), .second, .val (.long q3), .second, .val (.long q4), .second, .val (.int p5), .val (.int p6), .val (.ref b215), .val (.int f1), .val (.int f2), .val (.int f3), .val (.int f4), .val (.int f5), .val (.int f6), .val (.int n), .val (.ref b287), .val (.int o6), .val (.int (1 : Int32)), .val (.int v0), .unset] [(.int (XT.ushr p5 (8 : Int32))), (.ref b215)])) rfl (by rw [hml]; rfl) (Steps.refl _) (argsL := [(.int (XT.ushr p5 (8 : Int32)))]) (rest := []) (lenOf pd_3 rfl) rfl (by show 2 * 0 + _ ≤ _; exact Nat.le_of_eq rfl) (hb hby at_504) (fun _ _ => ⟨rfl, e313, (by decide : 5 + 0 ≤ _), (by decide : 199 + 0 ≤ _)⟩)
        dsimp only [Pt.U, Pt.locs, Pt.cells, Pt.slots] at X349 l349 y349 z349 st349 hQ349
        subst l349 y349 z349
        obtain ⟨rfl, Nq349, K349, Eo349, Fb349, Fl349, Eb349, Vq349⟩ := hQ349
        have N349 := Fr.app N313 Nq349
        refine own_go (fun _ k => st349.trans k) ?_
        have f350 := f314.keep K349
        have f351 := f317.keep K349
        have f352 := f319.keep K349
        have zs353 : n0 ≤ T349.heap.size := Nat.le_trans zs320 K349.1
        show own_G p e below (T349.setTop (mkF m 507 #[.val (.long q1), .second, .val (.long q2), .second, .val (.long q3), .second, .val (.long q4), .second, .val (.int p5), .val (.int p6), .val (.ref b215), .val (.int f1), .val (.int f2), .val (.int f3), .val (.int f4), .val (.int f5), .val (.int f6), .val (.int n), .val (.ref b287), .val (.int o6), .val (.int (1 : Int32)), .val (.int v0), .unset] [(.ref b215)])) _
        refine own_go (fun _ k => XS.pop X349.here hx rfl (hb hby at_507) rfl rfl k) ?_
        show own_G p e below (T349.setTop (mkF m 508 #[.val (.long q1), .second, .val (.long q2), .second, .val (.long q3), .second, .val (.long q4), .second, .val (.int p5), .val (.int p6), .val (.ref b215), .val (.int f1), .val (.int f2), .val (.int f3), .val (.int f4), .val (.int f5), .val (.int f6), .val (.int n), .val (.ref b287), .val (.int o6), .val (.int (1 : Int32)), .val (.int v0), .unset] [])) _
        refine own_go (fun _ k => XS.aload X349.here hx rfl (hb hby at_508) rfl rfl k) ?_
        show own_G p e below (T349.setTop (mkF m 510 #[.val (.long q1), .second, .val (.long q2), .second, .val (.long q3), .second, .val (.long q4), .second, .val (.int p5), .val (.int p6), .val (.ref b215), .val (.int f1), .val (.int f2), .val (.int f3), .val (.int f4), .val (.int f5), .val (.int f6), .val (.int n), .val (.ref b287), .val (.int o6), .val (.int (1 : Int32)), .val (.int v0), .unset] [(.ref b215)])) _
        obtain ⟨cq354, kq354, q354a, q354b, q354c⟩ := isOf hZ rfl Eo349
        obtain ⟨_, _, ⟨T354, L354, k354, n354⟩, -, X354, ⟨Lc354, hQ354, l354, y354, z354⟩, st354⟩ := X349.virtualBack hx (y := (⟨"com/example/orbweave/orbweave/ByteWriter", "toByteArray", "()[B"⟩ : MethodName)) (z := (⟨"com/example/orbweave/orbweave/ByteWriter", "toByteArray", "()[B"⟩ : MethodName)) hown (mvT hZ (hw _ (List.mem_of_getElem? (i := 12) rfl))) (mvT hZ (hw _ (List.mem_of_getElem? (i := 13) rfl))) (notFace_of_selects (args := #[]) (mvT hZ (hw _ (List.mem_of_getElem? (i := 15) rfl)))) (mvT hZ (hw _ (List.mem_of_getElem? (i := 15) rfl))) (mvT hZ (hw _ (List.mem_of_getElem? (i := 14) rfl))) (by decide) (backOf (W := 0) (rm3 l Z a0 hw [] b215 bJ6 kJ6 (32 : Int32) (Int32.ofNat (u6 ++ [Value.int ((XT.ushr p5 (8 : Int32)).toInt8.toInt32)]).length) (u6 ++ [Value.int ((XT.ushr p5 (8 : Int32)).toInt8.toInt32)]) 38 T349.heap n0 zs353 Fb349 Fl349 Vq349 Eb349 (own_ofnn (by simp only [List.length_append, List.length_cons, List.length_nil, own_len_sb, own_len_ib, own_len_lb]; omega)) (by rw [own_tn (by simp only [List.length_append, List.length_cons, List.length_nil, own_len_sb, own_len_ib, own_len_lb]; omega)]; simp only [List.length_append, List.length_cons, List.length_nil, own_len_sb, own_len_ib, own_len_lb]; omega) (by decide) (by rw [show ((32 : Int32)).toNatClampNeg = 32 from by decide]; simp only [List.length_append, List.length_cons, List.length_nil, own_len_sb, own_len_ib, own_len_lb]; omega)) hZ (hw _ (List.mem_of_getElem? (i := 16) rfl)) (hw _ (List.mem_of_getElem? (i := 2) rfl)) (by decide) (by decide)) q354a q354c (g := (mkF m 510 #[.val (.long q1), .second, .val (.long q2), .second, .val (.long q3), .second, .val (.long q4), .second, .val (.int p5), .val (.int p6), .val (.ref b215), .val (.int f1), .val (.int f2), .val (.int f3), .val (.int f4), .val (.int f5), .val (.int f6), .val (.int n), .val (.ref b287), .val (.int o6), .val (.int (1 : Int32)), .val (.int v0), .unset] [(.ref b215)])) rfl (by rw [hml]; rfl) (Steps.refl _) (argsL := []) (rest := []) (lenOf pd_7 rfl) rfl (by show 2 * 0 + _ ≤ _; exact Nat.le_of_eq rfl) (hb hby at_510) (fun _ _ => ⟨rfl, rfl, (by decide : 5 + 0 + 1 ≤ _), (by decide : 199 + 0 + 38 ≤ _)⟩)
        dsimp only [Pt.U, Pt.locs, Pt.cells, Pt.slots] at X354 l354 y354 z354 st354 hQ354
        subst l354 y354 z354
        obtain ⟨b354, k354q, rfl, Nq354, K354, hsz354, E354q, Vq354⟩ := hQ354
        have N354 := Fr.app N349 Nq354
        refine own_go (fun _ k => st354.trans k) ?_
        have ne355 : b215 ≠ b354 := Nat.ne_of_lt (Nat.lt_of_lt_of_le Eo349.lt hsz354)
        have ne356 : bJ6 ≠ b354 := Nat.ne_of_lt (Nat.lt_of_lt_of_le Eb349.lt hsz354)
        have ne357 : b287 ≠ b354 := Nat.ne_of_lt (Nat.lt_of_lt_of_le f352.lt hsz354)
        have ge358 : n0 ≤ b354 := Nat.le_trans zs353 hsz354
        have f359 := Eo349.keep K354
        have f360 := Eb349.keep K354
        have f361 := f352.keep K354
        have f362 := Fb349.keep K354 nin0
        have f363 := Fl349.keep K354 nin0
        have f364 := Vq349.keep K354 nin0
        have zs365 : n0 ≤ T354.heap.size := Nat.le_trans zs353 K354.1
        rw [own_takeall _ (by simp only [List.length_append, List.length_cons, List.length_nil, own_len_sb, own_len_ib, own_len_lb]; omega)] at Vq354
        show own_G p e below (T354.setTop (mkF m 513 #[.val (.long q1), .second, .val (.long q2), .second, .val (.long q3), .second, .val (.long q4), .second, .val (.int p5), .val (.int p6), .val (.ref b215), .val (.int f1), .val (.int f2), .val (.int f3), .val (.int f4), .val (.int f5), .val (.int f6), .val (.int n), .val (.ref b287), .val (.int o6), .val (.int (1 : Int32)), .val (.int v0), .unset] [(.ref b354)])) _
        refine own_go (fun _ k => XS.astore X354.here hx rfl (hb hby at_513) rfl rfl (l' := #[.val (.long q1), .second, .val (.long q2), .second, .val (.long q3), .second, .val (.long q4), .second, .val (.int p5), .val (.int p6), .val (.ref b215), .val (.int f1), .val (.int f2), .val (.int f3), .val (.int f4), .val (.int f5), .val (.int f6), .val (.int n), .val (.ref b287), .val (.int o6), .val (.int (1 : Int32)), .val (.int v0), .val (.ref b354)]) rfl k) ?_
        show own_G p e below (T354.setTop (mkF m 515 #[.val (.long q1), .second, .val (.long q2), .second, .val (.long q3), .second, .val (.long q4), .second, .val (.int p5), .val (.int p6), .val (.ref b215), .val (.int f1), .val (.int f2), .val (.int f3), .val (.int f4), .val (.int f5), .val (.int f6), .val (.int n), .val (.ref b287), .val (.int o6), .val (.int (1 : Int32)), .val (.int v0), .val (.ref b354)] [])) _
        refine own_go (fun _ k => XS.aload X354.here hx rfl (hb hby at_515) rfl rfl k) ?_
        show own_G p e below (T354.setTop (mkF m 517 #[.val (.long q1), .second, .val (.long q2), .second, .val (.long q3), .second, .val (.long q4), .second, .val (.int p5), .val (.int p6), .val (.ref b215), .val (.int f1), .val (.int f2), .val (.int f3), .val (.int f4), .val (.int f5), .val (.int f6), .val (.int n), .val (.ref b287), .val (.int o6), .val (.int (1 : Int32)), .val (.int v0), .val (.ref b354)] [(.ref b354)])) _
        obtain ⟨cl366, Ar366, q366, S366, M366, B366, G366⟩ := id Vq354
        refine own_go (X354.arraylength hx Ar366.1 (State.isArrayOf_alike hZ.alike Ar366.2.1) (g := (mkF m 517 #[.val (.long q1), .second, .val (.long q2), .second, .val (.long q3), .second, .val (.long q4), .second, .val (.int p5), .val (.int p6), .val (.ref b215), .val (.int f1), .val (.int f2), .val (.int f3), .val (.int f4), .val (.int f5), .val (.int f6), .val (.int n), .val (.ref b287), .val (.int o6), .val (.int (1 : Int32)), .val (.int v0), .val (.ref b354)] [(.ref b354)])) rfl rfl (hb hby at_517)) ?_
        rw [len_of S366 M366]
        show own_G p e below (T354.setTop (mkF m 518 #[.val (.long q1), .second, .val (.long q2), .second, .val (.long q3), .second, .val (.long q4), .second, .val (.int p5), .val (.int p6), .val (.ref b215), .val (.int f1), .val (.int f2), .val (.int f3), .val (.int f4), .val (.int f5), .val (.int f6), .val (.int n), .val (.ref b287), .val (.int o6), .val (.int (1 : Int32)), .val (.int v0), .val (.ref b354)] [(.int (Int32.ofNat (u6 ++ [Value.int ((XT.ushr p5 (8 : Int32)).toInt8.toInt32)]).length))])) _
        refine own_go (fun _ k => XS.iload X354.here hx rfl (hb hby at_518) rfl k) ?_
        show own_G p e below (T354.setTop (mkF m 520 #[.val (.long q1), .second, .val (.long q2), .second, .val (.long q3), .second, .val (.long q4), .second, .val (.int p5), .val (.int p6), .val (.ref b215), .val (.int f1), .val (.int f2), .val (.int f3), .val (.int f4), .val (.int f5), .val (.int f6), .val (.int n), .val (.ref b287), .val (.int o6), .val (.int (1 : Int32)), .val (.int v0), .val (.ref b354)] [(.int n), (.int (Int32.ofNat (u6 ++ [Value.int ((XT.ushr p5 (8 : Int32)).toInt8.toInt32)]).length))])) _
        refine own_go (fun _ k => XS.iconst X354.here hx rfl (hb hby at_520) k) ?_
        show own_G p e below (T354.setTop (mkF m 521 #[.val (.long q1), .second, .val (.long q2), .second, .val (.long q3), .second, .val (.long q4), .second, .val (.int p5), .val (.int p6), .val (.ref b215), .val (.int f1), .val (.int f2), .val (.int f3), .val (.int f4), .val (.int f5), .val (.int f6), .val (.int n), .val (.ref b287), .val (.int o6), .val (.int (1 : Int32)), .val (.int v0), .val (.ref b354)] [(.int (1 : Int32)), (.int n), (.int (Int32.ofNat (u6 ++ [Value.int ((XT.ushr p5 (8 : Int32)).toInt8.toInt32)]).length))])) _
        refine own_go (fun _ k => XS.iadd X354.here hx rfl (hb hby at_521) rfl k) ?_
        show own_G p e below (T354.setTop (mkF m 522 #[.val (.long q1), .second, .val (.long q2), .second, .val (.long q3), .second, .val (.long q4), .second, .val (.int p5), .val (.int p6), .val (.ref b215), .val (.int f1), .val (.int f2), .val (.int f3), .val (.int f4), .val (.int f5), .val (.int f6), .val (.int n), .val (.ref b287), .val (.int o6), .val (.int (1 : Int32)), .val (.int v0), .val (.ref b354)] [(.int (n + (1 : Int32))), (.int (Int32.ofNat (u6 ++ [Value.int ((XT.ushr p5 (8 : Int32)).toInt8.toInt32)]).length))])) _
        refine own_go (fun _ k => XS.icmpYes X354.here hx rfl (pc0 := 522) (pc' := 527) rfl (hb hby at_522) rfl (teq (by rw [own_len1, hN])).1 (by decide) (by decide) k) ?_
        show own_G p e below (T354.setTop (mkF m 527 #[.val (.long q1), .second, .val (.long q2), .second, .val (.long q3), .second, .val (.long q4), .second, .val (.int p5), .val (.int p6), .val (.ref b215), .val (.int f1), .val (.int f2), .val (.int f3), .val (.int f4), .val (.int f5), .val (.int f6), .val (.int n), .val (.ref b287), .val (.int o6), .val (.int (1 : Int32)), .val (.int v0), .val (.ref b354)] [])) _
        refine own_go (fun _ k => XS.iload X354.here hx rfl (hb hby at_527) rfl k) ?_
        show own_G p e below (T354.setTop (mkF m 529 #[.val (.long q1), .second, .val (.long q2), .second, .val (.long q3), .second, .val (.long q4), .second, .val (.int p5), .val (.int p6), .val (.ref b215), .val (.int f1), .val (.int f2), .val (.int f3), .val (.int f4), .val (.int f5), .val (.int f6), .val (.int n), .val (.ref b287), .val (.int o6), .val (.int (1 : Int32)), .val (.int v0), .val (.ref b354)] [(.int n)])) _
        refine own_go (fun _ k => XS.ifNo X354.here hx rfl (hb hby at_529) rfl ((if0 _ _).trans (tlt hc468_310).2.2.2) k) ?_
        show own_G p e below (T354.setTop (mkF m 532 #[.val (.long q1), .second, .val (.long q2), .second, .val (.long q3), .second, .val (.long q4), .second, .val (.int p5), .val (.int p6), .val (.ref b215), .val (.int f1), .val (.int f2), .val (.int f3), .val (.int f4), .val (.int f5), .val (.int f6), .val (.int n), .val (.ref b287), .val (.int o6), .val (.int (1 : Int32)), .val (.int v0), .val (.ref b354)] [])) _
        refine own_go (fun _ k => XS.aload X354.here hx rfl (hb hby at_532) rfl rfl k) ?_
        show own_G p e below (T354.setTop (mkF m 534 #[.val (.long q1), .second, .val (.long q2), .second, .val (.long q3), .second, .val (.long q4), .second, .val (.int p5), .val (.int p6), .val (.ref b215), .val (.int f1), .val (.int f2), .val (.int f3), .val (.int f4), .val (.int f5), .val (.int f6), .val (.int n), .val (.ref b287), .val (.int o6), .val (.int (1 : Int32)), .val (.int v0), .val (.ref b354)] [(.ref b354)])) _
        refine own_go (fun _ k => XS.iconst X354.here hx rfl (hb hby at_534) k) ?_
        show own_G p e below (T354.setTop (mkF m 535 #[.val (.long q1), .second, .val (.long q2), .second, .val (.long q3), .second, .val (.long q4), .second, .val (.int p5), .val (.int p6), .val (.ref b215), .val (.int f1), .val (.int f2), .val (.int f3), .val (.int f4), .val (.int f5), .val (.int f6), .val (.int n), .val (.ref b287), .val (.int o6), .val (.int (1 : Int32)), .val (.int v0), .val (.ref b354)] [(.int (0 : Int32)), (.ref b354)])) _
        obtain ⟨cl367, Ar367, q367, S367, M367, B367, G367⟩ := id Vq354
        have hin367 : ¬ ((0 : Int32) < 0 ∨ cl367.slots.size ≤ ((0 : Int32)).toNatClampNeg) := inb_of S367 ⟨by decide, own_posI0 (by simp) (by simp only [List.length_append, List.length_cons, List.length_nil, own_len_sb, own_len_ib, own_len_lb]; omega)⟩
        have hat367 : cl367.slots[((0 : Int32)).toNatClampNeg]? = some (.int v0) := B367.at hin367 ((own_app0 hp0).trans hv0)
        refine own_go (X354.baloadBytes hx (j := (0 : Int32)) (v := (.int v0)) Ar367.1 (State.isArrayOf_alike hZ.alike Ar367.2.1) Ar367.2.2 hin367 hat367 (g := (mkF m 535 #[.val (.long q1), .second, .val (.long q2), .second, .val (.long q3), .second, .val (.long q4), .second, .val (.int p5), .val (.int p6), .val (.ref b215), .val (.int f1), .val (.int f2), .val (.int f3), .val (.int f4), .val (.int f5), .val (.int f6), .val (.int n), .val (.ref b287), .val (.int o6), .val (.int (1 : Int32)), .val (.int v0), .val (.ref b354)] [(.int (0 : Int32)), (.ref b354)])) rfl rfl (hb hby at_535)) ?_
        show own_G p e below (T354.setTop (mkF m 536 #[.val (.long q1), .second, .val (.long q2), .second, .val (.long q3), .second, .val (.long q4), .second, .val (.int p5), .val (.int p6), .val (.ref b215), .val (.int f1), .val (.int f2), .val (.int f3), .val (.int f4), .val (.int f5), .val (.int f6), .val (.int n), .val (.ref b287), .val (.int o6), .val (.int (1 : Int32)), .val (.int v0), .val (.ref b354)] [(.int v0)])) _
        refine own_go (fun _ k => XS.iload X354.here hx rfl (hb hby at_536) rfl k) ?_
        show own_G p e below (T354.setTop (mkF m 538 #[.val (.long q1), .second, .val (.long q2), .second, .val (.long q3), .second, .val (.long q4), .second, .val (.int p5), .val (.int p6), .val (.ref b215), .val (.int f1), .val (.int f2), .val (.int f3), .val (.int f4), .val (.int f5), .val (.int f6), .val (.int n), .val (.ref b287), .val (.int o6), .val (.int (1 : Int32)), .val (.int v0), .val (.ref b354)] [(.int v0), (.int v0)])) _
        refine own_go (fun _ k => XS.icmpYes X354.here hx rfl (pc0 := 538) (pc' := 543) rfl (hb hby at_538) rfl (teq (rfl : v0 = v0)).1 (by decide) (by decide) k) ?_
        show own_G p e below (T354.setTop (mkF m 543 #[.val (.long q1), .second, .val (.long q2), .second, .val (.long q3), .second, .val (.long q4), .second, .val (.int p5), .val (.int p6), .val (.ref b215), .val (.int f1), .val (.int f2), .val (.int f3), .val (.int f4), .val (.int f5), .val (.int f6), .val (.int n), .val (.ref b287), .val (.int o6), .val (.int (1 : Int32)), .val (.int v0), .val (.ref b354)] [])) _
        refine own_go (fun _ k => XS.aload X354.here hx rfl (hb hby at_543) rfl rfl k) ?_
        show own_G p e below (T354.setTop (mkF m 545 #[.val (.long q1), .second, .val (.long q2), .second, .val (.long q3), .second, .val (.long q4), .second, .val (.int p5), .val (.int p6), .val (.ref b215), .val (.int f1), .val (.int f2), .val (.int f3), .val (.int f4), .val (.int f5), .val (.int f6), .val (.int n), .val (.ref b287), .val (.int o6), .val (.int (1 : Int32)), .val (.int v0), .val (.ref b354)] [(.ref b354)])) _
        refine own_go (fun _ k => XS.iload X354.here hx rfl (hb hby at_545) rfl k) ?_
        have hq7 := own_rd0 (A := u6) (l := [Value.int ((XT.ushr p5 (8 : Int32)).toInt8.toInt32)]) (C := ([] : List Value)) (u := (u6 ++ [Value.int ((XT.ushr p5 (8 : Int32)).toInt8.toInt32)])) (d := (.int (0 : Int32))) (by simp) hN (by simp only [List.length_append, List.length_cons, List.length_nil, own_len_sb, own_len_ib, own_len_lb]; omega) rfl (Nat.le_of_ble_eq_true rfl)
        show own_G p e below (T354.setTop (mkF m 547 #[.val (.long q1), .second, .val (.long q2), .second, .val (.long q3), .second, .val (.long q4), .second, .val (.int p5), .val (.int p6), .val (.ref b215), .val (.int f1), .val (.int f2), .val (.int f3), .val (.int f4), .val (.int f5), .val (.int f6), .val (.int n), .val (.ref b287), .val (.int o6), .val (.int (1 : Int32)), .val (.int v0), .val (.ref b354)] [(.int n), (.ref b354)])) _
        obtain ⟨cl368, Ar368, q368, S368, M368, B368, G368⟩ := id Vq354
        have hin368 : ¬ (n < 0 ∨ cl368.slots.size ≤ (n).toNatClampNeg) := inb_of S368 hq7.1
        have hat368 : cl368.slots[(n).toNatClampNeg]? = some (.int ((XT.ushr p5 (8 : Int32)).toInt8.toInt32)) := B368.at hin368 hq7.2
        refine own_go (X354.baloadBytes hx (j := n) (v := (.int ((XT.ushr p5 (8 : Int32)).toInt8.toInt32))) Ar368.1 (State.isArrayOf_alike hZ.alike Ar368.2.1) Ar368.2.2 hin368 hat368 (g := (mkF m 547 #[.val (.long q1), .second, .val (.long q2), .second, .val (.long q3), .second, .val (.long q4), .second, .val (.int p5), .val (.int p6), .val (.ref b215), .val (.int f1), .val (.int f2), .val (.int f3), .val (.int f4), .val (.int f5), .val (.int f6), .val (.int n), .val (.ref b287), .val (.int o6), .val (.int (1 : Int32)), .val (.int v0), .val (.ref b354)] [(.int n), (.ref b354)])) rfl rfl (hb hby at_547)) ?_
        show own_G p e below (T354.setTop (mkF m 548 #[.val (.long q1), .second, .val (.long q2), .second, .val (.long q3), .second, .val (.long q4), .second, .val (.int p5), .val (.int p6), .val (.ref b215), .val (.int f1), .val (.int f2), .val (.int f3), .val (.int f4), .val (.int f5), .val (.int f6), .val (.int n), .val (.ref b287), .val (.int o6), .val (.int (1 : Int32)), .val (.int v0), .val (.ref b354)] [(.int ((XT.ushr p5 (8 : Int32)).toInt8.toInt32))])) _
        refine own_go (fun _ k => XS.iload X354.here hx rfl (hb hby at_548) rfl k) ?_
        show own_G p e below (T354.setTop (mkF m 550 #[.val (.long q1), .second, .val (.long q2), .second, .val (.long q3), .second, .val (.long q4), .second, .val (.int p5), .val (.int p6), .val (.ref b215), .val (.int f1), .val (.int f2), .val (.int f3), .val (.int f4), .val (.int f5), .val (.int f6), .val (.int n), .val (.ref b287), .val (.int o6), .val (.int (1 : Int32)), .val (.int v0), .val (.ref b354)] [(.int p5), (.int ((XT.ushr p5 (8 : Int32)).toInt8.toInt32))])) _
        refine own_go (fun _ k => XS.bipush X354.here hx rfl (hb hby at_550) k) ?_
        show own_G p e below (T354.setTop (mkF m 552 #[.val (.long q1), .second, .val (.long q2), .second, .val (.long q3), .second, .val (.long q4), .second, .val (.int p5), .val (.int p6), .val (.ref b215), .val (.int f1), .val (.int f2), .val (.int f3), .val (.int f4), .val (.int f5), .val (.int f6), .val (.int n), .val (.ref b287), .val (.int o6), .val (.int (1 : Int32)), .val (.int v0), .val (.ref b354)] [(.int (8 : Int32)), (.int p5), (.int ((XT.ushr p5 (8 : Int32)).toInt8.toInt32))])) _
        refine own_go (fun _ k => XT.iushr X354.here hx rfl (hb hby at_552) rfl k) ?_
        show own_G p e below (T354.setTop (mkF m 553 #[.val (.long q1), .second, .val (.long q2), .second, .val (.long q3), .second, .val (.long q4), .second, .val (.int p5), .val (.int p6), .val (.ref b215), .val (.int f1), .val (.int f2), .val (.int f3), .val (.int f4), .val (.int f5), .val (.int f6), .val (.int n), .val (.ref b287), .val (.int o6), .val (.int (1 : Int32)), .val (.int v0), .val (.ref b354)] [(.int (XT.ushr p5 (8 : Int32))), (.int ((XT.ushr p5 (8 : Int32)).toInt8.toInt32))])) _
        refine own_go (fun _ k => XS.i2b X354.here hx rfl (hb hby at_553) rfl k) ?_
        show own_G p e below (T354.setTop (mkF m 554 #[.val (.long q1), .second, .val (.long q2), .second, .val (.long q3), .second, .val (.long q4), .second, .val (.int p5), .val (.int p6), .val (.ref b215), .val (.int f1), .val (.int f2), .val (.int f3), .val (.int f4), .val (.int f5), .val (.int f6), .val (.int n), .val (.ref b287), .val (.int o6), .val (.int (1 : Int32)), .val (.int v0), .val (.ref b354)] [(.int ((XT.ushr p5 (8 : Int32)).toInt8.toInt32)), (.int ((XT.ushr p5 (8 : Int32)).toInt8.toInt32))])) _
        refine own_go (fun _ k => XS.icmpNo X354.here hx rfl (hb hby at_554) rfl (teq (rfl : ((XT.ushr p5 (8 : Int32)).toInt8.toInt32) = ((XT.ushr p5 (8 : Int32)).toInt8.toInt32))).2 k) ?_
        show own_G p e below (T354.setTop (mkF m 557 #[.val (.long q1), .second, .val (.long q2), .second, .val (.long q3), .second, .val (.long q4), .second, .val (.int p5), .val (.int p6), .val (.ref b215), .val (.int f1), .val (.int f2), .val (.int f3), .val (.int f4), .val (.int f5), .val (.int f6), .val (.int n), .val (.ref b287), .val (.int o6), .val (.int (1 : Int32)), .val (.int v0), .val (.ref b354)] [])) _
        refine own_go (fun _ k => XS.iconst X354.here hx rfl (hb hby at_557) k) ?_
        show own_G p e below (T354.setTop (mkF m 558 #[.val (.long q1), .second, .val (.long q2), .second, .val (.long q3), .second, .val (.long q4), .second, .val (.int p5), .val (.int p6), .val (.ref b215), .val (.int f1), .val (.int f2), .val (.int f3), .val (.int f4), .val (.int f5), .val (.int f6), .val (.int n), .val (.ref b287), .val (.int o6), .val (.int (1 : Int32)), .val (.int v0), .val (.ref b354)] [(.int (1 : Int32))])) _
        refine own_go (fun _ k => XS.goto X354.here hx rfl (pc0 := 558) (pc' := 562) rfl (hb hby at_558) (by decide) (by decide) k) ?_
        show own_G p e below (T354.setTop (mkF m 562 #[.val (.long q1), .second, .val (.long q2), .second, .val (.long q3), .second, .val (.long q4), .second, .val (.int p5), .val (.int p6), .val (.ref b215), .val (.int f1), .val (.int f2), .val (.int f3), .val (.int f4), .val (.int f5), .val (.int f6), .val (.int n), .val (.ref b287), .val (.int o6), .val (.int (1 : Int32)), .val (.int v0), .val (.ref b354)] [(.int (1 : Int32))])) _
        refine own_ret X354 hlk (v := some (.int (1 : Int32))) (fun h => by rw [hret] at h; cases h) (Q0 Z q1 q2 q3 q4 p5 p6 h0 n0) (own_retI X354 hx (t := .boolean) hret rfl (Or.inl ⟨rfl, by simp, _, rfl⟩) (hb hby at_562)) (by decide) (by decide) ?_
        show Q0 Z q1 q2 q3 q4 p5 p6 h0 n0 _ T354.heap _
        exact ⟨rfl, N354⟩
    · show own_G p e below (T313.setTop (mkF m 504 #[.val (.long q1), .second, .val (.long q2), .second, .val (.long q3), .second, .val (.long q4), .second, .val (.int p5), .val (.int p6), .val (.ref b215), .val (.int f1), .val (.int f2), .val (.int f3), .val (.int f4), .val (.int f5), .val (.int f6), .val (.int n), .val (.ref b287), .val (.int o6), .val (.int (1 : Int32)), .val (.int v0), .unset] [(.int (XT.ushr p5 (8 : Int32))), (.ref b215)])) _
      obtain ⟨cq369, kq369, q369a, q369b, q369c⟩ := isOf hZ e313 f314
      obtain ⟨_, _, ⟨T369, L369, k369, n369⟩, -, X369, ⟨Lc369, hQ369, l369, y369, z369⟩, st369⟩ := X313.virtualBack hx (y := (⟨"com/example/orbweave/orbweave/ByteWriter", "writeByte", "(I)Lcom/example/orbweave/orbweave/ByteWriter;"⟩ : MethodName)) (z := (⟨"com/example/orbweave/orbweave/ByteWriter", "writeByte", "(I)Lcom/example/orbweave/orbweave/ByteWriter;"⟩ : MethodName)) hown (mvT hZ (hw _ (List.mem_of_getElem? (i := 31) rfl))) (mvT hZ (hw _ (List.mem_of_getElem? (i := 32) rfl))) (notFace_of_selects (args := #[]) (mvT hZ (hw _ (List.mem_of_getElem? (i := 34) rfl)))) (mvT hZ (hw _ (List.mem_of_getElem? (i := 34) rfl))) (mvT hZ (hw _ (List.mem_of_getElem? (i := 33) rfl))) (by decide) (backOf (W := 0) (rm6_0 l Z a0 hw [] b215 (XT.ushr p5 (8 : Int32)) bJ6 kJ6 (64 : Int32) u6 h313 n0 zs320 f314 f315 f316 ge216 f318 f317 gbJ6 (by rw [show ((64 : Int32)).toNatClampNeg = 64 from by decide]; omega) (by decide)) hZ (hw _ (List.mem_of_getElem? (i := 35) rfl)) (hw _ (List.mem_of_getElem? (i := 2) rfl)) (by decide) (by decide)) q369a q369c (g := (mkF m 504 #[.val (.long q1), .second, .val (.long q2), .second, .val (.long q3), .second, .val (.long q4), .second, .val (.int p5), .val (.int p6), .val (.ref b215), .val (.int f1), .val (.int f2), .val (.int f3), .val (.int f4), .val (.int f5), .val (.int f6), .val (.int n), .val (.ref b287), .val (.int o6), .val (.int (1 : Int32)), .val (.int v0), .unset] [(.int (XT.ushr p5 (8 : Int32))), (.ref b215)])) rfl (by rw [hml]; rfl) (Steps.refl _) (argsL := [(.int (XT.ushr p5 (8 : Int32)))]) (rest := []) (lenOf pd_3 rfl) rfl (by show 2 * 0 + _ ≤ _; exact Nat.le_of_eq rfl) (hb hby at_504) (fun _ _ => ⟨rfl, e313, (by decide : 5 + 0 ≤ _), (by decide : 199 + 0 ≤ _)⟩)
      dsimp only [Pt.U, Pt.locs, Pt.cells, Pt.slots] at X369 l369 y369 z369 st369 hQ369
      subst l369 y369 z369
      obtain ⟨rfl, Nq369, K369, Eo369, Fb369, Fl369, Eb369, Vq369⟩ := hQ369
      have N369 := Fr.app N313 Nq369
      refine own_go (fun _ k => st369.trans k) ?_
      have f370 := f314.keep K369
      have f371 := f317.keep K369
      have f372 := f319.keep K369
      have zs373 : n0 ≤ T369.heap.size := Nat.le_trans zs320 K369.1
      show own_G p e below (T369.setTop (mkF m 507 #[.val (.long q1), .second, .val (.long q2), .second, .val (.long q3), .second, .val (.long q4), .second, .val (.int p5), .val (.int p6), .val (.ref b215), .val (.int f1), .val (.int f2), .val (.int f3), .val (.int f4), .val (.int f5), .val (.int f6), .val (.int n), .val (.ref b287), .val (.int o6), .val (.int (1 : Int32)), .val (.int v0), .unset] [(.ref b215)])) _
      refine own_go (fun _ k => XS.pop X369.here hx rfl (hb hby at_507) rfl rfl k) ?_
      show own_G p e below (T369.setTop (mkF m 508 #[.val (.long q1), .second, .val (.long q2), .second, .val (.long q3), .second, .val (.long q4), .second, .val (.int p5), .val (.int p6), .val (.ref b215), .val (.int f1), .val (.int f2), .val (.int f3), .val (.int f4), .val (.int f5), .val (.int f6), .val (.int n), .val (.ref b287), .val (.int o6), .val (.int (1 : Int32)), .val (.int v0), .unset] [])) _
      refine own_go (fun _ k => XS.aload X369.here hx rfl (hb hby at_508) rfl rfl k) ?_
      show own_G p e below (T369.setTop (mkF m 510 #[.val (.long q1), .second, .val (.long q2), .second, .val (.long q3), .second, .val (.long q4), .second, .val (.int p5), .val (.int p6), .val (.ref b215), .val (.int f1), .val (.int f2), .val (.int f3), .val (.int f4), .val (.int f5), .val (.int f6), .val (.int n), .val (.ref b287), .val (.int o6), .val (.int (1 : Int32)), .val (.int v0), .unset] [(.ref b215)])) _
      obtain ⟨cq374, kq374, q374a, q374b, q374c⟩ := isOf hZ rfl Eo369
      obtain ⟨_, _, ⟨T374, L374, k374, n374⟩, -, X374, ⟨Lc374, hQ374, l374, y374, z374⟩, st374⟩ := X369.virtualBack hx (y := (⟨"com/example/orbweave/orbweave/ByteWriter", "toByteArray", "()[B"⟩ : MethodName)) (z := (⟨"com/example/orbweave/orbweave/ByteWriter", "toByteArray", "()[B"⟩ : MethodName)) hown (mvT hZ (hw _ (List.mem_of_getElem? (i := 12) rfl))) (mvT hZ (hw _ (List.mem_of_getElem? (i := 13) rfl))) (notFace_of_selects (args := #[]) (mvT hZ (hw _ (List.mem_of_getElem? (i := 15) rfl)))) (mvT hZ (hw _ (List.mem_of_getElem? (i := 15) rfl))) (mvT hZ (hw _ (List.mem_of_getElem? (i := 14) rfl))) (by decide) (backOf (W := 0) (rm3 l Z a0 hw [] b215 bJ6 kJ6 (64 : Int32) (Int32.ofNat (u6 ++ [Value.int ((XT.ushr p5 (8 : Int32)).toInt8.toInt32)]).length) (u6 ++ [Value.int ((XT.ushr p5 (8 : Int32)).toInt8.toInt32)]) 38 T369.heap n0 zs373 Fb369 Fl369 Vq369 Eb369 (own_ofnn (by simp only [List.length_append, List.length_cons, List.length_nil, own_len_sb, own_len_ib, own_len_lb]; omega)) (by rw [own_tn (by simp only [List.length_append, List.length_cons, List.length_nil, own_len_sb, own_len_ib, own_len_lb]; omega)]; simp only [List.length_append, List.length_cons, List.length_nil, own_len_sb, own_len_ib, own_len_lb]; omega) (by decide) (by rw [show ((64 : Int32)).toNatClampNeg = 64 from by decide]; simp only [List.length_append, List.length_cons, List.length_nil, own_len_sb, own_len_ib, own_len_lb]; omega)) hZ (hw _ (List.mem_of_getElem? (i := 16) rfl)) (hw _ (List.mem_of_getElem? (i := 2) rfl)) (by decide) (by decide)) q374a q374c (g := (mkF m 510 #[.val (.long q1), .second, .val (.long q2), .second, .val (.long q3), .second, .val (.long q4), .second, .val (.int p5), .val (.int p6), .val (.ref b215), .val (.int f1), .val (.int f2), .val (.int f3), .val (.int f4), .val (.int f5), .val (.int f6), .val (.int n), .val (.ref b287), .val (.int o6), .val (.int (1 : Int32)), .val (.int v0), .unset] [(.ref b215)])) rfl (by rw [hml]; rfl) (Steps.refl _) (argsL := []) (rest := []) (lenOf pd_7 rfl) rfl (by show 2 * 0 + _ ≤ _; exact Nat.le_of_eq rfl) (hb hby at_510) (fun _ _ => ⟨rfl, rfl, (by decide : 5 + 0 + 1 ≤ _), (by decide : 199 + 0 + 38 ≤ _)⟩)
      dsimp only [Pt.U, Pt.locs, Pt.cells, Pt.slots] at X374 l374 y374 z374 st374 hQ374
      subst l374 y374 z374
      obtain ⟨b374, k374q, rfl, Nq374, K374, hsz374, E374q, Vq374⟩ := hQ374
      have N374 := Fr.app N369 Nq374
      refine own_go (fun _ k => st374.trans k) ?_
      have ne375 : b215 ≠ b374 := Nat.ne_of_lt (Nat.lt_of_lt_of_le Eo369.lt hsz374)
      have ne376 : bJ6 ≠ b374 := Nat.ne_of_lt (Nat.lt_of_lt_of_le Eb369.lt hsz374)
      have ne377 : b287 ≠ b374 := Nat.ne_of_lt (Nat.lt_of_lt_of_le f372.lt hsz374)
      have ge378 : n0 ≤ b374 := Nat.le_trans zs373 hsz374
      have f379 := Eo369.keep K374
      have f380 := Eb369.keep K374
      have f381 := f372.keep K374
      have f382 := Fb369.keep K374 nin0
      have f383 := Fl369.keep K374 nin0
      have f384 := Vq369.keep K374 nin0
      have zs385 : n0 ≤ T374.heap.size := Nat.le_trans zs373 K374.1
      rw [own_takeall _ (by simp only [List.length_append, List.length_cons, List.length_nil, own_len_sb, own_len_ib, own_len_lb]; omega)] at Vq374
      show own_G p e below (T374.setTop (mkF m 513 #[.val (.long q1), .second, .val (.long q2), .second, .val (.long q3), .second, .val (.long q4), .second, .val (.int p5), .val (.int p6), .val (.ref b215), .val (.int f1), .val (.int f2), .val (.int f3), .val (.int f4), .val (.int f5), .val (.int f6), .val (.int n), .val (.ref b287), .val (.int o6), .val (.int (1 : Int32)), .val (.int v0), .unset] [(.ref b374)])) _
      refine own_go (fun _ k => XS.astore X374.here hx rfl (hb hby at_513) rfl rfl (l' := #[.val (.long q1), .second, .val (.long q2), .second, .val (.long q3), .second, .val (.long q4), .second, .val (.int p5), .val (.int p6), .val (.ref b215), .val (.int f1), .val (.int f2), .val (.int f3), .val (.int f4), .val (.int f5), .val (.int f6), .val (.int n), .val (.ref b287), .val (.int o6), .val (.int (1 : Int32)), .val (.int v0), .val (.ref b374)]) rfl k) ?_
      show own_G p e below (T374.setTop (mkF m 515 #[.val (.long q1), .second, .val (.long q2), .second, .val (.long q3), .second, .val (.long q4), .second, .val (.int p5), .val (.int p6), .val (.ref b215), .val (.int f1), .val (.int f2), .val (.int f3), .val (.int f4), .val (.int f5), .val (.int f6), .val (.int n), .val (.ref b287), .val (.int o6), .val (.int (1 : Int32)), .val (.int v0), .val (.ref b374)] [])) _
      refine own_go (fun _ k => XS.aload X374.here hx rfl (hb hby at_515) rfl rfl k) ?_
      show own_G p e below (T374.setTop (mkF m 517 #[.val (.long q1), .second, .val (.long q2), .second, .val (.long q3), .second, .val (.long q4), .second, .val (.int p5), .val (.int p6), .val (.ref b215), .val (.int f1), .val (.int f2), .val (.int f3), .val (.int f4), .val (.int f5), .val (.int f6), .val (.int n), .val (.ref b287), .val (.int o6), .val (.int (1 : Int32)), .val (.int v0), .val (.ref b374)] [(.ref b374)])) _
      obtain ⟨cl386, Ar386, q386, S386, M386, B386, G386⟩ := id Vq374
      refine own_go (X374.arraylength hx Ar386.1 (State.isArrayOf_alike hZ.alike Ar386.2.1) (g := (mkF m 517 #[.val (.long q1), .second, .val (.long q2), .second, .val (.long q3), .second, .val (.long q4), .second, .val (.int p5), .val (.int p6), .val (.ref b215), .val (.int f1), .val (.int f2), .val (.int f3), .val (.int f4), .val (.int f5), .val (.int f6), .val (.int n), .val (.ref b287), .val (.int o6), .val (.int (1 : Int32)), .val (.int v0), .val (.ref b374)] [(.ref b374)])) rfl rfl (hb hby at_517)) ?_
      rw [len_of S386 M386]
      show own_G p e below (T374.setTop (mkF m 518 #[.val (.long q1), .second, .val (.long q2), .second, .val (.long q3), .second, .val (.long q4), .second, .val (.int p5), .val (.int p6), .val (.ref b215), .val (.int f1), .val (.int f2), .val (.int f3), .val (.int f4), .val (.int f5), .val (.int f6), .val (.int n), .val (.ref b287), .val (.int o6), .val (.int (1 : Int32)), .val (.int v0), .val (.ref b374)] [(.int (Int32.ofNat (u6 ++ [Value.int ((XT.ushr p5 (8 : Int32)).toInt8.toInt32)]).length))])) _
      refine own_go (fun _ k => XS.iload X374.here hx rfl (hb hby at_518) rfl k) ?_
      show own_G p e below (T374.setTop (mkF m 520 #[.val (.long q1), .second, .val (.long q2), .second, .val (.long q3), .second, .val (.long q4), .second, .val (.int p5), .val (.int p6), .val (.ref b215), .val (.int f1), .val (.int f2), .val (.int f3), .val (.int f4), .val (.int f5), .val (.int f6), .val (.int n), .val (.ref b287), .val (.int o6), .val (.int (1 : Int32)), .val (.int v0), .val (.ref b374)] [(.int n), (.int (Int32.ofNat (u6 ++ [Value.int ((XT.ushr p5 (8 : Int32)).toInt8.toInt32)]).length))])) _
      refine own_go (fun _ k => XS.iconst X374.here hx rfl (hb hby at_520) k) ?_
      show own_G p e below (T374.setTop (mkF m 521 #[.val (.long q1), .second, .val (.long q2), .second, .val (.long q3), .second, .val (.long q4), .second, .val (.int p5), .val (.int p6), .val (.ref b215), .val (.int f1), .val (.int f2), .val (.int f3), .val (.int f4), .val (.int f5), .val (.int f6), .val (.int n), .val (.ref b287), .val (.int o6), .val (.int (1 : Int32)), .val (.int v0), .val (.ref b374)] [(.int (1 : Int32)), (.int n), (.int (Int32.ofNat (u6 ++ [Value.int ((XT.ushr p5 (8 : Int32)).toInt8.toInt32)]).length))])) _
      refine own_go (fun _ k => XS.iadd X374.here hx rfl (hb hby at_521) rfl k) ?_
      show own_G p e below (T374.setTop (mkF m 522 #[.val (.long q1), .second, .val (.long q2), .second, .val (.long q3), .second, .val (.long q4), .second, .val (.int p5), .val (.int p6), .val (.ref b215), .val (.int f1), .val (.int f2), .val (.int f3), .val (.int f4), .val (.int f5), .val (.int f6), .val (.int n), .val (.ref b287), .val (.int o6), .val (.int (1 : Int32)), .val (.int v0), .val (.ref b374)] [(.int (n + (1 : Int32))), (.int (Int32.ofNat (u6 ++ [Value.int ((XT.ushr p5 (8 : Int32)).toInt8.toInt32)]).length))])) _
      refine own_go (fun _ k => XS.icmpYes X374.here hx rfl (pc0 := 522) (pc' := 527) rfl (hb hby at_522) rfl (teq (by rw [own_len1, hN])).1 (by decide) (by decide) k) ?_
      show own_G p e below (T374.setTop (mkF m 527 #[.val (.long q1), .second, .val (.long q2), .second, .val (.long q3), .second, .val (.long q4), .second, .val (.int p5), .val (.int p6), .val (.ref b215), .val (.int f1), .val (.int f2), .val (.int f3), .val (.int f4), .val (.int f5), .val (.int f6), .val (.int n), .val (.ref b287), .val (.int o6), .val (.int (1 : Int32)), .val (.int v0), .val (.ref b374)] [])) _
      refine own_go (fun _ k => XS.iload X374.here hx rfl (hb hby at_527) rfl k) ?_
      show own_G p e below (T374.setTop (mkF m 529 #[.val (.long q1), .second, .val (.long q2), .second, .val (.long q3), .second, .val (.long q4), .second, .val (.int p5), .val (.int p6), .val (.ref b215), .val (.int f1), .val (.int f2), .val (.int f3), .val (.int f4), .val (.int f5), .val (.int f6), .val (.int n), .val (.ref b287), .val (.int o6), .val (.int (1 : Int32)), .val (.int v0), .val (.ref b374)] [(.int n)])) _
      refine own_go (fun _ k => XS.ifNo X374.here hx rfl (hb hby at_529) rfl ((if0 _ _).trans (tlt hc468_310).2.2.2) k) ?_
      show own_G p e below (T374.setTop (mkF m 532 #[.val (.long q1), .second, .val (.long q2), .second, .val (.long q3), .second, .val (.long q4), .second, .val (.int p5), .val (.int p6), .val (.ref b215), .val (.int f1), .val (.int f2), .val (.int f3), .val (.int f4), .val (.int f5), .val (.int f6), .val (.int n), .val (.ref b287), .val (.int o6), .val (.int (1 : Int32)), .val (.int v0), .val (.ref b374)] [])) _
      refine own_go (fun _ k => XS.aload X374.here hx rfl (hb hby at_532) rfl rfl k) ?_
      show own_G p e below (T374.setTop (mkF m 534 #[.val (.long q1), .second, .val (.long q2), .second, .val (.long q3), .second, .val (.long q4), .second, .val (.int p5), .val (.int p6), .val (.ref b215), .val (.int f1), .val (.int f2), .val (.int f3), .val (.int f4), .val (.int f5), .val (.int f6), .val (.int n), .val (.ref b287), .val (.int o6), .val (.int (1 : Int32)), .val (.int v0), .val (.ref b374)] [(.ref b374)])) _
      refine own_go (fun _ k => XS.iconst X374.here hx rfl (hb hby at_534) k) ?_
      show own_G p e below (T374.setTop (mkF m 535 #[.val (.long q1), .second, .val (.long q2), .second, .val (.long q3), .second, .val (.long q4), .second, .val (.int p5), .val (.int p6), .val (.ref b215), .val (.int f1), .val (.int f2), .val (.int f3), .val (.int f4), .val (.int f5), .val (.int f6), .val (.int n), .val (.ref b287), .val (.int o6), .val (.int (1 : Int32)), .val (.int v0), .val (.ref b374)] [(.int (0 : Int32)), (.ref b374)])) _
      obtain ⟨cl387, Ar387, q387, S387, M387, B387, G387⟩ := id Vq374
      have hin387 : ¬ ((0 : Int32) < 0 ∨ cl387.slots.size ≤ ((0 : Int32)).toNatClampNeg) := inb_of S387 ⟨by decide, own_posI0 (by simp) (by simp only [List.length_append, List.length_cons, List.length_nil, own_len_sb, own_len_ib, own_len_lb]; omega)⟩
      have hat387 : cl387.slots[((0 : Int32)).toNatClampNeg]? = some (.int v0) := B387.at hin387 ((own_app0 hp0).trans hv0)
      refine own_go (X374.baloadBytes hx (j := (0 : Int32)) (v := (.int v0)) Ar387.1 (State.isArrayOf_alike hZ.alike Ar387.2.1) Ar387.2.2 hin387 hat387 (g := (mkF m 535 #[.val (.long q1), .second, .val (.long q2), .second, .val (.long q3), .second, .val (.long q4), .second, .val (.int p5), .val (.int p6), .val (.ref b215), .val (.int f1), .val (.int f2), .val (.int f3), .val (.int f4), .val (.int f5), .val (.int f6), .val (.int n), .val (.ref b287), .val (.int o6), .val (.int (1 : Int32)), .val (.int v0), .val (.ref b374)] [(.int (0 : Int32)), (.ref b374)])) rfl rfl (hb hby at_535)) ?_
      show own_G p e below (T374.setTop (mkF m 536 #[.val (.long q1), .second, .val (.long q2), .second, .val (.long q3), .second, .val (.long q4), .second, .val (.int p5), .val (.int p6), .val (.ref b215), .val (.int f1), .val (.int f2), .val (.int f3), .val (.int f4), .val (.int f5), .val (.int f6), .val (.int n), .val (.ref b287), .val (.int o6), .val (.int (1 : Int32)), .val (.int v0), .val (.ref b374)] [(.int v0)])) _
      refine own_go (fun _ k => XS.iload X374.here hx rfl (hb hby at_536) rfl k) ?_
      show own_G p e below (T374.setTop (mkF m 538 #[.val (.long q1), .second, .val (.long q2), .second, .val (.long q3), .second, .val (.long q4), .second, .val (.int p5), .val (.int p6), .val (.ref b215), .val (.int f1), .val (.int f2), .val (.int f3), .val (.int f4), .val (.int f5), .val (.int f6), .val (.int n), .val (.ref b287), .val (.int o6), .val (.int (1 : Int32)), .val (.int v0), .val (.ref b374)] [(.int v0), (.int v0)])) _
      refine own_go (fun _ k => XS.icmpYes X374.here hx rfl (pc0 := 538) (pc' := 543) rfl (hb hby at_538) rfl (teq (rfl : v0 = v0)).1 (by decide) (by decide) k) ?_
      show own_G p e below (T374.setTop (mkF m 543 #[.val (.long q1), .second, .val (.long q2), .second, .val (.long q3), .second, .val (.long q4), .second, .val (.int p5), .val (.int p6), .val (.ref b215), .val (.int f1), .val (.int f2), .val (.int f3), .val (.int f4), .val (.int f5), .val (.int f6), .val (.int n), .val (.ref b287), .val (.int o6), .val (.int (1 : Int32)), .val (.int v0), .val (.ref b374)] [])) _
      refine own_go (fun _ k => XS.aload X374.here hx rfl (hb hby at_543) rfl rfl k) ?_
      show own_G p e below (T374.setTop (mkF m 545 #[.val (.long q1), .second, .val (.long q2), .second, .val (.long q3), .second, .val (.long q4), .second, .val (.int p5), .val (.int p6), .val (.ref b215), .val (.int f1), .val (.int f2), .val (.int f3), .val (.int f4), .val (.int f5), .val (.int f6), .val (.int n), .val (.ref b287), .val (.int o6), .val (.int (1 : Int32)), .val (.int v0), .val (.ref b374)] [(.ref b374)])) _
      refine own_go (fun _ k => XS.iload X374.here hx rfl (hb hby at_545) rfl k) ?_
      have hq7 := own_rd0 (A := u6) (l := [Value.int ((XT.ushr p5 (8 : Int32)).toInt8.toInt32)]) (C := ([] : List Value)) (u := (u6 ++ [Value.int ((XT.ushr p5 (8 : Int32)).toInt8.toInt32)])) (d := (.int (0 : Int32))) (by simp) hN (by simp only [List.length_append, List.length_cons, List.length_nil, own_len_sb, own_len_ib, own_len_lb]; omega) rfl (Nat.le_of_ble_eq_true rfl)
      show own_G p e below (T374.setTop (mkF m 547 #[.val (.long q1), .second, .val (.long q2), .second, .val (.long q3), .second, .val (.long q4), .second, .val (.int p5), .val (.int p6), .val (.ref b215), .val (.int f1), .val (.int f2), .val (.int f3), .val (.int f4), .val (.int f5), .val (.int f6), .val (.int n), .val (.ref b287), .val (.int o6), .val (.int (1 : Int32)), .val (.int v0), .val (.ref b374)] [(.int n), (.ref b374)])) _
      obtain ⟨cl388, Ar388, q388, S388, M388, B388, G388⟩ := id Vq374
      have hin388 : ¬ (n < 0 ∨ cl388.slots.size ≤ (n).toNatClampNeg) := inb_of S388 hq7.1
      have hat388 : cl388.slots[(n).toNatClampNeg]? = some (.int ((XT.ushr p5 (8 : Int32)).toInt8.toInt32)) := B388.at hin388 hq7.2
      refine own_go (X374.baloadBytes hx (j := n) (v := (.int ((XT.ushr p5 (8 : Int32)).toInt8.toInt32))) Ar388.1 (State.isArrayOf_alike hZ.alike Ar388.2.1) Ar388.2.2 hin388 hat388 (g := (mkF m 547 #[.val (.long q1), .second, .val (.long q2), .second, .val (.long q3), .second, .val (.long q4), .second, .val (.int p5), .val (.int p6), .val (.ref b215), .val (.int f1), .val (.int f2), .val (.int f3), .val (.int f4), .val (.int f5), .val (.int f6), .val (.int n), .val (.ref b287), .val (.int o6), .val (.int (1 : Int32)), .val (.int v0), .val (.ref b374)] [(.int n), (.ref b374)])) rfl rfl (hb hby at_547)) ?_
      show own_G p e below (T374.setTop (mkF m 548 #[.val (.long q1), .second, .val (.long q2), .second, .val (.long q3), .second, .val (.long q4), .second, .val (.int p5), .val (.int p6), .val (.ref b215), .val (.int f1), .val (.int f2), .val (.int f3), .val (.int f4), .val (.int f5), .val (.int f6), .val (.int n), .val (.ref b287), .val (.int o6), .val (.int (1 : Int32)), .val (.int v0), .val (.ref b374)] [(.int ((XT.ushr p5 (8 : Int32)).toInt8.toInt32))])) _
      refine own_go (fun _ k => XS.iload X374.here hx rfl (hb hby at_548) rfl k) ?_
      show own_G p e below (T374.setTop (mkF m 550 #[.val (.long q1), .second, .val (.long q2), .second, .val (.long q3), .second, .val (.long q4), .second, .val (.int p5), .val (.int p6), .val (.ref b215), .val (.int f1), .val (.int f2), .val (.int f3), .val (.int f4), .val (.int f5), .val (.int f6), .val (.int n), .val (.ref b287), .val (.int o6), .val (.int (1 : Int32)), .val (.int v0), .val (.ref b374)] [(.int p5), (.int ((XT.ushr p5 (8 : Int32)).toInt8.toInt32))])) _
      refine own_go (fun _ k => XS.bipush X374.here hx rfl (hb hby at_550) k) ?_
      show own_G p e below (T374.setTop (mkF m 552 #[.val (.long q1), .second, .val (.long q2), .second, .val (.long q3), .second, .val (.long q4), .second, .val (.int p5), .val (.int p6), .val (.ref b215), .val (.int f1), .val (.int f2), .val (.int f3), .val (.int f4), .val (.int f5), .val (.int f6), .val (.int n), .val (.ref b287), .val (.int o6), .val (.int (1 : Int32)), .val (.int v0), .val (.ref b374)] [(.int (8 : Int32)), (.int p5), (.int ((XT.ushr p5 (8 : Int32)).toInt8.toInt32))])) _
      refine own_go (fun _ k => XT.iushr X374.here hx rfl (hb hby at_552) rfl k) ?_
      show own_G p e below (T374.setTop (mkF m 553 #[.val (.long q1), .second, .val (.long q2), .second, .val (.long q3), .second, .val (.long q4), .second, .val (.int p5), .val (.int p6), .val (.ref b215), .val (.int f1), .val (.int f2), .val (.int f3), .val (.int f4), .val (.int f5), .val (.int f6), .val (.int n), .val (.ref b287), .val (.int o6), .val (.int (1 : Int32)), .val (.int v0), .val (.ref b374)] [(.int (XT.ushr p5 (8 : Int32))), (.int ((XT.ushr p5 (8 : Int32)).toInt8.toInt32))])) _
      refine own_go (fun _ k => XS.i2b X374.here hx rfl (hb hby at_553) rfl k) ?_
      show own_G p e below (T374.setTop (mkF m 554 #[.val (.long q1), .second, .val (.long q2), .second, .val (.long q3), .second, .val (.long q4), .second, .val (.int p5), .val (.int p6), .val (.ref b215), .val (.int f1), .val (.int f2), .val (.int f3), .val (.int f4), .val (.int f5), .val (.int f6), .val (.int n), .val (.ref b287), .val (.int o6), .val (.int (1 : Int32)), .val (.int v0), .val (.ref b374)] [(.int ((XT.ushr p5 (8 : Int32)).toInt8.toInt32)), (.int ((XT.ushr p5 (8 : Int32)).toInt8.toInt32))])) _
      refine own_go (fun _ k => XS.icmpNo X374.here hx rfl (hb hby at_554) rfl (teq (rfl : ((XT.ushr p5 (8 : Int32)).toInt8.toInt32) = ((XT.ushr p5 (8 : Int32)).toInt8.toInt32))).2 k) ?_
      show own_G p e below (T374.setTop (mkF m 557 #[.val (.long q1), .second, .val (.long q2), .second, .val (.long q3), .second, .val (.long q4), .second, .val (.int p5), .val (.int p6), .val (.ref b215), .val (.int f1), .val (.int f2), .val (.int f3), .val (.int f4), .val (.int f5), .val (.int f6), .val (.int n), .val (.ref b287), .val (.int o6), .val (.int (1 : Int32)), .val (.int v0), .val (.ref b374)] [])) _
      refine own_go (fun _ k => XS.iconst X374.here hx rfl (hb hby at_557) k) ?_
      show own_G p e below (T374.setTop (mkF m 558 #[.val (.long q1), .second, .val (.long q2), .second, .val (.long q3), .second, .val (.long q4), .second, .val (.int p5), .val (.int p6), .val (.ref b215), .val (.int f1), .val (.int f2), .val (.int f3), .val (.int f4), .val (.int f5), .val (.int f6), .val (.int n), .val (.ref b287), .val (.int o6), .val (.int (1 : Int32)), .val (.int v0), .val (.ref b374)] [(.int (1 : Int32))])) _
      refine own_go (fun _ k => XS.goto X374.here hx rfl (pc0 := 558) (pc' := 562) rfl (hb hby at_558) (by decide) (by decide) k) ?_
      show own_G p e below (T374.setTop (mkF m 562 #[.val (.long q1), .second, .val (.long q2), .second, .val (.long q3), .second, .val (.long q4), .second, .val (.int p5), .val (.int p6), .val (.ref b215), .val (.int f1), .val (.int f2), .val (.int f3), .val (.int f4), .val (.int f5), .val (.int f6), .val (.int n), .val (.ref b287), .val (.int o6), .val (.int (1 : Int32)), .val (.int v0), .val (.ref b374)] [(.int (1 : Int32))])) _
      refine own_ret X374 hlk (v := some (.int (1 : Int32))) (fun h => by rw [hret] at h; cases h) (Q0 Z q1 q2 q3 q4 p5 p6 h0 n0) (own_retI X374 hx (t := .boolean) hret rfl (Or.inl ⟨rfl, by simp, _, rfl⟩) (hb hby at_562)) (by decide) (by decide) ?_
      show Q0 Z q1 q2 q3 q4 p5 p6 h0 n0 _ T374.heap _
      exact ⟨rfl, N374⟩
  · refine own_go (fun _ k => XS.ifYes XC6.here hx rfl (pc0 := 468) (pc' := 478) rfl (hb hby at_468) rfl ((if0 _ _).trans (flt hc468_310).2.2.2) (by decide) (by decide) k) ?_
    show own_G p e below (TC6.setTop (mkF m 478 #[.val (.long q1), .second, .val (.long q2), .second, .val (.long q3), .second, .val (.long q4), .second, .val (.int p5), .val (.int p6), .val (.ref b215), .val (.int f1), .val (.int f2), .val (.int f3), .val (.int f4), .val (.int f5), .val (.int f6), .val (.int n), .val (.ref b287), .val (.int o6), .val (.int (1 : Int32)), .unset, .unset] [])) _
    refine own_go (fun _ k => XS.iconst XC6.here hx rfl (hb hby at_478) k) ?_
    show own_G p e below (TC6.setTop (mkF m 479 #[.val (.long q1), .second, .val (.long q2), .second, .val (.long q3), .second, .val (.long q4), .second, .val (.int p5), .val (.int p6), .val (.ref b215), .val (.int f1), .val (.int f2), .val (.int f3), .val (.int f4), .val (.int f5), .val (.int f6), .val (.int n), .val (.ref b287), .val (.int o6), .val (.int (1 : Int32)), .unset, .unset] [(.int (0 : Int32))])) _
    refine own_go (fun _ k => XS.istore XC6.here hx rfl (hb hby at_479) rfl (l' := #[.val (.long q1), .second, .val (.long q2), .second, .val (.long q3), .second, .val (.long q4), .second, .val (.int p5), .val (.int p6), .val (.ref b215), .val (.int f1), .val (.int f2), .val (.int f3), .val (.int f4), .val (.int f5), .val (.int f6), .val (.int n), .val (.ref b287), .val (.int o6), .val (.int (1 : Int32)), .val (.int (0 : Int32)), .unset]) rfl k) ?_
    show own_G p e below (TC6.setTop (mkF m 481 #[.val (.long q1), .second, .val (.long q2), .second, .val (.long q3), .second, .val (.long q4), .second, .val (.int p5), .val (.int p6), .val (.ref b215), .val (.int f1), .val (.int f2), .val (.int f3), .val (.int f4), .val (.int f5), .val (.int f6), .val (.int n), .val (.ref b287), .val (.int o6), .val (.int (1 : Int32)), .val (.int (0 : Int32)), .unset] [])) _
    refine own_go (fun _ k => XS.iload XC6.here hx rfl (hb hby at_481) rfl k) ?_
    show own_G p e below (TC6.setTop (mkF m 483 #[.val (.long q1), .second, .val (.long q2), .second, .val (.long q3), .second, .val (.long q4), .second, .val (.int p5), .val (.int p6), .val (.ref b215), .val (.int f1), .val (.int f2), .val (.int f3), .val (.int f4), .val (.int f5), .val (.int f6), .val (.int n), .val (.ref b287), .val (.int o6), .val (.int (1 : Int32)), .val (.int (0 : Int32)), .unset] [(.int n)])) _
    refine own_go (fun _ k => XS.ifYes XC6.here hx rfl (pc0 := 483) (pc' := 497) rfl (hb hby at_483) rfl ((if0 _ _).trans (flt hc468_310).2.2.2) (by decide) (by decide) k) ?_
    show own_G p e below (TC6.setTop (mkF m 497 #[.val (.long q1), .second, .val (.long q2), .second, .val (.long q3), .second, .val (.long q4), .second, .val (.int p5), .val (.int p6), .val (.ref b215), .val (.int f1), .val (.int f2), .val (.int f3), .val (.int f4), .val (.int f5), .val (.int f6), .val (.int n), .val (.ref b287), .val (.int o6), .val (.int (1 : Int32)), .val (.int (0 : Int32)), .unset] [])) _
    refine own_go (fun _ k => XS.aload XC6.here hx rfl (hb hby at_497) rfl rfl k) ?_
    show own_G p e below (TC6.setTop (mkF m 499 #[.val (.long q1), .second, .val (.long q2), .second, .val (.long q3), .second, .val (.long q4), .second, .val (.int p5), .val (.int p6), .val (.ref b215), .val (.int f1), .val (.int f2), .val (.int f3), .val (.int f4), .val (.int f5), .val (.int f6), .val (.int n), .val (.ref b287), .val (.int o6), .val (.int (1 : Int32)), .val (.int (0 : Int32)), .unset] [(.ref b215)])) _
    refine own_go (fun _ k => XS.iload XC6.here hx rfl (hb hby at_499) rfl k) ?_
    show own_G p e below (TC6.setTop (mkF m 501 #[.val (.long q1), .second, .val (.long q2), .second, .val (.long q3), .second, .val (.long q4), .second, .val (.int p5), .val (.int p6), .val (.ref b215), .val (.int f1), .val (.int f2), .val (.int f3), .val (.int f4), .val (.int f5), .val (.int f6), .val (.int n), .val (.ref b287), .val (.int o6), .val (.int (1 : Int32)), .val (.int (0 : Int32)), .unset] [(.int p5), (.ref b215)])) _
    refine own_go (fun _ k => XS.bipush XC6.here hx rfl (hb hby at_501) k) ?_
    show own_G p e below (TC6.setTop (mkF m 503 #[.val (.long q1), .second, .val (.long q2), .second, .val (.long q3), .second, .val (.long q4), .second, .val (.int p5), .val (.int p6), .val (.ref b215), .val (.int f1), .val (.int f2), .val (.int f3), .val (.int f4), .val (.int f5), .val (.int f6), .val (.int n), .val (.ref b287), .val (.int o6), .val (.int (1 : Int32)), .val (.int (0 : Int32)), .unset] [(.int (8 : Int32)), (.int p5), (.ref b215)])) _
    refine own_go (fun _ k => XT.iushr XC6.here hx rfl (hb hby at_503) rfl k) ?_
    show own_G p e below (TC6.setTop (mkF m 504 #[.val (.long q1), .second, .val (.long q2), .second, .val (.long q3), .second, .val (.long q4), .second, .val (.int p5), .val (.int p6), .val (.ref b215), .val (.int f1), .val (.int f2), .val (.int f3), .val (.int f4), .val (.int f5), .val (.int f6), .val (.int n), .val (.ref b287), .val (.int o6), .val (.int (1 : Int32)), .val (.int (0 : Int32)), .unset] [(.int (XT.ushr p5 (8 : Int32))), (.ref b215)])) _
    rcases hz6 with ⟨rfl, h32⟩ | rfl
    · by_cases hlen : u6.length = 32
      · show own_G p e below (TC6.setTop (mkF m 504 #[.val (.long q1), .second, .val (.long q2), .second, .val (.long q3), .second, .val (.long q4), .second, .val (.int p5), .val (.int p6), .val (.ref b215), .val (.int f1), .val (.int f2), .val (.int f3), .val (.int f4), .val (.int f5), .val (.int f6), .val (.int n), .val (.ref b287), .val (.int o6), .val (.int (1 : Int32)), .val (.int (0 : Int32)), .unset] [(.int (XT.ushr p5 (8 : Int32))), (.ref b215)])) _
        obtain ⟨cq389, kq389, q389a, q389b, q389c⟩ := isOf hZ eC6 f291
        obtain ⟨_, _, ⟨T389, L389, k389, n389⟩, -, X389, ⟨Lc389, hQ389, l389, y389, z389⟩, st389⟩ := XC6.virtualBack hx (y := (⟨"com/example/orbweave/orbweave/ByteWriter", "writeByte", "(I)Lcom/example/orbweave/orbweave/ByteWriter;"⟩ : MethodName)) (z := (⟨"com/example/orbweave/orbweave/ByteWriter", "writeByte", "(I)Lcom/example/orbweave/orbweave/ByteWriter;"⟩ : MethodName)) hown (mvT hZ (hw _ (List.mem_of_getElem? (i := 31) rfl))) (mvT hZ (hw _ (List.mem_of_getElem? (i := 32) rfl))) (notFace_of_selects (args := #[]) (mvT hZ (hw _ (List.mem_of_getElem? (i := 34) rfl)))) (mvT hZ (hw _ (List.mem_of_getElem? (i := 34) rfl))) (mvT hZ (hw _ (List.mem_of_getElem? (i := 33) rfl))) (by decide) (backOf (W := 0) (rm6_1 l Z a0 hw [] b215 (XT.ushr p5 (8 : Int32)) bJ6 kJ6 u6 T287.heap n0 zs296 f291 f292 (by have q := f293; rw [own_of32 hlen] at q; exact q) ge216 f295 f294 gbJ6 hlen) hZ (hw _ (List.mem_of_getElem? (i := 35) rfl)) (hw _ (List.mem_of_getElem? (i := 2) rfl)) (by decide) (by decide)) q389a q389c (g := (mkF m 504 #[.val (.long q1), .second, .val (.long q2), .second, .val (.long q3), .second, .val (.long q4), .second, .val (.int p5), .val (.int p6), .val (.ref b215), .val (.int f1), .val (.int f2), .val (.int f3), .val (.int f4), .val (.int f5), .val (.int f6), .val (.int n), .val (.ref b287), .val (.int o6), .val (.int (1 : Int32)), .val (.int (0 : Int32)), .unset] [(.int (XT.ushr p5 (8 : Int32))), (.ref b215)])) rfl (by rw [hml]; rfl) (Steps.refl _) (argsL := [(.int (XT.ushr p5 (8 : Int32)))]) (rest := []) (lenOf pd_3 rfl) rfl (by show 2 * 0 + _ ≤ _; exact Nat.le_of_eq rfl) (hb hby at_504) (fun _ _ => ⟨rfl, eC6, (by decide : 5 + 1 ≤ _), (by decide : 199 + 64 ≤ _)⟩)
        dsimp only [Pt.U, Pt.locs, Pt.cells, Pt.slots] at X389 l389 y389 z389 st389 hQ389
        subst l389 y389 z389
        obtain ⟨b389, k389q, rfl, Nq389, K389, hsz389, Eo389, Fb389, Fl389, Eb389, Vq389⟩ := hQ389
        have N389 := Fr.app NC6 Nq389
        refine own_go (fun _ k => st389.trans k) ?_
        have ne390 : b215 ≠ b389 := Nat.ne_of_lt (Nat.lt_of_lt_of_le f291.lt hsz389)
        have ne391 : bJ6 ≠ b389 := Nat.ne_of_lt (Nat.lt_of_lt_of_le f294.lt hsz389)
        have ne392 : b287 ≠ b389 := Nat.ne_of_lt (Nat.lt_of_lt_of_le Vq287.lt hsz389)
        have ge393 : n0 ≤ b389 := Nat.le_trans zs296 hsz389
        have f394 := f291.keep K389
        have f395 := f294.keep K389
        have f396 := f295.keep K389 (ninS (Ne.symm neJ6) nin0)
        have f397 := Vq287.keep K389 (ninS (Ne.symm ne288) nin0)
        have f398 := E287q.keep K389
        have zs399 : n0 ≤ T389.heap.size := Nat.le_trans zs296 K389.1
        show own_G p e below (T389.setTop (mkF m 507 #[.val (.long q1), .second, .val (.long q2), .second, .val (.long q3), .second, .val (.long q4), .second, .val (.int p5), .val (.int p6), .val (.ref b215), .val (.int f1), .val (.int f2), .val (.int f3), .val (.int f4), .val (.int f5), .val (.int f6), .val (.int n), .val (.ref b287), .val (.int o6), .val (.int (1 : Int32)), .val (.int (0 : Int32)), .unset] [(.ref b215)])) _
        refine own_go (fun _ k => XS.pop X389.here hx rfl (hb hby at_507) rfl rfl k) ?_
        show own_G p e below (T389.setTop (mkF m 508 #[.val (.long q1), .second, .val (.long q2), .second, .val (.long q3), .second, .val (.long q4), .second, .val (.int p5), .val (.int p6), .val (.ref b215), .val (.int f1), .val (.int f2), .val (.int f3), .val (.int f4), .val (.int f5), .val (.int f6), .val (.int n), .val (.ref b287), .val (.int o6), .val (.int (1 : Int32)), .val (.int (0 : Int32)), .unset] [])) _
        refine own_go (fun _ k => XS.aload X389.here hx rfl (hb hby at_508) rfl rfl k) ?_
        show own_G p e below (T389.setTop (mkF m 510 #[.val (.long q1), .second, .val (.long q2), .second, .val (.long q3), .second, .val (.long q4), .second, .val (.int p5), .val (.int p6), .val (.ref b215), .val (.int f1), .val (.int f2), .val (.int f3), .val (.int f4), .val (.int f5), .val (.int f6), .val (.int n), .val (.ref b287), .val (.int o6), .val (.int (1 : Int32)), .val (.int (0 : Int32)), .unset] [(.ref b215)])) _
        obtain ⟨cq400, kq400, q400a, q400b, q400c⟩ := isOf hZ rfl Eo389
        obtain ⟨_, _, ⟨T400, L400, k400, n400⟩, -, X400, ⟨Lc400, hQ400, l400, y400, z400⟩, st400⟩ := X389.virtualBack hx (y := (⟨"com/example/orbweave/orbweave/ByteWriter", "toByteArray", "()[B"⟩ : MethodName)) (z := (⟨"com/example/orbweave/orbweave/ByteWriter", "toByteArray", "()[B"⟩ : MethodName)) hown (mvT hZ (hw _ (List.mem_of_getElem? (i := 12) rfl))) (mvT hZ (hw _ (List.mem_of_getElem? (i := 13) rfl))) (notFace_of_selects (args := #[]) (mvT hZ (hw _ (List.mem_of_getElem? (i := 15) rfl)))) (mvT hZ (hw _ (List.mem_of_getElem? (i := 15) rfl))) (mvT hZ (hw _ (List.mem_of_getElem? (i := 14) rfl))) (by decide) (backOf (W := 0) (rm3 l Z a0 hw [] b215 b389 k389q (64 : Int32) (Int32.ofNat (u6 ++ [Value.int ((XT.ushr p5 (8 : Int32)).toInt8.toInt32)]).length) (u6 ++ [Value.int ((XT.ushr p5 (8 : Int32)).toInt8.toInt32)]) 38 T389.heap n0 zs399 Fb389 Fl389 Vq389 Eb389 (own_ofnn (by simp only [List.length_append, List.length_cons, List.length_nil, own_len_sb, own_len_ib, own_len_lb]; omega)) (by rw [own_tn (by simp only [List.length_append, List.length_cons, List.length_nil, own_len_sb, own_len_ib, own_len_lb]; omega)]; simp only [List.length_append, List.length_cons, List.length_nil, own_len_sb, own_len_ib, own_len_lb]; omega) (by decide) (by rw [show ((64 : Int32)).toNatClampNeg = 64 from by decide]; simp only [List.length_append, List.length_cons, List.length_nil, own_len_sb, own_len_ib, own_len_lb]; omega)) hZ (hw _ (List.mem_of_getElem? (i := 16) rfl)) (hw _ (List.mem_of_getElem? (i := 2) rfl)) (by decide) (by decide)) q400a q400c (g := (mkF m 510 #[.val (.long q1), .second, .val (.long q2), .second, .val (.long q3), .second, .val (.long q4), .second, .val (.int p5), .val (.int p6), .val (.ref b215), .val (.int f1), .val (.int f2), .val (.int f3), .val (.int f4), .val (.int f5), .val (.int f6), .val (.int n), .val (.ref b287), .val (.int o6), .val (.int (1 : Int32)), .val (.int (0 : Int32)), .unset] [(.ref b215)])) rfl (by rw [hml]; rfl) (Steps.refl _) (argsL := []) (rest := []) (lenOf pd_7 rfl) rfl (by show 2 * 0 + _ ≤ _; exact Nat.le_of_eq rfl) (hb hby at_510) (fun _ _ => ⟨rfl, rfl, (by decide : 5 + 1 + 1 ≤ _), (by decide : 199 + 64 + 38 ≤ _)⟩)
        dsimp only [Pt.U, Pt.locs, Pt.cells, Pt.slots] at X400 l400 y400 z400 st400 hQ400
        subst l400 y400 z400
        obtain ⟨b400, k400q, rfl, Nq400, K400, hsz400, E400q, Vq400⟩ := hQ400
        have N400 := Fr.app N389 Nq400
        refine own_go (fun _ k => st400.trans k) ?_
        have ne401 : b215 ≠ b400 := Nat.ne_of_lt (Nat.lt_of_lt_of_le Eo389.lt hsz400)
        have ne402 : bJ6 ≠ b400 := Nat.ne_of_lt (Nat.lt_of_lt_of_le f395.lt hsz400)
        have ne403 : b287 ≠ b400 := Nat.ne_of_lt (Nat.lt_of_lt_of_le f397.lt hsz400)
        have ne404 : b389 ≠ b400 := Nat.ne_of_lt (Nat.lt_of_lt_of_le Eb389.lt hsz400)
        have ge405 : n0 ≤ b400 := Nat.le_trans zs399 hsz400
        have f406 := Eo389.keep K400
        have f407 := f395.keep K400
        have f408 := f396.keep K400 nin0
        have f409 := f397.keep K400 nin0
        have f410 := f398.keep K400
        have f411 := Fb389.keep K400 nin0
        have f412 := Fl389.keep K400 nin0
        have f413 := Eb389.keep K400
        have f414 := Vq389.keep K400 nin0
        have zs415 : n0 ≤ T400.heap.size := Nat.le_trans zs399 K400.1
        rw [own_takeall _ (by simp only [List.length_append, List.length_cons, List.length_nil, own_len_sb, own_len_ib, own_len_lb]; omega)] at Vq400
        show own_G p e below (T400.setTop (mkF m 513 #[.val (.long q1), .second, .val (.long q2), .second, .val (.long q3), .second, .val (.long q4), .second, .val (.int p5), .val (.int p6), .val (.ref b215), .val (.int f1), .val (.int f2), .val (.int f3), .val (.int f4), .val (.int f5), .val (.int f6), .val (.int n), .val (.ref b287), .val (.int o6), .val (.int (1 : Int32)), .val (.int (0 : Int32)), .unset] [(.ref b400)])) _
        refine own_go (fun _ k => XS.astore X400.here hx rfl (hb hby at_513) rfl rfl (l' := #[.val (.long q1), .second, .val (.long q2), .second, .val (.long q3), .second, .val (.long q4), .second, .val (.int p5), .val (.int p6), .val (.ref b215), .val (.int f1), .val (.int f2), .val (.int f3), .val (.int f4), .val (.int f5), .val (.int f6), .val (.int n), .val (.ref b287), .val (.int o6), .val (.int (1 : Int32)), .val (.int (0 : Int32)), .val (.ref b400)]) rfl k) ?_
        show own_G p e below (T400.setTop (mkF m 515 #[.val (.long q1), .second, .val (.long q2), .second, .val (.long q3), .second, .val (.long q4), .second, .val (.int p5), .val (.int p6), .val (.ref b215), .val (.int f1), .val (.int f2), .val (.int f3), .val (.int f4), .val (.int f5), .val (.int f6), .val (.int n), .val (.ref b287), .val (.int o6), .val (.int (1 : Int32)), .val (.int (0 : Int32)), .val (.ref b400)] [])) _
        refine own_go (fun _ k => XS.aload X400.here hx rfl (hb hby at_515) rfl rfl k) ?_
        show own_G p e below (T400.setTop (mkF m 517 #[.val (.long q1), .second, .val (.long q2), .second, .val (.long q3), .second, .val (.long q4), .second, .val (.int p5), .val (.int p6), .val (.ref b215), .val (.int f1), .val (.int f2), .val (.int f3), .val (.int f4), .val (.int f5), .val (.int f6), .val (.int n), .val (.ref b287), .val (.int o6), .val (.int (1 : Int32)), .val (.int (0 : Int32)), .val (.ref b400)] [(.ref b400)])) _
        obtain ⟨cl416, Ar416, q416, S416, M416, B416, G416⟩ := id Vq400
        refine own_go (X400.arraylength hx Ar416.1 (State.isArrayOf_alike hZ.alike Ar416.2.1) (g := (mkF m 517 #[.val (.long q1), .second, .val (.long q2), .second, .val (.long q3), .second, .val (.long q4), .second, .val (.int p5), .val (.int p6), .val (.ref b215), .val (.int f1), .val (.int f2), .val (.int f3), .val (.int f4), .val (.int f5), .val (.int f6), .val (.int n), .val (.ref b287), .val (.int o6), .val (.int (1 : Int32)), .val (.int (0 : Int32)), .val (.ref b400)] [(.ref b400)])) rfl rfl (hb hby at_517)) ?_
        rw [len_of S416 M416]
        show own_G p e below (T400.setTop (mkF m 518 #[.val (.long q1), .second, .val (.long q2), .second, .val (.long q3), .second, .val (.long q4), .second, .val (.int p5), .val (.int p6), .val (.ref b215), .val (.int f1), .val (.int f2), .val (.int f3), .val (.int f4), .val (.int f5), .val (.int f6), .val (.int n), .val (.ref b287), .val (.int o6), .val (.int (1 : Int32)), .val (.int (0 : Int32)), .val (.ref b400)] [(.int (Int32.ofNat (u6 ++ [Value.int ((XT.ushr p5 (8 : Int32)).toInt8.toInt32)]).length))])) _
        refine own_go (fun _ k => XS.iload X400.here hx rfl (hb hby at_518) rfl k) ?_
        show own_G p e below (T400.setTop (mkF m 520 #[.val (.long q1), .second, .val (.long q2), .second, .val (.long q3), .second, .val (.long q4), .second, .val (.int p5), .val (.int p6), .val (.ref b215), .val (.int f1), .val (.int f2), .val (.int f3), .val (.int f4), .val (.int f5), .val (.int f6), .val (.int n), .val (.ref b287), .val (.int o6), .val (.int (1 : Int32)), .val (.int (0 : Int32)), .val (.ref b400)] [(.int n), (.int (Int32.ofNat (u6 ++ [Value.int ((XT.ushr p5 (8 : Int32)).toInt8.toInt32)]).length))])) _
        refine own_go (fun _ k => XS.iconst X400.here hx rfl (hb hby at_520) k) ?_
        show own_G p e below (T400.setTop (mkF m 521 #[.val (.long q1), .second, .val (.long q2), .second, .val (.long q3), .second, .val (.long q4), .second, .val (.int p5), .val (.int p6), .val (.ref b215), .val (.int f1), .val (.int f2), .val (.int f3), .val (.int f4), .val (.int f5), .val (.int f6), .val (.int n), .val (.ref b287), .val (.int o6), .val (.int (1 : Int32)), .val (.int (0 : Int32)), .val (.ref b400)] [(.int (1 : Int32)), (.int n), (.int (Int32.ofNat (u6 ++ [Value.int ((XT.ushr p5 (8 : Int32)).toInt8.toInt32)]).length))])) _
        refine own_go (fun _ k => XS.iadd X400.here hx rfl (hb hby at_521) rfl k) ?_
        show own_G p e below (T400.setTop (mkF m 522 #[.val (.long q1), .second, .val (.long q2), .second, .val (.long q3), .second, .val (.long q4), .second, .val (.int p5), .val (.int p6), .val (.ref b215), .val (.int f1), .val (.int f2), .val (.int f3), .val (.int f4), .val (.int f5), .val (.int f6), .val (.int n), .val (.ref b287), .val (.int o6), .val (.int (1 : Int32)), .val (.int (0 : Int32)), .val (.ref b400)] [(.int (n + (1 : Int32))), (.int (Int32.ofNat (u6 ++ [Value.int ((XT.ushr p5 (8 : Int32)).toInt8.toInt32)]).length))])) _
        refine own_go (fun _ k => XS.icmpYes X400.here hx rfl (pc0 := 522) (pc' := 527) rfl (hb hby at_522) rfl (teq (by rw [own_len1, hN])).1 (by decide) (by decide) k) ?_
        show own_G p e below (T400.setTop (mkF m 527 #[.val (.long q1), .second, .val (.long q2), .second, .val (.long q3), .second, .val (.long q4), .second, .val (.int p5), .val (.int p6), .val (.ref b215), .val (.int f1), .val (.int f2), .val (.int f3), .val (.int f4), .val (.int f5), .val (.int f6), .val (.int n), .val (.ref b287), .val (.int o6), .val (.int (1 : Int32)), .val (.int (0 : Int32)), .val (.ref b400)] [])) _
        refine own_go (fun _ k => XS.iload X400.here hx rfl (hb hby at_527) rfl k) ?_
        show own_G p e below (T400.setTop (mkF m 529 #[.val (.long q1), .second, .val (.long q2), .second, .val (.long q3), .second, .val (.long q4), .second, .val (.int p5), .val (.int p6), .val (.ref b215), .val (.int f1), .val (.int f2), .val (.int f3), .val (.int f4), .val (.int f5), .val (.int f6), .val (.int n), .val (.ref b287), .val (.int o6), .val (.int (1 : Int32)), .val (.int (0 : Int32)), .val (.ref b400)] [(.int n)])) _
        refine own_go (fun _ k => XS.ifYes X400.here hx rfl (pc0 := 529) (pc' := 543) rfl (hb hby at_529) rfl ((if0 _ _).trans (flt hc468_310).2.2.2) (by decide) (by decide) k) ?_
        show own_G p e below (T400.setTop (mkF m 543 #[.val (.long q1), .second, .val (.long q2), .second, .val (.long q3), .second, .val (.long q4), .second, .val (.int p5), .val (.int p6), .val (.ref b215), .val (.int f1), .val (.int f2), .val (.int f3), .val (.int f4), .val (.int f5), .val (.int f6), .val (.int n), .val (.ref b287), .val (.int o6), .val (.int (1 : Int32)), .val (.int (0 : Int32)), .val (.ref b400)] [])) _
        refine own_go (fun _ k => XS.aload X400.here hx rfl (hb hby at_543) rfl rfl k) ?_
        show own_G p e below (T400.setTop (mkF m 545 #[.val (.long q1), .second, .val (.long q2), .second, .val (.long q3), .second, .val (.long q4), .second, .val (.int p5), .val (.int p6), .val (.ref b215), .val (.int f1), .val (.int f2), .val (.int f3), .val (.int f4), .val (.int f5), .val (.int f6), .val (.int n), .val (.ref b287), .val (.int o6), .val (.int (1 : Int32)), .val (.int (0 : Int32)), .val (.ref b400)] [(.ref b400)])) _
        refine own_go (fun _ k => XS.iload X400.here hx rfl (hb hby at_545) rfl k) ?_
        have hq7 := own_rd0 (A := u6) (l := [Value.int ((XT.ushr p5 (8 : Int32)).toInt8.toInt32)]) (C := ([] : List Value)) (u := (u6 ++ [Value.int ((XT.ushr p5 (8 : Int32)).toInt8.toInt32)])) (d := (.int (0 : Int32))) (by simp) hN (by simp only [List.length_append, List.length_cons, List.length_nil, own_len_sb, own_len_ib, own_len_lb]; omega) rfl (Nat.le_of_ble_eq_true rfl)
        show own_G p e below (T400.setTop (mkF m 547 #[.val (.long q1), .second, .val (.long q2), .second, .val (.long q3), .second, .val (.long q4), .second, .val (.int p5), .val (.int p6), .val (.ref b215), .val (.int f1), .val (.int f2), .val (.int f3), .val (.int f4), .val (.int f5), .val (.int f6), .val (.int n), .val (.ref b287), .val (.int o6), .val (.int (1 : Int32)), .val (.int (0 : Int32)), .val (.ref b400)] [(.int n), (.ref b400)])) _
        obtain ⟨cl417, Ar417, q417, S417, M417, B417, G417⟩ := id Vq400
        have hin417 : ¬ (n < 0 ∨ cl417.slots.size ≤ (n).toNatClampNeg) := inb_of S417 hq7.1
        have hat417 : cl417.slots[(n).toNatClampNeg]? = some (.int ((XT.ushr p5 (8 : Int32)).toInt8.toInt32)) := B417.at hin417 hq7.2
        refine own_go (X400.baloadBytes hx (j := n) (v := (.int ((XT.ushr p5 (8 : Int32)).toInt8.toInt32))) Ar417.1 (State.isArrayOf_alike hZ.alike Ar417.2.1) Ar417.2.2 hin417 hat417 (g := (mkF m 547 #[.val (.long q1), .second, .val (.long q2), .second, .val (.long q3), .second, .val (.long q4), .second, .val (.int p5), .val (.int p6), .val (.ref b215), .val (.int f1), .val (.int f2), .val (.int f3), .val (.int f4), .val (.int f5), .val (.int f6), .val (.int n), .val (.ref b287), .val (.int o6), .val (.int (1 : Int32)), .val (.int (0 : Int32)), .val (.ref b400)] [(.int n), (.ref b400)])) rfl rfl (hb hby at_547)) ?_
        show own_G p e below (T400.setTop (mkF m 548 #[.val (.long q1), .second, .val (.long q2), .second, .val (.long q3), .second, .val (.long q4), .second, .val (.int p5), .val (.int p6), .val (.ref b215), .val (.int f1), .val (.int f2), .val (.int f3), .val (.int f4), .val (.int f5), .val (.int f6), .val (.int n), .val (.ref b287), .val (.int o6), .val (.int (1 : Int32)), .val (.int (0 : Int32)), .val (.ref b400)] [(.int ((XT.ushr p5 (8 : Int32)).toInt8.toInt32))])) _
        refine own_go (fun _ k => XS.iload X400.here hx rfl (hb hby at_548) rfl k) ?_
        show own_G p e below (T400.setTop (mkF m 550 #[.val (.long q1), .second, .val (.long q2), .second, .val (.long q3), .second, .val (.long q4), .second, .val (.int p5), .val (.int p6), .val (.ref b215), .val (.int f1), .val (.int f2), .val (.int f3), .val (.int f4), .val (.int f5), .val (.int f6), .val (.int n), .val (.ref b287), .val (.int o6), .val (.int (1 : Int32)), .val (.int (0 : Int32)), .val (.ref b400)] [(.int p5), (.int ((XT.ushr p5 (8 : Int32)).toInt8.toInt32))])) _
        refine own_go (fun _ k => XS.bipush X400.here hx rfl (hb hby at_550) k) ?_
        show own_G p e below (T400.setTop (mkF m 552 #[.val (.long q1), .second, .val (.long q2), .second, .val (.long q3), .second, .val (.long q4), .second, .val (.int p5), .val (.int p6), .val (.ref b215), .val (.int f1), .val (.int f2), .val (.int f3), .val (.int f4), .val (.int f5), .val (.int f6), .val (.int n), .val (.ref b287), .val (.int o6), .val (.int (1 : Int32)), .val (.int (0 : Int32)), .val (.ref b400)] [(.int (8 : Int32)), (.int p5), (.int ((XT.ushr p5 (8 : Int32)).toInt8.toInt32))])) _
        refine own_go (fun _ k => XT.iushr X400.here hx rfl (hb hby at_552) rfl k) ?_
        show own_G p e below (T400.setTop (mkF m 553 #[.val (.long q1), .second, .val (.long q2), .second, .val (.long q3), .second, .val (.long q4), .second, .val (.int p5), .val (.int p6), .val (.ref b215), .val (.int f1), .val (.int f2), .val (.int f3), .val (.int f4), .val (.int f5), .val (.int f6), .val (.int n), .val (.ref b287), .val (.int o6), .val (.int (1 : Int32)), .val (.int (0 : Int32)), .val (.ref b400)] [(.int (XT.ushr p5 (8 : Int32))), (.int ((XT.ushr p5 (8 : Int32)).toInt8.toInt32))])) _
        refine own_go (fun _ k => XS.i2b X400.here hx rfl (hb hby at_553) rfl k) ?_
        show own_G p e below (T400.setTop (mkF m 554 #[.val (.long q1), .second, .val (.long q2), .second, .val (.long q3), .second, .val (.long q4), .second, .val (.int p5), .val (.int p6), .val (.ref b215), .val (.int f1), .val (.int f2), .val (.int f3), .val (.int f4), .val (.int f5), .val (.int f6), .val (.int n), .val (.ref b287), .val (.int o6), .val (.int (1 : Int32)), .val (.int (0 : Int32)), .val (.ref b400)] [(.int ((XT.ushr p5 (8 : Int32)).toInt8.toInt32)), (.int ((XT.ushr p5 (8 : Int32)).toInt8.toInt32))])) _
        refine own_go (fun _ k => XS.icmpNo X400.here hx rfl (hb hby at_554) rfl (teq (rfl : ((XT.ushr p5 (8 : Int32)).toInt8.toInt32) = ((XT.ushr p5 (8 : Int32)).toInt8.toInt32))).2 k) ?_
        show own_G p e below (T400.setTop (mkF m 557 #[.val (.long q1), .second, .val (.long q2), .second, .val (.long q3), .second, .val (.long q4), .second, .val (.int p5), .val (.int p6), .val (.ref b215), .val (.int f1), .val (.int f2), .val (.int f3), .val (.int f4), .val (.int f5), .val (.int f6), .val (.int n), .val (.ref b287), .val (.int o6), .val (.int (1 : Int32)), .val (.int (0 : Int32)), .val (.ref b400)] [])) _
        refine own_go (fun _ k => XS.iconst X400.here hx rfl (hb hby at_557) k) ?_
        show own_G p e below (T400.setTop (mkF m 558 #[.val (.long q1), .second, .val (.long q2), .second, .val (.long q3), .second, .val (.long q4), .second, .val (.int p5), .val (.int p6), .val (.ref b215), .val (.int f1), .val (.int f2), .val (.int f3), .val (.int f4), .val (.int f5), .val (.int f6), .val (.int n), .val (.ref b287), .val (.int o6), .val (.int (1 : Int32)), .val (.int (0 : Int32)), .val (.ref b400)] [(.int (1 : Int32))])) _
        refine own_go (fun _ k => XS.goto X400.here hx rfl (pc0 := 558) (pc' := 562) rfl (hb hby at_558) (by decide) (by decide) k) ?_
        show own_G p e below (T400.setTop (mkF m 562 #[.val (.long q1), .second, .val (.long q2), .second, .val (.long q3), .second, .val (.long q4), .second, .val (.int p5), .val (.int p6), .val (.ref b215), .val (.int f1), .val (.int f2), .val (.int f3), .val (.int f4), .val (.int f5), .val (.int f6), .val (.int n), .val (.ref b287), .val (.int o6), .val (.int (1 : Int32)), .val (.int (0 : Int32)), .val (.ref b400)] [(.int (1 : Int32))])) _
        refine own_ret X400 hlk (v := some (.int (1 : Int32))) (fun h => by rw [hret] at h; cases h) (Q0 Z q1 q2 q3 q4 p5 p6 h0 n0) (own_retI X400 hx (t := .boolean) hret rfl (Or.inl ⟨rfl, by simp, _, rfl⟩) (hb hby at_562)) (by decide) (by decide) ?_
        show Q0 Z q1 q2 q3 q4 p5 p6 h0 n0 _ T400.heap _
        exact ⟨rfl, N400⟩
      · show own_G p e below (TC6.setTop (mkF m 504 #[.val (.long q1), .second, .val (.long q2), .second, .val (.long q3), .second, .val (.long q4), .second, .val (.int p5), .val (.int p6), .val (.ref b215), .val (.int f1), .val (.int f2), .val (.int f3), .val (.int f4), .val (.int f5), .val (.int f6), .val (.int n), .val (.ref b287), .val (.int o6), .val (.int (1 : Int32)), .val (.int (0 : Int32)), .unset] [(.int (XT.ushr p5 (8 : Int32))), (.ref b215)])) _
        obtain ⟨cq418, kq418, q418a, q418b, q418c⟩ := isOf hZ eC6 f291
        obtain ⟨_, _, ⟨T418, L418, k418, n418⟩, -, X418, ⟨Lc418, hQ418, l418, y418, z418⟩, st418⟩ := XC6.virtualBack hx (y := (⟨"com/example/orbweave/orbweave/ByteWriter", "writeByte", "(I)Lcom/example/orbweave/orbweave/ByteWriter;"⟩ : MethodName)) (z := (⟨"com/example/orbweave/orbweave/ByteWriter", "writeByte", "(I)Lcom/example/orbweave/orbweave/ByteWriter;"⟩ : MethodName)) hown (mvT hZ (hw _ (List.mem_of_getElem? (i := 31) rfl))) (mvT hZ (hw _ (List.mem_of_getElem? (i := 32) rfl))) (notFace_of_selects (args := #[]) (mvT hZ (hw _ (List.mem_of_getElem? (i := 34) rfl)))) (mvT hZ (hw _ (List.mem_of_getElem? (i := 34) rfl))) (mvT hZ (hw _ (List.mem_of_getElem? (i := 33) rfl))) (by decide) (backOf (W := 0) (rm6_0 l Z a0 hw [] b215 (XT.ushr p5 (8 : Int32)) bJ6 kJ6 (32 : Int32) u6 T287.heap n0 zs296 f291 f292 f293 ge216 f295 f294 gbJ6 (by rw [show ((32 : Int32)).toNatClampNeg = 32 from by decide]; omega) (by decide)) hZ (hw _ (List.mem_of_getElem? (i := 35) rfl)) (hw _ (List.mem_of_getElem? (i := 2) rfl)) (by decide) (by decide)) q418a q418c (g := (mkF m 504 #[.val (.long q1), .second, .val (.long q2), .second, .val (.long q3), .second, .val (.long q4), .second, .val (.int p5), .val (.int p6), .val (.ref b215), .val (.int f1), .val (.int f2), .val (.int f3), .val (.int f4), .val (.int f5), .val (.int f6), .val (.int n), .val (.ref b287), .val (.int o6), .val (.int (1 : Int32)), .val (.int (0 : Int32)), .unset] [(.int (XT.ushr p5 (8 : Int32))), (.ref b215)])) rfl (by rw [hml]; rfl) (Steps.refl _) (argsL := [(.int (XT.ushr p5 (8 : Int32)))]) (rest := []) (lenOf pd_3 rfl) rfl (by show 2 * 0 + _ ≤ _; exact Nat.le_of_eq rfl) (hb hby at_504) (fun _ _ => ⟨rfl, eC6, (by decide : 5 + 0 ≤ _), (by decide : 199 + 0 ≤ _)⟩)
        dsimp only [Pt.U, Pt.locs, Pt.cells, Pt.slots] at X418 l418 y418 z418 st418 hQ418
        subst l418 y418 z418
        obtain ⟨rfl, Nq418, K418, Eo418, Fb418, Fl418, Eb418, Vq418⟩ := hQ418
        have N418 := Fr.app NC6 Nq418
        refine own_go (fun _ k => st418.trans k) ?_
        have f419 := f291.keep K418
        have f420 := f294.keep K418
        have f421 := Vq287.keep K418 (ninS (Ne.symm ne288) (ninS (Ne.symm ne289) nin0))
        have f422 := E287q.keep K418
        have zs423 : n0 ≤ T418.heap.size := Nat.le_trans zs296 K418.1
        show own_G p e below (T418.setTop (mkF m 507 #[.val (.long q1), .second, .val (.long q2), .second, .val (.long q3), .second, .val (.long q4), .second, .val (.int p5), .val (.int p6), .val (.ref b215), .val (.int f1), .val (.int f2), .val (.int f3), .val (.int f4), .val (.int f5), .val (.int f6), .val (.int n), .val (.ref b287), .val (.int o6), .val (.int (1 : Int32)), .val (.int (0 : Int32)), .unset] [(.ref b215)])) _
        refine own_go (fun _ k => XS.pop X418.here hx rfl (hb hby at_507) rfl rfl k) ?_
        show own_G p e below (T418.setTop (mkF m 508 #[.val (.long q1), .second, .val (.long q2), .second, .val (.long q3), .second, .val (.long q4), .second, .val (.int p5), .val (.int p6), .val (.ref b215), .val (.int f1), .val (.int f2), .val (.int f3), .val (.int f4), .val (.int f5), .val (.int f6), .val (.int n), .val (.ref b287), .val (.int o6), .val (.int (1 : Int32)), .val (.int (0 : Int32)), .unset] [])) _
        refine own_go (fun _ k => XS.aload X418.here hx rfl (hb hby at_508) rfl rfl k) ?_
        show own_G p e below (T418.setTop (mkF m 510 #[.val (.long q1), .second, .val (.long q2), .second, .val (.long q3), .second, .val (.long q4), .second, .val (.int p5), .val (.int p6), .val (.ref b215), .val (.int f1), .val (.int f2), .val (.int f3), .val (.int f4), .val (.int f5), .val (.int f6), .val (.int n), .val (.ref b287), .val (.int o6), .val (.int (1 : Int32)), .val (.int (0 : Int32)), .unset] [(.ref b215)])) _
        obtain ⟨cq424, kq424, q424a, q424b, q424c⟩ := isOf hZ rfl Eo418
        obtain ⟨_, _, ⟨T424, L424, k424, n424⟩, -, X424, ⟨Lc424, hQ424, l424, y424, z424⟩, st424⟩ := X418.virtualBack hx (y := (⟨"com/example/orbweave/orbweave/ByteWriter", "toByteArray", "()[B"⟩ : MethodName)) (z := (⟨"com/example/orbweave/orbweave/ByteWriter", "toByteArray", "()[B"⟩ : MethodName)) hown (mvT hZ (hw _ (List.mem_of_getElem? (i := 12) rfl))) (mvT hZ (hw _ (List.mem_of_getElem? (i := 13) rfl))) (notFace_of_selects (args := #[]) (mvT hZ (hw _ (List.mem_of_getElem? (i := 15) rfl)))) (mvT hZ (hw _ (List.mem_of_getElem? (i := 15) rfl))) (mvT hZ (hw _ (List.mem_of_getElem? (i := 14) rfl))) (by decide) (backOf (W := 0) (rm3 l Z a0 hw [] b215 bJ6 kJ6 (32 : Int32) (Int32.ofNat (u6 ++ [Value.int ((XT.ushr p5 (8 : Int32)).toInt8.toInt32)]).length) (u6 ++ [Value.int ((XT.ushr p5 (8 : Int32)).toInt8.toInt32)]) 38 T418.heap n0 zs423 Fb418 Fl418 Vq418 Eb418 (own_ofnn (by simp only [List.length_append, List.length_cons, List.length_nil, own_len_sb, own_len_ib, own_len_lb]; omega)) (by rw [own_tn (by simp only [List.length_append, List.length_cons, List.length_nil, own_len_sb, own_len_ib, own_len_lb]; omega)]; simp only [List.length_append, List.length_cons, List.length_nil, own_len_sb, own_len_ib, own_len_lb]; omega) (by decide) (by rw [show ((32 : Int32)).toNatClampNeg = 32 from by decide]; simp only [List.length_append, List.length_cons, List.length_nil, own_len_sb, own_len_ib, own_len_lb]; omega)) hZ (hw _ (List.mem_of_getElem? (i := 16) rfl)) (hw _ (List.mem_of_getElem? (i := 2) rfl)) (by decide) (by decide)) q424a q424c (g := (mkF m 510 #[.val (.long q1), .second, .val (.long q2), .second, .val (.long q3), .second, .val (.long q4), .second, .val (.int p5), .val (.int p6), .val (.ref b215), .val (.int f1), .val (.int f2), .val (.int f3), .val (.int f4), .val (.int f5), .val (.int f6), .val (.int n), .val (.ref b287), .val (.int o6), .val (.int (1 : Int32)), .val (.int (0 : Int32)), .unset] [(.ref b215)])) rfl (by rw [hml]; rfl) (Steps.refl _) (argsL := []) (rest := []) (lenOf pd_7 rfl) rfl (by show 2 * 0 + _ ≤ _; exact Nat.le_of_eq rfl) (hb hby at_510) (fun _ _ => ⟨rfl, rfl, (by decide : 5 + 0 + 1 ≤ _), (by decide : 199 + 0 + 38 ≤ _)⟩)
        dsimp only [Pt.U, Pt.locs, Pt.cells, Pt.slots] at X424 l424 y424 z424 st424 hQ424
        subst l424 y424 z424
        obtain ⟨b424, k424q, rfl, Nq424, K424, hsz424, E424q, Vq424⟩ := hQ424
        have N424 := Fr.app N418 Nq424
        refine own_go (fun _ k => st424.trans k) ?_
        have ne425 : b215 ≠ b424 := Nat.ne_of_lt (Nat.lt_of_lt_of_le Eo418.lt hsz424)
        have ne426 : bJ6 ≠ b424 := Nat.ne_of_lt (Nat.lt_of_lt_of_le Eb418.lt hsz424)
        have ne427 : b287 ≠ b424 := Nat.ne_of_lt (Nat.lt_of_lt_of_le f421.lt hsz424)
        have ge428 : n0 ≤ b424 := Nat.le_trans zs423 hsz424
        have f429 := Eo418.keep K424
        have f430 := Eb418.keep K424
        have f431 := f421.keep K424 nin0
        have f432 := f422.keep K424
        have f433 := Fb418.keep K424 nin0
        have f434 := Fl418.keep K424 nin0
        have f435 := Vq418.keep K424 nin0
        have zs436 : n0 ≤ T424.heap.size := Nat.le_trans zs423 K424.1
        rw [own_takeall _ (by simp only [List.length_append, List.length_cons, List.length_nil, own_len_sb, own_len_ib, own_len_lb]; omega)] at Vq424
        show own_G p e below (T424.setTop (mkF m 513 #[.val (.long q1), .second, .val (.long q2), .second, .val (.long q3), .second, .val (.long q4), .second, .val (.int p5), .val (.int p6), .val (.ref b215), .val (.int f1), .val (.int f2), .val (.int f3), .val (.int f4), .val (.int f5), .val (.int f6), .val (.int n), .val (.ref b287), .val (.int o6), .val (.int (1 : Int32)), .val (.int (0 : Int32)), .unset] [(.ref b424)])) _
        refine own_go (fun _ k => XS.astore X424.here hx rfl (hb hby at_513) rfl rfl (l' := #[.val (.long q1), .second, .val (.long q2), .second, .val (.long q3), .second, .val (.long q4), .second, .val (.int p5), .val (.int p6), .val (.ref b215), .val (.int f1), .val (.int f2), .val (.int f3), .val (.int f4), .val (.int f5), .val (.int f6), .val (.int n), .val (.ref b287), .val (.int o6), .val (.int (1 : Int32)), .val (.int (0 : Int32)), .val (.ref b424)]) rfl k) ?_
        show own_G p e below (T424.setTop (mkF m 515 #[.val (.long q1), .second, .val (.long q2), .second, .val (.long q3), .second, .val (.long q4), .second, .val (.int p5), .val (.int p6), .val (.ref b215), .val (.int f1), .val (.int f2), .val (.int f3), .val (.int f4), .val (.int f5), .val (.int f6), .val (.int n), .val (.ref b287), .val (.int o6), .val (.int (1 : Int32)), .val (.int (0 : Int32)), .val (.ref b424)] [])) _
        refine own_go (fun _ k => XS.aload X424.here hx rfl (hb hby at_515) rfl rfl k) ?_
        show own_G p e below (T424.setTop (mkF m 517 #[.val (.long q1), .second, .val (.long q2), .second, .val (.long q3), .second, .val (.long q4), .second, .val (.int p5), .val (.int p6), .val (.ref b215), .val (.int f1), .val (.int f2), .val (.int f3), .val (.int f4), .val (.int f5), .val (.int f6), .val (.int n), .val (.ref b287), .val (.int o6), .val (.int (1 : Int32)), .val (.int (0 : Int32)), .val (.ref b424)] [(.ref b424)])) _
        obtain ⟨cl437, Ar437, q437, S437, M437, B437, G437⟩ := id Vq424
        refine own_go (X424.arraylength hx Ar437.1 (State.isArrayOf_alike hZ.alike Ar437.2.1) (g := (mkF m 517 #[.val (.long q1), .second, .val (.long q2), .second, .val (.long q3), .second, .val (.long q4), .second, .val (.int p5), .val (.int p6), .val (.ref b215), .val (.int f1), .val (.int f2), .val (.int f3), .val (.int f4), .val (.int f5), .val (.int f6), .val (.int n), .val (.ref b287), .val (.int o6), .val (.int (1 : Int32)), .val (.int (0 : Int32)), .val (.ref b424)] [(.ref b424)])) rfl rfl (hb hby at_517)) ?_
        rw [len_of S437 M437]
        show own_G p e below (T424.setTop (mkF m 518 #[.val (.long q1), .second, .val (.long q2), .second, .val (.long q3), .second, .val (.long q4), .second, .val (.int p5), .val (.int p6), .val (.ref b215), .val (.int f1), .val (.int f2), .val (.int f3), .val (.int f4), .val (.int f5), .val (.int f6), .val (.int n), .val (.ref b287), .val (.int o6), .val (.int (1 : Int32)), .val (.int (0 : Int32)), .val (.ref b424)] [(.int (Int32.ofNat (u6 ++ [Value.int ((XT.ushr p5 (8 : Int32)).toInt8.toInt32)]).length))])) _
        refine own_go (fun _ k => XS.iload X424.here hx rfl (hb hby at_518) rfl k) ?_
        show own_G p e below (T424.setTop (mkF m 520 #[.val (.long q1), .second, .val (.long q2), .second, .val (.long q3), .second, .val (.long q4), .second, .val (.int p5), .val (.int p6), .val (.ref b215), .val (.int f1), .val (.int f2), .val (.int f3), .val (.int f4), .val (.int f5), .val (.int f6), .val (.int n), .val (.ref b287), .val (.int o6), .val (.int (1 : Int32)), .val (.int (0 : Int32)), .val (.ref b424)] [(.int n), (.int (Int32.ofNat (u6 ++ [Value.int ((XT.ushr p5 (8 : Int32)).toInt8.toInt32)]).length))])) _
        refine own_go (fun _ k => XS.iconst X424.here hx rfl (hb hby at_520) k) ?_
        show own_G p e below (T424.setTop (mkF m 521 #[.val (.long q1), .second, .val (.long q2), .second, .val (.long q3), .second, .val (.long q4), .second, .val (.int p5), .val (.int p6), .val (.ref b215), .val (.int f1), .val (.int f2), .val (.int f3), .val (.int f4), .val (.int f5), .val (.int f6), .val (.int n), .val (.ref b287), .val (.int o6), .val (.int (1 : Int32)), .val (.int (0 : Int32)), .val (.ref b424)] [(.int (1 : Int32)), (.int n), (.int (Int32.ofNat (u6 ++ [Value.int ((XT.ushr p5 (8 : Int32)).toInt8.toInt32)]).length))])) _
        refine own_go (fun _ k => XS.iadd X424.here hx rfl (hb hby at_521) rfl k) ?_
        show own_G p e below (T424.setTop (mkF m 522 #[.val (.long q1), .second, .val (.long q2), .second, .val (.long q3), .second, .val (.long q4), .second, .val (.int p5), .val (.int p6), .val (.ref b215), .val (.int f1), .val (.int f2), .val (.int f3), .val (.int f4), .val (.int f5), .val (.int f6), .val (.int n), .val (.ref b287), .val (.int o6), .val (.int (1 : Int32)), .val (.int (0 : Int32)), .val (.ref b424)] [(.int (n + (1 : Int32))), (.int (Int32.ofNat (u6 ++ [Value.int ((XT.ushr p5 (8 : Int32)).toInt8.toInt32)]).length))])) _
        refine own_go (fun _ k => XS.icmpYes X424.here hx rfl (pc0 := 522) (pc' := 527) rfl (hb hby at_522) rfl (teq (by rw [own_len1, hN])).1 (by decide) (by decide) k) ?_
        show own_G p e below (T424.setTop (mkF m 527 #[.val (.long q1), .second, .val (.long q2), .second, .val (.long q3), .second, .val (.long q4), .second, .val (.int p5), .val (.int p6), .val (.ref b215), .val (.int f1), .val (.int f2), .val (.int f3), .val (.int f4), .val (.int f5), .val (.int f6), .val (.int n), .val (.ref b287), .val (.int o6), .val (.int (1 : Int32)), .val (.int (0 : Int32)), .val (.ref b424)] [])) _
        refine own_go (fun _ k => XS.iload X424.here hx rfl (hb hby at_527) rfl k) ?_
        show own_G p e below (T424.setTop (mkF m 529 #[.val (.long q1), .second, .val (.long q2), .second, .val (.long q3), .second, .val (.long q4), .second, .val (.int p5), .val (.int p6), .val (.ref b215), .val (.int f1), .val (.int f2), .val (.int f3), .val (.int f4), .val (.int f5), .val (.int f6), .val (.int n), .val (.ref b287), .val (.int o6), .val (.int (1 : Int32)), .val (.int (0 : Int32)), .val (.ref b424)] [(.int n)])) _
        refine own_go (fun _ k => XS.ifYes X424.here hx rfl (pc0 := 529) (pc' := 543) rfl (hb hby at_529) rfl ((if0 _ _).trans (flt hc468_310).2.2.2) (by decide) (by decide) k) ?_
        show own_G p e below (T424.setTop (mkF m 543 #[.val (.long q1), .second, .val (.long q2), .second, .val (.long q3), .second, .val (.long q4), .second, .val (.int p5), .val (.int p6), .val (.ref b215), .val (.int f1), .val (.int f2), .val (.int f3), .val (.int f4), .val (.int f5), .val (.int f6), .val (.int n), .val (.ref b287), .val (.int o6), .val (.int (1 : Int32)), .val (.int (0 : Int32)), .val (.ref b424)] [])) _
        refine own_go (fun _ k => XS.aload X424.here hx rfl (hb hby at_543) rfl rfl k) ?_
        show own_G p e below (T424.setTop (mkF m 545 #[.val (.long q1), .second, .val (.long q2), .second, .val (.long q3), .second, .val (.long q4), .second, .val (.int p5), .val (.int p6), .val (.ref b215), .val (.int f1), .val (.int f2), .val (.int f3), .val (.int f4), .val (.int f5), .val (.int f6), .val (.int n), .val (.ref b287), .val (.int o6), .val (.int (1 : Int32)), .val (.int (0 : Int32)), .val (.ref b424)] [(.ref b424)])) _
        refine own_go (fun _ k => XS.iload X424.here hx rfl (hb hby at_545) rfl k) ?_
        have hq7 := own_rd0 (A := u6) (l := [Value.int ((XT.ushr p5 (8 : Int32)).toInt8.toInt32)]) (C := ([] : List Value)) (u := (u6 ++ [Value.int ((XT.ushr p5 (8 : Int32)).toInt8.toInt32)])) (d := (.int (0 : Int32))) (by simp) hN (by simp only [List.length_append, List.length_cons, List.length_nil, own_len_sb, own_len_ib, own_len_lb]; omega) rfl (Nat.le_of_ble_eq_true rfl)
        show own_G p e below (T424.setTop (mkF m 547 #[.val (.long q1), .second, .val (.long q2), .second, .val (.long q3), .second, .val (.long q4), .second, .val (.int p5), .val (.int p6), .val (.ref b215), .val (.int f1), .val (.int f2), .val (.int f3), .val (.int f4), .val (.int f5), .val (.int f6), .val (.int n), .val (.ref b287), .val (.int o6), .val (.int (1 : Int32)), .val (.int (0 : Int32)), .val (.ref b424)] [(.int n), (.ref b424)])) _
        obtain ⟨cl438, Ar438, q438, S438, M438, B438, G438⟩ := id Vq424
        have hin438 : ¬ (n < 0 ∨ cl438.slots.size ≤ (n).toNatClampNeg) := inb_of S438 hq7.1
        have hat438 : cl438.slots[(n).toNatClampNeg]? = some (.int ((XT.ushr p5 (8 : Int32)).toInt8.toInt32)) := B438.at hin438 hq7.2
        refine own_go (X424.baloadBytes hx (j := n) (v := (.int ((XT.ushr p5 (8 : Int32)).toInt8.toInt32))) Ar438.1 (State.isArrayOf_alike hZ.alike Ar438.2.1) Ar438.2.2 hin438 hat438 (g := (mkF m 547 #[.val (.long q1), .second, .val (.long q2), .second, .val (.long q3), .second, .val (.long q4), .second, .val (.int p5), .val (.int p6), .val (.ref b215), .val (.int f1), .val (.int f2), .val (.int f3), .val (.int f4), .val (.int f5), .val (.int f6), .val (.int n), .val (.ref b287), .val (.int o6), .val (.int (1 : Int32)), .val (.int (0 : Int32)), .val (.ref b424)] [(.int n), (.ref b424)])) rfl rfl (hb hby at_547)) ?_
        show own_G p e below (T424.setTop (mkF m 548 #[.val (.long q1), .second, .val (.long q2), .second, .val (.long q3), .second, .val (.long q4), .second, .val (.int p5), .val (.int p6), .val (.ref b215), .val (.int f1), .val (.int f2), .val (.int f3), .val (.int f4), .val (.int f5), .val (.int f6), .val (.int n), .val (.ref b287), .val (.int o6), .val (.int (1 : Int32)), .val (.int (0 : Int32)), .val (.ref b424)] [(.int ((XT.ushr p5 (8 : Int32)).toInt8.toInt32))])) _
        refine own_go (fun _ k => XS.iload X424.here hx rfl (hb hby at_548) rfl k) ?_
        show own_G p e below (T424.setTop (mkF m 550 #[.val (.long q1), .second, .val (.long q2), .second, .val (.long q3), .second, .val (.long q4), .second, .val (.int p5), .val (.int p6), .val (.ref b215), .val (.int f1), .val (.int f2), .val (.int f3), .val (.int f4), .val (.int f5), .val (.int f6), .val (.int n), .val (.ref b287), .val (.int o6), .val (.int (1 : Int32)), .val (.int (0 : Int32)), .val (.ref b424)] [(.int p5), (.int ((XT.ushr p5 (8 : Int32)).toInt8.toInt32))])) _
        refine own_go (fun _ k => XS.bipush X424.here hx rfl (hb hby at_550) k) ?_
        show own_G p e below (T424.setTop (mkF m 552 #[.val (.long q1), .second, .val (.long q2), .second, .val (.long q3), .second, .val (.long q4), .second, .val (.int p5), .val (.int p6), .val (.ref b215), .val (.int f1), .val (.int f2), .val (.int f3), .val (.int f4), .val (.int f5), .val (.int f6), .val (.int n), .val (.ref b287), .val (.int o6), .val (.int (1 : Int32)), .val (.int (0 : Int32)), .val (.ref b424)] [(.int (8 : Int32)), (.int p5), (.int ((XT.ushr p5 (8 : Int32)).toInt8.toInt32))])) _
        refine own_go (fun _ k => XT.iushr X424.here hx rfl (hb hby at_552) rfl k) ?_
        show own_G p e below (T424.setTop (mkF m 553 #[.val (.long q1), .second, .val (.long q2), .second, .val (.long q3), .second, .val (.long q4), .second, .val (.int p5), .val (.int p6), .val (.ref b215), .val (.int f1), .val (.int f2), .val (.int f3), .val (.int f4), .val (.int f5), .val (.int f6), .val (.int n), .val (.ref b287), .val (.int o6), .val (.int (1 : Int32)), .val (.int (0 : Int32)), .val (.ref b424)] [(.int (XT.ushr p5 (8 : Int32))), (.int ((XT.ushr p5 (8 : Int32)).toInt8.toInt32))])) _
        refine own_go (fun _ k => XS.i2b X424.here hx rfl (hb hby at_553) rfl k) ?_
        show own_G p e below (T424.setTop (mkF m 554 #[.val (.long q1), .second, .val (.long q2), .second, .val (.long q3), .second, .val (.long q4), .second, .val (.int p5), .val (.int p6), .val (.ref b215), .val (.int f1), .val (.int f2), .val (.int f3), .val (.int f4), .val (.int f5), .val (.int f6), .val (.int n), .val (.ref b287), .val (.int o6), .val (.int (1 : Int32)), .val (.int (0 : Int32)), .val (.ref b424)] [(.int ((XT.ushr p5 (8 : Int32)).toInt8.toInt32)), (.int ((XT.ushr p5 (8 : Int32)).toInt8.toInt32))])) _
        refine own_go (fun _ k => XS.icmpNo X424.here hx rfl (hb hby at_554) rfl (teq (rfl : ((XT.ushr p5 (8 : Int32)).toInt8.toInt32) = ((XT.ushr p5 (8 : Int32)).toInt8.toInt32))).2 k) ?_
        show own_G p e below (T424.setTop (mkF m 557 #[.val (.long q1), .second, .val (.long q2), .second, .val (.long q3), .second, .val (.long q4), .second, .val (.int p5), .val (.int p6), .val (.ref b215), .val (.int f1), .val (.int f2), .val (.int f3), .val (.int f4), .val (.int f5), .val (.int f6), .val (.int n), .val (.ref b287), .val (.int o6), .val (.int (1 : Int32)), .val (.int (0 : Int32)), .val (.ref b424)] [])) _
        refine own_go (fun _ k => XS.iconst X424.here hx rfl (hb hby at_557) k) ?_
        show own_G p e below (T424.setTop (mkF m 558 #[.val (.long q1), .second, .val (.long q2), .second, .val (.long q3), .second, .val (.long q4), .second, .val (.int p5), .val (.int p6), .val (.ref b215), .val (.int f1), .val (.int f2), .val (.int f3), .val (.int f4), .val (.int f5), .val (.int f6), .val (.int n), .val (.ref b287), .val (.int o6), .val (.int (1 : Int32)), .val (.int (0 : Int32)), .val (.ref b424)] [(.int (1 : Int32))])) _
        refine own_go (fun _ k => XS.goto X424.here hx rfl (pc0 := 558) (pc' := 562) rfl (hb hby at_558) (by decide) (by decide) k) ?_
        show own_G p e below (T424.setTop (mkF m 562 #[.val (.long q1), .second, .val (.long q2), .second, .val (.long q3), .second, .val (.long q4), .second, .val (.int p5), .val (.int p6), .val (.ref b215), .val (.int f1), .val (.int f2), .val (.int f3), .val (.int f4), .val (.int f5), .val (.int f6), .val (.int n), .val (.ref b287), .val (.int o6), .val (.int (1 : Int32)), .val (.int (0 : Int32)), .val (.ref b424)] [(.int (1 : Int32))])) _
        refine own_ret X424 hlk (v := some (.int (1 : Int32))) (fun h => by rw [hret] at h; cases h) (Q0 Z q1 q2 q3 q4 p5 p6 h0 n0) (own_retI X424 hx (t := .boolean) hret rfl (Or.inl ⟨rfl, by simp, _, rfl⟩) (hb hby at_562)) (by decide) (by decide) ?_
        show Q0 Z q1 q2 q3 q4 p5 p6 h0 n0 _ T424.heap _
        exact ⟨rfl, N424⟩
    · show own_G p e below (TC6.setTop (mkF m 504 #[.val (.long q1), .second, .val (.long q2), .second, .val (.long q3), .second, .val (.long q4), .second, .val (.int p5), .val (.int p6), .val (.ref b215), .val (.int f1), .val (.int f2), .val (.int f3), .val (.int f4), .val (.int f5), .val (.int f6), .val (.int n), .val (.ref b287), .val (.int o6), .val (.int (1 : Int32)), .val (.int (0 : Int32)), .unset] [(.int (XT.ushr p5 (8 : Int32))), (.ref b215)])) _
      obtain ⟨cq439, kq439, q439a, q439b, q439c⟩ := isOf hZ eC6 f291
      obtain ⟨_, _, ⟨T439, L439, k439, n439⟩, -, X439, ⟨Lc439, hQ439, l439, y439, z439⟩, st439⟩ := XC6.virtualBack hx (y := (⟨"com/example/orbweave/orbweave/ByteWriter", "writeByte", "(I)Lcom/example/orbweave/orbweave/ByteWriter;"⟩ : MethodName)) (z := (⟨"com/example/orbweave/orbweave/ByteWriter", "writeByte", "(I)Lcom/example/orbweave/orbweave/ByteWriter;"⟩ : MethodName)) hown (mvT hZ (hw _ (List.mem_of_getElem? (i := 31) rfl))) (mvT hZ (hw _ (List.mem_of_getElem? (i := 32) rfl))) (notFace_of_selects (args := #[]) (mvT hZ (hw _ (List.mem_of_getElem? (i := 34) rfl)))) (mvT hZ (hw _ (List.mem_of_getElem? (i := 34) rfl))) (mvT hZ (hw _ (List.mem_of_getElem? (i := 33) rfl))) (by decide) (backOf (W := 0) (rm6_0 l Z a0 hw [] b215 (XT.ushr p5 (8 : Int32)) bJ6 kJ6 (64 : Int32) u6 T287.heap n0 zs296 f291 f292 f293 ge216 f295 f294 gbJ6 (by rw [show ((64 : Int32)).toNatClampNeg = 64 from by decide]; omega) (by decide)) hZ (hw _ (List.mem_of_getElem? (i := 35) rfl)) (hw _ (List.mem_of_getElem? (i := 2) rfl)) (by decide) (by decide)) q439a q439c (g := (mkF m 504 #[.val (.long q1), .second, .val (.long q2), .second, .val (.long q3), .second, .val (.long q4), .second, .val (.int p5), .val (.int p6), .val (.ref b215), .val (.int f1), .val (.int f2), .val (.int f3), .val (.int f4), .val (.int f5), .val (.int f6), .val (.int n), .val (.ref b287), .val (.int o6), .val (.int (1 : Int32)), .val (.int (0 : Int32)), .unset] [(.int (XT.ushr p5 (8 : Int32))), (.ref b215)])) rfl (by rw [hml]; rfl) (Steps.refl _) (argsL := [(.int (XT.ushr p5 (8 : Int32)))]) (rest := []) (lenOf pd_3 rfl) rfl (by show 2 * 0 + _ ≤ _; exact Nat.le_of_eq rfl) (hb hby at_504) (fun _ _ => ⟨rfl, eC6, (by decide : 5 + 0 ≤ _), (by decide : 199 + 0 ≤ _)⟩)
      dsimp only [Pt.U, Pt.locs, Pt.cells, Pt.slots] at X439 l439 y439 z439 st439 hQ439
      subst l439 y439 z439
      obtain ⟨rfl, Nq439, K439, Eo439, Fb439, Fl439, Eb439, Vq439⟩ := hQ439
      have N439 := Fr.app NC6 Nq439
      refine own_go (fun _ k => st439.trans k) ?_
      have f440 := f291.keep K439
      have f441 := f294.keep K439
      have f442 := Vq287.keep K439 (ninS (Ne.symm ne288) (ninS (Ne.symm ne289) nin0))
      have f443 := E287q.keep K439
      have zs444 : n0 ≤ T439.heap.size := Nat.le_trans zs296 K439.1
      show own_G p e below (T439.setTop (mkF m 507 #[.val (.long q1), .second, .val (.long q2), .second, .val (.long q3), .second, .val (.long q4), .second, .val (.int p5), .val (.int p6), .val (.ref b215), .val (.int f1), .val (.int f2), .val (.int f3), .val (.int f4), .val (.int f5), .val (.int f6), .val (.int n), .val (.ref b287), .val (.int o6), .val (.int (1 : Int32)), .val (.int (0 : Int32)), .unset] [(.ref b215)])) _
      refine own_go (fun _ k => XS.pop X439.here hx rfl (hb hby at_507) rfl rfl k) ?_
      show own_G p e below (T439.setTop (mkF m 508 #[.val (.long q1), .second, .val (.long q2), .second, .val (.long q3), .second, .val (.long q4), .second, .val (.int p5), .val (.int p6), .val (.ref b215), .val (.int f1), .val (.int f2), .val (.int f3), .val (.int f4), .val (.int f5), .val (.int f6), .val (.int n), .val (.ref b287), .val (.int o6), .val (.int (1 : Int32)), .val (.int (0 : Int32)), .unset] [])) _
      refine own_go (fun _ k => XS.aload X439.here hx rfl (hb hby at_508) rfl rfl k) ?_
      show own_G p e below (T439.setTop (mkF m 510 #[.val (.long q1), .second, .val (.long q2), .second, .val (.long q3), .second, .val (.long q4), .second, .val (.int p5), .val (.int p6), .val (.ref b215), .val (.int f1), .val (.int f2), .val (.int f3), .val (.int f4), .val (.int f5), .val (.int f6), .val (.int n), .val (.ref b287), .val (.int o6), .val (.int (1 : Int32)), .val (.int (0 : Int32)), .unset] [(.ref b215)])) _
      obtain ⟨cq445, kq445, q445a, q445b, q445c⟩ := isOf hZ rfl Eo439
      obtain ⟨_, _, ⟨T445, L445, k445, n445⟩, -, X445, ⟨Lc445, hQ445, l445, y445, z445⟩, st445⟩ := X439.virtualBack hx (y := (⟨"com/example/orbweave/orbweave/ByteWriter", "toByteArray", "()[B"⟩ : MethodName)) (z := (⟨"com/example/orbweave/orbweave/ByteWriter", "toByteArray", "()[B"⟩ : MethodName)) hown (mvT hZ (hw _ (List.mem_of_getElem? (i := 12) rfl))) (mvT hZ (hw _ (List.mem_of_getElem? (i := 13) rfl))) (notFace_of_selects (args := #[]) (mvT hZ (hw _ (List.mem_of_getElem? (i := 15) rfl)))) (mvT hZ (hw _ (List.mem_of_getElem? (i := 15) rfl))) (mvT hZ (hw _ (List.mem_of_getElem? (i := 14) rfl))) (by decide) (backOf (W := 0) (rm3 l Z a0 hw [] b215 bJ6 kJ6 (64 : Int32) (Int32.ofNat (u6 ++ [Value.int ((XT.ushr p5 (8 : Int32)).toInt8.toInt32)]).length) (u6 ++ [Value.int ((XT.ushr p5 (8 : Int32)).toInt8.toInt32)]) 38 T439.heap n0 zs444 Fb439 Fl439 Vq439 Eb439 (own_ofnn (by simp only [List.length_append, List.length_cons, List.length_nil, own_len_sb, own_len_ib, own_len_lb]; omega)) (by rw [own_tn (by simp only [List.length_append, List.length_cons, List.length_nil, own_len_sb, own_len_ib, own_len_lb]; omega)]; simp only [List.length_append, List.length_cons, List.length_nil, own_len_sb, own_len_ib, own_len_lb]; omega) (by decide) (by rw [show ((64 : Int32)).toNatClampNeg = 64 from by decide]; simp only [List.length_append, List.length_cons, List.length_nil, own_len_sb, own_len_ib, own_len_lb]; omega)) hZ (hw _ (List.mem_of_getElem? (i := 16) rfl)) (hw _ (List.mem_of_getElem? (i := 2) rfl)) (by decide) (by decide)) q445a q445c (g := (mkF m 510 #[.val (.long q1), .second, .val (.long q2), .second, .val (.long q3), .second, .val (.long q4), .second, .val (.int p5), .val (.int p6), .val (.ref b215), .val (.int f1), .val (.int f2), .val (.int f3), .val (.int f4), .val (.int f5), .val (.int f6), .val (.int n), .val (.ref b287), .val (.int o6), .val (.int (1 : Int32)), .val (.int (0 : Int32)), .unset] [(.ref b215)])) rfl (by rw [hml]; rfl) (Steps.refl _) (argsL := []) (rest := []) (lenOf pd_7 rfl) rfl (by show 2 * 0 + _ ≤ _; exact Nat.le_of_eq rfl) (hb hby at_510) (fun _ _ => ⟨rfl, rfl, (by decide : 5 + 0 + 1 ≤ _), (by decide : 199 + 0 + 38 ≤ _)⟩)
      dsimp only [Pt.U, Pt.locs, Pt.cells, Pt.slots] at X445 l445 y445 z445 st445 hQ445
      subst l445 y445 z445
      obtain ⟨b445, k445q, rfl, Nq445, K445, hsz445, E445q, Vq445⟩ := hQ445
      have N445 := Fr.app N439 Nq445
      refine own_go (fun _ k => st445.trans k) ?_
      have ne446 : b215 ≠ b445 := Nat.ne_of_lt (Nat.lt_of_lt_of_le Eo439.lt hsz445)
      have ne447 : bJ6 ≠ b445 := Nat.ne_of_lt (Nat.lt_of_lt_of_le Eb439.lt hsz445)
      have ne448 : b287 ≠ b445 := Nat.ne_of_lt (Nat.lt_of_lt_of_le f442.lt hsz445)
      have ge449 : n0 ≤ b445 := Nat.le_trans zs444 hsz445
      have f450 := Eo439.keep K445
      have f451 := Eb439.keep K445
      have f452 := f442.keep K445 nin0
      have f453 := f443.keep K445
      have f454 := Fb439.keep K445 nin0
      have f455 := Fl439.keep K445 nin0
      have f456 := Vq439.keep K445 nin0
      have zs457 : n0 ≤ T445.heap.size := Nat.le_trans zs444 K445.1
      rw [own_takeall _ (by simp only [List.length_append, List.length_cons, List.length_nil, own_len_sb, own_len_ib, own_len_lb]; omega)] at Vq445
      show own_G p e below (T445.setTop (mkF m 513 #[.val (.long q1), .second, .val (.long q2), .second, .val (.long q3), .second, .val (.long q4), .second, .val (.int p5), .val (.int p6), .val (.ref b215), .val (.int f1), .val (.int f2), .val (.int f3), .val (.int f4), .val (.int f5), .val (.int f6), .val (.int n), .val (.ref b287), .val (.int o6), .val (.int (1 : Int32)), .val (.int (0 : Int32)), .unset] [(.ref b445)])) _
      refine own_go (fun _ k => XS.astore X445.here hx rfl (hb hby at_513) rfl rfl (l' := #[.val (.long q1), .second, .val (.long q2), .second, .val (.long q3), .second, .val (.long q4), .second, .val (.int p5), .val (.int p6), .val (.ref b215), .val (.int f1), .val (.int f2), .val (.int f3), .val (.int f4), .val (.int f5), .val (.int f6), .val (.int n), .val (.ref b287), .val (.int o6), .val (.int (1 : Int32)), .val (.int (0 : Int32)), .val (.ref b445)]) rfl k) ?_
      show own_G p e below (T445.setTop (mkF m 515 #[.val (.long q1), .second, .val (.long q2), .second, .val (.long q3), .second, .val (.long q4), .second, .val (.int p5), .val (.int p6), .val (.ref b215), .val (.int f1), .val (.int f2), .val (.int f3), .val (.int f4), .val (.int f5), .val (.int f6), .val (.int n), .val (.ref b287), .val (.int o6), .val (.int (1 : Int32)), .val (.int (0 : Int32)), .val (.ref b445)] [])) _
      refine own_go (fun _ k => XS.aload X445.here hx rfl (hb hby at_515) rfl rfl k) ?_
      show own_G p e below (T445.setTop (mkF m 517 #[.val (.long q1), .second, .val (.long q2), .second, .val (.long q3), .second, .val (.long q4), .second, .val (.int p5), .val (.int p6), .val (.ref b215), .val (.int f1), .val (.int f2), .val (.int f3), .val (.int f4), .val (.int f5), .val (.int f6), .val (.int n), .val (.ref b287), .val (.int o6), .val (.int (1 : Int32)), .val (.int (0 : Int32)), .val (.ref b445)] [(.ref b445)])) _
      obtain ⟨cl458, Ar458, q458, S458, M458, B458, G458⟩ := id Vq445
      refine own_go (X445.arraylength hx Ar458.1 (State.isArrayOf_alike hZ.alike Ar458.2.1) (g := (mkF m 517 #[.val (.long q1), .second, .val (.long q2), .second, .val (.long q3), .second, .val (.long q4), .second, .val (.int p5), .val (.int p6), .val (.ref b215), .val (.int f1), .val (.int f2), .val (.int f3), .val (.int f4), .val (.int f5), .val (.int f6), .val (.int n), .val (.ref b287), .val (.int o6), .val (.int (1 : Int32)), .val (.int (0 : Int32)), .val (.ref b445)] [(.ref b445)])) rfl rfl (hb hby at_517)) ?_
      rw [len_of S458 M458]
      show own_G p e below (T445.setTop (mkF m 518 #[.val (.long q1), .second, .val (.long q2), .second, .val (.long q3), .second, .val (.long q4), .second, .val (.int p5), .val (.int p6), .val (.ref b215), .val (.int f1), .val (.int f2), .val (.int f3), .val (.int f4), .val (.int f5), .val (.int f6), .val (.int n), .val (.ref b287), .val (.int o6), .val (.int (1 : Int32)), .val (.int (0 : Int32)), .val (.ref b445)] [(.int (Int32.ofNat (u6 ++ [Value.int ((XT.ushr p5 (8 : Int32)).toInt8.toInt32)]).length))])) _
      refine own_go (fun _ k => XS.iload X445.here hx rfl (hb hby at_518) rfl k) ?_
      show own_G p e below (T445.setTop (mkF m 520 #[.val (.long q1), .second, .val (.long q2), .second, .val (.long q3), .second, .val (.long q4), .second, .val (.int p5), .val (.int p6), .val (.ref b215), .val (.int f1), .val (.int f2), .val (.int f3), .val (.int f4), .val (.int f5), .val (.int f6), .val (.int n), .val (.ref b287), .val (.int o6), .val (.int (1 : Int32)), .val (.int (0 : Int32)), .val (.ref b445)] [(.int n), (.int (Int32.ofNat (u6 ++ [Value.int ((XT.ushr p5 (8 : Int32)).toInt8.toInt32)]).length))])) _
      refine own_go (fun _ k => XS.iconst X445.here hx rfl (hb hby at_520) k) ?_
      show own_G p e below (T445.setTop (mkF m 521 #[.val (.long q1), .second, .val (.long q2), .second, .val (.long q3), .second, .val (.long q4), .second, .val (.int p5), .val (.int p6), .val (.ref b215), .val (.int f1), .val (.int f2), .val (.int f3), .val (.int f4), .val (.int f5), .val (.int f6), .val (.int n), .val (.ref b287), .val (.int o6), .val (.int (1 : Int32)), .val (.int (0 : Int32)), .val (.ref b445)] [(.int (1 : Int32)), (.int n), (.int (Int32.ofNat (u6 ++ [Value.int ((XT.ushr p5 (8 : Int32)).toInt8.toInt32)]).length))])) _
      refine own_go (fun _ k => XS.iadd X445.here hx rfl (hb hby at_521) rfl k) ?_
      show own_G p e below (T445.setTop (mkF m 522 #[.val (.long q1), .second, .val (.long q2), .second, .val (.long q3), .second, .val (.long q4), .second, .val (.int p5), .val (.int p6), .val (.ref b215), .val (.int f1), .val (.int f2), .val (.int f3), .val (.int f4), .val (.int f5), .val (.int f6), .val (.int n), .val (.ref b287), .val (.int o6), .val (.int (1 : Int32)), .val (.int (0 : Int32)), .val (.ref b445)] [(.int (n + (1 : Int32))), (.int (Int32.ofNat (u6 ++ [Value.int ((XT.ushr p5 (8 : Int32)).toInt8.toInt32)]).length))])) _
      refine own_go (fun _ k => XS.icmpYes X445.here hx rfl (pc0 := 522) (pc' := 527) rfl (hb hby at_522) rfl (teq (by rw [own_len1, hN])).1 (by decide) (by decide) k) ?_
      show own_G p e below (T445.setTop (mkF m 527 #[.val (.long q1), .second, .val (.long q2), .second, .val (.long q3), .second, .val (.long q4), .second, .val (.int p5), .val (.int p6), .val (.ref b215), .val (.int f1), .val (.int f2), .val (.int f3), .val (.int f4), .val (.int f5), .val (.int f6), .val (.int n), .val (.ref b287), .val (.int o6), .val (.int (1 : Int32)), .val (.int (0 : Int32)), .val (.ref b445)] [])) _
      refine own_go (fun _ k => XS.iload X445.here hx rfl (hb hby at_527) rfl k) ?_
      show own_G p e below (T445.setTop (mkF m 529 #[.val (.long q1), .second, .val (.long q2), .second, .val (.long q3), .second, .val (.long q4), .second, .val (.int p5), .val (.int p6), .val (.ref b215), .val (.int f1), .val (.int f2), .val (.int f3), .val (.int f4), .val (.int f5), .val (.int f6), .val (.int n), .val (.ref b287), .val (.int o6), .val (.int (1 : Int32)), .val (.int (0 : Int32)), .val (.ref b445)] [(.int n)])) _
      refine own_go (fun _ k => XS.ifYes X445.here hx rfl (pc0 := 529) (pc' := 543) rfl (hb hby at_529) rfl ((if0 _ _).trans (flt hc468_310).2.2.2) (by decide) (by decide) k) ?_
      show own_G p e below (T445.setTop (mkF m 543 #[.val (.long q1), .second, .val (.long q2), .second, .val (.long q3), .second, .val (.long q4), .second, .val (.int p5), .val (.int p6), .val (.ref b215), .val (.int f1), .val (.int f2), .val (.int f3), .val (.int f4), .val (.int f5), .val (.int f6), .val (.int n), .val (.ref b287), .val (.int o6), .val (.int (1 : Int32)), .val (.int (0 : Int32)), .val (.ref b445)] [])) _
      refine own_go (fun _ k => XS.aload X445.here hx rfl (hb hby at_543) rfl rfl k) ?_
      show own_G p e below (T445.setTop (mkF m 545 #[.val (.long q1), .second, .val (.long q2), .second, .val (.long q3), .second, .val (.long q4), .second, .val (.int p5), .val (.int p6), .val (.ref b215), .val (.int f1), .val (.int f2), .val (.int f3), .val (.int f4), .val (.int f5), .val (.int f6), .val (.int n), .val (.ref b287), .val (.int o6), .val (.int (1 : Int32)), .val (.int (0 : Int32)), .val (.ref b445)] [(.ref b445)])) _
      refine own_go (fun _ k => XS.iload X445.here hx rfl (hb hby at_545) rfl k) ?_
      have hq7 := own_rd0 (A := u6) (l := [Value.int ((XT.ushr p5 (8 : Int32)).toInt8.toInt32)]) (C := ([] : List Value)) (u := (u6 ++ [Value.int ((XT.ushr p5 (8 : Int32)).toInt8.toInt32)])) (d := (.int (0 : Int32))) (by simp) hN (by simp only [List.length_append, List.length_cons, List.length_nil, own_len_sb, own_len_ib, own_len_lb]; omega) rfl (Nat.le_of_ble_eq_true rfl)
      show own_G p e below (T445.setTop (mkF m 547 #[.val (.long q1), .second, .val (.long q2), .second, .val (.long q3), .second, .val (.long q4), .second, .val (.int p5), .val (.int p6), .val (.ref b215), .val (.int f1), .val (.int f2), .val (.int f3), .val (.int f4), .val (.int f5), .val (.int f6), .val (.int n), .val (.ref b287), .val (.int o6), .val (.int (1 : Int32)), .val (.int (0 : Int32)), .val (.ref b445)] [(.int n), (.ref b445)])) _
      obtain ⟨cl459, Ar459, q459, S459, M459, B459, G459⟩ := id Vq445
      have hin459 : ¬ (n < 0 ∨ cl459.slots.size ≤ (n).toNatClampNeg) := inb_of S459 hq7.1
      have hat459 : cl459.slots[(n).toNatClampNeg]? = some (.int ((XT.ushr p5 (8 : Int32)).toInt8.toInt32)) := B459.at hin459 hq7.2
      refine own_go (X445.baloadBytes hx (j := n) (v := (.int ((XT.ushr p5 (8 : Int32)).toInt8.toInt32))) Ar459.1 (State.isArrayOf_alike hZ.alike Ar459.2.1) Ar459.2.2 hin459 hat459 (g := (mkF m 547 #[.val (.long q1), .second, .val (.long q2), .second, .val (.long q3), .second, .val (.long q4), .second, .val (.int p5), .val (.int p6), .val (.ref b215), .val (.int f1), .val (.int f2), .val (.int f3), .val (.int f4), .val (.int f5), .val (.int f6), .val (.int n), .val (.ref b287), .val (.int o6), .val (.int (1 : Int32)), .val (.int (0 : Int32)), .val (.ref b445)] [(.int n), (.ref b445)])) rfl rfl (hb hby at_547)) ?_
      show own_G p e below (T445.setTop (mkF m 548 #[.val (.long q1), .second, .val (.long q2), .second, .val (.long q3), .second, .val (.long q4), .second, .val (.int p5), .val (.int p6), .val (.ref b215), .val (.int f1), .val (.int f2), .val (.int f3), .val (.int f4), .val (.int f5), .val (.int f6), .val (.int n), .val (.ref b287), .val (.int o6), .val (.int (1 : Int32)), .val (.int (0 : Int32)), .val (.ref b445)] [(.int ((XT.ushr p5 (8 : Int32)).toInt8.toInt32))])) _
      refine own_go (fun _ k => XS.iload X445.here hx rfl (hb hby at_548) rfl k) ?_
      show own_G p e below (T445.setTop (mkF m 550 #[.val (.long q1), .second, .val (.long q2), .second, .val (.long q3), .second, .val (.long q4), .second, .val (.int p5), .val (.int p6), .val (.ref b215), .val (.int f1), .val (.int f2), .val (.int f3), .val (.int f4), .val (.int f5), .val (.int f6), .val (.int n), .val (.ref b287), .val (.int o6), .val (.int (1 : Int32)), .val (.int (0 : Int32)), .val (.ref b445)] [(.int p5), (.int ((XT.ushr p5 (8 : Int32)).toInt8.toInt32))])) _
      refine own_go (fun _ k => XS.bipush X445.here hx rfl (hb hby at_550) k) ?_
      show own_G p e below (T445.setTop (mkF m 552 #[.val (.long q1), .second, .val (.long q2), .second, .val (.long q3), .second, .val (.long q4), .second, .val (.int p5), .val (.int p6), .val (.ref b215), .val (.int f1), .val (.int f2), .val (.int f3), .val (.int f4), .val (.int f5), .val (.int f6), .val (.int n), .val (.ref b287), .val (.int o6), .val (.int (1 : Int32)), .val (.int (0 : Int32)), .val (.ref b445)] [(.int (8 : Int32)), (.int p5), (.int ((XT.ushr p5 (8 : Int32)).toInt8.toInt32))])) _
      refine own_go (fun _ k => XT.iushr X445.here hx rfl (hb hby at_552) rfl k) ?_
      show own_G p e below (T445.setTop (mkF m 553 #[.val (.long q1), .second, .val (.long q2), .second, .val (.long q3), .second, .val (.long q4), .second, .val (.int p5), .val (.int p6), .val (.ref b215), .val (.int f1), .val (.int f2), .val (.int f3), .val (.int f4), .val (.int f5), .val (.int f6), .val (.int n), .val (.ref b287), .val (.int o6), .val (.int (1 : Int32)), .val (.int (0 : Int32)), .val (.ref b445)] [(.int (XT.ushr p5 (8 : Int32))), (.int ((XT.ushr p5 (8 : Int32)).toInt8.toInt32))])) _
      refine own_go (fun _ k => XS.i2b X445.here hx rfl (hb hby at_553) rfl k) ?_
      show own_G p e below (T445.setTop (mkF m 554 #[.val (.long q1), .second, .val (.long q2), .second, .val (.long q3), .second, .val (.long q4), .second, .val (.int p5), .val (.int p6), .val (.ref b215), .val (.int f1), .val (.int f2), .val (.int f3), .val (.int f4), .val (.int f5), .val (.int f6), .val (.int n), .val (.ref b287), .val (.int o6), .val (.int (1 : Int32)), .val (.int (0 : Int32)), .val (.ref b445)] [(.int ((XT.ushr p5 (8 : Int32)).toInt8.toInt32)), (.int ((XT.ushr p5 (8 : Int32)).toInt8.toInt32))])) _
      refine own_go (fun _ k => XS.icmpNo X445.here hx rfl (hb hby at_554) rfl (teq (rfl : ((XT.ushr p5 (8 : Int32)).toInt8.toInt32) = ((XT.ushr p5 (8 : Int32)).toInt8.toInt32))).2 k) ?_
      show own_G p e below (T445.setTop (mkF m 557 #[.val (.long q1), .second, .val (.long q2), .second, .val (.long q3), .second, .val (.long q4), .second, .val (.int p5), .val (.int p6), .val (.ref b215), .val (.int f1), .val (.int f2), .val (.int f3), .val (.int f4), .val (.int f5), .val (.int f6), .val (.int n), .val (.ref b287), .val (.int o6), .val (.int (1 : Int32)), .val (.int (0 : Int32)), .val (.ref b445)] [])) _
      refine own_go (fun _ k => XS.iconst X445.here hx rfl (hb hby at_557) k) ?_
      show own_G p e below (T445.setTop (mkF m 558 #[.val (.long q1), .second, .val (.long q2), .second, .val (.long q3), .second, .val (.long q4), .second, .val (.int p5), .val (.int p6), .val (.ref b215), .val (.int f1), .val (.int f2), .val (.int f3), .val (.int f4), .val (.int f5), .val (.int f6), .val (.int n), .val (.ref b287), .val (.int o6), .val (.int (1 : Int32)), .val (.int (0 : Int32)), .val (.ref b445)] [(.int (1 : Int32))])) _
      refine own_go (fun _ k => XS.goto X445.here hx rfl (pc0 := 558) (pc' := 562) rfl (hb hby at_558) (by decide) (by decide) k) ?_
      show own_G p e below (T445.setTop (mkF m 562 #[.val (.long q1), .second, .val (.long q2), .second, .val (.long q3), .second, .val (.long q4), .second, .val (.int p5), .val (.int p6), .val (.ref b215), .val (.int f1), .val (.int f2), .val (.int f3), .val (.int f4), .val (.int f5), .val (.int f6), .val (.int n), .val (.ref b287), .val (.int o6), .val (.int (1 : Int32)), .val (.int (0 : Int32)), .val (.ref b445)] [(.int (1 : Int32))])) _
      refine own_ret X445 hlk (v := some (.int (1 : Int32))) (fun h => by rw [hret] at h; cases h) (Q0 Z q1 q2 q3 q4 p5 p6 h0 n0) (own_retI X445 hx (t := .boolean) hret rfl (Or.inl ⟨rfl, by simp, _, rfl⟩) (hb hby at_562)) (by decide) (by decide) ?_
      show Q0 Z q1 q2 q3 q4 p5 p6 h0 n0 _ T445.heap _
      exact ⟨rfl, N445⟩
set_option maxRecDepth 65536 in
set_option maxHeartbeats 40000000 in
theorem comes_1 {Post : Tables → Env → Array Value → State → Outcome → State → Prop} (hpost : ∀ tb e args s v u, (limb_1_1.after args s (.returned v) u = true ∧ limb_1_2.after args s (.returned v) u = true ∧ True) → FrameEnd s (.returned v) u (Jvm.fieldLocs frame_1_writes args s ++ Jvm.arrayLocs frame_1_arrays args s ++ Jvm.staticLocs frame_1_statics s) 24 448 → Post tb e args s (.returned v) u) :
    ArmFor flags0 classFile x code maxLocals ret World_1 tables_1 room_1 Calls_1 rest_1 Pre_1 Post := by
  intro l hfl _ _ p e ha hc hk s m args below hf hA hF happ hP
  obtain ⟨hcalls, hrest, hpre⟩ := hP
  obtain ⟨-, -, -, hnamed, -, -, -, hat⟩ := (Spec.applies_iff hf).mp happ
  obtain ⟨hg, hn⟩ := and_e (Cond.before_iff.mp (show (Jvm.Cond.and given_1 narrow_1).before args s = true from hpre))
  obtain ⟨g1, g2⟩ := and_e hg
  obtain ⟨g3, g4⟩ := and_e g2
  obtain ⟨g5, g6⟩ := and_e g4
  obtain ⟨g7, g8⟩ := and_e g6
  obtain ⟨g9, g10⟩ := and_e g8
  obtain ⟨g11, g12⟩ := and_e g10
  obtain ⟨w0, w1, w2, w3, w4, w5, rfl⟩ : ∃ w0 w1 w2 w3 w4 w5 : Value, args = #[w0, w1, w2, w3, w4, w5] := by
    have hs : args.size = 6 := by simpa [Cond.value, given_1] using g1
    obtain ⟨L⟩ := args
    match L, hs with
    | [w0, w1, w2, w3, w4, w5], _ => exact ⟨w0, w1, w2, w3, w4, w5, rfl⟩
  have hw := fun d (hd : d ∈ tables_1) => atoms_spec (ws := Jvm.Cond.code x code maxLocals ret :: tables_1) hat d (List.mem_cons_of_mem _ hd)
  obtain ⟨i0, ei0⟩ := isL_v g3
  obtain rfl : w0 = (.long i0) := Option.some.inj ei0
  obtain ⟨i1, ei1⟩ := isL_v g5
  obtain rfl : w1 = (.long i1) := Option.some.inj ei1
  obtain ⟨i2, ei2⟩ := isL_v g7
  obtain rfl : w2 = (.long i2) := Option.some.inj ei2
  obtain ⟨i3, ei3⟩ := isL_v g9
  obtain rfl : w3 = (.long i3) := Option.some.inj ei3
  obtain ⟨i4, ei4⟩ := is_v g11
  obtain rfl : w4 = (.int i4) := Option.some.inj ei4
  obtain ⟨i5, ei5⟩ := is_v g12
  obtain rfl : w5 = (.int i5) := Option.some.inj ei5
  obtain ⟨n, o, h1, h2, h3, _, L, rfl, ⟨rfl, N⟩, hq⟩ := rm0 l s _ hw tables_1 i0 i1 i2 i3 i4 i5 s.heap s.heap.size (Nat.le_refl _) p e ha hc hk s m _ below hf ((Spec.applies_iff_loose hf).mp happ).1 ⟨rfl, State.Warmed39.refl s, rfl⟩ trivial
  refine ⟨n, _, h1, h2, h3, hpost _ _ _ _ _ _ ⟨Cond.after_iff.mpr rfl, Cond.after_iff.mpr (eq_i res_at (Term.int_eval (1)) rfl), trivial⟩ ⟨hq.1, hq.2.1, (hq.2.2.sift fun y hy => Or.inr (N y hy)).mono (by decide) (by decide)⟩⟩
theorem main_1_1 : Claimed_1_1 := comes_1 fun _ _ _ _ _ _ h hF => ⟨h.1, hF⟩
theorem main_1_2 : Claimed_1_2 := comes_1 fun _ _ _ _ _ _ h hF => ⟨h.2.1, hF⟩
end Jvm.Pilot.@@N@@
namespace Jvm.Pilot.@@N@@
open Jvm Jvm.ClassFile Sem Op Lib Jvm.Free Jvm.Stand Jvm.Pilot.@@N@@.Jvm.D
/-! MADE BY PROGRAM (witnessworld.py) out of the Statement's table words and the real class files: 12 classes; the members and pool entries that the words name. The judged class is class 1, her method 3. -/
namespace start1
open Jvm.ClassFile
def u (s : String) : CpInfo := .utf8 (stringToUtf16 s)
/-- a pool by its gaps: so many unusable entries, then the entry; so many at the end -/
def gap : Nat → List CpInfo → List CpInfo
  | 0, r => r
  | n + 1, r => .unusable :: gap n r
def poolList (es : List (Nat × CpInfo)) (last : Nat) : List CpInfo := es.foldr (fun e r => gap e.1 (e.2 :: r)) (gap last [])
def pool (es : List (Nat × CpInfo)) (last : Nat) : Array CpInfo := ⟨poolList es last⟩
def fileOf (pool : Array CpInfo) (this : Nat) (attrs : Array Attribute := #[]) (ms : Array MethodInfo := #[]) (fl : Nat := 33) (sup : Nat := 0) (ifs : Array Nat := #[]) (fds : Array FieldInfo := #[]) : ClassFile where
  minorVersion := 0
  majorVersion := 65
  constantPool := pool
  accessFlags := fl
  thisClass := this
  superClass := sup
  interfaces := ifs
  fields := fds
  methods := ms
  attributes := attrs
def plain (name : String) (sup : Option ClassId) : Class where
  name := name
  kind := .ordinary
  loader := none
  accessFlags := 33
  super := sup
  interfaces := #[]
  cf := none
  fields := #[]
  methods := #[]
  instanceTypes := #[]
  staticTypes := #[]
  resolved := #[]
  callSites := []
  init := .initialized
  statics := none
  mirror := none

def pool0 : Array CpInfo := pool [(5, u "<init>"), (0, u "()V"), (1, .class_ 10), (1, u "java/lang/Object"), (85, u "clone"), (0, u "()Ljava/lang/Object;")] 26

def k0c0 : Code := { maxStack := 0, maxLocals := 1, code := object_method_1_code, exceptionTable := #[], attributes := #[] }
def k0m0 : Method := { name := "<init>", desc := "()V", sig := { parameters := [], returnType := none }, accessFlags := 1, code := some k0c0 }
def k0m1 : Method := { name := "clone", desc := "()Ljava/lang/Object;", sig := { parameters := [], returnType := some (.object "java/lang/Object") }, accessFlags := 260, code := none }
/-- java/lang/Object -/
def k0 : Class := { plain "java/lang/Object" none with
  accessFlags := 33
  interfaces := #[]
  cf := some (fileOf pool0 8 #[] #[{ accessFlags := 1, nameIndex := 5, descriptorIndex := 6, attributes := #[] }, { accessFlags := 260, nameIndex := 96, descriptorIndex := 97, attributes := #[] }] 33 0 #[] #[])
  fields := #[]
  methods := #[k0m0, k0m1]
  instanceTypes := #[]
  staticTypes := #[]
  resolved := Array.replicate 124 none
  statics := none }

def pool1 : Array CpInfo := pool [(2, .class_ 4), (0, .nameAndType 5 6), (0, u "java/lang/Object"), (0, u "<init>"), (0, u "()V"), (0, .class_ 8), (0, u "com/example/orbweave/orbweave/ByteWriter"), (0, .methodref 7 3), (0, .methodref 7 11), (0, .nameAndType 12 13), (0, u "writeLong"), (0, u "(J)Lcom/example/orbweave/orbweave/ByteWriter;"), (0, .methodref 7 15), (0, .nameAndType 16 17), (0, u "writeByte"), (0, u "(I)Lcom/example/orbweave/orbweave/ByteWriter;"), (0, .methodref 7 19), (0, .nameAndType 20 17), (0, u "writeInt"), (0, .methodref 7 22), (0, .nameAndType 23 24), (0, u "toByteArray"), (0, u "()[B"), (0, .methodref 26 27), (0, .class_ 28), (0, .nameAndType 29 30), (0, u "com/example/orbweave/orbweave/ByteWriterToByteArrayPinLaw"), (0, u "getLong"), (0, u "([BI)J"), (0, .methodref 26 32), (0, .nameAndType 33 34), (0, u "getInt"), (0, u "([BI)I"), (2, u "law"), (0, u "(JJJJII)Z")] 5

def k1m0 : Method := { name := "<init>", desc := "()V", sig := { parameters := [], returnType := none }, accessFlags := 1, code := none }
def k1c1 : Code := { maxStack := 5, maxLocals := 2, code := method_2_code, exceptionTable := #[], attributes := #[] }
def k1m1 : Method := { name := "getLong", desc := "([BI)J", sig := { parameters := [(.array .byte), .int], returnType := some .long }, accessFlags := 10, code := some k1c1 }
def k1c2 : Code := { maxStack := 4, maxLocals := 2, code := method_3_code, exceptionTable := #[], attributes := #[] }
def k1m2 : Method := { name := "getInt", desc := "([BI)I", sig := { parameters := [(.array .byte), .int], returnType := some .int }, accessFlags := 10, code := some k1c2 }
def k1c3 : Code := { maxStack := 4, maxLocals := 23, code := code, exceptionTable := #[], attributes := #[] }
def k1m3 : Method := { name := "law", desc := "(JJJJII)Z", sig := { parameters := [.long, .long, .long, .long, .int, .int], returnType := some .boolean }, accessFlags := 9, code := some k1c3 }
/-- com/example/orbweave/orbweave/ByteWriterToByteArrayPinLaw -/
def k1 : Class := { plain "com/example/orbweave/orbweave/ByteWriterToByteArrayPinLaw" (some 0) with
  accessFlags := 49
  interfaces := #[]
  cf := some (fileOf pool1 26 #[] #[{ accessFlags := 1, nameIndex := 5, descriptorIndex := 6, attributes := #[] }, { accessFlags := 10, nameIndex := 29, descriptorIndex := 30, attributes := #[] }, { accessFlags := 10, nameIndex := 33, descriptorIndex := 34, attributes := #[] }, { accessFlags := 9, nameIndex := 37, descriptorIndex := 38, attributes := #[] }] 49 2 #[] #[])
  fields := #[]
  methods := #[k1m0, k1m1, k1m2, k1m3]
  instanceTypes := #[]
  staticTypes := #[]
  resolved := Array.replicate 44 none
  statics := none }

def pool2 : Array CpInfo := pool [(1, .methodref 2 3), (0, .class_ 4), (0, .nameAndType 5 6), (0, u "java/lang/Object"), (0, u "<init>"), (0, u "()V"), (0, .fieldref 8 9), (0, .class_ 10), (0, .nameAndType 11 12), (0, u "com/example/orbweave/orbweave/ByteWriter"), (0, u "_bytes"), (0, u "[B"), (0, .methodref 8 14), (0, .nameAndType 15 16), (0, u "ensure"), (0, u "(I)V"), (0, .fieldref 8 18), (0, .nameAndType 19 20), (0, u "_length"), (0, u "I"), (0, .methodref 8 22), (0, .nameAndType 23 24), (0, u "writeByte"), (0, u "(I)Lcom/example/orbweave/orbweave/ByteWriter;"), (0, .methodref 8 26), (0, .nameAndType 27 28), (0, u "writeShort"), (0, u "(S)Lcom/example/orbweave/orbweave/ByteWriter;"), (0, .methodref 8 30), (0, .nameAndType 31 24), (0, u "writeInt"), (21, .methodref 54 55), (0, .class_ 56), (0, .nameAndType 57 58), (0, u "java/util/Arrays"), (0, u "copyOf"), (0, u "([BI)[B"), (0, .methodref 60 61), (0, .class_ 62), (0, .nameAndType 63 64), (0, u "java/lang/Math"), (0, u "max"), (0, u "(II)I"), (2, u "writeLong"), (0, u "(J)Lcom/example/orbweave/orbweave/ByteWriter;"), (3, u "toByteArray"), (0, u "()[B")] 2

def k2c0 : Code := { maxStack := 2, maxLocals := 1, code := prog_2_method_1_code, exceptionTable := #[], attributes := #[] }
def k2m0 : Method := { name := "<init>", desc := "()V", sig := { parameters := [], returnType := none }, accessFlags := 0, code := some k2c0 }
def k2c1 : Code := { maxStack := 5, maxLocals := 2, code := prog_2_method_2_code, exceptionTable := #[], attributes := #[] }
def k2m1 : Method := { name := "writeByte", desc := "(I)Lcom/example/orbweave/orbweave/ByteWriter;", sig := { parameters := [.int], returnType := some (.object "com/example/orbweave/orbweave/ByteWriter") }, accessFlags := 0, code := some k2c1 }
def k2c2 : Code := { maxStack := 3, maxLocals := 2, code := prog_2_method_3_code, exceptionTable := #[], attributes := #[] }
def k2m2 : Method := { name := "writeShort", desc := "(S)Lcom/example/orbweave/orbweave/ByteWriter;", sig := { parameters := [.short], returnType := some (.object "com/example/orbweave/orbweave/ByteWriter") }, accessFlags := 0, code := some k2c2 }
def k2c3 : Code := { maxStack := 3, maxLocals := 2, code := prog_2_method_4_code, exceptionTable := #[], attributes := #[] }
def k2m3 : Method := { name := "writeInt", desc := "(I)Lcom/example/orbweave/orbweave/ByteWriter;", sig := { parameters := [.int], returnType := some (.object "com/example/orbweave/orbweave/ByteWriter") }, accessFlags := 0, code := some k2c3 }
def k2c4 : Code := { maxStack := 4, maxLocals := 3, code := prog_2_method_5_code, exceptionTable := #[], attributes := #[] }
def k2m4 : Method := { name := "writeLong", desc := "(J)Lcom/example/orbweave/orbweave/ByteWriter;", sig := { parameters := [.long], returnType := some (.object "com/example/orbweave/orbweave/ByteWriter") }, accessFlags := 0, code := some k2c4 }
def k2c5 : Code := { maxStack := 2, maxLocals := 1, code := prog_2_method_8_code, exceptionTable := #[], attributes := #[] }
def k2m5 : Method := { name := "toByteArray", desc := "()[B", sig := { parameters := [], returnType := some (.array .byte) }, accessFlags := 0, code := some k2c5 }
def k2c6 : Code := { maxStack := 5, maxLocals := 2, code := prog_2_method_9_code, exceptionTable := #[], attributes := #[] }
def k2m6 : Method := { name := "ensure", desc := "(I)V", sig := { parameters := [.int], returnType := none }, accessFlags := 2, code := some k2c6 }
/-- com/example/orbweave/orbweave/ByteWriter -/
def k2 : Class := { plain "com/example/orbweave/orbweave/ByteWriter" (some 0) with
  accessFlags := 48
  interfaces := #[]
  cf := some (fileOf pool2 8 #[] #[{ accessFlags := 0, nameIndex := 5, descriptorIndex := 6, attributes := #[] }, { accessFlags := 0, nameIndex := 23, descriptorIndex := 24, attributes := #[] }, { accessFlags := 0, nameIndex := 27, descriptorIndex := 28, attributes := #[] }, { accessFlags := 0, nameIndex := 31, descriptorIndex := 24, attributes := #[] }, { accessFlags := 0, nameIndex := 67, descriptorIndex := 68, attributes := #[] }, { accessFlags := 0, nameIndex := 72, descriptorIndex := 73, attributes := #[] }, { accessFlags := 2, nameIndex := 15, descriptorIndex := 16, attributes := #[] }] 48 2 #[] #[{ accessFlags := 2, nameIndex := 11, descriptorIndex := 12, attributes := #[] }, { accessFlags := 2, nameIndex := 19, descriptorIndex := 20, attributes := #[] }])
  fields := #[{ name := "_bytes", type := (.array .byte), accessFlags := 2, slot := 0, constantValue := 0 }, { name := "_length", type := .int, accessFlags := 2, slot := 1, constantValue := 0 }]
  methods := #[k2m0, k2m1, k2m2, k2m3, k2m4, k2m5, k2m6]
  instanceTypes := #[(.array .byte), .int]
  staticTypes := #[]
  resolved := Array.replicate 76 none
  statics := none }

def pool3 : Array CpInfo := pool [(2, .class_ 4), (1, u "java/lang/Object"), (0, u "<init>"), (0, u "()V"), (7, .class_ 16), (1, u "java/util/Arrays"), (57, .class_ 76), (1, u "java/util/Arrays$NaturalOrder"), (32, u "()Ljava/lang/Object;"), (3, .class_ 115), (1, u "java/util/Arrays$LegacyMergeSort"), (1, u "Z"), (10, .nameAndType 129 109), (0, u "clone"), (20, .methodref 151 152), (0, .class_ 153), (0, .nameAndType 154 155), (0, u "java/lang/System"), (0, u "arraycopy"), (0, u "(Ljava/lang/Object;ILjava/lang/Object;II)V"), (146, u "copyOf"), (1, .methodref 305 306), (0, .class_ 307), (0, .nameAndType 308 309), (0, u "java/lang/Math"), (0, u "min"), (0, u "(II)I"), (0, .methodref 311 128), (0, .class_ 312), (0, u "[B"), (62, .class_ 376), (0, u "java/util/Arrays$ArrayList"), (68, u "$assertionsDisabled"), (269, u "MIN_ARRAY_SORT_GRAN"), (0, u "I"), (2, u "INSERTIONSORT_THRESHOLD"), (149, u "([BI)[B"), (105, .class_ 976), (0, u "java/util/Arrays$ArrayItr")] 52

def k3m0 : Method := { name := "<init>", desc := "()V", sig := { parameters := [], returnType := none }, accessFlags := 2, code := none }
def k3c1 : Code := { maxStack := 6, maxLocals := 3, code := jdk_65_method_121_code, exceptionTable := #[], attributes := #[] }
def k3m1 : Method := { name := "copyOf", desc := "([BI)[B", sig := { parameters := [(.array .byte), .int], returnType := some (.array .byte) }, accessFlags := 9, code := some k3c1 }
/-- java/util/Arrays -/
def k3 : Class := { plain "java/util/Arrays" (some 0) with
  accessFlags := 49
  interfaces := #[]
  cf := some (fileOf pool3 14 #[.nestMembers #[975, 375, 113, 74]] #[{ accessFlags := 2, nameIndex := 5, descriptorIndex := 6, attributes := #[] }, { accessFlags := 9, nameIndex := 302, descriptorIndex := 869, attributes := #[] }] 49 2 #[] #[{ accessFlags := 26, nameIndex := 715, descriptorIndex := 716, attributes := #[] }, { accessFlags := 26, nameIndex := 719, descriptorIndex := 716, attributes := #[] }, { accessFlags := 4120, nameIndex := 445, descriptorIndex := 117, attributes := #[] }])
  fields := #[{ name := "MIN_ARRAY_SORT_GRAN", type := .int, accessFlags := 26, slot := 0, constantValue := 0 }, { name := "INSERTIONSORT_THRESHOLD", type := .int, accessFlags := 26, slot := 1, constantValue := 0 }, { name := "$assertionsDisabled", type := .boolean, accessFlags := 4120, slot := 2, constantValue := 0 }]
  methods := #[k3m0, k3m1]
  instanceTypes := #[]
  staticTypes := #[.int, .int, .boolean]
  resolved := Array.replicate 1029 none
  statics := none }

def pool4 : Array CpInfo := pool [(1, .class_ 2), (0, u "java/lang/Math"), (1, .class_ 6), (1, u "java/lang/Object"), (0, u "<init>"), (0, u "()V"), (89, .class_ 100), (1, u "java/lang/Math$RandomNumberGeneratorHolder"), (71, u "negativeZeroFloatBits"), (0, u "J"), (2, u "negativeZeroDoubleBits"), (21, u "max"), (2, u "min"), (43, u "$assertionsDisabled"), (0, u "Z"), (88, u "(II)I"), (2, u "twoToTheDoubleScaleDown"), (0, u "D"), (4, u "twoToTheDoubleScaleUp"), (9, u "E"), (3, u "PI"), (2, u "TAU"), (2, u "DEGREES_TO_RADIANS"), (0, u "RADIANS_TO_DEGREES")] 94

def k4m0 : Method := { name := "<init>", desc := "()V", sig := { parameters := [], returnType := none }, accessFlags := 2, code := none }
def k4c1 : Code := { maxStack := 2, maxLocals := 2, code := jdk_29_method_65_code, exceptionTable := #[], attributes := #[] }
def k4m1 : Method := { name := "max", desc := "(II)I", sig := { parameters := [.int, .int], returnType := some .int }, accessFlags := 9, code := some k4c1 }
def k4c2 : Code := { maxStack := 2, maxLocals := 2, code := jdk_29_method_69_code, exceptionTable := #[], attributes := #[] }
def k4m2 : Method := { name := "min", desc := "(II)I", sig := { parameters := [.int, .int], returnType := some .int }, accessFlags := 9, code := some k4c2 }
/-- java/lang/Math -/
def k4 : Class := { plain "java/lang/Math" (some 0) with
  accessFlags := 49
  interfaces := #[]
  cf := some (fileOf pool4 1 #[.nestMembers #[98]] #[{ accessFlags := 2, nameIndex := 7, descriptorIndex := 8, attributes := #[] }, { accessFlags := 9, nameIndex := 198, descriptorIndex := 335, attributes := #[] }, { accessFlags := 9, nameIndex := 201, descriptorIndex := 335, attributes := #[] }] 49 4 #[] #[{ accessFlags := 25, nameIndex := 354, descriptorIndex := 339, attributes := #[] }, { accessFlags := 25, nameIndex := 358, descriptorIndex := 339, attributes := #[] }, { accessFlags := 25, nameIndex := 361, descriptorIndex := 339, attributes := #[] }, { accessFlags := 26, nameIndex := 364, descriptorIndex := 339, attributes := #[] }, { accessFlags := 26, nameIndex := 365, descriptorIndex := 339, attributes := #[] }, { accessFlags := 26, nameIndex := 172, descriptorIndex := 173, attributes := #[] }, { accessFlags := 26, nameIndex := 176, descriptorIndex := 173, attributes := #[] }, { accessFlags := 8, nameIndex := 344, descriptorIndex := 339, attributes := #[] }, { accessFlags := 8, nameIndex := 338, descriptorIndex := 339, attributes := #[] }, { accessFlags := 4120, nameIndex := 245, descriptorIndex := 246, attributes := #[] }])
  fields := #[{ name := "E", type := .double, accessFlags := 25, slot := 0, constantValue := 0 }, { name := "PI", type := .double, accessFlags := 25, slot := 1, constantValue := 0 }, { name := "TAU", type := .double, accessFlags := 25, slot := 2, constantValue := 0 }, { name := "DEGREES_TO_RADIANS", type := .double, accessFlags := 26, slot := 3, constantValue := 0 }, { name := "RADIANS_TO_DEGREES", type := .double, accessFlags := 26, slot := 4, constantValue := 0 }, { name := "negativeZeroFloatBits", type := .long, accessFlags := 26, slot := 5, constantValue := 0 }, { name := "negativeZeroDoubleBits", type := .long, accessFlags := 26, slot := 6, constantValue := 0 }, { name := "twoToTheDoubleScaleUp", type := .double, accessFlags := 8, slot := 7, constantValue := 0 }, { name := "twoToTheDoubleScaleDown", type := .double, accessFlags := 8, slot := 8, constantValue := 0 }, { name := "$assertionsDisabled", type := .boolean, accessFlags := 4120, slot := 9, constantValue := 0 }]
  methods := #[k4m0, k4m1, k4m2]
  instanceTypes := #[]
  staticTypes := #[.double, .double, .double, .double, .double, .long, .long, .double, .double, .boolean]
  resolved := Array.replicate 460 none
  statics := none }

def pool5 : Array CpInfo := pool [(2, .class_ 4), (1, u "java/lang/Object"), (0, u "<init>"), (0, u "()V"), (1, .class_ 10), (1, u "java/lang/System"), (0, u "allowSecurityManager"), (0, u "I"), (16, u "cons"), (0, u "Ljava/io/Console;"), (77, .class_ 110), (1, u "java/lang/System$CallersHolder"), (43, u "initialErrStream"), (0, u "Ljava/io/PrintStream;"), (19, u "security"), (0, u "Ljava/lang/SecurityManager;"), (31, .class_ 209), (0, u "java/lang/System$1"), (7, u "props"), (0, u "Ljava/util/Properties;"), (2, u "lineSeparator"), (0, u "Ljava/lang/String;"), (96, .class_ 321), (1, u "java/lang/System$LoggerFinder"), (5, .class_ 328), (0, u "java/lang/System$Logger"), (67, u "err"), (2, u "out"), (91, u "notSupportedJnuEncoding"), (15, u "in"), (17, u "initialIn"), (0, u "Ljava/io/InputStream;"), (35, u "bootLayer"), (0, u "Ljava/lang/ModuleLayer;"), (99, .class_ 664), (0, u "java/lang/System$2"), (9, u "NEVER"), (2, u "MAYBE"), (49, u "arraycopy"), (0, u "(Ljava/lang/Object;ILjava/lang/Object;II)V"), (72, .class_ 802), (0, u "java/lang/System$Logger$Level")] 31

def k5m0 : Method := { name := "<init>", desc := "()V", sig := { parameters := [], returnType := none }, accessFlags := 2, code := none }
def k5m1 : Method := { name := "arraycopy", desc := "(Ljava/lang/Object;ILjava/lang/Object;II)V", sig := { parameters := [(.object "java/lang/Object"), .int, (.object "java/lang/Object"), .int, .int], returnType := none }, accessFlags := 265, code := none }
/-- java/lang/System -/
def k5 : Class := { plain "java/lang/System" (some 0) with
  accessFlags := 49
  interfaces := #[]
  cf := some (fileOf pool5 8 #[.nestMembers #[319, 327, 801, 108, 663, 208]] #[{ accessFlags := 2, nameIndex := 5, descriptorIndex := 6, attributes := #[] }, { accessFlags := 265, nameIndex := 727, descriptorIndex := 728, attributes := #[] }] 49 2 #[] #[{ accessFlags := 25, nameIndex := 507, descriptorIndex := 526, attributes := #[] }, { accessFlags := 25, nameIndex := 399, descriptorIndex := 155, attributes := #[] }, { accessFlags := 25, nameIndex := 396, descriptorIndex := 155, attributes := #[] }, { accessFlags := 10, nameIndex := 525, descriptorIndex := 526, attributes := #[] }, { accessFlags := 26, nameIndex := 674, descriptorIndex := 12, attributes := #[] }, { accessFlags := 26, nameIndex := 677, descriptorIndex := 12, attributes := #[] }, { accessFlags := 10, nameIndex := 11, descriptorIndex := 12, attributes := #[] }, { accessFlags := 74, nameIndex := 175, descriptorIndex := 176, attributes := #[] }, { accessFlags := 10, nameIndex := 491, descriptorIndex := 222, attributes := #[] }, { accessFlags := 74, nameIndex := 29, descriptorIndex := 30, attributes := #[] }, { accessFlags := 74, nameIndex := 154, descriptorIndex := 155, attributes := #[] }, { accessFlags := 10, nameIndex := 217, descriptorIndex := 218, attributes := #[] }, { accessFlags := 10, nameIndex := 221, descriptorIndex := 222, attributes := #[] }, { accessFlags := 8, nameIndex := 562, descriptorIndex := 563, attributes := #[] }])
  fields := #[{ name := "in", type := (.object "java/io/InputStream"), accessFlags := 25, slot := 0, constantValue := 0 }, { name := "out", type := (.object "java/io/PrintStream"), accessFlags := 25, slot := 1, constantValue := 0 }, { name := "err", type := (.object "java/io/PrintStream"), accessFlags := 25, slot := 2, constantValue := 0 }, { name := "initialIn", type := (.object "java/io/InputStream"), accessFlags := 10, slot := 3, constantValue := 0 }, { name := "NEVER", type := .int, accessFlags := 26, slot := 4, constantValue := 0 }, { name := "MAYBE", type := .int, accessFlags := 26, slot := 5, constantValue := 0 }, { name := "allowSecurityManager", type := .int, accessFlags := 10, slot := 6, constantValue := 0 }, { name := "security", type := (.object "java/lang/SecurityManager"), accessFlags := 74, slot := 7, constantValue := 0 }, { name := "notSupportedJnuEncoding", type := (.object "java/lang/String"), accessFlags := 10, slot := 8, constantValue := 0 }, { name := "cons", type := (.object "java/io/Console"), accessFlags := 74, slot := 9, constantValue := 0 }, { name := "initialErrStream", type := (.object "java/io/PrintStream"), accessFlags := 74, slot := 10, constantValue := 0 }, { name := "props", type := (.object "java/util/Properties"), accessFlags := 10, slot := 11, constantValue := 0 }, { name := "lineSeparator", type := (.object "java/lang/String"), accessFlags := 10, slot := 12, constantValue := 0 }, { name := "bootLayer", type := (.object "java/lang/ModuleLayer"), accessFlags := 8, slot := 13, constantValue := 0 }]
  methods := #[k5m0, k5m1]
  instanceTypes := #[]
  staticTypes := #[(.object "java/io/InputStream"), (.object "java/io/PrintStream"), (.object "java/io/PrintStream"), (.object "java/io/InputStream"), .int, .int, .int, (.object "java/lang/SecurityManager"), (.object "java/lang/String"), (.object "java/io/Console"), (.object "java/io/PrintStream"), (.object "java/util/Properties"), (.object "java/lang/String"), (.object "java/lang/ModuleLayer")]
  resolved := Array.replicate 834 none
  statics := none }

def pool6 : Array CpInfo := pool [(1, .class_ 2), (0, u "java/lang/Cloneable"), (0, .class_ 4), (0, u "java/lang/Object")] 2

/-- java/lang/Cloneable -/
def k6 : Class := { plain "java/lang/Cloneable" (some 0) with
  accessFlags := 1537
  interfaces := #[]
  cf := some (fileOf pool6 1 #[] #[] 1537 3 #[] #[])
  fields := #[]
  methods := #[]
  instanceTypes := #[]
  staticTypes := #[]
  resolved := Array.replicate 7 none
  statics := none }

def pool7 : Array CpInfo := pool [(1, u "java/io/Serializable"), (0, .class_ 1), (0, u "java/lang/Object"), (0, .class_ 3)] 3

/-- java/io/Serializable -/
def k7 : Class := { plain "java/io/Serializable" (some 0) with
  accessFlags := 1537
  interfaces := #[]
  cf := some (fileOf pool7 2 #[] #[] 1537 4 #[] #[])
  fields := #[]
  methods := #[]
  instanceTypes := #[]
  staticTypes := #[]
  resolved := Array.replicate 8 none
  statics := none }

/-- the primitive byte -/
def k8 : Class := { plain "byte" none with kind := .primitive 'B', accessFlags := 0x411 }
/-- [B -/
def k9 : Class := { plain "[B" (some 0) with kind := .array 8 .byte, interfaces := #[6, 7], accessFlags := 1041 }

/-- the primitive int -/
def k10 : Class := { plain "int" none with kind := .primitive 'I', accessFlags := 0x411 }
/-- [I -/
def k11 : Class := { plain "[I" (some 0) with kind := .array 10 .int, interfaces := #[6, 7], accessFlags := 1041 }

def heap : Heap := #[]
def classes : Array Class := #[k0, k1, k2, k3, k4, k5, k6, k7, k8, k9, k10, k11]
def interned : List (Array UInt16 × Addr) := []
def slotsUsed : Nat := 0
def theMethod : MethodId := ⟨1, 3⟩
def args0 : Array Value := #[.long 5, .long 5, .long 5, .long 5, .int 5, .int 5]
def aboutOver (below : List Frame) : State where
  vm := { classes := classes, interned := interned.toArray }
  heap := heap
  slotsUsed := slotsUsed
  threads := #[{ frames := .invoking theMethod args0 :: below }]
def below0 : List Frame := [.native { method := ⟨0, 0⟩, args := #[] }]
def about1 : State := aboutOver below0
def p0 : Program := .bare "" "" ""
def e0 : Env := launch0.env 0 0 0
theorem w_frames : about1.frames = Frame.invoking theMethod args0 :: below0 := rfl
set_option maxRecDepth 65536 in
theorem w_args : argsFit about1.vm theMethod args0 = true := by decide +kernel
set_option maxRecDepth 65536 in
theorem w_heap : heapFits about1 = true := by decide +kernel
set_option maxRecDepth 65536 in
theorem w_runnable : about1.curStatus? = some .runnable := by decide +kernel
set_option maxRecDepth 65536 in
theorem w_alone : about1.alone = true := by decide +kernel
set_option maxRecDepth 65536 in
theorem w_named : about1.methodNamed? x = some theMethod := by decide +kernel
set_option maxRecDepth 65536 in
theorem w_hears : about1.hears theMethod below0 = true := by decide +kernel
set_option maxRecDepth 65536 in
theorem w_ripe : about1.ripe theMethod args0 below0 = true := by decide +kernel
theorem w_running : about1.status = .running := rfl
set_option maxRecDepth 65536 in
theorem w_room : about1.hasRoom e0.platform room_1 = true :=
  launch0.hasRoom_least _ room_1 (by decide +kernel) (by decide +kernel) (by decide +kernel) (by decide +kernel) (by decide +kernel) (by decide +kernel)
theorem allAtoms_all (ts : List Jvm.Cond) (a : Array Jvm.Value) (st : Jvm.State) : (allAtoms ts).before a st = ts.all (fun c => c.before a st) := by
  induction ts with
  | nil => rfl
  | cons c t ih =>
    show (Jvm.Cond.and c (allAtoms t)).before a st = _
    rw [Jvm.Cond.before_and, ih, List.all_cons]
def words1 : List Jvm.Cond := Jvm.Cond.code x code maxLocals ret :: tables_1
/-- a 'code' word, met by the world's own term for the bytes: nothing is compared byte by byte -/
theorem code_word {y : MethodName} {bytes : ByteArray} {mx : Nat} {rt : Option FieldType} {a : Array Value} {s : State} {m : MethodId} {meth : Method} {c : Code} (h1 : s.methodNamed? y = some m) (h2 : s.vm.method? m = some meth) (h3 : meth.code = some c) (h4 : c.code = bytes)
    (h5 : (c.maxLocals == mx && c.exceptionTable.isEmpty && decide (c.maxStack ≤ mostOperands) && decide (meth.sig.returnType = rt) && !meth.locks && decide (parseMethodDescriptor y.desc = some meth.sig)) = true) : (Jvm.Cond.code y bytes mx rt).before a s = true := by
  simp only [Bool.and_eq_true, beq_iff_eq, Bool.not_eq_true', decide_eq_true_eq] at h5
  obtain ⟨⟨⟨⟨⟨g1, g2⟩, g3⟩, g4⟩, g5⟩, g6⟩ := h5
  simp [Cond.before, Cond.holds, Cond.value, h1, h2, h3, h4, g1, g2, g3, g4, g5, g6]
def isCode : Jvm.Cond → Bool
  | .code _ _ _ _ => true
  | _ => false
theorem all_split {L : List Jvm.Cond} {P : Jvm.Cond → Bool} (h1 : L.all (fun c => isCode c || P c) = true) (h2 : ∀ c ∈ L.filter isCode, P c = true) : L.all P = true := by
  refine List.all_eq_true.mpr fun c hc => ?_
  have h := List.all_eq_true.mp h1 c hc
  rcases Bool.eq_false_or_eq_true (isCode c) with hi | hi
  · exact h2 c (List.mem_filter.mpr ⟨hc, hi⟩)
  · simpa [hi] using h
set_option maxRecDepth 65536 in
theorem w_c0 : (Jvm.Cond.code x code maxLocals ret).before args0 about1 = true := code_word (m := ⟨1, 3⟩) (meth := k1m3) (c := k1c3) (by decide +kernel) rfl rfl rfl (by decide +kernel)
set_option maxRecDepth 65536 in
theorem w_c1 : (Jvm.Cond.code ({ cls := "com/example/orbweave/orbweave/ByteWriter", name := "<init>", desc := "()V" } : Jvm.MethodName) prog_2_method_1_code (1 : Nat) (Option.none : Option Jvm.ClassFile.FieldType)).before args0 about1 = true := code_word (m := ⟨2, 0⟩) (meth := k2m0) (c := k2c0) (by decide +kernel) rfl rfl rfl (by decide +kernel)
set_option maxRecDepth 65536 in
theorem w_c2 : (Jvm.Cond.code ({ cls := "java/lang/Object", name := "<init>", desc := "()V" } : Jvm.MethodName) object_method_1_code (1 : Nat) (Option.none : Option Jvm.ClassFile.FieldType)).before args0 about1 = true := code_word (m := ⟨0, 0⟩) (meth := k0m0) (c := k0c0) (by decide +kernel) rfl rfl rfl (by decide +kernel)
set_option maxRecDepth 65536 in
theorem w_c3 : (Jvm.Cond.code ({ cls := "com/example/orbweave/orbweave/ByteWriter", name := "toByteArray", desc := "()[B" } : Jvm.MethodName) prog_2_method_8_code (1 : Nat) (Option.some (Jvm.ClassFile.FieldType.array Jvm.ClassFile.FieldType.byte))).before args0 about1 = true := code_word (m := ⟨2, 5⟩) (meth := k2m5) (c := k2c5) (by decide +kernel) rfl rfl rfl (by decide +kernel)
set_option maxRecDepth 65536 in
theorem w_c4 : (Jvm.Cond.code ({ cls := "java/util/Arrays", name := "copyOf", desc := "([BI)[B" } : Jvm.MethodName) jdk_65_method_121_code (3 : Nat) (Option.some (Jvm.ClassFile.FieldType.array Jvm.ClassFile.FieldType.byte))).before args0 about1 = true := code_word (m := ⟨3, 1⟩) (meth := k3m1) (c := k3c1) (by decide +kernel) rfl rfl rfl (by decide +kernel)
set_option maxRecDepth 65536 in
theorem w_c5 : (Jvm.Cond.code ({ cls := "java/lang/Math", name := "min", desc := "(II)I" } : Jvm.MethodName) jdk_29_method_69_code (2 : Nat) (Option.some Jvm.ClassFile.FieldType.int)).before args0 about1 = true := code_word (m := ⟨4, 2⟩) (meth := k4m2) (c := k4c2) (by decide +kernel) rfl rfl rfl (by decide +kernel)
set_option maxRecDepth 65536 in
theorem w_c6 : (Jvm.Cond.code ({ cls := "com/example/orbweave/orbweave/ByteWriter", name := "writeByte", desc := "(I)Lcom/example/orbweave/orbweave/ByteWriter;" } : Jvm.MethodName) prog_2_method_2_code (2 : Nat) (Option.some (Jvm.ClassFile.FieldType.object "com/example/orbweave/orbweave/ByteWriter"))).before args0 about1 = true := code_word (m := ⟨2, 1⟩) (meth := k2m1) (c := k2c1) (by decide +kernel) rfl rfl rfl (by decide +kernel)
set_option maxRecDepth 65536 in
theorem w_c7 : (Jvm.Cond.code ({ cls := "com/example/orbweave/orbweave/ByteWriter", name := "ensure", desc := "(I)V" } : Jvm.MethodName) prog_2_method_9_code (2 : Nat) (Option.none : Option Jvm.ClassFile.FieldType)).before args0 about1 = true := code_word (m := ⟨2, 6⟩) (meth := k2m6) (c := k2c6) (by decide +kernel) rfl rfl rfl (by decide +kernel)
set_option maxRecDepth 65536 in
theorem w_c8 : (Jvm.Cond.code ({ cls := "com/example/orbweave/orbweave/ByteWriter", name := "writeLong", desc := "(J)Lcom/example/orbweave/orbweave/ByteWriter;" } : Jvm.MethodName) prog_2_method_5_code (3 : Nat) (Option.some (Jvm.ClassFile.FieldType.object "com/example/orbweave/orbweave/ByteWriter"))).before args0 about1 = true := code_word (m := ⟨2, 4⟩) (meth := k2m4) (c := k2c4) (by decide +kernel) rfl rfl rfl (by decide +kernel)
set_option maxRecDepth 65536 in
theorem w_c9 : (Jvm.Cond.code ({ cls := "com/example/orbweave/orbweave/ByteWriter", name := "writeInt", desc := "(I)Lcom/example/orbweave/orbweave/ByteWriter;" } : Jvm.MethodName) prog_2_method_4_code (2 : Nat) (Option.some (Jvm.ClassFile.FieldType.object "com/example/orbweave/orbweave/ByteWriter"))).before args0 about1 = true := code_word (m := ⟨2, 3⟩) (meth := k2m3) (c := k2c3) (by decide +kernel) rfl rfl rfl (by decide +kernel)
set_option maxRecDepth 65536 in
theorem w_c10 : (Jvm.Cond.code ({ cls := "com/example/orbweave/orbweave/ByteWriter", name := "writeShort", desc := "(S)Lcom/example/orbweave/orbweave/ByteWriter;" } : Jvm.MethodName) prog_2_method_3_code (2 : Nat) (Option.some (Jvm.ClassFile.FieldType.object "com/example/orbweave/orbweave/ByteWriter"))).before args0 about1 = true := code_word (m := ⟨2, 2⟩) (meth := k2m2) (c := k2c2) (by decide +kernel) rfl rfl rfl (by decide +kernel)
set_option maxRecDepth 65536 in
theorem w_c11 : (Jvm.Cond.code ({ cls := "com/example/orbweave/orbweave/ByteWriterToByteArrayPinLaw", name := "getLong", desc := "([BI)J" } : Jvm.MethodName) method_2_code (2 : Nat) (Option.some Jvm.ClassFile.FieldType.long)).before args0 about1 = true := code_word (m := ⟨1, 1⟩) (meth := k1m1) (c := k1c1) (by decide +kernel) rfl rfl rfl (by decide +kernel)
set_option maxRecDepth 65536 in
theorem w_c12 : (Jvm.Cond.code ({ cls := "com/example/orbweave/orbweave/ByteWriterToByteArrayPinLaw", name := "getInt", desc := "([BI)I" } : Jvm.MethodName) method_3_code (2 : Nat) (Option.some Jvm.ClassFile.FieldType.int)).before args0 about1 = true := code_word (m := ⟨1, 2⟩) (meth := k1m2) (c := k1c2) (by decide +kernel) rfl rfl rfl (by decide +kernel)
set_option maxRecDepth 65536 in
theorem w_c13 : (Jvm.Cond.code ({ cls := "java/lang/Math", name := "max", desc := "(II)I" } : Jvm.MethodName) jdk_29_method_65_code (2 : Nat) (Option.some Jvm.ClassFile.FieldType.int)).before args0 about1 = true := code_word (m := ⟨4, 1⟩) (meth := k4m1) (c := k4c1) (by decide +kernel) rfl rfl rfl (by decide +kernel)
def codes1 : List Jvm.Cond := [Jvm.Cond.code x code maxLocals ret, Jvm.Cond.code ({ cls := "com/example/orbweave/orbweave/ByteWriter", name := "<init>", desc := "()V" } : Jvm.MethodName) prog_2_method_1_code (1 : Nat) (Option.none : Option Jvm.ClassFile.FieldType), Jvm.Cond.code ({ cls := "java/lang/Object", name := "<init>", desc := "()V" } : Jvm.MethodName) object_method_1_code (1 : Nat) (Option.none : Option Jvm.ClassFile.FieldType), Jvm.Cond.code ({ cls := "com/example/orbweave/orbweave/ByteWriter", name := "toByteArray", desc := "()[B" } : Jvm.MethodName) prog_2_method_8_code (1 : Nat) (Option.some (Jvm.ClassFile.FieldType.array Jvm.ClassFile.FieldType.byte)), Jvm.Cond.code ({ cls := "java/util/Arrays", name := "copyOf", desc := "([BI)[B" } : Jvm.MethodName) jdk_65_method_121_code (3 : Nat) (Option.some (Jvm.ClassFile.FieldType.array Jvm.ClassFile.FieldType.byte)), Jvm.Cond.code ({ cls := "java/lang/Math", name := "min", desc := "(II)I" } : Jvm.MethodName) jdk_29_method_69_code (2 : Nat) (Option.some Jvm.ClassFile.FieldType.int), Jvm.Cond.code ({ cls := "com/example/orbweave/orbweave/ByteWriter", name := "writeByte", desc := "(I)Lcom/example/orbweave/orbweave/ByteWriter;" } : Jvm.MethodName) prog_2_method_2_code (2 : Nat) (Option.some (Jvm.ClassFile.FieldType.object "com/example/orbweave/orbweave/ByteWriter")), Jvm.Cond.code ({ cls := "com/example/orbweave/orbweave/ByteWriter", name := "ensure", desc := "(I)V" } : Jvm.MethodName) prog_2_method_9_code (2 : Nat) (Option.none : Option Jvm.ClassFile.FieldType), Jvm.Cond.code ({ cls := "com/example/orbweave/orbweave/ByteWriter", name := "writeLong", desc := "(J)Lcom/example/orbweave/orbweave/ByteWriter;" } : Jvm.MethodName) prog_2_method_5_code (3 : Nat) (Option.some (Jvm.ClassFile.FieldType.object "com/example/orbweave/orbweave/ByteWriter")), Jvm.Cond.code ({ cls := "com/example/orbweave/orbweave/ByteWriter", name := "writeInt", desc := "(I)Lcom/example/orbweave/orbweave/ByteWriter;" } : Jvm.MethodName) prog_2_method_4_code (2 : Nat) (Option.some (Jvm.ClassFile.FieldType.object "com/example/orbweave/orbweave/ByteWriter")), Jvm.Cond.code ({ cls := "com/example/orbweave/orbweave/ByteWriter", name := "writeShort", desc := "(S)Lcom/example/orbweave/orbweave/ByteWriter;" } : Jvm.MethodName) prog_2_method_3_code (2 : Nat) (Option.some (Jvm.ClassFile.FieldType.object "com/example/orbweave/orbweave/ByteWriter")), Jvm.Cond.code ({ cls := "com/example/orbweave/orbweave/ByteWriterToByteArrayPinLaw", name := "getLong", desc := "([BI)J" } : Jvm.MethodName) method_2_code (2 : Nat) (Option.some Jvm.ClassFile.FieldType.long), Jvm.Cond.code ({ cls := "com/example/orbweave/orbweave/ByteWriterToByteArrayPinLaw", name := "getInt", desc := "([BI)I" } : Jvm.MethodName) method_3_code (2 : Nat) (Option.some Jvm.ClassFile.FieldType.int), Jvm.Cond.code ({ cls := "java/lang/Math", name := "max", desc := "(II)I" } : Jvm.MethodName) jdk_29_method_65_code (2 : Nat) (Option.some Jvm.ClassFile.FieldType.int)]
set_option maxRecDepth 65536 in
theorem codes_eq : words1.filter isCode = codes1 := rfl
theorem w_codes : ∀ c ∈ words1.filter isCode, c.before args0 about1 = true := by
  rw [codes_eq]
  intro c hc
  simp only [codes1, List.mem_cons, List.not_mem_nil, or_false] at hc
  rcases hc with rfl | rfl | rfl | rfl | rfl | rfl | rfl | rfl | rfl | rfl | rfl | rfl | rfl | rfl
  · exact w_c0
  · exact w_c1
  · exact w_c2
  · exact w_c3
  · exact w_c4
  · exact w_c5
  · exact w_c6
  · exact w_c7
  · exact w_c8
  · exact w_c9
  · exact w_c10
  · exact w_c11
  · exact w_c12
  · exact w_c13
set_option maxRecDepth 65536 in
theorem w_t1 : (words1.take 24).all (fun c => isCode c || c.before args0 about1) = true := by decide +kernel
set_option maxRecDepth 65536 in
theorem w_t2 : ((words1.drop 24).take 24).all (fun c => isCode c || c.before args0 about1) = true := by decide +kernel
set_option maxRecDepth 65536 in
theorem w_t3 : (((words1.drop 24).drop 24).take 24).all (fun c => isCode c || c.before args0 about1) = true := by decide +kernel
set_option maxRecDepth 65536 in
theorem w_t4 : (((words1.drop 24).drop 24).drop 24).all (fun c => isCode c || c.before args0 about1) = true := by decide +kernel
theorem w_tables : (allAtoms (Jvm.Cond.code x code maxLocals ret :: tables_1)).before args0 about1 = true := by
  rw [allAtoms_all]
  show words1.all (fun c => c.before args0 about1) = true
  refine all_split ?_ w_codes
  rw [← List.take_append_drop 24 words1, List.all_append, w_t1, ← List.take_append_drop 24 (words1.drop 24), List.all_append, w_t2, ← List.take_append_drop 24 ((words1.drop 24).drop 24), List.all_append, w_t3, w_t4]
  rfl
set_option maxRecDepth 65536 in
theorem w_case : (Jvm.Cond.and given_1 narrow_1).before args0 about1 = true := by decide +kernel
theorem w_applies : (headSpec (Jvm.Cond.code x code maxLocals ret :: tables_1) room_1).applies x e0.platform about1 = true :=
  (Spec.applies_iff w_frames).mpr ⟨w_running, w_runnable, w_alone, w_named, w_hears, w_ripe, w_room, w_tables⟩
theorem atStart : AtStart classFile x code maxLocals ret World_1 tables_1 room_1 Calls_1 rest_1 Pre_1 launch0 p0 e0 about1 theMethod args0 below0 :=
  ⟨lists_1, trivial, launch0.admits_env _ _ _, launch0.least_env, fairChoices_fair.cas, fairChoices_fair.clock, w_frames, w_args, w_heap, w_applies, trivial, trivial, w_case⟩
end start1
theorem witness_1 : WitnessClaimed_1 := ⟨start1.p0, start1.e0, start1.about1, start1.theMethod, start1.args0, start1.below0, start1.atStart⟩
end Jvm.Pilot.@@N@@
