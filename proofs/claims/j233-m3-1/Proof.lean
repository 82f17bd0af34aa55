import JvmDerived
import JvmDerived.Pilot.@@N@@Statement
import JvmDerived.Pilot.@@N@@Code
set_option linter.unusedVariables false
set_option linter.unusedSimpArgs false
namespace Jvm.Pilot.@@N@@
open Jvm Jvm.ClassFile Sem Op Lib Jvm.Free Jvm.Stand Jvm.LawKit Jvm.RoadKit Bundle Jvm.Pilot.@@N@@.Jvm.D
/-! the goal of a walk, read forwards: from the state S the run comes to an end that P likes -/
def own_G (p : Program) (e : Env) (below : List Frame) (S : State) (P : State → Outcome → Prop) : Prop := ∃ s₂ o, Steps p.tables e below S s₂ ∧ s₂.status = .running ∧ Ended s₂ below o ∧ P s₂ o
theorem own_go {p : Program} {e : Env} {below : List Frame} {A B : State} {P : State → Outcome → Prop} (h : ∀ t, Steps p.tables e below A t → Steps p.tables e below B t) (g : own_G p e below A P) : own_G p e below B P := by
  obtain ⟨s₂, o, h1, h2⟩ := g
  exact ⟨s₂, o, h _ h1, h2⟩
theorem own_ret {p : Program} {l : Launch} {e : Env} {R : Room} {s : State} {m : MethodId} {args : Array Value} {below : List Frame} {meth : Method} {c : Code} {T : State} {locs : List Loc} {cells slots : Nat} (X : Stand p l e R s m args below meth c T locs cells slots) (hlocks : meth.locks = false) {v : Option Value} (hv : meth.sig.returnType = none → v = none) {g : JFrame} (Q : Option Value → Heap → List Loc → Prop) {C S : Nat}
    (st : ∀ fs : List Frame, (∀ (f : JFrame) (acts : List Action), f.method = m → f.locked = none → f.entered = [] → (doReturn e (T.setTop f) acts v).1 = T.setFrames fs) → Steps p.tables e below (T.setTop g) (T.setFrames fs))
    (hc : cells ≤ C) (hs : slots ≤ S) (hQ : Q v T.heap locs) : own_G p e below (T.setTop g) (fun s₂ o => ∃ v L, o = .returned v ∧ Q v s₂.heap L ∧ FrameEnd s o s₂ L C S) := by
  obtain ⟨fs, hr, hrun, hended, hW, hsame⟩ := X.leave (v := v) hv hlocks
  exact ⟨_, _, st fs hr, hrun, hended, _, _, rfl, hQ, ⟨_, rfl⟩, hW, hsame.mono hc hs⟩
theorem own_retI {p : Program} {l : Launch} {e : Env} {R : Room} {s : State} {m : MethodId} {args : Array Value} {below : List Frame} {meth : Method} {c : Code} {T : State} {locs : List Loc} {cells slots : Nat} (X : Stand p l e R s m args below meth c T locs cells slots) (hx : p.tables.exec = Jvm.exec) {pc : Nat} {Ls : Array Slot} {w : Value} {t : FieldType} {i : Instr} {rest : List Value} (hret : meth.sig.returnType = some t) (hn : narrow t w = w)
    (hi : (i = .ireturn ∧ (t = .int ∨ t = .boolean ∨ t = .byte ∨ t = .char ∨ t = .short) ∧ ∃ z, w = .int z) ∨ (i = .lreturn ∧ t = .long ∧ ∃ z, w = .long z) ∨ (i = .dreturn ∧ t = .double ∧ ∃ z, w = .double z) ∨ (i = .freturn ∧ t = .float ∧ ∃ z, w = .float z) ∨ (i = .areturn ∧ t.isReference = true ∧ w.isRef = true))
    (hd : decode c.code pc = .ok (i, 1)) (fs : List Frame) (hl : ∀ (f : JFrame) (acts : List Action), f.method = m → f.locked = none → f.entered = [] → (doReturn e (T.setTop f) acts (some w)).1 = T.setFrames fs) :
    Steps p.tables e below (T.setTop (mkF m pc Ls (w :: rest))) (T.setFrames fs) := retOut X hx hret hn hi hd hl
theorem own_retV {p : Program} {l : Launch} {e : Env} {R : Room} {s : State} {m : MethodId} {args : Array Value} {below : List Frame} {meth : Method} {c : Code} {T : State} {locs : List Loc} {cells slots : Nat} (X : Stand p l e R s m args below meth c T locs cells slots) (hx : p.tables.exec = Jvm.exec) {pc : Nat} {Ls : Array Slot} (hret : meth.sig.returnType = none)
    (hd : decode c.code pc = .ok (.return_, 1)) (fs : List Frame) (hl : ∀ (f : JFrame) (acts : List Action), f.method = m → f.locked = none → f.entered = [] → (doReturn e (T.setTop f) acts none).1 = T.setFrames fs) :
    Steps p.tables e below (T.setTop (mkF m pc Ls [])) (T.setFrames fs) := X.returnOut hx hret hd hl
theorem own_selects {s : State} {args : Array Value} {y : MethodName} {n : Nat} (hins : (Jvm.Cond.instantiable y.cls n).before args s = true) (hpriv : (Jvm.Cond.privateMethod y).before args s = true) (hinst : (Jvm.Cond.instanceMethod y).before args s = true) (hy : y.cls ≠ "java/lang/invoke/MethodHandle" ∧ y.cls ≠ "java/lang/invoke/VarHandle") :
    (Jvm.Cond.selects y.cls y y).before args s = true := by
  obtain ⟨c, k, hc, hk, -, hniab, -, -⟩ := Cond.instantiable_spec hins
  exact selects_self_of_private hc hk (Bool.or_eq_false_iff.mp hniab).1 (Cond.privateMethod_at hpriv) hinst hy
theorem own_bb (x : Int32) : nar .byte x.toInt8.toInt32 = x.toInt8.toInt32 := by
  show x.toInt8.toInt32.toInt8.toInt32 = _
  simp
theorem own_fit {z : Int32} (h : nar .byte z = z) : fits .byte (.int z) = true := by
  rw [← h]; exact fits_nar_byte z
theorem own_lt32 {a b : Int32} : a < b ↔ a.toInt < b.toInt := Int32.lt_iff_toInt_lt
/-! Arrays.copyOf(byte[], int): its two returning roads, in plain lists -/
def own_mini (a b : Int32) : Int32 := if b < a then b else a
theorem own_arv_of {Z : State} {h : Heap} {a : Addr} {k : ClassId} {ty : FieldType} {z : Int32} {vs vs' : List Value} {d : Value} (V : Arv Z h a k ty z vs d) (q : ∀ i, i < z.toNatClampNeg → vs'.getD i d = vs.getD i d) : Arv Z h a k ty z vs' d := by
  obtain ⟨c, A, r1, r2, r3, H, G⟩ := V
  exact ⟨c, A, r1, r2, r3, fun i hi => by rw [q i (r2 ▸ hi)]; exact H i hi, fun i hi => by rw [q i (r2 ▸ hi)]; exact G i hi⟩
theorem own_cp1 {Z : State} {h : Heap} {a : Addr} {k : ClassId} {ty : FieldType} {z y : Int32} {vs : List Value} {d : Value} (e : y = z) (V : Arv Z h a k ty z vs d) : Arv Z h a k ty y (vs.take y.toNatClampNeg) d := by
  subst e
  refine own_arv_of V fun i hi => ?_
  simp [List.getD_eq_getElem?_getD, List.getElem?_take, hi]
theorem own_nonneg {z : Int32} (h : ¬ z < 0) : z.toInt = (z.toNatClampNeg : Int) := nat_of h
theorem own_mini_nn {z y : Int32} (hz : ¬ z < 0) (hy : ¬ y < 0) : ¬ own_mini z y < 0 := by unfold own_mini; split <;> assumption
theorem own_mini_le {z y : Int32} (hz : ¬ z < 0) (hy : ¬ y < 0) : (own_mini z y).toNatClampNeg ≤ z.toNatClampNeg ∧ (own_mini z y).toNatClampNeg ≤ y.toNatClampNeg ∧ ((own_mini z y).toNatClampNeg = z.toNatClampNeg ∨ (own_mini z y).toNatClampNeg = y.toNatClampNeg) := by
  have h1 := own_nonneg hz
  have h2 := own_nonneg hy
  unfold own_mini
  split
  · rename_i h; rw [own_lt32] at h; exact ⟨by omega, by omega, Or.inr rfl⟩
  · rename_i h; rw [own_lt32] at h; exact ⟨by omega, by omega, Or.inl rfl⟩
theorem own_cplist {vs : List Value} {d : Value} {zn yn nn : Nat} (h1 : nn ≤ zn) (h2 : nn ≤ yn) (h3 : nn = zn ∨ nn = yn) (hv : vs.length ≤ zn) (i : Nat) (hi : i < yn) :
    (vs.take yn).getD i d = ((([] ++ List.replicate yn d).take 0) ++ ((List.range nn).map fun i => vs.getD (0 + i) d) ++ ([] ++ List.replicate yn d).drop (0 + nn)).getD i d := by
  simp only [List.getD_eq_getElem?_getD, List.getElem?_take, hi, if_true, List.take_zero, List.nil_append, Nat.zero_add]
  by_cases hn : i < nn
  · rw [List.getElem?_append_left (by simpa using hn)]
    simp [hn]
  · have hz : vs[i]? = none := by rw [List.getElem?_eq_none_iff]; omega
    rw [List.getElem?_append_right (by simpa using Nat.le_of_not_lt hn), hz]
    simp only [List.length_map, List.length_range, List.getElem?_drop, List.getElem?_replicate]
    rw [if_pos (by omega)]
    rfl
theorem own_cp2 {Z : State} {h : Heap} {a : Addr} {k : ClassId} {ty : FieldType} {z y : Int32} {vs : List Value} {d : Value} (hz : ¬ z < 0) (hy : ¬ y < 0) (hv : vs.length ≤ z.toNatClampNeg)
    (V : Arv Z h a k ty y ((([] ++ List.replicate y.toNatClampNeg d).take (0 : Int32).toNatClampNeg) ++ ((List.range (own_mini z y).toNatClampNeg).map fun i => vs.getD ((0 : Int32).toNatClampNeg + i) d) ++ ([] ++ List.replicate y.toNatClampNeg d).drop ((0 : Int32).toNatClampNeg + (own_mini z y).toNatClampNeg)) d) :
    Arv Z h a k ty y (vs.take y.toNatClampNeg) d := by
  obtain ⟨h1, h2, h3⟩ := own_mini_le hz hy
  exact own_arv_of V fun i hi => own_cplist h1 h2 h3 hv i hi
def own_is4 (z : Int32) : Int32 := if z = 4 then 1 else 0
def own_sh (acc x : Int32) : Int32 := (acc <<< ((8 : Int32) &&& 31)) ||| (x &&& (255 : Int32))
def own_bits4 (x0 x1 x2 x3 : Int32) : Int32 := own_sh (own_sh (own_sh (own_sh 0 x0) x1) x2) x3
theorem own_ff (i : Nat) : (255#32).getLsbD i = decide (i < 8) := by
  rw [show (255#32) = BitVec.setWidth 32 (BitVec.allOnes 8) from rfl, BitVec.getLsbD_setWidth, BitVec.getLsbD_allOnes]
  by_cases h : i < 8
  · simp [h]; omega
  · simp [h]
theorem own_i8 (x : Int32) : (x.toInt8.toInt32 &&& (255 : Int32)).toBitVec = x.toBitVec &&& 255#32 := by
  rw [Int32.toBitVec_and]
  show (x.toBitVec.signExtend 8).signExtend 32 &&& 255#32 = _
  apply BitVec.eq_of_getLsbD_eq
  intro i hi
  simp only [BitVec.getLsbD_and, BitVec.getLsbD_signExtend]
  by_cases h8 : i < 8
  · simp [h8, hi]
  · have : (255#32).getLsbD i = false := by rw [own_ff]; simp [h8]
    simp [this]
theorem own_shB (acc x : Int32) : (own_sh acc x).toBitVec = (acc.toBitVec <<< 8) ||| (x &&& (255 : Int32)).toBitVec := by
  unfold own_sh
  rw [Int32.toBitVec_or, Int32.toBitVec_shiftLeft]
  rfl
theorem own_ushrB (x y : Int32) (k : Nat) (hk : ((y &&& 31).toUInt32.toBitVec.toNat % 32) = k) : (XT.ushr x y).toBitVec = x.toBitVec >>> k := by
  show (x.toUInt32 >>> (y &&& 31).toUInt32).toBitVec = _
  rw [UInt32.toBitVec_shiftRight, BitVec.ushiftRight_eq', BitVec.toNat_umod, show (32 : BitVec 32).toNat = 32 from rfl, hk]
  rfl
theorem own_ip (a : Int32) : own_bits4 (XT.ushr a (24 : Int32)).toInt8.toInt32 (XT.ushr a (16 : Int32)).toInt8.toInt32 (XT.ushr a (8 : Int32)).toInt8.toInt32 a.toInt8.toInt32 = a := by
  apply Int32.toBitVec_inj.mp
  unfold own_bits4
  rw [own_shB, own_shB, own_shB, own_shB, own_i8, own_i8, own_i8, own_i8, own_ushrB a 24 24 (by decide), own_ushrB a 16 16 (by decide), own_ushrB a 8 8 (by decide)]
  apply BitVec.eq_of_getLsbD_eq
  intro i hi
  simp only [BitVec.getLsbD_or, BitVec.getLsbD_shiftLeft, BitVec.getLsbD_and, BitVec.getLsbD_ushiftRight, own_ff]
  by_cases h1 : i < 8
  · simp [h1]
  by_cases h2 : i < 16
  · simp [h1, hi, show i - 8 < 8 by omega, show 8 + (i - 8) = i by omega, show i - 8 < 32 by omega]
  by_cases h3 : i < 24
  · simp [h1, hi, show ¬ i - 8 < 8 by omega, show i - 8 - 8 < 8 by omega, show 16 + (i - 8 - 8) = i by omega, show i - 8 < 32 by omega, show i - 8 - 8 < 32 by omega]
  · simp [h1, hi, show ¬ i - 8 < 8 by omega, show ¬ i - 8 - 8 < 8 by omega, show i - 8 - 8 - 8 < 8 by omega, show 24 + (i - 8 - 8 - 8) = i by omega, show i - 8 < 32 by omega, show i - 8 - 8 < 32 by omega, show i - 8 - 8 - 8 < 32 by omega]
theorem d1_0 : decode prog_31_method_3_code 0 = .ok (.aload_n 0, 1) := by decide +kernel
theorem d1_1 : decode prog_31_method_3_code 1 = .ok (.arraylength, 1) := by decide +kernel
theorem d1_2 : decode prog_31_method_3_code 2 = .ok (.iconst 4, 1) := by decide +kernel
theorem d1_3 : decode prog_31_method_3_code 3 = .ok (.if_icmp .eq 20, 3) := by decide +kernel
theorem d1_6 : decode prog_31_method_3_code 6 = .ok (.aload_n 0, 1) := by decide +kernel
theorem d1_7 : decode prog_31_method_3_code 7 = .ok (.arraylength, 1) := by decide +kernel
theorem d1_8 : decode prog_31_method_3_code 8 = .ok (.bipush 16, 2) := by decide +kernel
theorem d1_10 : decode prog_31_method_3_code 10 = .ok (.if_icmp .eq 13, 3) := by decide +kernel
theorem d1_23 : decode prog_31_method_3_code 23 = .ok (.new 8, 3) := by decide +kernel
theorem d1_26 : decode prog_31_method_3_code 26 = .ok (.dup, 1) := by decide +kernel
theorem d1_27 : decode prog_31_method_3_code 27 = .ok (.aload_n 0, 1) := by decide +kernel
theorem d1_28 : decode prog_31_method_3_code 28 = .ok (.invokevirtual 46, 3) := by decide +kernel
theorem d1_31 : decode prog_31_method_3_code 31 = .ok (.checkcast 47, 3) := by decide +kernel
theorem d1_34 : decode prog_31_method_3_code 34 = .ok (.invokespecial 36, 3) := by decide +kernel
theorem d1_37 : decode prog_31_method_3_code 37 = .ok (.areturn, 1) := by decide +kernel
theorem d2_0 : decode prog_31_method_1_code 0 = .ok (.aload_n 0, 1) := by decide +kernel
theorem d2_1 : decode prog_31_method_1_code 1 = .ok (.invokespecial 1, 3) := by decide +kernel
theorem d2_4 : decode prog_31_method_1_code 4 = .ok (.aload_n 0, 1) := by decide +kernel
theorem d2_5 : decode prog_31_method_1_code 5 = .ok (.aload_n 1, 1) := by decide +kernel
theorem d2_6 : decode prog_31_method_1_code 6 = .ok (.putfield 7, 3) := by decide +kernel
theorem d2_9 : decode prog_31_method_1_code 9 = .ok (.return_, 1) := by decide +kernel
theorem d4_0 : decode prog_31_method_4_code 0 = .ok (.aload_n 0, 1) := by decide +kernel
theorem d4_1 : decode prog_31_method_4_code 1 = .ok (.getfield 7, 3) := by decide +kernel
theorem d4_4 : decode prog_31_method_4_code 4 = .ok (.arraylength, 1) := by decide +kernel
theorem d4_5 : decode prog_31_method_4_code 5 = .ok (.iconst 4, 1) := by decide +kernel
theorem d4_6 : decode prog_31_method_4_code 6 = .ok (.if_icmp .ne 7, 3) := by decide +kernel
theorem d4_9 : decode prog_31_method_4_code 9 = .ok (.iconst 1, 1) := by decide +kernel
theorem d4_10 : decode prog_31_method_4_code 10 = .ok (.goto 4, 3) := by decide +kernel
theorem d4_13 : decode prog_31_method_4_code 13 = .ok (.iconst 0, 1) := by decide +kernel
theorem d4_14 : decode prog_31_method_4_code 14 = .ok (.ireturn, 1) := by decide +kernel
theorem d5_0 : decode prog_31_method_5_code 0 = .ok (.iconst 0, 1) := by decide +kernel
theorem d5_1 : decode prog_31_method_5_code 1 = .ok (.istore_n 1, 1) := by decide +kernel
theorem d5_2 : decode prog_31_method_5_code 2 = .ok (.iconst 0, 1) := by decide +kernel
theorem d5_3 : decode prog_31_method_5_code 3 = .ok (.istore_n 2, 1) := by decide +kernel
theorem d5_4 : decode prog_31_method_5_code 4 = .ok (.iload_n 2, 1) := by decide +kernel
theorem d5_5 : decode prog_31_method_5_code 5 = .ok (.iconst 4, 1) := by decide +kernel
theorem d5_6 : decode prog_31_method_5_code 6 = .ok (.if_icmp .ge 25, 3) := by decide +kernel
theorem d5_9 : decode prog_31_method_5_code 9 = .ok (.iload_n 1, 1) := by decide +kernel
theorem d5_10 : decode prog_31_method_5_code 10 = .ok (.bipush 8, 2) := by decide +kernel
theorem d5_12 : decode prog_31_method_5_code 12 = .ok (.ishl, 1) := by decide +kernel
theorem d5_13 : decode prog_31_method_5_code 13 = .ok (.aload_n 0, 1) := by decide +kernel
theorem d5_14 : decode prog_31_method_5_code 14 = .ok (.getfield 7, 3) := by decide +kernel
theorem d5_17 : decode prog_31_method_5_code 17 = .ok (.iload_n 2, 1) := by decide +kernel
theorem d5_18 : decode prog_31_method_5_code 18 = .ok (.baload, 1) := by decide +kernel
theorem d5_19 : decode prog_31_method_5_code 19 = .ok (.sipush 255, 3) := by decide +kernel
theorem d5_22 : decode prog_31_method_5_code 22 = .ok (.iand, 1) := by decide +kernel
theorem d5_23 : decode prog_31_method_5_code 23 = .ok (.ior, 1) := by decide +kernel
theorem d5_24 : decode prog_31_method_5_code 24 = .ok (.istore_n 1, 1) := by decide +kernel
theorem d5_25 : decode prog_31_method_5_code 25 = .ok (.iinc 2 1, 3) := by decide +kernel
theorem d5_28 : decode prog_31_method_5_code 28 = .ok (.goto (-24), 3) := by decide +kernel
theorem d5_31 : decode prog_31_method_5_code 31 = .ok (.iload_n 1, 1) := by decide +kernel
theorem d5_32 : decode prog_31_method_5_code 32 = .ok (.ireturn, 1) := by decide +kernel
theorem pn_0 : plainName "com/example/principal/principal/decision/IpAddressOfPinLaw" = true := by first | (simp [plainName, overriddenIn]; done) | decide +kernel
theorem pn_1 : plainName "com/example/principal/principal/decision/IpAddress" = true := by first | (simp [plainName, overriddenIn]; done) | decide +kernel
theorem pn_2 : plainName "com/example/principal/principal/decision/IpAddress" = true := by first | (simp [plainName, overriddenIn]; done) | decide +kernel
theorem pn_4 : plainName "com/example/principal/principal/decision/IpAddress" = true := by first | (simp [plainName, overriddenIn]; done) | decide +kernel
theorem pn_5 : plainName "com/example/principal/principal/decision/IpAddress" = true := by first | (simp [plainName, overriddenIn]; done) | decide +kernel
theorem pd_0 : parseMethodDescriptor "([B)V" = some ⟨[(.array .byte)], none⟩ := by decide +kernel
theorem pd_1 : parseMethodDescriptor "([B)Lcom/example/principal/principal/decision/IpAddress;" = some ⟨[(.array .byte)], some (.object "com/example/principal/principal/decision/IpAddress")⟩ := by decide +kernel
theorem pd_2 : parseMethodDescriptor "()Z" = some ⟨[], some .boolean⟩ := by decide +kernel
theorem pd_3 : parseMethodDescriptor "()I" = some ⟨[], some .int⟩ := by decide +kernel
theorem ef_2 (m : MethodId) (a1 : Addr) (a2 : Addr) : entryFrame m #[(.ref a1), (.ref a2)] 2 = mkF m 0 #[.val (.ref a1), .val (.ref a2)] [] := by first | (simp [entryFrame, mkF, argsToLocals, Value.category]; done) | rfl
def Q2 (Z : State) (a1 : Addr) (a2 : Addr) (h0 : Heap) (n0 : Nat) (v : Option Value) (h : Heap) (L : List Loc) : Prop := v = none ∧ Fr n0 L ∧ Keep h0 h [a1] ∧ Exa Z h a1 "com/example/principal/principal/decision/IpAddress" ∧ Fld Z h a1 "com/example/principal/principal/decision/IpAddress" "bytes" "[B" (.ref a2)
set_option maxRecDepth 65536 in
set_option maxHeartbeats 40000000 in
theorem rm2 (l : Launch) (Z : State) (a0 : Array Value) (hw : ∀ d ∈ tables_1, d.before a0 Z = true) (ws : List Jvm.Cond) (a1 : Addr) (a2 : Addr) (h0 : Heap) (n0 : Nat) (Z0 : n0 ≤ h0.size) (E_a1 : Exa Z h0 a1 "com/example/principal/principal/decision/IpAddress") (F_bytes_a1 : Fld Z h0 a1 "com/example/principal/principal/decision/IpAddress" "bytes" "[B" .null) (g_a1 : n0 ≤ a1) :
    MetFree l (⟨"com/example/principal/principal/decision/IpAddress", "<init>", "([B)V"⟩ : MethodName) (head1 (Jvm.Cond.code (⟨"com/example/principal/principal/decision/IpAddress", "<init>", "([B)V"⟩ : MethodName) prog_31_method_1_code 2 none :: ws) ({ frames := 1, cells := 0, slots := 0, locals := 12 } : Room)) (fun a U => a = #[(.ref a1), (.ref a2)] ∧ Z.Warmed39 U.vm ∧ U.heap = h0) (fun _ _ _ _ _ => True) (fun _ U o U' => ∃ v L, o = .returned v ∧ Q2 Z a1 a2 h0 n0 v U'.heap L ∧ FrameEnd U o U' L ({ frames := 1, cells := 0, slots := 0, locals := 12 } : Room).cells ({ frames := 1, cells := 0, slots := 0, locals := 12 } : Room).slots) := by
  refine MetFree.of_bodySF (plainFor_of_name pn_2) hisR ?_
  intro p e s m args below meth c s₁ Bd hml0 hP hK
  obtain ⟨rfl, hZ, hh⟩ := hP
  have hx := Bd.exec
  have hby := Bd.bytes
  have hml : c.maxLocals = 2 := hml0
  have hown : s.vm.findClass "com/example/principal/principal/decision/IpAddress" = some m.cls := findClass_of_methodNamed Bd.named
  have hnm := (name_of_methodNamed Bd.named Bd.method).1
  have hlk := Bd.notSynchronized
  have hret := Bd.returns
  have X0 : Stand p l e ({ frames := 1, cells := 0, slots := 0, locals := 12 } : Room) s m #[(.ref a1), (.ref a2)] below meth c s₁ [] 0 0 := Stand.of_body Bd
  have e0 : s₁.heap = h0 := by rw [← hh, Bd.state]; rfl
  have N0 := Fr.nil n0
  show own_G p e below (s₁.setTop (entryFrame m #[(.ref a1), (.ref a2)] 2)) (fun s₂ o => ∃ v L, o = .returned v ∧ Q2 Z a1 a2 h0 n0 v s₂.heap L ∧ FrameEnd s o s₂ L ({ frames := 1, cells := 0, slots := 0, locals := 12 } : Room).cells ({ frames := 1, cells := 0, slots := 0, locals := 12 } : Room).slots)
  refine own_go (fun t k => castTop (ef_2 m a1 a2) k) ?_
  show own_G p e below (s₁.setTop (mkF m 0 #[.val (.ref a1), .val (.ref a2)] [])) _
  refine own_go (fun _ k => XS.aloadN X0.here hx rfl (hb hby d2_0) rfl rfl k) ?_
  show own_G p e below (s₁.setTop (mkF m 1 #[.val (.ref a1), .val (.ref a2)] [(.ref a1)])) _
  obtain ⟨T1, X1, e1, st1⟩ := initO X0 hx hZ hown (hw _ (List.mem_of_getElem? (i := 19) rfl)) (hw _ (List.mem_of_getElem? (i := 20) rfl)) (hw _ (List.mem_of_getElem? (i := 21) rfl)) e0 (g := (mkF m 1 #[.val (.ref a1), .val (.ref a2)] [(.ref a1)])) rfl (by rw [hml]; rfl) rfl (hb hby d2_1) (by decide) (W := 0) (by show 2 * 0 + _ ≤ _; exact Nat.le_of_eq rfl) (by decide)
  refine own_go st1 ?_
  show own_G p e below (T1.setTop (mkF m 4 #[.val (.ref a1), .val (.ref a2)] [])) _
  refine own_go (fun _ k => XS.aloadN X1.here hx rfl (hb hby d2_4) rfl rfl k) ?_
  show own_G p e below (T1.setTop (mkF m 5 #[.val (.ref a1), .val (.ref a2)] [(.ref a1)])) _
  refine own_go (fun _ k => XS.aloadN X1.here hx rfl (hb hby d2_5) rfl rfl k) ?_
  show own_G p e below (T1.setTop (mkF m 6 #[.val (.ref a1), .val (.ref a2)] [(.ref a2), (.ref a1)])) _
  obtain ⟨T2, h2, X2, e2, W2, st2⟩ := putF X1 hx hZ hown (host := "") (Or.inl (hw _ (List.mem_of_getElem? (i := 22) rfl))) Via.refl e1 F_bytes_a1 E_a1 (Or.inr ⟨(hw _ (List.mem_of_getElem? (i := 23) rfl)), rfl, hnm⟩) (hw _ (List.mem_of_getElem? (i := 6) rfl)) (ty := (.array .byte)) (by decide) rfl rfl (g := (mkF m 6 #[.val (.ref a1), .val (.ref a2)] [(.ref a2), (.ref a1)])) rfl rfl (hb hby d2_6)
  refine own_go st2 ?_
  have fw2 := F_bytes_a1.same W2
  have f3 := E_a1.wr W2
  have zs4 : n0 ≤ h2.size := Nat.le_trans Z0 (Keep.of_wr W2).1
  have kp5 : Keep h0 h2 [a1] := (Keep.refl h0 [a1]).wr W2 (Or.inl (List.mem_of_getElem? (i := 0) rfl))
  have N2 := Fr.snoc X2 N0 g_a1
  show own_G p e below (T2.setTop (mkF m 9 #[.val (.ref a1), .val (.ref a2)] [])) _
  refine own_ret X2 hlk (v := none) (fun _ => rfl) (Q2 Z a1 a2 h0 n0) (own_retV X2 hx hret (hb hby d2_9)) (by decide) (by decide) ?_
  show Q2 Z a1 a2 h0 n0 _ T2.heap _
  rw [e2]
  exact ⟨rfl, N2, kp5, f3, fw2⟩
theorem ef_1 (m : MethodId) (a1 : Addr) : entryFrame m #[(.ref a1)] 1 = mkF m 0 #[.val (.ref a1)] [] := by first | (simp [entryFrame, mkF, argsToLocals, Value.category]; done) | rfl
def Q1_4 (Z : State) (a1 : Addr) (k1 : ClassId) (x0 x1 x2 x3 : Int32) (h0 : Heap) (n0 : Nat) (v : Option Value) (h : Heap) (L : List Loc) : Prop := ∃ (o b : Addr) (k : ClassId), v = some (.ref o) ∧ Fr n0 L ∧ Keep h0 h [] ∧ h0.size ≤ o ∧ h0.size ≤ b ∧ Exa Z h o "com/example/principal/principal/decision/IpAddress" ∧ Fld Z h o "com/example/principal/principal/decision/IpAddress" "bytes" "[B" (.ref b) ∧ Arv Z h b k .byte (4 : Int32) [(.int x0), (.int x1), (.int x2), (.int x3)] (.int (0 : Int32))
set_option maxRecDepth 65536 in
set_option maxHeartbeats 40000000 in
theorem rm1_4 (l : Launch) (Z : State) (a0 : Array Value) (hw : ∀ d ∈ tables_1, d.before a0 Z = true) (ws : List Jvm.Cond) (a1 : Addr) (k1 : ClassId) (x0 x1 x2 x3 : Int32) (h0 : Heap) (n0 : Nat) (Z0 : n0 ≤ h0.size) (V_a1 : Arv Z h0 a1 k1 .byte (4 : Int32) [(.int x0), (.int x1), (.int x2), (.int x3)] (.int (0 : Int32))) (E_a1 : Exa Z h0 a1 "[B") :
    MetFree l (⟨"com/example/principal/principal/decision/IpAddress", "of", "([B)Lcom/example/principal/principal/decision/IpAddress;"⟩ : MethodName) (head1 (Jvm.Cond.code (⟨"com/example/principal/principal/decision/IpAddress", "of", "([B)Lcom/example/principal/principal/decision/IpAddress;"⟩ : MethodName) prog_31_method_3_code 1 (some (.object "com/example/principal/principal/decision/IpAddress")) :: ws) ({ frames := 2, cells := 2, slots := 5, locals := 26 } : Room)) (fun a U => a = #[(.ref a1)] ∧ Z.Warmed39 U.vm ∧ U.heap = h0) (fun _ _ _ _ _ => True) (fun _ U o U' => ∃ v L, o = .returned v ∧ Q1_4 Z a1 k1 x0 x1 x2 x3 h0 n0 v U'.heap L ∧ FrameEnd U o U' L ({ frames := 2, cells := 2, slots := 5, locals := 26 } : Room).cells ({ frames := 2, cells := 2, slots := 5, locals := 26 } : Room).slots) := by
  refine MetFree.of_bodySF (plainFor_of_name pn_1) hisR ?_
  intro p e s m args below meth c s₁ Bd hml0 hP hK
  obtain ⟨rfl, hZ, hh⟩ := hP
  have hx := Bd.exec
  have hby := Bd.bytes
  have hml : c.maxLocals = 1 := hml0
  have hown : s.vm.findClass "com/example/principal/principal/decision/IpAddress" = some m.cls := findClass_of_methodNamed Bd.named
  have hnm := (name_of_methodNamed Bd.named Bd.method).1
  have hlk := Bd.notSynchronized
  have hret := Bd.returns
  have X0 : Stand p l e ({ frames := 2, cells := 2, slots := 5, locals := 26 } : Room) s m #[(.ref a1)] below meth c s₁ [] 0 0 := Stand.of_body Bd
  have e0 : s₁.heap = h0 := by rw [← hh, Bd.state]; rfl
  have N0 := Fr.nil n0
  show own_G p e below (s₁.setTop (entryFrame m #[(.ref a1)] 1)) (fun s₂ o => ∃ v L, o = .returned v ∧ Q1_4 Z a1 k1 x0 x1 x2 x3 h0 n0 v s₂.heap L ∧ FrameEnd s o s₂ L ({ frames := 2, cells := 2, slots := 5, locals := 26 } : Room).cells ({ frames := 2, cells := 2, slots := 5, locals := 26 } : Room).slots)
  refine own_go (fun t k => castTop (ef_1 m a1) k) ?_
  show own_G p e below (s₁.setTop (mkF m 0 #[.val (.ref a1)] [])) _
  refine own_go (fun _ k => XS.aloadN X0.here hx rfl (hb hby d1_0) rfl rfl k) ?_
  show own_G p e below (s₁.setTop (mkF m 1 #[.val (.ref a1)] [(.ref a1)])) _
  obtain ⟨cl6, Ar6, q6, S6, M6, B6, G6⟩ := id V_a1
  refine own_go (X0.arraylength hx (by rw [e0]; exact Ar6.1) (State.isArrayOf_alike hZ.alike Ar6.2.1) (g := (mkF m 1 #[.val (.ref a1)] [(.ref a1)])) rfl rfl (hb hby d1_1)) ?_
  rw [len_of S6 M6]
  show own_G p e below (s₁.setTop (mkF m 2 #[.val (.ref a1)] [(.int (4 : Int32))])) _
  refine own_go (fun _ k => XS.iconst X0.here hx rfl (hb hby d1_2) k) ?_
  show own_G p e below (s₁.setTop (mkF m 3 #[.val (.ref a1)] [(.int (4 : Int32)), (.int (4 : Int32))])) _
  refine own_go (fun _ k => XS.icmpYes X0.here hx rfl (pc0 := 3) (pc' := 23) rfl (hb hby d1_3) rfl (teq (by decide : (4 : Int32) = (4 : Int32))).1 (by decide) (by decide) k) ?_
  show own_G p e below (s₁.setTop (mkF m 23 #[.val (.ref a1)] [])) _
  obtain ⟨T7, h7, X7, e7, E7, A7, D7, -, st7⟩ := newO X0 hx hZ hown (hw _ (List.mem_of_getElem? (i := 5) rfl)) (hw _ (List.mem_of_getElem? (i := 6) rfl)) (hw _ (List.mem_of_getElem? (i := 3) rfl)) e0 (g := (mkF m 23 #[.val (.ref a1)] [])) rfl (hb hby d1_23) (by decide) (by decide)
  obtain ⟨b7, g7⟩ : ∃ z, z = h0.size := ⟨_, rfl⟩
  rw [← g7] at A7 D7 st7
  refine own_go st7 ?_
  have ne8 : a1 ≠ b7 := Nat.ne_of_lt (Nat.lt_of_lt_of_le V_a1.lt (Nat.le_of_eq g7.symm))
  have ge9 : n0 ≤ b7 := Nat.le_trans Z0 (Nat.le_of_eq g7.symm)
  have sz10 : h0.size ≤ b7 := Nat.le_trans (Keep.refl h0 []).1 (Nat.le_of_eq g7.symm)
  have f11 := V_a1.ext E7
  have f12 := E_a1.ext E7
  have zs13 : n0 ≤ h7.size := Nat.le_trans Z0 E7.1
  have kp14 : Keep h0 h7 [] := (Keep.refl h0 []).ext E7
  have f15 : Fld Z h7 b7 "com/example/principal/principal/decision/IpAddress" "bytes" "[B" .null := D7 (Or.inr (hw _ (List.mem_of_getElem? (i := 23) rfl))) (ty := (.array .byte)) (by decide)
  show own_G p e below (T7.setTop (mkF m 26 #[.val (.ref a1)] [(.ref b7)])) _
  refine own_go (fun _ k => XS.dup X7.here hx rfl (hb hby d1_26) rfl rfl k) ?_
  show own_G p e below (T7.setTop (mkF m 27 #[.val (.ref a1)] [(.ref b7), (.ref b7)])) _
  refine own_go (fun _ k => XS.aloadN X7.here hx rfl (hb hby d1_27) rfl rfl k) ?_
  show own_G p e below (T7.setTop (mkF m 28 #[.val (.ref a1)] [(.ref a1), (.ref b7), (.ref b7)])) _
  obtain ⟨T16, h16, X16, e16, E16, A16, Y16, st16⟩ := cloneH X7 hx hZ hown (hw _ (List.mem_of_getElem? (i := 7) rfl)) (hw _ (List.mem_of_getElem? (i := 8) rfl)) (hw _ (List.mem_of_getElem? (i := 12) rfl)) (hw _ (List.mem_of_getElem? (i := 10) rfl)) (hw _ (List.mem_of_getElem? (i := 11) rfl)) (hw _ (List.mem_of_getElem? (i := 13) rfl)) e7 f11.arh f12 (g := (mkF m 28 #[.val (.ref a1)] [(.ref a1), (.ref b7), (.ref b7)])) rfl (by rw [hml]; rfl) rfl (hb hby d1_28) (by decide) (W := 2) (cap := 4) (by show 2 * 0 + _ ≤ _; exact Nat.le_of_eq rfl) (by decide) (by decide) (by decide) (by decide)
  obtain ⟨b16, g16⟩ : ∃ z, z = h7.size := ⟨_, rfl⟩
  rw [← g16] at A16 Y16 st16
  refine own_go st16 ?_
  have V16 : Arv Z h16 b16 k1 .byte (4 : Int32) [(.int x0), (.int x1), (.int x2), (.int x3)] (.int (0 : Int32)) := A16
  have ne17 : a1 ≠ b16 := Nat.ne_of_lt (Nat.lt_of_lt_of_le f11.lt (Nat.le_of_eq g16.symm))
  have ne18 : b7 ≠ b16 := Nat.ne_of_lt (Nat.lt_of_lt_of_le A7.lt (Nat.le_of_eq g16.symm))
  have ge19 : n0 ≤ b16 := Nat.le_trans zs13 (Nat.le_of_eq g16.symm)
  have sz20 : h0.size ≤ b16 := Nat.le_trans kp14.1 (Nat.le_of_eq g16.symm)
  have f21 := f11.ext E16
  have f22 := f12.ext E16
  have f23 := A7.ext E16
  have f24 := f15.ext E16
  have zs25 : n0 ≤ h16.size := Nat.le_trans zs13 E16.1
  have kp26 : Keep h0 h16 [] := kp14.ext E16
  show own_G p e below (T16.setTop (mkF m 31 #[.val (.ref a1)] [(.ref b16), (.ref b7), (.ref b7)])) _
  obtain ⟨T27, X27, e27, st27⟩ := castY X16 hx hZ hown (hw _ (List.mem_of_getElem? (i := 14) rfl)) e16 (Ins.self Y16) (g := (mkF m 31 #[.val (.ref a1)] [(.ref b16), (.ref b7), (.ref b7)])) rfl rfl (hb hby d1_31)
  refine own_go st27 ?_
  show own_G p e below (T27.setTop (mkF m 34 #[.val (.ref a1)] [(.ref b16), (.ref b7), (.ref b7)])) _
  obtain ⟨_, _, ⟨T28, L28, k28, n28⟩, -, X28, ⟨Lc28, hQ28, l28, y28, z28⟩, st28⟩ := X27.specialBack hx (y := (⟨"com/example/principal/principal/decision/IpAddress", "<init>", "([B)V"⟩ : MethodName)) rfl hown (mvT hZ (hw _ (List.mem_of_getElem? (i := 16) rfl))) (mvT hZ (hw _ (List.mem_of_getElem? (i := 17) rfl))) (mvT hZ (hw _ (List.mem_of_getElem? (i := 18) rfl))) (by decide) (backOf (W := 1) (rm2 l Z a0 hw [] b7 b16 h16 n0 zs25 f23 f24 ge9) hZ (hw _ (List.mem_of_getElem? (i := 18) rfl)) (hw _ (List.mem_of_getElem? (i := 3) rfl)) (by decide) (by decide)) (g := (mkF m 34 #[.val (.ref a1)] [(.ref b16), (.ref b7), (.ref b7)])) rfl (by rw [hml]; rfl) (Steps.refl _) (a := b7) (argsL := [(.ref b16)]) (rest := [(.ref b7)]) (lenOf pd_0 rfl) rfl (by show 2 * 0 + _ ≤ _; exact Nat.le_of_eq rfl) (hb hby d1_34) (fun _ _ => ⟨rfl, e27, (by decide : 0 + 1 + 1 + 0 ≤ _), (by decide : 0 + 1 + 4 + 0 ≤ _)⟩)
  dsimp only [Pt.U, Pt.locs, Pt.cells, Pt.slots] at X28 l28 y28 z28 st28 hQ28
  rw [l28, y28, z28] at X28
  obtain ⟨rfl, Nq28, K28, E28q, Fb28⟩ := hQ28
  have N28 := Fr.app N0 Nq28
  refine own_go (fun _ k => st28.trans k) ?_
  have f29 := f21.keep K28 (ninS ne8 nin0)
  have f30 := f22.keep K28
  have f31 := f23.keep K28
  have f32 := V16.keep K28 (ninS (Ne.symm ne18) nin0)
  have f33 := Y16.keep K28
  have zs34 : n0 ≤ T28.heap.size := Nat.le_trans zs25 K28.1
  have kp35 : Keep h0 T28.heap [] := kp26.trans K28 (allS (Or.inr sz10) all0)
  show own_G p e below (T28.setTop (mkF m 37 #[.val (.ref a1)] [(.ref b7)])) _
  refine own_ret X28 hlk (v := some (.ref b7)) (fun h => by rw [hret] at h; cases h) (Q1_4 Z a1 k1 x0 x1 x2 x3 h0 n0) (own_retI X28 hx (t := (.object "com/example/principal/principal/decision/IpAddress")) hret rfl (Or.inr (Or.inr (Or.inr (Or.inr ⟨rfl, rfl, rfl⟩)))) (hb hby d1_37)) (by decide) (by decide) ?_
  show Q1_4 Z a1 k1 x0 x1 x2 x3 h0 n0 _ T28.heap _
  exact ⟨b7, b16, k1, rfl, N28, kp35, sz10, sz20, E28q, Fb28, f32⟩
def Q1_16 (Z : State) (a1 : Addr) (k1 : ClassId) (x0 x1 x2 x3 x4 x5 x6 x7 x8 x9 x10 x11 x12 x13 x14 x15 : Int32) (h0 : Heap) (n0 : Nat) (v : Option Value) (h : Heap) (L : List Loc) : Prop := ∃ (o b : Addr) (k : ClassId), v = some (.ref o) ∧ Fr n0 L ∧ Keep h0 h [] ∧ h0.size ≤ o ∧ h0.size ≤ b ∧ Exa Z h o "com/example/principal/principal/decision/IpAddress" ∧ Fld Z h o "com/example/principal/principal/decision/IpAddress" "bytes" "[B" (.ref b) ∧ Arv Z h b k .byte (16 : Int32) [(.int x0), (.int x1), (.int x2), (.int x3), (.int x4), (.int x5), (.int x6), (.int x7), (.int x8), (.int x9), (.int x10), (.int x11), (.int x12), (.int x13), (.int x14), (.int x15)] (.int (0 : Int32))
set_option maxRecDepth 65536 in
set_option maxHeartbeats 40000000 in
theorem rm1_16 (l : Launch) (Z : State) (a0 : Array Value) (hw : ∀ d ∈ tables_1, d.before a0 Z = true) (ws : List Jvm.Cond) (a1 : Addr) (k1 : ClassId) (x0 x1 x2 x3 x4 x5 x6 x7 x8 x9 x10 x11 x12 x13 x14 x15 : Int32) (h0 : Heap) (n0 : Nat) (Z0 : n0 ≤ h0.size) (V_a1 : Arv Z h0 a1 k1 .byte (16 : Int32) [(.int x0), (.int x1), (.int x2), (.int x3), (.int x4), (.int x5), (.int x6), (.int x7), (.int x8), (.int x9), (.int x10), (.int x11), (.int x12), (.int x13), (.int x14), (.int x15)] (.int (0 : Int32))) (E_a1 : Exa Z h0 a1 "[B") :
    MetFree l (⟨"com/example/principal/principal/decision/IpAddress", "of", "([B)Lcom/example/principal/principal/decision/IpAddress;"⟩ : MethodName) (head1 (Jvm.Cond.code (⟨"com/example/principal/principal/decision/IpAddress", "of", "([B)Lcom/example/principal/principal/decision/IpAddress;"⟩ : MethodName) prog_31_method_3_code 1 (some (.object "com/example/principal/principal/decision/IpAddress")) :: ws) ({ frames := 2, cells := 2, slots := 17, locals := 26 } : Room)) (fun a U => a = #[(.ref a1)] ∧ Z.Warmed39 U.vm ∧ U.heap = h0) (fun _ _ _ _ _ => True) (fun _ U o U' => ∃ v L, o = .returned v ∧ Q1_16 Z a1 k1 x0 x1 x2 x3 x4 x5 x6 x7 x8 x9 x10 x11 x12 x13 x14 x15 h0 n0 v U'.heap L ∧ FrameEnd U o U' L ({ frames := 2, cells := 2, slots := 17, locals := 26 } : Room).cells ({ frames := 2, cells := 2, slots := 17, locals := 26 } : Room).slots) := by
  refine MetFree.of_bodySF (plainFor_of_name pn_1) hisR ?_
  intro p e s m args below meth c s₁ Bd hml0 hP hK
  obtain ⟨rfl, hZ, hh⟩ := hP
  have hx := Bd.exec
  have hby := Bd.bytes
  have hml : c.maxLocals = 1 := hml0
  have hown : s.vm.findClass "com/example/principal/principal/decision/IpAddress" = some m.cls := findClass_of_methodNamed Bd.named
  have hnm := (name_of_methodNamed Bd.named Bd.method).1
  have hlk := Bd.notSynchronized
  have hret := Bd.returns
  have X0 : Stand p l e ({ frames := 2, cells := 2, slots := 17, locals := 26 } : Room) s m #[(.ref a1)] below meth c s₁ [] 0 0 := Stand.of_body Bd
  have e0 : s₁.heap = h0 := by rw [← hh, Bd.state]; rfl
  have N0 := Fr.nil n0
  show own_G p e below (s₁.setTop (entryFrame m #[(.ref a1)] 1)) (fun s₂ o => ∃ v L, o = .returned v ∧ Q1_16 Z a1 k1 x0 x1 x2 x3 x4 x5 x6 x7 x8 x9 x10 x11 x12 x13 x14 x15 h0 n0 v s₂.heap L ∧ FrameEnd s o s₂ L ({ frames := 2, cells := 2, slots := 17, locals := 26 } : Room).cells ({ frames := 2, cells := 2, slots := 17, locals := 26 } : Room).slots)
  refine own_go (fun t k => castTop (ef_1 m a1) k) ?_
  show own_G p e below (s₁.setTop (mkF m 0 #[.val (.ref a1)] [])) _
  refine own_go (fun _ k => XS.aloadN X0.here hx rfl (hb hby d1_0) rfl rfl k) ?_
  show own_G p e below (s₁.setTop (mkF m 1 #[.val (.ref a1)] [(.ref a1)])) _
  obtain ⟨cl36, Ar36, q36, S36, M36, B36, G36⟩ := id V_a1
  refine own_go (X0.arraylength hx (by rw [e0]; exact Ar36.1) (State.isArrayOf_alike hZ.alike Ar36.2.1) (g := (mkF m 1 #[.val (.ref a1)] [(.ref a1)])) rfl rfl (hb hby d1_1)) ?_
  rw [len_of S36 M36]
  show own_G p e below (s₁.setTop (mkF m 2 #[.val (.ref a1)] [(.int (16 : Int32))])) _
  refine own_go (fun _ k => XS.iconst X0.here hx rfl (hb hby d1_2) k) ?_
  show own_G p e below (s₁.setTop (mkF m 3 #[.val (.ref a1)] [(.int (4 : Int32)), (.int (16 : Int32))])) _
  refine own_go (fun _ k => XS.icmpNo X0.here hx rfl (hb hby d1_3) rfl (feq (by decide : ¬ ((16 : Int32) = (4 : Int32)))).1 k) ?_
  show own_G p e below (s₁.setTop (mkF m 6 #[.val (.ref a1)] [])) _
  refine own_go (fun _ k => XS.aloadN X0.here hx rfl (hb hby d1_6) rfl rfl k) ?_
  show own_G p e below (s₁.setTop (mkF m 7 #[.val (.ref a1)] [(.ref a1)])) _
  obtain ⟨cl37, Ar37, q37, S37, M37, B37, G37⟩ := id V_a1
  refine own_go (X0.arraylength hx (by rw [e0]; exact Ar37.1) (State.isArrayOf_alike hZ.alike Ar37.2.1) (g := (mkF m 7 #[.val (.ref a1)] [(.ref a1)])) rfl rfl (hb hby d1_7)) ?_
  rw [len_of S37 M37]
  show own_G p e below (s₁.setTop (mkF m 8 #[.val (.ref a1)] [(.int (16 : Int32))])) _
  refine own_go (fun _ k => XS.bipush X0.here hx rfl (hb hby d1_8) k) ?_
  show own_G p e below (s₁.setTop (mkF m 10 #[.val (.ref a1)] [(.int (16 : Int32)), (.int (16 : Int32))])) _
  refine own_go (fun _ k => XS.icmpYes X0.here hx rfl (pc0 := 10) (pc' := 23) rfl (hb hby d1_10) rfl (teq (by decide : (16 : Int32) = (16 : Int32))).1 (by decide) (by decide) k) ?_
  show own_G p e below (s₁.setTop (mkF m 23 #[.val (.ref a1)] [])) _
  obtain ⟨T38, h38, X38, e38, E38, A38, D38, -, st38⟩ := newO X0 hx hZ hown (hw _ (List.mem_of_getElem? (i := 5) rfl)) (hw _ (List.mem_of_getElem? (i := 6) rfl)) (hw _ (List.mem_of_getElem? (i := 3) rfl)) e0 (g := (mkF m 23 #[.val (.ref a1)] [])) rfl (hb hby d1_23) (by decide) (by decide)
  obtain ⟨b38, g38⟩ : ∃ z, z = h0.size := ⟨_, rfl⟩
  rw [← g38] at A38 D38 st38
  refine own_go st38 ?_
  have ne39 : a1 ≠ b38 := Nat.ne_of_lt (Nat.lt_of_lt_of_le V_a1.lt (Nat.le_of_eq g38.symm))
  have ge40 : n0 ≤ b38 := Nat.le_trans Z0 (Nat.le_of_eq g38.symm)
  have sz41 : h0.size ≤ b38 := Nat.le_trans (Keep.refl h0 []).1 (Nat.le_of_eq g38.symm)
  have f42 := V_a1.ext E38
  have f43 := E_a1.ext E38
  have zs44 : n0 ≤ h38.size := Nat.le_trans Z0 E38.1
  have kp45 : Keep h0 h38 [] := (Keep.refl h0 []).ext E38
  have f46 : Fld Z h38 b38 "com/example/principal/principal/decision/IpAddress" "bytes" "[B" .null := D38 (Or.inr (hw _ (List.mem_of_getElem? (i := 23) rfl))) (ty := (.array .byte)) (by decide)
  show own_G p e below (T38.setTop (mkF m 26 #[.val (.ref a1)] [(.ref b38)])) _
  refine own_go (fun _ k => XS.dup X38.here hx rfl (hb hby d1_26) rfl rfl k) ?_
  show own_G p e below (T38.setTop (mkF m 27 #[.val (.ref a1)] [(.ref b38), (.ref b38)])) _
  refine own_go (fun _ k => XS.aloadN X38.here hx rfl (hb hby d1_27) rfl rfl k) ?_
  show own_G p e below (T38.setTop (mkF m 28 #[.val (.ref a1)] [(.ref a1), (.ref b38), (.ref b38)])) _
  obtain ⟨T47, h47, X47, e47, E47, A47, Y47, st47⟩ := cloneH X38 hx hZ hown (hw _ (List.mem_of_getElem? (i := 7) rfl)) (hw _ (List.mem_of_getElem? (i := 8) rfl)) (hw _ (List.mem_of_getElem? (i := 12) rfl)) (hw _ (List.mem_of_getElem? (i := 10) rfl)) (hw _ (List.mem_of_getElem? (i := 11) rfl)) (hw _ (List.mem_of_getElem? (i := 13) rfl)) e38 f42.arh f43 (g := (mkF m 28 #[.val (.ref a1)] [(.ref a1), (.ref b38), (.ref b38)])) rfl (by rw [hml]; rfl) rfl (hb hby d1_28) (by decide) (W := 2) (cap := 16) (by show 2 * 0 + _ ≤ _; exact Nat.le_of_eq rfl) (by decide) (by decide) (by decide) (by decide)
  obtain ⟨b47, g47⟩ : ∃ z, z = h38.size := ⟨_, rfl⟩
  rw [← g47] at A47 Y47 st47
  refine own_go st47 ?_
  have V47 : Arv Z h47 b47 k1 .byte (16 : Int32) [(.int x0), (.int x1), (.int x2), (.int x3), (.int x4), (.int x5), (.int x6), (.int x7), (.int x8), (.int x9), (.int x10), (.int x11), (.int x12), (.int x13), (.int x14), (.int x15)] (.int (0 : Int32)) := A47
  have ne48 : a1 ≠ b47 := Nat.ne_of_lt (Nat.lt_of_lt_of_le f42.lt (Nat.le_of_eq g47.symm))
  have ne49 : b38 ≠ b47 := Nat.ne_of_lt (Nat.lt_of_lt_of_le A38.lt (Nat.le_of_eq g47.symm))
  have ge50 : n0 ≤ b47 := Nat.le_trans zs44 (Nat.le_of_eq g47.symm)
  have sz51 : h0.size ≤ b47 := Nat.le_trans kp45.1 (Nat.le_of_eq g47.symm)
  have f52 := f42.ext E47
  have f53 := f43.ext E47
  have f54 := A38.ext E47
  have f55 := f46.ext E47
  have zs56 : n0 ≤ h47.size := Nat.le_trans zs44 E47.1
  have kp57 : Keep h0 h47 [] := kp45.ext E47
  show own_G p e below (T47.setTop (mkF m 31 #[.val (.ref a1)] [(.ref b47), (.ref b38), (.ref b38)])) _
  obtain ⟨T58, X58, e58, st58⟩ := castY X47 hx hZ hown (hw _ (List.mem_of_getElem? (i := 14) rfl)) e47 (Ins.self Y47) (g := (mkF m 31 #[.val (.ref a1)] [(.ref b47), (.ref b38), (.ref b38)])) rfl rfl (hb hby d1_31)
  refine own_go st58 ?_
  show own_G p e below (T58.setTop (mkF m 34 #[.val (.ref a1)] [(.ref b47), (.ref b38), (.ref b38)])) _
  obtain ⟨_, _, ⟨T59, L59, k59, n59⟩, -, X59, ⟨Lc59, hQ59, l59, y59, z59⟩, st59⟩ := X58.specialBack hx (y := (⟨"com/example/principal/principal/decision/IpAddress", "<init>", "([B)V"⟩ : MethodName)) rfl hown (mvT hZ (hw _ (List.mem_of_getElem? (i := 16) rfl))) (mvT hZ (hw _ (List.mem_of_getElem? (i := 17) rfl))) (mvT hZ (hw _ (List.mem_of_getElem? (i := 18) rfl))) (by decide) (backOf (W := 1) (rm2 l Z a0 hw [] b38 b47 h47 n0 zs56 f54 f55 ge40) hZ (hw _ (List.mem_of_getElem? (i := 18) rfl)) (hw _ (List.mem_of_getElem? (i := 3) rfl)) (by decide) (by decide)) (g := (mkF m 34 #[.val (.ref a1)] [(.ref b47), (.ref b38), (.ref b38)])) rfl (by rw [hml]; rfl) (Steps.refl _) (a := b38) (argsL := [(.ref b47)]) (rest := [(.ref b38)]) (lenOf pd_0 rfl) rfl (by show 2 * 0 + _ ≤ _; exact Nat.le_of_eq rfl) (hb hby d1_34) (fun _ _ => ⟨rfl, e58, (by decide : 0 + 1 + 1 + 0 ≤ _), (by decide : 0 + 1 + 16 + 0 ≤ _)⟩)
  dsimp only [Pt.U, Pt.locs, Pt.cells, Pt.slots] at X59 l59 y59 z59 st59 hQ59
  rw [l59, y59, z59] at X59
  obtain ⟨rfl, Nq59, K59, E59q, Fb59⟩ := hQ59
  have N59 := Fr.app N0 Nq59
  refine own_go (fun _ k => st59.trans k) ?_
  have f60 := f52.keep K59 (ninS ne39 nin0)
  have f61 := f53.keep K59
  have f62 := f54.keep K59
  have f63 := V47.keep K59 (ninS (Ne.symm ne49) nin0)
  have f64 := Y47.keep K59
  have zs65 : n0 ≤ T59.heap.size := Nat.le_trans zs56 K59.1
  have kp66 : Keep h0 T59.heap [] := kp57.trans K59 (allS (Or.inr sz41) all0)
  show own_G p e below (T59.setTop (mkF m 37 #[.val (.ref a1)] [(.ref b38)])) _
  refine own_ret X59 hlk (v := some (.ref b38)) (fun h => by rw [hret] at h; cases h) (Q1_16 Z a1 k1 x0 x1 x2 x3 x4 x5 x6 x7 x8 x9 x10 x11 x12 x13 x14 x15 h0 n0) (own_retI X59 hx (t := (.object "com/example/principal/principal/decision/IpAddress")) hret rfl (Or.inr (Or.inr (Or.inr (Or.inr ⟨rfl, rfl, rfl⟩)))) (hb hby d1_37)) (by decide) (by decide) ?_
  show Q1_16 Z a1 k1 x0 x1 x2 x3 x4 x5 x6 x7 x8 x9 x10 x11 x12 x13 x14 x15 h0 n0 _ T59.heap _
  exact ⟨b38, b47, k1, rfl, N59, kp66, sz41, sz51, E59q, Fb59, f63⟩
theorem ef_4 (m : MethodId) (a1 : Addr) : entryFrame m #[(.ref a1)] 1 = mkF m 0 #[.val (.ref a1)] [] := by first | (simp [entryFrame, mkF, argsToLocals, Value.category]; done) | rfl
def Q4 (Z : State) (a1 : Addr) (b : Addr) (k1 : ClassId) (z : Int32) (vs : List Value) (h0 : Heap) (n0 : Nat) (v : Option Value) (h : Heap) (L : List Loc) : Prop := ∃ r : Int32, v = some (.int r) ∧ Fr n0 L ∧ h = h0 ∧ r = own_is4 z
set_option maxRecDepth 65536 in
set_option maxHeartbeats 40000000 in
theorem rm4 (l : Launch) (Z : State) (a0 : Array Value) (hw : ∀ d ∈ tables_1, d.before a0 Z = true) (ws : List Jvm.Cond) (a1 : Addr) (b : Addr) (k1 : ClassId) (z : Int32) (vs : List Value) (h0 : Heap) (n0 : Nat) (Z0 : n0 ≤ h0.size)  (F_bytes_a1 : Fld Z h0 a1 "com/example/principal/principal/decision/IpAddress" "bytes" "[B" (.ref b)) (V_b : Arv Z h0 b k1 .byte z vs (.int (0 : Int32))) :
    MetFree l (⟨"com/example/principal/principal/decision/IpAddress", "isIpv4", "()Z"⟩ : MethodName) (head1 (Jvm.Cond.code (⟨"com/example/principal/principal/decision/IpAddress", "isIpv4", "()Z"⟩ : MethodName) prog_31_method_4_code 1 (some .boolean) :: ws) ({ frames := 0, cells := 0, slots := 0, locals := 0 } : Room)) (fun a U => a = #[(.ref a1)] ∧ Z.Warmed39 U.vm ∧ U.heap = h0) (fun _ _ _ _ _ => True) (fun _ U o U' => ∃ v L, o = .returned v ∧ Q4 Z a1 b k1 z vs h0 n0 v U'.heap L ∧ FrameEnd U o U' L ({ frames := 0, cells := 0, slots := 0, locals := 0 } : Room).cells ({ frames := 0, cells := 0, slots := 0, locals := 0 } : Room).slots) := by
  refine MetFree.of_bodySF (plainFor_of_name pn_4) hisR ?_
  intro p e s m args below meth c s₁ Bd hml0 hP hK
  obtain ⟨rfl, hZ, hh⟩ := hP
  have hx := Bd.exec
  have hby := Bd.bytes
  have hml : c.maxLocals = 1 := hml0
  have hown : s.vm.findClass "com/example/principal/principal/decision/IpAddress" = some m.cls := findClass_of_methodNamed Bd.named
  have hnm := (name_of_methodNamed Bd.named Bd.method).1
  have hlk := Bd.notSynchronized
  have hret := Bd.returns
  have X0 : Stand p l e ({ frames := 0, cells := 0, slots := 0, locals := 0 } : Room) s m #[(.ref a1)] below meth c s₁ [] 0 0 := Stand.of_body Bd
  have e0 : s₁.heap = h0 := by rw [← hh, Bd.state]; rfl
  have N0 := Fr.nil n0
  show own_G p e below (s₁.setTop (entryFrame m #[(.ref a1)] 1)) (fun s₂ o => ∃ v L, o = .returned v ∧ Q4 Z a1 b k1 z vs h0 n0 v s₂.heap L ∧ FrameEnd s o s₂ L ({ frames := 0, cells := 0, slots := 0, locals := 0 } : Room).cells ({ frames := 0, cells := 0, slots := 0, locals := 0 } : Room).slots)
  refine own_go (fun t k => castTop (ef_4 m a1) k) ?_
  show own_G p e below (s₁.setTop (mkF m 0 #[.val (.ref a1)] [])) _
  refine own_go (fun _ k => XS.aloadN X0.here hx rfl (hb hby d4_0) rfl rfl k) ?_
  show own_G p e below (s₁.setTop (mkF m 1 #[.val (.ref a1)] [(.ref a1)])) _
  obtain ⟨T67, X67, e67, st67⟩ := getF X0 hx hZ hown (host := "") (Or.inl (hw _ (List.mem_of_getElem? (i := 22) rfl))) Via.refl e0 F_bytes_a1 (g := (mkF m 1 #[.val (.ref a1)] [(.ref a1)])) rfl rfl (hb hby d4_1)
  refine own_go st67 ?_
  show own_G p e below (T67.setTop (mkF m 4 #[.val (.ref a1)] [(.ref b)])) _
  obtain ⟨cl68, Ar68, q68, S68, M68, B68, G68⟩ := id V_b
  refine own_go (X67.arraylength hx (by rw [e67]; exact Ar68.1) (State.isArrayOf_alike hZ.alike Ar68.2.1) (g := (mkF m 4 #[.val (.ref a1)] [(.ref b)])) rfl rfl (hb hby d4_4)) ?_
  rw [len_of S68 M68]
  show own_G p e below (T67.setTop (mkF m 5 #[.val (.ref a1)] [(.int z)])) _
  refine own_go (fun _ k => XS.iconst X67.here hx rfl (hb hby d4_5) k) ?_
  show own_G p e below (T67.setTop (mkF m 6 #[.val (.ref a1)] [(.int (4 : Int32)), (.int z)])) _
  by_cases hc6_69 : z = (4 : Int32)
  · refine own_go (fun _ k => XS.icmpNo X67.here hx rfl (hb hby d4_6) rfl (teq hc6_69).2 k) ?_
    show own_G p e below (T67.setTop (mkF m 9 #[.val (.ref a1)] [])) _
    refine own_go (fun _ k => XS.iconst X67.here hx rfl (hb hby d4_9) k) ?_
    show own_G p e below (T67.setTop (mkF m 10 #[.val (.ref a1)] [(.int (1 : Int32))])) _
    refine own_go (fun _ k => XS.goto X67.here hx rfl (pc0 := 10) (pc' := 14) rfl (hb hby d4_10) (by decide) (by decide) k) ?_
    show own_G p e below (T67.setTop (mkF m 14 #[.val (.ref a1)] [(.int (1 : Int32))])) _
    refine own_ret X67 hlk (v := some (.int (1 : Int32))) (fun h => by rw [hret] at h; cases h) (Q4 Z a1 b k1 z vs h0 n0) (own_retI X67 hx (t := .boolean) hret rfl (Or.inl ⟨rfl, by simp, _, rfl⟩) (hb hby d4_14)) (by decide) (by decide) ?_
    show Q4 Z a1 b k1 z vs h0 n0 _ T67.heap _
    rw [e67]
    exact ⟨_, rfl, N0, rfl, by simp [own_is4, hc6_69]⟩
  · refine own_go (fun _ k => XS.icmpYes X67.here hx rfl (pc0 := 6) (pc' := 13) rfl (hb hby d4_6) rfl (feq hc6_69).2 (by decide) (by decide) k) ?_
    show own_G p e below (T67.setTop (mkF m 13 #[.val (.ref a1)] [])) _
    refine own_go (fun _ k => XS.iconst X67.here hx rfl (hb hby d4_13) k) ?_
    show own_G p e below (T67.setTop (mkF m 14 #[.val (.ref a1)] [(.int (0 : Int32))])) _
    refine own_ret X67 hlk (v := some (.int (0 : Int32))) (fun h => by rw [hret] at h; cases h) (Q4 Z a1 b k1 z vs h0 n0) (own_retI X67 hx (t := .boolean) hret rfl (Or.inl ⟨rfl, by simp, _, rfl⟩) (hb hby d4_14)) (by decide) (by decide) ?_
    show Q4 Z a1 b k1 z vs h0 n0 _ T67.heap _
    rw [e67]
    exact ⟨_, rfl, N0, rfl, by simp [own_is4, hc6_69]⟩
theorem ef_5 (m : MethodId) (a1 : Addr) : entryFrame m #[(.ref a1)] 3 = mkF m 0 #[.val (.ref a1), .unset, .unset] [] := by first | (simp [entryFrame, mkF, argsToLocals, Value.category]; done) | rfl
def Q5 (Z : State) (a1 : Addr) (b : Addr) (k1 : ClassId) (x0 x1 x2 x3 : Int32) (h0 : Heap) (n0 : Nat) (v : Option Value) (h : Heap) (L : List Loc) : Prop := v = some (.int (own_bits4 x0 x1 x2 x3)) ∧ Fr n0 L ∧ h = h0
set_option maxRecDepth 65536 in
set_option maxHeartbeats 40000000 in
theorem rm5 (l : Launch) (Z : State) (a0 : Array Value) (hw : ∀ d ∈ tables_1, d.before a0 Z = true) (ws : List Jvm.Cond) (a1 : Addr) (b : Addr) (k1 : ClassId) (x0 x1 x2 x3 : Int32) (h0 : Heap) (n0 : Nat) (Z0 : n0 ≤ h0.size)  (F_bytes_a1 : Fld Z h0 a1 "com/example/principal/principal/decision/IpAddress" "bytes" "[B" (.ref b)) (V_b : Arv Z h0 b k1 .byte (4 : Int32) [(.int x0), (.int x1), (.int x2), (.int x3)] (.int (0 : Int32))) :
    MetFree l (⟨"com/example/principal/principal/decision/IpAddress", "ipv4Bits", "()I"⟩ : MethodName) (head1 (Jvm.Cond.code (⟨"com/example/principal/principal/decision/IpAddress", "ipv4Bits", "()I"⟩ : MethodName) prog_31_method_5_code 3 (some .int) :: ws) ({ frames := 0, cells := 0, slots := 0, locals := 0 } : Room)) (fun a U => a = #[(.ref a1)] ∧ Z.Warmed39 U.vm ∧ U.heap = h0) (fun _ _ _ _ _ => True) (fun _ U o U' => ∃ v L, o = .returned v ∧ Q5 Z a1 b k1 x0 x1 x2 x3 h0 n0 v U'.heap L ∧ FrameEnd U o U' L ({ frames := 0, cells := 0, slots := 0, locals := 0 } : Room).cells ({ frames := 0, cells := 0, slots := 0, locals := 0 } : Room).slots) := by
  refine MetFree.of_bodySF (plainFor_of_name pn_5) hisR ?_
  intro p e s m args below meth c s₁ Bd hml0 hP hK
  obtain ⟨rfl, hZ, hh⟩ := hP
  have hx := Bd.exec
  have hby := Bd.bytes
  have hml : c.maxLocals = 3 := hml0
  have hown : s.vm.findClass "com/example/principal/principal/decision/IpAddress" = some m.cls := findClass_of_methodNamed Bd.named
  have hnm := (name_of_methodNamed Bd.named Bd.method).1
  have hlk := Bd.notSynchronized
  have hret := Bd.returns
  have X0 : Stand p l e ({ frames := 0, cells := 0, slots := 0, locals := 0 } : Room) s m #[(.ref a1)] below meth c s₁ [] 0 0 := Stand.of_body Bd
  have e0 : s₁.heap = h0 := by rw [← hh, Bd.state]; rfl
  have N0 := Fr.nil n0
  show own_G p e below (s₁.setTop (entryFrame m #[(.ref a1)] 3)) (fun s₂ o => ∃ v L, o = .returned v ∧ Q5 Z a1 b k1 x0 x1 x2 x3 h0 n0 v s₂.heap L ∧ FrameEnd s o s₂ L ({ frames := 0, cells := 0, slots := 0, locals := 0 } : Room).cells ({ frames := 0, cells := 0, slots := 0, locals := 0 } : Room).slots)
  refine own_go (fun t k => castTop (ef_5 m a1) k) ?_
  show own_G p e below (s₁.setTop (mkF m 0 #[.val (.ref a1), .unset, .unset] [])) _
  refine own_go (fun _ k => XS.iconst X0.here hx rfl (hb hby d5_0) k) ?_
  show own_G p e below (s₁.setTop (mkF m 1 #[.val (.ref a1), .unset, .unset] [(.int (0 : Int32))])) _
  refine own_go (fun _ k => XS.istoreN X0.here hx rfl (hb hby d5_1) rfl (l' := #[.val (.ref a1), .val (.int (0 : Int32)), .unset]) rfl k) ?_
  show own_G p e below (s₁.setTop (mkF m 2 #[.val (.ref a1), .val (.int (0 : Int32)), .unset] [])) _
  refine own_go (fun _ k => XS.iconst X0.here hx rfl (hb hby d5_2) k) ?_
  show own_G p e below (s₁.setTop (mkF m 3 #[.val (.ref a1), .val (.int (0 : Int32)), .unset] [(.int (0 : Int32))])) _
  refine own_go (fun _ k => XS.istoreN X0.here hx rfl (hb hby d5_3) rfl (l' := #[.val (.ref a1), .val (.int (0 : Int32)), .val (.int (0 : Int32))]) rfl k) ?_
  show own_G p e below (s₁.setTop (mkF m 4 #[.val (.ref a1), .val (.int (0 : Int32)), .val (.int (0 : Int32))] [])) _
  refine own_go (fun _ k => XS.iloadN X0.here hx rfl (hb hby d5_4) rfl k) ?_
  show own_G p e below (s₁.setTop (mkF m 5 #[.val (.ref a1), .val (.int (0 : Int32)), .val (.int (0 : Int32))] [(.int (0 : Int32))])) _
  refine own_go (fun _ k => XS.iconst X0.here hx rfl (hb hby d5_5) k) ?_
  show own_G p e below (s₁.setTop (mkF m 6 #[.val (.ref a1), .val (.int (0 : Int32)), .val (.int (0 : Int32))] [(.int (4 : Int32)), (.int (0 : Int32))])) _
  refine own_go (fun _ k => XS.icmpNo X0.here hx rfl (hb hby d5_6) rfl (tlt (by decide : (0 : Int32) < (4 : Int32))).2.1 k) ?_
  show own_G p e below (s₁.setTop (mkF m 9 #[.val (.ref a1), .val (.int (0 : Int32)), .val (.int (0 : Int32))] [])) _
  refine own_go (fun _ k => XS.iloadN X0.here hx rfl (hb hby d5_9) rfl k) ?_
  show own_G p e below (s₁.setTop (mkF m 10 #[.val (.ref a1), .val (.int (0 : Int32)), .val (.int (0 : Int32))] [(.int (0 : Int32))])) _
  refine own_go (fun _ k => XS.bipush X0.here hx rfl (hb hby d5_10) k) ?_
  show own_G p e below (s₁.setTop (mkF m 12 #[.val (.ref a1), .val (.int (0 : Int32)), .val (.int (0 : Int32))] [(.int (8 : Int32)), (.int (0 : Int32))])) _
  refine own_go (fun _ k => XS.ishl X0.here hx rfl (hb hby d5_12) rfl k) ?_
  show own_G p e below (s₁.setTop (mkF m 13 #[.val (.ref a1), .val (.int (0 : Int32)), .val (.int (0 : Int32))] [(.int ((0 : Int32) <<< ((8 : Int32) &&& 31)))])) _
  refine own_go (fun _ k => XS.aloadN X0.here hx rfl (hb hby d5_13) rfl rfl k) ?_
  show own_G p e below (s₁.setTop (mkF m 14 #[.val (.ref a1), .val (.int (0 : Int32)), .val (.int (0 : Int32))] [(.ref a1), (.int ((0 : Int32) <<< ((8 : Int32) &&& 31)))])) _
  obtain ⟨T70, X70, e70, st70⟩ := getF X0 hx hZ hown (host := "") (Or.inl (hw _ (List.mem_of_getElem? (i := 22) rfl))) Via.refl e0 F_bytes_a1 (g := (mkF m 14 #[.val (.ref a1), .val (.int (0 : Int32)), .val (.int (0 : Int32))] [(.ref a1), (.int ((0 : Int32) <<< ((8 : Int32) &&& 31)))])) rfl rfl (hb hby d5_14)
  refine own_go st70 ?_
  show own_G p e below (T70.setTop (mkF m 17 #[.val (.ref a1), .val (.int (0 : Int32)), .val (.int (0 : Int32))] [(.ref b), (.int ((0 : Int32) <<< ((8 : Int32) &&& 31)))])) _
  refine own_go (fun _ k => XS.iloadN X70.here hx rfl (hb hby d5_17) rfl k) ?_
  show own_G p e below (T70.setTop (mkF m 18 #[.val (.ref a1), .val (.int (0 : Int32)), .val (.int (0 : Int32))] [(.int (0 : Int32)), (.ref b), (.int ((0 : Int32) <<< ((8 : Int32) &&& 31)))])) _
  obtain ⟨cl71, Ar71, q71, S71, M71, B71, G71⟩ := id V_b
  have hin71 : ¬ ((0 : Int32) < 0 ∨ cl71.slots.size ≤ ((0 : Int32)).toNatClampNeg) := inb_of S71 ⟨by decide, by decide⟩
  have hat71 : cl71.slots[((0 : Int32)).toNatClampNeg]? = some (.int x0) := B71.at hin71 rfl
  refine own_go (X70.baloadBytes hx (j := (0 : Int32)) (v := (.int x0)) (by rw [e70]; exact Ar71.1) (State.isArrayOf_alike hZ.alike Ar71.2.1) Ar71.2.2 hin71 hat71 (g := (mkF m 18 #[.val (.ref a1), .val (.int (0 : Int32)), .val (.int (0 : Int32))] [(.int (0 : Int32)), (.ref b), (.int ((0 : Int32) <<< ((8 : Int32) &&& 31)))])) rfl rfl (hb hby d5_18)) ?_
  show own_G p e below (T70.setTop (mkF m 19 #[.val (.ref a1), .val (.int (0 : Int32)), .val (.int (0 : Int32))] [(.int x0), (.int ((0 : Int32) <<< ((8 : Int32) &&& 31)))])) _
  refine own_go (fun _ k => XS.sipush X70.here hx rfl (hb hby d5_19) k) ?_
  show own_G p e below (T70.setTop (mkF m 22 #[.val (.ref a1), .val (.int (0 : Int32)), .val (.int (0 : Int32))] [(.int (255 : Int32)), (.int x0), (.int ((0 : Int32) <<< ((8 : Int32) &&& 31)))])) _
  refine own_go (fun _ k => XS.iand X70.here hx rfl (hb hby d5_22) rfl k) ?_
  show own_G p e below (T70.setTop (mkF m 23 #[.val (.ref a1), .val (.int (0 : Int32)), .val (.int (0 : Int32))] [(.int (x0 &&& (255 : Int32))), (.int ((0 : Int32) <<< ((8 : Int32) &&& 31)))])) _
  refine own_go (fun _ k => XS.ior X70.here hx rfl (hb hby d5_23) rfl k) ?_
  show own_G p e below (T70.setTop (mkF m 24 #[.val (.ref a1), .val (.int (0 : Int32)), .val (.int (0 : Int32))] [(.int (((0 : Int32) <<< ((8 : Int32) &&& 31)) ||| (x0 &&& (255 : Int32))))])) _
  refine own_go (fun _ k => XS.istoreN X70.here hx rfl (hb hby d5_24) rfl (l' := #[.val (.ref a1), .val (.int (((0 : Int32) <<< ((8 : Int32) &&& 31)) ||| (x0 &&& (255 : Int32)))), .val (.int (0 : Int32))]) rfl k) ?_
  show own_G p e below (T70.setTop (mkF m 25 #[.val (.ref a1), .val (.int (((0 : Int32) <<< ((8 : Int32) &&& 31)) ||| (x0 &&& (255 : Int32)))), .val (.int (0 : Int32))] [])) _
  refine own_go (fun _ k => XS.iinc X70.here hx rfl (hb hby d5_25) rfl (l' := #[.val (.ref a1), .val (.int (((0 : Int32) <<< ((8 : Int32) &&& 31)) ||| (x0 &&& (255 : Int32)))), .val (.int (1 : Int32))]) rfl k) ?_
  show own_G p e below (T70.setTop (mkF m 28 #[.val (.ref a1), .val (.int (((0 : Int32) <<< ((8 : Int32) &&& 31)) ||| (x0 &&& (255 : Int32)))), .val (.int (1 : Int32))] [])) _
  refine own_go (fun _ k => XS.goto X70.here hx rfl (pc0 := 28) (pc' := 4) rfl (hb hby d5_28) (by decide) (by decide) k) ?_
  show own_G p e below (T70.setTop (mkF m 4 #[.val (.ref a1), .val (.int (((0 : Int32) <<< ((8 : Int32) &&& 31)) ||| (x0 &&& (255 : Int32)))), .val (.int (1 : Int32))] [])) _
  refine own_go (fun _ k => XS.iloadN X70.here hx rfl (hb hby d5_4) rfl k) ?_
  show own_G p e below (T70.setTop (mkF m 5 #[.val (.ref a1), .val (.int (((0 : Int32) <<< ((8 : Int32) &&& 31)) ||| (x0 &&& (255 : Int32)))), .val (.int (1 : Int32))] [(.int (1 : Int32))])) _
  refine own_go (fun _ k => XS.iconst X70.here hx rfl (hb hby d5_5) k) ?_
  show own_G p e below (T70.setTop (mkF m 6 #[.val (.ref a1), .val (.int (((0 : Int32) <<< ((8 : Int32) &&& 31)) ||| (x0 &&& (255 : Int32)))), .val (.int (1 : Int32))] [(.int (4 : Int32)), (.int (1 : Int32))])) _
  refine own_go (fun _ k => XS.icmpNo X70.here hx rfl (hb hby d5_6) rfl (tlt (by decide : (1 : Int32) < (4 : Int32))).2.1 k) ?_
  show own_G p e below (T70.setTop (mkF m 9 #[.val (.ref a1), .val (.int (((0 : Int32) <<< ((8 : Int32) &&& 31)) ||| (x0 &&& (255 : Int32)))), .val (.int (1 : Int32))] [])) _
  refine own_go (fun _ k => XS.iloadN X70.here hx rfl (hb hby d5_9) rfl k) ?_
  show own_G p e below (T70.setTop (mkF m 10 #[.val (.ref a1), .val (.int (((0 : Int32) <<< ((8 : Int32) &&& 31)) ||| (x0 &&& (255 : Int32)))), .val (.int (1 : Int32))] [(.int (((0 : Int32) <<< ((8 : Int32) &&& 31)) ||| (x0 &&& (255 : Int32))))])) _
  refine own_go (fun _ k => XS.bipush X70.here hx rfl (hb hby d5_10) k) ?_
  show own_G p e below (T70.setTop (mkF m 12 #[.val (.ref a1), .val (.int (((0 : Int32) <<< ((8 : Int32) &&& 31)) ||| (x0 &&& (255 : Int32)))), .val (.int (1 : Int32))] [(.int (8 : Int32)), (.int (((0 : Int32) <<< ((8 : Int32) &&& 31)) ||| (x0 &&& (255 : Int32))))])) _
  refine own_go (fun _ k => XS.ishl X70.here hx rfl (hb hby d5_12) rfl k) ?_
  show own_G p e below (T70.setTop (mkF m 13 #[.val (.ref a1), .val (.int (((0 : Int32) <<< ((8 : Int32) &&& 31)) ||| (x0 &&& (255 : Int32)))), .val (.int (1 : Int32))] [(.int ((((0 : Int32) <<< ((8 : Int32) &&& 31)) ||| (x0 &&& (255 : Int32))) <<< ((8 : Int32) &&& 31)))])) _
  refine own_go (fun _ k => XS.aloadN X70.here hx rfl (hb hby d5_13) rfl rfl k) ?_
  show own_G p e below (T70.setTop (mkF m 14 #[.val (.ref a1), .val (.int (((0 : Int32) <<< ((8 : Int32) &&& 31)) ||| (x0 &&& (255 : Int32)))), .val (.int (1 : Int32))] [(.ref a1), (.int ((((0 : Int32) <<< ((8 : Int32) &&& 31)) ||| (x0 &&& (255 : Int32))) <<< ((8 : Int32) &&& 31)))])) _
  obtain ⟨T72, X72, e72, st72⟩ := getF X70 hx hZ hown (host := "") (Or.inl (hw _ (List.mem_of_getElem? (i := 22) rfl))) Via.refl e70 F_bytes_a1 (g := (mkF m 14 #[.val (.ref a1), .val (.int (((0 : Int32) <<< ((8 : Int32) &&& 31)) ||| (x0 &&& (255 : Int32)))), .val (.int (1 : Int32))] [(.ref a1), (.int ((((0 : Int32) <<< ((8 : Int32) &&& 31)) ||| (x0 &&& (255 : Int32))) <<< ((8 : Int32) &&& 31)))])) rfl rfl (hb hby d5_14)
  refine own_go st72 ?_
  show own_G p e below (T72.setTop (mkF m 17 #[.val (.ref a1), .val (.int (((0 : Int32) <<< ((8 : Int32) &&& 31)) ||| (x0 &&& (255 : Int32)))), .val (.int (1 : Int32))] [(.ref b), (.int ((((0 : Int32) <<< ((8 : Int32) &&& 31)) ||| (x0 &&& (255 : Int32))) <<< ((8 : Int32) &&& 31)))])) _
  refine own_go (fun _ k => XS.iloadN X72.here hx rfl (hb hby d5_17) rfl k) ?_
  show own_G p e below (T72.setTop (mkF m 18 #[.val (.ref a1), .val (.int (((0 : Int32) <<< ((8 : Int32) &&& 31)) ||| (x0 &&& (255 : Int32)))), .val (.int (1 : Int32))] [(.int (1 : Int32)), (.ref b), (.int ((((0 : Int32) <<< ((8 : Int32) &&& 31)) ||| (x0 &&& (255 : Int32))) <<< ((8 : Int32) &&& 31)))])) _
  obtain ⟨cl73, Ar73, q73, S73, M73, B73, G73⟩ := id V_b
  have hin73 : ¬ ((1 : Int32) < 0 ∨ cl73.slots.size ≤ ((1 : Int32)).toNatClampNeg) := inb_of S73 ⟨by decide, by decide⟩
  have hat73 : cl73.slots[((1 : Int32)).toNatClampNeg]? = some (.int x1) := B73.at hin73 rfl
  refine own_go (X72.baloadBytes hx (j := (1 : Int32)) (v := (.int x1)) (by rw [e72]; exact Ar73.1) (State.isArrayOf_alike hZ.alike Ar73.2.1) Ar73.2.2 hin73 hat73 (g := (mkF m 18 #[.val (.ref a1), .val (.int (((0 : Int32) <<< ((8 : Int32) &&& 31)) ||| (x0 &&& (255 : Int32)))), .val (.int (1 : Int32))] [(.int (1 : Int32)), (.ref b), (.int ((((0 : Int32) <<< ((8 : Int32) &&& 31)) ||| (x0 &&& (255 : Int32))) <<< ((8 : Int32) &&& 31)))])) rfl rfl (hb hby d5_18)) ?_
  show own_G p e below (T72.setTop (mkF m 19 #[.val (.ref a1), .val (.int (((0 : Int32) <<< ((8 : Int32) &&& 31)) ||| (x0 &&& (255 : Int32)))), .val (.int (1 : Int32))] [(.int x1), (.int ((((0 : Int32) <<< ((8 : Int32) &&& 31)) ||| (x0 &&& (255 : Int32))) <<< ((8 : Int32) &&& 31)))])) _
  refine own_go (fun _ k => XS.sipush X72.here hx rfl (hb hby d5_19) k) ?_
  show own_G p e below (T72.setTop (mkF m 22 #[.val (.ref a1), .val (.int (((0 : Int32) <<< ((8 : Int32) &&& 31)) ||| (x0 &&& (255 : Int32)))), .val (.int (1 : Int32))] [(.int (255 : Int32)), (.int x1), (.int ((((0 : Int32) <<< ((8 : Int32) &&& 31)) ||| (x0 &&& (255 : Int32))) <<< ((8 : Int32) &&& 31)))])) _
  refine own_go (fun _ k => XS.iand X72.here hx rfl (hb hby d5_22) rfl k) ?_
  show own_G p e below (T72.setTop (mkF m 23 #[.val (.ref a1), .val (.int (((0 : Int32) <<< ((8 : Int32) &&& 31)) ||| (x0 &&& (255 : Int32)))), .val (.int (1 : Int32))] [(.int (x1 &&& (255 : Int32))), (.int ((((0 : Int32) <<< ((8 : Int32) &&& 31)) ||| (x0 &&& (255 : Int32))) <<< ((8 : Int32) &&& 31)))])) _
  refine own_go (fun _ k => XS.ior X72.here hx rfl (hb hby d5_23) rfl k) ?_
  show own_G p e below (T72.setTop (mkF m 24 #[.val (.ref a1), .val (.int (((0 : Int32) <<< ((8 : Int32) &&& 31)) ||| (x0 &&& (255 : Int32)))), .val (.int (1 : Int32))] [(.int (((((0 : Int32) <<< ((8 : Int32) &&& 31)) ||| (x0 &&& (255 : Int32))) <<< ((8 : Int32) &&& 31)) ||| (x1 &&& (255 : Int32))))])) _
  refine own_go (fun _ k => XS.istoreN X72.here hx rfl (hb hby d5_24) rfl (l' := #[.val (.ref a1), .val (.int (((((0 : Int32) <<< ((8 : Int32) &&& 31)) ||| (x0 &&& (255 : Int32))) <<< ((8 : Int32) &&& 31)) ||| (x1 &&& (255 : Int32)))), .val (.int (1 : Int32))]) rfl k) ?_
  show own_G p e below (T72.setTop (mkF m 25 #[.val (.ref a1), .val (.int (((((0 : Int32) <<< ((8 : Int32) &&& 31)) ||| (x0 &&& (255 : Int32))) <<< ((8 : Int32) &&& 31)) ||| (x1 &&& (255 : Int32)))), .val (.int (1 : Int32))] [])) _
  refine own_go (fun _ k => XS.iinc X72.here hx rfl (hb hby d5_25) rfl (l' := #[.val (.ref a1), .val (.int (((((0 : Int32) <<< ((8 : Int32) &&& 31)) ||| (x0 &&& (255 : Int32))) <<< ((8 : Int32) &&& 31)) ||| (x1 &&& (255 : Int32)))), .val (.int (2 : Int32))]) rfl k) ?_
  show own_G p e below (T72.setTop (mkF m 28 #[.val (.ref a1), .val (.int (((((0 : Int32) <<< ((8 : Int32) &&& 31)) ||| (x0 &&& (255 : Int32))) <<< ((8 : Int32) &&& 31)) ||| (x1 &&& (255 : Int32)))), .val (.int (2 : Int32))] [])) _
  refine own_go (fun _ k => XS.goto X72.here hx rfl (pc0 := 28) (pc' := 4) rfl (hb hby d5_28) (by decide) (by decide) k) ?_
  show own_G p e below (T72.setTop (mkF m 4 #[.val (.ref a1), .val (.int (((((0 : Int32) <<< ((8 : Int32) &&& 31)) ||| (x0 &&& (255 : Int32))) <<< ((8 : Int32) &&& 31)) ||| (x1 &&& (255 : Int32)))), .val (.int (2 : Int32))] [])) _
  refine own_go (fun _ k => XS.iloadN X72.here hx rfl (hb hby d5_4) rfl k) ?_
  show own_G p e below (T72.setTop (mkF m 5 #[.val (.ref a1), .val (.int (((((0 : Int32) <<< ((8 : Int32) &&& 31)) ||| (x0 &&& (255 : Int32))) <<< ((8 : Int32) &&& 31)) ||| (x1 &&& (255 : Int32)))), .val (.int (2 : Int32))] [(.int (2 : Int32))])) _
  refine own_go (fun _ k => XS.iconst X72.here hx rfl (hb hby d5_5) k) ?_
  show own_G p e below (T72.setTop (mkF m 6 #[.val (.ref a1), .val (.int (((((0 : Int32) <<< ((8 : Int32) &&& 31)) ||| (x0 &&& (255 : Int32))) <<< ((8 : Int32) &&& 31)) ||| (x1 &&& (255 : Int32)))), .val (.int (2 : Int32))] [(.int (4 : Int32)), (.int (2 : Int32))])) _
  refine own_go (fun _ k => XS.icmpNo X72.here hx rfl (hb hby d5_6) rfl (tlt (by decide : (2 : Int32) < (4 : Int32))).2.1 k) ?_
  show own_G p e below (T72.setTop (mkF m 9 #[.val (.ref a1), .val (.int (((((0 : Int32) <<< ((8 : Int32) &&& 31)) ||| (x0 &&& (255 : Int32))) <<< ((8 : Int32) &&& 31)) ||| (x1 &&& (255 : Int32)))), .val (.int (2 : Int32))] [])) _
  refine own_go (fun _ k => XS.iloadN X72.here hx rfl (hb hby d5_9) rfl k) ?_
  show own_G p e below (T72.setTop (mkF m 10 #[.val (.ref a1), .val (.int (((((0 : Int32) <<< ((8 : Int32) &&& 31)) ||| (x0 &&& (255 : Int32))) <<< ((8 : Int32) &&& 31)) ||| (x1 &&& (255 : Int32)))), .val (.int (2 : Int32))] [(.int (((((0 : Int32) <<< ((8 : Int32) &&& 31)) ||| (x0 &&& (255 : Int32))) <<< ((8 : Int32) &&& 31)) ||| (x1 &&& (255 : Int32))))])) _
  refine own_go (fun _ k => XS.bipush X72.here hx rfl (hb hby d5_10) k) ?_
  show own_G p e below (T72.setTop (mkF m 12 #[.val (.ref a1), .val (.int (((((0 : Int32) <<< ((8 : Int32) &&& 31)) ||| (x0 &&& (255 : Int32))) <<< ((8 : Int32) &&& 31)) ||| (x1 &&& (255 : Int32)))), .val (.int (2 : Int32))] [(.int (8 : Int32)), (.int (((((0 : Int32) <<< ((8 : Int32) &&& 31)) ||| (x0 &&& (255 : Int32))) <<< ((8 : Int32) &&& 31)) ||| (x1 &&& (255 : Int32))))])) _
  refine own_go (fun _ k => XS.ishl X72.here hx rfl (hb hby d5_12) rfl k) ?_
  show own_G p e below (T72.setTop (mkF m 13 #[.val (.ref a1), .val (.int (((((0 : Int32) <<< ((8 : Int32) &&& 31)) ||| (x0 &&& (255 : Int32))) <<< ((8 : Int32) &&& 31)) ||| (x1 &&& (255 : Int32)))), .val (.int (2 : Int32))] [(.int ((((((0 : Int32) <<< ((8 : Int32) &&& 31)) ||| (x0 &&& (255 : Int32))) <<< ((8 : Int32) &&& 31)) ||| (x1 &&& (255 : Int32))) <<< ((8 : Int32) &&& 31)))])) _
  refine own_go (fun _ k => XS.aloadN X72.here hx rfl (hb hby d5_13) rfl rfl k) ?_
  show own_G p e below (T72.setTop (mkF m 14 #[.val (.ref a1), .val (.int (((((0 : Int32) <<< ((8 : Int32) &&& 31)) ||| (x0 &&& (255 : Int32))) <<< ((8 : Int32) &&& 31)) ||| (x1 &&& (255 : Int32)))), .val (.int (2 : Int32))] [(.ref a1), (.int ((((((0 : Int32) <<< ((8 : Int32) &&& 31)) ||| (x0 &&& (255 : Int32))) <<< ((8 : Int32) &&& 31)) ||| (x1 &&& (255 : Int32))) <<< ((8 : Int32) &&& 31)))])) _
  obtain ⟨T74, X74, e74, st74⟩ := getF X72 hx hZ hown (host := "") (Or.inl (hw _ (List.mem_of_getElem? (i := 22) rfl))) Via.refl e72 F_bytes_a1 (g := (mkF m 14 #[.val (.ref a1), .val (.int (((((0 : Int32) <<< ((8 : Int32) &&& 31)) ||| (x0 &&& (255 : Int32))) <<< ((8 : Int32) &&& 31)) ||| (x1 &&& (255 : Int32)))), .val (.int (2 : Int32))] [(.ref a1), (.int ((((((0 : Int32) <<< ((8 : Int32) &&& 31)) ||| (x0 &&& (255 : Int32))) <<< ((8 : Int32) &&& 31)) ||| (x1 &&& (255 : Int32))) <<< ((8 : Int32) &&& 31)))])) rfl rfl (hb hby d5_14)
  refine own_go st74 ?_
  show own_G p e below (T74.setTop (mkF m 17 #[.val (.ref a1), .val (.int (((((0 : Int32) <<< ((8 : Int32) &&& 31)) ||| (x0 &&& (255 : Int32))) <<< ((8 : Int32) &&& 31)) ||| (x1 &&& (255 : Int32)))), .val (.int (2 : Int32))] [(.ref b), (.int ((((((0 : Int32) <<< ((8 : Int32) &&& 31)) ||| (x0 &&& (255 : Int32))) <<< ((8 : Int32) &&& 31)) ||| (x1 &&& (255 : Int32))) <<< ((8 : Int32) &&& 31)))])) _
  refine own_go (fun _ k => XS.iloadN X74.here hx rfl (hb hby d5_17) rfl k) ?_
  show own_G p e below (T74.setTop (mkF m 18 #[.val (.ref a1), .val (.int (((((0 : Int32) <<< ((8 : Int32) &&& 31)) ||| (x0 &&& (255 : Int32))) <<< ((8 : Int32) &&& 31)) ||| (x1 &&& (255 : Int32)))), .val (.int (2 : Int32))] [(.int (2 : Int32)), (.ref b), (.int ((((((0 : Int32) <<< ((8 : Int32) &&& 31)) ||| (x0 &&& (255 : Int32))) <<< ((8 : Int32) &&& 31)) ||| (x1 &&& (255 : Int32))) <<< ((8 : Int32) &&& 31)))])) _
  obtain ⟨cl75, Ar75, q75, S75, M75, B75, G75⟩ := id V_b
  have hin75 : ¬ ((2 : Int32) < 0 ∨ cl75.slots.size ≤ ((2 : Int32)).toNatClampNeg) := inb_of S75 ⟨by decide, by decide⟩
  have hat75 : cl75.slots[((2 : Int32)).toNatClampNeg]? = some (.int x2) := B75.at hin75 rfl
  refine own_go (X74.baloadBytes hx (j := (2 : Int32)) (v := (.int x2)) (by rw [e74]; exact Ar75.1) (State.isArrayOf_alike hZ.alike Ar75.2.1) Ar75.2.2 hin75 hat75 (g := (mkF m 18 #[.val (.ref a1), .val (.int (((((0 : Int32) <<< ((8 : Int32) &&& 31)) ||| (x0 &&& (255 : Int32))) <<< ((8 : Int32) &&& 31)) ||| (x1 &&& (255 : Int32)))), .val (.int (2 : Int32))] [(.int (2 : Int32)), (.ref b), (.int ((((((0 : Int32) <<< ((8 : Int32) &&& 31)) ||| (x0 &&& (255 : Int32))) <<< ((8 : Int32) &&& 31)) ||| (x1 &&& (255 : Int32))) <<< ((8 : Int32) &&& 31)))])) rfl rfl (hb hby d5_18)) ?_
  show own_G p e below (T74.setTop (mkF m 19 #[.val (.ref a1), .val (.int (((((0 : Int32) <<< ((8 : Int32) &&& 31)) ||| (x0 &&& (255 : Int32))) <<< ((8 : Int32) &&& 31)) ||| (x1 &&& (255 : Int32)))), .val (.int (2 : Int32))] [(.int x2), (.int ((((((0 : Int32) <<< ((8 : Int32) &&& 31)) ||| (x0 &&& (255 : Int32))) <<< ((8 : Int32) &&& 31)) ||| (x1 &&& (255 : Int32))) <<< ((8 : Int32) &&& 31)))])) _
  refine own_go (fun _ k => XS.sipush X74.here hx rfl (hb hby d5_19) k) ?_
  show own_G p e below (T74.setTop (mkF m 22 #[.val (.ref a1), .val (.int (((((0 : Int32) <<< ((8 : Int32) &&& 31)) ||| (x0 &&& (255 : Int32))) <<< ((8 : Int32) &&& 31)) ||| (x1 &&& (255 : Int32)))), .val (.int (2 : Int32))] [(.int (255 : Int32)), (.int x2), (.int ((((((0 : Int32) <<< ((8 : Int32) &&& 31)) ||| (x0 &&& (255 : Int32))) <<< ((8 : Int32) &&& 31)) ||| (x1 &&& (255 : Int32))) <<< ((8 : Int32) &&& 31)))])) _
  refine own_go (fun _ k => XS.iand X74.here hx rfl (hb hby d5_22) rfl k) ?_
  show own_G p e below (T74.setTop (mkF m 23 #[.val (.ref a1), .val (.int (((((0 : Int32) <<< ((8 : Int32) &&& 31)) ||| (x0 &&& (255 : Int32))) <<< ((8 : Int32) &&& 31)) ||| (x1 &&& (255 : Int32)))), .val (.int (2 : Int32))] [(.int (x2 &&& (255 : Int32))), (.int ((((((0 : Int32) <<< ((8 : Int32) &&& 31)) ||| (x0 &&& (255 : Int32))) <<< ((8 : Int32) &&& 31)) ||| (x1 &&& (255 : Int32))) <<< ((8 : Int32) &&& 31)))])) _
  refine own_go (fun _ k => XS.ior X74.here hx rfl (hb hby d5_23) rfl k) ?_
  show own_G p e below (T74.setTop (mkF m 24 #[.val (.ref a1), .val (.int (((((0 : Int32) <<< ((8 : Int32) &&& 31)) ||| (x0 &&& (255 : Int32))) <<< ((8 : Int32) &&& 31)) ||| (x1 &&& (255 : Int32)))), .val (.int (2 : Int32))] [(.int (((((((0 : Int32) <<< ((8 : Int32) &&& 31)) ||| (x0 &&& (255 : Int32))) <<< ((8 : Int32) &&& 31)) ||| (x1 &&& (255 : Int32))) <<< ((8 : Int32) &&& 31)) ||| (x2 &&& (255 : Int32))))])) _
  refine own_go (fun _ k => XS.istoreN X74.here hx rfl (hb hby d5_24) rfl (l' := #[.val (.ref a1), .val (.int (((((((0 : Int32) <<< ((8 : Int32) &&& 31)) ||| (x0 &&& (255 : Int32))) <<< ((8 : Int32) &&& 31)) ||| (x1 &&& (255 : Int32))) <<< ((8 : Int32) &&& 31)) ||| (x2 &&& (255 : Int32)))), .val (.int (2 : Int32))]) rfl k) ?_
  show own_G p e below (T74.setTop (mkF m 25 #[.val (.ref a1), .val (.int (((((((0 : Int32) <<< ((8 : Int32) &&& 31)) ||| (x0 &&& (255 : Int32))) <<< ((8 : Int32) &&& 31)) ||| (x1 &&& (255 : Int32))) <<< ((8 : Int32) &&& 31)) ||| (x2 &&& (255 : Int32)))), .val (.int (2 : Int32))] [])) _
  refine own_go (fun _ k => XS.iinc X74.here hx rfl (hb hby d5_25) rfl (l' := #[.val (.ref a1), .val (.int (((((((0 : Int32) <<< ((8 : Int32) &&& 31)) ||| (x0 &&& (255 : Int32))) <<< ((8 : Int32) &&& 31)) ||| (x1 &&& (255 : Int32))) <<< ((8 : Int32) &&& 31)) ||| (x2 &&& (255 : Int32)))), .val (.int (3 : Int32))]) rfl k) ?_
  show own_G p e below (T74.setTop (mkF m 28 #[.val (.ref a1), .val (.int (((((((0 : Int32) <<< ((8 : Int32) &&& 31)) ||| (x0 &&& (255 : Int32))) <<< ((8 : Int32) &&& 31)) ||| (x1 &&& (255 : Int32))) <<< ((8 : Int32) &&& 31)) ||| (x2 &&& (255 : Int32)))), .val (.int (3 : Int32))] [])) _
  refine own_go (fun _ k => XS.goto X74.here hx rfl (pc0 := 28) (pc' := 4) rfl (hb hby d5_28) (by decide) (by decide) k) ?_
  show own_G p e below (T74.setTop (mkF m 4 #[.val (.ref a1), .val (.int (((((((0 : Int32) <<< ((8 : Int32) &&& 31)) ||| (x0 &&& (255 : Int32))) <<< ((8 : Int32) &&& 31)) ||| (x1 &&& (255 : Int32))) <<< ((8 : Int32) &&& 31)) ||| (x2 &&& (255 : Int32)))), .val (.int (3 : Int32))] [])) _
  refine own_go (fun _ k => XS.iloadN X74.here hx rfl (hb hby d5_4) rfl k) ?_
  show own_G p e below (T74.setTop (mkF m 5 #[.val (.ref a1), .val (.int (((((((0 : Int32) <<< ((8 : Int32) &&& 31)) ||| (x0 &&& (255 : Int32))) <<< ((8 : Int32) &&& 31)) ||| (x1 &&& (255 : Int32))) <<< ((8 : Int32) &&& 31)) ||| (x2 &&& (255 : Int32)))), .val (.int (3 : Int32))] [(.int (3 : Int32))])) _
  refine own_go (fun _ k => XS.iconst X74.here hx rfl (hb hby d5_5) k) ?_
  show own_G p e below (T74.setTop (mkF m 6 #[.val (.ref a1), .val (.int (((((((0 : Int32) <<< ((8 : Int32) &&& 31)) ||| (x0 &&& (255 : Int32))) <<< ((8 : Int32) &&& 31)) ||| (x1 &&& (255 : Int32))) <<< ((8 : Int32) &&& 31)) ||| (x2 &&& (255 : Int32)))), .val (.int (3 : Int32))] [(.int (4 : Int32)), (.int (3 : Int32))])) _
  refine own_go (fun _ k => XS.icmpNo X74.here hx rfl (hb hby d5_6) rfl (tlt (by decide : (3 : Int32) < (4 : Int32))).2.1 k) ?_
  show own_G p e below (T74.setTop (mkF m 9 #[.val (.ref a1), .val (.int (((((((0 : Int32) <<< ((8 : Int32) &&& 31)) ||| (x0 &&& (255 : Int32))) <<< ((8 : Int32) &&& 31)) ||| (x1 &&& (255 : Int32))) <<< ((8 : Int32) &&& 31)) ||| (x2 &&& (255 : Int32)))), .val (.int (3 : Int32))] [])) _
  refine own_go (fun _ k => XS.iloadN X74.here hx rfl (hb hby d5_9) rfl k) ?_
  show own_G p e below (T74.setTop (mkF m 10 #[.val (.ref a1), .val (.int (((((((0 : Int32) <<< ((8 : Int32) &&& 31)) ||| (x0 &&& (255 : Int32))) <<< ((8 : Int32) &&& 31)) ||| (x1 &&& (255 : Int32))) <<< ((8 : Int32) &&& 31)) ||| (x2 &&& (255 : Int32)))), .val (.int (3 : Int32))] [(.int (((((((0 : Int32) <<< ((8 : Int32) &&& 31)) ||| (x0 &&& (255 : Int32))) <<< ((8 : Int32) &&& 31)) ||| (x1 &&& (255 : Int32))) <<< ((8 : Int32) &&& 31)) ||| (x2 &&& (255 : Int32))))])) _
  refine own_go (fun _ k => XS.bipush X74.here hx rfl (hb hby d5_10) k) ?_
  show own_G p e below (T74.setTop (mkF m 12 #[.val (.ref a1), .val (.int (((((((0 : Int32) <<< ((8 : Int32) &&& 31)) ||| (x0 &&& (255 : Int32))) <<< ((8 : Int32) &&& 31)) ||| (x1 &&& (255 : Int32))) <<< ((8 : Int32) &&& 31)) ||| (x2 &&& (255 : Int32)))), .val (.int (3 : Int32))] [(.int (8 : Int32)), (.int (((((((0 : Int32) <<< ((8 : Int32) &&& 31)) ||| (x0 &&& (255 : Int32))) <<< ((8 : Int32) &&& 31)) ||| (x1 &&& (255 : Int32))) <<< ((8 : Int32) &&& 31)) ||| (x2 &&& (255 : Int32))))])) _
  refine own_go (fun _ k => XS.ishl X74.here hx rfl (hb hby d5_12) rfl k) ?_
  show own_G p e below (T74.setTop (mkF m 13 #[.val (.ref a1), .val (.int (((((((0 : Int32) <<< ((8 : Int32) &&& 31)) ||| (x0 &&& (255 : Int32))) <<< ((8 : Int32) &&& 31)) ||| (x1 &&& (255 : Int32))) <<< ((8 : Int32) &&& 31)) ||| (x2 &&& (255 : Int32)))), .val (.int (3 : Int32))] [(.int ((((((((0 : Int32) <<< ((8 : Int32) &&& 31)) ||| (x0 &&& (255 : Int32))) <<< ((8 : Int32) &&& 31)) ||| (x1 &&& (255 : Int32))) <<< ((8 : Int32) &&& 31)) ||| (x2 &&& (255 : Int32))) <<< ((8 : Int32) &&& 31)))])) _
  refine own_go (fun _ k => XS.aloadN X74.here hx rfl (hb hby d5_13) rfl rfl k) ?_
  show own_G p e below (T74.setTop (mkF m 14 #[.val (.ref a1), .val (.int (((((((0 : Int32) <<< ((8 : Int32) &&& 31)) ||| (x0 &&& (255 : Int32))) <<< ((8 : Int32) &&& 31)) ||| (x1 &&& (255 : Int32))) <<< ((8 : Int32) &&& 31)) ||| (x2 &&& (255 : Int32)))), .val (.int (3 : Int32))] [(.ref a1), (.int ((((((((0 : Int32) <<< ((8 : Int32) &&& 31)) ||| (x0 &&& (255 : Int32))) <<< ((8 : Int32) &&& 31)) ||| (x1 &&& (255 : Int32))) <<< ((8 : Int32) &&& 31)) ||| (x2 &&& (255 : Int32))) <<< ((8 : Int32) &&& 31)))])) _
  obtain ⟨T76, X76, e76, st76⟩ := getF X74 hx hZ hown (host := "") (Or.inl (hw _ (List.mem_of_getElem? (i := 22) rfl))) Via.refl e74 F_bytes_a1 (g := (mkF m 14 #[.val (.ref a1), .val (.int (((((((0 : Int32) <<< ((8 : Int32) &&& 31)) ||| (x0 &&& (255 : Int32))) <<< ((8 : Int32) &&& 31)) ||| (x1 &&& (255 : Int32))) <<< ((8 : Int32) &&& 31)) ||| (x2 &&& (255 : Int32)))), .val (.int (3 : Int32))] [(.ref a1), (.int ((((((((0 : Int32) <<< ((8 : Int32) &&& 31)) ||| (x0 &&& (255 : Int32))) <<< ((8 : Int32) &&& 31)) ||| (x1 &&& (255 : Int32))) <<< ((8 : Int32) &&& 31)) ||| (x2 &&& (255 : Int32))) <<< ((8 : Int32) &&& 31)))])) rfl rfl (hb hby d5_14)
  refine own_go st76 ?_
  show own_G p e below (T76.setTop (mkF m 17 #[.val (.ref a1), .val (.int (((((((0 : Int32) <<< ((8 : Int32) &&& 31)) ||| (x0 &&& (255 : Int32))) <<< ((8 : Int32) &&& 31)) ||| (x1 &&& (255 : Int32))) <<< ((8 : Int32) &&& 31)) ||| (x2 &&& (255 : Int32)))), .val (.int (3 : Int32))] [(.ref b), (.int ((((((((0 : Int32) <<< ((8 : Int32) &&& 31)) ||| (x0 &&& (255 : Int32))) <<< ((8 : Int32) &&& 31)) ||| (x1 &&& (255 : Int32))) <<< ((8 : Int32) &&& 31)) ||| (x2 &&& (255 : Int32))) <<< ((8 : Int32) &&& 31)))])) _
  refine own_go (fun _ k => XS.iloadN X76.here hx rfl (hb hby d5_17) rfl k) ?_
  show own_G p e below (T76.setTop (mkF m 18 #[.val (.ref a1), .val (.int (((((((0 : Int32) <<< ((8 : Int32) &&& 31)) ||| (x0 &&& (255 : Int32))) <<< ((8 : Int32) &&& 31)) ||| (x1 &&& (255 : Int32))) <<< ((8 : Int32) &&& 31)) ||| (x2 &&& (255 : Int32)))), .val (.int (3 : Int32))] [(.int (3 : Int32)), (.ref b), (.int ((((((((0 : Int32) <<< ((8 : Int32) &&& 31)) ||| (x0 &&& (255 : Int32))) <<< ((8 : Int32) &&& 31)) ||| (x1 &&& (255 : Int32))) <<< ((8 : Int32) &&& 31)) ||| (x2 &&& (255 : Int32))) <<< ((8 : Int32) &&& 31)))])) _
  obtain ⟨cl77, Ar77, q77, S77, M77, B77, G77⟩ := id V_b
  have hin77 : ¬ ((3 : Int32) < 0 ∨ cl77.slots.size ≤ ((3 : Int32)).toNatClampNeg) := inb_of S77 ⟨by decide, by decide⟩
  have hat77 : cl77.slots[((3 : Int32)).toNatClampNeg]? = some (.int x3) := B77.at hin77 rfl
  refine own_go (X76.baloadBytes hx (j := (3 : Int32)) (v := (.int x3)) (by rw [e76]; exact Ar77.1) (State.isArrayOf_alike hZ.alike Ar77.2.1) Ar77.2.2 hin77 hat77 (g := (mkF m 18 #[.val (.ref a1), .val (.int (((((((0 : Int32) <<< ((8 : Int32) &&& 31)) ||| (x0 &&& (255 : Int32))) <<< ((8 : Int32) &&& 31)) ||| (x1 &&& (255 : Int32))) <<< ((8 : Int32) &&& 31)) ||| (x2 &&& (255 : Int32)))), .val (.int (3 : Int32))] [(.int (3 : Int32)), (.ref b), (.int ((((((((0 : Int32) <<< ((8 : Int32) &&& 31)) ||| (x0 &&& (255 : Int32))) <<< ((8 : Int32) &&& 31)) ||| (x1 &&& (255 : Int32))) <<< ((8 : Int32) &&& 31)) ||| (x2 &&& (255 : Int32))) <<< ((8 : Int32) &&& 31)))])) rfl rfl (hb hby d5_18)) ?_
  show own_G p e below (T76.setTop (mkF m 19 #[.val (.ref a1), .val (.int (((((((0 : Int32) <<< ((8 : Int32) &&& 31)) ||| (x0 &&& (255 : Int32))) <<< ((8 : Int32) &&& 31)) ||| (x1 &&& (255 : Int32))) <<< ((8 : Int32) &&& 31)) ||| (x2 &&& (255 : Int32)))), .val (.int (3 : Int32))] [(.int x3), (.int ((((((((0 : Int32) <<< ((8 : Int32) &&& 31)) ||| (x0 &&& (255 : Int32))) <<< ((8 : Int32) &&& 31)) ||| (x1 &&& (255 : Int32))) <<< ((8 : Int32) &&& 31)) ||| (x2 &&& (255 : Int32))) <<< ((8 : Int32) &&& 31)))])) _
  refine own_go (fun _ k => XS.sipush X76.here hx rfl (hb hby d5_19) k) ?_
  show own_G p e below (T76.setTop (mkF m 22 #[.val (.ref a1), .val (.int (((((((0 : Int32) <<< ((8 : Int32) &&& 31)) ||| (x0 &&& (255 : Int32))) <<< ((8 : Int32) &&& 31)) ||| (x1 &&& (255 : Int32))) <<< ((8 : Int32) &&& 31)) ||| (x2 &&& (255 : Int32)))), .val (.int (3 : Int32))] [(.int (255 : Int32)), (.int x3), (.int ((((((((0 : Int32) <<< ((8 : Int32) &&& 31)) ||| (x0 &&& (255 : Int32))) <<< ((8 : Int32) &&& 31)) ||| (x1 &&& (255 : Int32))) <<< ((8 : Int32) &&& 31)) ||| (x2 &&& (255 : Int32))) <<< ((8 : Int32) &&& 31)))])) _
  refine own_go (fun _ k => XS.iand X76.here hx rfl (hb hby d5_22) rfl k) ?_
  show own_G p e below (T76.setTop (mkF m 23 #[.val (.ref a1), .val (.int (((((((0 : Int32) <<< ((8 : Int32) &&& 31)) ||| (x0 &&& (255 : Int32))) <<< ((8 : Int32) &&& 31)) ||| (x1 &&& (255 : Int32))) <<< ((8 : Int32) &&& 31)) ||| (x2 &&& (255 : Int32)))), .val (.int (3 : Int32))] [(.int (x3 &&& (255 : Int32))), (.int ((((((((0 : Int32) <<< ((8 : Int32) &&& 31)) ||| (x0 &&& (255 : Int32))) <<< ((8 : Int32) &&& 31)) ||| (x1 &&& (255 : Int32))) <<< ((8 : Int32) &&& 31)) ||| (x2 &&& (255 : Int32))) <<< ((8 : Int32) &&& 31)))])) _
  refine own_go (fun _ k => XS.ior X76.here hx rfl (hb hby d5_23) rfl k) ?_
  show own_G p e below (T76.setTop (mkF m 24 #[.val (.ref a1), .val (.int (((((((0 : Int32) <<< ((8 : Int32) &&& 31)) ||| (x0 &&& (255 : Int32))) <<< ((8 : Int32) &&& 31)) ||| (x1 &&& (255 : Int32))) <<< ((8 : Int32) &&& 31)) ||| (x2 &&& (255 : Int32)))), .val (.int (3 : Int32))] [(.int (((((((((0 : Int32) <<< ((8 : Int32) &&& 31)) ||| (x0 &&& (255 : Int32))) <<< ((8 : Int32) &&& 31)) ||| (x1 &&& (255 : Int32))) <<< ((8 : Int32) &&& 31)) ||| (x2 &&& (255 : Int32))) <<< ((8 : Int32) &&& 31)) ||| (x3 &&& (255 : Int32))))])) _
  refine own_go (fun _ k => XS.istoreN X76.here hx rfl (hb hby d5_24) rfl (l' := #[.val (.ref a1), .val (.int (((((((((0 : Int32) <<< ((8 : Int32) &&& 31)) ||| (x0 &&& (255 : Int32))) <<< ((8 : Int32) &&& 31)) ||| (x1 &&& (255 : Int32))) <<< ((8 : Int32) &&& 31)) ||| (x2 &&& (255 : Int32))) <<< ((8 : Int32) &&& 31)) ||| (x3 &&& (255 : Int32)))), .val (.int (3 : Int32))]) rfl k) ?_
  show own_G p e below (T76.setTop (mkF m 25 #[.val (.ref a1), .val (.int (((((((((0 : Int32) <<< ((8 : Int32) &&& 31)) ||| (x0 &&& (255 : Int32))) <<< ((8 : Int32) &&& 31)) ||| (x1 &&& (255 : Int32))) <<< ((8 : Int32) &&& 31)) ||| (x2 &&& (255 : Int32))) <<< ((8 : Int32) &&& 31)) ||| (x3 &&& (255 : Int32)))), .val (.int (3 : Int32))] [])) _
  refine own_go (fun _ k => XS.iinc X76.here hx rfl (hb hby d5_25) rfl (l' := #[.val (.ref a1), .val (.int (((((((((0 : Int32) <<< ((8 : Int32) &&& 31)) ||| (x0 &&& (255 : Int32))) <<< ((8 : Int32) &&& 31)) ||| (x1 &&& (255 : Int32))) <<< ((8 : Int32) &&& 31)) ||| (x2 &&& (255 : Int32))) <<< ((8 : Int32) &&& 31)) ||| (x3 &&& (255 : Int32)))), .val (.int (4 : Int32))]) rfl k) ?_
  show own_G p e below (T76.setTop (mkF m 28 #[.val (.ref a1), .val (.int (((((((((0 : Int32) <<< ((8 : Int32) &&& 31)) ||| (x0 &&& (255 : Int32))) <<< ((8 : Int32) &&& 31)) ||| (x1 &&& (255 : Int32))) <<< ((8 : Int32) &&& 31)) ||| (x2 &&& (255 : Int32))) <<< ((8 : Int32) &&& 31)) ||| (x3 &&& (255 : Int32)))), .val (.int (4 : Int32))] [])) _
  refine own_go (fun _ k => XS.goto X76.here hx rfl (pc0 := 28) (pc' := 4) rfl (hb hby d5_28) (by decide) (by decide) k) ?_
  show own_G p e below (T76.setTop (mkF m 4 #[.val (.ref a1), .val (.int (((((((((0 : Int32) <<< ((8 : Int32) &&& 31)) ||| (x0 &&& (255 : Int32))) <<< ((8 : Int32) &&& 31)) ||| (x1 &&& (255 : Int32))) <<< ((8 : Int32) &&& 31)) ||| (x2 &&& (255 : Int32))) <<< ((8 : Int32) &&& 31)) ||| (x3 &&& (255 : Int32)))), .val (.int (4 : Int32))] [])) _
  refine own_go (fun _ k => XS.iloadN X76.here hx rfl (hb hby d5_4) rfl k) ?_
  show own_G p e below (T76.setTop (mkF m 5 #[.val (.ref a1), .val (.int (((((((((0 : Int32) <<< ((8 : Int32) &&& 31)) ||| (x0 &&& (255 : Int32))) <<< ((8 : Int32) &&& 31)) ||| (x1 &&& (255 : Int32))) <<< ((8 : Int32) &&& 31)) ||| (x2 &&& (255 : Int32))) <<< ((8 : Int32) &&& 31)) ||| (x3 &&& (255 : Int32)))), .val (.int (4 : Int32))] [(.int (4 : Int32))])) _
  refine own_go (fun _ k => XS.iconst X76.here hx rfl (hb hby d5_5) k) ?_
  show own_G p e below (T76.setTop (mkF m 6 #[.val (.ref a1), .val (.int (((((((((0 : Int32) <<< ((8 : Int32) &&& 31)) ||| (x0 &&& (255 : Int32))) <<< ((8 : Int32) &&& 31)) ||| (x1 &&& (255 : Int32))) <<< ((8 : Int32) &&& 31)) ||| (x2 &&& (255 : Int32))) <<< ((8 : Int32) &&& 31)) ||| (x3 &&& (255 : Int32)))), .val (.int (4 : Int32))] [(.int (4 : Int32)), (.int (4 : Int32))])) _
  refine own_go (fun _ k => XS.icmpYes X76.here hx rfl (pc0 := 6) (pc' := 31) rfl (hb hby d5_6) rfl (flt (by decide : ¬ ((4 : Int32) < (4 : Int32)))).2.1 (by decide) (by decide) k) ?_
  show own_G p e below (T76.setTop (mkF m 31 #[.val (.ref a1), .val (.int (((((((((0 : Int32) <<< ((8 : Int32) &&& 31)) ||| (x0 &&& (255 : Int32))) <<< ((8 : Int32) &&& 31)) ||| (x1 &&& (255 : Int32))) <<< ((8 : Int32) &&& 31)) ||| (x2 &&& (255 : Int32))) <<< ((8 : Int32) &&& 31)) ||| (x3 &&& (255 : Int32)))), .val (.int (4 : Int32))] [])) _
  refine own_go (fun _ k => XS.iloadN X76.here hx rfl (hb hby d5_31) rfl k) ?_
  show own_G p e below (T76.setTop (mkF m 32 #[.val (.ref a1), .val (.int (((((((((0 : Int32) <<< ((8 : Int32) &&& 31)) ||| (x0 &&& (255 : Int32))) <<< ((8 : Int32) &&& 31)) ||| (x1 &&& (255 : Int32))) <<< ((8 : Int32) &&& 31)) ||| (x2 &&& (255 : Int32))) <<< ((8 : Int32) &&& 31)) ||| (x3 &&& (255 : Int32)))), .val (.int (4 : Int32))] [(.int (((((((((0 : Int32) <<< ((8 : Int32) &&& 31)) ||| (x0 &&& (255 : Int32))) <<< ((8 : Int32) &&& 31)) ||| (x1 &&& (255 : Int32))) <<< ((8 : Int32) &&& 31)) ||| (x2 &&& (255 : Int32))) <<< ((8 : Int32) &&& 31)) ||| (x3 &&& (255 : Int32))))])) _
  refine own_ret X76 hlk (v := some (.int (((((((((0 : Int32) <<< ((8 : Int32) &&& 31)) ||| (x0 &&& (255 : Int32))) <<< ((8 : Int32) &&& 31)) ||| (x1 &&& (255 : Int32))) <<< ((8 : Int32) &&& 31)) ||| (x2 &&& (255 : Int32))) <<< ((8 : Int32) &&& 31)) ||| (x3 &&& (255 : Int32))))) (fun h => by rw [hret] at h; cases h) (Q5 Z a1 b k1 x0 x1 x2 x3 h0 n0) (own_retI X76 hx (t := .int) hret rfl (Or.inl ⟨rfl, by simp, _, rfl⟩) (hb hby d5_32)) (by decide) (by decide) ?_
  show Q5 Z a1 b k1 x0 x1 x2 x3 h0 n0 _ T76.heap _
  rw [e76]
  exact ⟨rfl, N0, rfl⟩
theorem ef_0 (m : MethodId) (p1 : Int32) (p2 : Int32) (p3 : Int32) (q4 : Int64) : entryFrame m #[(.int p1), (.int p2), (.int p3), (.long q4)] maxLocals = mkF m 0 #[.val (.int p1), .val (.int p2), .val (.int p3), .val (.long q4), .second, .unset, .unset, .unset, .unset, .unset, .unset, .unset] [] := by first | (simp [entryFrame, mkF, argsToLocals, Value.category, maxLocals]; done) | rfl
def Q0 (Z : State) (p1 : Int32) (p2 : Int32) (p3 : Int32) (q4 : Int64) (h0 : Heap) (n0 : Nat) (v : Option Value) (h : Heap) (L : List Loc) : Prop := v = some (.int (1 : Int32)) ∧ Fr n0 L
set_option maxRecDepth 65536 in
set_option maxHeartbeats 40000000 in
theorem rm0 (l : Launch) (Z : State) (a0 : Array Value) (hw : ∀ d ∈ tables_1, d.before a0 Z = true) (ws : List Jvm.Cond) (p1 : Int32) (p2 : Int32) (p3 : Int32) (q4 : Int64) (h0 : Heap) (n0 : Nat) (Z0 : n0 ≤ h0.size)  :
    MetFree l x (head1 (Jvm.Cond.code x code maxLocals ret :: ws) room_1) (fun a U => a = #[(.int p1), (.int p2), (.int p3), (.long q4)] ∧ Z.Warmed39 U.vm ∧ U.heap = h0) (fun _ _ _ _ _ => True) (fun _ U o U' => ∃ v L, o = .returned v ∧ Q0 Z p1 p2 p3 q4 h0 n0 v U'.heap L ∧ FrameEnd U o U' L room_1.cells room_1.slots) := by
  refine MetFree.of_bodySF (plainFor_of_name pn_0) hisR ?_
  intro p e s m args below meth c s₁ Bd hml0 hP hK
  obtain ⟨rfl, hZ, hh⟩ := hP
  have hx := Bd.exec
  have hby := Bd.bytes
  have hml : c.maxLocals = 12 := hml0
  have hown : s.vm.findClass "com/example/principal/principal/decision/IpAddressOfPinLaw" = some m.cls := findClass_of_methodNamed Bd.named
  have hnm := (name_of_methodNamed Bd.named Bd.method).1
  have hlk := Bd.notSynchronized
  have hret := Bd.returns
  have X0 : Stand p l e room_1 s m #[(.int p1), (.int p2), (.int p3), (.long q4)] below meth c s₁ [] 0 0 := Stand.of_body Bd
  have e0 : s₁.heap = h0 := by rw [← hh, Bd.state]; rfl
  have N0 := Fr.nil n0
  show own_G p e below (s₁.setTop (entryFrame m #[(.int p1), (.int p2), (.int p3), (.long q4)] maxLocals)) (fun s₂ o => ∃ v L, o = .returned v ∧ Q0 Z p1 p2 p3 q4 h0 n0 v s₂.heap L ∧ FrameEnd s o s₂ L room_1.cells room_1.slots)
  refine own_go (fun t k => castTop (ef_0 m p1 p2 p3 q4) k) ?_
  show own_G p e below (s₁.setTop (mkF m 0 #[.val (.int p1), .val (.int p2), .val (.int p3), .val (.long q4), .second, .unset, .unset, .unset, .unset, .unset, .unset, .unset] [])) _
  refine own_go (fun _ k => XS.iloadN X0.here hx rfl (hb hby at_0) rfl k) ?_
  show own_G p e below (s₁.setTop (mkF m 1 #[.val (.int p1), .val (.int p2), .val (.int p3), .val (.long q4), .second, .unset, .unset, .unset, .unset, .unset, .unset, .unset] [(.int p3)])) _
  refine own_go (fun _ k => XS.iconst X0.here hx rfl (hb hby at_1) k) ?_
  show own_G p e below (s₁.setTop (mkF m 2 #[.val (.int p1), .val (.int p2), .val (.int p3), .val (.long q4), .second, .unset, .unset, .unset, .unset, .unset, .unset, .unset] [(.int (1 : Int32)), (.int p3)])) _
  refine own_go (fun _ k => XS.iand X0.here hx rfl (hb hby at_2) rfl k) ?_
  show own_G p e below (s₁.setTop (mkF m 3 #[.val (.int p1), .val (.int p2), .val (.int p3), .val (.long q4), .second, .unset, .unset, .unset, .unset, .unset, .unset, .unset] [(.int (p3 &&& (1 : Int32)))])) _
  by_cases hc3_78 : (p3 &&& (1 : Int32)) = (0 : Int32)
  · refine own_go (fun _ k => XS.ifYes X0.here hx rfl (pc0 := 3) (pc' := 10) rfl (hb hby at_3) rfl ((if0 _ _).trans (teq hc3_78).1) (by decide) (by decide) k) ?_
    show own_G p e below (s₁.setTop (mkF m 10 #[.val (.int p1), .val (.int p2), .val (.int p3), .val (.long q4), .second, .unset, .unset, .unset, .unset, .unset, .unset, .unset] [])) _
    refine own_go (fun _ k => XS.iconst X0.here hx rfl (hb hby at_10) k) ?_
    show own_G p e below (s₁.setTop (mkF m 11 #[.val (.int p1), .val (.int p2), .val (.int p3), .val (.long q4), .second, .unset, .unset, .unset, .unset, .unset, .unset, .unset] [(.int (0 : Int32))])) _
    refine own_go (fun _ k => XS.istore X0.here hx rfl (hb hby at_11) rfl (l' := #[.val (.int p1), .val (.int p2), .val (.int p3), .val (.long q4), .second, .val (.int (0 : Int32)), .unset, .unset, .unset, .unset, .unset, .unset]) rfl k) ?_
    show own_G p e below (s₁.setTop (mkF m 13 #[.val (.int p1), .val (.int p2), .val (.int p3), .val (.long q4), .second, .val (.int (0 : Int32)), .unset, .unset, .unset, .unset, .unset, .unset] [])) _
    refine own_go (fun _ k => XS.iload X0.here hx rfl (hb hby at_13) rfl k) ?_
    show own_G p e below (s₁.setTop (mkF m 15 #[.val (.int p1), .val (.int p2), .val (.int p3), .val (.long q4), .second, .val (.int (0 : Int32)), .unset, .unset, .unset, .unset, .unset, .unset] [(.int (0 : Int32))])) _
    refine own_go (fun _ k => XS.ifYes X0.here hx rfl (pc0 := 15) (pc' := 24) rfl (hb hby at_15) rfl ((if0 _ _).trans (teq (by decide : (0 : Int32) = (0 : Int32))).1) (by decide) (by decide) k) ?_
    show own_G p e below (s₁.setTop (mkF m 24 #[.val (.int p1), .val (.int p2), .val (.int p3), .val (.long q4), .second, .val (.int (0 : Int32)), .unset, .unset, .unset, .unset, .unset, .unset] [])) _
    refine own_go (fun _ k => XS.bipush X0.here hx rfl (hb hby at_24) k) ?_
    show own_G p e below (s₁.setTop (mkF m 26 #[.val (.int p1), .val (.int p2), .val (.int p3), .val (.long q4), .second, .val (.int (0 : Int32)), .unset, .unset, .unset, .unset, .unset, .unset] [(.int (16 : Int32))])) _
    obtain ⟨T79, h79, k79, X79, e79, E79, A79, Y79, st79⟩ := newPE X0 hx hZ (hw _ (List.mem_of_getElem? (i := 0) rfl)) e0 (g := (mkF m 26 #[.val (.int p1), .val (.int p2), .val (.int p3), .val (.long q4), .second, .val (.int (0 : Int32)), .unset, .unset, .unset, .unset, .unset, .unset] [(.int (16 : Int32))])) rfl (hb hby at_26) rfl (by decide) (cap := 16) (by decide) (by decide) (by decide) (by decide) (ad := "[B") (by decide)
    obtain ⟨b79, g79⟩ : ∃ z, z = h0.size := ⟨_, rfl⟩
    rw [← g79] at A79 Y79 st79
    refine own_go st79 ?_
    have ge80 : n0 ≤ b79 := Nat.le_trans Z0 (Nat.le_of_eq g79.symm)
    have zs81 : n0 ≤ h79.size := Nat.le_trans Z0 E79.1
    have V79 : Arv Z h79 b79 k79 .byte (16 : Int32) [(.int (0 : Int32)), (.int (0 : Int32)), (.int (0 : Int32)), (.int (0 : Int32)), (.int (0 : Int32)), (.int (0 : Int32)), (.int (0 : Int32)), (.int (0 : Int32)), (.int (0 : Int32)), (.int (0 : Int32)), (.int (0 : Int32)), (.int (0 : Int32)), (.int (0 : Int32)), (.int (0 : Int32)), (.int (0 : Int32)), (.int (0 : Int32))] (.int (0 : Int32)) := (Arv.new A79 (by decide)).pad (pad_rep [] (.int (0 : Int32)) 16)
    show own_G p e below (T79.setTop (mkF m 28 #[.val (.int p1), .val (.int p2), .val (.int p3), .val (.long q4), .second, .val (.int (0 : Int32)), .unset, .unset, .unset, .unset, .unset, .unset] [(.ref b79)])) _
    refine own_go (fun _ k => XS.astore X79.here hx rfl (hb hby at_28) rfl rfl (l' := #[.val (.int p1), .val (.int p2), .val (.int p3), .val (.long q4), .second, .val (.int (0 : Int32)), .val (.ref b79), .unset, .unset, .unset, .unset, .unset]) rfl k) ?_
    show own_G p e below (T79.setTop (mkF m 30 #[.val (.int p1), .val (.int p2), .val (.int p3), .val (.long q4), .second, .val (.int (0 : Int32)), .val (.ref b79), .unset, .unset, .unset, .unset, .unset] [])) _
    refine own_go (fun _ k => XS.aload X79.here hx rfl (hb hby at_30) rfl rfl k) ?_
    show own_G p e below (T79.setTop (mkF m 32 #[.val (.int p1), .val (.int p2), .val (.int p3), .val (.long q4), .second, .val (.int (0 : Int32)), .val (.ref b79), .unset, .unset, .unset, .unset, .unset] [(.ref b79)])) _
    refine own_go (fun _ k => XS.iconst X79.here hx rfl (hb hby at_32) k) ?_
    show own_G p e below (T79.setTop (mkF m 33 #[.val (.int p1), .val (.int p2), .val (.int p3), .val (.long q4), .second, .val (.int (0 : Int32)), .val (.ref b79), .unset, .unset, .unset, .unset, .unset] [(.int (0 : Int32)), (.ref b79)])) _
    refine own_go (fun _ k => XS.iloadN X79.here hx rfl (hb hby at_33) rfl k) ?_
    show own_G p e below (T79.setTop (mkF m 34 #[.val (.int p1), .val (.int p2), .val (.int p3), .val (.long q4), .second, .val (.int (0 : Int32)), .val (.ref b79), .unset, .unset, .unset, .unset, .unset] [(.int p1), (.int (0 : Int32)), (.ref b79)])) _
    refine own_go (fun _ k => XS.bipush X79.here hx rfl (hb hby at_34) k) ?_
    show own_G p e below (T79.setTop (mkF m 36 #[.val (.int p1), .val (.int p2), .val (.int p3), .val (.long q4), .second, .val (.int (0 : Int32)), .val (.ref b79), .unset, .unset, .unset, .unset, .unset] [(.int (24 : Int32)), (.int p1), (.int (0 : Int32)), (.ref b79)])) _
    refine own_go (fun _ k => XT.iushr X79.here hx rfl (hb hby at_36) rfl k) ?_
    show own_G p e below (T79.setTop (mkF m 37 #[.val (.int p1), .val (.int p2), .val (.int p3), .val (.long q4), .second, .val (.int (0 : Int32)), .val (.ref b79), .unset, .unset, .unset, .unset, .unset] [(.int (XT.ushr p1 (24 : Int32))), (.int (0 : Int32)), (.ref b79)])) _
    refine own_go (fun _ k => XS.i2b X79.here hx rfl (hb hby at_37) rfl k) ?_
    show own_G p e below (T79.setTop (mkF m 38 #[.val (.int p1), .val (.int p2), .val (.int p3), .val (.long q4), .second, .val (.int (0 : Int32)), .val (.ref b79), .unset, .unset, .unset, .unset, .unset] [(.int ((XT.ushr p1 (24 : Int32)).toInt8.toInt32)), (.int (0 : Int32)), (.ref b79)])) _
    obtain ⟨cl82, Ar82, q82, S82, M82, B82, G82⟩ := id V79
    have hin82 : ¬ ((0 : Int32) < 0 ∨ cl82.slots.size ≤ ((0 : Int32)).toNatClampNeg) := inb_of S82 ⟨by decide, by decide⟩
    obtain ⟨T82, h82, X82, e82, W82, st82⟩ := stB X79 hx hZ e79 Ar82 (j := (0 : Int32)) hin82 (g := (mkF m 38 #[.val (.int p1), .val (.int p2), .val (.int p3), .val (.long q4), .second, .val (.int (0 : Int32)), .val (.ref b79), .unset, .unset, .unset, .unset, .unset] [(.int ((XT.ushr p1 (24 : Int32)).toInt8.toInt32)), (.int (0 : Int32)), (.ref b79)])) rfl rfl (hb hby at_38)
    refine own_go st82 ?_
    rw [show nar .byte ((XT.ushr p1 (24 : Int32)).toInt8.toInt32) = ((XT.ushr p1 (24 : Int32)).toInt8.toInt32) from (own_bb _)] at W82
    have f83 := Y79.wr W82
    have zs84 : n0 ≤ h82.size := Nat.le_trans zs81 (Keep.of_wr W82).1
    have V82 : Arv Z h82 b79 k79 .byte (16 : Int32) [(.int ((XT.ushr p1 (24 : Int32)).toInt8.toInt32)), (.int (0 : Int32)), (.int (0 : Int32)), (.int (0 : Int32)), (.int (0 : Int32)), (.int (0 : Int32)), (.int (0 : Int32)), (.int (0 : Int32)), (.int (0 : Int32)), (.int (0 : Int32)), (.int (0 : Int32)), (.int (0 : Int32)), (.int (0 : Int32)), (.int (0 : Int32)), (.int (0 : Int32)), (.int (0 : Int32))] (.int (0 : Int32)) := Arv.set Ar82 q82 S82 M82 B82 G82 (fits_nar_byte _) W82 0 rfl (Nat.le_of_ble_eq_true rfl)
    have N82 := Fr.snoc X82 N0 ge80
    show own_G p e below (T82.setTop (mkF m 39 #[.val (.int p1), .val (.int p2), .val (.int p3), .val (.long q4), .second, .val (.int (0 : Int32)), .val (.ref b79), .unset, .unset, .unset, .unset, .unset] [])) _
    refine own_go (fun _ k => XS.aload X82.here hx rfl (hb hby at_39) rfl rfl k) ?_
    show own_G p e below (T82.setTop (mkF m 41 #[.val (.int p1), .val (.int p2), .val (.int p3), .val (.long q4), .second, .val (.int (0 : Int32)), .val (.ref b79), .unset, .unset, .unset, .unset, .unset] [(.ref b79)])) _
    refine own_go (fun _ k => XS.iconst X82.here hx rfl (hb hby at_41) k) ?_
    show own_G p e below (T82.setTop (mkF m 42 #[.val (.int p1), .val (.int p2), .val (.int p3), .val (.long q4), .second, .val (.int (0 : Int32)), .val (.ref b79), .unset, .unset, .unset, .unset, .unset] [(.int (1 : Int32)), (.ref b79)])) _
    refine own_go (fun _ k => XS.iloadN X82.here hx rfl (hb hby at_42) rfl k) ?_
    show own_G p e below (T82.setTop (mkF m 43 #[.val (.int p1), .val (.int p2), .val (.int p3), .val (.long q4), .second, .val (.int (0 : Int32)), .val (.ref b79), .unset, .unset, .unset, .unset, .unset] [(.int p1), (.int (1 : Int32)), (.ref b79)])) _
    refine own_go (fun _ k => XS.bipush X82.here hx rfl (hb hby at_43) k) ?_
    show own_G p e below (T82.setTop (mkF m 45 #[.val (.int p1), .val (.int p2), .val (.int p3), .val (.long q4), .second, .val (.int (0 : Int32)), .val (.ref b79), .unset, .unset, .unset, .unset, .unset] [(.int (16 : Int32)), (.int p1), (.int (1 : Int32)), (.ref b79)])) _
    refine own_go (fun _ k => XT.iushr X82.here hx rfl (hb hby at_45) rfl k) ?_
    show own_G p e below (T82.setTop (mkF m 46 #[.val (.int p1), .val (.int p2), .val (.int p3), .val (.long q4), .second, .val (.int (0 : Int32)), .val (.ref b79), .unset, .unset, .unset, .unset, .unset] [(.int (XT.ushr p1 (16 : Int32))), (.int (1 : Int32)), (.ref b79)])) _
    refine own_go (fun _ k => XS.i2b X82.here hx rfl (hb hby at_46) rfl k) ?_
    show own_G p e below (T82.setTop (mkF m 47 #[.val (.int p1), .val (.int p2), .val (.int p3), .val (.long q4), .second, .val (.int (0 : Int32)), .val (.ref b79), .unset, .unset, .unset, .unset, .unset] [(.int ((XT.ushr p1 (16 : Int32)).toInt8.toInt32)), (.int (1 : Int32)), (.ref b79)])) _
    obtain ⟨cl85, Ar85, q85, S85, M85, B85, G85⟩ := id V82
    have hin85 : ¬ ((1 : Int32) < 0 ∨ cl85.slots.size ≤ ((1 : Int32)).toNatClampNeg) := inb_of S85 ⟨by decide, by decide⟩
    obtain ⟨T85, h85, X85, e85, W85, st85⟩ := stB X82 hx hZ e82 Ar85 (j := (1 : Int32)) hin85 (g := (mkF m 47 #[.val (.int p1), .val (.int p2), .val (.int p3), .val (.long q4), .second, .val (.int (0 : Int32)), .val (.ref b79), .unset, .unset, .unset, .unset, .unset] [(.int ((XT.ushr p1 (16 : Int32)).toInt8.toInt32)), (.int (1 : Int32)), (.ref b79)])) rfl rfl (hb hby at_47)
    refine own_go st85 ?_
    rw [show nar .byte ((XT.ushr p1 (16 : Int32)).toInt8.toInt32) = ((XT.ushr p1 (16 : Int32)).toInt8.toInt32) from (own_bb _)] at W85
    have f86 := f83.wr W85
    have zs87 : n0 ≤ h85.size := Nat.le_trans zs84 (Keep.of_wr W85).1
    have V85 : Arv Z h85 b79 k79 .byte (16 : Int32) [(.int ((XT.ushr p1 (24 : Int32)).toInt8.toInt32)), (.int ((XT.ushr p1 (16 : Int32)).toInt8.toInt32)), (.int (0 : Int32)), (.int (0 : Int32)), (.int (0 : Int32)), (.int (0 : Int32)), (.int (0 : Int32)), (.int (0 : Int32)), (.int (0 : Int32)), (.int (0 : Int32)), (.int (0 : Int32)), (.int (0 : Int32)), (.int (0 : Int32)), (.int (0 : Int32)), (.int (0 : Int32)), (.int (0 : Int32))] (.int (0 : Int32)) := Arv.set Ar85 q85 S85 M85 B85 G85 (fits_nar_byte _) W85 1 rfl (Nat.le_of_ble_eq_true rfl)
    have N85 := Fr.snoc X85 N82 ge80
    show own_G p e below (T85.setTop (mkF m 48 #[.val (.int p1), .val (.int p2), .val (.int p3), .val (.long q4), .second, .val (.int (0 : Int32)), .val (.ref b79), .unset, .unset, .unset, .unset, .unset] [])) _
    refine own_go (fun _ k => XS.aload X85.here hx rfl (hb hby at_48) rfl rfl k) ?_
    show own_G p e below (T85.setTop (mkF m 50 #[.val (.int p1), .val (.int p2), .val (.int p3), .val (.long q4), .second, .val (.int (0 : Int32)), .val (.ref b79), .unset, .unset, .unset, .unset, .unset] [(.ref b79)])) _
    refine own_go (fun _ k => XS.iconst X85.here hx rfl (hb hby at_50) k) ?_
    show own_G p e below (T85.setTop (mkF m 51 #[.val (.int p1), .val (.int p2), .val (.int p3), .val (.long q4), .second, .val (.int (0 : Int32)), .val (.ref b79), .unset, .unset, .unset, .unset, .unset] [(.int (2 : Int32)), (.ref b79)])) _
    refine own_go (fun _ k => XS.iloadN X85.here hx rfl (hb hby at_51) rfl k) ?_
    show own_G p e below (T85.setTop (mkF m 52 #[.val (.int p1), .val (.int p2), .val (.int p3), .val (.long q4), .second, .val (.int (0 : Int32)), .val (.ref b79), .unset, .unset, .unset, .unset, .unset] [(.int p1), (.int (2 : Int32)), (.ref b79)])) _
    refine own_go (fun _ k => XS.bipush X85.here hx rfl (hb hby at_52) k) ?_
    show own_G p e below (T85.setTop (mkF m 54 #[.val (.int p1), .val (.int p2), .val (.int p3), .val (.long q4), .second, .val (.int (0 : Int32)), .val (.ref b79), .unset, .unset, .unset, .unset, .unset] [(.int (8 : Int32)), (.int p1), (.int (2 : Int32)), (.ref b79)])) _
    refine own_go (fun _ k => XT.iushr X85.here hx rfl (hb hby at_54) rfl k) ?_
    show own_G p e below (T85.setTop (mkF m 55 #[.val (.int p1), .val (.int p2), .val (.int p3), .val (.long q4), .second, .val (.int (0 : Int32)), .val (.ref b79), .unset, .unset, .unset, .unset, .unset] [(.int (XT.ushr p1 (8 : Int32))), (.int (2 : Int32)), (.ref b79)])) _
    refine own_go (fun _ k => XS.i2b X85.here hx rfl (hb hby at_55) rfl k) ?_
    show own_G p e below (T85.setTop (mkF m 56 #[.val (.int p1), .val (.int p2), .val (.int p3), .val (.long q4), .second, .val (.int (0 : Int32)), .val (.ref b79), .unset, .unset, .unset, .unset, .unset] [(.int ((XT.ushr p1 (8 : Int32)).toInt8.toInt32)), (.int (2 : Int32)), (.ref b79)])) _
    obtain ⟨cl88, Ar88, q88, S88, M88, B88, G88⟩ := id V85
    have hin88 : ¬ ((2 : Int32) < 0 ∨ cl88.slots.size ≤ ((2 : Int32)).toNatClampNeg) := inb_of S88 ⟨by decide, by decide⟩
    obtain ⟨T88, h88, X88, e88, W88, st88⟩ := stB X85 hx hZ e85 Ar88 (j := (2 : Int32)) hin88 (g := (mkF m 56 #[.val (.int p1), .val (.int p2), .val (.int p3), .val (.long q4), .second, .val (.int (0 : Int32)), .val (.ref b79), .unset, .unset, .unset, .unset, .unset] [(.int ((XT.ushr p1 (8 : Int32)).toInt8.toInt32)), (.int (2 : Int32)), (.ref b79)])) rfl rfl (hb hby at_56)
    refine own_go st88 ?_
    rw [show nar .byte ((XT.ushr p1 (8 : Int32)).toInt8.toInt32) = ((XT.ushr p1 (8 : Int32)).toInt8.toInt32) from (own_bb _)] at W88
    have f89 := f86.wr W88
    have zs90 : n0 ≤ h88.size := Nat.le_trans zs87 (Keep.of_wr W88).1
    have V88 : Arv Z h88 b79 k79 .byte (16 : Int32) [(.int ((XT.ushr p1 (24 : Int32)).toInt8.toInt32)), (.int ((XT.ushr p1 (16 : Int32)).toInt8.toInt32)), (.int ((XT.ushr p1 (8 : Int32)).toInt8.toInt32)), (.int (0 : Int32)), (.int (0 : Int32)), (.int (0 : Int32)), (.int (0 : Int32)), (.int (0 : Int32)), (.int (0 : Int32)), (.int (0 : Int32)), (.int (0 : Int32)), (.int (0 : Int32)), (.int (0 : Int32)), (.int (0 : Int32)), (.int (0 : Int32)), (.int (0 : Int32))] (.int (0 : Int32)) := Arv.set Ar88 q88 S88 M88 B88 G88 (fits_nar_byte _) W88 2 rfl (Nat.le_of_ble_eq_true rfl)
    have N88 := Fr.snoc X88 N85 ge80
    show own_G p e below (T88.setTop (mkF m 57 #[.val (.int p1), .val (.int p2), .val (.int p3), .val (.long q4), .second, .val (.int (0 : Int32)), .val (.ref b79), .unset, .unset, .unset, .unset, .unset] [])) _
    refine own_go (fun _ k => XS.aload X88.here hx rfl (hb hby at_57) rfl rfl k) ?_
    show own_G p e below (T88.setTop (mkF m 59 #[.val (.int p1), .val (.int p2), .val (.int p3), .val (.long q4), .second, .val (.int (0 : Int32)), .val (.ref b79), .unset, .unset, .unset, .unset, .unset] [(.ref b79)])) _
    refine own_go (fun _ k => XS.iconst X88.here hx rfl (hb hby at_59) k) ?_
    show own_G p e below (T88.setTop (mkF m 60 #[.val (.int p1), .val (.int p2), .val (.int p3), .val (.long q4), .second, .val (.int (0 : Int32)), .val (.ref b79), .unset, .unset, .unset, .unset, .unset] [(.int (3 : Int32)), (.ref b79)])) _
    refine own_go (fun _ k => XS.iloadN X88.here hx rfl (hb hby at_60) rfl k) ?_
    show own_G p e below (T88.setTop (mkF m 61 #[.val (.int p1), .val (.int p2), .val (.int p3), .val (.long q4), .second, .val (.int (0 : Int32)), .val (.ref b79), .unset, .unset, .unset, .unset, .unset] [(.int p1), (.int (3 : Int32)), (.ref b79)])) _
    refine own_go (fun _ k => XS.i2b X88.here hx rfl (hb hby at_61) rfl k) ?_
    show own_G p e below (T88.setTop (mkF m 62 #[.val (.int p1), .val (.int p2), .val (.int p3), .val (.long q4), .second, .val (.int (0 : Int32)), .val (.ref b79), .unset, .unset, .unset, .unset, .unset] [(.int (p1.toInt8.toInt32)), (.int (3 : Int32)), (.ref b79)])) _
    obtain ⟨cl91, Ar91, q91, S91, M91, B91, G91⟩ := id V88
    have hin91 : ¬ ((3 : Int32) < 0 ∨ cl91.slots.size ≤ ((3 : Int32)).toNatClampNeg) := inb_of S91 ⟨by decide, by decide⟩
    obtain ⟨T91, h91, X91, e91, W91, st91⟩ := stB X88 hx hZ e88 Ar91 (j := (3 : Int32)) hin91 (g := (mkF m 62 #[.val (.int p1), .val (.int p2), .val (.int p3), .val (.long q4), .second, .val (.int (0 : Int32)), .val (.ref b79), .unset, .unset, .unset, .unset, .unset] [(.int (p1.toInt8.toInt32)), (.int (3 : Int32)), (.ref b79)])) rfl rfl (hb hby at_62)
    refine own_go st91 ?_
    rw [show nar .byte (p1.toInt8.toInt32) = (p1.toInt8.toInt32) from (own_bb _)] at W91
    have f92 := f89.wr W91
    have zs93 : n0 ≤ h91.size := Nat.le_trans zs90 (Keep.of_wr W91).1
    have V91 : Arv Z h91 b79 k79 .byte (16 : Int32) [(.int ((XT.ushr p1 (24 : Int32)).toInt8.toInt32)), (.int ((XT.ushr p1 (16 : Int32)).toInt8.toInt32)), (.int ((XT.ushr p1 (8 : Int32)).toInt8.toInt32)), (.int (p1.toInt8.toInt32)), (.int (0 : Int32)), (.int (0 : Int32)), (.int (0 : Int32)), (.int (0 : Int32)), (.int (0 : Int32)), (.int (0 : Int32)), (.int (0 : Int32)), (.int (0 : Int32)), (.int (0 : Int32)), (.int (0 : Int32)), (.int (0 : Int32)), (.int (0 : Int32))] (.int (0 : Int32)) := Arv.set Ar91 q91 S91 M91 B91 G91 (fits_nar_byte _) W91 3 rfl (Nat.le_of_ble_eq_true rfl)
    have N91 := Fr.snoc X91 N88 ge80
    show own_G p e below (T91.setTop (mkF m 63 #[.val (.int p1), .val (.int p2), .val (.int p3), .val (.long q4), .second, .val (.int (0 : Int32)), .val (.ref b79), .unset, .unset, .unset, .unset, .unset] [])) _
    refine own_go (fun _ k => XS.iload X91.here hx rfl (hb hby at_63) rfl k) ?_
    show own_G p e below (T91.setTop (mkF m 65 #[.val (.int p1), .val (.int p2), .val (.int p3), .val (.long q4), .second, .val (.int (0 : Int32)), .val (.ref b79), .unset, .unset, .unset, .unset, .unset] [(.int (0 : Int32))])) _
    refine own_go (fun _ k => XS.ifNo X91.here hx rfl (hb hby at_65) rfl ((if0 _ _).trans (teq (by decide : (0 : Int32) = (0 : Int32))).2) k) ?_
    show own_G p e below (T91.setTop (mkF m 68 #[.val (.int p1), .val (.int p2), .val (.int p3), .val (.long q4), .second, .val (.int (0 : Int32)), .val (.ref b79), .unset, .unset, .unset, .unset, .unset] [])) _
    refine own_go (fun _ k => XS.aload X91.here hx rfl (hb hby at_68) rfl rfl k) ?_
    show own_G p e below (T91.setTop (mkF m 70 #[.val (.int p1), .val (.int p2), .val (.int p3), .val (.long q4), .second, .val (.int (0 : Int32)), .val (.ref b79), .unset, .unset, .unset, .unset, .unset] [(.ref b79)])) _
    refine own_go (fun _ k => XS.iconst X91.here hx rfl (hb hby at_70) k) ?_
    show own_G p e below (T91.setTop (mkF m 71 #[.val (.int p1), .val (.int p2), .val (.int p3), .val (.long q4), .second, .val (.int (0 : Int32)), .val (.ref b79), .unset, .unset, .unset, .unset, .unset] [(.int (4 : Int32)), (.ref b79)])) _
    refine own_go (fun _ k => XS.lloadN X91.here hx rfl (hb hby at_71) rfl k) ?_
    show own_G p e below (T91.setTop (mkF m 72 #[.val (.int p1), .val (.int p2), .val (.int p3), .val (.long q4), .second, .val (.int (0 : Int32)), .val (.ref b79), .unset, .unset, .unset, .unset, .unset] [(.long q4), (.int (4 : Int32)), (.ref b79)])) _
    refine own_go (fun _ k => XS.bipush X91.here hx rfl (hb hby at_72) k) ?_
    show own_G p e below (T91.setTop (mkF m 74 #[.val (.int p1), .val (.int p2), .val (.int p3), .val (.long q4), .second, .val (.int (0 : Int32)), .val (.ref b79), .unset, .unset, .unset, .unset, .unset] [(.int (56 : Int32)), (.long q4), (.int (4 : Int32)), (.ref b79)])) _
    refine own_go (fun _ k => XT.lushr X91.here hx rfl (hb hby at_74) rfl k) ?_
    show own_G p e below (T91.setTop (mkF m 75 #[.val (.int p1), .val (.int p2), .val (.int p3), .val (.long q4), .second, .val (.int (0 : Int32)), .val (.ref b79), .unset, .unset, .unset, .unset, .unset] [(.long (XT.ushrL q4 (56 : Int32))), (.int (4 : Int32)), (.ref b79)])) _
    refine own_go (fun _ k => XS.l2i X91.here hx rfl (hb hby at_75) rfl k) ?_
    show own_G p e below (T91.setTop (mkF m 76 #[.val (.int p1), .val (.int p2), .val (.int p3), .val (.long q4), .second, .val (.int (0 : Int32)), .val (.ref b79), .unset, .unset, .unset, .unset, .unset] [(.int ((XT.ushrL q4 (56 : Int32)).toInt32)), (.int (4 : Int32)), (.ref b79)])) _
    refine own_go (fun _ k => XS.i2b X91.here hx rfl (hb hby at_76) rfl k) ?_
    show own_G p e below (T91.setTop (mkF m 77 #[.val (.int p1), .val (.int p2), .val (.int p3), .val (.long q4), .second, .val (.int (0 : Int32)), .val (.ref b79), .unset, .unset, .unset, .unset, .unset] [(.int (((XT.ushrL q4 (56 : Int32)).toInt32).toInt8.toInt32)), (.int (4 : Int32)), (.ref b79)])) _
    obtain ⟨cl94, Ar94, q94, S94, M94, B94, G94⟩ := id V91
    have hin94 : ¬ ((4 : Int32) < 0 ∨ cl94.slots.size ≤ ((4 : Int32)).toNatClampNeg) := inb_of S94 ⟨by decide, by decide⟩
    obtain ⟨T94, h94, X94, e94, W94, st94⟩ := stB X91 hx hZ e91 Ar94 (j := (4 : Int32)) hin94 (g := (mkF m 77 #[.val (.int p1), .val (.int p2), .val (.int p3), .val (.long q4), .second, .val (.int (0 : Int32)), .val (.ref b79), .unset, .unset, .unset, .unset, .unset] [(.int (((XT.ushrL q4 (56 : Int32)).toInt32).toInt8.toInt32)), (.int (4 : Int32)), (.ref b79)])) rfl rfl (hb hby at_77)
    refine own_go st94 ?_
    rw [show nar .byte (((XT.ushrL q4 (56 : Int32)).toInt32).toInt8.toInt32) = (((XT.ushrL q4 (56 : Int32)).toInt32).toInt8.toInt32) from (own_bb _)] at W94
    have f95 := f92.wr W94
    have zs96 : n0 ≤ h94.size := Nat.le_trans zs93 (Keep.of_wr W94).1
    have V94 : Arv Z h94 b79 k79 .byte (16 : Int32) [(.int ((XT.ushr p1 (24 : Int32)).toInt8.toInt32)), (.int ((XT.ushr p1 (16 : Int32)).toInt8.toInt32)), (.int ((XT.ushr p1 (8 : Int32)).toInt8.toInt32)), (.int (p1.toInt8.toInt32)), (.int (((XT.ushrL q4 (56 : Int32)).toInt32).toInt8.toInt32)), (.int (0 : Int32)), (.int (0 : Int32)), (.int (0 : Int32)), (.int (0 : Int32)), (.int (0 : Int32)), (.int (0 : Int32)), (.int (0 : Int32)), (.int (0 : Int32)), (.int (0 : Int32)), (.int (0 : Int32)), (.int (0 : Int32))] (.int (0 : Int32)) := Arv.set Ar94 q94 S94 M94 B94 G94 (fits_nar_byte _) W94 4 rfl (Nat.le_of_ble_eq_true rfl)
    have N94 := Fr.snoc X94 N91 ge80
    show own_G p e below (T94.setTop (mkF m 78 #[.val (.int p1), .val (.int p2), .val (.int p3), .val (.long q4), .second, .val (.int (0 : Int32)), .val (.ref b79), .unset, .unset, .unset, .unset, .unset] [])) _
    refine own_go (fun _ k => XS.aload X94.here hx rfl (hb hby at_78) rfl rfl k) ?_
    show own_G p e below (T94.setTop (mkF m 80 #[.val (.int p1), .val (.int p2), .val (.int p3), .val (.long q4), .second, .val (.int (0 : Int32)), .val (.ref b79), .unset, .unset, .unset, .unset, .unset] [(.ref b79)])) _
    refine own_go (fun _ k => XS.iconst X94.here hx rfl (hb hby at_80) k) ?_
    show own_G p e below (T94.setTop (mkF m 81 #[.val (.int p1), .val (.int p2), .val (.int p3), .val (.long q4), .second, .val (.int (0 : Int32)), .val (.ref b79), .unset, .unset, .unset, .unset, .unset] [(.int (5 : Int32)), (.ref b79)])) _
    refine own_go (fun _ k => XS.lloadN X94.here hx rfl (hb hby at_81) rfl k) ?_
    show own_G p e below (T94.setTop (mkF m 82 #[.val (.int p1), .val (.int p2), .val (.int p3), .val (.long q4), .second, .val (.int (0 : Int32)), .val (.ref b79), .unset, .unset, .unset, .unset, .unset] [(.long q4), (.int (5 : Int32)), (.ref b79)])) _
    refine own_go (fun _ k => XS.bipush X94.here hx rfl (hb hby at_82) k) ?_
    show own_G p e below (T94.setTop (mkF m 84 #[.val (.int p1), .val (.int p2), .val (.int p3), .val (.long q4), .second, .val (.int (0 : Int32)), .val (.ref b79), .unset, .unset, .unset, .unset, .unset] [(.int (48 : Int32)), (.long q4), (.int (5 : Int32)), (.ref b79)])) _
    refine own_go (fun _ k => XT.lushr X94.here hx rfl (hb hby at_84) rfl k) ?_
    show own_G p e below (T94.setTop (mkF m 85 #[.val (.int p1), .val (.int p2), .val (.int p3), .val (.long q4), .second, .val (.int (0 : Int32)), .val (.ref b79), .unset, .unset, .unset, .unset, .unset] [(.long (XT.ushrL q4 (48 : Int32))), (.int (5 : Int32)), (.ref b79)])) _
    refine own_go (fun _ k => XS.l2i X94.here hx rfl (hb hby at_85) rfl k) ?_
    show own_G p e below (T94.setTop (mkF m 86 #[.val (.int p1), .val (.int p2), .val (.int p3), .val (.long q4), .second, .val (.int (0 : Int32)), .val (.ref b79), .unset, .unset, .unset, .unset, .unset] [(.int ((XT.ushrL q4 (48 : Int32)).toInt32)), (.int (5 : Int32)), (.ref b79)])) _
    refine own_go (fun _ k => XS.i2b X94.here hx rfl (hb hby at_86) rfl k) ?_
    show own_G p e below (T94.setTop (mkF m 87 #[.val (.int p1), .val (.int p2), .val (.int p3), .val (.long q4), .second, .val (.int (0 : Int32)), .val (.ref b79), .unset, .unset, .unset, .unset, .unset] [(.int (((XT.ushrL q4 (48 : Int32)).toInt32).toInt8.toInt32)), (.int (5 : Int32)), (.ref b79)])) _
    obtain ⟨cl97, Ar97, q97, S97, M97, B97, G97⟩ := id V94
    have hin97 : ¬ ((5 : Int32) < 0 ∨ cl97.slots.size ≤ ((5 : Int32)).toNatClampNeg) := inb_of S97 ⟨by decide, by decide⟩
    obtain ⟨T97, h97, X97, e97, W97, st97⟩ := stB X94 hx hZ e94 Ar97 (j := (5 : Int32)) hin97 (g := (mkF m 87 #[.val (.int p1), .val (.int p2), .val (.int p3), .val (.long q4), .second, .val (.int (0 : Int32)), .val (.ref b79), .unset, .unset, .unset, .unset, .unset] [(.int (((XT.ushrL q4 (48 : Int32)).toInt32).toInt8.toInt32)), (.int (5 : Int32)), (.ref b79)])) rfl rfl (hb hby at_87)
    refine own_go st97 ?_
    rw [show nar .byte (((XT.ushrL q4 (48 : Int32)).toInt32).toInt8.toInt32) = (((XT.ushrL q4 (48 : Int32)).toInt32).toInt8.toInt32) from (own_bb _)] at W97
    have f98 := f95.wr W97
    have zs99 : n0 ≤ h97.size := Nat.le_trans zs96 (Keep.of_wr W97).1
    have V97 : Arv Z h97 b79 k79 .byte (16 : Int32) [(.int ((XT.ushr p1 (24 : Int32)).toInt8.toInt32)), (.int ((XT.ushr p1 (16 : Int32)).toInt8.toInt32)), (.int ((XT.ushr p1 (8 : Int32)).toInt8.toInt32)), (.int (p1.toInt8.toInt32)), (.int (((XT.ushrL q4 (56 : Int32)).toInt32).toInt8.toInt32)), (.int (((XT.ushrL q4 (48 : Int32)).toInt32).toInt8.toInt32)), (.int (0 : Int32)), (.int (0 : Int32)), (.int (0 : Int32)), (.int (0 : Int32)), (.int (0 : Int32)), (.int (0 : Int32)), (.int (0 : Int32)), (.int (0 : Int32)), (.int (0 : Int32)), (.int (0 : Int32))] (.int (0 : Int32)) := Arv.set Ar97 q97 S97 M97 B97 G97 (fits_nar_byte _) W97 5 rfl (Nat.le_of_ble_eq_true rfl)
    have N97 := Fr.snoc X97 N94 ge80
    show own_G p e below (T97.setTop (mkF m 88 #[.val (.int p1), .val (.int p2), .val (.int p3), .val (.long q4), .second, .val (.int (0 : Int32)), .val (.ref b79), .unset, .unset, .unset, .unset, .unset] [])) _
    refine own_go (fun _ k => XS.aload X97.here hx rfl (hb hby at_88) rfl rfl k) ?_
    show own_G p e below (T97.setTop (mkF m 90 #[.val (.int p1), .val (.int p2), .val (.int p3), .val (.long q4), .second, .val (.int (0 : Int32)), .val (.ref b79), .unset, .unset, .unset, .unset, .unset] [(.ref b79)])) _
    refine own_go (fun _ k => XS.bipush X97.here hx rfl (hb hby at_90) k) ?_
    show own_G p e below (T97.setTop (mkF m 92 #[.val (.int p1), .val (.int p2), .val (.int p3), .val (.long q4), .second, .val (.int (0 : Int32)), .val (.ref b79), .unset, .unset, .unset, .unset, .unset] [(.int (6 : Int32)), (.ref b79)])) _
    refine own_go (fun _ k => XS.lloadN X97.here hx rfl (hb hby at_92) rfl k) ?_
    show own_G p e below (T97.setTop (mkF m 93 #[.val (.int p1), .val (.int p2), .val (.int p3), .val (.long q4), .second, .val (.int (0 : Int32)), .val (.ref b79), .unset, .unset, .unset, .unset, .unset] [(.long q4), (.int (6 : Int32)), (.ref b79)])) _
    refine own_go (fun _ k => XS.bipush X97.here hx rfl (hb hby at_93) k) ?_
    show own_G p e below (T97.setTop (mkF m 95 #[.val (.int p1), .val (.int p2), .val (.int p3), .val (.long q4), .second, .val (.int (0 : Int32)), .val (.ref b79), .unset, .unset, .unset, .unset, .unset] [(.int (40 : Int32)), (.long q4), (.int (6 : Int32)), (.ref b79)])) _
    refine own_go (fun _ k => XT.lushr X97.here hx rfl (hb hby at_95) rfl k) ?_
    show own_G p e below (T97.setTop (mkF m 96 #[.val (.int p1), .val (.int p2), .val (.int p3), .val (.long q4), .second, .val (.int (0 : Int32)), .val (.ref b79), .unset, .unset, .unset, .unset, .unset] [(.long (XT.ushrL q4 (40 : Int32))), (.int (6 : Int32)), (.ref b79)])) _
    refine own_go (fun _ k => XS.l2i X97.here hx rfl (hb hby at_96) rfl k) ?_
    show own_G p e below (T97.setTop (mkF m 97 #[.val (.int p1), .val (.int p2), .val (.int p3), .val (.long q4), .second, .val (.int (0 : Int32)), .val (.ref b79), .unset, .unset, .unset, .unset, .unset] [(.int ((XT.ushrL q4 (40 : Int32)).toInt32)), (.int (6 : Int32)), (.ref b79)])) _
    refine own_go (fun _ k => XS.i2b X97.here hx rfl (hb hby at_97) rfl k) ?_
    show own_G p e below (T97.setTop (mkF m 98 #[.val (.int p1), .val (.int p2), .val (.int p3), .val (.long q4), .second, .val (.int (0 : Int32)), .val (.ref b79), .unset, .unset, .unset, .unset, .unset] [(.int (((XT.ushrL q4 (40 : Int32)).toInt32).toInt8.toInt32)), (.int (6 : Int32)), (.ref b79)])) _
    obtain ⟨cl100, Ar100, q100, S100, M100, B100, G100⟩ := id V97
    have hin100 : ¬ ((6 : Int32) < 0 ∨ cl100.slots.size ≤ ((6 : Int32)).toNatClampNeg) := inb_of S100 ⟨by decide, by decide⟩
    obtain ⟨T100, h100, X100, e100, W100, st100⟩ := stB X97 hx hZ e97 Ar100 (j := (6 : Int32)) hin100 (g := (mkF m 98 #[.val (.int p1), .val (.int p2), .val (.int p3), .val (.long q4), .second, .val (.int (0 : Int32)), .val (.ref b79), .unset, .unset, .unset, .unset, .unset] [(.int (((XT.ushrL q4 (40 : Int32)).toInt32).toInt8.toInt32)), (.int (6 : Int32)), (.ref b79)])) rfl rfl (hb hby at_98)
    refine own_go st100 ?_
    rw [show nar .byte (((XT.ushrL q4 (40 : Int32)).toInt32).toInt8.toInt32) = (((XT.ushrL q4 (40 : Int32)).toInt32).toInt8.toInt32) from (own_bb _)] at W100
    have f101 := f98.wr W100
    have zs102 : n0 ≤ h100.size := Nat.le_trans zs99 (Keep.of_wr W100).1
    have V100 : Arv Z h100 b79 k79 .byte (16 : Int32) [(.int ((XT.ushr p1 (24 : Int32)).toInt8.toInt32)), (.int ((XT.ushr p1 (16 : Int32)).toInt8.toInt32)), (.int ((XT.ushr p1 (8 : Int32)).toInt8.toInt32)), (.int (p1.toInt8.toInt32)), (.int (((XT.ushrL q4 (56 : Int32)).toInt32).toInt8.toInt32)), (.int (((XT.ushrL q4 (48 : Int32)).toInt32).toInt8.toInt32)), (.int (((XT.ushrL q4 (40 : Int32)).toInt32).toInt8.toInt32)), (.int (0 : Int32)), (.int (0 : Int32)), (.int (0 : Int32)), (.int (0 : Int32)), (.int (0 : Int32)), (.int (0 : Int32)), (.int (0 : Int32)), (.int (0 : Int32)), (.int (0 : Int32))] (.int (0 : Int32)) := Arv.set Ar100 q100 S100 M100 B100 G100 (fits_nar_byte _) W100 6 rfl (Nat.le_of_ble_eq_true rfl)
    have N100 := Fr.snoc X100 N97 ge80
    show own_G p e below (T100.setTop (mkF m 99 #[.val (.int p1), .val (.int p2), .val (.int p3), .val (.long q4), .second, .val (.int (0 : Int32)), .val (.ref b79), .unset, .unset, .unset, .unset, .unset] [])) _
    refine own_go (fun _ k => XS.aload X100.here hx rfl (hb hby at_99) rfl rfl k) ?_
    show own_G p e below (T100.setTop (mkF m 101 #[.val (.int p1), .val (.int p2), .val (.int p3), .val (.long q4), .second, .val (.int (0 : Int32)), .val (.ref b79), .unset, .unset, .unset, .unset, .unset] [(.ref b79)])) _
    refine own_go (fun _ k => XS.bipush X100.here hx rfl (hb hby at_101) k) ?_
    show own_G p e below (T100.setTop (mkF m 103 #[.val (.int p1), .val (.int p2), .val (.int p3), .val (.long q4), .second, .val (.int (0 : Int32)), .val (.ref b79), .unset, .unset, .unset, .unset, .unset] [(.int (7 : Int32)), (.ref b79)])) _
    refine own_go (fun _ k => XS.lloadN X100.here hx rfl (hb hby at_103) rfl k) ?_
    show own_G p e below (T100.setTop (mkF m 104 #[.val (.int p1), .val (.int p2), .val (.int p3), .val (.long q4), .second, .val (.int (0 : Int32)), .val (.ref b79), .unset, .unset, .unset, .unset, .unset] [(.long q4), (.int (7 : Int32)), (.ref b79)])) _
    refine own_go (fun _ k => XS.bipush X100.here hx rfl (hb hby at_104) k) ?_
    show own_G p e below (T100.setTop (mkF m 106 #[.val (.int p1), .val (.int p2), .val (.int p3), .val (.long q4), .second, .val (.int (0 : Int32)), .val (.ref b79), .unset, .unset, .unset, .unset, .unset] [(.int (32 : Int32)), (.long q4), (.int (7 : Int32)), (.ref b79)])) _
    refine own_go (fun _ k => XT.lushr X100.here hx rfl (hb hby at_106) rfl k) ?_
    show own_G p e below (T100.setTop (mkF m 107 #[.val (.int p1), .val (.int p2), .val (.int p3), .val (.long q4), .second, .val (.int (0 : Int32)), .val (.ref b79), .unset, .unset, .unset, .unset, .unset] [(.long (XT.ushrL q4 (32 : Int32))), (.int (7 : Int32)), (.ref b79)])) _
    refine own_go (fun _ k => XS.l2i X100.here hx rfl (hb hby at_107) rfl k) ?_
    show own_G p e below (T100.setTop (mkF m 108 #[.val (.int p1), .val (.int p2), .val (.int p3), .val (.long q4), .second, .val (.int (0 : Int32)), .val (.ref b79), .unset, .unset, .unset, .unset, .unset] [(.int ((XT.ushrL q4 (32 : Int32)).toInt32)), (.int (7 : Int32)), (.ref b79)])) _
    refine own_go (fun _ k => XS.i2b X100.here hx rfl (hb hby at_108) rfl k) ?_
    show own_G p e below (T100.setTop (mkF m 109 #[.val (.int p1), .val (.int p2), .val (.int p3), .val (.long q4), .second, .val (.int (0 : Int32)), .val (.ref b79), .unset, .unset, .unset, .unset, .unset] [(.int (((XT.ushrL q4 (32 : Int32)).toInt32).toInt8.toInt32)), (.int (7 : Int32)), (.ref b79)])) _
    obtain ⟨cl103, Ar103, q103, S103, M103, B103, G103⟩ := id V100
    have hin103 : ¬ ((7 : Int32) < 0 ∨ cl103.slots.size ≤ ((7 : Int32)).toNatClampNeg) := inb_of S103 ⟨by decide, by decide⟩
    obtain ⟨T103, h103, X103, e103, W103, st103⟩ := stB X100 hx hZ e100 Ar103 (j := (7 : Int32)) hin103 (g := (mkF m 109 #[.val (.int p1), .val (.int p2), .val (.int p3), .val (.long q4), .second, .val (.int (0 : Int32)), .val (.ref b79), .unset, .unset, .unset, .unset, .unset] [(.int (((XT.ushrL q4 (32 : Int32)).toInt32).toInt8.toInt32)), (.int (7 : Int32)), (.ref b79)])) rfl rfl (hb hby at_109)
    refine own_go st103 ?_
    rw [show nar .byte (((XT.ushrL q4 (32 : Int32)).toInt32).toInt8.toInt32) = (((XT.ushrL q4 (32 : Int32)).toInt32).toInt8.toInt32) from (own_bb _)] at W103
    have f104 := f101.wr W103
    have zs105 : n0 ≤ h103.size := Nat.le_trans zs102 (Keep.of_wr W103).1
    have V103 : Arv Z h103 b79 k79 .byte (16 : Int32) [(.int ((XT.ushr p1 (24 : Int32)).toInt8.toInt32)), (.int ((XT.ushr p1 (16 : Int32)).toInt8.toInt32)), (.int ((XT.ushr p1 (8 : Int32)).toInt8.toInt32)), (.int (p1.toInt8.toInt32)), (.int (((XT.ushrL q4 (56 : Int32)).toInt32).toInt8.toInt32)), (.int (((XT.ushrL q4 (48 : Int32)).toInt32).toInt8.toInt32)), (.int (((XT.ushrL q4 (40 : Int32)).toInt32).toInt8.toInt32)), (.int (((XT.ushrL q4 (32 : Int32)).toInt32).toInt8.toInt32)), (.int (0 : Int32)), (.int (0 : Int32)), (.int (0 : Int32)), (.int (0 : Int32)), (.int (0 : Int32)), (.int (0 : Int32)), (.int (0 : Int32)), (.int (0 : Int32))] (.int (0 : Int32)) := Arv.set Ar103 q103 S103 M103 B103 G103 (fits_nar_byte _) W103 7 rfl (Nat.le_of_ble_eq_true rfl)
    have N103 := Fr.snoc X103 N100 ge80
    show own_G p e below (T103.setTop (mkF m 110 #[.val (.int p1), .val (.int p2), .val (.int p3), .val (.long q4), .second, .val (.int (0 : Int32)), .val (.ref b79), .unset, .unset, .unset, .unset, .unset] [])) _
    refine own_go (fun _ k => XS.aload X103.here hx rfl (hb hby at_110) rfl rfl k) ?_
    show own_G p e below (T103.setTop (mkF m 112 #[.val (.int p1), .val (.int p2), .val (.int p3), .val (.long q4), .second, .val (.int (0 : Int32)), .val (.ref b79), .unset, .unset, .unset, .unset, .unset] [(.ref b79)])) _
    refine own_go (fun _ k => XS.bipush X103.here hx rfl (hb hby at_112) k) ?_
    show own_G p e below (T103.setTop (mkF m 114 #[.val (.int p1), .val (.int p2), .val (.int p3), .val (.long q4), .second, .val (.int (0 : Int32)), .val (.ref b79), .unset, .unset, .unset, .unset, .unset] [(.int (8 : Int32)), (.ref b79)])) _
    refine own_go (fun _ k => XS.lloadN X103.here hx rfl (hb hby at_114) rfl k) ?_
    show own_G p e below (T103.setTop (mkF m 115 #[.val (.int p1), .val (.int p2), .val (.int p3), .val (.long q4), .second, .val (.int (0 : Int32)), .val (.ref b79), .unset, .unset, .unset, .unset, .unset] [(.long q4), (.int (8 : Int32)), (.ref b79)])) _
    refine own_go (fun _ k => XS.bipush X103.here hx rfl (hb hby at_115) k) ?_
    show own_G p e below (T103.setTop (mkF m 117 #[.val (.int p1), .val (.int p2), .val (.int p3), .val (.long q4), .second, .val (.int (0 : Int32)), .val (.ref b79), .unset, .unset, .unset, .unset, .unset] [(.int (24 : Int32)), (.long q4), (.int (8 : Int32)), (.ref b79)])) _
    refine own_go (fun _ k => XT.lushr X103.here hx rfl (hb hby at_117) rfl k) ?_
    show own_G p e below (T103.setTop (mkF m 118 #[.val (.int p1), .val (.int p2), .val (.int p3), .val (.long q4), .second, .val (.int (0 : Int32)), .val (.ref b79), .unset, .unset, .unset, .unset, .unset] [(.long (XT.ushrL q4 (24 : Int32))), (.int (8 : Int32)), (.ref b79)])) _
    refine own_go (fun _ k => XS.l2i X103.here hx rfl (hb hby at_118) rfl k) ?_
    show own_G p e below (T103.setTop (mkF m 119 #[.val (.int p1), .val (.int p2), .val (.int p3), .val (.long q4), .second, .val (.int (0 : Int32)), .val (.ref b79), .unset, .unset, .unset, .unset, .unset] [(.int ((XT.ushrL q4 (24 : Int32)).toInt32)), (.int (8 : Int32)), (.ref b79)])) _
    refine own_go (fun _ k => XS.i2b X103.here hx rfl (hb hby at_119) rfl k) ?_
    show own_G p e below (T103.setTop (mkF m 120 #[.val (.int p1), .val (.int p2), .val (.int p3), .val (.long q4), .second, .val (.int (0 : Int32)), .val (.ref b79), .unset, .unset, .unset, .unset, .unset] [(.int (((XT.ushrL q4 (24 : Int32)).toInt32).toInt8.toInt32)), (.int (8 : Int32)), (.ref b79)])) _
    obtain ⟨cl106, Ar106, q106, S106, M106, B106, G106⟩ := id V103
    have hin106 : ¬ ((8 : Int32) < 0 ∨ cl106.slots.size ≤ ((8 : Int32)).toNatClampNeg) := inb_of S106 ⟨by decide, by decide⟩
    obtain ⟨T106, h106, X106, e106, W106, st106⟩ := stB X103 hx hZ e103 Ar106 (j := (8 : Int32)) hin106 (g := (mkF m 120 #[.val (.int p1), .val (.int p2), .val (.int p3), .val (.long q4), .second, .val (.int (0 : Int32)), .val (.ref b79), .unset, .unset, .unset, .unset, .unset] [(.int (((XT.ushrL q4 (24 : Int32)).toInt32).toInt8.toInt32)), (.int (8 : Int32)), (.ref b79)])) rfl rfl (hb hby at_120)
    refine own_go st106 ?_
    rw [show nar .byte (((XT.ushrL q4 (24 : Int32)).toInt32).toInt8.toInt32) = (((XT.ushrL q4 (24 : Int32)).toInt32).toInt8.toInt32) from (own_bb _)] at W106
    have f107 := f104.wr W106
    have zs108 : n0 ≤ h106.size := Nat.le_trans zs105 (Keep.of_wr W106).1
    have V106 : Arv Z h106 b79 k79 .byte (16 : Int32) [(.int ((XT.ushr p1 (24 : Int32)).toInt8.toInt32)), (.int ((XT.ushr p1 (16 : Int32)).toInt8.toInt32)), (.int ((XT.ushr p1 (8 : Int32)).toInt8.toInt32)), (.int (p1.toInt8.toInt32)), (.int (((XT.ushrL q4 (56 : Int32)).toInt32).toInt8.toInt32)), (.int (((XT.ushrL q4 (48 : Int32)).toInt32).toInt8.toInt32)), (.int (((XT.ushrL q4 (40 : Int32)).toInt32).toInt8.toInt32)), (.int (((XT.ushrL q4 (32 : Int32)).toInt32).toInt8.toInt32)), (.int (((XT.ushrL q4 (24 : Int32)).toInt32).toInt8.toInt32)), (.int (0 : Int32)), (.int (0 : Int32)), (.int (0 : Int32)), (.int (0 : Int32)), (.int (0 : Int32)), (.int (0 : Int32)), (.int (0 : Int32))] (.int (0 : Int32)) := Arv.set Ar106 q106 S106 M106 B106 G106 (fits_nar_byte _) W106 8 rfl (Nat.le_of_ble_eq_true rfl)
    have N106 := Fr.snoc X106 N103 ge80
    show own_G p e below (T106.setTop (mkF m 121 #[.val (.int p1), .val (.int p2), .val (.int p3), .val (.long q4), .second, .val (.int (0 : Int32)), .val (.ref b79), .unset, .unset, .unset, .unset, .unset] [])) _
    refine own_go (fun _ k => XS.aload X106.here hx rfl (hb hby at_121) rfl rfl k) ?_
    show own_G p e below (T106.setTop (mkF m 123 #[.val (.int p1), .val (.int p2), .val (.int p3), .val (.long q4), .second, .val (.int (0 : Int32)), .val (.ref b79), .unset, .unset, .unset, .unset, .unset] [(.ref b79)])) _
    refine own_go (fun _ k => XS.bipush X106.here hx rfl (hb hby at_123) k) ?_
    show own_G p e below (T106.setTop (mkF m 125 #[.val (.int p1), .val (.int p2), .val (.int p3), .val (.long q4), .second, .val (.int (0 : Int32)), .val (.ref b79), .unset, .unset, .unset, .unset, .unset] [(.int (9 : Int32)), (.ref b79)])) _
    refine own_go (fun _ k => XS.lloadN X106.here hx rfl (hb hby at_125) rfl k) ?_
    show own_G p e below (T106.setTop (mkF m 126 #[.val (.int p1), .val (.int p2), .val (.int p3), .val (.long q4), .second, .val (.int (0 : Int32)), .val (.ref b79), .unset, .unset, .unset, .unset, .unset] [(.long q4), (.int (9 : Int32)), (.ref b79)])) _
    refine own_go (fun _ k => XS.bipush X106.here hx rfl (hb hby at_126) k) ?_
    show own_G p e below (T106.setTop (mkF m 128 #[.val (.int p1), .val (.int p2), .val (.int p3), .val (.long q4), .second, .val (.int (0 : Int32)), .val (.ref b79), .unset, .unset, .unset, .unset, .unset] [(.int (16 : Int32)), (.long q4), (.int (9 : Int32)), (.ref b79)])) _
    refine own_go (fun _ k => XT.lushr X106.here hx rfl (hb hby at_128) rfl k) ?_
    show own_G p e below (T106.setTop (mkF m 129 #[.val (.int p1), .val (.int p2), .val (.int p3), .val (.long q4), .second, .val (.int (0 : Int32)), .val (.ref b79), .unset, .unset, .unset, .unset, .unset] [(.long (XT.ushrL q4 (16 : Int32))), (.int (9 : Int32)), (.ref b79)])) _
    refine own_go (fun _ k => XS.l2i X106.here hx rfl (hb hby at_129) rfl k) ?_
    show own_G p e below (T106.setTop (mkF m 130 #[.val (.int p1), .val (.int p2), .val (.int p3), .val (.long q4), .second, .val (.int (0 : Int32)), .val (.ref b79), .unset, .unset, .unset, .unset, .unset] [(.int ((XT.ushrL q4 (16 : Int32)).toInt32)), (.int (9 : Int32)), (.ref b79)])) _
    refine own_go (fun _ k => XS.i2b X106.here hx rfl (hb hby at_130) rfl k) ?_
    show own_G p e below (T106.setTop (mkF m 131 #[.val (.int p1), .val (.int p2), .val (.int p3), .val (.long q4), .second, .val (.int (0 : Int32)), .val (.ref b79), .unset, .unset, .unset, .unset, .unset] [(.int (((XT.ushrL q4 (16 : Int32)).toInt32).toInt8.toInt32)), (.int (9 : Int32)), (.ref b79)])) _
    obtain ⟨cl109, Ar109, q109, S109, M109, B109, G109⟩ := id V106
    have hin109 : ¬ ((9 : Int32) < 0 ∨ cl109.slots.size ≤ ((9 : Int32)).toNatClampNeg) := inb_of S109 ⟨by decide, by decide⟩
    obtain ⟨T109, h109, X109, e109, W109, st109⟩ := stB X106 hx hZ e106 Ar109 (j := (9 : Int32)) hin109 (g := (mkF m 131 #[.val (.int p1), .val (.int p2), .val (.int p3), .val (.long q4), .second, .val (.int (0 : Int32)), .val (.ref b79), .unset, .unset, .unset, .unset, .unset] [(.int (((XT.ushrL q4 (16 : Int32)).toInt32).toInt8.toInt32)), (.int (9 : Int32)), (.ref b79)])) rfl rfl (hb hby at_131)
    refine own_go st109 ?_
    rw [show nar .byte (((XT.ushrL q4 (16 : Int32)).toInt32).toInt8.toInt32) = (((XT.ushrL q4 (16 : Int32)).toInt32).toInt8.toInt32) from (own_bb _)] at W109
    have f110 := f107.wr W109
    have zs111 : n0 ≤ h109.size := Nat.le_trans zs108 (Keep.of_wr W109).1
    have V109 : Arv Z h109 b79 k79 .byte (16 : Int32) [(.int ((XT.ushr p1 (24 : Int32)).toInt8.toInt32)), (.int ((XT.ushr p1 (16 : Int32)).toInt8.toInt32)), (.int ((XT.ushr p1 (8 : Int32)).toInt8.toInt32)), (.int (p1.toInt8.toInt32)), (.int (((XT.ushrL q4 (56 : Int32)).toInt32).toInt8.toInt32)), (.int (((XT.ushrL q4 (48 : Int32)).toInt32).toInt8.toInt32)), (.int (((XT.ushrL q4 (40 : Int32)).toInt32).toInt8.toInt32)), (.int (((XT.ushrL q4 (32 : Int32)).toInt32).toInt8.toInt32)), (.int (((XT.ushrL q4 (24 : Int32)).toInt32).toInt8.toInt32)), (.int (((XT.ushrL q4 (16 : Int32)).toInt32).toInt8.toInt32)), (.int (0 : Int32)), (.int (0 : Int32)), (.int (0 : Int32)), (.int (0 : Int32)), (.int (0 : Int32)), (.int (0 : Int32))] (.int (0 : Int32)) := Arv.set Ar109 q109 S109 M109 B109 G109 (fits_nar_byte _) W109 9 rfl (Nat.le_of_ble_eq_true rfl)
    have N109 := Fr.snoc X109 N106 ge80
    show own_G p e below (T109.setTop (mkF m 132 #[.val (.int p1), .val (.int p2), .val (.int p3), .val (.long q4), .second, .val (.int (0 : Int32)), .val (.ref b79), .unset, .unset, .unset, .unset, .unset] [])) _
    refine own_go (fun _ k => XS.aload X109.here hx rfl (hb hby at_132) rfl rfl k) ?_
    show own_G p e below (T109.setTop (mkF m 134 #[.val (.int p1), .val (.int p2), .val (.int p3), .val (.long q4), .second, .val (.int (0 : Int32)), .val (.ref b79), .unset, .unset, .unset, .unset, .unset] [(.ref b79)])) _
    refine own_go (fun _ k => XS.bipush X109.here hx rfl (hb hby at_134) k) ?_
    show own_G p e below (T109.setTop (mkF m 136 #[.val (.int p1), .val (.int p2), .val (.int p3), .val (.long q4), .second, .val (.int (0 : Int32)), .val (.ref b79), .unset, .unset, .unset, .unset, .unset] [(.int (10 : Int32)), (.ref b79)])) _
    refine own_go (fun _ k => XS.lloadN X109.here hx rfl (hb hby at_136) rfl k) ?_
    show own_G p e below (T109.setTop (mkF m 137 #[.val (.int p1), .val (.int p2), .val (.int p3), .val (.long q4), .second, .val (.int (0 : Int32)), .val (.ref b79), .unset, .unset, .unset, .unset, .unset] [(.long q4), (.int (10 : Int32)), (.ref b79)])) _
    refine own_go (fun _ k => XS.bipush X109.here hx rfl (hb hby at_137) k) ?_
    show own_G p e below (T109.setTop (mkF m 139 #[.val (.int p1), .val (.int p2), .val (.int p3), .val (.long q4), .second, .val (.int (0 : Int32)), .val (.ref b79), .unset, .unset, .unset, .unset, .unset] [(.int (8 : Int32)), (.long q4), (.int (10 : Int32)), (.ref b79)])) _
    refine own_go (fun _ k => XT.lushr X109.here hx rfl (hb hby at_139) rfl k) ?_
    show own_G p e below (T109.setTop (mkF m 140 #[.val (.int p1), .val (.int p2), .val (.int p3), .val (.long q4), .second, .val (.int (0 : Int32)), .val (.ref b79), .unset, .unset, .unset, .unset, .unset] [(.long (XT.ushrL q4 (8 : Int32))), (.int (10 : Int32)), (.ref b79)])) _
    refine own_go (fun _ k => XS.l2i X109.here hx rfl (hb hby at_140) rfl k) ?_
    show own_G p e below (T109.setTop (mkF m 141 #[.val (.int p1), .val (.int p2), .val (.int p3), .val (.long q4), .second, .val (.int (0 : Int32)), .val (.ref b79), .unset, .unset, .unset, .unset, .unset] [(.int ((XT.ushrL q4 (8 : Int32)).toInt32)), (.int (10 : Int32)), (.ref b79)])) _
    refine own_go (fun _ k => XS.i2b X109.here hx rfl (hb hby at_141) rfl k) ?_
    show own_G p e below (T109.setTop (mkF m 142 #[.val (.int p1), .val (.int p2), .val (.int p3), .val (.long q4), .second, .val (.int (0 : Int32)), .val (.ref b79), .unset, .unset, .unset, .unset, .unset] [(.int (((XT.ushrL q4 (8 : Int32)).toInt32).toInt8.toInt32)), (.int (10 : Int32)), (.ref b79)])) _
    obtain ⟨cl112, Ar112, q112, S112, M112, B112, G112⟩ := id V109
    have hin112 : ¬ ((10 : Int32) < 0 ∨ cl112.slots.size ≤ ((10 : Int32)).toNatClampNeg) := inb_of S112 ⟨by decide, by decide⟩
    obtain ⟨T112, h112, X112, e112, W112, st112⟩ := stB X109 hx hZ e109 Ar112 (j := (10 : Int32)) hin112 (g := (mkF m 142 #[.val (.int p1), .val (.int p2), .val (.int p3), .val (.long q4), .second, .val (.int (0 : Int32)), .val (.ref b79), .unset, .unset, .unset, .unset, .unset] [(.int (((XT.ushrL q4 (8 : Int32)).toInt32).toInt8.toInt32)), (.int (10 : Int32)), (.ref b79)])) rfl rfl (hb hby at_142)
    refine own_go st112 ?_
    rw [show nar .byte (((XT.ushrL q4 (8 : Int32)).toInt32).toInt8.toInt32) = (((XT.ushrL q4 (8 : Int32)).toInt32).toInt8.toInt32) from (own_bb _)] at W112
    have f113 := f110.wr W112
    have zs114 : n0 ≤ h112.size := Nat.le_trans zs111 (Keep.of_wr W112).1
    have V112 : Arv Z h112 b79 k79 .byte (16 : Int32) [(.int ((XT.ushr p1 (24 : Int32)).toInt8.toInt32)), (.int ((XT.ushr p1 (16 : Int32)).toInt8.toInt32)), (.int ((XT.ushr p1 (8 : Int32)).toInt8.toInt32)), (.int (p1.toInt8.toInt32)), (.int (((XT.ushrL q4 (56 : Int32)).toInt32).toInt8.toInt32)), (.int (((XT.ushrL q4 (48 : Int32)).toInt32).toInt8.toInt32)), (.int (((XT.ushrL q4 (40 : Int32)).toInt32).toInt8.toInt32)), (.int (((XT.ushrL q4 (32 : Int32)).toInt32).toInt8.toInt32)), (.int (((XT.ushrL q4 (24 : Int32)).toInt32).toInt8.toInt32)), (.int (((XT.ushrL q4 (16 : Int32)).toInt32).toInt8.toInt32)), (.int (((XT.ushrL q4 (8 : Int32)).toInt32).toInt8.toInt32)), (.int (0 : Int32)), (.int (0 : Int32)), (.int (0 : Int32)), (.int (0 : Int32)), (.int (0 : Int32))] (.int (0 : Int32)) := Arv.set Ar112 q112 S112 M112 B112 G112 (fits_nar_byte _) W112 10 rfl (Nat.le_of_ble_eq_true rfl)
    have N112 := Fr.snoc X112 N109 ge80
    show own_G p e below (T112.setTop (mkF m 143 #[.val (.int p1), .val (.int p2), .val (.int p3), .val (.long q4), .second, .val (.int (0 : Int32)), .val (.ref b79), .unset, .unset, .unset, .unset, .unset] [])) _
    refine own_go (fun _ k => XS.aload X112.here hx rfl (hb hby at_143) rfl rfl k) ?_
    show own_G p e below (T112.setTop (mkF m 145 #[.val (.int p1), .val (.int p2), .val (.int p3), .val (.long q4), .second, .val (.int (0 : Int32)), .val (.ref b79), .unset, .unset, .unset, .unset, .unset] [(.ref b79)])) _
    refine own_go (fun _ k => XS.bipush X112.here hx rfl (hb hby at_145) k) ?_
    show own_G p e below (T112.setTop (mkF m 147 #[.val (.int p1), .val (.int p2), .val (.int p3), .val (.long q4), .second, .val (.int (0 : Int32)), .val (.ref b79), .unset, .unset, .unset, .unset, .unset] [(.int (11 : Int32)), (.ref b79)])) _
    refine own_go (fun _ k => XS.lloadN X112.here hx rfl (hb hby at_147) rfl k) ?_
    show own_G p e below (T112.setTop (mkF m 148 #[.val (.int p1), .val (.int p2), .val (.int p3), .val (.long q4), .second, .val (.int (0 : Int32)), .val (.ref b79), .unset, .unset, .unset, .unset, .unset] [(.long q4), (.int (11 : Int32)), (.ref b79)])) _
    refine own_go (fun _ k => XS.l2i X112.here hx rfl (hb hby at_148) rfl k) ?_
    show own_G p e below (T112.setTop (mkF m 149 #[.val (.int p1), .val (.int p2), .val (.int p3), .val (.long q4), .second, .val (.int (0 : Int32)), .val (.ref b79), .unset, .unset, .unset, .unset, .unset] [(.int (q4.toInt32)), (.int (11 : Int32)), (.ref b79)])) _
    refine own_go (fun _ k => XS.i2b X112.here hx rfl (hb hby at_149) rfl k) ?_
    show own_G p e below (T112.setTop (mkF m 150 #[.val (.int p1), .val (.int p2), .val (.int p3), .val (.long q4), .second, .val (.int (0 : Int32)), .val (.ref b79), .unset, .unset, .unset, .unset, .unset] [(.int ((q4.toInt32).toInt8.toInt32)), (.int (11 : Int32)), (.ref b79)])) _
    obtain ⟨cl115, Ar115, q115, S115, M115, B115, G115⟩ := id V112
    have hin115 : ¬ ((11 : Int32) < 0 ∨ cl115.slots.size ≤ ((11 : Int32)).toNatClampNeg) := inb_of S115 ⟨by decide, by decide⟩
    obtain ⟨T115, h115, X115, e115, W115, st115⟩ := stB X112 hx hZ e112 Ar115 (j := (11 : Int32)) hin115 (g := (mkF m 150 #[.val (.int p1), .val (.int p2), .val (.int p3), .val (.long q4), .second, .val (.int (0 : Int32)), .val (.ref b79), .unset, .unset, .unset, .unset, .unset] [(.int ((q4.toInt32).toInt8.toInt32)), (.int (11 : Int32)), (.ref b79)])) rfl rfl (hb hby at_150)
    refine own_go st115 ?_
    rw [show nar .byte ((q4.toInt32).toInt8.toInt32) = ((q4.toInt32).toInt8.toInt32) from (own_bb _)] at W115
    have f116 := f113.wr W115
    have zs117 : n0 ≤ h115.size := Nat.le_trans zs114 (Keep.of_wr W115).1
    have V115 : Arv Z h115 b79 k79 .byte (16 : Int32) [(.int ((XT.ushr p1 (24 : Int32)).toInt8.toInt32)), (.int ((XT.ushr p1 (16 : Int32)).toInt8.toInt32)), (.int ((XT.ushr p1 (8 : Int32)).toInt8.toInt32)), (.int (p1.toInt8.toInt32)), (.int (((XT.ushrL q4 (56 : Int32)).toInt32).toInt8.toInt32)), (.int (((XT.ushrL q4 (48 : Int32)).toInt32).toInt8.toInt32)), (.int (((XT.ushrL q4 (40 : Int32)).toInt32).toInt8.toInt32)), (.int (((XT.ushrL q4 (32 : Int32)).toInt32).toInt8.toInt32)), (.int (((XT.ushrL q4 (24 : Int32)).toInt32).toInt8.toInt32)), (.int (((XT.ushrL q4 (16 : Int32)).toInt32).toInt8.toInt32)), (.int (((XT.ushrL q4 (8 : Int32)).toInt32).toInt8.toInt32)), (.int ((q4.toInt32).toInt8.toInt32)), (.int (0 : Int32)), (.int (0 : Int32)), (.int (0 : Int32)), (.int (0 : Int32))] (.int (0 : Int32)) := Arv.set Ar115 q115 S115 M115 B115 G115 (fits_nar_byte _) W115 11 rfl (Nat.le_of_ble_eq_true rfl)
    have N115 := Fr.snoc X115 N112 ge80
    show own_G p e below (T115.setTop (mkF m 151 #[.val (.int p1), .val (.int p2), .val (.int p3), .val (.long q4), .second, .val (.int (0 : Int32)), .val (.ref b79), .unset, .unset, .unset, .unset, .unset] [])) _
    refine own_go (fun _ k => XS.aload X115.here hx rfl (hb hby at_151) rfl rfl k) ?_
    show own_G p e below (T115.setTop (mkF m 153 #[.val (.int p1), .val (.int p2), .val (.int p3), .val (.long q4), .second, .val (.int (0 : Int32)), .val (.ref b79), .unset, .unset, .unset, .unset, .unset] [(.ref b79)])) _
    refine own_go (fun _ k => XS.bipush X115.here hx rfl (hb hby at_153) k) ?_
    show own_G p e below (T115.setTop (mkF m 155 #[.val (.int p1), .val (.int p2), .val (.int p3), .val (.long q4), .second, .val (.int (0 : Int32)), .val (.ref b79), .unset, .unset, .unset, .unset, .unset] [(.int (12 : Int32)), (.ref b79)])) _
    refine own_go (fun _ k => XS.iloadN X115.here hx rfl (hb hby at_155) rfl k) ?_
    show own_G p e below (T115.setTop (mkF m 156 #[.val (.int p1), .val (.int p2), .val (.int p3), .val (.long q4), .second, .val (.int (0 : Int32)), .val (.ref b79), .unset, .unset, .unset, .unset, .unset] [(.int p2), (.int (12 : Int32)), (.ref b79)])) _
    refine own_go (fun _ k => XS.bipush X115.here hx rfl (hb hby at_156) k) ?_
    show own_G p e below (T115.setTop (mkF m 158 #[.val (.int p1), .val (.int p2), .val (.int p3), .val (.long q4), .second, .val (.int (0 : Int32)), .val (.ref b79), .unset, .unset, .unset, .unset, .unset] [(.int (24 : Int32)), (.int p2), (.int (12 : Int32)), (.ref b79)])) _
    refine own_go (fun _ k => XT.iushr X115.here hx rfl (hb hby at_158) rfl k) ?_
    show own_G p e below (T115.setTop (mkF m 159 #[.val (.int p1), .val (.int p2), .val (.int p3), .val (.long q4), .second, .val (.int (0 : Int32)), .val (.ref b79), .unset, .unset, .unset, .unset, .unset] [(.int (XT.ushr p2 (24 : Int32))), (.int (12 : Int32)), (.ref b79)])) _
    refine own_go (fun _ k => XS.i2b X115.here hx rfl (hb hby at_159) rfl k) ?_
    show own_G p e below (T115.setTop (mkF m 160 #[.val (.int p1), .val (.int p2), .val (.int p3), .val (.long q4), .second, .val (.int (0 : Int32)), .val (.ref b79), .unset, .unset, .unset, .unset, .unset] [(.int ((XT.ushr p2 (24 : Int32)).toInt8.toInt32)), (.int (12 : Int32)), (.ref b79)])) _
    obtain ⟨cl118, Ar118, q118, S118, M118, B118, G118⟩ := id V115
    have hin118 : ¬ ((12 : Int32) < 0 ∨ cl118.slots.size ≤ ((12 : Int32)).toNatClampNeg) := inb_of S118 ⟨by decide, by decide⟩
    obtain ⟨T118, h118, X118, e118, W118, st118⟩ := stB X115 hx hZ e115 Ar118 (j := (12 : Int32)) hin118 (g := (mkF m 160 #[.val (.int p1), .val (.int p2), .val (.int p3), .val (.long q4), .second, .val (.int (0 : Int32)), .val (.ref b79), .unset, .unset, .unset, .unset, .unset] [(.int ((XT.ushr p2 (24 : Int32)).toInt8.toInt32)), (.int (12 : Int32)), (.ref b79)])) rfl rfl (hb hby at_160)
    refine own_go st118 ?_
    rw [show nar .byte ((XT.ushr p2 (24 : Int32)).toInt8.toInt32) = ((XT.ushr p2 (24 : Int32)).toInt8.toInt32) from (own_bb _)] at W118
    have f119 := f116.wr W118
    have zs120 : n0 ≤ h118.size := Nat.le_trans zs117 (Keep.of_wr W118).1
    have V118 : Arv Z h118 b79 k79 .byte (16 : Int32) [(.int ((XT.ushr p1 (24 : Int32)).toInt8.toInt32)), (.int ((XT.ushr p1 (16 : Int32)).toInt8.toInt32)), (.int ((XT.ushr p1 (8 : Int32)).toInt8.toInt32)), (.int (p1.toInt8.toInt32)), (.int (((XT.ushrL q4 (56 : Int32)).toInt32).toInt8.toInt32)), (.int (((XT.ushrL q4 (48 : Int32)).toInt32).toInt8.toInt32)), (.int (((XT.ushrL q4 (40 : Int32)).toInt32).toInt8.toInt32)), (.int (((XT.ushrL q4 (32 : Int32)).toInt32).toInt8.toInt32)), (.int (((XT.ushrL q4 (24 : Int32)).toInt32).toInt8.toInt32)), (.int (((XT.ushrL q4 (16 : Int32)).toInt32).toInt8.toInt32)), (.int (((XT.ushrL q4 (8 : Int32)).toInt32).toInt8.toInt32)), (.int ((q4.toInt32).toInt8.toInt32)), (.int ((XT.ushr p2 (24 : Int32)).toInt8.toInt32)), (.int (0 : Int32)), (.int (0 : Int32)), (.int (0 : Int32))] (.int (0 : Int32)) := Arv.set Ar118 q118 S118 M118 B118 G118 (fits_nar_byte _) W118 12 rfl (Nat.le_of_ble_eq_true rfl)
    have N118 := Fr.snoc X118 N115 ge80
    show own_G p e below (T118.setTop (mkF m 161 #[.val (.int p1), .val (.int p2), .val (.int p3), .val (.long q4), .second, .val (.int (0 : Int32)), .val (.ref b79), .unset, .unset, .unset, .unset, .unset] [])) _
    refine own_go (fun _ k => XS.aload X118.here hx rfl (hb hby at_161) rfl rfl k) ?_
    show own_G p e below (T118.setTop (mkF m 163 #[.val (.int p1), .val (.int p2), .val (.int p3), .val (.long q4), .second, .val (.int (0 : Int32)), .val (.ref b79), .unset, .unset, .unset, .unset, .unset] [(.ref b79)])) _
    refine own_go (fun _ k => XS.bipush X118.here hx rfl (hb hby at_163) k) ?_
    show own_G p e below (T118.setTop (mkF m 165 #[.val (.int p1), .val (.int p2), .val (.int p3), .val (.long q4), .second, .val (.int (0 : Int32)), .val (.ref b79), .unset, .unset, .unset, .unset, .unset] [(.int (13 : Int32)), (.ref b79)])) _
    refine own_go (fun _ k => XS.iloadN X118.here hx rfl (hb hby at_165) rfl k) ?_
    show own_G p e below (T118.setTop (mkF m 166 #[.val (.int p1), .val (.int p2), .val (.int p3), .val (.long q4), .second, .val (.int (0 : Int32)), .val (.ref b79), .unset, .unset, .unset, .unset, .unset] [(.int p2), (.int (13 : Int32)), (.ref b79)])) _
    refine own_go (fun _ k => XS.bipush X118.here hx rfl (hb hby at_166) k) ?_
    show own_G p e below (T118.setTop (mkF m 168 #[.val (.int p1), .val (.int p2), .val (.int p3), .val (.long q4), .second, .val (.int (0 : Int32)), .val (.ref b79), .unset, .unset, .unset, .unset, .unset] [(.int (16 : Int32)), (.int p2), (.int (13 : Int32)), (.ref b79)])) _
    refine own_go (fun _ k => XT.iushr X118.here hx rfl (hb hby at_168) rfl k) ?_
    show own_G p e below (T118.setTop (mkF m 169 #[.val (.int p1), .val (.int p2), .val (.int p3), .val (.long q4), .second, .val (.int (0 : Int32)), .val (.ref b79), .unset, .unset, .unset, .unset, .unset] [(.int (XT.ushr p2 (16 : Int32))), (.int (13 : Int32)), (.ref b79)])) _
    refine own_go (fun _ k => XS.i2b X118.here hx rfl (hb hby at_169) rfl k) ?_
    show own_G p e below (T118.setTop (mkF m 170 #[.val (.int p1), .val (.int p2), .val (.int p3), .val (.long q4), .second, .val (.int (0 : Int32)), .val (.ref b79), .unset, .unset, .unset, .unset, .unset] [(.int ((XT.ushr p2 (16 : Int32)).toInt8.toInt32)), (.int (13 : Int32)), (.ref b79)])) _
    obtain ⟨cl121, Ar121, q121, S121, M121, B121, G121⟩ := id V118
    have hin121 : ¬ ((13 : Int32) < 0 ∨ cl121.slots.size ≤ ((13 : Int32)).toNatClampNeg) := inb_of S121 ⟨by decide, by decide⟩
    obtain ⟨T121, h121, X121, e121, W121, st121⟩ := stB X118 hx hZ e118 Ar121 (j := (13 : Int32)) hin121 (g := (mkF m 170 #[.val (.int p1), .val (.int p2), .val (.int p3), .val (.long q4), .second, .val (.int (0 : Int32)), .val (.ref b79), .unset, .unset, .unset, .unset, .unset] [(.int ((XT.ushr p2 (16 : Int32)).toInt8.toInt32)), (.int (13 : Int32)), (.ref b79)])) rfl rfl (hb hby at_170)
    refine own_go st121 ?_
    rw [show nar .byte ((XT.ushr p2 (16 : Int32)).toInt8.toInt32) = ((XT.ushr p2 (16 : Int32)).toInt8.toInt32) from (own_bb _)] at W121
    have f122 := f119.wr W121
    have zs123 : n0 ≤ h121.size := Nat.le_trans zs120 (Keep.of_wr W121).1
    have V121 : Arv Z h121 b79 k79 .byte (16 : Int32) [(.int ((XT.ushr p1 (24 : Int32)).toInt8.toInt32)), (.int ((XT.ushr p1 (16 : Int32)).toInt8.toInt32)), (.int ((XT.ushr p1 (8 : Int32)).toInt8.toInt32)), (.int (p1.toInt8.toInt32)), (.int (((XT.ushrL q4 (56 : Int32)).toInt32).toInt8.toInt32)), (.int (((XT.ushrL q4 (48 : Int32)).toInt32).toInt8.toInt32)), (.int (((XT.ushrL q4 (40 : Int32)).toInt32).toInt8.toInt32)), (.int (((XT.ushrL q4 (32 : Int32)).toInt32).toInt8.toInt32)), (.int (((XT.ushrL q4 (24 : Int32)).toInt32).toInt8.toInt32)), (.int (((XT.ushrL q4 (16 : Int32)).toInt32).toInt8.toInt32)), (.int (((XT.ushrL q4 (8 : Int32)).toInt32).toInt8.toInt32)), (.int ((q4.toInt32).toInt8.toInt32)), (.int ((XT.ushr p2 (24 : Int32)).toInt8.toInt32)), (.int ((XT.ushr p2 (16 : Int32)).toInt8.toInt32)), (.int (0 : Int32)), (.int (0 : Int32))] (.int (0 : Int32)) := Arv.set Ar121 q121 S121 M121 B121 G121 (fits_nar_byte _) W121 13 rfl (Nat.le_of_ble_eq_true rfl)
    have N121 := Fr.snoc X121 N118 ge80
    show own_G p e below (T121.setTop (mkF m 171 #[.val (.int p1), .val (.int p2), .val (.int p3), .val (.long q4), .second, .val (.int (0 : Int32)), .val (.ref b79), .unset, .unset, .unset, .unset, .unset] [])) _
    refine own_go (fun _ k => XS.aload X121.here hx rfl (hb hby at_171) rfl rfl k) ?_
    show own_G p e below (T121.setTop (mkF m 173 #[.val (.int p1), .val (.int p2), .val (.int p3), .val (.long q4), .second, .val (.int (0 : Int32)), .val (.ref b79), .unset, .unset, .unset, .unset, .unset] [(.ref b79)])) _
    refine own_go (fun _ k => XS.bipush X121.here hx rfl (hb hby at_173) k) ?_
    show own_G p e below (T121.setTop (mkF m 175 #[.val (.int p1), .val (.int p2), .val (.int p3), .val (.long q4), .second, .val (.int (0 : Int32)), .val (.ref b79), .unset, .unset, .unset, .unset, .unset] [(.int (14 : Int32)), (.ref b79)])) _
    refine own_go (fun _ k => XS.iloadN X121.here hx rfl (hb hby at_175) rfl k) ?_
    show own_G p e below (T121.setTop (mkF m 176 #[.val (.int p1), .val (.int p2), .val (.int p3), .val (.long q4), .second, .val (.int (0 : Int32)), .val (.ref b79), .unset, .unset, .unset, .unset, .unset] [(.int p2), (.int (14 : Int32)), (.ref b79)])) _
    refine own_go (fun _ k => XS.bipush X121.here hx rfl (hb hby at_176) k) ?_
    show own_G p e below (T121.setTop (mkF m 178 #[.val (.int p1), .val (.int p2), .val (.int p3), .val (.long q4), .second, .val (.int (0 : Int32)), .val (.ref b79), .unset, .unset, .unset, .unset, .unset] [(.int (8 : Int32)), (.int p2), (.int (14 : Int32)), (.ref b79)])) _
    refine own_go (fun _ k => XT.iushr X121.here hx rfl (hb hby at_178) rfl k) ?_
    show own_G p e below (T121.setTop (mkF m 179 #[.val (.int p1), .val (.int p2), .val (.int p3), .val (.long q4), .second, .val (.int (0 : Int32)), .val (.ref b79), .unset, .unset, .unset, .unset, .unset] [(.int (XT.ushr p2 (8 : Int32))), (.int (14 : Int32)), (.ref b79)])) _
    refine own_go (fun _ k => XS.i2b X121.here hx rfl (hb hby at_179) rfl k) ?_
    show own_G p e below (T121.setTop (mkF m 180 #[.val (.int p1), .val (.int p2), .val (.int p3), .val (.long q4), .second, .val (.int (0 : Int32)), .val (.ref b79), .unset, .unset, .unset, .unset, .unset] [(.int ((XT.ushr p2 (8 : Int32)).toInt8.toInt32)), (.int (14 : Int32)), (.ref b79)])) _
    obtain ⟨cl124, Ar124, q124, S124, M124, B124, G124⟩ := id V121
    have hin124 : ¬ ((14 : Int32) < 0 ∨ cl124.slots.size ≤ ((14 : Int32)).toNatClampNeg) := inb_of S124 ⟨by decide, by decide⟩
    obtain ⟨T124, h124, X124, e124, W124, st124⟩ := stB X121 hx hZ e121 Ar124 (j := (14 : Int32)) hin124 (g := (mkF m 180 #[.val (.int p1), .val (.int p2), .val (.int p3), .val (.long q4), .second, .val (.int (0 : Int32)), .val (.ref b79), .unset, .unset, .unset, .unset, .unset] [(.int ((XT.ushr p2 (8 : Int32)).toInt8.toInt32)), (.int (14 : Int32)), (.ref b79)])) rfl rfl (hb hby at_180)
    refine own_go st124 ?_
    rw [show nar .byte ((XT.ushr p2 (8 : Int32)).toInt8.toInt32) = ((XT.ushr p2 (8 : Int32)).toInt8.toInt32) from (own_bb _)] at W124
    have f125 := f122.wr W124
    have zs126 : n0 ≤ h124.size := Nat.le_trans zs123 (Keep.of_wr W124).1
    have V124 : Arv Z h124 b79 k79 .byte (16 : Int32) [(.int ((XT.ushr p1 (24 : Int32)).toInt8.toInt32)), (.int ((XT.ushr p1 (16 : Int32)).toInt8.toInt32)), (.int ((XT.ushr p1 (8 : Int32)).toInt8.toInt32)), (.int (p1.toInt8.toInt32)), (.int (((XT.ushrL q4 (56 : Int32)).toInt32).toInt8.toInt32)), (.int (((XT.ushrL q4 (48 : Int32)).toInt32).toInt8.toInt32)), (.int (((XT.ushrL q4 (40 : Int32)).toInt32).toInt8.toInt32)), (.int (((XT.ushrL q4 (32 : Int32)).toInt32).toInt8.toInt32)), (.int (((XT.ushrL q4 (24 : Int32)).toInt32).toInt8.toInt32)), (.int (((XT.ushrL q4 (16 : Int32)).toInt32).toInt8.toInt32)), (.int (((XT.ushrL q4 (8 : Int32)).toInt32).toInt8.toInt32)), (.int ((q4.toInt32).toInt8.toInt32)), (.int ((XT.ushr p2 (24 : Int32)).toInt8.toInt32)), (.int ((XT.ushr p2 (16 : Int32)).toInt8.toInt32)), (.int ((XT.ushr p2 (8 : Int32)).toInt8.toInt32)), (.int (0 : Int32))] (.int (0 : Int32)) := Arv.set Ar124 q124 S124 M124 B124 G124 (fits_nar_byte _) W124 14 rfl (Nat.le_of_ble_eq_true rfl)
    have N124 := Fr.snoc X124 N121 ge80
    show own_G p e below (T124.setTop (mkF m 181 #[.val (.int p1), .val (.int p2), .val (.int p3), .val (.long q4), .second, .val (.int (0 : Int32)), .val (.ref b79), .unset, .unset, .unset, .unset, .unset] [])) _
    refine own_go (fun _ k => XS.aload X124.here hx rfl (hb hby at_181) rfl rfl k) ?_
    show own_G p e below (T124.setTop (mkF m 183 #[.val (.int p1), .val (.int p2), .val (.int p3), .val (.long q4), .second, .val (.int (0 : Int32)), .val (.ref b79), .unset, .unset, .unset, .unset, .unset] [(.ref b79)])) _
    refine own_go (fun _ k => XS.bipush X124.here hx rfl (hb hby at_183) k) ?_
    show own_G p e below (T124.setTop (mkF m 185 #[.val (.int p1), .val (.int p2), .val (.int p3), .val (.long q4), .second, .val (.int (0 : Int32)), .val (.ref b79), .unset, .unset, .unset, .unset, .unset] [(.int (15 : Int32)), (.ref b79)])) _
    refine own_go (fun _ k => XS.iloadN X124.here hx rfl (hb hby at_185) rfl k) ?_
    show own_G p e below (T124.setTop (mkF m 186 #[.val (.int p1), .val (.int p2), .val (.int p3), .val (.long q4), .second, .val (.int (0 : Int32)), .val (.ref b79), .unset, .unset, .unset, .unset, .unset] [(.int p2), (.int (15 : Int32)), (.ref b79)])) _
    refine own_go (fun _ k => XS.i2b X124.here hx rfl (hb hby at_186) rfl k) ?_
    show own_G p e below (T124.setTop (mkF m 187 #[.val (.int p1), .val (.int p2), .val (.int p3), .val (.long q4), .second, .val (.int (0 : Int32)), .val (.ref b79), .unset, .unset, .unset, .unset, .unset] [(.int (p2.toInt8.toInt32)), (.int (15 : Int32)), (.ref b79)])) _
    obtain ⟨cl127, Ar127, q127, S127, M127, B127, G127⟩ := id V124
    have hin127 : ¬ ((15 : Int32) < 0 ∨ cl127.slots.size ≤ ((15 : Int32)).toNatClampNeg) := inb_of S127 ⟨by decide, by decide⟩
    obtain ⟨T127, h127, X127, e127, W127, st127⟩ := stB X124 hx hZ e124 Ar127 (j := (15 : Int32)) hin127 (g := (mkF m 187 #[.val (.int p1), .val (.int p2), .val (.int p3), .val (.long q4), .second, .val (.int (0 : Int32)), .val (.ref b79), .unset, .unset, .unset, .unset, .unset] [(.int (p2.toInt8.toInt32)), (.int (15 : Int32)), (.ref b79)])) rfl rfl (hb hby at_187)
    refine own_go st127 ?_
    rw [show nar .byte (p2.toInt8.toInt32) = (p2.toInt8.toInt32) from (own_bb _)] at W127
    have f128 := f125.wr W127
    have zs129 : n0 ≤ h127.size := Nat.le_trans zs126 (Keep.of_wr W127).1
    have V127 : Arv Z h127 b79 k79 .byte (16 : Int32) [(.int ((XT.ushr p1 (24 : Int32)).toInt8.toInt32)), (.int ((XT.ushr p1 (16 : Int32)).toInt8.toInt32)), (.int ((XT.ushr p1 (8 : Int32)).toInt8.toInt32)), (.int (p1.toInt8.toInt32)), (.int (((XT.ushrL q4 (56 : Int32)).toInt32).toInt8.toInt32)), (.int (((XT.ushrL q4 (48 : Int32)).toInt32).toInt8.toInt32)), (.int (((XT.ushrL q4 (40 : Int32)).toInt32).toInt8.toInt32)), (.int (((XT.ushrL q4 (32 : Int32)).toInt32).toInt8.toInt32)), (.int (((XT.ushrL q4 (24 : Int32)).toInt32).toInt8.toInt32)), (.int (((XT.ushrL q4 (16 : Int32)).toInt32).toInt8.toInt32)), (.int (((XT.ushrL q4 (8 : Int32)).toInt32).toInt8.toInt32)), (.int ((q4.toInt32).toInt8.toInt32)), (.int ((XT.ushr p2 (24 : Int32)).toInt8.toInt32)), (.int ((XT.ushr p2 (16 : Int32)).toInt8.toInt32)), (.int ((XT.ushr p2 (8 : Int32)).toInt8.toInt32)), (.int (p2.toInt8.toInt32))] (.int (0 : Int32)) := Arv.set Ar127 q127 S127 M127 B127 G127 (fits_nar_byte _) W127 15 rfl (Nat.le_of_ble_eq_true rfl)
    have N127 := Fr.snoc X127 N124 ge80
    show own_G p e below (T127.setTop (mkF m 188 #[.val (.int p1), .val (.int p2), .val (.int p3), .val (.long q4), .second, .val (.int (0 : Int32)), .val (.ref b79), .unset, .unset, .unset, .unset, .unset] [])) _
    refine own_go (fun _ k => XS.aload X127.here hx rfl (hb hby at_188) rfl rfl k) ?_
    show own_G p e below (T127.setTop (mkF m 190 #[.val (.int p1), .val (.int p2), .val (.int p3), .val (.long q4), .second, .val (.int (0 : Int32)), .val (.ref b79), .unset, .unset, .unset, .unset, .unset] [(.ref b79)])) _
    obtain ⟨_, _, ⟨T130, L130, k130, n130⟩, -, X130, ⟨Lc130, hQ130, l130, y130, z130⟩, st130⟩ := Jvm.LawKit.callS X127 hx (y := (⟨"com/example/principal/principal/decision/IpAddress", "of", "([B)Lcom/example/principal/principal/decision/IpAddress;"⟩ : MethodName)) hown (mvT hZ (hw _ (List.mem_of_getElem? (i := 1) rfl))) (mvT hZ (hw _ (List.mem_of_getElem? (i := 2) rfl))) (mvT hZ (hw _ (List.mem_of_getElem? (i := 3) rfl))) (mvT hZ (hw _ (List.mem_of_getElem? (i := 4) rfl))) (by decide) (backOf (W := 0) (rm1_16 l Z a0 hw [] b79 k79 ((XT.ushr p1 (24 : Int32)).toInt8.toInt32) ((XT.ushr p1 (16 : Int32)).toInt8.toInt32) ((XT.ushr p1 (8 : Int32)).toInt8.toInt32) (p1.toInt8.toInt32) (((XT.ushrL q4 (56 : Int32)).toInt32).toInt8.toInt32) (((XT.ushrL q4 (48 : Int32)).toInt32).toInt8.toInt32) (((XT.ushrL q4 (40 : Int32)).toInt32).toInt8.toInt32) (((XT.ushrL q4 (32 : Int32)).toInt32).toInt8.toInt32) (((XT.ushrL q4 (24 : Int32)).toInt32).toInt8.toInt32) (((XT.ushrL q4 (16 : Int32)).toInt32).toInt8.toInt32) (((XT.ushrL q4 (8 : Int32)).toInt32).toInt8.toInt32) ((q4.toInt32).toInt8.toInt32) ((XT.ushr p2 (24 : Int32)).toInt8.toInt32) ((XT.ushr p2 (16 : Int32)).toInt8.toInt32) ((XT.ushr p2 (8 : Int32)).toInt8.toInt32) (p2.toInt8.toInt32) h127 n0 zs129 V127 f128) hZ (hw _ (List.mem_of_getElem? (i := 4) rfl)) (hw _ (List.mem_of_getElem? (i := 3) rfl)) (by decide) (by decide)) (g := (mkF m 190 #[.val (.int p1), .val (.int p2), .val (.int p3), .val (.long q4), .second, .val (.int (0 : Int32)), .val (.ref b79), .unset, .unset, .unset, .unset, .unset] [(.ref b79)])) rfl (by rw [hml]; rfl) (argsL := [(.ref b79)]) (rest := []) (lenOf pd_1 rfl) rfl (by show 2 * 0 + _ ≤ _; exact Nat.le_of_eq rfl) (hb hby at_190) (fun _ _ => ⟨rfl, e127, (by decide : 0 + 1 + 2 ≤ _), (by decide : 0 + 16 + 17 ≤ _)⟩)
    dsimp only [Pt.U, Pt.locs, Pt.cells, Pt.slots] at X130 l130 y130 z130 st130 hQ130
    rw [l130, y130, z130] at X130
    obtain ⟨o130, b130q, ko130, rfl, Nq130, K130, hso130, hsb130, Eo130, Fo130, Vo130⟩ := hQ130
    have N130 := Fr.app N127 Nq130
    refine own_go st130 ?_
    have ne131 : b79 ≠ o130 := Nat.ne_of_lt (Nat.lt_of_lt_of_le f128.lt hso130)
    have ge132 : n0 ≤ o130 := Nat.le_trans zs129 hso130
    have neb130 : b79 ≠ b130q := Nat.ne_of_lt (Nat.lt_of_lt_of_le V127.lt hsb130)
    have f133 := f128.keep K130
    have f134 := V127.keep K130 nin0
    have zs135 : n0 ≤ T130.heap.size := Nat.le_trans zs129 K130.1
    show own_G p e below (T130.setTop (mkF m 193 #[.val (.int p1), .val (.int p2), .val (.int p3), .val (.long q4), .second, .val (.int (0 : Int32)), .val (.ref b79), .unset, .unset, .unset, .unset, .unset] [(.ref o130)])) _
    refine own_go (fun _ k => XS.astore X130.here hx rfl (hb hby at_193) rfl rfl (l' := #[.val (.int p1), .val (.int p2), .val (.int p3), .val (.long q4), .second, .val (.int (0 : Int32)), .val (.ref b79), .val (.ref o130), .unset, .unset, .unset, .unset]) rfl k) ?_
    show own_G p e below (T130.setTop (mkF m 195 #[.val (.int p1), .val (.int p2), .val (.int p3), .val (.long q4), .second, .val (.int (0 : Int32)), .val (.ref b79), .val (.ref o130), .unset, .unset, .unset, .unset] [])) _
    refine own_go (fun _ k => XS.aload X130.here hx rfl (hb hby at_195) rfl rfl k) ?_
    show own_G p e below (T130.setTop (mkF m 197 #[.val (.int p1), .val (.int p2), .val (.int p3), .val (.long q4), .second, .val (.int (0 : Int32)), .val (.ref b79), .val (.ref o130), .unset, .unset, .unset, .unset] [(.ref o130)])) _
    obtain ⟨cq136, kq136, q136a, q136b, q136c⟩ := isOf hZ rfl Eo130
    obtain ⟨_, _, ⟨T136, L136, k136, n136⟩, -, X136, ⟨Lc136, hQ136, l136, y136, z136⟩, st136⟩ := X130.virtualBack hx (y := (⟨"com/example/principal/principal/decision/IpAddress", "isIpv4", "()Z"⟩ : MethodName)) (z := (⟨"com/example/principal/principal/decision/IpAddress", "isIpv4", "()Z"⟩ : MethodName)) hown (mvT hZ (hw _ (List.mem_of_getElem? (i := 24) rfl))) (mvT hZ (hw _ (List.mem_of_getElem? (i := 25) rfl))) (notFace_of_selects (args := #[]) (mvT hZ (hw _ (List.mem_of_getElem? (i := 27) rfl)))) (mvT hZ (hw _ (List.mem_of_getElem? (i := 27) rfl))) (mvT hZ (hw _ (List.mem_of_getElem? (i := 26) rfl))) (by decide) (backOf (W := 0) (rm4 l Z a0 hw [] o130 b130q ko130 (16 : Int32) [(.int ((XT.ushr p1 (24 : Int32)).toInt8.toInt32)), (.int ((XT.ushr p1 (16 : Int32)).toInt8.toInt32)), (.int ((XT.ushr p1 (8 : Int32)).toInt8.toInt32)), (.int (p1.toInt8.toInt32)), (.int (((XT.ushrL q4 (56 : Int32)).toInt32).toInt8.toInt32)), (.int (((XT.ushrL q4 (48 : Int32)).toInt32).toInt8.toInt32)), (.int (((XT.ushrL q4 (40 : Int32)).toInt32).toInt8.toInt32)), (.int (((XT.ushrL q4 (32 : Int32)).toInt32).toInt8.toInt32)), (.int (((XT.ushrL q4 (24 : Int32)).toInt32).toInt8.toInt32)), (.int (((XT.ushrL q4 (16 : Int32)).toInt32).toInt8.toInt32)), (.int (((XT.ushrL q4 (8 : Int32)).toInt32).toInt8.toInt32)), (.int ((q4.toInt32).toInt8.toInt32)), (.int ((XT.ushr p2 (24 : Int32)).toInt8.toInt32)), (.int ((XT.ushr p2 (16 : Int32)).toInt8.toInt32)), (.int ((XT.ushr p2 (8 : Int32)).toInt8.toInt32)), (.int (p2.toInt8.toInt32))] T130.heap n0 zs135 Fo130 Vo130) hZ (hw _ (List.mem_of_getElem? (i := 28) rfl)) (hw _ (List.mem_of_getElem? (i := 3) rfl)) (by decide) (by decide)) q136a q136c (g := (mkF m 197 #[.val (.int p1), .val (.int p2), .val (.int p3), .val (.long q4), .second, .val (.int (0 : Int32)), .val (.ref b79), .val (.ref o130), .unset, .unset, .unset, .unset] [(.ref o130)])) rfl (by rw [hml]; rfl) (Steps.refl _) (argsL := []) (rest := []) (lenOf pd_2 rfl) rfl (by show 2 * 0 + _ ≤ _; exact Nat.le_of_eq rfl) (hb hby at_197) (fun _ _ => ⟨rfl, rfl, (by decide : 0 + 1 + 2 + 0 ≤ _), (by decide : 0 + 16 + 17 + 0 ≤ _)⟩)
    dsimp only [Pt.U, Pt.locs, Pt.cells, Pt.slots] at X136 l136 y136 z136 st136 hQ136
    rw [l136, y136, z136] at X136
    obtain ⟨r136, rfl, Nq136, hh136, hr136⟩ := hQ136
    have N136 := Fr.app N130 Nq136
    refine own_go (fun _ k => st136.trans k) ?_
    have e136 : T136.heap = T130.heap := hh136
    obtain rfl : r136 = (0 : Int32) := hr136.trans (by decide)
    show own_G p e below (T136.setTop (mkF m 200 #[.val (.int p1), .val (.int p2), .val (.int p3), .val (.long q4), .second, .val (.int (0 : Int32)), .val (.ref b79), .val (.ref o130), .unset, .unset, .unset, .unset] [(.int (0 : Int32))])) _
    refine own_go (fun _ k => XS.iload X136.here hx rfl (hb hby at_200) rfl k) ?_
    show own_G p e below (T136.setTop (mkF m 202 #[.val (.int p1), .val (.int p2), .val (.int p3), .val (.long q4), .second, .val (.int (0 : Int32)), .val (.ref b79), .val (.ref o130), .unset, .unset, .unset, .unset] [(.int (0 : Int32)), (.int (0 : Int32))])) _
    refine own_go (fun _ k => XS.icmpNo X136.here hx rfl (hb hby at_202) rfl (teq (by decide : (0 : Int32) = (0 : Int32))).2 k) ?_
    show own_G p e below (T136.setTop (mkF m 205 #[.val (.int p1), .val (.int p2), .val (.int p3), .val (.long q4), .second, .val (.int (0 : Int32)), .val (.ref b79), .val (.ref o130), .unset, .unset, .unset, .unset] [])) _
    refine own_go (fun _ k => XS.iconst X136.here hx rfl (hb hby at_205) k) ?_
    show own_G p e below (T136.setTop (mkF m 206 #[.val (.int p1), .val (.int p2), .val (.int p3), .val (.long q4), .second, .val (.int (0 : Int32)), .val (.ref b79), .val (.ref o130), .unset, .unset, .unset, .unset] [(.int (1 : Int32))])) _
    refine own_go (fun _ k => XS.goto X136.here hx rfl (pc0 := 206) (pc' := 210) rfl (hb hby at_206) (by decide) (by decide) k) ?_
    show own_G p e below (T136.setTop (mkF m 210 #[.val (.int p1), .val (.int p2), .val (.int p3), .val (.long q4), .second, .val (.int (0 : Int32)), .val (.ref b79), .val (.ref o130), .unset, .unset, .unset, .unset] [(.int (1 : Int32))])) _
    refine own_go (fun _ k => XS.istore X136.here hx rfl (hb hby at_210) rfl (l' := #[.val (.int p1), .val (.int p2), .val (.int p3), .val (.long q4), .second, .val (.int (0 : Int32)), .val (.ref b79), .val (.ref o130), .val (.int (1 : Int32)), .unset, .unset, .unset]) rfl k) ?_
    show own_G p e below (T136.setTop (mkF m 212 #[.val (.int p1), .val (.int p2), .val (.int p3), .val (.long q4), .second, .val (.int (0 : Int32)), .val (.ref b79), .val (.ref o130), .val (.int (1 : Int32)), .unset, .unset, .unset] [])) _
    refine own_go (fun _ k => XS.iload X136.here hx rfl (hb hby at_212) rfl k) ?_
    show own_G p e below (T136.setTop (mkF m 214 #[.val (.int p1), .val (.int p2), .val (.int p3), .val (.long q4), .second, .val (.int (0 : Int32)), .val (.ref b79), .val (.ref o130), .val (.int (1 : Int32)), .unset, .unset, .unset] [(.int (0 : Int32))])) _
    refine own_go (fun _ k => XS.ifYes X136.here hx rfl (pc0 := 214) (pc' := 226) rfl (hb hby at_214) rfl ((if0 _ _).trans (teq (by decide : (0 : Int32) = (0 : Int32))).1) (by decide) (by decide) k) ?_
    show own_G p e below (T136.setTop (mkF m 226 #[.val (.int p1), .val (.int p2), .val (.int p3), .val (.long q4), .second, .val (.int (0 : Int32)), .val (.ref b79), .val (.ref o130), .val (.int (1 : Int32)), .unset, .unset, .unset] [])) _
    refine own_go (fun _ k => XS.iconst X136.here hx rfl (hb hby at_226) k) ?_
    show own_G p e below (T136.setTop (mkF m 227 #[.val (.int p1), .val (.int p2), .val (.int p3), .val (.long q4), .second, .val (.int (0 : Int32)), .val (.ref b79), .val (.ref o130), .val (.int (1 : Int32)), .unset, .unset, .unset] [(.int (1 : Int32))])) _
    refine own_go (fun _ k => XS.goto X136.here hx rfl (pc0 := 227) (pc' := 231) rfl (hb hby at_227) (by decide) (by decide) k) ?_
    show own_G p e below (T136.setTop (mkF m 231 #[.val (.int p1), .val (.int p2), .val (.int p3), .val (.long q4), .second, .val (.int (0 : Int32)), .val (.ref b79), .val (.ref o130), .val (.int (1 : Int32)), .unset, .unset, .unset] [(.int (1 : Int32))])) _
    refine own_go (fun _ k => XS.istore X136.here hx rfl (hb hby at_231) rfl (l' := #[.val (.int p1), .val (.int p2), .val (.int p3), .val (.long q4), .second, .val (.int (0 : Int32)), .val (.ref b79), .val (.ref o130), .val (.int (1 : Int32)), .val (.int (1 : Int32)), .unset, .unset]) rfl k) ?_
    show own_G p e below (T136.setTop (mkF m 233 #[.val (.int p1), .val (.int p2), .val (.int p3), .val (.long q4), .second, .val (.int (0 : Int32)), .val (.ref b79), .val (.ref o130), .val (.int (1 : Int32)), .val (.int (1 : Int32)), .unset, .unset] [])) _
    refine own_go (fun _ k => XS.aload X136.here hx rfl (hb hby at_233) rfl rfl k) ?_
    show own_G p e below (T136.setTop (mkF m 235 #[.val (.int p1), .val (.int p2), .val (.int p3), .val (.long q4), .second, .val (.int (0 : Int32)), .val (.ref b79), .val (.ref o130), .val (.int (1 : Int32)), .val (.int (1 : Int32)), .unset, .unset] [(.ref b79)])) _
    refine own_go (fun _ k => XS.iconst X136.here hx rfl (hb hby at_235) k) ?_
    show own_G p e below (T136.setTop (mkF m 236 #[.val (.int p1), .val (.int p2), .val (.int p3), .val (.long q4), .second, .val (.int (0 : Int32)), .val (.ref b79), .val (.ref o130), .val (.int (1 : Int32)), .val (.int (1 : Int32)), .unset, .unset] [(.int (0 : Int32)), (.ref b79)])) _
    refine own_go (fun _ k => XS.iloadN X136.here hx rfl (hb hby at_236) rfl k) ?_
    show own_G p e below (T136.setTop (mkF m 237 #[.val (.int p1), .val (.int p2), .val (.int p3), .val (.long q4), .second, .val (.int (0 : Int32)), .val (.ref b79), .val (.ref o130), .val (.int (1 : Int32)), .val (.int (1 : Int32)), .unset, .unset] [(.int p2), (.int (0 : Int32)), (.ref b79)])) _
    refine own_go (fun _ k => XS.bipush X136.here hx rfl (hb hby at_237) k) ?_
    show own_G p e below (T136.setTop (mkF m 239 #[.val (.int p1), .val (.int p2), .val (.int p3), .val (.long q4), .second, .val (.int (0 : Int32)), .val (.ref b79), .val (.ref o130), .val (.int (1 : Int32)), .val (.int (1 : Int32)), .unset, .unset] [(.int (24 : Int32)), (.int p2), (.int (0 : Int32)), (.ref b79)])) _
    refine own_go (fun _ k => XT.iushr X136.here hx rfl (hb hby at_239) rfl k) ?_
    show own_G p e below (T136.setTop (mkF m 240 #[.val (.int p1), .val (.int p2), .val (.int p3), .val (.long q4), .second, .val (.int (0 : Int32)), .val (.ref b79), .val (.ref o130), .val (.int (1 : Int32)), .val (.int (1 : Int32)), .unset, .unset] [(.int (XT.ushr p2 (24 : Int32))), (.int (0 : Int32)), (.ref b79)])) _
    refine own_go (fun _ k => XS.i2b X136.here hx rfl (hb hby at_240) rfl k) ?_
    show own_G p e below (T136.setTop (mkF m 241 #[.val (.int p1), .val (.int p2), .val (.int p3), .val (.long q4), .second, .val (.int (0 : Int32)), .val (.ref b79), .val (.ref o130), .val (.int (1 : Int32)), .val (.int (1 : Int32)), .unset, .unset] [(.int ((XT.ushr p2 (24 : Int32)).toInt8.toInt32)), (.int (0 : Int32)), (.ref b79)])) _
    obtain ⟨cl137, Ar137, q137, S137, M137, B137, G137⟩ := id f134
    have hin137 : ¬ ((0 : Int32) < 0 ∨ cl137.slots.size ≤ ((0 : Int32)).toNatClampNeg) := inb_of S137 ⟨by decide, by decide⟩
    obtain ⟨T137, h137, X137, e137, W137, st137⟩ := stB X136 hx hZ e136 Ar137 (j := (0 : Int32)) hin137 (g := (mkF m 241 #[.val (.int p1), .val (.int p2), .val (.int p3), .val (.long q4), .second, .val (.int (0 : Int32)), .val (.ref b79), .val (.ref o130), .val (.int (1 : Int32)), .val (.int (1 : Int32)), .unset, .unset] [(.int ((XT.ushr p2 (24 : Int32)).toInt8.toInt32)), (.int (0 : Int32)), (.ref b79)])) rfl rfl (hb hby at_241)
    refine own_go st137 ?_
    rw [show nar .byte ((XT.ushr p2 (24 : Int32)).toInt8.toInt32) = ((XT.ushr p2 (24 : Int32)).toInt8.toInt32) from (own_bb _)] at W137
    have f138 := f133.wr W137
    have f139 := Eo130.wr W137
    have f140 := Fo130.other W137 (Or.inl (Ne.symm ne131))
    have f141 := Vo130.other W137 (Ne.symm neb130)
    have zs142 : n0 ≤ h137.size := Nat.le_trans zs135 (Keep.of_wr W137).1
    have V137 : Arv Z h137 b79 k79 .byte (16 : Int32) [(.int ((XT.ushr p2 (24 : Int32)).toInt8.toInt32)), (.int ((XT.ushr p1 (16 : Int32)).toInt8.toInt32)), (.int ((XT.ushr p1 (8 : Int32)).toInt8.toInt32)), (.int (p1.toInt8.toInt32)), (.int (((XT.ushrL q4 (56 : Int32)).toInt32).toInt8.toInt32)), (.int (((XT.ushrL q4 (48 : Int32)).toInt32).toInt8.toInt32)), (.int (((XT.ushrL q4 (40 : Int32)).toInt32).toInt8.toInt32)), (.int (((XT.ushrL q4 (32 : Int32)).toInt32).toInt8.toInt32)), (.int (((XT.ushrL q4 (24 : Int32)).toInt32).toInt8.toInt32)), (.int (((XT.ushrL q4 (16 : Int32)).toInt32).toInt8.toInt32)), (.int (((XT.ushrL q4 (8 : Int32)).toInt32).toInt8.toInt32)), (.int ((q4.toInt32).toInt8.toInt32)), (.int ((XT.ushr p2 (24 : Int32)).toInt8.toInt32)), (.int ((XT.ushr p2 (16 : Int32)).toInt8.toInt32)), (.int ((XT.ushr p2 (8 : Int32)).toInt8.toInt32)), (.int (p2.toInt8.toInt32))] (.int (0 : Int32)) := Arv.set Ar137 q137 S137 M137 B137 G137 (fits_nar_byte _) W137 0 rfl (Nat.le_of_ble_eq_true rfl)
    have N137 := Fr.snoc X137 N136 ge80
    show own_G p e below (T137.setTop (mkF m 242 #[.val (.int p1), .val (.int p2), .val (.int p3), .val (.long q4), .second, .val (.int (0 : Int32)), .val (.ref b79), .val (.ref o130), .val (.int (1 : Int32)), .val (.int (1 : Int32)), .unset, .unset] [])) _
    refine own_go (fun _ k => XS.aload X137.here hx rfl (hb hby at_242) rfl rfl k) ?_
    show own_G p e below (T137.setTop (mkF m 244 #[.val (.int p1), .val (.int p2), .val (.int p3), .val (.long q4), .second, .val (.int (0 : Int32)), .val (.ref b79), .val (.ref o130), .val (.int (1 : Int32)), .val (.int (1 : Int32)), .unset, .unset] [(.ref b79)])) _
    refine own_go (fun _ k => XS.iconst X137.here hx rfl (hb hby at_244) k) ?_
    show own_G p e below (T137.setTop (mkF m 245 #[.val (.int p1), .val (.int p2), .val (.int p3), .val (.long q4), .second, .val (.int (0 : Int32)), .val (.ref b79), .val (.ref o130), .val (.int (1 : Int32)), .val (.int (1 : Int32)), .unset, .unset] [(.int (1 : Int32)), (.ref b79)])) _
    refine own_go (fun _ k => XS.iloadN X137.here hx rfl (hb hby at_245) rfl k) ?_
    show own_G p e below (T137.setTop (mkF m 246 #[.val (.int p1), .val (.int p2), .val (.int p3), .val (.long q4), .second, .val (.int (0 : Int32)), .val (.ref b79), .val (.ref o130), .val (.int (1 : Int32)), .val (.int (1 : Int32)), .unset, .unset] [(.int p2), (.int (1 : Int32)), (.ref b79)])) _
    refine own_go (fun _ k => XS.bipush X137.here hx rfl (hb hby at_246) k) ?_
    show own_G p e below (T137.setTop (mkF m 248 #[.val (.int p1), .val (.int p2), .val (.int p3), .val (.long q4), .second, .val (.int (0 : Int32)), .val (.ref b79), .val (.ref o130), .val (.int (1 : Int32)), .val (.int (1 : Int32)), .unset, .unset] [(.int (16 : Int32)), (.int p2), (.int (1 : Int32)), (.ref b79)])) _
    refine own_go (fun _ k => XT.iushr X137.here hx rfl (hb hby at_248) rfl k) ?_
    show own_G p e below (T137.setTop (mkF m 249 #[.val (.int p1), .val (.int p2), .val (.int p3), .val (.long q4), .second, .val (.int (0 : Int32)), .val (.ref b79), .val (.ref o130), .val (.int (1 : Int32)), .val (.int (1 : Int32)), .unset, .unset] [(.int (XT.ushr p2 (16 : Int32))), (.int (1 : Int32)), (.ref b79)])) _
    refine own_go (fun _ k => XS.i2b X137.here hx rfl (hb hby at_249) rfl k) ?_
    show own_G p e below (T137.setTop (mkF m 250 #[.val (.int p1), .val (.int p2), .val (.int p3), .val (.long q4), .second, .val (.int (0 : Int32)), .val (.ref b79), .val (.ref o130), .val (.int (1 : Int32)), .val (.int (1 : Int32)), .unset, .unset] [(.int ((XT.ushr p2 (16 : Int32)).toInt8.toInt32)), (.int (1 : Int32)), (.ref b79)])) _
    obtain ⟨cl143, Ar143, q143, S143, M143, B143, G143⟩ := id V137
    have hin143 : ¬ ((1 : Int32) < 0 ∨ cl143.slots.size ≤ ((1 : Int32)).toNatClampNeg) := inb_of S143 ⟨by decide, by decide⟩
    obtain ⟨T143, h143, X143, e143, W143, st143⟩ := stB X137 hx hZ e137 Ar143 (j := (1 : Int32)) hin143 (g := (mkF m 250 #[.val (.int p1), .val (.int p2), .val (.int p3), .val (.long q4), .second, .val (.int (0 : Int32)), .val (.ref b79), .val (.ref o130), .val (.int (1 : Int32)), .val (.int (1 : Int32)), .unset, .unset] [(.int ((XT.ushr p2 (16 : Int32)).toInt8.toInt32)), (.int (1 : Int32)), (.ref b79)])) rfl rfl (hb hby at_250)
    refine own_go st143 ?_
    rw [show nar .byte ((XT.ushr p2 (16 : Int32)).toInt8.toInt32) = ((XT.ushr p2 (16 : Int32)).toInt8.toInt32) from (own_bb _)] at W143
    have f144 := f138.wr W143
    have f145 := f139.wr W143
    have f146 := f140.other W143 (Or.inl (Ne.symm ne131))
    have f147 := f141.other W143 (Ne.symm neb130)
    have zs148 : n0 ≤ h143.size := Nat.le_trans zs142 (Keep.of_wr W143).1
    have V143 : Arv Z h143 b79 k79 .byte (16 : Int32) [(.int ((XT.ushr p2 (24 : Int32)).toInt8.toInt32)), (.int ((XT.ushr p2 (16 : Int32)).toInt8.toInt32)), (.int ((XT.ushr p1 (8 : Int32)).toInt8.toInt32)), (.int (p1.toInt8.toInt32)), (.int (((XT.ushrL q4 (56 : Int32)).toInt32).toInt8.toInt32)), (.int (((XT.ushrL q4 (48 : Int32)).toInt32).toInt8.toInt32)), (.int (((XT.ushrL q4 (40 : Int32)).toInt32).toInt8.toInt32)), (.int (((XT.ushrL q4 (32 : Int32)).toInt32).toInt8.toInt32)), (.int (((XT.ushrL q4 (24 : Int32)).toInt32).toInt8.toInt32)), (.int (((XT.ushrL q4 (16 : Int32)).toInt32).toInt8.toInt32)), (.int (((XT.ushrL q4 (8 : Int32)).toInt32).toInt8.toInt32)), (.int ((q4.toInt32).toInt8.toInt32)), (.int ((XT.ushr p2 (24 : Int32)).toInt8.toInt32)), (.int ((XT.ushr p2 (16 : Int32)).toInt8.toInt32)), (.int ((XT.ushr p2 (8 : Int32)).toInt8.toInt32)), (.int (p2.toInt8.toInt32))] (.int (0 : Int32)) := Arv.set Ar143 q143 S143 M143 B143 G143 (fits_nar_byte _) W143 1 rfl (Nat.le_of_ble_eq_true rfl)
    have N143 := Fr.snoc X143 N137 ge80
    show own_G p e below (T143.setTop (mkF m 251 #[.val (.int p1), .val (.int p2), .val (.int p3), .val (.long q4), .second, .val (.int (0 : Int32)), .val (.ref b79), .val (.ref o130), .val (.int (1 : Int32)), .val (.int (1 : Int32)), .unset, .unset] [])) _
    refine own_go (fun _ k => XS.aload X143.here hx rfl (hb hby at_251) rfl rfl k) ?_
    show own_G p e below (T143.setTop (mkF m 253 #[.val (.int p1), .val (.int p2), .val (.int p3), .val (.long q4), .second, .val (.int (0 : Int32)), .val (.ref b79), .val (.ref o130), .val (.int (1 : Int32)), .val (.int (1 : Int32)), .unset, .unset] [(.ref b79)])) _
    refine own_go (fun _ k => XS.iconst X143.here hx rfl (hb hby at_253) k) ?_
    show own_G p e below (T143.setTop (mkF m 254 #[.val (.int p1), .val (.int p2), .val (.int p3), .val (.long q4), .second, .val (.int (0 : Int32)), .val (.ref b79), .val (.ref o130), .val (.int (1 : Int32)), .val (.int (1 : Int32)), .unset, .unset] [(.int (2 : Int32)), (.ref b79)])) _
    refine own_go (fun _ k => XS.iloadN X143.here hx rfl (hb hby at_254) rfl k) ?_
    show own_G p e below (T143.setTop (mkF m 255 #[.val (.int p1), .val (.int p2), .val (.int p3), .val (.long q4), .second, .val (.int (0 : Int32)), .val (.ref b79), .val (.ref o130), .val (.int (1 : Int32)), .val (.int (1 : Int32)), .unset, .unset] [(.int p2), (.int (2 : Int32)), (.ref b79)])) _
    refine own_go (fun _ k => XS.bipush X143.here hx rfl (hb hby at_255) k) ?_
    show own_G p e below (T143.setTop (mkF m 257 #[.val (.int p1), .val (.int p2), .val (.int p3), .val (.long q4), .second, .val (.int (0 : Int32)), .val (.ref b79), .val (.ref o130), .val (.int (1 : Int32)), .val (.int (1 : Int32)), .unset, .unset] [(.int (8 : Int32)), (.int p2), (.int (2 : Int32)), (.ref b79)])) _
    refine own_go (fun _ k => XT.iushr X143.here hx rfl (hb hby at_257) rfl k) ?_
    show own_G p e below (T143.setTop (mkF m 258 #[.val (.int p1), .val (.int p2), .val (.int p3), .val (.long q4), .second, .val (.int (0 : Int32)), .val (.ref b79), .val (.ref o130), .val (.int (1 : Int32)), .val (.int (1 : Int32)), .unset, .unset] [(.int (XT.ushr p2 (8 : Int32))), (.int (2 : Int32)), (.ref b79)])) _
    refine own_go (fun _ k => XS.i2b X143.here hx rfl (hb hby at_258) rfl k) ?_
    show own_G p e below (T143.setTop (mkF m 259 #[.val (.int p1), .val (.int p2), .val (.int p3), .val (.long q4), .second, .val (.int (0 : Int32)), .val (.ref b79), .val (.ref o130), .val (.int (1 : Int32)), .val (.int (1 : Int32)), .unset, .unset] [(.int ((XT.ushr p2 (8 : Int32)).toInt8.toInt32)), (.int (2 : Int32)), (.ref b79)])) _
    obtain ⟨cl149, Ar149, q149, S149, M149, B149, G149⟩ := id V143
    have hin149 : ¬ ((2 : Int32) < 0 ∨ cl149.slots.size ≤ ((2 : Int32)).toNatClampNeg) := inb_of S149 ⟨by decide, by decide⟩
    obtain ⟨T149, h149, X149, e149, W149, st149⟩ := stB X143 hx hZ e143 Ar149 (j := (2 : Int32)) hin149 (g := (mkF m 259 #[.val (.int p1), .val (.int p2), .val (.int p3), .val (.long q4), .second, .val (.int (0 : Int32)), .val (.ref b79), .val (.ref o130), .val (.int (1 : Int32)), .val (.int (1 : Int32)), .unset, .unset] [(.int ((XT.ushr p2 (8 : Int32)).toInt8.toInt32)), (.int (2 : Int32)), (.ref b79)])) rfl rfl (hb hby at_259)
    refine own_go st149 ?_
    rw [show nar .byte ((XT.ushr p2 (8 : Int32)).toInt8.toInt32) = ((XT.ushr p2 (8 : Int32)).toInt8.toInt32) from (own_bb _)] at W149
    have f150 := f144.wr W149
    have f151 := f145.wr W149
    have f152 := f146.other W149 (Or.inl (Ne.symm ne131))
    have f153 := f147.other W149 (Ne.symm neb130)
    have zs154 : n0 ≤ h149.size := Nat.le_trans zs148 (Keep.of_wr W149).1
    have V149 : Arv Z h149 b79 k79 .byte (16 : Int32) [(.int ((XT.ushr p2 (24 : Int32)).toInt8.toInt32)), (.int ((XT.ushr p2 (16 : Int32)).toInt8.toInt32)), (.int ((XT.ushr p2 (8 : Int32)).toInt8.toInt32)), (.int (p1.toInt8.toInt32)), (.int (((XT.ushrL q4 (56 : Int32)).toInt32).toInt8.toInt32)), (.int (((XT.ushrL q4 (48 : Int32)).toInt32).toInt8.toInt32)), (.int (((XT.ushrL q4 (40 : Int32)).toInt32).toInt8.toInt32)), (.int (((XT.ushrL q4 (32 : Int32)).toInt32).toInt8.toInt32)), (.int (((XT.ushrL q4 (24 : Int32)).toInt32).toInt8.toInt32)), (.int (((XT.ushrL q4 (16 : Int32)).toInt32).toInt8.toInt32)), (.int (((XT.ushrL q4 (8 : Int32)).toInt32).toInt8.toInt32)), (.int ((q4.toInt32).toInt8.toInt32)), (.int ((XT.ushr p2 (24 : Int32)).toInt8.toInt32)), (.int ((XT.ushr p2 (16 : Int32)).toInt8.toInt32)), (.int ((XT.ushr p2 (8 : Int32)).toInt8.toInt32)), (.int (p2.toInt8.toInt32))] (.int (0 : Int32)) := Arv.set Ar149 q149 S149 M149 B149 G149 (fits_nar_byte _) W149 2 rfl (Nat.le_of_ble_eq_true rfl)
    have N149 := Fr.snoc X149 N143 ge80
    show own_G p e below (T149.setTop (mkF m 260 #[.val (.int p1), .val (.int p2), .val (.int p3), .val (.long q4), .second, .val (.int (0 : Int32)), .val (.ref b79), .val (.ref o130), .val (.int (1 : Int32)), .val (.int (1 : Int32)), .unset, .unset] [])) _
    refine own_go (fun _ k => XS.aload X149.here hx rfl (hb hby at_260) rfl rfl k) ?_
    show own_G p e below (T149.setTop (mkF m 262 #[.val (.int p1), .val (.int p2), .val (.int p3), .val (.long q4), .second, .val (.int (0 : Int32)), .val (.ref b79), .val (.ref o130), .val (.int (1 : Int32)), .val (.int (1 : Int32)), .unset, .unset] [(.ref b79)])) _
    refine own_go (fun _ k => XS.iconst X149.here hx rfl (hb hby at_262) k) ?_
    show own_G p e below (T149.setTop (mkF m 263 #[.val (.int p1), .val (.int p2), .val (.int p3), .val (.long q4), .second, .val (.int (0 : Int32)), .val (.ref b79), .val (.ref o130), .val (.int (1 : Int32)), .val (.int (1 : Int32)), .unset, .unset] [(.int (3 : Int32)), (.ref b79)])) _
    refine own_go (fun _ k => XS.iloadN X149.here hx rfl (hb hby at_263) rfl k) ?_
    show own_G p e below (T149.setTop (mkF m 264 #[.val (.int p1), .val (.int p2), .val (.int p3), .val (.long q4), .second, .val (.int (0 : Int32)), .val (.ref b79), .val (.ref o130), .val (.int (1 : Int32)), .val (.int (1 : Int32)), .unset, .unset] [(.int p2), (.int (3 : Int32)), (.ref b79)])) _
    refine own_go (fun _ k => XS.i2b X149.here hx rfl (hb hby at_264) rfl k) ?_
    show own_G p e below (T149.setTop (mkF m 265 #[.val (.int p1), .val (.int p2), .val (.int p3), .val (.long q4), .second, .val (.int (0 : Int32)), .val (.ref b79), .val (.ref o130), .val (.int (1 : Int32)), .val (.int (1 : Int32)), .unset, .unset] [(.int (p2.toInt8.toInt32)), (.int (3 : Int32)), (.ref b79)])) _
    obtain ⟨cl155, Ar155, q155, S155, M155, B155, G155⟩ := id V149
    have hin155 : ¬ ((3 : Int32) < 0 ∨ cl155.slots.size ≤ ((3 : Int32)).toNatClampNeg) := inb_of S155 ⟨by decide, by decide⟩
    obtain ⟨T155, h155, X155, e155, W155, st155⟩ := stB X149 hx hZ e149 Ar155 (j := (3 : Int32)) hin155 (g := (mkF m 265 #[.val (.int p1), .val (.int p2), .val (.int p3), .val (.long q4), .second, .val (.int (0 : Int32)), .val (.ref b79), .val (.ref o130), .val (.int (1 : Int32)), .val (.int (1 : Int32)), .unset, .unset] [(.int (p2.toInt8.toInt32)), (.int (3 : Int32)), (.ref b79)])) rfl rfl (hb hby at_265)
    refine own_go st155 ?_
    rw [show nar .byte (p2.toInt8.toInt32) = (p2.toInt8.toInt32) from (own_bb _)] at W155
    have f156 := f150.wr W155
    have f157 := f151.wr W155
    have f158 := f152.other W155 (Or.inl (Ne.symm ne131))
    have f159 := f153.other W155 (Ne.symm neb130)
    have zs160 : n0 ≤ h155.size := Nat.le_trans zs154 (Keep.of_wr W155).1
    have V155 : Arv Z h155 b79 k79 .byte (16 : Int32) [(.int ((XT.ushr p2 (24 : Int32)).toInt8.toInt32)), (.int ((XT.ushr p2 (16 : Int32)).toInt8.toInt32)), (.int ((XT.ushr p2 (8 : Int32)).toInt8.toInt32)), (.int (p2.toInt8.toInt32)), (.int (((XT.ushrL q4 (56 : Int32)).toInt32).toInt8.toInt32)), (.int (((XT.ushrL q4 (48 : Int32)).toInt32).toInt8.toInt32)), (.int (((XT.ushrL q4 (40 : Int32)).toInt32).toInt8.toInt32)), (.int (((XT.ushrL q4 (32 : Int32)).toInt32).toInt8.toInt32)), (.int (((XT.ushrL q4 (24 : Int32)).toInt32).toInt8.toInt32)), (.int (((XT.ushrL q4 (16 : Int32)).toInt32).toInt8.toInt32)), (.int (((XT.ushrL q4 (8 : Int32)).toInt32).toInt8.toInt32)), (.int ((q4.toInt32).toInt8.toInt32)), (.int ((XT.ushr p2 (24 : Int32)).toInt8.toInt32)), (.int ((XT.ushr p2 (16 : Int32)).toInt8.toInt32)), (.int ((XT.ushr p2 (8 : Int32)).toInt8.toInt32)), (.int (p2.toInt8.toInt32))] (.int (0 : Int32)) := Arv.set Ar155 q155 S155 M155 B155 G155 (fits_nar_byte _) W155 3 rfl (Nat.le_of_ble_eq_true rfl)
    have N155 := Fr.snoc X155 N149 ge80
    show own_G p e below (T155.setTop (mkF m 266 #[.val (.int p1), .val (.int p2), .val (.int p3), .val (.long q4), .second, .val (.int (0 : Int32)), .val (.ref b79), .val (.ref o130), .val (.int (1 : Int32)), .val (.int (1 : Int32)), .unset, .unset] [])) _
    refine own_go (fun _ k => XS.aload X155.here hx rfl (hb hby at_266) rfl rfl k) ?_
    show own_G p e below (T155.setTop (mkF m 268 #[.val (.int p1), .val (.int p2), .val (.int p3), .val (.long q4), .second, .val (.int (0 : Int32)), .val (.ref b79), .val (.ref o130), .val (.int (1 : Int32)), .val (.int (1 : Int32)), .unset, .unset] [(.ref o130)])) _
    obtain ⟨cq161, kq161, q161a, q161b, q161c⟩ := isOf hZ e155 f157
    obtain ⟨_, _, ⟨T161, L161, k161, n161⟩, -, X161, ⟨Lc161, hQ161, l161, y161, z161⟩, st161⟩ := X155.virtualBack hx (y := (⟨"com/example/principal/principal/decision/IpAddress", "isIpv4", "()Z"⟩ : MethodName)) (z := (⟨"com/example/principal/principal/decision/IpAddress", "isIpv4", "()Z"⟩ : MethodName)) hown (mvT hZ (hw _ (List.mem_of_getElem? (i := 24) rfl))) (mvT hZ (hw _ (List.mem_of_getElem? (i := 25) rfl))) (notFace_of_selects (args := #[]) (mvT hZ (hw _ (List.mem_of_getElem? (i := 27) rfl)))) (mvT hZ (hw _ (List.mem_of_getElem? (i := 27) rfl))) (mvT hZ (hw _ (List.mem_of_getElem? (i := 26) rfl))) (by decide) (backOf (W := 0) (rm4 l Z a0 hw [] o130 b130q ko130 (16 : Int32) [(.int ((XT.ushr p1 (24 : Int32)).toInt8.toInt32)), (.int ((XT.ushr p1 (16 : Int32)).toInt8.toInt32)), (.int ((XT.ushr p1 (8 : Int32)).toInt8.toInt32)), (.int (p1.toInt8.toInt32)), (.int (((XT.ushrL q4 (56 : Int32)).toInt32).toInt8.toInt32)), (.int (((XT.ushrL q4 (48 : Int32)).toInt32).toInt8.toInt32)), (.int (((XT.ushrL q4 (40 : Int32)).toInt32).toInt8.toInt32)), (.int (((XT.ushrL q4 (32 : Int32)).toInt32).toInt8.toInt32)), (.int (((XT.ushrL q4 (24 : Int32)).toInt32).toInt8.toInt32)), (.int (((XT.ushrL q4 (16 : Int32)).toInt32).toInt8.toInt32)), (.int (((XT.ushrL q4 (8 : Int32)).toInt32).toInt8.toInt32)), (.int ((q4.toInt32).toInt8.toInt32)), (.int ((XT.ushr p2 (24 : Int32)).toInt8.toInt32)), (.int ((XT.ushr p2 (16 : Int32)).toInt8.toInt32)), (.int ((XT.ushr p2 (8 : Int32)).toInt8.toInt32)), (.int (p2.toInt8.toInt32))] h155 n0 zs160 f158 f159) hZ (hw _ (List.mem_of_getElem? (i := 28) rfl)) (hw _ (List.mem_of_getElem? (i := 3) rfl)) (by decide) (by decide)) q161a q161c (g := (mkF m 268 #[.val (.int p1), .val (.int p2), .val (.int p3), .val (.long q4), .second, .val (.int (0 : Int32)), .val (.ref b79), .val (.ref o130), .val (.int (1 : Int32)), .val (.int (1 : Int32)), .unset, .unset] [(.ref o130)])) rfl (by rw [hml]; rfl) (Steps.refl _) (argsL := []) (rest := []) (lenOf pd_2 rfl) rfl (by show 2 * 0 + _ ≤ _; exact Nat.le_of_eq rfl) (hb hby at_268) (fun _ _ => ⟨rfl, e155, (by decide : 0 + 1 + 2 + 0 + 0 ≤ _), (by decide : 0 + 16 + 17 + 0 + 0 ≤ _)⟩)
    dsimp only [Pt.U, Pt.locs, Pt.cells, Pt.slots] at X161 l161 y161 z161 st161 hQ161
    rw [l161, y161, z161] at X161
    obtain ⟨r161, rfl, Nq161, hh161, hr161⟩ := hQ161
    have N161 := Fr.app N155 Nq161
    refine own_go (fun _ k => st161.trans k) ?_
    have e161 : T161.heap = h155 := hh161
    obtain rfl : r161 = (0 : Int32) := hr161.trans (by decide)
    show own_G p e below (T161.setTop (mkF m 271 #[.val (.int p1), .val (.int p2), .val (.int p3), .val (.long q4), .second, .val (.int (0 : Int32)), .val (.ref b79), .val (.ref o130), .val (.int (1 : Int32)), .val (.int (1 : Int32)), .unset, .unset] [(.int (0 : Int32))])) _
    refine own_go (fun _ k => XS.iload X161.here hx rfl (hb hby at_271) rfl k) ?_
    show own_G p e below (T161.setTop (mkF m 273 #[.val (.int p1), .val (.int p2), .val (.int p3), .val (.long q4), .second, .val (.int (0 : Int32)), .val (.ref b79), .val (.ref o130), .val (.int (1 : Int32)), .val (.int (1 : Int32)), .unset, .unset] [(.int (0 : Int32)), (.int (0 : Int32))])) _
    refine own_go (fun _ k => XS.icmpNo X161.here hx rfl (hb hby at_273) rfl (teq (by decide : (0 : Int32) = (0 : Int32))).2 k) ?_
    show own_G p e below (T161.setTop (mkF m 276 #[.val (.int p1), .val (.int p2), .val (.int p3), .val (.long q4), .second, .val (.int (0 : Int32)), .val (.ref b79), .val (.ref o130), .val (.int (1 : Int32)), .val (.int (1 : Int32)), .unset, .unset] [])) _
    refine own_go (fun _ k => XS.iconst X161.here hx rfl (hb hby at_276) k) ?_
    show own_G p e below (T161.setTop (mkF m 277 #[.val (.int p1), .val (.int p2), .val (.int p3), .val (.long q4), .second, .val (.int (0 : Int32)), .val (.ref b79), .val (.ref o130), .val (.int (1 : Int32)), .val (.int (1 : Int32)), .unset, .unset] [(.int (1 : Int32))])) _
    refine own_go (fun _ k => XS.goto X161.here hx rfl (pc0 := 277) (pc' := 281) rfl (hb hby at_277) (by decide) (by decide) k) ?_
    show own_G p e below (T161.setTop (mkF m 281 #[.val (.int p1), .val (.int p2), .val (.int p3), .val (.long q4), .second, .val (.int (0 : Int32)), .val (.ref b79), .val (.ref o130), .val (.int (1 : Int32)), .val (.int (1 : Int32)), .unset, .unset] [(.int (1 : Int32))])) _
    refine own_go (fun _ k => XS.istore X161.here hx rfl (hb hby at_281) rfl (l' := #[.val (.int p1), .val (.int p2), .val (.int p3), .val (.long q4), .second, .val (.int (0 : Int32)), .val (.ref b79), .val (.ref o130), .val (.int (1 : Int32)), .val (.int (1 : Int32)), .val (.int (1 : Int32)), .unset]) rfl k) ?_
    show own_G p e below (T161.setTop (mkF m 283 #[.val (.int p1), .val (.int p2), .val (.int p3), .val (.long q4), .second, .val (.int (0 : Int32)), .val (.ref b79), .val (.ref o130), .val (.int (1 : Int32)), .val (.int (1 : Int32)), .val (.int (1 : Int32)), .unset] [])) _
    refine own_go (fun _ k => XS.iload X161.here hx rfl (hb hby at_283) rfl k) ?_
    show own_G p e below (T161.setTop (mkF m 285 #[.val (.int p1), .val (.int p2), .val (.int p3), .val (.long q4), .second, .val (.int (0 : Int32)), .val (.ref b79), .val (.ref o130), .val (.int (1 : Int32)), .val (.int (1 : Int32)), .val (.int (1 : Int32)), .unset] [(.int (0 : Int32))])) _
    refine own_go (fun _ k => XS.ifYes X161.here hx rfl (pc0 := 285) (pc' := 297) rfl (hb hby at_285) rfl ((if0 _ _).trans (teq (by decide : (0 : Int32) = (0 : Int32))).1) (by decide) (by decide) k) ?_
    show own_G p e below (T161.setTop (mkF m 297 #[.val (.int p1), .val (.int p2), .val (.int p3), .val (.long q4), .second, .val (.int (0 : Int32)), .val (.ref b79), .val (.ref o130), .val (.int (1 : Int32)), .val (.int (1 : Int32)), .val (.int (1 : Int32)), .unset] [])) _
    refine own_go (fun _ k => XS.iconst X161.here hx rfl (hb hby at_297) k) ?_
    show own_G p e below (T161.setTop (mkF m 298 #[.val (.int p1), .val (.int p2), .val (.int p3), .val (.long q4), .second, .val (.int (0 : Int32)), .val (.ref b79), .val (.ref o130), .val (.int (1 : Int32)), .val (.int (1 : Int32)), .val (.int (1 : Int32)), .unset] [(.int (1 : Int32))])) _
    refine own_go (fun _ k => XS.goto X161.here hx rfl (pc0 := 298) (pc' := 302) rfl (hb hby at_298) (by decide) (by decide) k) ?_
    show own_G p e below (T161.setTop (mkF m 302 #[.val (.int p1), .val (.int p2), .val (.int p3), .val (.long q4), .second, .val (.int (0 : Int32)), .val (.ref b79), .val (.ref o130), .val (.int (1 : Int32)), .val (.int (1 : Int32)), .val (.int (1 : Int32)), .unset] [(.int (1 : Int32))])) _
    refine own_go (fun _ k => XS.istore X161.here hx rfl (hb hby at_302) rfl (l' := #[.val (.int p1), .val (.int p2), .val (.int p3), .val (.long q4), .second, .val (.int (0 : Int32)), .val (.ref b79), .val (.ref o130), .val (.int (1 : Int32)), .val (.int (1 : Int32)), .val (.int (1 : Int32)), .val (.int (1 : Int32))]) rfl k) ?_
    show own_G p e below (T161.setTop (mkF m 304 #[.val (.int p1), .val (.int p2), .val (.int p3), .val (.long q4), .second, .val (.int (0 : Int32)), .val (.ref b79), .val (.ref o130), .val (.int (1 : Int32)), .val (.int (1 : Int32)), .val (.int (1 : Int32)), .val (.int (1 : Int32))] [])) _
    refine own_go (fun _ k => XS.iload X161.here hx rfl (hb hby at_304) rfl k) ?_
    show own_G p e below (T161.setTop (mkF m 306 #[.val (.int p1), .val (.int p2), .val (.int p3), .val (.long q4), .second, .val (.int (0 : Int32)), .val (.ref b79), .val (.ref o130), .val (.int (1 : Int32)), .val (.int (1 : Int32)), .val (.int (1 : Int32)), .val (.int (1 : Int32))] [(.int (1 : Int32))])) _
    refine own_go (fun _ k => XS.ifNo X161.here hx rfl (hb hby at_306) rfl ((if0 _ _).trans (feq (by decide : ¬ ((1 : Int32) = (0 : Int32)))).1) k) ?_
    show own_G p e below (T161.setTop (mkF m 309 #[.val (.int p1), .val (.int p2), .val (.int p3), .val (.long q4), .second, .val (.int (0 : Int32)), .val (.ref b79), .val (.ref o130), .val (.int (1 : Int32)), .val (.int (1 : Int32)), .val (.int (1 : Int32)), .val (.int (1 : Int32))] [])) _
    refine own_go (fun _ k => XS.iload X161.here hx rfl (hb hby at_309) rfl k) ?_
    show own_G p e below (T161.setTop (mkF m 311 #[.val (.int p1), .val (.int p2), .val (.int p3), .val (.long q4), .second, .val (.int (0 : Int32)), .val (.ref b79), .val (.ref o130), .val (.int (1 : Int32)), .val (.int (1 : Int32)), .val (.int (1 : Int32)), .val (.int (1 : Int32))] [(.int (1 : Int32))])) _
    refine own_go (fun _ k => XS.ifNo X161.here hx rfl (hb hby at_311) rfl ((if0 _ _).trans (feq (by decide : ¬ ((1 : Int32) = (0 : Int32)))).1) k) ?_
    show own_G p e below (T161.setTop (mkF m 314 #[.val (.int p1), .val (.int p2), .val (.int p3), .val (.long q4), .second, .val (.int (0 : Int32)), .val (.ref b79), .val (.ref o130), .val (.int (1 : Int32)), .val (.int (1 : Int32)), .val (.int (1 : Int32)), .val (.int (1 : Int32))] [])) _
    refine own_go (fun _ k => XS.iload X161.here hx rfl (hb hby at_314) rfl k) ?_
    show own_G p e below (T161.setTop (mkF m 316 #[.val (.int p1), .val (.int p2), .val (.int p3), .val (.long q4), .second, .val (.int (0 : Int32)), .val (.ref b79), .val (.ref o130), .val (.int (1 : Int32)), .val (.int (1 : Int32)), .val (.int (1 : Int32)), .val (.int (1 : Int32))] [(.int (1 : Int32))])) _
    refine own_go (fun _ k => XS.ifNo X161.here hx rfl (hb hby at_316) rfl ((if0 _ _).trans (feq (by decide : ¬ ((1 : Int32) = (0 : Int32)))).1) k) ?_
    show own_G p e below (T161.setTop (mkF m 319 #[.val (.int p1), .val (.int p2), .val (.int p3), .val (.long q4), .second, .val (.int (0 : Int32)), .val (.ref b79), .val (.ref o130), .val (.int (1 : Int32)), .val (.int (1 : Int32)), .val (.int (1 : Int32)), .val (.int (1 : Int32))] [])) _
    refine own_go (fun _ k => XS.iload X161.here hx rfl (hb hby at_319) rfl k) ?_
    show own_G p e below (T161.setTop (mkF m 321 #[.val (.int p1), .val (.int p2), .val (.int p3), .val (.long q4), .second, .val (.int (0 : Int32)), .val (.ref b79), .val (.ref o130), .val (.int (1 : Int32)), .val (.int (1 : Int32)), .val (.int (1 : Int32)), .val (.int (1 : Int32))] [(.int (1 : Int32))])) _
    refine own_go (fun _ k => XS.ifNo X161.here hx rfl (hb hby at_321) rfl ((if0 _ _).trans (feq (by decide : ¬ ((1 : Int32) = (0 : Int32)))).1) k) ?_
    show own_G p e below (T161.setTop (mkF m 324 #[.val (.int p1), .val (.int p2), .val (.int p3), .val (.long q4), .second, .val (.int (0 : Int32)), .val (.ref b79), .val (.ref o130), .val (.int (1 : Int32)), .val (.int (1 : Int32)), .val (.int (1 : Int32)), .val (.int (1 : Int32))] [])) _
    refine own_go (fun _ k => XS.iconst X161.here hx rfl (hb hby at_324) k) ?_
    show own_G p e below (T161.setTop (mkF m 325 #[.val (.int p1), .val (.int p2), .val (.int p3), .val (.long q4), .second, .val (.int (0 : Int32)), .val (.ref b79), .val (.ref o130), .val (.int (1 : Int32)), .val (.int (1 : Int32)), .val (.int (1 : Int32)), .val (.int (1 : Int32))] [(.int (1 : Int32))])) _
    refine own_go (fun _ k => XS.goto X161.here hx rfl (pc0 := 325) (pc' := 329) rfl (hb hby at_325) (by decide) (by decide) k) ?_
    show own_G p e below (T161.setTop (mkF m 329 #[.val (.int p1), .val (.int p2), .val (.int p3), .val (.long q4), .second, .val (.int (0 : Int32)), .val (.ref b79), .val (.ref o130), .val (.int (1 : Int32)), .val (.int (1 : Int32)), .val (.int (1 : Int32)), .val (.int (1 : Int32))] [(.int (1 : Int32))])) _
    refine own_ret X161 hlk (v := some (.int (1 : Int32))) (fun h => by rw [hret] at h; cases h) (Q0 Z p1 p2 p3 q4 h0 n0) (own_retI X161 hx (t := .boolean) hret rfl (Or.inl ⟨rfl, by simp, _, rfl⟩) (hb hby at_329)) (by decide) (by decide) ?_
    show Q0 Z p1 p2 p3 q4 h0 n0 _ T161.heap _
    rw [e161]
    exact ⟨rfl, N161⟩
  · refine own_go (fun _ k => XS.ifNo X0.here hx rfl (hb hby at_3) rfl ((if0 _ _).trans (feq hc3_78).1) k) ?_
    show own_G p e below (s₁.setTop (mkF m 6 #[.val (.int p1), .val (.int p2), .val (.int p3), .val (.long q4), .second, .unset, .unset, .unset, .unset, .unset, .unset, .unset] [])) _
    refine own_go (fun _ k => XS.iconst X0.here hx rfl (hb hby at_6) k) ?_
    show own_G p e below (s₁.setTop (mkF m 7 #[.val (.int p1), .val (.int p2), .val (.int p3), .val (.long q4), .second, .unset, .unset, .unset, .unset, .unset, .unset, .unset] [(.int (1 : Int32))])) _
    refine own_go (fun _ k => XS.goto X0.here hx rfl (pc0 := 7) (pc' := 11) rfl (hb hby at_7) (by decide) (by decide) k) ?_
    show own_G p e below (s₁.setTop (mkF m 11 #[.val (.int p1), .val (.int p2), .val (.int p3), .val (.long q4), .second, .unset, .unset, .unset, .unset, .unset, .unset, .unset] [(.int (1 : Int32))])) _
    refine own_go (fun _ k => XS.istore X0.here hx rfl (hb hby at_11) rfl (l' := #[.val (.int p1), .val (.int p2), .val (.int p3), .val (.long q4), .second, .val (.int (1 : Int32)), .unset, .unset, .unset, .unset, .unset, .unset]) rfl k) ?_
    show own_G p e below (s₁.setTop (mkF m 13 #[.val (.int p1), .val (.int p2), .val (.int p3), .val (.long q4), .second, .val (.int (1 : Int32)), .unset, .unset, .unset, .unset, .unset, .unset] [])) _
    refine own_go (fun _ k => XS.iload X0.here hx rfl (hb hby at_13) rfl k) ?_
    show own_G p e below (s₁.setTop (mkF m 15 #[.val (.int p1), .val (.int p2), .val (.int p3), .val (.long q4), .second, .val (.int (1 : Int32)), .unset, .unset, .unset, .unset, .unset, .unset] [(.int (1 : Int32))])) _
    refine own_go (fun _ k => XS.ifNo X0.here hx rfl (hb hby at_15) rfl ((if0 _ _).trans (feq (by decide : ¬ ((1 : Int32) = (0 : Int32)))).1) k) ?_
    show own_G p e below (s₁.setTop (mkF m 18 #[.val (.int p1), .val (.int p2), .val (.int p3), .val (.long q4), .second, .val (.int (1 : Int32)), .unset, .unset, .unset, .unset, .unset, .unset] [])) _
    refine own_go (fun _ k => XS.iconst X0.here hx rfl (hb hby at_18) k) ?_
    show own_G p e below (s₁.setTop (mkF m 19 #[.val (.int p1), .val (.int p2), .val (.int p3), .val (.long q4), .second, .val (.int (1 : Int32)), .unset, .unset, .unset, .unset, .unset, .unset] [(.int (4 : Int32))])) _
    obtain ⟨T162, h162, k162, X162, e162, E162, A162, Y162, st162⟩ := newPE X0 hx hZ (hw _ (List.mem_of_getElem? (i := 0) rfl)) e0 (g := (mkF m 19 #[.val (.int p1), .val (.int p2), .val (.int p3), .val (.long q4), .second, .val (.int (1 : Int32)), .unset, .unset, .unset, .unset, .unset, .unset] [(.int (4 : Int32))])) rfl (hb hby at_19) rfl (by decide) (cap := 4) (by decide) (by decide) (by decide) (by decide) (ad := "[B") (by decide)
    obtain ⟨b162, g162⟩ : ∃ z, z = h0.size := ⟨_, rfl⟩
    rw [← g162] at A162 Y162 st162
    refine own_go st162 ?_
    have ge163 : n0 ≤ b162 := Nat.le_trans Z0 (Nat.le_of_eq g162.symm)
    have zs164 : n0 ≤ h162.size := Nat.le_trans Z0 E162.1
    have V162 : Arv Z h162 b162 k162 .byte (4 : Int32) [(.int (0 : Int32)), (.int (0 : Int32)), (.int (0 : Int32)), (.int (0 : Int32))] (.int (0 : Int32)) := (Arv.new A162 (by decide)).pad (pad_rep [] (.int (0 : Int32)) 4)
    show own_G p e below (T162.setTop (mkF m 21 #[.val (.int p1), .val (.int p2), .val (.int p3), .val (.long q4), .second, .val (.int (1 : Int32)), .unset, .unset, .unset, .unset, .unset, .unset] [(.ref b162)])) _
    refine own_go (fun _ k => XS.goto X162.here hx rfl (pc0 := 21) (pc' := 28) rfl (hb hby at_21) (by decide) (by decide) k) ?_
    show own_G p e below (T162.setTop (mkF m 28 #[.val (.int p1), .val (.int p2), .val (.int p3), .val (.long q4), .second, .val (.int (1 : Int32)), .unset, .unset, .unset, .unset, .unset, .unset] [(.ref b162)])) _
    refine own_go (fun _ k => XS.astore X162.here hx rfl (hb hby at_28) rfl rfl (l' := #[.val (.int p1), .val (.int p2), .val (.int p3), .val (.long q4), .second, .val (.int (1 : Int32)), .val (.ref b162), .unset, .unset, .unset, .unset, .unset]) rfl k) ?_
    show own_G p e below (T162.setTop (mkF m 30 #[.val (.int p1), .val (.int p2), .val (.int p3), .val (.long q4), .second, .val (.int (1 : Int32)), .val (.ref b162), .unset, .unset, .unset, .unset, .unset] [])) _
    refine own_go (fun _ k => XS.aload X162.here hx rfl (hb hby at_30) rfl rfl k) ?_
    show own_G p e below (T162.setTop (mkF m 32 #[.val (.int p1), .val (.int p2), .val (.int p3), .val (.long q4), .second, .val (.int (1 : Int32)), .val (.ref b162), .unset, .unset, .unset, .unset, .unset] [(.ref b162)])) _
    refine own_go (fun _ k => XS.iconst X162.here hx rfl (hb hby at_32) k) ?_
    show own_G p e below (T162.setTop (mkF m 33 #[.val (.int p1), .val (.int p2), .val (.int p3), .val (.long q4), .second, .val (.int (1 : Int32)), .val (.ref b162), .unset, .unset, .unset, .unset, .unset] [(.int (0 : Int32)), (.ref b162)])) _
    refine own_go (fun _ k => XS.iloadN X162.here hx rfl (hb hby at_33) rfl k) ?_
    show own_G p e below (T162.setTop (mkF m 34 #[.val (.int p1), .val (.int p2), .val (.int p3), .val (.long q4), .second, .val (.int (1 : Int32)), .val (.ref b162), .unset, .unset, .unset, .unset, .unset] [(.int p1), (.int (0 : Int32)), (.ref b162)])) _
    refine own_go (fun _ k => XS.bipush X162.here hx rfl (hb hby at_34) k) ?_
    show own_G p e below (T162.setTop (mkF m 36 #[.val (.int p1), .val (.int p2), .val (.int p3), .val (.long q4), .second, .val (.int (1 : Int32)), .val (.ref b162), .unset, .unset, .unset, .unset, .unset] [(.int (24 : Int32)), (.int p1), (.int (0 : Int32)), (.ref b162)])) _
    refine own_go (fun _ k => XT.iushr X162.here hx rfl (hb hby at_36) rfl k) ?_
    show own_G p e below (T162.setTop (mkF m 37 #[.val (.int p1), .val (.int p2), .val (.int p3), .val (.long q4), .second, .val (.int (1 : Int32)), .val (.ref b162), .unset, .unset, .unset, .unset, .unset] [(.int (XT.ushr p1 (24 : Int32))), (.int (0 : Int32)), (.ref b162)])) _
    refine own_go (fun _ k => XS.i2b X162.here hx rfl (hb hby at_37) rfl k) ?_
    show own_G p e below (T162.setTop (mkF m 38 #[.val (.int p1), .val (.int p2), .val (.int p3), .val (.long q4), .second, .val (.int (1 : Int32)), .val (.ref b162), .unset, .unset, .unset, .unset, .unset] [(.int ((XT.ushr p1 (24 : Int32)).toInt8.toInt32)), (.int (0 : Int32)), (.ref b162)])) _
    obtain ⟨cl165, Ar165, q165, S165, M165, B165, G165⟩ := id V162
    have hin165 : ¬ ((0 : Int32) < 0 ∨ cl165.slots.size ≤ ((0 : Int32)).toNatClampNeg) := inb_of S165 ⟨by decide, by decide⟩
    obtain ⟨T165, h165, X165, e165, W165, st165⟩ := stB X162 hx hZ e162 Ar165 (j := (0 : Int32)) hin165 (g := (mkF m 38 #[.val (.int p1), .val (.int p2), .val (.int p3), .val (.long q4), .second, .val (.int (1 : Int32)), .val (.ref b162), .unset, .unset, .unset, .unset, .unset] [(.int ((XT.ushr p1 (24 : Int32)).toInt8.toInt32)), (.int (0 : Int32)), (.ref b162)])) rfl rfl (hb hby at_38)
    refine own_go st165 ?_
    rw [show nar .byte ((XT.ushr p1 (24 : Int32)).toInt8.toInt32) = ((XT.ushr p1 (24 : Int32)).toInt8.toInt32) from (own_bb _)] at W165
    have f166 := Y162.wr W165
    have zs167 : n0 ≤ h165.size := Nat.le_trans zs164 (Keep.of_wr W165).1
    have V165 : Arv Z h165 b162 k162 .byte (4 : Int32) [(.int ((XT.ushr p1 (24 : Int32)).toInt8.toInt32)), (.int (0 : Int32)), (.int (0 : Int32)), (.int (0 : Int32))] (.int (0 : Int32)) := Arv.set Ar165 q165 S165 M165 B165 G165 (fits_nar_byte _) W165 0 rfl (Nat.le_of_ble_eq_true rfl)
    have N165 := Fr.snoc X165 N0 ge163
    show own_G p e below (T165.setTop (mkF m 39 #[.val (.int p1), .val (.int p2), .val (.int p3), .val (.long q4), .second, .val (.int (1 : Int32)), .val (.ref b162), .unset, .unset, .unset, .unset, .unset] [])) _
    refine own_go (fun _ k => XS.aload X165.here hx rfl (hb hby at_39) rfl rfl k) ?_
    show own_G p e below (T165.setTop (mkF m 41 #[.val (.int p1), .val (.int p2), .val (.int p3), .val (.long q4), .second, .val (.int (1 : Int32)), .val (.ref b162), .unset, .unset, .unset, .unset, .unset] [(.ref b162)])) _
    refine own_go (fun _ k => XS.iconst X165.here hx rfl (hb hby at_41) k) ?_
    show own_G p e below (T165.setTop (mkF m 42 #[.val (.int p1), .val (.int p2), .val (.int p3), .val (.long q4), .second, .val (.int (1 : Int32)), .val (.ref b162), .unset, .unset, .unset, .unset, .unset] [(.int (1 : Int32)), (.ref b162)])) _
    refine own_go (fun _ k => XS.iloadN X165.here hx rfl (hb hby at_42) rfl k) ?_
    show own_G p e below (T165.setTop (mkF m 43 #[.val (.int p1), .val (.int p2), .val (.int p3), .val (.long q4), .second, .val (.int (1 : Int32)), .val (.ref b162), .unset, .unset, .unset, .unset, .unset] [(.int p1), (.int (1 : Int32)), (.ref b162)])) _
    refine own_go (fun _ k => XS.bipush X165.here hx rfl (hb hby at_43) k) ?_
    show own_G p e below (T165.setTop (mkF m 45 #[.val (.int p1), .val (.int p2), .val (.int p3), .val (.long q4), .second, .val (.int (1 : Int32)), .val (.ref b162), .unset, .unset, .unset, .unset, .unset] [(.int (16 : Int32)), (.int p1), (.int (1 : Int32)), (.ref b162)])) _
    refine own_go (fun _ k => XT.iushr X165.here hx rfl (hb hby at_45) rfl k) ?_
    show own_G p e below (T165.setTop (mkF m 46 #[.val (.int p1), .val (.int p2), .val (.int p3), .val (.long q4), .second, .val (.int (1 : Int32)), .val (.ref b162), .unset, .unset, .unset, .unset, .unset] [(.int (XT.ushr p1 (16 : Int32))), (.int (1 : Int32)), (.ref b162)])) _
    refine own_go (fun _ k => XS.i2b X165.here hx rfl (hb hby at_46) rfl k) ?_
    show own_G p e below (T165.setTop (mkF m 47 #[.val (.int p1), .val (.int p2), .val (.int p3), .val (.long q4), .second, .val (.int (1 : Int32)), .val (.ref b162), .unset, .unset, .unset, .unset, .unset] [(.int ((XT.ushr p1 (16 : Int32)).toInt8.toInt32)), (.int (1 : Int32)), (.ref b162)])) _
    obtain ⟨cl168, Ar168, q168, S168, M168, B168, G168⟩ := id V165
    have hin168 : ¬ ((1 : Int32) < 0 ∨ cl168.slots.size ≤ ((1 : Int32)).toNatClampNeg) := inb_of S168 ⟨by decide, by decide⟩
    obtain ⟨T168, h168, X168, e168, W168, st168⟩ := stB X165 hx hZ e165 Ar168 (j := (1 : Int32)) hin168 (g := (mkF m 47 #[.val (.int p1), .val (.int p2), .val (.int p3), .val (.long q4), .second, .val (.int (1 : Int32)), .val (.ref b162), .unset, .unset, .unset, .unset, .unset] [(.int ((XT.ushr p1 (16 : Int32)).toInt8.toInt32)), (.int (1 : Int32)), (.ref b162)])) rfl rfl (hb hby at_47)
    refine own_go st168 ?_
    rw [show nar .byte ((XT.ushr p1 (16 : Int32)).toInt8.toInt32) = ((XT.ushr p1 (16 : Int32)).toInt8.toInt32) from (own_bb _)] at W168
    have f169 := f166.wr W168
    have zs170 : n0 ≤ h168.size := Nat.le_trans zs167 (Keep.of_wr W168).1
    have V168 : Arv Z h168 b162 k162 .byte (4 : Int32) [(.int ((XT.ushr p1 (24 : Int32)).toInt8.toInt32)), (.int ((XT.ushr p1 (16 : Int32)).toInt8.toInt32)), (.int (0 : Int32)), (.int (0 : Int32))] (.int (0 : Int32)) := Arv.set Ar168 q168 S168 M168 B168 G168 (fits_nar_byte _) W168 1 rfl (Nat.le_of_ble_eq_true rfl)
    have N168 := Fr.snoc X168 N165 ge163
    show own_G p e below (T168.setTop (mkF m 48 #[.val (.int p1), .val (.int p2), .val (.int p3), .val (.long q4), .second, .val (.int (1 : Int32)), .val (.ref b162), .unset, .unset, .unset, .unset, .unset] [])) _
    refine own_go (fun _ k => XS.aload X168.here hx rfl (hb hby at_48) rfl rfl k) ?_
    show own_G p e below (T168.setTop (mkF m 50 #[.val (.int p1), .val (.int p2), .val (.int p3), .val (.long q4), .second, .val (.int (1 : Int32)), .val (.ref b162), .unset, .unset, .unset, .unset, .unset] [(.ref b162)])) _
    refine own_go (fun _ k => XS.iconst X168.here hx rfl (hb hby at_50) k) ?_
    show own_G p e below (T168.setTop (mkF m 51 #[.val (.int p1), .val (.int p2), .val (.int p3), .val (.long q4), .second, .val (.int (1 : Int32)), .val (.ref b162), .unset, .unset, .unset, .unset, .unset] [(.int (2 : Int32)), (.ref b162)])) _
    refine own_go (fun _ k => XS.iloadN X168.here hx rfl (hb hby at_51) rfl k) ?_
    show own_G p e below (T168.setTop (mkF m 52 #[.val (.int p1), .val (.int p2), .val (.int p3), .val (.long q4), .second, .val (.int (1 : Int32)), .val (.ref b162), .unset, .unset, .unset, .unset, .unset] [(.int p1), (.int (2 : Int32)), (.ref b162)])) _
    refine own_go (fun _ k => XS.bipush X168.here hx rfl (hb hby at_52) k) ?_
    show own_G p e below (T168.setTop (mkF m 54 #[.val (.int p1), .val (.int p2), .val (.int p3), .val (.long q4), .second, .val (.int (1 : Int32)), .val (.ref b162), .unset, .unset, .unset, .unset, .unset] [(.int (8 : Int32)), (.int p1), (.int (2 : Int32)), (.ref b162)])) _
    refine own_go (fun _ k => XT.iushr X168.here hx rfl (hb hby at_54) rfl k) ?_
    show own_G p e below (T168.setTop (mkF m 55 #[.val (.int p1), .val (.int p2), .val (.int p3), .val (.long q4), .second, .val (.int (1 : Int32)), .val (.ref b162), .unset, .unset, .unset, .unset, .unset] [(.int (XT.ushr p1 (8 : Int32))), (.int (2 : Int32)), (.ref b162)])) _
    refine own_go (fun _ k => XS.i2b X168.here hx rfl (hb hby at_55) rfl k) ?_
    show own_G p e below (T168.setTop (mkF m 56 #[.val (.int p1), .val (.int p2), .val (.int p3), .val (.long q4), .second, .val (.int (1 : Int32)), .val (.ref b162), .unset, .unset, .unset, .unset, .unset] [(.int ((XT.ushr p1 (8 : Int32)).toInt8.toInt32)), (.int (2 : Int32)), (.ref b162)])) _
    obtain ⟨cl171, Ar171, q171, S171, M171, B171, G171⟩ := id V168
    have hin171 : ¬ ((2 : Int32) < 0 ∨ cl171.slots.size ≤ ((2 : Int32)).toNatClampNeg) := inb_of S171 ⟨by decide, by decide⟩
    obtain ⟨T171, h171, X171, e171, W171, st171⟩ := stB X168 hx hZ e168 Ar171 (j := (2 : Int32)) hin171 (g := (mkF m 56 #[.val (.int p1), .val (.int p2), .val (.int p3), .val (.long q4), .second, .val (.int (1 : Int32)), .val (.ref b162), .unset, .unset, .unset, .unset, .unset] [(.int ((XT.ushr p1 (8 : Int32)).toInt8.toInt32)), (.int (2 : Int32)), (.ref b162)])) rfl rfl (hb hby at_56)
    refine own_go st171 ?_
    rw [show nar .byte ((XT.ushr p1 (8 : Int32)).toInt8.toInt32) = ((XT.ushr p1 (8 : Int32)).toInt8.toInt32) from (own_bb _)] at W171
    have f172 := f169.wr W171
    have zs173 : n0 ≤ h171.size := Nat.le_trans zs170 (Keep.of_wr W171).1
    have V171 : Arv Z h171 b162 k162 .byte (4 : Int32) [(.int ((XT.ushr p1 (24 : Int32)).toInt8.toInt32)), (.int ((XT.ushr p1 (16 : Int32)).toInt8.toInt32)), (.int ((XT.ushr p1 (8 : Int32)).toInt8.toInt32)), (.int (0 : Int32))] (.int (0 : Int32)) := Arv.set Ar171 q171 S171 M171 B171 G171 (fits_nar_byte _) W171 2 rfl (Nat.le_of_ble_eq_true rfl)
    have N171 := Fr.snoc X171 N168 ge163
    show own_G p e below (T171.setTop (mkF m 57 #[.val (.int p1), .val (.int p2), .val (.int p3), .val (.long q4), .second, .val (.int (1 : Int32)), .val (.ref b162), .unset, .unset, .unset, .unset, .unset] [])) _
    refine own_go (fun _ k => XS.aload X171.here hx rfl (hb hby at_57) rfl rfl k) ?_
    show own_G p e below (T171.setTop (mkF m 59 #[.val (.int p1), .val (.int p2), .val (.int p3), .val (.long q4), .second, .val (.int (1 : Int32)), .val (.ref b162), .unset, .unset, .unset, .unset, .unset] [(.ref b162)])) _
    refine own_go (fun _ k => XS.iconst X171.here hx rfl (hb hby at_59) k) ?_
    show own_G p e below (T171.setTop (mkF m 60 #[.val (.int p1), .val (.int p2), .val (.int p3), .val (.long q4), .second, .val (.int (1 : Int32)), .val (.ref b162), .unset, .unset, .unset, .unset, .unset] [(.int (3 : Int32)), (.ref b162)])) _
    refine own_go (fun _ k => XS.iloadN X171.here hx rfl (hb hby at_60) rfl k) ?_
    show own_G p e below (T171.setTop (mkF m 61 #[.val (.int p1), .val (.int p2), .val (.int p3), .val (.long q4), .second, .val (.int (1 : Int32)), .val (.ref b162), .unset, .unset, .unset, .unset, .unset] [(.int p1), (.int (3 : Int32)), (.ref b162)])) _
    refine own_go (fun _ k => XS.i2b X171.here hx rfl (hb hby at_61) rfl k) ?_
    show own_G p e below (T171.setTop (mkF m 62 #[.val (.int p1), .val (.int p2), .val (.int p3), .val (.long q4), .second, .val (.int (1 : Int32)), .val (.ref b162), .unset, .unset, .unset, .unset, .unset] [(.int (p1.toInt8.toInt32)), (.int (3 : Int32)), (.ref b162)])) _
    obtain ⟨cl174, Ar174, q174, S174, M174, B174, G174⟩ := id V171
    have hin174 : ¬ ((3 : Int32) < 0 ∨ cl174.slots.size ≤ ((3 : Int32)).toNatClampNeg) := inb_of S174 ⟨by decide, by decide⟩
    obtain ⟨T174, h174, X174, e174, W174, st174⟩ := stB X171 hx hZ e171 Ar174 (j := (3 : Int32)) hin174 (g := (mkF m 62 #[.val (.int p1), .val (.int p2), .val (.int p3), .val (.long q4), .second, .val (.int (1 : Int32)), .val (.ref b162), .unset, .unset, .unset, .unset, .unset] [(.int (p1.toInt8.toInt32)), (.int (3 : Int32)), (.ref b162)])) rfl rfl (hb hby at_62)
    refine own_go st174 ?_
    rw [show nar .byte (p1.toInt8.toInt32) = (p1.toInt8.toInt32) from (own_bb _)] at W174
    have f175 := f172.wr W174
    have zs176 : n0 ≤ h174.size := Nat.le_trans zs173 (Keep.of_wr W174).1
    have V174 : Arv Z h174 b162 k162 .byte (4 : Int32) [(.int ((XT.ushr p1 (24 : Int32)).toInt8.toInt32)), (.int ((XT.ushr p1 (16 : Int32)).toInt8.toInt32)), (.int ((XT.ushr p1 (8 : Int32)).toInt8.toInt32)), (.int (p1.toInt8.toInt32))] (.int (0 : Int32)) := Arv.set Ar174 q174 S174 M174 B174 G174 (fits_nar_byte _) W174 3 rfl (Nat.le_of_ble_eq_true rfl)
    have N174 := Fr.snoc X174 N171 ge163
    show own_G p e below (T174.setTop (mkF m 63 #[.val (.int p1), .val (.int p2), .val (.int p3), .val (.long q4), .second, .val (.int (1 : Int32)), .val (.ref b162), .unset, .unset, .unset, .unset, .unset] [])) _
    refine own_go (fun _ k => XS.iload X174.here hx rfl (hb hby at_63) rfl k) ?_
    show own_G p e below (T174.setTop (mkF m 65 #[.val (.int p1), .val (.int p2), .val (.int p3), .val (.long q4), .second, .val (.int (1 : Int32)), .val (.ref b162), .unset, .unset, .unset, .unset, .unset] [(.int (1 : Int32))])) _
    refine own_go (fun _ k => XS.ifYes X174.here hx rfl (pc0 := 65) (pc' := 188) rfl (hb hby at_65) rfl ((if0 _ _).trans (feq (by decide : ¬ ((1 : Int32) = (0 : Int32)))).2) (by decide) (by decide) k) ?_
    show own_G p e below (T174.setTop (mkF m 188 #[.val (.int p1), .val (.int p2), .val (.int p3), .val (.long q4), .second, .val (.int (1 : Int32)), .val (.ref b162), .unset, .unset, .unset, .unset, .unset] [])) _
    refine own_go (fun _ k => XS.aload X174.here hx rfl (hb hby at_188) rfl rfl k) ?_
    show own_G p e below (T174.setTop (mkF m 190 #[.val (.int p1), .val (.int p2), .val (.int p3), .val (.long q4), .second, .val (.int (1 : Int32)), .val (.ref b162), .unset, .unset, .unset, .unset, .unset] [(.ref b162)])) _
    obtain ⟨_, _, ⟨T177, L177, k177, n177⟩, -, X177, ⟨Lc177, hQ177, l177, y177, z177⟩, st177⟩ := Jvm.LawKit.callS X174 hx (y := (⟨"com/example/principal/principal/decision/IpAddress", "of", "([B)Lcom/example/principal/principal/decision/IpAddress;"⟩ : MethodName)) hown (mvT hZ (hw _ (List.mem_of_getElem? (i := 1) rfl))) (mvT hZ (hw _ (List.mem_of_getElem? (i := 2) rfl))) (mvT hZ (hw _ (List.mem_of_getElem? (i := 3) rfl))) (mvT hZ (hw _ (List.mem_of_getElem? (i := 4) rfl))) (by decide) (backOf (W := 0) (rm1_4 l Z a0 hw [] b162 k162 ((XT.ushr p1 (24 : Int32)).toInt8.toInt32) ((XT.ushr p1 (16 : Int32)).toInt8.toInt32) ((XT.ushr p1 (8 : Int32)).toInt8.toInt32) (p1.toInt8.toInt32) h174 n0 zs176 V174 f175) hZ (hw _ (List.mem_of_getElem? (i := 4) rfl)) (hw _ (List.mem_of_getElem? (i := 3) rfl)) (by decide) (by decide)) (g := (mkF m 190 #[.val (.int p1), .val (.int p2), .val (.int p3), .val (.long q4), .second, .val (.int (1 : Int32)), .val (.ref b162), .unset, .unset, .unset, .unset, .unset] [(.ref b162)])) rfl (by rw [hml]; rfl) (argsL := [(.ref b162)]) (rest := []) (lenOf pd_1 rfl) rfl (by show 2 * 0 + _ ≤ _; exact Nat.le_of_eq rfl) (hb hby at_190) (fun _ _ => ⟨rfl, e174, (by decide : 0 + 1 + 2 ≤ _), (by decide : 0 + 4 + 5 ≤ _)⟩)
    dsimp only [Pt.U, Pt.locs, Pt.cells, Pt.slots] at X177 l177 y177 z177 st177 hQ177
    rw [l177, y177, z177] at X177
    obtain ⟨o177, b177q, ko177, rfl, Nq177, K177, hso177, hsb177, Eo177, Fo177, Vo177⟩ := hQ177
    have N177 := Fr.app N174 Nq177
    refine own_go st177 ?_
    have ne178 : b162 ≠ o177 := Nat.ne_of_lt (Nat.lt_of_lt_of_le f175.lt hso177)
    have ge179 : n0 ≤ o177 := Nat.le_trans zs176 hso177
    have neb177 : b162 ≠ b177q := Nat.ne_of_lt (Nat.lt_of_lt_of_le V174.lt hsb177)
    have f180 := f175.keep K177
    have f181 := V174.keep K177 nin0
    have zs182 : n0 ≤ T177.heap.size := Nat.le_trans zs176 K177.1
    show own_G p e below (T177.setTop (mkF m 193 #[.val (.int p1), .val (.int p2), .val (.int p3), .val (.long q4), .second, .val (.int (1 : Int32)), .val (.ref b162), .unset, .unset, .unset, .unset, .unset] [(.ref o177)])) _
    refine own_go (fun _ k => XS.astore X177.here hx rfl (hb hby at_193) rfl rfl (l' := #[.val (.int p1), .val (.int p2), .val (.int p3), .val (.long q4), .second, .val (.int (1 : Int32)), .val (.ref b162), .val (.ref o177), .unset, .unset, .unset, .unset]) rfl k) ?_
    show own_G p e below (T177.setTop (mkF m 195 #[.val (.int p1), .val (.int p2), .val (.int p3), .val (.long q4), .second, .val (.int (1 : Int32)), .val (.ref b162), .val (.ref o177), .unset, .unset, .unset, .unset] [])) _
    refine own_go (fun _ k => XS.aload X177.here hx rfl (hb hby at_195) rfl rfl k) ?_
    show own_G p e below (T177.setTop (mkF m 197 #[.val (.int p1), .val (.int p2), .val (.int p3), .val (.long q4), .second, .val (.int (1 : Int32)), .val (.ref b162), .val (.ref o177), .unset, .unset, .unset, .unset] [(.ref o177)])) _
    obtain ⟨cq183, kq183, q183a, q183b, q183c⟩ := isOf hZ rfl Eo177
    obtain ⟨_, _, ⟨T183, L183, k183, n183⟩, -, X183, ⟨Lc183, hQ183, l183, y183, z183⟩, st183⟩ := X177.virtualBack hx (y := (⟨"com/example/principal/principal/decision/IpAddress", "isIpv4", "()Z"⟩ : MethodName)) (z := (⟨"com/example/principal/principal/decision/IpAddress", "isIpv4", "()Z"⟩ : MethodName)) hown (mvT hZ (hw _ (List.mem_of_getElem? (i := 24) rfl))) (mvT hZ (hw _ (List.mem_of_getElem? (i := 25) rfl))) (notFace_of_selects (args := #[]) (mvT hZ (hw _ (List.mem_of_getElem? (i := 27) rfl)))) (mvT hZ (hw _ (List.mem_of_getElem? (i := 27) rfl))) (mvT hZ (hw _ (List.mem_of_getElem? (i := 26) rfl))) (by decide) (backOf (W := 0) (rm4 l Z a0 hw [] o177 b177q ko177 (4 : Int32) [(.int ((XT.ushr p1 (24 : Int32)).toInt8.toInt32)), (.int ((XT.ushr p1 (16 : Int32)).toInt8.toInt32)), (.int ((XT.ushr p1 (8 : Int32)).toInt8.toInt32)), (.int (p1.toInt8.toInt32))] T177.heap n0 zs182 Fo177 Vo177) hZ (hw _ (List.mem_of_getElem? (i := 28) rfl)) (hw _ (List.mem_of_getElem? (i := 3) rfl)) (by decide) (by decide)) q183a q183c (g := (mkF m 197 #[.val (.int p1), .val (.int p2), .val (.int p3), .val (.long q4), .second, .val (.int (1 : Int32)), .val (.ref b162), .val (.ref o177), .unset, .unset, .unset, .unset] [(.ref o177)])) rfl (by rw [hml]; rfl) (Steps.refl _) (argsL := []) (rest := []) (lenOf pd_2 rfl) rfl (by show 2 * 0 + _ ≤ _; exact Nat.le_of_eq rfl) (hb hby at_197) (fun _ _ => ⟨rfl, rfl, (by decide : 0 + 1 + 2 + 0 ≤ _), (by decide : 0 + 4 + 5 + 0 ≤ _)⟩)
    dsimp only [Pt.U, Pt.locs, Pt.cells, Pt.slots] at X183 l183 y183 z183 st183 hQ183
    rw [l183, y183, z183] at X183
    obtain ⟨r183, rfl, Nq183, hh183, hr183⟩ := hQ183
    have N183 := Fr.app N177 Nq183
    refine own_go (fun _ k => st183.trans k) ?_
    have e183 : T183.heap = T177.heap := hh183
    obtain rfl : r183 = (1 : Int32) := hr183.trans (by decide)
    show own_G p e below (T183.setTop (mkF m 200 #[.val (.int p1), .val (.int p2), .val (.int p3), .val (.long q4), .second, .val (.int (1 : Int32)), .val (.ref b162), .val (.ref o177), .unset, .unset, .unset, .unset] [(.int (1 : Int32))])) _
    refine own_go (fun _ k => XS.iload X183.here hx rfl (hb hby at_200) rfl k) ?_
    show own_G p e below (T183.setTop (mkF m 202 #[.val (.int p1), .val (.int p2), .val (.int p3), .val (.long q4), .second, .val (.int (1 : Int32)), .val (.ref b162), .val (.ref o177), .unset, .unset, .unset, .unset] [(.int (1 : Int32)), (.int (1 : Int32))])) _
    refine own_go (fun _ k => XS.icmpNo X183.here hx rfl (hb hby at_202) rfl (teq (by decide : (1 : Int32) = (1 : Int32))).2 k) ?_
    show own_G p e below (T183.setTop (mkF m 205 #[.val (.int p1), .val (.int p2), .val (.int p3), .val (.long q4), .second, .val (.int (1 : Int32)), .val (.ref b162), .val (.ref o177), .unset, .unset, .unset, .unset] [])) _
    refine own_go (fun _ k => XS.iconst X183.here hx rfl (hb hby at_205) k) ?_
    show own_G p e below (T183.setTop (mkF m 206 #[.val (.int p1), .val (.int p2), .val (.int p3), .val (.long q4), .second, .val (.int (1 : Int32)), .val (.ref b162), .val (.ref o177), .unset, .unset, .unset, .unset] [(.int (1 : Int32))])) _
    refine own_go (fun _ k => XS.goto X183.here hx rfl (pc0 := 206) (pc' := 210) rfl (hb hby at_206) (by decide) (by decide) k) ?_
    show own_G p e below (T183.setTop (mkF m 210 #[.val (.int p1), .val (.int p2), .val (.int p3), .val (.long q4), .second, .val (.int (1 : Int32)), .val (.ref b162), .val (.ref o177), .unset, .unset, .unset, .unset] [(.int (1 : Int32))])) _
    refine own_go (fun _ k => XS.istore X183.here hx rfl (hb hby at_210) rfl (l' := #[.val (.int p1), .val (.int p2), .val (.int p3), .val (.long q4), .second, .val (.int (1 : Int32)), .val (.ref b162), .val (.ref o177), .val (.int (1 : Int32)), .unset, .unset, .unset]) rfl k) ?_
    show own_G p e below (T183.setTop (mkF m 212 #[.val (.int p1), .val (.int p2), .val (.int p3), .val (.long q4), .second, .val (.int (1 : Int32)), .val (.ref b162), .val (.ref o177), .val (.int (1 : Int32)), .unset, .unset, .unset] [])) _
    refine own_go (fun _ k => XS.iload X183.here hx rfl (hb hby at_212) rfl k) ?_
    show own_G p e below (T183.setTop (mkF m 214 #[.val (.int p1), .val (.int p2), .val (.int p3), .val (.long q4), .second, .val (.int (1 : Int32)), .val (.ref b162), .val (.ref o177), .val (.int (1 : Int32)), .unset, .unset, .unset] [(.int (1 : Int32))])) _
    refine own_go (fun _ k => XS.ifNo X183.here hx rfl (hb hby at_214) rfl ((if0 _ _).trans (feq (by decide : ¬ ((1 : Int32) = (0 : Int32)))).1) k) ?_
    show own_G p e below (T183.setTop (mkF m 217 #[.val (.int p1), .val (.int p2), .val (.int p3), .val (.long q4), .second, .val (.int (1 : Int32)), .val (.ref b162), .val (.ref o177), .val (.int (1 : Int32)), .unset, .unset, .unset] [])) _
    refine own_go (fun _ k => XS.aload X183.here hx rfl (hb hby at_217) rfl rfl k) ?_
    show own_G p e below (T183.setTop (mkF m 219 #[.val (.int p1), .val (.int p2), .val (.int p3), .val (.long q4), .second, .val (.int (1 : Int32)), .val (.ref b162), .val (.ref o177), .val (.int (1 : Int32)), .unset, .unset, .unset] [(.ref o177)])) _
    obtain ⟨cq184, kq184, q184a, q184b, q184c⟩ := isOf hZ e183 Eo177
    obtain ⟨_, _, ⟨T184, L184, k184, n184⟩, -, X184, ⟨Lc184, hQ184, l184, y184, z184⟩, st184⟩ := X183.virtualBack hx (y := (⟨"com/example/principal/principal/decision/IpAddress", "ipv4Bits", "()I"⟩ : MethodName)) (z := (⟨"com/example/principal/principal/decision/IpAddress", "ipv4Bits", "()I"⟩ : MethodName)) hown (mvT hZ (hw _ (List.mem_of_getElem? (i := 29) rfl))) (mvT hZ (hw _ (List.mem_of_getElem? (i := 30) rfl))) (notFace_of_selects (args := #[]) (mvT hZ (hw _ (List.mem_of_getElem? (i := 32) rfl)))) (mvT hZ (hw _ (List.mem_of_getElem? (i := 32) rfl))) (mvT hZ (hw _ (List.mem_of_getElem? (i := 31) rfl))) (by decide) (backOf (W := 0) (rm5 l Z a0 hw [] o177 b177q ko177 ((XT.ushr p1 (24 : Int32)).toInt8.toInt32) ((XT.ushr p1 (16 : Int32)).toInt8.toInt32) ((XT.ushr p1 (8 : Int32)).toInt8.toInt32) (p1.toInt8.toInt32) T177.heap n0 zs182 Fo177 Vo177) hZ (hw _ (List.mem_of_getElem? (i := 33) rfl)) (hw _ (List.mem_of_getElem? (i := 3) rfl)) (by decide) (by decide)) q184a q184c (g := (mkF m 219 #[.val (.int p1), .val (.int p2), .val (.int p3), .val (.long q4), .second, .val (.int (1 : Int32)), .val (.ref b162), .val (.ref o177), .val (.int (1 : Int32)), .unset, .unset, .unset] [(.ref o177)])) rfl (by rw [hml]; rfl) (Steps.refl _) (argsL := []) (rest := []) (lenOf pd_3 rfl) rfl (by show 2 * 0 + _ ≤ _; exact Nat.le_of_eq rfl) (hb hby at_219) (fun _ _ => ⟨rfl, e183, (by decide : 0 + 1 + 2 + 0 + 0 ≤ _), (by decide : 0 + 4 + 5 + 0 + 0 ≤ _)⟩)
    dsimp only [Pt.U, Pt.locs, Pt.cells, Pt.slots] at X184 l184 y184 z184 st184 hQ184
    rw [l184, y184, z184] at X184
    obtain ⟨rfl, Nq184, hh184⟩ := hQ184
    have N184 := Fr.app N183 Nq184
    refine own_go (fun _ k => st184.trans k) ?_
    have e184 : T184.heap = T177.heap := hh184
    show own_G p e below (T184.setTop (mkF m 222 #[.val (.int p1), .val (.int p2), .val (.int p3), .val (.long q4), .second, .val (.int (1 : Int32)), .val (.ref b162), .val (.ref o177), .val (.int (1 : Int32)), .unset, .unset, .unset] [(.int (own_bits4 ((XT.ushr p1 (24 : Int32)).toInt8.toInt32) ((XT.ushr p1 (16 : Int32)).toInt8.toInt32) ((XT.ushr p1 (8 : Int32)).toInt8.toInt32) (p1.toInt8.toInt32)))])) _
    refine own_go (fun _ k => XS.iloadN X184.here hx rfl (hb hby at_222) rfl k) ?_
    show own_G p e below (T184.setTop (mkF m 223 #[.val (.int p1), .val (.int p2), .val (.int p3), .val (.long q4), .second, .val (.int (1 : Int32)), .val (.ref b162), .val (.ref o177), .val (.int (1 : Int32)), .unset, .unset, .unset] [(.int p1), (.int (own_bits4 ((XT.ushr p1 (24 : Int32)).toInt8.toInt32) ((XT.ushr p1 (16 : Int32)).toInt8.toInt32) ((XT.ushr p1 (8 : Int32)).toInt8.toInt32) (p1.toInt8.toInt32)))])) _
    refine own_go (fun _ k => XS.icmpNo X184.here hx rfl (hb hby at_223) rfl (teq (own_ip p1)).2 k) ?_
    show own_G p e below (T184.setTop (mkF m 226 #[.val (.int p1), .val (.int p2), .val (.int p3), .val (.long q4), .second, .val (.int (1 : Int32)), .val (.ref b162), .val (.ref o177), .val (.int (1 : Int32)), .unset, .unset, .unset] [])) _
    refine own_go (fun _ k => XS.iconst X184.here hx rfl (hb hby at_226) k) ?_
    show own_G p e below (T184.setTop (mkF m 227 #[.val (.int p1), .val (.int p2), .val (.int p3), .val (.long q4), .second, .val (.int (1 : Int32)), .val (.ref b162), .val (.ref o177), .val (.int (1 : Int32)), .unset, .unset, .unset] [(.int (1 : Int32))])) _
    refine own_go (fun _ k => XS.goto X184.here hx rfl (pc0 := 227) (pc' := 231) rfl (hb hby at_227) (by decide) (by decide) k) ?_
    show own_G p e below (T184.setTop (mkF m 231 #[.val (.int p1), .val (.int p2), .val (.int p3), .val (.long q4), .second, .val (.int (1 : Int32)), .val (.ref b162), .val (.ref o177), .val (.int (1 : Int32)), .unset, .unset, .unset] [(.int (1 : Int32))])) _
    refine own_go (fun _ k => XS.istore X184.here hx rfl (hb hby at_231) rfl (l' := #[.val (.int p1), .val (.int p2), .val (.int p3), .val (.long q4), .second, .val (.int (1 : Int32)), .val (.ref b162), .val (.ref o177), .val (.int (1 : Int32)), .val (.int (1 : Int32)), .unset, .unset]) rfl k) ?_
    show own_G p e below (T184.setTop (mkF m 233 #[.val (.int p1), .val (.int p2), .val (.int p3), .val (.long q4), .second, .val (.int (1 : Int32)), .val (.ref b162), .val (.ref o177), .val (.int (1 : Int32)), .val (.int (1 : Int32)), .unset, .unset] [])) _
    refine own_go (fun _ k => XS.aload X184.here hx rfl (hb hby at_233) rfl rfl k) ?_
    show own_G p e below (T184.setTop (mkF m 235 #[.val (.int p1), .val (.int p2), .val (.int p3), .val (.long q4), .second, .val (.int (1 : Int32)), .val (.ref b162), .val (.ref o177), .val (.int (1 : Int32)), .val (.int (1 : Int32)), .unset, .unset] [(.ref b162)])) _
    refine own_go (fun _ k => XS.iconst X184.here hx rfl (hb hby at_235) k) ?_
    show own_G p e below (T184.setTop (mkF m 236 #[.val (.int p1), .val (.int p2), .val (.int p3), .val (.long q4), .second, .val (.int (1 : Int32)), .val (.ref b162), .val (.ref o177), .val (.int (1 : Int32)), .val (.int (1 : Int32)), .unset, .unset] [(.int (0 : Int32)), (.ref b162)])) _
    refine own_go (fun _ k => XS.iloadN X184.here hx rfl (hb hby at_236) rfl k) ?_
    show own_G p e below (T184.setTop (mkF m 237 #[.val (.int p1), .val (.int p2), .val (.int p3), .val (.long q4), .second, .val (.int (1 : Int32)), .val (.ref b162), .val (.ref o177), .val (.int (1 : Int32)), .val (.int (1 : Int32)), .unset, .unset] [(.int p2), (.int (0 : Int32)), (.ref b162)])) _
    refine own_go (fun _ k => XS.bipush X184.here hx rfl (hb hby at_237) k) ?_
    show own_G p e below (T184.setTop (mkF m 239 #[.val (.int p1), .val (.int p2), .val (.int p3), .val (.long q4), .second, .val (.int (1 : Int32)), .val (.ref b162), .val (.ref o177), .val (.int (1 : Int32)), .val (.int (1 : Int32)), .unset, .unset] [(.int (24 : Int32)), (.int p2), (.int (0 : Int32)), (.ref b162)])) _
    refine own_go (fun _ k => XT.iushr X184.here hx rfl (hb hby at_239) rfl k) ?_
    show own_G p e below (T184.setTop (mkF m 240 #[.val (.int p1), .val (.int p2), .val (.int p3), .val (.long q4), .second, .val (.int (1 : Int32)), .val (.ref b162), .val (.ref o177), .val (.int (1 : Int32)), .val (.int (1 : Int32)), .unset, .unset] [(.int (XT.ushr p2 (24 : Int32))), (.int (0 : Int32)), (.ref b162)])) _
    refine own_go (fun _ k => XS.i2b X184.here hx rfl (hb hby at_240) rfl k) ?_
    show own_G p e below (T184.setTop (mkF m 241 #[.val (.int p1), .val (.int p2), .val (.int p3), .val (.long q4), .second, .val (.int (1 : Int32)), .val (.ref b162), .val (.ref o177), .val (.int (1 : Int32)), .val (.int (1 : Int32)), .unset, .unset] [(.int ((XT.ushr p2 (24 : Int32)).toInt8.toInt32)), (.int (0 : Int32)), (.ref b162)])) _
    obtain ⟨cl185, Ar185, q185, S185, M185, B185, G185⟩ := id f181
    have hin185 : ¬ ((0 : Int32) < 0 ∨ cl185.slots.size ≤ ((0 : Int32)).toNatClampNeg) := inb_of S185 ⟨by decide, by decide⟩
    obtain ⟨T185, h185, X185, e185, W185, st185⟩ := stB X184 hx hZ e184 Ar185 (j := (0 : Int32)) hin185 (g := (mkF m 241 #[.val (.int p1), .val (.int p2), .val (.int p3), .val (.long q4), .second, .val (.int (1 : Int32)), .val (.ref b162), .val (.ref o177), .val (.int (1 : Int32)), .val (.int (1 : Int32)), .unset, .unset] [(.int ((XT.ushr p2 (24 : Int32)).toInt8.toInt32)), (.int (0 : Int32)), (.ref b162)])) rfl rfl (hb hby at_241)
    refine own_go st185 ?_
    rw [show nar .byte ((XT.ushr p2 (24 : Int32)).toInt8.toInt32) = ((XT.ushr p2 (24 : Int32)).toInt8.toInt32) from (own_bb _)] at W185
    have f186 := f180.wr W185
    have f187 := Eo177.wr W185
    have f188 := Fo177.other W185 (Or.inl (Ne.symm ne178))
    have f189 := Vo177.other W185 (Ne.symm neb177)
    have zs190 : n0 ≤ h185.size := Nat.le_trans zs182 (Keep.of_wr W185).1
    have V185 : Arv Z h185 b162 k162 .byte (4 : Int32) [(.int ((XT.ushr p2 (24 : Int32)).toInt8.toInt32)), (.int ((XT.ushr p1 (16 : Int32)).toInt8.toInt32)), (.int ((XT.ushr p1 (8 : Int32)).toInt8.toInt32)), (.int (p1.toInt8.toInt32))] (.int (0 : Int32)) := Arv.set Ar185 q185 S185 M185 B185 G185 (fits_nar_byte _) W185 0 rfl (Nat.le_of_ble_eq_true rfl)
    have N185 := Fr.snoc X185 N184 ge163
    show own_G p e below (T185.setTop (mkF m 242 #[.val (.int p1), .val (.int p2), .val (.int p3), .val (.long q4), .second, .val (.int (1 : Int32)), .val (.ref b162), .val (.ref o177), .val (.int (1 : Int32)), .val (.int (1 : Int32)), .unset, .unset] [])) _
    refine own_go (fun _ k => XS.aload X185.here hx rfl (hb hby at_242) rfl rfl k) ?_
    show own_G p e below (T185.setTop (mkF m 244 #[.val (.int p1), .val (.int p2), .val (.int p3), .val (.long q4), .second, .val (.int (1 : Int32)), .val (.ref b162), .val (.ref o177), .val (.int (1 : Int32)), .val (.int (1 : Int32)), .unset, .unset] [(.ref b162)])) _
    refine own_go (fun _ k => XS.iconst X185.here hx rfl (hb hby at_244) k) ?_
    show own_G p e below (T185.setTop (mkF m 245 #[.val (.int p1), .val (.int p2), .val (.int p3), .val (.long q4), .second, .val (.int (1 : Int32)), .val (.ref b162), .val (.ref o177), .val (.int (1 : Int32)), .val (.int (1 : Int32)), .unset, .unset] [(.int (1 : Int32)), (.ref b162)])) _
    refine own_go (fun _ k => XS.iloadN X185.here hx rfl (hb hby at_245) rfl k) ?_
    show own_G p e below (T185.setTop (mkF m 246 #[.val (.int p1), .val (.int p2), .val (.int p3), .val (.long q4), .second, .val (.int (1 : Int32)), .val (.ref b162), .val (.ref o177), .val (.int (1 : Int32)), .val (.int (1 : Int32)), .unset, .unset] [(.int p2), (.int (1 : Int32)), (.ref b162)])) _
    refine own_go (fun _ k => XS.bipush X185.here hx rfl (hb hby at_246) k) ?_
    show own_G p e below (T185.setTop (mkF m 248 #[.val (.int p1), .val (.int p2), .val (.int p3), .val (.long q4), .second, .val (.int (1 : Int32)), .val (.ref b162), .val (.ref o177), .val (.int (1 : Int32)), .val (.int (1 : Int32)), .unset, .unset] [(.int (16 : Int32)), (.int p2), (.int (1 : Int32)), (.ref b162)])) _
    refine own_go (fun _ k => XT.iushr X185.here hx rfl (hb hby at_248) rfl k) ?_
    show own_G p e below (T185.setTop (mkF m 249 #[.val (.int p1), .val (.int p2), .val (.int p3), .val (.long q4), .second, .val (.int (1 : Int32)), .val (.ref b162), .val (.ref o177), .val (.int (1 : Int32)), .val (.int (1 : Int32)), .unset, .unset] [(.int (XT.ushr p2 (16 : Int32))), (.int (1 : Int32)), (.ref b162)])) _
    refine own_go (fun _ k => XS.i2b X185.here hx rfl (hb hby at_249) rfl k) ?_
    show own_G p e below (T185.setTop (mkF m 250 #[.val (.int p1), .val (.int p2), .val (.int p3), .val (.long q4), .second, .val (.int (1 : Int32)), .val (.ref b162), .val (.ref o177), .val (.int (1 : Int32)), .val (.int (1 : Int32)), .unset, .unset] [(.int ((XT.ushr p2 (16 : Int32)).toInt8.toInt32)), (.int (1 : Int32)), (.ref b162)])) _
    obtain ⟨cl191, Ar191, q191, S191, M191, B191, G191⟩ := id V185
    have hin191 : ¬ ((1 : Int32) < 0 ∨ cl191.slots.size ≤ ((1 : Int32)).toNatClampNeg) := inb_of S191 ⟨by decide, by decide⟩
    obtain ⟨T191, h191, X191, e191, W191, st191⟩ := stB X185 hx hZ e185 Ar191 (j := (1 : Int32)) hin191 (g := (mkF m 250 #[.val (.int p1), .val (.int p2), .val (.int p3), .val (.long q4), .second, .val (.int (1 : Int32)), .val (.ref b162), .val (.ref o177), .val (.int (1 : Int32)), .val (.int (1 : Int32)), .unset, .unset] [(.int ((XT.ushr p2 (16 : Int32)).toInt8.toInt32)), (.int (1 : Int32)), (.ref b162)])) rfl rfl (hb hby at_250)
    refine own_go st191 ?_
    rw [show nar .byte ((XT.ushr p2 (16 : Int32)).toInt8.toInt32) = ((XT.ushr p2 (16 : Int32)).toInt8.toInt32) from (own_bb _)] at W191
    have f192 := f186.wr W191
    have f193 := f187.wr W191
    have f194 := f188.other W191 (Or.inl (Ne.symm ne178))
    have f195 := f189.other W191 (Ne.symm neb177)
    have zs196 : n0 ≤ h191.size := Nat.le_trans zs190 (Keep.of_wr W191).1
    have V191 : Arv Z h191 b162 k162 .byte (4 : Int32) [(.int ((XT.ushr p2 (24 : Int32)).toInt8.toInt32)), (.int ((XT.ushr p2 (16 : Int32)).toInt8.toInt32)), (.int ((XT.ushr p1 (8 : Int32)).toInt8.toInt32)), (.int (p1.toInt8.toInt32))] (.int (0 : Int32)) := Arv.set Ar191 q191 S191 M191 B191 G191 (fits_nar_byte _) W191 1 rfl (Nat.le_of_ble_eq_true rfl)
    have N191 := Fr.snoc X191 N185 ge163
    show own_G p e below (T191.setTop (mkF m 251 #[.val (.int p1), .val (.int p2), .val (.int p3), .val (.long q4), .second, .val (.int (1 : Int32)), .val (.ref b162), .val (.ref o177), .val (.int (1 : Int32)), .val (.int (1 : Int32)), .unset, .unset] [])) _
    refine own_go (fun _ k => XS.aload X191.here hx rfl (hb hby at_251) rfl rfl k) ?_
    show own_G p e below (T191.setTop (mkF m 253 #[.val (.int p1), .val (.int p2), .val (.int p3), .val (.long q4), .second, .val (.int (1 : Int32)), .val (.ref b162), .val (.ref o177), .val (.int (1 : Int32)), .val (.int (1 : Int32)), .unset, .unset] [(.ref b162)])) _
    refine own_go (fun _ k => XS.iconst X191.here hx rfl (hb hby at_253) k) ?_
    show own_G p e below (T191.setTop (mkF m 254 #[.val (.int p1), .val (.int p2), .val (.int p3), .val (.long q4), .second, .val (.int (1 : Int32)), .val (.ref b162), .val (.ref o177), .val (.int (1 : Int32)), .val (.int (1 : Int32)), .unset, .unset] [(.int (2 : Int32)), (.ref b162)])) _
    refine own_go (fun _ k => XS.iloadN X191.here hx rfl (hb hby at_254) rfl k) ?_
    show own_G p e below (T191.setTop (mkF m 255 #[.val (.int p1), .val (.int p2), .val (.int p3), .val (.long q4), .second, .val (.int (1 : Int32)), .val (.ref b162), .val (.ref o177), .val (.int (1 : Int32)), .val (.int (1 : Int32)), .unset, .unset] [(.int p2), (.int (2 : Int32)), (.ref b162)])) _
    refine own_go (fun _ k => XS.bipush X191.here hx rfl (hb hby at_255) k) ?_
    show own_G p e below (T191.setTop (mkF m 257 #[.val (.int p1), .val (.int p2), .val (.int p3), .val (.long q4), .second, .val (.int (1 : Int32)), .val (.ref b162), .val (.ref o177), .val (.int (1 : Int32)), .val (.int (1 : Int32)), .unset, .unset] [(.int (8 : Int32)), (.int p2), (.int (2 : Int32)), (.ref b162)])) _
    refine own_go (fun _ k => XT.iushr X191.here hx rfl (hb hby at_257) rfl k) ?_
    show own_G p e below (T191.setTop (mkF m 258 #[.val (.int p1), .val (.int p2), .val (.int p3), .val (.long q4), .second, .val (.int (1 : Int32)), .val (.ref b162), .val (.ref o177), .val (.int (1 : Int32)), .val (.int (1 : Int32)), .unset, .unset] [(.int (XT.ushr p2 (8 : Int32))), (.int (2 : Int32)), (.ref b162)])) _
    refine own_go (fun _ k => XS.i2b X191.here hx rfl (hb hby at_258) rfl k) ?_
    show own_G p e below (T191.setTop (mkF m 259 #[.val (.int p1), .val (.int p2), .val (.int p3), .val (.long q4), .second, .val (.int (1 : Int32)), .val (.ref b162), .val (.ref o177), .val (.int (1 : Int32)), .val (.int (1 : Int32)), .unset, .unset] [(.int ((XT.ushr p2 (8 : Int32)).toInt8.toInt32)), (.int (2 : Int32)), (.ref b162)])) _
    obtain ⟨cl197, Ar197, q197, S197, M197, B197, G197⟩ := id V191
    have hin197 : ¬ ((2 : Int32) < 0 ∨ cl197.slots.size ≤ ((2 : Int32)).toNatClampNeg) := inb_of S197 ⟨by decide, by decide⟩
    obtain ⟨T197, h197, X197, e197, W197, st197⟩ := stB X191 hx hZ e191 Ar197 (j := (2 : Int32)) hin197 (g := (mkF m 259 #[.val (.int p1), .val (.int p2), .val (.int p3), .val (.long q4), .second, .val (.int (1 : Int32)), .val (.ref b162), .val (.ref o177), .val (.int (1 : Int32)), .val (.int (1 : Int32)), .unset, .unset] [(.int ((XT.ushr p2 (8 : Int32)).toInt8.toInt32)), (.int (2 : Int32)), (.ref b162)])) rfl rfl (hb hby at_259)
    refine own_go st197 ?_
    rw [show nar .byte ((XT.ushr p2 (8 : Int32)).toInt8.toInt32) = ((XT.ushr p2 (8 : Int32)).toInt8.toInt32) from (own_bb _)] at W197
    have f198 := f192.wr W197
    have f199 := f193.wr W197
    have f200 := f194.other W197 (Or.inl (Ne.symm ne178))
    have f201 := f195.other W197 (Ne.symm neb177)
    have zs202 : n0 ≤ h197.size := Nat.le_trans zs196 (Keep.of_wr W197).1
    have V197 : Arv Z h197 b162 k162 .byte (4 : Int32) [(.int ((XT.ushr p2 (24 : Int32)).toInt8.toInt32)), (.int ((XT.ushr p2 (16 : Int32)).toInt8.toInt32)), (.int ((XT.ushr p2 (8 : Int32)).toInt8.toInt32)), (.int (p1.toInt8.toInt32))] (.int (0 : Int32)) := Arv.set Ar197 q197 S197 M197 B197 G197 (fits_nar_byte _) W197 2 rfl (Nat.le_of_ble_eq_true rfl)
    have N197 := Fr.snoc X197 N191 ge163
    show own_G p e below (T197.setTop (mkF m 260 #[.val (.int p1), .val (.int p2), .val (.int p3), .val (.long q4), .second, .val (.int (1 : Int32)), .val (.ref b162), .val (.ref o177), .val (.int (1 : Int32)), .val (.int (1 : Int32)), .unset, .unset] [])) _
    refine own_go (fun _ k => XS.aload X197.here hx rfl (hb hby at_260) rfl rfl k) ?_
    show own_G p e below (T197.setTop (mkF m 262 #[.val (.int p1), .val (.int p2), .val (.int p3), .val (.long q4), .second, .val (.int (1 : Int32)), .val (.ref b162), .val (.ref o177), .val (.int (1 : Int32)), .val (.int (1 : Int32)), .unset, .unset] [(.ref b162)])) _
    refine own_go (fun _ k => XS.iconst X197.here hx rfl (hb hby at_262) k) ?_
    show own_G p e below (T197.setTop (mkF m 263 #[.val (.int p1), .val (.int p2), .val (.int p3), .val (.long q4), .second, .val (.int (1 : Int32)), .val (.ref b162), .val (.ref o177), .val (.int (1 : Int32)), .val (.int (1 : Int32)), .unset, .unset] [(.int (3 : Int32)), (.ref b162)])) _
    refine own_go (fun _ k => XS.iloadN X197.here hx rfl (hb hby at_263) rfl k) ?_
    show own_G p e below (T197.setTop (mkF m 264 #[.val (.int p1), .val (.int p2), .val (.int p3), .val (.long q4), .second, .val (.int (1 : Int32)), .val (.ref b162), .val (.ref o177), .val (.int (1 : Int32)), .val (.int (1 : Int32)), .unset, .unset] [(.int p2), (.int (3 : Int32)), (.ref b162)])) _
    refine own_go (fun _ k => XS.i2b X197.here hx rfl (hb hby at_264) rfl k) ?_
    show own_G p e below (T197.setTop (mkF m 265 #[.val (.int p1), .val (.int p2), .val (.int p3), .val (.long q4), .second, .val (.int (1 : Int32)), .val (.ref b162), .val (.ref o177), .val (.int (1 : Int32)), .val (.int (1 : Int32)), .unset, .unset] [(.int (p2.toInt8.toInt32)), (.int (3 : Int32)), (.ref b162)])) _
    obtain ⟨cl203, Ar203, q203, S203, M203, B203, G203⟩ := id V197
    have hin203 : ¬ ((3 : Int32) < 0 ∨ cl203.slots.size ≤ ((3 : Int32)).toNatClampNeg) := inb_of S203 ⟨by decide, by decide⟩
    obtain ⟨T203, h203, X203, e203, W203, st203⟩ := stB X197 hx hZ e197 Ar203 (j := (3 : Int32)) hin203 (g := (mkF m 265 #[.val (.int p1), .val (.int p2), .val (.int p3), .val (.long q4), .second, .val (.int (1 : Int32)), .val (.ref b162), .val (.ref o177), .val (.int (1 : Int32)), .val (.int (1 : Int32)), .unset, .unset] [(.int (p2.toInt8.toInt32)), (.int (3 : Int32)), (.ref b162)])) rfl rfl (hb hby at_265)
    refine own_go st203 ?_
    rw [show nar .byte (p2.toInt8.toInt32) = (p2.toInt8.toInt32) from (own_bb _)] at W203
    have f204 := f198.wr W203
    have f205 := f199.wr W203
    have f206 := f200.other W203 (Or.inl (Ne.symm ne178))
    have f207 := f201.other W203 (Ne.symm neb177)
    have zs208 : n0 ≤ h203.size := Nat.le_trans zs202 (Keep.of_wr W203).1
    have V203 : Arv Z h203 b162 k162 .byte (4 : Int32) [(.int ((XT.ushr p2 (24 : Int32)).toInt8.toInt32)), (.int ((XT.ushr p2 (16 : Int32)).toInt8.toInt32)), (.int ((XT.ushr p2 (8 : Int32)).toInt8.toInt32)), (.int (p2.toInt8.toInt32))] (.int (0 : Int32)) := Arv.set Ar203 q203 S203 M203 B203 G203 (fits_nar_byte _) W203 3 rfl (Nat.le_of_ble_eq_true rfl)
    have N203 := Fr.snoc X203 N197 ge163
    show own_G p e below (T203.setTop (mkF m 266 #[.val (.int p1), .val (.int p2), .val (.int p3), .val (.long q4), .second, .val (.int (1 : Int32)), .val (.ref b162), .val (.ref o177), .val (.int (1 : Int32)), .val (.int (1 : Int32)), .unset, .unset] [])) _
    refine own_go (fun _ k => XS.aload X203.here hx rfl (hb hby at_266) rfl rfl k) ?_
    show own_G p e below (T203.setTop (mkF m 268 #[.val (.int p1), .val (.int p2), .val (.int p3), .val (.long q4), .second, .val (.int (1 : Int32)), .val (.ref b162), .val (.ref o177), .val (.int (1 : Int32)), .val (.int (1 : Int32)), .unset, .unset] [(.ref o177)])) _
    obtain ⟨cq209, kq209, q209a, q209b, q209c⟩ := isOf hZ e203 f205
    obtain ⟨_, _, ⟨T209, L209, k209, n209⟩, -, X209, ⟨Lc209, hQ209, l209, y209, z209⟩, st209⟩ := X203.virtualBack hx (y := (⟨"com/example/principal/principal/decision/IpAddress", "isIpv4", "()Z"⟩ : MethodName)) (z := (⟨"com/example/principal/principal/decision/IpAddress", "isIpv4", "()Z"⟩ : MethodName)) hown (mvT hZ (hw _ (List.mem_of_getElem? (i := 24) rfl))) (mvT hZ (hw _ (List.mem_of_getElem? (i := 25) rfl))) (notFace_of_selects (args := #[]) (mvT hZ (hw _ (List.mem_of_getElem? (i := 27) rfl)))) (mvT hZ (hw _ (List.mem_of_getElem? (i := 27) rfl))) (mvT hZ (hw _ (List.mem_of_getElem? (i := 26) rfl))) (by decide) (backOf (W := 0) (rm4 l Z a0 hw [] o177 b177q ko177 (4 : Int32) [(.int ((XT.ushr p1 (24 : Int32)).toInt8.toInt32)), (.int ((XT.ushr p1 (16 : Int32)).toInt8.toInt32)), (.int ((XT.ushr p1 (8 : Int32)).toInt8.toInt32)), (.int (p1.toInt8.toInt32))] h203 n0 zs208 f206 f207) hZ (hw _ (List.mem_of_getElem? (i := 28) rfl)) (hw _ (List.mem_of_getElem? (i := 3) rfl)) (by decide) (by decide)) q209a q209c (g := (mkF m 268 #[.val (.int p1), .val (.int p2), .val (.int p3), .val (.long q4), .second, .val (.int (1 : Int32)), .val (.ref b162), .val (.ref o177), .val (.int (1 : Int32)), .val (.int (1 : Int32)), .unset, .unset] [(.ref o177)])) rfl (by rw [hml]; rfl) (Steps.refl _) (argsL := []) (rest := []) (lenOf pd_2 rfl) rfl (by show 2 * 0 + _ ≤ _; exact Nat.le_of_eq rfl) (hb hby at_268) (fun _ _ => ⟨rfl, e203, (by decide : 0 + 1 + 2 + 0 + 0 + 0 ≤ _), (by decide : 0 + 4 + 5 + 0 + 0 + 0 ≤ _)⟩)
    dsimp only [Pt.U, Pt.locs, Pt.cells, Pt.slots] at X209 l209 y209 z209 st209 hQ209
    rw [l209, y209, z209] at X209
    obtain ⟨r209, rfl, Nq209, hh209, hr209⟩ := hQ209
    have N209 := Fr.app N203 Nq209
    refine own_go (fun _ k => st209.trans k) ?_
    have e209 : T209.heap = h203 := hh209
    obtain rfl : r209 = (1 : Int32) := hr209.trans (by decide)
    show own_G p e below (T209.setTop (mkF m 271 #[.val (.int p1), .val (.int p2), .val (.int p3), .val (.long q4), .second, .val (.int (1 : Int32)), .val (.ref b162), .val (.ref o177), .val (.int (1 : Int32)), .val (.int (1 : Int32)), .unset, .unset] [(.int (1 : Int32))])) _
    refine own_go (fun _ k => XS.iload X209.here hx rfl (hb hby at_271) rfl k) ?_
    show own_G p e below (T209.setTop (mkF m 273 #[.val (.int p1), .val (.int p2), .val (.int p3), .val (.long q4), .second, .val (.int (1 : Int32)), .val (.ref b162), .val (.ref o177), .val (.int (1 : Int32)), .val (.int (1 : Int32)), .unset, .unset] [(.int (1 : Int32)), (.int (1 : Int32))])) _
    refine own_go (fun _ k => XS.icmpNo X209.here hx rfl (hb hby at_273) rfl (teq (by decide : (1 : Int32) = (1 : Int32))).2 k) ?_
    show own_G p e below (T209.setTop (mkF m 276 #[.val (.int p1), .val (.int p2), .val (.int p3), .val (.long q4), .second, .val (.int (1 : Int32)), .val (.ref b162), .val (.ref o177), .val (.int (1 : Int32)), .val (.int (1 : Int32)), .unset, .unset] [])) _
    refine own_go (fun _ k => XS.iconst X209.here hx rfl (hb hby at_276) k) ?_
    show own_G p e below (T209.setTop (mkF m 277 #[.val (.int p1), .val (.int p2), .val (.int p3), .val (.long q4), .second, .val (.int (1 : Int32)), .val (.ref b162), .val (.ref o177), .val (.int (1 : Int32)), .val (.int (1 : Int32)), .unset, .unset] [(.int (1 : Int32))])) _
    refine own_go (fun _ k => XS.goto X209.here hx rfl (pc0 := 277) (pc' := 281) rfl (hb hby at_277) (by decide) (by decide) k) ?_
    show own_G p e below (T209.setTop (mkF m 281 #[.val (.int p1), .val (.int p2), .val (.int p3), .val (.long q4), .second, .val (.int (1 : Int32)), .val (.ref b162), .val (.ref o177), .val (.int (1 : Int32)), .val (.int (1 : Int32)), .unset, .unset] [(.int (1 : Int32))])) _
    refine own_go (fun _ k => XS.istore X209.here hx rfl (hb hby at_281) rfl (l' := #[.val (.int p1), .val (.int p2), .val (.int p3), .val (.long q4), .second, .val (.int (1 : Int32)), .val (.ref b162), .val (.ref o177), .val (.int (1 : Int32)), .val (.int (1 : Int32)), .val (.int (1 : Int32)), .unset]) rfl k) ?_
    show own_G p e below (T209.setTop (mkF m 283 #[.val (.int p1), .val (.int p2), .val (.int p3), .val (.long q4), .second, .val (.int (1 : Int32)), .val (.ref b162), .val (.ref o177), .val (.int (1 : Int32)), .val (.int (1 : Int32)), .val (.int (1 : Int32)), .unset] [])) _
    refine own_go (fun _ k => XS.iload X209.here hx rfl (hb hby at_283) rfl k) ?_
    show own_G p e below (T209.setTop (mkF m 285 #[.val (.int p1), .val (.int p2), .val (.int p3), .val (.long q4), .second, .val (.int (1 : Int32)), .val (.ref b162), .val (.ref o177), .val (.int (1 : Int32)), .val (.int (1 : Int32)), .val (.int (1 : Int32)), .unset] [(.int (1 : Int32))])) _
    refine own_go (fun _ k => XS.ifNo X209.here hx rfl (hb hby at_285) rfl ((if0 _ _).trans (feq (by decide : ¬ ((1 : Int32) = (0 : Int32)))).1) k) ?_
    show own_G p e below (T209.setTop (mkF m 288 #[.val (.int p1), .val (.int p2), .val (.int p3), .val (.long q4), .second, .val (.int (1 : Int32)), .val (.ref b162), .val (.ref o177), .val (.int (1 : Int32)), .val (.int (1 : Int32)), .val (.int (1 : Int32)), .unset] [])) _
    refine own_go (fun _ k => XS.aload X209.here hx rfl (hb hby at_288) rfl rfl k) ?_
    show own_G p e below (T209.setTop (mkF m 290 #[.val (.int p1), .val (.int p2), .val (.int p3), .val (.long q4), .second, .val (.int (1 : Int32)), .val (.ref b162), .val (.ref o177), .val (.int (1 : Int32)), .val (.int (1 : Int32)), .val (.int (1 : Int32)), .unset] [(.ref o177)])) _
    obtain ⟨cq210, kq210, q210a, q210b, q210c⟩ := isOf hZ e209 f205
    obtain ⟨_, _, ⟨T210, L210, k210, n210⟩, -, X210, ⟨Lc210, hQ210, l210, y210, z210⟩, st210⟩ := X209.virtualBack hx (y := (⟨"com/example/principal/principal/decision/IpAddress", "ipv4Bits", "()I"⟩ : MethodName)) (z := (⟨"com/example/principal/principal/decision/IpAddress", "ipv4Bits", "()I"⟩ : MethodName)) hown (mvT hZ (hw _ (List.mem_of_getElem? (i := 29) rfl))) (mvT hZ (hw _ (List.mem_of_getElem? (i := 30) rfl))) (notFace_of_selects (args := #[]) (mvT hZ (hw _ (List.mem_of_getElem? (i := 32) rfl)))) (mvT hZ (hw _ (List.mem_of_getElem? (i := 32) rfl))) (mvT hZ (hw _ (List.mem_of_getElem? (i := 31) rfl))) (by decide) (backOf (W := 0) (rm5 l Z a0 hw [] o177 b177q ko177 ((XT.ushr p1 (24 : Int32)).toInt8.toInt32) ((XT.ushr p1 (16 : Int32)).toInt8.toInt32) ((XT.ushr p1 (8 : Int32)).toInt8.toInt32) (p1.toInt8.toInt32) h203 n0 zs208 f206 f207) hZ (hw _ (List.mem_of_getElem? (i := 33) rfl)) (hw _ (List.mem_of_getElem? (i := 3) rfl)) (by decide) (by decide)) q210a q210c (g := (mkF m 290 #[.val (.int p1), .val (.int p2), .val (.int p3), .val (.long q4), .second, .val (.int (1 : Int32)), .val (.ref b162), .val (.ref o177), .val (.int (1 : Int32)), .val (.int (1 : Int32)), .val (.int (1 : Int32)), .unset] [(.ref o177)])) rfl (by rw [hml]; rfl) (Steps.refl _) (argsL := []) (rest := []) (lenOf pd_3 rfl) rfl (by show 2 * 0 + _ ≤ _; exact Nat.le_of_eq rfl) (hb hby at_290) (fun _ _ => ⟨rfl, e209, (by decide : 0 + 1 + 2 + 0 + 0 + 0 + 0 ≤ _), (by decide : 0 + 4 + 5 + 0 + 0 + 0 + 0 ≤ _)⟩)
    dsimp only [Pt.U, Pt.locs, Pt.cells, Pt.slots] at X210 l210 y210 z210 st210 hQ210
    rw [l210, y210, z210] at X210
    obtain ⟨rfl, Nq210, hh210⟩ := hQ210
    have N210 := Fr.app N209 Nq210
    refine own_go (fun _ k => st210.trans k) ?_
    have e210 : T210.heap = h203 := hh210
    show own_G p e below (T210.setTop (mkF m 293 #[.val (.int p1), .val (.int p2), .val (.int p3), .val (.long q4), .second, .val (.int (1 : Int32)), .val (.ref b162), .val (.ref o177), .val (.int (1 : Int32)), .val (.int (1 : Int32)), .val (.int (1 : Int32)), .unset] [(.int (own_bits4 ((XT.ushr p1 (24 : Int32)).toInt8.toInt32) ((XT.ushr p1 (16 : Int32)).toInt8.toInt32) ((XT.ushr p1 (8 : Int32)).toInt8.toInt32) (p1.toInt8.toInt32)))])) _
    refine own_go (fun _ k => XS.iloadN X210.here hx rfl (hb hby at_293) rfl k) ?_
    show own_G p e below (T210.setTop (mkF m 294 #[.val (.int p1), .val (.int p2), .val (.int p3), .val (.long q4), .second, .val (.int (1 : Int32)), .val (.ref b162), .val (.ref o177), .val (.int (1 : Int32)), .val (.int (1 : Int32)), .val (.int (1 : Int32)), .unset] [(.int p1), (.int (own_bits4 ((XT.ushr p1 (24 : Int32)).toInt8.toInt32) ((XT.ushr p1 (16 : Int32)).toInt8.toInt32) ((XT.ushr p1 (8 : Int32)).toInt8.toInt32) (p1.toInt8.toInt32)))])) _
    refine own_go (fun _ k => XS.icmpNo X210.here hx rfl (hb hby at_294) rfl (teq (own_ip p1)).2 k) ?_
    show own_G p e below (T210.setTop (mkF m 297 #[.val (.int p1), .val (.int p2), .val (.int p3), .val (.long q4), .second, .val (.int (1 : Int32)), .val (.ref b162), .val (.ref o177), .val (.int (1 : Int32)), .val (.int (1 : Int32)), .val (.int (1 : Int32)), .unset] [])) _
    refine own_go (fun _ k => XS.iconst X210.here hx rfl (hb hby at_297) k) ?_
    show own_G p e below (T210.setTop (mkF m 298 #[.val (.int p1), .val (.int p2), .val (.int p3), .val (.long q4), .second, .val (.int (1 : Int32)), .val (.ref b162), .val (.ref o177), .val (.int (1 : Int32)), .val (.int (1 : Int32)), .val (.int (1 : Int32)), .unset] [(.int (1 : Int32))])) _
    refine own_go (fun _ k => XS.goto X210.here hx rfl (pc0 := 298) (pc' := 302) rfl (hb hby at_298) (by decide) (by decide) k) ?_
    show own_G p e below (T210.setTop (mkF m 302 #[.val (.int p1), .val (.int p2), .val (.int p3), .val (.long q4), .second, .val (.int (1 : Int32)), .val (.ref b162), .val (.ref o177), .val (.int (1 : Int32)), .val (.int (1 : Int32)), .val (.int (1 : Int32)), .unset] [(.int (1 : Int32))])) _
    refine own_go (fun _ k => XS.istore X210.here hx rfl (hb hby at_302) rfl (l' := #[.val (.int p1), .val (.int p2), .val (.int p3), .val (.long q4), .second, .val (.int (1 : Int32)), .val (.ref b162), .val (.ref o177), .val (.int (1 : Int32)), .val (.int (1 : Int32)), .val (.int (1 : Int32)), .val (.int (1 : Int32))]) rfl k) ?_
    show own_G p e below (T210.setTop (mkF m 304 #[.val (.int p1), .val (.int p2), .val (.int p3), .val (.long q4), .second, .val (.int (1 : Int32)), .val (.ref b162), .val (.ref o177), .val (.int (1 : Int32)), .val (.int (1 : Int32)), .val (.int (1 : Int32)), .val (.int (1 : Int32))] [])) _
    refine own_go (fun _ k => XS.iload X210.here hx rfl (hb hby at_304) rfl k) ?_
    show own_G p e below (T210.setTop (mkF m 306 #[.val (.int p1), .val (.int p2), .val (.int p3), .val (.long q4), .second, .val (.int (1 : Int32)), .val (.ref b162), .val (.ref o177), .val (.int (1 : Int32)), .val (.int (1 : Int32)), .val (.int (1 : Int32)), .val (.int (1 : Int32))] [(.int (1 : Int32))])) _
    refine own_go (fun _ k => XS.ifNo X210.here hx rfl (hb hby at_306) rfl ((if0 _ _).trans (feq (by decide : ¬ ((1 : Int32) = (0 : Int32)))).1) k) ?_
    show own_G p e below (T210.setTop (mkF m 309 #[.val (.int p1), .val (.int p2), .val (.int p3), .val (.long q4), .second, .val (.int (1 : Int32)), .val (.ref b162), .val (.ref o177), .val (.int (1 : Int32)), .val (.int (1 : Int32)), .val (.int (1 : Int32)), .val (.int (1 : Int32))] [])) _
    refine own_go (fun _ k => XS.iload X210.here hx rfl (hb hby at_309) rfl k) ?_
    show own_G p e below (T210.setTop (mkF m 311 #[.val (.int p1), .val (.int p2), .val (.int p3), .val (.long q4), .second, .val (.int (1 : Int32)), .val (.ref b162), .val (.ref o177), .val (.int (1 : Int32)), .val (.int (1 : Int32)), .val (.int (1 : Int32)), .val (.int (1 : Int32))] [(.int (1 : Int32))])) _
    refine own_go (fun _ k => XS.ifNo X210.here hx rfl (hb hby at_311) rfl ((if0 _ _).trans (feq (by decide : ¬ ((1 : Int32) = (0 : Int32)))).1) k) ?_
    show own_G p e below (T210.setTop (mkF m 314 #[.val (.int p1), .val (.int p2), .val (.int p3), .val (.long q4), .second, .val (.int (1 : Int32)), .val (.ref b162), .val (.ref o177), .val (.int (1 : Int32)), .val (.int (1 : Int32)), .val (.int (1 : Int32)), .val (.int (1 : Int32))] [])) _
    refine own_go (fun _ k => XS.iload X210.here hx rfl (hb hby at_314) rfl k) ?_
    show own_G p e below (T210.setTop (mkF m 316 #[.val (.int p1), .val (.int p2), .val (.int p3), .val (.long q4), .second, .val (.int (1 : Int32)), .val (.ref b162), .val (.ref o177), .val (.int (1 : Int32)), .val (.int (1 : Int32)), .val (.int (1 : Int32)), .val (.int (1 : Int32))] [(.int (1 : Int32))])) _
    refine own_go (fun _ k => XS.ifNo X210.here hx rfl (hb hby at_316) rfl ((if0 _ _).trans (feq (by decide : ¬ ((1 : Int32) = (0 : Int32)))).1) k) ?_
    show own_G p e below (T210.setTop (mkF m 319 #[.val (.int p1), .val (.int p2), .val (.int p3), .val (.long q4), .second, .val (.int (1 : Int32)), .val (.ref b162), .val (.ref o177), .val (.int (1 : Int32)), .val (.int (1 : Int32)), .val (.int (1 : Int32)), .val (.int (1 : Int32))] [])) _
    refine own_go (fun _ k => XS.iload X210.here hx rfl (hb hby at_319) rfl k) ?_
    show own_G p e below (T210.setTop (mkF m 321 #[.val (.int p1), .val (.int p2), .val (.int p3), .val (.long q4), .second, .val (.int (1 : Int32)), .val (.ref b162), .val (.ref o177), .val (.int (1 : Int32)), .val (.int (1 : Int32)), .val (.int (1 : Int32)), .val (.int (1 : Int32))] [(.int (1 : Int32))])) _
    refine own_go (fun _ k => XS.ifNo X210.here hx rfl (hb hby at_321) rfl ((if0 _ _).trans (feq (by decide : ¬ ((1 : Int32) = (0 : Int32)))).1) k) ?_
    show own_G p e below (T210.setTop (mkF m 324 #[.val (.int p1), .val (.int p2), .val (.int p3), .val (.long q4), .second, .val (.int (1 : Int32)), .val (.ref b162), .val (.ref o177), .val (.int (1 : Int32)), .val (.int (1 : Int32)), .val (.int (1 : Int32)), .val (.int (1 : Int32))] [])) _
    refine own_go (fun _ k => XS.iconst X210.here hx rfl (hb hby at_324) k) ?_
    show own_G p e below (T210.setTop (mkF m 325 #[.val (.int p1), .val (.int p2), .val (.int p3), .val (.long q4), .second, .val (.int (1 : Int32)), .val (.ref b162), .val (.ref o177), .val (.int (1 : Int32)), .val (.int (1 : Int32)), .val (.int (1 : Int32)), .val (.int (1 : Int32))] [(.int (1 : Int32))])) _
    refine own_go (fun _ k => XS.goto X210.here hx rfl (pc0 := 325) (pc' := 329) rfl (hb hby at_325) (by decide) (by decide) k) ?_
    show own_G p e below (T210.setTop (mkF m 329 #[.val (.int p1), .val (.int p2), .val (.int p3), .val (.long q4), .second, .val (.int (1 : Int32)), .val (.ref b162), .val (.ref o177), .val (.int (1 : Int32)), .val (.int (1 : Int32)), .val (.int (1 : Int32)), .val (.int (1 : Int32))] [(.int (1 : Int32))])) _
    refine own_ret X210 hlk (v := some (.int (1 : Int32))) (fun h => by rw [hret] at h; cases h) (Q0 Z p1 p2 p3 q4 h0 n0) (own_retI X210 hx (t := .boolean) hret rfl (Or.inl ⟨rfl, by simp, _, rfl⟩) (hb hby at_329)) (by decide) (by decide) ?_
    show Q0 Z p1 p2 p3 q4 h0 n0 _ T210.heap _
    rw [e210]
    exact ⟨rfl, N210⟩
set_option maxRecDepth 65536 in
set_option maxHeartbeats 40000000 in
theorem comes_1 {Post : Tables → Env → Array Value → State → Outcome → State → Prop} (hpost : ∀ tb e args s v u, (limb_1_1.after args s (.returned v) u = true ∧ limb_1_2.after args s (.returned v) u = true ∧ True) → FrameEnd s (.returned v) u (Jvm.fieldLocs frame_1_writes args s ++ Jvm.arrayLocs frame_1_arrays args s ++ Jvm.staticLocs frame_1_statics s) 16 192 → Post tb e args s (.returned v) u) :
    ArmFor flags0 classFile x code maxLocals ret World_1 tables_1 room_1 Calls_1 rest_1 Pre_1 Post := by
  intro l hfl _ _ p e ha hc hk s m args below hf hA hF happ hP
  obtain ⟨hcalls, hrest, hpre⟩ := hP
  obtain ⟨-, -, -, hnamed, -, -, -, hat⟩ := (Spec.applies_iff hf).mp happ
  obtain ⟨hg, hn⟩ := and_e (Cond.before_iff.mp (show (Jvm.Cond.and given_1 narrow_1).before args s = true from hpre))
  obtain ⟨g1, g2⟩ := and_e hg
  obtain ⟨g3, g4⟩ := and_e g2
  obtain ⟨g5, g6⟩ := and_e g4
  obtain ⟨g7, g8⟩ := and_e g6
  obtain ⟨w0, w1, w2, w3, rfl⟩ : ∃ w0 w1 w2 w3 : Value, args = #[w0, w1, w2, w3] := by
    have hs : args.size = 4 := by simpa [Cond.value, given_1] using g1
    obtain ⟨L⟩ := args
    match L, hs with
    | [w0, w1, w2, w3], _ => exact ⟨w0, w1, w2, w3, rfl⟩
  have hw := fun d (hd : d ∈ tables_1) => atoms_spec (ws := Jvm.Cond.code x code maxLocals ret :: tables_1) hat d (List.mem_cons_of_mem _ hd)
  obtain ⟨i0, ei0⟩ := is_v g3
  obtain rfl : w0 = (.int i0) := Option.some.inj ei0
  obtain ⟨i1, ei1⟩ := is_v g5
  obtain rfl : w1 = (.int i1) := Option.some.inj ei1
  obtain ⟨i2, ei2⟩ := is_v g7
  obtain rfl : w2 = (.int i2) := Option.some.inj ei2
  obtain ⟨i3, ei3⟩ := isL_v g8
  obtain rfl : w3 = (.long i3) := Option.some.inj ei3
  obtain ⟨n, o, h1, h2, h3, _, L, rfl, ⟨rfl, N⟩, hq⟩ := rm0 l s _ hw tables_1 i0 i1 i2 i3 s.heap s.heap.size (Nat.le_refl _) p e ha hc hk s m _ below hf ((Spec.applies_iff_loose hf).mp happ).1 ⟨rfl, State.Warmed39.refl s, rfl⟩ trivial
  refine ⟨n, _, h1, h2, h3, hpost _ _ _ _ _ _ ⟨Cond.after_iff.mpr rfl, Cond.after_iff.mpr (eq_i res_at (Term.int_eval (1)) rfl), trivial⟩ ⟨hq.1, hq.2.1, (hq.2.2.sift fun y hy => Or.inr (N y hy)).mono (by decide) (by decide)⟩⟩
theorem main_1_1 : Claimed_1_1 := comes_1 fun _ _ _ _ _ _ h hF => ⟨h.1, hF⟩
theorem main_1_2 : Claimed_1_2 := comes_1 fun _ _ _ _ _ _ h hF => ⟨h.2.1, hF⟩
end Jvm.Pilot.@@N@@
namespace Jvm.Pilot.@@N@@
open Jvm Jvm.ClassFile Sem Op Lib Jvm.Free Jvm.Stand Jvm.Pilot.@@N@@.Jvm.D
/-! MADE BY PROGRAM (witnessworld.py) out of the Statement's table words and the real class files: 9 classes; the members and pool entries that the words name. The judged class is class 1, her method 1. -/
namespace start1
open Jvm.ClassFile
def u (s : String) : CpInfo := .utf8 (stringToUtf16 s)
/-- a pool by its gaps: so many unusable entries, then the entry; so many at the end -/
def gap : Nat → List CpInfo → List CpInfo
  | 0, r => r
  | n + 1, r => .unusable :: gap n r
def poolList (es : List (Nat × CpInfo)) (last : Nat) : List CpInfo := es.foldr (fun e r => gap e.1 (e.2 :: r)) (gap last [])
def pool (es : List (Nat × CpInfo)) (last : Nat) : Array CpInfo := ⟨poolList es last⟩
def fileOf (pool : Array CpInfo) (this : Nat) (attrs : Array Attribute := #[]) (ms : Array MethodInfo := #[]) (fl : Nat := 33) (sup : Nat := 0) (ifs : Array Nat := #[]) (fds : Array FieldInfo := #[]) : ClassFile where
  minorVersion := 0
  majorVersion := 65
  constantPool := pool
  accessFlags := fl
  thisClass := this
  superClass := sup
  interfaces := ifs
  fields := fds
  methods := ms
  attributes := attrs
def plain (name : String) (sup : Option ClassId) : Class where
  name := name
  kind := .ordinary
  loader := none
  accessFlags := 33
  super := sup
  interfaces := #[]
  cf := none
  fields := #[]
  methods := #[]
  instanceTypes := #[]
  staticTypes := #[]
  resolved := #[]
  callSites := []
  init := .initialized
  statics := none
  mirror := none

def pool0 : Array CpInfo := pool [(5, u "<init>"), (0, u "()V"), (1, .class_ 10), (1, u "java/lang/Object"), (85, u "clone"), (0, u "()Ljava/lang/Object;")] 26

def k0c0 : Code := { maxStack := 0, maxLocals := 1, code := object_method_1_code, exceptionTable := #[], attributes := #[] }
def k0m0 : Method := { name := "<init>", desc := "()V", sig := { parameters := [], returnType := none }, accessFlags := 1, code := some k0c0 }
def k0m1 : Method := { name := "clone", desc := "()Ljava/lang/Object;", sig := { parameters := [], returnType := some (.object "java/lang/Object") }, accessFlags := 260, code := none }
/-- java/lang/Object -/
def k0 : Class := { plain "java/lang/Object" none with
  accessFlags := 33
  interfaces := #[]
  cf := some (fileOf pool0 8 #[] #[{ accessFlags := 1, nameIndex := 5, descriptorIndex := 6, attributes := #[] }, { accessFlags := 260, nameIndex := 96, descriptorIndex := 97, attributes := #[] }] 33 0 #[] #[])
  fields := #[]
  methods := #[k0m0, k0m1]
  instanceTypes := #[]
  staticTypes := #[]
  resolved := Array.replicate 124 none
  statics := none }

def pool1 : Array CpInfo := pool [(2, .class_ 4), (1, u "java/lang/Object"), (0, u "<init>"), (0, u "()V"), (0, .methodref 8 9), (0, .class_ 10), (0, .nameAndType 11 12), (0, u "com/example/principal/principal/decision/IpAddress"), (0, u "of"), (0, u "([B)Lcom/example/principal/principal/decision/IpAddress;"), (0, .methodref 8 14), (0, .nameAndType 15 16), (0, u "isIpv4"), (0, u "()Z"), (0, .methodref 8 18), (0, .nameAndType 19 20), (0, u "ipv4Bits"), (0, u "()I"), (0, .class_ 22), (0, u "com/example/principal/principal/decision/IpAddressOfPinLaw"), (2, u "law"), (0, u "(IIIJ)Z")] 5

def k1m0 : Method := { name := "<init>", desc := "()V", sig := { parameters := [], returnType := none }, accessFlags := 1, code := none }
def k1c1 : Code := { maxStack := 5, maxLocals := 12, code := code, exceptionTable := #[], attributes := #[] }
def k1m1 : Method := { name := "law", desc := "(IIIJ)Z", sig := { parameters := [.int, .int, .int, .long], returnType := some .boolean }, accessFlags := 9, code := some k1c1 }
/-- com/example/principal/principal/decision/IpAddressOfPinLaw -/
def k1 : Class := { plain "com/example/principal/principal/decision/IpAddressOfPinLaw" (some 0) with
  accessFlags := 49
  interfaces := #[]
  cf := some (fileOf pool1 21 #[] #[{ accessFlags := 1, nameIndex := 5, descriptorIndex := 6, attributes := #[] }, { accessFlags := 9, nameIndex := 25, descriptorIndex := 26, attributes := #[] }] 49 2 #[] #[])
  fields := #[]
  methods := #[k1m0, k1m1]
  instanceTypes := #[]
  staticTypes := #[]
  resolved := Array.replicate 32 none
  statics := none }

def pool2 : Array CpInfo := pool [(1, .methodref 2 3), (0, .class_ 4), (0, .nameAndType 5 6), (0, u "java/lang/Object"), (0, u "<init>"), (0, u "()V"), (0, .fieldref 8 9), (0, .class_ 10), (0, .nameAndType 11 12), (0, u "com/example/principal/principal/decision/IpAddress"), (0, u "bytes"), (0, u "[B"), (23, .methodref 8 37), (0, .nameAndType 5 38), (0, u "([B)V"), (7, .methodref 47 48), (0, .class_ 12), (0, .nameAndType 49 50), (0, u "clone"), (0, u "()Ljava/lang/Object;"), (2, u "DOTTED"), (0, u "Ljava/util/regex/Pattern;"), (11, u "()Z"), (31, u "of"), (4, u "()I"), (44, u "GROUP"), (13, u "IPV4_BYTES"), (0, u "I"), (2, u "IPV6_GROUPS"), (6, u "([B)Lcom/example/principal/principal/decision/IpAddress;"), (0, u "isIpv4"), (0, u "ipv4Bits")] 7

def k2c0 : Code := { maxStack := 2, maxLocals := 2, code := prog_31_method_1_code, exceptionTable := #[], attributes := #[] }
def k2m0 : Method := { name := "<init>", desc := "([B)V", sig := { parameters := [(.array .byte)], returnType := none }, accessFlags := 2, code := some k2c0 }
def k2c1 : Code := { maxStack := 3, maxLocals := 1, code := prog_31_method_3_code, exceptionTable := #[], attributes := #[] }
def k2m1 : Method := { name := "of", desc := "([B)Lcom/example/principal/principal/decision/IpAddress;", sig := { parameters := [(.array .byte)], returnType := some (.object "com/example/principal/principal/decision/IpAddress") }, accessFlags := 9, code := some k2c1 }
def k2c2 : Code := { maxStack := 2, maxLocals := 1, code := prog_31_method_4_code, exceptionTable := #[], attributes := #[] }
def k2m2 : Method := { name := "isIpv4", desc := "()Z", sig := { parameters := [], returnType := some .boolean }, accessFlags := 1, code := some k2c2 }
def k2c3 : Code := { maxStack := 3, maxLocals := 3, code := prog_31_method_5_code, exceptionTable := #[], attributes := #[] }
def k2m3 : Method := { name := "ipv4Bits", desc := "()I", sig := { parameters := [], returnType := some .int }, accessFlags := 0, code := some k2c3 }
/-- com/example/principal/principal/decision/IpAddress -/
def k2 : Class := { plain "com/example/principal/principal/decision/IpAddress" (some 0) with
  accessFlags := 33
  interfaces := #[]
  cf := some (fileOf pool2 8 #[] #[{ accessFlags := 2, nameIndex := 5, descriptorIndex := 38, attributes := #[] }, { accessFlags := 9, nameIndex := 98, descriptorIndex := 173, attributes := #[] }, { accessFlags := 1, nameIndex := 174, descriptorIndex := 66, attributes := #[] }, { accessFlags := 0, nameIndex := 175, descriptorIndex := 103, attributes := #[] }] 33 2 #[] #[{ accessFlags := 26, nameIndex := 53, descriptorIndex := 54, attributes := #[] }, { accessFlags := 26, nameIndex := 148, descriptorIndex := 54, attributes := #[] }, { accessFlags := 26, nameIndex := 162, descriptorIndex := 163, attributes := #[] }, { accessFlags := 26, nameIndex := 166, descriptorIndex := 163, attributes := #[] }, { accessFlags := 18, nameIndex := 11, descriptorIndex := 12, attributes := #[] }])
  fields := #[{ name := "DOTTED", type := (.object "java/util/regex/Pattern"), accessFlags := 26, slot := 0, constantValue := 0 }, { name := "GROUP", type := (.object "java/util/regex/Pattern"), accessFlags := 26, slot := 1, constantValue := 0 }, { name := "IPV4_BYTES", type := .int, accessFlags := 26, slot := 2, constantValue := 0 }, { name := "IPV6_GROUPS", type := .int, accessFlags := 26, slot := 3, constantValue := 0 }, { name := "bytes", type := (.array .byte), accessFlags := 18, slot := 0, constantValue := 0 }]
  methods := #[k2m0, k2m1, k2m2, k2m3]
  instanceTypes := #[(.array .byte)]
  staticTypes := #[(.object "java/util/regex/Pattern"), (.object "java/util/regex/Pattern"), .int, .int]
  resolved := Array.replicate 183 none
  statics := none }

def pool3 : Array CpInfo := pool [(1, .class_ 2), (0, u "java/lang/Cloneable"), (0, .class_ 4), (0, u "java/lang/Object")] 2

/-- java/lang/Cloneable -/
def k3 : Class := { plain "java/lang/Cloneable" (some 0) with
  accessFlags := 1537
  interfaces := #[]
  cf := some (fileOf pool3 1 #[] #[] 1537 3 #[] #[])
  fields := #[]
  methods := #[]
  instanceTypes := #[]
  staticTypes := #[]
  resolved := Array.replicate 7 none
  statics := none }

def pool4 : Array CpInfo := pool [(1, u "java/io/Serializable"), (0, .class_ 1), (0, u "java/lang/Object"), (0, .class_ 3)] 3

/-- java/io/Serializable -/
def k4 : Class := { plain "java/io/Serializable" (some 0) with
  accessFlags := 1537
  interfaces := #[]
  cf := some (fileOf pool4 2 #[] #[] 1537 4 #[] #[])
  fields := #[]
  methods := #[]
  instanceTypes := #[]
  staticTypes := #[]
  resolved := Array.replicate 8 none
  statics := none }

/-- the primitive byte -/
def k5 : Class := { plain "byte" none with kind := .primitive 'B', accessFlags := 0x411 }
/-- [B -/
def k6 : Class := { plain "[B" (some 0) with kind := .array 5 .byte, interfaces := #[3, 4], accessFlags := 1041 }

/-- the primitive int -/
def k7 : Class := { plain "int" none with kind := .primitive 'I', accessFlags := 0x411 }
/-- [I -/
def k8 : Class := { plain "[I" (some 0) with kind := .array 7 .int, interfaces := #[3, 4], accessFlags := 1041 }

def heap : Heap := #[]
def classes : Array Class := #[k0, k1, k2, k3, k4, k5, k6, k7, k8]
def interned : List (Array UInt16 × Addr) := []
def slotsUsed : Nat := 0
def theMethod : MethodId := ⟨1, 1⟩
def args0 : Array Value := #[.int 5, .int 5, .int 5, .long 5]
def aboutOver (below : List Frame) : State where
  vm := { classes := classes, interned := interned.toArray }
  heap := heap
  slotsUsed := slotsUsed
  threads := #[{ frames := .invoking theMethod args0 :: below }]
def below0 : List Frame := [.native { method := ⟨0, 0⟩, args := #[] }]
def about1 : State := aboutOver below0
def p0 : Program := .bare "" "" ""
def e0 : Env := launch0.env 0 0 0
theorem w_frames : about1.frames = Frame.invoking theMethod args0 :: below0 := rfl
set_option maxRecDepth 65536 in
theorem w_args : argsFit about1.vm theMethod args0 = true := by decide +kernel
set_option maxRecDepth 65536 in
theorem w_heap : heapFits about1 = true := by decide +kernel
set_option maxRecDepth 65536 in
theorem w_runnable : about1.curStatus? = some .runnable := by decide +kernel
set_option maxRecDepth 65536 in
theorem w_alone : about1.alone = true := by decide +kernel
set_option maxRecDepth 65536 in
theorem w_named : about1.methodNamed? x = some theMethod := by decide +kernel
set_option maxRecDepth 65536 in
theorem w_hears : about1.hears theMethod below0 = true := by decide +kernel
set_option maxRecDepth 65536 in
theorem w_ripe : about1.ripe theMethod args0 below0 = true := by decide +kernel
theorem w_running : about1.status = .running := rfl
set_option maxRecDepth 65536 in
theorem w_room : about1.hasRoom e0.platform room_1 = true :=
  launch0.hasRoom_least _ room_1 (by decide +kernel) (by decide +kernel) (by decide +kernel) (by decide +kernel) (by decide +kernel) (by decide +kernel)
theorem allAtoms_all (ts : List Jvm.Cond) (a : Array Jvm.Value) (st : Jvm.State) : (allAtoms ts).before a st = ts.all (fun c => c.before a st) := by
  induction ts with
  | nil => rfl
  | cons c t ih =>
    show (Jvm.Cond.and c (allAtoms t)).before a st = _
    rw [Jvm.Cond.before_and, ih, List.all_cons]
def words1 : List Jvm.Cond := Jvm.Cond.code x code maxLocals ret :: tables_1
/-- a 'code' word, met by the world's own term for the bytes: nothing is compared byte by byte -/
theorem code_word {y : MethodName} {bytes : ByteArray} {mx : Nat} {rt : Option FieldType} {a : Array Value} {s : State} {m : MethodId} {meth : Method} {c : Code} (h1 : s.methodNamed? y = some m) (h2 : s.vm.method? m = some meth) (h3 : meth.code = some c) (h4 : c.code = bytes)
    (h5 : (c.maxLocals == mx && c.exceptionTable.isEmpty && decide (c.maxStack ≤ mostOperands) && decide (meth.sig.returnType = rt) && !meth.locks && decide (parseMethodDescriptor y.desc = some meth.sig)) = true) : (Jvm.Cond.code y bytes mx rt).before a s = true := by
  simp only [Bool.and_eq_true, beq_iff_eq, Bool.not_eq_true', decide_eq_true_eq] at h5
  obtain ⟨⟨⟨⟨⟨g1, g2⟩, g3⟩, g4⟩, g5⟩, g6⟩ := h5
  simp [Cond.before, Cond.holds, Cond.value, h1, h2, h3, h4, g1, g2, g3, g4, g5, g6]
def isCode : Jvm.Cond → Bool
  | .code _ _ _ _ => true
  | _ => false
theorem all_split {L : List Jvm.Cond} {P : Jvm.Cond → Bool} (h1 : L.all (fun c => isCode c || P c) = true) (h2 : ∀ c ∈ L.filter isCode, P c = true) : L.all P = true := by
  refine List.all_eq_true.mpr fun c hc => ?_
  have h := List.all_eq_true.mp h1 c hc
  rcases Bool.eq_false_or_eq_true (isCode c) with hi | hi
  · exact h2 c (List.mem_filter.mpr ⟨hc, hi⟩)
  · simpa [hi] using h
set_option maxRecDepth 65536 in
theorem w_c0 : (Jvm.Cond.code x code maxLocals ret).before args0 about1 = true := code_word (m := ⟨1, 1⟩) (meth := k1m1) (c := k1c1) (by decide +kernel) rfl rfl rfl (by decide +kernel)
set_option maxRecDepth 65536 in
theorem w_c1 : (Jvm.Cond.code ({ cls := "com/example/principal/principal/decision/IpAddress", name := "of", desc := "([B)Lcom/example/principal/principal/decision/IpAddress;" } : Jvm.MethodName) prog_31_method_3_code (1 : Nat) (Option.some (Jvm.ClassFile.FieldType.object "com/example/principal/principal/decision/IpAddress"))).before args0 about1 = true := code_word (m := ⟨2, 1⟩) (meth := k2m1) (c := k2c1) (by decide +kernel) rfl rfl rfl (by decide +kernel)
set_option maxRecDepth 65536 in
theorem w_c2 : (Jvm.Cond.code ({ cls := "com/example/principal/principal/decision/IpAddress", name := "<init>", desc := "([B)V" } : Jvm.MethodName) prog_31_method_1_code (2 : Nat) (Option.none : Option Jvm.ClassFile.FieldType)).before args0 about1 = true := code_word (m := ⟨2, 0⟩) (meth := k2m0) (c := k2c0) (by decide +kernel) rfl rfl rfl (by decide +kernel)
set_option maxRecDepth 65536 in
theorem w_c3 : (Jvm.Cond.code ({ cls := "java/lang/Object", name := "<init>", desc := "()V" } : Jvm.MethodName) object_method_1_code (1 : Nat) (Option.none : Option Jvm.ClassFile.FieldType)).before args0 about1 = true := code_word (m := ⟨0, 0⟩) (meth := k0m0) (c := k0c0) (by decide +kernel) rfl rfl rfl (by decide +kernel)
set_option maxRecDepth 65536 in
theorem w_c4 : (Jvm.Cond.code ({ cls := "com/example/principal/principal/decision/IpAddress", name := "isIpv4", desc := "()Z" } : Jvm.MethodName) prog_31_method_4_code (1 : Nat) (Option.some Jvm.ClassFile.FieldType.boolean)).before args0 about1 = true := code_word (m := ⟨2, 2⟩) (meth := k2m2) (c := k2c2) (by decide +kernel) rfl rfl rfl (by decide +kernel)
set_option maxRecDepth 65536 in
theorem w_c5 : (Jvm.Cond.code ({ cls := "com/example/principal/principal/decision/IpAddress", name := "ipv4Bits", desc := "()I" } : Jvm.MethodName) prog_31_method_5_code (3 : Nat) (Option.some Jvm.ClassFile.FieldType.int)).before args0 about1 = true := code_word (m := ⟨2, 3⟩) (meth := k2m3) (c := k2c3) (by decide +kernel) rfl rfl rfl (by decide +kernel)
def codes1 : List Jvm.Cond := [Jvm.Cond.code x code maxLocals ret, Jvm.Cond.code ({ cls := "com/example/principal/principal/decision/IpAddress", name := "of", desc := "([B)Lcom/example/principal/principal/decision/IpAddress;" } : Jvm.MethodName) prog_31_method_3_code (1 : Nat) (Option.some (Jvm.ClassFile.FieldType.object "com/example/principal/principal/decision/IpAddress")), Jvm.Cond.code ({ cls := "com/example/principal/principal/decision/IpAddress", name := "<init>", desc := "([B)V" } : Jvm.MethodName) prog_31_method_1_code (2 : Nat) (Option.none : Option Jvm.ClassFile.FieldType), Jvm.Cond.code ({ cls := "java/lang/Object", name := "<init>", desc := "()V" } : Jvm.MethodName) object_method_1_code (1 : Nat) (Option.none : Option Jvm.ClassFile.FieldType), Jvm.Cond.code ({ cls := "com/example/principal/principal/decision/IpAddress", name := "isIpv4", desc := "()Z" } : Jvm.MethodName) prog_31_method_4_code (1 : Nat) (Option.some Jvm.ClassFile.FieldType.boolean), Jvm.Cond.code ({ cls := "com/example/principal/principal/decision/IpAddress", name := "ipv4Bits", desc := "()I" } : Jvm.MethodName) prog_31_method_5_code (3 : Nat) (Option.some Jvm.ClassFile.FieldType.int)]
set_option maxRecDepth 65536 in
theorem codes_eq : words1.filter isCode = codes1 := rfl
theorem w_codes : ∀ c ∈ words1.filter isCode, c.before args0 about1 = true := by
  rw [codes_eq]
  intro c hc
  simp only [codes1, List.mem_cons, List.not_mem_nil, or_false] at hc
  rcases hc with rfl | rfl | rfl | rfl | rfl | rfl
  · exact w_c0
  · exact w_c1
  · exact w_c2
  · exact w_c3
  · exact w_c4
  · exact w_c5
set_option maxRecDepth 65536 in
theorem w_t1 : (words1.take 24).all (fun c => isCode c || c.before args0 about1) = true := by decide +kernel
set_option maxRecDepth 65536 in
theorem w_t2 : (words1.drop 24).all (fun c => isCode c || c.before args0 about1) = true := by decide +kernel
theorem w_tables : (allAtoms (Jvm.Cond.code x code maxLocals ret :: tables_1)).before args0 about1 = true := by
  rw [allAtoms_all]
  show words1.all (fun c => c.before args0 about1) = true
  refine all_split ?_ w_codes
  rw [← List.take_append_drop 24 words1, List.all_append, w_t1, w_t2]
  rfl
set_option maxRecDepth 65536 in
theorem w_case : (Jvm.Cond.and given_1 narrow_1).before args0 about1 = true := by decide +kernel
theorem w_applies : (headSpec (Jvm.Cond.code x code maxLocals ret :: tables_1) room_1).applies x e0.platform about1 = true :=
  (Spec.applies_iff w_frames).mpr ⟨w_running, w_runnable, w_alone, w_named, w_hears, w_ripe, w_room, w_tables⟩
theorem atStart : AtStart classFile x code maxLocals ret World_1 tables_1 room_1 Calls_1 rest_1 Pre_1 launch0 p0 e0 about1 theMethod args0 below0 :=
  ⟨lists_1, trivial, launch0.admits_env _ _ _, launch0.least_env, fairChoices_fair.cas, fairChoices_fair.clock, w_frames, w_args, w_heap, w_applies, trivial, trivial, w_case⟩
end start1
theorem witness_1 : WitnessClaimed_1 := ⟨start1.p0, start1.e0, start1.about1, start1.theMethod, start1.args0, start1.below0, start1.atStart⟩
end Jvm.Pilot.@@N@@
