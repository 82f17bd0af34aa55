import JvmDerived
import JvmDerived.Pilot.@@N@@Statement
import JvmDerived.Pilot.@@N@@Code
set_option linter.unusedVariables false
set_option linter.unusedSimpArgs false
namespace Jvm.Pilot.@@N@@
open Jvm Jvm.ClassFile Sem Op Lib Jvm.Free Jvm.Stand Jvm.LawKit Jvm.RoadKit Bundle Jvm.Pilot.@@N@@.Jvm.D
/-! the goal of a walk, read forwards: from the state S the run comes to an end that P likes -/
def own_G (p : Program) (e : Env) (below : List Frame) (S : State) (P : State → Outcome → Prop) : Prop := ∃ s₂ o, Steps p.tables e below S s₂ ∧ s₂.status = .running ∧ Ended s₂ below o ∧ P s₂ o
theorem own_go {p : Program} {e : Env} {below : List Frame} {A B : State} {P : State → Outcome → Prop} (h : ∀ t, Steps p.tables e below A t → Steps p.tables e below B t) (g : own_G p e below A P) : own_G p e below B P := by
  obtain ⟨s₂, o, h1, h2⟩ := g
  exact ⟨s₂, o, h _ h1, h2⟩
theorem own_ret {p : Program} {l : Launch} {e : Env} {R : Room} {s : State} {m : MethodId} {args : Array Value} {below : List Frame} {meth : Method} {c : Code} {T : State} {locs : List Loc} {cells slots : Nat} (X : Stand p l e R s m args below meth c T locs cells slots) (hlocks : meth.locks = false) {v : Option Value} (hv : meth.sig.returnType = none → v = none) {g : JFrame} (Q : Option Value → Heap → List Loc → Prop) {C S : Nat}
    (st : ∀ fs : List Frame, (∀ (f : JFrame) (acts : List Action), f.method = m → f.locked = none → f.entered = [] → (doReturn e (T.setTop f) acts v).1 = T.setFrames fs) → Steps p.tables e below (T.setTop g) (T.setFrames fs))
    (hc : cells ≤ C) (hs : slots ≤ S) (hQ : Q v T.heap locs) : own_G p e below (T.setTop g) (fun s₂ o => ∃ v L, o = .returned v ∧ Q v s₂.heap L ∧ FrameEnd s o s₂ L C S) := by
  obtain ⟨fs, hr, hrun, hended, hW, hsame⟩ := X.leave (v := v) hv hlocks
  exact ⟨_, _, st fs hr, hrun, hended, _, _, rfl, hQ, ⟨_, rfl⟩, hW, hsame.mono hc hs⟩
theorem own_retI {p : Program} {l : Launch} {e : Env} {R : Room} {s : State} {m : MethodId} {args : Array Value} {below : List Frame} {meth : Method} {c : Code} {T : State} {locs : List Loc} {cells slots : Nat} (X : Stand p l e R s m args below meth c T locs cells slots) (hx : p.tables.exec = Jvm.exec) {pc : Nat} {Ls : Array Slot} {w : Value} {t : FieldType} {i : Instr} {rest : List Value} (hret : meth.sig.returnType = some t) (hn : narrow t w = w)
    (hi : (i = .ireturn ∧ (t = .int ∨ t = .boolean ∨ t = .byte ∨ t = .char ∨ t = .short) ∧ ∃ z, w = .int z) ∨ (i = .lreturn ∧ t = .long ∧ ∃ z, w = .long z) ∨ (i = .dreturn ∧ t = .double ∧ ∃ z, w = .double z) ∨ (i = .freturn ∧ t = .float ∧ ∃ z, w = .float z) ∨ (i = .areturn ∧ t.isReference = true ∧ w.isRef = true))
    (hd : decode c.code pc = .ok (i, 1)) (fs : List Frame) (hl : ∀ (f : JFrame) (acts : List Action), f.method = m → f.locked = none → f.entered = [] → (doReturn e (T.setTop f) acts (some w)).1 = T.setFrames fs) :
    Steps p.tables e below (T.setTop (mkF m pc Ls (w :: rest))) (T.setFrames fs) := retOut X hx hret hn hi hd hl
theorem own_retV {p : Program} {l : Launch} {e : Env} {R : Room} {s : State} {m : MethodId} {args : Array Value} {below : List Frame} {meth : Method} {c : Code} {T : State} {locs : List Loc} {cells slots : Nat} (X : Stand p l e R s m args below meth c T locs cells slots) (hx : p.tables.exec = Jvm.exec) {pc : Nat} {Ls : Array Slot} (hret : meth.sig.returnType = none)
    (hd : decode c.code pc = .ok (.return_, 1)) (fs : List Frame) (hl : ∀ (f : JFrame) (acts : List Action), f.method = m → f.locked = none → f.entered = [] → (doReturn e (T.setTop f) acts none).1 = T.setFrames fs) :
    Steps p.tables e below (T.setTop (mkF m pc Ls [])) (T.setFrames fs) := X.returnOut hx hret hd hl
theorem own_selects {s : State} {args : Array Value} {y : MethodName} {n : Nat} (hins : (Jvm.Cond.instantiable y.cls n).before args s = true) (hpriv : (Jvm.Cond.privateMethod y).before args s = true) (hinst : (Jvm.Cond.instanceMethod y).before args s = true) (hy : y.cls ≠ "java/lang/invoke/MethodHandle" ∧ y.cls ≠ "java/lang/invoke/VarHandle") :
    (Jvm.Cond.selects y.cls y y).before args s = true := by
  obtain ⟨c, k, hc, hk, -, hniab, -, -⟩ := Cond.instantiable_spec hins
  exact selects_self_of_private hc hk (Bool.or_eq_false_iff.mp hniab).1 (Cond.privateMethod_at hpriv) hinst hy
theorem own_bb (x : Int32) : nar .byte x.toInt8.toInt32 = x.toInt8.toInt32 := by
  show x.toInt8.toInt32.toInt8.toInt32 = _
  simp
theorem own_fit {z : Int32} (h : nar .byte z = z) : fits .byte (.int z) = true := by
  rw [← h]; exact fits_nar_byte z
theorem own_lt32 {a b : Int32} : a < b ↔ a.toInt < b.toInt := Int32.lt_iff_toInt_lt
/-! Arrays.copyOf(byte[], int): its two returning roads, in plain lists -/
def own_mini (a b : Int32) : Int32 := if b < a then b else a
theorem own_arv_of {Z : State} {h : Heap} {a : Addr} {k : ClassId} {ty : FieldType} {z : Int32} {vs vs' : List Value} {d : Value} (V : Arv Z h a k ty z vs d) (q : ∀ i, i < z.toNatClampNeg → vs'.getD i d = vs.getD i d) : Arv Z h a k ty z vs' d := by
  obtain ⟨c, A, r1, r2, r3, H, G⟩ := V
  exact ⟨c, A, r1, r2, r3, fun i hi => by rw [q i (r2 ▸ hi)]; exact H i hi, fun i hi => by rw [q i (r2 ▸ hi)]; exact G i hi⟩
theorem own_cp1 {Z : State} {h : Heap} {a : Addr} {k : ClassId} {ty : FieldType} {z y : Int32} {vs : List Value} {d : Value} (e : y = z) (V : Arv Z h a k ty z vs d) : Arv Z h a k ty y (vs.take y.toNatClampNeg) d := by
  subst e
  refine own_arv_of V fun i hi => ?_
  simp [List.getD_eq_getElem?_getD, List.getElem?_take, hi]
theorem own_nonneg {z : Int32} (h : ¬ z < 0) : z.toInt = (z.toNatClampNeg : Int) := nat_of h
theorem own_mini_nn {z y : Int32} (hz : ¬ z < 0) (hy : ¬ y < 0) : ¬ own_mini z y < 0 := by unfold own_mini; split <;> assumption
theorem own_mini_le {z y : Int32} (hz : ¬ z < 0) (hy : ¬ y < 0) : (own_mini z y).toNatClampNeg ≤ z.toNatClampNeg ∧ (own_mini z y).toNatClampNeg ≤ y.toNatClampNeg ∧ ((own_mini z y).toNatClampNeg = z.toNatClampNeg ∨ (own_mini z y).toNatClampNeg = y.toNatClampNeg) := by
  have h1 := own_nonneg hz
  have h2 := own_nonneg hy
  unfold own_mini
  split
  · rename_i h; rw [own_lt32] at h; exact ⟨by omega, by omega, Or.inr rfl⟩
  · rename_i h; rw [own_lt32] at h; exact ⟨by omega, by omega, Or.inl rfl⟩
theorem own_cplist {vs : List Value} {d : Value} {zn yn nn : Nat} (h1 : nn ≤ zn) (h2 : nn ≤ yn) (h3 : nn = zn ∨ nn = yn) (hv : vs.length ≤ zn) (i : Nat) (hi : i < yn) :
    (vs.take yn).getD i d = ((([] ++ List.replicate yn d).take 0) ++ ((List.range nn).map fun i => vs.getD (0 + i) d) ++ ([] ++ List.replicate yn d).drop (0 + nn)).getD i d := by
  simp only [List.getD_eq_getElem?_getD, List.getElem?_take, hi, if_true, List.take_zero, List.nil_append, Nat.zero_add]
  by_cases hn : i < nn
  · rw [List.getElem?_append_left (by simpa using hn)]
    simp [hn]
  · have hz : vs[i]? = none := by rw [List.getElem?_eq_none_iff]; omega
    rw [List.getElem?_append_right (by simpa using Nat.le_of_not_lt hn), hz]
    simp only [List.length_map, List.length_range, List.getElem?_drop, List.getElem?_replicate]
    rw [if_pos (by omega)]
    rfl
theorem own_cp2 {Z : State} {h : Heap} {a : Addr} {k : ClassId} {ty : FieldType} {z y : Int32} {vs : List Value} {d : Value} (hz : ¬ z < 0) (hy : ¬ y < 0) (hv : vs.length ≤ z.toNatClampNeg)
    (V : Arv Z h a k ty y ((([] ++ List.replicate y.toNatClampNeg d).take (0 : Int32).toNatClampNeg) ++ ((List.range (own_mini z y).toNatClampNeg).map fun i => vs.getD ((0 : Int32).toNatClampNeg + i) d) ++ ([] ++ List.replicate y.toNatClampNeg d).drop ((0 : Int32).toNatClampNeg + (own_mini z y).toNatClampNeg)) d) :
    Arv Z h a k ty y (vs.take y.toNatClampNeg) d := by
  obtain ⟨h1, h2, h3⟩ := own_mini_le hz hy
  exact own_arv_of V fun i hi => own_cplist h1 h2 h3 hv i hi
theorem own_n3 (x : Int32) : (x &&& (3 : Int32)) = 0 ∨ (x &&& (3 : Int32)) = 1 ∨ (x &&& (3 : Int32)) = 2 ∨ (x &&& (3 : Int32)) = 3 := by
  have h := c_mask x (3 : Int32) 2 (by decide) (by decide)
  have e0 : (0 : Int32).toInt = 0 := rfl
  have e1 : (1 : Int32).toInt = 1 := rfl
  have e2 : (2 : Int32).toInt = 2 := rfl
  have e3 : (3 : Int32).toInt = 3 := rfl
  simp only [← Int32.toInt_inj, e0, e1, e2, e3]
  generalize (x &&& (3 : Int32)).toInt = y at *
  omega
theorem d1_0 : decode method_3_code 0 = .ok (.iload_n 0, 1) := by decide +kernel
theorem d1_1 : decode method_3_code 1 = .ok (.sipush 256, 3) := by decide +kernel
theorem d1_4 : decode method_3_code 4 = .ok (.iand, 1) := by decide +kernel
theorem d1_5 : decode method_3_code 5 = .ok (.ifCond .eq 7, 3) := by decide +kernel
theorem d1_8 : decode method_3_code 8 = .ok (.iconst (-1), 1) := by decide +kernel
theorem d1_9 : decode method_3_code 9 = .ok (.goto 5, 3) := by decide +kernel
theorem d1_12 : decode method_3_code 12 = .ok (.iload_n 0, 1) := by decide +kernel
theorem d1_13 : decode method_3_code 13 = .ok (.i2b, 1) := by decide +kernel
theorem d1_14 : decode method_3_code 14 = .ok (.ireturn, 1) := by decide +kernel
theorem d2_0 : decode prog_38_method_1_code 0 = .ok (.aload_n 0, 1) := by decide +kernel
theorem d2_1 : decode prog_38_method_1_code 1 = .ok (.arraylength, 1) := by decide +kernel
theorem d2_2 : decode prog_38_method_1_code 2 = .ok (.iconst 1, 1) := by decide +kernel
theorem d2_3 : decode prog_38_method_1_code 3 = .ok (.isub, 1) := by decide +kernel
theorem d2_4 : decode prog_38_method_1_code 4 = .ok (.istore_n 1, 1) := by decide +kernel
theorem d2_5 : decode prog_38_method_1_code 5 = .ok (.iload_n 1, 1) := by decide +kernel
theorem d2_6 : decode prog_38_method_1_code 6 = .ok (.ifCond .lt 34, 3) := by decide +kernel
theorem d2_9 : decode prog_38_method_1_code 9 = .ok (.aload_n 0, 1) := by decide +kernel
theorem d2_10 : decode prog_38_method_1_code 10 = .ok (.iload_n 1, 1) := by decide +kernel
theorem d2_11 : decode prog_38_method_1_code 11 = .ok (.baload, 1) := by decide +kernel
theorem d2_12 : decode prog_38_method_1_code 12 = .ok (.iconst (-1), 1) := by decide +kernel
theorem d2_13 : decode prog_38_method_1_code 13 = .ok (.if_icmp .eq 21, 3) := by decide +kernel
theorem d2_16 : decode prog_38_method_1_code 16 = .ok (.aload_n 0, 1) := by decide +kernel
theorem d2_17 : decode prog_38_method_1_code 17 = .ok (.iload_n 1, 1) := by decide +kernel
theorem d2_18 : decode prog_38_method_1_code 18 = .ok (.iconst 1, 1) := by decide +kernel
theorem d2_19 : decode prog_38_method_1_code 19 = .ok (.iadd, 1) := by decide +kernel
theorem d2_20 : decode prog_38_method_1_code 20 = .ok (.invokestatic 1, 3) := by decide +kernel
theorem d2_23 : decode prog_38_method_1_code 23 = .ok (.astore_n 2, 1) := by decide +kernel
theorem d2_24 : decode prog_38_method_1_code 24 = .ok (.aload_n 2, 1) := by decide +kernel
theorem d2_25 : decode prog_38_method_1_code 25 = .ok (.iload_n 1, 1) := by decide +kernel
theorem d2_26 : decode prog_38_method_1_code 26 = .ok (.dup2, 1) := by decide +kernel
theorem d2_27 : decode prog_38_method_1_code 27 = .ok (.baload, 1) := by decide +kernel
theorem d2_28 : decode prog_38_method_1_code 28 = .ok (.iconst 1, 1) := by decide +kernel
theorem d2_29 : decode prog_38_method_1_code 29 = .ok (.iadd, 1) := by decide +kernel
theorem d2_30 : decode prog_38_method_1_code 30 = .ok (.i2b, 1) := by decide +kernel
theorem d2_31 : decode prog_38_method_1_code 31 = .ok (.bastore, 1) := by decide +kernel
theorem d2_32 : decode prog_38_method_1_code 32 = .ok (.aload_n 2, 1) := by decide +kernel
theorem d2_33 : decode prog_38_method_1_code 33 = .ok (.areturn, 1) := by decide +kernel
theorem d2_34 : decode prog_38_method_1_code 34 = .ok (.iinc 1 (-1), 3) := by decide +kernel
theorem d2_37 : decode prog_38_method_1_code 37 = .ok (.goto (-32), 3) := by decide +kernel
theorem d2_40 : decode prog_38_method_1_code 40 = .ok (.aconst_null, 1) := by decide +kernel
theorem d2_41 : decode prog_38_method_1_code 41 = .ok (.areturn, 1) := by decide +kernel
theorem d3_0 : decode jdk_65_method_121_code 0 = .ok (.iload_n 1, 1) := by decide +kernel
theorem d3_1 : decode jdk_65_method_121_code 1 = .ok (.aload_n 0, 1) := by decide +kernel
theorem d3_2 : decode jdk_65_method_121_code 2 = .ok (.arraylength, 1) := by decide +kernel
theorem d3_3 : decode jdk_65_method_121_code 3 = .ok (.if_icmp .ne 11, 3) := by decide +kernel
theorem d3_6 : decode jdk_65_method_121_code 6 = .ok (.aload_n 0, 1) := by decide +kernel
theorem d3_7 : decode jdk_65_method_121_code 7 = .ok (.invokevirtual 310, 3) := by decide +kernel
theorem d3_10 : decode jdk_65_method_121_code 10 = .ok (.checkcast 311, 3) := by decide +kernel
theorem d3_13 : decode jdk_65_method_121_code 13 = .ok (.areturn, 1) := by decide +kernel
theorem d3_14 : decode jdk_65_method_121_code 14 = .ok (.iload_n 1, 1) := by decide +kernel
theorem d3_15 : decode jdk_65_method_121_code 15 = .ok (.newarray .byte, 2) := by decide +kernel
theorem d3_17 : decode jdk_65_method_121_code 17 = .ok (.astore_n 2, 1) := by decide +kernel
theorem d3_18 : decode jdk_65_method_121_code 18 = .ok (.aload_n 0, 1) := by decide +kernel
theorem d3_19 : decode jdk_65_method_121_code 19 = .ok (.iconst 0, 1) := by decide +kernel
theorem d3_20 : decode jdk_65_method_121_code 20 = .ok (.aload_n 2, 1) := by decide +kernel
theorem d3_21 : decode jdk_65_method_121_code 21 = .ok (.iconst 0, 1) := by decide +kernel
theorem d3_22 : decode jdk_65_method_121_code 22 = .ok (.aload_n 0, 1) := by decide +kernel
theorem d3_23 : decode jdk_65_method_121_code 23 = .ok (.arraylength, 1) := by decide +kernel
theorem d3_24 : decode jdk_65_method_121_code 24 = .ok (.iload_n 1, 1) := by decide +kernel
theorem d3_25 : decode jdk_65_method_121_code 25 = .ok (.invokestatic 304, 3) := by decide +kernel
theorem d3_28 : decode jdk_65_method_121_code 28 = .ok (.invokestatic 150, 3) := by decide +kernel
theorem d3_31 : decode jdk_65_method_121_code 31 = .ok (.aload_n 2, 1) := by decide +kernel
theorem d3_32 : decode jdk_65_method_121_code 32 = .ok (.areturn, 1) := by decide +kernel
theorem d4_0 : decode jdk_29_method_69_code 0 = .ok (.iload_n 0, 1) := by decide +kernel
theorem d4_1 : decode jdk_29_method_69_code 1 = .ok (.iload_n 1, 1) := by decide +kernel
theorem d4_2 : decode jdk_29_method_69_code 2 = .ok (.if_icmp .gt 7, 3) := by decide +kernel
theorem d4_5 : decode jdk_29_method_69_code 5 = .ok (.iload_n 0, 1) := by decide +kernel
theorem d4_6 : decode jdk_29_method_69_code 6 = .ok (.goto 4, 3) := by decide +kernel
theorem d4_9 : decode jdk_29_method_69_code 9 = .ok (.iload_n 1, 1) := by decide +kernel
theorem d4_10 : decode jdk_29_method_69_code 10 = .ok (.ireturn, 1) := by decide +kernel
theorem pn_0 : plainName "com/example/orbweave/orbweave/store/KeyOrderPrefixEndPinLaw" = true := by first | (simp [plainName, overriddenIn]; done) | decide +kernel
theorem pn_1 : plainName "com/example/orbweave/orbweave/store/KeyOrderPrefixEndPinLaw" = true := by first | (simp [plainName, overriddenIn]; done) | decide +kernel
theorem pn_2 : plainName "com/example/orbweave/orbweave/store/KeyOrder" = true := by first | (simp [plainName, overriddenIn]; done) | decide +kernel
theorem pn_3 : plainName "java/util/Arrays" = true := by first | (simp [plainName, overriddenIn]; done) | decide +kernel
theorem pd_0 : parseMethodDescriptor "(II)I" = some ⟨[.int, .int], some .int⟩ := by decide +kernel
theorem pd_1 : parseMethodDescriptor "([BI)[B" = some ⟨[(.array .byte), .int], some (.array .byte)⟩ := by decide +kernel
theorem pd_2 : parseMethodDescriptor "(I)B" = some ⟨[.int], some .byte⟩ := by decide +kernel
theorem pd_3 : parseMethodDescriptor "([B)[B" = some ⟨[(.array .byte)], some (.array .byte)⟩ := by decide +kernel
theorem ef_1 (m : MethodId) (p1 : Int32) : entryFrame m #[(.int p1)] 1 = mkF m 0 #[.val (.int p1)] [] := by first | (simp [entryFrame, mkF, argsToLocals, Value.category]; done) | rfl
def Q1 (Z : State) (p1 : Int32) (h0 : Heap) (n0 : Nat) (v : Option Value) (h : Heap) (L : List Loc) : Prop := ∃ z : Int32, v = some (.int z) ∧ Fr n0 L ∧ h = h0 ∧ nar .byte z = z
set_option maxRecDepth 65536 in
set_option maxHeartbeats 40000000 in
theorem rm1 (l : Launch) (Z : State) (a0 : Array Value) (hw : ∀ d ∈ tables_1, d.before a0 Z = true) (ws : List Jvm.Cond) (p1 : Int32) (h0 : Heap) (n0 : Nat) (Z0 : n0 ≤ h0.size)  :
    MetFree l (⟨"com/example/orbweave/orbweave/store/KeyOrderPrefixEndPinLaw", "draw", "(I)B"⟩ : MethodName) (head1 (Jvm.Cond.code (⟨"com/example/orbweave/orbweave/store/KeyOrderPrefixEndPinLaw", "draw", "(I)B"⟩ : MethodName) method_3_code 1 (some .byte) :: ws) ({ frames := 0, cells := 0, slots := 0, locals := 0 } : Room)) (fun a U => a = #[(.int p1)] ∧ Z.Warmed39 U.vm ∧ U.heap = h0) (fun _ _ _ _ _ => True) (fun _ U o U' => ∃ v L, o = .returned v ∧ Q1 Z p1 h0 n0 v U'.heap L ∧ FrameEnd U o U' L ({ frames := 0, cells := 0, slots := 0, locals := 0 } : Room).cells ({ frames := 0, cells := 0, slots := 0, locals := 0 } : Room).slots) := by
  refine MetFree.of_bodySF (plainFor_of_name pn_1) hisR ?_
  intro p e s m args below meth c s₁ Bd hml0 hP hK
  obtain ⟨rfl, hZ, hh⟩ := hP
  have hx := Bd.exec
  have hby := Bd.bytes
  have hml : c.maxLocals = 1 := hml0
  have hown : s.vm.findClass "com/example/orbweave/orbweave/store/KeyOrderPrefixEndPinLaw" = some m.cls := findClass_of_methodNamed Bd.named
  have hnm := (name_of_methodNamed Bd.named Bd.method).1
  have hlk := Bd.notSynchronized
  have hret := Bd.returns
  have X0 : Stand p l e ({ frames := 0, cells := 0, slots := 0, locals := 0 } : Room) s m #[(.int p1)] below meth c s₁ [] 0 0 := Stand.of_body Bd
  have e0 : s₁.heap = h0 := by rw [← hh, Bd.state]; rfl
  have N0 := Fr.nil n0
  show own_G p e below (s₁.setTop (entryFrame m #[(.int p1)] 1)) (fun s₂ o => ∃ v L, o = .returned v ∧ Q1 Z p1 h0 n0 v s₂.heap L ∧ FrameEnd s o s₂ L ({ frames := 0, cells := 0, slots := 0, locals := 0 } : Room).cells ({ frames := 0, cells := 0, slots := 0, locals := 0 } : Room).slots)
  refine own_go (fun t k => castTop (ef_1 m p1) k) ?_
  show own_G p e below (s₁.setTop (mkF m 0 #[.val (.int p1)] [])) _
  refine own_go (fun _ k => XS.iloadN X0.here hx rfl (hb hby d1_0) rfl k) ?_
  show own_G p e below (s₁.setTop (mkF m 1 #[.val (.int p1)] [(.int p1)])) _
  refine own_go (fun _ k => XS.sipush X0.here hx rfl (hb hby d1_1) k) ?_
  show own_G p e below (s₁.setTop (mkF m 4 #[.val (.int p1)] [(.int (256 : Int32)), (.int p1)])) _
  refine own_go (fun _ k => XS.iand X0.here hx rfl (hb hby d1_4) rfl k) ?_
  show own_G p e below (s₁.setTop (mkF m 5 #[.val (.int p1)] [(.int (p1 &&& (256 : Int32)))])) _
  by_cases hc5_1 : (p1 &&& (256 : Int32)) = (0 : Int32)
  · refine own_go (fun _ k => XS.ifYes X0.here hx rfl (pc0 := 5) (pc' := 12) rfl (hb hby d1_5) rfl ((if0 _ _).trans (teq hc5_1).1) (by decide) (by decide) k) ?_
    show own_G p e below (s₁.setTop (mkF m 12 #[.val (.int p1)] [])) _
    refine own_go (fun _ k => XS.iloadN X0.here hx rfl (hb hby d1_12) rfl k) ?_
    show own_G p e below (s₁.setTop (mkF m 13 #[.val (.int p1)] [(.int p1)])) _
    refine own_go (fun _ k => XS.i2b X0.here hx rfl (hb hby d1_13) rfl k) ?_
    show own_G p e below (s₁.setTop (mkF m 14 #[.val (.int p1)] [(.int (p1.toInt8.toInt32))])) _
    refine own_ret X0 hlk (v := some (.int (p1.toInt8.toInt32))) (fun h => by rw [hret] at h; cases h) (Q1 Z p1 h0 n0) (own_retI X0 hx (t := .byte) hret (congrArg Value.int (own_bb _)) (Or.inl ⟨rfl, by simp, _, rfl⟩) (hb hby d1_14)) (by decide) (by decide) ?_
    show Q1 Z p1 h0 n0 _ s₁.heap _
    rw [e0]
    exact ⟨_, rfl, N0, rfl, own_bb _⟩
  · refine own_go (fun _ k => XS.ifNo X0.here hx rfl (hb hby d1_5) rfl ((if0 _ _).trans (feq hc5_1).1) k) ?_
    show own_G p e below (s₁.setTop (mkF m 8 #[.val (.int p1)] [])) _
    refine own_go (fun _ k => XS.iconst X0.here hx rfl (hb hby d1_8) k) ?_
    show own_G p e below (s₁.setTop (mkF m 9 #[.val (.int p1)] [(.int (-1 : Int32))])) _
    refine own_go (fun _ k => XS.goto X0.here hx rfl (pc0 := 9) (pc' := 14) rfl (hb hby d1_9) (by decide) (by decide) k) ?_
    show own_G p e below (s₁.setTop (mkF m 14 #[.val (.int p1)] [(.int (-1 : Int32))])) _
    refine own_ret X0 hlk (v := some (.int (-1 : Int32))) (fun h => by rw [hret] at h; cases h) (Q1 Z p1 h0 n0) (own_retI X0 hx (t := .byte) hret rfl (Or.inl ⟨rfl, by simp, _, rfl⟩) (hb hby d1_14)) (by decide) (by decide) ?_
    show Q1 Z p1 h0 n0 _ s₁.heap _
    rw [e0]
    exact ⟨_, rfl, N0, rfl, by decide⟩
theorem ef_4 (m : MethodId) (p1 : Int32) (p2 : Int32) : entryFrame m #[(.int p1), (.int p2)] 2 = mkF m 0 #[.val (.int p1), .val (.int p2)] [] := by first | (simp [entryFrame, mkF, argsToLocals, Value.category]; done) | rfl
def Q4 (Z : State) (p1 : Int32) (p2 : Int32) (h0 : Heap) (n0 : Nat) (v : Option Value) (h : Heap) (L : List Loc) : Prop := v = some (.int (own_mini p1 p2)) ∧ Fr n0 L ∧ h = h0
set_option maxRecDepth 65536 in
set_option maxHeartbeats 40000000 in
theorem rm4 (l : Launch) (Z : State) (a0 : Array Value) (hw : ∀ d ∈ tables_1, d.before a0 Z = true) (ws : List Jvm.Cond) (p1 : Int32) (p2 : Int32) (h0 : Heap) (n0 : Nat) (Z0 : n0 ≤ h0.size)  :
    MetFree l (⟨"java/lang/Math", "min", "(II)I"⟩ : MethodName) (head1 (Jvm.Cond.code (⟨"java/lang/Math", "min", "(II)I"⟩ : MethodName) jdk_29_method_69_code 2 (some .int) :: ws) ({ frames := 0, cells := 0, slots := 0, locals := 0 } : Room)) (fun a U => a = #[(.int p1), (.int p2)] ∧ Z.Warmed39 U.vm ∧ U.heap = h0) (fun _ _ _ _ _ => True) (fun _ U o U' => ∃ v L, o = .returned v ∧ Q4 Z p1 p2 h0 n0 v U'.heap L ∧ FrameEnd U o U' L ({ frames := 0, cells := 0, slots := 0, locals := 0 } : Room).cells ({ frames := 0, cells := 0, slots := 0, locals := 0 } : Room).slots) := by
  refine MetFree.of_bodySF (Jvm.Free.JP.mathPlain rfl (by decide +kernel)) hisR ?_
  intro p e s m args below meth c s₁ Bd hml0 hP hK
  obtain ⟨rfl, hZ, hh⟩ := hP
  have hx := Bd.exec
  have hby := Bd.bytes
  have hml : c.maxLocals = 2 := hml0
  have hown : s.vm.findClass "java/lang/Math" = some m.cls := findClass_of_methodNamed Bd.named
  have hnm := (name_of_methodNamed Bd.named Bd.method).1
  have hlk := Bd.notSynchronized
  have hret := Bd.returns
  have X0 : Stand p l e ({ frames := 0, cells := 0, slots := 0, locals := 0 } : Room) s m #[(.int p1), (.int p2)] below meth c s₁ [] 0 0 := Stand.of_body Bd
  have e0 : s₁.heap = h0 := by rw [← hh, Bd.state]; rfl
  have N0 := Fr.nil n0
  show own_G p e below (s₁.setTop (entryFrame m #[(.int p1), (.int p2)] 2)) (fun s₂ o => ∃ v L, o = .returned v ∧ Q4 Z p1 p2 h0 n0 v s₂.heap L ∧ FrameEnd s o s₂ L ({ frames := 0, cells := 0, slots := 0, locals := 0 } : Room).cells ({ frames := 0, cells := 0, slots := 0, locals := 0 } : Room).slots)
  refine own_go (fun t k => castTop (ef_4 m p1 p2) k) ?_
  show own_G p e below (s₁.setTop (mkF m 0 #[.val (.int p1), .val (.int p2)] [])) _
  refine own_go (fun _ k => XS.iloadN X0.here hx rfl (hb hby d4_0) rfl k) ?_
  show own_G p e below (s₁.setTop (mkF m 1 #[.val (.int p1), .val (.int p2)] [(.int p1)])) _
  refine own_go (fun _ k => XS.iloadN X0.here hx rfl (hb hby d4_1) rfl k) ?_
  show own_G p e below (s₁.setTop (mkF m 2 #[.val (.int p1), .val (.int p2)] [(.int p2), (.int p1)])) _
  by_cases hc2_2 : p2 < p1
  · refine own_go (fun _ k => XS.icmpYes X0.here hx rfl (pc0 := 2) (pc' := 9) rfl (hb hby d4_2) rfl (tlt hc2_2).2.2.1 (by decide) (by decide) k) ?_
    show own_G p e below (s₁.setTop (mkF m 9 #[.val (.int p1), .val (.int p2)] [])) _
    refine own_go (fun _ k => XS.iloadN X0.here hx rfl (hb hby d4_9) rfl k) ?_
    show own_G p e below (s₁.setTop (mkF m 10 #[.val (.int p1), .val (.int p2)] [(.int p2)])) _
    refine own_ret X0 hlk (v := some (.int p2)) (fun h => by rw [hret] at h; cases h) (Q4 Z p1 p2 h0 n0) (own_retI X0 hx (t := .int) hret rfl (Or.inl ⟨rfl, by simp, _, rfl⟩) (hb hby d4_10)) (by decide) (by decide) ?_
    show Q4 Z p1 p2 h0 n0 _ s₁.heap _
    rw [e0]
    exact ⟨by simp [own_mini, hc2_2], N0, rfl⟩
  · refine own_go (fun _ k => XS.icmpNo X0.here hx rfl (hb hby d4_2) rfl (flt hc2_2).2.2.1 k) ?_
    show own_G p e below (s₁.setTop (mkF m 5 #[.val (.int p1), .val (.int p2)] [])) _
    refine own_go (fun _ k => XS.iloadN X0.here hx rfl (hb hby d4_5) rfl k) ?_
    show own_G p e below (s₁.setTop (mkF m 6 #[.val (.int p1), .val (.int p2)] [(.int p1)])) _
    refine own_go (fun _ k => XS.goto X0.here hx rfl (pc0 := 6) (pc' := 10) rfl (hb hby d4_6) (by decide) (by decide) k) ?_
    show own_G p e below (s₁.setTop (mkF m 10 #[.val (.int p1), .val (.int p2)] [(.int p1)])) _
    refine own_ret X0 hlk (v := some (.int p1)) (fun h => by rw [hret] at h; cases h) (Q4 Z p1 p2 h0 n0) (own_retI X0 hx (t := .int) hret rfl (Or.inl ⟨rfl, by simp, _, rfl⟩) (hb hby d4_10)) (by decide) (by decide) ?_
    show Q4 Z p1 p2 h0 n0 _ s₁.heap _
    rw [e0]
    exact ⟨by simp [own_mini, hc2_2], N0, rfl⟩
theorem ef_3 (m : MethodId) (a1 : Addr) (p2 : Int32) : entryFrame m #[(.ref a1), (.int p2)] 3 = mkF m 0 #[.val (.ref a1), .val (.int p2), .unset] [] := by first | (simp [entryFrame, mkF, argsToLocals, Value.category]; done) | rfl
def Q3 (Z : State) (a1 : Addr) (p2 : Int32) (k1 : ClassId) (z : Int32) (vs : List Value) (cap : Nat) (h0 : Heap) (n0 : Nat) (v : Option Value) (h : Heap) (L : List Loc) : Prop := ∃ (b : Addr) (k : ClassId), v = some (.ref b) ∧ Fr n0 L ∧ Keep h0 h [] ∧ h0.size ≤ b ∧ Exa Z h b "[B" ∧ Arv Z h b k .byte p2 (vs.take p2.toNatClampNeg) (.int (0 : Int32))
set_option maxRecDepth 65536 in
set_option maxHeartbeats 40000000 in
theorem rm3 (l : Launch) (Z : State) (a0 : Array Value) (hw : ∀ d ∈ tables_1, d.before a0 Z = true) (ws : List Jvm.Cond) (a1 : Addr) (p2 : Int32) (k1 : ClassId) (z : Int32) (vs : List Value) (cap : Nat) (h0 : Heap) (n0 : Nat) (Z0 : n0 ≤ h0.size) (V_a1 : Arv Z h0 a1 k1 .byte z vs (.int (0 : Int32))) (E_a1 : Exa Z h0 a1 "[B") (hp2 : ¬ p2 < (0 : Int32)) (hcap : p2.toNatClampNeg ≤ cap) (hcap8 : cap * 8 ≤ 536870912) (hvl : vs.length ≤ z.toNatClampNeg) :
    MetFree l (⟨"java/util/Arrays", "copyOf", "([BI)[B"⟩ : MethodName) (head1 (Jvm.Cond.code (⟨"java/util/Arrays", "copyOf", "([BI)[B"⟩ : MethodName) jdk_65_method_121_code 3 (some (.array .byte)) :: ws) ({ frames := 1, cells := 1, slots := cap, locals := 18 } : Room)) (fun a U => a = #[(.ref a1), (.int p2)] ∧ Z.Warmed39 U.vm ∧ U.heap = h0) (fun _ _ _ _ _ => True) (fun _ U o U' => ∃ v L, o = .returned v ∧ Q3 Z a1 p2 k1 z vs cap h0 n0 v U'.heap L ∧ FrameEnd U o U' L ({ frames := 1, cells := 1, slots := cap, locals := 18 } : Room).cells ({ frames := 1, cells := 1, slots := cap, locals := 18 } : Room).slots) := by
  refine MetFree.of_bodySF (plainFor_of_name pn_3) hisR ?_
  intro p e s m args below meth c s₁ Bd hml0 hP hK
  obtain ⟨rfl, hZ, hh⟩ := hP
  have hx := Bd.exec
  have hby := Bd.bytes
  have hml : c.maxLocals = 3 := hml0
  have hown : s.vm.findClass "java/util/Arrays" = some m.cls := findClass_of_methodNamed Bd.named
  have hnm := (name_of_methodNamed Bd.named Bd.method).1
  have hlk := Bd.notSynchronized
  have hret := Bd.returns
  have X0 : Stand p l e ({ frames := 1, cells := 1, slots := cap, locals := 18 } : Room) s m #[(.ref a1), (.int p2)] below meth c s₁ [] 0 0 := Stand.of_body Bd
  have e0 : s₁.heap = h0 := by rw [← hh, Bd.state]; rfl
  have N0 := Fr.nil n0
  show own_G p e below (s₁.setTop (entryFrame m #[(.ref a1), (.int p2)] 3)) (fun s₂ o => ∃ v L, o = .returned v ∧ Q3 Z a1 p2 k1 z vs cap h0 n0 v s₂.heap L ∧ FrameEnd s o s₂ L ({ frames := 1, cells := 1, slots := cap, locals := 18 } : Room).cells ({ frames := 1, cells := 1, slots := cap, locals := 18 } : Room).slots)
  refine own_go (fun t k => castTop (ef_3 m a1 p2) k) ?_
  have hz0 : ¬ z < 0 := by obtain ⟨_, _, _, _, q, _⟩ := V_a1; exact q
  show own_G p e below (s₁.setTop (mkF m 0 #[.val (.ref a1), .val (.int p2), .unset] [])) _
  refine own_go (fun _ k => XS.iloadN X0.here hx rfl (hb hby d3_0) rfl k) ?_
  show own_G p e below (s₁.setTop (mkF m 1 #[.val (.ref a1), .val (.int p2), .unset] [(.int p2)])) _
  refine own_go (fun _ k => XS.aloadN X0.here hx rfl (hb hby d3_1) rfl rfl k) ?_
  show own_G p e below (s₁.setTop (mkF m 2 #[.val (.ref a1), .val (.int p2), .unset] [(.ref a1), (.int p2)])) _
  obtain ⟨cl3, Ar3, q3, S3, M3, B3, G3⟩ := id V_a1
  refine own_go (X0.arraylength hx (by rw [e0]; exact Ar3.1) (State.isArrayOf_alike hZ.alike Ar3.2.1) (g := (mkF m 2 #[.val (.ref a1), .val (.int p2), .unset] [(.ref a1), (.int p2)])) rfl rfl (hb hby d3_2)) ?_
  rw [len_of S3 M3]
  show own_G p e below (s₁.setTop (mkF m 3 #[.val (.ref a1), .val (.int p2), .unset] [(.int z), (.int p2)])) _
  by_cases hc3_4 : p2 = z
  · refine own_go (fun _ k => XS.icmpNo X0.here hx rfl (hb hby d3_3) rfl (teq hc3_4).2 k) ?_
    have hceq : p2 = z := hc3_4
    show own_G p e below (s₁.setTop (mkF m 6 #[.val (.ref a1), .val (.int p2), .unset] [])) _
    refine own_go (fun _ k => XS.aloadN X0.here hx rfl (hb hby d3_6) rfl rfl k) ?_
    show own_G p e below (s₁.setTop (mkF m 7 #[.val (.ref a1), .val (.int p2), .unset] [(.ref a1)])) _
    obtain ⟨T5, h5, X5, e5, E5, A5, Y5, st5⟩ := cloneH X0 hx hZ hown (hw _ (List.mem_of_getElem? (i := 13) rfl)) (hw _ (List.mem_of_getElem? (i := 14) rfl)) (hw _ (List.mem_of_getElem? (i := 18) rfl)) (hw _ (List.mem_of_getElem? (i := 16) rfl)) (hw _ (List.mem_of_getElem? (i := 17) rfl)) (hw _ (List.mem_of_getElem? (i := 19) rfl)) e0 V_a1.arh E_a1 (g := (mkF m 7 #[.val (.ref a1), .val (.int p2), .unset] [(.ref a1)])) rfl (by rw [hml]; rfl) rfl (hb hby d3_7) (Nat.le_of_ble_eq_true rfl) (W := 0) (cap := cap) (by show 2 * 0 + _ ≤ _; exact Nat.le_of_eq rfl) (Nat.le_of_ble_eq_true rfl) (by rw [← hceq]; exact hcap) (Nat.le_of_ble_eq_true rfl) (by simp)
    obtain ⟨b5, g5⟩ : ∃ z, z = h0.size := ⟨_, rfl⟩
    rw [← g5] at A5 Y5 st5
    refine own_go st5 ?_
    have V5 : Arv Z h5 b5 k1 .byte z vs (.int (0 : Int32)) := A5
    have ne6 : a1 ≠ b5 := Nat.ne_of_lt (Nat.lt_of_lt_of_le V_a1.lt (Nat.le_of_eq g5.symm))
    have ge7 : n0 ≤ b5 := Nat.le_trans Z0 (Nat.le_of_eq g5.symm)
    have sz8 : h0.size ≤ b5 := Nat.le_trans (Keep.refl h0 []).1 (Nat.le_of_eq g5.symm)
    have f9 := V_a1.ext E5
    have f10 := E_a1.ext E5
    have zs11 : n0 ≤ h5.size := Nat.le_trans Z0 E5.1
    have kp12 : Keep h0 h5 [] := (Keep.refl h0 []).ext E5
    show own_G p e below (T5.setTop (mkF m 10 #[.val (.ref a1), .val (.int p2), .unset] [(.ref b5)])) _
    obtain ⟨T13, X13, e13, st13⟩ := castY X5 hx hZ hown (hw _ (List.mem_of_getElem? (i := 20) rfl)) e5 (Ins.self Y5) (g := (mkF m 10 #[.val (.ref a1), .val (.int p2), .unset] [(.ref b5)])) rfl rfl (hb hby d3_10)
    refine own_go st13 ?_
    show own_G p e below (T13.setTop (mkF m 13 #[.val (.ref a1), .val (.int p2), .unset] [(.ref b5)])) _
    refine own_ret X13 hlk (v := some (.ref b5)) (fun h => by rw [hret] at h; cases h) (Q3 Z a1 p2 k1 z vs cap h0 n0) (own_retI X13 hx (t := (.array .byte)) hret rfl (Or.inr (Or.inr (Or.inr (Or.inr ⟨rfl, rfl, rfl⟩)))) (hb hby d3_13)) (Nat.le_of_ble_eq_true rfl) (by simp) ?_
    show Q3 Z a1 p2 k1 z vs cap h0 n0 _ T13.heap _
    rw [e13]
    exact ⟨b5, k1, rfl, N0, kp12, sz8, Y5, own_cp1 hceq V5⟩
  · refine own_go (fun _ k => XS.icmpYes X0.here hx rfl (pc0 := 3) (pc' := 14) rfl (hb hby d3_3) rfl (feq hc3_4).2 (by decide) (by decide) k) ?_
    show own_G p e below (s₁.setTop (mkF m 14 #[.val (.ref a1), .val (.int p2), .unset] [])) _
    refine own_go (fun _ k => XS.iloadN X0.here hx rfl (hb hby d3_14) rfl k) ?_
    show own_G p e below (s₁.setTop (mkF m 15 #[.val (.ref a1), .val (.int p2), .unset] [(.int p2)])) _
    obtain ⟨T14, h14, k14, X14, e14, E14, A14, Y14, st14⟩ := newPE X0 hx hZ (hw _ (List.mem_of_getElem? (i := 4) rfl)) e0 (g := (mkF m 15 #[.val (.ref a1), .val (.int p2), .unset] [(.int p2)])) rfl (hb hby d3_15) rfl hp2 (cap := cap) hcap hcap8 (Nat.le_of_ble_eq_true rfl) (by simp) (ad := "[B") (by decide)
    obtain ⟨b14, g14⟩ : ∃ z, z = h0.size := ⟨_, rfl⟩
    rw [← g14] at A14 Y14 st14
    refine own_go st14 ?_
    have ne15 : a1 ≠ b14 := Nat.ne_of_lt (Nat.lt_of_lt_of_le V_a1.lt (Nat.le_of_eq g14.symm))
    have ge16 : n0 ≤ b14 := Nat.le_trans Z0 (Nat.le_of_eq g14.symm)
    have sz17 : h0.size ≤ b14 := Nat.le_trans (Keep.refl h0 []).1 (Nat.le_of_eq g14.symm)
    have f18 := V_a1.ext E14
    have f19 := E_a1.ext E14
    have zs20 : n0 ≤ h14.size := Nat.le_trans Z0 E14.1
    have kp21 : Keep h0 h14 [] := (Keep.refl h0 []).ext E14
    have V14 : Arv Z h14 b14 k14 .byte p2 [] (.int (0 : Int32)) := Arv.new A14 hp2
    show own_G p e below (T14.setTop (mkF m 17 #[.val (.ref a1), .val (.int p2), .unset] [(.ref b14)])) _
    refine own_go (fun _ k => XS.astoreN X14.here hx rfl (hb hby d3_17) rfl rfl (l' := #[.val (.ref a1), .val (.int p2), .val (.ref b14)]) rfl k) ?_
    show own_G p e below (T14.setTop (mkF m 18 #[.val (.ref a1), .val (.int p2), .val (.ref b14)] [])) _
    refine own_go (fun _ k => XS.aloadN X14.here hx rfl (hb hby d3_18) rfl rfl k) ?_
    show own_G p e below (T14.setTop (mkF m 19 #[.val (.ref a1), .val (.int p2), .val (.ref b14)] [(.ref a1)])) _
    refine own_go (fun _ k => XS.iconst X14.here hx rfl (hb hby d3_19) k) ?_
    show own_G p e below (T14.setTop (mkF m 20 #[.val (.ref a1), .val (.int p2), .val (.ref b14)] [(.int (0 : Int32)), (.ref a1)])) _
    refine own_go (fun _ k => XS.aloadN X14.here hx rfl (hb hby d3_20) rfl rfl k) ?_
    show own_G p e below (T14.setTop (mkF m 21 #[.val (.ref a1), .val (.int p2), .val (.ref b14)] [(.ref b14), (.int (0 : Int32)), (.ref a1)])) _
    refine own_go (fun _ k => XS.iconst X14.here hx rfl (hb hby d3_21) k) ?_
    show own_G p e below (T14.setTop (mkF m 22 #[.val (.ref a1), .val (.int p2), .val (.ref b14)] [(.int (0 : Int32)), (.ref b14), (.int (0 : Int32)), (.ref a1)])) _
    refine own_go (fun _ k => XS.aloadN X14.here hx rfl (hb hby d3_22) rfl rfl k) ?_
    show own_G p e below (T14.setTop (mkF m 23 #[.val (.ref a1), .val (.int p2), .val (.ref b14)] [(.ref a1), (.int (0 : Int32)), (.ref b14), (.int (0 : Int32)), (.ref a1)])) _
    obtain ⟨cl22, Ar22, q22, S22, M22, B22, G22⟩ := id f18
    refine own_go (X14.arraylength hx (by rw [e14]; exact Ar22.1) (State.isArrayOf_alike hZ.alike Ar22.2.1) (g := (mkF m 23 #[.val (.ref a1), .val (.int p2), .val (.ref b14)] [(.ref a1), (.int (0 : Int32)), (.ref b14), (.int (0 : Int32)), (.ref a1)])) rfl rfl (hb hby d3_23)) ?_
    rw [len_of S22 M22]
    show own_G p e below (T14.setTop (mkF m 24 #[.val (.ref a1), .val (.int p2), .val (.ref b14)] [(.int z), (.int (0 : Int32)), (.ref b14), (.int (0 : Int32)), (.ref a1)])) _
    refine own_go (fun _ k => XS.iloadN X14.here hx rfl (hb hby d3_24) rfl k) ?_
    show own_G p e below (T14.setTop (mkF m 25 #[.val (.ref a1), .val (.int p2), .val (.ref b14)] [(.int p2), (.int z), (.int (0 : Int32)), (.ref b14), (.int (0 : Int32)), (.ref a1)])) _
    obtain ⟨_, _, ⟨T23, L23, k23, n23⟩, -, X23, ⟨Lc23, hQ23, l23, y23, z23⟩, st23⟩ := Jvm.LawKit.callS X14 hx (y := (⟨"java/lang/Math", "min", "(II)I"⟩ : MethodName)) hown (mvT hZ (hw _ (List.mem_of_getElem? (i := 22) rfl))) (mvT hZ (hw _ (List.mem_of_getElem? (i := 23) rfl))) (mvT hZ (hw _ (List.mem_of_getElem? (i := 24) rfl))) (mvT hZ (hw _ (List.mem_of_getElem? (i := 25) rfl))) (by decide) (backOf (W := 4) (rm4 l Z a0 hw [] z p2 h14 n0 zs20 ) hZ (hw _ (List.mem_of_getElem? (i := 25) rfl)) (hw _ (List.mem_of_getElem? (i := 24) rfl)) (Nat.le_of_ble_eq_true rfl) (Nat.le_of_ble_eq_true rfl)) (g := (mkF m 25 #[.val (.ref a1), .val (.int p2), .val (.ref b14)] [(.int p2), (.int z), (.int (0 : Int32)), (.ref b14), (.int (0 : Int32)), (.ref a1)])) rfl (by rw [hml]; rfl) (argsL := [(.int z), (.int p2)]) (rest := [(.int (0 : Int32)), (.ref b14), (.int (0 : Int32)), (.ref a1)]) (lenOf pd_0 rfl) rfl (by show 2 * 0 + _ ≤ _; exact Nat.le_of_eq rfl) (hb hby d3_25) (fun _ _ => ⟨rfl, e14, (Nat.le_of_ble_eq_true rfl : 0 + 1 + 0 ≤ _), (by simp : 0 + cap + 0 ≤ _)⟩)
    dsimp only [Pt.U, Pt.locs, Pt.cells, Pt.slots] at X23 l23 y23 z23 st23 hQ23
    subst l23 y23 z23
    obtain ⟨rfl, Nq23, hh23⟩ := hQ23
    have N23 := Fr.app N0 Nq23
    refine own_go st23 ?_
    have e23 : T23.heap = h14 := hh23
    show own_G p e below (T23.setTop (mkF m 28 #[.val (.ref a1), .val (.int p2), .val (.ref b14)] [(.int (own_mini z p2)), (.int (0 : Int32)), (.ref b14), (.int (0 : Int32)), (.ref a1)])) _
    have hmn := own_mini_le hz0 hp2
    obtain ⟨T24, h24, L24, X24, e24, N24, K24, V24, st24⟩ := cpA X23 hx hZ hown (hw _ (List.mem_of_getElem? (i := 26) rfl)) (hw _ (List.mem_of_getElem? (i := 29) rfl)) (hw _ (List.mem_of_getElem? (i := 27) rfl)) (hw _ (List.mem_of_getElem? (i := 28) rfl)) e23 f18 (V14.pad (pad_rep [] (.int (0 : Int32)) p2.toNatClampNeg)) (Or.inl ⟨rfl, rfl⟩) (by decide) (by decide) (own_mini_nn hz0 hp2) (by simpa using hmn.1) (by simpa using hmn.2.1) rfl (by simpa using hmn.2.1) N23 ge16 (g := (mkF m 28 #[.val (.ref a1), .val (.int p2), .val (.ref b14)] [(.int (own_mini z p2)), (.int (0 : Int32)), (.ref b14), (.int (0 : Int32)), (.ref a1)])) rfl (by rw [hml]; rfl) rfl (hb hby d3_28) (Nat.le_of_ble_eq_true rfl) (W := 0) (by show 2 * 0 + _ ≤ _; exact Nat.le_of_eq rfl) (Nat.le_of_ble_eq_true rfl)
    refine own_go st24 ?_
    have f25 := f18.keep K24 (ninS ne15 nin0)
    have f26 := f19.keep K24
    have f27 := Y14.keep K24
    have zs28 : n0 ≤ h24.size := Nat.le_trans zs20 K24.1
    have kp29 : Keep h0 h24 [] := kp21.trans K24 (allS (Or.inr sz17) all0)
    show own_G p e below (T24.setTop (mkF m 31 #[.val (.ref a1), .val (.int p2), .val (.ref b14)] [])) _
    refine own_go (fun _ k => XS.aloadN X24.here hx rfl (hb hby d3_31) rfl rfl k) ?_
    show own_G p e below (T24.setTop (mkF m 32 #[.val (.ref a1), .val (.int p2), .val (.ref b14)] [(.ref b14)])) _
    refine own_ret X24 hlk (v := some (.ref b14)) (fun h => by rw [hret] at h; cases h) (Q3 Z a1 p2 k1 z vs cap h0 n0) (own_retI X24 hx (t := (.array .byte)) hret rfl (Or.inr (Or.inr (Or.inr (Or.inr ⟨rfl, rfl, rfl⟩)))) (hb hby d3_32)) (Nat.le_of_ble_eq_true rfl) (by simp) ?_
    show Q3 Z a1 p2 k1 z vs cap h0 n0 _ T24.heap _
    rw [e24]
    exact ⟨b14, k14, rfl, N24, kp29, sz17, f27, own_cp2 hz0 hp2 hvl V24⟩
theorem ef_2 (m : MethodId) (a1 : Addr) : entryFrame m #[(.ref a1)] 3 = mkF m 0 #[.val (.ref a1), .unset, .unset] [] := by first | (simp [entryFrame, mkF, argsToLocals, Value.category]; done) | rfl
def Q2_0 (Z : State) (a1 : Addr) (k1 : ClassId) (h0 : Heap) (n0 : Nat) (v : Option Value) (h : Heap) (L : List Loc) : Prop := Fr n0 L ∧ Keep h0 h [] ∧ ((v = some .null))
set_option maxRecDepth 65536 in
set_option maxHeartbeats 40000000 in
theorem rm2_0 (l : Launch) (Z : State) (a0 : Array Value) (hw : ∀ d ∈ tables_1, d.before a0 Z = true) (ws : List Jvm.Cond) (a1 : Addr) (k1 : ClassId) (h0 : Heap) (n0 : Nat) (Z0 : n0 ≤ h0.size) (V_a1 : Arv Z h0 a1 k1 .byte (0 : Int32) [] (.int (0 : Int32))) (E_a1 : Exa Z h0 a1 "[B") :
    MetFree l (⟨"com/example/orbweave/orbweave/store/KeyOrder", "prefixEnd", "([B)[B"⟩ : MethodName) (head1 (Jvm.Cond.code (⟨"com/example/orbweave/orbweave/store/KeyOrder", "prefixEnd", "([B)[B"⟩ : MethodName) prog_38_method_1_code 3 (some (.array .byte)) :: ws) ({ frames := 0, cells := 1, slots := 0, locals := 0 } : Room)) (fun a U => a = #[(.ref a1)] ∧ Z.Warmed39 U.vm ∧ U.heap = h0) (fun _ _ _ _ _ => True) (fun _ U o U' => ∃ v L, o = .returned v ∧ Q2_0 Z a1 k1 h0 n0 v U'.heap L ∧ FrameEnd U o U' L ({ frames := 0, cells := 1, slots := 0, locals := 0 } : Room).cells ({ frames := 0, cells := 1, slots := 0, locals := 0 } : Room).slots) := by
  refine MetFree.of_bodySF (plainFor_of_name pn_2) hisR ?_
  intro p e s m args below meth c s₁ Bd hml0 hP hK
  obtain ⟨rfl, hZ, hh⟩ := hP
  have hx := Bd.exec
  have hby := Bd.bytes
  have hml : c.maxLocals = 3 := hml0
  have hown : s.vm.findClass "com/example/orbweave/orbweave/store/KeyOrder" = some m.cls := findClass_of_methodNamed Bd.named
  have hnm := (name_of_methodNamed Bd.named Bd.method).1
  have hlk := Bd.notSynchronized
  have hret := Bd.returns
  have X0 : Stand p l e ({ frames := 0, cells := 1, slots := 0, locals := 0 } : Room) s m #[(.ref a1)] below meth c s₁ [] 0 0 := Stand.of_body Bd
  have e0 : s₁.heap = h0 := by rw [← hh, Bd.state]; rfl
  have N0 := Fr.nil n0
  show own_G p e below (s₁.setTop (entryFrame m #[(.ref a1)] 3)) (fun s₂ o => ∃ v L, o = .returned v ∧ Q2_0 Z a1 k1 h0 n0 v s₂.heap L ∧ FrameEnd s o s₂ L ({ frames := 0, cells := 1, slots := 0, locals := 0 } : Room).cells ({ frames := 0, cells := 1, slots := 0, locals := 0 } : Room).slots)
  refine own_go (fun t k => castTop (ef_2 m a1) k) ?_
  show own_G p e below (s₁.setTop (mkF m 0 #[.val (.ref a1), .unset, .unset] [])) _
  refine own_go (fun _ k => XS.aloadN X0.here hx rfl (hb hby d2_0) rfl rfl k) ?_
  show own_G p e below (s₁.setTop (mkF m 1 #[.val (.ref a1), .unset, .unset] [(.ref a1)])) _
  obtain ⟨cl30, Ar30, q30, S30, M30, B30, G30⟩ := id V_a1
  refine own_go (X0.arraylength hx (by rw [e0]; exact Ar30.1) (State.isArrayOf_alike hZ.alike Ar30.2.1) (g := (mkF m 1 #[.val (.ref a1), .unset, .unset] [(.ref a1)])) rfl rfl (hb hby d2_1)) ?_
  rw [len_of S30 M30]
  show own_G p e below (s₁.setTop (mkF m 2 #[.val (.ref a1), .unset, .unset] [(.int (0 : Int32))])) _
  refine own_go (fun _ k => XS.iconst X0.here hx rfl (hb hby d2_2) k) ?_
  show own_G p e below (s₁.setTop (mkF m 3 #[.val (.ref a1), .unset, .unset] [(.int (1 : Int32)), (.int (0 : Int32))])) _
  refine own_go (fun _ k => XS.isub X0.here hx rfl (hb hby d2_3) rfl k) ?_
  show own_G p e below (s₁.setTop (mkF m 4 #[.val (.ref a1), .unset, .unset] [(.int (-1 : Int32))])) _
  refine own_go (fun _ k => XS.istoreN X0.here hx rfl (hb hby d2_4) rfl (l' := #[.val (.ref a1), .val (.int (-1 : Int32)), .unset]) rfl k) ?_
  show own_G p e below (s₁.setTop (mkF m 5 #[.val (.ref a1), .val (.int (-1 : Int32)), .unset] [])) _
  refine own_go (fun _ k => XS.iloadN X0.here hx rfl (hb hby d2_5) rfl k) ?_
  show own_G p e below (s₁.setTop (mkF m 6 #[.val (.ref a1), .val (.int (-1 : Int32)), .unset] [(.int (-1 : Int32))])) _
  refine own_go (fun _ k => XS.ifYes X0.here hx rfl (pc0 := 6) (pc' := 40) rfl (hb hby d2_6) rfl ((if0 _ _).trans (tlt (by decide : (-1 : Int32) < (0 : Int32))).1) (by decide) (by decide) k) ?_
  show own_G p e below (s₁.setTop (mkF m 40 #[.val (.ref a1), .val (.int (-1 : Int32)), .unset] [])) _
  refine own_go (fun _ k => XS.aconstNull X0.here hx rfl (hb hby d2_40) k) ?_
  show own_G p e below (s₁.setTop (mkF m 41 #[.val (.ref a1), .val (.int (-1 : Int32)), .unset] [.null])) _
  refine own_ret X0 hlk (v := some .null) (fun h => by rw [hret] at h; cases h) (Q2_0 Z a1 k1 h0 n0) (own_retI X0 hx (t := (.array .byte)) hret rfl (Or.inr (Or.inr (Or.inr (Or.inr ⟨rfl, rfl, rfl⟩)))) (hb hby d2_41)) (by decide) (by decide) ?_
  show Q2_0 Z a1 k1 h0 n0 _ s₁.heap _
  rw [e0]
  exact ⟨N0, (Keep.refl h0 []), rfl⟩
def Q2_1 (Z : State) (a1 : Addr) (k1 : ClassId) (b0 : Int32) (h0 : Heap) (n0 : Nat) (v : Option Value) (h : Heap) (L : List Loc) : Prop := Fr n0 L ∧ Keep h0 h [] ∧ (((¬ b0 = (-1 : Int32)) ∧ ∃ (r : Addr) (k : ClassId), v = some (.ref r) ∧ Arv Z h r k .byte (1 : Int32) [(.int ((b0 + (1 : Int32)).toInt8.toInt32))] (.int (0 : Int32))) ∨ (v = some .null ∧ b0 = (-1 : Int32)))
set_option maxRecDepth 65536 in
set_option maxHeartbeats 40000000 in
theorem rm2_1 (l : Launch) (Z : State) (a0 : Array Value) (hw : ∀ d ∈ tables_1, d.before a0 Z = true) (ws : List Jvm.Cond) (a1 : Addr) (k1 : ClassId) (b0 : Int32) (h0 : Heap) (n0 : Nat) (Z0 : n0 ≤ h0.size) (V_a1 : Arv Z h0 a1 k1 .byte (1 : Int32) [(.int b0)] (.int (0 : Int32))) (E_a1 : Exa Z h0 a1 "[B") :
    MetFree l (⟨"com/example/orbweave/orbweave/store/KeyOrder", "prefixEnd", "([B)[B"⟩ : MethodName) (head1 (Jvm.Cond.code (⟨"com/example/orbweave/orbweave/store/KeyOrder", "prefixEnd", "([B)[B"⟩ : MethodName) prog_38_method_1_code 3 (some (.array .byte)) :: ws) ({ frames := 2, cells := 1, slots := 1, locals := 32 } : Room)) (fun a U => a = #[(.ref a1)] ∧ Z.Warmed39 U.vm ∧ U.heap = h0) (fun _ _ _ _ _ => True) (fun _ U o U' => ∃ v L, o = .returned v ∧ Q2_1 Z a1 k1 b0 h0 n0 v U'.heap L ∧ FrameEnd U o U' L ({ frames := 2, cells := 1, slots := 1, locals := 32 } : Room).cells ({ frames := 2, cells := 1, slots := 1, locals := 32 } : Room).slots) := by
  refine MetFree.of_bodySF (plainFor_of_name pn_2) hisR ?_
  intro p e s m args below meth c s₁ Bd hml0 hP hK
  obtain ⟨rfl, hZ, hh⟩ := hP
  have hx := Bd.exec
  have hby := Bd.bytes
  have hml : c.maxLocals = 3 := hml0
  have hown : s.vm.findClass "com/example/orbweave/orbweave/store/KeyOrder" = some m.cls := findClass_of_methodNamed Bd.named
  have hnm := (name_of_methodNamed Bd.named Bd.method).1
  have hlk := Bd.notSynchronized
  have hret := Bd.returns
  have X0 : Stand p l e ({ frames := 2, cells := 1, slots := 1, locals := 32 } : Room) s m #[(.ref a1)] below meth c s₁ [] 0 0 := Stand.of_body Bd
  have e0 : s₁.heap = h0 := by rw [← hh, Bd.state]; rfl
  have N0 := Fr.nil n0
  show own_G p e below (s₁.setTop (entryFrame m #[(.ref a1)] 3)) (fun s₂ o => ∃ v L, o = .returned v ∧ Q2_1 Z a1 k1 b0 h0 n0 v s₂.heap L ∧ FrameEnd s o s₂ L ({ frames := 2, cells := 1, slots := 1, locals := 32 } : Room).cells ({ frames := 2, cells := 1, slots := 1, locals := 32 } : Room).slots)
  refine own_go (fun t k => castTop (ef_2 m a1) k) ?_
  show own_G p e below (s₁.setTop (mkF m 0 #[.val (.ref a1), .unset, .unset] [])) _
  refine own_go (fun _ k => XS.aloadN X0.here hx rfl (hb hby d2_0) rfl rfl k) ?_
  show own_G p e below (s₁.setTop (mkF m 1 #[.val (.ref a1), .unset, .unset] [(.ref a1)])) _
  obtain ⟨cl31, Ar31, q31, S31, M31, B31, G31⟩ := id V_a1
  refine own_go (X0.arraylength hx (by rw [e0]; exact Ar31.1) (State.isArrayOf_alike hZ.alike Ar31.2.1) (g := (mkF m 1 #[.val (.ref a1), .unset, .unset] [(.ref a1)])) rfl rfl (hb hby d2_1)) ?_
  rw [len_of S31 M31]
  show own_G p e below (s₁.setTop (mkF m 2 #[.val (.ref a1), .unset, .unset] [(.int (1 : Int32))])) _
  refine own_go (fun _ k => XS.iconst X0.here hx rfl (hb hby d2_2) k) ?_
  show own_G p e below (s₁.setTop (mkF m 3 #[.val (.ref a1), .unset, .unset] [(.int (1 : Int32)), (.int (1 : Int32))])) _
  refine own_go (fun _ k => XS.isub X0.here hx rfl (hb hby d2_3) rfl k) ?_
  show own_G p e below (s₁.setTop (mkF m 4 #[.val (.ref a1), .unset, .unset] [(.int (0 : Int32))])) _
  refine own_go (fun _ k => XS.istoreN X0.here hx rfl (hb hby d2_4) rfl (l' := #[.val (.ref a1), .val (.int (0 : Int32)), .unset]) rfl k) ?_
  show own_G p e below (s₁.setTop (mkF m 5 #[.val (.ref a1), .val (.int (0 : Int32)), .unset] [])) _
  refine own_go (fun _ k => XS.iloadN X0.here hx rfl (hb hby d2_5) rfl k) ?_
  show own_G p e below (s₁.setTop (mkF m 6 #[.val (.ref a1), .val (.int (0 : Int32)), .unset] [(.int (0 : Int32))])) _
  refine own_go (fun _ k => XS.ifNo X0.here hx rfl (hb hby d2_6) rfl ((if0 _ _).trans (flt (by decide : ¬ ((0 : Int32) < (0 : Int32)))).1) k) ?_
  show own_G p e below (s₁.setTop (mkF m 9 #[.val (.ref a1), .val (.int (0 : Int32)), .unset] [])) _
  refine own_go (fun _ k => XS.aloadN X0.here hx rfl (hb hby d2_9) rfl rfl k) ?_
  show own_G p e below (s₁.setTop (mkF m 10 #[.val (.ref a1), .val (.int (0 : Int32)), .unset] [(.ref a1)])) _
  refine own_go (fun _ k => XS.iloadN X0.here hx rfl (hb hby d2_10) rfl k) ?_
  show own_G p e below (s₁.setTop (mkF m 11 #[.val (.ref a1), .val (.int (0 : Int32)), .unset] [(.int (0 : Int32)), (.ref a1)])) _
  obtain ⟨cl32, Ar32, q32, S32, M32, B32, G32⟩ := id V_a1
  have hin32 : ¬ ((0 : Int32) < 0 ∨ cl32.slots.size ≤ ((0 : Int32)).toNatClampNeg) := inb_of S32 ⟨by decide, by decide⟩
  have hat32 : cl32.slots[((0 : Int32)).toNatClampNeg]? = some (.int b0) := B32.at hin32 rfl
  refine own_go (X0.baloadBytes hx (j := (0 : Int32)) (v := (.int b0)) (by rw [e0]; exact Ar32.1) (State.isArrayOf_alike hZ.alike Ar32.2.1) Ar32.2.2 hin32 hat32 (g := (mkF m 11 #[.val (.ref a1), .val (.int (0 : Int32)), .unset] [(.int (0 : Int32)), (.ref a1)])) rfl rfl (hb hby d2_11)) ?_
  show own_G p e below (s₁.setTop (mkF m 12 #[.val (.ref a1), .val (.int (0 : Int32)), .unset] [(.int b0)])) _
  refine own_go (fun _ k => XS.iconst X0.here hx rfl (hb hby d2_12) k) ?_
  show own_G p e below (s₁.setTop (mkF m 13 #[.val (.ref a1), .val (.int (0 : Int32)), .unset] [(.int (-1 : Int32)), (.int b0)])) _
  by_cases hc13_33 : b0 = (-1 : Int32)
  · refine own_go (fun _ k => XS.icmpYes X0.here hx rfl (pc0 := 13) (pc' := 34) rfl (hb hby d2_13) rfl (teq hc13_33).1 (by decide) (by decide) k) ?_
    show own_G p e below (s₁.setTop (mkF m 34 #[.val (.ref a1), .val (.int (0 : Int32)), .unset] [])) _
    refine own_go (fun _ k => XS.iinc X0.here hx rfl (hb hby d2_34) rfl (l' := #[.val (.ref a1), .val (.int (-1 : Int32)), .unset]) rfl k) ?_
    show own_G p e below (s₁.setTop (mkF m 37 #[.val (.ref a1), .val (.int (-1 : Int32)), .unset] [])) _
    refine own_go (fun _ k => XS.goto X0.here hx rfl (pc0 := 37) (pc' := 5) rfl (hb hby d2_37) (by decide) (by decide) k) ?_
    show own_G p e below (s₁.setTop (mkF m 5 #[.val (.ref a1), .val (.int (-1 : Int32)), .unset] [])) _
    refine own_go (fun _ k => XS.iloadN X0.here hx rfl (hb hby d2_5) rfl k) ?_
    show own_G p e below (s₁.setTop (mkF m 6 #[.val (.ref a1), .val (.int (-1 : Int32)), .unset] [(.int (-1 : Int32))])) _
    refine own_go (fun _ k => XS.ifYes X0.here hx rfl (pc0 := 6) (pc' := 40) rfl (hb hby d2_6) rfl ((if0 _ _).trans (tlt (by decide : (-1 : Int32) < (0 : Int32))).1) (by decide) (by decide) k) ?_
    show own_G p e below (s₁.setTop (mkF m 40 #[.val (.ref a1), .val (.int (-1 : Int32)), .unset] [])) _
    refine own_go (fun _ k => XS.aconstNull X0.here hx rfl (hb hby d2_40) k) ?_
    show own_G p e below (s₁.setTop (mkF m 41 #[.val (.ref a1), .val (.int (-1 : Int32)), .unset] [.null])) _
    refine own_ret X0 hlk (v := some .null) (fun h => by rw [hret] at h; cases h) (Q2_1 Z a1 k1 b0 h0 n0) (own_retI X0 hx (t := (.array .byte)) hret rfl (Or.inr (Or.inr (Or.inr (Or.inr ⟨rfl, rfl, rfl⟩)))) (hb hby d2_41)) (by decide) (by decide) ?_
    show Q2_1 Z a1 k1 b0 h0 n0 _ s₁.heap _
    rw [e0]
    exact ⟨N0, (Keep.refl h0 []), Or.inr (⟨rfl, hc13_33⟩)⟩
  · refine own_go (fun _ k => XS.icmpNo X0.here hx rfl (hb hby d2_13) rfl (feq hc13_33).1 k) ?_
    show own_G p e below (s₁.setTop (mkF m 16 #[.val (.ref a1), .val (.int (0 : Int32)), .unset] [])) _
    refine own_go (fun _ k => XS.aloadN X0.here hx rfl (hb hby d2_16) rfl rfl k) ?_
    show own_G p e below (s₁.setTop (mkF m 17 #[.val (.ref a1), .val (.int (0 : Int32)), .unset] [(.ref a1)])) _
    refine own_go (fun _ k => XS.iloadN X0.here hx rfl (hb hby d2_17) rfl k) ?_
    show own_G p e below (s₁.setTop (mkF m 18 #[.val (.ref a1), .val (.int (0 : Int32)), .unset] [(.int (0 : Int32)), (.ref a1)])) _
    refine own_go (fun _ k => XS.iconst X0.here hx rfl (hb hby d2_18) k) ?_
    show own_G p e below (s₁.setTop (mkF m 19 #[.val (.ref a1), .val (.int (0 : Int32)), .unset] [(.int (1 : Int32)), (.int (0 : Int32)), (.ref a1)])) _
    refine own_go (fun _ k => XS.iadd X0.here hx rfl (hb hby d2_19) rfl k) ?_
    show own_G p e below (s₁.setTop (mkF m 20 #[.val (.ref a1), .val (.int (0 : Int32)), .unset] [(.int (1 : Int32)), (.ref a1)])) _
    obtain ⟨_, _, ⟨T34, L34, k34, n34⟩, -, X34, ⟨Lc34, hQ34, l34, y34, z34⟩, st34⟩ := Jvm.LawKit.callS X0 hx (y := (⟨"java/util/Arrays", "copyOf", "([BI)[B"⟩ : MethodName)) hown (mvT hZ (hw _ (List.mem_of_getElem? (i := 9) rfl))) (mvT hZ (hw _ (List.mem_of_getElem? (i := 10) rfl))) (mvT hZ (hw _ (List.mem_of_getElem? (i := 11) rfl))) (mvT hZ (hw _ (List.mem_of_getElem? (i := 12) rfl))) (by decide) (backOf (W := 0) (rm3 l Z a0 hw [] a1 (1 : Int32) k1 (1 : Int32) [(.int b0)] 1 h0 n0 Z0 V_a1 E_a1 (by decide) (by decide) (by decide) (Nat.le_of_ble_eq_true rfl)) hZ (hw _ (List.mem_of_getElem? (i := 12) rfl)) (hw _ (List.mem_of_getElem? (i := 11) rfl)) (by decide) (by decide)) (g := (mkF m 20 #[.val (.ref a1), .val (.int (0 : Int32)), .unset] [(.int (1 : Int32)), (.ref a1)])) rfl (by rw [hml]; rfl) (argsL := [(.ref a1), (.int (1 : Int32))]) (rest := []) (lenOf pd_1 rfl) rfl (by show 2 * 0 + _ ≤ _; exact Nat.le_of_eq rfl) (hb hby d2_20) (fun _ _ => ⟨rfl, e0, (by decide : 0 + 1 ≤ _), (by decide : 0 + 1 ≤ _)⟩)
    dsimp only [Pt.U, Pt.locs, Pt.cells, Pt.slots] at X34 l34 y34 z34 st34 hQ34
    subst l34 y34 z34
    obtain ⟨b34, k34q, rfl, Nq34, K34, hsz34, E34q, Vq34⟩ := hQ34
    have N34 := Fr.app N0 Nq34
    refine own_go st34 ?_
    have ne35 : a1 ≠ b34 := Nat.ne_of_lt (Nat.lt_of_lt_of_le V_a1.lt hsz34)
    have ge36 : n0 ≤ b34 := Nat.le_trans Z0 hsz34
    have sz37 : h0.size ≤ b34 := Nat.le_trans (Keep.refl h0 []).1 hsz34
    have f38 := V_a1.keep K34 nin0
    have f39 := E_a1.keep K34
    have zs40 : n0 ≤ T34.heap.size := Nat.le_trans Z0 K34.1
    have kp41 : Keep h0 T34.heap [] := (Keep.refl h0 []).trans K34 all0
    have V34 : Arv Z T34.heap b34 k34q .byte (1 : Int32) [(.int b0)] (.int (0 : Int32)) := Vq34
    show own_G p e below (T34.setTop (mkF m 23 #[.val (.ref a1), .val (.int (0 : Int32)), .unset] [(.ref b34)])) _
    refine own_go (fun _ k => XS.astoreN X34.here hx rfl (hb hby d2_23) rfl rfl (l' := #[.val (.ref a1), .val (.int (0 : Int32)), .val (.ref b34)]) rfl k) ?_
    show own_G p e below (T34.setTop (mkF m 24 #[.val (.ref a1), .val (.int (0 : Int32)), .val (.ref b34)] [])) _
    refine own_go (fun _ k => XS.aloadN X34.here hx rfl (hb hby d2_24) rfl rfl k) ?_
    show own_G p e below (T34.setTop (mkF m 25 #[.val (.ref a1), .val (.int (0 : Int32)), .val (.ref b34)] [(.ref b34)])) _
    refine own_go (fun _ k => XS.iloadN X34.here hx rfl (hb hby d2_25) rfl k) ?_
    show own_G p e below (T34.setTop (mkF m 26 #[.val (.ref a1), .val (.int (0 : Int32)), .val (.ref b34)] [(.int (0 : Int32)), (.ref b34)])) _
    refine own_go (fun _ k => XT.dup2 X34.here hx rfl (hb hby d2_26) rfl rfl rfl k) ?_
    show own_G p e below (T34.setTop (mkF m 27 #[.val (.ref a1), .val (.int (0 : Int32)), .val (.ref b34)] [(.int (0 : Int32)), (.ref b34), (.int (0 : Int32)), (.ref b34)])) _
    obtain ⟨cl42, Ar42, q42, S42, M42, B42, G42⟩ := id V34
    have hin42 : ¬ ((0 : Int32) < 0 ∨ cl42.slots.size ≤ ((0 : Int32)).toNatClampNeg) := inb_of S42 ⟨by decide, by decide⟩
    have hat42 : cl42.slots[((0 : Int32)).toNatClampNeg]? = some (.int b0) := B42.at hin42 rfl
    refine own_go (X34.baloadBytes hx (j := (0 : Int32)) (v := (.int b0)) Ar42.1 (State.isArrayOf_alike hZ.alike Ar42.2.1) Ar42.2.2 hin42 hat42 (g := (mkF m 27 #[.val (.ref a1), .val (.int (0 : Int32)), .val (.ref b34)] [(.int (0 : Int32)), (.ref b34), (.int (0 : Int32)), (.ref b34)])) rfl rfl (hb hby d2_27)) ?_
    show own_G p e below (T34.setTop (mkF m 28 #[.val (.ref a1), .val (.int (0 : Int32)), .val (.ref b34)] [(.int b0), (.int (0 : Int32)), (.ref b34)])) _
    refine own_go (fun _ k => XS.iconst X34.here hx rfl (hb hby d2_28) k) ?_
    show own_G p e below (T34.setTop (mkF m 29 #[.val (.ref a1), .val (.int (0 : Int32)), .val (.ref b34)] [(.int (1 : Int32)), (.int b0), (.int (0 : Int32)), (.ref b34)])) _
    refine own_go (fun _ k => XS.iadd X34.here hx rfl (hb hby d2_29) rfl k) ?_
    show own_G p e below (T34.setTop (mkF m 30 #[.val (.ref a1), .val (.int (0 : Int32)), .val (.ref b34)] [(.int (b0 + (1 : Int32))), (.int (0 : Int32)), (.ref b34)])) _
    refine own_go (fun _ k => XS.i2b X34.here hx rfl (hb hby d2_30) rfl k) ?_
    show own_G p e below (T34.setTop (mkF m 31 #[.val (.ref a1), .val (.int (0 : Int32)), .val (.ref b34)] [(.int ((b0 + (1 : Int32)).toInt8.toInt32)), (.int (0 : Int32)), (.ref b34)])) _
    obtain ⟨cl43, Ar43, q43, S43, M43, B43, G43⟩ := id V34
    have hin43 : ¬ ((0 : Int32) < 0 ∨ cl43.slots.size ≤ ((0 : Int32)).toNatClampNeg) := inb_of S43 ⟨by decide, by decide⟩
    obtain ⟨T43, h43, X43, e43, W43, st43⟩ := stB X34 hx hZ rfl Ar43 (j := (0 : Int32)) hin43 (g := (mkF m 31 #[.val (.ref a1), .val (.int (0 : Int32)), .val (.ref b34)] [(.int ((b0 + (1 : Int32)).toInt8.toInt32)), (.int (0 : Int32)), (.ref b34)])) rfl rfl (hb hby d2_31)
    refine own_go st43 ?_
    rw [show nar .byte ((b0 + (1 : Int32)).toInt8.toInt32) = ((b0 + (1 : Int32)).toInt8.toInt32) from (own_bb _)] at W43
    have f44 := f38.other W43 ne35
    have f45 := f39.wr W43
    have f46 := E34q.wr W43
    have zs47 : n0 ≤ h43.size := Nat.le_trans zs40 (Keep.of_wr W43).1
    have kp48 : Keep h0 h43 [] := kp41.wr W43 (Or.inr sz37)
    have V43 : Arv Z h43 b34 k34q .byte (1 : Int32) [(.int ((b0 + (1 : Int32)).toInt8.toInt32))] (.int (0 : Int32)) := Arv.set Ar43 q43 S43 M43 B43 G43 (fits_nar_byte _) W43 0 rfl (Nat.le_of_ble_eq_true rfl)
    have N43 := Fr.snoc X43 N34 ge36
    show own_G p e below (T43.setTop (mkF m 32 #[.val (.ref a1), .val (.int (0 : Int32)), .val (.ref b34)] [])) _
    refine own_go (fun _ k => XS.aloadN X43.here hx rfl (hb hby d2_32) rfl rfl k) ?_
    show own_G p e below (T43.setTop (mkF m 33 #[.val (.ref a1), .val (.int (0 : Int32)), .val (.ref b34)] [(.ref b34)])) _
    refine own_ret X43 hlk (v := some (.ref b34)) (fun h => by rw [hret] at h; cases h) (Q2_1 Z a1 k1 b0 h0 n0) (own_retI X43 hx (t := (.array .byte)) hret rfl (Or.inr (Or.inr (Or.inr (Or.inr ⟨rfl, rfl, rfl⟩)))) (hb hby d2_33)) (by decide) (by decide) ?_
    show Q2_1 Z a1 k1 b0 h0 n0 _ T43.heap _
    rw [e43]
    exact ⟨N43, kp48, Or.inl (⟨hc13_33, b34, k34q, rfl, V43⟩)⟩
def Q2_2 (Z : State) (a1 : Addr) (k1 : ClassId) (b0 b1 : Int32) (h0 : Heap) (n0 : Nat) (v : Option Value) (h : Heap) (L : List Loc) : Prop := Fr n0 L ∧ Keep h0 h [] ∧ (((¬ b1 = (-1 : Int32)) ∧ ∃ (r : Addr) (k : ClassId), v = some (.ref r) ∧ Arv Z h r k .byte (2 : Int32) [(.int b0), (.int ((b1 + (1 : Int32)).toInt8.toInt32))] (.int (0 : Int32))) ∨ ((¬ b0 = (-1 : Int32) ∧ b1 = (-1 : Int32)) ∧ ∃ (r : Addr) (k : ClassId), v = some (.ref r) ∧ Arv Z h r k .byte (1 : Int32) [(.int ((b0 + (1 : Int32)).toInt8.toInt32))] (.int (0 : Int32))) ∨ (v = some .null ∧ b0 = (-1 : Int32) ∧ b1 = (-1 : Int32)))
set_option maxRecDepth 65536 in
set_option maxHeartbeats 40000000 in
theorem rm2_2 (l : Launch) (Z : State) (a0 : Array Value) (hw : ∀ d ∈ tables_1, d.before a0 Z = true) (ws : List Jvm.Cond) (a1 : Addr) (k1 : ClassId) (b0 b1 : Int32) (h0 : Heap) (n0 : Nat) (Z0 : n0 ≤ h0.size) (V_a1 : Arv Z h0 a1 k1 .byte (2 : Int32) [(.int b0), (.int b1)] (.int (0 : Int32))) (E_a1 : Exa Z h0 a1 "[B") :
    MetFree l (⟨"com/example/orbweave/orbweave/store/KeyOrder", "prefixEnd", "([B)[B"⟩ : MethodName) (head1 (Jvm.Cond.code (⟨"com/example/orbweave/orbweave/store/KeyOrder", "prefixEnd", "([B)[B"⟩ : MethodName) prog_38_method_1_code 3 (some (.array .byte)) :: ws) ({ frames := 2, cells := 1, slots := 2, locals := 32 } : Room)) (fun a U => a = #[(.ref a1)] ∧ Z.Warmed39 U.vm ∧ U.heap = h0) (fun _ _ _ _ _ => True) (fun _ U o U' => ∃ v L, o = .returned v ∧ Q2_2 Z a1 k1 b0 b1 h0 n0 v U'.heap L ∧ FrameEnd U o U' L ({ frames := 2, cells := 1, slots := 2, locals := 32 } : Room).cells ({ frames := 2, cells := 1, slots := 2, locals := 32 } : Room).slots) := by
  refine MetFree.of_bodySF (plainFor_of_name pn_2) hisR ?_
  intro p e s m args below meth c s₁ Bd hml0 hP hK
  obtain ⟨rfl, hZ, hh⟩ := hP
  have hx := Bd.exec
  have hby := Bd.bytes
  have hml : c.maxLocals = 3 := hml0
  have hown : s.vm.findClass "com/example/orbweave/orbweave/store/KeyOrder" = some m.cls := findClass_of_methodNamed Bd.named
  have hnm := (name_of_methodNamed Bd.named Bd.method).1
  have hlk := Bd.notSynchronized
  have hret := Bd.returns
  have X0 : Stand p l e ({ frames := 2, cells := 1, slots := 2, locals := 32 } : Room) s m #[(.ref a1)] below meth c s₁ [] 0 0 := Stand.of_body Bd
  have e0 : s₁.heap = h0 := by rw [← hh, Bd.state]; rfl
  have N0 := Fr.nil n0
  show own_G p e below (s₁.setTop (entryFrame m #[(.ref a1)] 3)) (fun s₂ o => ∃ v L, o = .returned v ∧ Q2_2 Z a1 k1 b0 b1 h0 n0 v s₂.heap L ∧ FrameEnd s o s₂ L ({ frames := 2, cells := 1, slots := 2, locals := 32 } : Room).cells ({ frames := 2, cells := 1, slots := 2, locals := 32 } : Room).slots)
  refine own_go (fun t k => castTop (ef_2 m a1) k) ?_
  show own_G p e below (s₁.setTop (mkF m 0 #[.val (.ref a1), .unset, .unset] [])) _
  refine own_go (fun _ k => XS.aloadN X0.here hx rfl (hb hby d2_0) rfl rfl k) ?_
  show own_G p e below (s₁.setTop (mkF m 1 #[.val (.ref a1), .unset, .unset] [(.ref a1)])) _
  obtain ⟨cl49, Ar49, q49, S49, M49, B49, G49⟩ := id V_a1
  refine own_go (X0.arraylength hx (by rw [e0]; exact Ar49.1) (State.isArrayOf_alike hZ.alike Ar49.2.1) (g := (mkF m 1 #[.val (.ref a1), .unset, .unset] [(.ref a1)])) rfl rfl (hb hby d2_1)) ?_
  rw [len_of S49 M49]
  show own_G p e below (s₁.setTop (mkF m 2 #[.val (.ref a1), .unset, .unset] [(.int (2 : Int32))])) _
  refine own_go (fun _ k => XS.iconst X0.here hx rfl (hb hby d2_2) k) ?_
  show own_G p e below (s₁.setTop (mkF m 3 #[.val (.ref a1), .unset, .unset] [(.int (1 : Int32)), (.int (2 : Int32))])) _
  refine own_go (fun _ k => XS.isub X0.here hx rfl (hb hby d2_3) rfl k) ?_
  show own_G p e below (s₁.setTop (mkF m 4 #[.val (.ref a1), .unset, .unset] [(.int (1 : Int32))])) _
  refine own_go (fun _ k => XS.istoreN X0.here hx rfl (hb hby d2_4) rfl (l' := #[.val (.ref a1), .val (.int (1 : Int32)), .unset]) rfl k) ?_
  show own_G p e below (s₁.setTop (mkF m 5 #[.val (.ref a1), .val (.int (1 : Int32)), .unset] [])) _
  refine own_go (fun _ k => XS.iloadN X0.here hx rfl (hb hby d2_5) rfl k) ?_
  show own_G p e below (s₁.setTop (mkF m 6 #[.val (.ref a1), .val (.int (1 : Int32)), .unset] [(.int (1 : Int32))])) _
  refine own_go (fun _ k => XS.ifNo X0.here hx rfl (hb hby d2_6) rfl ((if0 _ _).trans (flt (by decide : ¬ ((1 : Int32) < (0 : Int32)))).1) k) ?_
  show own_G p e below (s₁.setTop (mkF m 9 #[.val (.ref a1), .val (.int (1 : Int32)), .unset] [])) _
  refine own_go (fun _ k => XS.aloadN X0.here hx rfl (hb hby d2_9) rfl rfl k) ?_
  show own_G p e below (s₁.setTop (mkF m 10 #[.val (.ref a1), .val (.int (1 : Int32)), .unset] [(.ref a1)])) _
  refine own_go (fun _ k => XS.iloadN X0.here hx rfl (hb hby d2_10) rfl k) ?_
  show own_G p e below (s₁.setTop (mkF m 11 #[.val (.ref a1), .val (.int (1 : Int32)), .unset] [(.int (1 : Int32)), (.ref a1)])) _
  obtain ⟨cl50, Ar50, q50, S50, M50, B50, G50⟩ := id V_a1
  have hin50 : ¬ ((1 : Int32) < 0 ∨ cl50.slots.size ≤ ((1 : Int32)).toNatClampNeg) := inb_of S50 ⟨by decide, by decide⟩
  have hat50 : cl50.slots[((1 : Int32)).toNatClampNeg]? = some (.int b1) := B50.at hin50 rfl
  refine own_go (X0.baloadBytes hx (j := (1 : Int32)) (v := (.int b1)) (by rw [e0]; exact Ar50.1) (State.isArrayOf_alike hZ.alike Ar50.2.1) Ar50.2.2 hin50 hat50 (g := (mkF m 11 #[.val (.ref a1), .val (.int (1 : Int32)), .unset] [(.int (1 : Int32)), (.ref a1)])) rfl rfl (hb hby d2_11)) ?_
  show own_G p e below (s₁.setTop (mkF m 12 #[.val (.ref a1), .val (.int (1 : Int32)), .unset] [(.int b1)])) _
  refine own_go (fun _ k => XS.iconst X0.here hx rfl (hb hby d2_12) k) ?_
  show own_G p e below (s₁.setTop (mkF m 13 #[.val (.ref a1), .val (.int (1 : Int32)), .unset] [(.int (-1 : Int32)), (.int b1)])) _
  by_cases hc13_51 : b1 = (-1 : Int32)
  · refine own_go (fun _ k => XS.icmpYes X0.here hx rfl (pc0 := 13) (pc' := 34) rfl (hb hby d2_13) rfl (teq hc13_51).1 (by decide) (by decide) k) ?_
    show own_G p e below (s₁.setTop (mkF m 34 #[.val (.ref a1), .val (.int (1 : Int32)), .unset] [])) _
    refine own_go (fun _ k => XS.iinc X0.here hx rfl (hb hby d2_34) rfl (l' := #[.val (.ref a1), .val (.int (0 : Int32)), .unset]) rfl k) ?_
    show own_G p e below (s₁.setTop (mkF m 37 #[.val (.ref a1), .val (.int (0 : Int32)), .unset] [])) _
    refine own_go (fun _ k => XS.goto X0.here hx rfl (pc0 := 37) (pc' := 5) rfl (hb hby d2_37) (by decide) (by decide) k) ?_
    show own_G p e below (s₁.setTop (mkF m 5 #[.val (.ref a1), .val (.int (0 : Int32)), .unset] [])) _
    refine own_go (fun _ k => XS.iloadN X0.here hx rfl (hb hby d2_5) rfl k) ?_
    show own_G p e below (s₁.setTop (mkF m 6 #[.val (.ref a1), .val (.int (0 : Int32)), .unset] [(.int (0 : Int32))])) _
    refine own_go (fun _ k => XS.ifNo X0.here hx rfl (hb hby d2_6) rfl ((if0 _ _).trans (flt (by decide : ¬ ((0 : Int32) < (0 : Int32)))).1) k) ?_
    show own_G p e below (s₁.setTop (mkF m 9 #[.val (.ref a1), .val (.int (0 : Int32)), .unset] [])) _
    refine own_go (fun _ k => XS.aloadN X0.here hx rfl (hb hby d2_9) rfl rfl k) ?_
    show own_G p e below (s₁.setTop (mkF m 10 #[.val (.ref a1), .val (.int (0 : Int32)), .unset] [(.ref a1)])) _
    refine own_go (fun _ k => XS.iloadN X0.here hx rfl (hb hby d2_10) rfl k) ?_
    show own_G p e below (s₁.setTop (mkF m 11 #[.val (.ref a1), .val (.int (0 : Int32)), .unset] [(.int (0 : Int32)), (.ref a1)])) _
    obtain ⟨cl52, Ar52, q52, S52, M52, B52, G52⟩ := id V_a1
    have hin52 : ¬ ((0 : Int32) < 0 ∨ cl52.slots.size ≤ ((0 : Int32)).toNatClampNeg) := inb_of S52 ⟨by decide, by decide⟩
    have hat52 : cl52.slots[((0 : Int32)).toNatClampNeg]? = some (.int b0) := B52.at hin52 rfl
    refine own_go (X0.baloadBytes hx (j := (0 : Int32)) (v := (.int b0)) (by rw [e0]; exact Ar52.1) (State.isArrayOf_alike hZ.alike Ar52.2.1) Ar52.2.2 hin52 hat52 (g := (mkF m 11 #[.val (.ref a1), .val (.int (0 : Int32)), .unset] [(.int (0 : Int32)), (.ref a1)])) rfl rfl (hb hby d2_11)) ?_
    show own_G p e below (s₁.setTop (mkF m 12 #[.val (.ref a1), .val (.int (0 : Int32)), .unset] [(.int b0)])) _
    refine own_go (fun _ k => XS.iconst X0.here hx rfl (hb hby d2_12) k) ?_
    show own_G p e below (s₁.setTop (mkF m 13 #[.val (.ref a1), .val (.int (0 : Int32)), .unset] [(.int (-1 : Int32)), (.int b0)])) _
    by_cases hc13_53 : b0 = (-1 : Int32)
    · refine own_go (fun _ k => XS.icmpYes X0.here hx rfl (pc0 := 13) (pc' := 34) rfl (hb hby d2_13) rfl (teq hc13_53).1 (by decide) (by decide) k) ?_
      show own_G p e below (s₁.setTop (mkF m 34 #[.val (.ref a1), .val (.int (0 : Int32)), .unset] [])) _
      refine own_go (fun _ k => XS.iinc X0.here hx rfl (hb hby d2_34) rfl (l' := #[.val (.ref a1), .val (.int (-1 : Int32)), .unset]) rfl k) ?_
      show own_G p e below (s₁.setTop (mkF m 37 #[.val (.ref a1), .val (.int (-1 : Int32)), .unset] [])) _
      refine own_go (fun _ k => XS.goto X0.here hx rfl (pc0 := 37) (pc' := 5) rfl (hb hby d2_37) (by decide) (by decide) k) ?_
      show own_G p e below (s₁.setTop (mkF m 5 #[.val (.ref a1), .val (.int (-1 : Int32)), .unset] [])) _
      refine own_go (fun _ k => XS.iloadN X0.here hx rfl (hb hby d2_5) rfl k) ?_
      show own_G p e below (s₁.setTop (mkF m 6 #[.val (.ref a1), .val (.int (-1 : Int32)), .unset] [(.int (-1 : Int32))])) _
      refine own_go (fun _ k => XS.ifYes X0.here hx rfl (pc0 := 6) (pc' := 40) rfl (hb hby d2_6) rfl ((if0 _ _).trans (tlt (by decide : (-1 : Int32) < (0 : Int32))).1) (by decide) (by decide) k) ?_
      show own_G p e below (s₁.setTop (mkF m 40 #[.val (.ref a1), .val (.int (-1 : Int32)), .unset] [])) _
      refine own_go (fun _ k => XS.aconstNull X0.here hx rfl (hb hby d2_40) k) ?_
      show own_G p e below (s₁.setTop (mkF m 41 #[.val (.ref a1), .val (.int (-1 : Int32)), .unset] [.null])) _
      refine own_ret X0 hlk (v := some .null) (fun h => by rw [hret] at h; cases h) (Q2_2 Z a1 k1 b0 b1 h0 n0) (own_retI X0 hx (t := (.array .byte)) hret rfl (Or.inr (Or.inr (Or.inr (Or.inr ⟨rfl, rfl, rfl⟩)))) (hb hby d2_41)) (by decide) (by decide) ?_
      show Q2_2 Z a1 k1 b0 b1 h0 n0 _ s₁.heap _
      rw [e0]
      exact ⟨N0, (Keep.refl h0 []), Or.inr (Or.inr (⟨rfl, hc13_53, hc13_51⟩))⟩
    · refine own_go (fun _ k => XS.icmpNo X0.here hx rfl (hb hby d2_13) rfl (feq hc13_53).1 k) ?_
      show own_G p e below (s₁.setTop (mkF m 16 #[.val (.ref a1), .val (.int (0 : Int32)), .unset] [])) _
      refine own_go (fun _ k => XS.aloadN X0.here hx rfl (hb hby d2_16) rfl rfl k) ?_
      show own_G p e below (s₁.setTop (mkF m 17 #[.val (.ref a1), .val (.int (0 : Int32)), .unset] [(.ref a1)])) _
      refine own_go (fun _ k => XS.iloadN X0.here hx rfl (hb hby d2_17) rfl k) ?_
      show own_G p e below (s₁.setTop (mkF m 18 #[.val (.ref a1), .val (.int (0 : Int32)), .unset] [(.int (0 : Int32)), (.ref a1)])) _
      refine own_go (fun _ k => XS.iconst X0.here hx rfl (hb hby d2_18) k) ?_
      show own_G p e below (s₁.setTop (mkF m 19 #[.val (.ref a1), .val (.int (0 : Int32)), .unset] [(.int (1 : Int32)), (.int (0 : Int32)), (.ref a1)])) _
      refine own_go (fun _ k => XS.iadd X0.here hx rfl (hb hby d2_19) rfl k) ?_
      show own_G p e below (s₁.setTop (mkF m 20 #[.val (.ref a1), .val (.int (0 : Int32)), .unset] [(.int (1 : Int32)), (.ref a1)])) _
      obtain ⟨_, _, ⟨T54, L54, k54, n54⟩, -, X54, ⟨Lc54, hQ54, l54, y54, z54⟩, st54⟩ := Jvm.LawKit.callS X0 hx (y := (⟨"java/util/Arrays", "copyOf", "([BI)[B"⟩ : MethodName)) hown (mvT hZ (hw _ (List.mem_of_getElem? (i := 9) rfl))) (mvT hZ (hw _ (List.mem_of_getElem? (i := 10) rfl))) (mvT hZ (hw _ (List.mem_of_getElem? (i := 11) rfl))) (mvT hZ (hw _ (List.mem_of_getElem? (i := 12) rfl))) (by decide) (backOf (W := 0) (rm3 l Z a0 hw [] a1 (1 : Int32) k1 (2 : Int32) [(.int b0), (.int b1)] 1 h0 n0 Z0 V_a1 E_a1 (by decide) (by decide) (by decide) (Nat.le_of_ble_eq_true rfl)) hZ (hw _ (List.mem_of_getElem? (i := 12) rfl)) (hw _ (List.mem_of_getElem? (i := 11) rfl)) (by decide) (by decide)) (g := (mkF m 20 #[.val (.ref a1), .val (.int (0 : Int32)), .unset] [(.int (1 : Int32)), (.ref a1)])) rfl (by rw [hml]; rfl) (argsL := [(.ref a1), (.int (1 : Int32))]) (rest := []) (lenOf pd_1 rfl) rfl (by show 2 * 0 + _ ≤ _; exact Nat.le_of_eq rfl) (hb hby d2_20) (fun _ _ => ⟨rfl, e0, (by decide : 0 + 1 ≤ _), (by decide : 0 + 1 ≤ _)⟩)
      dsimp only [Pt.U, Pt.locs, Pt.cells, Pt.slots] at X54 l54 y54 z54 st54 hQ54
      subst l54 y54 z54
      obtain ⟨b54, k54q, rfl, Nq54, K54, hsz54, E54q, Vq54⟩ := hQ54
      have N54 := Fr.app N0 Nq54
      refine own_go st54 ?_
      have ne55 : a1 ≠ b54 := Nat.ne_of_lt (Nat.lt_of_lt_of_le V_a1.lt hsz54)
      have ge56 : n0 ≤ b54 := Nat.le_trans Z0 hsz54
      have sz57 : h0.size ≤ b54 := Nat.le_trans (Keep.refl h0 []).1 hsz54
      have f58 := V_a1.keep K54 nin0
      have f59 := E_a1.keep K54
      have zs60 : n0 ≤ T54.heap.size := Nat.le_trans Z0 K54.1
      have kp61 : Keep h0 T54.heap [] := (Keep.refl h0 []).trans K54 all0
      have V54 : Arv Z T54.heap b54 k54q .byte (1 : Int32) [(.int b0)] (.int (0 : Int32)) := Vq54
      show own_G p e below (T54.setTop (mkF m 23 #[.val (.ref a1), .val (.int (0 : Int32)), .unset] [(.ref b54)])) _
      refine own_go (fun _ k => XS.astoreN X54.here hx rfl (hb hby d2_23) rfl rfl (l' := #[.val (.ref a1), .val (.int (0 : Int32)), .val (.ref b54)]) rfl k) ?_
      show own_G p e below (T54.setTop (mkF m 24 #[.val (.ref a1), .val (.int (0 : Int32)), .val (.ref b54)] [])) _
      refine own_go (fun _ k => XS.aloadN X54.here hx rfl (hb hby d2_24) rfl rfl k) ?_
      show own_G p e below (T54.setTop (mkF m 25 #[.val (.ref a1), .val (.int (0 : Int32)), .val (.ref b54)] [(.ref b54)])) _
      refine own_go (fun _ k => XS.iloadN X54.here hx rfl (hb hby d2_25) rfl k) ?_
      show own_G p e below (T54.setTop (mkF m 26 #[.val (.ref a1), .val (.int (0 : Int32)), .val (.ref b54)] [(.int (0 : Int32)), (.ref b54)])) _
      refine own_go (fun _ k => XT.dup2 X54.here hx rfl (hb hby d2_26) rfl rfl rfl k) ?_
      show own_G p e below (T54.setTop (mkF m 27 #[.val (.ref a1), .val (.int (0 : Int32)), .val (.ref b54)] [(.int (0 : Int32)), (.ref b54), (.int (0 : Int32)), (.ref b54)])) _
      obtain ⟨cl62, Ar62, q62, S62, M62, B62, G62⟩ := id V54
      have hin62 : ¬ ((0 : Int32) < 0 ∨ cl62.slots.size ≤ ((0 : Int32)).toNatClampNeg) := inb_of S62 ⟨by decide, by decide⟩
      have hat62 : cl62.slots[((0 : Int32)).toNatClampNeg]? = some (.int b0) := B62.at hin62 rfl
      refine own_go (X54.baloadBytes hx (j := (0 : Int32)) (v := (.int b0)) Ar62.1 (State.isArrayOf_alike hZ.alike Ar62.2.1) Ar62.2.2 hin62 hat62 (g := (mkF m 27 #[.val (.ref a1), .val (.int (0 : Int32)), .val (.ref b54)] [(.int (0 : Int32)), (.ref b54), (.int (0 : Int32)), (.ref b54)])) rfl rfl (hb hby d2_27)) ?_
      show own_G p e below (T54.setTop (mkF m 28 #[.val (.ref a1), .val (.int (0 : Int32)), .val (.ref b54)] [(.int b0), (.int (0 : Int32)), (.ref b54)])) _
      refine own_go (fun _ k => XS.iconst X54.here hx rfl (hb hby d2_28) k) ?_
      show own_G p e below (T54.setTop (mkF m 29 #[.val (.ref a1), .val (.int (0 : Int32)), .val (.ref b54)] [(.int (1 : Int32)), (.int b0), (.int (0 : Int32)), (.ref b54)])) _
      refine own_go (fun _ k => XS.iadd X54.here hx rfl (hb hby d2_29) rfl k) ?_
      show own_G p e below (T54.setTop (mkF m 30 #[.val (.ref a1), .val (.int (0 : Int32)), .val (.ref b54)] [(.int (b0 + (1 : Int32))), (.int (0 : Int32)), (.ref b54)])) _
      refine own_go (fun _ k => XS.i2b X54.here hx rfl (hb hby d2_30) rfl k) ?_
      show own_G p e below (T54.setTop (mkF m 31 #[.val (.ref a1), .val (.int (0 : Int32)), .val (.ref b54)] [(.int ((b0 + (1 : Int32)).toInt8.toInt32)), (.int (0 : Int32)), (.ref b54)])) _
      obtain ⟨cl63, Ar63, q63, S63, M63, B63, G63⟩ := id V54
      have hin63 : ¬ ((0 : Int32) < 0 ∨ cl63.slots.size ≤ ((0 : Int32)).toNatClampNeg) := inb_of S63 ⟨by decide, by decide⟩
      obtain ⟨T63, h63, X63, e63, W63, st63⟩ := stB X54 hx hZ rfl Ar63 (j := (0 : Int32)) hin63 (g := (mkF m 31 #[.val (.ref a1), .val (.int (0 : Int32)), .val (.ref b54)] [(.int ((b0 + (1 : Int32)).toInt8.toInt32)), (.int (0 : Int32)), (.ref b54)])) rfl rfl (hb hby d2_31)
      refine own_go st63 ?_
      rw [show nar .byte ((b0 + (1 : Int32)).toInt8.toInt32) = ((b0 + (1 : Int32)).toInt8.toInt32) from (own_bb _)] at W63
      have f64 := f58.other W63 ne55
      have f65 := f59.wr W63
      have f66 := E54q.wr W63
      have zs67 : n0 ≤ h63.size := Nat.le_trans zs60 (Keep.of_wr W63).1
      have kp68 : Keep h0 h63 [] := kp61.wr W63 (Or.inr sz57)
      have V63 : Arv Z h63 b54 k54q .byte (1 : Int32) [(.int ((b0 + (1 : Int32)).toInt8.toInt32))] (.int (0 : Int32)) := Arv.set Ar63 q63 S63 M63 B63 G63 (fits_nar_byte _) W63 0 rfl (Nat.le_of_ble_eq_true rfl)
      have N63 := Fr.snoc X63 N54 ge56
      show own_G p e below (T63.setTop (mkF m 32 #[.val (.ref a1), .val (.int (0 : Int32)), .val (.ref b54)] [])) _
      refine own_go (fun _ k => XS.aloadN X63.here hx rfl (hb hby d2_32) rfl rfl k) ?_
      show own_G p e below (T63.setTop (mkF m 33 #[.val (.ref a1), .val (.int (0 : Int32)), .val (.ref b54)] [(.ref b54)])) _
      refine own_ret X63 hlk (v := some (.ref b54)) (fun h => by rw [hret] at h; cases h) (Q2_2 Z a1 k1 b0 b1 h0 n0) (own_retI X63 hx (t := (.array .byte)) hret rfl (Or.inr (Or.inr (Or.inr (Or.inr ⟨rfl, rfl, rfl⟩)))) (hb hby d2_33)) (by decide) (by decide) ?_
      show Q2_2 Z a1 k1 b0 b1 h0 n0 _ T63.heap _
      rw [e63]
      exact ⟨N63, kp68, Or.inr (Or.inl (⟨⟨hc13_53, hc13_51⟩, b54, k54q, rfl, V63⟩))⟩
  · refine own_go (fun _ k => XS.icmpNo X0.here hx rfl (hb hby d2_13) rfl (feq hc13_51).1 k) ?_
    show own_G p e below (s₁.setTop (mkF m 16 #[.val (.ref a1), .val (.int (1 : Int32)), .unset] [])) _
    refine own_go (fun _ k => XS.aloadN X0.here hx rfl (hb hby d2_16) rfl rfl k) ?_
    show own_G p e below (s₁.setTop (mkF m 17 #[.val (.ref a1), .val (.int (1 : Int32)), .unset] [(.ref a1)])) _
    refine own_go (fun _ k => XS.iloadN X0.here hx rfl (hb hby d2_17) rfl k) ?_
    show own_G p e below (s₁.setTop (mkF m 18 #[.val (.ref a1), .val (.int (1 : Int32)), .unset] [(.int (1 : Int32)), (.ref a1)])) _
    refine own_go (fun _ k => XS.iconst X0.here hx rfl (hb hby d2_18) k) ?_
    show own_G p e below (s₁.setTop (mkF m 19 #[.val (.ref a1), .val (.int (1 : Int32)), .unset] [(.int (1 : Int32)), (.int (1 : Int32)), (.ref a1)])) _
    refine own_go (fun _ k => XS.iadd X0.here hx rfl (hb hby d2_19) rfl k) ?_
    show own_G p e below (s₁.setTop (mkF m 20 #[.val (.ref a1), .val (.int (1 : Int32)), .unset] [(.int (2 : Int32)), (.ref a1)])) _
    obtain ⟨_, _, ⟨T69, L69, k69, n69⟩, -, X69, ⟨Lc69, hQ69, l69, y69, z69⟩, st69⟩ := Jvm.LawKit.callS X0 hx (y := (⟨"java/util/Arrays", "copyOf", "([BI)[B"⟩ : MethodName)) hown (mvT hZ (hw _ (List.mem_of_getElem? (i := 9) rfl))) (mvT hZ (hw _ (List.mem_of_getElem? (i := 10) rfl))) (mvT hZ (hw _ (List.mem_of_getElem? (i := 11) rfl))) (mvT hZ (hw _ (List.mem_of_getElem? (i := 12) rfl))) (by decide) (backOf (W := 0) (rm3 l Z a0 hw [] a1 (2 : Int32) k1 (2 : Int32) [(.int b0), (.int b1)] 2 h0 n0 Z0 V_a1 E_a1 (by decide) (by decide) (by decide) (Nat.le_of_ble_eq_true rfl)) hZ (hw _ (List.mem_of_getElem? (i := 12) rfl)) (hw _ (List.mem_of_getElem? (i := 11) rfl)) (by decide) (by decide)) (g := (mkF m 20 #[.val (.ref a1), .val (.int (1 : Int32)), .unset] [(.int (2 : Int32)), (.ref a1)])) rfl (by rw [hml]; rfl) (argsL := [(.ref a1), (.int (2 : Int32))]) (rest := []) (lenOf pd_1 rfl) rfl (by show 2 * 0 + _ ≤ _; exact Nat.le_of_eq rfl) (hb hby d2_20) (fun _ _ => ⟨rfl, e0, (by decide : 0 + 1 ≤ _), (by decide : 0 + 2 ≤ _)⟩)
    dsimp only [Pt.U, Pt.locs, Pt.cells, Pt.slots] at X69 l69 y69 z69 st69 hQ69
    subst l69 y69 z69
    obtain ⟨b69, k69q, rfl, Nq69, K69, hsz69, E69q, Vq69⟩ := hQ69
    have N69 := Fr.app N0 Nq69
    refine own_go st69 ?_
    have ne70 : a1 ≠ b69 := Nat.ne_of_lt (Nat.lt_of_lt_of_le V_a1.lt hsz69)
    have ge71 : n0 ≤ b69 := Nat.le_trans Z0 hsz69
    have sz72 : h0.size ≤ b69 := Nat.le_trans (Keep.refl h0 []).1 hsz69
    have f73 := V_a1.keep K69 nin0
    have f74 := E_a1.keep K69
    have zs75 : n0 ≤ T69.heap.size := Nat.le_trans Z0 K69.1
    have kp76 : Keep h0 T69.heap [] := (Keep.refl h0 []).trans K69 all0
    have V69 : Arv Z T69.heap b69 k69q .byte (2 : Int32) [(.int b0), (.int b1)] (.int (0 : Int32)) := Vq69
    show own_G p e below (T69.setTop (mkF m 23 #[.val (.ref a1), .val (.int (1 : Int32)), .unset] [(.ref b69)])) _
    refine own_go (fun _ k => XS.astoreN X69.here hx rfl (hb hby d2_23) rfl rfl (l' := #[.val (.ref a1), .val (.int (1 : Int32)), .val (.ref b69)]) rfl k) ?_
    show own_G p e below (T69.setTop (mkF m 24 #[.val (.ref a1), .val (.int (1 : Int32)), .val (.ref b69)] [])) _
    refine own_go (fun _ k => XS.aloadN X69.here hx rfl (hb hby d2_24) rfl rfl k) ?_
    show own_G p e below (T69.setTop (mkF m 25 #[.val (.ref a1), .val (.int (1 : Int32)), .val (.ref b69)] [(.ref b69)])) _
    refine own_go (fun _ k => XS.iloadN X69.here hx rfl (hb hby d2_25) rfl k) ?_
    show own_G p e below (T69.setTop (mkF m 26 #[.val (.ref a1), .val (.int (1 : Int32)), .val (.ref b69)] [(.int (1 : Int32)), (.ref b69)])) _
    refine own_go (fun _ k => XT.dup2 X69.here hx rfl (hb hby d2_26) rfl rfl rfl k) ?_
    show own_G p e below (T69.setTop (mkF m 27 #[.val (.ref a1), .val (.int (1 : Int32)), .val (.ref b69)] [(.int (1 : Int32)), (.ref b69), (.int (1 : Int32)), (.ref b69)])) _
    obtain ⟨cl77, Ar77, q77, S77, M77, B77, G77⟩ := id V69
    have hin77 : ¬ ((1 : Int32) < 0 ∨ cl77.slots.size ≤ ((1 : Int32)).toNatClampNeg) := inb_of S77 ⟨by decide, by decide⟩
    have hat77 : cl77.slots[((1 : Int32)).toNatClampNeg]? = some (.int b1) := B77.at hin77 rfl
    refine own_go (X69.baloadBytes hx (j := (1 : Int32)) (v := (.int b1)) Ar77.1 (State.isArrayOf_alike hZ.alike Ar77.2.1) Ar77.2.2 hin77 hat77 (g := (mkF m 27 #[.val (.ref a1), .val (.int (1 : Int32)), .val (.ref b69)] [(.int (1 : Int32)), (.ref b69), (.int (1 : Int32)), (.ref b69)])) rfl rfl (hb hby d2_27)) ?_
    show own_G p e below (T69.setTop (mkF m 28 #[.val (.ref a1), .val (.int (1 : Int32)), .val (.ref b69)] [(.int b1), (.int (1 : Int32)), (.ref b69)])) _
    refine own_go (fun _ k => XS.iconst X69.here hx rfl (hb hby d2_28) k) ?_
    show own_G p e below (T69.setTop (mkF m 29 #[.val (.ref a1), .val (.int (1 : Int32)), .val (.ref b69)] [(.int (1 : Int32)), (.int b1), (.int (1 : Int32)), (.ref b69)])) _
    refine own_go (fun _ k => XS.iadd X69.here hx rfl (hb hby d2_29) rfl k) ?_
    show own_G p e below (T69.setTop (mkF m 30 #[.val (.ref a1), .val (.int (1 : Int32)), .val (.ref b69)] [(.int (b1 + (1 : Int32))), (.int (1 : Int32)), (.ref b69)])) _
    refine own_go (fun _ k => XS.i2b X69.here hx rfl (hb hby d2_30) rfl k) ?_
    show own_G p e below (T69.setTop (mkF m 31 #[.val (.ref a1), .val (.int (1 : Int32)), .val (.ref b69)] [(.int ((b1 + (1 : Int32)).toInt8.toInt32)), (.int (1 : Int32)), (.ref b69)])) _
    obtain ⟨cl78, Ar78, q78, S78, M78, B78, G78⟩ := id V69
    have hin78 : ¬ ((1 : Int32) < 0 ∨ cl78.slots.size ≤ ((1 : Int32)).toNatClampNeg) := inb_of S78 ⟨by decide, by decide⟩
    obtain ⟨T78, h78, X78, e78, W78, st78⟩ := stB X69 hx hZ rfl Ar78 (j := (1 : Int32)) hin78 (g := (mkF m 31 #[.val (.ref a1), .val (.int (1 : Int32)), .val (.ref b69)] [(.int ((b1 + (1 : Int32)).toInt8.toInt32)), (.int (1 : Int32)), (.ref b69)])) rfl rfl (hb hby d2_31)
    refine own_go st78 ?_
    rw [show nar .byte ((b1 + (1 : Int32)).toInt8.toInt32) = ((b1 + (1 : Int32)).toInt8.toInt32) from (own_bb _)] at W78
    have f79 := f73.other W78 ne70
    have f80 := f74.wr W78
    have f81 := E69q.wr W78
    have zs82 : n0 ≤ h78.size := Nat.le_trans zs75 (Keep.of_wr W78).1
    have kp83 : Keep h0 h78 [] := kp76.wr W78 (Or.inr sz72)
    have V78 : Arv Z h78 b69 k69q .byte (2 : Int32) [(.int b0), (.int ((b1 + (1 : Int32)).toInt8.toInt32))] (.int (0 : Int32)) := Arv.set Ar78 q78 S78 M78 B78 G78 (fits_nar_byte _) W78 1 rfl (Nat.le_of_ble_eq_true rfl)
    have N78 := Fr.snoc X78 N69 ge71
    show own_G p e below (T78.setTop (mkF m 32 #[.val (.ref a1), .val (.int (1 : Int32)), .val (.ref b69)] [])) _
    refine own_go (fun _ k => XS.aloadN X78.here hx rfl (hb hby d2_32) rfl rfl k) ?_
    show own_G p e below (T78.setTop (mkF m 33 #[.val (.ref a1), .val (.int (1 : Int32)), .val (.ref b69)] [(.ref b69)])) _
    refine own_ret X78 hlk (v := some (.ref b69)) (fun h => by rw [hret] at h; cases h) (Q2_2 Z a1 k1 b0 b1 h0 n0) (own_retI X78 hx (t := (.array .byte)) hret rfl (Or.inr (Or.inr (Or.inr (Or.inr ⟨rfl, rfl, rfl⟩)))) (hb hby d2_33)) (by decide) (by decide) ?_
    show Q2_2 Z a1 k1 b0 b1 h0 n0 _ T78.heap _
    rw [e78]
    exact ⟨N78, kp83, Or.inl (⟨hc13_51, b69, k69q, rfl, V78⟩)⟩
def Q2_3 (Z : State) (a1 : Addr) (k1 : ClassId) (b0 b1 b2 : Int32) (h0 : Heap) (n0 : Nat) (v : Option Value) (h : Heap) (L : List Loc) : Prop := Fr n0 L ∧ Keep h0 h [] ∧ (((¬ b2 = (-1 : Int32)) ∧ ∃ (r : Addr) (k : ClassId), v = some (.ref r) ∧ Arv Z h r k .byte (3 : Int32) [(.int b0), (.int b1), (.int ((b2 + (1 : Int32)).toInt8.toInt32))] (.int (0 : Int32))) ∨ ((¬ b1 = (-1 : Int32) ∧ b2 = (-1 : Int32)) ∧ ∃ (r : Addr) (k : ClassId), v = some (.ref r) ∧ Arv Z h r k .byte (2 : Int32) [(.int b0), (.int ((b1 + (1 : Int32)).toInt8.toInt32))] (.int (0 : Int32))) ∨ ((¬ b0 = (-1 : Int32) ∧ b1 = (-1 : Int32) ∧ b2 = (-1 : Int32)) ∧ ∃ (r : Addr) (k : ClassId), v = some (.ref r) ∧ Arv Z h r k .byte (1 : Int32) [(.int ((b0 + (1 : Int32)).toInt8.toInt32))] (.int (0 : Int32))) ∨ (v = some .null ∧ b0 = (-1 : Int32) ∧ b1 = (-1 : Int32) ∧ b2 = (-1 : Int32)))
set_option maxRecDepth 65536 in
set_option maxHeartbeats 40000000 in
theorem rm2_3 (l : Launch) (Z : State) (a0 : Array Value) (hw : ∀ d ∈ tables_1, d.before a0 Z = true) (ws : List Jvm.Cond) (a1 : Addr) (k1 : ClassId) (b0 b1 b2 : Int32) (h0 : Heap) (n0 : Nat) (Z0 : n0 ≤ h0.size) (V_a1 : Arv Z h0 a1 k1 .byte (3 : Int32) [(.int b0), (.int b1), (.int b2)] (.int (0 : Int32))) (E_a1 : Exa Z h0 a1 "[B") :
    MetFree l (⟨"com/example/orbweave/orbweave/store/KeyOrder", "prefixEnd", "([B)[B"⟩ : MethodName) (head1 (Jvm.Cond.code (⟨"com/example/orbweave/orbweave/store/KeyOrder", "prefixEnd", "([B)[B"⟩ : MethodName) prog_38_method_1_code 3 (some (.array .byte)) :: ws) ({ frames := 2, cells := 1, slots := 3, locals := 32 } : Room)) (fun a U => a = #[(.ref a1)] ∧ Z.Warmed39 U.vm ∧ U.heap = h0) (fun _ _ _ _ _ => True) (fun _ U o U' => ∃ v L, o = .returned v ∧ Q2_3 Z a1 k1 b0 b1 b2 h0 n0 v U'.heap L ∧ FrameEnd U o U' L ({ frames := 2, cells := 1, slots := 3, locals := 32 } : Room).cells ({ frames := 2, cells := 1, slots := 3, locals := 32 } : Room).slots) := by
  refine MetFree.of_bodySF (plainFor_of_name pn_2) hisR ?_
  intro p e s m args below meth c s₁ Bd hml0 hP hK
  obtain ⟨rfl, hZ, hh⟩ := hP
  have hx := Bd.exec
  have hby := Bd.bytes
  have hml : c.maxLocals = 3 := hml0
  have hown : s.vm.findClass "com/example/orbweave/orbweave/store/KeyOrder" = some m.cls := findClass_of_methodNamed Bd.named
  have hnm := (name_of_methodNamed Bd.named Bd.method).1
  have hlk := Bd.notSynchronized
  have hret := Bd.returns
  have X0 : Stand p l e ({ frames := 2, cells := 1, slots := 3, locals := 32 } : Room) s m #[(.ref a1)] below meth c s₁ [] 0 0 := Stand.of_body Bd
  have e0 : s₁.heap = h0 := by rw [← hh, Bd.state]; rfl
  have N0 := Fr.nil n0
  show own_G p e below (s₁.setTop (entryFrame m #[(.ref a1)] 3)) (fun s₂ o => ∃ v L, o = .returned v ∧ Q2_3 Z a1 k1 b0 b1 b2 h0 n0 v s₂.heap L ∧ FrameEnd s o s₂ L ({ frames := 2, cells := 1, slots := 3, locals := 32 } : Room).cells ({ frames := 2, cells := 1, slots := 3, locals := 32 } : Room).slots)
  refine own_go (fun t k => castTop (ef_2 m a1) k) ?_
  show own_G p e below (s₁.setTop (mkF m 0 #[.val (.ref a1), .unset, .unset] [])) _
  refine own_go (fun _ k => XS.aloadN X0.here hx rfl (hb hby d2_0) rfl rfl k) ?_
  show own_G p e below (s₁.setTop (mkF m 1 #[.val (.ref a1), .unset, .unset] [(.ref a1)])) _
  obtain ⟨cl84, Ar84, q84, S84, M84, B84, G84⟩ := id V_a1
  refine own_go (X0.arraylength hx (by rw [e0]; exact Ar84.1) (State.isArrayOf_alike hZ.alike Ar84.2.1) (g := (mkF m 1 #[.val (.ref a1), .unset, .unset] [(.ref a1)])) rfl rfl (hb hby d2_1)) ?_
  rw [len_of S84 M84]
  show own_G p e below (s₁.setTop (mkF m 2 #[.val (.ref a1), .unset, .unset] [(.int (3 : Int32))])) _
  refine own_go (fun _ k => XS.iconst X0.here hx rfl (hb hby d2_2) k) ?_
  show own_G p e below (s₁.setTop (mkF m 3 #[.val (.ref a1), .unset, .unset] [(.int (1 : Int32)), (.int (3 : Int32))])) _
  refine own_go (fun _ k => XS.isub X0.here hx rfl (hb hby d2_3) rfl k) ?_
  show own_G p e below (s₁.setTop (mkF m 4 #[.val (.ref a1), .unset, .unset] [(.int (2 : Int32))])) _
  refine own_go (fun _ k => XS.istoreN X0.here hx rfl (hb hby d2_4) rfl (l' := #[.val (.ref a1), .val (.int (2 : Int32)), .unset]) rfl k) ?_
  show own_G p e below (s₁.setTop (mkF m 5 #[.val (.ref a1), .val (.int (2 : Int32)), .unset] [])) _
  refine own_go (fun _ k => XS.iloadN X0.here hx rfl (hb hby d2_5) rfl k) ?_
  show own_G p e below (s₁.setTop (mkF m 6 #[.val (.ref a1), .val (.int (2 : Int32)), .unset] [(.int (2 : Int32))])) _
  refine own_go (fun _ k => XS.ifNo X0.here hx rfl (hb hby d2_6) rfl ((if0 _ _).trans (flt (by decide : ¬ ((2 : Int32) < (0 : Int32)))).1) k) ?_
  show own_G p e below (s₁.setTop (mkF m 9 #[.val (.ref a1), .val (.int (2 : Int32)), .unset] [])) _
  refine own_go (fun _ k => XS.aloadN X0.here hx rfl (hb hby d2_9) rfl rfl k) ?_
  show own_G p e below (s₁.setTop (mkF m 10 #[.val (.ref a1), .val (.int (2 : Int32)), .unset] [(.ref a1)])) _
  refine own_go (fun _ k => XS.iloadN X0.here hx rfl (hb hby d2_10) rfl k) ?_
  show own_G p e below (s₁.setTop (mkF m 11 #[.val (.ref a1), .val (.int (2 : Int32)), .unset] [(.int (2 : Int32)), (.ref a1)])) _
  obtain ⟨cl85, Ar85, q85, S85, M85, B85, G85⟩ := id V_a1
  have hin85 : ¬ ((2 : Int32) < 0 ∨ cl85.slots.size ≤ ((2 : Int32)).toNatClampNeg) := inb_of S85 ⟨by decide, by decide⟩
  have hat85 : cl85.slots[((2 : Int32)).toNatClampNeg]? = some (.int b2) := B85.at hin85 rfl
  refine own_go (X0.baloadBytes hx (j := (2 : Int32)) (v := (.int b2)) (by rw [e0]; exact Ar85.1) (State.isArrayOf_alike hZ.alike Ar85.2.1) Ar85.2.2 hin85 hat85 (g := (mkF m 11 #[.val (.ref a1), .val (.int (2 : Int32)), .unset] [(.int (2 : Int32)), (.ref a1)])) rfl rfl (hb hby d2_11)) ?_
  show own_G p e below (s₁.setTop (mkF m 12 #[.val (.ref a1), .val (.int (2 : Int32)), .unset] [(.int b2)])) _
  refine own_go (fun _ k => XS.iconst X0.here hx rfl (hb hby d2_12) k) ?_
  show own_G p e below (s₁.setTop (mkF m 13 #[.val (.ref a1), .val (.int (2 : Int32)), .unset] [(.int (-1 : Int32)), (.int b2)])) _
  by_cases hc13_86 : b2 = (-1 : Int32)
  · refine own_go (fun _ k => XS.icmpYes X0.here hx rfl (pc0 := 13) (pc' := 34) rfl (hb hby d2_13) rfl (teq hc13_86).1 (by decide) (by decide) k) ?_
    show own_G p e below (s₁.setTop (mkF m 34 #[.val (.ref a1), .val (.int (2 : Int32)), .unset] [])) _
    refine own_go (fun _ k => XS.iinc X0.here hx rfl (hb hby d2_34) rfl (l' := #[.val (.ref a1), .val (.int (1 : Int32)), .unset]) rfl k) ?_
    show own_G p e below (s₁.setTop (mkF m 37 #[.val (.ref a1), .val (.int (1 : Int32)), .unset] [])) _
    refine own_go (fun _ k => XS.goto X0.here hx rfl (pc0 := 37) (pc' := 5) rfl (hb hby d2_37) (by decide) (by decide) k) ?_
    show own_G p e below (s₁.setTop (mkF m 5 #[.val (.ref a1), .val (.int (1 : Int32)), .unset] [])) _
    refine own_go (fun _ k => XS.iloadN X0.here hx rfl (hb hby d2_5) rfl k) ?_
    show own_G p e below (s₁.setTop (mkF m 6 #[.val (.ref a1), .val (.int (1 : Int32)), .unset] [(.int (1 : Int32))])) _
    refine own_go (fun _ k => XS.ifNo X0.here hx rfl (hb hby d2_6) rfl ((if0 _ _).trans (flt (by decide : ¬ ((1 : Int32) < (0 : Int32)))).1) k) ?_
    show own_G p e below (s₁.setTop (mkF m 9 #[.val (.ref a1), .val (.int (1 : Int32)), .unset] [])) _
    refine own_go (fun _ k => XS.aloadN X0.here hx rfl (hb hby d2_9) rfl rfl k) ?_
    show own_G p e below (s₁.setTop (mkF m 10 #[.val (.ref a1), .val (.int (1 : Int32)), .unset] [(.ref a1)])) _
    refine own_go (fun _ k => XS.iloadN X0.here hx rfl (hb hby d2_10) rfl k) ?_
    show own_G p e below (s₁.setTop (mkF m 11 #[.val (.ref a1), .val (.int (1 : Int32)), .unset] [(.int (1 : Int32)), (.ref a1)])) _
    obtain ⟨cl87, Ar87, q87, S87, M87, B87, G87⟩ := id V_a1
    have hin87 : ¬ ((1 : Int32) < 0 ∨ cl87.slots.size ≤ ((1 : Int32)).toNatClampNeg) := inb_of S87 ⟨by decide, by decide⟩
    have hat87 : cl87.slots[((1 : Int32)).toNatClampNeg]? = some (.int b1) := B87.at hin87 rfl
    refine own_go (X0.baloadBytes hx (j := (1 : Int32)) (v := (.int b1)) (by rw [e0]; exact Ar87.1) (State.isArrayOf_alike hZ.alike Ar87.2.1) Ar87.2.2 hin87 hat87 (g := (mkF m 11 #[.val (.ref a1), .val (.int (1 : Int32)), .unset] [(.int (1 : Int32)), (.ref a1)])) rfl rfl (hb hby d2_11)) ?_
    show own_G p e below (s₁.setTop (mkF m 12 #[.val (.ref a1), .val (.int (1 : Int32)), .unset] [(.int b1)])) _
    refine own_go (fun _ k => XS.iconst X0.here hx rfl (hb hby d2_12) k) ?_
    show own_G p e below (s₁.setTop (mkF m 13 #[.val (.ref a1), .val (.int (1 : Int32)), .unset] [(.int (-1 : Int32)), (.int b1)])) _
    by_cases hc13_88 : b1 = (-1 : Int32)
    · refine own_go (fun _ k => XS.icmpYes X0.here hx rfl (pc0 := 13) (pc' := 34) rfl (hb hby d2_13) rfl (teq hc13_88).1 (by decide) (by decide) k) ?_
      show own_G p e below (s₁.setTop (mkF m 34 #[.val (.ref a1), .val (.int (1 : Int32)), .unset] [])) _
      refine own_go (fun _ k => XS.iinc X0.here hx rfl (hb hby d2_34) rfl (l' := #[.val (.ref a1), .val (.int (0 : Int32)), .unset]) rfl k) ?_
      show own_G p e below (s₁.setTop (mkF m 37 #[.val (.ref a1), .val (.int (0 : Int32)), .unset] [])) _
      refine own_go (fun _ k => XS.goto X0.here hx rfl (pc0 := 37) (pc' := 5) rfl (hb hby d2_37) (by decide) (by decide) k) ?_
      show own_G p e below (s₁.setTop (mkF m 5 #[.val (.ref a1), .val (.int (0 : Int32)), .unset] [])) _
      refine own_go (fun _ k => XS.iloadN X0.here hx rfl (hb hby d2_5) rfl k) ?_
      show own_G p e below (s₁.setTop (mkF m 6 #[.val (.ref a1), .val (.int (0 : Int32)), .unset] [(.int (0 : Int32))])) _
      refine own_go (fun _ k => XS.ifNo X0.here hx rfl (hb hby d2_6) rfl ((if0 _ _).trans (flt (by decide : ¬ ((0 : Int32) < (0 : Int32)))).1) k) ?_
      show own_G p e below (s₁.setTop (mkF m 9 #[.val (.ref a1), .val (.int (0 : Int32)), .unset] [])) _
      refine own_go (fun _ k => XS.aloadN X0.here hx rfl (hb hby d2_9) rfl rfl k) ?_
      show own_G p e below (s₁.setTop (mkF m 10 #[.val (.ref a1), .val (.int (0 : Int32)), .unset] [(.ref a1)])) _
      refine own_go (fun _ k => XS.iloadN X0.here hx rfl (hb hby d2_10) rfl k) ?_
      show own_G p e below (s₁.setTop (mkF m 11 #[.val (.ref a1), .val (.int (0 : Int32)), .unset] [(.int (0 : Int32)), (.ref a1)])) _
      obtain ⟨cl89, Ar89, q89, S89, M89, B89, G89⟩ := id V_a1
      have hin89 : ¬ ((0 : Int32) < 0 ∨ cl89.slots.size ≤ ((0 : Int32)).toNatClampNeg) := inb_of S89 ⟨by decide, by decide⟩
      have hat89 : cl89.slots[((0 : Int32)).toNatClampNeg]? = some (.int b0) := B89.at hin89 rfl
      refine own_go (X0.baloadBytes hx (j := (0 : Int32)) (v := (.int b0)) (by rw [e0]; exact Ar89.1) (State.isArrayOf_alike hZ.alike Ar89.2.1) Ar89.2.2 hin89 hat89 (g := (mkF m 11 #[.val (.ref a1), .val (.int (0 : Int32)), .unset] [(.int (0 : Int32)), (.ref a1)])) rfl rfl (hb hby d2_11)) ?_
      show own_G p e below (s₁.setTop (mkF m 12 #[.val (.ref a1), .val (.int (0 : Int32)), .unset] [(.int b0)])) _
      refine own_go (fun _ k => XS.iconst X0.here hx rfl (hb hby d2_12) k) ?_
      show own_G p e below (s₁.setTop (mkF m 13 #[.val (.ref a1), .val (.int (0 : Int32)), .unset] [(.int (-1 : Int32)), (.int b0)])) _
      by_cases hc13_90 : b0 = (-1 : Int32)
      · refine own_go (fun _ k => XS.icmpYes X0.here hx rfl (pc0 := 13) (pc' := 34) rfl (hb hby d2_13) rfl (teq hc13_90).1 (by decide) (by decide) k) ?_
        show own_G p e below (s₁.setTop (mkF m 34 #[.val (.ref a1), .val (.int (0 : Int32)), .unset] [])) _
        refine own_go (fun _ k => XS.iinc X0.here hx rfl (hb hby d2_34) rfl (l' := #[.val (.ref a1), .val (.int (-1 : Int32)), .unset]) rfl k) ?_
        show own_G p e below (s₁.setTop (mkF m 37 #[.val (.ref a1), .val (.int (-1 : Int32)), .unset] [])) _
        refine own_go (fun _ k => XS.goto X0.here hx rfl (pc0 := 37) (pc' := 5) rfl (hb hby d2_37) (by decide) (by decide) k) ?_
        show own_G p e below (s₁.setTop (mkF m 5 #[.val (.ref a1), .val (.int (-1 : Int32)), .unset] [])) _
        refine own_go (fun _ k => XS.iloadN X0.here hx rfl (hb hby d2_5) rfl k) ?_
        show own_G p e below (s₁.setTop (mkF m 6 #[.val (.ref a1), .val (.int (-1 : Int32)), .unset] [(.int (-1 : Int32))])) _
        refine own_go (fun _ k => XS.ifYes X0.here hx rfl (pc0 := 6) (pc' := 40) rfl (hb hby d2_6) rfl ((if0 _ _).trans (tlt (by decide : (-1 : Int32) < (0 : Int32))).1) (by decide) (by decide) k) ?_
        show own_G p e below (s₁.setTop (mkF m 40 #[.val (.ref a1), .val (.int (-1 : Int32)), .unset] [])) _
        refine own_go (fun _ k => XS.aconstNull X0.here hx rfl (hb hby d2_40) k) ?_
        show own_G p e below (s₁.setTop (mkF m 41 #[.val (.ref a1), .val (.int (-1 : Int32)), .unset] [.null])) _
        refine own_ret X0 hlk (v := some .null) (fun h => by rw [hret] at h; cases h) (Q2_3 Z a1 k1 b0 b1 b2 h0 n0) (own_retI X0 hx (t := (.array .byte)) hret rfl (Or.inr (Or.inr (Or.inr (Or.inr ⟨rfl, rfl, rfl⟩)))) (hb hby d2_41)) (by decide) (by decide) ?_
        show Q2_3 Z a1 k1 b0 b1 b2 h0 n0 _ s₁.heap _
        rw [e0]
        exact ⟨N0, (Keep.refl h0 []), Or.inr (Or.inr (Or.inr (⟨rfl, hc13_90, hc13_88, hc13_86⟩)))⟩
      · refine own_go (fun _ k => XS.icmpNo X0.here hx rfl (hb hby d2_13) rfl (feq hc13_90).1 k) ?_
        show own_G p e below (s₁.setTop (mkF m 16 #[.val (.ref a1), .val (.int (0 : Int32)), .unset] [])) _
        refine own_go (fun _ k => XS.aloadN X0.here hx rfl (hb hby d2_16) rfl rfl k) ?_
        show own_G p e below (s₁.setTop (mkF m 17 #[.val (.ref a1), .val (.int (0 : Int32)), .unset] [(.ref a1)])) _
        refine own_go (fun _ k => XS.iloadN X0.here hx rfl (hb hby d2_17) rfl k) ?_
        show own_G p e below (s₁.setTop (mkF m 18 #[.val (.ref a1), .val (.int (0 : Int32)), .unset] [(.int (0 : Int32)), (.ref a1)])) _
        refine own_go (fun _ k => XS.iconst X0.here hx rfl (hb hby d2_18) k) ?_
        show own_G p e below (s₁.setTop (mkF m 19 #[.val (.ref a1), .val (.int (0 : Int32)), .unset] [(.int (1 : Int32)), (.int (0 : Int32)), (.ref a1)])) _
        refine own_go (fun _ k => XS.iadd X0.here hx rfl (hb hby d2_19) rfl k) ?_
        show own_G p e below (s₁.setTop (mkF m 20 #[.val (.ref a1), .val (.int (0 : Int32)), .unset] [(.int (1 : Int32)), (.ref a1)])) _
        obtain ⟨_, _, ⟨T91, L91, k91, n91⟩, -, X91, ⟨Lc91, hQ91, l91, y91, z91⟩, st91⟩ := Jvm.LawKit.callS X0 hx (y := (⟨"java/util/Arrays", "copyOf", "([BI)[B"⟩ : MethodName)) hown (mvT hZ (hw _ (List.mem_of_getElem? (i := 9) rfl))) (mvT hZ (hw _ (List.mem_of_getElem? (i := 10) rfl))) (mvT hZ (hw _ (List.mem_of_getElem? (i := 11) rfl))) (mvT hZ (hw _ (List.mem_of_getElem? (i := 12) rfl))) (by decide) (backOf (W := 0) (rm3 l Z a0 hw [] a1 (1 : Int32) k1 (3 : Int32) [(.int b0), (.int b1), (.int b2)] 1 h0 n0 Z0 V_a1 E_a1 (by decide) (by decide) (by decide) (Nat.le_of_ble_eq_true rfl)) hZ (hw _ (List.mem_of_getElem? (i := 12) rfl)) (hw _ (List.mem_of_getElem? (i := 11) rfl)) (by decide) (by decide)) (g := (mkF m 20 #[.val (.ref a1), .val (.int (0 : Int32)), .unset] [(.int (1 : Int32)), (.ref a1)])) rfl (by rw [hml]; rfl) (argsL := [(.ref a1), (.int (1 : Int32))]) (rest := []) (lenOf pd_1 rfl) rfl (by show 2 * 0 + _ ≤ _; exact Nat.le_of_eq rfl) (hb hby d2_20) (fun _ _ => ⟨rfl, e0, (by decide : 0 + 1 ≤ _), (by decide : 0 + 1 ≤ _)⟩)
        dsimp only [Pt.U, Pt.locs, Pt.cells, Pt.slots] at X91 l91 y91 z91 st91 hQ91
        subst l91 y91 z91
        obtain ⟨b91, k91q, rfl, Nq91, K91, hsz91, E91q, Vq91⟩ := hQ91
        have N91 := Fr.app N0 Nq91
        refine own_go st91 ?_
        have ne92 : a1 ≠ b91 := Nat.ne_of_lt (Nat.lt_of_lt_of_le V_a1.lt hsz91)
        have ge93 : n0 ≤ b91 := Nat.le_trans Z0 hsz91
        have sz94 : h0.size ≤ b91 := Nat.le_trans (Keep.refl h0 []).1 hsz91
        have f95 := V_a1.keep K91 nin0
        have f96 := E_a1.keep K91
        have zs97 : n0 ≤ T91.heap.size := Nat.le_trans Z0 K91.1
        have kp98 : Keep h0 T91.heap [] := (Keep.refl h0 []).trans K91 all0
        have V91 : Arv Z T91.heap b91 k91q .byte (1 : Int32) [(.int b0)] (.int (0 : Int32)) := Vq91
        show own_G p e below (T91.setTop (mkF m 23 #[.val (.ref a1), .val (.int (0 : Int32)), .unset] [(.ref b91)])) _
        refine own_go (fun _ k => XS.astoreN X91.here hx rfl (hb hby d2_23) rfl rfl (l' := #[.val (.ref a1), .val (.int (0 : Int32)), .val (.ref b91)]) rfl k) ?_
        show own_G p e below (T91.setTop (mkF m 24 #[.val (.ref a1), .val (.int (0 : Int32)), .val (.ref b91)] [])) _
        refine own_go (fun _ k => XS.aloadN X91.here hx rfl (hb hby d2_24) rfl rfl k) ?_
        show own_G p e below (T91.setTop (mkF m 25 #[.val (.ref a1), .val (.int (0 : Int32)), .val (.ref b91)] [(.ref b91)])) _
        refine own_go (fun _ k => XS.iloadN X91.here hx rfl (hb hby d2_25) rfl k) ?_
        show own_G p e below (T91.setTop (mkF m 26 #[.val (.ref a1), .val (.int (0 : Int32)), .val (.ref b91)] [(.int (0 : Int32)), (.ref b91)])) _
        refine own_go (fun _ k => XT.dup2 X91.here hx rfl (hb hby d2_26) rfl rfl rfl k) ?_
        show own_G p e below (T91.setTop (mkF m 27 #[.val (.ref a1), .val (.int (0 : Int32)), .val (.ref b91)] [(.int (0 : Int32)), (.ref b91), (.int (0 : Int32)), (.ref b91)])) _
        obtain ⟨cl99, Ar99, q99, S99, M99, B99, G99⟩ := id V91
        have hin99 : ¬ ((0 : Int32) < 0 ∨ cl99.slots.size ≤ ((0 : Int32)).toNatClampNeg) := inb_of S99 ⟨by decide, by decide⟩
        have hat99 : cl99.slots[((0 : Int32)).toNatClampNeg]? = some (.int b0) := B99.at hin99 rfl
        refine own_go (X91.baloadBytes hx (j := (0 : Int32)) (v := (.int b0)) Ar99.1 (State.isArrayOf_alike hZ.alike Ar99.2.1) Ar99.2.2 hin99 hat99 (g := (mkF m 27 #[.val (.ref a1), .val (.int (0 : Int32)), .val (.ref b91)] [(.int (0 : Int32)), (.ref b91), (.int (0 : Int32)), (.ref b91)])) rfl rfl (hb hby d2_27)) ?_
        show own_G p e below (T91.setTop (mkF m 28 #[.val (.ref a1), .val (.int (0 : Int32)), .val (.ref b91)] [(.int b0), (.int (0 : Int32)), (.ref b91)])) _
        refine own_go (fun _ k => XS.iconst X91.here hx rfl (hb hby d2_28) k) ?_
        show own_G p e below (T91.setTop (mkF m 29 #[.val (.ref a1), .val (.int (0 : Int32)), .val (.ref b91)] [(.int (1 : Int32)), (.int b0), (.int (0 : Int32)), (.ref b91)])) _
        refine own_go (fun _ k => XS.iadd X91.here hx rfl (hb hby d2_29) rfl k) ?_
        show own_G p e below (T91.setTop (mkF m 30 #[.val (.ref a1), .val (.int (0 : Int32)), .val (.ref b91)] [(.int (b0 + (1 : Int32))), (.int (0 : Int32)), (.ref b91)])) _
        refine own_go (fun _ k => XS.i2b X91.here hx rfl (hb hby d2_30) rfl k) ?_
        show own_G p e below (T91.setTop (mkF m 31 #[.val (.ref a1), .val (.int (0 : Int32)), .val (.ref b91)] [(.int ((b0 + (1 : Int32)).toInt8.toInt32)), (.int (0 : Int32)), (.ref b91)])) _
        obtain ⟨cl100, Ar100, q100, S100, M100, B100, G100⟩ := id V91
        have hin100 : ¬ ((0 : Int32) < 0 ∨ cl100.slots.size ≤ ((0 : Int32)).toNatClampNeg) := inb_of S100 ⟨by decide, by decide⟩
        obtain ⟨T100, h100, X100, e100, W100, st100⟩ := stB X91 hx hZ rfl Ar100 (j := (0 : Int32)) hin100 (g := (mkF m 31 #[.val (.ref a1), .val (.int (0 : Int32)), .val (.ref b91)] [(.int ((b0 + (1 : Int32)).toInt8.toInt32)), (.int (0 : Int32)), (.ref b91)])) rfl rfl (hb hby d2_31)
        refine own_go st100 ?_
        rw [show nar .byte ((b0 + (1 : Int32)).toInt8.toInt32) = ((b0 + (1 : Int32)).toInt8.toInt32) from (own_bb _)] at W100
        have f101 := f95.other W100 ne92
        have f102 := f96.wr W100
        have f103 := E91q.wr W100
        have zs104 : n0 ≤ h100.size := Nat.le_trans zs97 (Keep.of_wr W100).1
        have kp105 : Keep h0 h100 [] := kp98.wr W100 (Or.inr sz94)
        have V100 : Arv Z h100 b91 k91q .byte (1 : Int32) [(.int ((b0 + (1 : Int32)).toInt8.toInt32))] (.int (0 : Int32)) := Arv.set Ar100 q100 S100 M100 B100 G100 (fits_nar_byte _) W100 0 rfl (Nat.le_of_ble_eq_true rfl)
        have N100 := Fr.snoc X100 N91 ge93
        show own_G p e below (T100.setTop (mkF m 32 #[.val (.ref a1), .val (.int (0 : Int32)), .val (.ref b91)] [])) _
        refine own_go (fun _ k => XS.aloadN X100.here hx rfl (hb hby d2_32) rfl rfl k) ?_
        show own_G p e below (T100.setTop (mkF m 33 #[.val (.ref a1), .val (.int (0 : Int32)), .val (.ref b91)] [(.ref b91)])) _
        refine own_ret X100 hlk (v := some (.ref b91)) (fun h => by rw [hret] at h; cases h) (Q2_3 Z a1 k1 b0 b1 b2 h0 n0) (own_retI X100 hx (t := (.array .byte)) hret rfl (Or.inr (Or.inr (Or.inr (Or.inr ⟨rfl, rfl, rfl⟩)))) (hb hby d2_33)) (by decide) (by decide) ?_
        show Q2_3 Z a1 k1 b0 b1 b2 h0 n0 _ T100.heap _
        rw [e100]
        exact ⟨N100, kp105, Or.inr (Or.inr (Or.inl (⟨⟨hc13_90, hc13_88, hc13_86⟩, b91, k91q, rfl, V100⟩)))⟩
    · refine own_go (fun _ k => XS.icmpNo X0.here hx rfl (hb hby d2_13) rfl (feq hc13_88).1 k) ?_
      show own_G p e below (s₁.setTop (mkF m 16 #[.val (.ref a1), .val (.int (1 : Int32)), .unset] [])) _
      refine own_go (fun _ k => XS.aloadN X0.here hx rfl (hb hby d2_16) rfl rfl k) ?_
      show own_G p e below (s₁.setTop (mkF m 17 #[.val (.ref a1), .val (.int (1 : Int32)), .unset] [(.ref a1)])) _
      refine own_go (fun _ k => XS.iloadN X0.here hx rfl (hb hby d2_17) rfl k) ?_
      show own_G p e below (s₁.setTop (mkF m 18 #[.val (.ref a1), .val (.int (1 : Int32)), .unset] [(.int (1 : Int32)), (.ref a1)])) _
      refine own_go (fun _ k => XS.iconst X0.here hx rfl (hb hby d2_18) k) ?_
      show own_G p e below (s₁.setTop (mkF m 19 #[.val (.ref a1), .val (.int (1 : Int32)), .unset] [(.int (1 : Int32)), (.int (1 : Int32)), (.ref a1)])) _
      refine own_go (fun _ k => XS.iadd X0.here hx rfl (hb hby d2_19) rfl k) ?_
      show own_G p e below (s₁.setTop (mkF m 20 #[.val (.ref a1), .val (.int (1 : Int32)), .unset] [(.int (2 : Int32)), (.ref a1)])) _
      obtain ⟨_, _, ⟨T106, L106, k106, n106⟩, -, X106, ⟨Lc106, hQ106, l106, y106, z106⟩, st106⟩ := Jvm.LawKit.callS X0 hx (y := (⟨"java/util/Arrays", "copyOf", "([BI)[B"⟩ : MethodName)) hown (mvT hZ (hw _ (List.mem_of_getElem? (i := 9) rfl))) (mvT hZ (hw _ (List.mem_of_getElem? (i := 10) rfl))) (mvT hZ (hw _ (List.mem_of_getElem? (i := 11) rfl))) (mvT hZ (hw _ (List.mem_of_getElem? (i := 12) rfl))) (by decide) (backOf (W := 0) (rm3 l Z a0 hw [] a1 (2 : Int32) k1 (3 : Int32) [(.int b0), (.int b1), (.int b2)] 2 h0 n0 Z0 V_a1 E_a1 (by decide) (by decide) (by decide) (Nat.le_of_ble_eq_true rfl)) hZ (hw _ (List.mem_of_getElem? (i := 12) rfl)) (hw _ (List.mem_of_getElem? (i := 11) rfl)) (by decide) (by decide)) (g := (mkF m 20 #[.val (.ref a1), .val (.int (1 : Int32)), .unset] [(.int (2 : Int32)), (.ref a1)])) rfl (by rw [hml]; rfl) (argsL := [(.ref a1), (.int (2 : Int32))]) (rest := []) (lenOf pd_1 rfl) rfl (by show 2 * 0 + _ ≤ _; exact Nat.le_of_eq rfl) (hb hby d2_20) (fun _ _ => ⟨rfl, e0, (by decide : 0 + 1 ≤ _), (by decide : 0 + 2 ≤ _)⟩)
      dsimp only [Pt.U, Pt.locs, Pt.cells, Pt.slots] at X106 l106 y106 z106 st106 hQ106
      subst l106 y106 z106
      obtain ⟨b106, k106q, rfl, Nq106, K106, hsz106, E106q, Vq106⟩ := hQ106
      have N106 := Fr.app N0 Nq106
      refine own_go st106 ?_
      have ne107 : a1 ≠ b106 := Nat.ne_of_lt (Nat.lt_of_lt_of_le V_a1.lt hsz106)
      have ge108 : n0 ≤ b106 := Nat.le_trans Z0 hsz106
      have sz109 : h0.size ≤ b106 := Nat.le_trans (Keep.refl h0 []).1 hsz106
      have f110 := V_a1.keep K106 nin0
      have f111 := E_a1.keep K106
      have zs112 : n0 ≤ T106.heap.size := Nat.le_trans Z0 K106.1
      have kp113 : Keep h0 T106.heap [] := (Keep.refl h0 []).trans K106 all0
      have V106 : Arv Z T106.heap b106 k106q .byte (2 : Int32) [(.int b0), (.int b1)] (.int (0 : Int32)) := Vq106
      show own_G p e below (T106.setTop (mkF m 23 #[.val (.ref a1), .val (.int (1 : Int32)), .unset] [(.ref b106)])) _
      refine own_go (fun _ k => XS.astoreN X106.here hx rfl (hb hby d2_23) rfl rfl (l' := #[.val (.ref a1), .val (.int (1 : Int32)), .val (.ref b106)]) rfl k) ?_
      show own_G p e below (T106.setTop (mkF m 24 #[.val (.ref a1), .val (.int (1 : Int32)), .val (.ref b106)] [])) _
      refine own_go (fun _ k => XS.aloadN X106.here hx rfl (hb hby d2_24) rfl rfl k) ?_
      show own_G p e below (T106.setTop (mkF m 25 #[.val (.ref a1), .val (.int (1 : Int32)), .val (.ref b106)] [(.ref b106)])) _
      refine own_go (fun _ k => XS.iloadN X106.here hx rfl (hb hby d2_25) rfl k) ?_
      show own_G p e below (T106.setTop (mkF m 26 #[.val (.ref a1), .val (.int (1 : Int32)), .val (.ref b106)] [(.int (1 : Int32)), (.ref b106)])) _
      refine own_go (fun _ k => XT.dup2 X106.here hx rfl (hb hby d2_26) rfl rfl rfl k) ?_
      show own_G p e below (T106.setTop (mkF m 27 #[.val (.ref a1), .val (.int (1 : Int32)), .val (.ref b106)] [(.int (1 : Int32)), (.ref b106), (.int (1 : Int32)), (.ref b106)])) _
      obtain ⟨cl114, Ar114, q114, S114, M114, B114, G114⟩ := id V106
      have hin114 : ¬ ((1 : Int32) < 0 ∨ cl114.slots.size ≤ ((1 : Int32)).toNatClampNeg) := inb_of S114 ⟨by decide, by decide⟩
      have hat114 : cl114.slots[((1 : Int32)).toNatClampNeg]? = some (.int b1) := B114.at hin114 rfl
      refine own_go (X106.baloadBytes hx (j := (1 : Int32)) (v := (.int b1)) Ar114.1 (State.isArrayOf_alike hZ.alike Ar114.2.1) Ar114.2.2 hin114 hat114 (g := (mkF m 27 #[.val (.ref a1), .val (.int (1 : Int32)), .val (.ref b106)] [(.int (1 : Int32)), (.ref b106), (.int (1 : Int32)), (.ref b106)])) rfl rfl (hb hby d2_27)) ?_
      show own_G p e below (T106.setTop (mkF m 28 #[.val (.ref a1), .val (.int (1 : Int32)), .val (.ref b106)] [(.int b1), (.int (1 : Int32)), (.ref b106)])) _
      refine own_go (fun _ k => XS.iconst X106.here hx rfl (hb hby d2_28) k) ?_
      show own_G p e below (T106.setTop (mkF m 29 #[.val (.ref a1), .val (.int (1 : Int32)), .val (.ref b106)] [(.int (1 : Int32)), (.int b1), (.int (1 : Int32)), (.ref b106)])) _
      refine own_go (fun _ k => XS.iadd X106.here hx rfl (hb hby d2_29) rfl k) ?_
      show own_G p e below (T106.setTop (mkF m 30 #[.val (.ref a1), .val (.int (1 : Int32)), .val (.ref b106)] [(.int (b1 + (1 : Int32))), (.int (1 : Int32)), (.ref b106)])) _
      refine own_go (fun _ k => XS.i2b X106.here hx rfl (hb hby d2_30) rfl k) ?_
      show own_G p e below (T106.setTop (mkF m 31 #[.val (.ref a1), .val (.int (1 : Int32)), .val (.ref b106)] [(.int ((b1 + (1 : Int32)).toInt8.toInt32)), (.int (1 : Int32)), (.ref b106)])) _
      obtain ⟨cl115, Ar115, q115, S115, M115, B115, G115⟩ := id V106
      have hin115 : ¬ ((1 : Int32) < 0 ∨ cl115.slots.size ≤ ((1 : Int32)).toNatClampNeg) := inb_of S115 ⟨by decide, by decide⟩
      obtain ⟨T115, h115, X115, e115, W115, st115⟩ := stB X106 hx hZ rfl Ar115 (j := (1 : Int32)) hin115 (g := (mkF m 31 #[.val (.ref a1), .val (.int (1 : Int32)), .val (.ref b106)] [(.int ((b1 + (1 : Int32)).toInt8.toInt32)), (.int (1 : Int32)), (.ref b106)])) rfl rfl (hb hby d2_31)
      refine own_go st115 ?_
      rw [show nar .byte ((b1 + (1 : Int32)).toInt8.toInt32) = ((b1 + (1 : Int32)).toInt8.toInt32) from (own_bb _)] at W115
      have f116 := f110.other W115 ne107
      have f117 := f111.wr W115
      have f118 := E106q.wr W115
      have zs119 : n0 ≤ h115.size := Nat.le_trans zs112 (Keep.of_wr W115).1
      have kp120 : Keep h0 h115 [] := kp113.wr W115 (Or.inr sz109)
      have V115 : Arv Z h115 b106 k106q .byte (2 : Int32) [(.int b0), (.int ((b1 + (1 : Int32)).toInt8.toInt32))] (.int (0 : Int32)) := Arv.set Ar115 q115 S115 M115 B115 G115 (fits_nar_byte _) W115 1 rfl (Nat.le_of_ble_eq_true rfl)
      have N115 := Fr.snoc X115 N106 ge108
      show own_G p e below (T115.setTop (mkF m 32 #[.val (.ref a1), .val (.int (1 : Int32)), .val (.ref b106)] [])) _
      refine own_go (fun _ k => XS.aloadN X115.here hx rfl (hb hby d2_32) rfl rfl k) ?_
      show own_G p e below (T115.setTop (mkF m 33 #[.val (.ref a1), .val (.int (1 : Int32)), .val (.ref b106)] [(.ref b106)])) _
      refine own_ret X115 hlk (v := some (.ref b106)) (fun h => by rw [hret] at h; cases h) (Q2_3 Z a1 k1 b0 b1 b2 h0 n0) (own_retI X115 hx (t := (.array .byte)) hret rfl (Or.inr (Or.inr (Or.inr (Or.inr ⟨rfl, rfl, rfl⟩)))) (hb hby d2_33)) (by decide) (by decide) ?_
      show Q2_3 Z a1 k1 b0 b1 b2 h0 n0 _ T115.heap _
      rw [e115]
      exact ⟨N115, kp120, Or.inr (Or.inl (⟨⟨hc13_88, hc13_86⟩, b106, k106q, rfl, V115⟩))⟩
  · refine own_go (fun _ k => XS.icmpNo X0.here hx rfl (hb hby d2_13) rfl (feq hc13_86).1 k) ?_
    show own_G p e below (s₁.setTop (mkF m 16 #[.val (.ref a1), .val (.int (2 : Int32)), .unset] [])) _
    refine own_go (fun _ k => XS.aloadN X0.here hx rfl (hb hby d2_16) rfl rfl k) ?_
    show own_G p e below (s₁.setTop (mkF m 17 #[.val (.ref a1), .val (.int (2 : Int32)), .unset] [(.ref a1)])) _
    refine own_go (fun _ k => XS.iloadN X0.here hx rfl (hb hby d2_17) rfl k) ?_
    show own_G p e below (s₁.setTop (mkF m 18 #[.val (.ref a1), .val (.int (2 : Int32)), .unset] [(.int (2 : Int32)), (.ref a1)])) _
    refine own_go (fun _ k => XS.iconst X0.here hx rfl (hb hby d2_18) k) ?_
    show own_G p e below (s₁.setTop (mkF m 19 #[.val (.ref a1), .val (.int (2 : Int32)), .unset] [(.int (1 : Int32)), (.int (2 : Int32)), (.ref a1)])) _
    refine own_go (fun _ k => XS.iadd X0.here hx rfl (hb hby d2_19) rfl k) ?_
    show own_G p e below (s₁.setTop (mkF m 20 #[.val (.ref a1), .val (.int (2 : Int32)), .unset] [(.int (3 : Int32)), (.ref a1)])) _
    obtain ⟨_, _, ⟨T121, L121, k121, n121⟩, -, X121, ⟨Lc121, hQ121, l121, y121, z121⟩, st121⟩ := Jvm.LawKit.callS X0 hx (y := (⟨"java/util/Arrays", "copyOf", "([BI)[B"⟩ : MethodName)) hown (mvT hZ (hw _ (List.mem_of_getElem? (i := 9) rfl))) (mvT hZ (hw _ (List.mem_of_getElem? (i := 10) rfl))) (mvT hZ (hw _ (List.mem_of_getElem? (i := 11) rfl))) (mvT hZ (hw _ (List.mem_of_getElem? (i := 12) rfl))) (by decide) (backOf (W := 0) (rm3 l Z a0 hw [] a1 (3 : Int32) k1 (3 : Int32) [(.int b0), (.int b1), (.int b2)] 3 h0 n0 Z0 V_a1 E_a1 (by decide) (by decide) (by decide) (Nat.le_of_ble_eq_true rfl)) hZ (hw _ (List.mem_of_getElem? (i := 12) rfl)) (hw _ (List.mem_of_getElem? (i := 11) rfl)) (by decide) (by decide)) (g := (mkF m 20 #[.val (.ref a1), .val (.int (2 : Int32)), .unset] [(.int (3 : Int32)), (.ref a1)])) rfl (by rw [hml]; rfl) (argsL := [(.ref a1), (.int (3 : Int32))]) (rest := []) (lenOf pd_1 rfl) rfl (by show 2 * 0 + _ ≤ _; exact Nat.le_of_eq rfl) (hb hby d2_20) (fun _ _ => ⟨rfl, e0, (by decide : 0 + 1 ≤ _), (by decide : 0 + 3 ≤ _)⟩)
    dsimp only [Pt.U, Pt.locs, Pt.cells, Pt.slots] at X121 l121 y121 z121 st121 hQ121
    subst l121 y121 z121
    obtain ⟨b121, k121q, rfl, Nq121, K121, hsz121, E121q, Vq121⟩ := hQ121
    have N121 := Fr.app N0 Nq121
    refine own_go st121 ?_
    have ne122 : a1 ≠ b121 := Nat.ne_of_lt (Nat.lt_of_lt_of_le V_a1.lt hsz121)
    have ge123 : n0 ≤ b121 := Nat.le_trans Z0 hsz121
    have sz124 : h0.size ≤ b121 := Nat.le_trans (Keep.refl h0 []).1 hsz121
    have f125 := V_a1.keep K121 nin0
    have f126 := E_a1.keep K121
    have zs127 : n0 ≤ T121.heap.size := Nat.le_trans Z0 K121.1
    have kp128 : Keep h0 T121.heap [] := (Keep.refl h0 []).trans K121 all0
    have V121 : Arv Z T121.heap b121 k121q .byte (3 : Int32) [(.int b0), (.int b1), (.int b2)] (.int (0 : Int32)) := Vq121
    show own_G p e below (T121.setTop (mkF m 23 #[.val (.ref a1), .val (.int (2 : Int32)), .unset] [(.ref b121)])) _
    refine own_go (fun _ k => XS.astoreN X121.here hx rfl (hb hby d2_23) rfl rfl (l' := #[.val (.ref a1), .val (.int (2 : Int32)), .val (.ref b121)]) rfl k) ?_
    show own_G p e below (T121.setTop (mkF m 24 #[.val (.ref a1), .val (.int (2 : Int32)), .val (.ref b121)] [])) _
    refine own_go (fun _ k => XS.aloadN X121.here hx rfl (hb hby d2_24) rfl rfl k) ?_
    show own_G p e below (T121.setTop (mkF m 25 #[.val (.ref a1), .val (.int (2 : Int32)), .val (.ref b121)] [(.ref b121)])) _
    refine own_go (fun _ k => XS.iloadN X121.here hx rfl (hb hby d2_25) rfl k) ?_
    show own_G p e below (T121.setTop (mkF m 26 #[.val (.ref a1), .val (.int (2 : Int32)), .val (.ref b121)] [(.int (2 : Int32)), (.ref b121)])) _
    refine own_go (fun _ k => XT.dup2 X121.here hx rfl (hb hby d2_26) rfl rfl rfl k) ?_
    show own_G p e below (T121.setTop (mkF m 27 #[.val (.ref a1), .val (.int (2 : Int32)), .val (.ref b121)] [(.int (2 : Int32)), (.ref b121), (.int (2 : Int32)), (.ref b121)])) _
    obtain ⟨cl129, Ar129, q129, S129, M129, B129, G129⟩ := id V121
    have hin129 : ¬ ((2 : Int32) < 0 ∨ cl129.slots.size ≤ ((2 : Int32)).toNatClampNeg) := inb_of S129 ⟨by decide, by decide⟩
    have hat129 : cl129.slots[((2 : Int32)).toNatClampNeg]? = some (.int b2) := B129.at hin129 rfl
    refine own_go (X121.baloadBytes hx (j := (2 : Int32)) (v := (.int b2)) Ar129.1 (State.isArrayOf_alike hZ.alike Ar129.2.1) Ar129.2.2 hin129 hat129 (g := (mkF m 27 #[.val (.ref a1), .val (.int (2 : Int32)), .val (.ref b121)] [(.int (2 : Int32)), (.ref b121), (.int (2 : Int32)), (.ref b121)])) rfl rfl (hb hby d2_27)) ?_
    show own_G p e below (T121.setTop (mkF m 28 #[.val (.ref a1), .val (.int (2 : Int32)), .val (.ref b121)] [(.int b2), (.int (2 : Int32)), (.ref b121)])) _
    refine own_go (fun _ k => XS.iconst X121.here hx rfl (hb hby d2_28) k) ?_
    show own_G p e below (T121.setTop (mkF m 29 #[.val (.ref a1), .val (.int (2 : Int32)), .val (.ref b121)] [(.int (1 : Int32)), (.int b2), (.int (2 : Int32)), (.ref b121)])) _
    refine own_go (fun _ k => XS.iadd X121.here hx rfl (hb hby d2_29) rfl k) ?_
    show own_G p e below (T121.setTop (mkF m 30 #[.val (.ref a1), .val (.int (2 : Int32)), .val (.ref b121)] [(.int (b2 + (1 : Int32))), (.int (2 : Int32)), (.ref b121)])) _
    refine own_go (fun _ k => XS.i2b X121.here hx rfl (hb hby d2_30) rfl k) ?_
    show own_G p e below (T121.setTop (mkF m 31 #[.val (.ref a1), .val (.int (2 : Int32)), .val (.ref b121)] [(.int ((b2 + (1 : Int32)).toInt8.toInt32)), (.int (2 : Int32)), (.ref b121)])) _
    obtain ⟨cl130, Ar130, q130, S130, M130, B130, G130⟩ := id V121
    have hin130 : ¬ ((2 : Int32) < 0 ∨ cl130.slots.size ≤ ((2 : Int32)).toNatClampNeg) := inb_of S130 ⟨by decide, by decide⟩
    obtain ⟨T130, h130, X130, e130, W130, st130⟩ := stB X121 hx hZ rfl Ar130 (j := (2 : Int32)) hin130 (g := (mkF m 31 #[.val (.ref a1), .val (.int (2 : Int32)), .val (.ref b121)] [(.int ((b2 + (1 : Int32)).toInt8.toInt32)), (.int (2 : Int32)), (.ref b121)])) rfl rfl (hb hby d2_31)
    refine own_go st130 ?_
    rw [show nar .byte ((b2 + (1 : Int32)).toInt8.toInt32) = ((b2 + (1 : Int32)).toInt8.toInt32) from (own_bb _)] at W130
    have f131 := f125.other W130 ne122
    have f132 := f126.wr W130
    have f133 := E121q.wr W130
    have zs134 : n0 ≤ h130.size := Nat.le_trans zs127 (Keep.of_wr W130).1
    have kp135 : Keep h0 h130 [] := kp128.wr W130 (Or.inr sz124)
    have V130 : Arv Z h130 b121 k121q .byte (3 : Int32) [(.int b0), (.int b1), (.int ((b2 + (1 : Int32)).toInt8.toInt32))] (.int (0 : Int32)) := Arv.set Ar130 q130 S130 M130 B130 G130 (fits_nar_byte _) W130 2 rfl (Nat.le_of_ble_eq_true rfl)
    have N130 := Fr.snoc X130 N121 ge123
    show own_G p e below (T130.setTop (mkF m 32 #[.val (.ref a1), .val (.int (2 : Int32)), .val (.ref b121)] [])) _
    refine own_go (fun _ k => XS.aloadN X130.here hx rfl (hb hby d2_32) rfl rfl k) ?_
    show own_G p e below (T130.setTop (mkF m 33 #[.val (.ref a1), .val (.int (2 : Int32)), .val (.ref b121)] [(.ref b121)])) _
    refine own_ret X130 hlk (v := some (.ref b121)) (fun h => by rw [hret] at h; cases h) (Q2_3 Z a1 k1 b0 b1 b2 h0 n0) (own_retI X130 hx (t := (.array .byte)) hret rfl (Or.inr (Or.inr (Or.inr (Or.inr ⟨rfl, rfl, rfl⟩)))) (hb hby d2_33)) (by decide) (by decide) ?_
    show Q2_3 Z a1 k1 b0 b1 b2 h0 n0 _ T130.heap _
    rw [e130]
    exact ⟨N130, kp135, Or.inl (⟨hc13_86, b121, k121q, rfl, V130⟩)⟩
theorem ef_0 (m : MethodId) (p1 : Int32) (p2 : Int32) (p3 : Int32) (p4 : Int32) : entryFrame m #[(.int p1), (.int p2), (.int p3), (.int p4)] maxLocals = mkF m 0 #[.val (.int p1), .val (.int p2), .val (.int p3), .val (.int p4), .unset, .unset, .unset, .unset, .unset, .unset, .unset, .unset] [] := by first | (simp [entryFrame, mkF, argsToLocals, Value.category, maxLocals]; done) | rfl
def Q0 (Z : State) (p1 : Int32) (p2 : Int32) (p3 : Int32) (p4 : Int32) (h0 : Heap) (n0 : Nat) (v : Option Value) (h : Heap) (L : List Loc) : Prop := v = some (.int (1 : Int32)) ∧ Fr n0 L
set_option maxRecDepth 65536 in
set_option maxHeartbeats 40000000 in
theorem rm0 (l : Launch) (Z : State) (a0 : Array Value) (hw : ∀ d ∈ tables_1, d.before a0 Z = true) (ws : List Jvm.Cond) (p1 : Int32) (p2 : Int32) (p3 : Int32) (p4 : Int32) (h0 : Heap) (n0 : Nat) (Z0 : n0 ≤ h0.size)  :
    MetFree l x (head1 (Jvm.Cond.code x code maxLocals ret :: ws) room_1) (fun a U => a = #[(.int p1), (.int p2), (.int p3), (.int p4)] ∧ Z.Warmed39 U.vm ∧ U.heap = h0) (fun _ _ _ _ _ => True) (fun _ U o U' => ∃ v L, o = .returned v ∧ Q0 Z p1 p2 p3 p4 h0 n0 v U'.heap L ∧ FrameEnd U o U' L room_1.cells room_1.slots) := by
  refine MetFree.of_bodySF (plainFor_of_name pn_0) hisR ?_
  intro p e s m args below meth c s₁ Bd hml0 hP hK
  obtain ⟨rfl, hZ, hh⟩ := hP
  have hx := Bd.exec
  have hby := Bd.bytes
  have hml : c.maxLocals = 12 := hml0
  have hown : s.vm.findClass "com/example/orbweave/orbweave/store/KeyOrderPrefixEndPinLaw" = some m.cls := findClass_of_methodNamed Bd.named
  have hnm := (name_of_methodNamed Bd.named Bd.method).1
  have hlk := Bd.notSynchronized
  have hret := Bd.returns
  have X0 : Stand p l e room_1 s m #[(.int p1), (.int p2), (.int p3), (.int p4)] below meth c s₁ [] 0 0 := Stand.of_body Bd
  have e0 : s₁.heap = h0 := by rw [← hh, Bd.state]; rfl
  have N0 := Fr.nil n0
  show own_G p e below (s₁.setTop (entryFrame m #[(.int p1), (.int p2), (.int p3), (.int p4)] maxLocals)) (fun s₂ o => ∃ v L, o = .returned v ∧ Q0 Z p1 p2 p3 p4 h0 n0 v s₂.heap L ∧ FrameEnd s o s₂ L room_1.cells room_1.slots)
  refine own_go (fun t k => castTop (ef_0 m p1 p2 p3 p4) k) ?_
  show own_G p e below (s₁.setTop (mkF m 0 #[.val (.int p1), .val (.int p2), .val (.int p3), .val (.int p4), .unset, .unset, .unset, .unset, .unset, .unset, .unset, .unset] [])) _
  refine own_go (fun _ k => XS.iloadN X0.here hx rfl (hb hby at_0) rfl k) ?_
  show own_G p e below (s₁.setTop (mkF m 1 #[.val (.int p1), .val (.int p2), .val (.int p3), .val (.int p4), .unset, .unset, .unset, .unset, .unset, .unset, .unset, .unset] [(.int p1)])) _
  refine own_go (fun _ k => XS.iconst X0.here hx rfl (hb hby at_1) k) ?_
  show own_G p e below (s₁.setTop (mkF m 2 #[.val (.int p1), .val (.int p2), .val (.int p3), .val (.int p4), .unset, .unset, .unset, .unset, .unset, .unset, .unset, .unset] [(.int (3 : Int32)), (.int p1)])) _
  refine own_go (fun _ k => XS.iand X0.here hx rfl (hb hby at_2) rfl k) ?_
  show own_G p e below (s₁.setTop (mkF m 3 #[.val (.int p1), .val (.int p2), .val (.int p3), .val (.int p4), .unset, .unset, .unset, .unset, .unset, .unset, .unset, .unset] [(.int (p1 &&& (3 : Int32)))])) _
  rcases own_n3 p1 with hn | hn | hn | hn
  · rw [hn]
    show own_G p e below (s₁.setTop (mkF m 3 #[.val (.int p1), .val (.int p2), .val (.int p3), .val (.int p4), .unset, .unset, .unset, .unset, .unset, .unset, .unset, .unset] [(.int (0 : Int32))])) _
    refine own_go (fun _ k => XS.istore X0.here hx rfl (hb hby at_3) rfl (l' := #[.val (.int p1), .val (.int p2), .val (.int p3), .val (.int p4), .val (.int (0 : Int32)), .unset, .unset, .unset, .unset, .unset, .unset, .unset]) rfl k) ?_
    show own_G p e below (s₁.setTop (mkF m 5 #[.val (.int p1), .val (.int p2), .val (.int p3), .val (.int p4), .val (.int (0 : Int32)), .unset, .unset, .unset, .unset, .unset, .unset, .unset] [])) _
    refine own_go (fun _ k => XS.iloadN X0.here hx rfl (hb hby at_5) rfl k) ?_
    show own_G p e below (s₁.setTop (mkF m 6 #[.val (.int p1), .val (.int p2), .val (.int p3), .val (.int p4), .val (.int (0 : Int32)), .unset, .unset, .unset, .unset, .unset, .unset, .unset] [(.int p2)])) _
    obtain ⟨_, _, ⟨T136, L136, k136, n136⟩, -, X136, ⟨Lc136, hQ136, l136, y136, z136⟩, st136⟩ := Jvm.LawKit.callS X0 hx (y := (⟨"com/example/orbweave/orbweave/store/KeyOrderPrefixEndPinLaw", "draw", "(I)B"⟩ : MethodName)) hown (mvT hZ (hw _ (List.mem_of_getElem? (i := 0) rfl))) (mvT hZ (hw _ (List.mem_of_getElem? (i := 1) rfl))) (mvT hZ (hw _ (List.mem_of_getElem? (i := 2) rfl))) (mvT hZ (hw _ (List.mem_of_getElem? (i := 3) rfl))) (by decide) (backOf (W := 0) (rm1 l Z a0 hw [] p2 h0 n0 Z0 ) hZ (hw _ (List.mem_of_getElem? (i := 3) rfl)) (hw _ (List.mem_of_getElem? (i := 2) rfl)) (by decide) (by decide)) (g := (mkF m 6 #[.val (.int p1), .val (.int p2), .val (.int p3), .val (.int p4), .val (.int (0 : Int32)), .unset, .unset, .unset, .unset, .unset, .unset, .unset] [(.int p2)])) rfl (by rw [hml]; rfl) (argsL := [(.int p2)]) (rest := []) (lenOf pd_2 rfl) rfl (by show 2 * 0 + _ ≤ _; exact Nat.le_of_eq rfl) (hb hby at_6) (fun _ _ => ⟨rfl, e0, (by decide : 0 + 0 ≤ _), (by decide : 0 + 0 ≤ _)⟩)
    dsimp only [Pt.U, Pt.locs, Pt.cells, Pt.slots] at X136 l136 y136 z136 st136 hQ136
    subst l136 y136 z136
    obtain ⟨bb0, rfl, Nq136, hh136, hb0⟩ := hQ136
    have N136 := Fr.app N0 Nq136
    refine own_go st136 ?_
    have e136 : T136.heap = h0 := hh136
    show own_G p e below (T136.setTop (mkF m 9 #[.val (.int p1), .val (.int p2), .val (.int p3), .val (.int p4), .val (.int (0 : Int32)), .unset, .unset, .unset, .unset, .unset, .unset, .unset] [(.int bb0)])) _
    refine own_go (fun _ k => XS.istore X136.here hx rfl (hb hby at_9) rfl (l' := #[.val (.int p1), .val (.int p2), .val (.int p3), .val (.int p4), .val (.int (0 : Int32)), .val (.int bb0), .unset, .unset, .unset, .unset, .unset, .unset]) rfl k) ?_
    show own_G p e below (T136.setTop (mkF m 11 #[.val (.int p1), .val (.int p2), .val (.int p3), .val (.int p4), .val (.int (0 : Int32)), .val (.int bb0), .unset, .unset, .unset, .unset, .unset, .unset] [])) _
    refine own_go (fun _ k => XS.iloadN X136.here hx rfl (hb hby at_11) rfl k) ?_
    show own_G p e below (T136.setTop (mkF m 12 #[.val (.int p1), .val (.int p2), .val (.int p3), .val (.int p4), .val (.int (0 : Int32)), .val (.int bb0), .unset, .unset, .unset, .unset, .unset, .unset] [(.int p3)])) _
    obtain ⟨_, _, ⟨T137, L137, k137, n137⟩, -, X137, ⟨Lc137, hQ137, l137, y137, z137⟩, st137⟩ := Jvm.LawKit.callS X136 hx (y := (⟨"com/example/orbweave/orbweave/store/KeyOrderPrefixEndPinLaw", "draw", "(I)B"⟩ : MethodName)) hown (mvT hZ (hw _ (List.mem_of_getElem? (i := 0) rfl))) (mvT hZ (hw _ (List.mem_of_getElem? (i := 1) rfl))) (mvT hZ (hw _ (List.mem_of_getElem? (i := 2) rfl))) (mvT hZ (hw _ (List.mem_of_getElem? (i := 3) rfl))) (by decide) (backOf (W := 0) (rm1 l Z a0 hw [] p3 h0 n0 Z0 ) hZ (hw _ (List.mem_of_getElem? (i := 3) rfl)) (hw _ (List.mem_of_getElem? (i := 2) rfl)) (by decide) (by decide)) (g := (mkF m 12 #[.val (.int p1), .val (.int p2), .val (.int p3), .val (.int p4), .val (.int (0 : Int32)), .val (.int bb0), .unset, .unset, .unset, .unset, .unset, .unset] [(.int p3)])) rfl (by rw [hml]; rfl) (argsL := [(.int p3)]) (rest := []) (lenOf pd_2 rfl) rfl (by show 2 * 0 + _ ≤ _; exact Nat.le_of_eq rfl) (hb hby at_12) (fun _ _ => ⟨rfl, e136, (by decide : 0 + 0 + 0 ≤ _), (by decide : 0 + 0 + 0 ≤ _)⟩)
    dsimp only [Pt.U, Pt.locs, Pt.cells, Pt.slots] at X137 l137 y137 z137 st137 hQ137
    subst l137 y137 z137
    obtain ⟨bb1, rfl, Nq137, hh137, hb1⟩ := hQ137
    have N137 := Fr.app N136 Nq137
    refine own_go st137 ?_
    have e137 : T137.heap = h0 := hh137
    show own_G p e below (T137.setTop (mkF m 15 #[.val (.int p1), .val (.int p2), .val (.int p3), .val (.int p4), .val (.int (0 : Int32)), .val (.int bb0), .unset, .unset, .unset, .unset, .unset, .unset] [(.int bb1)])) _
    refine own_go (fun _ k => XS.istore X137.here hx rfl (hb hby at_15) rfl (l' := #[.val (.int p1), .val (.int p2), .val (.int p3), .val (.int p4), .val (.int (0 : Int32)), .val (.int bb0), .val (.int bb1), .unset, .unset, .unset, .unset, .unset]) rfl k) ?_
    show own_G p e below (T137.setTop (mkF m 17 #[.val (.int p1), .val (.int p2), .val (.int p3), .val (.int p4), .val (.int (0 : Int32)), .val (.int bb0), .val (.int bb1), .unset, .unset, .unset, .unset, .unset] [])) _
    refine own_go (fun _ k => XS.iloadN X137.here hx rfl (hb hby at_17) rfl k) ?_
    show own_G p e below (T137.setTop (mkF m 18 #[.val (.int p1), .val (.int p2), .val (.int p3), .val (.int p4), .val (.int (0 : Int32)), .val (.int bb0), .val (.int bb1), .unset, .unset, .unset, .unset, .unset] [(.int p4)])) _
    obtain ⟨_, _, ⟨T138, L138, k138, n138⟩, -, X138, ⟨Lc138, hQ138, l138, y138, z138⟩, st138⟩ := Jvm.LawKit.callS X137 hx (y := (⟨"com/example/orbweave/orbweave/store/KeyOrderPrefixEndPinLaw", "draw", "(I)B"⟩ : MethodName)) hown (mvT hZ (hw _ (List.mem_of_getElem? (i := 0) rfl))) (mvT hZ (hw _ (List.mem_of_getElem? (i := 1) rfl))) (mvT hZ (hw _ (List.mem_of_getElem? (i := 2) rfl))) (mvT hZ (hw _ (List.mem_of_getElem? (i := 3) rfl))) (by decide) (backOf (W := 0) (rm1 l Z a0 hw [] p4 h0 n0 Z0 ) hZ (hw _ (List.mem_of_getElem? (i := 3) rfl)) (hw _ (List.mem_of_getElem? (i := 2) rfl)) (by decide) (by decide)) (g := (mkF m 18 #[.val (.int p1), .val (.int p2), .val (.int p3), .val (.int p4), .val (.int (0 : Int32)), .val (.int bb0), .val (.int bb1), .unset, .unset, .unset, .unset, .unset] [(.int p4)])) rfl (by rw [hml]; rfl) (argsL := [(.int p4)]) (rest := []) (lenOf pd_2 rfl) rfl (by show 2 * 0 + _ ≤ _; exact Nat.le_of_eq rfl) (hb hby at_18) (fun _ _ => ⟨rfl, e137, (by decide : 0 + 0 + 0 + 0 ≤ _), (by decide : 0 + 0 + 0 + 0 ≤ _)⟩)
    dsimp only [Pt.U, Pt.locs, Pt.cells, Pt.slots] at X138 l138 y138 z138 st138 hQ138
    subst l138 y138 z138
    obtain ⟨bb2, rfl, Nq138, hh138, hb2⟩ := hQ138
    have N138 := Fr.app N137 Nq138
    refine own_go st138 ?_
    have e138 : T138.heap = h0 := hh138
    show own_G p e below (T138.setTop (mkF m 21 #[.val (.int p1), .val (.int p2), .val (.int p3), .val (.int p4), .val (.int (0 : Int32)), .val (.int bb0), .val (.int bb1), .unset, .unset, .unset, .unset, .unset] [(.int bb2)])) _
    refine own_go (fun _ k => XS.istore X138.here hx rfl (hb hby at_21) rfl (l' := #[.val (.int p1), .val (.int p2), .val (.int p3), .val (.int p4), .val (.int (0 : Int32)), .val (.int bb0), .val (.int bb1), .val (.int bb2), .unset, .unset, .unset, .unset]) rfl k) ?_
    show own_G p e below (T138.setTop (mkF m 23 #[.val (.int p1), .val (.int p2), .val (.int p3), .val (.int p4), .val (.int (0 : Int32)), .val (.int bb0), .val (.int bb1), .val (.int bb2), .unset, .unset, .unset, .unset] [])) _
    refine own_go (fun _ k => XS.iload X138.here hx rfl (hb hby at_23) rfl k) ?_
    show own_G p e below (T138.setTop (mkF m 25 #[.val (.int p1), .val (.int p2), .val (.int p3), .val (.int p4), .val (.int (0 : Int32)), .val (.int bb0), .val (.int bb1), .val (.int bb2), .unset, .unset, .unset, .unset] [(.int (0 : Int32))])) _
    obtain ⟨T139, h139, k139, X139, e139, E139, A139, Y139, st139⟩ := newPE X138 hx hZ (hw _ (List.mem_of_getElem? (i := 4) rfl)) e138 (g := (mkF m 25 #[.val (.int p1), .val (.int p2), .val (.int p3), .val (.int p4), .val (.int (0 : Int32)), .val (.int bb0), .val (.int bb1), .val (.int bb2), .unset, .unset, .unset, .unset] [(.int (0 : Int32))])) rfl (hb hby at_25) rfl (by decide) (cap := 0) (by decide) (by decide) (by decide) (by decide) (ad := "[B") (by decide)
    obtain ⟨b139, g139⟩ : ∃ z, z = h0.size := ⟨_, rfl⟩
    rw [← g139] at A139 Y139 st139
    refine own_go st139 ?_
    have ge140 : n0 ≤ b139 := Nat.le_trans Z0 (Nat.le_of_eq g139.symm)
    have zs141 : n0 ≤ h139.size := Nat.le_trans Z0 E139.1
    have V139 : Arv Z h139 b139 k139 .byte (0 : Int32) [] (.int (0 : Int32)) := (Arv.new A139 (by decide)).pad (pad_rep [] (.int (0 : Int32)) 0)
    show own_G p e below (T139.setTop (mkF m 27 #[.val (.int p1), .val (.int p2), .val (.int p3), .val (.int p4), .val (.int (0 : Int32)), .val (.int bb0), .val (.int bb1), .val (.int bb2), .unset, .unset, .unset, .unset] [(.ref b139)])) _
    refine own_go (fun _ k => XS.astore X139.here hx rfl (hb hby at_27) rfl rfl (l' := #[.val (.int p1), .val (.int p2), .val (.int p3), .val (.int p4), .val (.int (0 : Int32)), .val (.int bb0), .val (.int bb1), .val (.int bb2), .val (.ref b139), .unset, .unset, .unset]) rfl k) ?_
    show own_G p e below (T139.setTop (mkF m 29 #[.val (.int p1), .val (.int p2), .val (.int p3), .val (.int p4), .val (.int (0 : Int32)), .val (.int bb0), .val (.int bb1), .val (.int bb2), .val (.ref b139), .unset, .unset, .unset] [])) _
    refine own_go (fun _ k => XS.iload X139.here hx rfl (hb hby at_29) rfl k) ?_
    show own_G p e below (T139.setTop (mkF m 31 #[.val (.int p1), .val (.int p2), .val (.int p3), .val (.int p4), .val (.int (0 : Int32)), .val (.int bb0), .val (.int bb1), .val (.int bb2), .val (.ref b139), .unset, .unset, .unset] [(.int (0 : Int32))])) _
    refine own_go (fun _ k => XS.ifYes X139.here hx rfl (pc0 := 31) (pc' := 40) rfl (hb hby at_31) rfl ((if0 _ _).trans (flt (by decide : ¬ ((0 : Int32) < (0 : Int32)))).2.2.2) (by decide) (by decide) k) ?_
    show own_G p e below (T139.setTop (mkF m 40 #[.val (.int p1), .val (.int p2), .val (.int p3), .val (.int p4), .val (.int (0 : Int32)), .val (.int bb0), .val (.int bb1), .val (.int bb2), .val (.ref b139), .unset, .unset, .unset] [])) _
    refine own_go (fun _ k => XS.iload X139.here hx rfl (hb hby at_40) rfl k) ?_
    show own_G p e below (T139.setTop (mkF m 42 #[.val (.int p1), .val (.int p2), .val (.int p3), .val (.int p4), .val (.int (0 : Int32)), .val (.int bb0), .val (.int bb1), .val (.int bb2), .val (.ref b139), .unset, .unset, .unset] [(.int (0 : Int32))])) _
    refine own_go (fun _ k => XS.iconst X139.here hx rfl (hb hby at_42) k) ?_
    show own_G p e below (T139.setTop (mkF m 43 #[.val (.int p1), .val (.int p2), .val (.int p3), .val (.int p4), .val (.int (0 : Int32)), .val (.int bb0), .val (.int bb1), .val (.int bb2), .val (.ref b139), .unset, .unset, .unset] [(.int (1 : Int32)), (.int (0 : Int32))])) _
    refine own_go (fun _ k => XS.icmpYes X139.here hx rfl (pc0 := 43) (pc' := 52) rfl (hb hby at_43) rfl (flt (by decide : ¬ ((1 : Int32) < (0 : Int32)))).2.2.2 (by decide) (by decide) k) ?_
    show own_G p e below (T139.setTop (mkF m 52 #[.val (.int p1), .val (.int p2), .val (.int p3), .val (.int p4), .val (.int (0 : Int32)), .val (.int bb0), .val (.int bb1), .val (.int bb2), .val (.ref b139), .unset, .unset, .unset] [])) _
    refine own_go (fun _ k => XS.iload X139.here hx rfl (hb hby at_52) rfl k) ?_
    show own_G p e below (T139.setTop (mkF m 54 #[.val (.int p1), .val (.int p2), .val (.int p3), .val (.int p4), .val (.int (0 : Int32)), .val (.int bb0), .val (.int bb1), .val (.int bb2), .val (.ref b139), .unset, .unset, .unset] [(.int (0 : Int32))])) _
    refine own_go (fun _ k => XS.iconst X139.here hx rfl (hb hby at_54) k) ?_
    show own_G p e below (T139.setTop (mkF m 55 #[.val (.int p1), .val (.int p2), .val (.int p3), .val (.int p4), .val (.int (0 : Int32)), .val (.int bb0), .val (.int bb1), .val (.int bb2), .val (.ref b139), .unset, .unset, .unset] [(.int (2 : Int32)), (.int (0 : Int32))])) _
    refine own_go (fun _ k => XS.icmpYes X139.here hx rfl (pc0 := 55) (pc' := 64) rfl (hb hby at_55) rfl (flt (by decide : ¬ ((2 : Int32) < (0 : Int32)))).2.2.2 (by decide) (by decide) k) ?_
    show own_G p e below (T139.setTop (mkF m 64 #[.val (.int p1), .val (.int p2), .val (.int p3), .val (.int p4), .val (.int (0 : Int32)), .val (.int bb0), .val (.int bb1), .val (.int bb2), .val (.ref b139), .unset, .unset, .unset] [])) _
    refine own_go (fun _ k => XS.aload X139.here hx rfl (hb hby at_64) rfl rfl k) ?_
    show own_G p e below (T139.setTop (mkF m 66 #[.val (.int p1), .val (.int p2), .val (.int p3), .val (.int p4), .val (.int (0 : Int32)), .val (.int bb0), .val (.int bb1), .val (.int bb2), .val (.ref b139), .unset, .unset, .unset] [(.ref b139)])) _
    obtain ⟨vv142, _, ⟨T142, L142, k142, n142⟩, -, X142, ⟨Lc142, hQ142, l142, y142, z142⟩, st142⟩ := Jvm.LawKit.callS X139 hx (y := (⟨"com/example/orbweave/orbweave/store/KeyOrder", "prefixEnd", "([B)[B"⟩ : MethodName)) hown (mvT hZ (hw _ (List.mem_of_getElem? (i := 5) rfl))) (mvT hZ (hw _ (List.mem_of_getElem? (i := 6) rfl))) (mvT hZ (hw _ (List.mem_of_getElem? (i := 7) rfl))) (mvT hZ (hw _ (List.mem_of_getElem? (i := 8) rfl))) (by decide) (backOf (W := 0) (rm2_0 l Z a0 hw [] b139 k139 h139 n0 zs141 V139 Y139) hZ (hw _ (List.mem_of_getElem? (i := 8) rfl)) (hw _ (List.mem_of_getElem? (i := 7) rfl)) (by decide) (by decide)) (g := (mkF m 66 #[.val (.int p1), .val (.int p2), .val (.int p3), .val (.int p4), .val (.int (0 : Int32)), .val (.int bb0), .val (.int bb1), .val (.int bb2), .val (.ref b139), .unset, .unset, .unset] [(.ref b139)])) rfl (by rw [hml]; rfl) (argsL := [(.ref b139)]) (rest := []) (lenOf pd_3 rfl) rfl (by show 2 * 0 + _ ≤ _; exact Nat.le_of_eq rfl) (hb hby at_66) (fun _ _ => ⟨rfl, e139, (by decide : 0 + 0 + 0 + 0 + 1 + 1 ≤ _), (by decide : 0 + 0 + 0 + 0 + 0 + 0 ≤ _)⟩)
    dsimp only [Pt.U, Pt.locs, Pt.cells, Pt.slots] at X142 l142 y142 z142 st142 hQ142
    subst l142 y142 z142
    obtain ⟨Nq142, K142, hd142⟩ := hQ142
    have N142 := Fr.app N138 Nq142
    have f143 := V139.keep K142 nin0
    have f144 := Y139.keep K142
    have zs145 : n0 ≤ T142.heap.size := Nat.le_trans zs141 K142.1
    subst hd142
    · refine own_go st142 ?_
      show own_G p e below (T142.setTop (mkF m 69 #[.val (.int p1), .val (.int p2), .val (.int p3), .val (.int p4), .val (.int (0 : Int32)), .val (.int bb0), .val (.int bb1), .val (.int bb2), .val (.ref b139), .unset, .unset, .unset] [.null])) _
      refine own_go (fun _ k => XS.astore X142.here hx rfl (hb hby at_69) rfl rfl (l' := #[.val (.int p1), .val (.int p2), .val (.int p3), .val (.int p4), .val (.int (0 : Int32)), .val (.int bb0), .val (.int bb1), .val (.int bb2), .val (.ref b139), .val .null, .unset, .unset]) rfl k) ?_
      show own_G p e below (T142.setTop (mkF m 71 #[.val (.int p1), .val (.int p2), .val (.int p3), .val (.int p4), .val (.int (0 : Int32)), .val (.int bb0), .val (.int bb1), .val (.int bb2), .val (.ref b139), .val .null, .unset, .unset] [])) _
      refine own_go (fun _ k => XS.aload X142.here hx rfl (hb hby at_71) rfl rfl k) ?_
      show own_G p e below (T142.setTop (mkF m 73 #[.val (.int p1), .val (.int p2), .val (.int p3), .val (.int p4), .val (.int (0 : Int32)), .val (.int bb0), .val (.int bb1), .val (.int bb2), .val (.ref b139), .val .null, .unset, .unset] [(.ref b139)])) _
      obtain ⟨cl146, Ar146, q146, S146, M146, B146, G146⟩ := id f143
      refine own_go (X142.arraylength hx Ar146.1 (State.isArrayOf_alike hZ.alike Ar146.2.1) (g := (mkF m 73 #[.val (.int p1), .val (.int p2), .val (.int p3), .val (.int p4), .val (.int (0 : Int32)), .val (.int bb0), .val (.int bb1), .val (.int bb2), .val (.ref b139), .val .null, .unset, .unset] [(.ref b139)])) rfl rfl (hb hby at_73)) ?_
      rw [len_of S146 M146]
      show own_G p e below (T142.setTop (mkF m 74 #[.val (.int p1), .val (.int p2), .val (.int p3), .val (.int p4), .val (.int (0 : Int32)), .val (.int bb0), .val (.int bb1), .val (.int bb2), .val (.ref b139), .val .null, .unset, .unset] [(.int (0 : Int32))])) _
      refine own_go (fun _ k => XS.iload X142.here hx rfl (hb hby at_74) rfl k) ?_
      show own_G p e below (T142.setTop (mkF m 76 #[.val (.int p1), .val (.int p2), .val (.int p3), .val (.int p4), .val (.int (0 : Int32)), .val (.int bb0), .val (.int bb1), .val (.int bb2), .val (.ref b139), .val .null, .unset, .unset] [(.int (0 : Int32)), (.int (0 : Int32))])) _
      refine own_go (fun _ k => XS.icmpYes X142.here hx rfl (pc0 := 76) (pc' := 81) rfl (hb hby at_76) rfl (teq (by decide : (0 : Int32) = (0 : Int32))).1 (by decide) (by decide) k) ?_
      show own_G p e below (T142.setTop (mkF m 81 #[.val (.int p1), .val (.int p2), .val (.int p3), .val (.int p4), .val (.int (0 : Int32)), .val (.int bb0), .val (.int bb1), .val (.int bb2), .val (.ref b139), .val .null, .unset, .unset] [])) _
      refine own_go (fun _ k => XS.iload X142.here hx rfl (hb hby at_81) rfl k) ?_
      show own_G p e below (T142.setTop (mkF m 83 #[.val (.int p1), .val (.int p2), .val (.int p3), .val (.int p4), .val (.int (0 : Int32)), .val (.int bb0), .val (.int bb1), .val (.int bb2), .val (.ref b139), .val .null, .unset, .unset] [(.int (0 : Int32))])) _
      refine own_go (fun _ k => XS.ifYes X142.here hx rfl (pc0 := 83) (pc' := 97) rfl (hb hby at_83) rfl ((if0 _ _).trans (flt (by decide : ¬ ((0 : Int32) < (0 : Int32)))).2.2.2) (by decide) (by decide) k) ?_
      show own_G p e below (T142.setTop (mkF m 97 #[.val (.int p1), .val (.int p2), .val (.int p3), .val (.int p4), .val (.int (0 : Int32)), .val (.int bb0), .val (.int bb1), .val (.int bb2), .val (.ref b139), .val .null, .unset, .unset] [])) _
      refine own_go (fun _ k => XS.iload X142.here hx rfl (hb hby at_97) rfl k) ?_
      show own_G p e below (T142.setTop (mkF m 99 #[.val (.int p1), .val (.int p2), .val (.int p3), .val (.int p4), .val (.int (0 : Int32)), .val (.int bb0), .val (.int bb1), .val (.int bb2), .val (.ref b139), .val .null, .unset, .unset] [(.int (0 : Int32))])) _
      refine own_go (fun _ k => XS.iconst X142.here hx rfl (hb hby at_99) k) ?_
      show own_G p e below (T142.setTop (mkF m 100 #[.val (.int p1), .val (.int p2), .val (.int p3), .val (.int p4), .val (.int (0 : Int32)), .val (.int bb0), .val (.int bb1), .val (.int bb2), .val (.ref b139), .val .null, .unset, .unset] [(.int (1 : Int32)), (.int (0 : Int32))])) _
      refine own_go (fun _ k => XS.icmpYes X142.here hx rfl (pc0 := 100) (pc' := 114) rfl (hb hby at_100) rfl (flt (by decide : ¬ ((1 : Int32) < (0 : Int32)))).2.2.2 (by decide) (by decide) k) ?_
      show own_G p e below (T142.setTop (mkF m 114 #[.val (.int p1), .val (.int p2), .val (.int p3), .val (.int p4), .val (.int (0 : Int32)), .val (.int bb0), .val (.int bb1), .val (.int bb2), .val (.ref b139), .val .null, .unset, .unset] [])) _
      refine own_go (fun _ k => XS.iload X142.here hx rfl (hb hby at_114) rfl k) ?_
      show own_G p e below (T142.setTop (mkF m 116 #[.val (.int p1), .val (.int p2), .val (.int p3), .val (.int p4), .val (.int (0 : Int32)), .val (.int bb0), .val (.int bb1), .val (.int bb2), .val (.ref b139), .val .null, .unset, .unset] [(.int (0 : Int32))])) _
      refine own_go (fun _ k => XS.iconst X142.here hx rfl (hb hby at_116) k) ?_
      show own_G p e below (T142.setTop (mkF m 117 #[.val (.int p1), .val (.int p2), .val (.int p3), .val (.int p4), .val (.int (0 : Int32)), .val (.int bb0), .val (.int bb1), .val (.int bb2), .val (.ref b139), .val .null, .unset, .unset] [(.int (2 : Int32)), (.int (0 : Int32))])) _
      refine own_go (fun _ k => XS.icmpYes X142.here hx rfl (pc0 := 117) (pc' := 131) rfl (hb hby at_117) rfl (flt (by decide : ¬ ((2 : Int32) < (0 : Int32)))).2.2.2 (by decide) (by decide) k) ?_
      show own_G p e below (T142.setTop (mkF m 131 #[.val (.int p1), .val (.int p2), .val (.int p3), .val (.int p4), .val (.int (0 : Int32)), .val (.int bb0), .val (.int bb1), .val (.int bb2), .val (.ref b139), .val .null, .unset, .unset] [])) _
      refine own_go (fun _ k => XS.iconst X142.here hx rfl (hb hby at_131) k) ?_
      show own_G p e below (T142.setTop (mkF m 132 #[.val (.int p1), .val (.int p2), .val (.int p3), .val (.int p4), .val (.int (0 : Int32)), .val (.int bb0), .val (.int bb1), .val (.int bb2), .val (.ref b139), .val .null, .unset, .unset] [(.int (-1 : Int32))])) _
      refine own_go (fun _ k => XS.istore X142.here hx rfl (hb hby at_132) rfl (l' := #[.val (.int p1), .val (.int p2), .val (.int p3), .val (.int p4), .val (.int (0 : Int32)), .val (.int bb0), .val (.int bb1), .val (.int bb2), .val (.ref b139), .val .null, .val (.int (-1 : Int32)), .unset]) rfl k) ?_
      show own_G p e below (T142.setTop (mkF m 134 #[.val (.int p1), .val (.int p2), .val (.int p3), .val (.int p4), .val (.int (0 : Int32)), .val (.int bb0), .val (.int bb1), .val (.int bb2), .val (.ref b139), .val .null, .val (.int (-1 : Int32)), .unset] [])) _
      refine own_go (fun _ k => XS.iload X142.here hx rfl (hb hby at_134) rfl k) ?_
      show own_G p e below (T142.setTop (mkF m 136 #[.val (.int p1), .val (.int p2), .val (.int p3), .val (.int p4), .val (.int (0 : Int32)), .val (.int bb0), .val (.int bb1), .val (.int bb2), .val (.ref b139), .val .null, .val (.int (-1 : Int32)), .unset] [(.int (0 : Int32))])) _
      refine own_go (fun _ k => XS.ifYes X142.here hx rfl (pc0 := 136) (pc' := 148) rfl (hb hby at_136) rfl ((if0 _ _).trans (flt (by decide : ¬ ((0 : Int32) < (0 : Int32)))).2.2.2) (by decide) (by decide) k) ?_
      show own_G p e below (T142.setTop (mkF m 148 #[.val (.int p1), .val (.int p2), .val (.int p3), .val (.int p4), .val (.int (0 : Int32)), .val (.int bb0), .val (.int bb1), .val (.int bb2), .val (.ref b139), .val .null, .val (.int (-1 : Int32)), .unset] [])) _
      refine own_go (fun _ k => XS.iload X142.here hx rfl (hb hby at_148) rfl k) ?_
      show own_G p e below (T142.setTop (mkF m 150 #[.val (.int p1), .val (.int p2), .val (.int p3), .val (.int p4), .val (.int (0 : Int32)), .val (.int bb0), .val (.int bb1), .val (.int bb2), .val (.ref b139), .val .null, .val (.int (-1 : Int32)), .unset] [(.int (0 : Int32))])) _
      refine own_go (fun _ k => XS.iconst X142.here hx rfl (hb hby at_150) k) ?_
      show own_G p e below (T142.setTop (mkF m 151 #[.val (.int p1), .val (.int p2), .val (.int p3), .val (.int p4), .val (.int (0 : Int32)), .val (.int bb0), .val (.int bb1), .val (.int bb2), .val (.ref b139), .val .null, .val (.int (-1 : Int32)), .unset] [(.int (1 : Int32)), (.int (0 : Int32))])) _
      refine own_go (fun _ k => XS.icmpYes X142.here hx rfl (pc0 := 151) (pc' := 163) rfl (hb hby at_151) rfl (flt (by decide : ¬ ((1 : Int32) < (0 : Int32)))).2.2.2 (by decide) (by decide) k) ?_
      show own_G p e below (T142.setTop (mkF m 163 #[.val (.int p1), .val (.int p2), .val (.int p3), .val (.int p4), .val (.int (0 : Int32)), .val (.int bb0), .val (.int bb1), .val (.int bb2), .val (.ref b139), .val .null, .val (.int (-1 : Int32)), .unset] [])) _
      refine own_go (fun _ k => XS.iload X142.here hx rfl (hb hby at_163) rfl k) ?_
      show own_G p e below (T142.setTop (mkF m 165 #[.val (.int p1), .val (.int p2), .val (.int p3), .val (.int p4), .val (.int (0 : Int32)), .val (.int bb0), .val (.int bb1), .val (.int bb2), .val (.ref b139), .val .null, .val (.int (-1 : Int32)), .unset] [(.int (0 : Int32))])) _
      refine own_go (fun _ k => XS.iconst X142.here hx rfl (hb hby at_165) k) ?_
      show own_G p e below (T142.setTop (mkF m 166 #[.val (.int p1), .val (.int p2), .val (.int p3), .val (.int p4), .val (.int (0 : Int32)), .val (.int bb0), .val (.int bb1), .val (.int bb2), .val (.ref b139), .val .null, .val (.int (-1 : Int32)), .unset] [(.int (2 : Int32)), (.int (0 : Int32))])) _
      refine own_go (fun _ k => XS.icmpYes X142.here hx rfl (pc0 := 166) (pc' := 178) rfl (hb hby at_166) rfl (flt (by decide : ¬ ((2 : Int32) < (0 : Int32)))).2.2.2 (by decide) (by decide) k) ?_
      show own_G p e below (T142.setTop (mkF m 178 #[.val (.int p1), .val (.int p2), .val (.int p3), .val (.int p4), .val (.int (0 : Int32)), .val (.int bb0), .val (.int bb1), .val (.int bb2), .val (.ref b139), .val .null, .val (.int (-1 : Int32)), .unset] [])) _
      refine own_go (fun _ k => XS.iload X142.here hx rfl (hb hby at_178) rfl k) ?_
      show own_G p e below (T142.setTop (mkF m 180 #[.val (.int p1), .val (.int p2), .val (.int p3), .val (.int p4), .val (.int (0 : Int32)), .val (.int bb0), .val (.int bb1), .val (.int bb2), .val (.ref b139), .val .null, .val (.int (-1 : Int32)), .unset] [(.int (-1 : Int32))])) _
      refine own_go (fun _ k => XS.ifNo X142.here hx rfl (hb hby at_180) rfl ((if0 _ _).trans (tlt (by decide : (-1 : Int32) < (0 : Int32))).2.1) k) ?_
      show own_G p e below (T142.setTop (mkF m 183 #[.val (.int p1), .val (.int p2), .val (.int p3), .val (.int p4), .val (.int (0 : Int32)), .val (.int bb0), .val (.int bb1), .val (.int bb2), .val (.ref b139), .val .null, .val (.int (-1 : Int32)), .unset] [])) _
      refine own_go (fun _ k => XS.aload X142.here hx rfl (hb hby at_183) rfl rfl k) ?_
      show own_G p e below (T142.setTop (mkF m 185 #[.val (.int p1), .val (.int p2), .val (.int p3), .val (.int p4), .val (.int (0 : Int32)), .val (.int bb0), .val (.int bb1), .val (.int bb2), .val (.ref b139), .val .null, .val (.int (-1 : Int32)), .unset] [.null])) _
      refine own_go (fun _ k => XS.ifnonnullNo X142.here hx rfl (hb hby at_185) rfl k) ?_
      show own_G p e below (T142.setTop (mkF m 188 #[.val (.int p1), .val (.int p2), .val (.int p3), .val (.int p4), .val (.int (0 : Int32)), .val (.int bb0), .val (.int bb1), .val (.int bb2), .val (.ref b139), .val .null, .val (.int (-1 : Int32)), .unset] [])) _
      refine own_go (fun _ k => XS.iconst X142.here hx rfl (hb hby at_188) k) ?_
      show own_G p e below (T142.setTop (mkF m 189 #[.val (.int p1), .val (.int p2), .val (.int p3), .val (.int p4), .val (.int (0 : Int32)), .val (.int bb0), .val (.int bb1), .val (.int bb2), .val (.ref b139), .val .null, .val (.int (-1 : Int32)), .unset] [(.int (1 : Int32))])) _
      refine own_go (fun _ k => XS.goto X142.here hx rfl (pc0 := 189) (pc' := 193) rfl (hb hby at_189) (by decide) (by decide) k) ?_
      show own_G p e below (T142.setTop (mkF m 193 #[.val (.int p1), .val (.int p2), .val (.int p3), .val (.int p4), .val (.int (0 : Int32)), .val (.int bb0), .val (.int bb1), .val (.int bb2), .val (.ref b139), .val .null, .val (.int (-1 : Int32)), .unset] [(.int (1 : Int32))])) _
      refine own_ret X142 hlk (v := some (.int (1 : Int32))) (fun h => by rw [hret] at h; cases h) (Q0 Z p1 p2 p3 p4 h0 n0) (own_retI X142 hx (t := .boolean) hret rfl (Or.inl ⟨rfl, by simp, _, rfl⟩) (hb hby at_193)) (by decide) (by decide) ?_
      show Q0 Z p1 p2 p3 p4 h0 n0 _ T142.heap _
      exact ⟨rfl, N142⟩
  · rw [hn]
    show own_G p e below (s₁.setTop (mkF m 3 #[.val (.int p1), .val (.int p2), .val (.int p3), .val (.int p4), .unset, .unset, .unset, .unset, .unset, .unset, .unset, .unset] [(.int (1 : Int32))])) _
    refine own_go (fun _ k => XS.istore X0.here hx rfl (hb hby at_3) rfl (l' := #[.val (.int p1), .val (.int p2), .val (.int p3), .val (.int p4), .val (.int (1 : Int32)), .unset, .unset, .unset, .unset, .unset, .unset, .unset]) rfl k) ?_
    show own_G p e below (s₁.setTop (mkF m 5 #[.val (.int p1), .val (.int p2), .val (.int p3), .val (.int p4), .val (.int (1 : Int32)), .unset, .unset, .unset, .unset, .unset, .unset, .unset] [])) _
    refine own_go (fun _ k => XS.iloadN X0.here hx rfl (hb hby at_5) rfl k) ?_
    show own_G p e below (s₁.setTop (mkF m 6 #[.val (.int p1), .val (.int p2), .val (.int p3), .val (.int p4), .val (.int (1 : Int32)), .unset, .unset, .unset, .unset, .unset, .unset, .unset] [(.int p2)])) _
    obtain ⟨_, _, ⟨T147, L147, k147, n147⟩, -, X147, ⟨Lc147, hQ147, l147, y147, z147⟩, st147⟩ := Jvm.LawKit.callS X0 hx (y := (⟨"com/example/orbweave/orbweave/store/KeyOrderPrefixEndPinLaw", "draw", "(I)B"⟩ : MethodName)) hown (mvT hZ (hw _ (List.mem_of_getElem? (i := 0) rfl))) (mvT hZ (hw _ (List.mem_of_getElem? (i := 1) rfl))) (mvT hZ (hw _ (List.mem_of_getElem? (i := 2) rfl))) (mvT hZ (hw _ (List.mem_of_getElem? (i := 3) rfl))) (by decide) (backOf (W := 0) (rm1 l Z a0 hw [] p2 h0 n0 Z0 ) hZ (hw _ (List.mem_of_getElem? (i := 3) rfl)) (hw _ (List.mem_of_getElem? (i := 2) rfl)) (by decide) (by decide)) (g := (mkF m 6 #[.val (.int p1), .val (.int p2), .val (.int p3), .val (.int p4), .val (.int (1 : Int32)), .unset, .unset, .unset, .unset, .unset, .unset, .unset] [(.int p2)])) rfl (by rw [hml]; rfl) (argsL := [(.int p2)]) (rest := []) (lenOf pd_2 rfl) rfl (by show 2 * 0 + _ ≤ _; exact Nat.le_of_eq rfl) (hb hby at_6) (fun _ _ => ⟨rfl, e0, (by decide : 0 + 0 ≤ _), (by decide : 0 + 0 ≤ _)⟩)
    dsimp only [Pt.U, Pt.locs, Pt.cells, Pt.slots] at X147 l147 y147 z147 st147 hQ147
    subst l147 y147 z147
    obtain ⟨bb0, rfl, Nq147, hh147, hb0⟩ := hQ147
    have N147 := Fr.app N0 Nq147
    refine own_go st147 ?_
    have e147 : T147.heap = h0 := hh147
    show own_G p e below (T147.setTop (mkF m 9 #[.val (.int p1), .val (.int p2), .val (.int p3), .val (.int p4), .val (.int (1 : Int32)), .unset, .unset, .unset, .unset, .unset, .unset, .unset] [(.int bb0)])) _
    refine own_go (fun _ k => XS.istore X147.here hx rfl (hb hby at_9) rfl (l' := #[.val (.int p1), .val (.int p2), .val (.int p3), .val (.int p4), .val (.int (1 : Int32)), .val (.int bb0), .unset, .unset, .unset, .unset, .unset, .unset]) rfl k) ?_
    show own_G p e below (T147.setTop (mkF m 11 #[.val (.int p1), .val (.int p2), .val (.int p3), .val (.int p4), .val (.int (1 : Int32)), .val (.int bb0), .unset, .unset, .unset, .unset, .unset, .unset] [])) _
    refine own_go (fun _ k => XS.iloadN X147.here hx rfl (hb hby at_11) rfl k) ?_
    show own_G p e below (T147.setTop (mkF m 12 #[.val (.int p1), .val (.int p2), .val (.int p3), .val (.int p4), .val (.int (1 : Int32)), .val (.int bb0), .unset, .unset, .unset, .unset, .unset, .unset] [(.int p3)])) _
    obtain ⟨_, _, ⟨T148, L148, k148, n148⟩, -, X148, ⟨Lc148, hQ148, l148, y148, z148⟩, st148⟩ := Jvm.LawKit.callS X147 hx (y := (⟨"com/example/orbweave/orbweave/store/KeyOrderPrefixEndPinLaw", "draw", "(I)B"⟩ : MethodName)) hown (mvT hZ (hw _ (List.mem_of_getElem? (i := 0) rfl))) (mvT hZ (hw _ (List.mem_of_getElem? (i := 1) rfl))) (mvT hZ (hw _ (List.mem_of_getElem? (i := 2) rfl))) (mvT hZ (hw _ (List.mem_of_getElem? (i := 3) rfl))) (by decide) (backOf (W := 0) (rm1 l Z a0 hw [] p3 h0 n0 Z0 ) hZ (hw _ (List.mem_of_getElem? (i := 3) rfl)) (hw _ (List.mem_of_getElem? (i := 2) rfl)) (by decide) (by decide)) (g := (mkF m 12 #[.val (.int p1), .val (.int p2), .val (.int p3), .val (.int p4), .val (.int (1 : Int32)), .val (.int bb0), .unset, .unset, .unset, .unset, .unset, .unset] [(.int p3)])) rfl (by rw [hml]; rfl) (argsL := [(.int p3)]) (rest := []) (lenOf pd_2 rfl) rfl (by show 2 * 0 + _ ≤ _; exact Nat.le_of_eq rfl) (hb hby at_12) (fun _ _ => ⟨rfl, e147, (by decide : 0 + 0 + 0 ≤ _), (by decide : 0 + 0 + 0 ≤ _)⟩)
    dsimp only [Pt.U, Pt.locs, Pt.cells, Pt.slots] at X148 l148 y148 z148 st148 hQ148
    subst l148 y148 z148
    obtain ⟨bb1, rfl, Nq148, hh148, hb1⟩ := hQ148
    have N148 := Fr.app N147 Nq148
    refine own_go st148 ?_
    have e148 : T148.heap = h0 := hh148
    show own_G p e below (T148.setTop (mkF m 15 #[.val (.int p1), .val (.int p2), .val (.int p3), .val (.int p4), .val (.int (1 : Int32)), .val (.int bb0), .unset, .unset, .unset, .unset, .unset, .unset] [(.int bb1)])) _
    refine own_go (fun _ k => XS.istore X148.here hx rfl (hb hby at_15) rfl (l' := #[.val (.int p1), .val (.int p2), .val (.int p3), .val (.int p4), .val (.int (1 : Int32)), .val (.int bb0), .val (.int bb1), .unset, .unset, .unset, .unset, .unset]) rfl k) ?_
    show own_G p e below (T148.setTop (mkF m 17 #[.val (.int p1), .val (.int p2), .val (.int p3), .val (.int p4), .val (.int (1 : Int32)), .val (.int bb0), .val (.int bb1), .unset, .unset, .unset, .unset, .unset] [])) _
    refine own_go (fun _ k => XS.iloadN X148.here hx rfl (hb hby at_17) rfl k) ?_
    show own_G p e below (T148.setTop (mkF m 18 #[.val (.int p1), .val (.int p2), .val (.int p3), .val (.int p4), .val (.int (1 : Int32)), .val (.int bb0), .val (.int bb1), .unset, .unset, .unset, .unset, .unset] [(.int p4)])) _
    obtain ⟨_, _, ⟨T149, L149, k149, n149⟩, -, X149, ⟨Lc149, hQ149, l149, y149, z149⟩, st149⟩ := Jvm.LawKit.callS X148 hx (y := (⟨"com/example/orbweave/orbweave/store/KeyOrderPrefixEndPinLaw", "draw", "(I)B"⟩ : MethodName)) hown (mvT hZ (hw _ (List.mem_of_getElem? (i := 0) rfl))) (mvT hZ (hw _ (List.mem_of_getElem? (i := 1) rfl))) (mvT hZ (hw _ (List.mem_of_getElem? (i := 2) rfl))) (mvT hZ (hw _ (List.mem_of_getElem? (i := 3) rfl))) (by decide) (backOf (W := 0) (rm1 l Z a0 hw [] p4 h0 n0 Z0 ) hZ (hw _ (List.mem_of_getElem? (i := 3) rfl)) (hw _ (List.mem_of_getElem? (i := 2) rfl)) (by decide) (by decide)) (g := (mkF m 18 #[.val (.int p1), .val (.int p2), .val (.int p3), .val (.int p4), .val (.int (1 : Int32)), .val (.int bb0), .val (.int bb1), .unset, .unset, .unset, .unset, .unset] [(.int p4)])) rfl (by rw [hml]; rfl) (argsL := [(.int p4)]) (rest := []) (lenOf pd_2 rfl) rfl (by show 2 * 0 + _ ≤ _; exact Nat.le_of_eq rfl) (hb hby at_18) (fun _ _ => ⟨rfl, e148, (by decide : 0 + 0 + 0 + 0 ≤ _), (by decide : 0 + 0 + 0 + 0 ≤ _)⟩)
    dsimp only [Pt.U, Pt.locs, Pt.cells, Pt.slots] at X149 l149 y149 z149 st149 hQ149
    subst l149 y149 z149
    obtain ⟨bb2, rfl, Nq149, hh149, hb2⟩ := hQ149
    have N149 := Fr.app N148 Nq149
    refine own_go st149 ?_
    have e149 : T149.heap = h0 := hh149
    show own_G p e below (T149.setTop (mkF m 21 #[.val (.int p1), .val (.int p2), .val (.int p3), .val (.int p4), .val (.int (1 : Int32)), .val (.int bb0), .val (.int bb1), .unset, .unset, .unset, .unset, .unset] [(.int bb2)])) _
    refine own_go (fun _ k => XS.istore X149.here hx rfl (hb hby at_21) rfl (l' := #[.val (.int p1), .val (.int p2), .val (.int p3), .val (.int p4), .val (.int (1 : Int32)), .val (.int bb0), .val (.int bb1), .val (.int bb2), .unset, .unset, .unset, .unset]) rfl k) ?_
    show own_G p e below (T149.setTop (mkF m 23 #[.val (.int p1), .val (.int p2), .val (.int p3), .val (.int p4), .val (.int (1 : Int32)), .val (.int bb0), .val (.int bb1), .val (.int bb2), .unset, .unset, .unset, .unset] [])) _
    refine own_go (fun _ k => XS.iload X149.here hx rfl (hb hby at_23) rfl k) ?_
    show own_G p e below (T149.setTop (mkF m 25 #[.val (.int p1), .val (.int p2), .val (.int p3), .val (.int p4), .val (.int (1 : Int32)), .val (.int bb0), .val (.int bb1), .val (.int bb2), .unset, .unset, .unset, .unset] [(.int (1 : Int32))])) _
    obtain ⟨T150, h150, k150, X150, e150, E150, A150, Y150, st150⟩ := newPE X149 hx hZ (hw _ (List.mem_of_getElem? (i := 4) rfl)) e149 (g := (mkF m 25 #[.val (.int p1), .val (.int p2), .val (.int p3), .val (.int p4), .val (.int (1 : Int32)), .val (.int bb0), .val (.int bb1), .val (.int bb2), .unset, .unset, .unset, .unset] [(.int (1 : Int32))])) rfl (hb hby at_25) rfl (by decide) (cap := 1) (by decide) (by decide) (by decide) (by decide) (ad := "[B") (by decide)
    obtain ⟨b150, g150⟩ : ∃ z, z = h0.size := ⟨_, rfl⟩
    rw [← g150] at A150 Y150 st150
    refine own_go st150 ?_
    have ge151 : n0 ≤ b150 := Nat.le_trans Z0 (Nat.le_of_eq g150.symm)
    have zs152 : n0 ≤ h150.size := Nat.le_trans Z0 E150.1
    have V150 : Arv Z h150 b150 k150 .byte (1 : Int32) [(.int (0 : Int32))] (.int (0 : Int32)) := (Arv.new A150 (by decide)).pad (pad_rep [] (.int (0 : Int32)) 1)
    show own_G p e below (T150.setTop (mkF m 27 #[.val (.int p1), .val (.int p2), .val (.int p3), .val (.int p4), .val (.int (1 : Int32)), .val (.int bb0), .val (.int bb1), .val (.int bb2), .unset, .unset, .unset, .unset] [(.ref b150)])) _
    refine own_go (fun _ k => XS.astore X150.here hx rfl (hb hby at_27) rfl rfl (l' := #[.val (.int p1), .val (.int p2), .val (.int p3), .val (.int p4), .val (.int (1 : Int32)), .val (.int bb0), .val (.int bb1), .val (.int bb2), .val (.ref b150), .unset, .unset, .unset]) rfl k) ?_
    show own_G p e below (T150.setTop (mkF m 29 #[.val (.int p1), .val (.int p2), .val (.int p3), .val (.int p4), .val (.int (1 : Int32)), .val (.int bb0), .val (.int bb1), .val (.int bb2), .val (.ref b150), .unset, .unset, .unset] [])) _
    refine own_go (fun _ k => XS.iload X150.here hx rfl (hb hby at_29) rfl k) ?_
    show own_G p e below (T150.setTop (mkF m 31 #[.val (.int p1), .val (.int p2), .val (.int p3), .val (.int p4), .val (.int (1 : Int32)), .val (.int bb0), .val (.int bb1), .val (.int bb2), .val (.ref b150), .unset, .unset, .unset] [(.int (1 : Int32))])) _
    refine own_go (fun _ k => XS.ifNo X150.here hx rfl (hb hby at_31) rfl ((if0 _ _).trans (tlt (by decide : (0 : Int32) < (1 : Int32))).2.2.2) k) ?_
    show own_G p e below (T150.setTop (mkF m 34 #[.val (.int p1), .val (.int p2), .val (.int p3), .val (.int p4), .val (.int (1 : Int32)), .val (.int bb0), .val (.int bb1), .val (.int bb2), .val (.ref b150), .unset, .unset, .unset] [])) _
    refine own_go (fun _ k => XS.aload X150.here hx rfl (hb hby at_34) rfl rfl k) ?_
    show own_G p e below (T150.setTop (mkF m 36 #[.val (.int p1), .val (.int p2), .val (.int p3), .val (.int p4), .val (.int (1 : Int32)), .val (.int bb0), .val (.int bb1), .val (.int bb2), .val (.ref b150), .unset, .unset, .unset] [(.ref b150)])) _
    refine own_go (fun _ k => XS.iconst X150.here hx rfl (hb hby at_36) k) ?_
    show own_G p e below (T150.setTop (mkF m 37 #[.val (.int p1), .val (.int p2), .val (.int p3), .val (.int p4), .val (.int (1 : Int32)), .val (.int bb0), .val (.int bb1), .val (.int bb2), .val (.ref b150), .unset, .unset, .unset] [(.int (0 : Int32)), (.ref b150)])) _
    refine own_go (fun _ k => XS.iload X150.here hx rfl (hb hby at_37) rfl k) ?_
    show own_G p e below (T150.setTop (mkF m 39 #[.val (.int p1), .val (.int p2), .val (.int p3), .val (.int p4), .val (.int (1 : Int32)), .val (.int bb0), .val (.int bb1), .val (.int bb2), .val (.ref b150), .unset, .unset, .unset] [(.int bb0), (.int (0 : Int32)), (.ref b150)])) _
    obtain ⟨cl153, Ar153, q153, S153, M153, B153, G153⟩ := id V150
    have hin153 : ¬ ((0 : Int32) < 0 ∨ cl153.slots.size ≤ ((0 : Int32)).toNatClampNeg) := inb_of S153 ⟨by decide, by decide⟩
    obtain ⟨T153, h153, X153, e153, W153, st153⟩ := stB X150 hx hZ e150 Ar153 (j := (0 : Int32)) hin153 (g := (mkF m 39 #[.val (.int p1), .val (.int p2), .val (.int p3), .val (.int p4), .val (.int (1 : Int32)), .val (.int bb0), .val (.int bb1), .val (.int bb2), .val (.ref b150), .unset, .unset, .unset] [(.int bb0), (.int (0 : Int32)), (.ref b150)])) rfl rfl (hb hby at_39)
    refine own_go st153 ?_
    rw [show nar .byte bb0 = bb0 from hb0] at W153
    have f154 := Y150.wr W153
    have zs155 : n0 ≤ h153.size := Nat.le_trans zs152 (Keep.of_wr W153).1
    have V153 : Arv Z h153 b150 k150 .byte (1 : Int32) [(.int bb0)] (.int (0 : Int32)) := Arv.set Ar153 q153 S153 M153 B153 G153 (own_fit hb0) W153 0 rfl (Nat.le_of_ble_eq_true rfl)
    have N153 := Fr.snoc X153 N149 ge151
    show own_G p e below (T153.setTop (mkF m 40 #[.val (.int p1), .val (.int p2), .val (.int p3), .val (.int p4), .val (.int (1 : Int32)), .val (.int bb0), .val (.int bb1), .val (.int bb2), .val (.ref b150), .unset, .unset, .unset] [])) _
    refine own_go (fun _ k => XS.iload X153.here hx rfl (hb hby at_40) rfl k) ?_
    show own_G p e below (T153.setTop (mkF m 42 #[.val (.int p1), .val (.int p2), .val (.int p3), .val (.int p4), .val (.int (1 : Int32)), .val (.int bb0), .val (.int bb1), .val (.int bb2), .val (.ref b150), .unset, .unset, .unset] [(.int (1 : Int32))])) _
    refine own_go (fun _ k => XS.iconst X153.here hx rfl (hb hby at_42) k) ?_
    show own_G p e below (T153.setTop (mkF m 43 #[.val (.int p1), .val (.int p2), .val (.int p3), .val (.int p4), .val (.int (1 : Int32)), .val (.int bb0), .val (.int bb1), .val (.int bb2), .val (.ref b150), .unset, .unset, .unset] [(.int (1 : Int32)), (.int (1 : Int32))])) _
    refine own_go (fun _ k => XS.icmpYes X153.here hx rfl (pc0 := 43) (pc' := 52) rfl (hb hby at_43) rfl (flt (by decide : ¬ ((1 : Int32) < (1 : Int32)))).2.2.2 (by decide) (by decide) k) ?_
    show own_G p e below (T153.setTop (mkF m 52 #[.val (.int p1), .val (.int p2), .val (.int p3), .val (.int p4), .val (.int (1 : Int32)), .val (.int bb0), .val (.int bb1), .val (.int bb2), .val (.ref b150), .unset, .unset, .unset] [])) _
    refine own_go (fun _ k => XS.iload X153.here hx rfl (hb hby at_52) rfl k) ?_
    show own_G p e below (T153.setTop (mkF m 54 #[.val (.int p1), .val (.int p2), .val (.int p3), .val (.int p4), .val (.int (1 : Int32)), .val (.int bb0), .val (.int bb1), .val (.int bb2), .val (.ref b150), .unset, .unset, .unset] [(.int (1 : Int32))])) _
    refine own_go (fun _ k => XS.iconst X153.here hx rfl (hb hby at_54) k) ?_
    show own_G p e below (T153.setTop (mkF m 55 #[.val (.int p1), .val (.int p2), .val (.int p3), .val (.int p4), .val (.int (1 : Int32)), .val (.int bb0), .val (.int bb1), .val (.int bb2), .val (.ref b150), .unset, .unset, .unset] [(.int (2 : Int32)), (.int (1 : Int32))])) _
    refine own_go (fun _ k => XS.icmpYes X153.here hx rfl (pc0 := 55) (pc' := 64) rfl (hb hby at_55) rfl (flt (by decide : ¬ ((2 : Int32) < (1 : Int32)))).2.2.2 (by decide) (by decide) k) ?_
    show own_G p e below (T153.setTop (mkF m 64 #[.val (.int p1), .val (.int p2), .val (.int p3), .val (.int p4), .val (.int (1 : Int32)), .val (.int bb0), .val (.int bb1), .val (.int bb2), .val (.ref b150), .unset, .unset, .unset] [])) _
    refine own_go (fun _ k => XS.aload X153.here hx rfl (hb hby at_64) rfl rfl k) ?_
    show own_G p e below (T153.setTop (mkF m 66 #[.val (.int p1), .val (.int p2), .val (.int p3), .val (.int p4), .val (.int (1 : Int32)), .val (.int bb0), .val (.int bb1), .val (.int bb2), .val (.ref b150), .unset, .unset, .unset] [(.ref b150)])) _
    obtain ⟨vv156, _, ⟨T156, L156, k156, n156⟩, -, X156, ⟨Lc156, hQ156, l156, y156, z156⟩, st156⟩ := Jvm.LawKit.callS X153 hx (y := (⟨"com/example/orbweave/orbweave/store/KeyOrder", "prefixEnd", "([B)[B"⟩ : MethodName)) hown (mvT hZ (hw _ (List.mem_of_getElem? (i := 5) rfl))) (mvT hZ (hw _ (List.mem_of_getElem? (i := 6) rfl))) (mvT hZ (hw _ (List.mem_of_getElem? (i := 7) rfl))) (mvT hZ (hw _ (List.mem_of_getElem? (i := 8) rfl))) (by decide) (backOf (W := 0) (rm2_1 l Z a0 hw [] b150 k150 bb0 h153 n0 zs155 V153 f154) hZ (hw _ (List.mem_of_getElem? (i := 8) rfl)) (hw _ (List.mem_of_getElem? (i := 7) rfl)) (by decide) (by decide)) (g := (mkF m 66 #[.val (.int p1), .val (.int p2), .val (.int p3), .val (.int p4), .val (.int (1 : Int32)), .val (.int bb0), .val (.int bb1), .val (.int bb2), .val (.ref b150), .unset, .unset, .unset] [(.ref b150)])) rfl (by rw [hml]; rfl) (argsL := [(.ref b150)]) (rest := []) (lenOf pd_3 rfl) rfl (by show 2 * 0 + _ ≤ _; exact Nat.le_of_eq rfl) (hb hby at_66) (fun _ _ => ⟨rfl, e153, (by decide : 0 + 0 + 0 + 0 + 1 + 1 ≤ _), (by decide : 0 + 0 + 0 + 0 + 1 + 1 ≤ _)⟩)
    dsimp only [Pt.U, Pt.locs, Pt.cells, Pt.slots] at X156 l156 y156 z156 st156 hQ156
    subst l156 y156 z156
    obtain ⟨Nq156, K156, hd156⟩ := hQ156
    have N156 := Fr.app N153 Nq156
    have f157 := f154.keep K156
    have f158 := V153.keep K156 nin0
    have zs159 : n0 ≤ T156.heap.size := Nat.le_trans zs155 K156.1
    rcases hd156 with ⟨c0, r, kr, rfl, Vr⟩ | ⟨rfl, c0⟩
    · refine own_go st156 ?_
      show own_G p e below (T156.setTop (mkF m 69 #[.val (.int p1), .val (.int p2), .val (.int p3), .val (.int p4), .val (.int (1 : Int32)), .val (.int bb0), .val (.int bb1), .val (.int bb2), .val (.ref b150), .unset, .unset, .unset] [(.ref r)])) _
      refine own_go (fun _ k => XS.astore X156.here hx rfl (hb hby at_69) rfl rfl (l' := #[.val (.int p1), .val (.int p2), .val (.int p3), .val (.int p4), .val (.int (1 : Int32)), .val (.int bb0), .val (.int bb1), .val (.int bb2), .val (.ref b150), .val (.ref r), .unset, .unset]) rfl k) ?_
      show own_G p e below (T156.setTop (mkF m 71 #[.val (.int p1), .val (.int p2), .val (.int p3), .val (.int p4), .val (.int (1 : Int32)), .val (.int bb0), .val (.int bb1), .val (.int bb2), .val (.ref b150), .val (.ref r), .unset, .unset] [])) _
      refine own_go (fun _ k => XS.aload X156.here hx rfl (hb hby at_71) rfl rfl k) ?_
      show own_G p e below (T156.setTop (mkF m 73 #[.val (.int p1), .val (.int p2), .val (.int p3), .val (.int p4), .val (.int (1 : Int32)), .val (.int bb0), .val (.int bb1), .val (.int bb2), .val (.ref b150), .val (.ref r), .unset, .unset] [(.ref b150)])) _
      obtain ⟨cl160, Ar160, q160, S160, M160, B160, G160⟩ := id f158
      refine own_go (X156.arraylength hx Ar160.1 (State.isArrayOf_alike hZ.alike Ar160.2.1) (g := (mkF m 73 #[.val (.int p1), .val (.int p2), .val (.int p3), .val (.int p4), .val (.int (1 : Int32)), .val (.int bb0), .val (.int bb1), .val (.int bb2), .val (.ref b150), .val (.ref r), .unset, .unset] [(.ref b150)])) rfl rfl (hb hby at_73)) ?_
      rw [len_of S160 M160]
      show own_G p e below (T156.setTop (mkF m 74 #[.val (.int p1), .val (.int p2), .val (.int p3), .val (.int p4), .val (.int (1 : Int32)), .val (.int bb0), .val (.int bb1), .val (.int bb2), .val (.ref b150), .val (.ref r), .unset, .unset] [(.int (1 : Int32))])) _
      refine own_go (fun _ k => XS.iload X156.here hx rfl (hb hby at_74) rfl k) ?_
      show own_G p e below (T156.setTop (mkF m 76 #[.val (.int p1), .val (.int p2), .val (.int p3), .val (.int p4), .val (.int (1 : Int32)), .val (.int bb0), .val (.int bb1), .val (.int bb2), .val (.ref b150), .val (.ref r), .unset, .unset] [(.int (1 : Int32)), (.int (1 : Int32))])) _
      refine own_go (fun _ k => XS.icmpYes X156.here hx rfl (pc0 := 76) (pc' := 81) rfl (hb hby at_76) rfl (teq (by decide : (1 : Int32) = (1 : Int32))).1 (by decide) (by decide) k) ?_
      show own_G p e below (T156.setTop (mkF m 81 #[.val (.int p1), .val (.int p2), .val (.int p3), .val (.int p4), .val (.int (1 : Int32)), .val (.int bb0), .val (.int bb1), .val (.int bb2), .val (.ref b150), .val (.ref r), .unset, .unset] [])) _
      refine own_go (fun _ k => XS.iload X156.here hx rfl (hb hby at_81) rfl k) ?_
      show own_G p e below (T156.setTop (mkF m 83 #[.val (.int p1), .val (.int p2), .val (.int p3), .val (.int p4), .val (.int (1 : Int32)), .val (.int bb0), .val (.int bb1), .val (.int bb2), .val (.ref b150), .val (.ref r), .unset, .unset] [(.int (1 : Int32))])) _
      refine own_go (fun _ k => XS.ifNo X156.here hx rfl (hb hby at_83) rfl ((if0 _ _).trans (tlt (by decide : (0 : Int32) < (1 : Int32))).2.2.2) k) ?_
      show own_G p e below (T156.setTop (mkF m 86 #[.val (.int p1), .val (.int p2), .val (.int p3), .val (.int p4), .val (.int (1 : Int32)), .val (.int bb0), .val (.int bb1), .val (.int bb2), .val (.ref b150), .val (.ref r), .unset, .unset] [])) _
      refine own_go (fun _ k => XS.aload X156.here hx rfl (hb hby at_86) rfl rfl k) ?_
      show own_G p e below (T156.setTop (mkF m 88 #[.val (.int p1), .val (.int p2), .val (.int p3), .val (.int p4), .val (.int (1 : Int32)), .val (.int bb0), .val (.int bb1), .val (.int bb2), .val (.ref b150), .val (.ref r), .unset, .unset] [(.ref b150)])) _
      refine own_go (fun _ k => XS.iconst X156.here hx rfl (hb hby at_88) k) ?_
      show own_G p e below (T156.setTop (mkF m 89 #[.val (.int p1), .val (.int p2), .val (.int p3), .val (.int p4), .val (.int (1 : Int32)), .val (.int bb0), .val (.int bb1), .val (.int bb2), .val (.ref b150), .val (.ref r), .unset, .unset] [(.int (0 : Int32)), (.ref b150)])) _
      obtain ⟨cl161, Ar161, q161, S161, M161, B161, G161⟩ := id f158
      have hin161 : ¬ ((0 : Int32) < 0 ∨ cl161.slots.size ≤ ((0 : Int32)).toNatClampNeg) := inb_of S161 ⟨by decide, by decide⟩
      have hat161 : cl161.slots[((0 : Int32)).toNatClampNeg]? = some (.int bb0) := B161.at hin161 rfl
      refine own_go (X156.baloadBytes hx (j := (0 : Int32)) (v := (.int bb0)) Ar161.1 (State.isArrayOf_alike hZ.alike Ar161.2.1) Ar161.2.2 hin161 hat161 (g := (mkF m 89 #[.val (.int p1), .val (.int p2), .val (.int p3), .val (.int p4), .val (.int (1 : Int32)), .val (.int bb0), .val (.int bb1), .val (.int bb2), .val (.ref b150), .val (.ref r), .unset, .unset] [(.int (0 : Int32)), (.ref b150)])) rfl rfl (hb hby at_89)) ?_
      show own_G p e below (T156.setTop (mkF m 90 #[.val (.int p1), .val (.int p2), .val (.int p3), .val (.int p4), .val (.int (1 : Int32)), .val (.int bb0), .val (.int bb1), .val (.int bb2), .val (.ref b150), .val (.ref r), .unset, .unset] [(.int bb0)])) _
      refine own_go (fun _ k => XS.iload X156.here hx rfl (hb hby at_90) rfl k) ?_
      show own_G p e below (T156.setTop (mkF m 92 #[.val (.int p1), .val (.int p2), .val (.int p3), .val (.int p4), .val (.int (1 : Int32)), .val (.int bb0), .val (.int bb1), .val (.int bb2), .val (.ref b150), .val (.ref r), .unset, .unset] [(.int bb0), (.int bb0)])) _
      refine own_go (fun _ k => XS.icmpYes X156.here hx rfl (pc0 := 92) (pc' := 97) rfl (hb hby at_92) rfl (teq (rfl : bb0 = bb0)).1 (by decide) (by decide) k) ?_
      show own_G p e below (T156.setTop (mkF m 97 #[.val (.int p1), .val (.int p2), .val (.int p3), .val (.int p4), .val (.int (1 : Int32)), .val (.int bb0), .val (.int bb1), .val (.int bb2), .val (.ref b150), .val (.ref r), .unset, .unset] [])) _
      refine own_go (fun _ k => XS.iload X156.here hx rfl (hb hby at_97) rfl k) ?_
      show own_G p e below (T156.setTop (mkF m 99 #[.val (.int p1), .val (.int p2), .val (.int p3), .val (.int p4), .val (.int (1 : Int32)), .val (.int bb0), .val (.int bb1), .val (.int bb2), .val (.ref b150), .val (.ref r), .unset, .unset] [(.int (1 : Int32))])) _
      refine own_go (fun _ k => XS.iconst X156.here hx rfl (hb hby at_99) k) ?_
      show own_G p e below (T156.setTop (mkF m 100 #[.val (.int p1), .val (.int p2), .val (.int p3), .val (.int p4), .val (.int (1 : Int32)), .val (.int bb0), .val (.int bb1), .val (.int bb2), .val (.ref b150), .val (.ref r), .unset, .unset] [(.int (1 : Int32)), (.int (1 : Int32))])) _
      refine own_go (fun _ k => XS.icmpYes X156.here hx rfl (pc0 := 100) (pc' := 114) rfl (hb hby at_100) rfl (flt (by decide : ¬ ((1 : Int32) < (1 : Int32)))).2.2.2 (by decide) (by decide) k) ?_
      show own_G p e below (T156.setTop (mkF m 114 #[.val (.int p1), .val (.int p2), .val (.int p3), .val (.int p4), .val (.int (1 : Int32)), .val (.int bb0), .val (.int bb1), .val (.int bb2), .val (.ref b150), .val (.ref r), .unset, .unset] [])) _
      refine own_go (fun _ k => XS.iload X156.here hx rfl (hb hby at_114) rfl k) ?_
      show own_G p e below (T156.setTop (mkF m 116 #[.val (.int p1), .val (.int p2), .val (.int p3), .val (.int p4), .val (.int (1 : Int32)), .val (.int bb0), .val (.int bb1), .val (.int bb2), .val (.ref b150), .val (.ref r), .unset, .unset] [(.int (1 : Int32))])) _
      refine own_go (fun _ k => XS.iconst X156.here hx rfl (hb hby at_116) k) ?_
      show own_G p e below (T156.setTop (mkF m 117 #[.val (.int p1), .val (.int p2), .val (.int p3), .val (.int p4), .val (.int (1 : Int32)), .val (.int bb0), .val (.int bb1), .val (.int bb2), .val (.ref b150), .val (.ref r), .unset, .unset] [(.int (2 : Int32)), (.int (1 : Int32))])) _
      refine own_go (fun _ k => XS.icmpYes X156.here hx rfl (pc0 := 117) (pc' := 131) rfl (hb hby at_117) rfl (flt (by decide : ¬ ((2 : Int32) < (1 : Int32)))).2.2.2 (by decide) (by decide) k) ?_
      show own_G p e below (T156.setTop (mkF m 131 #[.val (.int p1), .val (.int p2), .val (.int p3), .val (.int p4), .val (.int (1 : Int32)), .val (.int bb0), .val (.int bb1), .val (.int bb2), .val (.ref b150), .val (.ref r), .unset, .unset] [])) _
      refine own_go (fun _ k => XS.iconst X156.here hx rfl (hb hby at_131) k) ?_
      show own_G p e below (T156.setTop (mkF m 132 #[.val (.int p1), .val (.int p2), .val (.int p3), .val (.int p4), .val (.int (1 : Int32)), .val (.int bb0), .val (.int bb1), .val (.int bb2), .val (.ref b150), .val (.ref r), .unset, .unset] [(.int (-1 : Int32))])) _
      refine own_go (fun _ k => XS.istore X156.here hx rfl (hb hby at_132) rfl (l' := #[.val (.int p1), .val (.int p2), .val (.int p3), .val (.int p4), .val (.int (1 : Int32)), .val (.int bb0), .val (.int bb1), .val (.int bb2), .val (.ref b150), .val (.ref r), .val (.int (-1 : Int32)), .unset]) rfl k) ?_
      show own_G p e below (T156.setTop (mkF m 134 #[.val (.int p1), .val (.int p2), .val (.int p3), .val (.int p4), .val (.int (1 : Int32)), .val (.int bb0), .val (.int bb1), .val (.int bb2), .val (.ref b150), .val (.ref r), .val (.int (-1 : Int32)), .unset] [])) _
      refine own_go (fun _ k => XS.iload X156.here hx rfl (hb hby at_134) rfl k) ?_
      show own_G p e below (T156.setTop (mkF m 136 #[.val (.int p1), .val (.int p2), .val (.int p3), .val (.int p4), .val (.int (1 : Int32)), .val (.int bb0), .val (.int bb1), .val (.int bb2), .val (.ref b150), .val (.ref r), .val (.int (-1 : Int32)), .unset] [(.int (1 : Int32))])) _
      refine own_go (fun _ k => XS.ifNo X156.here hx rfl (hb hby at_136) rfl ((if0 _ _).trans (tlt (by decide : (0 : Int32) < (1 : Int32))).2.2.2) k) ?_
      show own_G p e below (T156.setTop (mkF m 139 #[.val (.int p1), .val (.int p2), .val (.int p3), .val (.int p4), .val (.int (1 : Int32)), .val (.int bb0), .val (.int bb1), .val (.int bb2), .val (.ref b150), .val (.ref r), .val (.int (-1 : Int32)), .unset] [])) _
      refine own_go (fun _ k => XS.iload X156.here hx rfl (hb hby at_139) rfl k) ?_
      show own_G p e below (T156.setTop (mkF m 141 #[.val (.int p1), .val (.int p2), .val (.int p3), .val (.int p4), .val (.int (1 : Int32)), .val (.int bb0), .val (.int bb1), .val (.int bb2), .val (.ref b150), .val (.ref r), .val (.int (-1 : Int32)), .unset] [(.int bb0)])) _
      refine own_go (fun _ k => XS.iconst X156.here hx rfl (hb hby at_141) k) ?_
      show own_G p e below (T156.setTop (mkF m 142 #[.val (.int p1), .val (.int p2), .val (.int p3), .val (.int p4), .val (.int (1 : Int32)), .val (.int bb0), .val (.int bb1), .val (.int bb2), .val (.ref b150), .val (.ref r), .val (.int (-1 : Int32)), .unset] [(.int (-1 : Int32)), (.int bb0)])) _
      refine own_go (fun _ k => XS.icmpNo X156.here hx rfl (hb hby at_142) rfl (feq c0).1 k) ?_
      show own_G p e below (T156.setTop (mkF m 145 #[.val (.int p1), .val (.int p2), .val (.int p3), .val (.int p4), .val (.int (1 : Int32)), .val (.int bb0), .val (.int bb1), .val (.int bb2), .val (.ref b150), .val (.ref r), .val (.int (-1 : Int32)), .unset] [])) _
      refine own_go (fun _ k => XS.iconst X156.here hx rfl (hb hby at_145) k) ?_
      show own_G p e below (T156.setTop (mkF m 146 #[.val (.int p1), .val (.int p2), .val (.int p3), .val (.int p4), .val (.int (1 : Int32)), .val (.int bb0), .val (.int bb1), .val (.int bb2), .val (.ref b150), .val (.ref r), .val (.int (-1 : Int32)), .unset] [(.int (0 : Int32))])) _
      refine own_go (fun _ k => XS.istore X156.here hx rfl (hb hby at_146) rfl (l' := #[.val (.int p1), .val (.int p2), .val (.int p3), .val (.int p4), .val (.int (1 : Int32)), .val (.int bb0), .val (.int bb1), .val (.int bb2), .val (.ref b150), .val (.ref r), .val (.int (0 : Int32)), .unset]) rfl k) ?_
      show own_G p e below (T156.setTop (mkF m 148 #[.val (.int p1), .val (.int p2), .val (.int p3), .val (.int p4), .val (.int (1 : Int32)), .val (.int bb0), .val (.int bb1), .val (.int bb2), .val (.ref b150), .val (.ref r), .val (.int (0 : Int32)), .unset] [])) _
      refine own_go (fun _ k => XS.iload X156.here hx rfl (hb hby at_148) rfl k) ?_
      show own_G p e below (T156.setTop (mkF m 150 #[.val (.int p1), .val (.int p2), .val (.int p3), .val (.int p4), .val (.int (1 : Int32)), .val (.int bb0), .val (.int bb1), .val (.int bb2), .val (.ref b150), .val (.ref r), .val (.int (0 : Int32)), .unset] [(.int (1 : Int32))])) _
      refine own_go (fun _ k => XS.iconst X156.here hx rfl (hb hby at_150) k) ?_
      show own_G p e below (T156.setTop (mkF m 151 #[.val (.int p1), .val (.int p2), .val (.int p3), .val (.int p4), .val (.int (1 : Int32)), .val (.int bb0), .val (.int bb1), .val (.int bb2), .val (.ref b150), .val (.ref r), .val (.int (0 : Int32)), .unset] [(.int (1 : Int32)), (.int (1 : Int32))])) _
      refine own_go (fun _ k => XS.icmpYes X156.here hx rfl (pc0 := 151) (pc' := 163) rfl (hb hby at_151) rfl (flt (by decide : ¬ ((1 : Int32) < (1 : Int32)))).2.2.2 (by decide) (by decide) k) ?_
      show own_G p e below (T156.setTop (mkF m 163 #[.val (.int p1), .val (.int p2), .val (.int p3), .val (.int p4), .val (.int (1 : Int32)), .val (.int bb0), .val (.int bb1), .val (.int bb2), .val (.ref b150), .val (.ref r), .val (.int (0 : Int32)), .unset] [])) _
      refine own_go (fun _ k => XS.iload X156.here hx rfl (hb hby at_163) rfl k) ?_
      show own_G p e below (T156.setTop (mkF m 165 #[.val (.int p1), .val (.int p2), .val (.int p3), .val (.int p4), .val (.int (1 : Int32)), .val (.int bb0), .val (.int bb1), .val (.int bb2), .val (.ref b150), .val (.ref r), .val (.int (0 : Int32)), .unset] [(.int (1 : Int32))])) _
      refine own_go (fun _ k => XS.iconst X156.here hx rfl (hb hby at_165) k) ?_
      show own_G p e below (T156.setTop (mkF m 166 #[.val (.int p1), .val (.int p2), .val (.int p3), .val (.int p4), .val (.int (1 : Int32)), .val (.int bb0), .val (.int bb1), .val (.int bb2), .val (.ref b150), .val (.ref r), .val (.int (0 : Int32)), .unset] [(.int (2 : Int32)), (.int (1 : Int32))])) _
      refine own_go (fun _ k => XS.icmpYes X156.here hx rfl (pc0 := 166) (pc' := 178) rfl (hb hby at_166) rfl (flt (by decide : ¬ ((2 : Int32) < (1 : Int32)))).2.2.2 (by decide) (by decide) k) ?_
      show own_G p e below (T156.setTop (mkF m 178 #[.val (.int p1), .val (.int p2), .val (.int p3), .val (.int p4), .val (.int (1 : Int32)), .val (.int bb0), .val (.int bb1), .val (.int bb2), .val (.ref b150), .val (.ref r), .val (.int (0 : Int32)), .unset] [])) _
      refine own_go (fun _ k => XS.iload X156.here hx rfl (hb hby at_178) rfl k) ?_
      show own_G p e below (T156.setTop (mkF m 180 #[.val (.int p1), .val (.int p2), .val (.int p3), .val (.int p4), .val (.int (1 : Int32)), .val (.int bb0), .val (.int bb1), .val (.int bb2), .val (.ref b150), .val (.ref r), .val (.int (0 : Int32)), .unset] [(.int (0 : Int32))])) _
      refine own_go (fun _ k => XS.ifYes X156.here hx rfl (pc0 := 180) (pc' := 194) rfl (hb hby at_180) rfl ((if0 _ _).trans (flt (by decide : ¬ ((0 : Int32) < (0 : Int32)))).2.1) (by decide) (by decide) k) ?_
      show own_G p e below (T156.setTop (mkF m 194 #[.val (.int p1), .val (.int p2), .val (.int p3), .val (.int p4), .val (.int (1 : Int32)), .val (.int bb0), .val (.int bb1), .val (.int bb2), .val (.ref b150), .val (.ref r), .val (.int (0 : Int32)), .unset] [])) _
      refine own_go (fun _ k => XS.aload X156.here hx rfl (hb hby at_194) rfl rfl k) ?_
      show own_G p e below (T156.setTop (mkF m 196 #[.val (.int p1), .val (.int p2), .val (.int p3), .val (.int p4), .val (.int (1 : Int32)), .val (.int bb0), .val (.int bb1), .val (.int bb2), .val (.ref b150), .val (.ref r), .val (.int (0 : Int32)), .unset] [(.ref r)])) _
      refine own_go (fun _ k => XS.ifnullNo X156.here hx rfl (hb hby at_196) rfl k) ?_
      show own_G p e below (T156.setTop (mkF m 199 #[.val (.int p1), .val (.int p2), .val (.int p3), .val (.int p4), .val (.int (1 : Int32)), .val (.int bb0), .val (.int bb1), .val (.int bb2), .val (.ref b150), .val (.ref r), .val (.int (0 : Int32)), .unset] [])) _
      refine own_go (fun _ k => XS.aload X156.here hx rfl (hb hby at_199) rfl rfl k) ?_
      show own_G p e below (T156.setTop (mkF m 201 #[.val (.int p1), .val (.int p2), .val (.int p3), .val (.int p4), .val (.int (1 : Int32)), .val (.int bb0), .val (.int bb1), .val (.int bb2), .val (.ref b150), .val (.ref r), .val (.int (0 : Int32)), .unset] [(.ref r)])) _
      obtain ⟨cl162, Ar162, q162, S162, M162, B162, G162⟩ := id Vr
      refine own_go (X156.arraylength hx Ar162.1 (State.isArrayOf_alike hZ.alike Ar162.2.1) (g := (mkF m 201 #[.val (.int p1), .val (.int p2), .val (.int p3), .val (.int p4), .val (.int (1 : Int32)), .val (.int bb0), .val (.int bb1), .val (.int bb2), .val (.ref b150), .val (.ref r), .val (.int (0 : Int32)), .unset] [(.ref r)])) rfl rfl (hb hby at_201)) ?_
      rw [len_of S162 M162]
      show own_G p e below (T156.setTop (mkF m 202 #[.val (.int p1), .val (.int p2), .val (.int p3), .val (.int p4), .val (.int (1 : Int32)), .val (.int bb0), .val (.int bb1), .val (.int bb2), .val (.ref b150), .val (.ref r), .val (.int (0 : Int32)), .unset] [(.int (1 : Int32))])) _
      refine own_go (fun _ k => XS.iload X156.here hx rfl (hb hby at_202) rfl k) ?_
      show own_G p e below (T156.setTop (mkF m 204 #[.val (.int p1), .val (.int p2), .val (.int p3), .val (.int p4), .val (.int (1 : Int32)), .val (.int bb0), .val (.int bb1), .val (.int bb2), .val (.ref b150), .val (.ref r), .val (.int (0 : Int32)), .unset] [(.int (0 : Int32)), (.int (1 : Int32))])) _
      refine own_go (fun _ k => XS.iconst X156.here hx rfl (hb hby at_204) k) ?_
      show own_G p e below (T156.setTop (mkF m 205 #[.val (.int p1), .val (.int p2), .val (.int p3), .val (.int p4), .val (.int (1 : Int32)), .val (.int bb0), .val (.int bb1), .val (.int bb2), .val (.ref b150), .val (.ref r), .val (.int (0 : Int32)), .unset] [(.int (1 : Int32)), (.int (0 : Int32)), (.int (1 : Int32))])) _
      refine own_go (fun _ k => XS.iadd X156.here hx rfl (hb hby at_205) rfl k) ?_
      show own_G p e below (T156.setTop (mkF m 206 #[.val (.int p1), .val (.int p2), .val (.int p3), .val (.int p4), .val (.int (1 : Int32)), .val (.int bb0), .val (.int bb1), .val (.int bb2), .val (.ref b150), .val (.ref r), .val (.int (0 : Int32)), .unset] [(.int (1 : Int32)), (.int (1 : Int32))])) _
      refine own_go (fun _ k => XS.icmpYes X156.here hx rfl (pc0 := 206) (pc' := 211) rfl (hb hby at_206) rfl (teq (by decide : (1 : Int32) = (1 : Int32))).1 (by decide) (by decide) k) ?_
      show own_G p e below (T156.setTop (mkF m 211 #[.val (.int p1), .val (.int p2), .val (.int p3), .val (.int p4), .val (.int (1 : Int32)), .val (.int bb0), .val (.int bb1), .val (.int bb2), .val (.ref b150), .val (.ref r), .val (.int (0 : Int32)), .unset] [])) _
      refine own_go (fun _ k => XS.iload X156.here hx rfl (hb hby at_211) rfl k) ?_
      show own_G p e below (T156.setTop (mkF m 213 #[.val (.int p1), .val (.int p2), .val (.int p3), .val (.int p4), .val (.int (1 : Int32)), .val (.int bb0), .val (.int bb1), .val (.int bb2), .val (.ref b150), .val (.ref r), .val (.int (0 : Int32)), .unset] [(.int (0 : Int32))])) _
      refine own_go (fun _ k => XS.ifYes X156.here hx rfl (pc0 := 213) (pc' := 227) rfl (hb hby at_213) rfl ((if0 _ _).trans (flt (by decide : ¬ ((0 : Int32) < (0 : Int32)))).2.2.2) (by decide) (by decide) k) ?_
      show own_G p e below (T156.setTop (mkF m 227 #[.val (.int p1), .val (.int p2), .val (.int p3), .val (.int p4), .val (.int (1 : Int32)), .val (.int bb0), .val (.int bb1), .val (.int bb2), .val (.ref b150), .val (.ref r), .val (.int (0 : Int32)), .unset] [])) _
      refine own_go (fun _ k => XS.iload X156.here hx rfl (hb hby at_227) rfl k) ?_
      show own_G p e below (T156.setTop (mkF m 229 #[.val (.int p1), .val (.int p2), .val (.int p3), .val (.int p4), .val (.int (1 : Int32)), .val (.int bb0), .val (.int bb1), .val (.int bb2), .val (.ref b150), .val (.ref r), .val (.int (0 : Int32)), .unset] [(.int (0 : Int32))])) _
      refine own_go (fun _ k => XS.iconst X156.here hx rfl (hb hby at_229) k) ?_
      show own_G p e below (T156.setTop (mkF m 230 #[.val (.int p1), .val (.int p2), .val (.int p3), .val (.int p4), .val (.int (1 : Int32)), .val (.int bb0), .val (.int bb1), .val (.int bb2), .val (.ref b150), .val (.ref r), .val (.int (0 : Int32)), .unset] [(.int (1 : Int32)), (.int (0 : Int32))])) _
      refine own_go (fun _ k => XS.icmpYes X156.here hx rfl (pc0 := 230) (pc' := 244) rfl (hb hby at_230) rfl (flt (by decide : ¬ ((1 : Int32) < (0 : Int32)))).2.2.2 (by decide) (by decide) k) ?_
      show own_G p e below (T156.setTop (mkF m 244 #[.val (.int p1), .val (.int p2), .val (.int p3), .val (.int p4), .val (.int (1 : Int32)), .val (.int bb0), .val (.int bb1), .val (.int bb2), .val (.ref b150), .val (.ref r), .val (.int (0 : Int32)), .unset] [])) _
      refine own_go (fun _ k => XS.iload X156.here hx rfl (hb hby at_244) rfl k) ?_
      show own_G p e below (T156.setTop (mkF m 246 #[.val (.int p1), .val (.int p2), .val (.int p3), .val (.int p4), .val (.int (1 : Int32)), .val (.int bb0), .val (.int bb1), .val (.int bb2), .val (.ref b150), .val (.ref r), .val (.int (0 : Int32)), .unset] [(.int (0 : Int32))])) _
      refine own_go (fun _ k => XS.ifNo X156.here hx rfl (hb hby at_246) rfl ((if0 _ _).trans (teq (by decide : (0 : Int32) = (0 : Int32))).2) k) ?_
      show own_G p e below (T156.setTop (mkF m 249 #[.val (.int p1), .val (.int p2), .val (.int p3), .val (.int p4), .val (.int (1 : Int32)), .val (.int bb0), .val (.int bb1), .val (.int bb2), .val (.ref b150), .val (.ref r), .val (.int (0 : Int32)), .unset] [])) _
      refine own_go (fun _ k => XS.iload X156.here hx rfl (hb hby at_249) rfl k) ?_
      show own_G p e below (T156.setTop (mkF m 251 #[.val (.int p1), .val (.int p2), .val (.int p3), .val (.int p4), .val (.int (1 : Int32)), .val (.int bb0), .val (.int bb1), .val (.int bb2), .val (.ref b150), .val (.ref r), .val (.int (0 : Int32)), .unset] [(.int bb0)])) _
      refine own_go (fun _ k => XS.goto X156.here hx rfl (pc0 := 251) (pc' := 267) rfl (hb hby at_251) (by decide) (by decide) k) ?_
      show own_G p e below (T156.setTop (mkF m 267 #[.val (.int p1), .val (.int p2), .val (.int p3), .val (.int p4), .val (.int (1 : Int32)), .val (.int bb0), .val (.int bb1), .val (.int bb2), .val (.ref b150), .val (.ref r), .val (.int (0 : Int32)), .unset] [(.int bb0)])) _
      refine own_go (fun _ k => XS.istore X156.here hx rfl (hb hby at_267) rfl (l' := #[.val (.int p1), .val (.int p2), .val (.int p3), .val (.int p4), .val (.int (1 : Int32)), .val (.int bb0), .val (.int bb1), .val (.int bb2), .val (.ref b150), .val (.ref r), .val (.int (0 : Int32)), .val (.int bb0)]) rfl k) ?_
      show own_G p e below (T156.setTop (mkF m 269 #[.val (.int p1), .val (.int p2), .val (.int p3), .val (.int p4), .val (.int (1 : Int32)), .val (.int bb0), .val (.int bb1), .val (.int bb2), .val (.ref b150), .val (.ref r), .val (.int (0 : Int32)), .val (.int bb0)] [])) _
      refine own_go (fun _ k => XS.aload X156.here hx rfl (hb hby at_269) rfl rfl k) ?_
      show own_G p e below (T156.setTop (mkF m 271 #[.val (.int p1), .val (.int p2), .val (.int p3), .val (.int p4), .val (.int (1 : Int32)), .val (.int bb0), .val (.int bb1), .val (.int bb2), .val (.ref b150), .val (.ref r), .val (.int (0 : Int32)), .val (.int bb0)] [(.ref r)])) _
      refine own_go (fun _ k => XS.iload X156.here hx rfl (hb hby at_271) rfl k) ?_
      show own_G p e below (T156.setTop (mkF m 273 #[.val (.int p1), .val (.int p2), .val (.int p3), .val (.int p4), .val (.int (1 : Int32)), .val (.int bb0), .val (.int bb1), .val (.int bb2), .val (.ref b150), .val (.ref r), .val (.int (0 : Int32)), .val (.int bb0)] [(.int (0 : Int32)), (.ref r)])) _
      obtain ⟨cl163, Ar163, q163, S163, M163, B163, G163⟩ := id Vr
      have hin163 : ¬ ((0 : Int32) < 0 ∨ cl163.slots.size ≤ ((0 : Int32)).toNatClampNeg) := inb_of S163 ⟨by decide, by decide⟩
      have hat163 : cl163.slots[((0 : Int32)).toNatClampNeg]? = some (.int ((bb0 + (1 : Int32)).toInt8.toInt32)) := B163.at hin163 rfl
      refine own_go (X156.baloadBytes hx (j := (0 : Int32)) (v := (.int ((bb0 + (1 : Int32)).toInt8.toInt32))) Ar163.1 (State.isArrayOf_alike hZ.alike Ar163.2.1) Ar163.2.2 hin163 hat163 (g := (mkF m 273 #[.val (.int p1), .val (.int p2), .val (.int p3), .val (.int p4), .val (.int (1 : Int32)), .val (.int bb0), .val (.int bb1), .val (.int bb2), .val (.ref b150), .val (.ref r), .val (.int (0 : Int32)), .val (.int bb0)] [(.int (0 : Int32)), (.ref r)])) rfl rfl (hb hby at_273)) ?_
      show own_G p e below (T156.setTop (mkF m 274 #[.val (.int p1), .val (.int p2), .val (.int p3), .val (.int p4), .val (.int (1 : Int32)), .val (.int bb0), .val (.int bb1), .val (.int bb2), .val (.ref b150), .val (.ref r), .val (.int (0 : Int32)), .val (.int bb0)] [(.int ((bb0 + (1 : Int32)).toInt8.toInt32))])) _
      refine own_go (fun _ k => XS.iload X156.here hx rfl (hb hby at_274) rfl k) ?_
      show own_G p e below (T156.setTop (mkF m 276 #[.val (.int p1), .val (.int p2), .val (.int p3), .val (.int p4), .val (.int (1 : Int32)), .val (.int bb0), .val (.int bb1), .val (.int bb2), .val (.ref b150), .val (.ref r), .val (.int (0 : Int32)), .val (.int bb0)] [(.int bb0), (.int ((bb0 + (1 : Int32)).toInt8.toInt32))])) _
      refine own_go (fun _ k => XS.iconst X156.here hx rfl (hb hby at_276) k) ?_
      show own_G p e below (T156.setTop (mkF m 277 #[.val (.int p1), .val (.int p2), .val (.int p3), .val (.int p4), .val (.int (1 : Int32)), .val (.int bb0), .val (.int bb1), .val (.int bb2), .val (.ref b150), .val (.ref r), .val (.int (0 : Int32)), .val (.int bb0)] [(.int (1 : Int32)), (.int bb0), (.int ((bb0 + (1 : Int32)).toInt8.toInt32))])) _
      refine own_go (fun _ k => XS.iadd X156.here hx rfl (hb hby at_277) rfl k) ?_
      show own_G p e below (T156.setTop (mkF m 278 #[.val (.int p1), .val (.int p2), .val (.int p3), .val (.int p4), .val (.int (1 : Int32)), .val (.int bb0), .val (.int bb1), .val (.int bb2), .val (.ref b150), .val (.ref r), .val (.int (0 : Int32)), .val (.int bb0)] [(.int (bb0 + (1 : Int32))), (.int ((bb0 + (1 : Int32)).toInt8.toInt32))])) _
      refine own_go (fun _ k => XS.i2b X156.here hx rfl (hb hby at_278) rfl k) ?_
      show own_G p e below (T156.setTop (mkF m 279 #[.val (.int p1), .val (.int p2), .val (.int p3), .val (.int p4), .val (.int (1 : Int32)), .val (.int bb0), .val (.int bb1), .val (.int bb2), .val (.ref b150), .val (.ref r), .val (.int (0 : Int32)), .val (.int bb0)] [(.int ((bb0 + (1 : Int32)).toInt8.toInt32)), (.int ((bb0 + (1 : Int32)).toInt8.toInt32))])) _
      refine own_go (fun _ k => XS.icmpNo X156.here hx rfl (hb hby at_279) rfl (teq (rfl : ((bb0 + (1 : Int32)).toInt8.toInt32) = ((bb0 + (1 : Int32)).toInt8.toInt32))).2 k) ?_
      show own_G p e below (T156.setTop (mkF m 282 #[.val (.int p1), .val (.int p2), .val (.int p3), .val (.int p4), .val (.int (1 : Int32)), .val (.int bb0), .val (.int bb1), .val (.int bb2), .val (.ref b150), .val (.ref r), .val (.int (0 : Int32)), .val (.int bb0)] [])) _
      refine own_go (fun _ k => XS.iconst X156.here hx rfl (hb hby at_282) k) ?_
      show own_G p e below (T156.setTop (mkF m 283 #[.val (.int p1), .val (.int p2), .val (.int p3), .val (.int p4), .val (.int (1 : Int32)), .val (.int bb0), .val (.int bb1), .val (.int bb2), .val (.ref b150), .val (.ref r), .val (.int (0 : Int32)), .val (.int bb0)] [(.int (1 : Int32))])) _
      refine own_go (fun _ k => XS.goto X156.here hx rfl (pc0 := 283) (pc' := 287) rfl (hb hby at_283) (by decide) (by decide) k) ?_
      show own_G p e below (T156.setTop (mkF m 287 #[.val (.int p1), .val (.int p2), .val (.int p3), .val (.int p4), .val (.int (1 : Int32)), .val (.int bb0), .val (.int bb1), .val (.int bb2), .val (.ref b150), .val (.ref r), .val (.int (0 : Int32)), .val (.int bb0)] [(.int (1 : Int32))])) _
      refine own_ret X156 hlk (v := some (.int (1 : Int32))) (fun h => by rw [hret] at h; cases h) (Q0 Z p1 p2 p3 p4 h0 n0) (own_retI X156 hx (t := .boolean) hret rfl (Or.inl ⟨rfl, by simp, _, rfl⟩) (hb hby at_287)) (by decide) (by decide) ?_
      show Q0 Z p1 p2 p3 p4 h0 n0 _ T156.heap _
      exact ⟨rfl, N156⟩
    · refine own_go st156 ?_
      show own_G p e below (T156.setTop (mkF m 69 #[.val (.int p1), .val (.int p2), .val (.int p3), .val (.int p4), .val (.int (1 : Int32)), .val (.int bb0), .val (.int bb1), .val (.int bb2), .val (.ref b150), .unset, .unset, .unset] [.null])) _
      refine own_go (fun _ k => XS.astore X156.here hx rfl (hb hby at_69) rfl rfl (l' := #[.val (.int p1), .val (.int p2), .val (.int p3), .val (.int p4), .val (.int (1 : Int32)), .val (.int bb0), .val (.int bb1), .val (.int bb2), .val (.ref b150), .val .null, .unset, .unset]) rfl k) ?_
      show own_G p e below (T156.setTop (mkF m 71 #[.val (.int p1), .val (.int p2), .val (.int p3), .val (.int p4), .val (.int (1 : Int32)), .val (.int bb0), .val (.int bb1), .val (.int bb2), .val (.ref b150), .val .null, .unset, .unset] [])) _
      refine own_go (fun _ k => XS.aload X156.here hx rfl (hb hby at_71) rfl rfl k) ?_
      show own_G p e below (T156.setTop (mkF m 73 #[.val (.int p1), .val (.int p2), .val (.int p3), .val (.int p4), .val (.int (1 : Int32)), .val (.int bb0), .val (.int bb1), .val (.int bb2), .val (.ref b150), .val .null, .unset, .unset] [(.ref b150)])) _
      obtain ⟨cl164, Ar164, q164, S164, M164, B164, G164⟩ := id f158
      refine own_go (X156.arraylength hx Ar164.1 (State.isArrayOf_alike hZ.alike Ar164.2.1) (g := (mkF m 73 #[.val (.int p1), .val (.int p2), .val (.int p3), .val (.int p4), .val (.int (1 : Int32)), .val (.int bb0), .val (.int bb1), .val (.int bb2), .val (.ref b150), .val .null, .unset, .unset] [(.ref b150)])) rfl rfl (hb hby at_73)) ?_
      rw [len_of S164 M164]
      show own_G p e below (T156.setTop (mkF m 74 #[.val (.int p1), .val (.int p2), .val (.int p3), .val (.int p4), .val (.int (1 : Int32)), .val (.int bb0), .val (.int bb1), .val (.int bb2), .val (.ref b150), .val .null, .unset, .unset] [(.int (1 : Int32))])) _
      refine own_go (fun _ k => XS.iload X156.here hx rfl (hb hby at_74) rfl k) ?_
      show own_G p e below (T156.setTop (mkF m 76 #[.val (.int p1), .val (.int p2), .val (.int p3), .val (.int p4), .val (.int (1 : Int32)), .val (.int bb0), .val (.int bb1), .val (.int bb2), .val (.ref b150), .val .null, .unset, .unset] [(.int (1 : Int32)), (.int (1 : Int32))])) _
      refine own_go (fun _ k => XS.icmpYes X156.here hx rfl (pc0 := 76) (pc' := 81) rfl (hb hby at_76) rfl (teq (by decide : (1 : Int32) = (1 : Int32))).1 (by decide) (by decide) k) ?_
      show own_G p e below (T156.setTop (mkF m 81 #[.val (.int p1), .val (.int p2), .val (.int p3), .val (.int p4), .val (.int (1 : Int32)), .val (.int bb0), .val (.int bb1), .val (.int bb2), .val (.ref b150), .val .null, .unset, .unset] [])) _
      refine own_go (fun _ k => XS.iload X156.here hx rfl (hb hby at_81) rfl k) ?_
      show own_G p e below (T156.setTop (mkF m 83 #[.val (.int p1), .val (.int p2), .val (.int p3), .val (.int p4), .val (.int (1 : Int32)), .val (.int bb0), .val (.int bb1), .val (.int bb2), .val (.ref b150), .val .null, .unset, .unset] [(.int (1 : Int32))])) _
      refine own_go (fun _ k => XS.ifNo X156.here hx rfl (hb hby at_83) rfl ((if0 _ _).trans (tlt (by decide : (0 : Int32) < (1 : Int32))).2.2.2) k) ?_
      show own_G p e below (T156.setTop (mkF m 86 #[.val (.int p1), .val (.int p2), .val (.int p3), .val (.int p4), .val (.int (1 : Int32)), .val (.int bb0), .val (.int bb1), .val (.int bb2), .val (.ref b150), .val .null, .unset, .unset] [])) _
      refine own_go (fun _ k => XS.aload X156.here hx rfl (hb hby at_86) rfl rfl k) ?_
      show own_G p e below (T156.setTop (mkF m 88 #[.val (.int p1), .val (.int p2), .val (.int p3), .val (.int p4), .val (.int (1 : Int32)), .val (.int bb0), .val (.int bb1), .val (.int bb2), .val (.ref b150), .val .null, .unset, .unset] [(.ref b150)])) _
      refine own_go (fun _ k => XS.iconst X156.here hx rfl (hb hby at_88) k) ?_
      show own_G p e below (T156.setTop (mkF m 89 #[.val (.int p1), .val (.int p2), .val (.int p3), .val (.int p4), .val (.int (1 : Int32)), .val (.int bb0), .val (.int bb1), .val (.int bb2), .val (.ref b150), .val .null, .unset, .unset] [(.int (0 : Int32)), (.ref b150)])) _
      obtain ⟨cl165, Ar165, q165, S165, M165, B165, G165⟩ := id f158
      have hin165 : ¬ ((0 : Int32) < 0 ∨ cl165.slots.size ≤ ((0 : Int32)).toNatClampNeg) := inb_of S165 ⟨by decide, by decide⟩
      have hat165 : cl165.slots[((0 : Int32)).toNatClampNeg]? = some (.int bb0) := B165.at hin165 rfl
      refine own_go (X156.baloadBytes hx (j := (0 : Int32)) (v := (.int bb0)) Ar165.1 (State.isArrayOf_alike hZ.alike Ar165.2.1) Ar165.2.2 hin165 hat165 (g := (mkF m 89 #[.val (.int p1), .val (.int p2), .val (.int p3), .val (.int p4), .val (.int (1 : Int32)), .val (.int bb0), .val (.int bb1), .val (.int bb2), .val (.ref b150), .val .null, .unset, .unset] [(.int (0 : Int32)), (.ref b150)])) rfl rfl (hb hby at_89)) ?_
      show own_G p e below (T156.setTop (mkF m 90 #[.val (.int p1), .val (.int p2), .val (.int p3), .val (.int p4), .val (.int (1 : Int32)), .val (.int bb0), .val (.int bb1), .val (.int bb2), .val (.ref b150), .val .null, .unset, .unset] [(.int bb0)])) _
      refine own_go (fun _ k => XS.iload X156.here hx rfl (hb hby at_90) rfl k) ?_
      show own_G p e below (T156.setTop (mkF m 92 #[.val (.int p1), .val (.int p2), .val (.int p3), .val (.int p4), .val (.int (1 : Int32)), .val (.int bb0), .val (.int bb1), .val (.int bb2), .val (.ref b150), .val .null, .unset, .unset] [(.int bb0), (.int bb0)])) _
      refine own_go (fun _ k => XS.icmpYes X156.here hx rfl (pc0 := 92) (pc' := 97) rfl (hb hby at_92) rfl (teq (rfl : bb0 = bb0)).1 (by decide) (by decide) k) ?_
      show own_G p e below (T156.setTop (mkF m 97 #[.val (.int p1), .val (.int p2), .val (.int p3), .val (.int p4), .val (.int (1 : Int32)), .val (.int bb0), .val (.int bb1), .val (.int bb2), .val (.ref b150), .val .null, .unset, .unset] [])) _
      refine own_go (fun _ k => XS.iload X156.here hx rfl (hb hby at_97) rfl k) ?_
      show own_G p e below (T156.setTop (mkF m 99 #[.val (.int p1), .val (.int p2), .val (.int p3), .val (.int p4), .val (.int (1 : Int32)), .val (.int bb0), .val (.int bb1), .val (.int bb2), .val (.ref b150), .val .null, .unset, .unset] [(.int (1 : Int32))])) _
      refine own_go (fun _ k => XS.iconst X156.here hx rfl (hb hby at_99) k) ?_
      show own_G p e below (T156.setTop (mkF m 100 #[.val (.int p1), .val (.int p2), .val (.int p3), .val (.int p4), .val (.int (1 : Int32)), .val (.int bb0), .val (.int bb1), .val (.int bb2), .val (.ref b150), .val .null, .unset, .unset] [(.int (1 : Int32)), (.int (1 : Int32))])) _
      refine own_go (fun _ k => XS.icmpYes X156.here hx rfl (pc0 := 100) (pc' := 114) rfl (hb hby at_100) rfl (flt (by decide : ¬ ((1 : Int32) < (1 : Int32)))).2.2.2 (by decide) (by decide) k) ?_
      show own_G p e below (T156.setTop (mkF m 114 #[.val (.int p1), .val (.int p2), .val (.int p3), .val (.int p4), .val (.int (1 : Int32)), .val (.int bb0), .val (.int bb1), .val (.int bb2), .val (.ref b150), .val .null, .unset, .unset] [])) _
      refine own_go (fun _ k => XS.iload X156.here hx rfl (hb hby at_114) rfl k) ?_
      show own_G p e below (T156.setTop (mkF m 116 #[.val (.int p1), .val (.int p2), .val (.int p3), .val (.int p4), .val (.int (1 : Int32)), .val (.int bb0), .val (.int bb1), .val (.int bb2), .val (.ref b150), .val .null, .unset, .unset] [(.int (1 : Int32))])) _
      refine own_go (fun _ k => XS.iconst X156.here hx rfl (hb hby at_116) k) ?_
      show own_G p e below (T156.setTop (mkF m 117 #[.val (.int p1), .val (.int p2), .val (.int p3), .val (.int p4), .val (.int (1 : Int32)), .val (.int bb0), .val (.int bb1), .val (.int bb2), .val (.ref b150), .val .null, .unset, .unset] [(.int (2 : Int32)), (.int (1 : Int32))])) _
      refine own_go (fun _ k => XS.icmpYes X156.here hx rfl (pc0 := 117) (pc' := 131) rfl (hb hby at_117) rfl (flt (by decide : ¬ ((2 : Int32) < (1 : Int32)))).2.2.2 (by decide) (by decide) k) ?_
      show own_G p e below (T156.setTop (mkF m 131 #[.val (.int p1), .val (.int p2), .val (.int p3), .val (.int p4), .val (.int (1 : Int32)), .val (.int bb0), .val (.int bb1), .val (.int bb2), .val (.ref b150), .val .null, .unset, .unset] [])) _
      refine own_go (fun _ k => XS.iconst X156.here hx rfl (hb hby at_131) k) ?_
      show own_G p e below (T156.setTop (mkF m 132 #[.val (.int p1), .val (.int p2), .val (.int p3), .val (.int p4), .val (.int (1 : Int32)), .val (.int bb0), .val (.int bb1), .val (.int bb2), .val (.ref b150), .val .null, .unset, .unset] [(.int (-1 : Int32))])) _
      refine own_go (fun _ k => XS.istore X156.here hx rfl (hb hby at_132) rfl (l' := #[.val (.int p1), .val (.int p2), .val (.int p3), .val (.int p4), .val (.int (1 : Int32)), .val (.int bb0), .val (.int bb1), .val (.int bb2), .val (.ref b150), .val .null, .val (.int (-1 : Int32)), .unset]) rfl k) ?_
      show own_G p e below (T156.setTop (mkF m 134 #[.val (.int p1), .val (.int p2), .val (.int p3), .val (.int p4), .val (.int (1 : Int32)), .val (.int bb0), .val (.int bb1), .val (.int bb2), .val (.ref b150), .val .null, .val (.int (-1 : Int32)), .unset] [])) _
      refine own_go (fun _ k => XS.iload X156.here hx rfl (hb hby at_134) rfl k) ?_
      show own_G p e below (T156.setTop (mkF m 136 #[.val (.int p1), .val (.int p2), .val (.int p3), .val (.int p4), .val (.int (1 : Int32)), .val (.int bb0), .val (.int bb1), .val (.int bb2), .val (.ref b150), .val .null, .val (.int (-1 : Int32)), .unset] [(.int (1 : Int32))])) _
      refine own_go (fun _ k => XS.ifNo X156.here hx rfl (hb hby at_136) rfl ((if0 _ _).trans (tlt (by decide : (0 : Int32) < (1 : Int32))).2.2.2) k) ?_
      show own_G p e below (T156.setTop (mkF m 139 #[.val (.int p1), .val (.int p2), .val (.int p3), .val (.int p4), .val (.int (1 : Int32)), .val (.int bb0), .val (.int bb1), .val (.int bb2), .val (.ref b150), .val .null, .val (.int (-1 : Int32)), .unset] [])) _
      refine own_go (fun _ k => XS.iload X156.here hx rfl (hb hby at_139) rfl k) ?_
      show own_G p e below (T156.setTop (mkF m 141 #[.val (.int p1), .val (.int p2), .val (.int p3), .val (.int p4), .val (.int (1 : Int32)), .val (.int bb0), .val (.int bb1), .val (.int bb2), .val (.ref b150), .val .null, .val (.int (-1 : Int32)), .unset] [(.int bb0)])) _
      refine own_go (fun _ k => XS.iconst X156.here hx rfl (hb hby at_141) k) ?_
      show own_G p e below (T156.setTop (mkF m 142 #[.val (.int p1), .val (.int p2), .val (.int p3), .val (.int p4), .val (.int (1 : Int32)), .val (.int bb0), .val (.int bb1), .val (.int bb2), .val (.ref b150), .val .null, .val (.int (-1 : Int32)), .unset] [(.int (-1 : Int32)), (.int bb0)])) _
      refine own_go (fun _ k => XS.icmpYes X156.here hx rfl (pc0 := 142) (pc' := 148) rfl (hb hby at_142) rfl (teq c0).1 (by decide) (by decide) k) ?_
      show own_G p e below (T156.setTop (mkF m 148 #[.val (.int p1), .val (.int p2), .val (.int p3), .val (.int p4), .val (.int (1 : Int32)), .val (.int bb0), .val (.int bb1), .val (.int bb2), .val (.ref b150), .val .null, .val (.int (-1 : Int32)), .unset] [])) _
      refine own_go (fun _ k => XS.iload X156.here hx rfl (hb hby at_148) rfl k) ?_
      show own_G p e below (T156.setTop (mkF m 150 #[.val (.int p1), .val (.int p2), .val (.int p3), .val (.int p4), .val (.int (1 : Int32)), .val (.int bb0), .val (.int bb1), .val (.int bb2), .val (.ref b150), .val .null, .val (.int (-1 : Int32)), .unset] [(.int (1 : Int32))])) _
      refine own_go (fun _ k => XS.iconst X156.here hx rfl (hb hby at_150) k) ?_
      show own_G p e below (T156.setTop (mkF m 151 #[.val (.int p1), .val (.int p2), .val (.int p3), .val (.int p4), .val (.int (1 : Int32)), .val (.int bb0), .val (.int bb1), .val (.int bb2), .val (.ref b150), .val .null, .val (.int (-1 : Int32)), .unset] [(.int (1 : Int32)), (.int (1 : Int32))])) _
      refine own_go (fun _ k => XS.icmpYes X156.here hx rfl (pc0 := 151) (pc' := 163) rfl (hb hby at_151) rfl (flt (by decide : ¬ ((1 : Int32) < (1 : Int32)))).2.2.2 (by decide) (by decide) k) ?_
      show own_G p e below (T156.setTop (mkF m 163 #[.val (.int p1), .val (.int p2), .val (.int p3), .val (.int p4), .val (.int (1 : Int32)), .val (.int bb0), .val (.int bb1), .val (.int bb2), .val (.ref b150), .val .null, .val (.int (-1 : Int32)), .unset] [])) _
      refine own_go (fun _ k => XS.iload X156.here hx rfl (hb hby at_163) rfl k) ?_
      show own_G p e below (T156.setTop (mkF m 165 #[.val (.int p1), .val (.int p2), .val (.int p3), .val (.int p4), .val (.int (1 : Int32)), .val (.int bb0), .val (.int bb1), .val (.int bb2), .val (.ref b150), .val .null, .val (.int (-1 : Int32)), .unset] [(.int (1 : Int32))])) _
      refine own_go (fun _ k => XS.iconst X156.here hx rfl (hb hby at_165) k) ?_
      show own_G p e below (T156.setTop (mkF m 166 #[.val (.int p1), .val (.int p2), .val (.int p3), .val (.int p4), .val (.int (1 : Int32)), .val (.int bb0), .val (.int bb1), .val (.int bb2), .val (.ref b150), .val .null, .val (.int (-1 : Int32)), .unset] [(.int (2 : Int32)), (.int (1 : Int32))])) _
      refine own_go (fun _ k => XS.icmpYes X156.here hx rfl (pc0 := 166) (pc' := 178) rfl (hb hby at_166) rfl (flt (by decide : ¬ ((2 : Int32) < (1 : Int32)))).2.2.2 (by decide) (by decide) k) ?_
      show own_G p e below (T156.setTop (mkF m 178 #[.val (.int p1), .val (.int p2), .val (.int p3), .val (.int p4), .val (.int (1 : Int32)), .val (.int bb0), .val (.int bb1), .val (.int bb2), .val (.ref b150), .val .null, .val (.int (-1 : Int32)), .unset] [])) _
      refine own_go (fun _ k => XS.iload X156.here hx rfl (hb hby at_178) rfl k) ?_
      show own_G p e below (T156.setTop (mkF m 180 #[.val (.int p1), .val (.int p2), .val (.int p3), .val (.int p4), .val (.int (1 : Int32)), .val (.int bb0), .val (.int bb1), .val (.int bb2), .val (.ref b150), .val .null, .val (.int (-1 : Int32)), .unset] [(.int (-1 : Int32))])) _
      refine own_go (fun _ k => XS.ifNo X156.here hx rfl (hb hby at_180) rfl ((if0 _ _).trans (tlt (by decide : (-1 : Int32) < (0 : Int32))).2.1) k) ?_
      show own_G p e below (T156.setTop (mkF m 183 #[.val (.int p1), .val (.int p2), .val (.int p3), .val (.int p4), .val (.int (1 : Int32)), .val (.int bb0), .val (.int bb1), .val (.int bb2), .val (.ref b150), .val .null, .val (.int (-1 : Int32)), .unset] [])) _
      refine own_go (fun _ k => XS.aload X156.here hx rfl (hb hby at_183) rfl rfl k) ?_
      show own_G p e below (T156.setTop (mkF m 185 #[.val (.int p1), .val (.int p2), .val (.int p3), .val (.int p4), .val (.int (1 : Int32)), .val (.int bb0), .val (.int bb1), .val (.int bb2), .val (.ref b150), .val .null, .val (.int (-1 : Int32)), .unset] [.null])) _
      refine own_go (fun _ k => XS.ifnonnullNo X156.here hx rfl (hb hby at_185) rfl k) ?_
      show own_G p e below (T156.setTop (mkF m 188 #[.val (.int p1), .val (.int p2), .val (.int p3), .val (.int p4), .val (.int (1 : Int32)), .val (.int bb0), .val (.int bb1), .val (.int bb2), .val (.ref b150), .val .null, .val (.int (-1 : Int32)), .unset] [])) _
      refine own_go (fun _ k => XS.iconst X156.here hx rfl (hb hby at_188) k) ?_
      show own_G p e below (T156.setTop (mkF m 189 #[.val (.int p1), .val (.int p2), .val (.int p3), .val (.int p4), .val (.int (1 : Int32)), .val (.int bb0), .val (.int bb1), .val (.int bb2), .val (.ref b150), .val .null, .val (.int (-1 : Int32)), .unset] [(.int (1 : Int32))])) _
      refine own_go (fun _ k => XS.goto X156.here hx rfl (pc0 := 189) (pc' := 193) rfl (hb hby at_189) (by decide) (by decide) k) ?_
      show own_G p e below (T156.setTop (mkF m 193 #[.val (.int p1), .val (.int p2), .val (.int p3), .val (.int p4), .val (.int (1 : Int32)), .val (.int bb0), .val (.int bb1), .val (.int bb2), .val (.ref b150), .val .null, .val (.int (-1 : Int32)), .unset] [(.int (1 : Int32))])) _
      refine own_ret X156 hlk (v := some (.int (1 : Int32))) (fun h => by rw [hret] at h; cases h) (Q0 Z p1 p2 p3 p4 h0 n0) (own_retI X156 hx (t := .boolean) hret rfl (Or.inl ⟨rfl, by simp, _, rfl⟩) (hb hby at_193)) (by decide) (by decide) ?_
      show Q0 Z p1 p2 p3 p4 h0 n0 _ T156.heap _
      exact ⟨rfl, N156⟩
  · rw [hn]
    show own_G p e below (s₁.setTop (mkF m 3 #[.val (.int p1), .val (.int p2), .val (.int p3), .val (.int p4), .unset, .unset, .unset, .unset, .unset, .unset, .unset, .unset] [(.int (2 : Int32))])) _
    refine own_go (fun _ k => XS.istore X0.here hx rfl (hb hby at_3) rfl (l' := #[.val (.int p1), .val (.int p2), .val (.int p3), .val (.int p4), .val (.int (2 : Int32)), .unset, .unset, .unset, .unset, .unset, .unset, .unset]) rfl k) ?_
    show own_G p e below (s₁.setTop (mkF m 5 #[.val (.int p1), .val (.int p2), .val (.int p3), .val (.int p4), .val (.int (2 : Int32)), .unset, .unset, .unset, .unset, .unset, .unset, .unset] [])) _
    refine own_go (fun _ k => XS.iloadN X0.here hx rfl (hb hby at_5) rfl k) ?_
    show own_G p e below (s₁.setTop (mkF m 6 #[.val (.int p1), .val (.int p2), .val (.int p3), .val (.int p4), .val (.int (2 : Int32)), .unset, .unset, .unset, .unset, .unset, .unset, .unset] [(.int p2)])) _
    obtain ⟨_, _, ⟨T166, L166, k166, n166⟩, -, X166, ⟨Lc166, hQ166, l166, y166, z166⟩, st166⟩ := Jvm.LawKit.callS X0 hx (y := (⟨"com/example/orbweave/orbweave/store/KeyOrderPrefixEndPinLaw", "draw", "(I)B"⟩ : MethodName)) hown (mvT hZ (hw _ (List.mem_of_getElem? (i := 0) rfl))) (mvT hZ (hw _ (List.mem_of_getElem? (i := 1) rfl))) (mvT hZ (hw _ (List.mem_of_getElem? (i := 2) rfl))) (mvT hZ (hw _ (List.mem_of_getElem? (i := 3) rfl))) (by decide) (backOf (W := 0) (rm1 l Z a0 hw [] p2 h0 n0 Z0 ) hZ (hw _ (List.mem_of_getElem? (i := 3) rfl)) (hw _ (List.mem_of_getElem? (i := 2) rfl)) (by decide) (by decide)) (g := (mkF m 6 #[.val (.int p1), .val (.int p2), .val (.int p3), .val (.int p4), .val (.int (2 : Int32)), .unset, .unset, .unset, .unset, .unset, .unset, .unset] [(.int p2)])) rfl (by rw [hml]; rfl) (argsL := [(.int p2)]) (rest := []) (lenOf pd_2 rfl) rfl (by show 2 * 0 + _ ≤ _; exact Nat.le_of_eq rfl) (hb hby at_6) (fun _ _ => ⟨rfl, e0, (by decide : 0 + 0 ≤ _), (by decide : 0 + 0 ≤ _)⟩)
    dsimp only [Pt.U, Pt.locs, Pt.cells, Pt.slots] at X166 l166 y166 z166 st166 hQ166
    subst l166 y166 z166
    obtain ⟨bb0, rfl, Nq166, hh166, hb0⟩ := hQ166
    have N166 := Fr.app N0 Nq166
    refine own_go st166 ?_
    have e166 : T166.heap = h0 := hh166
    show own_G p e below (T166.setTop (mkF m 9 #[.val (.int p1), .val (.int p2), .val (.int p3), .val (.int p4), .val (.int (2 : Int32)), .unset, .unset, .unset, .unset, .unset, .unset, .unset] [(.int bb0)])) _
    refine own_go (fun _ k => XS.istore X166.here hx rfl (hb hby at_9) rfl (l' := #[.val (.int p1), .val (.int p2), .val (.int p3), .val (.int p4), .val (.int (2 : Int32)), .val (.int bb0), .unset, .unset, .unset, .unset, .unset, .unset]) rfl k) ?_
    show own_G p e below (T166.setTop (mkF m 11 #[.val (.int p1), .val (.int p2), .val (.int p3), .val (.int p4), .val (.int (2 : Int32)), .val (.int bb0), .unset, .unset, .unset, .unset, .unset, .unset] [])) _
    refine own_go (fun _ k => XS.iloadN X166.here hx rfl (hb hby at_11) rfl k) ?_
    show own_G p e below (T166.setTop (mkF m 12 #[.val (.int p1), .val (.int p2), .val (.int p3), .val (.int p4), .val (.int (2 : Int32)), .val (.int bb0), .unset, .unset, .unset, .unset, .unset, .unset] [(.int p3)])) _
    obtain ⟨_, _, ⟨T167, L167, k167, n167⟩, -, X167, ⟨Lc167, hQ167, l167, y167, z167⟩, st167⟩ := Jvm.LawKit.callS X166 hx (y := (⟨"com/example/orbweave/orbweave/store/KeyOrderPrefixEndPinLaw", "draw", "(I)B"⟩ : MethodName)) hown (mvT hZ (hw _ (List.mem_of_getElem? (i := 0) rfl))) (mvT hZ (hw _ (List.mem_of_getElem? (i := 1) rfl))) (mvT hZ (hw _ (List.mem_of_getElem? (i := 2) rfl))) (mvT hZ (hw _ (List.mem_of_getElem? (i := 3) rfl))) (by decide) (backOf (W := 0) (rm1 l Z a0 hw [] p3 h0 n0 Z0 ) hZ (hw _ (List.mem_of_getElem? (i := 3) rfl)) (hw _ (List.mem_of_getElem? (i := 2) rfl)) (by decide) (by decide)) (g := (mkF m 12 #[.val (.int p1), .val (.int p2), .val (.int p3), .val (.int p4), .val (.int (2 : Int32)), .val (.int bb0), .unset, .unset, .unset, .unset, .unset, .unset] [(.int p3)])) rfl (by rw [hml]; rfl) (argsL := [(.int p3)]) (rest := []) (lenOf pd_2 rfl) rfl (by show 2 * 0 + _ ≤ _; exact Nat.le_of_eq rfl) (hb hby at_12) (fun _ _ => ⟨rfl, e166, (by decide : 0 + 0 + 0 ≤ _), (by decide : 0 + 0 + 0 ≤ _)⟩)
    dsimp only [Pt.U, Pt.locs, Pt.cells, Pt.slots] at X167 l167 y167 z167 st167 hQ167
    subst l167 y167 z167
    obtain ⟨bb1, rfl, Nq167, hh167, hb1⟩ := hQ167
    have N167 := Fr.app N166 Nq167
    refine own_go st167 ?_
    have e167 : T167.heap = h0 := hh167
    show own_G p e below (T167.setTop (mkF m 15 #[.val (.int p1), .val (.int p2), .val (.int p3), .val (.int p4), .val (.int (2 : Int32)), .val (.int bb0), .unset, .unset, .unset, .unset, .unset, .unset] [(.int bb1)])) _
    refine own_go (fun _ k => XS.istore X167.here hx rfl (hb hby at_15) rfl (l' := #[.val (.int p1), .val (.int p2), .val (.int p3), .val (.int p4), .val (.int (2 : Int32)), .val (.int bb0), .val (.int bb1), .unset, .unset, .unset, .unset, .unset]) rfl k) ?_
    show own_G p e below (T167.setTop (mkF m 17 #[.val (.int p1), .val (.int p2), .val (.int p3), .val (.int p4), .val (.int (2 : Int32)), .val (.int bb0), .val (.int bb1), .unset, .unset, .unset, .unset, .unset] [])) _
    refine own_go (fun _ k => XS.iloadN X167.here hx rfl (hb hby at_17) rfl k) ?_
    show own_G p e below (T167.setTop (mkF m 18 #[.val (.int p1), .val (.int p2), .val (.int p3), .val (.int p4), .val (.int (2 : Int32)), .val (.int bb0), .val (.int bb1), .unset, .unset, .unset, .unset, .unset] [(.int p4)])) _
    obtain ⟨_, _, ⟨T168, L168, k168, n168⟩, -, X168, ⟨Lc168, hQ168, l168, y168, z168⟩, st168⟩ := Jvm.LawKit.callS X167 hx (y := (⟨"com/example/orbweave/orbweave/store/KeyOrderPrefixEndPinLaw", "draw", "(I)B"⟩ : MethodName)) hown (mvT hZ (hw _ (List.mem_of_getElem? (i := 0) rfl))) (mvT hZ (hw _ (List.mem_of_getElem? (i := 1) rfl))) (mvT hZ (hw _ (List.mem_of_getElem? (i := 2) rfl))) (mvT hZ (hw _ (List.mem_of_getElem? (i := 3) rfl))) (by decide) (backOf (W := 0) (rm1 l Z a0 hw [] p4 h0 n0 Z0 ) hZ (hw _ (List.mem_of_getElem? (i := 3) rfl)) (hw _ (List.mem_of_getElem? (i := 2) rfl)) (by decide) (by decide)) (g := (mkF m 18 #[.val (.int p1), .val (.int p2), .val (.int p3), .val (.int p4), .val (.int (2 : Int32)), .val (.int bb0), .val (.int bb1), .unset, .unset, .unset, .unset, .unset] [(.int p4)])) rfl (by rw [hml]; rfl) (argsL := [(.int p4)]) (rest := []) (lenOf pd_2 rfl) rfl (by show 2 * 0 + _ ≤ _; exact Nat.le_of_eq rfl) (hb hby at_18) (fun _ _ => ⟨rfl, e167, (by decide : 0 + 0 + 0 + 0 ≤ _), (by decide : 0 + 0 + 0 + 0 ≤ _)⟩)
    dsimp only [Pt.U, Pt.locs, Pt.cells, Pt.slots] at X168 l168 y168 z168 st168 hQ168
    subst l168 y168 z168
    obtain ⟨bb2, rfl, Nq168, hh168, hb2⟩ := hQ168
    have N168 := Fr.app N167 Nq168
    refine own_go st168 ?_
    have e168 : T168.heap = h0 := hh168
    show own_G p e below (T168.setTop (mkF m 21 #[.val (.int p1), .val (.int p2), .val (.int p3), .val (.int p4), .val (.int (2 : Int32)), .val (.int bb0), .val (.int bb1), .unset, .unset, .unset, .unset, .unset] [(.int bb2)])) _
    refine own_go (fun _ k => XS.istore X168.here hx rfl (hb hby at_21) rfl (l' := #[.val (.int p1), .val (.int p2), .val (.int p3), .val (.int p4), .val (.int (2 : Int32)), .val (.int bb0), .val (.int bb1), .val (.int bb2), .unset, .unset, .unset, .unset]) rfl k) ?_
    show own_G p e below (T168.setTop (mkF m 23 #[.val (.int p1), .val (.int p2), .val (.int p3), .val (.int p4), .val (.int (2 : Int32)), .val (.int bb0), .val (.int bb1), .val (.int bb2), .unset, .unset, .unset, .unset] [])) _
    refine own_go (fun _ k => XS.iload X168.here hx rfl (hb hby at_23) rfl k) ?_
    show own_G p e below (T168.setTop (mkF m 25 #[.val (.int p1), .val (.int p2), .val (.int p3), .val (.int p4), .val (.int (2 : Int32)), .val (.int bb0), .val (.int bb1), .val (.int bb2), .unset, .unset, .unset, .unset] [(.int (2 : Int32))])) _
    obtain ⟨T169, h169, k169, X169, e169, E169, A169, Y169, st169⟩ := newPE X168 hx hZ (hw _ (List.mem_of_getElem? (i := 4) rfl)) e168 (g := (mkF m 25 #[.val (.int p1), .val (.int p2), .val (.int p3), .val (.int p4), .val (.int (2 : Int32)), .val (.int bb0), .val (.int bb1), .val (.int bb2), .unset, .unset, .unset, .unset] [(.int (2 : Int32))])) rfl (hb hby at_25) rfl (by decide) (cap := 2) (by decide) (by decide) (by decide) (by decide) (ad := "[B") (by decide)
    obtain ⟨b169, g169⟩ : ∃ z, z = h0.size := ⟨_, rfl⟩
    rw [← g169] at A169 Y169 st169
    refine own_go st169 ?_
    have ge170 : n0 ≤ b169 := Nat.le_trans Z0 (Nat.le_of_eq g169.symm)
    have zs171 : n0 ≤ h169.size := Nat.le_trans Z0 E169.1
    have V169 : Arv Z h169 b169 k169 .byte (2 : Int32) [(.int (0 : Int32)), (.int (0 : Int32))] (.int (0 : Int32)) := (Arv.new A169 (by decide)).pad (pad_rep [] (.int (0 : Int32)) 2)
    show own_G p e below (T169.setTop (mkF m 27 #[.val (.int p1), .val (.int p2), .val (.int p3), .val (.int p4), .val (.int (2 : Int32)), .val (.int bb0), .val (.int bb1), .val (.int bb2), .unset, .unset, .unset, .unset] [(.ref b169)])) _
    refine own_go (fun _ k => XS.astore X169.here hx rfl (hb hby at_27) rfl rfl (l' := #[.val (.int p1), .val (.int p2), .val (.int p3), .val (.int p4), .val (.int (2 : Int32)), .val (.int bb0), .val (.int bb1), .val (.int bb2), .val (.ref b169), .unset, .unset, .unset]) rfl k) ?_
    show own_G p e below (T169.setTop (mkF m 29 #[.val (.int p1), .val (.int p2), .val (.int p3), .val (.int p4), .val (.int (2 : Int32)), .val (.int bb0), .val (.int bb1), .val (.int bb2), .val (.ref b169), .unset, .unset, .unset] [])) _
    refine own_go (fun _ k => XS.iload X169.here hx rfl (hb hby at_29) rfl k) ?_
    show own_G p e below (T169.setTop (mkF m 31 #[.val (.int p1), .val (.int p2), .val (.int p3), .val (.int p4), .val (.int (2 : Int32)), .val (.int bb0), .val (.int bb1), .val (.int bb2), .val (.ref b169), .unset, .unset, .unset] [(.int (2 : Int32))])) _
    refine own_go (fun _ k => XS.ifNo X169.here hx rfl (hb hby at_31) rfl ((if0 _ _).trans (tlt (by decide : (0 : Int32) < (2 : Int32))).2.2.2) k) ?_
    show own_G p e below (T169.setTop (mkF m 34 #[.val (.int p1), .val (.int p2), .val (.int p3), .val (.int p4), .val (.int (2 : Int32)), .val (.int bb0), .val (.int bb1), .val (.int bb2), .val (.ref b169), .unset, .unset, .unset] [])) _
    refine own_go (fun _ k => XS.aload X169.here hx rfl (hb hby at_34) rfl rfl k) ?_
    show own_G p e below (T169.setTop (mkF m 36 #[.val (.int p1), .val (.int p2), .val (.int p3), .val (.int p4), .val (.int (2 : Int32)), .val (.int bb0), .val (.int bb1), .val (.int bb2), .val (.ref b169), .unset, .unset, .unset] [(.ref b169)])) _
    refine own_go (fun _ k => XS.iconst X169.here hx rfl (hb hby at_36) k) ?_
    show own_G p e below (T169.setTop (mkF m 37 #[.val (.int p1), .val (.int p2), .val (.int p3), .val (.int p4), .val (.int (2 : Int32)), .val (.int bb0), .val (.int bb1), .val (.int bb2), .val (.ref b169), .unset, .unset, .unset] [(.int (0 : Int32)), (.ref b169)])) _
    refine own_go (fun _ k => XS.iload X169.here hx rfl (hb hby at_37) rfl k) ?_
    show own_G p e below (T169.setTop (mkF m 39 #[.val (.int p1), .val (.int p2), .val (.int p3), .val (.int p4), .val (.int (2 : Int32)), .val (.int bb0), .val (.int bb1), .val (.int bb2), .val (.ref b169), .unset, .unset, .unset] [(.int bb0), (.int (0 : Int32)), (.ref b169)])) _
    obtain ⟨cl172, Ar172, q172, S172, M172, B172, G172⟩ := id V169
    have hin172 : ¬ ((0 : Int32) < 0 ∨ cl172.slots.size ≤ ((0 : Int32)).toNatClampNeg) := inb_of S172 ⟨by decide, by decide⟩
    obtain ⟨T172, h172, X172, e172, W172, st172⟩ := stB X169 hx hZ e169 Ar172 (j := (0 : Int32)) hin172 (g := (mkF m 39 #[.val (.int p1), .val (.int p2), .val (.int p3), .val (.int p4), .val (.int (2 : Int32)), .val (.int bb0), .val (.int bb1), .val (.int bb2), .val (.ref b169), .unset, .unset, .unset] [(.int bb0), (.int (0 : Int32)), (.ref b169)])) rfl rfl (hb hby at_39)
    refine own_go st172 ?_
    rw [show nar .byte bb0 = bb0 from hb0] at W172
    have f173 := Y169.wr W172
    have zs174 : n0 ≤ h172.size := Nat.le_trans zs171 (Keep.of_wr W172).1
    have V172 : Arv Z h172 b169 k169 .byte (2 : Int32) [(.int bb0), (.int (0 : Int32))] (.int (0 : Int32)) := Arv.set Ar172 q172 S172 M172 B172 G172 (own_fit hb0) W172 0 rfl (Nat.le_of_ble_eq_true rfl)
    have N172 := Fr.snoc X172 N168 ge170
    show own_G p e below (T172.setTop (mkF m 40 #[.val (.int p1), .val (.int p2), .val (.int p3), .val (.int p4), .val (.int (2 : Int32)), .val (.int bb0), .val (.int bb1), .val (.int bb2), .val (.ref b169), .unset, .unset, .unset] [])) _
    refine own_go (fun _ k => XS.iload X172.here hx rfl (hb hby at_40) rfl k) ?_
    show own_G p e below (T172.setTop (mkF m 42 #[.val (.int p1), .val (.int p2), .val (.int p3), .val (.int p4), .val (.int (2 : Int32)), .val (.int bb0), .val (.int bb1), .val (.int bb2), .val (.ref b169), .unset, .unset, .unset] [(.int (2 : Int32))])) _
    refine own_go (fun _ k => XS.iconst X172.here hx rfl (hb hby at_42) k) ?_
    show own_G p e below (T172.setTop (mkF m 43 #[.val (.int p1), .val (.int p2), .val (.int p3), .val (.int p4), .val (.int (2 : Int32)), .val (.int bb0), .val (.int bb1), .val (.int bb2), .val (.ref b169), .unset, .unset, .unset] [(.int (1 : Int32)), (.int (2 : Int32))])) _
    refine own_go (fun _ k => XS.icmpNo X172.here hx rfl (hb hby at_43) rfl (tlt (by decide : (1 : Int32) < (2 : Int32))).2.2.2 k) ?_
    show own_G p e below (T172.setTop (mkF m 46 #[.val (.int p1), .val (.int p2), .val (.int p3), .val (.int p4), .val (.int (2 : Int32)), .val (.int bb0), .val (.int bb1), .val (.int bb2), .val (.ref b169), .unset, .unset, .unset] [])) _
    refine own_go (fun _ k => XS.aload X172.here hx rfl (hb hby at_46) rfl rfl k) ?_
    show own_G p e below (T172.setTop (mkF m 48 #[.val (.int p1), .val (.int p2), .val (.int p3), .val (.int p4), .val (.int (2 : Int32)), .val (.int bb0), .val (.int bb1), .val (.int bb2), .val (.ref b169), .unset, .unset, .unset] [(.ref b169)])) _
    refine own_go (fun _ k => XS.iconst X172.here hx rfl (hb hby at_48) k) ?_
    show own_G p e below (T172.setTop (mkF m 49 #[.val (.int p1), .val (.int p2), .val (.int p3), .val (.int p4), .val (.int (2 : Int32)), .val (.int bb0), .val (.int bb1), .val (.int bb2), .val (.ref b169), .unset, .unset, .unset] [(.int (1 : Int32)), (.ref b169)])) _
    refine own_go (fun _ k => XS.iload X172.here hx rfl (hb hby at_49) rfl k) ?_
    show own_G p e below (T172.setTop (mkF m 51 #[.val (.int p1), .val (.int p2), .val (.int p3), .val (.int p4), .val (.int (2 : Int32)), .val (.int bb0), .val (.int bb1), .val (.int bb2), .val (.ref b169), .unset, .unset, .unset] [(.int bb1), (.int (1 : Int32)), (.ref b169)])) _
    obtain ⟨cl175, Ar175, q175, S175, M175, B175, G175⟩ := id V172
    have hin175 : ¬ ((1 : Int32) < 0 ∨ cl175.slots.size ≤ ((1 : Int32)).toNatClampNeg) := inb_of S175 ⟨by decide, by decide⟩
    obtain ⟨T175, h175, X175, e175, W175, st175⟩ := stB X172 hx hZ e172 Ar175 (j := (1 : Int32)) hin175 (g := (mkF m 51 #[.val (.int p1), .val (.int p2), .val (.int p3), .val (.int p4), .val (.int (2 : Int32)), .val (.int bb0), .val (.int bb1), .val (.int bb2), .val (.ref b169), .unset, .unset, .unset] [(.int bb1), (.int (1 : Int32)), (.ref b169)])) rfl rfl (hb hby at_51)
    refine own_go st175 ?_
    rw [show nar .byte bb1 = bb1 from hb1] at W175
    have f176 := f173.wr W175
    have zs177 : n0 ≤ h175.size := Nat.le_trans zs174 (Keep.of_wr W175).1
    have V175 : Arv Z h175 b169 k169 .byte (2 : Int32) [(.int bb0), (.int bb1)] (.int (0 : Int32)) := Arv.set Ar175 q175 S175 M175 B175 G175 (own_fit hb1) W175 1 rfl (Nat.le_of_ble_eq_true rfl)
    have N175 := Fr.snoc X175 N172 ge170
    show own_G p e below (T175.setTop (mkF m 52 #[.val (.int p1), .val (.int p2), .val (.int p3), .val (.int p4), .val (.int (2 : Int32)), .val (.int bb0), .val (.int bb1), .val (.int bb2), .val (.ref b169), .unset, .unset, .unset] [])) _
    refine own_go (fun _ k => XS.iload X175.here hx rfl (hb hby at_52) rfl k) ?_
    show own_G p e below (T175.setTop (mkF m 54 #[.val (.int p1), .val (.int p2), .val (.int p3), .val (.int p4), .val (.int (2 : Int32)), .val (.int bb0), .val (.int bb1), .val (.int bb2), .val (.ref b169), .unset, .unset, .unset] [(.int (2 : Int32))])) _
    refine own_go (fun _ k => XS.iconst X175.here hx rfl (hb hby at_54) k) ?_
    show own_G p e below (T175.setTop (mkF m 55 #[.val (.int p1), .val (.int p2), .val (.int p3), .val (.int p4), .val (.int (2 : Int32)), .val (.int bb0), .val (.int bb1), .val (.int bb2), .val (.ref b169), .unset, .unset, .unset] [(.int (2 : Int32)), (.int (2 : Int32))])) _
    refine own_go (fun _ k => XS.icmpYes X175.here hx rfl (pc0 := 55) (pc' := 64) rfl (hb hby at_55) rfl (flt (by decide : ¬ ((2 : Int32) < (2 : Int32)))).2.2.2 (by decide) (by decide) k) ?_
    show own_G p e below (T175.setTop (mkF m 64 #[.val (.int p1), .val (.int p2), .val (.int p3), .val (.int p4), .val (.int (2 : Int32)), .val (.int bb0), .val (.int bb1), .val (.int bb2), .val (.ref b169), .unset, .unset, .unset] [])) _
    refine own_go (fun _ k => XS.aload X175.here hx rfl (hb hby at_64) rfl rfl k) ?_
    show own_G p e below (T175.setTop (mkF m 66 #[.val (.int p1), .val (.int p2), .val (.int p3), .val (.int p4), .val (.int (2 : Int32)), .val (.int bb0), .val (.int bb1), .val (.int bb2), .val (.ref b169), .unset, .unset, .unset] [(.ref b169)])) _
    obtain ⟨vv178, _, ⟨T178, L178, k178, n178⟩, -, X178, ⟨Lc178, hQ178, l178, y178, z178⟩, st178⟩ := Jvm.LawKit.callS X175 hx (y := (⟨"com/example/orbweave/orbweave/store/KeyOrder", "prefixEnd", "([B)[B"⟩ : MethodName)) hown (mvT hZ (hw _ (List.mem_of_getElem? (i := 5) rfl))) (mvT hZ (hw _ (List.mem_of_getElem? (i := 6) rfl))) (mvT hZ (hw _ (List.mem_of_getElem? (i := 7) rfl))) (mvT hZ (hw _ (List.mem_of_getElem? (i := 8) rfl))) (by decide) (backOf (W := 0) (rm2_2 l Z a0 hw [] b169 k169 bb0 bb1 h175 n0 zs177 V175 f176) hZ (hw _ (List.mem_of_getElem? (i := 8) rfl)) (hw _ (List.mem_of_getElem? (i := 7) rfl)) (by decide) (by decide)) (g := (mkF m 66 #[.val (.int p1), .val (.int p2), .val (.int p3), .val (.int p4), .val (.int (2 : Int32)), .val (.int bb0), .val (.int bb1), .val (.int bb2), .val (.ref b169), .unset, .unset, .unset] [(.ref b169)])) rfl (by rw [hml]; rfl) (argsL := [(.ref b169)]) (rest := []) (lenOf pd_3 rfl) rfl (by show 2 * 0 + _ ≤ _; exact Nat.le_of_eq rfl) (hb hby at_66) (fun _ _ => ⟨rfl, e175, (by decide : 0 + 0 + 0 + 0 + 1 + 1 ≤ _), (by decide : 0 + 0 + 0 + 0 + 2 + 2 ≤ _)⟩)
    dsimp only [Pt.U, Pt.locs, Pt.cells, Pt.slots] at X178 l178 y178 z178 st178 hQ178
    subst l178 y178 z178
    obtain ⟨Nq178, K178, hd178⟩ := hQ178
    have N178 := Fr.app N175 Nq178
    have f179 := f176.keep K178
    have f180 := V175.keep K178 nin0
    have zs181 : n0 ≤ T178.heap.size := Nat.le_trans zs177 K178.1
    rcases hd178 with ⟨c1, r, kr, rfl, Vr⟩ | ⟨⟨c0, c1⟩, r, kr, rfl, Vr⟩ | ⟨rfl, c0, c1⟩
    · refine own_go st178 ?_
      show own_G p e below (T178.setTop (mkF m 69 #[.val (.int p1), .val (.int p2), .val (.int p3), .val (.int p4), .val (.int (2 : Int32)), .val (.int bb0), .val (.int bb1), .val (.int bb2), .val (.ref b169), .unset, .unset, .unset] [(.ref r)])) _
      refine own_go (fun _ k => XS.astore X178.here hx rfl (hb hby at_69) rfl rfl (l' := #[.val (.int p1), .val (.int p2), .val (.int p3), .val (.int p4), .val (.int (2 : Int32)), .val (.int bb0), .val (.int bb1), .val (.int bb2), .val (.ref b169), .val (.ref r), .unset, .unset]) rfl k) ?_
      show own_G p e below (T178.setTop (mkF m 71 #[.val (.int p1), .val (.int p2), .val (.int p3), .val (.int p4), .val (.int (2 : Int32)), .val (.int bb0), .val (.int bb1), .val (.int bb2), .val (.ref b169), .val (.ref r), .unset, .unset] [])) _
      refine own_go (fun _ k => XS.aload X178.here hx rfl (hb hby at_71) rfl rfl k) ?_
      show own_G p e below (T178.setTop (mkF m 73 #[.val (.int p1), .val (.int p2), .val (.int p3), .val (.int p4), .val (.int (2 : Int32)), .val (.int bb0), .val (.int bb1), .val (.int bb2), .val (.ref b169), .val (.ref r), .unset, .unset] [(.ref b169)])) _
      obtain ⟨cl182, Ar182, q182, S182, M182, B182, G182⟩ := id f180
      refine own_go (X178.arraylength hx Ar182.1 (State.isArrayOf_alike hZ.alike Ar182.2.1) (g := (mkF m 73 #[.val (.int p1), .val (.int p2), .val (.int p3), .val (.int p4), .val (.int (2 : Int32)), .val (.int bb0), .val (.int bb1), .val (.int bb2), .val (.ref b169), .val (.ref r), .unset, .unset] [(.ref b169)])) rfl rfl (hb hby at_73)) ?_
      rw [len_of S182 M182]
      show own_G p e below (T178.setTop (mkF m 74 #[.val (.int p1), .val (.int p2), .val (.int p3), .val (.int p4), .val (.int (2 : Int32)), .val (.int bb0), .val (.int bb1), .val (.int bb2), .val (.ref b169), .val (.ref r), .unset, .unset] [(.int (2 : Int32))])) _
      refine own_go (fun _ k => XS.iload X178.here hx rfl (hb hby at_74) rfl k) ?_
      show own_G p e below (T178.setTop (mkF m 76 #[.val (.int p1), .val (.int p2), .val (.int p3), .val (.int p4), .val (.int (2 : Int32)), .val (.int bb0), .val (.int bb1), .val (.int bb2), .val (.ref b169), .val (.ref r), .unset, .unset] [(.int (2 : Int32)), (.int (2 : Int32))])) _
      refine own_go (fun _ k => XS.icmpYes X178.here hx rfl (pc0 := 76) (pc' := 81) rfl (hb hby at_76) rfl (teq (by decide : (2 : Int32) = (2 : Int32))).1 (by decide) (by decide) k) ?_
      show own_G p e below (T178.setTop (mkF m 81 #[.val (.int p1), .val (.int p2), .val (.int p3), .val (.int p4), .val (.int (2 : Int32)), .val (.int bb0), .val (.int bb1), .val (.int bb2), .val (.ref b169), .val (.ref r), .unset, .unset] [])) _
      refine own_go (fun _ k => XS.iload X178.here hx rfl (hb hby at_81) rfl k) ?_
      show own_G p e below (T178.setTop (mkF m 83 #[.val (.int p1), .val (.int p2), .val (.int p3), .val (.int p4), .val (.int (2 : Int32)), .val (.int bb0), .val (.int bb1), .val (.int bb2), .val (.ref b169), .val (.ref r), .unset, .unset] [(.int (2 : Int32))])) _
      refine own_go (fun _ k => XS.ifNo X178.here hx rfl (hb hby at_83) rfl ((if0 _ _).trans (tlt (by decide : (0 : Int32) < (2 : Int32))).2.2.2) k) ?_
      show own_G p e below (T178.setTop (mkF m 86 #[.val (.int p1), .val (.int p2), .val (.int p3), .val (.int p4), .val (.int (2 : Int32)), .val (.int bb0), .val (.int bb1), .val (.int bb2), .val (.ref b169), .val (.ref r), .unset, .unset] [])) _
      refine own_go (fun _ k => XS.aload X178.here hx rfl (hb hby at_86) rfl rfl k) ?_
      show own_G p e below (T178.setTop (mkF m 88 #[.val (.int p1), .val (.int p2), .val (.int p3), .val (.int p4), .val (.int (2 : Int32)), .val (.int bb0), .val (.int bb1), .val (.int bb2), .val (.ref b169), .val (.ref r), .unset, .unset] [(.ref b169)])) _
      refine own_go (fun _ k => XS.iconst X178.here hx rfl (hb hby at_88) k) ?_
      show own_G p e below (T178.setTop (mkF m 89 #[.val (.int p1), .val (.int p2), .val (.int p3), .val (.int p4), .val (.int (2 : Int32)), .val (.int bb0), .val (.int bb1), .val (.int bb2), .val (.ref b169), .val (.ref r), .unset, .unset] [(.int (0 : Int32)), (.ref b169)])) _
      obtain ⟨cl183, Ar183, q183, S183, M183, B183, G183⟩ := id f180
      have hin183 : ¬ ((0 : Int32) < 0 ∨ cl183.slots.size ≤ ((0 : Int32)).toNatClampNeg) := inb_of S183 ⟨by decide, by decide⟩
      have hat183 : cl183.slots[((0 : Int32)).toNatClampNeg]? = some (.int bb0) := B183.at hin183 rfl
      refine own_go (X178.baloadBytes hx (j := (0 : Int32)) (v := (.int bb0)) Ar183.1 (State.isArrayOf_alike hZ.alike Ar183.2.1) Ar183.2.2 hin183 hat183 (g := (mkF m 89 #[.val (.int p1), .val (.int p2), .val (.int p3), .val (.int p4), .val (.int (2 : Int32)), .val (.int bb0), .val (.int bb1), .val (.int bb2), .val (.ref b169), .val (.ref r), .unset, .unset] [(.int (0 : Int32)), (.ref b169)])) rfl rfl (hb hby at_89)) ?_
      show own_G p e below (T178.setTop (mkF m 90 #[.val (.int p1), .val (.int p2), .val (.int p3), .val (.int p4), .val (.int (2 : Int32)), .val (.int bb0), .val (.int bb1), .val (.int bb2), .val (.ref b169), .val (.ref r), .unset, .unset] [(.int bb0)])) _
      refine own_go (fun _ k => XS.iload X178.here hx rfl (hb hby at_90) rfl k) ?_
      show own_G p e below (T178.setTop (mkF m 92 #[.val (.int p1), .val (.int p2), .val (.int p3), .val (.int p4), .val (.int (2 : Int32)), .val (.int bb0), .val (.int bb1), .val (.int bb2), .val (.ref b169), .val (.ref r), .unset, .unset] [(.int bb0), (.int bb0)])) _
      refine own_go (fun _ k => XS.icmpYes X178.here hx rfl (pc0 := 92) (pc' := 97) rfl (hb hby at_92) rfl (teq (rfl : bb0 = bb0)).1 (by decide) (by decide) k) ?_
      show own_G p e below (T178.setTop (mkF m 97 #[.val (.int p1), .val (.int p2), .val (.int p3), .val (.int p4), .val (.int (2 : Int32)), .val (.int bb0), .val (.int bb1), .val (.int bb2), .val (.ref b169), .val (.ref r), .unset, .unset] [])) _
      refine own_go (fun _ k => XS.iload X178.here hx rfl (hb hby at_97) rfl k) ?_
      show own_G p e below (T178.setTop (mkF m 99 #[.val (.int p1), .val (.int p2), .val (.int p3), .val (.int p4), .val (.int (2 : Int32)), .val (.int bb0), .val (.int bb1), .val (.int bb2), .val (.ref b169), .val (.ref r), .unset, .unset] [(.int (2 : Int32))])) _
      refine own_go (fun _ k => XS.iconst X178.here hx rfl (hb hby at_99) k) ?_
      show own_G p e below (T178.setTop (mkF m 100 #[.val (.int p1), .val (.int p2), .val (.int p3), .val (.int p4), .val (.int (2 : Int32)), .val (.int bb0), .val (.int bb1), .val (.int bb2), .val (.ref b169), .val (.ref r), .unset, .unset] [(.int (1 : Int32)), (.int (2 : Int32))])) _
      refine own_go (fun _ k => XS.icmpNo X178.here hx rfl (hb hby at_100) rfl (tlt (by decide : (1 : Int32) < (2 : Int32))).2.2.2 k) ?_
      show own_G p e below (T178.setTop (mkF m 103 #[.val (.int p1), .val (.int p2), .val (.int p3), .val (.int p4), .val (.int (2 : Int32)), .val (.int bb0), .val (.int bb1), .val (.int bb2), .val (.ref b169), .val (.ref r), .unset, .unset] [])) _
      refine own_go (fun _ k => XS.aload X178.here hx rfl (hb hby at_103) rfl rfl k) ?_
      show own_G p e below (T178.setTop (mkF m 105 #[.val (.int p1), .val (.int p2), .val (.int p3), .val (.int p4), .val (.int (2 : Int32)), .val (.int bb0), .val (.int bb1), .val (.int bb2), .val (.ref b169), .val (.ref r), .unset, .unset] [(.ref b169)])) _
      refine own_go (fun _ k => XS.iconst X178.here hx rfl (hb hby at_105) k) ?_
      show own_G p e below (T178.setTop (mkF m 106 #[.val (.int p1), .val (.int p2), .val (.int p3), .val (.int p4), .val (.int (2 : Int32)), .val (.int bb0), .val (.int bb1), .val (.int bb2), .val (.ref b169), .val (.ref r), .unset, .unset] [(.int (1 : Int32)), (.ref b169)])) _
      obtain ⟨cl184, Ar184, q184, S184, M184, B184, G184⟩ := id f180
      have hin184 : ¬ ((1 : Int32) < 0 ∨ cl184.slots.size ≤ ((1 : Int32)).toNatClampNeg) := inb_of S184 ⟨by decide, by decide⟩
      have hat184 : cl184.slots[((1 : Int32)).toNatClampNeg]? = some (.int bb1) := B184.at hin184 rfl
      refine own_go (X178.baloadBytes hx (j := (1 : Int32)) (v := (.int bb1)) Ar184.1 (State.isArrayOf_alike hZ.alike Ar184.2.1) Ar184.2.2 hin184 hat184 (g := (mkF m 106 #[.val (.int p1), .val (.int p2), .val (.int p3), .val (.int p4), .val (.int (2 : Int32)), .val (.int bb0), .val (.int bb1), .val (.int bb2), .val (.ref b169), .val (.ref r), .unset, .unset] [(.int (1 : Int32)), (.ref b169)])) rfl rfl (hb hby at_106)) ?_
      show own_G p e below (T178.setTop (mkF m 107 #[.val (.int p1), .val (.int p2), .val (.int p3), .val (.int p4), .val (.int (2 : Int32)), .val (.int bb0), .val (.int bb1), .val (.int bb2), .val (.ref b169), .val (.ref r), .unset, .unset] [(.int bb1)])) _
      refine own_go (fun _ k => XS.iload X178.here hx rfl (hb hby at_107) rfl k) ?_
      show own_G p e below (T178.setTop (mkF m 109 #[.val (.int p1), .val (.int p2), .val (.int p3), .val (.int p4), .val (.int (2 : Int32)), .val (.int bb0), .val (.int bb1), .val (.int bb2), .val (.ref b169), .val (.ref r), .unset, .unset] [(.int bb1), (.int bb1)])) _
      refine own_go (fun _ k => XS.icmpYes X178.here hx rfl (pc0 := 109) (pc' := 114) rfl (hb hby at_109) rfl (teq (rfl : bb1 = bb1)).1 (by decide) (by decide) k) ?_
      show own_G p e below (T178.setTop (mkF m 114 #[.val (.int p1), .val (.int p2), .val (.int p3), .val (.int p4), .val (.int (2 : Int32)), .val (.int bb0), .val (.int bb1), .val (.int bb2), .val (.ref b169), .val (.ref r), .unset, .unset] [])) _
      refine own_go (fun _ k => XS.iload X178.here hx rfl (hb hby at_114) rfl k) ?_
      show own_G p e below (T178.setTop (mkF m 116 #[.val (.int p1), .val (.int p2), .val (.int p3), .val (.int p4), .val (.int (2 : Int32)), .val (.int bb0), .val (.int bb1), .val (.int bb2), .val (.ref b169), .val (.ref r), .unset, .unset] [(.int (2 : Int32))])) _
      refine own_go (fun _ k => XS.iconst X178.here hx rfl (hb hby at_116) k) ?_
      show own_G p e below (T178.setTop (mkF m 117 #[.val (.int p1), .val (.int p2), .val (.int p3), .val (.int p4), .val (.int (2 : Int32)), .val (.int bb0), .val (.int bb1), .val (.int bb2), .val (.ref b169), .val (.ref r), .unset, .unset] [(.int (2 : Int32)), (.int (2 : Int32))])) _
      refine own_go (fun _ k => XS.icmpYes X178.here hx rfl (pc0 := 117) (pc' := 131) rfl (hb hby at_117) rfl (flt (by decide : ¬ ((2 : Int32) < (2 : Int32)))).2.2.2 (by decide) (by decide) k) ?_
      show own_G p e below (T178.setTop (mkF m 131 #[.val (.int p1), .val (.int p2), .val (.int p3), .val (.int p4), .val (.int (2 : Int32)), .val (.int bb0), .val (.int bb1), .val (.int bb2), .val (.ref b169), .val (.ref r), .unset, .unset] [])) _
      refine own_go (fun _ k => XS.iconst X178.here hx rfl (hb hby at_131) k) ?_
      show own_G p e below (T178.setTop (mkF m 132 #[.val (.int p1), .val (.int p2), .val (.int p3), .val (.int p4), .val (.int (2 : Int32)), .val (.int bb0), .val (.int bb1), .val (.int bb2), .val (.ref b169), .val (.ref r), .unset, .unset] [(.int (-1 : Int32))])) _
      refine own_go (fun _ k => XS.istore X178.here hx rfl (hb hby at_132) rfl (l' := #[.val (.int p1), .val (.int p2), .val (.int p3), .val (.int p4), .val (.int (2 : Int32)), .val (.int bb0), .val (.int bb1), .val (.int bb2), .val (.ref b169), .val (.ref r), .val (.int (-1 : Int32)), .unset]) rfl k) ?_
      show own_G p e below (T178.setTop (mkF m 134 #[.val (.int p1), .val (.int p2), .val (.int p3), .val (.int p4), .val (.int (2 : Int32)), .val (.int bb0), .val (.int bb1), .val (.int bb2), .val (.ref b169), .val (.ref r), .val (.int (-1 : Int32)), .unset] [])) _
      refine own_go (fun _ k => XS.iload X178.here hx rfl (hb hby at_134) rfl k) ?_
      show own_G p e below (T178.setTop (mkF m 136 #[.val (.int p1), .val (.int p2), .val (.int p3), .val (.int p4), .val (.int (2 : Int32)), .val (.int bb0), .val (.int bb1), .val (.int bb2), .val (.ref b169), .val (.ref r), .val (.int (-1 : Int32)), .unset] [(.int (2 : Int32))])) _
      refine own_go (fun _ k => XS.ifNo X178.here hx rfl (hb hby at_136) rfl ((if0 _ _).trans (tlt (by decide : (0 : Int32) < (2 : Int32))).2.2.2) k) ?_
      show own_G p e below (T178.setTop (mkF m 139 #[.val (.int p1), .val (.int p2), .val (.int p3), .val (.int p4), .val (.int (2 : Int32)), .val (.int bb0), .val (.int bb1), .val (.int bb2), .val (.ref b169), .val (.ref r), .val (.int (-1 : Int32)), .unset] [])) _
      refine own_go (fun _ k => XS.iload X178.here hx rfl (hb hby at_139) rfl k) ?_
      show own_G p e below (T178.setTop (mkF m 141 #[.val (.int p1), .val (.int p2), .val (.int p3), .val (.int p4), .val (.int (2 : Int32)), .val (.int bb0), .val (.int bb1), .val (.int bb2), .val (.ref b169), .val (.ref r), .val (.int (-1 : Int32)), .unset] [(.int bb0)])) _
      refine own_go (fun _ k => XS.iconst X178.here hx rfl (hb hby at_141) k) ?_
      show own_G p e below (T178.setTop (mkF m 142 #[.val (.int p1), .val (.int p2), .val (.int p3), .val (.int p4), .val (.int (2 : Int32)), .val (.int bb0), .val (.int bb1), .val (.int bb2), .val (.ref b169), .val (.ref r), .val (.int (-1 : Int32)), .unset] [(.int (-1 : Int32)), (.int bb0)])) _
      by_cases hc142_185 : bb0 = (-1 : Int32)
      · refine own_go (fun _ k => XS.icmpYes X178.here hx rfl (pc0 := 142) (pc' := 148) rfl (hb hby at_142) rfl (teq hc142_185).1 (by decide) (by decide) k) ?_
        show own_G p e below (T178.setTop (mkF m 148 #[.val (.int p1), .val (.int p2), .val (.int p3), .val (.int p4), .val (.int (2 : Int32)), .val (.int bb0), .val (.int bb1), .val (.int bb2), .val (.ref b169), .val (.ref r), .val (.int (-1 : Int32)), .unset] [])) _
        refine own_go (fun _ k => XS.iload X178.here hx rfl (hb hby at_148) rfl k) ?_
        show own_G p e below (T178.setTop (mkF m 150 #[.val (.int p1), .val (.int p2), .val (.int p3), .val (.int p4), .val (.int (2 : Int32)), .val (.int bb0), .val (.int bb1), .val (.int bb2), .val (.ref b169), .val (.ref r), .val (.int (-1 : Int32)), .unset] [(.int (2 : Int32))])) _
        refine own_go (fun _ k => XS.iconst X178.here hx rfl (hb hby at_150) k) ?_
        show own_G p e below (T178.setTop (mkF m 151 #[.val (.int p1), .val (.int p2), .val (.int p3), .val (.int p4), .val (.int (2 : Int32)), .val (.int bb0), .val (.int bb1), .val (.int bb2), .val (.ref b169), .val (.ref r), .val (.int (-1 : Int32)), .unset] [(.int (1 : Int32)), (.int (2 : Int32))])) _
        refine own_go (fun _ k => XS.icmpNo X178.here hx rfl (hb hby at_151) rfl (tlt (by decide : (1 : Int32) < (2 : Int32))).2.2.2 k) ?_
        show own_G p e below (T178.setTop (mkF m 154 #[.val (.int p1), .val (.int p2), .val (.int p3), .val (.int p4), .val (.int (2 : Int32)), .val (.int bb0), .val (.int bb1), .val (.int bb2), .val (.ref b169), .val (.ref r), .val (.int (-1 : Int32)), .unset] [])) _
        refine own_go (fun _ k => XS.iload X178.here hx rfl (hb hby at_154) rfl k) ?_
        show own_G p e below (T178.setTop (mkF m 156 #[.val (.int p1), .val (.int p2), .val (.int p3), .val (.int p4), .val (.int (2 : Int32)), .val (.int bb0), .val (.int bb1), .val (.int bb2), .val (.ref b169), .val (.ref r), .val (.int (-1 : Int32)), .unset] [(.int bb1)])) _
        refine own_go (fun _ k => XS.iconst X178.here hx rfl (hb hby at_156) k) ?_
        show own_G p e below (T178.setTop (mkF m 157 #[.val (.int p1), .val (.int p2), .val (.int p3), .val (.int p4), .val (.int (2 : Int32)), .val (.int bb0), .val (.int bb1), .val (.int bb2), .val (.ref b169), .val (.ref r), .val (.int (-1 : Int32)), .unset] [(.int (-1 : Int32)), (.int bb1)])) _
        refine own_go (fun _ k => XS.icmpNo X178.here hx rfl (hb hby at_157) rfl (feq c1).1 k) ?_
        show own_G p e below (T178.setTop (mkF m 160 #[.val (.int p1), .val (.int p2), .val (.int p3), .val (.int p4), .val (.int (2 : Int32)), .val (.int bb0), .val (.int bb1), .val (.int bb2), .val (.ref b169), .val (.ref r), .val (.int (-1 : Int32)), .unset] [])) _
        refine own_go (fun _ k => XS.iconst X178.here hx rfl (hb hby at_160) k) ?_
        show own_G p e below (T178.setTop (mkF m 161 #[.val (.int p1), .val (.int p2), .val (.int p3), .val (.int p4), .val (.int (2 : Int32)), .val (.int bb0), .val (.int bb1), .val (.int bb2), .val (.ref b169), .val (.ref r), .val (.int (-1 : Int32)), .unset] [(.int (1 : Int32))])) _
        refine own_go (fun _ k => XS.istore X178.here hx rfl (hb hby at_161) rfl (l' := #[.val (.int p1), .val (.int p2), .val (.int p3), .val (.int p4), .val (.int (2 : Int32)), .val (.int bb0), .val (.int bb1), .val (.int bb2), .val (.ref b169), .val (.ref r), .val (.int (1 : Int32)), .unset]) rfl k) ?_
        show own_G p e below (T178.setTop (mkF m 163 #[.val (.int p1), .val (.int p2), .val (.int p3), .val (.int p4), .val (.int (2 : Int32)), .val (.int bb0), .val (.int bb1), .val (.int bb2), .val (.ref b169), .val (.ref r), .val (.int (1 : Int32)), .unset] [])) _
        refine own_go (fun _ k => XS.iload X178.here hx rfl (hb hby at_163) rfl k) ?_
        show own_G p e below (T178.setTop (mkF m 165 #[.val (.int p1), .val (.int p2), .val (.int p3), .val (.int p4), .val (.int (2 : Int32)), .val (.int bb0), .val (.int bb1), .val (.int bb2), .val (.ref b169), .val (.ref r), .val (.int (1 : Int32)), .unset] [(.int (2 : Int32))])) _
        refine own_go (fun _ k => XS.iconst X178.here hx rfl (hb hby at_165) k) ?_
        show own_G p e below (T178.setTop (mkF m 166 #[.val (.int p1), .val (.int p2), .val (.int p3), .val (.int p4), .val (.int (2 : Int32)), .val (.int bb0), .val (.int bb1), .val (.int bb2), .val (.ref b169), .val (.ref r), .val (.int (1 : Int32)), .unset] [(.int (2 : Int32)), (.int (2 : Int32))])) _
        refine own_go (fun _ k => XS.icmpYes X178.here hx rfl (pc0 := 166) (pc' := 178) rfl (hb hby at_166) rfl (flt (by decide : ¬ ((2 : Int32) < (2 : Int32)))).2.2.2 (by decide) (by decide) k) ?_
        show own_G p e below (T178.setTop (mkF m 178 #[.val (.int p1), .val (.int p2), .val (.int p3), .val (.int p4), .val (.int (2 : Int32)), .val (.int bb0), .val (.int bb1), .val (.int bb2), .val (.ref b169), .val (.ref r), .val (.int (1 : Int32)), .unset] [])) _
        refine own_go (fun _ k => XS.iload X178.here hx rfl (hb hby at_178) rfl k) ?_
        show own_G p e below (T178.setTop (mkF m 180 #[.val (.int p1), .val (.int p2), .val (.int p3), .val (.int p4), .val (.int (2 : Int32)), .val (.int bb0), .val (.int bb1), .val (.int bb2), .val (.ref b169), .val (.ref r), .val (.int (1 : Int32)), .unset] [(.int (1 : Int32))])) _
        refine own_go (fun _ k => XS.ifYes X178.here hx rfl (pc0 := 180) (pc' := 194) rfl (hb hby at_180) rfl ((if0 _ _).trans (flt (by decide : ¬ ((1 : Int32) < (0 : Int32)))).2.1) (by decide) (by decide) k) ?_
        show own_G p e below (T178.setTop (mkF m 194 #[.val (.int p1), .val (.int p2), .val (.int p3), .val (.int p4), .val (.int (2 : Int32)), .val (.int bb0), .val (.int bb1), .val (.int bb2), .val (.ref b169), .val (.ref r), .val (.int (1 : Int32)), .unset] [])) _
        refine own_go (fun _ k => XS.aload X178.here hx rfl (hb hby at_194) rfl rfl k) ?_
        show own_G p e below (T178.setTop (mkF m 196 #[.val (.int p1), .val (.int p2), .val (.int p3), .val (.int p4), .val (.int (2 : Int32)), .val (.int bb0), .val (.int bb1), .val (.int bb2), .val (.ref b169), .val (.ref r), .val (.int (1 : Int32)), .unset] [(.ref r)])) _
        refine own_go (fun _ k => XS.ifnullNo X178.here hx rfl (hb hby at_196) rfl k) ?_
        show own_G p e below (T178.setTop (mkF m 199 #[.val (.int p1), .val (.int p2), .val (.int p3), .val (.int p4), .val (.int (2 : Int32)), .val (.int bb0), .val (.int bb1), .val (.int bb2), .val (.ref b169), .val (.ref r), .val (.int (1 : Int32)), .unset] [])) _
        refine own_go (fun _ k => XS.aload X178.here hx rfl (hb hby at_199) rfl rfl k) ?_
        show own_G p e below (T178.setTop (mkF m 201 #[.val (.int p1), .val (.int p2), .val (.int p3), .val (.int p4), .val (.int (2 : Int32)), .val (.int bb0), .val (.int bb1), .val (.int bb2), .val (.ref b169), .val (.ref r), .val (.int (1 : Int32)), .unset] [(.ref r)])) _
        obtain ⟨cl186, Ar186, q186, S186, M186, B186, G186⟩ := id Vr
        refine own_go (X178.arraylength hx Ar186.1 (State.isArrayOf_alike hZ.alike Ar186.2.1) (g := (mkF m 201 #[.val (.int p1), .val (.int p2), .val (.int p3), .val (.int p4), .val (.int (2 : Int32)), .val (.int bb0), .val (.int bb1), .val (.int bb2), .val (.ref b169), .val (.ref r), .val (.int (1 : Int32)), .unset] [(.ref r)])) rfl rfl (hb hby at_201)) ?_
        rw [len_of S186 M186]
        show own_G p e below (T178.setTop (mkF m 202 #[.val (.int p1), .val (.int p2), .val (.int p3), .val (.int p4), .val (.int (2 : Int32)), .val (.int bb0), .val (.int bb1), .val (.int bb2), .val (.ref b169), .val (.ref r), .val (.int (1 : Int32)), .unset] [(.int (2 : Int32))])) _
        refine own_go (fun _ k => XS.iload X178.here hx rfl (hb hby at_202) rfl k) ?_
        show own_G p e below (T178.setTop (mkF m 204 #[.val (.int p1), .val (.int p2), .val (.int p3), .val (.int p4), .val (.int (2 : Int32)), .val (.int bb0), .val (.int bb1), .val (.int bb2), .val (.ref b169), .val (.ref r), .val (.int (1 : Int32)), .unset] [(.int (1 : Int32)), (.int (2 : Int32))])) _
        refine own_go (fun _ k => XS.iconst X178.here hx rfl (hb hby at_204) k) ?_
        show own_G p e below (T178.setTop (mkF m 205 #[.val (.int p1), .val (.int p2), .val (.int p3), .val (.int p4), .val (.int (2 : Int32)), .val (.int bb0), .val (.int bb1), .val (.int bb2), .val (.ref b169), .val (.ref r), .val (.int (1 : Int32)), .unset] [(.int (1 : Int32)), (.int (1 : Int32)), (.int (2 : Int32))])) _
        refine own_go (fun _ k => XS.iadd X178.here hx rfl (hb hby at_205) rfl k) ?_
        show own_G p e below (T178.setTop (mkF m 206 #[.val (.int p1), .val (.int p2), .val (.int p3), .val (.int p4), .val (.int (2 : Int32)), .val (.int bb0), .val (.int bb1), .val (.int bb2), .val (.ref b169), .val (.ref r), .val (.int (1 : Int32)), .unset] [(.int (2 : Int32)), (.int (2 : Int32))])) _
        refine own_go (fun _ k => XS.icmpYes X178.here hx rfl (pc0 := 206) (pc' := 211) rfl (hb hby at_206) rfl (teq (by decide : (2 : Int32) = (2 : Int32))).1 (by decide) (by decide) k) ?_
        show own_G p e below (T178.setTop (mkF m 211 #[.val (.int p1), .val (.int p2), .val (.int p3), .val (.int p4), .val (.int (2 : Int32)), .val (.int bb0), .val (.int bb1), .val (.int bb2), .val (.ref b169), .val (.ref r), .val (.int (1 : Int32)), .unset] [])) _
        refine own_go (fun _ k => XS.iload X178.here hx rfl (hb hby at_211) rfl k) ?_
        show own_G p e below (T178.setTop (mkF m 213 #[.val (.int p1), .val (.int p2), .val (.int p3), .val (.int p4), .val (.int (2 : Int32)), .val (.int bb0), .val (.int bb1), .val (.int bb2), .val (.ref b169), .val (.ref r), .val (.int (1 : Int32)), .unset] [(.int (1 : Int32))])) _
        refine own_go (fun _ k => XS.ifNo X178.here hx rfl (hb hby at_213) rfl ((if0 _ _).trans (tlt (by decide : (0 : Int32) < (1 : Int32))).2.2.2) k) ?_
        show own_G p e below (T178.setTop (mkF m 216 #[.val (.int p1), .val (.int p2), .val (.int p3), .val (.int p4), .val (.int (2 : Int32)), .val (.int bb0), .val (.int bb1), .val (.int bb2), .val (.ref b169), .val (.ref r), .val (.int (1 : Int32)), .unset] [])) _
        refine own_go (fun _ k => XS.aload X178.here hx rfl (hb hby at_216) rfl rfl k) ?_
        show own_G p e below (T178.setTop (mkF m 218 #[.val (.int p1), .val (.int p2), .val (.int p3), .val (.int p4), .val (.int (2 : Int32)), .val (.int bb0), .val (.int bb1), .val (.int bb2), .val (.ref b169), .val (.ref r), .val (.int (1 : Int32)), .unset] [(.ref r)])) _
        refine own_go (fun _ k => XS.iconst X178.here hx rfl (hb hby at_218) k) ?_
        show own_G p e below (T178.setTop (mkF m 219 #[.val (.int p1), .val (.int p2), .val (.int p3), .val (.int p4), .val (.int (2 : Int32)), .val (.int bb0), .val (.int bb1), .val (.int bb2), .val (.ref b169), .val (.ref r), .val (.int (1 : Int32)), .unset] [(.int (0 : Int32)), (.ref r)])) _
        obtain ⟨cl187, Ar187, q187, S187, M187, B187, G187⟩ := id Vr
        have hin187 : ¬ ((0 : Int32) < 0 ∨ cl187.slots.size ≤ ((0 : Int32)).toNatClampNeg) := inb_of S187 ⟨by decide, by decide⟩
        have hat187 : cl187.slots[((0 : Int32)).toNatClampNeg]? = some (.int bb0) := B187.at hin187 rfl
        refine own_go (X178.baloadBytes hx (j := (0 : Int32)) (v := (.int bb0)) Ar187.1 (State.isArrayOf_alike hZ.alike Ar187.2.1) Ar187.2.2 hin187 hat187 (g := (mkF m 219 #[.val (.int p1), .val (.int p2), .val (.int p3), .val (.int p4), .val (.int (2 : Int32)), .val (.int bb0), .val (.int bb1), .val (.int bb2), .val (.ref b169), .val (.ref r), .val (.int (1 : Int32)), .unset] [(.int (0 : Int32)), (.ref r)])) rfl rfl (hb hby at_219)) ?_
        show own_G p e below (T178.setTop (mkF m 220 #[.val (.int p1), .val (.int p2), .val (.int p3), .val (.int p4), .val (.int (2 : Int32)), .val (.int bb0), .val (.int bb1), .val (.int bb2), .val (.ref b169), .val (.ref r), .val (.int (1 : Int32)), .unset] [(.int bb0)])) _
        refine own_go (fun _ k => XS.iload X178.here hx rfl (hb hby at_220) rfl k) ?_
        show own_G p e below (T178.setTop (mkF m 222 #[.val (.int p1), .val (.int p2), .val (.int p3), .val (.int p4), .val (.int (2 : Int32)), .val (.int bb0), .val (.int bb1), .val (.int bb2), .val (.ref b169), .val (.ref r), .val (.int (1 : Int32)), .unset] [(.int bb0), (.int bb0)])) _
        refine own_go (fun _ k => XS.icmpYes X178.here hx rfl (pc0 := 222) (pc' := 227) rfl (hb hby at_222) rfl (teq (rfl : bb0 = bb0)).1 (by decide) (by decide) k) ?_
        show own_G p e below (T178.setTop (mkF m 227 #[.val (.int p1), .val (.int p2), .val (.int p3), .val (.int p4), .val (.int (2 : Int32)), .val (.int bb0), .val (.int bb1), .val (.int bb2), .val (.ref b169), .val (.ref r), .val (.int (1 : Int32)), .unset] [])) _
        refine own_go (fun _ k => XS.iload X178.here hx rfl (hb hby at_227) rfl k) ?_
        show own_G p e below (T178.setTop (mkF m 229 #[.val (.int p1), .val (.int p2), .val (.int p3), .val (.int p4), .val (.int (2 : Int32)), .val (.int bb0), .val (.int bb1), .val (.int bb2), .val (.ref b169), .val (.ref r), .val (.int (1 : Int32)), .unset] [(.int (1 : Int32))])) _
        refine own_go (fun _ k => XS.iconst X178.here hx rfl (hb hby at_229) k) ?_
        show own_G p e below (T178.setTop (mkF m 230 #[.val (.int p1), .val (.int p2), .val (.int p3), .val (.int p4), .val (.int (2 : Int32)), .val (.int bb0), .val (.int bb1), .val (.int bb2), .val (.ref b169), .val (.ref r), .val (.int (1 : Int32)), .unset] [(.int (1 : Int32)), (.int (1 : Int32))])) _
        refine own_go (fun _ k => XS.icmpYes X178.here hx rfl (pc0 := 230) (pc' := 244) rfl (hb hby at_230) rfl (flt (by decide : ¬ ((1 : Int32) < (1 : Int32)))).2.2.2 (by decide) (by decide) k) ?_
        show own_G p e below (T178.setTop (mkF m 244 #[.val (.int p1), .val (.int p2), .val (.int p3), .val (.int p4), .val (.int (2 : Int32)), .val (.int bb0), .val (.int bb1), .val (.int bb2), .val (.ref b169), .val (.ref r), .val (.int (1 : Int32)), .unset] [])) _
        refine own_go (fun _ k => XS.iload X178.here hx rfl (hb hby at_244) rfl k) ?_
        show own_G p e below (T178.setTop (mkF m 246 #[.val (.int p1), .val (.int p2), .val (.int p3), .val (.int p4), .val (.int (2 : Int32)), .val (.int bb0), .val (.int bb1), .val (.int bb2), .val (.ref b169), .val (.ref r), .val (.int (1 : Int32)), .unset] [(.int (1 : Int32))])) _
        refine own_go (fun _ k => XS.ifYes X178.here hx rfl (pc0 := 246) (pc' := 254) rfl (hb hby at_246) rfl ((if0 _ _).trans (feq (by decide : ¬ ((1 : Int32) = (0 : Int32)))).2) (by decide) (by decide) k) ?_
        show own_G p e below (T178.setTop (mkF m 254 #[.val (.int p1), .val (.int p2), .val (.int p3), .val (.int p4), .val (.int (2 : Int32)), .val (.int bb0), .val (.int bb1), .val (.int bb2), .val (.ref b169), .val (.ref r), .val (.int (1 : Int32)), .unset] [])) _
        refine own_go (fun _ k => XS.iload X178.here hx rfl (hb hby at_254) rfl k) ?_
        show own_G p e below (T178.setTop (mkF m 256 #[.val (.int p1), .val (.int p2), .val (.int p3), .val (.int p4), .val (.int (2 : Int32)), .val (.int bb0), .val (.int bb1), .val (.int bb2), .val (.ref b169), .val (.ref r), .val (.int (1 : Int32)), .unset] [(.int (1 : Int32))])) _
        refine own_go (fun _ k => XS.iconst X178.here hx rfl (hb hby at_256) k) ?_
        show own_G p e below (T178.setTop (mkF m 257 #[.val (.int p1), .val (.int p2), .val (.int p3), .val (.int p4), .val (.int (2 : Int32)), .val (.int bb0), .val (.int bb1), .val (.int bb2), .val (.ref b169), .val (.ref r), .val (.int (1 : Int32)), .unset] [(.int (1 : Int32)), (.int (1 : Int32))])) _
        refine own_go (fun _ k => XS.icmpNo X178.here hx rfl (hb hby at_257) rfl (teq (by decide : (1 : Int32) = (1 : Int32))).2 k) ?_
        show own_G p e below (T178.setTop (mkF m 260 #[.val (.int p1), .val (.int p2), .val (.int p3), .val (.int p4), .val (.int (2 : Int32)), .val (.int bb0), .val (.int bb1), .val (.int bb2), .val (.ref b169), .val (.ref r), .val (.int (1 : Int32)), .unset] [])) _
        refine own_go (fun _ k => XS.iload X178.here hx rfl (hb hby at_260) rfl k) ?_
        show own_G p e below (T178.setTop (mkF m 262 #[.val (.int p1), .val (.int p2), .val (.int p3), .val (.int p4), .val (.int (2 : Int32)), .val (.int bb0), .val (.int bb1), .val (.int bb2), .val (.ref b169), .val (.ref r), .val (.int (1 : Int32)), .unset] [(.int bb1)])) _
        refine own_go (fun _ k => XS.goto X178.here hx rfl (pc0 := 262) (pc' := 267) rfl (hb hby at_262) (by decide) (by decide) k) ?_
        show own_G p e below (T178.setTop (mkF m 267 #[.val (.int p1), .val (.int p2), .val (.int p3), .val (.int p4), .val (.int (2 : Int32)), .val (.int bb0), .val (.int bb1), .val (.int bb2), .val (.ref b169), .val (.ref r), .val (.int (1 : Int32)), .unset] [(.int bb1)])) _
        refine own_go (fun _ k => XS.istore X178.here hx rfl (hb hby at_267) rfl (l' := #[.val (.int p1), .val (.int p2), .val (.int p3), .val (.int p4), .val (.int (2 : Int32)), .val (.int bb0), .val (.int bb1), .val (.int bb2), .val (.ref b169), .val (.ref r), .val (.int (1 : Int32)), .val (.int bb1)]) rfl k) ?_
        show own_G p e below (T178.setTop (mkF m 269 #[.val (.int p1), .val (.int p2), .val (.int p3), .val (.int p4), .val (.int (2 : Int32)), .val (.int bb0), .val (.int bb1), .val (.int bb2), .val (.ref b169), .val (.ref r), .val (.int (1 : Int32)), .val (.int bb1)] [])) _
        refine own_go (fun _ k => XS.aload X178.here hx rfl (hb hby at_269) rfl rfl k) ?_
        show own_G p e below (T178.setTop (mkF m 271 #[.val (.int p1), .val (.int p2), .val (.int p3), .val (.int p4), .val (.int (2 : Int32)), .val (.int bb0), .val (.int bb1), .val (.int bb2), .val (.ref b169), .val (.ref r), .val (.int (1 : Int32)), .val (.int bb1)] [(.ref r)])) _
        refine own_go (fun _ k => XS.iload X178.here hx rfl (hb hby at_271) rfl k) ?_
        show own_G p e below (T178.setTop (mkF m 273 #[.val (.int p1), .val (.int p2), .val (.int p3), .val (.int p4), .val (.int (2 : Int32)), .val (.int bb0), .val (.int bb1), .val (.int bb2), .val (.ref b169), .val (.ref r), .val (.int (1 : Int32)), .val (.int bb1)] [(.int (1 : Int32)), (.ref r)])) _
        obtain ⟨cl188, Ar188, q188, S188, M188, B188, G188⟩ := id Vr
        have hin188 : ¬ ((1 : Int32) < 0 ∨ cl188.slots.size ≤ ((1 : Int32)).toNatClampNeg) := inb_of S188 ⟨by decide, by decide⟩
        have hat188 : cl188.slots[((1 : Int32)).toNatClampNeg]? = some (.int ((bb1 + (1 : Int32)).toInt8.toInt32)) := B188.at hin188 rfl
        refine own_go (X178.baloadBytes hx (j := (1 : Int32)) (v := (.int ((bb1 + (1 : Int32)).toInt8.toInt32))) Ar188.1 (State.isArrayOf_alike hZ.alike Ar188.2.1) Ar188.2.2 hin188 hat188 (g := (mkF m 273 #[.val (.int p1), .val (.int p2), .val (.int p3), .val (.int p4), .val (.int (2 : Int32)), .val (.int bb0), .val (.int bb1), .val (.int bb2), .val (.ref b169), .val (.ref r), .val (.int (1 : Int32)), .val (.int bb1)] [(.int (1 : Int32)), (.ref r)])) rfl rfl (hb hby at_273)) ?_
        show own_G p e below (T178.setTop (mkF m 274 #[.val (.int p1), .val (.int p2), .val (.int p3), .val (.int p4), .val (.int (2 : Int32)), .val (.int bb0), .val (.int bb1), .val (.int bb2), .val (.ref b169), .val (.ref r), .val (.int (1 : Int32)), .val (.int bb1)] [(.int ((bb1 + (1 : Int32)).toInt8.toInt32))])) _
        refine own_go (fun _ k => XS.iload X178.here hx rfl (hb hby at_274) rfl k) ?_
        show own_G p e below (T178.setTop (mkF m 276 #[.val (.int p1), .val (.int p2), .val (.int p3), .val (.int p4), .val (.int (2 : Int32)), .val (.int bb0), .val (.int bb1), .val (.int bb2), .val (.ref b169), .val (.ref r), .val (.int (1 : Int32)), .val (.int bb1)] [(.int bb1), (.int ((bb1 + (1 : Int32)).toInt8.toInt32))])) _
        refine own_go (fun _ k => XS.iconst X178.here hx rfl (hb hby at_276) k) ?_
        show own_G p e below (T178.setTop (mkF m 277 #[.val (.int p1), .val (.int p2), .val (.int p3), .val (.int p4), .val (.int (2 : Int32)), .val (.int bb0), .val (.int bb1), .val (.int bb2), .val (.ref b169), .val (.ref r), .val (.int (1 : Int32)), .val (.int bb1)] [(.int (1 : Int32)), (.int bb1), (.int ((bb1 + (1 : Int32)).toInt8.toInt32))])) _
        refine own_go (fun _ k => XS.iadd X178.here hx rfl (hb hby at_277) rfl k) ?_
        show own_G p e below (T178.setTop (mkF m 278 #[.val (.int p1), .val (.int p2), .val (.int p3), .val (.int p4), .val (.int (2 : Int32)), .val (.int bb0), .val (.int bb1), .val (.int bb2), .val (.ref b169), .val (.ref r), .val (.int (1 : Int32)), .val (.int bb1)] [(.int (bb1 + (1 : Int32))), (.int ((bb1 + (1 : Int32)).toInt8.toInt32))])) _
        refine own_go (fun _ k => XS.i2b X178.here hx rfl (hb hby at_278) rfl k) ?_
        show own_G p e below (T178.setTop (mkF m 279 #[.val (.int p1), .val (.int p2), .val (.int p3), .val (.int p4), .val (.int (2 : Int32)), .val (.int bb0), .val (.int bb1), .val (.int bb2), .val (.ref b169), .val (.ref r), .val (.int (1 : Int32)), .val (.int bb1)] [(.int ((bb1 + (1 : Int32)).toInt8.toInt32)), (.int ((bb1 + (1 : Int32)).toInt8.toInt32))])) _
        refine own_go (fun _ k => XS.icmpNo X178.here hx rfl (hb hby at_279) rfl (teq (rfl : ((bb1 + (1 : Int32)).toInt8.toInt32) = ((bb1 + (1 : Int32)).toInt8.toInt32))).2 k) ?_
        show own_G p e below (T178.setTop (mkF m 282 #[.val (.int p1), .val (.int p2), .val (.int p3), .val (.int p4), .val (.int (2 : Int32)), .val (.int bb0), .val (.int bb1), .val (.int bb2), .val (.ref b169), .val (.ref r), .val (.int (1 : Int32)), .val (.int bb1)] [])) _
        refine own_go (fun _ k => XS.iconst X178.here hx rfl (hb hby at_282) k) ?_
        show own_G p e below (T178.setTop (mkF m 283 #[.val (.int p1), .val (.int p2), .val (.int p3), .val (.int p4), .val (.int (2 : Int32)), .val (.int bb0), .val (.int bb1), .val (.int bb2), .val (.ref b169), .val (.ref r), .val (.int (1 : Int32)), .val (.int bb1)] [(.int (1 : Int32))])) _
        refine own_go (fun _ k => XS.goto X178.here hx rfl (pc0 := 283) (pc' := 287) rfl (hb hby at_283) (by decide) (by decide) k) ?_
        show own_G p e below (T178.setTop (mkF m 287 #[.val (.int p1), .val (.int p2), .val (.int p3), .val (.int p4), .val (.int (2 : Int32)), .val (.int bb0), .val (.int bb1), .val (.int bb2), .val (.ref b169), .val (.ref r), .val (.int (1 : Int32)), .val (.int bb1)] [(.int (1 : Int32))])) _
        refine own_ret X178 hlk (v := some (.int (1 : Int32))) (fun h => by rw [hret] at h; cases h) (Q0 Z p1 p2 p3 p4 h0 n0) (own_retI X178 hx (t := .boolean) hret rfl (Or.inl ⟨rfl, by simp, _, rfl⟩) (hb hby at_287)) (by decide) (by decide) ?_
        show Q0 Z p1 p2 p3 p4 h0 n0 _ T178.heap _
        exact ⟨rfl, N178⟩
      · refine own_go (fun _ k => XS.icmpNo X178.here hx rfl (hb hby at_142) rfl (feq hc142_185).1 k) ?_
        show own_G p e below (T178.setTop (mkF m 145 #[.val (.int p1), .val (.int p2), .val (.int p3), .val (.int p4), .val (.int (2 : Int32)), .val (.int bb0), .val (.int bb1), .val (.int bb2), .val (.ref b169), .val (.ref r), .val (.int (-1 : Int32)), .unset] [])) _
        refine own_go (fun _ k => XS.iconst X178.here hx rfl (hb hby at_145) k) ?_
        show own_G p e below (T178.setTop (mkF m 146 #[.val (.int p1), .val (.int p2), .val (.int p3), .val (.int p4), .val (.int (2 : Int32)), .val (.int bb0), .val (.int bb1), .val (.int bb2), .val (.ref b169), .val (.ref r), .val (.int (-1 : Int32)), .unset] [(.int (0 : Int32))])) _
        refine own_go (fun _ k => XS.istore X178.here hx rfl (hb hby at_146) rfl (l' := #[.val (.int p1), .val (.int p2), .val (.int p3), .val (.int p4), .val (.int (2 : Int32)), .val (.int bb0), .val (.int bb1), .val (.int bb2), .val (.ref b169), .val (.ref r), .val (.int (0 : Int32)), .unset]) rfl k) ?_
        show own_G p e below (T178.setTop (mkF m 148 #[.val (.int p1), .val (.int p2), .val (.int p3), .val (.int p4), .val (.int (2 : Int32)), .val (.int bb0), .val (.int bb1), .val (.int bb2), .val (.ref b169), .val (.ref r), .val (.int (0 : Int32)), .unset] [])) _
        refine own_go (fun _ k => XS.iload X178.here hx rfl (hb hby at_148) rfl k) ?_
        show own_G p e below (T178.setTop (mkF m 150 #[.val (.int p1), .val (.int p2), .val (.int p3), .val (.int p4), .val (.int (2 : Int32)), .val (.int bb0), .val (.int bb1), .val (.int bb2), .val (.ref b169), .val (.ref r), .val (.int (0 : Int32)), .unset] [(.int (2 : Int32))])) _
        refine own_go (fun _ k => XS.iconst X178.here hx rfl (hb hby at_150) k) ?_
        show own_G p e below (T178.setTop (mkF m 151 #[.val (.int p1), .val (.int p2), .val (.int p3), .val (.int p4), .val (.int (2 : Int32)), .val (.int bb0), .val (.int bb1), .val (.int bb2), .val (.ref b169), .val (.ref r), .val (.int (0 : Int32)), .unset] [(.int (1 : Int32)), (.int (2 : Int32))])) _
        refine own_go (fun _ k => XS.icmpNo X178.here hx rfl (hb hby at_151) rfl (tlt (by decide : (1 : Int32) < (2 : Int32))).2.2.2 k) ?_
        show own_G p e below (T178.setTop (mkF m 154 #[.val (.int p1), .val (.int p2), .val (.int p3), .val (.int p4), .val (.int (2 : Int32)), .val (.int bb0), .val (.int bb1), .val (.int bb2), .val (.ref b169), .val (.ref r), .val (.int (0 : Int32)), .unset] [])) _
        refine own_go (fun _ k => XS.iload X178.here hx rfl (hb hby at_154) rfl k) ?_
        show own_G p e below (T178.setTop (mkF m 156 #[.val (.int p1), .val (.int p2), .val (.int p3), .val (.int p4), .val (.int (2 : Int32)), .val (.int bb0), .val (.int bb1), .val (.int bb2), .val (.ref b169), .val (.ref r), .val (.int (0 : Int32)), .unset] [(.int bb1)])) _
        refine own_go (fun _ k => XS.iconst X178.here hx rfl (hb hby at_156) k) ?_
        show own_G p e below (T178.setTop (mkF m 157 #[.val (.int p1), .val (.int p2), .val (.int p3), .val (.int p4), .val (.int (2 : Int32)), .val (.int bb0), .val (.int bb1), .val (.int bb2), .val (.ref b169), .val (.ref r), .val (.int (0 : Int32)), .unset] [(.int (-1 : Int32)), (.int bb1)])) _
        refine own_go (fun _ k => XS.icmpNo X178.here hx rfl (hb hby at_157) rfl (feq c1).1 k) ?_
        show own_G p e below (T178.setTop (mkF m 160 #[.val (.int p1), .val (.int p2), .val (.int p3), .val (.int p4), .val (.int (2 : Int32)), .val (.int bb0), .val (.int bb1), .val (.int bb2), .val (.ref b169), .val (.ref r), .val (.int (0 : Int32)), .unset] [])) _
        refine own_go (fun _ k => XS.iconst X178.here hx rfl (hb hby at_160) k) ?_
        show own_G p e below (T178.setTop (mkF m 161 #[.val (.int p1), .val (.int p2), .val (.int p3), .val (.int p4), .val (.int (2 : Int32)), .val (.int bb0), .val (.int bb1), .val (.int bb2), .val (.ref b169), .val (.ref r), .val (.int (0 : Int32)), .unset] [(.int (1 : Int32))])) _
        refine own_go (fun _ k => XS.istore X178.here hx rfl (hb hby at_161) rfl (l' := #[.val (.int p1), .val (.int p2), .val (.int p3), .val (.int p4), .val (.int (2 : Int32)), .val (.int bb0), .val (.int bb1), .val (.int bb2), .val (.ref b169), .val (.ref r), .val (.int (1 : Int32)), .unset]) rfl k) ?_
        show own_G p e below (T178.setTop (mkF m 163 #[.val (.int p1), .val (.int p2), .val (.int p3), .val (.int p4), .val (.int (2 : Int32)), .val (.int bb0), .val (.int bb1), .val (.int bb2), .val (.ref b169), .val (.ref r), .val (.int (1 : Int32)), .unset] [])) _
        refine own_go (fun _ k => XS.iload X178.here hx rfl (hb hby at_163) rfl k) ?_
        show own_G p e below (T178.setTop (mkF m 165 #[.val (.int p1), .val (.int p2), .val (.int p3), .val (.int p4), .val (.int (2 : Int32)), .val (.int bb0), .val (.int bb1), .val (.int bb2), .val (.ref b169), .val (.ref r), .val (.int (1 : Int32)), .unset] [(.int (2 : Int32))])) _
        refine own_go (fun _ k => XS.iconst X178.here hx rfl (hb hby at_165) k) ?_
        show own_G p e below (T178.setTop (mkF m 166 #[.val (.int p1), .val (.int p2), .val (.int p3), .val (.int p4), .val (.int (2 : Int32)), .val (.int bb0), .val (.int bb1), .val (.int bb2), .val (.ref b169), .val (.ref r), .val (.int (1 : Int32)), .unset] [(.int (2 : Int32)), (.int (2 : Int32))])) _
        refine own_go (fun _ k => XS.icmpYes X178.here hx rfl (pc0 := 166) (pc' := 178) rfl (hb hby at_166) rfl (flt (by decide : ¬ ((2 : Int32) < (2 : Int32)))).2.2.2 (by decide) (by decide) k) ?_
        show own_G p e below (T178.setTop (mkF m 178 #[.val (.int p1), .val (.int p2), .val (.int p3), .val (.int p4), .val (.int (2 : Int32)), .val (.int bb0), .val (.int bb1), .val (.int bb2), .val (.ref b169), .val (.ref r), .val (.int (1 : Int32)), .unset] [])) _
        refine own_go (fun _ k => XS.iload X178.here hx rfl (hb hby at_178) rfl k) ?_
        show own_G p e below (T178.setTop (mkF m 180 #[.val (.int p1), .val (.int p2), .val (.int p3), .val (.int p4), .val (.int (2 : Int32)), .val (.int bb0), .val (.int bb1), .val (.int bb2), .val (.ref b169), .val (.ref r), .val (.int (1 : Int32)), .unset] [(.int (1 : Int32))])) _
        refine own_go (fun _ k => XS.ifYes X178.here hx rfl (pc0 := 180) (pc' := 194) rfl (hb hby at_180) rfl ((if0 _ _).trans (flt (by decide : ¬ ((1 : Int32) < (0 : Int32)))).2.1) (by decide) (by decide) k) ?_
        show own_G p e below (T178.setTop (mkF m 194 #[.val (.int p1), .val (.int p2), .val (.int p3), .val (.int p4), .val (.int (2 : Int32)), .val (.int bb0), .val (.int bb1), .val (.int bb2), .val (.ref b169), .val (.ref r), .val (.int (1 : Int32)), .unset] [])) _
        refine own_go (fun _ k => XS.aload X178.here hx rfl (hb hby at_194) rfl rfl k) ?_
        show own_G p e below (T178.setTop (mkF m 196 #[.val (.int p1), .val (.int p2), .val (.int p3), .val (.int p4), .val (.int (2 : Int32)), .val (.int bb0), .val (.int bb1), .val (.int bb2), .val (.ref b169), .val (.ref r), .val (.int (1 : Int32)), .unset] [(.ref r)])) _
        refine own_go (fun _ k => XS.ifnullNo X178.here hx rfl (hb hby at_196) rfl k) ?_
        show own_G p e below (T178.setTop (mkF m 199 #[.val (.int p1), .val (.int p2), .val (.int p3), .val (.int p4), .val (.int (2 : Int32)), .val (.int bb0), .val (.int bb1), .val (.int bb2), .val (.ref b169), .val (.ref r), .val (.int (1 : Int32)), .unset] [])) _
        refine own_go (fun _ k => XS.aload X178.here hx rfl (hb hby at_199) rfl rfl k) ?_
        show own_G p e below (T178.setTop (mkF m 201 #[.val (.int p1), .val (.int p2), .val (.int p3), .val (.int p4), .val (.int (2 : Int32)), .val (.int bb0), .val (.int bb1), .val (.int bb2), .val (.ref b169), .val (.ref r), .val (.int (1 : Int32)), .unset] [(.ref r)])) _
        obtain ⟨cl189, Ar189, q189, S189, M189, B189, G189⟩ := id Vr
        refine own_go (X178.arraylength hx Ar189.1 (State.isArrayOf_alike hZ.alike Ar189.2.1) (g := (mkF m 201 #[.val (.int p1), .val (.int p2), .val (.int p3), .val (.int p4), .val (.int (2 : Int32)), .val (.int bb0), .val (.int bb1), .val (.int bb2), .val (.ref b169), .val (.ref r), .val (.int (1 : Int32)), .unset] [(.ref r)])) rfl rfl (hb hby at_201)) ?_
        rw [len_of S189 M189]
        show own_G p e below (T178.setTop (mkF m 202 #[.val (.int p1), .val (.int p2), .val (.int p3), .val (.int p4), .val (.int (2 : Int32)), .val (.int bb0), .val (.int bb1), .val (.int bb2), .val (.ref b169), .val (.ref r), .val (.int (1 : Int32)), .unset] [(.int (2 : Int32))])) _
        refine own_go (fun _ k => XS.iload X178.here hx rfl (hb hby at_202) rfl k) ?_
        show own_G p e below (T178.setTop (mkF m 204 #[.val (.int p1), .val (.int p2), .val (.int p3), .val (.int p4), .val (.int (2 : Int32)), .val (.int bb0), .val (.int bb1), .val (.int bb2), .val (.ref b169), .val (.ref r), .val (.int (1 : Int32)), .unset] [(.int (1 : Int32)), (.int (2 : Int32))])) _
        refine own_go (fun _ k => XS.iconst X178.here hx rfl (hb hby at_204) k) ?_
        show own_G p e below (T178.setTop (mkF m 205 #[.val (.int p1), .val (.int p2), .val (.int p3), .val (.int p4), .val (.int (2 : Int32)), .val (.int bb0), .val (.int bb1), .val (.int bb2), .val (.ref b169), .val (.ref r), .val (.int (1 : Int32)), .unset] [(.int (1 : Int32)), (.int (1 : Int32)), (.int (2 : Int32))])) _
        refine own_go (fun _ k => XS.iadd X178.here hx rfl (hb hby at_205) rfl k) ?_
        show own_G p e below (T178.setTop (mkF m 206 #[.val (.int p1), .val (.int p2), .val (.int p3), .val (.int p4), .val (.int (2 : Int32)), .val (.int bb0), .val (.int bb1), .val (.int bb2), .val (.ref b169), .val (.ref r), .val (.int (1 : Int32)), .unset] [(.int (2 : Int32)), (.int (2 : Int32))])) _
        refine own_go (fun _ k => XS.icmpYes X178.here hx rfl (pc0 := 206) (pc' := 211) rfl (hb hby at_206) rfl (teq (by decide : (2 : Int32) = (2 : Int32))).1 (by decide) (by decide) k) ?_
        show own_G p e below (T178.setTop (mkF m 211 #[.val (.int p1), .val (.int p2), .val (.int p3), .val (.int p4), .val (.int (2 : Int32)), .val (.int bb0), .val (.int bb1), .val (.int bb2), .val (.ref b169), .val (.ref r), .val (.int (1 : Int32)), .unset] [])) _
        refine own_go (fun _ k => XS.iload X178.here hx rfl (hb hby at_211) rfl k) ?_
        show own_G p e below (T178.setTop (mkF m 213 #[.val (.int p1), .val (.int p2), .val (.int p3), .val (.int p4), .val (.int (2 : Int32)), .val (.int bb0), .val (.int bb1), .val (.int bb2), .val (.ref b169), .val (.ref r), .val (.int (1 : Int32)), .unset] [(.int (1 : Int32))])) _
        refine own_go (fun _ k => XS.ifNo X178.here hx rfl (hb hby at_213) rfl ((if0 _ _).trans (tlt (by decide : (0 : Int32) < (1 : Int32))).2.2.2) k) ?_
        show own_G p e below (T178.setTop (mkF m 216 #[.val (.int p1), .val (.int p2), .val (.int p3), .val (.int p4), .val (.int (2 : Int32)), .val (.int bb0), .val (.int bb1), .val (.int bb2), .val (.ref b169), .val (.ref r), .val (.int (1 : Int32)), .unset] [])) _
        refine own_go (fun _ k => XS.aload X178.here hx rfl (hb hby at_216) rfl rfl k) ?_
        show own_G p e below (T178.setTop (mkF m 218 #[.val (.int p1), .val (.int p2), .val (.int p3), .val (.int p4), .val (.int (2 : Int32)), .val (.int bb0), .val (.int bb1), .val (.int bb2), .val (.ref b169), .val (.ref r), .val (.int (1 : Int32)), .unset] [(.ref r)])) _
        refine own_go (fun _ k => XS.iconst X178.here hx rfl (hb hby at_218) k) ?_
        show own_G p e below (T178.setTop (mkF m 219 #[.val (.int p1), .val (.int p2), .val (.int p3), .val (.int p4), .val (.int (2 : Int32)), .val (.int bb0), .val (.int bb1), .val (.int bb2), .val (.ref b169), .val (.ref r), .val (.int (1 : Int32)), .unset] [(.int (0 : Int32)), (.ref r)])) _
        obtain ⟨cl190, Ar190, q190, S190, M190, B190, G190⟩ := id Vr
        have hin190 : ¬ ((0 : Int32) < 0 ∨ cl190.slots.size ≤ ((0 : Int32)).toNatClampNeg) := inb_of S190 ⟨by decide, by decide⟩
        have hat190 : cl190.slots[((0 : Int32)).toNatClampNeg]? = some (.int bb0) := B190.at hin190 rfl
        refine own_go (X178.baloadBytes hx (j := (0 : Int32)) (v := (.int bb0)) Ar190.1 (State.isArrayOf_alike hZ.alike Ar190.2.1) Ar190.2.2 hin190 hat190 (g := (mkF m 219 #[.val (.int p1), .val (.int p2), .val (.int p3), .val (.int p4), .val (.int (2 : Int32)), .val (.int bb0), .val (.int bb1), .val (.int bb2), .val (.ref b169), .val (.ref r), .val (.int (1 : Int32)), .unset] [(.int (0 : Int32)), (.ref r)])) rfl rfl (hb hby at_219)) ?_
        show own_G p e below (T178.setTop (mkF m 220 #[.val (.int p1), .val (.int p2), .val (.int p3), .val (.int p4), .val (.int (2 : Int32)), .val (.int bb0), .val (.int bb1), .val (.int bb2), .val (.ref b169), .val (.ref r), .val (.int (1 : Int32)), .unset] [(.int bb0)])) _
        refine own_go (fun _ k => XS.iload X178.here hx rfl (hb hby at_220) rfl k) ?_
        show own_G p e below (T178.setTop (mkF m 222 #[.val (.int p1), .val (.int p2), .val (.int p3), .val (.int p4), .val (.int (2 : Int32)), .val (.int bb0), .val (.int bb1), .val (.int bb2), .val (.ref b169), .val (.ref r), .val (.int (1 : Int32)), .unset] [(.int bb0), (.int bb0)])) _
        refine own_go (fun _ k => XS.icmpYes X178.here hx rfl (pc0 := 222) (pc' := 227) rfl (hb hby at_222) rfl (teq (rfl : bb0 = bb0)).1 (by decide) (by decide) k) ?_
        show own_G p e below (T178.setTop (mkF m 227 #[.val (.int p1), .val (.int p2), .val (.int p3), .val (.int p4), .val (.int (2 : Int32)), .val (.int bb0), .val (.int bb1), .val (.int bb2), .val (.ref b169), .val (.ref r), .val (.int (1 : Int32)), .unset] [])) _
        refine own_go (fun _ k => XS.iload X178.here hx rfl (hb hby at_227) rfl k) ?_
        show own_G p e below (T178.setTop (mkF m 229 #[.val (.int p1), .val (.int p2), .val (.int p3), .val (.int p4), .val (.int (2 : Int32)), .val (.int bb0), .val (.int bb1), .val (.int bb2), .val (.ref b169), .val (.ref r), .val (.int (1 : Int32)), .unset] [(.int (1 : Int32))])) _
        refine own_go (fun _ k => XS.iconst X178.here hx rfl (hb hby at_229) k) ?_
        show own_G p e below (T178.setTop (mkF m 230 #[.val (.int p1), .val (.int p2), .val (.int p3), .val (.int p4), .val (.int (2 : Int32)), .val (.int bb0), .val (.int bb1), .val (.int bb2), .val (.ref b169), .val (.ref r), .val (.int (1 : Int32)), .unset] [(.int (1 : Int32)), (.int (1 : Int32))])) _
        refine own_go (fun _ k => XS.icmpYes X178.here hx rfl (pc0 := 230) (pc' := 244) rfl (hb hby at_230) rfl (flt (by decide : ¬ ((1 : Int32) < (1 : Int32)))).2.2.2 (by decide) (by decide) k) ?_
        show own_G p e below (T178.setTop (mkF m 244 #[.val (.int p1), .val (.int p2), .val (.int p3), .val (.int p4), .val (.int (2 : Int32)), .val (.int bb0), .val (.int bb1), .val (.int bb2), .val (.ref b169), .val (.ref r), .val (.int (1 : Int32)), .unset] [])) _
        refine own_go (fun _ k => XS.iload X178.here hx rfl (hb hby at_244) rfl k) ?_
        show own_G p e below (T178.setTop (mkF m 246 #[.val (.int p1), .val (.int p2), .val (.int p3), .val (.int p4), .val (.int (2 : Int32)), .val (.int bb0), .val (.int bb1), .val (.int bb2), .val (.ref b169), .val (.ref r), .val (.int (1 : Int32)), .unset] [(.int (1 : Int32))])) _
        refine own_go (fun _ k => XS.ifYes X178.here hx rfl (pc0 := 246) (pc' := 254) rfl (hb hby at_246) rfl ((if0 _ _).trans (feq (by decide : ¬ ((1 : Int32) = (0 : Int32)))).2) (by decide) (by decide) k) ?_
        show own_G p e below (T178.setTop (mkF m 254 #[.val (.int p1), .val (.int p2), .val (.int p3), .val (.int p4), .val (.int (2 : Int32)), .val (.int bb0), .val (.int bb1), .val (.int bb2), .val (.ref b169), .val (.ref r), .val (.int (1 : Int32)), .unset] [])) _
        refine own_go (fun _ k => XS.iload X178.here hx rfl (hb hby at_254) rfl k) ?_
        show own_G p e below (T178.setTop (mkF m 256 #[.val (.int p1), .val (.int p2), .val (.int p3), .val (.int p4), .val (.int (2 : Int32)), .val (.int bb0), .val (.int bb1), .val (.int bb2), .val (.ref b169), .val (.ref r), .val (.int (1 : Int32)), .unset] [(.int (1 : Int32))])) _
        refine own_go (fun _ k => XS.iconst X178.here hx rfl (hb hby at_256) k) ?_
        show own_G p e below (T178.setTop (mkF m 257 #[.val (.int p1), .val (.int p2), .val (.int p3), .val (.int p4), .val (.int (2 : Int32)), .val (.int bb0), .val (.int bb1), .val (.int bb2), .val (.ref b169), .val (.ref r), .val (.int (1 : Int32)), .unset] [(.int (1 : Int32)), (.int (1 : Int32))])) _
        refine own_go (fun _ k => XS.icmpNo X178.here hx rfl (hb hby at_257) rfl (teq (by decide : (1 : Int32) = (1 : Int32))).2 k) ?_
        show own_G p e below (T178.setTop (mkF m 260 #[.val (.int p1), .val (.int p2), .val (.int p3), .val (.int p4), .val (.int (2 : Int32)), .val (.int bb0), .val (.int bb1), .val (.int bb2), .val (.ref b169), .val (.ref r), .val (.int (1 : Int32)), .unset] [])) _
        refine own_go (fun _ k => XS.iload X178.here hx rfl (hb hby at_260) rfl k) ?_
        show own_G p e below (T178.setTop (mkF m 262 #[.val (.int p1), .val (.int p2), .val (.int p3), .val (.int p4), .val (.int (2 : Int32)), .val (.int bb0), .val (.int bb1), .val (.int bb2), .val (.ref b169), .val (.ref r), .val (.int (1 : Int32)), .unset] [(.int bb1)])) _
        refine own_go (fun _ k => XS.goto X178.here hx rfl (pc0 := 262) (pc' := 267) rfl (hb hby at_262) (by decide) (by decide) k) ?_
        show own_G p e below (T178.setTop (mkF m 267 #[.val (.int p1), .val (.int p2), .val (.int p3), .val (.int p4), .val (.int (2 : Int32)), .val (.int bb0), .val (.int bb1), .val (.int bb2), .val (.ref b169), .val (.ref r), .val (.int (1 : Int32)), .unset] [(.int bb1)])) _
        refine own_go (fun _ k => XS.istore X178.here hx rfl (hb hby at_267) rfl (l' := #[.val (.int p1), .val (.int p2), .val (.int p3), .val (.int p4), .val (.int (2 : Int32)), .val (.int bb0), .val (.int bb1), .val (.int bb2), .val (.ref b169), .val (.ref r), .val (.int (1 : Int32)), .val (.int bb1)]) rfl k) ?_
        show own_G p e below (T178.setTop (mkF m 269 #[.val (.int p1), .val (.int p2), .val (.int p3), .val (.int p4), .val (.int (2 : Int32)), .val (.int bb0), .val (.int bb1), .val (.int bb2), .val (.ref b169), .val (.ref r), .val (.int (1 : Int32)), .val (.int bb1)] [])) _
        refine own_go (fun _ k => XS.aload X178.here hx rfl (hb hby at_269) rfl rfl k) ?_
        show own_G p e below (T178.setTop (mkF m 271 #[.val (.int p1), .val (.int p2), .val (.int p3), .val (.int p4), .val (.int (2 : Int32)), .val (.int bb0), .val (.int bb1), .val (.int bb2), .val (.ref b169), .val (.ref r), .val (.int (1 : Int32)), .val (.int bb1)] [(.ref r)])) _
        refine own_go (fun _ k => XS.iload X178.here hx rfl (hb hby at_271) rfl k) ?_
        show own_G p e below (T178.setTop (mkF m 273 #[.val (.int p1), .val (.int p2), .val (.int p3), .val (.int p4), .val (.int (2 : Int32)), .val (.int bb0), .val (.int bb1), .val (.int bb2), .val (.ref b169), .val (.ref r), .val (.int (1 : Int32)), .val (.int bb1)] [(.int (1 : Int32)), (.ref r)])) _
        obtain ⟨cl191, Ar191, q191, S191, M191, B191, G191⟩ := id Vr
        have hin191 : ¬ ((1 : Int32) < 0 ∨ cl191.slots.size ≤ ((1 : Int32)).toNatClampNeg) := inb_of S191 ⟨by decide, by decide⟩
        have hat191 : cl191.slots[((1 : Int32)).toNatClampNeg]? = some (.int ((bb1 + (1 : Int32)).toInt8.toInt32)) := B191.at hin191 rfl
        refine own_go (X178.baloadBytes hx (j := (1 : Int32)) (v := (.int ((bb1 + (1 : Int32)).toInt8.toInt32))) Ar191.1 (State.isArrayOf_alike hZ.alike Ar191.2.1) Ar191.2.2 hin191 hat191 (g := (mkF m 273 #[.val (.int p1), .val (.int p2), .val (.int p3), .val (.int p4), .val (.int (2 : Int32)), .val (.int bb0), .val (.int bb1), .val (.int bb2), .val (.ref b169), .val (.ref r), .val (.int (1 : Int32)), .val (.int bb1)] [(.int (1 : Int32)), (.ref r)])) rfl rfl (hb hby at_273)) ?_
        show own_G p e below (T178.setTop (mkF m 274 #[.val (.int p1), .val (.int p2), .val (.int p3), .val (.int p4), .val (.int (2 : Int32)), .val (.int bb0), .val (.int bb1), .val (.int bb2), .val (.ref b169), .val (.ref r), .val (.int (1 : Int32)), .val (.int bb1)] [(.int ((bb1 + (1 : Int32)).toInt8.toInt32))])) _
        refine own_go (fun _ k => XS.iload X178.here hx rfl (hb hby at_274) rfl k) ?_
        show own_G p e below (T178.setTop (mkF m 276 #[.val (.int p1), .val (.int p2), .val (.int p3), .val (.int p4), .val (.int (2 : Int32)), .val (.int bb0), .val (.int bb1), .val (.int bb2), .val (.ref b169), .val (.ref r), .val (.int (1 : Int32)), .val (.int bb1)] [(.int bb1), (.int ((bb1 + (1 : Int32)).toInt8.toInt32))])) _
        refine own_go (fun _ k => XS.iconst X178.here hx rfl (hb hby at_276) k) ?_
        show own_G p e below (T178.setTop (mkF m 277 #[.val (.int p1), .val (.int p2), .val (.int p3), .val (.int p4), .val (.int (2 : Int32)), .val (.int bb0), .val (.int bb1), .val (.int bb2), .val (.ref b169), .val (.ref r), .val (.int (1 : Int32)), .val (.int bb1)] [(.int (1 : Int32)), (.int bb1), (.int ((bb1 + (1 : Int32)).toInt8.toInt32))])) _
        refine own_go (fun _ k => XS.iadd X178.here hx rfl (hb hby at_277) rfl k) ?_
        show own_G p e below (T178.setTop (mkF m 278 #[.val (.int p1), .val (.int p2), .val (.int p3), .val (.int p4), .val (.int (2 : Int32)), .val (.int bb0), .val (.int bb1), .val (.int bb2), .val (.ref b169), .val (.ref r), .val (.int (1 : Int32)), .val (.int bb1)] [(.int (bb1 + (1 : Int32))), (.int ((bb1 + (1 : Int32)).toInt8.toInt32))])) _
        refine own_go (fun _ k => XS.i2b X178.here hx rfl (hb hby at_278) rfl k) ?_
        show own_G p e below (T178.setTop (mkF m 279 #[.val (.int p1), .val (.int p2), .val (.int p3), .val (.int p4), .val (.int (2 : Int32)), .val (.int bb0), .val (.int bb1), .val (.int bb2), .val (.ref b169), .val (.ref r), .val (.int (1 : Int32)), .val (.int bb1)] [(.int ((bb1 + (1 : Int32)).toInt8.toInt32)), (.int ((bb1 + (1 : Int32)).toInt8.toInt32))])) _
        refine own_go (fun _ k => XS.icmpNo X178.here hx rfl (hb hby at_279) rfl (teq (rfl : ((bb1 + (1 : Int32)).toInt8.toInt32) = ((bb1 + (1 : Int32)).toInt8.toInt32))).2 k) ?_
        show own_G p e below (T178.setTop (mkF m 282 #[.val (.int p1), .val (.int p2), .val (.int p3), .val (.int p4), .val (.int (2 : Int32)), .val (.int bb0), .val (.int bb1), .val (.int bb2), .val (.ref b169), .val (.ref r), .val (.int (1 : Int32)), .val (.int bb1)] [])) _
        refine own_go (fun _ k => XS.iconst X178.here hx rfl (hb hby at_282) k) ?_
        show own_G p e below (T178.setTop (mkF m 283 #[.val (.int p1), .val (.int p2), .val (.int p3), .val (.int p4), .val (.int (2 : Int32)), .val (.int bb0), .val (.int bb1), .val (.int bb2), .val (.ref b169), .val (.ref r), .val (.int (1 : Int32)), .val (.int bb1)] [(.int (1 : Int32))])) _
        refine own_go (fun _ k => XS.goto X178.here hx rfl (pc0 := 283) (pc' := 287) rfl (hb hby at_283) (by decide) (by decide) k) ?_
        show own_G p e below (T178.setTop (mkF m 287 #[.val (.int p1), .val (.int p2), .val (.int p3), .val (.int p4), .val (.int (2 : Int32)), .val (.int bb0), .val (.int bb1), .val (.int bb2), .val (.ref b169), .val (.ref r), .val (.int (1 : Int32)), .val (.int bb1)] [(.int (1 : Int32))])) _
        refine own_ret X178 hlk (v := some (.int (1 : Int32))) (fun h => by rw [hret] at h; cases h) (Q0 Z p1 p2 p3 p4 h0 n0) (own_retI X178 hx (t := .boolean) hret rfl (Or.inl ⟨rfl, by simp, _, rfl⟩) (hb hby at_287)) (by decide) (by decide) ?_
        show Q0 Z p1 p2 p3 p4 h0 n0 _ T178.heap _
        exact ⟨rfl, N178⟩
    · refine own_go st178 ?_
      show own_G p e below (T178.setTop (mkF m 69 #[.val (.int p1), .val (.int p2), .val (.int p3), .val (.int p4), .val (.int (2 : Int32)), .val (.int bb0), .val (.int bb1), .val (.int bb2), .val (.ref b169), .unset, .unset, .unset] [(.ref r)])) _
      refine own_go (fun _ k => XS.astore X178.here hx rfl (hb hby at_69) rfl rfl (l' := #[.val (.int p1), .val (.int p2), .val (.int p3), .val (.int p4), .val (.int (2 : Int32)), .val (.int bb0), .val (.int bb1), .val (.int bb2), .val (.ref b169), .val (.ref r), .unset, .unset]) rfl k) ?_
      show own_G p e below (T178.setTop (mkF m 71 #[.val (.int p1), .val (.int p2), .val (.int p3), .val (.int p4), .val (.int (2 : Int32)), .val (.int bb0), .val (.int bb1), .val (.int bb2), .val (.ref b169), .val (.ref r), .unset, .unset] [])) _
      refine own_go (fun _ k => XS.aload X178.here hx rfl (hb hby at_71) rfl rfl k) ?_
      show own_G p e below (T178.setTop (mkF m 73 #[.val (.int p1), .val (.int p2), .val (.int p3), .val (.int p4), .val (.int (2 : Int32)), .val (.int bb0), .val (.int bb1), .val (.int bb2), .val (.ref b169), .val (.ref r), .unset, .unset] [(.ref b169)])) _
      obtain ⟨cl192, Ar192, q192, S192, M192, B192, G192⟩ := id f180
      refine own_go (X178.arraylength hx Ar192.1 (State.isArrayOf_alike hZ.alike Ar192.2.1) (g := (mkF m 73 #[.val (.int p1), .val (.int p2), .val (.int p3), .val (.int p4), .val (.int (2 : Int32)), .val (.int bb0), .val (.int bb1), .val (.int bb2), .val (.ref b169), .val (.ref r), .unset, .unset] [(.ref b169)])) rfl rfl (hb hby at_73)) ?_
      rw [len_of S192 M192]
      show own_G p e below (T178.setTop (mkF m 74 #[.val (.int p1), .val (.int p2), .val (.int p3), .val (.int p4), .val (.int (2 : Int32)), .val (.int bb0), .val (.int bb1), .val (.int bb2), .val (.ref b169), .val (.ref r), .unset, .unset] [(.int (2 : Int32))])) _
      refine own_go (fun _ k => XS.iload X178.here hx rfl (hb hby at_74) rfl k) ?_
      show own_G p e below (T178.setTop (mkF m 76 #[.val (.int p1), .val (.int p2), .val (.int p3), .val (.int p4), .val (.int (2 : Int32)), .val (.int bb0), .val (.int bb1), .val (.int bb2), .val (.ref b169), .val (.ref r), .unset, .unset] [(.int (2 : Int32)), (.int (2 : Int32))])) _
      refine own_go (fun _ k => XS.icmpYes X178.here hx rfl (pc0 := 76) (pc' := 81) rfl (hb hby at_76) rfl (teq (by decide : (2 : Int32) = (2 : Int32))).1 (by decide) (by decide) k) ?_
      show own_G p e below (T178.setTop (mkF m 81 #[.val (.int p1), .val (.int p2), .val (.int p3), .val (.int p4), .val (.int (2 : Int32)), .val (.int bb0), .val (.int bb1), .val (.int bb2), .val (.ref b169), .val (.ref r), .unset, .unset] [])) _
      refine own_go (fun _ k => XS.iload X178.here hx rfl (hb hby at_81) rfl k) ?_
      show own_G p e below (T178.setTop (mkF m 83 #[.val (.int p1), .val (.int p2), .val (.int p3), .val (.int p4), .val (.int (2 : Int32)), .val (.int bb0), .val (.int bb1), .val (.int bb2), .val (.ref b169), .val (.ref r), .unset, .unset] [(.int (2 : Int32))])) _
      refine own_go (fun _ k => XS.ifNo X178.here hx rfl (hb hby at_83) rfl ((if0 _ _).trans (tlt (by decide : (0 : Int32) < (2 : Int32))).2.2.2) k) ?_
      show own_G p e below (T178.setTop (mkF m 86 #[.val (.int p1), .val (.int p2), .val (.int p3), .val (.int p4), .val (.int (2 : Int32)), .val (.int bb0), .val (.int bb1), .val (.int bb2), .val (.ref b169), .val (.ref r), .unset, .unset] [])) _
      refine own_go (fun _ k => XS.aload X178.here hx rfl (hb hby at_86) rfl rfl k) ?_
      show own_G p e below (T178.setTop (mkF m 88 #[.val (.int p1), .val (.int p2), .val (.int p3), .val (.int p4), .val (.int (2 : Int32)), .val (.int bb0), .val (.int bb1), .val (.int bb2), .val (.ref b169), .val (.ref r), .unset, .unset] [(.ref b169)])) _
      refine own_go (fun _ k => XS.iconst X178.here hx rfl (hb hby at_88) k) ?_
      show own_G p e below (T178.setTop (mkF m 89 #[.val (.int p1), .val (.int p2), .val (.int p3), .val (.int p4), .val (.int (2 : Int32)), .val (.int bb0), .val (.int bb1), .val (.int bb2), .val (.ref b169), .val (.ref r), .unset, .unset] [(.int (0 : Int32)), (.ref b169)])) _
      obtain ⟨cl193, Ar193, q193, S193, M193, B193, G193⟩ := id f180
      have hin193 : ¬ ((0 : Int32) < 0 ∨ cl193.slots.size ≤ ((0 : Int32)).toNatClampNeg) := inb_of S193 ⟨by decide, by decide⟩
      have hat193 : cl193.slots[((0 : Int32)).toNatClampNeg]? = some (.int bb0) := B193.at hin193 rfl
      refine own_go (X178.baloadBytes hx (j := (0 : Int32)) (v := (.int bb0)) Ar193.1 (State.isArrayOf_alike hZ.alike Ar193.2.1) Ar193.2.2 hin193 hat193 (g := (mkF m 89 #[.val (.int p1), .val (.int p2), .val (.int p3), .val (.int p4), .val (.int (2 : Int32)), .val (.int bb0), .val (.int bb1), .val (.int bb2), .val (.ref b169), .val (.ref r), .unset, .unset] [(.int (0 : Int32)), (.ref b169)])) rfl rfl (hb hby at_89)) ?_
      show own_G p e below (T178.setTop (mkF m 90 #[.val (.int p1), .val (.int p2), .val (.int p3), .val (.int p4), .val (.int (2 : Int32)), .val (.int bb0), .val (.int bb1), .val (.int bb2), .val (.ref b169), .val (.ref r), .unset, .unset] [(.int bb0)])) _
      refine own_go (fun _ k => XS.iload X178.here hx rfl (hb hby at_90) rfl k) ?_
      show own_G p e below (T178.setTop (mkF m 92 #[.val (.int p1), .val (.int p2), .val (.int p3), .val (.int p4), .val (.int (2 : Int32)), .val (.int bb0), .val (.int bb1), .val (.int bb2), .val (.ref b169), .val (.ref r), .unset, .unset] [(.int bb0), (.int bb0)])) _
      refine own_go (fun _ k => XS.icmpYes X178.here hx rfl (pc0 := 92) (pc' := 97) rfl (hb hby at_92) rfl (teq (rfl : bb0 = bb0)).1 (by decide) (by decide) k) ?_
      show own_G p e below (T178.setTop (mkF m 97 #[.val (.int p1), .val (.int p2), .val (.int p3), .val (.int p4), .val (.int (2 : Int32)), .val (.int bb0), .val (.int bb1), .val (.int bb2), .val (.ref b169), .val (.ref r), .unset, .unset] [])) _
      refine own_go (fun _ k => XS.iload X178.here hx rfl (hb hby at_97) rfl k) ?_
      show own_G p e below (T178.setTop (mkF m 99 #[.val (.int p1), .val (.int p2), .val (.int p3), .val (.int p4), .val (.int (2 : Int32)), .val (.int bb0), .val (.int bb1), .val (.int bb2), .val (.ref b169), .val (.ref r), .unset, .unset] [(.int (2 : Int32))])) _
      refine own_go (fun _ k => XS.iconst X178.here hx rfl (hb hby at_99) k) ?_
      show own_G p e below (T178.setTop (mkF m 100 #[.val (.int p1), .val (.int p2), .val (.int p3), .val (.int p4), .val (.int (2 : Int32)), .val (.int bb0), .val (.int bb1), .val (.int bb2), .val (.ref b169), .val (.ref r), .unset, .unset] [(.int (1 : Int32)), (.int (2 : Int32))])) _
      refine own_go (fun _ k => XS.icmpNo X178.here hx rfl (hb hby at_100) rfl (tlt (by decide : (1 : Int32) < (2 : Int32))).2.2.2 k) ?_
      show own_G p e below (T178.setTop (mkF m 103 #[.val (.int p1), .val (.int p2), .val (.int p3), .val (.int p4), .val (.int (2 : Int32)), .val (.int bb0), .val (.int bb1), .val (.int bb2), .val (.ref b169), .val (.ref r), .unset, .unset] [])) _
      refine own_go (fun _ k => XS.aload X178.here hx rfl (hb hby at_103) rfl rfl k) ?_
      show own_G p e below (T178.setTop (mkF m 105 #[.val (.int p1), .val (.int p2), .val (.int p3), .val (.int p4), .val (.int (2 : Int32)), .val (.int bb0), .val (.int bb1), .val (.int bb2), .val (.ref b169), .val (.ref r), .unset, .unset] [(.ref b169)])) _
      refine own_go (fun _ k => XS.iconst X178.here hx rfl (hb hby at_105) k) ?_
      show own_G p e below (T178.setTop (mkF m 106 #[.val (.int p1), .val (.int p2), .val (.int p3), .val (.int p4), .val (.int (2 : Int32)), .val (.int bb0), .val (.int bb1), .val (.int bb2), .val (.ref b169), .val (.ref r), .unset, .unset] [(.int (1 : Int32)), (.ref b169)])) _
      obtain ⟨cl194, Ar194, q194, S194, M194, B194, G194⟩ := id f180
      have hin194 : ¬ ((1 : Int32) < 0 ∨ cl194.slots.size ≤ ((1 : Int32)).toNatClampNeg) := inb_of S194 ⟨by decide, by decide⟩
      have hat194 : cl194.slots[((1 : Int32)).toNatClampNeg]? = some (.int bb1) := B194.at hin194 rfl
      refine own_go (X178.baloadBytes hx (j := (1 : Int32)) (v := (.int bb1)) Ar194.1 (State.isArrayOf_alike hZ.alike Ar194.2.1) Ar194.2.2 hin194 hat194 (g := (mkF m 106 #[.val (.int p1), .val (.int p2), .val (.int p3), .val (.int p4), .val (.int (2 : Int32)), .val (.int bb0), .val (.int bb1), .val (.int bb2), .val (.ref b169), .val (.ref r), .unset, .unset] [(.int (1 : Int32)), (.ref b169)])) rfl rfl (hb hby at_106)) ?_
      show own_G p e below (T178.setTop (mkF m 107 #[.val (.int p1), .val (.int p2), .val (.int p3), .val (.int p4), .val (.int (2 : Int32)), .val (.int bb0), .val (.int bb1), .val (.int bb2), .val (.ref b169), .val (.ref r), .unset, .unset] [(.int bb1)])) _
      refine own_go (fun _ k => XS.iload X178.here hx rfl (hb hby at_107) rfl k) ?_
      show own_G p e below (T178.setTop (mkF m 109 #[.val (.int p1), .val (.int p2), .val (.int p3), .val (.int p4), .val (.int (2 : Int32)), .val (.int bb0), .val (.int bb1), .val (.int bb2), .val (.ref b169), .val (.ref r), .unset, .unset] [(.int bb1), (.int bb1)])) _
      refine own_go (fun _ k => XS.icmpYes X178.here hx rfl (pc0 := 109) (pc' := 114) rfl (hb hby at_109) rfl (teq (rfl : bb1 = bb1)).1 (by decide) (by decide) k) ?_
      show own_G p e below (T178.setTop (mkF m 114 #[.val (.int p1), .val (.int p2), .val (.int p3), .val (.int p4), .val (.int (2 : Int32)), .val (.int bb0), .val (.int bb1), .val (.int bb2), .val (.ref b169), .val (.ref r), .unset, .unset] [])) _
      refine own_go (fun _ k => XS.iload X178.here hx rfl (hb hby at_114) rfl k) ?_
      show own_G p e below (T178.setTop (mkF m 116 #[.val (.int p1), .val (.int p2), .val (.int p3), .val (.int p4), .val (.int (2 : Int32)), .val (.int bb0), .val (.int bb1), .val (.int bb2), .val (.ref b169), .val (.ref r), .unset, .unset] [(.int (2 : Int32))])) _
      refine own_go (fun _ k => XS.iconst X178.here hx rfl (hb hby at_116) k) ?_
      show own_G p e below (T178.setTop (mkF m 117 #[.val (.int p1), .val (.int p2), .val (.int p3), .val (.int p4), .val (.int (2 : Int32)), .val (.int bb0), .val (.int bb1), .val (.int bb2), .val (.ref b169), .val (.ref r), .unset, .unset] [(.int (2 : Int32)), (.int (2 : Int32))])) _
      refine own_go (fun _ k => XS.icmpYes X178.here hx rfl (pc0 := 117) (pc' := 131) rfl (hb hby at_117) rfl (flt (by decide : ¬ ((2 : Int32) < (2 : Int32)))).2.2.2 (by decide) (by decide) k) ?_
      show own_G p e below (T178.setTop (mkF m 131 #[.val (.int p1), .val (.int p2), .val (.int p3), .val (.int p4), .val (.int (2 : Int32)), .val (.int bb0), .val (.int bb1), .val (.int bb2), .val (.ref b169), .val (.ref r), .unset, .unset] [])) _
      refine own_go (fun _ k => XS.iconst X178.here hx rfl (hb hby at_131) k) ?_
      show own_G p e below (T178.setTop (mkF m 132 #[.val (.int p1), .val (.int p2), .val (.int p3), .val (.int p4), .val (.int (2 : Int32)), .val (.int bb0), .val (.int bb1), .val (.int bb2), .val (.ref b169), .val (.ref r), .unset, .unset] [(.int (-1 : Int32))])) _
      refine own_go (fun _ k => XS.istore X178.here hx rfl (hb hby at_132) rfl (l' := #[.val (.int p1), .val (.int p2), .val (.int p3), .val (.int p4), .val (.int (2 : Int32)), .val (.int bb0), .val (.int bb1), .val (.int bb2), .val (.ref b169), .val (.ref r), .val (.int (-1 : Int32)), .unset]) rfl k) ?_
      show own_G p e below (T178.setTop (mkF m 134 #[.val (.int p1), .val (.int p2), .val (.int p3), .val (.int p4), .val (.int (2 : Int32)), .val (.int bb0), .val (.int bb1), .val (.int bb2), .val (.ref b169), .val (.ref r), .val (.int (-1 : Int32)), .unset] [])) _
      refine own_go (fun _ k => XS.iload X178.here hx rfl (hb hby at_134) rfl k) ?_
      show own_G p e below (T178.setTop (mkF m 136 #[.val (.int p1), .val (.int p2), .val (.int p3), .val (.int p4), .val (.int (2 : Int32)), .val (.int bb0), .val (.int bb1), .val (.int bb2), .val (.ref b169), .val (.ref r), .val (.int (-1 : Int32)), .unset] [(.int (2 : Int32))])) _
      refine own_go (fun _ k => XS.ifNo X178.here hx rfl (hb hby at_136) rfl ((if0 _ _).trans (tlt (by decide : (0 : Int32) < (2 : Int32))).2.2.2) k) ?_
      show own_G p e below (T178.setTop (mkF m 139 #[.val (.int p1), .val (.int p2), .val (.int p3), .val (.int p4), .val (.int (2 : Int32)), .val (.int bb0), .val (.int bb1), .val (.int bb2), .val (.ref b169), .val (.ref r), .val (.int (-1 : Int32)), .unset] [])) _
      refine own_go (fun _ k => XS.iload X178.here hx rfl (hb hby at_139) rfl k) ?_
      show own_G p e below (T178.setTop (mkF m 141 #[.val (.int p1), .val (.int p2), .val (.int p3), .val (.int p4), .val (.int (2 : Int32)), .val (.int bb0), .val (.int bb1), .val (.int bb2), .val (.ref b169), .val (.ref r), .val (.int (-1 : Int32)), .unset] [(.int bb0)])) _
      refine own_go (fun _ k => XS.iconst X178.here hx rfl (hb hby at_141) k) ?_
      show own_G p e below (T178.setTop (mkF m 142 #[.val (.int p1), .val (.int p2), .val (.int p3), .val (.int p4), .val (.int (2 : Int32)), .val (.int bb0), .val (.int bb1), .val (.int bb2), .val (.ref b169), .val (.ref r), .val (.int (-1 : Int32)), .unset] [(.int (-1 : Int32)), (.int bb0)])) _
      refine own_go (fun _ k => XS.icmpNo X178.here hx rfl (hb hby at_142) rfl (feq c0).1 k) ?_
      show own_G p e below (T178.setTop (mkF m 145 #[.val (.int p1), .val (.int p2), .val (.int p3), .val (.int p4), .val (.int (2 : Int32)), .val (.int bb0), .val (.int bb1), .val (.int bb2), .val (.ref b169), .val (.ref r), .val (.int (-1 : Int32)), .unset] [])) _
      refine own_go (fun _ k => XS.iconst X178.here hx rfl (hb hby at_145) k) ?_
      show own_G p e below (T178.setTop (mkF m 146 #[.val (.int p1), .val (.int p2), .val (.int p3), .val (.int p4), .val (.int (2 : Int32)), .val (.int bb0), .val (.int bb1), .val (.int bb2), .val (.ref b169), .val (.ref r), .val (.int (-1 : Int32)), .unset] [(.int (0 : Int32))])) _
      refine own_go (fun _ k => XS.istore X178.here hx rfl (hb hby at_146) rfl (l' := #[.val (.int p1), .val (.int p2), .val (.int p3), .val (.int p4), .val (.int (2 : Int32)), .val (.int bb0), .val (.int bb1), .val (.int bb2), .val (.ref b169), .val (.ref r), .val (.int (0 : Int32)), .unset]) rfl k) ?_
      show own_G p e below (T178.setTop (mkF m 148 #[.val (.int p1), .val (.int p2), .val (.int p3), .val (.int p4), .val (.int (2 : Int32)), .val (.int bb0), .val (.int bb1), .val (.int bb2), .val (.ref b169), .val (.ref r), .val (.int (0 : Int32)), .unset] [])) _
      refine own_go (fun _ k => XS.iload X178.here hx rfl (hb hby at_148) rfl k) ?_
      show own_G p e below (T178.setTop (mkF m 150 #[.val (.int p1), .val (.int p2), .val (.int p3), .val (.int p4), .val (.int (2 : Int32)), .val (.int bb0), .val (.int bb1), .val (.int bb2), .val (.ref b169), .val (.ref r), .val (.int (0 : Int32)), .unset] [(.int (2 : Int32))])) _
      refine own_go (fun _ k => XS.iconst X178.here hx rfl (hb hby at_150) k) ?_
      show own_G p e below (T178.setTop (mkF m 151 #[.val (.int p1), .val (.int p2), .val (.int p3), .val (.int p4), .val (.int (2 : Int32)), .val (.int bb0), .val (.int bb1), .val (.int bb2), .val (.ref b169), .val (.ref r), .val (.int (0 : Int32)), .unset] [(.int (1 : Int32)), (.int (2 : Int32))])) _
      refine own_go (fun _ k => XS.icmpNo X178.here hx rfl (hb hby at_151) rfl (tlt (by decide : (1 : Int32) < (2 : Int32))).2.2.2 k) ?_
      show own_G p e below (T178.setTop (mkF m 154 #[.val (.int p1), .val (.int p2), .val (.int p3), .val (.int p4), .val (.int (2 : Int32)), .val (.int bb0), .val (.int bb1), .val (.int bb2), .val (.ref b169), .val (.ref r), .val (.int (0 : Int32)), .unset] [])) _
      refine own_go (fun _ k => XS.iload X178.here hx rfl (hb hby at_154) rfl k) ?_
      show own_G p e below (T178.setTop (mkF m 156 #[.val (.int p1), .val (.int p2), .val (.int p3), .val (.int p4), .val (.int (2 : Int32)), .val (.int bb0), .val (.int bb1), .val (.int bb2), .val (.ref b169), .val (.ref r), .val (.int (0 : Int32)), .unset] [(.int bb1)])) _
      refine own_go (fun _ k => XS.iconst X178.here hx rfl (hb hby at_156) k) ?_
      show own_G p e below (T178.setTop (mkF m 157 #[.val (.int p1), .val (.int p2), .val (.int p3), .val (.int p4), .val (.int (2 : Int32)), .val (.int bb0), .val (.int bb1), .val (.int bb2), .val (.ref b169), .val (.ref r), .val (.int (0 : Int32)), .unset] [(.int (-1 : Int32)), (.int bb1)])) _
      refine own_go (fun _ k => XS.icmpYes X178.here hx rfl (pc0 := 157) (pc' := 163) rfl (hb hby at_157) rfl (teq c1).1 (by decide) (by decide) k) ?_
      show own_G p e below (T178.setTop (mkF m 163 #[.val (.int p1), .val (.int p2), .val (.int p3), .val (.int p4), .val (.int (2 : Int32)), .val (.int bb0), .val (.int bb1), .val (.int bb2), .val (.ref b169), .val (.ref r), .val (.int (0 : Int32)), .unset] [])) _
      refine own_go (fun _ k => XS.iload X178.here hx rfl (hb hby at_163) rfl k) ?_
      show own_G p e below (T178.setTop (mkF m 165 #[.val (.int p1), .val (.int p2), .val (.int p3), .val (.int p4), .val (.int (2 : Int32)), .val (.int bb0), .val (.int bb1), .val (.int bb2), .val (.ref b169), .val (.ref r), .val (.int (0 : Int32)), .unset] [(.int (2 : Int32))])) _
      refine own_go (fun _ k => XS.iconst X178.here hx rfl (hb hby at_165) k) ?_
      show own_G p e below (T178.setTop (mkF m 166 #[.val (.int p1), .val (.int p2), .val (.int p3), .val (.int p4), .val (.int (2 : Int32)), .val (.int bb0), .val (.int bb1), .val (.int bb2), .val (.ref b169), .val (.ref r), .val (.int (0 : Int32)), .unset] [(.int (2 : Int32)), (.int (2 : Int32))])) _
      refine own_go (fun _ k => XS.icmpYes X178.here hx rfl (pc0 := 166) (pc' := 178) rfl (hb hby at_166) rfl (flt (by decide : ¬ ((2 : Int32) < (2 : Int32)))).2.2.2 (by decide) (by decide) k) ?_
      show own_G p e below (T178.setTop (mkF m 178 #[.val (.int p1), .val (.int p2), .val (.int p3), .val (.int p4), .val (.int (2 : Int32)), .val (.int bb0), .val (.int bb1), .val (.int bb2), .val (.ref b169), .val (.ref r), .val (.int (0 : Int32)), .unset] [])) _
      refine own_go (fun _ k => XS.iload X178.here hx rfl (hb hby at_178) rfl k) ?_
      show own_G p e below (T178.setTop (mkF m 180 #[.val (.int p1), .val (.int p2), .val (.int p3), .val (.int p4), .val (.int (2 : Int32)), .val (.int bb0), .val (.int bb1), .val (.int bb2), .val (.ref b169), .val (.ref r), .val (.int (0 : Int32)), .unset] [(.int (0 : Int32))])) _
      refine own_go (fun _ k => XS.ifYes X178.here hx rfl (pc0 := 180) (pc' := 194) rfl (hb hby at_180) rfl ((if0 _ _).trans (flt (by decide : ¬ ((0 : Int32) < (0 : Int32)))).2.1) (by decide) (by decide) k) ?_
      show own_G p e below (T178.setTop (mkF m 194 #[.val (.int p1), .val (.int p2), .val (.int p3), .val (.int p4), .val (.int (2 : Int32)), .val (.int bb0), .val (.int bb1), .val (.int bb2), .val (.ref b169), .val (.ref r), .val (.int (0 : Int32)), .unset] [])) _
      refine own_go (fun _ k => XS.aload X178.here hx rfl (hb hby at_194) rfl rfl k) ?_
      show own_G p e below (T178.setTop (mkF m 196 #[.val (.int p1), .val (.int p2), .val (.int p3), .val (.int p4), .val (.int (2 : Int32)), .val (.int bb0), .val (.int bb1), .val (.int bb2), .val (.ref b169), .val (.ref r), .val (.int (0 : Int32)), .unset] [(.ref r)])) _
      refine own_go (fun _ k => XS.ifnullNo X178.here hx rfl (hb hby at_196) rfl k) ?_
      show own_G p e below (T178.setTop (mkF m 199 #[.val (.int p1), .val (.int p2), .val (.int p3), .val (.int p4), .val (.int (2 : Int32)), .val (.int bb0), .val (.int bb1), .val (.int bb2), .val (.ref b169), .val (.ref r), .val (.int (0 : Int32)), .unset] [])) _
      refine own_go (fun _ k => XS.aload X178.here hx rfl (hb hby at_199) rfl rfl k) ?_
      show own_G p e below (T178.setTop (mkF m 201 #[.val (.int p1), .val (.int p2), .val (.int p3), .val (.int p4), .val (.int (2 : Int32)), .val (.int bb0), .val (.int bb1), .val (.int bb2), .val (.ref b169), .val (.ref r), .val (.int (0 : Int32)), .unset] [(.ref r)])) _
      obtain ⟨cl195, Ar195, q195, S195, M195, B195, G195⟩ := id Vr
      refine own_go (X178.arraylength hx Ar195.1 (State.isArrayOf_alike hZ.alike Ar195.2.1) (g := (mkF m 201 #[.val (.int p1), .val (.int p2), .val (.int p3), .val (.int p4), .val (.int (2 : Int32)), .val (.int bb0), .val (.int bb1), .val (.int bb2), .val (.ref b169), .val (.ref r), .val (.int (0 : Int32)), .unset] [(.ref r)])) rfl rfl (hb hby at_201)) ?_
      rw [len_of S195 M195]
      show own_G p e below (T178.setTop (mkF m 202 #[.val (.int p1), .val (.int p2), .val (.int p3), .val (.int p4), .val (.int (2 : Int32)), .val (.int bb0), .val (.int bb1), .val (.int bb2), .val (.ref b169), .val (.ref r), .val (.int (0 : Int32)), .unset] [(.int (1 : Int32))])) _
      refine own_go (fun _ k => XS.iload X178.here hx rfl (hb hby at_202) rfl k) ?_
      show own_G p e below (T178.setTop (mkF m 204 #[.val (.int p1), .val (.int p2), .val (.int p3), .val (.int p4), .val (.int (2 : Int32)), .val (.int bb0), .val (.int bb1), .val (.int bb2), .val (.ref b169), .val (.ref r), .val (.int (0 : Int32)), .unset] [(.int (0 : Int32)), (.int (1 : Int32))])) _
      refine own_go (fun _ k => XS.iconst X178.here hx rfl (hb hby at_204) k) ?_
      show own_G p e below (T178.setTop (mkF m 205 #[.val (.int p1), .val (.int p2), .val (.int p3), .val (.int p4), .val (.int (2 : Int32)), .val (.int bb0), .val (.int bb1), .val (.int bb2), .val (.ref b169), .val (.ref r), .val (.int (0 : Int32)), .unset] [(.int (1 : Int32)), (.int (0 : Int32)), (.int (1 : Int32))])) _
      refine own_go (fun _ k => XS.iadd X178.here hx rfl (hb hby at_205) rfl k) ?_
      show own_G p e below (T178.setTop (mkF m 206 #[.val (.int p1), .val (.int p2), .val (.int p3), .val (.int p4), .val (.int (2 : Int32)), .val (.int bb0), .val (.int bb1), .val (.int bb2), .val (.ref b169), .val (.ref r), .val (.int (0 : Int32)), .unset] [(.int (1 : Int32)), (.int (1 : Int32))])) _
      refine own_go (fun _ k => XS.icmpYes X178.here hx rfl (pc0 := 206) (pc' := 211) rfl (hb hby at_206) rfl (teq (by decide : (1 : Int32) = (1 : Int32))).1 (by decide) (by decide) k) ?_
      show own_G p e below (T178.setTop (mkF m 211 #[.val (.int p1), .val (.int p2), .val (.int p3), .val (.int p4), .val (.int (2 : Int32)), .val (.int bb0), .val (.int bb1), .val (.int bb2), .val (.ref b169), .val (.ref r), .val (.int (0 : Int32)), .unset] [])) _
      refine own_go (fun _ k => XS.iload X178.here hx rfl (hb hby at_211) rfl k) ?_
      show own_G p e below (T178.setTop (mkF m 213 #[.val (.int p1), .val (.int p2), .val (.int p3), .val (.int p4), .val (.int (2 : Int32)), .val (.int bb0), .val (.int bb1), .val (.int bb2), .val (.ref b169), .val (.ref r), .val (.int (0 : Int32)), .unset] [(.int (0 : Int32))])) _
      refine own_go (fun _ k => XS.ifYes X178.here hx rfl (pc0 := 213) (pc' := 227) rfl (hb hby at_213) rfl ((if0 _ _).trans (flt (by decide : ¬ ((0 : Int32) < (0 : Int32)))).2.2.2) (by decide) (by decide) k) ?_
      show own_G p e below (T178.setTop (mkF m 227 #[.val (.int p1), .val (.int p2), .val (.int p3), .val (.int p4), .val (.int (2 : Int32)), .val (.int bb0), .val (.int bb1), .val (.int bb2), .val (.ref b169), .val (.ref r), .val (.int (0 : Int32)), .unset] [])) _
      refine own_go (fun _ k => XS.iload X178.here hx rfl (hb hby at_227) rfl k) ?_
      show own_G p e below (T178.setTop (mkF m 229 #[.val (.int p1), .val (.int p2), .val (.int p3), .val (.int p4), .val (.int (2 : Int32)), .val (.int bb0), .val (.int bb1), .val (.int bb2), .val (.ref b169), .val (.ref r), .val (.int (0 : Int32)), .unset] [(.int (0 : Int32))])) _
      refine own_go (fun _ k => XS.iconst X178.here hx rfl (hb hby at_229) k) ?_
      show own_G p e below (T178.setTop (mkF m 230 #[.val (.int p1), .val (.int p2), .val (.int p3), .val (.int p4), .val (.int (2 : Int32)), .val (.int bb0), .val (.int bb1), .val (.int bb2), .val (.ref b169), .val (.ref r), .val (.int (0 : Int32)), .unset] [(.int (1 : Int32)), (.int (0 : Int32))])) _
      refine own_go (fun _ k => XS.icmpYes X178.here hx rfl (pc0 := 230) (pc' := 244) rfl (hb hby at_230) rfl (flt (by decide : ¬ ((1 : Int32) < (0 : Int32)))).2.2.2 (by decide) (by decide) k) ?_
      show own_G p e below (T178.setTop (mkF m 244 #[.val (.int p1), .val (.int p2), .val (.int p3), .val (.int p4), .val (.int (2 : Int32)), .val (.int bb0), .val (.int bb1), .val (.int bb2), .val (.ref b169), .val (.ref r), .val (.int (0 : Int32)), .unset] [])) _
      refine own_go (fun _ k => XS.iload X178.here hx rfl (hb hby at_244) rfl k) ?_
      show own_G p e below (T178.setTop (mkF m 246 #[.val (.int p1), .val (.int p2), .val (.int p3), .val (.int p4), .val (.int (2 : Int32)), .val (.int bb0), .val (.int bb1), .val (.int bb2), .val (.ref b169), .val (.ref r), .val (.int (0 : Int32)), .unset] [(.int (0 : Int32))])) _
      refine own_go (fun _ k => XS.ifNo X178.here hx rfl (hb hby at_246) rfl ((if0 _ _).trans (teq (by decide : (0 : Int32) = (0 : Int32))).2) k) ?_
      show own_G p e below (T178.setTop (mkF m 249 #[.val (.int p1), .val (.int p2), .val (.int p3), .val (.int p4), .val (.int (2 : Int32)), .val (.int bb0), .val (.int bb1), .val (.int bb2), .val (.ref b169), .val (.ref r), .val (.int (0 : Int32)), .unset] [])) _
      refine own_go (fun _ k => XS.iload X178.here hx rfl (hb hby at_249) rfl k) ?_
      show own_G p e below (T178.setTop (mkF m 251 #[.val (.int p1), .val (.int p2), .val (.int p3), .val (.int p4), .val (.int (2 : Int32)), .val (.int bb0), .val (.int bb1), .val (.int bb2), .val (.ref b169), .val (.ref r), .val (.int (0 : Int32)), .unset] [(.int bb0)])) _
      refine own_go (fun _ k => XS.goto X178.here hx rfl (pc0 := 251) (pc' := 267) rfl (hb hby at_251) (by decide) (by decide) k) ?_
      show own_G p e below (T178.setTop (mkF m 267 #[.val (.int p1), .val (.int p2), .val (.int p3), .val (.int p4), .val (.int (2 : Int32)), .val (.int bb0), .val (.int bb1), .val (.int bb2), .val (.ref b169), .val (.ref r), .val (.int (0 : Int32)), .unset] [(.int bb0)])) _
      refine own_go (fun _ k => XS.istore X178.here hx rfl (hb hby at_267) rfl (l' := #[.val (.int p1), .val (.int p2), .val (.int p3), .val (.int p4), .val (.int (2 : Int32)), .val (.int bb0), .val (.int bb1), .val (.int bb2), .val (.ref b169), .val (.ref r), .val (.int (0 : Int32)), .val (.int bb0)]) rfl k) ?_
      show own_G p e below (T178.setTop (mkF m 269 #[.val (.int p1), .val (.int p2), .val (.int p3), .val (.int p4), .val (.int (2 : Int32)), .val (.int bb0), .val (.int bb1), .val (.int bb2), .val (.ref b169), .val (.ref r), .val (.int (0 : Int32)), .val (.int bb0)] [])) _
      refine own_go (fun _ k => XS.aload X178.here hx rfl (hb hby at_269) rfl rfl k) ?_
      show own_G p e below (T178.setTop (mkF m 271 #[.val (.int p1), .val (.int p2), .val (.int p3), .val (.int p4), .val (.int (2 : Int32)), .val (.int bb0), .val (.int bb1), .val (.int bb2), .val (.ref b169), .val (.ref r), .val (.int (0 : Int32)), .val (.int bb0)] [(.ref r)])) _
      refine own_go (fun _ k => XS.iload X178.here hx rfl (hb hby at_271) rfl k) ?_
      show own_G p e below (T178.setTop (mkF m 273 #[.val (.int p1), .val (.int p2), .val (.int p3), .val (.int p4), .val (.int (2 : Int32)), .val (.int bb0), .val (.int bb1), .val (.int bb2), .val (.ref b169), .val (.ref r), .val (.int (0 : Int32)), .val (.int bb0)] [(.int (0 : Int32)), (.ref r)])) _
      obtain ⟨cl196, Ar196, q196, S196, M196, B196, G196⟩ := id Vr
      have hin196 : ¬ ((0 : Int32) < 0 ∨ cl196.slots.size ≤ ((0 : Int32)).toNatClampNeg) := inb_of S196 ⟨by decide, by decide⟩
      have hat196 : cl196.slots[((0 : Int32)).toNatClampNeg]? = some (.int ((bb0 + (1 : Int32)).toInt8.toInt32)) := B196.at hin196 rfl
      refine own_go (X178.baloadBytes hx (j := (0 : Int32)) (v := (.int ((bb0 + (1 : Int32)).toInt8.toInt32))) Ar196.1 (State.isArrayOf_alike hZ.alike Ar196.2.1) Ar196.2.2 hin196 hat196 (g := (mkF m 273 #[.val (.int p1), .val (.int p2), .val (.int p3), .val (.int p4), .val (.int (2 : Int32)), .val (.int bb0), .val (.int bb1), .val (.int bb2), .val (.ref b169), .val (.ref r), .val (.int (0 : Int32)), .val (.int bb0)] [(.int (0 : Int32)), (.ref r)])) rfl rfl (hb hby at_273)) ?_
      show own_G p e below (T178.setTop (mkF m 274 #[.val (.int p1), .val (.int p2), .val (.int p3), .val (.int p4), .val (.int (2 : Int32)), .val (.int bb0), .val (.int bb1), .val (.int bb2), .val (.ref b169), .val (.ref r), .val (.int (0 : Int32)), .val (.int bb0)] [(.int ((bb0 + (1 : Int32)).toInt8.toInt32))])) _
      refine own_go (fun _ k => XS.iload X178.here hx rfl (hb hby at_274) rfl k) ?_
      show own_G p e below (T178.setTop (mkF m 276 #[.val (.int p1), .val (.int p2), .val (.int p3), .val (.int p4), .val (.int (2 : Int32)), .val (.int bb0), .val (.int bb1), .val (.int bb2), .val (.ref b169), .val (.ref r), .val (.int (0 : Int32)), .val (.int bb0)] [(.int bb0), (.int ((bb0 + (1 : Int32)).toInt8.toInt32))])) _
      refine own_go (fun _ k => XS.iconst X178.here hx rfl (hb hby at_276) k) ?_
      show own_G p e below (T178.setTop (mkF m 277 #[.val (.int p1), .val (.int p2), .val (.int p3), .val (.int p4), .val (.int (2 : Int32)), .val (.int bb0), .val (.int bb1), .val (.int bb2), .val (.ref b169), .val (.ref r), .val (.int (0 : Int32)), .val (.int bb0)] [(.int (1 : Int32)), (.int bb0), (.int ((bb0 + (1 : Int32)).toInt8.toInt32))])) _
      refine own_go (fun _ k => XS.iadd X178.here hx rfl (hb hby at_277) rfl k) ?_
      show own_G p e below (T178.setTop (mkF m 278 #[.val (.int p1), .val (.int p2), .val (.int p3), .val (.int p4), .val (.int (2 : Int32)), .val (.int bb0), .val (.int bb1), .val (.int bb2), .val (.ref b169), .val (.ref r), .val (.int (0 : Int32)), .val (.int bb0)] [(.int (bb0 + (1 : Int32))), (.int ((bb0 + (1 : Int32)).toInt8.toInt32))])) _
      refine own_go (fun _ k => XS.i2b X178.here hx rfl (hb hby at_278) rfl k) ?_
      show own_G p e below (T178.setTop (mkF m 279 #[.val (.int p1), .val (.int p2), .val (.int p3), .val (.int p4), .val (.int (2 : Int32)), .val (.int bb0), .val (.int bb1), .val (.int bb2), .val (.ref b169), .val (.ref r), .val (.int (0 : Int32)), .val (.int bb0)] [(.int ((bb0 + (1 : Int32)).toInt8.toInt32)), (.int ((bb0 + (1 : Int32)).toInt8.toInt32))])) _
      refine own_go (fun _ k => XS.icmpNo X178.here hx rfl (hb hby at_279) rfl (teq (rfl : ((bb0 + (1 : Int32)).toInt8.toInt32) = ((bb0 + (1 : Int32)).toInt8.toInt32))).2 k) ?_
      show own_G p e below (T178.setTop (mkF m 282 #[.val (.int p1), .val (.int p2), .val (.int p3), .val (.int p4), .val (.int (2 : Int32)), .val (.int bb0), .val (.int bb1), .val (.int bb2), .val (.ref b169), .val (.ref r), .val (.int (0 : Int32)), .val (.int bb0)] [])) _
      refine own_go (fun _ k => XS.iconst X178.here hx rfl (hb hby at_282) k) ?_
      show own_G p e below (T178.setTop (mkF m 283 #[.val (.int p1), .val (.int p2), .val (.int p3), .val (.int p4), .val (.int (2 : Int32)), .val (.int bb0), .val (.int bb1), .val (.int bb2), .val (.ref b169), .val (.ref r), .val (.int (0 : Int32)), .val (.int bb0)] [(.int (1 : Int32))])) _
      refine own_go (fun _ k => XS.goto X178.here hx rfl (pc0 := 283) (pc' := 287) rfl (hb hby at_283) (by decide) (by decide) k) ?_
      show own_G p e below (T178.setTop (mkF m 287 #[.val (.int p1), .val (.int p2), .val (.int p3), .val (.int p4), .val (.int (2 : Int32)), .val (.int bb0), .val (.int bb1), .val (.int bb2), .val (.ref b169), .val (.ref r), .val (.int (0 : Int32)), .val (.int bb0)] [(.int (1 : Int32))])) _
      refine own_ret X178 hlk (v := some (.int (1 : Int32))) (fun h => by rw [hret] at h; cases h) (Q0 Z p1 p2 p3 p4 h0 n0) (own_retI X178 hx (t := .boolean) hret rfl (Or.inl ⟨rfl, by simp, _, rfl⟩) (hb hby at_287)) (by decide) (by decide) ?_
      show Q0 Z p1 p2 p3 p4 h0 n0 _ T178.heap _
      exact ⟨rfl, N178⟩
    · refine own_go st178 ?_
      show own_G p e below (T178.setTop (mkF m 69 #[.val (.int p1), .val (.int p2), .val (.int p3), .val (.int p4), .val (.int (2 : Int32)), .val (.int bb0), .val (.int bb1), .val (.int bb2), .val (.ref b169), .unset, .unset, .unset] [.null])) _
      refine own_go (fun _ k => XS.astore X178.here hx rfl (hb hby at_69) rfl rfl (l' := #[.val (.int p1), .val (.int p2), .val (.int p3), .val (.int p4), .val (.int (2 : Int32)), .val (.int bb0), .val (.int bb1), .val (.int bb2), .val (.ref b169), .val .null, .unset, .unset]) rfl k) ?_
      show own_G p e below (T178.setTop (mkF m 71 #[.val (.int p1), .val (.int p2), .val (.int p3), .val (.int p4), .val (.int (2 : Int32)), .val (.int bb0), .val (.int bb1), .val (.int bb2), .val (.ref b169), .val .null, .unset, .unset] [])) _
      refine own_go (fun _ k => XS.aload X178.here hx rfl (hb hby at_71) rfl rfl k) ?_
      show own_G p e below (T178.setTop (mkF m 73 #[.val (.int p1), .val (.int p2), .val (.int p3), .val (.int p4), .val (.int (2 : Int32)), .val (.int bb0), .val (.int bb1), .val (.int bb2), .val (.ref b169), .val .null, .unset, .unset] [(.ref b169)])) _
      obtain ⟨cl197, Ar197, q197, S197, M197, B197, G197⟩ := id f180
      refine own_go (X178.arraylength hx Ar197.1 (State.isArrayOf_alike hZ.alike Ar197.2.1) (g := (mkF m 73 #[.val (.int p1), .val (.int p2), .val (.int p3), .val (.int p4), .val (.int (2 : Int32)), .val (.int bb0), .val (.int bb1), .val (.int bb2), .val (.ref b169), .val .null, .unset, .unset] [(.ref b169)])) rfl rfl (hb hby at_73)) ?_
      rw [len_of S197 M197]
      show own_G p e below (T178.setTop (mkF m 74 #[.val (.int p1), .val (.int p2), .val (.int p3), .val (.int p4), .val (.int (2 : Int32)), .val (.int bb0), .val (.int bb1), .val (.int bb2), .val (.ref b169), .val .null, .unset, .unset] [(.int (2 : Int32))])) _
      refine own_go (fun _ k => XS.iload X178.here hx rfl (hb hby at_74) rfl k) ?_
      show own_G p e below (T178.setTop (mkF m 76 #[.val (.int p1), .val (.int p2), .val (.int p3), .val (.int p4), .val (.int (2 : Int32)), .val (.int bb0), .val (.int bb1), .val (.int bb2), .val (.ref b169), .val .null, .unset, .unset] [(.int (2 : Int32)), (.int (2 : Int32))])) _
      refine own_go (fun _ k => XS.icmpYes X178.here hx rfl (pc0 := 76) (pc' := 81) rfl (hb hby at_76) rfl (teq (by decide : (2 : Int32) = (2 : Int32))).1 (by decide) (by decide) k) ?_
      show own_G p e below (T178.setTop (mkF m 81 #[.val (.int p1), .val (.int p2), .val (.int p3), .val (.int p4), .val (.int (2 : Int32)), .val (.int bb0), .val (.int bb1), .val (.int bb2), .val (.ref b169), .val .null, .unset, .unset] [])) _
      refine own_go (fun _ k => XS.iload X178.here hx rfl (hb hby at_81) rfl k) ?_
      show own_G p e below (T178.setTop (mkF m 83 #[.val (.int p1), .val (.int p2), .val (.int p3), .val (.int p4), .val (.int (2 : Int32)), .val (.int bb0), .val (.int bb1), .val (.int bb2), .val (.ref b169), .val .null, .unset, .unset] [(.int (2 : Int32))])) _
      refine own_go (fun _ k => XS.ifNo X178.here hx rfl (hb hby at_83) rfl ((if0 _ _).trans (tlt (by decide : (0 : Int32) < (2 : Int32))).2.2.2) k) ?_
      show own_G p e below (T178.setTop (mkF m 86 #[.val (.int p1), .val (.int p2), .val (.int p3), .val (.int p4), .val (.int (2 : Int32)), .val (.int bb0), .val (.int bb1), .val (.int bb2), .val (.ref b169), .val .null, .unset, .unset] [])) _
      refine own_go (fun _ k => XS.aload X178.here hx rfl (hb hby at_86) rfl rfl k) ?_
      show own_G p e below (T178.setTop (mkF m 88 #[.val (.int p1), .val (.int p2), .val (.int p3), .val (.int p4), .val (.int (2 : Int32)), .val (.int bb0), .val (.int bb1), .val (.int bb2), .val (.ref b169), .val .null, .unset, .unset] [(.ref b169)])) _
      refine own_go (fun _ k => XS.iconst X178.here hx rfl (hb hby at_88) k) ?_
      show own_G p e below (T178.setTop (mkF m 89 #[.val (.int p1), .val (.int p2), .val (.int p3), .val (.int p4), .val (.int (2 : Int32)), .val (.int bb0), .val (.int bb1), .val (.int bb2), .val (.ref b169), .val .null, .unset, .unset] [(.int (0 : Int32)), (.ref b169)])) _
      obtain ⟨cl198, Ar198, q198, S198, M198, B198, G198⟩ := id f180
      have hin198 : ¬ ((0 : Int32) < 0 ∨ cl198.slots.size ≤ ((0 : Int32)).toNatClampNeg) := inb_of S198 ⟨by decide, by decide⟩
      have hat198 : cl198.slots[((0 : Int32)).toNatClampNeg]? = some (.int bb0) := B198.at hin198 rfl
      refine own_go (X178.baloadBytes hx (j := (0 : Int32)) (v := (.int bb0)) Ar198.1 (State.isArrayOf_alike hZ.alike Ar198.2.1) Ar198.2.2 hin198 hat198 (g := (mkF m 89 #[.val (.int p1), .val (.int p2), .val (.int p3), .val (.int p4), .val (.int (2 : Int32)), .val (.int bb0), .val (.int bb1), .val (.int bb2), .val (.ref b169), .val .null, .unset, .unset] [(.int (0 : Int32)), (.ref b169)])) rfl rfl (hb hby at_89)) ?_
      show own_G p e below (T178.setTop (mkF m 90 #[.val (.int p1), .val (.int p2), .val (.int p3), .val (.int p4), .val (.int (2 : Int32)), .val (.int bb0), .val (.int bb1), .val (.int bb2), .val (.ref b169), .val .null, .unset, .unset] [(.int bb0)])) _
      refine own_go (fun _ k => XS.iload X178.here hx rfl (hb hby at_90) rfl k) ?_
      show own_G p e below (T178.setTop (mkF m 92 #[.val (.int p1), .val (.int p2), .val (.int p3), .val (.int p4), .val (.int (2 : Int32)), .val (.int bb0), .val (.int bb1), .val (.int bb2), .val (.ref b169), .val .null, .unset, .unset] [(.int bb0), (.int bb0)])) _
      refine own_go (fun _ k => XS.icmpYes X178.here hx rfl (pc0 := 92) (pc' := 97) rfl (hb hby at_92) rfl (teq (rfl : bb0 = bb0)).1 (by decide) (by decide) k) ?_
      show own_G p e below (T178.setTop (mkF m 97 #[.val (.int p1), .val (.int p2), .val (.int p3), .val (.int p4), .val (.int (2 : Int32)), .val (.int bb0), .val (.int bb1), .val (.int bb2), .val (.ref b169), .val .null, .unset, .unset] [])) _
      refine own_go (fun _ k => XS.iload X178.here hx rfl (hb hby at_97) rfl k) ?_
      show own_G p e below (T178.setTop (mkF m 99 #[.val (.int p1), .val (.int p2), .val (.int p3), .val (.int p4), .val (.int (2 : Int32)), .val (.int bb0), .val (.int bb1), .val (.int bb2), .val (.ref b169), .val .null, .unset, .unset] [(.int (2 : Int32))])) _
      refine own_go (fun _ k => XS.iconst X178.here hx rfl (hb hby at_99) k) ?_
      show own_G p e below (T178.setTop (mkF m 100 #[.val (.int p1), .val (.int p2), .val (.int p3), .val (.int p4), .val (.int (2 : Int32)), .val (.int bb0), .val (.int bb1), .val (.int bb2), .val (.ref b169), .val .null, .unset, .unset] [(.int (1 : Int32)), (.int (2 : Int32))])) _
      refine own_go (fun _ k => XS.icmpNo X178.here hx rfl (hb hby at_100) rfl (tlt (by decide : (1 : Int32) < (2 : Int32))).2.2.2 k) ?_
      show own_G p e below (T178.setTop (mkF m 103 #[.val (.int p1), .val (.int p2), .val (.int p3), .val (.int p4), .val (.int (2 : Int32)), .val (.int bb0), .val (.int bb1), .val (.int bb2), .val (.ref b169), .val .null, .unset, .unset] [])) _
      refine own_go (fun _ k => XS.aload X178.here hx rfl (hb hby at_103) rfl rfl k) ?_
      show own_G p e below (T178.setTop (mkF m 105 #[.val (.int p1), .val (.int p2), .val (.int p3), .val (.int p4), .val (.int (2 : Int32)), .val (.int bb0), .val (.int bb1), .val (.int bb2), .val (.ref b169), .val .null, .unset, .unset] [(.ref b169)])) _
      refine own_go (fun _ k => XS.iconst X178.here hx rfl (hb hby at_105) k) ?_
      show own_G p e below (T178.setTop (mkF m 106 #[.val (.int p1), .val (.int p2), .val (.int p3), .val (.int p4), .val (.int (2 : Int32)), .val (.int bb0), .val (.int bb1), .val (.int bb2), .val (.ref b169), .val .null, .unset, .unset] [(.int (1 : Int32)), (.ref b169)])) _
      obtain ⟨cl199, Ar199, q199, S199, M199, B199, G199⟩ := id f180
      have hin199 : ¬ ((1 : Int32) < 0 ∨ cl199.slots.size ≤ ((1 : Int32)).toNatClampNeg) := inb_of S199 ⟨by decide, by decide⟩
      have hat199 : cl199.slots[((1 : Int32)).toNatClampNeg]? = some (.int bb1) := B199.at hin199 rfl
      refine own_go (X178.baloadBytes hx (j := (1 : Int32)) (v := (.int bb1)) Ar199.1 (State.isArrayOf_alike hZ.alike Ar199.2.1) Ar199.2.2 hin199 hat199 (g := (mkF m 106 #[.val (.int p1), .val (.int p2), .val (.int p3), .val (.int p4), .val (.int (2 : Int32)), .val (.int bb0), .val (.int bb1), .val (.int bb2), .val (.ref b169), .val .null, .unset, .unset] [(.int (1 : Int32)), (.ref b169)])) rfl rfl (hb hby at_106)) ?_
      show own_G p e below (T178.setTop (mkF m 107 #[.val (.int p1), .val (.int p2), .val (.int p3), .val (.int p4), .val (.int (2 : Int32)), .val (.int bb0), .val (.int bb1), .val (.int bb2), .val (.ref b169), .val .null, .unset, .unset] [(.int bb1)])) _
      refine own_go (fun _ k => XS.iload X178.here hx rfl (hb hby at_107) rfl k) ?_
      show own_G p e below (T178.setTop (mkF m 109 #[.val (.int p1), .val (.int p2), .val (.int p3), .val (.int p4), .val (.int (2 : Int32)), .val (.int bb0), .val (.int bb1), .val (.int bb2), .val (.ref b169), .val .null, .unset, .unset] [(.int bb1), (.int bb1)])) _
      refine own_go (fun _ k => XS.icmpYes X178.here hx rfl (pc0 := 109) (pc' := 114) rfl (hb hby at_109) rfl (teq (rfl : bb1 = bb1)).1 (by decide) (by decide) k) ?_
      show own_G p e below (T178.setTop (mkF m 114 #[.val (.int p1), .val (.int p2), .val (.int p3), .val (.int p4), .val (.int (2 : Int32)), .val (.int bb0), .val (.int bb1), .val (.int bb2), .val (.ref b169), .val .null, .unset, .unset] [])) _
      refine own_go (fun _ k => XS.iload X178.here hx rfl (hb hby at_114) rfl k) ?_
      show own_G p e below (T178.setTop (mkF m 116 #[.val (.int p1), .val (.int p2), .val (.int p3), .val (.int p4), .val (.int (2 : Int32)), .val (.int bb0), .val (.int bb1), .val (.int bb2), .val (.ref b169), .val .null, .unset, .unset] [(.int (2 : Int32))])) _
      refine own_go (fun _ k => XS.iconst X178.here hx rfl (hb hby at_116) k) ?_
      show own_G p e below (T178.setTop (mkF m 117 #[.val (.int p1), .val (.int p2), .val (.int p3), .val (.int p4), .val (.int (2 : Int32)), .val (.int bb0), .val (.int bb1), .val (.int bb2), .val (.ref b169), .val .null, .unset, .unset] [(.int (2 : Int32)), (.int (2 : Int32))])) _
      refine own_go (fun _ k => XS.icmpYes X178.here hx rfl (pc0 := 117) (pc' := 131) rfl (hb hby at_117) rfl (flt (by decide : ¬ ((2 : Int32) < (2 : Int32)))).2.2.2 (by decide) (by decide) k) ?_
      show own_G p e below (T178.setTop (mkF m 131 #[.val (.int p1), .val (.int p2), .val (.int p3), .val (.int p4), .val (.int (2 : Int32)), .val (.int bb0), .val (.int bb1), .val (.int bb2), .val (.ref b169), .val .null, .unset, .unset] [])) _
      refine own_go (fun _ k => XS.iconst X178.here hx rfl (hb hby at_131) k) ?_
      show own_G p e below (T178.setTop (mkF m 132 #[.val (.int p1), .val (.int p2), .val (.int p3), .val (.int p4), .val (.int (2 : Int32)), .val (.int bb0), .val (.int bb1), .val (.int bb2), .val (.ref b169), .val .null, .unset, .unset] [(.int (-1 : Int32))])) _
      refine own_go (fun _ k => XS.istore X178.here hx rfl (hb hby at_132) rfl (l' := #[.val (.int p1), .val (.int p2), .val (.int p3), .val (.int p4), .val (.int (2 : Int32)), .val (.int bb0), .val (.int bb1), .val (.int bb2), .val (.ref b169), .val .null, .val (.int (-1 : Int32)), .unset]) rfl k) ?_
      show own_G p e below (T178.setTop (mkF m 134 #[.val (.int p1), .val (.int p2), .val (.int p3), .val (.int p4), .val (.int (2 : Int32)), .val (.int bb0), .val (.int bb1), .val (.int bb2), .val (.ref b169), .val .null, .val (.int (-1 : Int32)), .unset] [])) _
      refine own_go (fun _ k => XS.iload X178.here hx rfl (hb hby at_134) rfl k) ?_
      show own_G p e below (T178.setTop (mkF m 136 #[.val (.int p1), .val (.int p2), .val (.int p3), .val (.int p4), .val (.int (2 : Int32)), .val (.int bb0), .val (.int bb1), .val (.int bb2), .val (.ref b169), .val .null, .val (.int (-1 : Int32)), .unset] [(.int (2 : Int32))])) _
      refine own_go (fun _ k => XS.ifNo X178.here hx rfl (hb hby at_136) rfl ((if0 _ _).trans (tlt (by decide : (0 : Int32) < (2 : Int32))).2.2.2) k) ?_
      show own_G p e below (T178.setTop (mkF m 139 #[.val (.int p1), .val (.int p2), .val (.int p3), .val (.int p4), .val (.int (2 : Int32)), .val (.int bb0), .val (.int bb1), .val (.int bb2), .val (.ref b169), .val .null, .val (.int (-1 : Int32)), .unset] [])) _
      refine own_go (fun _ k => XS.iload X178.here hx rfl (hb hby at_139) rfl k) ?_
      show own_G p e below (T178.setTop (mkF m 141 #[.val (.int p1), .val (.int p2), .val (.int p3), .val (.int p4), .val (.int (2 : Int32)), .val (.int bb0), .val (.int bb1), .val (.int bb2), .val (.ref b169), .val .null, .val (.int (-1 : Int32)), .unset] [(.int bb0)])) _
      refine own_go (fun _ k => XS.iconst X178.here hx rfl (hb hby at_141) k) ?_
      show own_G p e below (T178.setTop (mkF m 142 #[.val (.int p1), .val (.int p2), .val (.int p3), .val (.int p4), .val (.int (2 : Int32)), .val (.int bb0), .val (.int bb1), .val (.int bb2), .val (.ref b169), .val .null, .val (.int (-1 : Int32)), .unset] [(.int (-1 : Int32)), (.int bb0)])) _
      refine own_go (fun _ k => XS.icmpYes X178.here hx rfl (pc0 := 142) (pc' := 148) rfl (hb hby at_142) rfl (teq c0).1 (by decide) (by decide) k) ?_
      show own_G p e below (T178.setTop (mkF m 148 #[.val (.int p1), .val (.int p2), .val (.int p3), .val (.int p4), .val (.int (2 : Int32)), .val (.int bb0), .val (.int bb1), .val (.int bb2), .val (.ref b169), .val .null, .val (.int (-1 : Int32)), .unset] [])) _
      refine own_go (fun _ k => XS.iload X178.here hx rfl (hb hby at_148) rfl k) ?_
      show own_G p e below (T178.setTop (mkF m 150 #[.val (.int p1), .val (.int p2), .val (.int p3), .val (.int p4), .val (.int (2 : Int32)), .val (.int bb0), .val (.int bb1), .val (.int bb2), .val (.ref b169), .val .null, .val (.int (-1 : Int32)), .unset] [(.int (2 : Int32))])) _
      refine own_go (fun _ k => XS.iconst X178.here hx rfl (hb hby at_150) k) ?_
      show own_G p e below (T178.setTop (mkF m 151 #[.val (.int p1), .val (.int p2), .val (.int p3), .val (.int p4), .val (.int (2 : Int32)), .val (.int bb0), .val (.int bb1), .val (.int bb2), .val (.ref b169), .val .null, .val (.int (-1 : Int32)), .unset] [(.int (1 : Int32)), (.int (2 : Int32))])) _
      refine own_go (fun _ k => XS.icmpNo X178.here hx rfl (hb hby at_151) rfl (tlt (by decide : (1 : Int32) < (2 : Int32))).2.2.2 k) ?_
      show own_G p e below (T178.setTop (mkF m 154 #[.val (.int p1), .val (.int p2), .val (.int p3), .val (.int p4), .val (.int (2 : Int32)), .val (.int bb0), .val (.int bb1), .val (.int bb2), .val (.ref b169), .val .null, .val (.int (-1 : Int32)), .unset] [])) _
      refine own_go (fun _ k => XS.iload X178.here hx rfl (hb hby at_154) rfl k) ?_
      show own_G p e below (T178.setTop (mkF m 156 #[.val (.int p1), .val (.int p2), .val (.int p3), .val (.int p4), .val (.int (2 : Int32)), .val (.int bb0), .val (.int bb1), .val (.int bb2), .val (.ref b169), .val .null, .val (.int (-1 : Int32)), .unset] [(.int bb1)])) _
      refine own_go (fun _ k => XS.iconst X178.here hx rfl (hb hby at_156) k) ?_
      show own_G p e below (T178.setTop (mkF m 157 #[.val (.int p1), .val (.int p2), .val (.int p3), .val (.int p4), .val (.int (2 : Int32)), .val (.int bb0), .val (.int bb1), .val (.int bb2), .val (.ref b169), .val .null, .val (.int (-1 : Int32)), .unset] [(.int (-1 : Int32)), (.int bb1)])) _
      refine own_go (fun _ k => XS.icmpYes X178.here hx rfl (pc0 := 157) (pc' := 163) rfl (hb hby at_157) rfl (teq c1).1 (by decide) (by decide) k) ?_
      show own_G p e below (T178.setTop (mkF m 163 #[.val (.int p1), .val (.int p2), .val (.int p3), .val (.int p4), .val (.int (2 : Int32)), .val (.int bb0), .val (.int bb1), .val (.int bb2), .val (.ref b169), .val .null, .val (.int (-1 : Int32)), .unset] [])) _
      refine own_go (fun _ k => XS.iload X178.here hx rfl (hb hby at_163) rfl k) ?_
      show own_G p e below (T178.setTop (mkF m 165 #[.val (.int p1), .val (.int p2), .val (.int p3), .val (.int p4), .val (.int (2 : Int32)), .val (.int bb0), .val (.int bb1), .val (.int bb2), .val (.ref b169), .val .null, .val (.int (-1 : Int32)), .unset] [(.int (2 : Int32))])) _
      refine own_go (fun _ k => XS.iconst X178.here hx rfl (hb hby at_165) k) ?_
      show own_G p e below (T178.setTop (mkF m 166 #[.val (.int p1), .val (.int p2), .val (.int p3), .val (.int p4), .val (.int (2 : Int32)), .val (.int bb0), .val (.int bb1), .val (.int bb2), .val (.ref b169), .val .null, .val (.int (-1 : Int32)), .unset] [(.int (2 : Int32)), (.int (2 : Int32))])) _
      refine own_go (fun _ k => XS.icmpYes X178.here hx rfl (pc0 := 166) (pc' := 178) rfl (hb hby at_166) rfl (flt (by decide : ¬ ((2 : Int32) < (2 : Int32)))).2.2.2 (by decide) (by decide) k) ?_
      show own_G p e below (T178.setTop (mkF m 178 #[.val (.int p1), .val (.int p2), .val (.int p3), .val (.int p4), .val (.int (2 : Int32)), .val (.int bb0), .val (.int bb1), .val (.int bb2), .val (.ref b169), .val .null, .val (.int (-1 : Int32)), .unset] [])) _
      refine own_go (fun _ k => XS.iload X178.here hx rfl (hb hby at_178) rfl k) ?_
      show own_G p e below (T178.setTop (mkF m 180 #[.val (.int p1), .val (.int p2), .val (.int p3), .val (.int p4), .val (.int (2 : Int32)), .val (.int bb0), .val (.int bb1), .val (.int bb2), .val (.ref b169), .val .null, .val (.int (-1 : Int32)), .unset] [(.int (-1 : Int32))])) _
      refine own_go (fun _ k => XS.ifNo X178.here hx rfl (hb hby at_180) rfl ((if0 _ _).trans (tlt (by decide : (-1 : Int32) < (0 : Int32))).2.1) k) ?_
      show own_G p e below (T178.setTop (mkF m 183 #[.val (.int p1), .val (.int p2), .val (.int p3), .val (.int p4), .val (.int (2 : Int32)), .val (.int bb0), .val (.int bb1), .val (.int bb2), .val (.ref b169), .val .null, .val (.int (-1 : Int32)), .unset] [])) _
      refine own_go (fun _ k => XS.aload X178.here hx rfl (hb hby at_183) rfl rfl k) ?_
      show own_G p e below (T178.setTop (mkF m 185 #[.val (.int p1), .val (.int p2), .val (.int p3), .val (.int p4), .val (.int (2 : Int32)), .val (.int bb0), .val (.int bb1), .val (.int bb2), .val (.ref b169), .val .null, .val (.int (-1 : Int32)), .unset] [.null])) _
      refine own_go (fun _ k => XS.ifnonnullNo X178.here hx rfl (hb hby at_185) rfl k) ?_
      show own_G p e below (T178.setTop (mkF m 188 #[.val (.int p1), .val (.int p2), .val (.int p3), .val (.int p4), .val (.int (2 : Int32)), .val (.int bb0), .val (.int bb1), .val (.int bb2), .val (.ref b169), .val .null, .val (.int (-1 : Int32)), .unset] [])) _
      refine own_go (fun _ k => XS.iconst X178.here hx rfl (hb hby at_188) k) ?_
      show own_G p e below (T178.setTop (mkF m 189 #[.val (.int p1), .val (.int p2), .val (.int p3), .val (.int p4), .val (.int (2 : Int32)), .val (.int bb0), .val (.int bb1), .val (.int bb2), .val (.ref b169), .val .null, .val (.int (-1 : Int32)), .unset] [(.int (1 : Int32))])) _
      refine own_go (fun _ k => XS.goto X178.here hx rfl (pc0 := 189) (pc' := 193) rfl (hb hby at_189) (by decide) (by decide) k) ?_
      show own_G p e below (T178.setTop (mkF m 193 #[.val (.int p1), .val (.int p2), .val (.int p3), .val (.int p4), .val (.int (2 : Int32)), .val (.int bb0), .val (.int bb1), .val (.int bb2), .val (.ref b169), .val .null, .val (.int (-1 : Int32)), .unset] [(.int (1 : Int32))])) _
      refine own_ret X178 hlk (v := some (.int (1 : Int32))) (fun h => by rw [hret] at h; cases h) (Q0 Z p1 p2 p3 p4 h0 n0) (own_retI X178 hx (t := .boolean) hret rfl (Or.inl ⟨rfl, by simp, _, rfl⟩) (hb hby at_193)) (by decide) (by decide) ?_
      show Q0 Z p1 p2 p3 p4 h0 n0 _ T178.heap _
      exact ⟨rfl, N178⟩
  · rw [hn]
    show own_G p e below (s₁.setTop (mkF m 3 #[.val (.int p1), .val (.int p2), .val (.int p3), .val (.int p4), .unset, .unset, .unset, .unset, .unset, .unset, .unset, .unset] [(.int (3 : Int32))])) _
    refine own_go (fun _ k => XS.istore X0.here hx rfl (hb hby at_3) rfl (l' := #[.val (.int p1), .val (.int p2), .val (.int p3), .val (.int p4), .val (.int (3 : Int32)), .unset, .unset, .unset, .unset, .unset, .unset, .unset]) rfl k) ?_
    show own_G p e below (s₁.setTop (mkF m 5 #[.val (.int p1), .val (.int p2), .val (.int p3), .val (.int p4), .val (.int (3 : Int32)), .unset, .unset, .unset, .unset, .unset, .unset, .unset] [])) _
    refine own_go (fun _ k => XS.iloadN X0.here hx rfl (hb hby at_5) rfl k) ?_
    show own_G p e below (s₁.setTop (mkF m 6 #[.val (.int p1), .val (.int p2), .val (.int p3), .val (.int p4), .val (.int (3 : Int32)), .unset, .unset, .unset, .unset, .unset, .unset, .unset] [(.int p2)])) _
    obtain ⟨_, _, ⟨T200, L200, k200, n200⟩, -, X200, ⟨Lc200, hQ200, l200, y200, z200⟩, st200⟩ := Jvm.LawKit.callS X0 hx (y := (⟨"com/example/orbweave/orbweave/store/KeyOrderPrefixEndPinLaw", "draw", "(I)B"⟩ : MethodName)) hown (mvT hZ (hw _ (List.mem_of_getElem? (i := 0) rfl))) (mvT hZ (hw _ (List.mem_of_getElem? (i := 1) rfl))) (mvT hZ (hw _ (List.mem_of_getElem? (i := 2) rfl))) (mvT hZ (hw _ (List.mem_of_getElem? (i := 3) rfl))) (by decide) (backOf (W := 0) (rm1 l Z a0 hw [] p2 h0 n0 Z0 ) hZ (hw _ (List.mem_of_getElem? (i := 3) rfl)) (hw _ (List.mem_of_getElem? (i := 2) rfl)) (by decide) (by decide)) (g := (mkF m 6 #[.val (.int p1), .val (.int p2), .val (.int p3), .val (.int p4), .val (.int (3 : Int32)), .unset, .unset, .unset, .unset, .unset, .unset, .unset] [(.int p2)])) rfl (by rw [hml]; rfl) (argsL := [(.int p2)]) (rest := []) (lenOf pd_2 rfl) rfl (by show 2 * 0 + _ ≤ _; exact Nat.le_of_eq rfl) (hb hby at_6) (fun _ _ => ⟨rfl, e0, (by decide : 0 + 0 ≤ _), (by decide : 0 + 0 ≤ _)⟩)
    dsimp only [Pt.U, Pt.locs, Pt.cells, Pt.slots] at X200 l200 y200 z200 st200 hQ200
    subst l200 y200 z200
    obtain ⟨bb0, rfl, Nq200, hh200, hb0⟩ := hQ200
    have N200 := Fr.app N0 Nq200
    refine own_go st200 ?_
    have e200 : T200.heap = h0 := hh200
    show own_G p e below (T200.setTop (mkF m 9 #[.val (.int p1), .val (.int p2), .val (.int p3), .val (.int p4), .val (.int (3 : Int32)), .unset, .unset, .unset, .unset, .unset, .unset, .unset] [(.int bb0)])) _
    refine own_go (fun _ k => XS.istore X200.here hx rfl (hb hby at_9) rfl (l' := #[.val (.int p1), .val (.int p2), .val (.int p3), .val (.int p4), .val (.int (3 : Int32)), .val (.int bb0), .unset, .unset, .unset, .unset, .unset, .unset]) rfl k) ?_
    show own_G p e below (T200.setTop (mkF m 11 #[.val (.int p1), .val (.int p2), .val (.int p3), .val (.int p4), .val (.int (3 : Int32)), .val (.int bb0), .unset, .unset, .unset, .unset, .unset, .unset] [])) _
    refine own_go (fun _ k => XS.iloadN X200.here hx rfl (hb hby at_11) rfl k) ?_
    show own_G p e below (T200.setTop (mkF m 12 #[.val (.int p1), .val (.int p2), .val (.int p3), .val (.int p4), .val (.int (3 : Int32)), .val (.int bb0), .unset, .unset, .unset, .unset, .unset, .unset] [(.int p3)])) _
    obtain ⟨_, _, ⟨T201, L201, k201, n201⟩, -, X201, ⟨Lc201, hQ201, l201, y201, z201⟩, st201⟩ := Jvm.LawKit.callS X200 hx (y := (⟨"com/example/orbweave/orbweave/store/KeyOrderPrefixEndPinLaw", "draw", "(I)B"⟩ : MethodName)) hown (mvT hZ (hw _ (List.mem_of_getElem? (i := 0) rfl))) (mvT hZ (hw _ (List.mem_of_getElem? (i := 1) rfl))) (mvT hZ (hw _ (List.mem_of_getElem? (i := 2) rfl))) (mvT hZ (hw _ (List.mem_of_getElem? (i := 3) rfl))) (by decide) (backOf (W := 0) (rm1 l Z a0 hw [] p3 h0 n0 Z0 ) hZ (hw _ (List.mem_of_getElem? (i := 3) rfl)) (hw _ (List.mem_of_getElem? (i := 2) rfl)) (by decide) (by decide)) (g := (mkF m 12 #[.val (.int p1), .val (.int p2), .val (.int p3), .val (.int p4), .val (.int (3 : Int32)), .val (.int bb0), .unset, .unset, .unset, .unset, .unset, .unset] [(.int p3)])) rfl (by rw [hml]; rfl) (argsL := [(.int p3)]) (rest := []) (lenOf pd_2 rfl) rfl (by show 2 * 0 + _ ≤ _; exact Nat.le_of_eq rfl) (hb hby at_12) (fun _ _ => ⟨rfl, e200, (by decide : 0 + 0 + 0 ≤ _), (by decide : 0 + 0 + 0 ≤ _)⟩)
    dsimp only [Pt.U, Pt.locs, Pt.cells, Pt.slots] at X201 l201 y201 z201 st201 hQ201
    subst l201 y201 z201
    obtain ⟨bb1, rfl, Nq201, hh201, hb1⟩ := hQ201
    have N201 := Fr.app N200 Nq201
    refine own_go st201 ?_
    have e201 : T201.heap = h0 := hh201
    show own_G p e below (T201.setTop (mkF m 15 #[.val (.int p1), .val (.int p2), .val (.int p3), .val (.int p4), .val (.int (3 : Int32)), .val (.int bb0), .unset, .unset, .unset, .unset, .unset, .unset] [(.int bb1)])) _
    refine own_go (fun _ k => XS.istore X201.here hx rfl (hb hby at_15) rfl (l' := #[.val (.int p1), .val (.int p2), .val (.int p3), .val (.int p4), .val (.int (3 : Int32)), .val (.int bb0), .val (.int bb1), .unset, .unset, .unset, .unset, .unset]) rfl k) ?_
    show own_G p e below (T201.setTop (mkF m 17 #[.val (.int p1), .val (.int p2), .val (.int p3), .val (.int p4), .val (.int (3 : Int32)), .val (.int bb0), .val (.int bb1), .unset, .unset, .unset, .unset, .unset] [])) _
    refine own_go (fun _ k => XS.iloadN X201.here hx rfl (hb hby at_17) rfl k) ?_
    show own_G p e below (T201.setTop (mkF m 18 #[.val (.int p1), .val (.int p2), .val (.int p3), .val (.int p4), .val (.int (3 : Int32)), .val (.int bb0), .val (.int bb1), .unset, .unset, .unset, .unset, .unset] [(.int p4)])) _
    obtain ⟨_, _, ⟨T202, L202, k202, n202⟩, -, X202, ⟨Lc202, hQ202, l202, y202, z202⟩, st202⟩ := Jvm.LawKit.callS X201 hx (y := (⟨"com/example/orbweave/orbweave/store/KeyOrderPrefixEndPinLaw", "draw", "(I)B"⟩ : MethodName)) hown (mvT hZ (hw _ (List.mem_of_getElem? (i := 0) rfl))) (mvT hZ (hw _ (List.mem_of_getElem? (i := 1) rfl))) (mvT hZ (hw _ (List.mem_of_getElem? (i := 2) rfl))) (mvT hZ (hw _ (List.mem_of_getElem? (i := 3) rfl))) (by decide) (backOf (W := 0) (rm1 l Z a0 hw [] p4 h0 n0 Z0 ) hZ (hw _ (List.mem_of_getElem? (i := 3) rfl)) (hw _ (List.mem_of_getElem? (i := 2) rfl)) (by decide) (by decide)) (g := (mkF m 18 #[.val (.int p1), .val (.int p2), .val (.int p3), .val (.int p4), .val (.int (3 : Int32)), .val (.int bb0), .val (.int bb1), .unset, .unset, .unset, .unset, .unset] [(.int p4)])) rfl (by rw [hml]; rfl) (argsL := [(.int p4)]) (rest := []) (lenOf pd_2 rfl) rfl (by show 2 * 0 + _ ≤ _; exact Nat.le_of_eq rfl) (hb hby at_18) (fun _ _ => ⟨rfl, e201, (by decide : 0 + 0 + 0 + 0 ≤ _), (by decide : 0 + 0 + 0 + 0 ≤ _)⟩)
    dsimp only [Pt.U, Pt.locs, Pt.cells, Pt.slots] at X202 l202 y202 z202 st202 hQ202
    subst l202 y202 z202
    obtain ⟨bb2, rfl, Nq202, hh202, hb2⟩ := hQ202
    have N202 := Fr.app N201 Nq202
    refine own_go st202 ?_
    have e202 : T202.heap = h0 := hh202
    show own_G p e below (T202.setTop (mkF m 21 #[.val (.int p1), .val (.int p2), .val (.int p3), .val (.int p4), .val (.int (3 : Int32)), .val (.int bb0), .val (.int bb1), .unset, .unset, .unset, .unset, .unset] [(.int bb2)])) _
    refine own_go (fun _ k => XS.istore X202.here hx rfl (hb hby at_21) rfl (l' := #[.val (.int p1), .val (.int p2), .val (.int p3), .val (.int p4), .val (.int (3 : Int32)), .val (.int bb0), .val (.int bb1), .val (.int bb2), .unset, .unset, .unset, .unset]) rfl k) ?_
    show own_G p e below (T202.setTop (mkF m 23 #[.val (.int p1), .val (.int p2), .val (.int p3), .val (.int p4), .val (.int (3 : Int32)), .val (.int bb0), .val (.int bb1), .val (.int bb2), .unset, .unset, .unset, .unset] [])) _
    refine own_go (fun _ k => XS.iload X202.here hx rfl (hb hby at_23) rfl k) ?_
    show own_G p e below (T202.setTop (mkF m 25 #[.val (.int p1), .val (.int p2), .val (.int p3), .val (.int p4), .val (.int (3 : Int32)), .val (.int bb0), .val (.int bb1), .val (.int bb2), .unset, .unset, .unset, .unset] [(.int (3 : Int32))])) _
    obtain ⟨T203, h203, k203, X203, e203, E203, A203, Y203, st203⟩ := newPE X202 hx hZ (hw _ (List.mem_of_getElem? (i := 4) rfl)) e202 (g := (mkF m 25 #[.val (.int p1), .val (.int p2), .val (.int p3), .val (.int p4), .val (.int (3 : Int32)), .val (.int bb0), .val (.int bb1), .val (.int bb2), .unset, .unset, .unset, .unset] [(.int (3 : Int32))])) rfl (hb hby at_25) rfl (by decide) (cap := 3) (by decide) (by decide) (by decide) (by decide) (ad := "[B") (by decide)
    obtain ⟨b203, g203⟩ : ∃ z, z = h0.size := ⟨_, rfl⟩
    rw [← g203] at A203 Y203 st203
    refine own_go st203 ?_
    have ge204 : n0 ≤ b203 := Nat.le_trans Z0 (Nat.le_of_eq g203.symm)
    have zs205 : n0 ≤ h203.size := Nat.le_trans Z0 E203.1
    have V203 : Arv Z h203 b203 k203 .byte (3 : Int32) [(.int (0 : Int32)), (.int (0 : Int32)), (.int (0 : Int32))] (.int (0 : Int32)) := (Arv.new A203 (by decide)).pad (pad_rep [] (.int (0 : Int32)) 3)
    show own_G p e below (T203.setTop (mkF m 27 #[.val (.int p1), .val (.int p2), .val (.int p3), .val (.int p4), .val (.int (3 : Int32)), .val (.int bb0), .val (.int bb1), .val (.int bb2), .unset, .unset, .unset, .unset] [(.ref b203)])) _
    refine own_go (fun _ k => XS.astore X203.here hx rfl (hb hby at_27) rfl rfl (l' := #[.val (.int p1), .val (.int p2), .val (.int p3), .val (.int p4), .val (.int (3 : Int32)), .val (.int bb0), .val (.int bb1), .val (.int bb2), .val (.ref b203), .unset, .unset, .unset]) rfl k) ?_
    show own_G p e below (T203.setTop (mkF m 29 #[.val (.int p1), .val (.int p2), .val (.int p3), .val (.int p4), .val (.int (3 : Int32)), .val (.int bb0), .val (.int bb1), .val (.int bb2), .val (.ref b203), .unset, .unset, .unset] [])) _
    refine own_go (fun _ k => XS.iload X203.here hx rfl (hb hby at_29) rfl k) ?_
    show own_G p e below (T203.setTop (mkF m 31 #[.val (.int p1), .val (.int p2), .val (.int p3), .val (.int p4), .val (.int (3 : Int32)), .val (.int bb0), .val (.int bb1), .val (.int bb2), .val (.ref b203), .unset, .unset, .unset] [(.int (3 : Int32))])) _
    refine own_go (fun _ k => XS.ifNo X203.here hx rfl (hb hby at_31) rfl ((if0 _ _).trans (tlt (by decide : (0 : Int32) < (3 : Int32))).2.2.2) k) ?_
    show own_G p e below (T203.setTop (mkF m 34 #[.val (.int p1), .val (.int p2), .val (.int p3), .val (.int p4), .val (.int (3 : Int32)), .val (.int bb0), .val (.int bb1), .val (.int bb2), .val (.ref b203), .unset, .unset, .unset] [])) _
    refine own_go (fun _ k => XS.aload X203.here hx rfl (hb hby at_34) rfl rfl k) ?_
    show own_G p e below (T203.setTop (mkF m 36 #[.val (.int p1), .val (.int p2), .val (.int p3), .val (.int p4), .val (.int (3 : Int32)), .val (.int bb0), .val (.int bb1), .val (.int bb2), .val (.ref b203), .unset, .unset, .unset] [(.ref b203)])) _
    refine own_go (fun _ k => XS.iconst X203.here hx rfl (hb hby at_36) k) ?_
    show own_G p e below (T203.setTop (mkF m 37 #[.val (.int p1), .val (.int p2), .val (.int p3), .val (.int p4), .val (.int (3 : Int32)), .val (.int bb0), .val (.int bb1), .val (.int bb2), .val (.ref b203), .unset, .unset, .unset] [(.int (0 : Int32)), (.ref b203)])) _
    refine own_go (fun _ k => XS.iload X203.here hx rfl (hb hby at_37) rfl k) ?_
    show own_G p e below (T203.setTop (mkF m 39 #[.val (.int p1), .val (.int p2), .val (.int p3), .val (.int p4), .val (.int (3 : Int32)), .val (.int bb0), .val (.int bb1), .val (.int bb2), .val (.ref b203), .unset, .unset, .unset] [(.int bb0), (.int (0 : Int32)), (.ref b203)])) _
    obtain ⟨cl206, Ar206, q206, S206, M206, B206, G206⟩ := id V203
    have hin206 : ¬ ((0 : Int32) < 0 ∨ cl206.slots.size ≤ ((0 : Int32)).toNatClampNeg) := inb_of S206 ⟨by decide, by decide⟩
    obtain ⟨T206, h206, X206, e206, W206, st206⟩ := stB X203 hx hZ e203 Ar206 (j := (0 : Int32)) hin206 (g := (mkF m 39 #[.val (.int p1), .val (.int p2), .val (.int p3), .val (.int p4), .val (.int (3 : Int32)), .val (.int bb0), .val (.int bb1), .val (.int bb2), .val (.ref b203), .unset, .unset, .unset] [(.int bb0), (.int (0 : Int32)), (.ref b203)])) rfl rfl (hb hby at_39)
    refine own_go st206 ?_
    rw [show nar .byte bb0 = bb0 from hb0] at W206
    have f207 := Y203.wr W206
    have zs208 : n0 ≤ h206.size := Nat.le_trans zs205 (Keep.of_wr W206).1
    have V206 : Arv Z h206 b203 k203 .byte (3 : Int32) [(.int bb0), (.int (0 : Int32)), (.int (0 : Int32))] (.int (0 : Int32)) := Arv.set Ar206 q206 S206 M206 B206 G206 (own_fit hb0) W206 0 rfl (Nat.le_of_ble_eq_true rfl)
    have N206 := Fr.snoc X206 N202 ge204
    show own_G p e below (T206.setTop (mkF m 40 #[.val (.int p1), .val (.int p2), .val (.int p3), .val (.int p4), .val (.int (3 : Int32)), .val (.int bb0), .val (.int bb1), .val (.int bb2), .val (.ref b203), .unset, .unset, .unset] [])) _
    refine own_go (fun _ k => XS.iload X206.here hx rfl (hb hby at_40) rfl k) ?_
    show own_G p e below (T206.setTop (mkF m 42 #[.val (.int p1), .val (.int p2), .val (.int p3), .val (.int p4), .val (.int (3 : Int32)), .val (.int bb0), .val (.int bb1), .val (.int bb2), .val (.ref b203), .unset, .unset, .unset] [(.int (3 : Int32))])) _
    refine own_go (fun _ k => XS.iconst X206.here hx rfl (hb hby at_42) k) ?_
    show own_G p e below (T206.setTop (mkF m 43 #[.val (.int p1), .val (.int p2), .val (.int p3), .val (.int p4), .val (.int (3 : Int32)), .val (.int bb0), .val (.int bb1), .val (.int bb2), .val (.ref b203), .unset, .unset, .unset] [(.int (1 : Int32)), (.int (3 : Int32))])) _
    refine own_go (fun _ k => XS.icmpNo X206.here hx rfl (hb hby at_43) rfl (tlt (by decide : (1 : Int32) < (3 : Int32))).2.2.2 k) ?_
    show own_G p e below (T206.setTop (mkF m 46 #[.val (.int p1), .val (.int p2), .val (.int p3), .val (.int p4), .val (.int (3 : Int32)), .val (.int bb0), .val (.int bb1), .val (.int bb2), .val (.ref b203), .unset, .unset, .unset] [])) _
    refine own_go (fun _ k => XS.aload X206.here hx rfl (hb hby at_46) rfl rfl k) ?_
    show own_G p e below (T206.setTop (mkF m 48 #[.val (.int p1), .val (.int p2), .val (.int p3), .val (.int p4), .val (.int (3 : Int32)), .val (.int bb0), .val (.int bb1), .val (.int bb2), .val (.ref b203), .unset, .unset, .unset] [(.ref b203)])) _
    refine own_go (fun _ k => XS.iconst X206.here hx rfl (hb hby at_48) k) ?_
    show own_G p e below (T206.setTop (mkF m 49 #[.val (.int p1), .val (.int p2), .val (.int p3), .val (.int p4), .val (.int (3 : Int32)), .val (.int bb0), .val (.int bb1), .val (.int bb2), .val (.ref b203), .unset, .unset, .unset] [(.int (1 : Int32)), (.ref b203)])) _
    refine own_go (fun _ k => XS.iload X206.here hx rfl (hb hby at_49) rfl k) ?_
    show own_G p e below (T206.setTop (mkF m 51 #[.val (.int p1), .val (.int p2), .val (.int p3), .val (.int p4), .val (.int (3 : Int32)), .val (.int bb0), .val (.int bb1), .val (.int bb2), .val (.ref b203), .unset, .unset, .unset] [(.int bb1), (.int (1 : Int32)), (.ref b203)])) _
    obtain ⟨cl209, Ar209, q209, S209, M209, B209, G209⟩ := id V206
    have hin209 : ¬ ((1 : Int32) < 0 ∨ cl209.slots.size ≤ ((1 : Int32)).toNatClampNeg) := inb_of S209 ⟨by decide, by decide⟩
    obtain ⟨T209, h209, X209, e209, W209, st209⟩ := stB X206 hx hZ e206 Ar209 (j := (1 : Int32)) hin209 (g := (mkF m 51 #[.val (.int p1), .val (.int p2), .val (.int p3), .val (.int p4), .val (.int (3 : Int32)), .val (.int bb0), .val (.int bb1), .val (.int bb2), .val (.ref b203), .unset, .unset, .unset] [(.int bb1), (.int (1 : Int32)), (.ref b203)])) rfl rfl (hb hby at_51)
    refine own_go st209 ?_
    rw [show nar .byte bb1 = bb1 from hb1] at W209
    have f210 := f207.wr W209
    have zs211 : n0 ≤ h209.size := Nat.le_trans zs208 (Keep.of_wr W209).1
    have V209 : Arv Z h209 b203 k203 .byte (3 : Int32) [(.int bb0), (.int bb1), (.int (0 : Int32))] (.int (0 : Int32)) := Arv.set Ar209 q209 S209 M209 B209 G209 (own_fit hb1) W209 1 rfl (Nat.le_of_ble_eq_true rfl)
    have N209 := Fr.snoc X209 N206 ge204
    show own_G p e below (T209.setTop (mkF m 52 #[.val (.int p1), .val (.int p2), .val (.int p3), .val (.int p4), .val (.int (3 : Int32)), .val (.int bb0), .val (.int bb1), .val (.int bb2), .val (.ref b203), .unset, .unset, .unset] [])) _
    refine own_go (fun _ k => XS.iload X209.here hx rfl (hb hby at_52) rfl k) ?_
    show own_G p e below (T209.setTop (mkF m 54 #[.val (.int p1), .val (.int p2), .val (.int p3), .val (.int p4), .val (.int (3 : Int32)), .val (.int bb0), .val (.int bb1), .val (.int bb2), .val (.ref b203), .unset, .unset, .unset] [(.int (3 : Int32))])) _
    refine own_go (fun _ k => XS.iconst X209.here hx rfl (hb hby at_54) k) ?_
    show own_G p e below (T209.setTop (mkF m 55 #[.val (.int p1), .val (.int p2), .val (.int p3), .val (.int p4), .val (.int (3 : Int32)), .val (.int bb0), .val (.int bb1), .val (.int bb2), .val (.ref b203), .unset, .unset, .unset] [(.int (2 : Int32)), (.int (3 : Int32))])) _
    refine own_go (fun _ k => XS.icmpNo X209.here hx rfl (hb hby at_55) rfl (tlt (by decide : (2 : Int32) < (3 : Int32))).2.2.2 k) ?_
    show own_G p e below (T209.setTop (mkF m 58 #[.val (.int p1), .val (.int p2), .val (.int p3), .val (.int p4), .val (.int (3 : Int32)), .val (.int bb0), .val (.int bb1), .val (.int bb2), .val (.ref b203), .unset, .unset, .unset] [])) _
    refine own_go (fun _ k => XS.aload X209.here hx rfl (hb hby at_58) rfl rfl k) ?_
    show own_G p e below (T209.setTop (mkF m 60 #[.val (.int p1), .val (.int p2), .val (.int p3), .val (.int p4), .val (.int (3 : Int32)), .val (.int bb0), .val (.int bb1), .val (.int bb2), .val (.ref b203), .unset, .unset, .unset] [(.ref b203)])) _
    refine own_go (fun _ k => XS.iconst X209.here hx rfl (hb hby at_60) k) ?_
    show own_G p e below (T209.setTop (mkF m 61 #[.val (.int p1), .val (.int p2), .val (.int p3), .val (.int p4), .val (.int (3 : Int32)), .val (.int bb0), .val (.int bb1), .val (.int bb2), .val (.ref b203), .unset, .unset, .unset] [(.int (2 : Int32)), (.ref b203)])) _
    refine own_go (fun _ k => XS.iload X209.here hx rfl (hb hby at_61) rfl k) ?_
    show own_G p e below (T209.setTop (mkF m 63 #[.val (.int p1), .val (.int p2), .val (.int p3), .val (.int p4), .val (.int (3 : Int32)), .val (.int bb0), .val (.int bb1), .val (.int bb2), .val (.ref b203), .unset, .unset, .unset] [(.int bb2), (.int (2 : Int32)), (.ref b203)])) _
    obtain ⟨cl212, Ar212, q212, S212, M212, B212, G212⟩ := id V209
    have hin212 : ¬ ((2 : Int32) < 0 ∨ cl212.slots.size ≤ ((2 : Int32)).toNatClampNeg) := inb_of S212 ⟨by decide, by decide⟩
    obtain ⟨T212, h212, X212, e212, W212, st212⟩ := stB X209 hx hZ e209 Ar212 (j := (2 : Int32)) hin212 (g := (mkF m 63 #[.val (.int p1), .val (.int p2), .val (.int p3), .val (.int p4), .val (.int (3 : Int32)), .val (.int bb0), .val (.int bb1), .val (.int bb2), .val (.ref b203), .unset, .unset, .unset] [(.int bb2), (.int (2 : Int32)), (.ref b203)])) rfl rfl (hb hby at_63)
    refine own_go st212 ?_
    rw [show nar .byte bb2 = bb2 from hb2] at W212
    have f213 := f210.wr W212
    have zs214 : n0 ≤ h212.size := Nat.le_trans zs211 (Keep.of_wr W212).1
    have V212 : Arv Z h212 b203 k203 .byte (3 : Int32) [(.int bb0), (.int bb1), (.int bb2)] (.int (0 : Int32)) := Arv.set Ar212 q212 S212 M212 B212 G212 (own_fit hb2) W212 2 rfl (Nat.le_of_ble_eq_true rfl)
    have N212 := Fr.snoc X212 N209 ge204
    show own_G p e below (T212.setTop (mkF m 64 #[.val (.int p1), .val (.int p2), .val (.int p3), .val (.int p4), .val (.int (3 : Int32)), .val (.int bb0), .val (.int bb1), .val (.int bb2), .val (.ref b203), .unset, .unset, .unset] [])) _
    refine own_go (fun _ k => XS.aload X212.here hx rfl (hb hby at_64) rfl rfl k) ?_
    show own_G p e below (T212.setTop (mkF m 66 #[.val (.int p1), .val (.int p2), .val (.int p3), .val (.int p4), .val (.int (3 : Int32)), .val (.int bb0), .val (.int bb1), .val (.int bb2), .val (.ref b203), .unset, .unset, .unset] [(.ref b203)])) _
    obtain ⟨vv215, _, ⟨T215, L215, k215, n215⟩, -, X215, ⟨Lc215, hQ215, l215, y215, z215⟩, st215⟩ := Jvm.LawKit.callS X212 hx (y := (⟨"com/example/orbweave/orbweave/store/KeyOrder", "prefixEnd", "([B)[B"⟩ : MethodName)) hown (mvT hZ (hw _ (List.mem_of_getElem? (i := 5) rfl))) (mvT hZ (hw _ (List.mem_of_getElem? (i := 6) rfl))) (mvT hZ (hw _ (List.mem_of_getElem? (i := 7) rfl))) (mvT hZ (hw _ (List.mem_of_getElem? (i := 8) rfl))) (by decide) (backOf (W := 0) (rm2_3 l Z a0 hw [] b203 k203 bb0 bb1 bb2 h212 n0 zs214 V212 f213) hZ (hw _ (List.mem_of_getElem? (i := 8) rfl)) (hw _ (List.mem_of_getElem? (i := 7) rfl)) (by decide) (by decide)) (g := (mkF m 66 #[.val (.int p1), .val (.int p2), .val (.int p3), .val (.int p4), .val (.int (3 : Int32)), .val (.int bb0), .val (.int bb1), .val (.int bb2), .val (.ref b203), .unset, .unset, .unset] [(.ref b203)])) rfl (by rw [hml]; rfl) (argsL := [(.ref b203)]) (rest := []) (lenOf pd_3 rfl) rfl (by show 2 * 0 + _ ≤ _; exact Nat.le_of_eq rfl) (hb hby at_66) (fun _ _ => ⟨rfl, e212, (by decide : 0 + 0 + 0 + 0 + 1 + 1 ≤ _), (by decide : 0 + 0 + 0 + 0 + 3 + 3 ≤ _)⟩)
    dsimp only [Pt.U, Pt.locs, Pt.cells, Pt.slots] at X215 l215 y215 z215 st215 hQ215
    subst l215 y215 z215
    obtain ⟨Nq215, K215, hd215⟩ := hQ215
    have N215 := Fr.app N212 Nq215
    have f216 := f213.keep K215
    have f217 := V212.keep K215 nin0
    have zs218 : n0 ≤ T215.heap.size := Nat.le_trans zs214 K215.1
    rcases hd215 with ⟨c2, r, kr, rfl, Vr⟩ | ⟨⟨c1, c2⟩, r, kr, rfl, Vr⟩ | ⟨⟨c0, c1, c2⟩, r, kr, rfl, Vr⟩ | ⟨rfl, c0, c1, c2⟩
    · refine own_go st215 ?_
      show own_G p e below (T215.setTop (mkF m 69 #[.val (.int p1), .val (.int p2), .val (.int p3), .val (.int p4), .val (.int (3 : Int32)), .val (.int bb0), .val (.int bb1), .val (.int bb2), .val (.ref b203), .unset, .unset, .unset] [(.ref r)])) _
      refine own_go (fun _ k => XS.astore X215.here hx rfl (hb hby at_69) rfl rfl (l' := #[.val (.int p1), .val (.int p2), .val (.int p3), .val (.int p4), .val (.int (3 : Int32)), .val (.int bb0), .val (.int bb1), .val (.int bb2), .val (.ref b203), .val (.ref r), .unset, .unset]) rfl k) ?_
      show own_G p e below (T215.setTop (mkF m 71 #[.val (.int p1), .val (.int p2), .val (.int p3), .val (.int p4), .val (.int (3 : Int32)), .val (.int bb0), .val (.int bb1), .val (.int bb2), .val (.ref b203), .val (.ref r), .unset, .unset] [])) _
      refine own_go (fun _ k => XS.aload X215.here hx rfl (hb hby at_71) rfl rfl k) ?_
      show own_G p e below (T215.setTop (mkF m 73 #[.val (.int p1), .val (.int p2), .val (.int p3), .val (.int p4), .val (.int (3 : Int32)), .val (.int bb0), .val (.int bb1), .val (.int bb2), .val (.ref b203), .val (.ref r), .unset, .unset] [(.ref b203)])) _
      obtain ⟨cl219, Ar219, q219, S219, M219, B219, G219⟩ := id f217
      refine own_go (X215.arraylength hx Ar219.1 (State.isArrayOf_alike hZ.alike Ar219.2.1) (g := (mkF m 73 #[.val (.int p1), .val (.int p2), .val (.int p3), .val (.int p4), .val (.int (3 : Int32)), .val (.int bb0), .val (.int bb1), .val (.int bb2), .val (.ref b203), .val (.ref r), .unset, .unset] [(.ref b203)])) rfl rfl (hb hby at_73)) ?_
      rw [len_of S219 M219]
      show own_G p e below (T215.setTop (mkF m 74 #[.val (.int p1), .val (.int p2), .val (.int p3), .val (.int p4), .val (.int (3 : Int32)), .val (.int bb0), .val (.int bb1), .val (.int bb2), .val (.ref b203), .val (.ref r), .unset, .unset] [(.int (3 : Int32))])) _
      refine own_go (fun _ k => XS.iload X215.here hx rfl (hb hby at_74) rfl k) ?_
      show own_G p e below (T215.setTop (mkF m 76 #[.val (.int p1), .val (.int p2), .val (.int p3), .val (.int p4), .val (.int (3 : Int32)), .val (.int bb0), .val (.int bb1), .val (.int bb2), .val (.ref b203), .val (.ref r), .unset, .unset] [(.int (3 : Int32)), (.int (3 : Int32))])) _
      refine own_go (fun _ k => XS.icmpYes X215.here hx rfl (pc0 := 76) (pc' := 81) rfl (hb hby at_76) rfl (teq (by decide : (3 : Int32) = (3 : Int32))).1 (by decide) (by decide) k) ?_
      show own_G p e below (T215.setTop (mkF m 81 #[.val (.int p1), .val (.int p2), .val (.int p3), .val (.int p4), .val (.int (3 : Int32)), .val (.int bb0), .val (.int bb1), .val (.int bb2), .val (.ref b203), .val (.ref r), .unset, .unset] [])) _
      refine own_go (fun _ k => XS.iload X215.here hx rfl (hb hby at_81) rfl k) ?_
      show own_G p e below (T215.setTop (mkF m 83 #[.val (.int p1), .val (.int p2), .val (.int p3), .val (.int p4), .val (.int (3 : Int32)), .val (.int bb0), .val (.int bb1), .val (.int bb2), .val (.ref b203), .val (.ref r), .unset, .unset] [(.int (3 : Int32))])) _
      refine own_go (fun _ k => XS.ifNo X215.here hx rfl (hb hby at_83) rfl ((if0 _ _).trans (tlt (by decide : (0 : Int32) < (3 : Int32))).2.2.2) k) ?_
      show own_G p e below (T215.setTop (mkF m 86 #[.val (.int p1), .val (.int p2), .val (.int p3), .val (.int p4), .val (.int (3 : Int32)), .val (.int bb0), .val (.int bb1), .val (.int bb2), .val (.ref b203), .val (.ref r), .unset, .unset] [])) _
      refine own_go (fun _ k => XS.aload X215.here hx rfl (hb hby at_86) rfl rfl k) ?_
      show own_G p e below (T215.setTop (mkF m 88 #[.val (.int p1), .val (.int p2), .val (.int p3), .val (.int p4), .val (.int (3 : Int32)), .val (.int bb0), .val (.int bb1), .val (.int bb2), .val (.ref b203), .val (.ref r), .unset, .unset] [(.ref b203)])) _
      refine own_go (fun _ k => XS.iconst X215.here hx rfl (hb hby at_88) k) ?_
      show own_G p e below (T215.setTop (mkF m 89 #[.val (.int p1), .val (.int p2), .val (.int p3), .val (.int p4), .val (.int (3 : Int32)), .val (.int bb0), .val (.int bb1), .val (.int bb2), .val (.ref b203), .val (.ref r), .unset, .unset] [(.int (0 : Int32)), (.ref b203)])) _
      obtain ⟨cl220, Ar220, q220, S220, M220, B220, G220⟩ := id f217
      have hin220 : ¬ ((0 : Int32) < 0 ∨ cl220.slots.size ≤ ((0 : Int32)).toNatClampNeg) := inb_of S220 ⟨by decide, by decide⟩
      have hat220 : cl220.slots[((0 : Int32)).toNatClampNeg]? = some (.int bb0) := B220.at hin220 rfl
      refine own_go (X215.baloadBytes hx (j := (0 : Int32)) (v := (.int bb0)) Ar220.1 (State.isArrayOf_alike hZ.alike Ar220.2.1) Ar220.2.2 hin220 hat220 (g := (mkF m 89 #[.val (.int p1), .val (.int p2), .val (.int p3), .val (.int p4), .val (.int (3 : Int32)), .val (.int bb0), .val (.int bb1), .val (.int bb2), .val (.ref b203), .val (.ref r), .unset, .unset] [(.int (0 : Int32)), (.ref b203)])) rfl rfl (hb hby at_89)) ?_
      show own_G p e below (T215.setTop (mkF m 90 #[.val (.int p1), .val (.int p2), .val (.int p3), .val (.int p4), .val (.int (3 : Int32)), .val (.int bb0), .val (.int bb1), .val (.int bb2), .val (.ref b203), .val (.ref r), .unset, .unset] [(.int bb0)])) _
      refine own_go (fun _ k => XS.iload X215.here hx rfl (hb hby at_90) rfl k) ?_
      show own_G p e below (T215.setTop (mkF m 92 #[.val (.int p1), .val (.int p2), .val (.int p3), .val (.int p4), .val (.int (3 : Int32)), .val (.int bb0), .val (.int bb1), .val (.int bb2), .val (.ref b203), .val (.ref r), .unset, .unset] [(.int bb0), (.int bb0)])) _
      refine own_go (fun _ k => XS.icmpYes X215.here hx rfl (pc0 := 92) (pc' := 97) rfl (hb hby at_92) rfl (teq (rfl : bb0 = bb0)).1 (by decide) (by decide) k) ?_
      show own_G p e below (T215.setTop (mkF m 97 #[.val (.int p1), .val (.int p2), .val (.int p3), .val (.int p4), .val (.int (3 : Int32)), .val (.int bb0), .val (.int bb1), .val (.int bb2), .val (.ref b203), .val (.ref r), .unset, .unset] [])) _
      refine own_go (fun _ k => XS.iload X215.here hx rfl (hb hby at_97) rfl k) ?_
      show own_G p e below (T215.setTop (mkF m 99 #[.val (.int p1), .val (.int p2), .val (.int p3), .val (.int p4), .val (.int (3 : Int32)), .val (.int bb0), .val (.int bb1), .val (.int bb2), .val (.ref b203), .val (.ref r), .unset, .unset] [(.int (3 : Int32))])) _
      refine own_go (fun _ k => XS.iconst X215.here hx rfl (hb hby at_99) k) ?_
      show own_G p e below (T215.setTop (mkF m 100 #[.val (.int p1), .val (.int p2), .val (.int p3), .val (.int p4), .val (.int (3 : Int32)), .val (.int bb0), .val (.int bb1), .val (.int bb2), .val (.ref b203), .val (.ref r), .unset, .unset] [(.int (1 : Int32)), (.int (3 : Int32))])) _
      refine own_go (fun _ k => XS.icmpNo X215.here hx rfl (hb hby at_100) rfl (tlt (by decide : (1 : Int32) < (3 : Int32))).2.2.2 k) ?_
      show own_G p e below (T215.setTop (mkF m 103 #[.val (.int p1), .val (.int p2), .val (.int p3), .val (.int p4), .val (.int (3 : Int32)), .val (.int bb0), .val (.int bb1), .val (.int bb2), .val (.ref b203), .val (.ref r), .unset, .unset] [])) _
      refine own_go (fun _ k => XS.aload X215.here hx rfl (hb hby at_103) rfl rfl k) ?_
      show own_G p e below (T215.setTop (mkF m 105 #[.val (.int p1), .val (.int p2), .val (.int p3), .val (.int p4), .val (.int (3 : Int32)), .val (.int bb0), .val (.int bb1), .val (.int bb2), .val (.ref b203), .val (.ref r), .unset, .unset] [(.ref b203)])) _
      refine own_go (fun _ k => XS.iconst X215.here hx rfl (hb hby at_105) k) ?_
      show own_G p e below (T215.setTop (mkF m 106 #[.val (.int p1), .val (.int p2), .val (.int p3), .val (.int p4), .val (.int (3 : Int32)), .val (.int bb0), .val (.int bb1), .val (.int bb2), .val (.ref b203), .val (.ref r), .unset, .unset] [(.int (1 : Int32)), (.ref b203)])) _
      obtain ⟨cl221, Ar221, q221, S221, M221, B221, G221⟩ := id f217
      have hin221 : ¬ ((1 : Int32) < 0 ∨ cl221.slots.size ≤ ((1 : Int32)).toNatClampNeg) := inb_of S221 ⟨by decide, by decide⟩
      have hat221 : cl221.slots[((1 : Int32)).toNatClampNeg]? = some (.int bb1) := B221.at hin221 rfl
      refine own_go (X215.baloadBytes hx (j := (1 : Int32)) (v := (.int bb1)) Ar221.1 (State.isArrayOf_alike hZ.alike Ar221.2.1) Ar221.2.2 hin221 hat221 (g := (mkF m 106 #[.val (.int p1), .val (.int p2), .val (.int p3), .val (.int p4), .val (.int (3 : Int32)), .val (.int bb0), .val (.int bb1), .val (.int bb2), .val (.ref b203), .val (.ref r), .unset, .unset] [(.int (1 : Int32)), (.ref b203)])) rfl rfl (hb hby at_106)) ?_
      show own_G p e below (T215.setTop (mkF m 107 #[.val (.int p1), .val (.int p2), .val (.int p3), .val (.int p4), .val (.int (3 : Int32)), .val (.int bb0), .val (.int bb1), .val (.int bb2), .val (.ref b203), .val (.ref r), .unset, .unset] [(.int bb1)])) _
      refine own_go (fun _ k => XS.iload X215.here hx rfl (hb hby at_107) rfl k) ?_
      show own_G p e below (T215.setTop (mkF m 109 #[.val (.int p1), .val (.int p2), .val (.int p3), .val (.int p4), .val (.int (3 : Int32)), .val (.int bb0), .val (.int bb1), .val (.int bb2), .val (.ref b203), .val (.ref r), .unset, .unset] [(.int bb1), (.int bb1)])) _
      refine own_go (fun _ k => XS.icmpYes X215.here hx rfl (pc0 := 109) (pc' := 114) rfl (hb hby at_109) rfl (teq (rfl : bb1 = bb1)).1 (by decide) (by decide) k) ?_
      show own_G p e below (T215.setTop (mkF m 114 #[.val (.int p1), .val (.int p2), .val (.int p3), .val (.int p4), .val (.int (3 : Int32)), .val (.int bb0), .val (.int bb1), .val (.int bb2), .val (.ref b203), .val (.ref r), .unset, .unset] [])) _
      refine own_go (fun _ k => XS.iload X215.here hx rfl (hb hby at_114) rfl k) ?_
      show own_G p e below (T215.setTop (mkF m 116 #[.val (.int p1), .val (.int p2), .val (.int p3), .val (.int p4), .val (.int (3 : Int32)), .val (.int bb0), .val (.int bb1), .val (.int bb2), .val (.ref b203), .val (.ref r), .unset, .unset] [(.int (3 : Int32))])) _
      refine own_go (fun _ k => XS.iconst X215.here hx rfl (hb hby at_116) k) ?_
      show own_G p e below (T215.setTop (mkF m 117 #[.val (.int p1), .val (.int p2), .val (.int p3), .val (.int p4), .val (.int (3 : Int32)), .val (.int bb0), .val (.int bb1), .val (.int bb2), .val (.ref b203), .val (.ref r), .unset, .unset] [(.int (2 : Int32)), (.int (3 : Int32))])) _
      refine own_go (fun _ k => XS.icmpNo X215.here hx rfl (hb hby at_117) rfl (tlt (by decide : (2 : Int32) < (3 : Int32))).2.2.2 k) ?_
      show own_G p e below (T215.setTop (mkF m 120 #[.val (.int p1), .val (.int p2), .val (.int p3), .val (.int p4), .val (.int (3 : Int32)), .val (.int bb0), .val (.int bb1), .val (.int bb2), .val (.ref b203), .val (.ref r), .unset, .unset] [])) _
      refine own_go (fun _ k => XS.aload X215.here hx rfl (hb hby at_120) rfl rfl k) ?_
      show own_G p e below (T215.setTop (mkF m 122 #[.val (.int p1), .val (.int p2), .val (.int p3), .val (.int p4), .val (.int (3 : Int32)), .val (.int bb0), .val (.int bb1), .val (.int bb2), .val (.ref b203), .val (.ref r), .unset, .unset] [(.ref b203)])) _
      refine own_go (fun _ k => XS.iconst X215.here hx rfl (hb hby at_122) k) ?_
      show own_G p e below (T215.setTop (mkF m 123 #[.val (.int p1), .val (.int p2), .val (.int p3), .val (.int p4), .val (.int (3 : Int32)), .val (.int bb0), .val (.int bb1), .val (.int bb2), .val (.ref b203), .val (.ref r), .unset, .unset] [(.int (2 : Int32)), (.ref b203)])) _
      obtain ⟨cl222, Ar222, q222, S222, M222, B222, G222⟩ := id f217
      have hin222 : ¬ ((2 : Int32) < 0 ∨ cl222.slots.size ≤ ((2 : Int32)).toNatClampNeg) := inb_of S222 ⟨by decide, by decide⟩
      have hat222 : cl222.slots[((2 : Int32)).toNatClampNeg]? = some (.int bb2) := B222.at hin222 rfl
      refine own_go (X215.baloadBytes hx (j := (2 : Int32)) (v := (.int bb2)) Ar222.1 (State.isArrayOf_alike hZ.alike Ar222.2.1) Ar222.2.2 hin222 hat222 (g := (mkF m 123 #[.val (.int p1), .val (.int p2), .val (.int p3), .val (.int p4), .val (.int (3 : Int32)), .val (.int bb0), .val (.int bb1), .val (.int bb2), .val (.ref b203), .val (.ref r), .unset, .unset] [(.int (2 : Int32)), (.ref b203)])) rfl rfl (hb hby at_123)) ?_
      show own_G p e below (T215.setTop (mkF m 124 #[.val (.int p1), .val (.int p2), .val (.int p3), .val (.int p4), .val (.int (3 : Int32)), .val (.int bb0), .val (.int bb1), .val (.int bb2), .val (.ref b203), .val (.ref r), .unset, .unset] [(.int bb2)])) _
      refine own_go (fun _ k => XS.iload X215.here hx rfl (hb hby at_124) rfl k) ?_
      show own_G p e below (T215.setTop (mkF m 126 #[.val (.int p1), .val (.int p2), .val (.int p3), .val (.int p4), .val (.int (3 : Int32)), .val (.int bb0), .val (.int bb1), .val (.int bb2), .val (.ref b203), .val (.ref r), .unset, .unset] [(.int bb2), (.int bb2)])) _
      refine own_go (fun _ k => XS.icmpYes X215.here hx rfl (pc0 := 126) (pc' := 131) rfl (hb hby at_126) rfl (teq (rfl : bb2 = bb2)).1 (by decide) (by decide) k) ?_
      show own_G p e below (T215.setTop (mkF m 131 #[.val (.int p1), .val (.int p2), .val (.int p3), .val (.int p4), .val (.int (3 : Int32)), .val (.int bb0), .val (.int bb1), .val (.int bb2), .val (.ref b203), .val (.ref r), .unset, .unset] [])) _
      refine own_go (fun _ k => XS.iconst X215.here hx rfl (hb hby at_131) k) ?_
      show own_G p e below (T215.setTop (mkF m 132 #[.val (.int p1), .val (.int p2), .val (.int p3), .val (.int p4), .val (.int (3 : Int32)), .val (.int bb0), .val (.int bb1), .val (.int bb2), .val (.ref b203), .val (.ref r), .unset, .unset] [(.int (-1 : Int32))])) _
      refine own_go (fun _ k => XS.istore X215.here hx rfl (hb hby at_132) rfl (l' := #[.val (.int p1), .val (.int p2), .val (.int p3), .val (.int p4), .val (.int (3 : Int32)), .val (.int bb0), .val (.int bb1), .val (.int bb2), .val (.ref b203), .val (.ref r), .val (.int (-1 : Int32)), .unset]) rfl k) ?_
      show own_G p e below (T215.setTop (mkF m 134 #[.val (.int p1), .val (.int p2), .val (.int p3), .val (.int p4), .val (.int (3 : Int32)), .val (.int bb0), .val (.int bb1), .val (.int bb2), .val (.ref b203), .val (.ref r), .val (.int (-1 : Int32)), .unset] [])) _
      refine own_go (fun _ k => XS.iload X215.here hx rfl (hb hby at_134) rfl k) ?_
      show own_G p e below (T215.setTop (mkF m 136 #[.val (.int p1), .val (.int p2), .val (.int p3), .val (.int p4), .val (.int (3 : Int32)), .val (.int bb0), .val (.int bb1), .val (.int bb2), .val (.ref b203), .val (.ref r), .val (.int (-1 : Int32)), .unset] [(.int (3 : Int32))])) _
      refine own_go (fun _ k => XS.ifNo X215.here hx rfl (hb hby at_136) rfl ((if0 _ _).trans (tlt (by decide : (0 : Int32) < (3 : Int32))).2.2.2) k) ?_
      show own_G p e below (T215.setTop (mkF m 139 #[.val (.int p1), .val (.int p2), .val (.int p3), .val (.int p4), .val (.int (3 : Int32)), .val (.int bb0), .val (.int bb1), .val (.int bb2), .val (.ref b203), .val (.ref r), .val (.int (-1 : Int32)), .unset] [])) _
      refine own_go (fun _ k => XS.iload X215.here hx rfl (hb hby at_139) rfl k) ?_
      show own_G p e below (T215.setTop (mkF m 141 #[.val (.int p1), .val (.int p2), .val (.int p3), .val (.int p4), .val (.int (3 : Int32)), .val (.int bb0), .val (.int bb1), .val (.int bb2), .val (.ref b203), .val (.ref r), .val (.int (-1 : Int32)), .unset] [(.int bb0)])) _
      refine own_go (fun _ k => XS.iconst X215.here hx rfl (hb hby at_141) k) ?_
      show own_G p e below (T215.setTop (mkF m 142 #[.val (.int p1), .val (.int p2), .val (.int p3), .val (.int p4), .val (.int (3 : Int32)), .val (.int bb0), .val (.int bb1), .val (.int bb2), .val (.ref b203), .val (.ref r), .val (.int (-1 : Int32)), .unset] [(.int (-1 : Int32)), (.int bb0)])) _
      by_cases hc142_223 : bb0 = (-1 : Int32)
      · refine own_go (fun _ k => XS.icmpYes X215.here hx rfl (pc0 := 142) (pc' := 148) rfl (hb hby at_142) rfl (teq hc142_223).1 (by decide) (by decide) k) ?_
        show own_G p e below (T215.setTop (mkF m 148 #[.val (.int p1), .val (.int p2), .val (.int p3), .val (.int p4), .val (.int (3 : Int32)), .val (.int bb0), .val (.int bb1), .val (.int bb2), .val (.ref b203), .val (.ref r), .val (.int (-1 : Int32)), .unset] [])) _
        refine own_go (fun _ k => XS.iload X215.here hx rfl (hb hby at_148) rfl k) ?_
        show own_G p e below (T215.setTop (mkF m 150 #[.val (.int p1), .val (.int p2), .val (.int p3), .val (.int p4), .val (.int (3 : Int32)), .val (.int bb0), .val (.int bb1), .val (.int bb2), .val (.ref b203), .val (.ref r), .val (.int (-1 : Int32)), .unset] [(.int (3 : Int32))])) _
        refine own_go (fun _ k => XS.iconst X215.here hx rfl (hb hby at_150) k) ?_
        show own_G p e below (T215.setTop (mkF m 151 #[.val (.int p1), .val (.int p2), .val (.int p3), .val (.int p4), .val (.int (3 : Int32)), .val (.int bb0), .val (.int bb1), .val (.int bb2), .val (.ref b203), .val (.ref r), .val (.int (-1 : Int32)), .unset] [(.int (1 : Int32)), (.int (3 : Int32))])) _
        refine own_go (fun _ k => XS.icmpNo X215.here hx rfl (hb hby at_151) rfl (tlt (by decide : (1 : Int32) < (3 : Int32))).2.2.2 k) ?_
        show own_G p e below (T215.setTop (mkF m 154 #[.val (.int p1), .val (.int p2), .val (.int p3), .val (.int p4), .val (.int (3 : Int32)), .val (.int bb0), .val (.int bb1), .val (.int bb2), .val (.ref b203), .val (.ref r), .val (.int (-1 : Int32)), .unset] [])) _
        refine own_go (fun _ k => XS.iload X215.here hx rfl (hb hby at_154) rfl k) ?_
        show own_G p e below (T215.setTop (mkF m 156 #[.val (.int p1), .val (.int p2), .val (.int p3), .val (.int p4), .val (.int (3 : Int32)), .val (.int bb0), .val (.int bb1), .val (.int bb2), .val (.ref b203), .val (.ref r), .val (.int (-1 : Int32)), .unset] [(.int bb1)])) _
        refine own_go (fun _ k => XS.iconst X215.here hx rfl (hb hby at_156) k) ?_
        show own_G p e below (T215.setTop (mkF m 157 #[.val (.int p1), .val (.int p2), .val (.int p3), .val (.int p4), .val (.int (3 : Int32)), .val (.int bb0), .val (.int bb1), .val (.int bb2), .val (.ref b203), .val (.ref r), .val (.int (-1 : Int32)), .unset] [(.int (-1 : Int32)), (.int bb1)])) _
        by_cases hc157_224 : bb1 = (-1 : Int32)
        · refine own_go (fun _ k => XS.icmpYes X215.here hx rfl (pc0 := 157) (pc' := 163) rfl (hb hby at_157) rfl (teq hc157_224).1 (by decide) (by decide) k) ?_
          show own_G p e below (T215.setTop (mkF m 163 #[.val (.int p1), .val (.int p2), .val (.int p3), .val (.int p4), .val (.int (3 : Int32)), .val (.int bb0), .val (.int bb1), .val (.int bb2), .val (.ref b203), .val (.ref r), .val (.int (-1 : Int32)), .unset] [])) _
          refine own_go (fun _ k => XS.iload X215.here hx rfl (hb hby at_163) rfl k) ?_
          show own_G p e below (T215.setTop (mkF m 165 #[.val (.int p1), .val (.int p2), .val (.int p3), .val (.int p4), .val (.int (3 : Int32)), .val (.int bb0), .val (.int bb1), .val (.int bb2), .val (.ref b203), .val (.ref r), .val (.int (-1 : Int32)), .unset] [(.int (3 : Int32))])) _
          refine own_go (fun _ k => XS.iconst X215.here hx rfl (hb hby at_165) k) ?_
          show own_G p e below (T215.setTop (mkF m 166 #[.val (.int p1), .val (.int p2), .val (.int p3), .val (.int p4), .val (.int (3 : Int32)), .val (.int bb0), .val (.int bb1), .val (.int bb2), .val (.ref b203), .val (.ref r), .val (.int (-1 : Int32)), .unset] [(.int (2 : Int32)), (.int (3 : Int32))])) _
          refine own_go (fun _ k => XS.icmpNo X215.here hx rfl (hb hby at_166) rfl (tlt (by decide : (2 : Int32) < (3 : Int32))).2.2.2 k) ?_
          show own_G p e below (T215.setTop (mkF m 169 #[.val (.int p1), .val (.int p2), .val (.int p3), .val (.int p4), .val (.int (3 : Int32)), .val (.int bb0), .val (.int bb1), .val (.int bb2), .val (.ref b203), .val (.ref r), .val (.int (-1 : Int32)), .unset] [])) _
          refine own_go (fun _ k => XS.iload X215.here hx rfl (hb hby at_169) rfl k) ?_
          show own_G p e below (T215.setTop (mkF m 171 #[.val (.int p1), .val (.int p2), .val (.int p3), .val (.int p4), .val (.int (3 : Int32)), .val (.int bb0), .val (.int bb1), .val (.int bb2), .val (.ref b203), .val (.ref r), .val (.int (-1 : Int32)), .unset] [(.int bb2)])) _
          refine own_go (fun _ k => XS.iconst X215.here hx rfl (hb hby at_171) k) ?_
          show own_G p e below (T215.setTop (mkF m 172 #[.val (.int p1), .val (.int p2), .val (.int p3), .val (.int p4), .val (.int (3 : Int32)), .val (.int bb0), .val (.int bb1), .val (.int bb2), .val (.ref b203), .val (.ref r), .val (.int (-1 : Int32)), .unset] [(.int (-1 : Int32)), (.int bb2)])) _
          refine own_go (fun _ k => XS.icmpNo X215.here hx rfl (hb hby at_172) rfl (feq c2).1 k) ?_
          show own_G p e below (T215.setTop (mkF m 175 #[.val (.int p1), .val (.int p2), .val (.int p3), .val (.int p4), .val (.int (3 : Int32)), .val (.int bb0), .val (.int bb1), .val (.int bb2), .val (.ref b203), .val (.ref r), .val (.int (-1 : Int32)), .unset] [])) _
          refine own_go (fun _ k => XS.iconst X215.here hx rfl (hb hby at_175) k) ?_
          show own_G p e below (T215.setTop (mkF m 176 #[.val (.int p1), .val (.int p2), .val (.int p3), .val (.int p4), .val (.int (3 : Int32)), .val (.int bb0), .val (.int bb1), .val (.int bb2), .val (.ref b203), .val (.ref r), .val (.int (-1 : Int32)), .unset] [(.int (2 : Int32))])) _
          refine own_go (fun _ k => XS.istore X215.here hx rfl (hb hby at_176) rfl (l' := #[.val (.int p1), .val (.int p2), .val (.int p3), .val (.int p4), .val (.int (3 : Int32)), .val (.int bb0), .val (.int bb1), .val (.int bb2), .val (.ref b203), .val (.ref r), .val (.int (2 : Int32)), .unset]) rfl k) ?_
          show own_G p e below (T215.setTop (mkF m 178 #[.val (.int p1), .val (.int p2), .val (.int p3), .val (.int p4), .val (.int (3 : Int32)), .val (.int bb0), .val (.int bb1), .val (.int bb2), .val (.ref b203), .val (.ref r), .val (.int (2 : Int32)), .unset] [])) _
          refine own_go (fun _ k => XS.iload X215.here hx rfl (hb hby at_178) rfl k) ?_
          show own_G p e below (T215.setTop (mkF m 180 #[.val (.int p1), .val (.int p2), .val (.int p3), .val (.int p4), .val (.int (3 : Int32)), .val (.int bb0), .val (.int bb1), .val (.int bb2), .val (.ref b203), .val (.ref r), .val (.int (2 : Int32)), .unset] [(.int (2 : Int32))])) _
          refine own_go (fun _ k => XS.ifYes X215.here hx rfl (pc0 := 180) (pc' := 194) rfl (hb hby at_180) rfl ((if0 _ _).trans (flt (by decide : ¬ ((2 : Int32) < (0 : Int32)))).2.1) (by decide) (by decide) k) ?_
          show own_G p e below (T215.setTop (mkF m 194 #[.val (.int p1), .val (.int p2), .val (.int p3), .val (.int p4), .val (.int (3 : Int32)), .val (.int bb0), .val (.int bb1), .val (.int bb2), .val (.ref b203), .val (.ref r), .val (.int (2 : Int32)), .unset] [])) _
          refine own_go (fun _ k => XS.aload X215.here hx rfl (hb hby at_194) rfl rfl k) ?_
          show own_G p e below (T215.setTop (mkF m 196 #[.val (.int p1), .val (.int p2), .val (.int p3), .val (.int p4), .val (.int (3 : Int32)), .val (.int bb0), .val (.int bb1), .val (.int bb2), .val (.ref b203), .val (.ref r), .val (.int (2 : Int32)), .unset] [(.ref r)])) _
          refine own_go (fun _ k => XS.ifnullNo X215.here hx rfl (hb hby at_196) rfl k) ?_
          show own_G p e below (T215.setTop (mkF m 199 #[.val (.int p1), .val (.int p2), .val (.int p3), .val (.int p4), .val (.int (3 : Int32)), .val (.int bb0), .val (.int bb1), .val (.int bb2), .val (.ref b203), .val (.ref r), .val (.int (2 : Int32)), .unset] [])) _
          refine own_go (fun _ k => XS.aload X215.here hx rfl (hb hby at_199) rfl rfl k) ?_
          show own_G p e below (T215.setTop (mkF m 201 #[.val (.int p1), .val (.int p2), .val (.int p3), .val (.int p4), .val (.int (3 : Int32)), .val (.int bb0), .val (.int bb1), .val (.int bb2), .val (.ref b203), .val (.ref r), .val (.int (2 : Int32)), .unset] [(.ref r)])) _
          obtain ⟨cl225, Ar225, q225, S225, M225, B225, G225⟩ := id Vr
          refine own_go (X215.arraylength hx Ar225.1 (State.isArrayOf_alike hZ.alike Ar225.2.1) (g := (mkF m 201 #[.val (.int p1), .val (.int p2), .val (.int p3), .val (.int p4), .val (.int (3 : Int32)), .val (.int bb0), .val (.int bb1), .val (.int bb2), .val (.ref b203), .val (.ref r), .val (.int (2 : Int32)), .unset] [(.ref r)])) rfl rfl (hb hby at_201)) ?_
          rw [len_of S225 M225]
          show own_G p e below (T215.setTop (mkF m 202 #[.val (.int p1), .val (.int p2), .val (.int p3), .val (.int p4), .val (.int (3 : Int32)), .val (.int bb0), .val (.int bb1), .val (.int bb2), .val (.ref b203), .val (.ref r), .val (.int (2 : Int32)), .unset] [(.int (3 : Int32))])) _
          refine own_go (fun _ k => XS.iload X215.here hx rfl (hb hby at_202) rfl k) ?_
          show own_G p e below (T215.setTop (mkF m 204 #[.val (.int p1), .val (.int p2), .val (.int p3), .val (.int p4), .val (.int (3 : Int32)), .val (.int bb0), .val (.int bb1), .val (.int bb2), .val (.ref b203), .val (.ref r), .val (.int (2 : Int32)), .unset] [(.int (2 : Int32)), (.int (3 : Int32))])) _
          refine own_go (fun _ k => XS.iconst X215.here hx rfl (hb hby at_204) k) ?_
          show own_G p e below (T215.setTop (mkF m 205 #[.val (.int p1), .val (.int p2), .val (.int p3), .val (.int p4), .val (.int (3 : Int32)), .val (.int bb0), .val (.int bb1), .val (.int bb2), .val (.ref b203), .val (.ref r), .val (.int (2 : Int32)), .unset] [(.int (1 : Int32)), (.int (2 : Int32)), (.int (3 : Int32))])) _
          refine own_go (fun _ k => XS.iadd X215.here hx rfl (hb hby at_205) rfl k) ?_
          show own_G p e below (T215.setTop (mkF m 206 #[.val (.int p1), .val (.int p2), .val (.int p3), .val (.int p4), .val (.int (3 : Int32)), .val (.int bb0), .val (.int bb1), .val (.int bb2), .val (.ref b203), .val (.ref r), .val (.int (2 : Int32)), .unset] [(.int (3 : Int32)), (.int (3 : Int32))])) _
          refine own_go (fun _ k => XS.icmpYes X215.here hx rfl (pc0 := 206) (pc' := 211) rfl (hb hby at_206) rfl (teq (by decide : (3 : Int32) = (3 : Int32))).1 (by decide) (by decide) k) ?_
          show own_G p e below (T215.setTop (mkF m 211 #[.val (.int p1), .val (.int p2), .val (.int p3), .val (.int p4), .val (.int (3 : Int32)), .val (.int bb0), .val (.int bb1), .val (.int bb2), .val (.ref b203), .val (.ref r), .val (.int (2 : Int32)), .unset] [])) _
          refine own_go (fun _ k => XS.iload X215.here hx rfl (hb hby at_211) rfl k) ?_
          show own_G p e below (T215.setTop (mkF m 213 #[.val (.int p1), .val (.int p2), .val (.int p3), .val (.int p4), .val (.int (3 : Int32)), .val (.int bb0), .val (.int bb1), .val (.int bb2), .val (.ref b203), .val (.ref r), .val (.int (2 : Int32)), .unset] [(.int (2 : Int32))])) _
          refine own_go (fun _ k => XS.ifNo X215.here hx rfl (hb hby at_213) rfl ((if0 _ _).trans (tlt (by decide : (0 : Int32) < (2 : Int32))).2.2.2) k) ?_
          show own_G p e below (T215.setTop (mkF m 216 #[.val (.int p1), .val (.int p2), .val (.int p3), .val (.int p4), .val (.int (3 : Int32)), .val (.int bb0), .val (.int bb1), .val (.int bb2), .val (.ref b203), .val (.ref r), .val (.int (2 : Int32)), .unset] [])) _
          refine own_go (fun _ k => XS.aload X215.here hx rfl (hb hby at_216) rfl rfl k) ?_
          show own_G p e below (T215.setTop (mkF m 218 #[.val (.int p1), .val (.int p2), .val (.int p3), .val (.int p4), .val (.int (3 : Int32)), .val (.int bb0), .val (.int bb1), .val (.int bb2), .val (.ref b203), .val (.ref r), .val (.int (2 : Int32)), .unset] [(.ref r)])) _
          refine own_go (fun _ k => XS.iconst X215.here hx rfl (hb hby at_218) k) ?_
          show own_G p e below (T215.setTop (mkF m 219 #[.val (.int p1), .val (.int p2), .val (.int p3), .val (.int p4), .val (.int (3 : Int32)), .val (.int bb0), .val (.int bb1), .val (.int bb2), .val (.ref b203), .val (.ref r), .val (.int (2 : Int32)), .unset] [(.int (0 : Int32)), (.ref r)])) _
          obtain ⟨cl226, Ar226, q226, S226, M226, B226, G226⟩ := id Vr
          have hin226 : ¬ ((0 : Int32) < 0 ∨ cl226.slots.size ≤ ((0 : Int32)).toNatClampNeg) := inb_of S226 ⟨by decide, by decide⟩
          have hat226 : cl226.slots[((0 : Int32)).toNatClampNeg]? = some (.int bb0) := B226.at hin226 rfl
          refine own_go (X215.baloadBytes hx (j := (0 : Int32)) (v := (.int bb0)) Ar226.1 (State.isArrayOf_alike hZ.alike Ar226.2.1) Ar226.2.2 hin226 hat226 (g := (mkF m 219 #[.val (.int p1), .val (.int p2), .val (.int p3), .val (.int p4), .val (.int (3 : Int32)), .val (.int bb0), .val (.int bb1), .val (.int bb2), .val (.ref b203), .val (.ref r), .val (.int (2 : Int32)), .unset] [(.int (0 : Int32)), (.ref r)])) rfl rfl (hb hby at_219)) ?_
          show own_G p e below (T215.setTop (mkF m 220 #[.val (.int p1), .val (.int p2), .val (.int p3), .val (.int p4), .val (.int (3 : Int32)), .val (.int bb0), .val (.int bb1), .val (.int bb2), .val (.ref b203), .val (.ref r), .val (.int (2 : Int32)), .unset] [(.int bb0)])) _
          refine own_go (fun _ k => XS.iload X215.here hx rfl (hb hby at_220) rfl k) ?_
          show own_G p e below (T215.setTop (mkF m 222 #[.val (.int p1), .val (.int p2), .val (.int p3), .val (.int p4), .val (.int (3 : Int32)), .val (.int bb0), .val (.int bb1), .val (.int bb2), .val (.ref b203), .val (.ref r), .val (.int (2 : Int32)), .unset] [(.int bb0), (.int bb0)])) _
          refine own_go (fun _ k => XS.icmpYes X215.here hx rfl (pc0 := 222) (pc' := 227) rfl (hb hby at_222) rfl (teq (rfl : bb0 = bb0)).1 (by decide) (by decide) k) ?_
          show own_G p e below (T215.setTop (mkF m 227 #[.val (.int p1), .val (.int p2), .val (.int p3), .val (.int p4), .val (.int (3 : Int32)), .val (.int bb0), .val (.int bb1), .val (.int bb2), .val (.ref b203), .val (.ref r), .val (.int (2 : Int32)), .unset] [])) _
          refine own_go (fun _ k => XS.iload X215.here hx rfl (hb hby at_227) rfl k) ?_
          show own_G p e below (T215.setTop (mkF m 229 #[.val (.int p1), .val (.int p2), .val (.int p3), .val (.int p4), .val (.int (3 : Int32)), .val (.int bb0), .val (.int bb1), .val (.int bb2), .val (.ref b203), .val (.ref r), .val (.int (2 : Int32)), .unset] [(.int (2 : Int32))])) _
          refine own_go (fun _ k => XS.iconst X215.here hx rfl (hb hby at_229) k) ?_
          show own_G p e below (T215.setTop (mkF m 230 #[.val (.int p1), .val (.int p2), .val (.int p3), .val (.int p4), .val (.int (3 : Int32)), .val (.int bb0), .val (.int bb1), .val (.int bb2), .val (.ref b203), .val (.ref r), .val (.int (2 : Int32)), .unset] [(.int (1 : Int32)), (.int (2 : Int32))])) _
          refine own_go (fun _ k => XS.icmpNo X215.here hx rfl (hb hby at_230) rfl (tlt (by decide : (1 : Int32) < (2 : Int32))).2.2.2 k) ?_
          show own_G p e below (T215.setTop (mkF m 233 #[.val (.int p1), .val (.int p2), .val (.int p3), .val (.int p4), .val (.int (3 : Int32)), .val (.int bb0), .val (.int bb1), .val (.int bb2), .val (.ref b203), .val (.ref r), .val (.int (2 : Int32)), .unset] [])) _
          refine own_go (fun _ k => XS.aload X215.here hx rfl (hb hby at_233) rfl rfl k) ?_
          show own_G p e below (T215.setTop (mkF m 235 #[.val (.int p1), .val (.int p2), .val (.int p3), .val (.int p4), .val (.int (3 : Int32)), .val (.int bb0), .val (.int bb1), .val (.int bb2), .val (.ref b203), .val (.ref r), .val (.int (2 : Int32)), .unset] [(.ref r)])) _
          refine own_go (fun _ k => XS.iconst X215.here hx rfl (hb hby at_235) k) ?_
          show own_G p e below (T215.setTop (mkF m 236 #[.val (.int p1), .val (.int p2), .val (.int p3), .val (.int p4), .val (.int (3 : Int32)), .val (.int bb0), .val (.int bb1), .val (.int bb2), .val (.ref b203), .val (.ref r), .val (.int (2 : Int32)), .unset] [(.int (1 : Int32)), (.ref r)])) _
          obtain ⟨cl227, Ar227, q227, S227, M227, B227, G227⟩ := id Vr
          have hin227 : ¬ ((1 : Int32) < 0 ∨ cl227.slots.size ≤ ((1 : Int32)).toNatClampNeg) := inb_of S227 ⟨by decide, by decide⟩
          have hat227 : cl227.slots[((1 : Int32)).toNatClampNeg]? = some (.int bb1) := B227.at hin227 rfl
          refine own_go (X215.baloadBytes hx (j := (1 : Int32)) (v := (.int bb1)) Ar227.1 (State.isArrayOf_alike hZ.alike Ar227.2.1) Ar227.2.2 hin227 hat227 (g := (mkF m 236 #[.val (.int p1), .val (.int p2), .val (.int p3), .val (.int p4), .val (.int (3 : Int32)), .val (.int bb0), .val (.int bb1), .val (.int bb2), .val (.ref b203), .val (.ref r), .val (.int (2 : Int32)), .unset] [(.int (1 : Int32)), (.ref r)])) rfl rfl (hb hby at_236)) ?_
          show own_G p e below (T215.setTop (mkF m 237 #[.val (.int p1), .val (.int p2), .val (.int p3), .val (.int p4), .val (.int (3 : Int32)), .val (.int bb0), .val (.int bb1), .val (.int bb2), .val (.ref b203), .val (.ref r), .val (.int (2 : Int32)), .unset] [(.int bb1)])) _
          refine own_go (fun _ k => XS.iload X215.here hx rfl (hb hby at_237) rfl k) ?_
          show own_G p e below (T215.setTop (mkF m 239 #[.val (.int p1), .val (.int p2), .val (.int p3), .val (.int p4), .val (.int (3 : Int32)), .val (.int bb0), .val (.int bb1), .val (.int bb2), .val (.ref b203), .val (.ref r), .val (.int (2 : Int32)), .unset] [(.int bb1), (.int bb1)])) _
          refine own_go (fun _ k => XS.icmpYes X215.here hx rfl (pc0 := 239) (pc' := 244) rfl (hb hby at_239) rfl (teq (rfl : bb1 = bb1)).1 (by decide) (by decide) k) ?_
          show own_G p e below (T215.setTop (mkF m 244 #[.val (.int p1), .val (.int p2), .val (.int p3), .val (.int p4), .val (.int (3 : Int32)), .val (.int bb0), .val (.int bb1), .val (.int bb2), .val (.ref b203), .val (.ref r), .val (.int (2 : Int32)), .unset] [])) _
          refine own_go (fun _ k => XS.iload X215.here hx rfl (hb hby at_244) rfl k) ?_
          show own_G p e below (T215.setTop (mkF m 246 #[.val (.int p1), .val (.int p2), .val (.int p3), .val (.int p4), .val (.int (3 : Int32)), .val (.int bb0), .val (.int bb1), .val (.int bb2), .val (.ref b203), .val (.ref r), .val (.int (2 : Int32)), .unset] [(.int (2 : Int32))])) _
          refine own_go (fun _ k => XS.ifYes X215.here hx rfl (pc0 := 246) (pc' := 254) rfl (hb hby at_246) rfl ((if0 _ _).trans (feq (by decide : ¬ ((2 : Int32) = (0 : Int32)))).2) (by decide) (by decide) k) ?_
          show own_G p e below (T215.setTop (mkF m 254 #[.val (.int p1), .val (.int p2), .val (.int p3), .val (.int p4), .val (.int (3 : Int32)), .val (.int bb0), .val (.int bb1), .val (.int bb2), .val (.ref b203), .val (.ref r), .val (.int (2 : Int32)), .unset] [])) _
          refine own_go (fun _ k => XS.iload X215.here hx rfl (hb hby at_254) rfl k) ?_
          show own_G p e below (T215.setTop (mkF m 256 #[.val (.int p1), .val (.int p2), .val (.int p3), .val (.int p4), .val (.int (3 : Int32)), .val (.int bb0), .val (.int bb1), .val (.int bb2), .val (.ref b203), .val (.ref r), .val (.int (2 : Int32)), .unset] [(.int (2 : Int32))])) _
          refine own_go (fun _ k => XS.iconst X215.here hx rfl (hb hby at_256) k) ?_
          show own_G p e below (T215.setTop (mkF m 257 #[.val (.int p1), .val (.int p2), .val (.int p3), .val (.int p4), .val (.int (3 : Int32)), .val (.int bb0), .val (.int bb1), .val (.int bb2), .val (.ref b203), .val (.ref r), .val (.int (2 : Int32)), .unset] [(.int (1 : Int32)), (.int (2 : Int32))])) _
          refine own_go (fun _ k => XS.icmpYes X215.here hx rfl (pc0 := 257) (pc' := 265) rfl (hb hby at_257) rfl (feq (by decide : ¬ ((2 : Int32) = (1 : Int32)))).2 (by decide) (by decide) k) ?_
          show own_G p e below (T215.setTop (mkF m 265 #[.val (.int p1), .val (.int p2), .val (.int p3), .val (.int p4), .val (.int (3 : Int32)), .val (.int bb0), .val (.int bb1), .val (.int bb2), .val (.ref b203), .val (.ref r), .val (.int (2 : Int32)), .unset] [])) _
          refine own_go (fun _ k => XS.iload X215.here hx rfl (hb hby at_265) rfl k) ?_
          show own_G p e below (T215.setTop (mkF m 267 #[.val (.int p1), .val (.int p2), .val (.int p3), .val (.int p4), .val (.int (3 : Int32)), .val (.int bb0), .val (.int bb1), .val (.int bb2), .val (.ref b203), .val (.ref r), .val (.int (2 : Int32)), .unset] [(.int bb2)])) _
          refine own_go (fun _ k => XS.istore X215.here hx rfl (hb hby at_267) rfl (l' := #[.val (.int p1), .val (.int p2), .val (.int p3), .val (.int p4), .val (.int (3 : Int32)), .val (.int bb0), .val (.int bb1), .val (.int bb2), .val (.ref b203), .val (.ref r), .val (.int (2 : Int32)), .val (.int bb2)]) rfl k) ?_
          show own_G p e below (T215.setTop (mkF m 269 #[.val (.int p1), .val (.int p2), .val (.int p3), .val (.int p4), .val (.int (3 : Int32)), .val (.int bb0), .val (.int bb1), .val (.int bb2), .val (.ref b203), .val (.ref r), .val (.int (2 : Int32)), .val (.int bb2)] [])) _
          refine own_go (fun _ k => XS.aload X215.here hx rfl (hb hby at_269) rfl rfl k) ?_
          show own_G p e below (T215.setTop (mkF m 271 #[.val (.int p1), .val (.int p2), .val (.int p3), .val (.int p4), .val (.int (3 : Int32)), .val (.int bb0), .val (.int bb1), .val (.int bb2), .val (.ref b203), .val (.ref r), .val (.int (2 : Int32)), .val (.int bb2)] [(.ref r)])) _
          refine own_go (fun _ k => XS.iload X215.here hx rfl (hb hby at_271) rfl k) ?_
          show own_G p e below (T215.setTop (mkF m 273 #[.val (.int p1), .val (.int p2), .val (.int p3), .val (.int p4), .val (.int (3 : Int32)), .val (.int bb0), .val (.int bb1), .val (.int bb2), .val (.ref b203), .val (.ref r), .val (.int (2 : Int32)), .val (.int bb2)] [(.int (2 : Int32)), (.ref r)])) _
          obtain ⟨cl228, Ar228, q228, S228, M228, B228, G228⟩ := id Vr
          have hin228 : ¬ ((2 : Int32) < 0 ∨ cl228.slots.size ≤ ((2 : Int32)).toNatClampNeg) := inb_of S228 ⟨by decide, by decide⟩
          have hat228 : cl228.slots[((2 : Int32)).toNatClampNeg]? = some (.int ((bb2 + (1 : Int32)).toInt8.toInt32)) := B228.at hin228 rfl
          refine own_go (X215.baloadBytes hx (j := (2 : Int32)) (v := (.int ((bb2 + (1 : Int32)).toInt8.toInt32))) Ar228.1 (State.isArrayOf_alike hZ.alike Ar228.2.1) Ar228.2.2 hin228 hat228 (g := (mkF m 273 #[.val (.int p1), .val (.int p2), .val (.int p3), .val (.int p4), .val (.int (3 : Int32)), .val (.int bb0), .val (.int bb1), .val (.int bb2), .val (.ref b203), .val (.ref r), .val (.int (2 : Int32)), .val (.int bb2)] [(.int (2 : Int32)), (.ref r)])) rfl rfl (hb hby at_273)) ?_
          show own_G p e below (T215.setTop (mkF m 274 #[.val (.int p1), .val (.int p2), .val (.int p3), .val (.int p4), .val (.int (3 : Int32)), .val (.int bb0), .val (.int bb1), .val (.int bb2), .val (.ref b203), .val (.ref r), .val (.int (2 : Int32)), .val (.int bb2)] [(.int ((bb2 + (1 : Int32)).toInt8.toInt32))])) _
          refine own_go (fun _ k => XS.iload X215.here hx rfl (hb hby at_274) rfl k) ?_
          show own_G p e below (T215.setTop (mkF m 276 #[.val (.int p1), .val (.int p2), .val (.int p3), .val (.int p4), .val (.int (3 : Int32)), .val (.int bb0), .val (.int bb1), .val (.int bb2), .val (.ref b203), .val (.ref r), .val (.int (2 : Int32)), .val (.int bb2)] [(.int bb2), (.int ((bb2 + (1 : Int32)).toInt8.toInt32))])) _
          refine own_go (fun _ k => XS.iconst X215.here hx rfl (hb hby at_276) k) ?_
          show own_G p e below (T215.setTop (mkF m 277 #[.val (.int p1), .val (.int p2), .val (.int p3), .val (.int p4), .val (.int (3 : Int32)), .val (.int bb0), .val (.int bb1), .val (.int bb2), .val (.ref b203), .val (.ref r), .val (.int (2 : Int32)), .val (.int bb2)] [(.int (1 : Int32)), (.int bb2), (.int ((bb2 + (1 : Int32)).toInt8.toInt32))])) _
          refine own_go (fun _ k => XS.iadd X215.here hx rfl (hb hby at_277) rfl k) ?_
          show own_G p e below (T215.setTop (mkF m 278 #[.val (.int p1), .val (.int p2), .val (.int p3), .val (.int p4), .val (.int (3 : Int32)), .val (.int bb0), .val (.int bb1), .val (.int bb2), .val (.ref b203), .val (.ref r), .val (.int (2 : Int32)), .val (.int bb2)] [(.int (bb2 + (1 : Int32))), (.int ((bb2 + (1 : Int32)).toInt8.toInt32))])) _
          refine own_go (fun _ k => XS.i2b X215.here hx rfl (hb hby at_278) rfl k) ?_
          show own_G p e below (T215.setTop (mkF m 279 #[.val (.int p1), .val (.int p2), .val (.int p3), .val (.int p4), .val (.int (3 : Int32)), .val (.int bb0), .val (.int bb1), .val (.int bb2), .val (.ref b203), .val (.ref r), .val (.int (2 : Int32)), .val (.int bb2)] [(.int ((bb2 + (1 : Int32)).toInt8.toInt32)), (.int ((bb2 + (1 : Int32)).toInt8.toInt32))])) _
          refine own_go (fun _ k => XS.icmpNo X215.here hx rfl (hb hby at_279) rfl (teq (rfl : ((bb2 + (1 : Int32)).toInt8.toInt32) = ((bb2 + (1 : Int32)).toInt8.toInt32))).2 k) ?_
          show own_G p e below (T215.setTop (mkF m 282 #[.val (.int p1), .val (.int p2), .val (.int p3), .val (.int p4), .val (.int (3 : Int32)), .val (.int bb0), .val (.int bb1), .val (.int bb2), .val (.ref b203), .val (.ref r), .val (.int (2 : Int32)), .val (.int bb2)] [])) _
          refine own_go (fun _ k => XS.iconst X215.here hx rfl (hb hby at_282) k) ?_
          show own_G p e below (T215.setTop (mkF m 283 #[.val (.int p1), .val (.int p2), .val (.int p3), .val (.int p4), .val (.int (3 : Int32)), .val (.int bb0), .val (.int bb1), .val (.int bb2), .val (.ref b203), .val (.ref r), .val (.int (2 : Int32)), .val (.int bb2)] [(.int (1 : Int32))])) _
          refine own_go (fun _ k => XS.goto X215.here hx rfl (pc0 := 283) (pc' := 287) rfl (hb hby at_283) (by decide) (by decide) k) ?_
          show own_G p e below (T215.setTop (mkF m 287 #[.val (.int p1), .val (.int p2), .val (.int p3), .val (.int p4), .val (.int (3 : Int32)), .val (.int bb0), .val (.int bb1), .val (.int bb2), .val (.ref b203), .val (.ref r), .val (.int (2 : Int32)), .val (.int bb2)] [(.int (1 : Int32))])) _
          refine own_ret X215 hlk (v := some (.int (1 : Int32))) (fun h => by rw [hret] at h; cases h) (Q0 Z p1 p2 p3 p4 h0 n0) (own_retI X215 hx (t := .boolean) hret rfl (Or.inl ⟨rfl, by simp, _, rfl⟩) (hb hby at_287)) (by decide) (by decide) ?_
          show Q0 Z p1 p2 p3 p4 h0 n0 _ T215.heap _
          exact ⟨rfl, N215⟩
        · refine own_go (fun _ k => XS.icmpNo X215.here hx rfl (hb hby at_157) rfl (feq hc157_224).1 k) ?_
          show own_G p e below (T215.setTop (mkF m 160 #[.val (.int p1), .val (.int p2), .val (.int p3), .val (.int p4), .val (.int (3 : Int32)), .val (.int bb0), .val (.int bb1), .val (.int bb2), .val (.ref b203), .val (.ref r), .val (.int (-1 : Int32)), .unset] [])) _
          refine own_go (fun _ k => XS.iconst X215.here hx rfl (hb hby at_160) k) ?_
          show own_G p e below (T215.setTop (mkF m 161 #[.val (.int p1), .val (.int p2), .val (.int p3), .val (.int p4), .val (.int (3 : Int32)), .val (.int bb0), .val (.int bb1), .val (.int bb2), .val (.ref b203), .val (.ref r), .val (.int (-1 : Int32)), .unset] [(.int (1 : Int32))])) _
          refine own_go (fun _ k => XS.istore X215.here hx rfl (hb hby at_161) rfl (l' := #[.val (.int p1), .val (.int p2), .val (.int p3), .val (.int p4), .val (.int (3 : Int32)), .val (.int bb0), .val (.int bb1), .val (.int bb2), .val (.ref b203), .val (.ref r), .val (.int (1 : Int32)), .unset]) rfl k) ?_
          show own_G p e below (T215.setTop (mkF m 163 #[.val (.int p1), .val (.int p2), .val (.int p3), .val (.int p4), .val (.int (3 : Int32)), .val (.int bb0), .val (.int bb1), .val (.int bb2), .val (.ref b203), .val (.ref r), .val (.int (1 : Int32)), .unset] [])) _
          refine own_go (fun _ k => XS.iload X215.here hx rfl (hb hby at_163) rfl k) ?_
          show own_G p e below (T215.setTop (mkF m 165 #[.val (.int p1), .val (.int p2), .val (.int p3), .val (.int p4), .val (.int (3 : Int32)), .val (.int bb0), .val (.int bb1), .val (.int bb2), .val (.ref b203), .val (.ref r), .val (.int (1 : Int32)), .unset] [(.int (3 : Int32))])) _
          refine own_go (fun _ k => XS.iconst X215.here hx rfl (hb hby at_165) k) ?_
          show own_G p e below (T215.setTop (mkF m 166 #[.val (.int p1), .val (.int p2), .val (.int p3), .val (.int p4), .val (.int (3 : Int32)), .val (.int bb0), .val (.int bb1), .val (.int bb2), .val (.ref b203), .val (.ref r), .val (.int (1 : Int32)), .unset] [(.int (2 : Int32)), (.int (3 : Int32))])) _
          refine own_go (fun _ k => XS.icmpNo X215.here hx rfl (hb hby at_166) rfl (tlt (by decide : (2 : Int32) < (3 : Int32))).2.2.2 k) ?_
          show own_G p e below (T215.setTop (mkF m 169 #[.val (.int p1), .val (.int p2), .val (.int p3), .val (.int p4), .val (.int (3 : Int32)), .val (.int bb0), .val (.int bb1), .val (.int bb2), .val (.ref b203), .val (.ref r), .val (.int (1 : Int32)), .unset] [])) _
          refine own_go (fun _ k => XS.iload X215.here hx rfl (hb hby at_169) rfl k) ?_
          show own_G p e below (T215.setTop (mkF m 171 #[.val (.int p1), .val (.int p2), .val (.int p3), .val (.int p4), .val (.int (3 : Int32)), .val (.int bb0), .val (.int bb1), .val (.int bb2), .val (.ref b203), .val (.ref r), .val (.int (1 : Int32)), .unset] [(.int bb2)])) _
          refine own_go (fun _ k => XS.iconst X215.here hx rfl (hb hby at_171) k) ?_
          show own_G p e below (T215.setTop (mkF m 172 #[.val (.int p1), .val (.int p2), .val (.int p3), .val (.int p4), .val (.int (3 : Int32)), .val (.int bb0), .val (.int bb1), .val (.int bb2), .val (.ref b203), .val (.ref r), .val (.int (1 : Int32)), .unset] [(.int (-1 : Int32)), (.int bb2)])) _
          refine own_go (fun _ k => XS.icmpNo X215.here hx rfl (hb hby at_172) rfl (feq c2).1 k) ?_
          show own_G p e below (T215.setTop (mkF m 175 #[.val (.int p1), .val (.int p2), .val (.int p3), .val (.int p4), .val (.int (3 : Int32)), .val (.int bb0), .val (.int bb1), .val (.int bb2), .val (.ref b203), .val (.ref r), .val (.int (1 : Int32)), .unset] [])) _
          refine own_go (fun _ k => XS.iconst X215.here hx rfl (hb hby at_175) k) ?_
          show own_G p e below (T215.setTop (mkF m 176 #[.val (.int p1), .val (.int p2), .val (.int p3), .val (.int p4), .val (.int (3 : Int32)), .val (.int bb0), .val (.int bb1), .val (.int bb2), .val (.ref b203), .val (.ref r), .val (.int (1 : Int32)), .unset] [(.int (2 : Int32))])) _
          refine own_go (fun _ k => XS.istore X215.here hx rfl (hb hby at_176) rfl (l' := #[.val (.int p1), .val (.int p2), .val (.int p3), .val (.int p4), .val (.int (3 : Int32)), .val (.int bb0), .val (.int bb1), .val (.int bb2), .val (.ref b203), .val (.ref r), .val (.int (2 : Int32)), .unset]) rfl k) ?_
          show own_G p e below (T215.setTop (mkF m 178 #[.val (.int p1), .val (.int p2), .val (.int p3), .val (.int p4), .val (.int (3 : Int32)), .val (.int bb0), .val (.int bb1), .val (.int bb2), .val (.ref b203), .val (.ref r), .val (.int (2 : Int32)), .unset] [])) _
          refine own_go (fun _ k => XS.iload X215.here hx rfl (hb hby at_178) rfl k) ?_
          show own_G p e below (T215.setTop (mkF m 180 #[.val (.int p1), .val (.int p2), .val (.int p3), .val (.int p4), .val (.int (3 : Int32)), .val (.int bb0), .val (.int bb1), .val (.int bb2), .val (.ref b203), .val (.ref r), .val (.int (2 : Int32)), .unset] [(.int (2 : Int32))])) _
          refine own_go (fun _ k => XS.ifYes X215.here hx rfl (pc0 := 180) (pc' := 194) rfl (hb hby at_180) rfl ((if0 _ _).trans (flt (by decide : ¬ ((2 : Int32) < (0 : Int32)))).2.1) (by decide) (by decide) k) ?_
          show own_G p e below (T215.setTop (mkF m 194 #[.val (.int p1), .val (.int p2), .val (.int p3), .val (.int p4), .val (.int (3 : Int32)), .val (.int bb0), .val (.int bb1), .val (.int bb2), .val (.ref b203), .val (.ref r), .val (.int (2 : Int32)), .unset] [])) _
          refine own_go (fun _ k => XS.aload X215.here hx rfl (hb hby at_194) rfl rfl k) ?_
          show own_G p e below (T215.setTop (mkF m 196 #[.val (.int p1), .val (.int p2), .val (.int p3), .val (.int p4), .val (.int (3 : Int32)), .val (.int bb0), .val (.int bb1), .val (.int bb2), .val (.ref b203), .val (.ref r), .val (.int (2 : Int32)), .unset] [(.ref r)])) _
          refine own_go (fun _ k => XS.ifnullNo X215.here hx rfl (hb hby at_196) rfl k) ?_
          show own_G p e below (T215.setTop (mkF m 199 #[.val (.int p1), .val (.int p2), .val (.int p3), .val (.int p4), .val (.int (3 : Int32)), .val (.int bb0), .val (.int bb1), .val (.int bb2), .val (.ref b203), .val (.ref r), .val (.int (2 : Int32)), .unset] [])) _
          refine own_go (fun _ k => XS.aload X215.here hx rfl (hb hby at_199) rfl rfl k) ?_
          show own_G p e below (T215.setTop (mkF m 201 #[.val (.int p1), .val (.int p2), .val (.int p3), .val (.int p4), .val (.int (3 : Int32)), .val (.int bb0), .val (.int bb1), .val (.int bb2), .val (.ref b203), .val (.ref r), .val (.int (2 : Int32)), .unset] [(.ref r)])) _
          obtain ⟨cl229, Ar229, q229, S229, M229, B229, G229⟩ := id Vr
          refine own_go (X215.arraylength hx Ar229.1 (State.isArrayOf_alike hZ.alike Ar229.2.1) (g := (mkF m 201 #[.val (.int p1), .val (.int p2), .val (.int p3), .val (.int p4), .val (.int (3 : Int32)), .val (.int bb0), .val (.int bb1), .val (.int bb2), .val (.ref b203), .val (.ref r), .val (.int (2 : Int32)), .unset] [(.ref r)])) rfl rfl (hb hby at_201)) ?_
          rw [len_of S229 M229]
          show own_G p e below (T215.setTop (mkF m 202 #[.val (.int p1), .val (.int p2), .val (.int p3), .val (.int p4), .val (.int (3 : Int32)), .val (.int bb0), .val (.int bb1), .val (.int bb2), .val (.ref b203), .val (.ref r), .val (.int (2 : Int32)), .unset] [(.int (3 : Int32))])) _
          refine own_go (fun _ k => XS.iload X215.here hx rfl (hb hby at_202) rfl k) ?_
          show own_G p e below (T215.setTop (mkF m 204 #[.val (.int p1), .val (.int p2), .val (.int p3), .val (.int p4), .val (.int (3 : Int32)), .val (.int bb0), .val (.int bb1), .val (.int bb2), .val (.ref b203), .val (.ref r), .val (.int (2 : Int32)), .unset] [(.int (2 : Int32)), (.int (3 : Int32))])) _
          refine own_go (fun _ k => XS.iconst X215.here hx rfl (hb hby at_204) k) ?_
          show own_G p e below (T215.setTop (mkF m 205 #[.val (.int p1), .val (.int p2), .val (.int p3), .val (.int p4), .val (.int (3 : Int32)), .val (.int bb0), .val (.int bb1), .val (.int bb2), .val (.ref b203), .val (.ref r), .val (.int (2 : Int32)), .unset] [(.int (1 : Int32)), (.int (2 : Int32)), (.int (3 : Int32))])) _
          refine own_go (fun _ k => XS.iadd X215.here hx rfl (hb hby at_205) rfl k) ?_
          show own_G p e below (T215.setTop (mkF m 206 #[.val (.int p1), .val (.int p2), .val (.int p3), .val (.int p4), .val (.int (3 : Int32)), .val (.int bb0), .val (.int bb1), .val (.int bb2), .val (.ref b203), .val (.ref r), .val (.int (2 : Int32)), .unset] [(.int (3 : Int32)), (.int (3 : Int32))])) _
          refine own_go (fun _ k => XS.icmpYes X215.here hx rfl (pc0 := 206) (pc' := 211) rfl (hb hby at_206) rfl (teq (by decide : (3 : Int32) = (3 : Int32))).1 (by decide) (by decide) k) ?_
          show own_G p e below (T215.setTop (mkF m 211 #[.val (.int p1), .val (.int p2), .val (.int p3), .val (.int p4), .val (.int (3 : Int32)), .val (.int bb0), .val (.int bb1), .val (.int bb2), .val (.ref b203), .val (.ref r), .val (.int (2 : Int32)), .unset] [])) _
          refine own_go (fun _ k => XS.iload X215.here hx rfl (hb hby at_211) rfl k) ?_
          show own_G p e below (T215.setTop (mkF m 213 #[.val (.int p1), .val (.int p2), .val (.int p3), .val (.int p4), .val (.int (3 : Int32)), .val (.int bb0), .val (.int bb1), .val (.int bb2), .val (.ref b203), .val (.ref r), .val (.int (2 : Int32)), .unset] [(.int (2 : Int32))])) _
          refine own_go (fun _ k => XS.ifNo X215.here hx rfl (hb hby at_213) rfl ((if0 _ _).trans (tlt (by decide : (0 : Int32) < (2 : Int32))).2.2.2) k) ?_
          show own_G p e below (T215.setTop (mkF m 216 #[.val (.int p1), .val (.int p2), .val (.int p3), .val (.int p4), .val (.int (3 : Int32)), .val (.int bb0), .val (.int bb1), .val (.int bb2), .val (.ref b203), .val (.ref r), .val (.int (2 : Int32)), .unset] [])) _
          refine own_go (fun _ k => XS.aload X215.here hx rfl (hb hby at_216) rfl rfl k) ?_
          show own_G p e below (T215.setTop (mkF m 218 #[.val (.int p1), .val (.int p2), .val (.int p3), .val (.int p4), .val (.int (3 : Int32)), .val (.int bb0), .val (.int bb1), .val (.int bb2), .val (.ref b203), .val (.ref r), .val (.int (2 : Int32)), .unset] [(.ref r)])) _
          refine own_go (fun _ k => XS.iconst X215.here hx rfl (hb hby at_218) k) ?_
          show own_G p e below (T215.setTop (mkF m 219 #[.val (.int p1), .val (.int p2), .val (.int p3), .val (.int p4), .val (.int (3 : Int32)), .val (.int bb0), .val (.int bb1), .val (.int bb2), .val (.ref b203), .val (.ref r), .val (.int (2 : Int32)), .unset] [(.int (0 : Int32)), (.ref r)])) _
          obtain ⟨cl230, Ar230, q230, S230, M230, B230, G230⟩ := id Vr
          have hin230 : ¬ ((0 : Int32) < 0 ∨ cl230.slots.size ≤ ((0 : Int32)).toNatClampNeg) := inb_of S230 ⟨by decide, by decide⟩
          have hat230 : cl230.slots[((0 : Int32)).toNatClampNeg]? = some (.int bb0) := B230.at hin230 rfl
          refine own_go (X215.baloadBytes hx (j := (0 : Int32)) (v := (.int bb0)) Ar230.1 (State.isArrayOf_alike hZ.alike Ar230.2.1) Ar230.2.2 hin230 hat230 (g := (mkF m 219 #[.val (.int p1), .val (.int p2), .val (.int p3), .val (.int p4), .val (.int (3 : Int32)), .val (.int bb0), .val (.int bb1), .val (.int bb2), .val (.ref b203), .val (.ref r), .val (.int (2 : Int32)), .unset] [(.int (0 : Int32)), (.ref r)])) rfl rfl (hb hby at_219)) ?_
          show own_G p e below (T215.setTop (mkF m 220 #[.val (.int p1), .val (.int p2), .val (.int p3), .val (.int p4), .val (.int (3 : Int32)), .val (.int bb0), .val (.int bb1), .val (.int bb2), .val (.ref b203), .val (.ref r), .val (.int (2 : Int32)), .unset] [(.int bb0)])) _
          refine own_go (fun _ k => XS.iload X215.here hx rfl (hb hby at_220) rfl k) ?_
          show own_G p e below (T215.setTop (mkF m 222 #[.val (.int p1), .val (.int p2), .val (.int p3), .val (.int p4), .val (.int (3 : Int32)), .val (.int bb0), .val (.int bb1), .val (.int bb2), .val (.ref b203), .val (.ref r), .val (.int (2 : Int32)), .unset] [(.int bb0), (.int bb0)])) _
          refine own_go (fun _ k => XS.icmpYes X215.here hx rfl (pc0 := 222) (pc' := 227) rfl (hb hby at_222) rfl (teq (rfl : bb0 = bb0)).1 (by decide) (by decide) k) ?_
          show own_G p e below (T215.setTop (mkF m 227 #[.val (.int p1), .val (.int p2), .val (.int p3), .val (.int p4), .val (.int (3 : Int32)), .val (.int bb0), .val (.int bb1), .val (.int bb2), .val (.ref b203), .val (.ref r), .val (.int (2 : Int32)), .unset] [])) _
          refine own_go (fun _ k => XS.iload X215.here hx rfl (hb hby at_227) rfl k) ?_
          show own_G p e below (T215.setTop (mkF m 229 #[.val (.int p1), .val (.int p2), .val (.int p3), .val (.int p4), .val (.int (3 : Int32)), .val (.int bb0), .val (.int bb1), .val (.int bb2), .val (.ref b203), .val (.ref r), .val (.int (2 : Int32)), .unset] [(.int (2 : Int32))])) _
          refine own_go (fun _ k => XS.iconst X215.here hx rfl (hb hby at_229) k) ?_
          show own_G p e below (T215.setTop (mkF m 230 #[.val (.int p1), .val (.int p2), .val (.int p3), .val (.int p4), .val (.int (3 : Int32)), .val (.int bb0), .val (.int bb1), .val (.int bb2), .val (.ref b203), .val (.ref r), .val (.int (2 : Int32)), .unset] [(.int (1 : Int32)), (.int (2 : Int32))])) _
          refine own_go (fun _ k => XS.icmpNo X215.here hx rfl (hb hby at_230) rfl (tlt (by decide : (1 : Int32) < (2 : Int32))).2.2.2 k) ?_
          show own_G p e below (T215.setTop (mkF m 233 #[.val (.int p1), .val (.int p2), .val (.int p3), .val (.int p4), .val (.int (3 : Int32)), .val (.int bb0), .val (.int bb1), .val (.int bb2), .val (.ref b203), .val (.ref r), .val (.int (2 : Int32)), .unset] [])) _
          refine own_go (fun _ k => XS.aload X215.here hx rfl (hb hby at_233) rfl rfl k) ?_
          show own_G p e below (T215.setTop (mkF m 235 #[.val (.int p1), .val (.int p2), .val (.int p3), .val (.int p4), .val (.int (3 : Int32)), .val (.int bb0), .val (.int bb1), .val (.int bb2), .val (.ref b203), .val (.ref r), .val (.int (2 : Int32)), .unset] [(.ref r)])) _
          refine own_go (fun _ k => XS.iconst X215.here hx rfl (hb hby at_235) k) ?_
          show own_G p e below (T215.setTop (mkF m 236 #[.val (.int p1), .val (.int p2), .val (.int p3), .val (.int p4), .val (.int (3 : Int32)), .val (.int bb0), .val (.int bb1), .val (.int bb2), .val (.ref b203), .val (.ref r), .val (.int (2 : Int32)), .unset] [(.int (1 : Int32)), (.ref r)])) _
          obtain ⟨cl231, Ar231, q231, S231, M231, B231, G231⟩ := id Vr
          have hin231 : ¬ ((1 : Int32) < 0 ∨ cl231.slots.size ≤ ((1 : Int32)).toNatClampNeg) := inb_of S231 ⟨by decide, by decide⟩
          have hat231 : cl231.slots[((1 : Int32)).toNatClampNeg]? = some (.int bb1) := B231.at hin231 rfl
          refine own_go (X215.baloadBytes hx (j := (1 : Int32)) (v := (.int bb1)) Ar231.1 (State.isArrayOf_alike hZ.alike Ar231.2.1) Ar231.2.2 hin231 hat231 (g := (mkF m 236 #[.val (.int p1), .val (.int p2), .val (.int p3), .val (.int p4), .val (.int (3 : Int32)), .val (.int bb0), .val (.int bb1), .val (.int bb2), .val (.ref b203), .val (.ref r), .val (.int (2 : Int32)), .unset] [(.int (1 : Int32)), (.ref r)])) rfl rfl (hb hby at_236)) ?_
          show own_G p e below (T215.setTop (mkF m 237 #[.val (.int p1), .val (.int p2), .val (.int p3), .val (.int p4), .val (.int (3 : Int32)), .val (.int bb0), .val (.int bb1), .val (.int bb2), .val (.ref b203), .val (.ref r), .val (.int (2 : Int32)), .unset] [(.int bb1)])) _
          refine own_go (fun _ k => XS.iload X215.here hx rfl (hb hby at_237) rfl k) ?_
          show own_G p e below (T215.setTop (mkF m 239 #[.val (.int p1), .val (.int p2), .val (.int p3), .val (.int p4), .val (.int (3 : Int32)), .val (.int bb0), .val (.int bb1), .val (.int bb2), .val (.ref b203), .val (.ref r), .val (.int (2 : Int32)), .unset] [(.int bb1), (.int bb1)])) _
          refine own_go (fun _ k => XS.icmpYes X215.here hx rfl (pc0 := 239) (pc' := 244) rfl (hb hby at_239) rfl (teq (rfl : bb1 = bb1)).1 (by decide) (by decide) k) ?_
          show own_G p e below (T215.setTop (mkF m 244 #[.val (.int p1), .val (.int p2), .val (.int p3), .val (.int p4), .val (.int (3 : Int32)), .val (.int bb0), .val (.int bb1), .val (.int bb2), .val (.ref b203), .val (.ref r), .val (.int (2 : Int32)), .unset] [])) _
          refine own_go (fun _ k => XS.iload X215.here hx rfl (hb hby at_244) rfl k) ?_
          show own_G p e below (T215.setTop (mkF m 246 #[.val (.int p1), .val (.int p2), .val (.int p3), .val (.int p4), .val (.int (3 : Int32)), .val (.int bb0), .val (.int bb1), .val (.int bb2), .val (.ref b203), .val (.ref r), .val (.int (2 : Int32)), .unset] [(.int (2 : Int32))])) _
          refine own_go (fun _ k => XS.ifYes X215.here hx rfl (pc0 := 246) (pc' := 254) rfl (hb hby at_246) rfl ((if0 _ _).trans (feq (by decide : ¬ ((2 : Int32) = (0 : Int32)))).2) (by decide) (by decide) k) ?_
          show own_G p e below (T215.setTop (mkF m 254 #[.val (.int p1), .val (.int p2), .val (.int p3), .val (.int p4), .val (.int (3 : Int32)), .val (.int bb0), .val (.int bb1), .val (.int bb2), .val (.ref b203), .val (.ref r), .val (.int (2 : Int32)), .unset] [])) _
          refine own_go (fun _ k => XS.iload X215.here hx rfl (hb hby at_254) rfl k) ?_
          show own_G p e below (T215.setTop (mkF m 256 #[.val (.int p1), .val (.int p2), .val (.int p3), .val (.int p4), .val (.int (3 : Int32)), .val (.int bb0), .val (.int bb1), .val (.int bb2), .val (.ref b203), .val (.ref r), .val (.int (2 : Int32)), .unset] [(.int (2 : Int32))])) _
          refine own_go (fun _ k => XS.iconst X215.here hx rfl (hb hby at_256) k) ?_
          show own_G p e below (T215.setTop (mkF m 257 #[.val (.int p1), .val (.int p2), .val (.int p3), .val (.int p4), .val (.int (3 : Int32)), .val (.int bb0), .val (.int bb1), .val (.int bb2), .val (.ref b203), .val (.ref r), .val (.int (2 : Int32)), .unset] [(.int (1 : Int32)), (.int (2 : Int32))])) _
          refine own_go (fun _ k => XS.icmpYes X215.here hx rfl (pc0 := 257) (pc' := 265) rfl (hb hby at_257) rfl (feq (by decide : ¬ ((2 : Int32) = (1 : Int32)))).2 (by decide) (by decide) k) ?_
          show own_G p e below (T215.setTop (mkF m 265 #[.val (.int p1), .val (.int p2), .val (.int p3), .val (.int p4), .val (.int (3 : Int32)), .val (.int bb0), .val (.int bb1), .val (.int bb2), .val (.ref b203), .val (.ref r), .val (.int (2 : Int32)), .unset] [])) _
          refine own_go (fun _ k => XS.iload X215.here hx rfl (hb hby at_265) rfl k) ?_
          show own_G p e below (T215.setTop (mkF m 267 #[.val (.int p1), .val (.int p2), .val (.int p3), .val (.int p4), .val (.int (3 : Int32)), .val (.int bb0), .val (.int bb1), .val (.int bb2), .val (.ref b203), .val (.ref r), .val (.int (2 : Int32)), .unset] [(.int bb2)])) _
          refine own_go (fun _ k => XS.istore X215.here hx rfl (hb hby at_267) rfl (l' := #[.val (.int p1), .val (.int p2), .val (.int p3), .val (.int p4), .val (.int (3 : Int32)), .val (.int bb0), .val (.int bb1), .val (.int bb2), .val (.ref b203), .val (.ref r), .val (.int (2 : Int32)), .val (.int bb2)]) rfl k) ?_
          show own_G p e below (T215.setTop (mkF m 269 #[.val (.int p1), .val (.int p2), .val (.int p3), .val (.int p4), .val (.int (3 : Int32)), .val (.int bb0), .val (.int bb1), .val (.int bb2), .val (.ref b203), .val (.ref r), .val (.int (2 : Int32)), .val (.int bb2)] [])) _
          refine own_go (fun _ k => XS.aload X215.here hx rfl (hb hby at_269) rfl rfl k) ?_
          show own_G p e below (T215.setTop (mkF m 271 #[.val (.int p1), .val (.int p2), .val (.int p3), .val (.int p4), .val (.int (3 : Int32)), .val (.int bb0), .val (.int bb1), .val (.int bb2), .val (.ref b203), .val (.ref r), .val (.int (2 : Int32)), .val (.int bb2)] [(.ref r)])) _
          refine own_go (fun _ k => XS.iload X215.here hx rfl (hb hby at_271) rfl k) ?_
          show own_G p e below (T215.setTop (mkF m 273 #[.val (.int p1), .val (.int p2), .val (.int p3), .val (.int p4), .val (.int (3 : Int32)), .val (.int bb0), .val (.int bb1), .val (.int bb2), .val (.ref b203), .val (.ref r), .val (.int (2 : Int32)), .val (.int bb2)] [(.int (2 : Int32)), (.ref r)])) _
          obtain ⟨cl232, Ar232, q232, S232, M232, B232, G232⟩ := id Vr
          have hin232 : ¬ ((2 : Int32) < 0 ∨ cl232.slots.size ≤ ((2 : Int32)).toNatClampNeg) := inb_of S232 ⟨by decide, by decide⟩
          have hat232 : cl232.slots[((2 : Int32)).toNatClampNeg]? = some (.int ((bb2 + (1 : Int32)).toInt8.toInt32)) := B232.at hin232 rfl
          refine own_go (X215.baloadBytes hx (j := (2 : Int32)) (v := (.int ((bb2 + (1 : Int32)).toInt8.toInt32))) Ar232.1 (State.isArrayOf_alike hZ.alike Ar232.2.1) Ar232.2.2 hin232 hat232 (g := (mkF m 273 #[.val (.int p1), .val (.int p2), .val (.int p3), .val (.int p4), .val (.int (3 : Int32)), .val (.int bb0), .val (.int bb1), .val (.int bb2), .val (.ref b203), .val (.ref r), .val (.int (2 : Int32)), .val (.int bb2)] [(.int (2 : Int32)), (.ref r)])) rfl rfl (hb hby at_273)) ?_
          show own_G p e below (T215.setTop (mkF m 274 #[.val (.int p1), .val (.int p2), .val (.int p3), .val (.int p4), .val (.int (3 : Int32)), .val (.int bb0), .val (.int bb1), .val (.int bb2), .val (.ref b203), .val (.ref r), .val (.int (2 : Int32)), .val (.int bb2)] [(.int ((bb2 + (1 : Int32)).toInt8.toInt32))])) _
          refine own_go (fun _ k => XS.iload X215.here hx rfl (hb hby at_274) rfl k) ?_
          show own_G p e below (T215.setTop (mkF m 276 #[.val (.int p1), .val (.int p2), .val (.int p3), .val (.int p4), .val (.int (3 : Int32)), .val (.int bb0), .val (.int bb1), .val (.int bb2), .val (.ref b203), .val (.ref r), .val (.int (2 : Int32)), .val (.int bb2)] [(.int bb2), (.int ((bb2 + (1 : Int32)).toInt8.toInt32))])) _
          refine own_go (fun _ k => XS.iconst X215.here hx rfl (hb hby at_276) k) ?_
          show own_G p e below (T215.setTop (mkF m 277 #[.val (.int p1), .val (.int p2), .val (.int p3), .val (.int p4), .val (.int (3 : Int32)), .val (.int bb0), .val (.int bb1), .val (.int bb2), .val (.ref b203), .val (.ref r), .val (.int (2 : Int32)), .val (.int bb2)] [(.int (1 : Int32)), (.int bb2), (.int ((bb2 + (1 : Int32)).toInt8.toInt32))])) _
          refine own_go (fun _ k => XS.iadd X215.here hx rfl (hb hby at_277) rfl k) ?_
          show own_G p e below (T215.setTop (mkF m 278 #[.val (.int p1), .val (.int p2), .val (.int p3), .val (.int p4), .val (.int (3 : Int32)), .val (.int bb0), .val (.int bb1), .val (.int bb2), .val (.ref b203), .val (.ref r), .val (.int (2 : Int32)), .val (.int bb2)] [(.int (bb2 + (1 : Int32))), (.int ((bb2 + (1 : Int32)).toInt8.toInt32))])) _
          refine own_go (fun _ k => XS.i2b X215.here hx rfl (hb hby at_278) rfl k) ?_
          show own_G p e below (T215.setTop (mkF m 279 #[.val (.int p1), .val (.int p2), .val (.int p3), .val (.int p4), .val (.int (3 : Int32)), .val (.int bb0), .val (.int bb1), .val (.int bb2), .val (.ref b203), .val (.ref r), .val (.int (2 : Int32)), .val (.int bb2)] [(.int ((bb2 + (1 : Int32)).toInt8.toInt32)), (.int ((bb2 + (1 : Int32)).toInt8.toInt32))])) _
          refine own_go (fun _ k => XS.icmpNo X215.here hx rfl (hb hby at_279) rfl (teq (rfl : ((bb2 + (1 : Int32)).toInt8.toInt32) = ((bb2 + (1 : Int32)).toInt8.toInt32))).2 k) ?_
          show own_G p e below (T215.setTop (mkF m 282 #[.val (.int p1), .val (.int p2), .val (.int p3), .val (.int p4), .val (.int (3 : Int32)), .val (.int bb0), .val (.int bb1), .val (.int bb2), .val (.ref b203), .val (.ref r), .val (.int (2 : Int32)), .val (.int bb2)] [])) _
          refine own_go (fun _ k => XS.iconst X215.here hx rfl (hb hby at_282) k) ?_
          show own_G p e below (T215.setTop (mkF m 283 #[.val (.int p1), .val (.int p2), .val (.int p3), .val (.int p4), .val (.int (3 : Int32)), .val (.int bb0), .val (.int bb1), .val (.int bb2), .val (.ref b203), .val (.ref r), .val (.int (2 : Int32)), .val (.int bb2)] [(.int (1 : Int32))])) _
          refine own_go (fun _ k => XS.goto X215.here hx rfl (pc0 := 283) (pc' := 287) rfl (hb hby at_283) (by decide) (by decide) k) ?_
          show own_G p e below (T215.setTop (mkF m 287 #[.val (.int p1), .val (.int p2), .val (.int p3), .val (.int p4), .val (.int (3 : Int32)), .val (.int bb0), .val (.int bb1), .val (.int bb2), .val (.ref b203), .val (.ref r), .val (.int (2 : Int32)), .val (.int bb2)] [(.int (1 : Int32))])) _
          refine own_ret X215 hlk (v := some (.int (1 : Int32))) (fun h => by rw [hret] at h; cases h) (Q0 Z p1 p2 p3 p4 h0 n0) (own_retI X215 hx (t := .boolean) hret rfl (Or.inl ⟨rfl, by simp, _, rfl⟩) (hb hby at_287)) (by decide) (by decide) ?_
          show Q0 Z p1 p2 p3 p4 h0 n0 _ T215.heap _
          exact ⟨rfl, N215⟩
      · refine own_go (fun _ k => XS.icmpNo X215.here hx rfl (hb hby at_142) rfl (feq hc142_223).1 k) ?_
        show own_G p e below (T215.setTop (mkF m 145 #[.val (.int p1), .val (.int p2), .val (.int p3), .val (.int p4), .val (.int (3 : Int32)), .val (.int bb0), .val (.int bb1), .val (.int bb2), .val (.ref b203), .val (.ref r), .val (.int (-1 : Int32)), .unset] [])) _
        refine own_go (fun _ k => XS.iconst X215.here hx rfl (hb hby at_145) k) ?_
        show own_G p e below (T215.setTop (mkF m 146 #[.val (.int p1), .val (.int p2), .val (.int p3), .val (.int p4), .val (.int (3 : Int32)), .val (.int bb0), .val (.int bb1), .val (.int bb2), .val (.ref b203), .val (.ref r), .val (.int (-1 : Int32)), .unset] [(.int (0 : Int32))])) _
        refine own_go (fun _ k => XS.istore X215.here hx rfl (hb hby at_146) rfl (l' := #[.val (.int p1), .val (.int p2), .val (.int p3), .val (.int p4), .val (.int (3 : Int32)), .val (.int bb0), .val (.int bb1), .val (.int bb2), .val (.ref b203), .val (.ref r), .val (.int (0 : Int32)), .unset]) rfl k) ?_
        show own_G p e below (T215.setTop (mkF m 148 #[.val (.int p1), .val (.int p2), .val (.int p3), .val (.int p4), .val (.int (3 : Int32)), .val (.int bb0), .val (.int bb1), .val (.int bb2), .val (.ref b203), .val (.ref r), .val (.int (0 : Int32)), .unset] [])) _
        refine own_go (fun _ k => XS.iload X215.here hx rfl (hb hby at_148) rfl k) ?_
        show own_G p e below (T215.setTop (mkF m 150 #[.val (.int p1), .val (.int p2), .val (.int p3), .val (.int p4), .val (.int (3 : Int32)), .val (.int bb0), .val (.int bb1), .val (.int bb2), .val (.ref b203), .val (.ref r), .val (.int (0 : Int32)), .unset] [(.int (3 : Int32))])) _
        refine own_go (fun _ k => XS.iconst X215.here hx rfl (hb hby at_150) k) ?_
        show own_G p e below (T215.setTop (mkF m 151 #[.val (.int p1), .val (.int p2), .val (.int p3), .val (.int p4), .val (.int (3 : Int32)), .val (.int bb0), .val (.int bb1), .val (.int bb2), .val (.ref b203), .val (.ref r), .val (.int (0 : Int32)), .unset] [(.int (1 : Int32)), (.int (3 : Int32))])) _
        refine own_go (fun _ k => XS.icmpNo X215.here hx rfl (hb hby at_151) rfl (tlt (by decide : (1 : Int32) < (3 : Int32))).2.2.2 k) ?_
        show own_G p e below (T215.setTop (mkF m 154 #[.val (.int p1), .val (.int p2), .val (.int p3), .val (.int p4), .val (.int (3 : Int32)), .val (.int bb0), .val (.int bb1), .val (.int bb2), .val (.ref b203), .val (.ref r), .val (.int (0 : Int32)), .unset] [])) _
        refine own_go (fun _ k => XS.iload X215.here hx rfl (hb hby at_154) rfl k) ?_
        show own_G p e below (T215.setTop (mkF m 156 #[.val (.int p1), .val (.int p2), .val (.int p3), .val (.int p4), .val (.int (3 : Int32)), .val (.int bb0), .val (.int bb1), .val (.int bb2), .val (.ref b203), .val (.ref r), .val (.int (0 : Int32)), .unset] [(.int bb1)])) _
        refine own_go (fun _ k => XS.iconst X215.here hx rfl (hb hby at_156) k) ?_
        show own_G p e below (T215.setTop (mkF m 157 #[.val (.int p1), .val (.int p2), .val (.int p3), .val (.int p4), .val (.int (3 : Int32)), .val (.int bb0), .val (.int bb1), .val (.int bb2), .val (.ref b203), .val (.ref r), .val (.int (0 : Int32)), .unset] [(.int (-1 : Int32)), (.int bb1)])) _
        by_cases hc157_233 : bb1 = (-1 : Int32)
        · refine own_go (fun _ k => XS.icmpYes X215.here hx rfl (pc0 := 157) (pc' := 163) rfl (hb hby at_157) rfl (teq hc157_233).1 (by decide) (by decide) k) ?_
          show own_G p e below (T215.setTop (mkF m 163 #[.val (.int p1), .val (.int p2), .val (.int p3), .val (.int p4), .val (.int (3 : Int32)), .val (.int bb0), .val (.int bb1), .val (.int bb2), .val (.ref b203), .val (.ref r), .val (.int (0 : Int32)), .unset] [])) _
          refine own_go (fun _ k => XS.iload X215.here hx rfl (hb hby at_163) rfl k) ?_
          show own_G p e below (T215.setTop (mkF m 165 #[.val (.int p1), .val (.int p2), .val (.int p3), .val (.int p4), .val (.int (3 : Int32)), .val (.int bb0), .val (.int bb1), .val (.int bb2), .val (.ref b203), .val (.ref r), .val (.int (0 : Int32)), .unset] [(.int (3 : Int32))])) _
          refine own_go (fun _ k => XS.iconst X215.here hx rfl (hb hby at_165) k) ?_
          show own_G p e below (T215.setTop (mkF m 166 #[.val (.int p1), .val (.int p2), .val (.int p3), .val (.int p4), .val (.int (3 : Int32)), .val (.int bb0), .val (.int bb1), .val (.int bb2), .val (.ref b203), .val (.ref r), .val (.int (0 : Int32)), .unset] [(.int (2 : Int32)), (.int (3 : Int32))])) _
          refine own_go (fun _ k => XS.icmpNo X215.here hx rfl (hb hby at_166) rfl (tlt (by decide : (2 : Int32) < (3 : Int32))).2.2.2 k) ?_
          show own_G p e below (T215.setTop (mkF m 169 #[.val (.int p1), .val (.int p2), .val (.int p3), .val (.int p4), .val (.int (3 : Int32)), .val (.int bb0), .val (.int bb1), .val (.int bb2), .val (.ref b203), .val (.ref r), .val (.int (0 : Int32)), .unset] [])) _
          refine own_go (fun _ k => XS.iload X215.here hx rfl (hb hby at_169) rfl k) ?_
          show own_G p e below (T215.setTop (mkF m 171 #[.val (.int p1), .val (.int p2), .val (.int p3), .val (.int p4), .val (.int (3 : Int32)), .val (.int bb0), .val (.int bb1), .val (.int bb2), .val (.ref b203), .val (.ref r), .val (.int (0 : Int32)), .unset] [(.int bb2)])) _
          refine own_go (fun _ k => XS.iconst X215.here hx rfl (hb hby at_171) k) ?_
          show own_G p e below (T215.setTop (mkF m 172 #[.val (.int p1), .val (.int p2), .val (.int p3), .val (.int p4), .val (.int (3 : Int32)), .val (.int bb0), .val (.int bb1), .val (.int bb2), .val (.ref b203), .val (.ref r), .val (.int (0 : Int32)), .unset] [(.int (-1 : Int32)), (.int bb2)])) _
          refine own_go (fun _ k => XS.icmpNo X215.here hx rfl (hb hby at_172) rfl (feq c2).1 k) ?_
          show own_G p e below (T215.setTop (mkF m 175 #[.val (.int p1), .val (.int p2), .val (.int p3), .val (.int p4), .val (.int (3 : Int32)), .val (.int bb0), .val (.int bb1), .val (.int bb2), .val (.ref b203), .val (.ref r), .val (.int (0 : Int32)), .unset] [])) _
          refine own_go (fun _ k => XS.iconst X215.here hx rfl (hb hby at_175) k) ?_
          show own_G p e below (T215.setTop (mkF m 176 #[.val (.int p1), .val (.int p2), .val (.int p3), .val (.int p4), .val (.int (3 : Int32)), .val (.int bb0), .val (.int bb1), .val (.int bb2), .val (.ref b203), .val (.ref r), .val (.int (0 : Int32)), .unset] [(.int (2 : Int32))])) _
          refine own_go (fun _ k => XS.istore X215.here hx rfl (hb hby at_176) rfl (l' := #[.val (.int p1), .val (.int p2), .val (.int p3), .val (.int p4), .val (.int (3 : Int32)), .val (.int bb0), .val (.int bb1), .val (.int bb2), .val (.ref b203), .val (.ref r), .val (.int (2 : Int32)), .unset]) rfl k) ?_
          show own_G p e below (T215.setTop (mkF m 178 #[.val (.int p1), .val (.int p2), .val (.int p3), .val (.int p4), .val (.int (3 : Int32)), .val (.int bb0), .val (.int bb1), .val (.int bb2), .val (.ref b203), .val (.ref r), .val (.int (2 : Int32)), .unset] [])) _
          refine own_go (fun _ k => XS.iload X215.here hx rfl (hb hby at_178) rfl k) ?_
          show own_G p e below (T215.setTop (mkF m 180 #[.val (.int p1), .val (.int p2), .val (.int p3), .val (.int p4), .val (.int (3 : Int32)), .val (.int bb0), .val (.int bb1), .val (.int bb2), .val (.ref b203), .val (.ref r), .val (.int (2 : Int32)), .unset] [(.int (2 : Int32))])) _
          refine own_go (fun _ k => XS.ifYes X215.here hx rfl (pc0 := 180) (pc' := 194) rfl (hb hby at_180) rfl ((if0 _ _).trans (flt (by decide : ¬ ((2 : Int32) < (0 : Int32)))).2.1) (by decide) (by decide) k) ?_
          show own_G p e below (T215.setTop (mkF m 194 #[.val (.int p1), .val (.int p2), .val (.int p3), .val (.int p4), .val (.int (3 : Int32)), .val (.int bb0), .val (.int bb1), .val (.int bb2), .val (.ref b203), .val (.ref r), .val (.int (2 : Int32)), .unset] [])) _
          refine own_go (fun _ k => XS.aload X215.here hx rfl (hb hby at_194) rfl rfl k) ?_
          show own_G p e below (T215.setTop (mkF m 196 #[.val (.int p1), .val (.int p2), .val (.int p3), .val (.int p4), .val (.int (3 : Int32)), .val (.int bb0), .val (.int bb1), .val (.int bb2), .val (.ref b203), .val (.ref r), .val (.int (2 : Int32)), .unset] [(.ref r)])) _
          refine own_go (fun _ k => XS.ifnullNo X215.here hx rfl (hb hby at_196) rfl k) ?_
          show own_G p e below (T215.setTop (mkF m 199 #[.val (.int p1), .val (.int p2), .val (.int p3), .val (.int p4), .val (.int (3 : Int32)), .val (.int bb0), .val (.int bb1), .val (.int bb2), .val (.ref b203), .val (.ref r), .val (.int (2 : Int32)), .unset] [])) _
          refine own_go (fun _ k => XS.aload X215.here hx rfl (hb hby at_199) rfl rfl k) ?_
          show own_G p e below (T215.setTop (mkF m 201 #[.val (.int p1), .val (.int p2), .val (.int p3), .val (.int p4), .val (.int (3 : Int32)), .val (.int bb0), .val (.int bb1), .val (.int bb2), .val (.ref b203), .val (.ref r), .val (.int (2 : Int32)), .unset] [(.ref r)])) _
          obtain ⟨cl234, Ar234, q234, S234, M234, B234, G234⟩ := id Vr
          refine own_go (X215.arraylength hx Ar234.1 (State.isArrayOf_alike hZ.alike Ar234.2.1) (g := (mkF m 201 #[.val (.int p1), .val (.int p2), .val (.int p3), .val (.int p4), .val (.int (3 : Int32)), .val (.int bb0), .val (.int bb1), .val (.int bb2), .val (.ref b203), .val (.ref r), .val (.int (2 : Int32)), .unset] [(.ref r)])) rfl rfl (hb hby at_201)) ?_
          rw [len_of S234 M234]
          show own_G p e below (T215.setTop (mkF m 202 #[.val (.int p1), .val (.int p2), .val (.int p3), .val (.int p4), .val (.int (3 : Int32)), .val (.int bb0), .val (.int bb1), .val (.int bb2), .val (.ref b203), .val (.ref r), .val (.int (2 : Int32)), .unset] [(.int (3 : Int32))])) _
          refine own_go (fun _ k => XS.iload X215.here hx rfl (hb hby at_202) rfl k) ?_
          show own_G p e below (T215.setTop (mkF m 204 #[.val (.int p1), .val (.int p2), .val (.int p3), .val (.int p4), .val (.int (3 : Int32)), .val (.int bb0), .val (.int bb1), .val (.int bb2), .val (.ref b203), .val (.ref r), .val (.int (2 : Int32)), .unset] [(.int (2 : Int32)), (.int (3 : Int32))])) _
          refine own_go (fun _ k => XS.iconst X215.here hx rfl (hb hby at_204) k) ?_
          show own_G p e below (T215.setTop (mkF m 205 #[.val (.int p1), .val (.int p2), .val (.int p3), .val (.int p4), .val (.int (3 : Int32)), .val (.int bb0), .val (.int bb1), .val (.int bb2), .val (.ref b203), .val (.ref r), .val (.int (2 : Int32)), .unset] [(.int (1 : Int32)), (.int (2 : Int32)), (.int (3 : Int32))])) _
          refine own_go (fun _ k => XS.iadd X215.here hx rfl (hb hby at_205) rfl k) ?_
          show own_G p e below (T215.setTop (mkF m 206 #[.val (.int p1), .val (.int p2), .val (.int p3), .val (.int p4), .val (.int (3 : Int32)), .val (.int bb0), .val (.int bb1), .val (.int bb2), .val (.ref b203), .val (.ref r), .val (.int (2 : Int32)), .unset] [(.int (3 : Int32)), (.int (3 : Int32))])) _
          refine own_go (fun _ k => XS.icmpYes X215.here hx rfl (pc0 := 206) (pc' := 211) rfl (hb hby at_206) rfl (teq (by decide : (3 : Int32) = (3 : Int32))).1 (by decide) (by decide) k) ?_
          show own_G p e below (T215.setTop (mkF m 211 #[.val (.int p1), .val (.int p2), .val (.int p3), .val (.int p4), .val (.int (3 : Int32)), .val (.int bb0), .val (.int bb1), .val (.int bb2), .val (.ref b203), .val (.ref r), .val (.int (2 : Int32)), .unset] [])) _
          refine own_go (fun _ k => XS.iload X215.here hx rfl (hb hby at_211) rfl k) ?_
          show own_G p e below (T215.setTop (mkF m 213 #[.val (.int p1), .val (.int p2), .val (.int p3), .val (.int p4), .val (.int (3 : Int32)), .val (.int bb0), .val (.int bb1), .val (.int bb2), .val (.ref b203), .val (.ref r), .val (.int (2 : Int32)), .unset] [(.int (2 : Int32))])) _
          refine own_go (fun _ k => XS.ifNo X215.here hx rfl (hb hby at_213) rfl ((if0 _ _).trans (tlt (by decide : (0 : Int32) < (2 : Int32))).2.2.2) k) ?_
          show own_G p e below (T215.setTop (mkF m 216 #[.val (.int p1), .val (.int p2), .val (.int p3), .val (.int p4), .val (.int (3 : Int32)), .val (.int bb0), .val (.int bb1), .val (.int bb2), .val (.ref b203), .val (.ref r), .val (.int (2 : Int32)), .unset] [])) _
          refine own_go (fun _ k => XS.aload X215.here hx rfl (hb hby at_216) rfl rfl k) ?_
          show own_G p e below (T215.setTop (mkF m 218 #[.val (.int p1), .val (.int p2), .val (.int p3), .val (.int p4), .val (.int (3 : Int32)), .val (.int bb0), .val (.int bb1), .val (.int bb2), .val (.ref b203), .val (.ref r), .val (.int (2 : Int32)), .unset] [(.ref r)])) _
          refine own_go (fun _ k => XS.iconst X215.here hx rfl (hb hby at_218) k) ?_
          show own_G p e below (T215.setTop (mkF m 219 #[.val (.int p1), .val (.int p2), .val (.int p3), .val (.int p4), .val (.int (3 : Int32)), .val (.int bb0), .val (.int bb1), .val (.int bb2), .val (.ref b203), .val (.ref r), .val (.int (2 : Int32)), .unset] [(.int (0 : Int32)), (.ref r)])) _
          obtain ⟨cl235, Ar235, q235, S235, M235, B235, G235⟩ := id Vr
          have hin235 : ¬ ((0 : Int32) < 0 ∨ cl235.slots.size ≤ ((0 : Int32)).toNatClampNeg) := inb_of S235 ⟨by decide, by decide⟩
          have hat235 : cl235.slots[((0 : Int32)).toNatClampNeg]? = some (.int bb0) := B235.at hin235 rfl
          refine own_go (X215.baloadBytes hx (j := (0 : Int32)) (v := (.int bb0)) Ar235.1 (State.isArrayOf_alike hZ.alike Ar235.2.1) Ar235.2.2 hin235 hat235 (g := (mkF m 219 #[.val (.int p1), .val (.int p2), .val (.int p3), .val (.int p4), .val (.int (3 : Int32)), .val (.int bb0), .val (.int bb1), .val (.int bb2), .val (.ref b203), .val (.ref r), .val (.int (2 : Int32)), .unset] [(.int (0 : Int32)), (.ref r)])) rfl rfl (hb hby at_219)) ?_
          show own_G p e below (T215.setTop (mkF m 220 #[.val (.int p1), .val (.int p2), .val (.int p3), .val (.int p4), .val (.int (3 : Int32)), .val (.int bb0), .val (.int bb1), .val (.int bb2), .val (.ref b203), .val (.ref r), .val (.int (2 : Int32)), .unset] [(.int bb0)])) _
          refine own_go (fun _ k => XS.iload X215.here hx rfl (hb hby at_220) rfl k) ?_
          show own_G p e below (T215.setTop (mkF m 222 #[.val (.int p1), .val (.int p2), .val (.int p3), .val (.int p4), .val (.int (3 : Int32)), .val (.int bb0), .val (.int bb1), .val (.int bb2), .val (.ref b203), .val (.ref r), .val (.int (2 : Int32)), .unset] [(.int bb0), (.int bb0)])) _
          refine own_go (fun _ k => XS.icmpYes X215.here hx rfl (pc0 := 222) (pc' := 227) rfl (hb hby at_222) rfl (teq (rfl : bb0 = bb0)).1 (by decide) (by decide) k) ?_
          show own_G p e below (T215.setTop (mkF m 227 #[.val (.int p1), .val (.int p2), .val (.int p3), .val (.int p4), .val (.int (3 : Int32)), .val (.int bb0), .val (.int bb1), .val (.int bb2), .val (.ref b203), .val (.ref r), .val (.int (2 : Int32)), .unset] [])) _
          refine own_go (fun _ k => XS.iload X215.here hx rfl (hb hby at_227) rfl k) ?_
          show own_G p e below (T215.setTop (mkF m 229 #[.val (.int p1), .val (.int p2), .val (.int p3), .val (.int p4), .val (.int (3 : Int32)), .val (.int bb0), .val (.int bb1), .val (.int bb2), .val (.ref b203), .val (.ref r), .val (.int (2 : Int32)), .unset] [(.int (2 : Int32))])) _
          refine own_go (fun _ k => XS.iconst X215.here hx rfl (hb hby at_229) k) ?_
          show own_G p e below (T215.setTop (mkF m 230 #[.val (.int p1), .val (.int p2), .val (.int p3), .val (.int p4), .val (.int (3 : Int32)), .val (.int bb0), .val (.int bb1), .val (.int bb2), .val (.ref b203), .val (.ref r), .val (.int (2 : Int32)), .unset] [(.int (1 : Int32)), (.int (2 : Int32))])) _
          refine own_go (fun _ k => XS.icmpNo X215.here hx rfl (hb hby at_230) rfl (tlt (by decide : (1 : Int32) < (2 : Int32))).2.2.2 k) ?_
          show own_G p e below (T215.setTop (mkF m 233 #[.val (.int p1), .val (.int p2), .val (.int p3), .val (.int p4), .val (.int (3 : Int32)), .val (.int bb0), .val (.int bb1), .val (.int bb2), .val (.ref b203), .val (.ref r), .val (.int (2 : Int32)), .unset] [])) _
          refine own_go (fun _ k => XS.aload X215.here hx rfl (hb hby at_233) rfl rfl k) ?_
          show own_G p e below (T215.setTop (mkF m 235 #[.val (.int p1), .val (.int p2), .val (.int p3), .val (.int p4), .val (.int (3 : Int32)), .val (.int bb0), .val (.int bb1), .val (.int bb2), .val (.ref b203), .val (.ref r), .val (.int (2 : Int32)), .unset] [(.ref r)])) _
          refine own_go (fun _ k => XS.iconst X215.here hx rfl (hb hby at_235) k) ?_
          show own_G p e below (T215.setTop (mkF m 236 #[.val (.int p1), .val (.int p2), .val (.int p3), .val (.int p4), .val (.int (3 : Int32)), .val (.int bb0), .val (.int bb1), .val (.int bb2), .val (.ref b203), .val (.ref r), .val (.int (2 : Int32)), .unset] [(.int (1 : Int32)), (.ref r)])) _
          obtain ⟨cl236, Ar236, q236, S236, M236, B236, G236⟩ := id Vr
          have hin236 : ¬ ((1 : Int32) < 0 ∨ cl236.slots.size ≤ ((1 : Int32)).toNatClampNeg) := inb_of S236 ⟨by decide, by decide⟩
          have hat236 : cl236.slots[((1 : Int32)).toNatClampNeg]? = some (.int bb1) := B236.at hin236 rfl
          refine own_go (X215.baloadBytes hx (j := (1 : Int32)) (v := (.int bb1)) Ar236.1 (State.isArrayOf_alike hZ.alike Ar236.2.1) Ar236.2.2 hin236 hat236 (g := (mkF m 236 #[.val (.int p1), .val (.int p2), .val (.int p3), .val (.int p4), .val (.int (3 : Int32)), .val (.int bb0), .val (.int bb1), .val (.int bb2), .val (.ref b203), .val (.ref r), .val (.int (2 : Int32)), .unset] [(.int (1 : Int32)), (.ref r)])) rfl rfl (hb hby at_236)) ?_
          show own_G p e below (T215.setTop (mkF m 237 #[.val (.int p1), .val (.int p2), .val (.int p3), .val (.int p4), .val (.int (3 : Int32)), .val (.int bb0), .val (.int bb1), .val (.int bb2), .val (.ref b203), .val (.ref r), .val (.int (2 : Int32)), .unset] [(.int bb1)])) _
          refine own_go (fun _ k => XS.iload X215.here hx rfl (hb hby at_237) rfl k) ?_
          show own_G p e below (T215.setTop (mkF m 239 #[.val (.int p1), .val (.int p2), .val (.int p3), .val (.int p4), .val (.int (3 : Int32)), .val (.int bb0), .val (.int bb1), .val (.int bb2), .val (.ref b203), .val (.ref r), .val (.int (2 : Int32)), .unset] [(.int bb1), (.int bb1)])) _
          refine own_go (fun _ k => XS.icmpYes X215.here hx rfl (pc0 := 239) (pc' := 244) rfl (hb hby at_239) rfl (teq (rfl : bb1 = bb1)).1 (by decide) (by decide) k) ?_
          show own_G p e below (T215.setTop (mkF m 244 #[.val (.int p1), .val (.int p2), .val (.int p3), .val (.int p4), .val (.int (3 : Int32)), .val (.int bb0), .val (.int bb1), .val (.int bb2), .val (.ref b203), .val (.ref r), .val (.int (2 : Int32)), .unset] [])) _
          refine own_go (fun _ k => XS.iload X215.here hx rfl (hb hby at_244) rfl k) ?_
          show own_G p e below (T215.setTop (mkF m 246 #[.val (.int p1), .val (.int p2), .val (.int p3), .val (.int p4), .val (.int (3 : Int32)), .val (.int bb0), .val (.int bb1), .val (.int bb2), .val (.ref b203), .val (.ref r), .val (.int (2 : Int32)), .unset] [(.int (2 : Int32))])) _
          refine own_go (fun _ k => XS.ifYes X215.here hx rfl (pc0 := 246) (pc' := 254) rfl (hb hby at_246) rfl ((if0 _ _).trans (feq (by decide : ¬ ((2 : Int32) = (0 : Int32)))).2) (by decide) (by decide) k) ?_
          show own_G p e below (T215.setTop (mkF m 254 #[.val (.int p1), .val (.int p2), .val (.int p3), .val (.int p4), .val (.int (3 : Int32)), .val (.int bb0), .val (.int bb1), .val (.int bb2), .val (.ref b203), .val (.ref r), .val (.int (2 : Int32)), .unset] [])) _
          refine own_go (fun _ k => XS.iload X215.here hx rfl (hb hby at_254) rfl k) ?_
          show own_G p e below (T215.setTop (mkF m 256 #[.val (.int p1), .val (.int p2), .val (.int p3), .val (.int p4), .val (.int (3 : Int32)), .val (.int bb0), .val (.int bb1), .val (.int bb2), .val (.ref b203), .val (.ref r), .val (.int (2 : Int32)), .unset] [(.int (2 : Int32))])) _
          refine own_go (fun _ k => XS.iconst X215.here hx rfl (hb hby at_256) k) ?_
          show own_G p e below (T215.setTop (mkF m 257 #[.val (.int p1), .val (.int p2), .val (.int p3), .val (.int p4), .val (.int (3 : Int32)), .val (.int bb0), .val (.int bb1), .val (.int bb2), .val (.ref b203), .val (.ref r), .val (.int (2 : Int32)), .unset] [(.int (1 : Int32)), (.int (2 : Int32))])) _
          refine own_go (fun _ k => XS.icmpYes X215.here hx rfl (pc0 := 257) (pc' := 265) rfl (hb hby at_257) rfl (feq (by decide : ¬ ((2 : Int32) = (1 : Int32)))).2 (by decide) (by decide) k) ?_
          show own_G p e below (T215.setTop (mkF m 265 #[.val (.int p1), .val (.int p2), .val (.int p3), .val (.int p4), .val (.int (3 : Int32)), .val (.int bb0), .val (.int bb1), .val (.int bb2), .val (.ref b203), .val (.ref r), .val (.int (2 : Int32)), .unset] [])) _
          refine own_go (fun _ k => XS.iload X215.here hx rfl (hb hby at_265) rfl k) ?_
          show own_G p e below (T215.setTop (mkF m 267 #[.val (.int p1), .val (.int p2), .val (.int p3), .val (.int p4), .val (.int (3 : Int32)), .val (.int bb0), .val (.int bb1), .val (.int bb2), .val (.ref b203), .val (.ref r), .val (.int (2 : Int32)), .unset] [(.int bb2)])) _
          refine own_go (fun _ k => XS.istore X215.here hx rfl (hb hby at_267) rfl (l' := #[.val (.int p1), .val (.int p2), .val (.int p3), .val (.int p4), .val (.int (3 : Int32)), .val (.int bb0), .val (.int bb1), .val (.int bb2), .val (.ref b203), .val (.ref r), .val (.int (2 : Int32)), .val (.int bb2)]) rfl k) ?_
          show own_G p e below (T215.setTop (mkF m 269 #[.val (.int p1), .val (.int p2), .val (.int p3), .val (.int p4), .val (.int (3 : Int32)), .val (.int bb0), .val (.int bb1), .val (.int bb2), .val (.ref b203), .val (.ref r), .val (.int (2 : Int32)), .val (.int bb2)] [])) _
          refine own_go (fun _ k => XS.aload X215.here hx rfl (hb hby at_269) rfl rfl k) ?_
          show own_G p e below (T215.setTop (mkF m 271 #[.val (.int p1), .val (.int p2), .val (.int p3), .val (.int p4), .val (.int (3 : Int32)), .val (.int bb0), .val (.int bb1), .val (.int bb2), .val (.ref b203), .val (.ref r), .val (.int (2 : Int32)), .val (.int bb2)] [(.ref r)])) _
          refine own_go (fun _ k => XS.iload X215.here hx rfl (hb hby at_271) rfl k) ?_
          show own_G p e below (T215.setTop (mkF m 273 #[.val (.int p1), .val (.int p2), .val (.int p3), .val (.int p4), .val (.int (3 : Int32)), .val (.int bb0), .val (.int bb1), .val (.int bb2), .val (.ref b203), .val (.ref r), .val (.int (2 : Int32)), .val (.int bb2)] [(.int (2 : Int32)), (.ref r)])) _
          obtain ⟨cl237, Ar237, q237, S237, M237, B237, G237⟩ := id Vr
          have hin237 : ¬ ((2 : Int32) < 0 ∨ cl237.slots.size ≤ ((2 : Int32)).toNatClampNeg) := inb_of S237 ⟨by decide, by decide⟩
          have hat237 : cl237.slots[((2 : Int32)).toNatClampNeg]? = some (.int ((bb2 + (1 : Int32)).toInt8.toInt32)) := B237.at hin237 rfl
          refine own_go (X215.baloadBytes hx (j := (2 : Int32)) (v := (.int ((bb2 + (1 : Int32)).toInt8.toInt32))) Ar237.1 (State.isArrayOf_alike hZ.alike Ar237.2.1) Ar237.2.2 hin237 hat237 (g := (mkF m 273 #[.val (.int p1), .val (.int p2), .val (.int p3), .val (.int p4), .val (.int (3 : Int32)), .val (.int bb0), .val (.int bb1), .val (.int bb2), .val (.ref b203), .val (.ref r), .val (.int (2 : Int32)), .val (.int bb2)] [(.int (2 : Int32)), (.ref r)])) rfl rfl (hb hby at_273)) ?_
          show own_G p e below (T215.setTop (mkF m 274 #[.val (.int p1), .val (.int p2), .val (.int p3), .val (.int p4), .val (.int (3 : Int32)), .val (.int bb0), .val (.int bb1), .val (.int bb2), .val (.ref b203), .val (.ref r), .val (.int (2 : Int32)), .val (.int bb2)] [(.int ((bb2 + (1 : Int32)).toInt8.toInt32))])) _
          refine own_go (fun _ k => XS.iload X215.here hx rfl (hb hby at_274) rfl k) ?_
          show own_G p e below (T215.setTop (mkF m 276 #[.val (.int p1), .val (.int p2), .val (.int p3), .val (.int p4), .val (.int (3 : Int32)), .val (.int bb0), .val (.int bb1), .val (.int bb2), .val (.ref b203), .val (.ref r), .val (.int (2 : Int32)), .val (.int bb2)] [(.int bb2), (.int ((bb2 + (1 : Int32)).toInt8.toInt32))])) _
          refine own_go (fun _ k => XS.iconst X215.here hx rfl (hb hby at_276) k) ?_
          show own_G p e below (T215.setTop (mkF m 277 #[.val (.int p1), .val (.int p2), .val (.int p3), .val (.int p4), .val (.int (3 : Int32)), .val (.int bb0), .val (.int bb1), .val (.int bb2), .val (.ref b203), .val (.ref r), .val (.int (2 : Int32)), .val (.int bb2)] [(.int (1 : Int32)), (.int bb2), (.int ((bb2 + (1 : Int32)).toInt8.toInt32))])) _
          refine own_go (fun _ k => XS.iadd X215.here hx rfl (hb hby at_277) rfl k) ?_
          show own_G p e below (T215.setTop (mkF m 278 #[.val (.int p1), .val (.int p2), .val (.int p3), .val (.int p4), .val (.int (3 : Int32)), .val (.int bb0), .val (.int bb1), .val (.int bb2), .val (.ref b203), .val (.ref r), .val (.int (2 : Int32)), .val (.int bb2)] [(.int (bb2 + (1 : Int32))), (.int ((bb2 + (1 : Int32)).toInt8.toInt32))])) _
          refine own_go (fun _ k => XS.i2b X215.here hx rfl (hb hby at_278) rfl k) ?_
          show own_G p e below (T215.setTop (mkF m 279 #[.val (.int p1), .val (.int p2), .val (.int p3), .val (.int p4), .val (.int (3 : Int32)), .val (.int bb0), .val (.int bb1), .val (.int bb2), .val (.ref b203), .val (.ref r), .val (.int (2 : Int32)), .val (.int bb2)] [(.int ((bb2 + (1 : Int32)).toInt8.toInt32)), (.int ((bb2 + (1 : Int32)).toInt8.toInt32))])) _
          refine own_go (fun _ k => XS.icmpNo X215.here hx rfl (hb hby at_279) rfl (teq (rfl : ((bb2 + (1 : Int32)).toInt8.toInt32) = ((bb2 + (1 : Int32)).toInt8.toInt32))).2 k) ?_
          show own_G p e below (T215.setTop (mkF m 282 #[.val (.int p1), .val (.int p2), .val (.int p3), .val (.int p4), .val (.int (3 : Int32)), .val (.int bb0), .val (.int bb1), .val (.int bb2), .val (.ref b203), .val (.ref r), .val (.int (2 : Int32)), .val (.int bb2)] [])) _
          refine own_go (fun _ k => XS.iconst X215.here hx rfl (hb hby at_282) k) ?_
          show own_G p e below (T215.setTop (mkF m 283 #[.val (.int p1), .val (.int p2), .val (.int p3), .val (.int p4), .val (.int (3 : Int32)), .val (.int bb0), .val (.int bb1), .val (.int bb2), .val (.ref b203), .val (.ref r), .val (.int (2 : Int32)), .val (.int bb2)] [(.int (1 : Int32))])) _
          refine own_go (fun _ k => XS.goto X215.here hx rfl (pc0 := 283) (pc' := 287) rfl (hb hby at_283) (by decide) (by decide) k) ?_
          show own_G p e below (T215.setTop (mkF m 287 #[.val (.int p1), .val (.int p2), .val (.int p3), .val (.int p4), .val (.int (3 : Int32)), .val (.int bb0), .val (.int bb1), .val (.int bb2), .val (.ref b203), .val (.ref r), .val (.int (2 : Int32)), .val (.int bb2)] [(.int (1 : Int32))])) _
          refine own_ret X215 hlk (v := some (.int (1 : Int32))) (fun h => by rw [hret] at h; cases h) (Q0 Z p1 p2 p3 p4 h0 n0) (own_retI X215 hx (t := .boolean) hret rfl (Or.inl ⟨rfl, by simp, _, rfl⟩) (hb hby at_287)) (by decide) (by decide) ?_
          show Q0 Z p1 p2 p3 p4 h0 n0 _ T215.heap _
          exact ⟨rfl, N215⟩
        · refine own_go (fun _ k => XS.icmpNo X215.here hx rfl (hb hby at_157) rfl (feq hc157_233).1 k) ?_
          show own_G p e below (T215.setTop (mkF m 160 #[.val (.int p1), .val (.int p2), .val (.int p3), .val (.int p4), .val (.int (3 : Int32)), .val (.int bb0), .val (.int bb1), .val (.int bb2), .val (.ref b203), .val (.ref r), .val (.int (0 : Int32)), .unset] [])) _
          refine own_go (fun _ k => XS.iconst X215.here hx rfl (hb hby at_160) k) ?_
          show own_G p e below (T215.setTop (mkF m 161 #[.val (.int p1), .val (.int p2), .val (.int p3), .val (.int p4), .val (.int (3 : Int32)), .val (.int bb0), .val (.int bb1), .val (.int bb2), .val (.ref b203), .val (.ref r), .val (.int (0 : Int32)), .unset] [(.int (1 : Int32))])) _
          refine own_go (fun _ k => XS.istore X215.here hx rfl (hb hby at_161) rfl (l' := #[.val (.int p1), .val (.int p2), .val (.int p3), .val (.int p4), .val (.int (3 : Int32)), .val (.int bb0), .val (.int bb1), .val (.int bb2), .val (.ref b203), .val (.ref r), .val (.int (1 : Int32)), .unset]) rfl k) ?_
          show own_G p e below (T215.setTop (mkF m 163 #[.val (.int p1), .val (.int p2), .val (.int p3), .val (.int p4), .val (.int (3 : Int32)), .val (.int bb0), .val (.int bb1), .val (.int bb2), .val (.ref b203), .val (.ref r), .val (.int (1 : Int32)), .unset] [])) _
          refine own_go (fun _ k => XS.iload X215.here hx rfl (hb hby at_163) rfl k) ?_
          show own_G p e below (T215.setTop (mkF m 165 #[.val (.int p1), .val (.int p2), .val (.int p3), .val (.int p4), .val (.int (3 : Int32)), .val (.int bb0), .val (.int bb1), .val (.int bb2), .val (.ref b203), .val (.ref r), .val (.int (1 : Int32)), .unset] [(.int (3 : Int32))])) _
          refine own_go (fun _ k => XS.iconst X215.here hx rfl (hb hby at_165) k) ?_
          show own_G p e below (T215.setTop (mkF m 166 #[.val (.int p1), .val (.int p2), .val (.int p3), .val (.int p4), .val (.int (3 : Int32)), .val (.int bb0), .val (.int bb1), .val (.int bb2), .val (.ref b203), .val (.ref r), .val (.int (1 : Int32)), .unset] [(.int (2 : Int32)), (.int (3 : Int32))])) _
          refine own_go (fun _ k => XS.icmpNo X215.here hx rfl (hb hby at_166) rfl (tlt (by decide : (2 : Int32) < (3 : Int32))).2.2.2 k) ?_
          show own_G p e below (T215.setTop (mkF m 169 #[.val (.int p1), .val (.int p2), .val (.int p3), .val (.int p4), .val (.int (3 : Int32)), .val (.int bb0), .val (.int bb1), .val (.int bb2), .val (.ref b203), .val (.ref r), .val (.int (1 : Int32)), .unset] [])) _
          refine own_go (fun _ k => XS.iload X215.here hx rfl (hb hby at_169) rfl k) ?_
          show own_G p e below (T215.setTop (mkF m 171 #[.val (.int p1), .val (.int p2), .val (.int p3), .val (.int p4), .val (.int (3 : Int32)), .val (.int bb0), .val (.int bb1), .val (.int bb2), .val (.ref b203), .val (.ref r), .val (.int (1 : Int32)), .unset] [(.int bb2)])) _
          refine own_go (fun _ k => XS.iconst X215.here hx rfl (hb hby at_171) k) ?_
          show own_G p e below (T215.setTop (mkF m 172 #[.val (.int p1), .val (.int p2), .val (.int p3), .val (.int p4), .val (.int (3 : Int32)), .val (.int bb0), .val (.int bb1), .val (.int bb2), .val (.ref b203), .val (.ref r), .val (.int (1 : Int32)), .unset] [(.int (-1 : Int32)), (.int bb2)])) _
          refine own_go (fun _ k => XS.icmpNo X215.here hx rfl (hb hby at_172) rfl (feq c2).1 k) ?_
          show own_G p e below (T215.setTop (mkF m 175 #[.val (.int p1), .val (.int p2), .val (.int p3), .val (.int p4), .val (.int (3 : Int32)), .val (.int bb0), .val (.int bb1), .val (.int bb2), .val (.ref b203), .val (.ref r), .val (.int (1 : Int32)), .unset] [])) _
          refine own_go (fun _ k => XS.iconst X215.here hx rfl (hb hby at_175) k) ?_
          show own_G p e below (T215.setTop (mkF m 176 #[.val (.int p1), .val (.int p2), .val (.int p3), .val (.int p4), .val (.int (3 : Int32)), .val (.int bb0), .val (.int bb1), .val (.int bb2), .val (.ref b203), .val (.ref r), .val (.int (1 : Int32)), .unset] [(.int (2 : Int32))])) _
          refine own_go (fun _ k => XS.istore X215.here hx rfl (hb hby at_176) rfl (l' := #[.val (.int p1), .val (.int p2), .val (.int p3), .val (.int p4), .val (.int (3 : Int32)), .val (.int bb0), .val (.int bb1), .val (.int bb2), .val (.ref b203), .val (.ref r), .val (.int (2 : Int32)), .unset]) rfl k) ?_
          show own_G p e below (T215.setTop (mkF m 178 #[.val (.int p1), .val (.int p2), .val (.int p3), .val (.int p4), .val (.int (3 : Int32)), .val (.int bb0), .val (.int bb1), .val (.int bb2), .val (.ref b203), .val (.ref r), .val (.int (2 : Int32)), .unset] [])) _
          refine own_go (fun _ k => XS.iload X215.here hx rfl (hb hby at_178) rfl k) ?_
          show own_G p e below (T215.setTop (mkF m 180 #[.val (.int p1), .val (.int p2), .val (.int p3), .val (.int p4), .val (.int (3 : Int32)), .val (.int bb0), .val (.int bb1), .val (.int bb2), .val (.ref b203), .val (.ref r), .val (.int (2 : Int32)), .unset] [(.int (2 : Int32))])) _
          refine own_go (fun _ k => XS.ifYes X215.here hx rfl (pc0 := 180) (pc' := 194) rfl (hb hby at_180) rfl ((if0 _ _).trans (flt (by decide : ¬ ((2 : Int32) < (0 : Int32)))).2.1) (by decide) (by decide) k) ?_
          show own_G p e below (T215.setTop (mkF m 194 #[.val (.int p1), .val (.int p2), .val (.int p3), .val (.int p4), .val (.int (3 : Int32)), .val (.int bb0), .val (.int bb1), .val (.int bb2), .val (.ref b203), .val (.ref r), .val (.int (2 : Int32)), .unset] [])) _
          refine own_go (fun _ k => XS.aload X215.here hx rfl (hb hby at_194) rfl rfl k) ?_
          show own_G p e below (T215.setTop (mkF m 196 #[.val (.int p1), .val (.int p2), .val (.int p3), .val (.int p4), .val (.int (3 : Int32)), .val (.int bb0), .val (.int bb1), .val (.int bb2), .val (.ref b203), .val (.ref r), .val (.int (2 : Int32)), .unset] [(.ref r)])) _
          refine own_go (fun _ k => XS.ifnullNo X215.here hx rfl (hb hby at_196) rfl k) ?_
          show own_G p e below (T215.setTop (mkF m 199 #[.val (.int p1), .val (.int p2), .val (.int p3), .val (.int p4), .val (.int (3 : Int32)), .val (.int bb0), .val (.int bb1), .val (.int bb2), .val (.ref b203), .val (.ref r), .val (.int (2 : Int32)), .unset] [])) _
          refine own_go (fun _ k => XS.aload X215.here hx rfl (hb hby at_199) rfl rfl k) ?_
          show own_G p e below (T215.setTop (mkF m 201 #[.val (.int p1), .val (.int p2), .val (.int p3), .val (.int p4), .val (.int (3 : Int32)), .val (.int bb0), .val (.int bb1), .val (.int bb2), .val (.ref b203), .val (.ref r), .val (.int (2 : Int32)), .unset] [(.ref r)])) _
          obtain ⟨cl238, Ar238, q238, S238, M238, B238, G238⟩ := id Vr
          refine own_go (X215.arraylength hx Ar238.1 (State.isArrayOf_alike hZ.alike Ar238.2.1) (g := (mkF m 201 #[.val (.int p1), .val (.int p2), .val (.int p3), .val (.int p4), .val (.int (3 : Int32)), .val (.int bb0), .val (.int bb1), .val (.int bb2), .val (.ref b203), .val (.ref r), .val (.int (2 : Int32)), .unset] [(.ref r)])) rfl rfl (hb hby at_201)) ?_
          rw [len_of S238 M238]
          show own_G p e below (T215.setTop (mkF m 202 #[.val (.int p1), .val (.int p2), .val (.int p3), .val (.int p4), .val (.int (3 : Int32)), .val (.int bb0), .val (.int bb1), .val (.int bb2), .val (.ref b203), .val (.ref r), .val (.int (2 : Int32)), .unset] [(.int (3 : Int32))])) _
          refine own_go (fun _ k => XS.iload X215.here hx rfl (hb hby at_202) rfl k) ?_
          show own_G p e below (T215.setTop (mkF m 204 #[.val (.int p1), .val (.int p2), .val (.int p3), .val (.int p4), .val (.int (3 : Int32)), .val (.int bb0), .val (.int bb1), .val (.int bb2), .val (.ref b203), .val (.ref r), .val (.int (2 : Int32)), .unset] [(.int (2 : Int32)), (.int (3 : Int32))])) _
          refine own_go (fun _ k => XS.iconst X215.here hx rfl (hb hby at_204) k) ?_
          show own_G p e below (T215.setTop (mkF m 205 #[.val (.int p1), .val (.int p2), .val (.int p3), .val (.int p4), .val (.int (3 : Int32)), .val (.int bb0), .val (.int bb1), .val (.int bb2), .val (.ref b203), .val (.ref r), .val (.int (2 : Int32)), .unset] [(.int (1 : Int32)), (.int (2 : Int32)), (.int (3 : Int32))])) _
          refine own_go (fun _ k => XS.iadd X215.here hx rfl (hb hby at_205) rfl k) ?_
          show own_G p e below (T215.setTop (mkF m 206 #[.val (.int p1), .val (.int p2), .val (.int p3), .val (.int p4), .val (.int (3 : Int32)), .val (.int bb0), .val (.int bb1), .val (.int bb2), .val (.ref b203), .val (.ref r), .val (.int (2 : Int32)), .unset] [(.int (3 : Int32)), (.int (3 : Int32))])) _
          refine own_go (fun _ k => XS.icmpYes X215.here hx rfl (pc0 := 206) (pc' := 211) rfl (hb hby at_206) rfl (teq (by decide : (3 : Int32) = (3 : Int32))).1 (by decide) (by decide) k) ?_
          show own_G p e below (T215.setTop (mkF m 211 #[.val (.int p1), .val (.int p2), .val (.int p3), .val (.int p4), .val (.int (3 : Int32)), .val (.int bb0), .val (.int bb1), .val (.int bb2), .val (.ref b203), .val (.ref r), .val (.int (2 : Int32)), .unset] [])) _
          refine own_go (fun _ k => XS.iload X215.here hx rfl (hb hby at_211) rfl k) ?_
          show own_G p e below (T215.setTop (mkF m 213 #[.val (.int p1), .val (.int p2), .val (.int p3), .val (.int p4), .val (.int (3 : Int32)), .val (.int bb0), .val (.int bb1), .val (.int bb2), .val (.ref b203), .val (.ref r), .val (.int (2 : Int32)), .unset] [(.int (2 : Int32))])) _
          refine own_go (fun _ k => XS.ifNo X215.here hx rfl (hb hby at_213) rfl ((if0 _ _).trans (tlt (by decide : (0 : Int32) < (2 : Int32))).2.2.2) k) ?_
          show own_G p e below (T215.setTop (mkF m 216 #[.val (.int p1), .val (.int p2), .val (.int p3), .val (.int p4), .val (.int (3 : Int32)), .val (.int bb0), .val (.int bb1), .val (.int bb2), .val (.ref b203), .val (.ref r), .val (.int (2 : Int32)), .unset] [])) _
          refine own_go (fun _ k => XS.aload X215.here hx rfl (hb hby at_216) rfl rfl k) ?_
          show own_G p e below (T215.setTop (mkF m 218 #[.val (.int p1), .val (.int p2), .val (.int p3), .val (.int p4), .val (.int (3 : Int32)), .val (.int bb0), .val (.int bb1), .val (.int bb2), .val (.ref b203), .val (.ref r), .val (.int (2 : Int32)), .unset] [(.ref r)])) _
          refine own_go (fun _ k => XS.iconst X215.here hx rfl (hb hby at_218) k) ?_
          show own_G p e below (T215.setTop (mkF m 219 #[.val (.int p1), .val (.int p2), .val (.int p3), .val (.int p4), .val (.int (3 : Int32)), .val (.int bb0), .val (.int bb1), .val (.int bb2), .val (.ref b203), .val (.ref r), .val (.int (2 : Int32)), .unset] [(.int (0 : Int32)), (.ref r)])) _
          obtain ⟨cl239, Ar239, q239, S239, M239, B239, G239⟩ := id Vr
          have hin239 : ¬ ((0 : Int32) < 0 ∨ cl239.slots.size ≤ ((0 : Int32)).toNatClampNeg) := inb_of S239 ⟨by decide, by decide⟩
          have hat239 : cl239.slots[((0 : Int32)).toNatClampNeg]? = some (.int bb0) := B239.at hin239 rfl
          refine own_go (X215.baloadBytes hx (j := (0 : Int32)) (v := (.int bb0)) Ar239.1 (State.isArrayOf_alike hZ.alike Ar239.2.1) Ar239.2.2 hin239 hat239 (g := (mkF m 219 #[.val (.int p1), .val (.int p2), .val (.int p3), .val (.int p4), .val (.int (3 : Int32)), .val (.int bb0), .val (.int bb1), .val (.int bb2), .val (.ref b203), .val (.ref r), .val (.int (2 : Int32)), .unset] [(.int (0 : Int32)), (.ref r)])) rfl rfl (hb hby at_219)) ?_
          show own_G p e below (T215.setTop (mkF m 220 #[.val (.int p1), .val (.int p2), .val (.int p3), .val (.int p4), .val (.int (3 : Int32)), .val (.int bb0), .val (.int bb1), .val (.int bb2), .val (.ref b203), .val (.ref r), .val (.int (2 : Int32)), .unset] [(.int bb0)])) _
          refine own_go (fun _ k => XS.iload X215.here hx rfl (hb hby at_220) rfl k) ?_
          show own_G p e below (T215.setTop (mkF m 222 #[.val (.int p1), .val (.int p2), .val (.int p3), .val (.int p4), .val (.int (3 : Int32)), .val (.int bb0), .val (.int bb1), .val (.int bb2), .val (.ref b203), .val (.ref r), .val (.int (2 : Int32)), .unset] [(.int bb0), (.int bb0)])) _
          refine own_go (fun _ k => XS.icmpYes X215.here hx rfl (pc0 := 222) (pc' := 227) rfl (hb hby at_222) rfl (teq (rfl : bb0 = bb0)).1 (by decide) (by decide) k) ?_
          show own_G p e below (T215.setTop (mkF m 227 #[.val (.int p1), .val (.int p2), .val (.int p3), .val (.int p4), .val (.int (3 : Int32)), .val (.int bb0), .val (.int bb1), .val (.int bb2), .val (.ref b203), .val (.ref r), .val (.int (2 : Int32)), .unset] [])) _
          refine own_go (fun _ k => XS.iload X215.here hx rfl (hb hby at_227) rfl k) ?_
          show own_G p e below (T215.setTop (mkF m 229 #[.val (.int p1), .val (.int p2), .val (.int p3), .val (.int p4), .val (.int (3 : Int32)), .val (.int bb0), .val (.int bb1), .val (.int bb2), .val (.ref b203), .val (.ref r), .val (.int (2 : Int32)), .unset] [(.int (2 : Int32))])) _
          refine own_go (fun _ k => XS.iconst X215.here hx rfl (hb hby at_229) k) ?_
          show own_G p e below (T215.setTop (mkF m 230 #[.val (.int p1), .val (.int p2), .val (.int p3), .val (.int p4), .val (.int (3 : Int32)), .val (.int bb0), .val (.int bb1), .val (.int bb2), .val (.ref b203), .val (.ref r), .val (.int (2 : Int32)), .unset] [(.int (1 : Int32)), (.int (2 : Int32))])) _
          refine own_go (fun _ k => XS.icmpNo X215.here hx rfl (hb hby at_230) rfl (tlt (by decide : (1 : Int32) < (2 : Int32))).2.2.2 k) ?_
          show own_G p e below (T215.setTop (mkF m 233 #[.val (.int p1), .val (.int p2), .val (.int p3), .val (.int p4), .val (.int (3 : Int32)), .val (.int bb0), .val (.int bb1), .val (.int bb2), .val (.ref b203), .val (.ref r), .val (.int (2 : Int32)), .unset] [])) _
          refine own_go (fun _ k => XS.aload X215.here hx rfl (hb hby at_233) rfl rfl k) ?_
          show own_G p e below (T215.setTop (mkF m 235 #[.val (.int p1), .val (.int p2), .val (.int p3), .val (.int p4), .val (.int (3 : Int32)), .val (.int bb0), .val (.int bb1), .val (.int bb2), .val (.ref b203), .val (.ref r), .val (.int (2 : Int32)), .unset] [(.ref r)])) _
          refine own_go (fun _ k => XS.iconst X215.here hx rfl (hb hby at_235) k) ?_
          show own_G p e below (T215.setTop (mkF m 236 #[.val (.int p1), .val (.int p2), .val (.int p3), .val (.int p4), .val (.int (3 : Int32)), .val (.int bb0), .val (.int bb1), .val (.int bb2), .val (.ref b203), .val (.ref r), .val (.int (2 : Int32)), .unset] [(.int (1 : Int32)), (.ref r)])) _
          obtain ⟨cl240, Ar240, q240, S240, M240, B240, G240⟩ := id Vr
          have hin240 : ¬ ((1 : Int32) < 0 ∨ cl240.slots.size ≤ ((1 : Int32)).toNatClampNeg) := inb_of S240 ⟨by decide, by decide⟩
          have hat240 : cl240.slots[((1 : Int32)).toNatClampNeg]? = some (.int bb1) := B240.at hin240 rfl
          refine own_go (X215.baloadBytes hx (j := (1 : Int32)) (v := (.int bb1)) Ar240.1 (State.isArrayOf_alike hZ.alike Ar240.2.1) Ar240.2.2 hin240 hat240 (g := (mkF m 236 #[.val (.int p1), .val (.int p2), .val (.int p3), .val (.int p4), .val (.int (3 : Int32)), .val (.int bb0), .val (.int bb1), .val (.int bb2), .val (.ref b203), .val (.ref r), .val (.int (2 : Int32)), .unset] [(.int (1 : Int32)), (.ref r)])) rfl rfl (hb hby at_236)) ?_
          show own_G p e below (T215.setTop (mkF m 237 #[.val (.int p1), .val (.int p2), .val (.int p3), .val (.int p4), .val (.int (3 : Int32)), .val (.int bb0), .val (.int bb1), .val (.int bb2), .val (.ref b203), .val (.ref r), .val (.int (2 : Int32)), .unset] [(.int bb1)])) _
          refine own_go (fun _ k => XS.iload X215.here hx rfl (hb hby at_237) rfl k) ?_
          show own_G p e below (T215.setTop (mkF m 239 #[.val (.int p1), .val (.int p2), .val (.int p3), .val (.int p4), .val (.int (3 : Int32)), .val (.int bb0), .val (.int bb1), .val (.int bb2), .val (.ref b203), .val (.ref r), .val (.int (2 : Int32)), .unset] [(.int bb1), (.int bb1)])) _
          refine own_go (fun _ k => XS.icmpYes X215.here hx rfl (pc0 := 239) (pc' := 244) rfl (hb hby at_239) rfl (teq (rfl : bb1 = bb1)).1 (by decide) (by decide) k) ?_
          show own_G p e below (T215.setTop (mkF m 244 #[.val (.int p1), .val (.int p2), .val (.int p3), .val (.int p4), .val (.int (3 : Int32)), .val (.int bb0), .val (.int bb1), .val (.int bb2), .val (.ref b203), .val (.ref r), .val (.int (2 : Int32)), .unset] [])) _
          refine own_go (fun _ k => XS.iload X215.here hx rfl (hb hby at_244) rfl k) ?_
          show own_G p e below (T215.setTop (mkF m 246 #[.val (.int p1), .val (.int p2), .val (.int p3), .val (.int p4), .val (.int (3 : Int32)), .val (.int bb0), .val (.int bb1), .val (.int bb2), .val (.ref b203), .val (.ref r), .val (.int (2 : Int32)), .unset] [(.int (2 : Int32))])) _
          refine own_go (fun _ k => XS.ifYes X215.here hx rfl (pc0 := 246) (pc' := 254) rfl (hb hby at_246) rfl ((if0 _ _).trans (feq (by decide : ¬ ((2 : Int32) = (0 : Int32)))).2) (by decide) (by decide) k) ?_
          show own_G p e below (T215.setTop (mkF m 254 #[.val (.int p1), .val (.int p2), .val (.int p3), .val (.int p4), .val (.int (3 : Int32)), .val (.int bb0), .val (.int bb1), .val (.int bb2), .val (.ref b203), .val (.ref r), .val (.int (2 : Int32)), .unset] [])) _
          refine own_go (fun _ k => XS.iload X215.here hx rfl (hb hby at_254) rfl k) ?_
          show own_G p e below (T215.setTop (mkF m 256 #[.val (.int p1), .val (.int p2), .val (.int p3), .val (.int p4), .val (.int (3 : Int32)), .val (.int bb0), .val (.int bb1), .val (.int bb2), .val (.ref b203), .val (.ref r), .val (.int (2 : Int32)), .unset] [(.int (2 : Int32))])) _
          refine own_go (fun _ k => XS.iconst X215.here hx rfl (hb hby at_256) k) ?_
          show own_G p e below (T215.setTop (mkF m 257 #[.val (.int p1), .val (.int p2), .val (.int p3), .val (.int p4), .val (.int (3 : Int32)), .val (.int bb0), .val (.int bb1), .val (.int bb2), .val (.ref b203), .val (.ref r), .val (.int (2 : Int32)), .unset] [(.int (1 : Int32)), (.int (2 : Int32))])) _
          refine own_go (fun _ k => XS.icmpYes X215.here hx rfl (pc0 := 257) (pc' := 265) rfl (hb hby at_257) rfl (feq (by decide : ¬ ((2 : Int32) = (1 : Int32)))).2 (by decide) (by decide) k) ?_
          show own_G p e below (T215.setTop (mkF m 265 #[.val (.int p1), .val (.int p2), .val (.int p3), .val (.int p4), .val (.int (3 : Int32)), .val (.int bb0), .val (.int bb1), .val (.int bb2), .val (.ref b203), .val (.ref r), .val (.int (2 : Int32)), .unset] [])) _
          refine own_go (fun _ k => XS.iload X215.here hx rfl (hb hby at_265) rfl k) ?_
          show own_G p e below (T215.setTop (mkF m 267 #[.val (.int p1), .val (.int p2), .val (.int p3), .val (.int p4), .val (.int (3 : Int32)), .val (.int bb0), .val (.int bb1), .val (.int bb2), .val (.ref b203), .val (.ref r), .val (.int (2 : Int32)), .unset] [(.int bb2)])) _
          refine own_go (fun _ k => XS.istore X215.here hx rfl (hb hby at_267) rfl (l' := #[.val (.int p1), .val (.int p2), .val (.int p3), .val (.int p4), .val (.int (3 : Int32)), .val (.int bb0), .val (.int bb1), .val (.int bb2), .val (.ref b203), .val (.ref r), .val (.int (2 : Int32)), .val (.int bb2)]) rfl k) ?_
          show own_G p e below (T215.setTop (mkF m 269 #[.val (.int p1), .val (.int p2), .val (.int p3), .val (.int p4), .val (.int (3 : Int32)), .val (.int bb0), .val (.int bb1), .val (.int bb2), .val (.ref b203), .val (.ref r), .val (.int (2 : Int32)), .val (.int bb2)] [])) _
          refine own_go (fun _ k => XS.aload X215.here hx rfl (hb hby at_269) rfl rfl k) ?_
          show own_G p e below (T215.setTop (mkF m 271 #[.val (.int p1), .val (.int p2), .val (.int p3), .val (.int p4), .val (.int (3 : Int32)), .val (.int bb0), .val (.int bb1), .val (.int bb2), .val (.ref b203), .val (.ref r), .val (.int (2 : Int32)), .val (.int bb2)] [(.ref r)])) _
          refine own_go (fun _ k => XS.iload X215.here hx rfl (hb hby at_271) rfl k) ?_
          show own_G p e below (T215.setTop (mkF m 273 #[.val (.int p1), .val (.int p2), .val (.int p3), .val (.int p4), .val (.int (3 : Int32)), .val (.int bb0), .val (.int bb1), .val (.int bb2), .val (.ref b203), .val (.ref r), .val (.int (2 : Int32)), .val (.int bb2)] [(.int (2 : Int32)), (.ref r)])) _
          obtain ⟨cl241, Ar241, q241, S241, M241, B241, G241⟩ := id Vr
          have hin241 : ¬ ((2 : Int32) < 0 ∨ cl241.slots.size ≤ ((2 : Int32)).toNatClampNeg) := inb_of S241 ⟨by decide, by decide⟩
          have hat241 : cl241.slots[((2 : Int32)).toNatClampNeg]? = some (.int ((bb2 + (1 : Int32)).toInt8.toInt32)) := B241.at hin241 rfl
          refine own_go (X215.baloadBytes hx (j := (2 : Int32)) (v := (.int ((bb2 + (1 : Int32)).toInt8.toInt32))) Ar241.1 (State.isArrayOf_alike hZ.alike Ar241.2.1) Ar241.2.2 hin241 hat241 (g := (mkF m 273 #[.val (.int p1), .val (.int p2), .val (.int p3), .val (.int p4), .val (.int (3 : Int32)), .val (.int bb0), .val (.int bb1), .val (.int bb2), .val (.ref b203), .val (.ref r), .val (.int (2 : Int32)), .val (.int bb2)] [(.int (2 : Int32)), (.ref r)])) rfl rfl (hb hby at_273)) ?_
          show own_G p e below (T215.setTop (mkF m 274 #[.val (.int p1), .val (.int p2), .val (.int p3), .val (.int p4), .val (.int (3 : Int32)), .val (.int bb0), .val (.int bb1), .val (.int bb2), .val (.ref b203), .val (.ref r), .val (.int (2 : Int32)), .val (.int bb2)] [(.int ((bb2 + (1 : Int32)).toInt8.toInt32))])) _
          refine own_go (fun _ k => XS.iload X215.here hx rfl (hb hby at_274) rfl k) ?_
          show own_G p e below (T215.setTop (mkF m 276 #[.val (.int p1), .val (.int p2), .val (.int p3), .val (.int p4), .val (.int (3 : Int32)), .val (.int bb0), .val (.int bb1), .val (.int bb2), .val (.ref b203), .val (.ref r), .val (.int (2 : Int32)), .val (.int bb2)] [(.int bb2), (.int ((bb2 + (1 : Int32)).toInt8.toInt32))])) _
          refine own_go (fun _ k => XS.iconst X215.here hx rfl (hb hby at_276) k) ?_
          show own_G p e below (T215.setTop (mkF m 277 #[.val (.int p1), .val (.int p2), .val (.int p3), .val (.int p4), .val (.int (3 : Int32)), .val (.int bb0), .val (.int bb1), .val (.int bb2), .val (.ref b203), .val (.ref r), .val (.int (2 : Int32)), .val (.int bb2)] [(.int (1 : Int32)), (.int bb2), (.int ((bb2 + (1 : Int32)).toInt8.toInt32))])) _
          refine own_go (fun _ k => XS.iadd X215.here hx rfl (hb hby at_277) rfl k) ?_
          show own_G p e below (T215.setTop (mkF m 278 #[.val (.int p1), .val (.int p2), .val (.int p3), .val (.int p4), .val (.int (3 : Int32)), .val (.int bb0), .val (.int bb1), .val (.int bb2), .val (.ref b203), .val (.ref r), .val (.int (2 : Int32)), .val (.int bb2)] [(.int (bb2 + (1 : Int32))), (.int ((bb2 + (1 : Int32)).toInt8.toInt32))])) _
          refine own_go (fun _ k => XS.i2b X215.here hx rfl (hb hby at_278) rfl k) ?_
          show own_G p e below (T215.setTop (mkF m 279 #[.val (.int p1), .val (.int p2), .val (.int p3), .val (.int p4), .val (.int (3 : Int32)), .val (.int bb0), .val (.int bb1), .val (.int bb2), .val (.ref b203), .val (.ref r), .val (.int (2 : Int32)), .val (.int bb2)] [(.int ((bb2 + (1 : Int32)).toInt8.toInt32)), (.int ((bb2 + (1 : Int32)).toInt8.toInt32))])) _
          refine own_go (fun _ k => XS.icmpNo X215.here hx rfl (hb hby at_279) rfl (teq (rfl : ((bb2 + (1 : Int32)).toInt8.toInt32) = ((bb2 + (1 : Int32)).toInt8.toInt32))).2 k) ?_
          show own_G p e below (T215.setTop (mkF m 282 #[.val (.int p1), .val (.int p2), .val (.int p3), .val (.int p4), .val (.int (3 : Int32)), .val (.int bb0), .val (.int bb1), .val (.int bb2), .val (.ref b203), .val (.ref r), .val (.int (2 : Int32)), .val (.int bb2)] [])) _
          refine own_go (fun _ k => XS.iconst X215.here hx rfl (hb hby at_282) k) ?_
          show own_G p e below (T215.setTop (mkF m 283 #[.val (.int p1), .val (.int p2), .val (.int p3), .val (.int p4), .val (.int (3 : Int32)), .val (.int bb0), .val (.int bb1), .val (.int bb2), .val (.ref b203), .val (.ref r), .val (.int (2 : Int32)), .val (.int bb2)] [(.int (1 : Int32))])) _
          refine own_go (fun _ k => XS.goto X215.here hx rfl (pc0 := 283) (pc' := 287) rfl (hb hby at_283) (by decide) (by decide) k) ?_
          show own_G p e below (T215.setTop (mkF m 287 #[.val (.int p1), .val (.int p2), .val (.int p3), .val (.int p4), .val (.int (3 : Int32)), .val (.int bb0), .val (.int bb1), .val (.int bb2), .val (.ref b203), .val (.ref r), .val (.int (2 : Int32)), .val (.int bb2)] [(.int (1 : Int32))])) _
          refine own_ret X215 hlk (v := some (.int (1 : Int32))) (fun h => by rw [hret] at h; cases h) (Q0 Z p1 p2 p3 p4 h0 n0) (own_retI X215 hx (t := .boolean) hret rfl (Or.inl ⟨rfl, by simp, _, rfl⟩) (hb hby at_287)) (by decide) (by decide) ?_
          show Q0 Z p1 p2 p3 p4 h0 n0 _ T215.heap _
          exact ⟨rfl, N215⟩
    · refine own_go st215 ?_
      show own_G p e below (T215.setTop (mkF m 69 #[.val (.int p1), .val (.int p2), .val (.int p3), .val (.int p4), .val (.int (3 : Int32)), .val (.int bb0), .val (.int bb1), .val (.int bb2), .val (.ref b203), .unset, .unset, .unset] [(.ref r)])) _
      refine own_go (fun _ k => XS.astore X215.here hx rfl (hb hby at_69) rfl rfl (l' := #[.val (.int p1), .val (.int p2), .val (.int p3), .val (.int p4), .val (.int (3 : Int32)), .val (.int bb0), .val (.int bb1), .val (.int bb2), .val (.ref b203), .val (.ref r), .unset, .unset]) rfl k) ?_
      show own_G p e below (T215.setTop (mkF m 71 #[.val (.int p1), .val (.int p2), .val (.int p3), .val (.int p4), .val (.int (3 : Int32)), .val (.int bb0), .val (.int bb1), .val (.int bb2), .val (.ref b203), .val (.ref r), .unset, .unset] [])) _
      refine own_go (fun _ k => XS.aload X215.here hx rfl (hb hby at_71) rfl rfl k) ?_
      show own_G p e below (T215.setTop (mkF m 73 #[.val (.int p1), .val (.int p2), .val (.int p3), .val (.int p4), .val (.int (3 : Int32)), .val (.int bb0), .val (.int bb1), .val (.int bb2), .val (.ref b203), .val (.ref r), .unset, .unset] [(.ref b203)])) _
      obtain ⟨cl242, Ar242, q242, S242, M242, B242, G242⟩ := id f217
      refine own_go (X215.arraylength hx Ar242.1 (State.isArrayOf_alike hZ.alike Ar242.2.1) (g := (mkF m 73 #[.val (.int p1), .val (.int p2), .val (.int p3), .val (.int p4), .val (.int (3 : Int32)), .val (.int bb0), .val (.int bb1), .val (.int bb2), .val (.ref b203), .val (.ref r), .unset, .unset] [(.ref b203)])) rfl rfl (hb hby at_73)) ?_
      rw [len_of S242 M242]
      show own_G p e below (T215.setTop (mkF m 74 #[.val (.int p1), .val (.int p2), .val (.int p3), .val (.int p4), .val (.int (3 : Int32)), .val (.int bb0), .val (.int bb1), .val (.int bb2), .val (.ref b203), .val (.ref r), .unset, .unset] [(.int (3 : Int32))])) _
      refine own_go (fun _ k => XS.iload X215.here hx rfl (hb hby at_74) rfl k) ?_
      show own_G p e below (T215.setTop (mkF m 76 #[.val (.int p1), .val (.int p2), .val (.int p3), .val (.int p4), .val (.int (3 : Int32)), .val (.int bb0), .val (.int bb1), .val (.int bb2), .val (.ref b203), .val (.ref r), .unset, .unset] [(.int (3 : Int32)), (.int (3 : Int32))])) _
      refine own_go (fun _ k => XS.icmpYes X215.here hx rfl (pc0 := 76) (pc' := 81) rfl (hb hby at_76) rfl (teq (by decide : (3 : Int32) = (3 : Int32))).1 (by decide) (by decide) k) ?_
      show own_G p e below (T215.setTop (mkF m 81 #[.val (.int p1), .val (.int p2), .val (.int p3), .val (.int p4), .val (.int (3 : Int32)), .val (.int bb0), .val (.int bb1), .val (.int bb2), .val (.ref b203), .val (.ref r), .unset, .unset] [])) _
      refine own_go (fun _ k => XS.iload X215.here hx rfl (hb hby at_81) rfl k) ?_
      show own_G p e below (T215.setTop (mkF m 83 #[.val (.int p1), .val (.int p2), .val (.int p3), .val (.int p4), .val (.int (3 : Int32)), .val (.int bb0), .val (.int bb1), .val (.int bb2), .val (.ref b203), .val (.ref r), .unset, .unset] [(.int (3 : Int32))])) _
      refine own_go (fun _ k => XS.ifNo X215.here hx rfl (hb hby at_83) rfl ((if0 _ _).trans (tlt (by decide : (0 : Int32) < (3 : Int32))).2.2.2) k) ?_
      show own_G p e below (T215.setTop (mkF m 86 #[.val (.int p1), .val (.int p2), .val (.int p3), .val (.int p4), .val (.int (3 : Int32)), .val (.int bb0), .val (.int bb1), .val (.int bb2), .val (.ref b203), .val (.ref r), .unset, .unset] [])) _
      refine own_go (fun _ k => XS.aload X215.here hx rfl (hb hby at_86) rfl rfl k) ?_
      show own_G p e below (T215.setTop (mkF m 88 #[.val (.int p1), .val (.int p2), .val (.int p3), .val (.int p4), .val (.int (3 : Int32)), .val (.int bb0), .val (.int bb1), .val (.int bb2), .val (.ref b203), .val (.ref r), .unset, .unset] [(.ref b203)])) _
      refine own_go (fun _ k => XS.iconst X215.here hx rfl (hb hby at_88) k) ?_
      show own_G p e below (T215.setTop (mkF m 89 #[.val (.int p1), .val (.int p2), .val (.int p3), .val (.int p4), .val (.int (3 : Int32)), .val (.int bb0), .val (.int bb1), .val (.int bb2), .val (.ref b203), .val (.ref r), .unset, .unset] [(.int (0 : Int32)), (.ref b203)])) _
      obtain ⟨cl243, Ar243, q243, S243, M243, B243, G243⟩ := id f217
      have hin243 : ¬ ((0 : Int32) < 0 ∨ cl243.slots.size ≤ ((0 : Int32)).toNatClampNeg) := inb_of S243 ⟨by decide, by decide⟩
      have hat243 : cl243.slots[((0 : Int32)).toNatClampNeg]? = some (.int bb0) := B243.at hin243 rfl
      refine own_go (X215.baloadBytes hx (j := (0 : Int32)) (v := (.int bb0)) Ar243.1 (State.isArrayOf_alike hZ.alike Ar243.2.1) Ar243.2.2 hin243 hat243 (g := (mkF m 89 #[.val (.int p1), .val (.int p2), .val (.int p3), .val (.int p4), .val (.int (3 : Int32)), .val (.int bb0), .val (.int bb1), .val (.int bb2), .val (.ref b203), .val (.ref r), .unset, .unset] [(.int (0 : Int32)), (.ref b203)])) rfl rfl (hb hby at_89)) ?_
      show own_G p e below (T215.setTop (mkF m 90 #[.val (.int p1), .val (.int p2), .val (.int p3), .val (.int p4), .val (.int (3 : Int32)), .val (.int bb0), .val (.int bb1), .val (.int bb2), .val (.ref b203), .val (.ref r), .unset, .unset] [(.int bb0)])) _
      refine own_go (fun _ k => XS.iload X215.here hx rfl (hb hby at_90) rfl k) ?_
      show own_G p e below (T215.setTop (mkF m 92 #[.val (.int p1), .val (.int p2), .val (.int p3), .val (.int p4), .val (.int (3 : Int32)), .val (.int bb0), .val (.int bb1), .val (.int bb2), .val (.ref b203), .val (.ref r), .unset, .unset] [(.int bb0), (.int bb0)])) _
      refine own_go (fun _ k => XS.icmpYes X215.here hx rfl (pc0 := 92) (pc' := 97) rfl (hb hby at_92) rfl (teq (rfl : bb0 = bb0)).1 (by decide) (by decide) k) ?_
      show own_G p e below (T215.setTop (mkF m 97 #[.val (.int p1), .val (.int p2), .val (.int p3), .val (.int p4), .val (.int (3 : Int32)), .val (.int bb0), .val (.int bb1), .val (.int bb2), .val (.ref b203), .val (.ref r), .unset, .unset] [])) _
      refine own_go (fun _ k => XS.iload X215.here hx rfl (hb hby at_97) rfl k) ?_
      show own_G p e below (T215.setTop (mkF m 99 #[.val (.int p1), .val (.int p2), .val (.int p3), .val (.int p4), .val (.int (3 : Int32)), .val (.int bb0), .val (.int bb1), .val (.int bb2), .val (.ref b203), .val (.ref r), .unset, .unset] [(.int (3 : Int32))])) _
      refine own_go (fun _ k => XS.iconst X215.here hx rfl (hb hby at_99) k) ?_
      show own_G p e below (T215.setTop (mkF m 100 #[.val (.int p1), .val (.int p2), .val (.int p3), .val (.int p4), .val (.int (3 : Int32)), .val (.int bb0), .val (.int bb1), .val (.int bb2), .val (.ref b203), .val (.ref r), .unset, .unset] [(.int (1 : Int32)), (.int (3 : Int32))])) _
      refine own_go (fun _ k => XS.icmpNo X215.here hx rfl (hb hby at_100) rfl (tlt (by decide : (1 : Int32) < (3 : Int32))).2.2.2 k) ?_
      show own_G p e below (T215.setTop (mkF m 103 #[.val (.int p1), .val (.int p2), .val (.int p3), .val (.int p4), .val (.int (3 : Int32)), .val (.int bb0), .val (.int bb1), .val (.int bb2), .val (.ref b203), .val (.ref r), .unset, .unset] [])) _
      refine own_go (fun _ k => XS.aload X215.here hx rfl (hb hby at_103) rfl rfl k) ?_
      show own_G p e below (T215.setTop (mkF m 105 #[.val (.int p1), .val (.int p2), .val (.int p3), .val (.int p4), .val (.int (3 : Int32)), .val (.int bb0), .val (.int bb1), .val (.int bb2), .val (.ref b203), .val (.ref r), .unset, .unset] [(.ref b203)])) _
      refine own_go (fun _ k => XS.iconst X215.here hx rfl (hb hby at_105) k) ?_
      show own_G p e below (T215.setTop (mkF m 106 #[.val (.int p1), .val (.int p2), .val (.int p3), .val (.int p4), .val (.int (3 : Int32)), .val (.int bb0), .val (.int bb1), .val (.int bb2), .val (.ref b203), .val (.ref r), .unset, .unset] [(.int (1 : Int32)), (.ref b203)])) _
      obtain ⟨cl244, Ar244, q244, S244, M244, B244, G244⟩ := id f217
      have hin244 : ¬ ((1 : Int32) < 0 ∨ cl244.slots.size ≤ ((1 : Int32)).toNatClampNeg) := inb_of S244 ⟨by decide, by decide⟩
      have hat244 : cl244.slots[((1 : Int32)).toNatClampNeg]? = some (.int bb1) := B244.at hin244 rfl
      refine own_go (X215.baloadBytes hx (j := (1 : Int32)) (v := (.int bb1)) Ar244.1 (State.isArrayOf_alike hZ.alike Ar244.2.1) Ar244.2.2 hin244 hat244 (g := (mkF m 106 #[.val (.int p1), .val (.int p2), .val (.int p3), .val (.int p4), .val (.int (3 : Int32)), .val (.int bb0), .val (.int bb1), .val (.int bb2), .val (.ref b203), .val (.ref r), .unset, .unset] [(.int (1 : Int32)), (.ref b203)])) rfl rfl (hb hby at_106)) ?_
      show own_G p e below (T215.setTop (mkF m 107 #[.val (.int p1), .val (.int p2), .val (.int p3), .val (.int p4), .val (.int (3 : Int32)), .val (.int bb0), .val (.int bb1), .val (.int bb2), .val (.ref b203), .val (.ref r), .unset, .unset] [(.int bb1)])) _
      refine own_go (fun _ k => XS.iload X215.here hx rfl (hb hby at_107) rfl k) ?_
      show own_G p e below (T215.setTop (mkF m 109 #[.val (.int p1), .val (.int p2), .val (.int p3), .val (.int p4), .val (.int (3 : Int32)), .val (.int bb0), .val (.int bb1), .val (.int bb2), .val (.ref b203), .val (.ref r), .unset, .unset] [(.int bb1), (.int bb1)])) _
      refine own_go (fun _ k => XS.icmpYes X215.here hx rfl (pc0 := 109) (pc' := 114) rfl (hb hby at_109) rfl (teq (rfl : bb1 = bb1)).1 (by decide) (by decide) k) ?_
      show own_G p e below (T215.setTop (mkF m 114 #[.val (.int p1), .val (.int p2), .val (.int p3), .val (.int p4), .val (.int (3 : Int32)), .val (.int bb0), .val (.int bb1), .val (.int bb2), .val (.ref b203), .val (.ref r), .unset, .unset] [])) _
      refine own_go (fun _ k => XS.iload X215.here hx rfl (hb hby at_114) rfl k) ?_
      show own_G p e below (T215.setTop (mkF m 116 #[.val (.int p1), .val (.int p2), .val (.int p3), .val (.int p4), .val (.int (3 : Int32)), .val (.int bb0), .val (.int bb1), .val (.int bb2), .val (.ref b203), .val (.ref r), .unset, .unset] [(.int (3 : Int32))])) _
      refine own_go (fun _ k => XS.iconst X215.here hx rfl (hb hby at_116) k) ?_
      show own_G p e below (T215.setTop (mkF m 117 #[.val (.int p1), .val (.int p2), .val (.int p3), .val (.int p4), .val (.int (3 : Int32)), .val (.int bb0), .val (.int bb1), .val (.int bb2), .val (.ref b203), .val (.ref r), .unset, .unset] [(.int (2 : Int32)), (.int (3 : Int32))])) _
      refine own_go (fun _ k => XS.icmpNo X215.here hx rfl (hb hby at_117) rfl (tlt (by decide : (2 : Int32) < (3 : Int32))).2.2.2 k) ?_
      show own_G p e below (T215.setTop (mkF m 120 #[.val (.int p1), .val (.int p2), .val (.int p3), .val (.int p4), .val (.int (3 : Int32)), .val (.int bb0), .val (.int bb1), .val (.int bb2), .val (.ref b203), .val (.ref r), .unset, .unset] [])) _
      refine own_go (fun _ k => XS.aload X215.here hx rfl (hb hby at_120) rfl rfl k) ?_
      show own_G p e below (T215.setTop (mkF m 122 #[.val (.int p1), .val (.int p2), .val (.int p3), .val (.int p4), .val (.int (3 : Int32)), .val (.int bb0), .val (.int bb1), .val (.int bb2), .val (.ref b203), .val (.ref r), .unset, .unset] [(.ref b203)])) _
      refine own_go (fun _ k => XS.iconst X215.here hx rfl (hb hby at_122) k) ?_
      show own_G p e below (T215.setTop (mkF m 123 #[.val (.int p1), .val (.int p2), .val (.int p3), .val (.int p4), .val (.int (3 : Int32)), .val (.int bb0), .val (.int bb1), .val (.int bb2), .val (.ref b203), .val (.ref r), .unset, .unset] [(.int (2 : Int32)), (.ref b203)])) _
      obtain ⟨cl245, Ar245, q245, S245, M245, B245, G245⟩ := id f217
      have hin245 : ¬ ((2 : Int32) < 0 ∨ cl245.slots.size ≤ ((2 : Int32)).toNatClampNeg) := inb_of S245 ⟨by decide, by decide⟩
      have hat245 : cl245.slots[((2 : Int32)).toNatClampNeg]? = some (.int bb2) := B245.at hin245 rfl
      refine own_go (X215.baloadBytes hx (j := (2 : Int32)) (v := (.int bb2)) Ar245.1 (State.isArrayOf_alike hZ.alike Ar245.2.1) Ar245.2.2 hin245 hat245 (g := (mkF m 123 #[.val (.int p1), .val (.int p2), .val (.int p3), .val (.int p4), .val (.int (3 : Int32)), .val (.int bb0), .val (.int bb1), .val (.int bb2), .val (.ref b203), .val (.ref r), .unset, .unset] [(.int (2 : Int32)), (.ref b203)])) rfl rfl (hb hby at_123)) ?_
      show own_G p e below (T215.setTop (mkF m 124 #[.val (.int p1), .val (.int p2), .val (.int p3), .val (.int p4), .val (.int (3 : Int32)), .val (.int bb0), .val (.int bb1), .val (.int bb2), .val (.ref b203), .val (.ref r), .unset, .unset] [(.int bb2)])) _
      refine own_go (fun _ k => XS.iload X215.here hx rfl (hb hby at_124) rfl k) ?_
      show own_G p e below (T215.setTop (mkF m 126 #[.val (.int p1), .val (.int p2), .val (.int p3), .val (.int p4), .val (.int (3 : Int32)), .val (.int bb0), .val (.int bb1), .val (.int bb2), .val (.ref b203), .val (.ref r), .unset, .unset] [(.int bb2), (.int bb2)])) _
      refine own_go (fun _ k => XS.icmpYes X215.here hx rfl (pc0 := 126) (pc' := 131) rfl (hb hby at_126) rfl (teq (rfl : bb2 = bb2)).1 (by decide) (by decide) k) ?_
      show own_G p e below (T215.setTop (mkF m 131 #[.val (.int p1), .val (.int p2), .val (.int p3), .val (.int p4), .val (.int (3 : Int32)), .val (.int bb0), .val (.int bb1), .val (.int bb2), .val (.ref b203), .val (.ref r), .unset, .unset] [])) _
      refine own_go (fun _ k => XS.iconst X215.here hx rfl (hb hby at_131) k) ?_
      show own_G p e below (T215.setTop (mkF m 132 #[.val (.int p1), .val (.int p2), .val (.int p3), .val (.int p4), .val (.int (3 : Int32)), .val (.int bb0), .val (.int bb1), .val (.int bb2), .val (.ref b203), .val (.ref r), .unset, .unset] [(.int (-1 : Int32))])) _
      refine own_go (fun _ k => XS.istore X215.here hx rfl (hb hby at_132) rfl (l' := #[.val (.int p1), .val (.int p2), .val (.int p3), .val (.int p4), .val (.int (3 : Int32)), .val (.int bb0), .val (.int bb1), .val (.int bb2), .val (.ref b203), .val (.ref r), .val (.int (-1 : Int32)), .unset]) rfl k) ?_
      show own_G p e below (T215.setTop (mkF m 134 #[.val (.int p1), .val (.int p2), .val (.int p3), .val (.int p4), .val (.int (3 : Int32)), .val (.int bb0), .val (.int bb1), .val (.int bb2), .val (.ref b203), .val (.ref r), .val (.int (-1 : Int32)), .unset] [])) _
      refine own_go (fun _ k => XS.iload X215.here hx rfl (hb hby at_134) rfl k) ?_
      show own_G p e below (T215.setTop (mkF m 136 #[.val (.int p1), .val (.int p2), .val (.int p3), .val (.int p4), .val (.int (3 : Int32)), .val (.int bb0), .val (.int bb1), .val (.int bb2), .val (.ref b203), .val (.ref r), .val (.int (-1 : Int32)), .unset] [(.int (3 : Int32))])) _
      refine own_go (fun _ k => XS.ifNo X215.here hx rfl (hb hby at_136) rfl ((if0 _ _).trans (tlt (by decide : (0 : Int32) < (3 : Int32))).2.2.2) k) ?_
      show own_G p e below (T215.setTop (mkF m 139 #[.val (.int p1), .val (.int p2), .val (.int p3), .val (.int p4), .val (.int (3 : Int32)), .val (.int bb0), .val (.int bb1), .val (.int bb2), .val (.ref b203), .val (.ref r), .val (.int (-1 : Int32)), .unset] [])) _
      refine own_go (fun _ k => XS.iload X215.here hx rfl (hb hby at_139) rfl k) ?_
      show own_G p e below (T215.setTop (mkF m 141 #[.val (.int p1), .val (.int p2), .val (.int p3), .val (.int p4), .val (.int (3 : Int32)), .val (.int bb0), .val (.int bb1), .val (.int bb2), .val (.ref b203), .val (.ref r), .val (.int (-1 : Int32)), .unset] [(.int bb0)])) _
      refine own_go (fun _ k => XS.iconst X215.here hx rfl (hb hby at_141) k) ?_
      show own_G p e below (T215.setTop (mkF m 142 #[.val (.int p1), .val (.int p2), .val (.int p3), .val (.int p4), .val (.int (3 : Int32)), .val (.int bb0), .val (.int bb1), .val (.int bb2), .val (.ref b203), .val (.ref r), .val (.int (-1 : Int32)), .unset] [(.int (-1 : Int32)), (.int bb0)])) _
      by_cases hc142_246 : bb0 = (-1 : Int32)
      · refine own_go (fun _ k => XS.icmpYes X215.here hx rfl (pc0 := 142) (pc' := 148) rfl (hb hby at_142) rfl (teq hc142_246).1 (by decide) (by decide) k) ?_
        show own_G p e below (T215.setTop (mkF m 148 #[.val (.int p1), .val (.int p2), .val (.int p3), .val (.int p4), .val (.int (3 : Int32)), .val (.int bb0), .val (.int bb1), .val (.int bb2), .val (.ref b203), .val (.ref r), .val (.int (-1 : Int32)), .unset] [])) _
        refine own_go (fun _ k => XS.iload X215.here hx rfl (hb hby at_148) rfl k) ?_
        show own_G p e below (T215.setTop (mkF m 150 #[.val (.int p1), .val (.int p2), .val (.int p3), .val (.int p4), .val (.int (3 : Int32)), .val (.int bb0), .val (.int bb1), .val (.int bb2), .val (.ref b203), .val (.ref r), .val (.int (-1 : Int32)), .unset] [(.int (3 : Int32))])) _
        refine own_go (fun _ k => XS.iconst X215.here hx rfl (hb hby at_150) k) ?_
        show own_G p e below (T215.setTop (mkF m 151 #[.val (.int p1), .val (.int p2), .val (.int p3), .val (.int p4), .val (.int (3 : Int32)), .val (.int bb0), .val (.int bb1), .val (.int bb2), .val (.ref b203), .val (.ref r), .val (.int (-1 : Int32)), .unset] [(.int (1 : Int32)), (.int (3 : Int32))])) _
        refine own_go (fun _ k => XS.icmpNo X215.here hx rfl (hb hby at_151) rfl (tlt (by decide : (1 : Int32) < (3 : Int32))).2.2.2 k) ?_
        show own_G p e below (T215.setTop (mkF m 154 #[.val (.int p1), .val (.int p2), .val (.int p3), .val (.int p4), .val (.int (3 : Int32)), .val (.int bb0), .val (.int bb1), .val (.int bb2), .val (.ref b203), .val (.ref r), .val (.int (-1 : Int32)), .unset] [])) _
        refine own_go (fun _ k => XS.iload X215.here hx rfl (hb hby at_154) rfl k) ?_
        show own_G p e below (T215.setTop (mkF m 156 #[.val (.int p1), .val (.int p2), .val (.int p3), .val (.int p4), .val (.int (3 : Int32)), .val (.int bb0), .val (.int bb1), .val (.int bb2), .val (.ref b203), .val (.ref r), .val (.int (-1 : Int32)), .unset] [(.int bb1)])) _
        refine own_go (fun _ k => XS.iconst X215.here hx rfl (hb hby at_156) k) ?_
        show own_G p e below (T215.setTop (mkF m 157 #[.val (.int p1), .val (.int p2), .val (.int p3), .val (.int p4), .val (.int (3 : Int32)), .val (.int bb0), .val (.int bb1), .val (.int bb2), .val (.ref b203), .val (.ref r), .val (.int (-1 : Int32)), .unset] [(.int (-1 : Int32)), (.int bb1)])) _
        refine own_go (fun _ k => XS.icmpNo X215.here hx rfl (hb hby at_157) rfl (feq c1).1 k) ?_
        show own_G p e below (T215.setTop (mkF m 160 #[.val (.int p1), .val (.int p2), .val (.int p3), .val (.int p4), .val (.int (3 : Int32)), .val (.int bb0), .val (.int bb1), .val (.int bb2), .val (.ref b203), .val (.ref r), .val (.int (-1 : Int32)), .unset] [])) _
        refine own_go (fun _ k => XS.iconst X215.here hx rfl (hb hby at_160) k) ?_
        show own_G p e below (T215.setTop (mkF m 161 #[.val (.int p1), .val (.int p2), .val (.int p3), .val (.int p4), .val (.int (3 : Int32)), .val (.int bb0), .val (.int bb1), .val (.int bb2), .val (.ref b203), .val (.ref r), .val (.int (-1 : Int32)), .unset] [(.int (1 : Int32))])) _
        refine own_go (fun _ k => XS.istore X215.here hx rfl (hb hby at_161) rfl (l' := #[.val (.int p1), .val (.int p2), .val (.int p3), .val (.int p4), .val (.int (3 : Int32)), .val (.int bb0), .val (.int bb1), .val (.int bb2), .val (.ref b203), .val (.ref r), .val (.int (1 : Int32)), .unset]) rfl k) ?_
        show own_G p e below (T215.setTop (mkF m 163 #[.val (.int p1), .val (.int p2), .val (.int p3), .val (.int p4), .val (.int (3 : Int32)), .val (.int bb0), .val (.int bb1), .val (.int bb2), .val (.ref b203), .val (.ref r), .val (.int (1 : Int32)), .unset] [])) _
        refine own_go (fun _ k => XS.iload X215.here hx rfl (hb hby at_163) rfl k) ?_
        show own_G p e below (T215.setTop (mkF m 165 #[.val (.int p1), .val (.int p2), .val (.int p3), .val (.int p4), .val (.int (3 : Int32)), .val (.int bb0), .val (.int bb1), .val (.int bb2), .val (.ref b203), .val (.ref r), .val (.int (1 : Int32)), .unset] [(.int (3 : Int32))])) _
        refine own_go (fun _ k => XS.iconst X215.here hx rfl (hb hby at_165) k) ?_
        show own_G p e below (T215.setTop (mkF m 166 #[.val (.int p1), .val (.int p2), .val (.int p3), .val (.int p4), .val (.int (3 : Int32)), .val (.int bb0), .val (.int bb1), .val (.int bb2), .val (.ref b203), .val (.ref r), .val (.int (1 : Int32)), .unset] [(.int (2 : Int32)), (.int (3 : Int32))])) _
        refine own_go (fun _ k => XS.icmpNo X215.here hx rfl (hb hby at_166) rfl (tlt (by decide : (2 : Int32) < (3 : Int32))).2.2.2 k) ?_
        show own_G p e below (T215.setTop (mkF m 169 #[.val (.int p1), .val (.int p2), .val (.int p3), .val (.int p4), .val (.int (3 : Int32)), .val (.int bb0), .val (.int bb1), .val (.int bb2), .val (.ref b203), .val (.ref r), .val (.int (1 : Int32)), .unset] [])) _
        refine own_go (fun _ k => XS.iload X215.here hx rfl (hb hby at_169) rfl k) ?_
        show own_G p e below (T215.setTop (mkF m 171 #[.val (.int p1), .val (.int p2), .val (.int p3), .val (.int p4), .val (.int (3 : Int32)), .val (.int bb0), .val (.int bb1), .val (.int bb2), .val (.ref b203), .val (.ref r), .val (.int (1 : Int32)), .unset] [(.int bb2)])) _
        refine own_go (fun _ k => XS.iconst X215.here hx rfl (hb hby at_171) k) ?_
        show own_G p e below (T215.setTop (mkF m 172 #[.val (.int p1), .val (.int p2), .val (.int p3), .val (.int p4), .val (.int (3 : Int32)), .val (.int bb0), .val (.int bb1), .val (.int bb2), .val (.ref b203), .val (.ref r), .val (.int (1 : Int32)), .unset] [(.int (-1 : Int32)), (.int bb2)])) _
        refine own_go (fun _ k => XS.icmpYes X215.here hx rfl (pc0 := 172) (pc' := 178) rfl (hb hby at_172) rfl (teq c2).1 (by decide) (by decide) k) ?_
        show own_G p e below (T215.setTop (mkF m 178 #[.val (.int p1), .val (.int p2), .val (.int p3), .val (.int p4), .val (.int (3 : Int32)), .val (.int bb0), .val (.int bb1), .val (.int bb2), .val (.ref b203), .val (.ref r), .val (.int (1 : Int32)), .unset] [])) _
        refine own_go (fun _ k => XS.iload X215.here hx rfl (hb hby at_178) rfl k) ?_
        show own_G p e below (T215.setTop (mkF m 180 #[.val (.int p1), .val (.int p2), .val (.int p3), .val (.int p4), .val (.int (3 : Int32)), .val (.int bb0), .val (.int bb1), .val (.int bb2), .val (.ref b203), .val (.ref r), .val (.int (1 : Int32)), .unset] [(.int (1 : Int32))])) _
        refine own_go (fun _ k => XS.ifYes X215.here hx rfl (pc0 := 180) (pc' := 194) rfl (hb hby at_180) rfl ((if0 _ _).trans (flt (by decide : ¬ ((1 : Int32) < (0 : Int32)))).2.1) (by decide) (by decide) k) ?_
        show own_G p e below (T215.setTop (mkF m 194 #[.val (.int p1), .val (.int p2), .val (.int p3), .val (.int p4), .val (.int (3 : Int32)), .val (.int bb0), .val (.int bb1), .val (.int bb2), .val (.ref b203), .val (.ref r), .val (.int (1 : Int32)), .unset] [])) _
        refine own_go (fun _ k => XS.aload X215.here hx rfl (hb hby at_194) rfl rfl k) ?_
        show own_G p e below (T215.setTop (mkF m 196 #[.val (.int p1), .val (.int p2), .val (.int p3), .val (.int p4), .val (.int (3 : Int32)), .val (.int bb0), .val (.int bb1), .val (.int bb2), .val (.ref b203), .val (.ref r), .val (.int (1 : Int32)), .unset] [(.ref r)])) _
        refine own_go (fun _ k => XS.ifnullNo X215.here hx rfl (hb hby at_196) rfl k) ?_
        show own_G p e below (T215.setTop (mkF m 199 #[.val (.int p1), .val (.int p2), .val (.int p3), .val (.int p4), .val (.int (3 : Int32)), .val (.int bb0), .val (.int bb1), .val (.int bb2), .val (.ref b203), .val (.ref r), .val (.int (1 : Int32)), .unset] [])) _
        refine own_go (fun _ k => XS.aload X215.here hx rfl (hb hby at_199) rfl rfl k) ?_
        show own_G p e below (T215.setTop (mkF m 201 #[.val (.int p1), .val (.int p2), .val (.int p3), .val (.int p4), .val (.int (3 : Int32)), .val (.int bb0), .val (.int bb1), .val (.int bb2), .val (.ref b203), .val (.ref r), .val (.int (1 : Int32)), .unset] [(.ref r)])) _
        obtain ⟨cl247, Ar247, q247, S247, M247, B247, G247⟩ := id Vr
        refine own_go (X215.arraylength hx Ar247.1 (State.isArrayOf_alike hZ.alike Ar247.2.1) (g := (mkF m 201 #[.val (.int p1), .val (.int p2), .val (.int p3), .val (.int p4), .val (.int (3 : Int32)), .val (.int bb0), .val (.int bb1), .val (.int bb2), .val (.ref b203), .val (.ref r), .val (.int (1 : Int32)), .unset] [(.ref r)])) rfl rfl (hb hby at_201)) ?_
        rw [len_of S247 M247]
        show own_G p e below (T215.setTop (mkF m 202 #[.val (.int p1), .val (.int p2), .val (.int p3), .val (.int p4), .val (.int (3 : Int32)), .val (.int bb0), .val (.int bb1), .val (.int bb2), .val (.ref b203), .val (.ref r), .val (.int (1 : Int32)), .unset] [(.int (2 : Int32))])) _
        refine own_go (fun _ k => XS.iload X215.here hx rfl (hb hby at_202) rfl k) ?_
        show own_G p e below (T215.setTop (mkF m 204 #[.val (.int p1), .val (.int p2), .val (.int p3), .val (.int p4), .val (.int (3 : Int32)), .val (.int bb0), .val (.int bb1), .val (.int bb2), .val (.ref b203), .val (.ref r), .val (.int (1 : Int32)), .unset] [(.int (1 : Int32)), (.int (2 : Int32))])) _
        refine own_go (fun _ k => XS.iconst X215.here hx rfl (hb hby at_204) k) ?_
        show own_G p e below (T215.setTop (mkF m 205 #[.val (.int p1), .val (.int p2), .val (.int p3), .val (.int p4), .val (.int (3 : Int32)), .val (.int bb0), .val (.int bb1), .val (.int bb2), .val (.ref b203), .val (.ref r), .val (.int (1 : Int32)), .unset] [(.int (1 : Int32)), (.int (1 : Int32)), (.int (2 : Int32))])) _
        refine own_go (fun _ k => XS.iadd X215.here hx rfl (hb hby at_205) rfl k) ?_
        show own_G p e below (T215.setTop (mkF m 206 #[.val (.int p1), .val (.int p2), .val (.int p3), .val (.int p4), .val (.int (3 : Int32)), .val (.int bb0), .val (.int bb1), .val (.int bb2), .val (.ref b203), .val (.ref r), .val (.int (1 : Int32)), .unset] [(.int (2 : Int32)), (.int (2 : Int32))])) _
        refine own_go (fun _ k => XS.icmpYes X215.here hx rfl (pc0 := 206) (pc' := 211) rfl (hb hby at_206) rfl (teq (by decide : (2 : Int32) = (2 : Int32))).1 (by decide) (by decide) k) ?_
        show own_G p e below (T215.setTop (mkF m 211 #[.val (.int p1), .val (.int p2), .val (.int p3), .val (.int p4), .val (.int (3 : Int32)), .val (.int bb0), .val (.int bb1), .val (.int bb2), .val (.ref b203), .val (.ref r), .val (.int (1 : Int32)), .unset] [])) _
        refine own_go (fun _ k => XS.iload X215.here hx rfl (hb hby at_211) rfl k) ?_
        show own_G p e below (T215.setTop (mkF m 213 #[.val (.int p1), .val (.int p2), .val (.int p3), .val (.int p4), .val (.int (3 : Int32)), .val (.int bb0), .val (.int bb1), .val (.int bb2), .val (.ref b203), .val (.ref r), .val (.int (1 : Int32)), .unset] [(.int (1 : Int32))])) _
        refine own_go (fun _ k => XS.ifNo X215.here hx rfl (hb hby at_213) rfl ((if0 _ _).trans (tlt (by decide : (0 : Int32) < (1 : Int32))).2.2.2) k) ?_
        show own_G p e below (T215.setTop (mkF m 216 #[.val (.int p1), .val (.int p2), .val (.int p3), .val (.int p4), .val (.int (3 : Int32)), .val (.int bb0), .val (.int bb1), .val (.int bb2), .val (.ref b203), .val (.ref r), .val (.int (1 : Int32)), .unset] [])) _
        refine own_go (fun _ k => XS.aload X215.here hx rfl (hb hby at_216) rfl rfl k) ?_
        show own_G p e below (T215.setTop (mkF m 218 #[.val (.int p1), .val (.int p2), .val (.int p3), .val (.int p4), .val (.int (3 : Int32)), .val (.int bb0), .val (.int bb1), .val (.int bb2), .val (.ref b203), .val (.ref r), .val (.int (1 : Int32)), .unset] [(.ref r)])) _
        refine own_go (fun _ k => XS.iconst X215.here hx rfl (hb hby at_218) k) ?_
        show own_G p e below (T215.setTop (mkF m 219 #[.val (.int p1), .val (.int p2), .val (.int p3), .val (.int p4), .val (.int (3 : Int32)), .val (.int bb0), .val (.int bb1), .val (.int bb2), .val (.ref b203), .val (.ref r), .val (.int (1 : Int32)), .unset] [(.int (0 : Int32)), (.ref r)])) _
        obtain ⟨cl248, Ar248, q248, S248, M248, B248, G248⟩ := id Vr
        have hin248 : ¬ ((0 : Int32) < 0 ∨ cl248.slots.size ≤ ((0 : Int32)).toNatClampNeg) := inb_of S248 ⟨by decide, by decide⟩
        have hat248 : cl248.slots[((0 : Int32)).toNatClampNeg]? = some (.int bb0) := B248.at hin248 rfl
        refine own_go (X215.baloadBytes hx (j := (0 : Int32)) (v := (.int bb0)) Ar248.1 (State.isArrayOf_alike hZ.alike Ar248.2.1) Ar248.2.2 hin248 hat248 (g := (mkF m 219 #[.val (.int p1), .val (.int p2), .val (.int p3), .val (.int p4), .val (.int (3 : Int32)), .val (.int bb0), .val (.int bb1), .val (.int bb2), .val (.ref b203), .val (.ref r), .val (.int (1 : Int32)), .unset] [(.int (0 : Int32)), (.ref r)])) rfl rfl (hb hby at_219)) ?_
        show own_G p e below (T215.setTop (mkF m 220 #[.val (.int p1), .val (.int p2), .val (.int p3), .val (.int p4), .val (.int (3 : Int32)), .val (.int bb0), .val (.int bb1), .val (.int bb2), .val (.ref b203), .val (.ref r), .val (.int (1 : Int32)), .unset] [(.int bb0)])) _
        refine own_go (fun _ k => XS.iload X215.here hx rfl (hb hby at_220) rfl k) ?_
        show own_G p e below (T215.setTop (mkF m 222 #[.val (.int p1), .val (.int p2), .val (.int p3), .val (.int p4), .val (.int (3 : Int32)), .val (.int bb0), .val (.int bb1), .val (.int bb2), .val (.ref b203), .val (.ref r), .val (.int (1 : Int32)), .unset] [(.int bb0), (.int bb0)])) _
        refine own_go (fun _ k => XS.icmpYes X215.here hx rfl (pc0 := 222) (pc' := 227) rfl (hb hby at_222) rfl (teq (rfl : bb0 = bb0)).1 (by decide) (by decide) k) ?_
        show own_G p e below (T215.setTop (mkF m 227 #[.val (.int p1), .val (.int p2), .val (.int p3), .val (.int p4), .val (.int (3 : Int32)), .val (.int bb0), .val (.int bb1), .val (.int bb2), .val (.ref b203), .val (.ref r), .val (.int (1 : Int32)), .unset] [])) _
        refine own_go (fun _ k => XS.iload X215.here hx rfl (hb hby at_227) rfl k) ?_
        show own_G p e below (T215.setTop (mkF m 229 #[.val (.int p1), .val (.int p2), .val (.int p3), .val (.int p4), .val (.int (3 : Int32)), .val (.int bb0), .val (.int bb1), .val (.int bb2), .val (.ref b203), .val (.ref r), .val (.int (1 : Int32)), .unset] [(.int (1 : Int32))])) _
        refine own_go (fun _ k => XS.iconst X215.here hx rfl (hb hby at_229) k) ?_
        show own_G p e below (T215.setTop (mkF m 230 #[.val (.int p1), .val (.int p2), .val (.int p3), .val (.int p4), .val (.int (3 : Int32)), .val (.int bb0), .val (.int bb1), .val (.int bb2), .val (.ref b203), .val (.ref r), .val (.int (1 : Int32)), .unset] [(.int (1 : Int32)), (.int (1 : Int32))])) _
        refine own_go (fun _ k => XS.icmpYes X215.here hx rfl (pc0 := 230) (pc' := 244) rfl (hb hby at_230) rfl (flt (by decide : ¬ ((1 : Int32) < (1 : Int32)))).2.2.2 (by decide) (by decide) k) ?_
        show own_G p e below (T215.setTop (mkF m 244 #[.val (.int p1), .val (.int p2), .val (.int p3), .val (.int p4), .val (.int (3 : Int32)), .val (.int bb0), .val (.int bb1), .val (.int bb2), .val (.ref b203), .val (.ref r), .val (.int (1 : Int32)), .unset] [])) _
        refine own_go (fun _ k => XS.iload X215.here hx rfl (hb hby at_244) rfl k) ?_
        show own_G p e below (T215.setTop (mkF m 246 #[.val (.int p1), .val (.int p2), .val (.int p3), .val (.int p4), .val (.int (3 : Int32)), .val (.int bb0), .val (.int bb1), .val (.int bb2), .val (.ref b203), .val (.ref r), .val (.int (1 : Int32)), .unset] [(.int (1 : Int32))])) _
        refine own_go (fun _ k => XS.ifYes X215.here hx rfl (pc0 := 246) (pc' := 254) rfl (hb hby at_246) rfl ((if0 _ _).trans (feq (by decide : ¬ ((1 : Int32) = (0 : Int32)))).2) (by decide) (by decide) k) ?_
        show own_G p e below (T215.setTop (mkF m 254 #[.val (.int p1), .val (.int p2), .val (.int p3), .val (.int p4), .val (.int (3 : Int32)), .val (.int bb0), .val (.int bb1), .val (.int bb2), .val (.ref b203), .val (.ref r), .val (.int (1 : Int32)), .unset] [])) _
        refine own_go (fun _ k => XS.iload X215.here hx rfl (hb hby at_254) rfl k) ?_
        show own_G p e below (T215.setTop (mkF m 256 #[.val (.int p1), .val (.int p2), .val (.int p3), .val (.int p4), .val (.int (3 : Int32)), .val (.int bb0), .val (.int bb1), .val (.int bb2), .val (.ref b203), .val (.ref r), .val (.int (1 : Int32)), .unset] [(.int (1 : Int32))])) _
        refine own_go (fun _ k => XS.iconst X215.here hx rfl (hb hby at_256) k) ?_
        show own_G p e below (T215.setTop (mkF m 257 #[.val (.int p1), .val (.int p2), .val (.int p3), .val (.int p4), .val (.int (3 : Int32)), .val (.int bb0), .val (.int bb1), .val (.int bb2), .val (.ref b203), .val (.ref r), .val (.int (1 : Int32)), .unset] [(.int (1 : Int32)), (.int (1 : Int32))])) _
        refine own_go (fun _ k => XS.icmpNo X215.here hx rfl (hb hby at_257) rfl (teq (by decide : (1 : Int32) = (1 : Int32))).2 k) ?_
        show own_G p e below (T215.setTop (mkF m 260 #[.val (.int p1), .val (.int p2), .val (.int p3), .val (.int p4), .val (.int (3 : Int32)), .val (.int bb0), .val (.int bb1), .val (.int bb2), .val (.ref b203), .val (.ref r), .val (.int (1 : Int32)), .unset] [])) _
        refine own_go (fun _ k => XS.iload X215.here hx rfl (hb hby at_260) rfl k) ?_
        show own_G p e below (T215.setTop (mkF m 262 #[.val (.int p1), .val (.int p2), .val (.int p3), .val (.int p4), .val (.int (3 : Int32)), .val (.int bb0), .val (.int bb1), .val (.int bb2), .val (.ref b203), .val (.ref r), .val (.int (1 : Int32)), .unset] [(.int bb1)])) _
        refine own_go (fun _ k => XS.goto X215.here hx rfl (pc0 := 262) (pc' := 267) rfl (hb hby at_262) (by decide) (by decide) k) ?_
        show own_G p e below (T215.setTop (mkF m 267 #[.val (.int p1), .val (.int p2), .val (.int p3), .val (.int p4), .val (.int (3 : Int32)), .val (.int bb0), .val (.int bb1), .val (.int bb2), .val (.ref b203), .val (.ref r), .val (.int (1 : Int32)), .unset] [(.int bb1)])) _
        refine own_go (fun _ k => XS.istore X215.here hx rfl (hb hby at_267) rfl (l' := #[.val (.int p1), .val (.int p2), .val (.int p3), .val (.int p4), .val (.int (3 : Int32)), .val (.int bb0), .val (.int bb1), .val (.int bb2), .val (.ref b203), .val (.ref r), .val (.int (1 : Int32)), .val (.int bb1)]) rfl k) ?_
        show own_G p e below (T215.setTop (mkF m 269 #[.val (.int p1), .val (.int p2), .val (.int p3), .val (.int p4), .val (.int (3 : Int32)), .val (.int bb0), .val (.int bb1), .val (.int bb2), .val (.ref b203), .val (.ref r), .val (.int (1 : Int32)), .val (.int bb1)] [])) _
        refine own_go (fun _ k => XS.aload X215.here hx rfl (hb hby at_269) rfl rfl k) ?_
        show own_G p e below (T215.setTop (mkF m 271 #[.val (.int p1), .val (.int p2), .val (.int p3), .val (.int p4), .val (.int (3 : Int32)), .val (.int bb0), .val (.int bb1), .val (.int bb2), .val (.ref b203), .val (.ref r), .val (.int (1 : Int32)), .val (.int bb1)] [(.ref r)])) _
        refine own_go (fun _ k => XS.iload X215.here hx rfl (hb hby at_271) rfl k) ?_
        show own_G p e below (T215.setTop (mkF m 273 #[.val (.int p1), .val (.int p2), .val (.int p3), .val (.int p4), .val (.int (3 : Int32)), .val (.int bb0), .val (.int bb1), .val (.int bb2), .val (.ref b203), .val (.ref r), .val (.int (1 : Int32)), .val (.int bb1)] [(.int (1 : Int32)), (.ref r)])) _
        obtain ⟨cl249, Ar249, q249, S249, M249, B249, G249⟩ := id Vr
        have hin249 : ¬ ((1 : Int32) < 0 ∨ cl249.slots.size ≤ ((1 : Int32)).toNatClampNeg) := inb_of S249 ⟨by decide, by decide⟩
        have hat249 : cl249.slots[((1 : Int32)).toNatClampNeg]? = some (.int ((bb1 + (1 : Int32)).toInt8.toInt32)) := B249.at hin249 rfl
        refine own_go (X215.baloadBytes hx (j := (1 : Int32)) (v := (.int ((bb1 + (1 : Int32)).toInt8.toInt32))) Ar249.1 (State.isArrayOf_alike hZ.alike Ar249.2.1) Ar249.2.2 hin249 hat249 (g := (mkF m 273 #[.val (.int p1), .val (.int p2), .val (.int p3), .val (.int p4), .val (.int (3 : Int32)), .val (.int bb0), .val (.int bb1), .val (.int bb2), .val (.ref b203), .val (.ref r), .val (.int (1 : Int32)), .val (.int bb1)] [(.int (1 : Int32)), (.ref r)])) rfl rfl (hb hby at_273)) ?_
        show own_G p e below (T215.setTop (mkF m 274 #[.val (.int p1), .val (.int p2), .val (.int p3), .val (.int p4), .val (.int (3 : Int32)), .val (.int bb0), .val (.int bb1), .val (.int bb2), .val (.ref b203), .val (.ref r), .val (.int (1 : Int32)), .val (.int bb1)] [(.int ((bb1 + (1 : Int32)).toInt8.toInt32))])) _
        refine own_go (fun _ k => XS.iload X215.here hx rfl (hb hby at_274) rfl k) ?_
        show own_G p e below (T215.setTop (mkF m 276 #[.val (.int p1), .val (.int p2), .val (.int p3), .val (.int p4), .val (.int (3 : Int32)), .val (.int bb0), .val (.int bb1), .val (.int bb2), .val (.ref b203), .val (.ref r), .val (.int (1 : Int32)), .val (.int bb1)] [(.int bb1), (.int ((bb1 + (1 : Int32)).toInt8.toInt32))])) _
        refine own_go (fun _ k => XS.iconst X215.here hx rfl (hb hby at_276) k) ?_
        show own_G p e below (T215.setTop (mkF m 277 #[.val (.int p1), .val (.int p2), .val (.int p3), .val (.int p4), .val (.int (3 : Int32)), .val (.int bb0), .val (.int bb1), .val (.int bb2), .val (.ref b203), .val (.ref r), .val (.int (1 : Int32)), .val (.int bb1)] [(.int (1 : Int32)), (.int bb1), (.int ((bb1 + (1 : Int32)).toInt8.toInt32))])) _
        refine own_go (fun _ k => XS.iadd X215.here hx rfl (hb hby at_277) rfl k) ?_
        show own_G p e below (T215.setTop (mkF m 278 #[.val (.int p1), .val (.int p2), .val (.int p3), .val (.int p4), .val (.int (3 : Int32)), .val (.int bb0), .val (.int bb1), .val (.int bb2), .val (.ref b203), .val (.ref r), .val (.int (1 : Int32)), .val (.int bb1)] [(.int (bb1 + (1 : Int32))), (.int ((bb1 + (1 : Int32)).toInt8.toInt32))])) _
        refine own_go (fun _ k => XS.i2b X215.here hx rfl (hb hby at_278) rfl k) ?_
        show own_G p e below (T215.setTop (mkF m 279 #[.val (.int p1), .val (.int p2), .val (.int p3), .val (.int p4), .val (.int (3 : Int32)), .val (.int bb0), .val (.int bb1), .val (.int bb2), .val (.ref b203), .val (.ref r), .val (.int (1 : Int32)), .val (.int bb1)] [(.int ((bb1 + (1 : Int32)).toInt8.toInt32)), (.int ((bb1 + (1 : Int32)).toInt8.toInt32))])) _
        refine own_go (fun _ k => XS.icmpNo X215.here hx rfl (hb hby at_279) rfl (teq (rfl : ((bb1 + (1 : Int32)).toInt8.toInt32) = ((bb1 + (1 : Int32)).toInt8.toInt32))).2 k) ?_
        show own_G p e below (T215.setTop (mkF m 282 #[.val (.int p1), .val (.int p2), .val (.int p3), .val (.int p4), .val (.int (3 : Int32)), .val (.int bb0), .val (.int bb1), .val (.int bb2), .val (.ref b203), .val (.ref r), .val (.int (1 : Int32)), .val (.int bb1)] [])) _
        refine own_go (fun _ k => XS.iconst X215.here hx rfl (hb hby at_282) k) ?_
        show own_G p e below (T215.setTop (mkF m 283 #[.val (.int p1), .val (.int p2), .val (.int p3), .val (.int p4), .val (.int (3 : Int32)), .val (.int bb0), .val (.int bb1), .val (.int bb2), .val (.ref b203), .val (.ref r), .val (.int (1 : Int32)), .val (.int bb1)] [(.int (1 : Int32))])) _
        refine own_go (fun _ k => XS.goto X215.here hx rfl (pc0 := 283) (pc' := 287) rfl (hb hby at_283) (by decide) (by decide) k) ?_
        show own_G p e below (T215.setTop (mkF m 287 #[.val (.int p1), .val (.int p2), .val (.int p3), .val (.int p4), .val (.int (3 : Int32)), .val (.int bb0), .val (.int bb1), .val (.int bb2), .val (.ref b203), .val (.ref r), .val (.int (1 : Int32)), .val (.int bb1)] [(.int (1 : Int32))])) _
        refine own_ret X215 hlk (v := some (.int (1 : Int32))) (fun h => by rw [hret] at h; cases h) (Q0 Z p1 p2 p3 p4 h0 n0) (own_retI X215 hx (t := .boolean) hret rfl (Or.inl ⟨rfl, by simp, _, rfl⟩) (hb hby at_287)) (by decide) (by decide) ?_
        show Q0 Z p1 p2 p3 p4 h0 n0 _ T215.heap _
        exact ⟨rfl, N215⟩
      · refine own_go (fun _ k => XS.icmpNo X215.here hx rfl (hb hby at_142) rfl (feq hc142_246).1 k) ?_
        show own_G p e below (T215.setTop (mkF m 145 #[.val (.int p1), .val (.int p2), .val (.int p3), .val (.int p4), .val (.int (3 : Int32)), .val (.int bb0), .val (.int bb1), .val (.int bb2), .val (.ref b203), .val (.ref r), .val (.int (-1 : Int32)), .unset] [])) _
        refine own_go (fun _ k => XS.iconst X215.here hx rfl (hb hby at_145) k) ?_
        show own_G p e below (T215.setTop (mkF m 146 #[.val (.int p1), .val (.int p2), .val (.int p3), .val (.int p4), .val (.int (3 : Int32)), .val (.int bb0), .val (.int bb1), .val (.int bb2), .val (.ref b203), .val (.ref r), .val (.int (-1 : Int32)), .unset] [(.int (0 : Int32))])) _
        refine own_go (fun _ k => XS.istore X215.here hx rfl (hb hby at_146) rfl (l' := #[.val (.int p1), .val (.int p2), .val (.int p3), .val (.int p4), .val (.int (3 : Int32)), .val (.int bb0), .val (.int bb1), .val (.int bb2), .val (.ref b203), .val (.ref r), .val (.int (0 : Int32)), .unset]) rfl k) ?_
        show own_G p e below (T215.setTop (mkF m 148 #[.val (.int p1), .val (.int p2), .val (.int p3), .val (.int p4), .val (.int (3 : Int32)), .val (.int bb0), .val (.int bb1), .val (.int bb2), .val (.ref b203), .val (.ref r), .val (.int (0 : Int32)), .unset] [])) _
        refine own_go (fun _ k => XS.iload X215.here hx rfl (hb hby at_148) rfl k) ?_
        show own_G p e below (T215.setTop (mkF m 150 #[.val (.int p1), .val (.int p2), .val (.int p3), .val (.int p4), .val (.int (3 : Int32)), .val (.int bb0), .val (.int bb1), .val (.int bb2), .val (.ref b203), .val (.ref r), .val (.int (0 : Int32)), .unset] [(.int (3 : Int32))])) _
        refine own_go (fun _ k => XS.iconst X215.here hx rfl (hb hby at_150) k) ?_
        show own_G p e below (T215.setTop (mkF m 151 #[.val (.int p1), .val (.int p2), .val (.int p3), .val (.int p4), .val (.int (3 : Int32)), .val (.int bb0), .val (.int bb1), .val (.int bb2), .val (.ref b203), .val (.ref r), .val (.int (0 : Int32)), .unset] [(.int (1 : Int32)), (.int (3 : Int32))])) _
        refine own_go (fun _ k => XS.icmpNo X215.here hx rfl (hb hby at_151) rfl (tlt (by decide : (1 : Int32) < (3 : Int32))).2.2.2 k) ?_
        show own_G p e below (T215.setTop (mkF m 154 #[.val (.int p1), .val (.int p2), .val (.int p3), .val (.int p4), .val (.int (3 : Int32)), .val (.int bb0), .val (.int bb1), .val (.int bb2), .val (.ref b203), .val (.ref r), .val (.int (0 : Int32)), .unset] [])) _
        refine own_go (fun _ k => XS.iload X215.here hx rfl (hb hby at_154) rfl k) ?_
        show own_G p e below (T215.setTop (mkF m 156 #[.val (.int p1), .val (.int p2), .val (.int p3), .val (.int p4), .val (.int (3 : Int32)), .val (.int bb0), .val (.int bb1), .val (.int bb2), .val (.ref b203), .val (.ref r), .val (.int (0 : Int32)), .unset] [(.int bb1)])) _
        refine own_go (fun _ k => XS.iconst X215.here hx rfl (hb hby at_156) k) ?_
        show own_G p e below (T215.setTop (mkF m 157 #[.val (.int p1), .val (.int p2), .val (.int p3), .val (.int p4), .val (.int (3 : Int32)), .val (.int bb0), .val (.int bb1), .val (.int bb2), .val (.ref b203), .val (.ref r), .val (.int (0 : Int32)), .unset] [(.int (-1 : Int32)), (.int bb1)])) _
        refine own_go (fun _ k => XS.icmpNo X215.here hx rfl (hb hby at_157) rfl (feq c1).1 k) ?_
        show own_G p e below (T215.setTop (mkF m 160 #[.val (.int p1), .val (.int p2), .val (.int p3), .val (.int p4), .val (.int (3 : Int32)), .val (.int bb0), .val (.int bb1), .val (.int bb2), .val (.ref b203), .val (.ref r), .val (.int (0 : Int32)), .unset] [])) _
        refine own_go (fun _ k => XS.iconst X215.here hx rfl (hb hby at_160) k) ?_
        show own_G p e below (T215.setTop (mkF m 161 #[.val (.int p1), .val (.int p2), .val (.int p3), .val (.int p4), .val (.int (3 : Int32)), .val (.int bb0), .val (.int bb1), .val (.int bb2), .val (.ref b203), .val (.ref r), .val (.int (0 : Int32)), .unset] [(.int (1 : Int32))])) _
        refine own_go (fun _ k => XS.istore X215.here hx rfl (hb hby at_161) rfl (l' := #[.val (.int p1), .val (.int p2), .val (.int p3), .val (.int p4), .val (.int (3 : Int32)), .val (.int bb0), .val (.int bb1), .val (.int bb2), .val (.ref b203), .val (.ref r), .val (.int (1 : Int32)), .unset]) rfl k) ?_
        show own_G p e below (T215.setTop (mkF m 163 #[.val (.int p1), .val (.int p2), .val (.int p3), .val (.int p4), .val (.int (3 : Int32)), .val (.int bb0), .val (.int bb1), .val (.int bb2), .val (.ref b203), .val (.ref r), .val (.int (1 : Int32)), .unset] [])) _
        refine own_go (fun _ k => XS.iload X215.here hx rfl (hb hby at_163) rfl k) ?_
        show own_G p e below (T215.setTop (mkF m 165 #[.val (.int p1), .val (.int p2), .val (.int p3), .val (.int p4), .val (.int (3 : Int32)), .val (.int bb0), .val (.int bb1), .val (.int bb2), .val (.ref b203), .val (.ref r), .val (.int (1 : Int32)), .unset] [(.int (3 : Int32))])) _
        refine own_go (fun _ k => XS.iconst X215.here hx rfl (hb hby at_165) k) ?_
        show own_G p e below (T215.setTop (mkF m 166 #[.val (.int p1), .val (.int p2), .val (.int p3), .val (.int p4), .val (.int (3 : Int32)), .val (.int bb0), .val (.int bb1), .val (.int bb2), .val (.ref b203), .val (.ref r), .val (.int (1 : Int32)), .unset] [(.int (2 : Int32)), (.int (3 : Int32))])) _
        refine own_go (fun _ k => XS.icmpNo X215.here hx rfl (hb hby at_166) rfl (tlt (by decide : (2 : Int32) < (3 : Int32))).2.2.2 k) ?_
        show own_G p e below (T215.setTop (mkF m 169 #[.val (.int p1), .val (.int p2), .val (.int p3), .val (.int p4), .val (.int (3 : Int32)), .val (.int bb0), .val (.int bb1), .val (.int bb2), .val (.ref b203), .val (.ref r), .val (.int (1 : Int32)), .unset] [])) _
        refine own_go (fun _ k => XS.iload X215.here hx rfl (hb hby at_169) rfl k) ?_
        show own_G p e below (T215.setTop (mkF m 171 #[.val (.int p1), .val (.int p2), .val (.int p3), .val (.int p4), .val (.int (3 : Int32)), .val (.int bb0), .val (.int bb1), .val (.int bb2), .val (.ref b203), .val (.ref r), .val (.int (1 : Int32)), .unset] [(.int bb2)])) _
        refine own_go (fun _ k => XS.iconst X215.here hx rfl (hb hby at_171) k) ?_
        show own_G p e below (T215.setTop (mkF m 172 #[.val (.int p1), .val (.int p2), .val (.int p3), .val (.int p4), .val (.int (3 : Int32)), .val (.int bb0), .val (.int bb1), .val (.int bb2), .val (.ref b203), .val (.ref r), .val (.int (1 : Int32)), .unset] [(.int (-1 : Int32)), (.int bb2)])) _
        refine own_go (fun _ k => XS.icmpYes X215.here hx rfl (pc0 := 172) (pc' := 178) rfl (hb hby at_172) rfl (teq c2).1 (by decide) (by decide) k) ?_
        show own_G p e below (T215.setTop (mkF m 178 #[.val (.int p1), .val (.int p2), .val (.int p3), .val (.int p4), .val (.int (3 : Int32)), .val (.int bb0), .val (.int bb1), .val (.int bb2), .val (.ref b203), .val (.ref r), .val (.int (1 : Int32)), .unset] [])) _
        refine own_go (fun _ k => XS.iload X215.here hx rfl (hb hby at_178) rfl k) ?_
        show own_G p e below (T215.setTop (mkF m 180 #[.val (.int p1), .val (.int p2), .val (.int p3), .val (.int p4), .val (.int (3 : Int32)), .val (.int bb0), .val (.int bb1), .val (.int bb2), .val (.ref b203), .val (.ref r), .val (.int (1 : Int32)), .unset] [(.int (1 : Int32))])) _
        refine own_go (fun _ k => XS.ifYes X215.here hx rfl (pc0 := 180) (pc' := 194) rfl (hb hby at_180) rfl ((if0 _ _).trans (flt (by decide : ¬ ((1 : Int32) < (0 : Int32)))).2.1) (by decide) (by decide) k) ?_
        show own_G p e below (T215.setTop (mkF m 194 #[.val (.int p1), .val (.int p2), .val (.int p3), .val (.int p4), .val (.int (3 : Int32)), .val (.int bb0), .val (.int bb1), .val (.int bb2), .val (.ref b203), .val (.ref r), .val (.int (1 : Int32)), .unset] [])) _
        refine own_go (fun _ k => XS.aload X215.here hx rfl (hb hby at_194) rfl rfl k) ?_
        show own_G p e below (T215.setTop (mkF m 196 #[.val (.int p1), .val (.int p2), .val (.int p3), .val (.int p4), .val (.int (3 : Int32)), .val (.int bb0), .val (.int bb1), .val (.int bb2), .val (.ref b203), .val (.ref r), .val (.int (1 : Int32)), .unset] [(.ref r)])) _
        refine own_go (fun _ k => XS.ifnullNo X215.here hx rfl (hb hby at_196) rfl k) ?_
        show own_G p e below (T215.setTop (mkF m 199 #[.val (.int p1), .val (.int p2), .val (.int p3), .val (.int p4), .val (.int (3 : Int32)), .val (.int bb0), .val (.int bb1), .val (.int bb2), .val (.ref b203), .val (.ref r), .val (.int (1 : Int32)), .unset] [])) _
        refine own_go (fun _ k => XS.aload X215.here hx rfl (hb hby at_199) rfl rfl k) ?_
        show own_G p e below (T215.setTop (mkF m 201 #[.val (.int p1), .val (.int p2), .val (.int p3), .val (.int p4), .val (.int (3 : Int32)), .val (.int bb0), .val (.int bb1), .val (.int bb2), .val (.ref b203), .val (.ref r), .val (.int (1 : Int32)), .unset] [(.ref r)])) _
        obtain ⟨cl250, Ar250, q250, S250, M250, B250, G250⟩ := id Vr
        refine own_go (X215.arraylength hx Ar250.1 (State.isArrayOf_alike hZ.alike Ar250.2.1) (g := (mkF m 201 #[.val (.int p1), .val (.int p2), .val (.int p3), .val (.int p4), .val (.int (3 : Int32)), .val (.int bb0), .val (.int bb1), .val (.int bb2), .val (.ref b203), .val (.ref r), .val (.int (1 : Int32)), .unset] [(.ref r)])) rfl rfl (hb hby at_201)) ?_
        rw [len_of S250 M250]
        show own_G p e below (T215.setTop (mkF m 202 #[.val (.int p1), .val (.int p2), .val (.int p3), .val (.int p4), .val (.int (3 : Int32)), .val (.int bb0), .val (.int bb1), .val (.int bb2), .val (.ref b203), .val (.ref r), .val (.int (1 : Int32)), .unset] [(.int (2 : Int32))])) _
        refine own_go (fun _ k => XS.iload X215.here hx rfl (hb hby at_202) rfl k) ?_
        show own_G p e below (T215.setTop (mkF m 204 #[.val (.int p1), .val (.int p2), .val (.int p3), .val (.int p4), .val (.int (3 : Int32)), .val (.int bb0), .val (.int bb1), .val (.int bb2), .val (.ref b203), .val (.ref r), .val (.int (1 : Int32)), .unset] [(.int (1 : Int32)), (.int (2 : Int32))])) _
        refine own_go (fun _ k => XS.iconst X215.here hx rfl (hb hby at_204) k) ?_
        show own_G p e below (T215.setTop (mkF m 205 #[.val (.int p1), .val (.int p2), .val (.int p3), .val (.int p4), .val (.int (3 : Int32)), .val (.int bb0), .val (.int bb1), .val (.int bb2), .val (.ref b203), .val (.ref r), .val (.int (1 : Int32)), .unset] [(.int (1 : Int32)), (.int (1 : Int32)), (.int (2 : Int32))])) _
        refine own_go (fun _ k => XS.iadd X215.here hx rfl (hb hby at_205) rfl k) ?_
        show own_G p e below (T215.setTop (mkF m 206 #[.val (.int p1), .val (.int p2), .val (.int p3), .val (.int p4), .val (.int (3 : Int32)), .val (.int bb0), .val (.int bb1), .val (.int bb2), .val (.ref b203), .val (.ref r), .val (.int (1 : Int32)), .unset] [(.int (2 : Int32)), (.int (2 : Int32))])) _
        refine own_go (fun _ k => XS.icmpYes X215.here hx rfl (pc0 := 206) (pc' := 211) rfl (hb hby at_206) rfl (teq (by decide : (2 : Int32) = (2 : Int32))).1 (by decide) (by decide) k) ?_
        show own_G p e below (T215.setTop (mkF m 211 #[.val (.int p1), .val (.int p2), .val (.int p3), .val (.int p4), .val (.int (3 : Int32)), .val (.int bb0), .val (.int bb1), .val (.int bb2), .val (.ref b203), .val (.ref r), .val (.int (1 : Int32)), .unset] [])) _
        refine own_go (fun _ k => XS.iload X215.here hx rfl (hb hby at_211) rfl k) ?_
        show own_G p e below (T215.setTop (mkF m 213 #[.val (.int p1), .val (.int p2), .val (.int p3), .val (.int p4), .val (.int (3 : Int32)), .val (.int bb0), .val (.int bb1), .val (.int bb2), .val (.ref b203), .val (.ref r), .val (.int (1 : Int32)), .unset] [(.int (1 : Int32))])) _
        refine own_go (fun _ k => XS.ifNo X215.here hx rfl (hb hby at_213) rfl ((if0 _ _).trans (tlt (by decide : (0 : Int32) < (1 : Int32))).2.2.2) k) ?_
        show own_G p e below (T215.setTop (mkF m 216 #[.val (.int p1), .val (.int p2), .val (.int p3), .val (.int p4), .val (.int (3 : Int32)), .val (.int bb0), .val (.int bb1), .val (.int bb2), .val (.ref b203), .val (.ref r), .val (.int (1 : Int32)), .unset] [])) _
        refine own_go (fun _ k => XS.aload X215.here hx rfl (hb hby at_216) rfl rfl k) ?_
        show own_G p e below (T215.setTop (mkF m 218 #[.val (.int p1), .val (.int p2), .val (.int p3), .val (.int p4), .val (.int (3 : Int32)), .val (.int bb0), .val (.int bb1), .val (.int bb2), .val (.ref b203), .val (.ref r), .val (.int (1 : Int32)), .unset] [(.ref r)])) _
        refine own_go (fun _ k => XS.iconst X215.here hx rfl (hb hby at_218) k) ?_
        show own_G p e below (T215.setTop (mkF m 219 #[.val (.int p1), .val (.int p2), .val (.int p3), .val (.int p4), .val (.int (3 : Int32)), .val (.int bb0), .val (.int bb1), .val (.int bb2), .val (.ref b203), .val (.ref r), .val (.int (1 : Int32)), .unset] [(.int (0 : Int32)), (.ref r)])) _
        obtain ⟨cl251, Ar251, q251, S251, M251, B251, G251⟩ := id Vr
        have hin251 : ¬ ((0 : Int32) < 0 ∨ cl251.slots.size ≤ ((0 : Int32)).toNatClampNeg) := inb_of S251 ⟨by decide, by decide⟩
        have hat251 : cl251.slots[((0 : Int32)).toNatClampNeg]? = some (.int bb0) := B251.at hin251 rfl
        refine own_go (X215.baloadBytes hx (j := (0 : Int32)) (v := (.int bb0)) Ar251.1 (State.isArrayOf_alike hZ.alike Ar251.2.1) Ar251.2.2 hin251 hat251 (g := (mkF m 219 #[.val (.int p1), .val (.int p2), .val (.int p3), .val (.int p4), .val (.int (3 : Int32)), .val (.int bb0), .val (.int bb1), .val (.int bb2), .val (.ref b203), .val (.ref r), .val (.int (1 : Int32)), .unset] [(.int (0 : Int32)), (.ref r)])) rfl rfl (hb hby at_219)) ?_
        show own_G p e below (T215.setTop (mkF m 220 #[.val (.int p1), .val (.int p2), .val (.int p3), .val (.int p4), .val (.int (3 : Int32)), .val (.int bb0), .val (.int bb1), .val (.int bb2), .val (.ref b203), .val (.ref r), .val (.int (1 : Int32)), .unset] [(.int bb0)])) _
        refine own_go (fun _ k => XS.iload X215.here hx rfl (hb hby at_220) rfl k) ?_
        show own_G p e below (T215.setTop (mkF m 222 #[.val (.int p1), .val (.int p2), .val (.int p3), .val (.int p4), .val (.int (3 : Int32)), .val (.int bb0), .val (.int bb1), .val (.int bb2), .val (.ref b203), .val (.ref r), .val (.int (1 : Int32)), .unset] [(.int bb0), (.int bb0)])) _
        refine own_go (fun _ k => XS.icmpYes X215.here hx rfl (pc0 := 222) (pc' := 227) rfl (hb hby at_222) rfl (teq (rfl : bb0 = bb0)).1 (by decide) (by decide) k) ?_
        show own_G p e below (T215.setTop (mkF m 227 #[.val (.int p1), .val (.int p2), .val (.int p3), .val (.int p4), .val (.int (3 : Int32)), .val (.int bb0), .val (.int bb1), .val (.int bb2), .val (.ref b203), .val (.ref r), .val (.int (1 : Int32)), .unset] [])) _
        refine own_go (fun _ k => XS.iload X215.here hx rfl (hb hby at_227) rfl k) ?_
        show own_G p e below (T215.setTop (mkF m 229 #[.val (.int p1), .val (.int p2), .val (.int p3), .val (.int p4), .val (.int (3 : Int32)), .val (.int bb0), .val (.int bb1), .val (.int bb2), .val (.ref b203), .val (.ref r), .val (.int (1 : Int32)), .unset] [(.int (1 : Int32))])) _
        refine own_go (fun _ k => XS.iconst X215.here hx rfl (hb hby at_229) k) ?_
        show own_G p e below (T215.setTop (mkF m 230 #[.val (.int p1), .val (.int p2), .val (.int p3), .val (.int p4), .val (.int (3 : Int32)), .val (.int bb0), .val (.int bb1), .val (.int bb2), .val (.ref b203), .val (.ref r), .val (.int (1 : Int32)), .unset] [(.int (1 : Int32)), (.int (1 : Int32))])) _
        refine own_go (fun _ k => XS.icmpYes X215.here hx rfl (pc0 := 230) (pc' := 244) rfl (hb hby at_230) rfl (flt (by decide : ¬ ((1 : Int32) < (1 : Int32)))).2.2.2 (by decide) (by decide) k) ?_
        show own_G p e below (T215.setTop (mkF m 244 #[.val (.int p1), .val (.int p2), .val (.int p3), .val (.int p4), .val (.int (3 : Int32)), .val (.int bb0), .val (.int bb1), .val (.int bb2), .val (.ref b203), .val (.ref r), .val (.int (1 : Int32)), .unset] [])) _
        refine own_go (fun _ k => XS.iload X215.here hx rfl (hb hby at_244) rfl k) ?_
        show own_G p e below (T215.setTop (mkF m 246 #[.val (.int p1), .val (.int p2), .val (.int p3), .val (.int p4), .val (.int (3 : Int32)), .val (.int bb0), .val (.int bb1), .val (.int bb2), .val (.ref b203), .val (.ref r), .val (.int (1 : Int32)), .unset] [(.int (1 : Int32))])) _
        refine own_go (fun _ k => XS.ifYes X215.here hx rfl (pc0 := 246) (pc' := 254) rfl (hb hby at_246) rfl ((if0 _ _).trans (feq (by decide : ¬ ((1 : Int32) = (0 : Int32)))).2) (by decide) (by decide) k) ?_
        show own_G p e below (T215.setTop (mkF m 254 #[.val (.int p1), .val (.int p2), .val (.int p3), .val (.int p4), .val (.int (3 : Int32)), .val (.int bb0), .val (.int bb1), .val (.int bb2), .val (.ref b203), .val (.ref r), .val (.int (1 : Int32)), .unset] [])) _
        refine own_go (fun _ k => XS.iload X215.here hx rfl (hb hby at_254) rfl k) ?_
        show own_G p e below (T215.setTop (mkF m 256 #[.val (.int p1), .val (.int p2), .val (.int p3), .val (.int p4), .val (.int (3 : Int32)), .val (.int bb0), .val (.int bb1), .val (.int bb2), .val (.ref b203), .val (.ref r), .val (.int (1 : Int32)), .unset] [(.int (1 : Int32))])) _
        refine own_go (fun _ k => XS.iconst X215.here hx rfl (hb hby at_256) k) ?_
        show own_G p e below (T215.setTop (mkF m 257 #[.val (.int p1), .val (.int p2), .val (.int p3), .val (.int p4), .val (.int (3 : Int32)), .val (.int bb0), .val (.int bb1), .val (.int bb2), .val (.ref b203), .val (.ref r), .val (.int (1 : Int32)), .unset] [(.int (1 : Int32)), (.int (1 : Int32))])) _
        refine own_go (fun _ k => XS.icmpNo X215.here hx rfl (hb hby at_257) rfl (teq (by decide : (1 : Int32) = (1 : Int32))).2 k) ?_
        show own_G p e below (T215.setTop (mkF m 260 #[.val (.int p1), .val (.int p2), .val (.int p3), .val (.int p4), .val (.int (3 : Int32)), .val (.int bb0), .val (.int bb1), .val (.int bb2), .val (.ref b203), .val (.ref r), .val (.int (1 : Int32)), .unset] [])) _
        refine own_go (fun _ k => XS.iload X215.here hx rfl (hb hby at_260) rfl k) ?_
        show own_G p e below (T215.setTop (mkF m 262 #[.val (.int p1), .val (.int p2), .val (.int p3), .val (.int p4), .val (.int (3 : Int32)), .val (.int bb0), .val (.int bb1), .val (.int bb2), .val (.ref b203), .val (.ref r), .val (.int (1 : Int32)), .unset] [(.int bb1)])) _
        refine own_go (fun _ k => XS.goto X215.here hx rfl (pc0 := 262) (pc' := 267) rfl (hb hby at_262) (by decide) (by decide) k) ?_
        show own_G p e below (T215.setTop (mkF m 267 #[.val (.int p1), .val (.int p2), .val (.int p3), .val (.int p4), .val (.int (3 : Int32)), .val (.int bb0), .val (.int bb1), .val (.int bb2), .val (.ref b203), .val (.ref r), .val (.int (1 : Int32)), .unset] [(.int bb1)])) _
        refine own_go (fun _ k => XS.istore X215.here hx rfl (hb hby at_267) rfl (l' := #[.val (.int p1), .val (.int p2), .val (.int p3), .val (.int p4), .val (.int (3 : Int32)), .val (.int bb0), .val (.int bb1), .val (.int bb2), .val (.ref b203), .val (.ref r), .val (.int (1 : Int32)), .val (.int bb1)]) rfl k) ?_
        show own_G p e below (T215.setTop (mkF m 269 #[.val (.int p1), .val (.int p2), .val (.int p3), .val (.int p4), .val (.int (3 : Int32)), .val (.int bb0), .val (.int bb1), .val (.int bb2), .val (.ref b203), .val (.ref r), .val (.int (1 : Int32)), .val (.int bb1)] [])) _
        refine own_go (fun _ k => XS.aload X215.here hx rfl (hb hby at_269) rfl rfl k) ?_
        show own_G p e below (T215.setTop (mkF m 271 #[.val (.int p1), .val (.int p2), .val (.int p3), .val (.int p4), .val (.int (3 : Int32)), .val (.int bb0), .val (.int bb1), .val (.int bb2), .val (.ref b203), .val (.ref r), .val (.int (1 : Int32)), .val (.int bb1)] [(.ref r)])) _
        refine own_go (fun _ k => XS.iload X215.here hx rfl (hb hby at_271) rfl k) ?_
        show own_G p e below (T215.setTop (mkF m 273 #[.val (.int p1), .val (.int p2), .val (.int p3), .val (.int p4), .val (.int (3 : Int32)), .val (.int bb0), .val (.int bb1), .val (.int bb2), .val (.ref b203), .val (.ref r), .val (.int (1 : Int32)), .val (.int bb1)] [(.int (1 : Int32)), (.ref r)])) _
        obtain ⟨cl252, Ar252, q252, S252, M252, B252, G252⟩ := id Vr
        have hin252 : ¬ ((1 : Int32) < 0 ∨ cl252.slots.size ≤ ((1 : Int32)).toNatClampNeg) := inb_of S252 ⟨by decide, by decide⟩
        have hat252 : cl252.slots[((1 : Int32)).toNatClampNeg]? = some (.int ((bb1 + (1 : Int32)).toInt8.toInt32)) := B252.at hin252 rfl
        refine own_go (X215.baloadBytes hx (j := (1 : Int32)) (v := (.int ((bb1 + (1 : Int32)).toInt8.toInt32))) Ar252.1 (State.isArrayOf_alike hZ.alike Ar252.2.1) Ar252.2.2 hin252 hat252 (g := (mkF m 273 #[.val (.int p1), .val (.int p2), .val (.int p3), .val (.int p4), .val (.int (3 : Int32)), .val (.int bb0), .val (.int bb1), .val (.int bb2), .val (.ref b203), .val (.ref r), .val (.int (1 : Int32)), .val (.int bb1)] [(.int (1 : Int32)), (.ref r)])) rfl rfl (hb hby at_273)) ?_
        show own_G p e below (T215.setTop (mkF m 274 #[.val (.int p1), .val (.int p2), .val (.int p3), .val (.int p4), .val (.int (3 : Int32)), .val (.int bb0), .val (.int bb1), .val (.int bb2), .val (.ref b203), .val (.ref r), .val (.int (1 : Int32)), .val (.int bb1)] [(.int ((bb1 + (1 : Int32)).toInt8.toInt32))])) _
        refine own_go (fun _ k => XS.iload X215.here hx rfl (hb hby at_274) rfl k) ?_
        show own_G p e below (T215.setTop (mkF m 276 #[.val (.int p1), .val (.int p2), .val (.int p3), .val (.int p4), .val (.int (3 : Int32)), .val (.int bb0), .val (.int bb1), .val (.int bb2), .val (.ref b203), .val (.ref r), .val (.int (1 : Int32)), .val (.int bb1)] [(.int bb1), (.int ((bb1 + (1 : Int32)).toInt8.toInt32))])) _
        refine own_go (fun _ k => XS.iconst X215.here hx rfl (hb hby at_276) k) ?_
        show own_G p e below (T215.setTop (mkF m 277 #[.val (.int p1), .val (.int p2), .val (.int p3), .val (.int p4), .val (.int (3 : Int32)), .val (.int bb0), .val (.int bb1), .val (.int bb2), .val (.ref b203), .val (.ref r), .val (.int (1 : Int32)), .val (.int bb1)] [(.int (1 : Int32)), (.int bb1), (.int ((bb1 + (1 : Int32)).toInt8.toInt32))])) _
        refine own_go (fun _ k => XS.iadd X215.here hx rfl (hb hby at_277) rfl k) ?_
        show own_G p e below (T215.setTop (mkF m 278 #[.val (.int p1), .val (.int p2), .val (.int p3), .val (.int p4), .val (.int (3 : Int32)), .val (.int bb0), .val (.int bb1), .val (.int bb2), .val (.ref b203), .val (.ref r), .val (.int (1 : Int32)), .val (.int bb1)] [(.int (bb1 + (1 : Int32))), (.int ((bb1 + (1 : Int32)).toInt8.toInt32))])) _
        refine own_go (fun _ k => XS.i2b X215.here hx rfl (hb hby at_278) rfl k) ?_
        show own_G p e below (T215.setTop (mkF m 279 #[.val (.int p1), .val (.int p2), .val (.int p3), .val (.int p4), .val (.int (3 : Int32)), .val (.int bb0), .val (.int bb1), .val (.int bb2), .val (.ref b203), .val (.ref r), .val (.int (1 : Int32)), .val (.int bb1)] [(.int ((bb1 + (1 : Int32)).toInt8.toInt32)), (.int ((bb1 + (1 : Int32)).toInt8.toInt32))])) _
        refine own_go (fun _ k => XS.icmpNo X215.here hx rfl (hb hby at_279) rfl (teq (rfl : ((bb1 + (1 : Int32)).toInt8.toInt32) = ((bb1 + (1 : Int32)).toInt8.toInt32))).2 k) ?_
        show own_G p e below (T215.setTop (mkF m 282 #[.val (.int p1), .val (.int p2), .val (.int p3), .val (.int p4), .val (.int (3 : Int32)), .val (.int bb0), .val (.int bb1), .val (.int bb2), .val (.ref b203), .val (.ref r), .val (.int (1 : Int32)), .val (.int bb1)] [])) _
        refine own_go (fun _ k => XS.iconst X215.here hx rfl (hb hby at_282) k) ?_
        show own_G p e below (T215.setTop (mkF m 283 #[.val (.int p1), .val (.int p2), .val (.int p3), .val (.int p4), .val (.int (3 : Int32)), .val (.int bb0), .val (.int bb1), .val (.int bb2), .val (.ref b203), .val (.ref r), .val (.int (1 : Int32)), .val (.int bb1)] [(.int (1 : Int32))])) _
        refine own_go (fun _ k => XS.goto X215.here hx rfl (pc0 := 283) (pc' := 287) rfl (hb hby at_283) (by decide) (by decide) k) ?_
        show own_G p e below (T215.setTop (mkF m 287 #[.val (.int p1), .val (.int p2), .val (.int p3), .val (.int p4), .val (.int (3 : Int32)), .val (.int bb0), .val (.int bb1), .val (.int bb2), .val (.ref b203), .val (.ref r), .val (.int (1 : Int32)), .val (.int bb1)] [(.int (1 : Int32))])) _
        refine own_ret X215 hlk (v := some (.int (1 : Int32))) (fun h => by rw [hret] at h; cases h) (Q0 Z p1 p2 p3 p4 h0 n0) (own_retI X215 hx (t := .boolean) hret rfl (Or.inl ⟨rfl, by simp, _, rfl⟩) (hb hby at_287)) (by decide) (by decide) ?_
        show Q0 Z p1 p2 p3 p4 h0 n0 _ T215.heap _
        exact ⟨rfl, N215⟩
    · refine own_go st215 ?_
      show own_G p e below (T215.setTop (mkF m 69 #[.val (.int p1), .val (.int p2), .val (.int p3), .val (.int p4), .val (.int (3 : Int32)), .val (.int bb0), .val (.int bb1), .val (.int bb2), .val (.ref b203), .unset, .unset, .unset] [(.ref r)])) _
      refine own_go (fun _ k => XS.astore X215.here hx rfl (hb hby at_69) rfl rfl (l' := #[.val (.int p1), .val (.int p2), .val (.int p3), .val (.int p4), .val (.int (3 : Int32)), .val (.int bb0), .val (.int bb1), .val (.int bb2), .val (.ref b203), .val (.ref r), .unset, .unset]) rfl k) ?_
      show own_G p e below (T215.setTop (mkF m 71 #[.val (.int p1), .val (.int p2), .val (.int p3), .val (.int p4), .val (.int (3 : Int32)), .val (.int bb0), .val (.int bb1), .val (.int bb2), .val (.ref b203), .val (.ref r), .unset, .unset] [])) _
      refine own_go (fun _ k => XS.aload X215.here hx rfl (hb hby at_71) rfl rfl k) ?_
      show own_G p e below (T215.setTop (mkF m 73 #[.val (.int p1), .val (.int p2), .val (.int p3), .val (.int p4), .val (.int (3 : Int32)), .val (.int bb0), .val (.int bb1), .val (.int bb2), .val (.ref b203), .val (.ref r), .unset, .unset] [(.ref b203)])) _
      obtain ⟨cl253, Ar253, q253, S253, M253, B253, G253⟩ := id f217
      refine own_go (X215.arraylength hx Ar253.1 (State.isArrayOf_alike hZ.alike Ar253.2.1) (g := (mkF m 73 #[.val (.int p1), .val (.int p2), .val (.int p3), .val (.int p4), .val (.int (3 : Int32)), .val (.int bb0), .val (.int bb1), .val (.int bb2), .val (.ref b203), .val (.ref r), .unset, .unset] [(.ref b203)])) rfl rfl (hb hby at_73)) ?_
      rw [len_of S253 M253]
      show own_G p e below (T215.setTop (mkF m 74 #[.val (.int p1), .val (.int p2), .val (.int p3), .val (.int p4), .val (.int (3 : Int32)), .val (.int bb0), .val (.int bb1), .val (.int bb2), .val (.ref b203), .val (.ref r), .unset, .unset] [(.int (3 : Int32))])) _
      refine own_go (fun _ k => XS.iload X215.here hx rfl (hb hby at_74) rfl k) ?_
      show own_G p e below (T215.setTop (mkF m 76 #[.val (.int p1), .val (.int p2), .val (.int p3), .val (.int p4), .val (.int (3 : Int32)), .val (.int bb0), .val (.int bb1), .val (.int bb2), .val (.ref b203), .val (.ref r), .unset, .unset] [(.int (3 : Int32)), (.int (3 : Int32))])) _
      refine own_go (fun _ k => XS.icmpYes X215.here hx rfl (pc0 := 76) (pc' := 81) rfl (hb hby at_76) rfl (teq (by decide : (3 : Int32) = (3 : Int32))).1 (by decide) (by decide) k) ?_
      show own_G p e below (T215.setTop (mkF m 81 #[.val (.int p1), .val (.int p2), .val (.int p3), .val (.int p4), .val (.int (3 : Int32)), .val (.int bb0), .val (.int bb1), .val (.int bb2), .val (.ref b203), .val (.ref r), .unset, .unset] [])) _
      refine own_go (fun _ k => XS.iload X215.here hx rfl (hb hby at_81) rfl k) ?_
      show own_G p e below (T215.setTop (mkF m 83 #[.val (.int p1), .val (.int p2), .val (.int p3), .val (.int p4), .val (.int (3 : Int32)), .val (.int bb0), .val (.int bb1), .val (.int bb2), .val (.ref b203), .val (.ref r), .unset, .unset] [(.int (3 : Int32))])) _
      refine own_go (fun _ k => XS.ifNo X215.here hx rfl (hb hby at_83) rfl ((if0 _ _).trans (tlt (by decide : (0 : Int32) < (3 : Int32))).2.2.2) k) ?_
      show own_G p e below (T215.setTop (mkF m 86 #[.val (.int p1), .val (.int p2), .val (.int p3), .val (.int p4), .val (.int (3 : Int32)), .val (.int bb0), .val (.int bb1), .val (.int bb2), .val (.ref b203), .val (.ref r), .unset, .unset] [])) _
      refine own_go (fun _ k => XS.aload X215.here hx rfl (hb hby at_86) rfl rfl k) ?_
      show own_G p e below (T215.setTop (mkF m 88 #[.val (.int p1), .val (.int p2), .val (.int p3), .val (.int p4), .val (.int (3 : Int32)), .val (.int bb0), .val (.int bb1), .val (.int bb2), .val (.ref b203), .val (.ref r), .unset, .unset] [(.ref b203)])) _
      refine own_go (fun _ k => XS.iconst X215.here hx rfl (hb hby at_88) k) ?_
      show own_G p e below (T215.setTop (mkF m 89 #[.val (.int p1), .val (.int p2), .val (.int p3), .val (.int p4), .val (.int (3 : Int32)), .val (.int bb0), .val (.int bb1), .val (.int bb2), .val (.ref b203), .val (.ref r), .unset, .unset] [(.int (0 : Int32)), (.ref b203)])) _
      obtain ⟨cl254, Ar254, q254, S254, M254, B254, G254⟩ := id f217
      have hin254 : ¬ ((0 : Int32) < 0 ∨ cl254.slots.size ≤ ((0 : Int32)).toNatClampNeg) := inb_of S254 ⟨by decide, by decide⟩
      have hat254 : cl254.slots[((0 : Int32)).toNatClampNeg]? = some (.int bb0) := B254.at hin254 rfl
      refine own_go (X215.baloadBytes hx (j := (0 : Int32)) (v := (.int bb0)) Ar254.1 (State.isArrayOf_alike hZ.alike Ar254.2.1) Ar254.2.2 hin254 hat254 (g := (mkF m 89 #[.val (.int p1), .val (.int p2), .val (.int p3), .val (.int p4), .val (.int (3 : Int32)), .val (.int bb0), .val (.int bb1), .val (.int bb2), .val (.ref b203), .val (.ref r), .unset, .unset] [(.int (0 : Int32)), (.ref b203)])) rfl rfl (hb hby at_89)) ?_
      show own_G p e below (T215.setTop (mkF m 90 #[.val (.int p1), .val (.int p2), .val (.int p3), .val (.int p4), .val (.int (3 : Int32)), .val (.int bb0), .val (.int bb1), .val (.int bb2), .val (.ref b203), .val (.ref r), .unset, .unset] [(.int bb0)])) _
      refine own_go (fun _ k => XS.iload X215.here hx rfl (hb hby at_90) rfl k) ?_
      show own_G p e below (T215.setTop (mkF m 92 #[.val (.int p1), .val (.int p2), .val (.int p3), .val (.int p4), .val (.int (3 : Int32)), .val (.int bb0), .val (.int bb1), .val (.int bb2), .val (.ref b203), .val (.ref r), .unset, .unset] [(.int bb0), (.int bb0)])) _
      refine own_go (fun _ k => XS.icmpYes X215.here hx rfl (pc0 := 92) (pc' := 97) rfl (hb hby at_92) rfl (teq (rfl : bb0 = bb0)).1 (by decide) (by decide) k) ?_
      show own_G p e below (T215.setTop (mkF m 97 #[.val (.int p1), .val (.int p2), .val (.int p3), .val (.int p4), .val (.int (3 : Int32)), .val (.int bb0), .val (.int bb1), .val (.int bb2), .val (.ref b203), .val (.ref r), .unset, .unset] [])) _
      refine own_go (fun _ k => XS.iload X215.here hx rfl (hb hby at_97) rfl k) ?_
      show own_G p e below (T215.setTop (mkF m 99 #[.val (.int p1), .val (.int p2), .val (.int p3), .val (.int p4), .val (.int (3 : Int32)), .val (.int bb0), .val (.int bb1), .val (.int bb2), .val (.ref b203), .val (.ref r), .unset, .unset] [(.int (3 : Int32))])) _
      refine own_go (fun _ k => XS.iconst X215.here hx rfl (hb hby at_99) k) ?_
      show own_G p e below (T215.setTop (mkF m 100 #[.val (.int p1), .val (.int p2), .val (.int p3), .val (.int p4), .val (.int (3 : Int32)), .val (.int bb0), .val (.int bb1), .val (.int bb2), .val (.ref b203), .val (.ref r), .unset, .unset] [(.int (1 : Int32)), (.int (3 : Int32))])) _
      refine own_go (fun _ k => XS.icmpNo X215.here hx rfl (hb hby at_100) rfl (tlt (by decide : (1 : Int32) < (3 : Int32))).2.2.2 k) ?_
      show own_G p e below (T215.setTop (mkF m 103 #[.val (.int p1), .val (.int p2), .val (.int p3), .val (.int p4), .val (.int (3 : Int32)), .val (.int bb0), .val (.int bb1), .val (.int bb2), .val (.ref b203), .val (.ref r), .unset, .unset] [])) _
      refine own_go (fun _ k => XS.aload X215.here hx rfl (hb hby at_103) rfl rfl k) ?_
      show own_G p e below (T215.setTop (mkF m 105 #[.val (.int p1), .val (.int p2), .val (.int p3), .val (.int p4), .val (.int (3 : Int32)), .val (.int bb0), .val (.int bb1), .val (.int bb2), .val (.ref b203), .val (.ref r), .unset, .unset] [(.ref b203)])) _
      refine own_go (fun _ k => XS.iconst X215.here hx rfl (hb hby at_105) k) ?_
      show own_G p e below (T215.setTop (mkF m 106 #[.val (.int p1), .val (.int p2), .val (.int p3), .val (.int p4), .val (.int (3 : Int32)), .val (.int bb0), .val (.int bb1), .val (.int bb2), .val (.ref b203), .val (.ref r), .unset, .unset] [(.int (1 : Int32)), (.ref b203)])) _
      obtain ⟨cl255, Ar255, q255, S255, M255, B255, G255⟩ := id f217
      have hin255 : ¬ ((1 : Int32) < 0 ∨ cl255.slots.size ≤ ((1 : Int32)).toNatClampNeg) := inb_of S255 ⟨by decide, by decide⟩
      have hat255 : cl255.slots[((1 : Int32)).toNatClampNeg]? = some (.int bb1) := B255.at hin255 rfl
      refine own_go (X215.baloadBytes hx (j := (1 : Int32)) (v := (.int bb1)) Ar255.1 (State.isArrayOf_alike hZ.alike Ar255.2.1) Ar255.2.2 hin255 hat255 (g := (mkF m 106 #[.val (.int p1), .val (.int p2), .val (.int p3), .val (.int p4), .val (.int (3 : Int32)), .val (.int bb0), .val (.int bb1), .val (.int bb2), .val (.ref b203), .val (.ref r), .unset, .unset] [(.int (1 : Int32)), (.ref b203)])) rfl rfl (hb hby at_106)) ?_
      show own_G p e below (T215.setTop (mkF m 107 #[.val (.int p1), .val (.int p2), .val (.int p3), .val (.int p4), .val (.int (3 : Int32)), .val (.int bb0), .val (.int bb1), .val (.int bb2), .val (.ref b203), .val (.ref r), .unset, .unset] [(.int bb1)])) _
      refine own_go (fun _ k => XS.iload X215.here hx rfl (hb hby at_107) rfl k) ?_
      show own_G p e below (T215.setTop (mkF m 109 #[.val (.int p1), .val (.int p2), .val (.int p3), .val (.int p4), .val (.int (3 : Int32)), .val (.int bb0), .val (.int bb1), .val (.int bb2), .val (.ref b203), .val (.ref r), .unset, .unset] [(.int bb1), (.int bb1)])) _
      refine own_go (fun _ k => XS.icmpYes X215.here hx rfl (pc0 := 109) (pc' := 114) rfl (hb hby at_109) rfl (teq (rfl : bb1 = bb1)).1 (by decide) (by decide) k) ?_
      show own_G p e below (T215.setTop (mkF m 114 #[.val (.int p1), .val (.int p2), .val (.int p3), .val (.int p4), .val (.int (3 : Int32)), .val (.int bb0), .val (.int bb1), .val (.int bb2), .val (.ref b203), .val (.ref r), .unset, .unset] [])) _
      refine own_go (fun _ k => XS.iload X215.here hx rfl (hb hby at_114) rfl k) ?_
      show own_G p e below (T215.setTop (mkF m 116 #[.val (.int p1), .val (.int p2), .val (.int p3), .val (.int p4), .val (.int (3 : Int32)), .val (.int bb0), .val (.int bb1), .val (.int bb2), .val (.ref b203), .val (.ref r), .unset, .unset] [(.int (3 : Int32))])) _
      refine own_go (fun _ k => XS.iconst X215.here hx rfl (hb hby at_116) k) ?_
      show own_G p e below (T215.setTop (mkF m 117 #[.val (.int p1), .val (.int p2), .val (.int p3), .val (.int p4), .val (.int (3 : Int32)), .val (.int bb0), .val (.int bb1), .val (.int bb2), .val (.ref b203), .val (.ref r), .unset, .unset] [(.int (2 : Int32)), (.int (3 : Int32))])) _
      refine own_go (fun _ k => XS.icmpNo X215.here hx rfl (hb hby at_117) rfl (tlt (by decide : (2 : Int32) < (3 : Int32))).2.2.2 k) ?_
      show own_G p e below (T215.setTop (mkF m 120 #[.val (.int p1), .val (.int p2), .val (.int p3), .val (.int p4), .val (.int (3 : Int32)), .val (.int bb0), .val (.int bb1), .val (.int bb2), .val (.ref b203), .val (.ref r), .unset, .unset] [])) _
      refine own_go (fun _ k => XS.aload X215.here hx rfl (hb hby at_120) rfl rfl k) ?_
      show own_G p e below (T215.setTop (mkF m 122 #[.val (.int p1), .val (.int p2), .val (.int p3), .val (.int p4), .val (.int (3 : Int32)), .val (.int bb0), .val (.int bb1), .val (.int bb2), .val (.ref b203), .val (.ref r), .unset, .unset] [(.ref b203)])) _
      refine own_go (fun _ k => XS.iconst X215.here hx rfl (hb hby at_122) k) ?_
      show own_G p e below (T215.setTop (mkF m 123 #[.val (.int p1), .val (.int p2), .val (.int p3), .val (.int p4), .val (.int (3 : Int32)), .val (.int bb0), .val (.int bb1), .val (.int bb2), .val (.ref b203), .val (.ref r), .unset, .unset] [(.int (2 : Int32)), (.ref b203)])) _
      obtain ⟨cl256, Ar256, q256, S256, M256, B256, G256⟩ := id f217
      have hin256 : ¬ ((2 : Int32) < 0 ∨ cl256.slots.size ≤ ((2 : Int32)).toNatClampNeg) := inb_of S256 ⟨by decide, by decide⟩
      have hat256 : cl256.slots[((2 : Int32)).toNatClampNeg]? = some (.int bb2) := B256.at hin256 rfl
      refine own_go (X215.baloadBytes hx (j := (2 : Int32)) (v := (.int bb2)) Ar256.1 (State.isArrayOf_alike hZ.alike Ar256.2.1) Ar256.2.2 hin256 hat256 (g := (mkF m 123 #[.val (.int p1), .val (.int p2), .val (.int p3), .val (.int p4), .val (.int (3 : Int32)), .val (.int bb0), .val (.int bb1), .val (.int bb2), .val (.ref b203), .val (.ref r), .unset, .unset] [(.int (2 : Int32)), (.ref b203)])) rfl rfl (hb hby at_123)) ?_
      show own_G p e below (T215.setTop (mkF m 124 #[.val (.int p1), .val (.int p2), .val (.int p3), .val (.int p4), .val (.int (3 : Int32)), .val (.int bb0), .val (.int bb1), .val (.int bb2), .val (.ref b203), .val (.ref r), .unset, .unset] [(.int bb2)])) _
      refine own_go (fun _ k => XS.iload X215.here hx rfl (hb hby at_124) rfl k) ?_
      show own_G p e below (T215.setTop (mkF m 126 #[.val (.int p1), .val (.int p2), .val (.int p3), .val (.int p4), .val (.int (3 : Int32)), .val (.int bb0), .val (.int bb1), .val (.int bb2), .val (.ref b203), .val (.ref r), .unset, .unset] [(.int bb2), (.int bb2)])) _
      refine own_go (fun _ k => XS.icmpYes X215.here hx rfl (pc0 := 126) (pc' := 131) rfl (hb hby at_126) rfl (teq (rfl : bb2 = bb2)).1 (by decide) (by decide) k) ?_
      show own_G p e below (T215.setTop (mkF m 131 #[.val (.int p1), .val (.int p2), .val (.int p3), .val (.int p4), .val (.int (3 : Int32)), .val (.int bb0), .val (.int bb1), .val (.int bb2), .val (.ref b203), .val (.ref r), .unset, .unset] [])) _
      refine own_go (fun _ k => XS.iconst X215.here hx rfl (hb hby at_131) k) ?_
      show own_G p e below (T215.setTop (mkF m 132 #[.val (.int p1), .val (.int p2), .val (.int p3), .val (.int p4), .val (.int (3 : Int32)), .val (.int bb0), .val (.int bb1), .val (.int bb2), .val (.ref b203), .val (.ref r), .unset, .unset] [(.int (-1 : Int32))])) _
      refine own_go (fun _ k => XS.istore X215.here hx rfl (hb hby at_132) rfl (l' := #[.val (.int p1), .val (.int p2), .val (.int p3), .val (.int p4), .val (.int (3 : Int32)), .val (.int bb0), .val (.int bb1), .val (.int bb2), .val (.ref b203), .val (.ref r), .val (.int (-1 : Int32)), .unset]) rfl k) ?_
      show own_G p e below (T215.setTop (mkF m 134 #[.val (.int p1), .val (.int p2), .val (.int p3), .val (.int p4), .val (.int (3 : Int32)), .val (.int bb0), .val (.int bb1), .val (.int bb2), .val (.ref b203), .val (.ref r), .val (.int (-1 : Int32)), .unset] [])) _
      refine own_go (fun _ k => XS.iload X215.here hx rfl (hb hby at_134) rfl k) ?_
      show own_G p e below (T215.setTop (mkF m 136 #[.val (.int p1), .val (.int p2), .val (.int p3), .val (.int p4), .val (.int (3 : Int32)), .val (.int bb0), .val (.int bb1), .val (.int bb2), .val (.ref b203), .val (.ref r), .val (.int (-1 : Int32)), .unset] [(.int (3 : Int32))])) _
      refine own_go (fun _ k => XS.ifNo X215.here hx rfl (hb hby at_136) rfl ((if0 _ _).trans (tlt (by decide : (0 : Int32) < (3 : Int32))).2.2.2) k) ?_
      show own_G p e below (T215.setTop (mkF m 139 #[.val (.int p1), .val (.int p2), .val (.int p3), .val (.int p4), .val (.int (3 : Int32)), .val (.int bb0), .val (.int bb1), .val (.int bb2), .val (.ref b203), .val (.ref r), .val (.int (-1 : Int32)), .unset] [])) _
      refine own_go (fun _ k => XS.iload X215.here hx rfl (hb hby at_139) rfl k) ?_
      show own_G p e below (T215.setTop (mkF m 141 #[.val (.int p1), .val (.int p2), .val (.int p3), .val (.int p4), .val (.int (3 : Int32)), .val (.int bb0), .val (.int bb1), .val (.int bb2), .val (.ref b203), .val (.ref r), .val (.int (-1 : Int32)), .unset] [(.int bb0)])) _
      refine own_go (fun _ k => XS.iconst X215.here hx rfl (hb hby at_141) k) ?_
      show own_G p e below (T215.setTop (mkF m 142 #[.val (.int p1), .val (.int p2), .val (.int p3), .val (.int p4), .val (.int (3 : Int32)), .val (.int bb0), .val (.int bb1), .val (.int bb2), .val (.ref b203), .val (.ref r), .val (.int (-1 : Int32)), .unset] [(.int (-1 : Int32)), (.int bb0)])) _
      refine own_go (fun _ k => XS.icmpNo X215.here hx rfl (hb hby at_142) rfl (feq c0).1 k) ?_
      show own_G p e below (T215.setTop (mkF m 145 #[.val (.int p1), .val (.int p2), .val (.int p3), .val (.int p4), .val (.int (3 : Int32)), .val (.int bb0), .val (.int bb1), .val (.int bb2), .val (.ref b203), .val (.ref r), .val (.int (-1 : Int32)), .unset] [])) _
      refine own_go (fun _ k => XS.iconst X215.here hx rfl (hb hby at_145) k) ?_
      show own_G p e below (T215.setTop (mkF m 146 #[.val (.int p1), .val (.int p2), .val (.int p3), .val (.int p4), .val (.int (3 : Int32)), .val (.int bb0), .val (.int bb1), .val (.int bb2), .val (.ref b203), .val (.ref r), .val (.int (-1 : Int32)), .unset] [(.int (0 : Int32))])) _
      refine own_go (fun _ k => XS.istore X215.here hx rfl (hb hby at_146) rfl (l' := #[.val (.int p1), .val (.int p2), .val (.int p3), .val (.int p4), .val (.int (3 : Int32)), .val (.int bb0), .val (.int bb1), .val (.int bb2), .val (.ref b203), .val (.ref r), .val (.int (0 : Int32)), .unset]) rfl k) ?_
      show own_G p e below (T215.setTop (mkF m 148 #[.val (.int p1), .val (.int p2), .val (.int p3), .val (.int p4), .val (.int (3 : Int32)), .val (.int bb0), .val (.int bb1), .val (.int bb2), .val (.ref b203), .val (.ref r), .val (.int (0 : Int32)), .unset] [])) _
      refine own_go (fun _ k => XS.iload X215.here hx rfl (hb hby at_148) rfl k) ?_
      show own_G p e below (T215.setTop (mkF m 150 #[.val (.int p1), .val (.int p2), .val (.int p3), .val (.int p4), .val (.int (3 : Int32)), .val (.int bb0), .val (.int bb1), .val (.int bb2), .val (.ref b203), .val (.ref r), .val (.int (0 : Int32)), .unset] [(.int (3 : Int32))])) _
      refine own_go (fun _ k => XS.iconst X215.here hx rfl (hb hby at_150) k) ?_
      show own_G p e below (T215.setTop (mkF m 151 #[.val (.int p1), .val (.int p2), .val (.int p3), .val (.int p4), .val (.int (3 : Int32)), .val (.int bb0), .val (.int bb1), .val (.int bb2), .val (.ref b203), .val (.ref r), .val (.int (0 : Int32)), .unset] [(.int (1 : Int32)), (.int (3 : Int32))])) _
      refine own_go (fun _ k => XS.icmpNo X215.here hx rfl (hb hby at_151) rfl (tlt (by decide : (1 : Int32) < (3 : Int32))).2.2.2 k) ?_
      show own_G p e below (T215.setTop (mkF m 154 #[.val (.int p1), .val (.int p2), .val (.int p3), .val (.int p4), .val (.int (3 : Int32)), .val (.int bb0), .val (.int bb1), .val (.int bb2), .val (.ref b203), .val (.ref r), .val (.int (0 : Int32)), .unset] [])) _
      refine own_go (fun _ k => XS.iload X215.here hx rfl (hb hby at_154) rfl k) ?_
      show own_G p e below (T215.setTop (mkF m 156 #[.val (.int p1), .val (.int p2), .val (.int p3), .val (.int p4), .val (.int (3 : Int32)), .val (.int bb0), .val (.int bb1), .val (.int bb2), .val (.ref b203), .val (.ref r), .val (.int (0 : Int32)), .unset] [(.int bb1)])) _
      refine own_go (fun _ k => XS.iconst X215.here hx rfl (hb hby at_156) k) ?_
      show own_G p e below (T215.setTop (mkF m 157 #[.val (.int p1), .val (.int p2), .val (.int p3), .val (.int p4), .val (.int (3 : Int32)), .val (.int bb0), .val (.int bb1), .val (.int bb2), .val (.ref b203), .val (.ref r), .val (.int (0 : Int32)), .unset] [(.int (-1 : Int32)), (.int bb1)])) _
      refine own_go (fun _ k => XS.icmpYes X215.here hx rfl (pc0 := 157) (pc' := 163) rfl (hb hby at_157) rfl (teq c1).1 (by decide) (by decide) k) ?_
      show own_G p e below (T215.setTop (mkF m 163 #[.val (.int p1), .val (.int p2), .val (.int p3), .val (.int p4), .val (.int (3 : Int32)), .val (.int bb0), .val (.int bb1), .val (.int bb2), .val (.ref b203), .val (.ref r), .val (.int (0 : Int32)), .unset] [])) _
      refine own_go (fun _ k => XS.iload X215.here hx rfl (hb hby at_163) rfl k) ?_
      show own_G p e below (T215.setTop (mkF m 165 #[.val (.int p1), .val (.int p2), .val (.int p3), .val (.int p4), .val (.int (3 : Int32)), .val (.int bb0), .val (.int bb1), .val (.int bb2), .val (.ref b203), .val (.ref r), .val (.int (0 : Int32)), .unset] [(.int (3 : Int32))])) _
      refine own_go (fun _ k => XS.iconst X215.here hx rfl (hb hby at_165) k) ?_
      show own_G p e below (T215.setTop (mkF m 166 #[.val (.int p1), .val (.int p2), .val (.int p3), .val (.int p4), .val (.int (3 : Int32)), .val (.int bb0), .val (.int bb1), .val (.int bb2), .val (.ref b203), .val (.ref r), .val (.int (0 : Int32)), .unset] [(.int (2 : Int32)), (.int (3 : Int32))])) _
      refine own_go (fun _ k => XS.icmpNo X215.here hx rfl (hb hby at_166) rfl (tlt (by decide : (2 : Int32) < (3 : Int32))).2.2.2 k) ?_
      show own_G p e below (T215.setTop (mkF m 169 #[.val (.int p1), .val (.int p2), .val (.int p3), .val (.int p4), .val (.int (3 : Int32)), .val (.int bb0), .val (.int bb1), .val (.int bb2), .val (.ref b203), .val (.ref r), .val (.int (0 : Int32)), .unset] [])) _
      refine own_go (fun _ k => XS.iload X215.here hx rfl (hb hby at_169) rfl k) ?_
      show own_G p e below (T215.setTop (mkF m 171 #[.val (.int p1), .val (.int p2), .val (.int p3), .val (.int p4), .val (.int (3 : Int32)), .val (.int bb0), .val (.int bb1), .val (.int bb2), .val (.ref b203), .val (.ref r), .val (.int (0 : Int32)), .unset] [(.int bb2)])) _
      refine own_go (fun _ k => XS.iconst X215.here hx rfl (hb hby at_171) k) ?_
      show own_G p e below (T215.setTop (mkF m 172 #[.val (.int p1), .val (.int p2), .val (.int p3), .val (.int p4), .val (.int (3 : Int32)), .val (.int bb0), .val (.int bb1), .val (.int bb2), .val (.ref b203), .val (.ref r), .val (.int (0 : Int32)), .unset] [(.int (-1 : Int32)), (.int bb2)])) _
      refine own_go (fun _ k => XS.icmpYes X215.here hx rfl (pc0 := 172) (pc' := 178) rfl (hb hby at_172) rfl (teq c2).1 (by decide) (by decide) k) ?_
      show own_G p e below (T215.setTop (mkF m 178 #[.val (.int p1), .val (.int p2), .val (.int p3), .val (.int p4), .val (.int (3 : Int32)), .val (.int bb0), .val (.int bb1), .val (.int bb2), .val (.ref b203), .val (.ref r), .val (.int (0 : Int32)), .unset] [])) _
      refine own_go (fun _ k => XS.iload X215.here hx rfl (hb hby at_178) rfl k) ?_
      show own_G p e below (T215.setTop (mkF m 180 #[.val (.int p1), .val (.int p2), .val (.int p3), .val (.int p4), .val (.int (3 : Int32)), .val (.int bb0), .val (.int bb1), .val (.int bb2), .val (.ref b203), .val (.ref r), .val (.int (0 : Int32)), .unset] [(.int (0 : Int32))])) _
      refine own_go (fun _ k => XS.ifYes X215.here hx rfl (pc0 := 180) (pc' := 194) rfl (hb hby at_180) rfl ((if0 _ _).trans (flt (by decide : ¬ ((0 : Int32) < (0 : Int32)))).2.1) (by decide) (by decide) k) ?_
      show own_G p e below (T215.setTop (mkF m 194 #[.val (.int p1), .val (.int p2), .val (.int p3), .val (.int p4), .val (.int (3 : Int32)), .val (.int bb0), .val (.int bb1), .val (.int bb2), .val (.ref b203), .val (.ref r), .val (.int (0 : Int32)), .unset] [])) _
      refine own_go (fun _ k => XS.aload X215.here hx rfl (hb hby at_194) rfl rfl k) ?_
      show own_G p e below (T215.setTop (mkF m 196 #[.val (.int p1), .val (.int p2), .val (.int p3), .val (.int p4), .val (.int (3 : Int32)), .val (.int bb0), .val (.int bb1), .val (.int bb2), .val (.ref b203), .val (.ref r), .val (.int (0 : Int32)), .unset] [(.ref r)])) _
      refine own_go (fun _ k => XS.ifnullNo X215.here hx rfl (hb hby at_196) rfl k) ?_
      show own_G p e below (T215.setTop (mkF m 199 #[.val (.int p1), .val (.int p2), .val (.int p3), .val (.int p4), .val (.int (3 : Int32)), .val (.int bb0), .val (.int bb1), .val (.int bb2), .val (.ref b203), .val (.ref r), .val (.int (0 : Int32)), .unset] [])) _
      refine own_go (fun _ k => XS.aload X215.here hx rfl (hb hby at_199) rfl rfl k) ?_
      show own_G p e below (T215.setTop (mkF m 201 #[.val (.int p1), .val (.int p2), .val (.int p3), .val (.int p4), .val (.int (3 : Int32)), .val (.int bb0), .val (.int bb1), .val (.int bb2), .val (.ref b203), .val (.ref r), .val (.int (0 : Int32)), .unset] [(.ref r)])) _
      obtain ⟨cl257, Ar257, q257, S257, M257, B257, G257⟩ := id Vr
      refine own_go (X215.arraylength hx Ar257.1 (State.isArrayOf_alike hZ.alike Ar257.2.1) (g := (mkF m 201 #[.val (.int p1), .val (.int p2), .val (.int p3), .val (.int p4), .val (.int (3 : Int32)), .val (.int bb0), .val (.int bb1), .val (.int bb2), .val (.ref b203), .val (.ref r), .val (.int (0 : Int32)), .unset] [(.ref r)])) rfl rfl (hb hby at_201)) ?_
      rw [len_of S257 M257]
      show own_G p e below (T215.setTop (mkF m 202 #[.val (.int p1), .val (.int p2), .val (.int p3), .val (.int p4), .val (.int (3 : Int32)), .val (.int bb0), .val (.int bb1), .val (.int bb2), .val (.ref b203), .val (.ref r), .val (.int (0 : Int32)), .unset] [(.int (1 : Int32))])) _
      refine own_go (fun _ k => XS.iload X215.here hx rfl (hb hby at_202) rfl k) ?_
      show own_G p e below (T215.setTop (mkF m 204 #[.val (.int p1), .val (.int p2), .val (.int p3), .val (.int p4), .val (.int (3 : Int32)), .val (.int bb0), .val (.int bb1), .val (.int bb2), .val (.ref b203), .val (.ref r), .val (.int (0 : Int32)), .unset] [(.int (0 : Int32)), (.int (1 : Int32))])) _
      refine own_go (fun _ k => XS.iconst X215.here hx rfl (hb hby at_204) k) ?_
      show own_G p e below (T215.setTop (mkF m 205 #[.val (.int p1), .val (.int p2), .val (.int p3), .val (.int p4), .val (.int (3 : Int32)), .val (.int bb0), .val (.int bb1), .val (.int bb2), .val (.ref b203), .val (.ref r), .val (.int (0 : Int32)), .unset] [(.int (1 : Int32)), (.int (0 : Int32)), (.int (1 : Int32))])) _
      refine own_go (fun _ k => XS.iadd X215.here hx rfl (hb hby at_205) rfl k) ?_
      show own_G p e below (T215.setTop (mkF m 206 #[.val (.int p1), .val (.int p2), .val (.int p3), .val (.int p4), .val (.int (3 : Int32)), .val (.int bb0), .val (.int bb1), .val (.int bb2), .val (.ref b203), .val (.ref r), .val (.int (0 : Int32)), .unset] [(.int (1 : Int32)), (.int (1 : Int32))])) _
      refine own_go (fun _ k => XS.icmpYes X215.here hx rfl (pc0 := 206) (pc' := 211) rfl (hb hby at_206) rfl (teq (by decide : (1 : Int32) = (1 : Int32))).1 (by decide) (by decide) k) ?_
      show own_G p e below (T215.setTop (mkF m 211 #[.val (.int p1), .val (.int p2), .val (.int p3), .val (.int p4), .val (.int (3 : Int32)), .val (.int bb0), .val (.int bb1), .val (.int bb2), .val (.ref b203), .val (.ref r), .val (.int (0 : Int32)), .unset] [])) _
      refine own_go (fun _ k => XS.iload X215.here hx rfl (hb hby at_211) rfl k) ?_
      show own_G p e below (T215.setTop (mkF m 213 #[.val (.int p1), .val (.int p2), .val (.int p3), .val (.int p4), .val (.int (3 : Int32)), .val (.int bb0), .val (.int bb1), .val (.int bb2), .val (.ref b203), .val (.ref r), .val (.int (0 : Int32)), .unset] [(.int (0 : Int32))])) _
      refine own_go (fun _ k => XS.ifYes X215.here hx rfl (pc0 := 213) (pc' := 227) rfl (hb hby at_213) rfl ((if0 _ _).trans (flt (by decide : ¬ ((0 : Int32) < (0 : Int32)))).2.2.2) (by decide) (by decide) k) ?_
      show own_G p e below (T215.setTop (mkF m 227 #[.val (.int p1), .val (.int p2), .val (.int p3), .val (.int p4), .val (.int (3 : Int32)), .val (.int bb0), .val (.int bb1), .val (.int bb2), .val (.ref b203), .val (.ref r), .val (.int (0 : Int32)), .unset] [])) _
      refine own_go (fun _ k => XS.iload X215.here hx rfl (hb hby at_227) rfl k) ?_
      show own_G p e below (T215.setTop (mkF m 229 #[.val (.int p1), .val (.int p2), .val (.int p3), .val (.int p4), .val (.int (3 : Int32)), .val (.int bb0), .val (.int bb1), .val (.int bb2), .val (.ref b203), .val (.ref r), .val (.int (0 : Int32)), .unset] [(.int (0 : Int32))])) _
      refine own_go (fun _ k => XS.iconst X215.here hx rfl (hb hby at_229) k) ?_
      show own_G p e below (T215.setTop (mkF m 230 #[.val (.int p1), .val (.int p2), .val (.int p3), .val (.int p4), .val (.int (3 : Int32)), .val (.int bb0), .val (.int bb1), .val (.int bb2), .val (.ref b203), .val (.ref r), .val (.int (0 : Int32)), .unset] [(.int (1 : Int32)), (.int (0 : Int32))])) _
      refine own_go (fun _ k => XS.icmpYes X215.here hx rfl (pc0 := 230) (pc' := 244) rfl (hb hby at_230) rfl (flt (by decide : ¬ ((1 : Int32) < (0 : Int32)))).2.2.2 (by decide) (by decide) k) ?_
      show own_G p e below (T215.setTop (mkF m 244 #[.val (.int p1), .val (.int p2), .val (.int p3), .val (.int p4), .val (.int (3 : Int32)), .val (.int bb0), .val (.int bb1), .val (.int bb2), .val (.ref b203), .val (.ref r), .val (.int (0 : Int32)), .unset] [])) _
      refine own_go (fun _ k => XS.iload X215.here hx rfl (hb hby at_244) rfl k) ?_
      show own_G p e below (T215.setTop (mkF m 246 #[.val (.int p1), .val (.int p2), .val (.int p3), .val (.int p4), .val (.int (3 : Int32)), .val (.int bb0), .val (.int bb1), .val (.int bb2), .val (.ref b203), .val (.ref r), .val (.int (0 : Int32)), .unset] [(.int (0 : Int32))])) _
      refine own_go (fun _ k => XS.ifNo X215.here hx rfl (hb hby at_246) rfl ((if0 _ _).trans (teq (by decide : (0 : Int32) = (0 : Int32))).2) k) ?_
      show own_G p e below (T215.setTop (mkF m 249 #[.val (.int p1), .val (.int p2), .val (.int p3), .val (.int p4), .val (.int (3 : Int32)), .val (.int bb0), .val (.int bb1), .val (.int bb2), .val (.ref b203), .val (.ref r), .val (.int (0 : Int32)), .unset] [])) _
      refine own_go (fun _ k => XS.iload X215.here hx rfl (hb hby at_249) rfl k) ?_
      show own_G p e below (T215.setTop (mkF m 251 #[.val (.int p1), .val (.int p2), .val (.int p3), .val (.int p4), .val (.int (3 : Int32)), .val (.int bb0), .val (.int bb1), .val (.int bb2), .val (.ref b203), .val (.ref r), .val (.int (0 : Int32)), .unset] [(.int bb0)])) _
      refine own_go (fun _ k => XS.goto X215.here hx rfl (pc0 := 251) (pc' := 267) rfl (hb hby at_251) (by decide) (by decide) k) ?_
      show own_G p e below (T215.setTop (mkF m 267 #[.val (.int p1), .val (.int p2), .val (.int p3), .val (.int p4), .val (.int (3 : Int32)), .val (.int bb0), .val (.int bb1), .val (.int bb2), .val (.ref b203), .val (.ref r), .val (.int (0 : Int32)), .unset] [(.int bb0)])) _
      refine own_go (fun _ k => XS.istore X215.here hx rfl (hb hby at_267) rfl (l' := #[.val (.int p1), .val (.int p2), .val (.int p3), .val (.int p4), .val (.int (3 : Int32)), .val (.int bb0), .val (.int bb1), .val (.int bb2), .val (.ref b203), .val (.ref r), .val (.int (0 : Int32)), .val (.int bb0)]) rfl k) ?_
      show own_G p e below (T215.setTop (mkF m 269 #[.val (.int p1), .val (.int p2), .val (.int p3), .val (.int p4), .val (.int (3 : Int32)), .val (.int bb0), .val (.int bb1), .val (.int bb2), .val (.ref b203), .val (.ref r), .val (.int (0 : Int32)), .val (.int bb0)] [])) _
      refine own_go (fun _ k => XS.aload X215.here hx rfl (hb hby at_269) rfl rfl k) ?_
      show own_G p e below (T215.setTop (mkF m 271 #[.val (.int p1), .val (.int p2), .val (.int p3), .val (.int p4), .val (.int (3 : Int32)), .val (.int bb0), .val (.int bb1), .val (.int bb2), .val (.ref b203), .val (.ref r), .val (.int (0 : Int32)), .val (.int bb0)] [(.ref r)])) _
      refine own_go (fun _ k => XS.iload X215.here hx rfl (hb hby at_271) rfl k) ?_
      show own_G p e below (T215.setTop (mkF m 273 #[.val (.int p1), .val (.int p2), .val (.int p3), .val (.int p4), .val (.int (3 : Int32)), .val (.int bb0), .val (.int bb1), .val (.int bb2), .val (.ref b203), .val (.ref r), .val (.int (0 : Int32)), .val (.int bb0)] [(.int (0 : Int32)), (.ref r)])) _
      obtain ⟨cl258, Ar258, q258, S258, M258, B258, G258⟩ := id Vr
      have hin258 : ¬ ((0 : Int32) < 0 ∨ cl258.slots.size ≤ ((0 : Int32)).toNatClampNeg) := inb_of S258 ⟨by decide, by decide⟩
      have hat258 : cl258.slots[((0 : Int32)).toNatClampNeg]? = some (.int ((bb0 + (1 : Int32)).toInt8.toInt32)) := B258.at hin258 rfl
      refine own_go (X215.baloadBytes hx (j := (0 : Int32)) (v := (.int ((bb0 + (1 : Int32)).toInt8.toInt32))) Ar258.1 (State.isArrayOf_alike hZ.alike Ar258.2.1) Ar258.2.2 hin258 hat258 (g := (mkF m 273 #[.val (.int p1), .val (.int p2), .val (.int p3), .val (.int p4), .val (.int (3 : Int32)), .val (.int bb0), .val (.int bb1), .val (.int bb2), .val (.ref b203), .val (.ref r), .val (.int (0 : Int32)), .val (.int bb0)] [(.int (0 : Int32)), (.ref r)])) rfl rfl (hb hby at_273)) ?_
      show own_G p e below (T215.setTop (mkF m 274 #[.val (.int p1), .val (.int p2), .val (.int p3), .val (.int p4), .val (.int (3 : Int32)), .val (.int bb0), .val (.int bb1), .val (.int bb2), .val (.ref b203), .val (.ref r), .val (.int (0 : Int32)), .val (.int bb0)] [(.int ((bb0 + (1 : Int32)).toInt8.toInt32))])) _
      refine own_go (fun _ k => XS.iload X215.here hx rfl (hb hby at_274) rfl k) ?_
      show own_G p e below (T215.setTop (mkF m 276 #[.val (.int p1), .val (.int p2), .val (.int p3), .val (.int p4), .val (.int (3 : Int32)), .val (.int bb0), .val (.int bb1), .val (.int bb2), .val (.ref b203), .val (.ref r), .val (.int (0 : Int32)), .val (.int bb0)] [(.int bb0), (.int ((bb0 + (1 : Int32)).toInt8.toInt32))])) _
      refine own_go (fun _ k => XS.iconst X215.here hx rfl (hb hby at_276) k) ?_
      show own_G p e below (T215.setTop (mkF m 277 #[.val (.int p1), .val (.int p2), .val (.int p3), .val (.int p4), .val (.int (3 : Int32)), .val (.int bb0), .val (.int bb1), .val (.int bb2), .val (.ref b203), .val (.ref r), .val (.int (0 : Int32)), .val (.int bb0)] [(.int (1 : Int32)), (.int bb0), (.int ((bb0 + (1 : Int32)).toInt8.toInt32))])) _
      refine own_go (fun _ k => XS.iadd X215.here hx rfl (hb hby at_277) rfl k) ?_
      show own_G p e below (T215.setTop (mkF m 278 #[.val (.int p1), .val (.int p2), .val (.int p3), .val (.int p4), .val (.int (3 : Int32)), .val (.int bb0), .val (.int bb1), .val (.int bb2), .val (.ref b203), .val (.ref r), .val (.int (0 : Int32)), .val (.int bb0)] [(.int (bb0 + (1 : Int32))), (.int ((bb0 + (1 : Int32)).toInt8.toInt32))])) _
      refine own_go (fun _ k => XS.i2b X215.here hx rfl (hb hby at_278) rfl k) ?_
      show own_G p e below (T215.setTop (mkF m 279 #[.val (.int p1), .val (.int p2), .val (.int p3), .val (.int p4), .val (.int (3 : Int32)), .val (.int bb0), .val (.int bb1), .val (.int bb2), .val (.ref b203), .val (.ref r), .val (.int (0 : Int32)), .val (.int bb0)] [(.int ((bb0 + (1 : Int32)).toInt8.toInt32)), (.int ((bb0 + (1 : Int32)).toInt8.toInt32))])) _
      refine own_go (fun _ k => XS.icmpNo X215.here hx rfl (hb hby at_279) rfl (teq (rfl : ((bb0 + (1 : Int32)).toInt8.toInt32) = ((bb0 + (1 : Int32)).toInt8.toInt32))).2 k) ?_
      show own_G p e below (T215.setTop (mkF m 282 #[.val (.int p1), .val (.int p2), .val (.int p3), .val (.int p4), .val (.int (3 : Int32)), .val (.int bb0), .val (.int bb1), .val (.int bb2), .val (.ref b203), .val (.ref r), .val (.int (0 : Int32)), .val (.int bb0)] [])) _
      refine own_go (fun _ k => XS.iconst X215.here hx rfl (hb hby at_282) k) ?_
      show own_G p e below (T215.setTop (mkF m 283 #[.val (.int p1), .val (.int p2), .val (.int p3), .val (.int p4), .val (.int (3 : Int32)), .val (.int bb0), .val (.int bb1), .val (.int bb2), .val (.ref b203), .val (.ref r), .val (.int (0 : Int32)), .val (.int bb0)] [(.int (1 : Int32))])) _
      refine own_go (fun _ k => XS.goto X215.here hx rfl (pc0 := 283) (pc' := 287) rfl (hb hby at_283) (by decide) (by decide) k) ?_
      show own_G p e below (T215.setTop (mkF m 287 #[.val (.int p1), .val (.int p2), .val (.int p3), .val (.int p4), .val (.int (3 : Int32)), .val (.int bb0), .val (.int bb1), .val (.int bb2), .val (.ref b203), .val (.ref r), .val (.int (0 : Int32)), .val (.int bb0)] [(.int (1 : Int32))])) _
      refine own_ret X215 hlk (v := some (.int (1 : Int32))) (fun h => by rw [hret] at h; cases h) (Q0 Z p1 p2 p3 p4 h0 n0) (own_retI X215 hx (t := .boolean) hret rfl (Or.inl ⟨rfl, by simp, _, rfl⟩) (hb hby at_287)) (by decide) (by decide) ?_
      show Q0 Z p1 p2 p3 p4 h0 n0 _ T215.heap _
      exact ⟨rfl, N215⟩
    · refine own_go st215 ?_
      show own_G p e below (T215.setTop (mkF m 69 #[.val (.int p1), .val (.int p2), .val (.int p3), .val (.int p4), .val (.int (3 : Int32)), .val (.int bb0), .val (.int bb1), .val (.int bb2), .val (.ref b203), .unset, .unset, .unset] [.null])) _
      refine own_go (fun _ k => XS.astore X215.here hx rfl (hb hby at_69) rfl rfl (l' := #[.val (.int p1), .val (.int p2), .val (.int p3), .val (.int p4), .val (.int (3 : Int32)), .val (.int bb0), .val (.int bb1), .val (.int bb2), .val (.ref b203), .val .null, .unset, .unset]) rfl k) ?_
      show own_G p e below (T215.setTop (mkF m 71 #[.val (.int p1), .val (.int p2), .val (.int p3), .val (.int p4), .val (.int (3 : Int32)), .val (.int bb0), .val (.int bb1), .val (.int bb2), .val (.ref b203), .val .null, .unset, .unset] [])) _
      refine own_go (fun _ k => XS.aload X215.here hx rfl (hb hby at_71) rfl rfl k) ?_
      show own_G p e below (T215.setTop (mkF m 73 #[.val (.int p1), .val (.int p2), .val (.int p3), .val (.int p4), .val (.int (3 : Int32)), .val (.int bb0), .val (.int bb1), .val (.int bb2), .val (.ref b203), .val .null, .unset, .unset] [(.ref b203)])) _
      obtain ⟨cl259, Ar259, q259, S259, M259, B259, G259⟩ := id f217
      refine own_go (X215.arraylength hx Ar259.1 (State.isArrayOf_alike hZ.alike Ar259.2.1) (g := (mkF m 73 #[.val (.int p1), .val (.int p2), .val (.int p3), .val (.int p4), .val (.int (3 : Int32)), .val (.int bb0), .val (.int bb1), .val (.int bb2), .val (.ref b203), .val .null, .unset, .unset] [(.ref b203)])) rfl rfl (hb hby at_73)) ?_
      rw [len_of S259 M259]
      show own_G p e below (T215.setTop (mkF m 74 #[.val (.int p1), .val (.int p2), .val (.int p3), .val (.int p4), .val (.int (3 : Int32)), .val (.int bb0), .val (.int bb1), .val (.int bb2), .val (.ref b203), .val .null, .unset, .unset] [(.int (3 : Int32))])) _
      refine own_go (fun _ k => XS.iload X215.here hx rfl (hb hby at_74) rfl k) ?_
      show own_G p e below (T215.setTop (mkF m 76 #[.val (.int p1), .val (.int p2), .val (.int p3), .val (.int p4), .val (.int (3 : Int32)), .val (.int bb0), .val (.int bb1), .val (.int bb2), .val (.ref b203), .val .null, .unset, .unset] [(.int (3 : Int32)), (.int (3 : Int32))])) _
      refine own_go (fun _ k => XS.icmpYes X215.here hx rfl (pc0 := 76) (pc' := 81) rfl (hb hby at_76) rfl (teq (by decide : (3 : Int32) = (3 : Int32))).1 (by decide) (by decide) k) ?_
      show own_G p e below (T215.setTop (mkF m 81 #[.val (.int p1), .val (.int p2), .val (.int p3), .val (.int p4), .val (.int (3 : Int32)), .val (.int bb0), .val (.int bb1), .val (.int bb2), .val (.ref b203), .val .null, .unset, .unset] [])) _
      refine own_go (fun _ k => XS.iload X215.here hx rfl (hb hby at_81) rfl k) ?_
      show own_G p e below (T215.setTop (mkF m 83 #[.val (.int p1), .val (.int p2), .val (.int p3), .val (.int p4), .val (.int (3 : Int32)), .val (.int bb0), .val (.int bb1), .val (.int bb2), .val (.ref b203), .val .null, .unset, .unset] [(.int (3 : Int32))])) _
      refine own_go (fun _ k => XS.ifNo X215.here hx rfl (hb hby at_83) rfl ((if0 _ _).trans (tlt (by decide : (0 : Int32) < (3 : Int32))).2.2.2) k) ?_
      show own_G p e below (T215.setTop (mkF m 86 #[.val (.int p1), .val (.int p2), .val (.int p3), .val (.int p4), .val (.int (3 : Int32)), .val (.int bb0), .val (.int bb1), .val (.int bb2), .val (.ref b203), .val .null, .unset, .unset] [])) _
      refine own_go (fun _ k => XS.aload X215.here hx rfl (hb hby at_86) rfl rfl k) ?_
      show own_G p e below (T215.setTop (mkF m 88 #[.val (.int p1), .val (.int p2), .val (.int p3), .val (.int p4), .val (.int (3 : Int32)), .val (.int bb0), .val (.int bb1), .val (.int bb2), .val (.ref b203), .val .null, .unset, .unset] [(.ref b203)])) _
      refine own_go (fun _ k => XS.iconst X215.here hx rfl (hb hby at_88) k) ?_
      show own_G p e below (T215.setTop (mkF m 89 #[.val (.int p1), .val (.int p2), .val (.int p3), .val (.int p4), .val (.int (3 : Int32)), .val (.int bb0), .val (.int bb1), .val (.int bb2), .val (.ref b203), .val .null, .unset, .unset] [(.int (0 : Int32)), (.ref b203)])) _
      obtain ⟨cl260, Ar260, q260, S260, M260, B260, G260⟩ := id f217
      have hin260 : ¬ ((0 : Int32) < 0 ∨ cl260.slots.size ≤ ((0 : Int32)).toNatClampNeg) := inb_of S260 ⟨by decide, by decide⟩
      have hat260 : cl260.slots[((0 : Int32)).toNatClampNeg]? = some (.int bb0) := B260.at hin260 rfl
      refine own_go (X215.baloadBytes hx (j := (0 : Int32)) (v := (.int bb0)) Ar260.1 (State.isArrayOf_alike hZ.alike Ar260.2.1) Ar260.2.2 hin260 hat260 (g := (mkF m 89 #[.val (.int p1), .val (.int p2), .val (.int p3), .val (.int p4), .val (.int (3 : Int32)), .val (.int bb0), .val (.int bb1), .val (.int bb2), .val (.ref b203), .val .null, .unset, .unset] [(.int (0 : Int32)), (.ref b203)])) rfl rfl (hb hby at_89)) ?_
      show own_G p e below (T215.setTop (mkF m 90 #[.val (.int p1), .val (.int p2), .val (.int p3), .val (.int p4), .val (.int (3 : Int32)), .val (.int bb0), .val (.int bb1), .val (.int bb2), .val (.ref b203), .val .null, .unset, .unset] [(.int bb0)])) _
      refine own_go (fun _ k => XS.iload X215.here hx rfl (hb hby at_90) rfl k) ?_
      show own_G p e below (T215.setTop (mkF m 92 #[.val (.int p1), .val (.int p2), .val (.int p3), .val (.int p4), .val (.int (3 : Int32)), .val (.int bb0), .val (.int bb1), .val (.int bb2), .val (.ref b203), .val .null, .unset, .unset] [(.int bb0), (.int bb0)])) _
      refine own_go (fun _ k => XS.icmpYes X215.here hx rfl (pc0 := 92) (pc' := 97) rfl (hb hby at_92) rfl (teq (rfl : bb0 = bb0)).1 (by decide) (by decide) k) ?_
      show own_G p e below (T215.setTop (mkF m 97 #[.val (.int p1), .val (.int p2), .val (.int p3), .val (.int p4), .val (.int (3 : Int32)), .val (.int bb0), .val (.int bb1), .val (.int bb2), .val (.ref b203), .val .null, .unset, .unset] [])) _
      refine own_go (fun _ k => XS.iload X215.here hx rfl (hb hby at_97) rfl k) ?_
      show own_G p e below (T215.setTop (mkF m 99 #[.val (.int p1), .val (.int p2), .val (.int p3), .val (.int p4), .val (.int (3 : Int32)), .val (.int bb0), .val (.int bb1), .val (.int bb2), .val (.ref b203), .val .null, .unset, .unset] [(.int (3 : Int32))])) _
      refine own_go (fun _ k => XS.iconst X215.here hx rfl (hb hby at_99) k) ?_
      show own_G p e below (T215.setTop (mkF m 100 #[.val (.int p1), .val (.int p2), .val (.int p3), .val (.int p4), .val (.int (3 : Int32)), .val (.int bb0), .val (.int bb1), .val (.int bb2), .val (.ref b203), .val .null, .unset, .unset] [(.int (1 : Int32)), (.int (3 : Int32))])) _
      refine own_go (fun _ k => XS.icmpNo X215.here hx rfl (hb hby at_100) rfl (tlt (by decide : (1 : Int32) < (3 : Int32))).2.2.2 k) ?_
      show own_G p e below (T215.setTop (mkF m 103 #[.val (.int p1), .val (.int p2), .val (.int p3), .val (.int p4), .val (.int (3 : Int32)), .val (.int bb0), .val (.int bb1), .val (.int bb2), .val (.ref b203), .val .null, .unset, .unset] [])) _
      refine own_go (fun _ k => XS.aload X215.here hx rfl (hb hby at_103) rfl rfl k) ?_
      show own_G p e below (T215.setTop (mkF m 105 #[.val (.int p1), .val (.int p2), .val (.int p3), .val (.int p4), .val (.int (3 : Int32)), .val (.int bb0), .val (.int bb1), .val (.int bb2), .val (.ref b203), .val .null, .unset, .unset] [(.ref b203)])) _
      refine own_go (fun _ k => XS.iconst X215.here hx rfl (hb hby at_105) k) ?_
      show own_G p e below (T215.setTop (mkF m 106 #[.val (.int p1), .val (.int p2), .val (.int p3), .val (.int p4), .val (.int (3 : Int32)), .val (.int bb0), .val (.int bb1), .val (.int bb2), .val (.ref b203), .val .null, .unset, .unset] [(.int (1 : Int32)), (.ref b203)])) _
      obtain ⟨cl261, Ar261, q261, S261, M261, B261, G261⟩ := id f217
      have hin261 : ¬ ((1 : Int32) < 0 ∨ cl261.slots.size ≤ ((1 : Int32)).toNatClampNeg) := inb_of S261 ⟨by decide, by decide⟩
      have hat261 : cl261.slots[((1 : Int32)).toNatClampNeg]? = some (.int bb1) := B261.at hin261 rfl
      refine own_go (X215.baloadBytes hx (j := (1 : Int32)) (v := (.int bb1)) Ar261.1 (State.isArrayOf_alike hZ.alike Ar261.2.1) Ar261.2.2 hin261 hat261 (g := (mkF m 106 #[.val (.int p1), .val (.int p2), .val (.int p3), .val (.int p4), .val (.int (3 : Int32)), .val (.int bb0), .val (.int bb1), .val (.int bb2), .val (.ref b203), .val .null, .unset, .unset] [(.int (1 : Int32)), (.ref b203)])) rfl rfl (hb hby at_106)) ?_
      show own_G p e below (T215.setTop (mkF m 107 #[.val (.int p1), .val (.int p2), .val (.int p3), .val (.int p4), .val (.int (3 : Int32)), .val (.int bb0), .val (.int bb1), .val (.int bb2), .val (.ref b203), .val .null, .unset, .unset] [(.int bb1)])) _
      refine own_go (fun _ k => XS.iload X215.here hx rfl (hb hby at_107) rfl k) ?_
      show own_G p e below (T215.setTop (mkF m 109 #[.val (.int p1), .val (.int p2), .val (.int p3), .val (.int p4), .val (.int (3 : Int32)), .val (.int bb0), .val (.int bb1), .val (.int bb2), .val (.ref b203), .val .null, .unset, .unset] [(.int bb1), (.int bb1)])) _
      refine own_go (fun _ k => XS.icmpYes X215.here hx rfl (pc0 := 109) (pc' := 114) rfl (hb hby at_109) rfl (teq (rfl : bb1 = bb1)).1 (by decide) (by decide) k) ?_
      show own_G p e below (T215.setTop (mkF m 114 #[.val (.int p1), .val (.int p2), .val (.int p3), .val (.int p4), .val (.int (3 : Int32)), .val (.int bb0), .val (.int bb1), .val (.int bb2), .val (.ref b203), .val .null, .unset, .unset] [])) _
      refine own_go (fun _ k => XS.iload X215.here hx rfl (hb hby at_114) rfl k) ?_
      show own_G p e below (T215.setTop (mkF m 116 #[.val (.int p1), .val (.int p2), .val (.int p3), .val (.int p4), .val (.int (3 : Int32)), .val (.int bb0), .val (.int bb1), .val (.int bb2), .val (.ref b203), .val .null, .unset, .unset] [(.int (3 : Int32))])) _
      refine own_go (fun _ k => XS.iconst X215.here hx rfl (hb hby at_116) k) ?_
      show own_G p e below (T215.setTop (mkF m 117 #[.val (.int p1), .val (.int p2), .val (.int p3), .val (.int p4), .val (.int (3 : Int32)), .val (.int bb0), .val (.int bb1), .val (.int bb2), .val (.ref b203), .val .null, .unset, .unset] [(.int (2 : Int32)), (.int (3 : Int32))])) _
      refine own_go (fun _ k => XS.icmpNo X215.here hx rfl (hb hby at_117) rfl (tlt (by decide : (2 : Int32) < (3 : Int32))).2.2.2 k) ?_
      show own_G p e below (T215.setTop (mkF m 120 #[.val (.int p1), .val (.int p2), .val (.int p3), .val (.int p4), .val (.int (3 : Int32)), .val (.int bb0), .val (.int bb1), .val (.int bb2), .val (.ref b203), .val .null, .unset, .unset] [])) _
      refine own_go (fun _ k => XS.aload X215.here hx rfl (hb hby at_120) rfl rfl k) ?_
      show own_G p e below (T215.setTop (mkF m 122 #[.val (.int p1), .val (.int p2), .val (.int p3), .val (.int p4), .val (.int (3 : Int32)), .val (.int bb0), .val (.int bb1), .val (.int bb2), .val (.ref b203), .val .null, .unset, .unset] [(.ref b203)])) _
      refine own_go (fun _ k => XS.iconst X215.here hx rfl (hb hby at_122) k) ?_
      show own_G p e below (T215.setTop (mkF m 123 #[.val (.int p1), .val (.int p2), .val (.int p3), .val (.int p4), .val (.int (3 : Int32)), .val (.int bb0), .val (.int bb1), .val (.int bb2), .val (.ref b203), .val .null, .unset, .unset] [(.int (2 : Int32)), (.ref b203)])) _
      obtain ⟨cl262, Ar262, q262, S262, M262, B262, G262⟩ := id f217
      have hin262 : ¬ ((2 : Int32) < 0 ∨ cl262.slots.size ≤ ((2 : Int32)).toNatClampNeg) := inb_of S262 ⟨by decide, by decide⟩
      have hat262 : cl262.slots[((2 : Int32)).toNatClampNeg]? = some (.int bb2) := B262.at hin262 rfl
      refine own_go (X215.baloadBytes hx (j := (2 : Int32)) (v := (.int bb2)) Ar262.1 (State.isArrayOf_alike hZ.alike Ar262.2.1) Ar262.2.2 hin262 hat262 (g := (mkF m 123 #[.val (.int p1), .val (.int p2), .val (.int p3), .val (.int p4), .val (.int (3 : Int32)), .val (.int bb0), .val (.int bb1), .val (.int bb2), .val (.ref b203), .val .null, .unset, .unset] [(.int (2 : Int32)), (.ref b203)])) rfl rfl (hb hby at_123)) ?_
      show own_G p e below (T215.setTop (mkF m 124 #[.val (.int p1), .val (.int p2), .val (.int p3), .val (.int p4), .val (.int (3 : Int32)), .val (.int bb0), .val (.int bb1), .val (.int bb2), .val (.ref b203), .val .null, .unset, .unset] [(.int bb2)])) _
      refine own_go (fun _ k => XS.iload X215.here hx rfl (hb hby at_124) rfl k) ?_
      show own_G p e below (T215.setTop (mkF m 126 #[.val (.int p1), .val (.int p2), .val (.int p3), .val (.int p4), .val (.int (3 : Int32)), .val (.int bb0), .val (.int bb1), .val (.int bb2), .val (.ref b203), .val .null, .unset, .unset] [(.int bb2), (.int bb2)])) _
      refine own_go (fun _ k => XS.icmpYes X215.here hx rfl (pc0 := 126) (pc' := 131) rfl (hb hby at_126) rfl (teq (rfl : bb2 = bb2)).1 (by decide) (by decide) k) ?_
      show own_G p e below (T215.setTop (mkF m 131 #[.val (.int p1), .val (.int p2), .val (.int p3), .val (.int p4), .val (.int (3 : Int32)), .val (.int bb0), .val (.int bb1), .val (.int bb2), .val (.ref b203), .val .null, .unset, .unset] [])) _
      refine own_go (fun _ k => XS.iconst X215.here hx rfl (hb hby at_131) k) ?_
      show own_G p e below (T215.setTop (mkF m 132 #[.val (.int p1), .val (.int p2), .val (.int p3), .val (.int p4), .val (.int (3 : Int32)), .val (.int bb0), .val (.int bb1), .val (.int bb2), .val (.ref b203), .val .null, .unset, .unset] [(.int (-1 : Int32))])) _
      refine own_go (fun _ k => XS.istore X215.here hx rfl (hb hby at_132) rfl (l' := #[.val (.int p1), .val (.int p2), .val (.int p3), .val (.int p4), .val (.int (3 : Int32)), .val (.int bb0), .val (.int bb1), .val (.int bb2), .val (.ref b203), .val .null, .val (.int (-1 : Int32)), .unset]) rfl k) ?_
      show own_G p e below (T215.setTop (mkF m 134 #[.val (.int p1), .val (.int p2), .val (.int p3), .val (.int p4), .val (.int (3 : Int32)), .val (.int bb0), .val (.int bb1), .val (.int bb2), .val (.ref b203), .val .null, .val (.int (-1 : Int32)), .unset] [])) _
      refine own_go (fun _ k => XS.iload X215.here hx rfl (hb hby at_134) rfl k) ?_
      show own_G p e below (T215.setTop (mkF m 136 #[.val (.int p1), .val (.int p2), .val (.int p3), .val (.int p4), .val (.int (3 : Int32)), .val (.int bb0), .val (.int bb1), .val (.int bb2), .val (.ref b203), .val .null, .val (.int (-1 : Int32)), .unset] [(.int (3 : Int32))])) _
      refine own_go (fun _ k => XS.ifNo X215.here hx rfl (hb hby at_136) rfl ((if0 _ _).trans (tlt (by decide : (0 : Int32) < (3 : Int32))).2.2.2) k) ?_
      show own_G p e below (T215.setTop (mkF m 139 #[.val (.int p1), .val (.int p2), .val (.int p3), .val (.int p4), .val (.int (3 : Int32)), .val (.int bb0), .val (.int bb1), .val (.int bb2), .val (.ref b203), .val .null, .val (.int (-1 : Int32)), .unset] [])) _
      refine own_go (fun _ k => XS.iload X215.here hx rfl (hb hby at_139) rfl k) ?_
      show own_G p e below (T215.setTop (mkF m 141 #[.val (.int p1), .val (.int p2), .val (.int p3), .val (.int p4), .val (.int (3 : Int32)), .val (.int bb0), .val (.int bb1), .val (.int bb2), .val (.ref b203), .val .null, .val (.int (-1 : Int32)), .unset] [(.int bb0)])) _
      refine own_go (fun _ k => XS.iconst X215.here hx rfl (hb hby at_141) k) ?_
      show own_G p e below (T215.setTop (mkF m 142 #[.val (.int p1), .val (.int p2), .val (.int p3), .val (.int p4), .val (.int (3 : Int32)), .val (.int bb0), .val (.int bb1), .val (.int bb2), .val (.ref b203), .val .null, .val (.int (-1 : Int32)), .unset] [(.int (-1 : Int32)), (.int bb0)])) _
      refine own_go (fun _ k => XS.icmpYes X215.here hx rfl (pc0 := 142) (pc' := 148) rfl (hb hby at_142) rfl (teq c0).1 (by decide) (by decide) k) ?_
      show own_G p e below (T215.setTop (mkF m 148 #[.val (.int p1), .val (.int p2), .val (.int p3), .val (.int p4), .val (.int (3 : Int32)), .val (.int bb0), .val (.int bb1), .val (.int bb2), .val (.ref b203), .val .null, .val (.int (-1 : Int32)), .unset] [])) _
      refine own_go (fun _ k => XS.iload X215.here hx rfl (hb hby at_148) rfl k) ?_
      show own_G p e below (T215.setTop (mkF m 150 #[.val (.int p1), .val (.int p2), .val (.int p3), .val (.int p4), .val (.int (3 : Int32)), .val (.int bb0), .val (.int bb1), .val (.int bb2), .val (.ref b203), .val .null, .val (.int (-1 : Int32)), .unset] [(.int (3 : Int32))])) _
      refine own_go (fun _ k => XS.iconst X215.here hx rfl (hb hby at_150) k) ?_
      show own_G p e below (T215.setTop (mkF m 151 #[.val (.int p1), .val (.int p2), .val (.int p3), .val (.int p4), .val (.int (3 : Int32)), .val (.int bb0), .val (.int bb1), .val (.int bb2), .val (.ref b203), .val .null, .val (.int (-1 : Int32)), .unset] [(.int (1 : Int32)), (.int (3 : Int32))])) _
      refine own_go (fun _ k => XS.icmpNo X215.here hx rfl (hb hby at_151) rfl (tlt (by decide : (1 : Int32) < (3 : Int32))).2.2.2 k) ?_
      show own_G p e below (T215.setTop (mkF m 154 #[.val (.int p1), .val (.int p2), .val (.int p3), .val (.int p4), .val (.int (3 : Int32)), .val (.int bb0), .val (.int bb1), .val (.int bb2), .val (.ref b203), .val .null, .val (.int (-1 : Int32)), .unset] [])) _
      refine own_go (fun _ k => XS.iload X215.here hx rfl (hb hby at_154) rfl k) ?_
      show own_G p e below (T215.setTop (mkF m 156 #[.val (.int p1), .val (.int p2), .val (.int p3), .val (.int p4), .val (.int (3 : Int32)), .val (.int bb0), .val (.int bb1), .val (.int bb2), .val (.ref b203), .val .null, .val (.int (-1 : Int32)), .unset] [(.int bb1)])) _
      refine own_go (fun _ k => XS.iconst X215.here hx rfl (hb hby at_156) k) ?_
      show own_G p e below (T215.setTop (mkF m 157 #[.val (.int p1), .val (.int p2), .val (.int p3), .val (.int p4), .val (.int (3 : Int32)), .val (.int bb0), .val (.int bb1), .val (.int bb2), .val (.ref b203), .val .null, .val (.int (-1 : Int32)), .unset] [(.int (-1 : Int32)), (.int bb1)])) _
      refine own_go (fun _ k => XS.icmpYes X215.here hx rfl (pc0 := 157) (pc' := 163) rfl (hb hby at_157) rfl (teq c1).1 (by decide) (by decide) k) ?_
      show own_G p e below (T215.setTop (mkF m 163 #[.val (.int p1), .val (.int p2), .val (.int p3), .val (.int p4), .val (.int (3 : Int32)), .val (.int bb0), .val (.int bb1), .val (.int bb2), .val (.ref b203), .val .null, .val (.int (-1 : Int32)), .unset] [])) _
      refine own_go (fun _ k => XS.iload X215.here hx rfl (hb hby at_163) rfl k) ?_
      show own_G p e below (T215.setTop (mkF m 165 #[.val (.int p1), .val (.int p2), .val (.int p3), .val (.int p4), .val (.int (3 : Int32)), .val (.int bb0), .val (.int bb1), .val (.int bb2), .val (.ref b203), .val .null, .val (.int (-1 : Int32)), .unset] [(.int (3 : Int32))])) _
      refine own_go (fun _ k => XS.iconst X215.here hx rfl (hb hby at_165) k) ?_
      show own_G p e below (T215.setTop (mkF m 166 #[.val (.int p1), .val (.int p2), .val (.int p3), .val (.int p4), .val (.int (3 : Int32)), .val (.int bb0), .val (.int bb1), .val (.int bb2), .val (.ref b203), .val .null, .val (.int (-1 : Int32)), .unset] [(.int (2 : Int32)), (.int (3 : Int32))])) _
      refine own_go (fun _ k => XS.icmpNo X215.here hx rfl (hb hby at_166) rfl (tlt (by decide : (2 : Int32) < (3 : Int32))).2.2.2 k) ?_
      show own_G p e below (T215.setTop (mkF m 169 #[.val (.int p1), .val (.int p2), .val (.int p3), .val (.int p4), .val (.int (3 : Int32)), .val (.int bb0), .val (.int bb1), .val (.int bb2), .val (.ref b203), .val .null, .val (.int (-1 : Int32)), .unset] [])) _
      refine own_go (fun _ k => XS.iload X215.here hx rfl (hb hby at_169) rfl k) ?_
      show own_G p e below (T215.setTop (mkF m 171 #[.val (.int p1), .val (.int p2), .val (.int p3), .val (.int p4), .val (.int (3 : Int32)), .val (.int bb0), .val (.int bb1), .val (.int bb2), .val (.ref b203), .val .null, .val (.int (-1 : Int32)), .unset] [(.int bb2)])) _
      refine own_go (fun _ k => XS.iconst X215.here hx rfl (hb hby at_171) k) ?_
      show own_G p e below (T215.setTop (mkF m 172 #[.val (.int p1), .val (.int p2), .val (.int p3), .val (.int p4), .val (.int (3 : Int32)), .val (.int bb0), .val (.int bb1), .val (.int bb2), .val (.ref b203), .val .null, .val (.int (-1 : Int32)), .unset] [(.int (-1 : Int32)), (.int bb2)])) _
      refine own_go (fun _ k => XS.icmpYes X215.here hx rfl (pc0 := 172) (pc' := 178) rfl (hb hby at_172) rfl (teq c2).1 (by decide) (by decide) k) ?_
      show own_G p e below (T215.setTop (mkF m 178 #[.val (.int p1), .val (.int p2), .val (.int p3), .val (.int p4), .val (.int (3 : Int32)), .val (.int bb0), .val (.int bb1), .val (.int bb2), .val (.ref b203), .val .null, .val (.int (-1 : Int32)), .unset] [])) _
      refine own_go (fun _ k => XS.iload X215.here hx rfl (hb hby at_178) rfl k) ?_
      show own_G p e below (T215.setTop (mkF m 180 #[.val (.int p1), .val (.int p2), .val (.int p3), .val (.int p4), .val (.int (3 : Int32)), .val (.int bb0), .val (.int bb1), .val (.int bb2), .val (.ref b203), .val .null, .val (.int (-1 : Int32)), .unset] [(.int (-1 : Int32))])) _
      refine own_go (fun _ k => XS.ifNo X215.here hx rfl (hb hby at_180) rfl ((if0 _ _).trans (tlt (by decide : (-1 : Int32) < (0 : Int32))).2.1) k) ?_
      show own_G p e below (T215.setTop (mkF m 183 #[.val (.int p1), .val (.int p2), .val (.int p3), .val (.int p4), .val (.int (3 : Int32)), .val (.int bb0), .val (.int bb1), .val (.int bb2), .val (.ref b203), .val .null, .val (.int (-1 : Int32)), .unset] [])) _
      refine own_go (fun _ k => XS.aload X215.here hx rfl (hb hby at_183) rfl rfl k) ?_
      show own_G p e below (T215.setTop (mkF m 185 #[.val (.int p1), .val (.int p2), .val (.int p3), .val (.int p4), .val (.int (3 : Int32)), .val (.int bb0), .val (.int bb1), .val (.int bb2), .val (.ref b203), .val .null, .val (.int (-1 : Int32)), .unset] [.null])) _
      refine own_go (fun _ k => XS.ifnonnullNo X215.here hx rfl (hb hby at_185) rfl k) ?_
      show own_G p e below (T215.setTop (mkF m 188 #[.val (.int p1), .val (.int p2), .val (.int p3), .val (.int p4), .val (.int (3 : Int32)), .val (.int bb0), .val (.int bb1), .val (.int bb2), .val (.ref b203), .val .null, .val (.int (-1 : Int32)), .unset] [])) _
      refine own_go (fun _ k => XS.iconst X215.here hx rfl (hb hby at_188) k) ?_
      show own_G p e below (T215.setTop (mkF m 189 #[.val (.int p1), .val (.int p2), .val (.int p3), .val (.int p4), .val (.int (3 : Int32)), .val (.int bb0), .val (.int bb1), .val (.int bb2), .val (.ref b203), .val .null, .val (.int (-1 : Int32)), .unset] [(.int (1 : Int32))])) _
      refine own_go (fun _ k => XS.goto X215.here hx rfl (pc0 := 189) (pc' := 193) rfl (hb hby at_189) (by decide) (by decide) k) ?_
      show own_G p e below (T215.setTop (mkF m 193 #[.val (.int p1), .val (.int p2), .val (.int p3), .val (.int p4), .val (.int (3 : Int32)), .val (.int bb0), .val (.int bb1), .val (.int bb2), .val (.ref b203), .val .null, .val (.int (-1 : Int32)), .unset] [(.int (1 : Int32))])) _
      refine own_ret X215 hlk (v := some (.int (1 : Int32))) (fun h => by rw [hret] at h; cases h) (Q0 Z p1 p2 p3 p4 h0 n0) (own_retI X215 hx (t := .boolean) hret rfl (Or.inl ⟨rfl, by simp, _, rfl⟩) (hb hby at_193)) (by decide) (by decide) ?_
      show Q0 Z p1 p2 p3 p4 h0 n0 _ T215.heap _
      exact ⟨rfl, N215⟩
set_option maxRecDepth 65536 in
set_option maxHeartbeats 40000000 in
theorem comes_1 {Post : Tables → Env → Array Value → State → Outcome → State → Prop} (hpost : ∀ tb e args s v u, (limb_1_1.after args s (.returned v) u = true ∧ limb_1_2.after args s (.returned v) u = true ∧ True) → FrameEnd s (.returned v) u (Jvm.fieldLocs frame_1_writes args s ++ Jvm.arrayLocs frame_1_arrays args s ++ Jvm.staticLocs frame_1_statics s) 16 128 → Post tb e args s (.returned v) u) :
    ArmFor flags0 classFile x code maxLocals ret World_1 tables_1 room_1 Calls_1 rest_1 Pre_1 Post := by
  intro l hfl _ _ p e ha hc hk s m args below hf hA hF happ hP
  obtain ⟨hcalls, hrest, hpre⟩ := hP
  obtain ⟨-, -, -, hnamed, -, -, -, hat⟩ := (Spec.applies_iff hf).mp happ
  obtain ⟨hg, hn⟩ := and_e (Cond.before_iff.mp (show (Jvm.Cond.and given_1 narrow_1).before args s = true from hpre))
  obtain ⟨g1, g2⟩ := and_e hg
  obtain ⟨g3, g4⟩ := and_e g2
  obtain ⟨g5, g6⟩ := and_e g4
  obtain ⟨g7, g8⟩ := and_e g6
  obtain ⟨w0, w1, w2, w3, rfl⟩ : ∃ w0 w1 w2 w3 : Value, args = #[w0, w1, w2, w3] := by
    have hs : args.size = 4 := by simpa [Cond.value, given_1] using g1
    obtain ⟨L⟩ := args
    match L, hs with
    | [w0, w1, w2, w3], _ => exact ⟨w0, w1, w2, w3, rfl⟩
  have hw := fun d (hd : d ∈ tables_1) => atoms_spec (ws := Jvm.Cond.code x code maxLocals ret :: tables_1) hat d (List.mem_cons_of_mem _ hd)
  obtain ⟨i0, ei0⟩ := is_v g3
  obtain rfl : w0 = (.int i0) := Option.some.inj ei0
  obtain ⟨i1, ei1⟩ := is_v g5
  obtain rfl : w1 = (.int i1) := Option.some.inj ei1
  obtain ⟨i2, ei2⟩ := is_v g7
  obtain rfl : w2 = (.int i2) := Option.some.inj ei2
  obtain ⟨i3, ei3⟩ := is_v g8
  obtain rfl : w3 = (.int i3) := Option.some.inj ei3
  obtain ⟨n, o, h1, h2, h3, _, L, rfl, ⟨rfl, N⟩, hq⟩ := rm0 l s _ hw tables_1 i0 i1 i2 i3 s.heap s.heap.size (Nat.le_refl _) p e ha hc hk s m _ below hf ((Spec.applies_iff_loose hf).mp happ).1 ⟨rfl, State.Warmed39.refl s, rfl⟩ trivial
  refine ⟨n, _, h1, h2, h3, hpost _ _ _ _ _ _ ⟨Cond.after_iff.mpr rfl, Cond.after_iff.mpr (eq_i res_at (Term.int_eval (1)) rfl), trivial⟩ ⟨hq.1, hq.2.1, (hq.2.2.sift fun y hy => Or.inr (N y hy)).mono (by decide) (by decide)⟩⟩
theorem main_1_1 : Claimed_1_1 := comes_1 fun _ _ _ _ _ _ h hF => ⟨h.1, hF⟩
theorem main_1_2 : Claimed_1_2 := comes_1 fun _ _ _ _ _ _ h hF => ⟨h.2.1, hF⟩
end Jvm.Pilot.@@N@@
namespace Jvm.Pilot.@@N@@
open Jvm Jvm.ClassFile Sem Op Lib Jvm.Free Jvm.Stand Jvm.Pilot.@@N@@.Jvm.D
/-! MADE BY PROGRAM (witnessworld.py) out of the Statement's table words and the real class files: 12 classes; the members and pool entries that the words name. The judged class is class 1, her method 1. -/
namespace start1
open Jvm.ClassFile
def u (s : String) : CpInfo := .utf8 (stringToUtf16 s)
/-- a pool by its gaps: so many unusable entries, then the entry; so many at the end -/
def gap : Nat → List CpInfo → List CpInfo
  | 0, r => r
  | n + 1, r => .unusable :: gap n r
def poolList (es : List (Nat × CpInfo)) (last : Nat) : List CpInfo := es.foldr (fun e r => gap e.1 (e.2 :: r)) (gap last [])
def pool (es : List (Nat × CpInfo)) (last : Nat) : Array CpInfo := ⟨poolList es last⟩
def fileOf (pool : Array CpInfo) (this : Nat) (attrs : Array Attribute := #[]) (ms : Array MethodInfo := #[]) (fl : Nat := 33) (sup : Nat := 0) (ifs : Array Nat := #[]) (fds : Array FieldInfo := #[]) : ClassFile where
  minorVersion := 0
  majorVersion := 65
  constantPool := pool
  accessFlags := fl
  thisClass := this
  superClass := sup
  interfaces := ifs
  fields := fds
  methods := ms
  attributes := attrs
def plain (name : String) (sup : Option ClassId) : Class where
  name := name
  kind := .ordinary
  loader := none
  accessFlags := 33
  super := sup
  interfaces := #[]
  cf := none
  fields := #[]
  methods := #[]
  instanceTypes := #[]
  staticTypes := #[]
  resolved := #[]
  callSites := []
  init := .initialized
  statics := none
  mirror := none

def pool0 : Array CpInfo := pool [(5, u "<init>"), (0, u "()V"), (1, .class_ 10), (1, u "java/lang/Object"), (85, u "clone"), (0, u "()Ljava/lang/Object;")] 26

def k0m0 : Method := { name := "<init>", desc := "()V", sig := { parameters := [], returnType := none }, accessFlags := 1, code := none }
def k0m1 : Method := { name := "clone", desc := "()Ljava/lang/Object;", sig := { parameters := [], returnType := some (.object "java/lang/Object") }, accessFlags := 260, code := none }
/-- java/lang/Object -/
def k0 : Class := { plain "java/lang/Object" none with
  accessFlags := 33
  interfaces := #[]
  cf := some (fileOf pool0 8 #[] #[{ accessFlags := 1, nameIndex := 5, descriptorIndex := 6, attributes := #[] }, { accessFlags := 260, nameIndex := 96, descriptorIndex := 97, attributes := #[] }] 33 0 #[] #[])
  fields := #[]
  methods := #[k0m0, k0m1]
  instanceTypes := #[]
  staticTypes := #[]
  resolved := Array.replicate 124 none
  statics := none }

def pool1 : Array CpInfo := pool [(2, .class_ 4), (1, u "java/lang/Object"), (0, u "<init>"), (0, u "()V"), (0, .methodref 8 9), (0, .class_ 10), (0, .nameAndType 11 12), (0, u "com/example/orbweave/orbweave/store/KeyOrderPrefixEndPinLaw"), (0, u "draw"), (0, u "(I)B"), (0, .methodref 14 15), (0, .class_ 16), (0, .nameAndType 17 18), (0, u "com/example/orbweave/orbweave/store/KeyOrder"), (0, u "prefixEnd"), (0, u "([B)[B"), (2, u "law"), (0, u "(IIII)Z")] 5

def k1m0 : Method := { name := "<init>", desc := "()V", sig := { parameters := [], returnType := none }, accessFlags := 1, code := none }
def k1c1 : Code := { maxStack := 3, maxLocals := 12, code := code, exceptionTable := #[], attributes := #[] }
def k1m1 : Method := { name := "law", desc := "(IIII)Z", sig := { parameters := [.int, .int, .int, .int], returnType := some .boolean }, accessFlags := 9, code := some k1c1 }
def k1c2 : Code := { maxStack := 2, maxLocals := 1, code := method_3_code, exceptionTable := #[], attributes := #[] }
def k1m2 : Method := { name := "draw", desc := "(I)B", sig := { parameters := [.int], returnType := some .byte }, accessFlags := 10, code := some k1c2 }
/-- com/example/orbweave/orbweave/store/KeyOrderPrefixEndPinLaw -/
def k1 : Class := { plain "com/example/orbweave/orbweave/store/KeyOrderPrefixEndPinLaw" (some 0) with
  accessFlags := 49
  interfaces := #[]
  cf := some (fileOf pool1 8 #[] #[{ accessFlags := 1, nameIndex := 5, descriptorIndex := 6, attributes := #[] }, { accessFlags := 9, nameIndex := 21, descriptorIndex := 22, attributes := #[] }, { accessFlags := 10, nameIndex := 11, descriptorIndex := 12, attributes := #[] }] 49 2 #[] #[])
  fields := #[]
  methods := #[k1m0, k1m1, k1m2]
  instanceTypes := #[]
  staticTypes := #[]
  resolved := Array.replicate 28 none
  statics := none }

def pool2 : Array CpInfo := pool [(1, .methodref 2 3), (0, .class_ 4), (0, .nameAndType 5 6), (0, u "java/util/Arrays"), (0, u "copyOf"), (0, u "([BI)[B"), (1, .class_ 10), (1, u "java/lang/Object"), (0, u "<init>"), (0, u "()V"), (5, .class_ 20), (1, u "com/example/orbweave/orbweave/store/KeyOrder"), (0, u "COMPARATOR"), (0, u "Ljava/util/Comparator;"), (2, u "prefixEnd"), (0, u "([B)[B")] 29

def k2c0 : Code := { maxStack := 4, maxLocals := 3, code := prog_38_method_1_code, exceptionTable := #[], attributes := #[] }
def k2m0 : Method := { name := "prefixEnd", desc := "([B)[B", sig := { parameters := [(.array .byte)], returnType := some (.array .byte) }, accessFlags := 9, code := some k2c0 }
def k2m1 : Method := { name := "<init>", desc := "()V", sig := { parameters := [], returnType := none }, accessFlags := 2, code := none }
/-- com/example/orbweave/orbweave/store/KeyOrder -/
def k2 : Class := { plain "com/example/orbweave/orbweave/store/KeyOrder" (some 0) with
  accessFlags := 49
  interfaces := #[]
  cf := some (fileOf pool2 18 #[] #[{ accessFlags := 9, nameIndex := 25, descriptorIndex := 26, attributes := #[] }, { accessFlags := 2, nameIndex := 11, descriptorIndex := 12, attributes := #[] }] 49 8 #[] #[{ accessFlags := 25, nameIndex := 21, descriptorIndex := 22, attributes := #[] }])
  fields := #[{ name := "COMPARATOR", type := (.object "java/util/Comparator"), accessFlags := 25, slot := 0, constantValue := 0 }]
  methods := #[k2m0, k2m1]
  instanceTypes := #[]
  staticTypes := #[(.object "java/util/Comparator")]
  resolved := Array.replicate 56 none
  statics := none }

def pool3 : Array CpInfo := pool [(2, .class_ 4), (1, u "java/lang/Object"), (0, u "<init>"), (0, u "()V"), (7, .class_ 16), (1, u "java/util/Arrays"), (57, .class_ 76), (1, u "java/util/Arrays$NaturalOrder"), (32, u "()Ljava/lang/Object;"), (3, .class_ 115), (1, u "java/util/Arrays$LegacyMergeSort"), (1, u "Z"), (10, .nameAndType 129 109), (0, u "clone"), (20, .methodref 151 152), (0, .class_ 153), (0, .nameAndType 154 155), (0, u "java/lang/System"), (0, u "arraycopy"), (0, u "(Ljava/lang/Object;ILjava/lang/Object;II)V"), (146, u "copyOf"), (1, .methodref 305 306), (0, .class_ 307), (0, .nameAndType 308 309), (0, u "java/lang/Math"), (0, u "min"), (0, u "(II)I"), (0, .methodref 311 128), (0, .class_ 312), (0, u "[B"), (62, .class_ 376), (0, u "java/util/Arrays$ArrayList"), (68, u "$assertionsDisabled"), (269, u "MIN_ARRAY_SORT_GRAN"), (0, u "I"), (2, u "INSERTIONSORT_THRESHOLD"), (149, u "([BI)[B"), (105, .class_ 976), (0, u "java/util/Arrays$ArrayItr")] 52

def k3m0 : Method := { name := "<init>", desc := "()V", sig := { parameters := [], returnType := none }, accessFlags := 2, code := none }
def k3c1 : Code := { maxStack := 6, maxLocals := 3, code := jdk_65_method_121_code, exceptionTable := #[], attributes := #[] }
def k3m1 : Method := { name := "copyOf", desc := "([BI)[B", sig := { parameters := [(.array .byte), .int], returnType := some (.array .byte) }, accessFlags := 9, code := some k3c1 }
/-- java/util/Arrays -/
def k3 : Class := { plain "java/util/Arrays" (some 0) with
  accessFlags := 49
  interfaces := #[]
  cf := some (fileOf pool3 14 #[.nestMembers #[975, 375, 113, 74]] #[{ accessFlags := 2, nameIndex := 5, descriptorIndex := 6, attributes := #[] }, { accessFlags := 9, nameIndex := 302, descriptorIndex := 869, attributes := #[] }] 49 2 #[] #[{ accessFlags := 26, nameIndex := 715, descriptorIndex := 716, attributes := #[] }, { accessFlags := 26, nameIndex := 719, descriptorIndex := 716, attributes := #[] }, { accessFlags := 4120, nameIndex := 445, descriptorIndex := 117, attributes := #[] }])
  fields := #[{ name := "MIN_ARRAY_SORT_GRAN", type := .int, accessFlags := 26, slot := 0, constantValue := 0 }, { name := "INSERTIONSORT_THRESHOLD", type := .int, accessFlags := 26, slot := 1, constantValue := 0 }, { name := "$assertionsDisabled", type := .boolean, accessFlags := 4120, slot := 2, constantValue := 0 }]
  methods := #[k3m0, k3m1]
  instanceTypes := #[]
  staticTypes := #[.int, .int, .boolean]
  resolved := Array.replicate 1029 none
  statics := none }

def pool4 : Array CpInfo := pool [(1, .class_ 2), (0, u "java/lang/Cloneable"), (0, .class_ 4), (0, u "java/lang/Object")] 2

/-- java/lang/Cloneable -/
def k4 : Class := { plain "java/lang/Cloneable" (some 0) with
  accessFlags := 1537
  interfaces := #[]
  cf := some (fileOf pool4 1 #[] #[] 1537 3 #[] #[])
  fields := #[]
  methods := #[]
  instanceTypes := #[]
  staticTypes := #[]
  resolved := Array.replicate 7 none
  statics := none }

def pool5 : Array CpInfo := pool [(1, .class_ 2), (0, u "java/lang/Math"), (1, .class_ 6), (1, u "java/lang/Object"), (0, u "<init>"), (0, u "()V"), (89, .class_ 100), (1, u "java/lang/Math$RandomNumberGeneratorHolder"), (71, u "negativeZeroFloatBits"), (0, u "J"), (2, u "negativeZeroDoubleBits"), (24, u "min"), (43, u "$assertionsDisabled"), (0, u "Z"), (88, u "(II)I"), (2, u "twoToTheDoubleScaleDown"), (0, u "D"), (4, u "twoToTheDoubleScaleUp"), (9, u "E"), (3, u "PI"), (2, u "TAU"), (2, u "DEGREES_TO_RADIANS"), (0, u "RADIANS_TO_DEGREES")] 94

def k5m0 : Method := { name := "<init>", desc := "()V", sig := { parameters := [], returnType := none }, accessFlags := 2, code := none }
def k5c1 : Code := { maxStack := 2, maxLocals := 2, code := jdk_29_method_69_code, exceptionTable := #[], attributes := #[] }
def k5m1 : Method := { name := "min", desc := "(II)I", sig := { parameters := [.int, .int], returnType := some .int }, accessFlags := 9, code := some k5c1 }
/-- java/lang/Math -/
def k5 : Class := { plain "java/lang/Math" (some 0) with
  accessFlags := 49
  interfaces := #[]
  cf := some (fileOf pool5 1 #[.nestMembers #[98]] #[{ accessFlags := 2, nameIndex := 7, descriptorIndex := 8, attributes := #[] }, { accessFlags := 9, nameIndex := 201, descriptorIndex := 335, attributes := #[] }] 49 4 #[] #[{ accessFlags := 25, nameIndex := 354, descriptorIndex := 339, attributes := #[] }, { accessFlags := 25, nameIndex := 358, descriptorIndex := 339, attributes := #[] }, { accessFlags := 25, nameIndex := 361, descriptorIndex := 339, attributes := #[] }, { accessFlags := 26, nameIndex := 364, descriptorIndex := 339, attributes := #[] }, { accessFlags := 26, nameIndex := 365, descriptorIndex := 339, attributes := #[] }, { accessFlags := 26, nameIndex := 172, descriptorIndex := 173, attributes := #[] }, { accessFlags := 26, nameIndex := 176, descriptorIndex := 173, attributes := #[] }, { accessFlags := 8, nameIndex := 344, descriptorIndex := 339, attributes := #[] }, { accessFlags := 8, nameIndex := 338, descriptorIndex := 339, attributes := #[] }, { accessFlags := 4120, nameIndex := 245, descriptorIndex := 246, attributes := #[] }])
  fields := #[{ name := "E", type := .double, accessFlags := 25, slot := 0, constantValue := 0 }, { name := "PI", type := .double, accessFlags := 25, slot := 1, constantValue := 0 }, { name := "TAU", type := .double, accessFlags := 25, slot := 2, constantValue := 0 }, { name := "DEGREES_TO_RADIANS", type := .double, accessFlags := 26, slot := 3, constantValue := 0 }, { name := "RADIANS_TO_DEGREES", type := .double, accessFlags := 26, slot := 4, constantValue := 0 }, { name := "negativeZeroFloatBits", type := .long, accessFlags := 26, slot := 5, constantValue := 0 }, { name := "negativeZeroDoubleBits", type := .long, accessFlags := 26, slot := 6, constantValue := 0 }, { name := "twoToTheDoubleScaleUp", type := .double, accessFlags := 8, slot := 7, constantValue := 0 }, { name := "twoToTheDoubleScaleDown", type := .double, accessFlags := 8, slot := 8, constantValue := 0 }, { name := "$assertionsDisabled", type := .boolean, accessFlags := 4120, slot := 9, constantValue := 0 }]
  methods := #[k5m0, k5m1]
  instanceTypes := #[]
  staticTypes := #[.double, .double, .double, .double, .double, .long, .long, .double, .double, .boolean]
  resolved := Array.replicate 460 none
  statics := none }

def pool6 : Array CpInfo := pool [(2, .class_ 4), (1, u "java/lang/Object"), (0, u "<init>"), (0, u "()V"), (1, .class_ 10), (1, u "java/lang/System"), (0, u "allowSecurityManager"), (0, u "I"), (16, u "cons"), (0, u "Ljava/io/Console;"), (77, .class_ 110), (1, u "java/lang/System$CallersHolder"), (43, u "initialErrStream"), (0, u "Ljava/io/PrintStream;"), (19, u "security"), (0, u "Ljava/lang/SecurityManager;"), (31, .class_ 209), (0, u "java/lang/System$1"), (7, u "props"), (0, u "Ljava/util/Properties;"), (2, u "lineSeparator"), (0, u "Ljava/lang/String;"), (96, .class_ 321), (1, u "java/lang/System$LoggerFinder"), (5, .class_ 328), (0, u "java/lang/System$Logger"), (67, u "err"), (2, u "out"), (91, u "notSupportedJnuEncoding"), (15, u "in"), (17, u "initialIn"), (0, u "Ljava/io/InputStream;"), (35, u "bootLayer"), (0, u "Ljava/lang/ModuleLayer;"), (99, .class_ 664), (0, u "java/lang/System$2"), (9, u "NEVER"), (2, u "MAYBE"), (49, u "arraycopy"), (0, u "(Ljava/lang/Object;ILjava/lang/Object;II)V"), (72, .class_ 802), (0, u "java/lang/System$Logger$Level")] 31

def k6m0 : Method := { name := "<init>", desc := "()V", sig := { parameters := [], returnType := none }, accessFlags := 2, code := none }
def k6m1 : Method := { name := "arraycopy", desc := "(Ljava/lang/Object;ILjava/lang/Object;II)V", sig := { parameters := [(.object "java/lang/Object"), .int, (.object "java/lang/Object"), .int, .int], returnType := none }, accessFlags := 265, code := none }
/-- java/lang/System -/
def k6 : Class := { plain "java/lang/System" (some 0) with
  accessFlags := 49
  interfaces := #[]
  cf := some (fileOf pool6 8 #[.nestMembers #[319, 327, 801, 108, 663, 208]] #[{ accessFlags := 2, nameIndex := 5, descriptorIndex := 6, attributes := #[] }, { accessFlags := 265, nameIndex := 727, descriptorIndex := 728, attributes := #[] }] 49 2 #[] #[{ accessFlags := 25, nameIndex := 507, descriptorIndex := 526, attributes := #[] }, { accessFlags := 25, nameIndex := 399, descriptorIndex := 155, attributes := #[] }, { accessFlags := 25, nameIndex := 396, descriptorIndex := 155, attributes := #[] }, { accessFlags := 10, nameIndex := 525, descriptorIndex := 526, attributes := #[] }, { accessFlags := 26, nameIndex := 674, descriptorIndex := 12, attributes := #[] }, { accessFlags := 26, nameIndex := 677, descriptorIndex := 12, attributes := #[] }, { accessFlags := 10, nameIndex := 11, descriptorIndex := 12, attributes := #[] }, { accessFlags := 74, nameIndex := 175, descriptorIndex := 176, attributes := #[] }, { accessFlags := 10, nameIndex := 491, descriptorIndex := 222, attributes := #[] }, { accessFlags := 74, nameIndex := 29, descriptorIndex := 30, attributes := #[] }, { accessFlags := 74, nameIndex := 154, descriptorIndex := 155, attributes := #[] }, { accessFlags := 10, nameIndex := 217, descriptorIndex := 218, attributes := #[] }, { accessFlags := 10, nameIndex := 221, descriptorIndex := 222, attributes := #[] }, { accessFlags := 8, nameIndex := 562, descriptorIndex := 563, attributes := #[] }])
  fields := #[{ name := "in", type := (.object "java/io/InputStream"), accessFlags := 25, slot := 0, constantValue := 0 }, { name := "out", type := (.object "java/io/PrintStream"), accessFlags := 25, slot := 1, constantValue := 0 }, { name := "err", type := (.object "java/io/PrintStream"), accessFlags := 25, slot := 2, constantValue := 0 }, { name := "initialIn", type := (.object "java/io/InputStream"), accessFlags := 10, slot := 3, constantValue := 0 }, { name := "NEVER", type := .int, accessFlags := 26, slot := 4, constantValue := 0 }, { name := "MAYBE", type := .int, accessFlags := 26, slot := 5, constantValue := 0 }, { name := "allowSecurityManager", type := .int, accessFlags := 10, slot := 6, constantValue := 0 }, { name := "security", type := (.object "java/lang/SecurityManager"), accessFlags := 74, slot := 7, constantValue := 0 }, { name := "notSupportedJnuEncoding", type := (.object "java/lang/String"), accessFlags := 10, slot := 8, constantValue := 0 }, { name := "cons", type := (.object "java/io/Console"), accessFlags := 74, slot := 9, constantValue := 0 }, { name := "initialErrStream", type := (.object "java/io/PrintStream"), accessFlags := 74, slot := 10, constantValue := 0 }, { name := "props", type := (.object "java/util/Properties"), accessFlags := 10, slot := 11, constantValue := 0 }, { name := "lineSeparator", type := (.object "java/lang/String"), accessFlags := 10, slot := 12, constantValue := 0 }, { name := "bootLayer", type := (.object "java/lang/ModuleLayer"), accessFlags := 8, slot := 13, constantValue := 0 }]
  methods := #[k6m0, k6m1]
  instanceTypes := #[]
  staticTypes := #[(.object "java/io/InputStream"), (.object "java/io/PrintStream"), (.object "java/io/PrintStream"), (.object "java/io/InputStream"), .int, .int, .int, (.object "java/lang/SecurityManager"), (.object "java/lang/String"), (.object "java/io/Console"), (.object "java/io/PrintStream"), (.object "java/util/Properties"), (.object "java/lang/String"), (.object "java/lang/ModuleLayer")]
  resolved := Array.replicate 834 none
  statics := none }

def pool7 : Array CpInfo := pool [(1, u "java/io/Serializable"), (0, .class_ 1), (0, u "java/lang/Object"), (0, .class_ 3)] 3

/-- java/io/Serializable -/
def k7 : Class := { plain "java/io/Serializable" (some 0) with
  accessFlags := 1537
  interfaces := #[]
  cf := some (fileOf pool7 2 #[] #[] 1537 4 #[] #[])
  fields := #[]
  methods := #[]
  instanceTypes := #[]
  staticTypes := #[]
  resolved := Array.replicate 8 none
  statics := none }

/-- the primitive byte -/
def k8 : Class := { plain "byte" none with kind := .primitive 'B', accessFlags := 0x411 }
/-- [B -/
def k9 : Class := { plain "[B" (some 0) with kind := .array 8 .byte, interfaces := #[4, 7], accessFlags := 1041 }

/-- the primitive int -/
def k10 : Class := { plain "int" none with kind := .primitive 'I', accessFlags := 0x411 }
/-- [I -/
def k11 : Class := { plain "[I" (some 0) with kind := .array 10 .int, interfaces := #[4, 7], accessFlags := 1041 }

def heap : Heap := #[]
def classes : Array Class := #[k0, k1, k2, k3, k4, k5, k6, k7, k8, k9, k10, k11]
def interned : List (Array UInt16 × Addr) := []
def slotsUsed : Nat := 0
def theMethod : MethodId := ⟨1, 1⟩
def args0 : Array Value := #[.int 5, .int 5, .int 5, .int 5]
def aboutOver (below : List Frame) : State where
  vm := { classes := classes, interned := interned.toArray }
  heap := heap
  slotsUsed := slotsUsed
  threads := #[{ frames := .invoking theMethod args0 :: below }]
def below0 : List Frame := [.native { method := ⟨0, 0⟩, args := #[] }]
def about1 : State := aboutOver below0
def p0 : Program := .bare "" "" ""
def e0 : Env := launch0.env 0 0 0
theorem w_frames : about1.frames = Frame.invoking theMethod args0 :: below0 := rfl
set_option maxRecDepth 65536 in
theorem w_args : argsFit about1.vm theMethod args0 = true := by decide +kernel
set_option maxRecDepth 65536 in
theorem w_heap : heapFits about1 = true := by decide +kernel
set_option maxRecDepth 65536 in
theorem w_runnable : about1.curStatus? = some .runnable := by decide +kernel
set_option maxRecDepth 65536 in
theorem w_alone : about1.alone = true := by decide +kernel
set_option maxRecDepth 65536 in
theorem w_named : about1.methodNamed? x = some theMethod := by decide +kernel
set_option maxRecDepth 65536 in
theorem w_hears : about1.hears theMethod below0 = true := by decide +kernel
set_option maxRecDepth 65536 in
theorem w_ripe : about1.ripe theMethod args0 below0 = true := by decide +kernel
theorem w_running : about1.status = .running := rfl
set_option maxRecDepth 65536 in
theorem w_room : about1.hasRoom e0.platform room_1 = true :=
  launch0.hasRoom_least _ room_1 (by decide +kernel) (by decide +kernel) (by decide +kernel) (by decide +kernel) (by decide +kernel) (by decide +kernel)
theorem allAtoms_all (ts : List Jvm.Cond) (a : Array Jvm.Value) (st : Jvm.State) : (allAtoms ts).before a st = ts.all (fun c => c.before a st) := by
  induction ts with
  | nil => rfl
  | cons c t ih =>
    show (Jvm.Cond.and c (allAtoms t)).before a st = _
    rw [Jvm.Cond.before_and, ih, List.all_cons]
def words1 : List Jvm.Cond := Jvm.Cond.code x code maxLocals ret :: tables_1
/-- a 'code' word, met by the world's own term for the bytes: nothing is compared byte by byte -/
theorem code_word {y : MethodName} {bytes : ByteArray} {mx : Nat} {rt : Option FieldType} {a : Array Value} {s : State} {m : MethodId} {meth : Method} {c : Code} (h1 : s.methodNamed? y = some m) (h2 : s.vm.method? m = some meth) (h3 : meth.code = some c) (h4 : c.code = bytes)
    (h5 : (c.maxLocals == mx && c.exceptionTable.isEmpty && decide (c.maxStack ≤ mostOperands) && decide (meth.sig.returnType = rt) && !meth.locks && decide (parseMethodDescriptor y.desc = some meth.sig)) = true) : (Jvm.Cond.code y bytes mx rt).before a s = true := by
  simp only [Bool.and_eq_true, beq_iff_eq, Bool.not_eq_true', decide_eq_true_eq] at h5
  obtain ⟨⟨⟨⟨⟨g1, g2⟩, g3⟩, g4⟩, g5⟩, g6⟩ := h5
  simp [Cond.before, Cond.holds, Cond.value, h1, h2, h3, h4, g1, g2, g3, g4, g5, g6]
def isCode : Jvm.Cond → Bool
  | .code _ _ _ _ => true
  | _ => false
theorem all_split {L : List Jvm.Cond} {P : Jvm.Cond → Bool} (h1 : L.all (fun c => isCode c || P c) = true) (h2 : ∀ c ∈ L.filter isCode, P c = true) : L.all P = true := by
  refine List.all_eq_true.mpr fun c hc => ?_
  have h := List.all_eq_true.mp h1 c hc
  rcases Bool.eq_false_or_eq_true (isCode c) with hi | hi
  · exact h2 c (List.mem_filter.mpr ⟨hc, hi⟩)
  · simpa [hi] using h
set_option maxRecDepth 65536 in
theorem w_c0 : (Jvm.Cond.code x code maxLocals ret).before args0 about1 = true := code_word (m := ⟨1, 1⟩) (meth := k1m1) (c := k1c1) (by decide +kernel) rfl rfl rfl (by decide +kernel)
set_option maxRecDepth 65536 in
theorem w_c1 : (Jvm.Cond.code ({ cls := "com/example/orbweave/orbweave/store/KeyOrderPrefixEndPinLaw", name := "draw", desc := "(I)B" } : Jvm.MethodName) method_3_code (1 : Nat) (Option.some Jvm.ClassFile.FieldType.byte)).before args0 about1 = true := code_word (m := ⟨1, 2⟩) (meth := k1m2) (c := k1c2) (by decide +kernel) rfl rfl rfl (by decide +kernel)
set_option maxRecDepth 65536 in
theorem w_c2 : (Jvm.Cond.code ({ cls := "com/example/orbweave/orbweave/store/KeyOrder", name := "prefixEnd", desc := "([B)[B" } : Jvm.MethodName) prog_38_method_1_code (3 : Nat) (Option.some (Jvm.ClassFile.FieldType.array Jvm.ClassFile.FieldType.byte))).before args0 about1 = true := code_word (m := ⟨2, 0⟩) (meth := k2m0) (c := k2c0) (by decide +kernel) rfl rfl rfl (by decide +kernel)
set_option maxRecDepth 65536 in
theorem w_c3 : (Jvm.Cond.code ({ cls := "java/util/Arrays", name := "copyOf", desc := "([BI)[B" } : Jvm.MethodName) jdk_65_method_121_code (3 : Nat) (Option.some (Jvm.ClassFile.FieldType.array Jvm.ClassFile.FieldType.byte))).before args0 about1 = true := code_word (m := ⟨3, 1⟩) (meth := k3m1) (c := k3c1) (by decide +kernel) rfl rfl rfl (by decide +kernel)
set_option maxRecDepth 65536 in
theorem w_c4 : (Jvm.Cond.code ({ cls := "java/lang/Math", name := "min", desc := "(II)I" } : Jvm.MethodName) jdk_29_method_69_code (2 : Nat) (Option.some Jvm.ClassFile.FieldType.int)).before args0 about1 = true := code_word (m := ⟨5, 1⟩) (meth := k5m1) (c := k5c1) (by decide +kernel) rfl rfl rfl (by decide +kernel)
def codes1 : List Jvm.Cond := [Jvm.Cond.code x code maxLocals ret, Jvm.Cond.code ({ cls := "com/example/orbweave/orbweave/store/KeyOrderPrefixEndPinLaw", name := "draw", desc := "(I)B" } : Jvm.MethodName) method_3_code (1 : Nat) (Option.some Jvm.ClassFile.FieldType.byte), Jvm.Cond.code ({ cls := "com/example/orbweave/orbweave/store/KeyOrder", name := "prefixEnd", desc := "([B)[B" } : Jvm.MethodName) prog_38_method_1_code (3 : Nat) (Option.some (Jvm.ClassFile.FieldType.array Jvm.ClassFile.FieldType.byte)), Jvm.Cond.code ({ cls := "java/util/Arrays", name := "copyOf", desc := "([BI)[B" } : Jvm.MethodName) jdk_65_method_121_code (3 : Nat) (Option.some (Jvm.ClassFile.FieldType.array Jvm.ClassFile.FieldType.byte)), Jvm.Cond.code ({ cls := "java/lang/Math", name := "min", desc := "(II)I" } : Jvm.MethodName) jdk_29_method_69_code (2 : Nat) (Option.some Jvm.ClassFile.FieldType.int)]
set_option maxRecDepth 65536 in
theorem codes_eq : words1.filter isCode = codes1 := rfl
theorem w_codes : ∀ c ∈ words1.filter isCode, c.before args0 about1 = true := by
  rw [codes_eq]
  intro c hc
  simp only [codes1, List.mem_cons, List.not_mem_nil, or_false] at hc
  rcases hc with rfl | rfl | rfl | rfl | rfl
  · exact w_c0
  · exact w_c1
  · exact w_c2
  · exact w_c3
  · exact w_c4
set_option maxRecDepth 65536 in
theorem w_t1 : (words1.take 24).all (fun c => isCode c || c.before args0 about1) = true := by decide +kernel
set_option maxRecDepth 65536 in
theorem w_t2 : (words1.drop 24).all (fun c => isCode c || c.before args0 about1) = true := by decide +kernel
theorem w_tables : (allAtoms (Jvm.Cond.code x code maxLocals ret :: tables_1)).before args0 about1 = true := by
  rw [allAtoms_all]
  show words1.all (fun c => c.before args0 about1) = true
  refine all_split ?_ w_codes
  rw [← List.take_append_drop 24 words1, List.all_append, w_t1, w_t2]
  rfl
set_option maxRecDepth 65536 in
theorem w_case : (Jvm.Cond.and given_1 narrow_1).before args0 about1 = true := by decide +kernel
theorem w_applies : (headSpec (Jvm.Cond.code x code maxLocals ret :: tables_1) room_1).applies x e0.platform about1 = true :=
  (Spec.applies_iff w_frames).mpr ⟨w_running, w_runnable, w_alone, w_named, w_hears, w_ripe, w_room, w_tables⟩
theorem atStart : AtStart classFile x code maxLocals ret World_1 tables_1 room_1 Calls_1 rest_1 Pre_1 launch0 p0 e0 about1 theMethod args0 below0 :=
  ⟨lists_1, trivial, launch0.admits_env _ _ _, launch0.least_env, fairChoices_fair.cas, fairChoices_fair.clock, w_frames, w_args, w_heap, w_applies, trivial, trivial, w_case⟩
end start1
theorem witness_1 : WitnessClaimed_1 := ⟨start1.p0, start1.e0, start1.about1, start1.theMethod, start1.args0, start1.below0, start1.atStart⟩
end Jvm.Pilot.@@N@@
