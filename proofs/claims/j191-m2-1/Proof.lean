import JvmDerived
import JvmDerived.Pilot.@@N@@Statement
import JvmDerived.Pilot.@@N@@Code
set_option linter.unusedVariables false
set_option linter.unusedSimpArgs false
namespace Jvm.Pilot.@@N@@
open Jvm Jvm.ClassFile Sem Op Lib Jvm.Free Jvm.Stand Jvm.LawKit Jvm.RoadKit Bundle Jvm.Pilot.@@N@@.Jvm.D
/-! the goal of a walk, read forwards: from the state S the run comes to an end that P likes -/
def own_G (p : Program) (e : Env) (below : List Frame) (S : State) (P : State → Outcome → Prop) : Prop := ∃ s₂ o, Steps p.tables e below S s₂ ∧ s₂.status = .running ∧ Ended s₂ below o ∧ P s₂ o
theorem own_go {p : Program} {e : Env} {below : List Frame} {A B : State} {P : State → Outcome → Prop} (h : ∀ t, Steps p.tables e below A t → Steps p.tables e below B t) (g : own_G p e below A P) : own_G p e below B P := by
  obtain ⟨s₂, o, h1, h2⟩ := g
  exact ⟨s₂, o, h _ h1, h2⟩
theorem own_ret {p : Program} {l : Launch} {e : Env} {R : Room} {s : State} {m : MethodId} {args : Array Value} {below : List Frame} {meth : Method} {c : Code} {T : State} {locs : List Loc} {cells slots : Nat} (X : Stand p l e R s m args below meth c T locs cells slots) (hlocks : meth.locks = false) {v : Option Value} (hv : meth.sig.returnType = none → v = none) {g : JFrame} (Q : Option Value → Heap → List Loc → Prop) {C S : Nat}
    (st : ∀ fs : List Frame, (∀ (f : JFrame) (acts : List Action), f.method = m → f.locked = none → f.entered = [] → (doReturn e (T.setTop f) acts v).1 = T.setFrames fs) → Steps p.tables e below (T.setTop g) (T.setFrames fs))
    (hc : cells ≤ C) (hs : slots ≤ S) (hQ : Q v T.heap locs) : own_G p e below (T.setTop g) (fun s₂ o => ∃ v L, o = .returned v ∧ Q v s₂.heap L ∧ FrameEnd s o s₂ L C S) := by
  obtain ⟨fs, hr, hrun, hended, hW, hsame⟩ := X.leave (v := v) hv hlocks
  exact ⟨_, _, st fs hr, hrun, hended, _, _, rfl, hQ, ⟨_, rfl⟩, hW, hsame.mono hc hs⟩
theorem own_retI {p : Program} {l : Launch} {e : Env} {R : Room} {s : State} {m : MethodId} {args : Array Value} {below : List Frame} {meth : Method} {c : Code} {T : State} {locs : List Loc} {cells slots : Nat} (X : Stand p l e R s m args below meth c T locs cells slots) (hx : p.tables.exec = Jvm.exec) {pc : Nat} {Ls : Array Slot} {w : Value} {t : FieldType} {i : Instr} {rest : List Value} (hret : meth.sig.returnType = some t) (hn : narrow t w = w)
    (hi : (i = .ireturn ∧ (t = .int ∨ t = .boolean ∨ t = .byte ∨ t = .char ∨ t = .short) ∧ ∃ z, w = .int z) ∨ (i = .lreturn ∧ t = .long ∧ ∃ z, w = .long z) ∨ (i = .dreturn ∧ t = .double ∧ ∃ z, w = .double z) ∨ (i = .freturn ∧ t = .float ∧ ∃ z, w = .float z) ∨ (i = .areturn ∧ t.isReference = true ∧ w.isRef = true))
    (hd : decode c.code pc = .ok (i, 1)) (fs : List Frame) (hl : ∀ (f : JFrame) (acts : List Action), f.method = m → f.locked = none → f.entered = [] → (doReturn e (T.setTop f) acts (some w)).1 = T.setFrames fs) :
    Steps p.tables e below (T.setTop (mkF m pc Ls (w :: rest))) (T.setFrames fs) := retOut X hx hret hn hi hd hl
theorem own_retV {p : Program} {l : Launch} {e : Env} {R : Room} {s : State} {m : MethodId} {args : Array Value} {below : List Frame} {meth : Method} {c : Code} {T : State} {locs : List Loc} {cells slots : Nat} (X : Stand p l e R s m args below meth c T locs cells slots) (hx : p.tables.exec = Jvm.exec) {pc : Nat} {Ls : Array Slot} (hret : meth.sig.returnType = none)
    (hd : decode c.code pc = .ok (.return_, 1)) (fs : List Frame) (hl : ∀ (f : JFrame) (acts : List Action), f.method = m → f.locked = none → f.entered = [] → (doReturn e (T.setTop f) acts none).1 = T.setFrames fs) :
    Steps p.tables e below (T.setTop (mkF m pc Ls [])) (T.setFrames fs) := X.returnOut hx hret hd hl
theorem own_end (s d : Int64) (hd : ¬ d < (0 : Int64)) : (s + d) < s ↔ ((9223372036854775807 : Int64) - d) < s := by
  simp only [Int64.lt_iff_toInt_lt] at hd ⊢
  have e0 : (0 : Int64).toInt = 0 := rfl
  have e1 : (9223372036854775807 : Int64).toInt = 9223372036854775807 := rfl
  have h1 := c_ladd s d
  have h2 := c_lsub (9223372036854775807 : Int64) d
  have r1 := rng64 s
  have r2 := rng64 d
  have r3 := rng64 (s + d)
  have r4 := rng64 ((9223372036854775807 : Int64) - d)
  omega
theorem d1_0 : decode method_2_code 0 = .ok (.iload 4, 2) := by decide +kernel
theorem d1_2 : decode method_2_code 2 = .ok (.iconst 3, 1) := by decide +kernel
theorem d1_3 : decode method_2_code 3 = .ok (.iand, 1) := by decide +kernel
theorem d1_4 : decode method_2_code 4 = .ok (.istore 5, 2) := by decide +kernel
theorem d1_6 : decode method_2_code 6 = .ok (.iload 4, 2) := by decide +kernel
theorem d1_8 : decode method_2_code 8 = .ok (.iconst 2, 1) := by decide +kernel
theorem d1_9 : decode method_2_code 9 = .ok (.ishr, 1) := by decide +kernel
theorem d1_10 : decode method_2_code 10 = .ok (.iconst 3, 1) := by decide +kernel
theorem d1_11 : decode method_2_code 11 = .ok (.iand, 1) := by decide +kernel
theorem d1_12 : decode method_2_code 12 = .ok (.i2l, 1) := by decide +kernel
theorem d1_13 : decode method_2_code 13 = .ok (.lstore 6, 2) := by decide +kernel
theorem d1_15 : decode method_2_code 15 = .ok (.iload 5, 2) := by decide +kernel
theorem d1_17 : decode method_2_code 17 = .ok (.ifCond .ne 5, 3) := by decide +kernel
theorem d1_20 : decode method_2_code 20 = .ok (.lload_n 2, 1) := by decide +kernel
theorem d1_21 : decode method_2_code 21 = .ok (.lreturn, 1) := by decide +kernel
theorem d1_22 : decode method_2_code 22 = .ok (.iload 5, 2) := by decide +kernel
theorem d1_24 : decode method_2_code 24 = .ok (.iconst 1, 1) := by decide +kernel
theorem d1_25 : decode method_2_code 25 = .ok (.if_icmp .ne 14, 3) := by decide +kernel
theorem d1_28 : decode method_2_code 28 = .ok (.ldc2_w 9, 3) := by decide +kernel
theorem d1_31 : decode method_2_code 31 = .ok (.lload_n 0, 1) := by decide +kernel
theorem d1_32 : decode method_2_code 32 = .ok (.lsub, 1) := by decide +kernel
theorem d1_33 : decode method_2_code 33 = .ok (.lload 6, 2) := by decide +kernel
theorem d1_35 : decode method_2_code 35 = .ok (.ladd, 1) := by decide +kernel
theorem d1_36 : decode method_2_code 36 = .ok (.lconst 1, 1) := by decide +kernel
theorem d1_37 : decode method_2_code 37 = .ok (.lsub, 1) := by decide +kernel
theorem d1_38 : decode method_2_code 38 = .ok (.lreturn, 1) := by decide +kernel
theorem d1_39 : decode method_2_code 39 = .ok (.iload 5, 2) := by decide +kernel
theorem d1_41 : decode method_2_code 41 = .ok (.iconst 2, 1) := by decide +kernel
theorem d1_42 : decode method_2_code 42 = .ok (.if_icmp .ne 13, 3) := by decide +kernel
theorem d1_45 : decode method_2_code 45 = .ok (.ldc2_w 11, 3) := by decide +kernel
theorem d1_48 : decode method_2_code 48 = .ok (.lload_n 2, 1) := by decide +kernel
theorem d1_49 : decode method_2_code 49 = .ok (.ldc2_w 13, 3) := by decide +kernel
theorem d1_52 : decode method_2_code 52 = .ok (.land, 1) := by decide +kernel
theorem d1_53 : decode method_2_code 53 = .ok (.ladd, 1) := by decide +kernel
theorem d1_54 : decode method_2_code 54 = .ok (.lreturn, 1) := by decide +kernel
theorem d1_55 : decode method_2_code 55 = .ok (.ldc2_w 9, 3) := by decide +kernel
theorem d1_58 : decode method_2_code 58 = .ok (.lload_n 2, 1) := by decide +kernel
theorem d1_59 : decode method_2_code 59 = .ok (.ldc2_w 13, 3) := by decide +kernel
theorem d1_62 : decode method_2_code 62 = .ok (.land, 1) := by decide +kernel
theorem d1_63 : decode method_2_code 63 = .ok (.lsub, 1) := by decide +kernel
theorem d1_64 : decode method_2_code 64 = .ok (.lreturn, 1) := by decide +kernel
theorem d2_0 : decode prog_12_method_1_code 0 = .ok (.aload_n 0, 1) := by decide +kernel
theorem d2_1 : decode prog_12_method_1_code 1 = .ok (.invokespecial 5, 3) := by decide +kernel
theorem d2_4 : decode prog_12_method_1_code 4 = .ok (.aload_n 0, 1) := by decide +kernel
theorem d2_5 : decode prog_12_method_1_code 5 = .ok (.iload_n 1, 1) := by decide +kernel
theorem d2_6 : decode prog_12_method_1_code 6 = .ok (.putfield 11, 3) := by decide +kernel
theorem d2_9 : decode prog_12_method_1_code 9 = .ok (.aload_n 0, 1) := by decide +kernel
theorem d2_10 : decode prog_12_method_1_code 10 = .ok (.iload_n 2, 1) := by decide +kernel
theorem d2_11 : decode prog_12_method_1_code 11 = .ok (.putfield 15, 3) := by decide +kernel
theorem d2_14 : decode prog_12_method_1_code 14 = .ok (.aload_n 0, 1) := by decide +kernel
theorem d2_15 : decode prog_12_method_1_code 15 = .ok (.lload_n 3, 1) := by decide +kernel
theorem d2_16 : decode prog_12_method_1_code 16 = .ok (.putfield 18, 3) := by decide +kernel
theorem d2_19 : decode prog_12_method_1_code 19 = .ok (.aload_n 0, 1) := by decide +kernel
theorem d2_20 : decode prog_12_method_1_code 20 = .ok (.lload 5, 2) := by decide +kernel
theorem d2_22 : decode prog_12_method_1_code 22 = .ok (.putfield 22, 3) := by decide +kernel
theorem d2_25 : decode prog_12_method_1_code 25 = .ok (.aload_n 0, 1) := by decide +kernel
theorem d2_26 : decode prog_12_method_1_code 26 = .ok (.lload 7, 2) := by decide +kernel
theorem d2_28 : decode prog_12_method_1_code 28 = .ok (.putfield 25, 3) := by decide +kernel
theorem d2_31 : decode prog_12_method_1_code 31 = .ok (.aload_n 0, 1) := by decide +kernel
theorem d2_32 : decode prog_12_method_1_code 32 = .ok (.lload 9, 2) := by decide +kernel
theorem d2_34 : decode prog_12_method_1_code 34 = .ok (.putfield 28, 3) := by decide +kernel
theorem d2_37 : decode prog_12_method_1_code 37 = .ok (.aload_n 0, 1) := by decide +kernel
theorem d2_38 : decode prog_12_method_1_code 38 = .ok (.lload 11, 2) := by decide +kernel
theorem d2_40 : decode prog_12_method_1_code 40 = .ok (.putfield 31, 3) := by decide +kernel
theorem d2_43 : decode prog_12_method_1_code 43 = .ok (.aload_n 0, 1) := by decide +kernel
theorem d2_44 : decode prog_12_method_1_code 44 = .ok (.lload 13, 2) := by decide +kernel
theorem d2_46 : decode prog_12_method_1_code 46 = .ok (.putfield 34, 3) := by decide +kernel
theorem d2_49 : decode prog_12_method_1_code 49 = .ok (.aload_n 0, 1) := by decide +kernel
theorem d2_50 : decode prog_12_method_1_code 50 = .ok (.lload 15, 2) := by decide +kernel
theorem d2_52 : decode prog_12_method_1_code 52 = .ok (.putfield 37, 3) := by decide +kernel
theorem d2_55 : decode prog_12_method_1_code 55 = .ok (.aload_n 0, 1) := by decide +kernel
theorem d2_56 : decode prog_12_method_1_code 56 = .ok (.iload 17, 2) := by decide +kernel
theorem d2_58 : decode prog_12_method_1_code 58 = .ok (.putfield 40, 3) := by decide +kernel
theorem d2_61 : decode prog_12_method_1_code 61 = .ok (.return_, 1) := by decide +kernel
theorem d3_0 : decode jdk_30_method_1_code 0 = .ok (.aload_n 0, 1) := by decide +kernel
theorem d3_1 : decode jdk_30_method_1_code 1 = .ok (.invokespecial 1, 3) := by decide +kernel
theorem d3_4 : decode jdk_30_method_1_code 4 = .ok (.return_, 1) := by decide +kernel
theorem d5_0 : decode prog_12_method_5_code 0 = .ok (.aload_n 0, 1) := by decide +kernel
theorem d5_1 : decode prog_12_method_5_code 1 = .ok (.getfield 31, 3) := by decide +kernel
theorem d5_4 : decode prog_12_method_5_code 4 = .ok (.lconst 0, 1) := by decide +kernel
theorem d5_5 : decode prog_12_method_5_code 5 = .ok (.lcmp, 1) := by decide +kernel
theorem d5_6 : decode prog_12_method_5_code 6 = .ok (.ifCond .lt 24, 3) := by decide +kernel
theorem d5_9 : decode prog_12_method_5_code 9 = .ok (.aload_n 0, 1) := by decide +kernel
theorem d5_10 : decode prog_12_method_5_code 10 = .ok (.getfield 28, 3) := by decide +kernel
theorem d5_13 : decode prog_12_method_5_code 13 = .ok (.aload_n 0, 1) := by decide +kernel
theorem d5_14 : decode prog_12_method_5_code 14 = .ok (.getfield 31, 3) := by decide +kernel
theorem d5_17 : decode prog_12_method_5_code 17 = .ok (.ladd, 1) := by decide +kernel
theorem d5_18 : decode prog_12_method_5_code 18 = .ok (.aload_n 0, 1) := by decide +kernel
theorem d5_19 : decode prog_12_method_5_code 19 = .ok (.getfield 28, 3) := by decide +kernel
theorem d5_22 : decode prog_12_method_5_code 22 = .ok (.lcmp, 1) := by decide +kernel
theorem d5_23 : decode prog_12_method_5_code 23 = .ok (.ifCond .lt 7, 3) := by decide +kernel
theorem d5_26 : decode prog_12_method_5_code 26 = .ok (.iconst 1, 1) := by decide +kernel
theorem d5_27 : decode prog_12_method_5_code 27 = .ok (.goto 4, 3) := by decide +kernel
theorem d5_30 : decode prog_12_method_5_code 30 = .ok (.iconst 0, 1) := by decide +kernel
theorem d5_31 : decode prog_12_method_5_code 31 = .ok (.ireturn, 1) := by decide +kernel
theorem pn_0 : plainName "emberglass/ChunkHeaderHasEndPinLaw" = true := by first | (simp [plainName, overriddenIn]; done) | decide +kernel
theorem pn_1 : plainName "emberglass/ChunkHeaderHasEndPinLaw" = true := by first | (simp [plainName, overriddenIn]; done) | decide +kernel
theorem pn_2 : plainName "emberglass/ChunkHeader" = true := by first | (simp [plainName, overriddenIn]; done) | decide +kernel
theorem pn_3 : plainName "java/lang/Record" = true := by first | (simp [plainName, overriddenIn]; done) | decide +kernel
theorem pn_5 : plainName "emberglass/ChunkHeader" = true := by first | (simp [plainName, overriddenIn]; done) | decide +kernel
theorem pd_0 : parseMethodDescriptor "()V" = some ⟨[], none⟩ := by decide +kernel
theorem pd_1 : parseMethodDescriptor "(JJI)J" = some ⟨[.long, .long, .int], some .long⟩ := by decide +kernel
theorem pd_2 : parseMethodDescriptor "(IIJJJJJJJI)V" = some ⟨[.int, .int, .long, .long, .long, .long, .long, .long, .long, .int], none⟩ := by decide +kernel
theorem pd_3 : parseMethodDescriptor "()Z" = some ⟨[], some .boolean⟩ := by decide +kernel
theorem ef_1 (m : MethodId) (q1 : Int64) (q2 : Int64) (p3 : Int32) : entryFrame m #[(.long q1), (.long q2), (.int p3)] 8 = mkF m 0 #[.val (.long q1), .second, .val (.long q2), .second, .val (.int p3), .unset, .unset, .unset] [] := by first | (simp [entryFrame, mkF, argsToLocals, Value.category]; done) | rfl
def Q1 (Z : State) (q1 : Int64) (q2 : Int64) (p3 : Int32) (h0 : Heap) (n0 : Nat) (v : Option Value) (h : Heap) (L : List Loc) : Prop := ∃ z : Int64, v = some (.long z) ∧ Fr n0 L ∧ h = h0
set_option maxRecDepth 65536 in
set_option maxHeartbeats 40000000 in
theorem rm1 (l : Launch) (Z : State) (a0 : Array Value) (hw : ∀ d ∈ tables_1, d.before a0 Z = true) (ws : List Jvm.Cond) (q1 : Int64) (q2 : Int64) (p3 : Int32) (h0 : Heap) (n0 : Nat) (Z0 : n0 ≤ h0.size)  :
    MetFree l (⟨"emberglass/ChunkHeaderHasEndPinLaw", "pickDuration", "(JJI)J"⟩ : MethodName) (head1 (Jvm.Cond.code (⟨"emberglass/ChunkHeaderHasEndPinLaw", "pickDuration", "(JJI)J"⟩ : MethodName) method_2_code 8 (some .long) :: ws) ({ frames := 0, cells := 0, slots := 0, locals := 0 } : Room)) (fun a U => a = #[(.long q1), (.long q2), (.int p3)] ∧ Z.Warmed39 U.vm ∧ U.heap = h0) (fun _ _ _ _ _ => True) (fun _ U o U' => ∃ v L, o = .returned v ∧ Q1 Z q1 q2 p3 h0 n0 v U'.heap L ∧ FrameEnd U o U' L ({ frames := 0, cells := 0, slots := 0, locals := 0 } : Room).cells ({ frames := 0, cells := 0, slots := 0, locals := 0 } : Room).slots) := by
  refine MetFree.of_bodySF (plainFor_of_name pn_1) hisR ?_
  intro p e s m args below meth c s₁ Bd hml0 hP hK
  obtain ⟨rfl, hZ, hh⟩ := hP
  have hx := Bd.exec
  have hby := Bd.bytes
  have hml : c.maxLocals = 8 := hml0
  have hown : s.vm.findClass "emberglass/ChunkHeaderHasEndPinLaw" = some m.cls := findClass_of_methodNamed Bd.named
  have hnm := (name_of_methodNamed Bd.named Bd.method).1
  have hlk := Bd.notSynchronized
  have hret := Bd.returns
  have X0 : Stand p l e ({ frames := 0, cells := 0, slots := 0, locals := 0 } : Room) s m #[(.long q1), (.long q2), (.int p3)] below meth c s₁ [] 0 0 := Stand.of_body Bd
  have e0 : s₁.heap = h0 := by rw [← hh, Bd.state]; rfl
  have N0 := Fr.nil n0
  show own_G p e below (s₁.setTop (entryFrame m #[(.long q1), (.long q2), (.int p3)] 8)) (fun s₂ o => ∃ v L, o = .returned v ∧ Q1 Z q1 q2 p3 h0 n0 v s₂.heap L ∧ FrameEnd s o s₂ L ({ frames := 0, cells := 0, slots := 0, locals := 0 } : Room).cells ({ frames := 0, cells := 0, slots := 0, locals := 0 } : Room).slots)
  refine own_go (fun t k => castTop (ef_1 m q1 q2 p3) k) ?_
  show own_G p e below (s₁.setTop (mkF m 0 #[.val (.long q1), .second, .val (.long q2), .second, .val (.int p3), .unset, .unset, .unset] [])) _
  refine own_go (fun _ k => XS.iload X0.here hx rfl (hb hby d1_0) rfl k) ?_
  show own_G p e below (s₁.setTop (mkF m 2 #[.val (.long q1), .second, .val (.long q2), .second, .val (.int p3), .unset, .unset, .unset] [(.int p3)])) _
  refine own_go (fun _ k => XS.iconst X0.here hx rfl (hb hby d1_2) k) ?_
  show own_G p e below (s₁.setTop (mkF m 3 #[.val (.long q1), .second, .val (.long q2), .second, .val (.int p3), .unset, .unset, .unset] [(.int (3 : Int32)), (.int p3)])) _
  refine own_go (fun _ k => XS.iand X0.here hx rfl (hb hby d1_3) rfl k) ?_
  show own_G p e below (s₁.setTop (mkF m 4 #[.val (.long q1), .second, .val (.long q2), .second, .val (.int p3), .unset, .unset, .unset] [(.int (p3 &&& (3 : Int32)))])) _
  refine own_go (fun _ k => XS.istore X0.here hx rfl (hb hby d1_4) rfl (l' := #[.val (.long q1), .second, .val (.long q2), .second, .val (.int p3), .val (.int (p3 &&& (3 : Int32))), .unset, .unset]) rfl k) ?_
  show own_G p e below (s₁.setTop (mkF m 6 #[.val (.long q1), .second, .val (.long q2), .second, .val (.int p3), .val (.int (p3 &&& (3 : Int32))), .unset, .unset] [])) _
  refine own_go (fun _ k => XS.iload X0.here hx rfl (hb hby d1_6) rfl k) ?_
  show own_G p e below (s₁.setTop (mkF m 8 #[.val (.long q1), .second, .val (.long q2), .second, .val (.int p3), .val (.int (p3 &&& (3 : Int32))), .unset, .unset] [(.int p3)])) _
  refine own_go (fun _ k => XS.iconst X0.here hx rfl (hb hby d1_8) k) ?_
  show own_G p e below (s₁.setTop (mkF m 9 #[.val (.long q1), .second, .val (.long q2), .second, .val (.int p3), .val (.int (p3 &&& (3 : Int32))), .unset, .unset] [(.int (2 : Int32)), (.int p3)])) _
  refine own_go (fun _ k => XS.ishr X0.here hx rfl (hb hby d1_9) rfl k) ?_
  show own_G p e below (s₁.setTop (mkF m 10 #[.val (.long q1), .second, .val (.long q2), .second, .val (.int p3), .val (.int (p3 &&& (3 : Int32))), .unset, .unset] [(.int (p3 >>> ((2 : Int32) &&& 31)))])) _
  refine own_go (fun _ k => XS.iconst X0.here hx rfl (hb hby d1_10) k) ?_
  show own_G p e below (s₁.setTop (mkF m 11 #[.val (.long q1), .second, .val (.long q2), .second, .val (.int p3), .val (.int (p3 &&& (3 : Int32))), .unset, .unset] [(.int (3 : Int32)), (.int (p3 >>> ((2 : Int32) &&& 31)))])) _
  refine own_go (fun _ k => XS.iand X0.here hx rfl (hb hby d1_11) rfl k) ?_
  show own_G p e below (s₁.setTop (mkF m 12 #[.val (.long q1), .second, .val (.long q2), .second, .val (.int p3), .val (.int (p3 &&& (3 : Int32))), .unset, .unset] [(.int ((p3 >>> ((2 : Int32) &&& 31)) &&& (3 : Int32)))])) _
  refine own_go (fun _ k => XS.i2l X0.here hx rfl (hb hby d1_12) rfl k) ?_
  show own_G p e below (s₁.setTop (mkF m 13 #[.val (.long q1), .second, .val (.long q2), .second, .val (.int p3), .val (.int (p3 &&& (3 : Int32))), .unset, .unset] [(.long (((p3 >>> ((2 : Int32) &&& 31)) &&& (3 : Int32)).toInt64))])) _
  refine own_go (fun _ k => XS.lstore X0.here hx rfl (hb hby d1_13) rfl (l' := #[.val (.long q1), .second, .val (.long q2), .second, .val (.int p3), .val (.int (p3 &&& (3 : Int32))), .val (.long (((p3 >>> ((2 : Int32) &&& 31)) &&& (3 : Int32)).toInt64)), .second]) rfl k) ?_
  show own_G p e below (s₁.setTop (mkF m 15 #[.val (.long q1), .second, .val (.long q2), .second, .val (.int p3), .val (.int (p3 &&& (3 : Int32))), .val (.long (((p3 >>> ((2 : Int32) &&& 31)) &&& (3 : Int32)).toInt64)), .second] [])) _
  refine own_go (fun _ k => XS.iload X0.here hx rfl (hb hby d1_15) rfl k) ?_
  show own_G p e below (s₁.setTop (mkF m 17 #[.val (.long q1), .second, .val (.long q2), .second, .val (.int p3), .val (.int (p3 &&& (3 : Int32))), .val (.long (((p3 >>> ((2 : Int32) &&& 31)) &&& (3 : Int32)).toInt64)), .second] [(.int (p3 &&& (3 : Int32)))])) _
  by_cases hc17_1 : (p3 &&& (3 : Int32)) = (0 : Int32)
  · refine own_go (fun _ k => XS.ifNo X0.here hx rfl (hb hby d1_17) rfl ((if0 _ _).trans (teq hc17_1).2) k) ?_
    show own_G p e below (s₁.setTop (mkF m 20 #[.val (.long q1), .second, .val (.long q2), .second, .val (.int p3), .val (.int (p3 &&& (3 : Int32))), .val (.long (((p3 >>> ((2 : Int32) &&& 31)) &&& (3 : Int32)).toInt64)), .second] [])) _
    refine own_go (fun _ k => XS.lloadN X0.here hx rfl (hb hby d1_20) rfl k) ?_
    show own_G p e below (s₁.setTop (mkF m 21 #[.val (.long q1), .second, .val (.long q2), .second, .val (.int p3), .val (.int (p3 &&& (3 : Int32))), .val (.long (((p3 >>> ((2 : Int32) &&& 31)) &&& (3 : Int32)).toInt64)), .second] [(.long q2)])) _
    refine own_ret X0 hlk (v := some (.long q2)) (fun h => by rw [hret] at h; cases h) (Q1 Z q1 q2 p3 h0 n0) (own_retI X0 hx (t := .long) hret rfl (Or.inr (Or.inl ⟨rfl, rfl, _, rfl⟩)) (hb hby d1_21)) (by decide) (by decide) ?_
    show Q1 Z q1 q2 p3 h0 n0 _ s₁.heap _
    rw [e0]
    exact ⟨_, rfl, N0, rfl⟩
  · refine own_go (fun _ k => XS.ifYes X0.here hx rfl (pc0 := 17) (pc' := 22) rfl (hb hby d1_17) rfl ((if0 _ _).trans (feq hc17_1).2) (by decide) (by decide) k) ?_
    show own_G p e below (s₁.setTop (mkF m 22 #[.val (.long q1), .second, .val (.long q2), .second, .val (.int p3), .val (.int (p3 &&& (3 : Int32))), .val (.long (((p3 >>> ((2 : Int32) &&& 31)) &&& (3 : Int32)).toInt64)), .second] [])) _
    refine own_go (fun _ k => XS.iload X0.here hx rfl (hb hby d1_22) rfl k) ?_
    show own_G p e below (s₁.setTop (mkF m 24 #[.val (.long q1), .second, .val (.long q2), .second, .val (.int p3), .val (.int (p3 &&& (3 : Int32))), .val (.long (((p3 >>> ((2 : Int32) &&& 31)) &&& (3 : Int32)).toInt64)), .second] [(.int (p3 &&& (3 : Int32)))])) _
    refine own_go (fun _ k => XS.iconst X0.here hx rfl (hb hby d1_24) k) ?_
    show own_G p e below (s₁.setTop (mkF m 25 #[.val (.long q1), .second, .val (.long q2), .second, .val (.int p3), .val (.int (p3 &&& (3 : Int32))), .val (.long (((p3 >>> ((2 : Int32) &&& 31)) &&& (3 : Int32)).toInt64)), .second] [(.int (1 : Int32)), (.int (p3 &&& (3 : Int32)))])) _
    by_cases hc25_2 : (p3 &&& (3 : Int32)) = (1 : Int32)
    · refine own_go (fun _ k => XS.icmpNo X0.here hx rfl (hb hby d1_25) rfl (teq hc25_2).2 k) ?_
      show own_G p e below (s₁.setTop (mkF m 28 #[.val (.long q1), .second, .val (.long q2), .second, .val (.int p3), .val (.int (p3 &&& (3 : Int32))), .val (.long (((p3 >>> ((2 : Int32) &&& 31)) &&& (3 : Int32)).toInt64)), .second] [])) _
      refine own_go (X0.ldc2Long hx hown (mvT hZ (hw _ (List.mem_of_getElem? (i := 40) rfl))) (g := (mkF m 28 #[.val (.long q1), .second, .val (.long q2), .second, .val (.int p3), .val (.int (p3 &&& (3 : Int32))), .val (.long (((p3 >>> ((2 : Int32) &&& 31)) &&& (3 : Int32)).toInt64)), .second] [])) rfl (hb hby d1_28)) ?_
      show own_G p e below (s₁.setTop (mkF m 31 #[.val (.long q1), .second, .val (.long q2), .second, .val (.int p3), .val (.int (p3 &&& (3 : Int32))), .val (.long (((p3 >>> ((2 : Int32) &&& 31)) &&& (3 : Int32)).toInt64)), .second] [(.long (9223372036854775807 : Int64))])) _
      refine own_go (fun _ k => XS.lloadN X0.here hx rfl (hb hby d1_31) rfl k) ?_
      show own_G p e below (s₁.setTop (mkF m 32 #[.val (.long q1), .second, .val (.long q2), .second, .val (.int p3), .val (.int (p3 &&& (3 : Int32))), .val (.long (((p3 >>> ((2 : Int32) &&& 31)) &&& (3 : Int32)).toInt64)), .second] [(.long q1), (.long (9223372036854775807 : Int64))])) _
      refine own_go (fun _ k => XS.lsub X0.here hx rfl (hb hby d1_32) rfl k) ?_
      show own_G p e below (s₁.setTop (mkF m 33 #[.val (.long q1), .second, .val (.long q2), .second, .val (.int p3), .val (.int (p3 &&& (3 : Int32))), .val (.long (((p3 >>> ((2 : Int32) &&& 31)) &&& (3 : Int32)).toInt64)), .second] [(.long ((9223372036854775807 : Int64) - q1))])) _
      refine own_go (fun _ k => XS.lload X0.here hx rfl (hb hby d1_33) rfl k) ?_
      show own_G p e below (s₁.setTop (mkF m 35 #[.val (.long q1), .second, .val (.long q2), .second, .val (.int p3), .val (.int (p3 &&& (3 : Int32))), .val (.long (((p3 >>> ((2 : Int32) &&& 31)) &&& (3 : Int32)).toInt64)), .second] [(.long (((p3 >>> ((2 : Int32) &&& 31)) &&& (3 : Int32)).toInt64)), (.long ((9223372036854775807 : Int64) - q1))])) _
      refine own_go (fun _ k => XS.ladd X0.here hx rfl (hb hby d1_35) rfl k) ?_
      show own_G p e below (s₁.setTop (mkF m 36 #[.val (.long q1), .second, .val (.long q2), .second, .val (.int p3), .val (.int (p3 &&& (3 : Int32))), .val (.long (((p3 >>> ((2 : Int32) &&& 31)) &&& (3 : Int32)).toInt64)), .second] [(.long (((9223372036854775807 : Int64) - q1) + (((p3 >>> ((2 : Int32) &&& 31)) &&& (3 : Int32)).toInt64)))])) _
      refine own_go (fun _ k => XS.lconst X0.here hx rfl (hb hby d1_36) k) ?_
      show own_G p e below (s₁.setTop (mkF m 37 #[.val (.long q1), .second, .val (.long q2), .second, .val (.int p3), .val (.int (p3 &&& (3 : Int32))), .val (.long (((p3 >>> ((2 : Int32) &&& 31)) &&& (3 : Int32)).toInt64)), .second] [(.long (1 : Int64)), (.long (((9223372036854775807 : Int64) - q1) + (((p3 >>> ((2 : Int32) &&& 31)) &&& (3 : Int32)).toInt64)))])) _
      refine own_go (fun _ k => XS.lsub X0.here hx rfl (hb hby d1_37) rfl k) ?_
      show own_G p e below (s₁.setTop (mkF m 38 #[.val (.long q1), .second, .val (.long q2), .second, .val (.int p3), .val (.int (p3 &&& (3 : Int32))), .val (.long (((p3 >>> ((2 : Int32) &&& 31)) &&& (3 : Int32)).toInt64)), .second] [(.long ((((9223372036854775807 : Int64) - q1) + (((p3 >>> ((2 : Int32) &&& 31)) &&& (3 : Int32)).toInt64)) - (1 : Int64)))])) _
      refine own_ret X0 hlk (v := some (.long ((((9223372036854775807 : Int64) - q1) + (((p3 >>> ((2 : Int32) &&& 31)) &&& (3 : Int32)).toInt64)) - (1 : Int64)))) (fun h => by rw [hret] at h; cases h) (Q1 Z q1 q2 p3 h0 n0) (own_retI X0 hx (t := .long) hret rfl (Or.inr (Or.inl ⟨rfl, rfl, _, rfl⟩)) (hb hby d1_38)) (by decide) (by decide) ?_
      show Q1 Z q1 q2 p3 h0 n0 _ s₁.heap _
      rw [e0]
      exact ⟨_, rfl, N0, rfl⟩
    · refine own_go (fun _ k => XS.icmpYes X0.here hx rfl (pc0 := 25) (pc' := 39) rfl (hb hby d1_25) rfl (feq hc25_2).2 (by decide) (by decide) k) ?_
      show own_G p e below (s₁.setTop (mkF m 39 #[.val (.long q1), .second, .val (.long q2), .second, .val (.int p3), .val (.int (p3 &&& (3 : Int32))), .val (.long (((p3 >>> ((2 : Int32) &&& 31)) &&& (3 : Int32)).toInt64)), .second] [])) _
      refine own_go (fun _ k => XS.iload X0.here hx rfl (hb hby d1_39) rfl k) ?_
      show own_G p e below (s₁.setTop (mkF m 41 #[.val (.long q1), .second, .val (.long q2), .second, .val (.int p3), .val (.int (p3 &&& (3 : Int32))), .val (.long (((p3 >>> ((2 : Int32) &&& 31)) &&& (3 : Int32)).toInt64)), .second] [(.int (p3 &&& (3 : Int32)))])) _
      refine own_go (fun _ k => XS.iconst X0.here hx rfl (hb hby d1_41) k) ?_
      show own_G p e below (s₁.setTop (mkF m 42 #[.val (.long q1), .second, .val (.long q2), .second, .val (.int p3), .val (.int (p3 &&& (3 : Int32))), .val (.long (((p3 >>> ((2 : Int32) &&& 31)) &&& (3 : Int32)).toInt64)), .second] [(.int (2 : Int32)), (.int (p3 &&& (3 : Int32)))])) _
      by_cases hc42_3 : (p3 &&& (3 : Int32)) = (2 : Int32)
      · refine own_go (fun _ k => XS.icmpNo X0.here hx rfl (hb hby d1_42) rfl (teq hc42_3).2 k) ?_
        show own_G p e below (s₁.setTop (mkF m 45 #[.val (.long q1), .second, .val (.long q2), .second, .val (.int p3), .val (.int (p3 &&& (3 : Int32))), .val (.long (((p3 >>> ((2 : Int32) &&& 31)) &&& (3 : Int32)).toInt64)), .second] [])) _
        refine own_go (X0.ldc2Long hx hown (mvT hZ (hw _ (List.mem_of_getElem? (i := 47) rfl))) (g := (mkF m 45 #[.val (.long q1), .second, .val (.long q2), .second, .val (.int p3), .val (.int (p3 &&& (3 : Int32))), .val (.long (((p3 >>> ((2 : Int32) &&& 31)) &&& (3 : Int32)).toInt64)), .second] [])) rfl (hb hby d1_45)) ?_
        show own_G p e below (s₁.setTop (mkF m 48 #[.val (.long q1), .second, .val (.long q2), .second, .val (.int p3), .val (.int (p3 &&& (3 : Int32))), .val (.long (((p3 >>> ((2 : Int32) &&& 31)) &&& (3 : Int32)).toInt64)), .second] [(.long (-9223372036854775808 : Int64))])) _
        refine own_go (fun _ k => XS.lloadN X0.here hx rfl (hb hby d1_48) rfl k) ?_
        show own_G p e below (s₁.setTop (mkF m 49 #[.val (.long q1), .second, .val (.long q2), .second, .val (.int p3), .val (.int (p3 &&& (3 : Int32))), .val (.long (((p3 >>> ((2 : Int32) &&& 31)) &&& (3 : Int32)).toInt64)), .second] [(.long q2), (.long (-9223372036854775808 : Int64))])) _
        refine own_go (X0.ldc2Long hx hown (mvT hZ (hw _ (List.mem_of_getElem? (i := 46) rfl))) (g := (mkF m 49 #[.val (.long q1), .second, .val (.long q2), .second, .val (.int p3), .val (.int (p3 &&& (3 : Int32))), .val (.long (((p3 >>> ((2 : Int32) &&& 31)) &&& (3 : Int32)).toInt64)), .second] [(.long q2), (.long (-9223372036854775808 : Int64))])) rfl (hb hby d1_49)) ?_
        show own_G p e below (s₁.setTop (mkF m 52 #[.val (.long q1), .second, .val (.long q2), .second, .val (.int p3), .val (.int (p3 &&& (3 : Int32))), .val (.long (((p3 >>> ((2 : Int32) &&& 31)) &&& (3 : Int32)).toInt64)), .second] [(.long (3 : Int64)), (.long q2), (.long (-9223372036854775808 : Int64))])) _
        refine own_go (fun _ k => XS.land X0.here hx rfl (hb hby d1_52) rfl k) ?_
        show own_G p e below (s₁.setTop (mkF m 53 #[.val (.long q1), .second, .val (.long q2), .second, .val (.int p3), .val (.int (p3 &&& (3 : Int32))), .val (.long (((p3 >>> ((2 : Int32) &&& 31)) &&& (3 : Int32)).toInt64)), .second] [(.long (q2 &&& (3 : Int64))), (.long (-9223372036854775808 : Int64))])) _
        refine own_go (fun _ k => XS.ladd X0.here hx rfl (hb hby d1_53) rfl k) ?_
        show own_G p e below (s₁.setTop (mkF m 54 #[.val (.long q1), .second, .val (.long q2), .second, .val (.int p3), .val (.int (p3 &&& (3 : Int32))), .val (.long (((p3 >>> ((2 : Int32) &&& 31)) &&& (3 : Int32)).toInt64)), .second] [(.long ((-9223372036854775808 : Int64) + (q2 &&& (3 : Int64))))])) _
        refine own_ret X0 hlk (v := some (.long ((-9223372036854775808 : Int64) + (q2 &&& (3 : Int64))))) (fun h => by rw [hret] at h; cases h) (Q1 Z q1 q2 p3 h0 n0) (own_retI X0 hx (t := .long) hret rfl (Or.inr (Or.inl ⟨rfl, rfl, _, rfl⟩)) (hb hby d1_54)) (by decide) (by decide) ?_
        show Q1 Z q1 q2 p3 h0 n0 _ s₁.heap _
        rw [e0]
        exact ⟨_, rfl, N0, rfl⟩
      · refine own_go (fun _ k => XS.icmpYes X0.here hx rfl (pc0 := 42) (pc' := 55) rfl (hb hby d1_42) rfl (feq hc42_3).2 (by decide) (by decide) k) ?_
        show own_G p e below (s₁.setTop (mkF m 55 #[.val (.long q1), .second, .val (.long q2), .second, .val (.int p3), .val (.int (p3 &&& (3 : Int32))), .val (.long (((p3 >>> ((2 : Int32) &&& 31)) &&& (3 : Int32)).toInt64)), .second] [])) _
        refine own_go (X0.ldc2Long hx hown (mvT hZ (hw _ (List.mem_of_getElem? (i := 40) rfl))) (g := (mkF m 55 #[.val (.long q1), .second, .val (.long q2), .second, .val (.int p3), .val (.int (p3 &&& (3 : Int32))), .val (.long (((p3 >>> ((2 : Int32) &&& 31)) &&& (3 : Int32)).toInt64)), .second] [])) rfl (hb hby d1_55)) ?_
        show own_G p e below (s₁.setTop (mkF m 58 #[.val (.long q1), .second, .val (.long q2), .second, .val (.int p3), .val (.int (p3 &&& (3 : Int32))), .val (.long (((p3 >>> ((2 : Int32) &&& 31)) &&& (3 : Int32)).toInt64)), .second] [(.long (9223372036854775807 : Int64))])) _
        refine own_go (fun _ k => XS.lloadN X0.here hx rfl (hb hby d1_58) rfl k) ?_
        show own_G p e below (s₁.setTop (mkF m 59 #[.val (.long q1), .second, .val (.long q2), .second, .val (.int p3), .val (.int (p3 &&& (3 : Int32))), .val (.long (((p3 >>> ((2 : Int32) &&& 31)) &&& (3 : Int32)).toInt64)), .second] [(.long q2), (.long (9223372036854775807 : Int64))])) _
        refine own_go (X0.ldc2Long hx hown (mvT hZ (hw _ (List.mem_of_getElem? (i := 46) rfl))) (g := (mkF m 59 #[.val (.long q1), .second, .val (.long q2), .second, .val (.int p3), .val (.int (p3 &&& (3 : Int32))), .val (.long (((p3 >>> ((2 : Int32) &&& 31)) &&& (3 : Int32)).toInt64)), .second] [(.long q2), (.long (9223372036854775807 : Int64))])) rfl (hb hby d1_59)) ?_
        show own_G p e below (s₁.setTop (mkF m 62 #[.val (.long q1), .second, .val (.long q2), .second, .val (.int p3), .val (.int (p3 &&& (3 : Int32))), .val (.long (((p3 >>> ((2 : Int32) &&& 31)) &&& (3 : Int32)).toInt64)), .second] [(.long (3 : Int64)), (.long q2), (.long (9223372036854775807 : Int64))])) _
        refine own_go (fun _ k => XS.land X0.here hx rfl (hb hby d1_62) rfl k) ?_
        show own_G p e below (s₁.setTop (mkF m 63 #[.val (.long q1), .second, .val (.long q2), .second, .val (.int p3), .val (.int (p3 &&& (3 : Int32))), .val (.long (((p3 >>> ((2 : Int32) &&& 31)) &&& (3 : Int32)).toInt64)), .second] [(.long (q2 &&& (3 : Int64))), (.long (9223372036854775807 : Int64))])) _
        refine own_go (fun _ k => XS.lsub X0.here hx rfl (hb hby d1_63) rfl k) ?_
        show own_G p e below (s₁.setTop (mkF m 64 #[.val (.long q1), .second, .val (.long q2), .second, .val (.int p3), .val (.int (p3 &&& (3 : Int32))), .val (.long (((p3 >>> ((2 : Int32) &&& 31)) &&& (3 : Int32)).toInt64)), .second] [(.long ((9223372036854775807 : Int64) - (q2 &&& (3 : Int64))))])) _
        refine own_ret X0 hlk (v := some (.long ((9223372036854775807 : Int64) - (q2 &&& (3 : Int64))))) (fun h => by rw [hret] at h; cases h) (Q1 Z q1 q2 p3 h0 n0) (own_retI X0 hx (t := .long) hret rfl (Or.inr (Or.inl ⟨rfl, rfl, _, rfl⟩)) (hb hby d1_64)) (by decide) (by decide) ?_
        show Q1 Z q1 q2 p3 h0 n0 _ s₁.heap _
        rw [e0]
        exact ⟨_, rfl, N0, rfl⟩
theorem ef_3 (m : MethodId) (a1 : Addr) : entryFrame m #[(.ref a1)] 1 = mkF m 0 #[.val (.ref a1)] [] := by first | (simp [entryFrame, mkF, argsToLocals, Value.category]; done) | rfl
def Q3 (Z : State) (a1 : Addr) (h0 : Heap) (n0 : Nat) (v : Option Value) (h : Heap) (L : List Loc) : Prop := v = none ∧ Fr n0 L ∧ h = h0
set_option maxRecDepth 65536 in
set_option maxHeartbeats 40000000 in
theorem rm3 (l : Launch) (Z : State) (a0 : Array Value) (hw : ∀ d ∈ tables_1, d.before a0 Z = true) (ws : List Jvm.Cond) (a1 : Addr) (h0 : Heap) (n0 : Nat) (Z0 : n0 ≤ h0.size)  :
    MetFree l (⟨"java/lang/Record", "<init>", "()V"⟩ : MethodName) (head1 (Jvm.Cond.code (⟨"java/lang/Record", "<init>", "()V"⟩ : MethodName) jdk_30_method_1_code 1 none :: ws) ({ frames := 1, cells := 0, slots := 0, locals := 12 } : Room)) (fun a U => a = #[(.ref a1)] ∧ Z.Warmed39 U.vm ∧ U.heap = h0) (fun _ _ _ _ _ => True) (fun _ U o U' => ∃ v L, o = .returned v ∧ Q3 Z a1 h0 n0 v U'.heap L ∧ FrameEnd U o U' L ({ frames := 1, cells := 0, slots := 0, locals := 12 } : Room).cells ({ frames := 1, cells := 0, slots := 0, locals := 12 } : Room).slots) := by
  refine MetFree.of_bodySF (plainFor_of_name pn_3) hisR ?_
  intro p e s m args below meth c s₁ Bd hml0 hP hK
  obtain ⟨rfl, hZ, hh⟩ := hP
  have hx := Bd.exec
  have hby := Bd.bytes
  have hml : c.maxLocals = 1 := hml0
  have hown : s.vm.findClass "java/lang/Record" = some m.cls := findClass_of_methodNamed Bd.named
  have hnm := (name_of_methodNamed Bd.named Bd.method).1
  have hlk := Bd.notSynchronized
  have hret := Bd.returns
  have X0 : Stand p l e ({ frames := 1, cells := 0, slots := 0, locals := 12 } : Room) s m #[(.ref a1)] below meth c s₁ [] 0 0 := Stand.of_body Bd
  have e0 : s₁.heap = h0 := by rw [← hh, Bd.state]; rfl
  have N0 := Fr.nil n0
  show own_G p e below (s₁.setTop (entryFrame m #[(.ref a1)] 1)) (fun s₂ o => ∃ v L, o = .returned v ∧ Q3 Z a1 h0 n0 v s₂.heap L ∧ FrameEnd s o s₂ L ({ frames := 1, cells := 0, slots := 0, locals := 12 } : Room).cells ({ frames := 1, cells := 0, slots := 0, locals := 12 } : Room).slots)
  refine own_go (fun t k => castTop (ef_3 m a1) k) ?_
  show own_G p e below (s₁.setTop (mkF m 0 #[.val (.ref a1)] [])) _
  refine own_go (fun _ k => XS.aloadN X0.here hx rfl (hb hby d3_0) rfl rfl k) ?_
  show own_G p e below (s₁.setTop (mkF m 1 #[.val (.ref a1)] [(.ref a1)])) _
  obtain ⟨T4, X4, e4, st4⟩ := initO X0 hx hZ hown (hw _ (List.mem_of_getElem? (i := 17) rfl)) (hw _ (List.mem_of_getElem? (i := 18) rfl)) (hw _ (List.mem_of_getElem? (i := 19) rfl)) e0 (g := (mkF m 1 #[.val (.ref a1)] [(.ref a1)])) rfl (by rw [hml]; rfl) rfl (hb hby d3_1) (by decide) (W := 0) (by show 2 * 0 + _ ≤ _; exact Nat.le_of_eq rfl) (by decide)
  refine own_go st4 ?_
  show own_G p e below (T4.setTop (mkF m 4 #[.val (.ref a1)] [])) _
  refine own_ret X4 hlk (v := none) (fun _ => rfl) (Q3 Z a1 h0 n0) (own_retV X4 hx hret (hb hby d3_4)) (by decide) (by decide) ?_
  show Q3 Z a1 h0 n0 _ T4.heap _
  rw [e4]
  exact ⟨rfl, N0, rfl⟩
theorem ef_2 (m : MethodId) (a1 : Addr) (p2 : Int32) (p3 : Int32) (q4 : Int64) (q5 : Int64) (q6 : Int64) (q7 : Int64) (q8 : Int64) (q9 : Int64) (q10 : Int64) (p11 : Int32) : entryFrame m #[(.ref a1), (.int p2), (.int p3), (.long q4), (.long q5), (.long q6), (.long q7), (.long q8), (.long q9), (.long q10), (.int p11)] 18 = mkF m 0 #[.val (.ref a1), .val (.int p2), .val (.int p3), .val (.long q4), .second, .val (.long q5), .second, .val (.long q6), .second, .val (.long q7), .second, .val (.long q8), .second, .val (.long q9), .second, .val (.long q10), .second, .val (.int p11)] [] := by first | (simp [entryFrame, mkF, argsToLocals, Value.category]; done) | rfl
def Q2 (Z : State) (a1 : Addr) (p2 : Int32) (p3 : Int32) (q4 : Int64) (q5 : Int64) (q6 : Int64) (q7 : Int64) (q8 : Int64) (q9 : Int64) (q10 : Int64) (p11 : Int32) (h0 : Heap) (n0 : Nat) (v : Option Value) (h : Heap) (L : List Loc) : Prop := v = none ∧ Fr n0 L ∧ Keep h0 h [a1] ∧ Exa Z h a1 "emberglass/ChunkHeader" ∧ Fld Z h a1 "emberglass/ChunkHeader" "startNanos" "J" (.long q7) ∧ Fld Z h a1 "emberglass/ChunkHeader" "durationNanos" "J" (.long q8)
set_option maxRecDepth 65536 in
set_option maxHeartbeats 40000000 in
theorem rm2 (l : Launch) (Z : State) (a0 : Array Value) (hw : ∀ d ∈ tables_1, d.before a0 Z = true) (ws : List Jvm.Cond) (a1 : Addr) (p2 : Int32) (p3 : Int32) (q4 : Int64) (q5 : Int64) (q6 : Int64) (q7 : Int64) (q8 : Int64) (q9 : Int64) (q10 : Int64) (p11 : Int32) (h0 : Heap) (n0 : Nat) (Z0 : n0 ≤ h0.size) (E_a1 : Exa Z h0 a1 "emberglass/ChunkHeader") (F_majorVersion_a1 : Fld Z h0 a1 "emberglass/ChunkHeader" "majorVersion" "I" (.int (0 : Int32))) (F_minorVersion_a1 : Fld Z h0 a1 "emberglass/ChunkHeader" "minorVersion" "I" (.int (0 : Int32))) (F_size_a1 : Fld Z h0 a1 "emberglass/ChunkHeader" "size" "J" (.long (0 : Int64))) (F_constantPoolOffset_a1 : Fld Z h0 a1 "emberglass/ChunkHeader" "constantPoolOffset" "J" (.long (0 : Int64))) (F_metadataOffset_a1 : Fld Z h0 a1 "emberglass/ChunkHeader" "metadataOffset" "J" (.long (0 : Int64))) (F_startNanos_a1 : Fld Z h0 a1 "emberglass/ChunkHeader" "startNanos" "J" (.long (0 : Int64))) (F_durationNanos_a1 : Fld Z h0 a1 "emberglass/ChunkHeader" "durationNanos" "J" (.long (0 : Int64))) (F_startTicks_a1 : Fld Z h0 a1 "emberglass/ChunkHeader" "startTicks" "J" (.long (0 : Int64))) (F_ticksPerSecond_a1 : Fld Z h0 a1 "emberglass/ChunkHeader" "ticksPerSecond" "J" (.long (0 : Int64))) (F_flags_a1 : Fld Z h0 a1 "emberglass/ChunkHeader" "flags" "I" (.int (0 : Int32))) (g_a1 : n0 ≤ a1) :
    MetFree l (⟨"emberglass/ChunkHeader", "<init>", "(IIJJJJJJJI)V"⟩ : MethodName) (head1 (Jvm.Cond.code (⟨"emberglass/ChunkHeader", "<init>", "(IIJJJJJJJI)V"⟩ : MethodName) prog_12_method_1_code 18 none :: ws) ({ frames := 2, cells := 0, slots := 0, locals := 24 } : Room)) (fun a U => a = #[(.ref a1), (.int p2), (.int p3), (.long q4), (.long q5), (.long q6), (.long q7), (.long q8), (.long q9), (.long q10), (.int p11)] ∧ Z.Warmed39 U.vm ∧ U.heap = h0) (fun _ _ _ _ _ => True) (fun _ U o U' => ∃ v L, o = .returned v ∧ Q2 Z a1 p2 p3 q4 q5 q6 q7 q8 q9 q10 p11 h0 n0 v U'.heap L ∧ FrameEnd U o U' L ({ frames := 2, cells := 0, slots := 0, locals := 24 } : Room).cells ({ frames := 2, cells := 0, slots := 0, locals := 24 } : Room).slots) := by
  refine MetFree.of_bodySF (plainFor_of_name pn_2) hisR ?_
  intro p e s m args below meth c s₁ Bd hml0 hP hK
  obtain ⟨rfl, hZ, hh⟩ := hP
  have hx := Bd.exec
  have hby := Bd.bytes
  have hml : c.maxLocals = 18 := hml0
  have hown : s.vm.findClass "emberglass/ChunkHeader" = some m.cls := findClass_of_methodNamed Bd.named
  have hnm := (name_of_methodNamed Bd.named Bd.method).1
  have hlk := Bd.notSynchronized
  have hret := Bd.returns
  have X0 : Stand p l e ({ frames := 2, cells := 0, slots := 0, locals := 24 } : Room) s m #[(.ref a1), (.int p2), (.int p3), (.long q4), (.long q5), (.long q6), (.long q7), (.long q8), (.long q9), (.long q10), (.int p11)] below meth c s₁ [] 0 0 := Stand.of_body Bd
  have e0 : s₁.heap = h0 := by rw [← hh, Bd.state]; rfl
  have N0 := Fr.nil n0
  show own_G p e below (s₁.setTop (entryFrame m #[(.ref a1), (.int p2), (.int p3), (.long q4), (.long q5), (.long q6), (.long q7), (.long q8), (.long q9), (.long q10), (.int p11)] 18)) (fun s₂ o => ∃ v L, o = .returned v ∧ Q2 Z a1 p2 p3 q4 q5 q6 q7 q8 q9 q10 p11 h0 n0 v s₂.heap L ∧ FrameEnd s o s₂ L ({ frames := 2, cells := 0, slots := 0, locals := 24 } : Room).cells ({ frames := 2, cells := 0, slots := 0, locals := 24 } : Room).slots)
  refine own_go (fun t k => castTop (ef_2 m a1 p2 p3 q4 q5 q6 q7 q8 q9 q10 p11) k) ?_
  show own_G p e below (s₁.setTop (mkF m 0 #[.val (.ref a1), .val (.int p2), .val (.int p3), .val (.long q4), .second, .val (.long q5), .second, .val (.long q6), .second, .val (.long q7), .second, .val (.long q8), .second, .val (.long q9), .second, .val (.long q10), .second, .val (.int p11)] [])) _
  refine own_go (fun _ k => XS.aloadN X0.here hx rfl (hb hby d2_0) rfl rfl k) ?_
  show own_G p e below (s₁.setTop (mkF m 1 #[.val (.ref a1), .val (.int p2), .val (.int p3), .val (.long q4), .second, .val (.long q5), .second, .val (.long q6), .second, .val (.long q7), .second, .val (.long q8), .second, .val (.long q9), .second, .val (.long q10), .second, .val (.int p11)] [(.ref a1)])) _
  obtain ⟨_, _, ⟨T5, L5, k5, n5⟩, -, X5, ⟨Lc5, hQ5, l5, y5, z5⟩, st5⟩ := X0.specialBack hx (y := (⟨"java/lang/Record", "<init>", "()V"⟩ : MethodName)) rfl hown (mvT hZ (hw _ (List.mem_of_getElem? (i := 12) rfl))) (mvT hZ (hw _ (List.mem_of_getElem? (i := 13) rfl))) (mvT hZ (hw _ (List.mem_of_getElem? (i := 16) rfl))) (by decide) (backOf (W := 0) (rm3 l Z a0 hw [] a1 h0 n0 Z0 ) hZ (hw _ (List.mem_of_getElem? (i := 16) rfl)) (hw _ (List.mem_of_getElem? (i := 15) rfl)) (by decide) (by decide)) (g := (mkF m 1 #[.val (.ref a1), .val (.int p2), .val (.int p3), .val (.long q4), .second, .val (.long q5), .second, .val (.long q6), .second, .val (.long q7), .second, .val (.long q8), .second, .val (.long q9), .second, .val (.long q10), .second, .val (.int p11)] [(.ref a1)])) rfl (by rw [hml]; rfl) (Steps.refl _) (a := a1) (argsL := []) (rest := []) (lenOf pd_0 rfl) rfl (by show 2 * 0 + _ ≤ _; exact Nat.le_of_eq rfl) (hb hby d2_1) (fun _ _ => ⟨rfl, e0, (by decide : 0 + 0 ≤ _), (by decide : 0 + 0 ≤ _)⟩)
  dsimp only [Pt.U, Pt.locs, Pt.cells, Pt.slots] at X5 l5 y5 z5 st5 hQ5
  subst l5 y5 z5
  obtain ⟨rfl, Nq5, hh5⟩ := hQ5
  have N5 := Fr.app N0 Nq5
  refine own_go (fun _ k => st5.trans k) ?_
  have e5 : T5.heap = h0 := hh5
  show own_G p e below (T5.setTop (mkF m 4 #[.val (.ref a1), .val (.int p2), .val (.int p3), .val (.long q4), .second, .val (.long q5), .second, .val (.long q6), .second, .val (.long q7), .second, .val (.long q8), .second, .val (.long q9), .second, .val (.long q10), .second, .val (.int p11)] [])) _
  refine own_go (fun _ k => XS.aloadN X5.here hx rfl (hb hby d2_4) rfl rfl k) ?_
  show own_G p e below (T5.setTop (mkF m 5 #[.val (.ref a1), .val (.int p2), .val (.int p3), .val (.long q4), .second, .val (.long q5), .second, .val (.long q6), .second, .val (.long q7), .second, .val (.long q8), .second, .val (.long q9), .second, .val (.long q10), .second, .val (.int p11)] [(.ref a1)])) _
  refine own_go (fun _ k => XS.iloadN X5.here hx rfl (hb hby d2_5) rfl k) ?_
  show own_G p e below (T5.setTop (mkF m 6 #[.val (.ref a1), .val (.int p2), .val (.int p3), .val (.long q4), .second, .val (.long q5), .second, .val (.long q6), .second, .val (.long q7), .second, .val (.long q8), .second, .val (.long q9), .second, .val (.long q10), .second, .val (.int p11)] [(.int p2), (.ref a1)])) _
  obtain ⟨T6, h6, X6, e6, W6, st6⟩ := putF X5 hx hZ hown (host := "") (Or.inl (hw _ (List.mem_of_getElem? (i := 20) rfl))) Via.refl e5 F_majorVersion_a1 E_a1 (Or.inr ⟨(hw _ (List.mem_of_getElem? (i := 21) rfl)), rfl, hnm⟩) (hw _ (List.mem_of_getElem? (i := 5) rfl)) (ty := .int) (by decide) rfl rfl (g := (mkF m 6 #[.val (.ref a1), .val (.int p2), .val (.int p3), .val (.long q4), .second, .val (.long q5), .second, .val (.long q6), .second, .val (.long q7), .second, .val (.long q8), .second, .val (.long q9), .second, .val (.long q10), .second, .val (.int p11)] [(.int p2), (.ref a1)])) rfl rfl (hb hby d2_6)
  refine own_go st6 ?_
  have fw6 := F_majorVersion_a1.same W6
  have f7 := E_a1.wr W6
  have f8 := F_minorVersion_a1.other W6 (Or.inr (slot_ne (Or.inr (hw _ (List.mem_of_getElem? (i := 23) rfl))) (Or.inr (hw _ (List.mem_of_getElem? (i := 21) rfl))) (by decide) (t := .int) (t' := .int) (by decide) (by decide)))
  have f9 := F_size_a1.other W6 (Or.inr (slot_ne (Or.inr (hw _ (List.mem_of_getElem? (i := 25) rfl))) (Or.inr (hw _ (List.mem_of_getElem? (i := 21) rfl))) (by decide) (t := .long) (t' := .int) (by decide) (by decide)))
  have f10 := F_constantPoolOffset_a1.other W6 (Or.inr (slot_ne (Or.inr (hw _ (List.mem_of_getElem? (i := 27) rfl))) (Or.inr (hw _ (List.mem_of_getElem? (i := 21) rfl))) (by decide) (t := .long) (t' := .int) (by decide) (by decide)))
  have f11 := F_metadataOffset_a1.other W6 (Or.inr (slot_ne (Or.inr (hw _ (List.mem_of_getElem? (i := 29) rfl))) (Or.inr (hw _ (List.mem_of_getElem? (i := 21) rfl))) (by decide) (t := .long) (t' := .int) (by decide) (by decide)))
  have f12 := F_startNanos_a1.other W6 (Or.inr (slot_ne (Or.inr (hw _ (List.mem_of_getElem? (i := 31) rfl))) (Or.inr (hw _ (List.mem_of_getElem? (i := 21) rfl))) (by decide) (t := .long) (t' := .int) (by decide) (by decide)))
  have f13 := F_durationNanos_a1.other W6 (Or.inr (slot_ne (Or.inr (hw _ (List.mem_of_getElem? (i := 33) rfl))) (Or.inr (hw _ (List.mem_of_getElem? (i := 21) rfl))) (by decide) (t := .long) (t' := .int) (by decide) (by decide)))
  have f14 := F_startTicks_a1.other W6 (Or.inr (slot_ne (Or.inr (hw _ (List.mem_of_getElem? (i := 35) rfl))) (Or.inr (hw _ (List.mem_of_getElem? (i := 21) rfl))) (by decide) (t := .long) (t' := .int) (by decide) (by decide)))
  have f15 := F_ticksPerSecond_a1.other W6 (Or.inr (slot_ne (Or.inr (hw _ (List.mem_of_getElem? (i := 37) rfl))) (Or.inr (hw _ (List.mem_of_getElem? (i := 21) rfl))) (by decide) (t := .long) (t' := .int) (by decide) (by decide)))
  have f16 := F_flags_a1.other W6 (Or.inr (slot_ne (Or.inr (hw _ (List.mem_of_getElem? (i := 39) rfl))) (Or.inr (hw _ (List.mem_of_getElem? (i := 21) rfl))) (by decide) (t := .int) (t' := .int) (by decide) (by decide)))
  have zs17 : n0 ≤ h6.size := Nat.le_trans Z0 (Keep.of_wr W6).1
  have kp18 : Keep h0 h6 [a1] := (Keep.refl h0 [a1]).wr W6 (Or.inl (List.mem_of_getElem? (i := 0) rfl))
  have N6 := Fr.snoc X6 N5 g_a1
  show own_G p e below (T6.setTop (mkF m 9 #[.val (.ref a1), .val (.int p2), .val (.int p3), .val (.long q4), .second, .val (.long q5), .second, .val (.long q6), .second, .val (.long q7), .second, .val (.long q8), .second, .val (.long q9), .second, .val (.long q10), .second, .val (.int p11)] [])) _
  refine own_go (fun _ k => XS.aloadN X6.here hx rfl (hb hby d2_9) rfl rfl k) ?_
  show own_G p e below (T6.setTop (mkF m 10 #[.val (.ref a1), .val (.int p2), .val (.int p3), .val (.long q4), .second, .val (.long q5), .second, .val (.long q6), .second, .val (.long q7), .second, .val (.long q8), .second, .val (.long q9), .second, .val (.long q10), .second, .val (.int p11)] [(.ref a1)])) _
  refine own_go (fun _ k => XS.iloadN X6.here hx rfl (hb hby d2_10) rfl k) ?_
  show own_G p e below (T6.setTop (mkF m 11 #[.val (.ref a1), .val (.int p2), .val (.int p3), .val (.long q4), .second, .val (.long q5), .second, .val (.long q6), .second, .val (.long q7), .second, .val (.long q8), .second, .val (.long q9), .second, .val (.long q10), .second, .val (.int p11)] [(.int p3), (.ref a1)])) _
  obtain ⟨T19, h19, X19, e19, W19, st19⟩ := putF X6 hx hZ hown (host := "") (Or.inl (hw _ (List.mem_of_getElem? (i := 22) rfl))) Via.refl e6 f8 f7 (Or.inr ⟨(hw _ (List.mem_of_getElem? (i := 23) rfl)), rfl, hnm⟩) (hw _ (List.mem_of_getElem? (i := 5) rfl)) (ty := .int) (by decide) rfl rfl (g := (mkF m 11 #[.val (.ref a1), .val (.int p2), .val (.int p3), .val (.long q4), .second, .val (.long q5), .second, .val (.long q6), .second, .val (.long q7), .second, .val (.long q8), .second, .val (.long q9), .second, .val (.long q10), .second, .val (.int p11)] [(.int p3), (.ref a1)])) rfl rfl (hb hby d2_11)
  refine own_go st19 ?_
  have fw19 := f8.same W19
  have f20 := f7.wr W19
  have f21 := f9.other W19 (Or.inr (slot_ne (Or.inr (hw _ (List.mem_of_getElem? (i := 25) rfl))) (Or.inr (hw _ (List.mem_of_getElem? (i := 23) rfl))) (by decide) (t := .long) (t' := .int) (by decide) (by decide)))
  have f22 := f10.other W19 (Or.inr (slot_ne (Or.inr (hw _ (List.mem_of_getElem? (i := 27) rfl))) (Or.inr (hw _ (List.mem_of_getElem? (i := 23) rfl))) (by decide) (t := .long) (t' := .int) (by decide) (by decide)))
  have f23 := f11.other W19 (Or.inr (slot_ne (Or.inr (hw _ (List.mem_of_getElem? (i := 29) rfl))) (Or.inr (hw _ (List.mem_of_getElem? (i := 23) rfl))) (by decide) (t := .long) (t' := .int) (by decide) (by decide)))
  have f24 := f12.other W19 (Or.inr (slot_ne (Or.inr (hw _ (List.mem_of_getElem? (i := 31) rfl))) (Or.inr (hw _ (List.mem_of_getElem? (i := 23) rfl))) (by decide) (t := .long) (t' := .int) (by decide) (by decide)))
  have f25 := f13.other W19 (Or.inr (slot_ne (Or.inr (hw _ (List.mem_of_getElem? (i := 33) rfl))) (Or.inr (hw _ (List.mem_of_getElem? (i := 23) rfl))) (by decide) (t := .long) (t' := .int) (by decide) (by decide)))
  have f26 := f14.other W19 (Or.inr (slot_ne (Or.inr (hw _ (List.mem_of_getElem? (i := 35) rfl))) (Or.inr (hw _ (List.mem_of_getElem? (i := 23) rfl))) (by decide) (t := .long) (t' := .int) (by decide) (by decide)))
  have f27 := f15.other W19 (Or.inr (slot_ne (Or.inr (hw _ (List.mem_of_getElem? (i := 37) rfl))) (Or.inr (hw _ (List.mem_of_getElem? (i := 23) rfl))) (by decide) (t := .long) (t' := .int) (by decide) (by decide)))
  have f28 := f16.other W19 (Or.inr (slot_ne (Or.inr (hw _ (List.mem_of_getElem? (i := 39) rfl))) (Or.inr (hw _ (List.mem_of_getElem? (i := 23) rfl))) (by decide) (t := .int) (t' := .int) (by decide) (by decide)))
  have f29 := fw6.other W19 (Or.inr (slot_ne (Or.inr (hw _ (List.mem_of_getElem? (i := 21) rfl))) (Or.inr (hw _ (List.mem_of_getElem? (i := 23) rfl))) (by decide) (t := .int) (t' := .int) (by decide) (by decide)))
  have zs30 : n0 ≤ h19.size := Nat.le_trans zs17 (Keep.of_wr W19).1
  have kp31 : Keep h0 h19 [a1] := kp18.wr W19 (Or.inl (List.mem_of_getElem? (i := 0) rfl))
  have N19 := Fr.snoc X19 N6 g_a1
  show own_G p e below (T19.setTop (mkF m 14 #[.val (.ref a1), .val (.int p2), .val (.int p3), .val (.long q4), .second, .val (.long q5), .second, .val (.long q6), .second, .val (.long q7), .second, .val (.long q8), .second, .val (.long q9), .second, .val (.long q10), .second, .val (.int p11)] [])) _
  refine own_go (fun _ k => XS.aloadN X19.here hx rfl (hb hby d2_14) rfl rfl k) ?_
  show own_G p e below (T19.setTop (mkF m 15 #[.val (.ref a1), .val (.int p2), .val (.int p3), .val (.long q4), .second, .val (.long q5), .second, .val (.long q6), .second, .val (.long q7), .second, .val (.long q8), .second, .val (.long q9), .second, .val (.long q10), .second, .val (.int p11)] [(.ref a1)])) _
  refine own_go (fun _ k => XS.lloadN X19.here hx rfl (hb hby d2_15) rfl k) ?_
  show own_G p e below (T19.setTop (mkF m 16 #[.val (.ref a1), .val (.int p2), .val (.int p3), .val (.long q4), .second, .val (.long q5), .second, .val (.long q6), .second, .val (.long q7), .second, .val (.long q8), .second, .val (.long q9), .second, .val (.long q10), .second, .val (.int p11)] [(.long q4), (.ref a1)])) _
  obtain ⟨T32, h32, X32, e32, W32, st32⟩ := putF X19 hx hZ hown (host := "") (Or.inl (hw _ (List.mem_of_getElem? (i := 24) rfl))) Via.refl e19 f21 f20 (Or.inr ⟨(hw _ (List.mem_of_getElem? (i := 25) rfl)), rfl, hnm⟩) (hw _ (List.mem_of_getElem? (i := 5) rfl)) (ty := .long) (by decide) rfl rfl (g := (mkF m 16 #[.val (.ref a1), .val (.int p2), .val (.int p3), .val (.long q4), .second, .val (.long q5), .second, .val (.long q6), .second, .val (.long q7), .second, .val (.long q8), .second, .val (.long q9), .second, .val (.long q10), .second, .val (.int p11)] [(.long q4), (.ref a1)])) rfl rfl (hb hby d2_16)
  refine own_go st32 ?_
  have fw32 := f21.same W32
  have f33 := f20.wr W32
  have f34 := f22.other W32 (Or.inr (slot_ne (Or.inr (hw _ (List.mem_of_getElem? (i := 27) rfl))) (Or.inr (hw _ (List.mem_of_getElem? (i := 25) rfl))) (by decide) (t := .long) (t' := .long) (by decide) (by decide)))
  have f35 := f23.other W32 (Or.inr (slot_ne (Or.inr (hw _ (List.mem_of_getElem? (i := 29) rfl))) (Or.inr (hw _ (List.mem_of_getElem? (i := 25) rfl))) (by decide) (t := .long) (t' := .long) (by decide) (by decide)))
  have f36 := f24.other W32 (Or.inr (slot_ne (Or.inr (hw _ (List.mem_of_getElem? (i := 31) rfl))) (Or.inr (hw _ (List.mem_of_getElem? (i := 25) rfl))) (by decide) (t := .long) (t' := .long) (by decide) (by decide)))
  have f37 := f25.other W32 (Or.inr (slot_ne (Or.inr (hw _ (List.mem_of_getElem? (i := 33) rfl))) (Or.inr (hw _ (List.mem_of_getElem? (i := 25) rfl))) (by decide) (t := .long) (t' := .long) (by decide) (by decide)))
  have f38 := f26.other W32 (Or.inr (slot_ne (Or.inr (hw _ (List.mem_of_getElem? (i := 35) rfl))) (Or.inr (hw _ (List.mem_of_getElem? (i := 25) rfl))) (by decide) (t := .long) (t' := .long) (by decide) (by decide)))
  have f39 := f27.other W32 (Or.inr (slot_ne (Or.inr (hw _ (List.mem_of_getElem? (i := 37) rfl))) (Or.inr (hw _ (List.mem_of_getElem? (i := 25) rfl))) (by decide) (t := .long) (t' := .long) (by decide) (by decide)))
  have f40 := f28.other W32 (Or.inr (slot_ne (Or.inr (hw _ (List.mem_of_getElem? (i := 39) rfl))) (Or.inr (hw _ (List.mem_of_getElem? (i := 25) rfl))) (by decide) (t := .int) (t' := .long) (by decide) (by decide)))
  have f41 := f29.other W32 (Or.inr (slot_ne (Or.inr (hw _ (List.mem_of_getElem? (i := 21) rfl))) (Or.inr (hw _ (List.mem_of_getElem? (i := 25) rfl))) (by decide) (t := .int) (t' := .long) (by decide) (by decide)))
  have f42 := fw19.other W32 (Or.inr (slot_ne (Or.inr (hw _ (List.mem_of_getElem? (i := 23) rfl))) (Or.inr (hw _ (List.mem_of_getElem? (i := 25) rfl))) (by decide) (t := .int) (t' := .long) (by decide) (by decide)))
  have zs43 : n0 ≤ h32.size := Nat.le_trans zs30 (Keep.of_wr W32).1
  have kp44 : Keep h0 h32 [a1] := kp31.wr W32 (Or.inl (List.mem_of_getElem? (i := 0) rfl))
  have N32 := Fr.snoc X32 N19 g_a1
  show own_G p e below (T32.setTop (mkF m 19 #[.val (.ref a1), .val (.int p2), .val (.int p3), .val (.long q4), .second, .val (.long q5), .second, .val (.long q6), .second, .val (.long q7), .second, .val (.long q8), .second, .val (.long q9), .second, .val (.long q10), .second, .val (.int p11)] [])) _
  refine own_go (fun _ k => XS.aloadN X32.here hx rfl (hb hby d2_19) rfl rfl k) ?_
  show own_G p e below (T32.setTop (mkF m 20 #[.val (.ref a1), .val (.int p2), .val (.int p3), .val (.long q4), .second, .val (.long q5), .second, .val (.long q6), .second, .val (.long q7), .second, .val (.long q8), .second, .val (.long q9), .second, .val (.long q10), .second, .val (.int p11)] [(.ref a1)])) _
  refine own_go (fun _ k => XS.lload X32.here hx rfl (hb hby d2_20) rfl k) ?_
  show own_G p e below (T32.setTop (mkF m 22 #[.val (.ref a1), .val (.int p2), .val (.int p3), .val (.long q4), .second, .val (.long q5), .second, .val (.long q6), .second, .val (.long q7), .second, .val (.long q8), .second, .val (.long q9), .second, .val (.long q10), .second, .val (.int p11)] [(.long q5), (.ref a1)])) _
  obtain ⟨T45, h45, X45, e45, W45, st45⟩ := putF X32 hx hZ hown (host := "") (Or.inl (hw _ (List.mem_of_getElem? (i := 26) rfl))) Via.refl e32 f34 f33 (Or.inr ⟨(hw _ (List.mem_of_getElem? (i := 27) rfl)), rfl, hnm⟩) (hw _ (List.mem_of_getElem? (i := 5) rfl)) (ty := .long) (by decide) rfl rfl (g := (mkF m 22 #[.val (.ref a1), .val (.int p2), .val (.int p3), .val (.long q4), .second, .val (.long q5), .second, .val (.long q6), .second, .val (.long q7), .second, .val (.long q8), .second, .val (.long q9), .second, .val (.long q10), .second, .val (.int p11)] [(.long q5), (.ref a1)])) rfl rfl (hb hby d2_22)
  refine own_go st45 ?_
  have fw45 := f34.same W45
  have f46 := f33.wr W45
  have f47 := f35.other W45 (Or.inr (slot_ne (Or.inr (hw _ (List.mem_of_getElem? (i := 29) rfl))) (Or.inr (hw _ (List.mem_of_getElem? (i := 27) rfl))) (by decide) (t := .long) (t' := .long) (by decide) (by decide)))
  have f48 := f36.other W45 (Or.inr (slot_ne (Or.inr (hw _ (List.mem_of_getElem? (i := 31) rfl))) (Or.inr (hw _ (List.mem_of_getElem? (i := 27) rfl))) (by decide) (t := .long) (t' := .long) (by decide) (by decide)))
  have f49 := f37.other W45 (Or.inr (slot_ne (Or.inr (hw _ (List.mem_of_getElem? (i := 33) rfl))) (Or.inr (hw _ (List.mem_of_getElem? (i := 27) rfl))) (by decide) (t := .long) (t' := .long) (by decide) (by decide)))
  have f50 := f38.other W45 (Or.inr (slot_ne (Or.inr (hw _ (List.mem_of_getElem? (i := 35) rfl))) (Or.inr (hw _ (List.mem_of_getElem? (i := 27) rfl))) (by decide) (t := .long) (t' := .long) (by decide) (by decide)))
  have f51 := f39.other W45 (Or.inr (slot_ne (Or.inr (hw _ (List.mem_of_getElem? (i := 37) rfl))) (Or.inr (hw _ (List.mem_of_getElem? (i := 27) rfl))) (by decide) (t := .long) (t' := .long) (by decide) (by decide)))
  have f52 := f40.other W45 (Or.inr (slot_ne (Or.inr (hw _ (List.mem_of_getElem? (i := 39) rfl))) (Or.inr (hw _ (List.mem_of_getElem? (i := 27) rfl))) (by decide) (t := .int) (t' := .long) (by decide) (by decide)))
  have f53 := f41.other W45 (Or.inr (slot_ne (Or.inr (hw _ (List.mem_of_getElem? (i := 21) rfl))) (Or.inr (hw _ (List.mem_of_getElem? (i := 27) rfl))) (by decide) (t := .int) (t' := .long) (by decide) (by decide)))
  have f54 := f42.other W45 (Or.inr (slot_ne (Or.inr (hw _ (List.mem_of_getElem? (i := 23) rfl))) (Or.inr (hw _ (List.mem_of_getElem? (i := 27) rfl))) (by decide) (t := .int) (t' := .long) (by decide) (by decide)))
  have f55 := fw32.other W45 (Or.inr (slot_ne (Or.inr (hw _ (List.mem_of_getElem? (i := 25) rfl))) (Or.inr (hw _ (List.mem_of_getElem? (i := 27) rfl))) (by decide) (t := .long) (t' := .long) (by decide) (by decide)))
  have zs56 : n0 ≤ h45.size := Nat.le_trans zs43 (Keep.of_wr W45).1
  have kp57 : Keep h0 h45 [a1] := kp44.wr W45 (Or.inl (List.mem_of_getElem? (i := 0) rfl))
  have N45 := Fr.snoc X45 N32 g_a1
  show own_G p e below (T45.setTop (mkF m 25 #[.val (.ref a1), .val (.int p2), .val (.int p3), .val (.long q4), .second, .val (.long q5), .second, .val (.long q6), .second, .val (.long q7), .second, .val (.long q8), .second, .val (.long q9), .second, .val (.long q10), .second, .val (.int p11)] [])) _
  refine own_go (fun _ k => XS.aloadN X45.here hx rfl (hb hby d2_25) rfl rfl k) ?_
  show own_G p e below (T45.setTop (mkF m 26 #[.val (.ref a1), .val (.int p2), .val (.int p3), .val (.long q4), .second, .val (.long q5), .second, .val (.long q6), .second, .val (.long q7), .second, .val (.long q8), .second, .val (.long q9), .second, .val (.long q10), .second, .val (.int p11)] [(.ref a1)])) _
  refine own_go (fun _ k => XS.lload X45.here hx rfl (hb hby d2_26) rfl k) ?_
  show own_G p e below (T45.setTop (mkF m 28 #[.val (.ref a1), .val (.int p2), .val (.int p3), .val (.long q4), .second, .val (.long q5), .second, .val (.long q6), .second, .val (.long q7), .second, .val (.long q8), .second, .val (.long q9), .second, .val (.long q10), .second, .val (.int p11)] [(.long q6), (.ref a1)])) _
  obtain ⟨T58, h58, X58, e58, W58, st58⟩ := putF X45 hx hZ hown (host := "") (Or.inl (hw _ (List.mem_of_getElem? (i := 28) rfl))) Via.refl e45 f47 f46 (Or.inr ⟨(hw _ (List.mem_of_getElem? (i := 29) rfl)), rfl, hnm⟩) (hw _ (List.mem_of_getElem? (i := 5) rfl)) (ty := .long) (by decide) rfl rfl (g := (mkF m 28 #[.val (.ref a1), .val (.int p2), .val (.int p3), .val (.long q4), .second, .val (.long q5), .second, .val (.long q6), .second, .val (.long q7), .second, .val (.long q8), .second, .val (.long q9), .second, .val (.long q10), .second, .val (.int p11)] [(.long q6), (.ref a1)])) rfl rfl (hb hby d2_28)
  refine own_go st58 ?_
  have fw58 := f47.same W58
  have f59 := f46.wr W58
  have f60 := f48.other W58 (Or.inr (slot_ne (Or.inr (hw _ (List.mem_of_getElem? (i := 31) rfl))) (Or.inr (hw _ (List.mem_of_getElem? (i := 29) rfl))) (by decide) (t := .long) (t' := .long) (by decide) (by decide)))
  have f61 := f49.other W58 (Or.inr (slot_ne (Or.inr (hw _ (List.mem_of_getElem? (i := 33) rfl))) (Or.inr (hw _ (List.mem_of_getElem? (i := 29) rfl))) (by decide) (t := .long) (t' := .long) (by decide) (by decide)))
  have f62 := f50.other W58 (Or.inr (slot_ne (Or.inr (hw _ (List.mem_of_getElem? (i := 35) rfl))) (Or.inr (hw _ (List.mem_of_getElem? (i := 29) rfl))) (by decide) (t := .long) (t' := .long) (by decide) (by decide)))
  have f63 := f51.other W58 (Or.inr (slot_ne (Or.inr (hw _ (List.mem_of_getElem? (i := 37) rfl))) (Or.inr (hw _ (List.mem_of_getElem? (i := 29) rfl))) (by decide) (t := .long) (t' := .long) (by decide) (by decide)))
  have f64 := f52.other W58 (Or.inr (slot_ne (Or.inr (hw _ (List.mem_of_getElem? (i := 39) rfl))) (Or.inr (hw _ (List.mem_of_getElem? (i := 29) rfl))) (by decide) (t := .int) (t' := .long) (by decide) (by decide)))
  have f65 := f53.other W58 (Or.inr (slot_ne (Or.inr (hw _ (List.mem_of_getElem? (i := 21) rfl))) (Or.inr (hw _ (List.mem_of_getElem? (i := 29) rfl))) (by decide) (t := .int) (t' := .long) (by decide) (by decide)))
  have f66 := f54.other W58 (Or.inr (slot_ne (Or.inr (hw _ (List.mem_of_getElem? (i := 23) rfl))) (Or.inr (hw _ (List.mem_of_getElem? (i := 29) rfl))) (by decide) (t := .int) (t' := .long) (by decide) (by decide)))
  have f67 := f55.other W58 (Or.inr (slot_ne (Or.inr (hw _ (List.mem_of_getElem? (i := 25) rfl))) (Or.inr (hw _ (List.mem_of_getElem? (i := 29) rfl))) (by decide) (t := .long) (t' := .long) (by decide) (by decide)))
  have f68 := fw45.other W58 (Or.inr (slot_ne (Or.inr (hw _ (List.mem_of_getElem? (i := 27) rfl))) (Or.inr (hw _ (List.mem_of_getElem? (i := 29) rfl))) (by decide) (t := .long) (t' := .long) (by decide) (by decide)))
  have zs69 : n0 ≤ h58.size := Nat.le_trans zs56 (Keep.of_wr W58).1
  have kp70 : Keep h0 h58 [a1] := kp57.wr W58 (Or.inl (List.mem_of_getElem? (i := 0) rfl))
  have N58 := Fr.snoc X58 N45 g_a1
  show own_G p e below (T58.setTop (mkF m 31 #[.val (.ref a1), .val (.int p2), .val (.int p3), .val (.long q4), .second, .val (.long q5), .second, .val (.long q6), .second, .val (.long q7), .second, .val (.long q8), .second, .val (.long q9), .second, .val (.long q10), .second, .val (.int p11)] [])) _
  refine own_go (fun _ k => XS.aloadN X58.here hx rfl (hb hby d2_31) rfl rfl k) ?_
  show own_G p e below (T58.setTop (mkF m 32 #[.val (.ref a1), .val (.int p2), .val (.int p3), .val (.long q4), .second, .val (.long q5), .second, .val (.long q6), .second, .val (.long q7), .second, .val (.long q8), .second, .val (.long q9), .second, .val (.long q10), .second, .val (.int p11)] [(.ref a1)])) _
  refine own_go (fun _ k => XS.lload X58.here hx rfl (hb hby d2_32) rfl k) ?_
  show own_G p e below (T58.setTop (mkF m 34 #[.val (.ref a1), .val (.int p2), .val (.int p3), .val (.long q4), .second, .val (.long q5), .second, .val (.long q6), .second, .val (.long q7), .second, .val (.long q8), .second, .val (.long q9), .second, .val (.long q10), .second, .val (.int p11)] [(.long q7), (.ref a1)])) _
  obtain ⟨T71, h71, X71, e71, W71, st71⟩ := putF X58 hx hZ hown (host := "") (Or.inl (hw _ (List.mem_of_getElem? (i := 30) rfl))) Via.refl e58 f60 f59 (Or.inr ⟨(hw _ (List.mem_of_getElem? (i := 31) rfl)), rfl, hnm⟩) (hw _ (List.mem_of_getElem? (i := 5) rfl)) (ty := .long) (by decide) rfl rfl (g := (mkF m 34 #[.val (.ref a1), .val (.int p2), .val (.int p3), .val (.long q4), .second, .val (.long q5), .second, .val (.long q6), .second, .val (.long q7), .second, .val (.long q8), .second, .val (.long q9), .second, .val (.long q10), .second, .val (.int p11)] [(.long q7), (.ref a1)])) rfl rfl (hb hby d2_34)
  refine own_go st71 ?_
  have fw71 := f60.same W71
  have f72 := f59.wr W71
  have f73 := f61.other W71 (Or.inr (slot_ne (Or.inr (hw _ (List.mem_of_getElem? (i := 33) rfl))) (Or.inr (hw _ (List.mem_of_getElem? (i := 31) rfl))) (by decide) (t := .long) (t' := .long) (by decide) (by decide)))
  have f74 := f62.other W71 (Or.inr (slot_ne (Or.inr (hw _ (List.mem_of_getElem? (i := 35) rfl))) (Or.inr (hw _ (List.mem_of_getElem? (i := 31) rfl))) (by decide) (t := .long) (t' := .long) (by decide) (by decide)))
  have f75 := f63.other W71 (Or.inr (slot_ne (Or.inr (hw _ (List.mem_of_getElem? (i := 37) rfl))) (Or.inr (hw _ (List.mem_of_getElem? (i := 31) rfl))) (by decide) (t := .long) (t' := .long) (by decide) (by decide)))
  have f76 := f64.other W71 (Or.inr (slot_ne (Or.inr (hw _ (List.mem_of_getElem? (i := 39) rfl))) (Or.inr (hw _ (List.mem_of_getElem? (i := 31) rfl))) (by decide) (t := .int) (t' := .long) (by decide) (by decide)))
  have f77 := f65.other W71 (Or.inr (slot_ne (Or.inr (hw _ (List.mem_of_getElem? (i := 21) rfl))) (Or.inr (hw _ (List.mem_of_getElem? (i := 31) rfl))) (by decide) (t := .int) (t' := .long) (by decide) (by decide)))
  have f78 := f66.other W71 (Or.inr (slot_ne (Or.inr (hw _ (List.mem_of_getElem? (i := 23) rfl))) (Or.inr (hw _ (List.mem_of_getElem? (i := 31) rfl))) (by decide) (t := .int) (t' := .long) (by decide) (by decide)))
  have f79 := f67.other W71 (Or.inr (slot_ne (Or.inr (hw _ (List.mem_of_getElem? (i := 25) rfl))) (Or.inr (hw _ (List.mem_of_getElem? (i := 31) rfl))) (by decide) (t := .long) (t' := .long) (by decide) (by decide)))
  have f80 := f68.other W71 (Or.inr (slot_ne (Or.inr (hw _ (List.mem_of_getElem? (i := 27) rfl))) (Or.inr (hw _ (List.mem_of_getElem? (i := 31) rfl))) (by decide) (t := .long) (t' := .long) (by decide) (by decide)))
  have f81 := fw58.other W71 (Or.inr (slot_ne (Or.inr (hw _ (List.mem_of_getElem? (i := 29) rfl))) (Or.inr (hw _ (List.mem_of_getElem? (i := 31) rfl))) (by decide) (t := .long) (t' := .long) (by decide) (by decide)))
  have zs82 : n0 ≤ h71.size := Nat.le_trans zs69 (Keep.of_wr W71).1
  have kp83 : Keep h0 h71 [a1] := kp70.wr W71 (Or.inl (List.mem_of_getElem? (i := 0) rfl))
  have N71 := Fr.snoc X71 N58 g_a1
  show own_G p e below (T71.setTop (mkF m 37 #[.val (.ref a1), .val (.int p2), .val (.int p3), .val (.long q4), .second, .val (.long q5), .second, .val (.long q6), .second, .val (.long q7), .second, .val (.long q8), .second, .val (.long q9), .second, .val (.long q10), .second, .val (.int p11)] [])) _
  refine own_go (fun _ k => XS.aloadN X71.here hx rfl (hb hby d2_37) rfl rfl k) ?_
  show own_G p e below (T71.setTop (mkF m 38 #[.val (.ref a1), .val (.int p2), .val (.int p3), .val (.long q4), .second, .val (.long q5), .second, .val (.long q6), .second, .val (.long q7), .second, .val (.long q8), .second, .val (.long q9), .second, .val (.long q10), .second, .val (.int p11)] [(.ref a1)])) _
  refine own_go (fun _ k => XS.lload X71.here hx rfl (hb hby d2_38) rfl k) ?_
  show own_G p e below (T71.setTop (mkF m 40 #[.val (.ref a1), .val (.int p2), .val (.int p3), .val (.long q4), .second, .val (.long q5), .second, .val (.long q6), .second, .val (.long q7), .second, .val (.long q8), .second, .val (.long q9), .second, .val (.long q10), .second, .val (.int p11)] [(.long q8), (.ref a1)])) _
  obtain ⟨T84, h84, X84, e84, W84, st84⟩ := putF X71 hx hZ hown (host := "") (Or.inl (hw _ (List.mem_of_getElem? (i := 32) rfl))) Via.refl e71 f73 f72 (Or.inr ⟨(hw _ (List.mem_of_getElem? (i := 33) rfl)), rfl, hnm⟩) (hw _ (List.mem_of_getElem? (i := 5) rfl)) (ty := .long) (by decide) rfl rfl (g := (mkF m 40 #[.val (.ref a1), .val (.int p2), .val (.int p3), .val (.long q4), .second, .val (.long q5), .second, .val (.long q6), .second, .val (.long q7), .second, .val (.long q8), .second, .val (.long q9), .second, .val (.long q10), .second, .val (.int p11)] [(.long q8), (.ref a1)])) rfl rfl (hb hby d2_40)
  refine own_go st84 ?_
  have fw84 := f73.same W84
  have f85 := f72.wr W84
  have f86 := f74.other W84 (Or.inr (slot_ne (Or.inr (hw _ (List.mem_of_getElem? (i := 35) rfl))) (Or.inr (hw _ (List.mem_of_getElem? (i := 33) rfl))) (by decide) (t := .long) (t' := .long) (by decide) (by decide)))
  have f87 := f75.other W84 (Or.inr (slot_ne (Or.inr (hw _ (List.mem_of_getElem? (i := 37) rfl))) (Or.inr (hw _ (List.mem_of_getElem? (i := 33) rfl))) (by decide) (t := .long) (t' := .long) (by decide) (by decide)))
  have f88 := f76.other W84 (Or.inr (slot_ne (Or.inr (hw _ (List.mem_of_getElem? (i := 39) rfl))) (Or.inr (hw _ (List.mem_of_getElem? (i := 33) rfl))) (by decide) (t := .int) (t' := .long) (by decide) (by decide)))
  have f89 := f77.other W84 (Or.inr (slot_ne (Or.inr (hw _ (List.mem_of_getElem? (i := 21) rfl))) (Or.inr (hw _ (List.mem_of_getElem? (i := 33) rfl))) (by decide) (t := .int) (t' := .long) (by decide) (by decide)))
  have f90 := f78.other W84 (Or.inr (slot_ne (Or.inr (hw _ (List.mem_of_getElem? (i := 23) rfl))) (Or.inr (hw _ (List.mem_of_getElem? (i := 33) rfl))) (by decide) (t := .int) (t' := .long) (by decide) (by decide)))
  have f91 := f79.other W84 (Or.inr (slot_ne (Or.inr (hw _ (List.mem_of_getElem? (i := 25) rfl))) (Or.inr (hw _ (List.mem_of_getElem? (i := 33) rfl))) (by decide) (t := .long) (t' := .long) (by decide) (by decide)))
  have f92 := f80.other W84 (Or.inr (slot_ne (Or.inr (hw _ (List.mem_of_getElem? (i := 27) rfl))) (Or.inr (hw _ (List.mem_of_getElem? (i := 33) rfl))) (by decide) (t := .long) (t' := .long) (by decide) (by decide)))
  have f93 := f81.other W84 (Or.inr (slot_ne (Or.inr (hw _ (List.mem_of_getElem? (i := 29) rfl))) (Or.inr (hw _ (List.mem_of_getElem? (i := 33) rfl))) (by decide) (t := .long) (t' := .long) (by decide) (by decide)))
  have f94 := fw71.other W84 (Or.inr (slot_ne (Or.inr (hw _ (List.mem_of_getElem? (i := 31) rfl))) (Or.inr (hw _ (List.mem_of_getElem? (i := 33) rfl))) (by decide) (t := .long) (t' := .long) (by decide) (by decide)))
  have zs95 : n0 ≤ h84.size := Nat.le_trans zs82 (Keep.of_wr W84).1
  have kp96 : Keep h0 h84 [a1] := kp83.wr W84 (Or.inl (List.mem_of_getElem? (i := 0) rfl))
  have N84 := Fr.snoc X84 N71 g_a1
  show own_G p e below (T84.setTop (mkF m 43 #[.val (.ref a1), .val (.int p2), .val (.int p3), .val (.long q4), .second, .val (.long q5), .second, .val (.long q6), .second, .val (.long q7), .second, .val (.long q8), .second, .val (.long q9), .second, .val (.long q10), .second, .val (.int p11)] [])) _
  refine own_go (fun _ k => XS.aloadN X84.here hx rfl (hb hby d2_43) rfl rfl k) ?_
  show own_G p e below (T84.setTop (mkF m 44 #[.val (.ref a1), .val (.int p2), .val (.int p3), .val (.long q4), .second, .val (.long q5), .second, .val (.long q6), .second, .val (.long q7), .second, .val (.long q8), .second, .val (.long q9), .second, .val (.long q10), .second, .val (.int p11)] [(.ref a1)])) _
  refine own_go (fun _ k => XS.lload X84.here hx rfl (hb hby d2_44) rfl k) ?_
  show own_G p e below (T84.setTop (mkF m 46 #[.val (.ref a1), .val (.int p2), .val (.int p3), .val (.long q4), .second, .val (.long q5), .second, .val (.long q6), .second, .val (.long q7), .second, .val (.long q8), .second, .val (.long q9), .second, .val (.long q10), .second, .val (.int p11)] [(.long q9), (.ref a1)])) _
  obtain ⟨T97, h97, X97, e97, W97, st97⟩ := putF X84 hx hZ hown (host := "") (Or.inl (hw _ (List.mem_of_getElem? (i := 34) rfl))) Via.refl e84 f86 f85 (Or.inr ⟨(hw _ (List.mem_of_getElem? (i := 35) rfl)), rfl, hnm⟩) (hw _ (List.mem_of_getElem? (i := 5) rfl)) (ty := .long) (by decide) rfl rfl (g := (mkF m 46 #[.val (.ref a1), .val (.int p2), .val (.int p3), .val (.long q4), .second, .val (.long q5), .second, .val (.long q6), .second, .val (.long q7), .second, .val (.long q8), .second, .val (.long q9), .second, .val (.long q10), .second, .val (.int p11)] [(.long q9), (.ref a1)])) rfl rfl (hb hby d2_46)
  refine own_go st97 ?_
  have fw97 := f86.same W97
  have f98 := f85.wr W97
  have f99 := f87.other W97 (Or.inr (slot_ne (Or.inr (hw _ (List.mem_of_getElem? (i := 37) rfl))) (Or.inr (hw _ (List.mem_of_getElem? (i := 35) rfl))) (by decide) (t := .long) (t' := .long) (by decide) (by decide)))
  have f100 := f88.other W97 (Or.inr (slot_ne (Or.inr (hw _ (List.mem_of_getElem? (i := 39) rfl))) (Or.inr (hw _ (List.mem_of_getElem? (i := 35) rfl))) (by decide) (t := .int) (t' := .long) (by decide) (by decide)))
  have f101 := f89.other W97 (Or.inr (slot_ne (Or.inr (hw _ (List.mem_of_getElem? (i := 21) rfl))) (Or.inr (hw _ (List.mem_of_getElem? (i := 35) rfl))) (by decide) (t := .int) (t' := .long) (by decide) (by decide)))
  have f102 := f90.other W97 (Or.inr (slot_ne (Or.inr (hw _ (List.mem_of_getElem? (i := 23) rfl))) (Or.inr (hw _ (List.mem_of_getElem? (i := 35) rfl))) (by decide) (t := .int) (t' := .long) (by decide) (by decide)))
  have f103 := f91.other W97 (Or.inr (slot_ne (Or.inr (hw _ (List.mem_of_getElem? (i := 25) rfl))) (Or.inr (hw _ (List.mem_of_getElem? (i := 35) rfl))) (by decide) (t := .long) (t' := .long) (by decide) (by decide)))
  have f104 := f92.other W97 (Or.inr (slot_ne (Or.inr (hw _ (List.mem_of_getElem? (i := 27) rfl))) (Or.inr (hw _ (List.mem_of_getElem? (i := 35) rfl))) (by decide) (t := .long) (t' := .long) (by decide) (by decide)))
  have f105 := f93.other W97 (Or.inr (slot_ne (Or.inr (hw _ (List.mem_of_getElem? (i := 29) rfl))) (Or.inr (hw _ (List.mem_of_getElem? (i := 35) rfl))) (by decide) (t := .long) (t' := .long) (by decide) (by decide)))
  have f106 := f94.other W97 (Or.inr (slot_ne (Or.inr (hw _ (List.mem_of_getElem? (i := 31) rfl))) (Or.inr (hw _ (List.mem_of_getElem? (i := 35) rfl))) (by decide) (t := .long) (t' := .long) (by decide) (by decide)))
  have f107 := fw84.other W97 (Or.inr (slot_ne (Or.inr (hw _ (List.mem_of_getElem? (i := 33) rfl))) (Or.inr (hw _ (List.mem_of_getElem? (i := 35) rfl))) (by decide) (t := .long) (t' := .long) (by decide) (by decide)))
  have zs108 : n0 ≤ h97.size := Nat.le_trans zs95 (Keep.of_wr W97).1
  have kp109 : Keep h0 h97 [a1] := kp96.wr W97 (Or.inl (List.mem_of_getElem? (i := 0) rfl))
  have N97 := Fr.snoc X97 N84 g_a1
  show own_G p e below (T97.setTop (mkF m 49 #[.val (.ref a1), .val (.int p2), .val (.int p3), .val (.long q4), .second, .val (.long q5), .second, .val (.long q6), .second, .val (.long q7), .second, .val (.long q8), .second, .val (.long q9), .second, .val (.long q10), .second, .val (.int p11)] [])) _
  refine own_go (fun _ k => XS.aloadN X97.here hx rfl (hb hby d2_49) rfl rfl k) ?_
  show own_G p e below (T97.setTop (mkF m 50 #[.val (.ref a1), .val (.int p2), .val (.int p3), .val (.long q4), .second, .val (.long q5), .second, .val (.long q6), .second, .val (.long q7), .second, .val (.long q8), .second, .val (.long q9), .second, .val (.long q10), .second, .val (.int p11)] [(.ref a1)])) _
  refine own_go (fun _ k => XS.lload X97.here hx rfl (hb hby d2_50) rfl k) ?_
  show own_G p e below (T97.setTop (mkF m 52 #[.val (.ref a1), .val (.int p2), .val (.int p3), .val (.long q4), .second, .val (.long q5), .second, .val (.long q6), .second, .val (.long q7), .second, .val (.long q8), .second, .val (.long q9), .second, .val (.long q10), .second, .val (.int p11)] [(.long q10), (.ref a1)])) _
  obtain ⟨T110, h110, X110, e110, W110, st110⟩ := putF X97 hx hZ hown (host := "") (Or.inl (hw _ (List.mem_of_getElem? (i := 36) rfl))) Via.refl e97 f99 f98 (Or.inr ⟨(hw _ (List.mem_of_getElem? (i := 37) rfl)), rfl, hnm⟩) (hw _ (List.mem_of_getElem? (i := 5) rfl)) (ty := .long) (by decide) rfl rfl (g := (mkF m 52 #[.val (.ref a1), .val (.int p2), .val (.int p3), .val (.long q4), .second, .val (.long q5), .second, .val (.long q6), .second, .val (.long q7), .second, .val (.long q8), .second, .val (.long q9), .second, .val (.long q10), .second, .val (.int p11)] [(.long q10), (.ref a1)])) rfl rfl (hb hby d2_52)
  refine own_go st110 ?_
  have fw110 := f99.same W110
  have f111 := f98.wr W110
  have f112 := f100.other W110 (Or.inr (slot_ne (Or.inr (hw _ (List.mem_of_getElem? (i := 39) rfl))) (Or.inr (hw _ (List.mem_of_getElem? (i := 37) rfl))) (by decide) (t := .int) (t' := .long) (by decide) (by decide)))
  have f113 := f101.other W110 (Or.inr (slot_ne (Or.inr (hw _ (List.mem_of_getElem? (i := 21) rfl))) (Or.inr (hw _ (List.mem_of_getElem? (i := 37) rfl))) (by decide) (t := .int) (t' := .long) (by decide) (by decide)))
  have f114 := f102.other W110 (Or.inr (slot_ne (Or.inr (hw _ (List.mem_of_getElem? (i := 23) rfl))) (Or.inr (hw _ (List.mem_of_getElem? (i := 37) rfl))) (by decide) (t := .int) (t' := .long) (by decide) (by decide)))
  have f115 := f103.other W110 (Or.inr (slot_ne (Or.inr (hw _ (List.mem_of_getElem? (i := 25) rfl))) (Or.inr (hw _ (List.mem_of_getElem? (i := 37) rfl))) (by decide) (t := .long) (t' := .long) (by decide) (by decide)))
  have f116 := f104.other W110 (Or.inr (slot_ne (Or.inr (hw _ (List.mem_of_getElem? (i := 27) rfl))) (Or.inr (hw _ (List.mem_of_getElem? (i := 37) rfl))) (by decide) (t := .long) (t' := .long) (by decide) (by decide)))
  have f117 := f105.other W110 (Or.inr (slot_ne (Or.inr (hw _ (List.mem_of_getElem? (i := 29) rfl))) (Or.inr (hw _ (List.mem_of_getElem? (i := 37) rfl))) (by decide) (t := .long) (t' := .long) (by decide) (by decide)))
  have f118 := f106.other W110 (Or.inr (slot_ne (Or.inr (hw _ (List.mem_of_getElem? (i := 31) rfl))) (Or.inr (hw _ (List.mem_of_getElem? (i := 37) rfl))) (by decide) (t := .long) (t' := .long) (by decide) (by decide)))
  have f119 := f107.other W110 (Or.inr (slot_ne (Or.inr (hw _ (List.mem_of_getElem? (i := 33) rfl))) (Or.inr (hw _ (List.mem_of_getElem? (i := 37) rfl))) (by decide) (t := .long) (t' := .long) (by decide) (by decide)))
  have f120 := fw97.other W110 (Or.inr (slot_ne (Or.inr (hw _ (List.mem_of_getElem? (i := 35) rfl))) (Or.inr (hw _ (List.mem_of_getElem? (i := 37) rfl))) (by decide) (t := .long) (t' := .long) (by decide) (by decide)))
  have zs121 : n0 ≤ h110.size := Nat.le_trans zs108 (Keep.of_wr W110).1
  have kp122 : Keep h0 h110 [a1] := kp109.wr W110 (Or.inl (List.mem_of_getElem? (i := 0) rfl))
  have N110 := Fr.snoc X110 N97 g_a1
  show own_G p e below (T110.setTop (mkF m 55 #[.val (.ref a1), .val (.int p2), .val (.int p3), .val (.long q4), .second, .val (.long q5), .second, .val (.long q6), .second, .val (.long q7), .second, .val (.long q8), .second, .val (.long q9), .second, .val (.long q10), .second, .val (.int p11)] [])) _
  refine own_go (fun _ k => XS.aloadN X110.here hx rfl (hb hby d2_55) rfl rfl k) ?_
  show own_G p e below (T110.setTop (mkF m 56 #[.val (.ref a1), .val (.int p2), .val (.int p3), .val (.long q4), .second, .val (.long q5), .second, .val (.long q6), .second, .val (.long q7), .second, .val (.long q8), .second, .val (.long q9), .second, .val (.long q10), .second, .val (.int p11)] [(.ref a1)])) _
  refine own_go (fun _ k => XS.iload X110.here hx rfl (hb hby d2_56) rfl k) ?_
  show own_G p e below (T110.setTop (mkF m 58 #[.val (.ref a1), .val (.int p2), .val (.int p3), .val (.long q4), .second, .val (.long q5), .second, .val (.long q6), .second, .val (.long q7), .second, .val (.long q8), .second, .val (.long q9), .second, .val (.long q10), .second, .val (.int p11)] [(.int p11), (.ref a1)])) _
  obtain ⟨T123, h123, X123, e123, W123, st123⟩ := putF X110 hx hZ hown (host := "") (Or.inl (hw _ (List.mem_of_getElem? (i := 38) rfl))) Via.refl e110 f112 f111 (Or.inr ⟨(hw _ (List.mem_of_getElem? (i := 39) rfl)), rfl, hnm⟩) (hw _ (List.mem_of_getElem? (i := 5) rfl)) (ty := .int) (by decide) rfl rfl (g := (mkF m 58 #[.val (.ref a1), .val (.int p2), .val (.int p3), .val (.long q4), .second, .val (.long q5), .second, .val (.long q6), .second, .val (.long q7), .second, .val (.long q8), .second, .val (.long q9), .second, .val (.long q10), .second, .val (.int p11)] [(.int p11), (.ref a1)])) rfl rfl (hb hby d2_58)
  refine own_go st123 ?_
  have fw123 := f112.same W123
  have f124 := f111.wr W123
  have f125 := f113.other W123 (Or.inr (slot_ne (Or.inr (hw _ (List.mem_of_getElem? (i := 21) rfl))) (Or.inr (hw _ (List.mem_of_getElem? (i := 39) rfl))) (by decide) (t := .int) (t' := .int) (by decide) (by decide)))
  have f126 := f114.other W123 (Or.inr (slot_ne (Or.inr (hw _ (List.mem_of_getElem? (i := 23) rfl))) (Or.inr (hw _ (List.mem_of_getElem? (i := 39) rfl))) (by decide) (t := .int) (t' := .int) (by decide) (by decide)))
  have f127 := f115.other W123 (Or.inr (slot_ne (Or.inr (hw _ (List.mem_of_getElem? (i := 25) rfl))) (Or.inr (hw _ (List.mem_of_getElem? (i := 39) rfl))) (by decide) (t := .long) (t' := .int) (by decide) (by decide)))
  have f128 := f116.other W123 (Or.inr (slot_ne (Or.inr (hw _ (List.mem_of_getElem? (i := 27) rfl))) (Or.inr (hw _ (List.mem_of_getElem? (i := 39) rfl))) (by decide) (t := .long) (t' := .int) (by decide) (by decide)))
  have f129 := f117.other W123 (Or.inr (slot_ne (Or.inr (hw _ (List.mem_of_getElem? (i := 29) rfl))) (Or.inr (hw _ (List.mem_of_getElem? (i := 39) rfl))) (by decide) (t := .long) (t' := .int) (by decide) (by decide)))
  have f130 := f118.other W123 (Or.inr (slot_ne (Or.inr (hw _ (List.mem_of_getElem? (i := 31) rfl))) (Or.inr (hw _ (List.mem_of_getElem? (i := 39) rfl))) (by decide) (t := .long) (t' := .int) (by decide) (by decide)))
  have f131 := f119.other W123 (Or.inr (slot_ne (Or.inr (hw _ (List.mem_of_getElem? (i := 33) rfl))) (Or.inr (hw _ (List.mem_of_getElem? (i := 39) rfl))) (by decide) (t := .long) (t' := .int) (by decide) (by decide)))
  have f132 := f120.other W123 (Or.inr (slot_ne (Or.inr (hw _ (List.mem_of_getElem? (i := 35) rfl))) (Or.inr (hw _ (List.mem_of_getElem? (i := 39) rfl))) (by decide) (t := .long) (t' := .int) (by decide) (by decide)))
  have f133 := fw110.other W123 (Or.inr (slot_ne (Or.inr (hw _ (List.mem_of_getElem? (i := 37) rfl))) (Or.inr (hw _ (List.mem_of_getElem? (i := 39) rfl))) (by decide) (t := .long) (t' := .int) (by decide) (by decide)))
  have zs134 : n0 ≤ h123.size := Nat.le_trans zs121 (Keep.of_wr W123).1
  have kp135 : Keep h0 h123 [a1] := kp122.wr W123 (Or.inl (List.mem_of_getElem? (i := 0) rfl))
  have N123 := Fr.snoc X123 N110 g_a1
  show own_G p e below (T123.setTop (mkF m 61 #[.val (.ref a1), .val (.int p2), .val (.int p3), .val (.long q4), .second, .val (.long q5), .second, .val (.long q6), .second, .val (.long q7), .second, .val (.long q8), .second, .val (.long q9), .second, .val (.long q10), .second, .val (.int p11)] [])) _
  refine own_ret X123 hlk (v := none) (fun _ => rfl) (Q2 Z a1 p2 p3 q4 q5 q6 q7 q8 q9 q10 p11 h0 n0) (own_retV X123 hx hret (hb hby d2_61)) (by decide) (by decide) ?_
  show Q2 Z a1 p2 p3 q4 q5 q6 q7 q8 q9 q10 p11 h0 n0 _ T123.heap _
  rw [e123]
  exact ⟨rfl, N123, kp135, f124, f130, f131⟩
theorem ef_5 (m : MethodId) (a1 : Addr) : entryFrame m #[(.ref a1)] 1 = mkF m 0 #[.val (.ref a1)] [] := by first | (simp [entryFrame, mkF, argsToLocals, Value.category]; done) | rfl
def Q5 (Z : State) (a1 : Addr) (s1 d1 : Int64) (h0 : Heap) (n0 : Nat) (v : Option Value) (h : Heap) (L : List Loc) : Prop := ∃ z : Int32, v = some (.int z) ∧ Fr n0 L ∧ h = h0 ∧ ((z = 1 ∧ ¬ d1 < (0 : Int64) ∧ ¬ (s1 + d1) < s1) ∨ (z = 0 ∧ (d1 < (0 : Int64) ∨ (s1 + d1) < s1)))
set_option maxRecDepth 65536 in
set_option maxHeartbeats 40000000 in
theorem rm5 (l : Launch) (Z : State) (a0 : Array Value) (hw : ∀ d ∈ tables_1, d.before a0 Z = true) (ws : List Jvm.Cond) (a1 : Addr) (s1 d1 : Int64) (h0 : Heap) (n0 : Nat) (Z0 : n0 ≤ h0.size)  (F_startNanos_a1 : Fld Z h0 a1 "emberglass/ChunkHeader" "startNanos" "J" (.long s1)) (F_durationNanos_a1 : Fld Z h0 a1 "emberglass/ChunkHeader" "durationNanos" "J" (.long d1)) :
    MetFree l (⟨"emberglass/ChunkHeader", "hasEnd", "()Z"⟩ : MethodName) (head1 (Jvm.Cond.code (⟨"emberglass/ChunkHeader", "hasEnd", "()Z"⟩ : MethodName) prog_12_method_5_code 1 (some .boolean) :: ws) ({ frames := 0, cells := 0, slots := 0, locals := 0 } : Room)) (fun a U => a = #[(.ref a1)] ∧ Z.Warmed39 U.vm ∧ U.heap = h0) (fun _ _ _ _ _ => True) (fun _ U o U' => ∃ v L, o = .returned v ∧ Q5 Z a1 s1 d1 h0 n0 v U'.heap L ∧ FrameEnd U o U' L ({ frames := 0, cells := 0, slots := 0, locals := 0 } : Room).cells ({ frames := 0, cells := 0, slots := 0, locals := 0 } : Room).slots) := by
  refine MetFree.of_bodySF (plainFor_of_name pn_5) hisR ?_
  intro p e s m args below meth c s₁ Bd hml0 hP hK
  obtain ⟨rfl, hZ, hh⟩ := hP
  have hx := Bd.exec
  have hby := Bd.bytes
  have hml : c.maxLocals = 1 := hml0
  have hown : s.vm.findClass "emberglass/ChunkHeader" = some m.cls := findClass_of_methodNamed Bd.named
  have hnm := (name_of_methodNamed Bd.named Bd.method).1
  have hlk := Bd.notSynchronized
  have hret := Bd.returns
  have X0 : Stand p l e ({ frames := 0, cells := 0, slots := 0, locals := 0 } : Room) s m #[(.ref a1)] below meth c s₁ [] 0 0 := Stand.of_body Bd
  have e0 : s₁.heap = h0 := by rw [← hh, Bd.state]; rfl
  have N0 := Fr.nil n0
  show own_G p e below (s₁.setTop (entryFrame m #[(.ref a1)] 1)) (fun s₂ o => ∃ v L, o = .returned v ∧ Q5 Z a1 s1 d1 h0 n0 v s₂.heap L ∧ FrameEnd s o s₂ L ({ frames := 0, cells := 0, slots := 0, locals := 0 } : Room).cells ({ frames := 0, cells := 0, slots := 0, locals := 0 } : Room).slots)
  refine own_go (fun t k => castTop (ef_5 m a1) k) ?_
  show own_G p e below (s₁.setTop (mkF m 0 #[.val (.ref a1)] [])) _
  refine own_go (fun _ k => XS.aloadN X0.here hx rfl (hb hby d5_0) rfl rfl k) ?_
  show own_G p e below (s₁.setTop (mkF m 1 #[.val (.ref a1)] [(.ref a1)])) _
  obtain ⟨T136, X136, e136, st136⟩ := getF X0 hx hZ hown (host := "") (Or.inl (hw _ (List.mem_of_getElem? (i := 32) rfl))) Via.refl e0 F_durationNanos_a1 (g := (mkF m 1 #[.val (.ref a1)] [(.ref a1)])) rfl rfl (hb hby d5_1)
  refine own_go st136 ?_
  show own_G p e below (T136.setTop (mkF m 4 #[.val (.ref a1)] [(.long d1)])) _
  refine own_go (fun _ k => XS.lconst X136.here hx rfl (hb hby d5_4) k) ?_
  show own_G p e below (T136.setTop (mkF m 5 #[.val (.ref a1)] [(.long (0 : Int64)), (.long d1)])) _
  refine own_go (fun _ k => XS.lcmp X136.here hx rfl (hb hby d5_5) rfl k) ?_
  show own_G p e below (T136.setTop (mkF m 6 #[.val (.ref a1)] [(.int (lcmpW d1 (0 : Int64)))])) _
  by_cases hc6_137 : d1 < (0 : Int64)
  · refine own_go (fun _ k => XS.ifYes X136.here hx rfl (pc0 := 6) (pc' := 30) rfl (hb hby d5_6) rfl ((if0 _ _).trans (tlt ((lw_lt _ _).mpr hc6_137)).1) (by decide) (by decide) k) ?_
    show own_G p e below (T136.setTop (mkF m 30 #[.val (.ref a1)] [])) _
    refine own_go (fun _ k => XS.iconst X136.here hx rfl (hb hby d5_30) k) ?_
    show own_G p e below (T136.setTop (mkF m 31 #[.val (.ref a1)] [(.int (0 : Int32))])) _
    refine own_ret X136 hlk (v := some (.int (0 : Int32))) (fun h => by rw [hret] at h; cases h) (Q5 Z a1 s1 d1 h0 n0) (own_retI X136 hx (t := .boolean) hret rfl (Or.inl ⟨rfl, by simp, _, rfl⟩) (hb hby d5_31)) (by decide) (by decide) ?_
    show Q5 Z a1 s1 d1 h0 n0 _ T136.heap _
    rw [e136]
    exact ⟨_, rfl, N0, rfl, Or.inr ⟨rfl, Or.inl hc6_137⟩⟩
  · refine own_go (fun _ k => XS.ifNo X136.here hx rfl (hb hby d5_6) rfl ((if0 _ _).trans (flt (fun q => hc6_137 ((lw_lt _ _).mp q))).1) k) ?_
    show own_G p e below (T136.setTop (mkF m 9 #[.val (.ref a1)] [])) _
    refine own_go (fun _ k => XS.aloadN X136.here hx rfl (hb hby d5_9) rfl rfl k) ?_
    show own_G p e below (T136.setTop (mkF m 10 #[.val (.ref a1)] [(.ref a1)])) _
    obtain ⟨T138, X138, e138, st138⟩ := getF X136 hx hZ hown (host := "") (Or.inl (hw _ (List.mem_of_getElem? (i := 30) rfl))) Via.refl e136 F_startNanos_a1 (g := (mkF m 10 #[.val (.ref a1)] [(.ref a1)])) rfl rfl (hb hby d5_10)
    refine own_go st138 ?_
    show own_G p e below (T138.setTop (mkF m 13 #[.val (.ref a1)] [(.long s1)])) _
    refine own_go (fun _ k => XS.aloadN X138.here hx rfl (hb hby d5_13) rfl rfl k) ?_
    show own_G p e below (T138.setTop (mkF m 14 #[.val (.ref a1)] [(.ref a1), (.long s1)])) _
    obtain ⟨T139, X139, e139, st139⟩ := getF X138 hx hZ hown (host := "") (Or.inl (hw _ (List.mem_of_getElem? (i := 32) rfl))) Via.refl e138 F_durationNanos_a1 (g := (mkF m 14 #[.val (.ref a1)] [(.ref a1), (.long s1)])) rfl rfl (hb hby d5_14)
    refine own_go st139 ?_
    show own_G p e below (T139.setTop (mkF m 17 #[.val (.ref a1)] [(.long d1), (.long s1)])) _
    refine own_go (fun _ k => XS.ladd X139.here hx rfl (hb hby d5_17) rfl k) ?_
    show own_G p e below (T139.setTop (mkF m 18 #[.val (.ref a1)] [(.long (s1 + d1))])) _
    refine own_go (fun _ k => XS.aloadN X139.here hx rfl (hb hby d5_18) rfl rfl k) ?_
    show own_G p e below (T139.setTop (mkF m 19 #[.val (.ref a1)] [(.ref a1), (.long (s1 + d1))])) _
    obtain ⟨T140, X140, e140, st140⟩ := getF X139 hx hZ hown (host := "") (Or.inl (hw _ (List.mem_of_getElem? (i := 30) rfl))) Via.refl e139 F_startNanos_a1 (g := (mkF m 19 #[.val (.ref a1)] [(.ref a1), (.long (s1 + d1))])) rfl rfl (hb hby d5_19)
    refine own_go st140 ?_
    show own_G p e below (T140.setTop (mkF m 22 #[.val (.ref a1)] [(.long s1), (.long (s1 + d1))])) _
    refine own_go (fun _ k => XS.lcmp X140.here hx rfl (hb hby d5_22) rfl k) ?_
    show own_G p e below (T140.setTop (mkF m 23 #[.val (.ref a1)] [(.int (lcmpW (s1 + d1) s1))])) _
    by_cases hc23_141 : (s1 + d1) < s1
    · refine own_go (fun _ k => XS.ifYes X140.here hx rfl (pc0 := 23) (pc' := 30) rfl (hb hby d5_23) rfl ((if0 _ _).trans (tlt ((lw_lt _ _).mpr hc23_141)).1) (by decide) (by decide) k) ?_
      show own_G p e below (T140.setTop (mkF m 30 #[.val (.ref a1)] [])) _
      refine own_go (fun _ k => XS.iconst X140.here hx rfl (hb hby d5_30) k) ?_
      show own_G p e below (T140.setTop (mkF m 31 #[.val (.ref a1)] [(.int (0 : Int32))])) _
      refine own_ret X140 hlk (v := some (.int (0 : Int32))) (fun h => by rw [hret] at h; cases h) (Q5 Z a1 s1 d1 h0 n0) (own_retI X140 hx (t := .boolean) hret rfl (Or.inl ⟨rfl, by simp, _, rfl⟩) (hb hby d5_31)) (by decide) (by decide) ?_
      show Q5 Z a1 s1 d1 h0 n0 _ T140.heap _
      rw [e140]
      exact ⟨_, rfl, N0, rfl, Or.inr ⟨rfl, Or.inr hc23_141⟩⟩
    · refine own_go (fun _ k => XS.ifNo X140.here hx rfl (hb hby d5_23) rfl ((if0 _ _).trans (flt (fun q => hc23_141 ((lw_lt _ _).mp q))).1) k) ?_
      show own_G p e below (T140.setTop (mkF m 26 #[.val (.ref a1)] [])) _
      refine own_go (fun _ k => XS.iconst X140.here hx rfl (hb hby d5_26) k) ?_
      show own_G p e below (T140.setTop (mkF m 27 #[.val (.ref a1)] [(.int (1 : Int32))])) _
      refine own_go (fun _ k => XS.goto X140.here hx rfl (pc0 := 27) (pc' := 31) rfl (hb hby d5_27) (by decide) (by decide) k) ?_
      show own_G p e below (T140.setTop (mkF m 31 #[.val (.ref a1)] [(.int (1 : Int32))])) _
      refine own_ret X140 hlk (v := some (.int (1 : Int32))) (fun h => by rw [hret] at h; cases h) (Q5 Z a1 s1 d1 h0 n0) (own_retI X140 hx (t := .boolean) hret rfl (Or.inl ⟨rfl, by simp, _, rfl⟩) (hb hby d5_31)) (by decide) (by decide) ?_
      show Q5 Z a1 s1 d1 h0 n0 _ T140.heap _
      rw [e140]
      exact ⟨_, rfl, N0, rfl, Or.inl ⟨rfl, hc6_137, hc23_141⟩⟩
theorem ef_0 (m : MethodId) (q1 : Int64) (q2 : Int64) (p3 : Int32) (p4 : Int32) : entryFrame m #[(.long q1), (.long q2), (.int p3), (.int p4)] maxLocals = mkF m 0 #[.val (.long q1), .second, .val (.long q2), .second, .val (.int p3), .val (.int p4), .unset, .unset, .unset, .unset] [] := by first | (simp [entryFrame, mkF, argsToLocals, Value.category, maxLocals]; done) | rfl
def Q0 (Z : State) (q1 : Int64) (q2 : Int64) (p3 : Int32) (p4 : Int32) (h0 : Heap) (n0 : Nat) (v : Option Value) (h : Heap) (L : List Loc) : Prop := v = some (.int (1 : Int32)) ∧ Fr n0 L
set_option maxRecDepth 65536 in
set_option maxHeartbeats 40000000 in
theorem rm0 (l : Launch) (Z : State) (a0 : Array Value) (hw : ∀ d ∈ tables_1, d.before a0 Z = true) (ws : List Jvm.Cond) (q1 : Int64) (q2 : Int64) (p3 : Int32) (p4 : Int32) (h0 : Heap) (n0 : Nat) (Z0 : n0 ≤ h0.size)  :
    MetFree l x (head1 (Jvm.Cond.code x code maxLocals ret :: ws) room_1) (fun a U => a = #[(.long q1), (.long q2), (.int p3), (.int p4)] ∧ Z.Warmed39 U.vm ∧ U.heap = h0) (fun _ _ _ _ _ => True) (fun _ U o U' => ∃ v L, o = .returned v ∧ Q0 Z q1 q2 p3 p4 h0 n0 v U'.heap L ∧ FrameEnd U o U' L room_1.cells room_1.slots) := by
  refine MetFree.of_bodySF (plainFor_of_name pn_0) hisR ?_
  intro p e s m args below meth c s₁ Bd hml0 hP hK
  obtain ⟨rfl, hZ, hh⟩ := hP
  have hx := Bd.exec
  have hby := Bd.bytes
  have hml : c.maxLocals = 10 := hml0
  have hown : s.vm.findClass "emberglass/ChunkHeaderHasEndPinLaw" = some m.cls := findClass_of_methodNamed Bd.named
  have hnm := (name_of_methodNamed Bd.named Bd.method).1
  have hlk := Bd.notSynchronized
  have hret := Bd.returns
  have X0 : Stand p l e room_1 s m #[(.long q1), (.long q2), (.int p3), (.int p4)] below meth c s₁ [] 0 0 := Stand.of_body Bd
  have e0 : s₁.heap = h0 := by rw [← hh, Bd.state]; rfl
  have N0 := Fr.nil n0
  show own_G p e below (s₁.setTop (entryFrame m #[(.long q1), (.long q2), (.int p3), (.int p4)] maxLocals)) (fun s₂ o => ∃ v L, o = .returned v ∧ Q0 Z q1 q2 p3 p4 h0 n0 v s₂.heap L ∧ FrameEnd s o s₂ L room_1.cells room_1.slots)
  refine own_go (fun t k => castTop (ef_0 m q1 q2 p3 p4) k) ?_
  show own_G p e below (s₁.setTop (mkF m 0 #[.val (.long q1), .second, .val (.long q2), .second, .val (.int p3), .val (.int p4), .unset, .unset, .unset, .unset] [])) _
  refine own_go (fun _ k => XS.lloadN X0.here hx rfl (hb hby at_0) rfl k) ?_
  show own_G p e below (s₁.setTop (mkF m 1 #[.val (.long q1), .second, .val (.long q2), .second, .val (.int p3), .val (.int p4), .unset, .unset, .unset, .unset] [(.long q1)])) _
  refine own_go (fun _ k => XS.lloadN X0.here hx rfl (hb hby at_1) rfl k) ?_
  show own_G p e below (s₁.setTop (mkF m 2 #[.val (.long q1), .second, .val (.long q2), .second, .val (.int p3), .val (.int p4), .unset, .unset, .unset, .unset] [(.long q2), (.long q1)])) _
  refine own_go (fun _ k => XS.iload X0.here hx rfl (hb hby at_2) rfl k) ?_
  show own_G p e below (s₁.setTop (mkF m 4 #[.val (.long q1), .second, .val (.long q2), .second, .val (.int p3), .val (.int p4), .unset, .unset, .unset, .unset] [(.int p3), (.long q2), (.long q1)])) _
  obtain ⟨_, _, ⟨T142, L142, k142, n142⟩, -, X142, ⟨Lc142, hQ142, l142, y142, z142⟩, st142⟩ := Jvm.LawKit.callS X0 hx (y := (⟨"emberglass/ChunkHeaderHasEndPinLaw", "pickDuration", "(JJI)J"⟩ : MethodName)) hown (mvT hZ (hw _ (List.mem_of_getElem? (i := 0) rfl))) (mvT hZ (hw _ (List.mem_of_getElem? (i := 1) rfl))) (mvT hZ (hw _ (List.mem_of_getElem? (i := 2) rfl))) (mvT hZ (hw _ (List.mem_of_getElem? (i := 3) rfl))) (by decide) (backOf (W := 0) (rm1 l Z a0 hw [] q1 q2 p3 h0 n0 Z0 ) hZ (hw _ (List.mem_of_getElem? (i := 3) rfl)) (hw _ (List.mem_of_getElem? (i := 2) rfl)) (by decide) (by decide)) (g := (mkF m 4 #[.val (.long q1), .second, .val (.long q2), .second, .val (.int p3), .val (.int p4), .unset, .unset, .unset, .unset] [(.int p3), (.long q2), (.long q1)])) rfl (by rw [hml]; rfl) (argsL := [(.long q1), (.long q2), (.int p3)]) (rest := []) (lenOf pd_1 rfl) rfl (by show 2 * 0 + _ ≤ _; exact Nat.le_of_eq rfl) (hb hby at_4) (fun _ _ => ⟨rfl, e0, (by decide : 0 + 0 ≤ _), (by decide : 0 + 0 ≤ _)⟩)
  dsimp only [Pt.U, Pt.locs, Pt.cells, Pt.slots] at X142 l142 y142 z142 st142 hQ142
  subst l142 y142 z142
  obtain ⟨dur, rfl, Nq142, hh142⟩ := hQ142
  have N142 := Fr.app N0 Nq142
  refine own_go st142 ?_
  have e142 : T142.heap = h0 := hh142
  show own_G p e below (T142.setTop (mkF m 7 #[.val (.long q1), .second, .val (.long q2), .second, .val (.int p3), .val (.int p4), .unset, .unset, .unset, .unset] [(.long dur)])) _
  refine own_go (fun _ k => XS.lstore X142.here hx rfl (hb hby at_7) rfl (l' := #[.val (.long q1), .second, .val (.long q2), .second, .val (.int p3), .val (.int p4), .val (.long dur), .second, .unset, .unset]) rfl k) ?_
  show own_G p e below (T142.setTop (mkF m 9 #[.val (.long q1), .second, .val (.long q2), .second, .val (.int p3), .val (.int p4), .val (.long dur), .second, .unset, .unset] [])) _
  obtain ⟨T143, h143, X143, e143, E143, A143, D143, -, st143⟩ := newO X142 hx hZ hown (hw _ (List.mem_of_getElem? (i := 4) rfl)) (hw _ (List.mem_of_getElem? (i := 5) rfl)) (hw _ (List.mem_of_getElem? (i := 6) rfl)) e142 (g := (mkF m 9 #[.val (.long q1), .second, .val (.long q2), .second, .val (.int p3), .val (.int p4), .val (.long dur), .second, .unset, .unset] [])) rfl (hb hby at_9) (by decide) (by decide)
  obtain ⟨b143, g143⟩ : ∃ z, z = h0.size := ⟨_, rfl⟩
  rw [← g143] at A143 D143 st143
  refine own_go st143 ?_
  have ge144 : n0 ≤ b143 := Nat.le_trans Z0 (Nat.le_of_eq g143.symm)
  have zs145 : n0 ≤ h143.size := Nat.le_trans Z0 E143.1
  have f146 : Fld Z h143 b143 "emberglass/ChunkHeader" "majorVersion" "I" (.int (0 : Int32)) := D143 (Or.inr (hw _ (List.mem_of_getElem? (i := 21) rfl))) (ty := .int) (by decide)
  have f147 : Fld Z h143 b143 "emberglass/ChunkHeader" "minorVersion" "I" (.int (0 : Int32)) := D143 (Or.inr (hw _ (List.mem_of_getElem? (i := 23) rfl))) (ty := .int) (by decide)
  have f148 : Fld Z h143 b143 "emberglass/ChunkHeader" "size" "J" (.long (0 : Int64)) := D143 (Or.inr (hw _ (List.mem_of_getElem? (i := 25) rfl))) (ty := .long) (by decide)
  have f149 : Fld Z h143 b143 "emberglass/ChunkHeader" "constantPoolOffset" "J" (.long (0 : Int64)) := D143 (Or.inr (hw _ (List.mem_of_getElem? (i := 27) rfl))) (ty := .long) (by decide)
  have f150 : Fld Z h143 b143 "emberglass/ChunkHeader" "metadataOffset" "J" (.long (0 : Int64)) := D143 (Or.inr (hw _ (List.mem_of_getElem? (i := 29) rfl))) (ty := .long) (by decide)
  have f151 : Fld Z h143 b143 "emberglass/ChunkHeader" "startNanos" "J" (.long (0 : Int64)) := D143 (Or.inr (hw _ (List.mem_of_getElem? (i := 31) rfl))) (ty := .long) (by decide)
  have f152 : Fld Z h143 b143 "emberglass/ChunkHeader" "durationNanos" "J" (.long (0 : Int64)) := D143 (Or.inr (hw _ (List.mem_of_getElem? (i := 33) rfl))) (ty := .long) (by decide)
  have f153 : Fld Z h143 b143 "emberglass/ChunkHeader" "startTicks" "J" (.long (0 : Int64)) := D143 (Or.inr (hw _ (List.mem_of_getElem? (i := 35) rfl))) (ty := .long) (by decide)
  have f154 : Fld Z h143 b143 "emberglass/ChunkHeader" "ticksPerSecond" "J" (.long (0 : Int64)) := D143 (Or.inr (hw _ (List.mem_of_getElem? (i := 37) rfl))) (ty := .long) (by decide)
  have f155 : Fld Z h143 b143 "emberglass/ChunkHeader" "flags" "I" (.int (0 : Int32)) := D143 (Or.inr (hw _ (List.mem_of_getElem? (i := 39) rfl))) (ty := .int) (by decide)
  show own_G p e below (T143.setTop (mkF m 12 #[.val (.long q1), .second, .val (.long q2), .second, .val (.int p3), .val (.int p4), .val (.long dur), .second, .unset, .unset] [(.ref b143)])) _
  refine own_go (fun _ k => XS.dup X143.here hx rfl (hb hby at_12) rfl rfl k) ?_
  show own_G p e below (T143.setTop (mkF m 13 #[.val (.long q1), .second, .val (.long q2), .second, .val (.int p3), .val (.int p4), .val (.long dur), .second, .unset, .unset] [(.ref b143), (.ref b143)])) _
  refine own_go (fun _ k => XS.iconst X143.here hx rfl (hb hby at_13) k) ?_
  show own_G p e below (T143.setTop (mkF m 14 #[.val (.long q1), .second, .val (.long q2), .second, .val (.int p3), .val (.int p4), .val (.long dur), .second, .unset, .unset] [(.int (2 : Int32)), (.ref b143), (.ref b143)])) _
  refine own_go (fun _ k => XS.iload X143.here hx rfl (hb hby at_14) rfl k) ?_
  show own_G p e below (T143.setTop (mkF m 16 #[.val (.long q1), .second, .val (.long q2), .second, .val (.int p3), .val (.int p4), .val (.long dur), .second, .unset, .unset] [(.int p3), (.int (2 : Int32)), (.ref b143), (.ref b143)])) _
  refine own_go (X143.ldc2Long hx hown (mvT hZ (hw _ (List.mem_of_getElem? (i := 7) rfl))) (g := (mkF m 16 #[.val (.long q1), .second, .val (.long q2), .second, .val (.int p3), .val (.int p4), .val (.long dur), .second, .unset, .unset] [(.int p3), (.int (2 : Int32)), (.ref b143), (.ref b143)])) rfl (hb hby at_16)) ?_
  show own_G p e below (T143.setTop (mkF m 19 #[.val (.long q1), .second, .val (.long q2), .second, .val (.int p3), .val (.int p4), .val (.long dur), .second, .unset, .unset] [(.long (68 : Int64)), (.int p3), (.int (2 : Int32)), (.ref b143), (.ref b143)])) _
  refine own_go (fun _ k => XS.lloadN X143.here hx rfl (hb hby at_19) rfl k) ?_
  show own_G p e below (T143.setTop (mkF m 20 #[.val (.long q1), .second, .val (.long q2), .second, .val (.int p3), .val (.int p4), .val (.long dur), .second, .unset, .unset] [(.long q2), (.long (68 : Int64)), (.int p3), (.int (2 : Int32)), (.ref b143), (.ref b143)])) _
  refine own_go (fun _ k => XS.lloadN X143.here hx rfl (hb hby at_20) rfl k) ?_
  show own_G p e below (T143.setTop (mkF m 21 #[.val (.long q1), .second, .val (.long q2), .second, .val (.int p3), .val (.int p4), .val (.long dur), .second, .unset, .unset] [(.long q1), (.long q2), (.long (68 : Int64)), (.int p3), (.int (2 : Int32)), (.ref b143), (.ref b143)])) _
  refine own_go (fun _ k => XS.lloadN X143.here hx rfl (hb hby at_21) rfl k) ?_
  show own_G p e below (T143.setTop (mkF m 22 #[.val (.long q1), .second, .val (.long q2), .second, .val (.int p3), .val (.int p4), .val (.long dur), .second, .unset, .unset] [(.long q1), (.long q1), (.long q2), (.long (68 : Int64)), (.int p3), (.int (2 : Int32)), (.ref b143), (.ref b143)])) _
  refine own_go (fun _ k => XS.lload X143.here hx rfl (hb hby at_22) rfl k) ?_
  show own_G p e below (T143.setTop (mkF m 24 #[.val (.long q1), .second, .val (.long q2), .second, .val (.int p3), .val (.int p4), .val (.long dur), .second, .unset, .unset] [(.long dur), (.long q1), (.long q1), (.long q2), (.long (68 : Int64)), (.int p3), (.int (2 : Int32)), (.ref b143), (.ref b143)])) _
  refine own_go (fun _ k => XS.lloadN X143.here hx rfl (hb hby at_24) rfl k) ?_
  show own_G p e below (T143.setTop (mkF m 25 #[.val (.long q1), .second, .val (.long q2), .second, .val (.int p3), .val (.int p4), .val (.long dur), .second, .unset, .unset] [(.long q2), (.long dur), (.long q1), (.long q1), (.long q2), (.long (68 : Int64)), (.int p3), (.int (2 : Int32)), (.ref b143), (.ref b143)])) _
  refine own_go (X143.ldc2Long hx hown (mvT hZ (hw _ (List.mem_of_getElem? (i := 8) rfl))) (g := (mkF m 25 #[.val (.long q1), .second, .val (.long q2), .second, .val (.int p3), .val (.int p4), .val (.long dur), .second, .unset, .unset] [(.long q2), (.long dur), (.long q1), (.long q1), (.long q2), (.long (68 : Int64)), (.int p3), (.int (2 : Int32)), (.ref b143), (.ref b143)])) rfl (hb hby at_25)) ?_
  show own_G p e below (T143.setTop (mkF m 28 #[.val (.long q1), .second, .val (.long q2), .second, .val (.int p3), .val (.int p4), .val (.long dur), .second, .unset, .unset] [(.long (1000000000 : Int64)), (.long q2), (.long dur), (.long q1), (.long q1), (.long q2), (.long (68 : Int64)), (.int p3), (.int (2 : Int32)), (.ref b143), (.ref b143)])) _
  refine own_go (fun _ k => XS.iload X143.here hx rfl (hb hby at_28) rfl k) ?_
  show own_G p e below (T143.setTop (mkF m 30 #[.val (.long q1), .second, .val (.long q2), .second, .val (.int p3), .val (.int p4), .val (.long dur), .second, .unset, .unset] [(.int p4), (.long (1000000000 : Int64)), (.long q2), (.long dur), (.long q1), (.long q1), (.long q2), (.long (68 : Int64)), (.int p3), (.int (2 : Int32)), (.ref b143), (.ref b143)])) _
  obtain ⟨_, _, ⟨T156, L156, k156, n156⟩, -, X156, ⟨Lc156, hQ156, l156, y156, z156⟩, st156⟩ := X143.specialBack hx (y := (⟨"emberglass/ChunkHeader", "<init>", "(IIJJJJJJJI)V"⟩ : MethodName)) rfl hown (mvT hZ (hw _ (List.mem_of_getElem? (i := 9) rfl))) (mvT hZ (hw _ (List.mem_of_getElem? (i := 10) rfl))) (mvT hZ (hw _ (List.mem_of_getElem? (i := 11) rfl))) (by decide) (backOf (W := 1) (rm2 l Z a0 hw [] b143 (2 : Int32) p3 (68 : Int64) q2 q1 q1 dur q2 (1000000000 : Int64) p4 h143 n0 zs145 A143 f146 f147 f148 f149 f150 f151 f152 f153 f154 f155 ge144) hZ (hw _ (List.mem_of_getElem? (i := 11) rfl)) (hw _ (List.mem_of_getElem? (i := 6) rfl)) (by decide) (by decide)) (g := (mkF m 30 #[.val (.long q1), .second, .val (.long q2), .second, .val (.int p3), .val (.int p4), .val (.long dur), .second, .unset, .unset] [(.int p4), (.long (1000000000 : Int64)), (.long q2), (.long dur), (.long q1), (.long q1), (.long q2), (.long (68 : Int64)), (.int p3), (.int (2 : Int32)), (.ref b143), (.ref b143)])) rfl (by rw [hml]; rfl) (Steps.refl _) (a := b143) (argsL := [(.int (2 : Int32)), (.int p3), (.long (68 : Int64)), (.long q2), (.long q1), (.long q1), (.long dur), (.long q2), (.long (1000000000 : Int64)), (.int p4)]) (rest := [(.ref b143)]) (lenOf pd_2 rfl) rfl (by show 2 * 0 + _ ≤ _; exact Nat.le_of_eq rfl) (hb hby at_30) (fun _ _ => ⟨rfl, e143, (by decide : 0 + 0 + 1 + 0 ≤ _), (by decide : 0 + 0 + 10 + 0 ≤ _)⟩)
  dsimp only [Pt.U, Pt.locs, Pt.cells, Pt.slots] at X156 l156 y156 z156 st156 hQ156
  subst l156 y156 z156
  obtain ⟨rfl, Nq156, K156, E156q, Fs156, Fd156⟩ := hQ156
  have N156 := Fr.app N142 Nq156
  refine own_go (fun _ k => st156.trans k) ?_
  have f157 := A143.keep K156
  have zs158 : n0 ≤ T156.heap.size := Nat.le_trans zs145 K156.1
  show own_G p e below (T156.setTop (mkF m 33 #[.val (.long q1), .second, .val (.long q2), .second, .val (.int p3), .val (.int p4), .val (.long dur), .second, .unset, .unset] [(.ref b143)])) _
  refine own_go (fun _ k => XS.astore X156.here hx rfl (hb hby at_33) rfl rfl (l' := #[.val (.long q1), .second, .val (.long q2), .second, .val (.int p3), .val (.int p4), .val (.long dur), .second, .val (.ref b143), .unset]) rfl k) ?_
  show own_G p e below (T156.setTop (mkF m 35 #[.val (.long q1), .second, .val (.long q2), .second, .val (.int p3), .val (.int p4), .val (.long dur), .second, .val (.ref b143), .unset] [])) _
  refine own_go (fun _ k => XS.lload X156.here hx rfl (hb hby at_35) rfl k) ?_
  show own_G p e below (T156.setTop (mkF m 37 #[.val (.long q1), .second, .val (.long q2), .second, .val (.int p3), .val (.int p4), .val (.long dur), .second, .val (.ref b143), .unset] [(.long dur)])) _
  refine own_go (fun _ k => XS.lconst X156.here hx rfl (hb hby at_37) k) ?_
  show own_G p e below (T156.setTop (mkF m 38 #[.val (.long q1), .second, .val (.long q2), .second, .val (.int p3), .val (.int p4), .val (.long dur), .second, .val (.ref b143), .unset] [(.long (0 : Int64)), (.long dur)])) _
  refine own_go (fun _ k => XS.lcmp X156.here hx rfl (hb hby at_38) rfl k) ?_
  show own_G p e below (T156.setTop (mkF m 39 #[.val (.long q1), .second, .val (.long q2), .second, .val (.int p3), .val (.int p4), .val (.long dur), .second, .val (.ref b143), .unset] [(.int (lcmpW dur (0 : Int64)))])) _
  by_cases hc39_159 : dur < (0 : Int64)
  · refine own_go (fun _ k => XS.ifNo X156.here hx rfl (hb hby at_39) rfl ((if0 _ _).trans (tlt ((lw_lt _ _).mpr hc39_159)).2.1) k) ?_
    show own_G p e below (T156.setTop (mkF m 42 #[.val (.long q1), .second, .val (.long q2), .second, .val (.int p3), .val (.int p4), .val (.long dur), .second, .val (.ref b143), .unset] [])) _
    refine own_go (fun _ k => XS.iconst X156.here hx rfl (hb hby at_42) k) ?_
    show own_G p e below (T156.setTop (mkF m 43 #[.val (.long q1), .second, .val (.long q2), .second, .val (.int p3), .val (.int p4), .val (.long dur), .second, .val (.ref b143), .unset] [(.int (0 : Int32))])) _
    refine own_go (fun _ k => XS.istore X156.here hx rfl (hb hby at_43) rfl (l' := #[.val (.long q1), .second, .val (.long q2), .second, .val (.int p3), .val (.int p4), .val (.long dur), .second, .val (.ref b143), .val (.int (0 : Int32))]) rfl k) ?_
    show own_G p e below (T156.setTop (mkF m 45 #[.val (.long q1), .second, .val (.long q2), .second, .val (.int p3), .val (.int p4), .val (.long dur), .second, .val (.ref b143), .val (.int (0 : Int32))] [])) _
    refine own_go (fun _ k => XS.goto X156.here hx rfl (pc0 := 45) (pc' := 66) rfl (hb hby at_45) (by decide) (by decide) k) ?_
    show own_G p e below (T156.setTop (mkF m 66 #[.val (.long q1), .second, .val (.long q2), .second, .val (.int p3), .val (.int p4), .val (.long dur), .second, .val (.ref b143), .val (.int (0 : Int32))] [])) _
    refine own_go (fun _ k => XS.aload X156.here hx rfl (hb hby at_66) rfl rfl k) ?_
    show own_G p e below (T156.setTop (mkF m 68 #[.val (.long q1), .second, .val (.long q2), .second, .val (.int p3), .val (.int p4), .val (.long dur), .second, .val (.ref b143), .val (.int (0 : Int32))] [(.ref b143)])) _
    obtain ⟨cq160, kq160, q160a, q160b, q160c⟩ := isOf hZ rfl E156q
    obtain ⟨_, _, ⟨T160, L160, k160, n160⟩, -, X160, ⟨Lc160, hQ160, l160, y160, z160⟩, st160⟩ := X156.virtualBack hx (y := (⟨"emberglass/ChunkHeader", "hasEnd", "()Z"⟩ : MethodName)) (z := (⟨"emberglass/ChunkHeader", "hasEnd", "()Z"⟩ : MethodName)) hown (mvT hZ (hw _ (List.mem_of_getElem? (i := 41) rfl))) (mvT hZ (hw _ (List.mem_of_getElem? (i := 42) rfl))) (notFace_of_selects (args := #[]) (mvT hZ (hw _ (List.mem_of_getElem? (i := 44) rfl)))) (mvT hZ (hw _ (List.mem_of_getElem? (i := 44) rfl))) (mvT hZ (hw _ (List.mem_of_getElem? (i := 43) rfl))) (by decide) (backOf (W := 0) (rm5 l Z a0 hw [] b143 q1 dur T156.heap n0 zs158 Fs156 Fd156) hZ (hw _ (List.mem_of_getElem? (i := 45) rfl)) (hw _ (List.mem_of_getElem? (i := 6) rfl)) (by decide) (by decide)) q160a q160c (g := (mkF m 68 #[.val (.long q1), .second, .val (.long q2), .second, .val (.int p3), .val (.int p4), .val (.long dur), .second, .val (.ref b143), .val (.int (0 : Int32))] [(.ref b143)])) rfl (by rw [hml]; rfl) (Steps.refl _) (argsL := []) (rest := []) (lenOf pd_3 rfl) rfl (by show 2 * 0 + _ ≤ _; exact Nat.le_of_eq rfl) (hb hby at_68) (fun _ _ => ⟨rfl, rfl, (by decide : 0 + 0 + 1 + 0 + 0 ≤ _), (by decide : 0 + 0 + 10 + 0 + 0 ≤ _)⟩)
    dsimp only [Pt.U, Pt.locs, Pt.cells, Pt.slots] at X160 l160 y160 z160 st160 hQ160
    subst l160 y160 z160
    obtain ⟨z160', rfl, Nq160, hh160, hz160⟩ := hQ160
    have N160 := Fr.app N156 Nq160
    refine own_go (fun _ k => st160.trans k) ?_
    have e160 : T160.heap = T156.heap := hh160
    show own_G p e below (T160.setTop (mkF m 71 #[.val (.long q1), .second, .val (.long q2), .second, .val (.int p3), .val (.int p4), .val (.long dur), .second, .val (.ref b143), .val (.int (0 : Int32))] [(.int z160')])) _
    rcases hz160 with ⟨rfl, g0, g1⟩ | ⟨rfl, g0⟩
    · exact absurd hc39_159 g0
    · show own_G p e below (T160.setTop (mkF m 71 #[.val (.long q1), .second, .val (.long q2), .second, .val (.int p3), .val (.int p4), .val (.long dur), .second, .val (.ref b143), .val (.int (0 : Int32))] [(.int (0 : Int32))])) _
      refine own_go (fun _ k => XS.iload X160.here hx rfl (hb hby at_71) rfl k) ?_
      show own_G p e below (T160.setTop (mkF m 73 #[.val (.long q1), .second, .val (.long q2), .second, .val (.int p3), .val (.int p4), .val (.long dur), .second, .val (.ref b143), .val (.int (0 : Int32))] [(.int (0 : Int32)), (.int (0 : Int32))])) _
      refine own_go (fun _ k => XS.icmpNo X160.here hx rfl (hb hby at_73) rfl (teq (by decide : (0 : Int32) = (0 : Int32))).2 k) ?_
      show own_G p e below (T160.setTop (mkF m 76 #[.val (.long q1), .second, .val (.long q2), .second, .val (.int p3), .val (.int p4), .val (.long dur), .second, .val (.ref b143), .val (.int (0 : Int32))] [])) _
      refine own_go (fun _ k => XS.iconst X160.here hx rfl (hb hby at_76) k) ?_
      show own_G p e below (T160.setTop (mkF m 77 #[.val (.long q1), .second, .val (.long q2), .second, .val (.int p3), .val (.int p4), .val (.long dur), .second, .val (.ref b143), .val (.int (0 : Int32))] [(.int (1 : Int32))])) _
      refine own_go (fun _ k => XS.goto X160.here hx rfl (pc0 := 77) (pc' := 81) rfl (hb hby at_77) (by decide) (by decide) k) ?_
      show own_G p e below (T160.setTop (mkF m 81 #[.val (.long q1), .second, .val (.long q2), .second, .val (.int p3), .val (.int p4), .val (.long dur), .second, .val (.ref b143), .val (.int (0 : Int32))] [(.int (1 : Int32))])) _
      refine own_ret X160 hlk (v := some (.int (1 : Int32))) (fun h => by rw [hret] at h; cases h) (Q0 Z q1 q2 p3 p4 h0 n0) (own_retI X160 hx (t := .boolean) hret rfl (Or.inl ⟨rfl, by simp, _, rfl⟩) (hb hby at_81)) (by decide) (by decide) ?_
      show Q0 Z q1 q2 p3 p4 h0 n0 _ T160.heap _
      rw [e160]
      exact ⟨rfl, N160⟩
  · refine own_go (fun _ k => XS.ifYes X156.here hx rfl (pc0 := 39) (pc' := 48) rfl (hb hby at_39) rfl ((if0 _ _).trans (flt (fun q => hc39_159 ((lw_lt _ _).mp q))).2.1) (by decide) (by decide) k) ?_
    show own_G p e below (T156.setTop (mkF m 48 #[.val (.long q1), .second, .val (.long q2), .second, .val (.int p3), .val (.int p4), .val (.long dur), .second, .val (.ref b143), .unset] [])) _
    refine own_go (fun _ k => XS.lloadN X156.here hx rfl (hb hby at_48) rfl k) ?_
    show own_G p e below (T156.setTop (mkF m 49 #[.val (.long q1), .second, .val (.long q2), .second, .val (.int p3), .val (.int p4), .val (.long dur), .second, .val (.ref b143), .unset] [(.long q1)])) _
    refine own_go (X156.ldc2Long hx hown (mvT hZ (hw _ (List.mem_of_getElem? (i := 40) rfl))) (g := (mkF m 49 #[.val (.long q1), .second, .val (.long q2), .second, .val (.int p3), .val (.int p4), .val (.long dur), .second, .val (.ref b143), .unset] [(.long q1)])) rfl (hb hby at_49)) ?_
    show own_G p e below (T156.setTop (mkF m 52 #[.val (.long q1), .second, .val (.long q2), .second, .val (.int p3), .val (.int p4), .val (.long dur), .second, .val (.ref b143), .unset] [(.long (9223372036854775807 : Int64)), (.long q1)])) _
    refine own_go (fun _ k => XS.lload X156.here hx rfl (hb hby at_52) rfl k) ?_
    show own_G p e below (T156.setTop (mkF m 54 #[.val (.long q1), .second, .val (.long q2), .second, .val (.int p3), .val (.int p4), .val (.long dur), .second, .val (.ref b143), .unset] [(.long dur), (.long (9223372036854775807 : Int64)), (.long q1)])) _
    refine own_go (fun _ k => XS.lsub X156.here hx rfl (hb hby at_54) rfl k) ?_
    show own_G p e below (T156.setTop (mkF m 55 #[.val (.long q1), .second, .val (.long q2), .second, .val (.int p3), .val (.int p4), .val (.long dur), .second, .val (.ref b143), .unset] [(.long ((9223372036854775807 : Int64) - dur)), (.long q1)])) _
    refine own_go (fun _ k => XS.lcmp X156.here hx rfl (hb hby at_55) rfl k) ?_
    show own_G p e below (T156.setTop (mkF m 56 #[.val (.long q1), .second, .val (.long q2), .second, .val (.int p3), .val (.int p4), .val (.long dur), .second, .val (.ref b143), .unset] [(.int (lcmpW q1 ((9223372036854775807 : Int64) - dur)))])) _
    by_cases hc56_161 : ((9223372036854775807 : Int64) - dur) < q1
    · refine own_go (fun _ k => XS.ifYes X156.here hx rfl (pc0 := 56) (pc' := 63) rfl (hb hby at_56) rfl ((if0 _ _).trans (tlt ((lw_gt _ _).mpr hc56_161)).2.2.1) (by decide) (by decide) k) ?_
      show own_G p e below (T156.setTop (mkF m 63 #[.val (.long q1), .second, .val (.long q2), .second, .val (.int p3), .val (.int p4), .val (.long dur), .second, .val (.ref b143), .unset] [])) _
      refine own_go (fun _ k => XS.iconst X156.here hx rfl (hb hby at_63) k) ?_
      show own_G p e below (T156.setTop (mkF m 64 #[.val (.long q1), .second, .val (.long q2), .second, .val (.int p3), .val (.int p4), .val (.long dur), .second, .val (.ref b143), .unset] [(.int (0 : Int32))])) _
      refine own_go (fun _ k => XS.istore X156.here hx rfl (hb hby at_64) rfl (l' := #[.val (.long q1), .second, .val (.long q2), .second, .val (.int p3), .val (.int p4), .val (.long dur), .second, .val (.ref b143), .val (.int (0 : Int32))]) rfl k) ?_
      show own_G p e below (T156.setTop (mkF m 66 #[.val (.long q1), .second, .val (.long q2), .second, .val (.int p3), .val (.int p4), .val (.long dur), .second, .val (.ref b143), .val (.int (0 : Int32))] [])) _
      refine own_go (fun _ k => XS.aload X156.here hx rfl (hb hby at_66) rfl rfl k) ?_
      show own_G p e below (T156.setTop (mkF m 68 #[.val (.long q1), .second, .val (.long q2), .second, .val (.int p3), .val (.int p4), .val (.long dur), .second, .val (.ref b143), .val (.int (0 : Int32))] [(.ref b143)])) _
      obtain ⟨cq162, kq162, q162a, q162b, q162c⟩ := isOf hZ rfl E156q
      obtain ⟨_, _, ⟨T162, L162, k162, n162⟩, -, X162, ⟨Lc162, hQ162, l162, y162, z162⟩, st162⟩ := X156.virtualBack hx (y := (⟨"emberglass/ChunkHeader", "hasEnd", "()Z"⟩ : MethodName)) (z := (⟨"emberglass/ChunkHeader", "hasEnd", "()Z"⟩ : MethodName)) hown (mvT hZ (hw _ (List.mem_of_getElem? (i := 41) rfl))) (mvT hZ (hw _ (List.mem_of_getElem? (i := 42) rfl))) (notFace_of_selects (args := #[]) (mvT hZ (hw _ (List.mem_of_getElem? (i := 44) rfl)))) (mvT hZ (hw _ (List.mem_of_getElem? (i := 44) rfl))) (mvT hZ (hw _ (List.mem_of_getElem? (i := 43) rfl))) (by decide) (backOf (W := 0) (rm5 l Z a0 hw [] b143 q1 dur T156.heap n0 zs158 Fs156 Fd156) hZ (hw _ (List.mem_of_getElem? (i := 45) rfl)) (hw _ (List.mem_of_getElem? (i := 6) rfl)) (by decide) (by decide)) q162a q162c (g := (mkF m 68 #[.val (.long q1), .second, .val (.long q2), .second, .val (.int p3), .val (.int p4), .val (.long dur), .second, .val (.ref b143), .val (.int (0 : Int32))] [(.ref b143)])) rfl (by rw [hml]; rfl) (Steps.refl _) (argsL := []) (rest := []) (lenOf pd_3 rfl) rfl (by show 2 * 0 + _ ≤ _; exact Nat.le_of_eq rfl) (hb hby at_68) (fun _ _ => ⟨rfl, rfl, (by decide : 0 + 0 + 1 + 0 + 0 ≤ _), (by decide : 0 + 0 + 10 + 0 + 0 ≤ _)⟩)
      dsimp only [Pt.U, Pt.locs, Pt.cells, Pt.slots] at X162 l162 y162 z162 st162 hQ162
      subst l162 y162 z162
      obtain ⟨z162', rfl, Nq162, hh162, hz162⟩ := hQ162
      have N162 := Fr.app N156 Nq162
      refine own_go (fun _ k => st162.trans k) ?_
      have e162 : T162.heap = T156.heap := hh162
      show own_G p e below (T162.setTop (mkF m 71 #[.val (.long q1), .second, .val (.long q2), .second, .val (.int p3), .val (.int p4), .val (.long dur), .second, .val (.ref b143), .val (.int (0 : Int32))] [(.int z162')])) _
      rcases hz162 with ⟨rfl, g0, g1⟩ | ⟨rfl, g0⟩
      · exact absurd ((own_end q1 dur g0).mpr hc56_161) g1
      · show own_G p e below (T162.setTop (mkF m 71 #[.val (.long q1), .second, .val (.long q2), .second, .val (.int p3), .val (.int p4), .val (.long dur), .second, .val (.ref b143), .val (.int (0 : Int32))] [(.int (0 : Int32))])) _
        refine own_go (fun _ k => XS.iload X162.here hx rfl (hb hby at_71) rfl k) ?_
        show own_G p e below (T162.setTop (mkF m 73 #[.val (.long q1), .second, .val (.long q2), .second, .val (.int p3), .val (.int p4), .val (.long dur), .second, .val (.ref b143), .val (.int (0 : Int32))] [(.int (0 : Int32)), (.int (0 : Int32))])) _
        refine own_go (fun _ k => XS.icmpNo X162.here hx rfl (hb hby at_73) rfl (teq (by decide : (0 : Int32) = (0 : Int32))).2 k) ?_
        show own_G p e below (T162.setTop (mkF m 76 #[.val (.long q1), .second, .val (.long q2), .second, .val (.int p3), .val (.int p4), .val (.long dur), .second, .val (.ref b143), .val (.int (0 : Int32))] [])) _
        refine own_go (fun _ k => XS.iconst X162.here hx rfl (hb hby at_76) k) ?_
        show own_G p e below (T162.setTop (mkF m 77 #[.val (.long q1), .second, .val (.long q2), .second, .val (.int p3), .val (.int p4), .val (.long dur), .second, .val (.ref b143), .val (.int (0 : Int32))] [(.int (1 : Int32))])) _
        refine own_go (fun _ k => XS.goto X162.here hx rfl (pc0 := 77) (pc' := 81) rfl (hb hby at_77) (by decide) (by decide) k) ?_
        show own_G p e below (T162.setTop (mkF m 81 #[.val (.long q1), .second, .val (.long q2), .second, .val (.int p3), .val (.int p4), .val (.long dur), .second, .val (.ref b143), .val (.int (0 : Int32))] [(.int (1 : Int32))])) _
        refine own_ret X162 hlk (v := some (.int (1 : Int32))) (fun h => by rw [hret] at h; cases h) (Q0 Z q1 q2 p3 p4 h0 n0) (own_retI X162 hx (t := .boolean) hret rfl (Or.inl ⟨rfl, by simp, _, rfl⟩) (hb hby at_81)) (by decide) (by decide) ?_
        show Q0 Z q1 q2 p3 p4 h0 n0 _ T162.heap _
        rw [e162]
        exact ⟨rfl, N162⟩
    · refine own_go (fun _ k => XS.ifNo X156.here hx rfl (hb hby at_56) rfl ((if0 _ _).trans (flt (fun q => hc56_161 ((lw_gt _ _).mp q))).2.2.1) k) ?_
      show own_G p e below (T156.setTop (mkF m 59 #[.val (.long q1), .second, .val (.long q2), .second, .val (.int p3), .val (.int p4), .val (.long dur), .second, .val (.ref b143), .unset] [])) _
      refine own_go (fun _ k => XS.iconst X156.here hx rfl (hb hby at_59) k) ?_
      show own_G p e below (T156.setTop (mkF m 60 #[.val (.long q1), .second, .val (.long q2), .second, .val (.int p3), .val (.int p4), .val (.long dur), .second, .val (.ref b143), .unset] [(.int (1 : Int32))])) _
      refine own_go (fun _ k => XS.goto X156.here hx rfl (pc0 := 60) (pc' := 64) rfl (hb hby at_60) (by decide) (by decide) k) ?_
      show own_G p e below (T156.setTop (mkF m 64 #[.val (.long q1), .second, .val (.long q2), .second, .val (.int p3), .val (.int p4), .val (.long dur), .second, .val (.ref b143), .unset] [(.int (1 : Int32))])) _
      refine own_go (fun _ k => XS.istore X156.here hx rfl (hb hby at_64) rfl (l' := #[.val (.long q1), .second, .val (.long q2), .second, .val (.int p3), .val (.int p4), .val (.long dur), .second, .val (.ref b143), .val (.int (1 : Int32))]) rfl k) ?_
      show own_G p e below (T156.setTop (mkF m 66 #[.val (.long q1), .second, .val (.long q2), .second, .val (.int p3), .val (.int p4), .val (.long dur), .second, .val (.ref b143), .val (.int (1 : Int32))] [])) _
      refine own_go (fun _ k => XS.aload X156.here hx rfl (hb hby at_66) rfl rfl k) ?_
      show own_G p e below (T156.setTop (mkF m 68 #[.val (.long q1), .second, .val (.long q2), .second, .val (.int p3), .val (.int p4), .val (.long dur), .second, .val (.ref b143), .val (.int (1 : Int32))] [(.ref b143)])) _
      obtain ⟨cq163, kq163, q163a, q163b, q163c⟩ := isOf hZ rfl E156q
      obtain ⟨_, _, ⟨T163, L163, k163, n163⟩, -, X163, ⟨Lc163, hQ163, l163, y163, z163⟩, st163⟩ := X156.virtualBack hx (y := (⟨"emberglass/ChunkHeader", "hasEnd", "()Z"⟩ : MethodName)) (z := (⟨"emberglass/ChunkHeader", "hasEnd", "()Z"⟩ : MethodName)) hown (mvT hZ (hw _ (List.mem_of_getElem? (i := 41) rfl))) (mvT hZ (hw _ (List.mem_of_getElem? (i := 42) rfl))) (notFace_of_selects (args := #[]) (mvT hZ (hw _ (List.mem_of_getElem? (i := 44) rfl)))) (mvT hZ (hw _ (List.mem_of_getElem? (i := 44) rfl))) (mvT hZ (hw _ (List.mem_of_getElem? (i := 43) rfl))) (by decide) (backOf (W := 0) (rm5 l Z a0 hw [] b143 q1 dur T156.heap n0 zs158 Fs156 Fd156) hZ (hw _ (List.mem_of_getElem? (i := 45) rfl)) (hw _ (List.mem_of_getElem? (i := 6) rfl)) (by decide) (by decide)) q163a q163c (g := (mkF m 68 #[.val (.long q1), .second, .val (.long q2), .second, .val (.int p3), .val (.int p4), .val (.long dur), .second, .val (.ref b143), .val (.int (1 : Int32))] [(.ref b143)])) rfl (by rw [hml]; rfl) (Steps.refl _) (argsL := []) (rest := []) (lenOf pd_3 rfl) rfl (by show 2 * 0 + _ ≤ _; exact Nat.le_of_eq rfl) (hb hby at_68) (fun _ _ => ⟨rfl, rfl, (by decide : 0 + 0 + 1 + 0 + 0 ≤ _), (by decide : 0 + 0 + 10 + 0 + 0 ≤ _)⟩)
      dsimp only [Pt.U, Pt.locs, Pt.cells, Pt.slots] at X163 l163 y163 z163 st163 hQ163
      subst l163 y163 z163
      obtain ⟨z163', rfl, Nq163, hh163, hz163⟩ := hQ163
      have N163 := Fr.app N156 Nq163
      refine own_go (fun _ k => st163.trans k) ?_
      have e163 : T163.heap = T156.heap := hh163
      show own_G p e below (T163.setTop (mkF m 71 #[.val (.long q1), .second, .val (.long q2), .second, .val (.int p3), .val (.int p4), .val (.long dur), .second, .val (.ref b143), .val (.int (1 : Int32))] [(.int z163')])) _
      rcases hz163 with ⟨rfl, g0, g1⟩ | ⟨rfl, g0⟩
      · show own_G p e below (T163.setTop (mkF m 71 #[.val (.long q1), .second, .val (.long q2), .second, .val (.int p3), .val (.int p4), .val (.long dur), .second, .val (.ref b143), .val (.int (1 : Int32))] [(.int (1 : Int32))])) _
        refine own_go (fun _ k => XS.iload X163.here hx rfl (hb hby at_71) rfl k) ?_
        show own_G p e below (T163.setTop (mkF m 73 #[.val (.long q1), .second, .val (.long q2), .second, .val (.int p3), .val (.int p4), .val (.long dur), .second, .val (.ref b143), .val (.int (1 : Int32))] [(.int (1 : Int32)), (.int (1 : Int32))])) _
        refine own_go (fun _ k => XS.icmpNo X163.here hx rfl (hb hby at_73) rfl (teq (by decide : (1 : Int32) = (1 : Int32))).2 k) ?_
        show own_G p e below (T163.setTop (mkF m 76 #[.val (.long q1), .second, .val (.long q2), .second, .val (.int p3), .val (.int p4), .val (.long dur), .second, .val (.ref b143), .val (.int (1 : Int32))] [])) _
        refine own_go (fun _ k => XS.iconst X163.here hx rfl (hb hby at_76) k) ?_
        show own_G p e below (T163.setTop (mkF m 77 #[.val (.long q1), .second, .val (.long q2), .second, .val (.int p3), .val (.int p4), .val (.long dur), .second, .val (.ref b143), .val (.int (1 : Int32))] [(.int (1 : Int32))])) _
        refine own_go (fun _ k => XS.goto X163.here hx rfl (pc0 := 77) (pc' := 81) rfl (hb hby at_77) (by decide) (by decide) k) ?_
        show own_G p e below (T163.setTop (mkF m 81 #[.val (.long q1), .second, .val (.long q2), .second, .val (.int p3), .val (.int p4), .val (.long dur), .second, .val (.ref b143), .val (.int (1 : Int32))] [(.int (1 : Int32))])) _
        refine own_ret X163 hlk (v := some (.int (1 : Int32))) (fun h => by rw [hret] at h; cases h) (Q0 Z q1 q2 p3 p4 h0 n0) (own_retI X163 hx (t := .boolean) hret rfl (Or.inl ⟨rfl, by simp, _, rfl⟩) (hb hby at_81)) (by decide) (by decide) ?_
        show Q0 Z q1 q2 p3 p4 h0 n0 _ T163.heap _
        rw [e163]
        exact ⟨rfl, N163⟩
      · exact absurd (g0.elim (fun q => absurd q hc39_159) (fun q => (own_end q1 dur hc39_159).mp q)) hc56_161
set_option maxRecDepth 65536 in
set_option maxHeartbeats 40000000 in
theorem comes_1 {Post : Tables → Env → Array Value → State → Outcome → State → Prop} (hpost : ∀ tb e args s v u, (limb_1_1.after args s (.returned v) u = true ∧ limb_1_2.after args s (.returned v) u = true ∧ True) → FrameEnd s (.returned v) u (Jvm.fieldLocs frame_1_writes args s ++ Jvm.arrayLocs frame_1_arrays args s ++ Jvm.staticLocs frame_1_statics s) 16 128 → Post tb e args s (.returned v) u) :
    ArmFor flags0 classFile x code maxLocals ret World_1 tables_1 room_1 Calls_1 rest_1 Pre_1 Post := by
  intro l hfl _ _ p e ha hc hk s m args below hf hA hF happ hP
  obtain ⟨hcalls, hrest, hpre⟩ := hP
  obtain ⟨-, -, -, hnamed, -, -, -, hat⟩ := (Spec.applies_iff hf).mp happ
  obtain ⟨hg, hn⟩ := and_e (Cond.before_iff.mp (show (Jvm.Cond.and given_1 narrow_1).before args s = true from hpre))
  obtain ⟨g1, g2⟩ := and_e hg
  obtain ⟨g3, g4⟩ := and_e g2
  obtain ⟨g5, g6⟩ := and_e g4
  obtain ⟨g7, g8⟩ := and_e g6
  obtain ⟨w0, w1, w2, w3, rfl⟩ : ∃ w0 w1 w2 w3 : Value, args = #[w0, w1, w2, w3] := by
    have hs : args.size = 4 := by simpa [Cond.value, given_1] using g1
    obtain ⟨L⟩ := args
    match L, hs with
    | [w0, w1, w2, w3], _ => exact ⟨w0, w1, w2, w3, rfl⟩
  have hw := fun d (hd : d ∈ tables_1) => atoms_spec (ws := Jvm.Cond.code x code maxLocals ret :: tables_1) hat d (List.mem_cons_of_mem _ hd)
  obtain ⟨i0, ei0⟩ := isL_v g3
  obtain rfl : w0 = (.long i0) := Option.some.inj ei0
  obtain ⟨i1, ei1⟩ := isL_v g5
  obtain rfl : w1 = (.long i1) := Option.some.inj ei1
  obtain ⟨i2, ei2⟩ := is_v g7
  obtain rfl : w2 = (.int i2) := Option.some.inj ei2
  obtain ⟨i3, ei3⟩ := is_v g8
  obtain rfl : w3 = (.int i3) := Option.some.inj ei3
  obtain ⟨n, o, h1, h2, h3, _, L, rfl, ⟨rfl, N⟩, hq⟩ := rm0 l s _ hw tables_1 i0 i1 i2 i3 s.heap s.heap.size (Nat.le_refl _) p e ha hc hk s m _ below hf ((Spec.applies_iff_loose hf).mp happ).1 ⟨rfl, State.Warmed39.refl s, rfl⟩ trivial
  refine ⟨n, _, h1, h2, h3, hpost _ _ _ _ _ _ ⟨Cond.after_iff.mpr rfl, Cond.after_iff.mpr (eq_i res_at (Term.int_eval (1)) rfl), trivial⟩ ⟨hq.1, hq.2.1, (hq.2.2.sift fun y hy => Or.inr (N y hy)).mono (by decide) (by decide)⟩⟩
theorem main_1_1 : Claimed_1_1 := comes_1 fun _ _ _ _ _ _ h hF => ⟨h.1, hF⟩
theorem main_1_2 : Claimed_1_2 := comes_1 fun _ _ _ _ _ _ h hF => ⟨h.2.1, hF⟩
end Jvm.Pilot.@@N@@
namespace Jvm.Pilot.@@N@@
open Jvm Jvm.ClassFile Sem Op Lib Jvm.Free Jvm.Stand Jvm.Pilot.@@N@@.Jvm.D
/-! MADE BY PROGRAM (witnessworld.py) out of the Statement's table words and the real class files: 10 classes; the members and pool entries that the words name. The judged class is class 1, her method 2. -/
namespace start1
open Jvm.ClassFile
def u (s : String) : CpInfo := .utf8 (stringToUtf16 s)
/-- a pool by its gaps: so many unusable entries, then the entry; so many at the end -/
def gap : Nat → List CpInfo → List CpInfo
  | 0, r => r
  | n + 1, r => .unusable :: gap n r
def poolList (es : List (Nat × CpInfo)) (last : Nat) : List CpInfo := es.foldr (fun e r => gap e.1 (e.2 :: r)) (gap last [])
def pool (es : List (Nat × CpInfo)) (last : Nat) : Array CpInfo := ⟨poolList es last⟩
def fileOf (pool : Array CpInfo) (this : Nat) (attrs : Array Attribute := #[]) (ms : Array MethodInfo := #[]) (fl : Nat := 33) (sup : Nat := 0) (ifs : Array Nat := #[]) (fds : Array FieldInfo := #[]) : ClassFile where
  minorVersion := 0
  majorVersion := 65
  constantPool := pool
  accessFlags := fl
  thisClass := this
  superClass := sup
  interfaces := ifs
  fields := fds
  methods := ms
  attributes := attrs
def plain (name : String) (sup : Option ClassId) : Class where
  name := name
  kind := .ordinary
  loader := none
  accessFlags := 33
  super := sup
  interfaces := #[]
  cf := none
  fields := #[]
  methods := #[]
  instanceTypes := #[]
  staticTypes := #[]
  resolved := #[]
  callSites := []
  init := .initialized
  statics := none
  mirror := none

def pool0 : Array CpInfo := pool [(5, u "<init>"), (0, u "()V"), (1, .class_ 10), (1, u "java/lang/Object")] 113

def k0c0 : Code := { maxStack := 0, maxLocals := 1, code := object_method_1_code, exceptionTable := #[], attributes := #[] }
def k0m0 : Method := { name := "<init>", desc := "()V", sig := { parameters := [], returnType := none }, accessFlags := 1, code := some k0c0 }
/-- java/lang/Object -/
def k0 : Class := { plain "java/lang/Object" none with
  accessFlags := 33
  interfaces := #[]
  cf := some (fileOf pool0 8 #[] #[{ accessFlags := 1, nameIndex := 5, descriptorIndex := 6, attributes := #[] }] 33 0 #[] #[])
  fields := #[]
  methods := #[k0m0]
  instanceTypes := #[]
  staticTypes := #[]
  resolved := Array.replicate 124 none
  statics := none }

def pool1 : Array CpInfo := pool [(2, .class_ 4), (1, u "java/lang/Object"), (0, u "<init>"), (0, u "()V"), (2, .long 9223372036854775807), (1, .long 9223372036854775808), (1, .long 3), (1, .methodref 16 17), (0, .class_ 18), (0, .nameAndType 19 20), (0, u "emberglass/ChunkHeaderHasEndPinLaw"), (0, u "pickDuration"), (0, u "(JJI)J"), (0, .class_ 22), (0, u "emberglass/ChunkHeader"), (0, .long 68), (1, .long 1000000000), (1, .methodref 21 28), (0, .nameAndType 5 29), (0, u "(IIJJJJJJJI)V"), (0, .methodref 21 31), (0, .nameAndType 32 33), (0, u "hasEnd"), (0, u "()Z"), (3, u "law"), (0, u "(JJII)Z")] 2

def k1m0 : Method := { name := "<init>", desc := "()V", sig := { parameters := [], returnType := none }, accessFlags := 1, code := none }
def k1c1 : Code := { maxStack := 6, maxLocals := 8, code := method_2_code, exceptionTable := #[], attributes := #[] }
def k1m1 : Method := { name := "pickDuration", desc := "(JJI)J", sig := { parameters := [.long, .long, .int], returnType := some .long }, accessFlags := 10, code := some k1c1 }
def k1c2 : Code := { maxStack := 19, maxLocals := 10, code := code, exceptionTable := #[], attributes := #[] }
def k1m2 : Method := { name := "law", desc := "(JJII)Z", sig := { parameters := [.long, .long, .int, .int], returnType := some .boolean }, accessFlags := 9, code := some k1c2 }
/-- emberglass/ChunkHeaderHasEndPinLaw -/
def k1 : Class := { plain "emberglass/ChunkHeaderHasEndPinLaw" (some 0) with
  accessFlags := 49
  interfaces := #[]
  cf := some (fileOf pool1 16 #[] #[{ accessFlags := 1, nameIndex := 5, descriptorIndex := 6, attributes := #[] }, { accessFlags := 10, nameIndex := 19, descriptorIndex := 20, attributes := #[] }, { accessFlags := 9, nameIndex := 37, descriptorIndex := 38, attributes := #[] }] 49 2 #[] #[])
  fields := #[]
  methods := #[k1m0, k1m1, k1m2]
  instanceTypes := #[]
  staticTypes := #[]
  resolved := Array.replicate 41 none
  statics := none }

def pool2 : Array CpInfo := pool [(1, .methodref 2 3), (0, .class_ 4), (0, .nameAndType 5 6), (0, u "java/lang/Object"), (0, u "<init>"), (0, u "()V"), (0, .class_ 8), (0, u "java/lang/Record")] 13

def k2c0 : Code := { maxStack := 1, maxLocals := 1, code := jdk_30_method_1_code, exceptionTable := #[], attributes := #[] }
def k2m0 : Method := { name := "<init>", desc := "()V", sig := { parameters := [], returnType := none }, accessFlags := 4, code := some k2c0 }
/-- java/lang/Record -/
def k2 : Class := { plain "java/lang/Record" (some 0) with
  accessFlags := 1057
  interfaces := #[]
  cf := some (fileOf pool2 7 #[] #[{ accessFlags := 4, nameIndex := 5, descriptorIndex := 6, attributes := #[] }] 1057 2 #[] #[])
  fields := #[]
  methods := #[k2m0]
  instanceTypes := #[]
  staticTypes := #[]
  resolved := Array.replicate 22 none
  statics := none }

def pool3 : Array CpInfo := pool [(1, .class_ 2), (0, u "emberglass/ChunkHeader"), (2, .methodref 6 7), (0, .class_ 8), (0, .nameAndType 9 10), (0, u "java/lang/Record"), (0, u "<init>"), (0, u "()V"), (0, .fieldref 1 12), (0, .nameAndType 13 14), (0, u "majorVersion"), (0, u "I"), (0, .fieldref 1 16), (0, .nameAndType 17 14), (0, u "minorVersion"), (0, .fieldref 1 19), (0, .nameAndType 20 21), (0, u "size"), (0, u "J"), (0, .fieldref 1 23), (0, .nameAndType 24 21), (0, u "constantPoolOffset"), (0, .fieldref 1 26), (0, .nameAndType 27 21), (0, u "metadataOffset"), (0, .fieldref 1 29), (0, .nameAndType 30 21), (0, u "startNanos"), (0, .fieldref 1 32), (0, .nameAndType 33 21), (0, u "durationNanos"), (0, .fieldref 1 35), (0, .nameAndType 36 21), (0, u "startTicks"), (0, .fieldref 1 38), (0, .nameAndType 39 21), (0, u "ticksPerSecond"), (0, .fieldref 1 41), (0, .nameAndType 42 14), (0, u "flags"), (18, u "EVENTS_SLACK"), (0, u "Ljava/time/Duration;"), (6, u "hasEnd"), (0, u "()Z"), (18, u "EARLY_ENDS_SLACK"), (56, u "(IIJJJJJJJI)V"), (86, u "SIZE"), (2, u "CHECKED_SIZE"), (1, u "MAGIC"), (0, u "MAJOR_VERSION"), (1, u "UNFINISHED"), (0, u "NANOS_PER_SECOND")] 59

def k3c0 : Code := { maxStack := 3, maxLocals := 18, code := prog_12_method_1_code, exceptionTable := #[], attributes := #[] }
def k3m0 : Method := { name := "<init>", desc := "(IIJJJJJJJI)V", sig := { parameters := [.int, .int, .long, .long, .long, .long, .long, .long, .long, .int], returnType := none }, accessFlags := 1, code := some k3c0 }
def k3c1 : Code := { maxStack := 4, maxLocals := 1, code := prog_12_method_5_code, exceptionTable := #[], attributes := #[] }
def k3m1 : Method := { name := "hasEnd", desc := "()Z", sig := { parameters := [], returnType := some .boolean }, accessFlags := 0, code := some k3c1 }
/-- emberglass/ChunkHeader -/
def k3 : Class := { plain "emberglass/ChunkHeader" (some 2) with
  accessFlags := 49
  interfaces := #[]
  cf := some (fileOf pool3 1 #[] #[{ accessFlags := 1, nameIndex := 9, descriptorIndex := 146, attributes := #[] }, { accessFlags := 0, nameIndex := 69, descriptorIndex := 70, attributes := #[] }] 49 6 #[] #[{ accessFlags := 18, nameIndex := 13, descriptorIndex := 14, attributes := #[] }, { accessFlags := 18, nameIndex := 17, descriptorIndex := 14, attributes := #[] }, { accessFlags := 18, nameIndex := 20, descriptorIndex := 21, attributes := #[] }, { accessFlags := 18, nameIndex := 24, descriptorIndex := 21, attributes := #[] }, { accessFlags := 18, nameIndex := 27, descriptorIndex := 21, attributes := #[] }, { accessFlags := 18, nameIndex := 30, descriptorIndex := 21, attributes := #[] }, { accessFlags := 18, nameIndex := 33, descriptorIndex := 21, attributes := #[] }, { accessFlags := 18, nameIndex := 36, descriptorIndex := 21, attributes := #[] }, { accessFlags := 18, nameIndex := 39, descriptorIndex := 21, attributes := #[] }, { accessFlags := 18, nameIndex := 42, descriptorIndex := 14, attributes := #[] }, { accessFlags := 25, nameIndex := 233, descriptorIndex := 14, attributes := #[] }, { accessFlags := 24, nameIndex := 236, descriptorIndex := 14, attributes := #[] }, { accessFlags := 24, nameIndex := 238, descriptorIndex := 14, attributes := #[] }, { accessFlags := 24, nameIndex := 239, descriptorIndex := 14, attributes := #[] }, { accessFlags := 26, nameIndex := 241, descriptorIndex := 14, attributes := #[] }, { accessFlags := 26, nameIndex := 242, descriptorIndex := 21, attributes := #[] }, { accessFlags := 24, nameIndex := 61, descriptorIndex := 62, attributes := #[] }, { accessFlags := 24, nameIndex := 89, descriptorIndex := 62, attributes := #[] }])
  fields := #[{ name := "majorVersion", type := .int, accessFlags := 18, slot := 0, constantValue := 0 }, { name := "minorVersion", type := .int, accessFlags := 18, slot := 1, constantValue := 0 }, { name := "size", type := .long, accessFlags := 18, slot := 2, constantValue := 0 }, { name := "constantPoolOffset", type := .long, accessFlags := 18, slot := 3, constantValue := 0 }, { name := "metadataOffset", type := .long, accessFlags := 18, slot := 4, constantValue := 0 }, { name := "startNanos", type := .long, accessFlags := 18, slot := 5, constantValue := 0 }, { name := "durationNanos", type := .long, accessFlags := 18, slot := 6, constantValue := 0 }, { name := "startTicks", type := .long, accessFlags := 18, slot := 7, constantValue := 0 }, { name := "ticksPerSecond", type := .long, accessFlags := 18, slot := 8, constantValue := 0 }, { name := "flags", type := .int, accessFlags := 18, slot := 9, constantValue := 0 }, { name := "SIZE", type := .int, accessFlags := 25, slot := 0, constantValue := 0 }, { name := "CHECKED_SIZE", type := .int, accessFlags := 24, slot := 1, constantValue := 0 }, { name := "MAGIC", type := .int, accessFlags := 24, slot := 2, constantValue := 0 }, { name := "MAJOR_VERSION", type := .int, accessFlags := 24, slot := 3, constantValue := 0 }, { name := "UNFINISHED", type := .int, accessFlags := 26, slot := 4, constantValue := 0 }, { name := "NANOS_PER_SECOND", type := .long, accessFlags := 26, slot := 5, constantValue := 0 }, { name := "EVENTS_SLACK", type := (.object "java/time/Duration"), accessFlags := 24, slot := 6, constantValue := 0 }, { name := "EARLY_ENDS_SLACK", type := (.object "java/time/Duration"), accessFlags := 24, slot := 7, constantValue := 0 }]
  methods := #[k3m0, k3m1]
  instanceTypes := #[.int, .int, .long, .long, .long, .long, .long, .long, .long, .int]
  staticTypes := #[.int, .int, .int, .int, .int, .long, (.object "java/time/Duration"), (.object "java/time/Duration")]
  resolved := Array.replicate 302 none
  statics := none }

def pool4 : Array CpInfo := pool [(1, u "java/lang/Cloneable"), (0, .class_ 1), (0, u "java/lang/Object"), (0, .class_ 3)] 3

/-- java/lang/Cloneable -/
def k4 : Class := { plain "java/lang/Cloneable" (some 0) with
  accessFlags := 1537
  interfaces := #[]
  cf := some (fileOf pool4 2 #[] #[] 1537 4 #[] #[])
  fields := #[]
  methods := #[]
  instanceTypes := #[]
  staticTypes := #[]
  resolved := Array.replicate 8 none
  statics := none }

def pool5 : Array CpInfo := pool [(1, u "java/io/Serializable"), (0, .class_ 1), (0, u "java/lang/Object"), (0, .class_ 3)] 3

/-- java/io/Serializable -/
def k5 : Class := { plain "java/io/Serializable" (some 0) with
  accessFlags := 1537
  interfaces := #[]
  cf := some (fileOf pool5 2 #[] #[] 1537 4 #[] #[])
  fields := #[]
  methods := #[]
  instanceTypes := #[]
  staticTypes := #[]
  resolved := Array.replicate 8 none
  statics := none }

/-- the primitive byte -/
def k6 : Class := { plain "byte" none with kind := .primitive 'B', accessFlags := 0x411 }
/-- [B -/
def k7 : Class := { plain "[B" (some 0) with kind := .array 6 .byte, interfaces := #[4, 5], accessFlags := 1041 }

/-- the primitive int -/
def k8 : Class := { plain "int" none with kind := .primitive 'I', accessFlags := 0x411 }
/-- [I -/
def k9 : Class := { plain "[I" (some 0) with kind := .array 8 .int, interfaces := #[4, 5], accessFlags := 1041 }

def heap : Heap := #[]
def classes : Array Class := #[k0, k1, k2, k3, k4, k5, k6, k7, k8, k9]
def interned : List (Array UInt16 × Addr) := []
def slotsUsed : Nat := 0
def theMethod : MethodId := ⟨1, 2⟩
def args0 : Array Value := #[.long 5, .long 5, .int 5, .int 5]
def aboutOver (below : List Frame) : State where
  vm := { classes := classes, interned := interned.toArray }
  heap := heap
  slotsUsed := slotsUsed
  threads := #[{ frames := .invoking theMethod args0 :: below }]
def below0 : List Frame := [.native { method := ⟨0, 0⟩, args := #[] }]
def about1 : State := aboutOver below0
def p0 : Program := .bare "" "" ""
def e0 : Env := launch0.env 0 0 0
theorem w_frames : about1.frames = Frame.invoking theMethod args0 :: below0 := rfl
set_option maxRecDepth 65536 in
theorem w_args : argsFit about1.vm theMethod args0 = true := by decide +kernel
set_option maxRecDepth 65536 in
theorem w_heap : heapFits about1 = true := by decide +kernel
set_option maxRecDepth 65536 in
theorem w_runnable : about1.curStatus? = some .runnable := by decide +kernel
set_option maxRecDepth 65536 in
theorem w_alone : about1.alone = true := by decide +kernel
set_option maxRecDepth 65536 in
theorem w_named : about1.methodNamed? x = some theMethod := by decide +kernel
set_option maxRecDepth 65536 in
theorem w_hears : about1.hears theMethod below0 = true := by decide +kernel
set_option maxRecDepth 65536 in
theorem w_ripe : about1.ripe theMethod args0 below0 = true := by decide +kernel
theorem w_running : about1.status = .running := rfl
set_option maxRecDepth 65536 in
theorem w_room : about1.hasRoom e0.platform room_1 = true :=
  launch0.hasRoom_least _ room_1 (by decide +kernel) (by decide +kernel) (by decide +kernel) (by decide +kernel) (by decide +kernel) (by decide +kernel)
theorem allAtoms_all (ts : List Jvm.Cond) (a : Array Jvm.Value) (st : Jvm.State) : (allAtoms ts).before a st = ts.all (fun c => c.before a st) := by
  induction ts with
  | nil => rfl
  | cons c t ih =>
    show (Jvm.Cond.and c (allAtoms t)).before a st = _
    rw [Jvm.Cond.before_and, ih, List.all_cons]
def words1 : List Jvm.Cond := Jvm.Cond.code x code maxLocals ret :: tables_1
/-- a 'code' word, met by the world's own term for the bytes: nothing is compared byte by byte -/
theorem code_word {y : MethodName} {bytes : ByteArray} {mx : Nat} {rt : Option FieldType} {a : Array Value} {s : State} {m : MethodId} {meth : Method} {c : Code} (h1 : s.methodNamed? y = some m) (h2 : s.vm.method? m = some meth) (h3 : meth.code = some c) (h4 : c.code = bytes)
    (h5 : (c.maxLocals == mx && c.exceptionTable.isEmpty && decide (c.maxStack ≤ mostOperands) && decide (meth.sig.returnType = rt) && !meth.locks && decide (parseMethodDescriptor y.desc = some meth.sig)) = true) : (Jvm.Cond.code y bytes mx rt).before a s = true := by
  simp only [Bool.and_eq_true, beq_iff_eq, Bool.not_eq_true', decide_eq_true_eq] at h5
  obtain ⟨⟨⟨⟨⟨g1, g2⟩, g3⟩, g4⟩, g5⟩, g6⟩ := h5
  simp [Cond.before, Cond.holds, Cond.value, h1, h2, h3, h4, g1, g2, g3, g4, g5, g6]
def isCode : Jvm.Cond → Bool
  | .code _ _ _ _ => true
  | _ => false
theorem all_split {L : List Jvm.Cond} {P : Jvm.Cond → Bool} (h1 : L.all (fun c => isCode c || P c) = true) (h2 : ∀ c ∈ L.filter isCode, P c = true) : L.all P = true := by
  refine List.all_eq_true.mpr fun c hc => ?_
  have h := List.all_eq_true.mp h1 c hc
  rcases Bool.eq_false_or_eq_true (isCode c) with hi | hi
  · exact h2 c (List.mem_filter.mpr ⟨hc, hi⟩)
  · simpa [hi] using h
set_option maxRecDepth 65536 in
theorem w_c0 : (Jvm.Cond.code x code maxLocals ret).before args0 about1 = true := code_word (m := ⟨1, 2⟩) (meth := k1m2) (c := k1c2) (by decide +kernel) rfl rfl rfl (by decide +kernel)
set_option maxRecDepth 65536 in
theorem w_c1 : (Jvm.Cond.code ({ cls := "emberglass/ChunkHeaderHasEndPinLaw", name := "pickDuration", desc := "(JJI)J" } : Jvm.MethodName) method_2_code (8 : Nat) (Option.some Jvm.ClassFile.FieldType.long)).before args0 about1 = true := code_word (m := ⟨1, 1⟩) (meth := k1m1) (c := k1c1) (by decide +kernel) rfl rfl rfl (by decide +kernel)
set_option maxRecDepth 65536 in
theorem w_c2 : (Jvm.Cond.code ({ cls := "emberglass/ChunkHeader", name := "<init>", desc := "(IIJJJJJJJI)V" } : Jvm.MethodName) prog_12_method_1_code (18 : Nat) (Option.none : Option Jvm.ClassFile.FieldType)).before args0 about1 = true := code_word (m := ⟨3, 0⟩) (meth := k3m0) (c := k3c0) (by decide +kernel) rfl rfl rfl (by decide +kernel)
set_option maxRecDepth 65536 in
theorem w_c3 : (Jvm.Cond.code ({ cls := "java/lang/Record", name := "<init>", desc := "()V" } : Jvm.MethodName) jdk_30_method_1_code (1 : Nat) (Option.none : Option Jvm.ClassFile.FieldType)).before args0 about1 = true := code_word (m := ⟨2, 0⟩) (meth := k2m0) (c := k2c0) (by decide +kernel) rfl rfl rfl (by decide +kernel)
set_option maxRecDepth 65536 in
theorem w_c4 : (Jvm.Cond.code ({ cls := "java/lang/Object", name := "<init>", desc := "()V" } : Jvm.MethodName) object_method_1_code (1 : Nat) (Option.none : Option Jvm.ClassFile.FieldType)).before args0 about1 = true := code_word (m := ⟨0, 0⟩) (meth := k0m0) (c := k0c0) (by decide +kernel) rfl rfl rfl (by decide +kernel)
set_option maxRecDepth 65536 in
theorem w_c5 : (Jvm.Cond.code ({ cls := "emberglass/ChunkHeader", name := "hasEnd", desc := "()Z" } : Jvm.MethodName) prog_12_method_5_code (1 : Nat) (Option.some Jvm.ClassFile.FieldType.boolean)).before args0 about1 = true := code_word (m := ⟨3, 1⟩) (meth := k3m1) (c := k3c1) (by decide +kernel) rfl rfl rfl (by decide +kernel)
def codes1 : List Jvm.Cond := [Jvm.Cond.code x code maxLocals ret, Jvm.Cond.code ({ cls := "emberglass/ChunkHeaderHasEndPinLaw", name := "pickDuration", desc := "(JJI)J" } : Jvm.MethodName) method_2_code (8 : Nat) (Option.some Jvm.ClassFile.FieldType.long), Jvm.Cond.code ({ cls := "emberglass/ChunkHeader", name := "<init>", desc := "(IIJJJJJJJI)V" } : Jvm.MethodName) prog_12_method_1_code (18 : Nat) (Option.none : Option Jvm.ClassFile.FieldType), Jvm.Cond.code ({ cls := "java/lang/Record", name := "<init>", desc := "()V" } : Jvm.MethodName) jdk_30_method_1_code (1 : Nat) (Option.none : Option Jvm.ClassFile.FieldType), Jvm.Cond.code ({ cls := "java/lang/Object", name := "<init>", desc := "()V" } : Jvm.MethodName) object_method_1_code (1 : Nat) (Option.none : Option Jvm.ClassFile.FieldType), Jvm.Cond.code ({ cls := "emberglass/ChunkHeader", name := "hasEnd", desc := "()Z" } : Jvm.MethodName) prog_12_method_5_code (1 : Nat) (Option.some Jvm.ClassFile.FieldType.boolean)]
set_option maxRecDepth 65536 in
theorem codes_eq : words1.filter isCode = codes1 := rfl
theorem w_codes : ∀ c ∈ words1.filter isCode, c.before args0 about1 = true := by
  rw [codes_eq]
  intro c hc
  simp only [codes1, List.mem_cons, List.not_mem_nil, or_false] at hc
  rcases hc with rfl | rfl | rfl | rfl | rfl | rfl
  · exact w_c0
  · exact w_c1
  · exact w_c2
  · exact w_c3
  · exact w_c4
  · exact w_c5
set_option maxRecDepth 65536 in
theorem w_t1 : (words1.take 24).all (fun c => isCode c || c.before args0 about1) = true := by decide +kernel
set_option maxRecDepth 65536 in
theorem w_t2 : ((words1.drop 24).take 24).all (fun c => isCode c || c.before args0 about1) = true := by decide +kernel
set_option maxRecDepth 65536 in
theorem w_t3 : ((words1.drop 24).drop 24).all (fun c => isCode c || c.before args0 about1) = true := by decide +kernel
theorem w_tables : (allAtoms (Jvm.Cond.code x code maxLocals ret :: tables_1)).before args0 about1 = true := by
  rw [allAtoms_all]
  show words1.all (fun c => c.before args0 about1) = true
  refine all_split ?_ w_codes
  rw [← List.take_append_drop 24 words1, List.all_append, w_t1, ← List.take_append_drop 24 (words1.drop 24), List.all_append, w_t2, w_t3]
  rfl
set_option maxRecDepth 65536 in
theorem w_case : (Jvm.Cond.and given_1 narrow_1).before args0 about1 = true := by decide +kernel
theorem w_applies : (headSpec (Jvm.Cond.code x code maxLocals ret :: tables_1) room_1).applies x e0.platform about1 = true :=
  (Spec.applies_iff w_frames).mpr ⟨w_running, w_runnable, w_alone, w_named, w_hears, w_ripe, w_room, w_tables⟩
theorem atStart : AtStart classFile x code maxLocals ret World_1 tables_1 room_1 Calls_1 rest_1 Pre_1 launch0 p0 e0 about1 theMethod args0 below0 :=
  ⟨lists_1, trivial, launch0.admits_env _ _ _, launch0.least_env, fairChoices_fair.cas, fairChoices_fair.clock, w_frames, w_args, w_heap, w_applies, trivial, trivial, w_case⟩
end start1
theorem witness_1 : WitnessClaimed_1 := ⟨start1.p0, start1.e0, start1.about1, start1.theMethod, start1.args0, start1.below0, start1.atStart⟩
end Jvm.Pilot.@@N@@
