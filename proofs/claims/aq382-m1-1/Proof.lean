import JvmDerived
import JvmDerived.Pilot.@@N@@Statement
import JvmDerived.Pilot.@@N@@Code
set_option linter.unusedVariables false
set_option linter.unusedSimpArgs false
namespace Jvm.Pilot.@@N@@
open Jvm Jvm.ClassFile Sem Op Lib Jvm.Free Jvm.Stand Jvm.LawKit Jvm.RoadKit Bundle Jvm.Pilot.@@N@@.Jvm.D
/-! ## 1. What the code computes, in plain Lean, and the plain law -/
def own_nz (q : Int64) : Int64 := if q = 0 then 1 else q
def own_pick (mk bit : Int32) (q : Int64) : Int64 := if mk &&& bit = 0 then 0 else own_nz q
def own_r (rt : Int32) : Int32 := if rt % 1000 = 0 then 1 else rt % 1000
def own_avg (mk r : Int32) : UInt64 := if mk &&& 8 = 0 then 0 else FP.i2d r
def own_exp (mk : Int32) : Int32 := if mk &&& 31 = 0 then 1 else 0
def own_idle (w1 w2 w3 : Int64) (d : UInt64) (w5 : Int64) : Int32 := if w1 = 0 ∧ w2 = 0 ∧ w3 = 0 ∧ cmpValue (FP.dcmp d 0) .l = 0 ∧ w5 = 0 then 1 else 0
theorem own_lc (x y : Int64) : lcmpW x y = 0 ↔ x = y := by rw [lcW]; exact lc_eq x y
theorem own_nz_ne (q : Int64) : ¬ own_nz q = 0 := by
  unfold own_nz
  by_cases h : q = 0
  · rw [if_pos h]; decide
  · rw [if_neg h]; exact h
theorem own_pick_iff (mk bit : Int32) (q : Int64) : own_pick mk bit q = 0 ↔ mk &&& bit = 0 := by
  unfold own_pick
  by_cases h : mk &&& bit = 0
  · rw [if_pos h]; exact ⟨fun _ => h, fun _ => rfl⟩
  · rw [if_neg h]; exact ⟨fun z => absurd z (own_nz_ne q), fun z => absurd z h⟩
theorem own_r_ne (rt : Int32) : ¬ own_r rt = 0 := by
  unfold own_r
  by_cases h : rt % 1000 = 0
  · rw [if_pos h]; decide
  · rw [if_neg h]; exact h
theorem own_b53 (r : Int32) : B53 r.toInt64 := by
  have h1 := Int32.le_toInt r
  have h2 := Int32.toInt_lt r
  have h3 : r.toInt64.toInt = r.toInt := Int32.toInt_toInt64 r
  unfold B53
  rw [h3]
  omega
theorem own_b0 : B53 0 := ⟨by decide, by decide⟩
theorem own_dcmp_i (r : Int32) : cmpValue (FP.dcmp (FP.i2d r) 0) .l = 0 ↔ r = 0 := by
  have h : cmpValue (FP.dcmp (FP.i2d r) 0) .l = lcmpW r.toInt64 0 := by
    have q := dcmpV_w (own_b53 r) own_b0 .l
    rw [l2d_zero] at q
    rw [i2d_w]
    exact q
  rw [h, own_lc]
  constructor
  · intro z
    have h3 : r.toInt64.toInt = r.toInt := Int32.toInt_toInt64 r
    rw [z] at h3
    exact Int32.toInt_inj.mp h3.symm
  · intro z
    rw [z]
    rfl
theorem own_dcmp_0 : cmpValue (FP.dcmp 0 0) .l = 0 := by decide +kernel
theorem own_avg_iff (mk rt : Int32) : cmpValue (FP.dcmp (own_avg mk (own_r rt)) 0) .l = 0 ↔ mk &&& 8 = 0 := by
  unfold own_avg
  by_cases h : mk &&& 8 = 0
  · rw [if_pos h]; exact ⟨fun _ => h, fun _ => own_dcmp_0⟩
  · rw [if_neg h]; exact ⟨fun z => absurd ((own_dcmp_i _).mp z) (own_r_ne rt), fun z => absurd z h⟩
theorem own_and_sub (mk b : Int32) (hb : 31 &&& b = b) (h : mk &&& 31 = 0) : mk &&& b = 0 := by
  rw [← hb, ← Int32.and_assoc, h, Int32.zero_and]
theorem own_mask (mk : Int32) : (mk &&& 1 = 0 ∧ mk &&& 2 = 0 ∧ mk &&& 4 = 0 ∧ mk &&& 8 = 0 ∧ mk &&& 16 = 0) ↔ mk &&& 31 = 0 := by
  constructor
  · rintro ⟨h1, h2, h3, h4, h5⟩
    have e : (31 : Int32) = 1 ||| (2 ||| (4 ||| (8 ||| 16))) := by decide
    rw [e]
    apply Int32.toBitVec_inj.mp
    have g1 := congrArg Int32.toBitVec h1
    have g2 := congrArg Int32.toBitVec h2
    have g3 := congrArg Int32.toBitVec h3
    have g4 := congrArg Int32.toBitVec h4
    have g5 := congrArg Int32.toBitVec h5
    simp only [Int32.toBitVec_and, Int32.toBitVec_or] at g1 g2 g3 g4 g5 ⊢
    rw [BitVec.and_or_distrib_left, BitVec.and_or_distrib_left, BitVec.and_or_distrib_left, BitVec.and_or_distrib_left, g1, g2, g3, g4, g5]
    rfl
  · intro h
    exact ⟨own_and_sub mk 1 (by decide) h, own_and_sub mk 2 (by decide) h, own_and_sub mk 4 (by decide) h, own_and_sub mk 8 (by decide) h, own_and_sub mk 16 (by decide) h⟩
/-- the plain law: what idle answers is what the law looks for -/
theorem own_law (mk : Int32) (q1 q2 q3 : Int64) (rt : Int32) (q5 : Int64) : own_idle (own_pick mk 1 q1) (own_pick mk 2 q2) (own_pick mk 4 q3) (own_avg mk (own_r rt)) (own_pick mk 16 q5) = own_exp mk := by
  unfold own_idle own_exp
  by_cases h : mk &&& 31 = 0
  · obtain ⟨h1, h2, h3, h4, h5⟩ := (own_mask mk).mpr h
    rw [if_pos h, if_pos ⟨(own_pick_iff ..).mpr h1, (own_pick_iff ..).mpr h2, (own_pick_iff ..).mpr h3, (own_avg_iff ..).mpr h4, (own_pick_iff ..).mpr h5⟩]
  · rw [if_neg h, if_neg]
    rintro ⟨h1, h2, h3, h4, h5⟩
    exact h ((own_mask mk).mp ⟨(own_pick_iff ..).mp h1, (own_pick_iff ..).mp h2, (own_pick_iff ..).mp h3, (own_avg_iff ..).mp h4, (own_pick_iff ..).mp h5⟩)
theorem own_narrow {v : Value} {C : String} (h : v.isRef = true) : narrow (.object C) v = v := by rcases ref_cases h with rfl | ⟨a, rfl⟩ <;> rfl
theorem own_fits {v : Value} {C : String} (h : v.isRef = true) : fits (.object C) v = true := by rcases ref_cases h with rfl | ⟨a, rfl⟩ <;> rfl
/-! ## 2. Decode facts of the callees, names, descriptors -/
theorem d1_0 : decode prog_61_method_1_code 0 = .ok (.aload_n 0, 1) := by decide +kernel
theorem d1_1 : decode prog_61_method_1_code 1 = .ok (.invokespecial 1, 3) := by decide +kernel
theorem d1_4 : decode prog_61_method_1_code 4 = .ok (.aload_n 0, 1) := by decide +kernel
theorem d1_5 : decode prog_61_method_1_code 5 = .ok (.aload_n 1, 1) := by decide +kernel
theorem d1_6 : decode prog_61_method_1_code 6 = .ok (.putfield 7, 3) := by decide +kernel
theorem d1_9 : decode prog_61_method_1_code 9 = .ok (.aload_n 0, 1) := by decide +kernel
theorem d1_10 : decode prog_61_method_1_code 10 = .ok (.lload_n 2, 1) := by decide +kernel
theorem d1_11 : decode prog_61_method_1_code 11 = .ok (.putfield 13, 3) := by decide +kernel
theorem d1_14 : decode prog_61_method_1_code 14 = .ok (.aload_n 0, 1) := by decide +kernel
theorem d1_15 : decode prog_61_method_1_code 15 = .ok (.lload 4, 2) := by decide +kernel
theorem d1_17 : decode prog_61_method_1_code 17 = .ok (.putfield 17, 3) := by decide +kernel
theorem d1_20 : decode prog_61_method_1_code 20 = .ok (.aload_n 0, 1) := by decide +kernel
theorem d1_21 : decode prog_61_method_1_code 21 = .ok (.lload 6, 2) := by decide +kernel
theorem d1_23 : decode prog_61_method_1_code 23 = .ok (.putfield 20, 3) := by decide +kernel
theorem d1_26 : decode prog_61_method_1_code 26 = .ok (.aload_n 0, 1) := by decide +kernel
theorem d1_27 : decode prog_61_method_1_code 27 = .ok (.dload 8, 2) := by decide +kernel
theorem d1_29 : decode prog_61_method_1_code 29 = .ok (.putfield 23, 3) := by decide +kernel
theorem d1_32 : decode prog_61_method_1_code 32 = .ok (.aload_n 0, 1) := by decide +kernel
theorem d1_33 : decode prog_61_method_1_code 33 = .ok (.lload 10, 2) := by decide +kernel
theorem d1_35 : decode prog_61_method_1_code 35 = .ok (.putfield 27, 3) := by decide +kernel
theorem d1_38 : decode prog_61_method_1_code 38 = .ok (.return_, 1) := by decide +kernel
theorem d2_0 : decode jdk_30_method_1_code 0 = .ok (.aload_n 0, 1) := by decide +kernel
theorem d2_1 : decode jdk_30_method_1_code 1 = .ok (.invokespecial 1, 3) := by decide +kernel
theorem d2_4 : decode jdk_30_method_1_code 4 = .ok (.return_, 1) := by decide +kernel
theorem d4_0 : decode prog_61_method_2_code 0 = .ok (.aload_n 0, 1) := by decide +kernel
theorem d4_1 : decode prog_61_method_2_code 1 = .ok (.getfield 13, 3) := by decide +kernel
theorem d4_4 : decode prog_61_method_2_code 4 = .ok (.lconst 0, 1) := by decide +kernel
theorem d4_5 : decode prog_61_method_2_code 5 = .ok (.lcmp, 1) := by decide +kernel
theorem d4_6 : decode prog_61_method_2_code 6 = .ok (.ifCond .ne 43, 3) := by decide +kernel
theorem d4_9 : decode prog_61_method_2_code 9 = .ok (.aload_n 0, 1) := by decide +kernel
theorem d4_10 : decode prog_61_method_2_code 10 = .ok (.getfield 17, 3) := by decide +kernel
theorem d4_13 : decode prog_61_method_2_code 13 = .ok (.lconst 0, 1) := by decide +kernel
theorem d4_14 : decode prog_61_method_2_code 14 = .ok (.lcmp, 1) := by decide +kernel
theorem d4_15 : decode prog_61_method_2_code 15 = .ok (.ifCond .ne 34, 3) := by decide +kernel
theorem d4_18 : decode prog_61_method_2_code 18 = .ok (.aload_n 0, 1) := by decide +kernel
theorem d4_19 : decode prog_61_method_2_code 19 = .ok (.getfield 20, 3) := by decide +kernel
theorem d4_22 : decode prog_61_method_2_code 22 = .ok (.lconst 0, 1) := by decide +kernel
theorem d4_23 : decode prog_61_method_2_code 23 = .ok (.lcmp, 1) := by decide +kernel
theorem d4_24 : decode prog_61_method_2_code 24 = .ok (.ifCond .ne 25, 3) := by decide +kernel
theorem d4_27 : decode prog_61_method_2_code 27 = .ok (.aload_n 0, 1) := by decide +kernel
theorem d4_28 : decode prog_61_method_2_code 28 = .ok (.getfield 23, 3) := by decide +kernel
theorem d4_31 : decode prog_61_method_2_code 31 = .ok (.dconst 0, 1) := by decide +kernel
theorem d4_32 : decode prog_61_method_2_code 32 = .ok (.dcmp .l, 1) := by decide +kernel
theorem d4_33 : decode prog_61_method_2_code 33 = .ok (.ifCond .ne 16, 3) := by decide +kernel
theorem d4_36 : decode prog_61_method_2_code 36 = .ok (.aload_n 0, 1) := by decide +kernel
theorem d4_37 : decode prog_61_method_2_code 37 = .ok (.getfield 27, 3) := by decide +kernel
theorem d4_40 : decode prog_61_method_2_code 40 = .ok (.lconst 0, 1) := by decide +kernel
theorem d4_41 : decode prog_61_method_2_code 41 = .ok (.lcmp, 1) := by decide +kernel
theorem d4_42 : decode prog_61_method_2_code 42 = .ok (.ifCond .ne 7, 3) := by decide +kernel
theorem d4_45 : decode prog_61_method_2_code 45 = .ok (.iconst 1, 1) := by decide +kernel
theorem d4_46 : decode prog_61_method_2_code 46 = .ok (.goto 4, 3) := by decide +kernel
theorem d4_49 : decode prog_61_method_2_code 49 = .ok (.iconst 0, 1) := by decide +kernel
theorem d4_50 : decode prog_61_method_2_code 50 = .ok (.ireturn, 1) := by decide +kernel
theorem d5_0 : decode method_2_code 0 = .ok (.lload_n 0, 1) := by decide +kernel
theorem d5_1 : decode method_2_code 1 = .ok (.lconst 0, 1) := by decide +kernel
theorem d5_2 : decode method_2_code 2 = .ok (.lcmp, 1) := by decide +kernel
theorem d5_3 : decode method_2_code 3 = .ok (.ifCond .ne 7, 3) := by decide +kernel
theorem d5_6 : decode method_2_code 6 = .ok (.lconst 1, 1) := by decide +kernel
theorem d5_7 : decode method_2_code 7 = .ok (.goto 4, 3) := by decide +kernel
theorem d5_10 : decode method_2_code 10 = .ok (.lload_n 0, 1) := by decide +kernel
theorem d5_11 : decode method_2_code 11 = .ok (.lreturn, 1) := by decide +kernel
theorem pn_law : plainName "com/example/overload_control/overloadcontrol/ResourceStatsIdlePinLaw" = true := by first | (simp [plainName, overriddenIn]; done) | decide +kernel
theorem pn_rs : plainName "com/example/overload_control/overloadcontrol/ResourceStats" = true := by first | (simp [plainName, overriddenIn]; done) | decide +kernel
theorem pn_rec : plainName "java/lang/Record" = true := by first | (simp [plainName, overriddenIn]; done) | decide +kernel
theorem pd_nz : parseMethodDescriptor "(J)J" = some ⟨[.long], some .long⟩ := by decide +kernel
theorem pd_v : parseMethodDescriptor "()V" = some ⟨[], none⟩ := by decide +kernel
theorem pd_z : parseMethodDescriptor "()Z" = some ⟨[], some .boolean⟩ := by decide +kernel
theorem pd_c : parseMethodDescriptor "(Ljava/lang/String;JJJDJ)V" = some ⟨[.object "java/lang/String", .long, .long, .long, .double, .long], none⟩ := by decide +kernel
theorem pf_s : parseFieldDescriptor "Ljava/lang/String;" = some (.object "java/lang/String") := by decide +kernel
theorem pf_j : parseFieldDescriptor "J" = some .long := by decide +kernel
theorem pf_d : parseFieldDescriptor "D" = some .double := by decide +kernel
theorem ef_1 (m : MethodId) (a1 : Addr) {nm : Value} (hn : nm.isRef = true) (q2 q3 q4 : Int64) (d5 : UInt64) (q6 : Int64) : entryFrame m #[(.ref a1), nm, (.long q2), (.long q3), (.long q4), (.double d5), (.long q6)] 12 = mkF m 0 #[.val (.ref a1), .val nm, .val (.long q2), .second, .val (.long q3), .second, .val (.long q4), .second, .val (.double d5), .second, .val (.long q6), .second] [] := by rcases ref_cases hn with rfl | ⟨b, rfl⟩ <;> first | (simp [entryFrame, mkF, argsToLocals, Value.category, maxLocals]; done) | rfl
theorem ef_2 (m : MethodId) (x0 : Addr) : entryFrame m #[(.ref x0)] 1 = mkF m 0 #[.val (.ref x0)] [] := by first | (simp [entryFrame, mkF, argsToLocals, Value.category, maxLocals]; done) | rfl
theorem ef_5 (m : MethodId) (x0 : Int64) : entryFrame m #[(.long x0)] 2 = mkF m 0 #[.val (.long x0), .second] [] := by first | (simp [entryFrame, mkF, argsToLocals, Value.category, maxLocals]; done) | rfl
theorem ef_0 (m : MethodId) (mk : Int32) (q1 q2 q3 : Int64) (rt : Int32) (q5 : Int64) : entryFrame m #[(.int mk), (.long q1), (.long q2), (.long q3), (.int rt), (.long q5)] maxLocals = mkF m 0 #[.val (.int mk), .val (.long q1), .second, .val (.long q2), .second, .val (.long q3), .second, .val (.int rt), .val (.long q5), .second, .unset, .unset, .unset, .unset, .unset, .unset, .unset, .unset, .unset, .unset, .unset, .unset, .unset, .unset] [] := by first | (simp [entryFrame, mkF, argsToLocals, Value.category, maxLocals]; done) | rfl
/-! ## 3. nz -/
def Q5 (r : Int64) (h0 : Heap) (v : Option Value) (h : Heap) (L : List Loc) : Prop := v = some (.long r) ∧ L = [] ∧ h = h0
set_option maxRecDepth 65536 in
set_option maxHeartbeats 40000000 in
theorem rm5t (l : Launch) (Z : State) (a0 : Array Value) (hw : ∀ d ∈ tables_1, d.before a0 Z = true) (ws : List Jvm.Cond) (q1 : Int64) (h0 : Heap) (hq : ¬ q1 = 0) :
    MetFree l (⟨"com/example/overload_control/overloadcontrol/ResourceStatsIdlePinLaw", "nz", "(J)J"⟩ : MethodName) (head1 (Jvm.Cond.code (⟨"com/example/overload_control/overloadcontrol/ResourceStatsIdlePinLaw", "nz", "(J)J"⟩ : MethodName) method_2_code 2 (some .long) :: ws) ({ frames := 0, cells := 0, slots := 0, locals := 0 } : Room)) (fun a U => a = #[(.long q1)] ∧ Z.Warmed39 U.vm ∧ U.heap = h0) (fun _ _ _ _ _ => True) (fun _ U o U' => ∃ v L, o = .returned v ∧ Q5 q1 h0 v U'.heap L ∧ FrameEnd U o U' L ({ frames := 0, cells := 0, slots := 0, locals := 0 } : Room).cells ({ frames := 0, cells := 0, slots := 0, locals := 0 } : Room).slots) := by
  refine MetFree.of_bodySF (plainFor_of_name pn_law) hisR ?_
  intro p e s m args below meth c s₁ Bd hml0 hP hK
  obtain ⟨rfl, hZ, hh⟩ := hP
  have hx := Bd.exec
  have hby := Bd.bytes
  have hml : c.maxLocals = 2 := hml0
  have hown : s.vm.findClass "com/example/overload_control/overloadcontrol/ResourceStatsIdlePinLaw" = some m.cls := findClass_of_methodNamed Bd.named
  have hnm := (name_of_methodNamed Bd.named Bd.method).1
  have X0 : Stand p l e ({ frames := 0, cells := 0, slots := 0, locals := 0 } : Room) s m #[(.long q1)] below meth c s₁ [] 0 0 := Stand.of_body Bd
  have e0 : s₁.heap = h0 := by rw [← hh, Bd.state]; rfl
  have pre0 : ∀ t, Steps p.tables e below (s₁.setTop (mkF m 0 #[.val (.long q1), .second] [])) t → Steps p.tables e below (s₁.setTop (entryFrame m #[(.long q1)] 2)) t := fun t k => castTop (ef_5 m q1) k
  have hc3 : ¬ (lcmpW q1 (0 : Int64)) = (0 : Int32) := fun z => hq ((own_lc _ _).mp z)
  obtain ⟨fs, hr, hrun, hended, hW, hsame⟩ := X0.leave (v := some (.long q1)) (fun h => by rw [Bd.returns] at h; cases h)
  refine ⟨_, _, pre0 _ ?_, hrun, hended, _, _, rfl, ?_, ⟨_, rfl⟩, hW, hsame.mono (by decide) (by decide)⟩
  · show Steps p.tables e below (s₁.setTop (mkF m 0 #[.val (.long q1), .second] [])) _
    refine XS.lloadN X0.here hx rfl (hb hby d5_0) rfl ?_
    show Steps p.tables e below (s₁.setTop (mkF m 1 #[.val (.long q1), .second] [(.long q1)])) _
    refine XS.lconst X0.here hx rfl (hb hby d5_1) ?_
    show Steps p.tables e below (s₁.setTop (mkF m 2 #[.val (.long q1), .second] [(.long (0 : Int64)), (.long q1)])) _
    refine XS.lcmp X0.here hx rfl (hb hby d5_2) rfl ?_
    show Steps p.tables e below (s₁.setTop (mkF m 3 #[.val (.long q1), .second] [(.int (lcmpW q1 (0 : Int64)))])) _
    refine XS.ifYes X0.here hx rfl (pc0 := 3) (pc' := 10) rfl (hb hby d5_3) rfl ((if0 _ _).trans (feq hc3).2) (by decide) (by decide) ?_
    show Steps p.tables e below (s₁.setTop (mkF m 10 #[.val (.long q1), .second] [])) _
    refine XS.lloadN X0.here hx rfl (hb hby d5_10) rfl ?_
    show Steps p.tables e below (s₁.setTop (mkF m 11 #[.val (.long q1), .second] [(.long q1)])) _
    exact X0.lreturnOut hx Bd.returns (hb hby d5_11) hr
  · show Q5 q1 h0 _ s₁.heap _
    rw [e0]
    exact ⟨rfl, rfl, rfl⟩
set_option maxRecDepth 65536 in
set_option maxHeartbeats 40000000 in
theorem rm5f (l : Launch) (Z : State) (a0 : Array Value) (hw : ∀ d ∈ tables_1, d.before a0 Z = true) (ws : List Jvm.Cond) (q1 : Int64) (h0 : Heap) (hq : q1 = 0) :
    MetFree l (⟨"com/example/overload_control/overloadcontrol/ResourceStatsIdlePinLaw", "nz", "(J)J"⟩ : MethodName) (head1 (Jvm.Cond.code (⟨"com/example/overload_control/overloadcontrol/ResourceStatsIdlePinLaw", "nz", "(J)J"⟩ : MethodName) method_2_code 2 (some .long) :: ws) ({ frames := 0, cells := 0, slots := 0, locals := 0 } : Room)) (fun a U => a = #[(.long q1)] ∧ Z.Warmed39 U.vm ∧ U.heap = h0) (fun _ _ _ _ _ => True) (fun _ U o U' => ∃ v L, o = .returned v ∧ Q5 (1 : Int64) h0 v U'.heap L ∧ FrameEnd U o U' L ({ frames := 0, cells := 0, slots := 0, locals := 0 } : Room).cells ({ frames := 0, cells := 0, slots := 0, locals := 0 } : Room).slots) := by
  refine MetFree.of_bodySF (plainFor_of_name pn_law) hisR ?_
  intro p e s m args below meth c s₁ Bd hml0 hP hK
  obtain ⟨rfl, hZ, hh⟩ := hP
  have hx := Bd.exec
  have hby := Bd.bytes
  have hml : c.maxLocals = 2 := hml0
  have hown : s.vm.findClass "com/example/overload_control/overloadcontrol/ResourceStatsIdlePinLaw" = some m.cls := findClass_of_methodNamed Bd.named
  have hnm := (name_of_methodNamed Bd.named Bd.method).1
  have X0 : Stand p l e ({ frames := 0, cells := 0, slots := 0, locals := 0 } : Room) s m #[(.long q1)] below meth c s₁ [] 0 0 := Stand.of_body Bd
  have e0 : s₁.heap = h0 := by rw [← hh, Bd.state]; rfl
  have pre0 : ∀ t, Steps p.tables e below (s₁.setTop (mkF m 0 #[.val (.long q1), .second] [])) t → Steps p.tables e below (s₁.setTop (entryFrame m #[(.long q1)] 2)) t := fun t k => castTop (ef_5 m q1) k
  have hc3 : (lcmpW q1 (0 : Int64)) = (0 : Int32) := (own_lc _ _).mpr hq
  obtain ⟨fs, hr, hrun, hended, hW, hsame⟩ := X0.leave (v := some (.long (1 : Int64))) (fun h => by rw [Bd.returns] at h; cases h)
  refine ⟨_, _, pre0 _ ?_, hrun, hended, _, _, rfl, ?_, ⟨_, rfl⟩, hW, hsame.mono (by decide) (by decide)⟩
  · show Steps p.tables e below (s₁.setTop (mkF m 0 #[.val (.long q1), .second] [])) _
    refine XS.lloadN X0.here hx rfl (hb hby d5_0) rfl ?_
    show Steps p.tables e below (s₁.setTop (mkF m 1 #[.val (.long q1), .second] [(.long q1)])) _
    refine XS.lconst X0.here hx rfl (hb hby d5_1) ?_
    show Steps p.tables e below (s₁.setTop (mkF m 2 #[.val (.long q1), .second] [(.long (0 : Int64)), (.long q1)])) _
    refine XS.lcmp X0.here hx rfl (hb hby d5_2) rfl ?_
    show Steps p.tables e below (s₁.setTop (mkF m 3 #[.val (.long q1), .second] [(.int (lcmpW q1 (0 : Int64)))])) _
    refine XS.ifNo X0.here hx rfl (hb hby d5_3) rfl ((if0 _ _).trans (teq hc3).2) ?_
    show Steps p.tables e below (s₁.setTop (mkF m 6 #[.val (.long q1), .second] [])) _
    refine XS.lconst X0.here hx rfl (hb hby d5_6) ?_
    show Steps p.tables e below (s₁.setTop (mkF m 7 #[.val (.long q1), .second] [(.long (1 : Int64))])) _
    refine XS.goto X0.here hx rfl (pc0 := 7) (pc' := 11) rfl (hb hby d5_7) (by decide) (by decide) ?_
    show Steps p.tables e below (s₁.setTop (mkF m 11 #[.val (.long q1), .second] [(.long (1 : Int64))])) _
    exact X0.lreturnOut hx Bd.returns (hb hby d5_11) hr
  · show Q5 (1 : Int64) h0 _ s₁.heap _
    rw [e0]
    exact ⟨rfl, rfl, rfl⟩
set_option maxRecDepth 65536 in
set_option maxHeartbeats 40000000 in
theorem rm5 (l : Launch) (Z : State) (a0 : Array Value) (hw : ∀ d ∈ tables_1, d.before a0 Z = true) (ws : List Jvm.Cond) (q1 : Int64) (h0 : Heap) :
    MetFree l (⟨"com/example/overload_control/overloadcontrol/ResourceStatsIdlePinLaw", "nz", "(J)J"⟩ : MethodName) (head1 (Jvm.Cond.code (⟨"com/example/overload_control/overloadcontrol/ResourceStatsIdlePinLaw", "nz", "(J)J"⟩ : MethodName) method_2_code 2 (some .long) :: ws) ({ frames := 0, cells := 0, slots := 0, locals := 0 } : Room)) (fun a U => a = #[(.long q1)] ∧ Z.Warmed39 U.vm ∧ U.heap = h0) (fun _ _ _ _ _ => True) (fun _ U o U' => ∃ v L, o = .returned v ∧ Q5 (own_nz q1) h0 v U'.heap L ∧ FrameEnd U o U' L ({ frames := 0, cells := 0, slots := 0, locals := 0 } : Room).cells ({ frames := 0, cells := 0, slots := 0, locals := 0 } : Room).slots) := by
  by_cases hq : q1 = 0
  · rw [show own_nz q1 = 1 from if_pos hq]
    exact rm5f l Z a0 hw ws q1 h0 hq
  · rw [show own_nz q1 = q1 from if_neg hq]
    exact rm5t l Z a0 hw ws q1 h0 hq
/-! ## 4. the constructor of the superclass -/
def Q2 (h0 : Heap) (v : Option Value) (h : Heap) (L : List Loc) : Prop := v = none ∧ L = [] ∧ h = h0
set_option maxRecDepth 65536 in
set_option maxHeartbeats 40000000 in
theorem rm2 (l : Launch) (Z : State) (a0 : Array Value) (hw : ∀ d ∈ tables_1, d.before a0 Z = true) (ws : List Jvm.Cond) (a1 : Addr) (h0 : Heap) :
    MetFree l (⟨"java/lang/Record", "<init>", "()V"⟩ : MethodName) (head1 (Jvm.Cond.code (⟨"java/lang/Record", "<init>", "()V"⟩ : MethodName) jdk_30_method_1_code 1 none :: ws) ({ frames := 1, cells := 0, slots := 0, locals := 12 } : Room)) (fun a U => a = #[(.ref a1)] ∧ Z.Warmed39 U.vm ∧ U.heap = h0) (fun _ _ _ _ _ => True) (fun _ U o U' => ∃ v L, o = .returned v ∧ Q2 h0 v U'.heap L ∧ FrameEnd U o U' L ({ frames := 1, cells := 0, slots := 0, locals := 12 } : Room).cells ({ frames := 1, cells := 0, slots := 0, locals := 12 } : Room).slots) := by
  refine MetFree.of_bodySF (plainFor_of_name pn_rec) hisR ?_
  intro p e s m args below meth c s₁ Bd hml0 hP hK
  obtain ⟨rfl, hZ, hh⟩ := hP
  have hx := Bd.exec
  have hby := Bd.bytes
  have hml : c.maxLocals = 1 := hml0
  have hown : s.vm.findClass "java/lang/Record" = some m.cls := findClass_of_methodNamed Bd.named
  have hnm := (name_of_methodNamed Bd.named Bd.method).1
  have X0 : Stand p l e ({ frames := 1, cells := 0, slots := 0, locals := 12 } : Room) s m #[(.ref a1)] below meth c s₁ [] 0 0 := Stand.of_body Bd
  have e0 : s₁.heap = h0 := by rw [← hh, Bd.state]; rfl
  have pre0 : ∀ t, Steps p.tables e below (s₁.setTop (mkF m 0 #[.val (.ref a1)] [])) t → Steps p.tables e below (s₁.setTop (entryFrame m #[(.ref a1)] 1)) t := fun t k => castTop (ef_2 m a1) k
  obtain ⟨T2, X2, e2, st2⟩ := initO X0 hx hZ hown (hw _ (List.mem_of_getElem? (i := 19) rfl)) (hw _ (List.mem_of_getElem? (i := 20) rfl)) (hw _ (List.mem_of_getElem? (i := 21) rfl)) e0 (g := (mkF m 1 #[.val (.ref a1)] [(.ref a1)])) rfl (by rw [hml]; rfl) rfl (hb hby d2_1) (by decide) (W := 0) (by show 2 * 0 + _ ≤ _; exact Nat.le_of_eq rfl) (by decide)
  obtain ⟨fs, hr, hrun, hended, hW, hsame⟩ := X2.leave (v := none) (fun _ => rfl)
  refine ⟨_, _, pre0 _ ?_, hrun, hended, _, _, rfl, ?_, ⟨_, rfl⟩, hW, hsame.mono (by decide) (by decide)⟩
  · show Steps p.tables e below (s₁.setTop (mkF m 0 #[.val (.ref a1)] [])) _
    refine XS.aloadN X0.here hx rfl (hb hby d2_0) rfl rfl ?_
    show Steps p.tables e below (s₁.setTop (mkF m 1 #[.val (.ref a1)] [(.ref a1)])) _
    refine st2 _ ?_
    show Steps p.tables e below (T2.setTop (mkF m 4 #[.val (.ref a1)] [])) _
    exact X2.returnOut hx Bd.returns (hb hby d2_4) hr
  · show Q2 h0 _ T2.heap _
    rw [e2]
    exact ⟨rfl, rfl, rfl⟩
/-! ## 5. the constructor -/
def Q1 (Z : State) (a1 : Addr) (q2 q3 q4 : Int64) (d5 : UInt64) (q6 : Int64) (h0 : Heap) (n0 : Nat) (v : Option Value) (h : Heap) (L : List Loc) : Prop := v = none ∧ Fr n0 L ∧ (Keep h0 h [a1]) ∧ (Exa Z h a1 "com/example/overload_control/overloadcontrol/ResourceStats") ∧ (Fld Z h a1 "com/example/overload_control/overloadcontrol/ResourceStats" "passed" "J" (.long q2)) ∧ (Fld Z h a1 "com/example/overload_control/overloadcontrol/ResourceStats" "blocked" "J" (.long q3)) ∧ (Fld Z h a1 "com/example/overload_control/overloadcontrol/ResourceStats" "errors" "J" (.long q4)) ∧ (Fld Z h a1 "com/example/overload_control/overloadcontrol/ResourceStats" "averageRtMillis" "D" (.double d5)) ∧ (Fld Z h a1 "com/example/overload_control/overloadcontrol/ResourceStats" "inFlight" "J" (.long q6))
set_option maxRecDepth 65536 in
set_option maxHeartbeats 40000000 in
theorem rm1 (l : Launch) (Z : State) (a0 : Array Value) (hw : ∀ d ∈ tables_1, d.before a0 Z = true) (ws : List Jvm.Cond) (a1 : Addr) (nm : Value) (hnr : nm.isRef = true) (q2 q3 q4 : Int64) (d5 : UInt64) (q6 : Int64) (h0 : Heap) (n0 : Nat) (G0 : Fld Z h0 a1 "com/example/overload_control/overloadcontrol/ResourceStats" "resource" "Ljava/lang/String;" .null) (G1 : Fld Z h0 a1 "com/example/overload_control/overloadcontrol/ResourceStats" "passed" "J" (.long (0 : Int64))) (G2 : Fld Z h0 a1 "com/example/overload_control/overloadcontrol/ResourceStats" "blocked" "J" (.long (0 : Int64))) (G3 : Fld Z h0 a1 "com/example/overload_control/overloadcontrol/ResourceStats" "errors" "J" (.long (0 : Int64))) (G4 : Fld Z h0 a1 "com/example/overload_control/overloadcontrol/ResourceStats" "averageRtMillis" "D" (.double (0 : UInt64))) (G5 : Fld Z h0 a1 "com/example/overload_control/overloadcontrol/ResourceStats" "inFlight" "J" (.long (0 : Int64))) (E0 : Exa Z h0 a1 "com/example/overload_control/overloadcontrol/ResourceStats") (g9 : n0 ≤ a1) :
    MetFree l (⟨"com/example/overload_control/overloadcontrol/ResourceStats", "<init>", "(Ljava/lang/String;JJJDJ)V"⟩ : MethodName) (head1 (Jvm.Cond.code (⟨"com/example/overload_control/overloadcontrol/ResourceStats", "<init>", "(Ljava/lang/String;JJJDJ)V"⟩ : MethodName) prog_61_method_1_code 12 none :: ws) ({ frames := 2, cells := 0, slots := 0, locals := 24 } : Room)) (fun a U => a = #[(.ref a1), nm, (.long q2), (.long q3), (.long q4), (.double d5), (.long q6)] ∧ Z.Warmed39 U.vm ∧ U.heap = h0) (fun _ _ _ _ _ => True) (fun _ U o U' => ∃ v L, o = .returned v ∧ Q1 Z a1 q2 q3 q4 d5 q6 h0 n0 v U'.heap L ∧ FrameEnd U o U' L ({ frames := 2, cells := 0, slots := 0, locals := 24 } : Room).cells ({ frames := 2, cells := 0, slots := 0, locals := 24 } : Room).slots) := by
  refine MetFree.of_bodySF (plainFor_of_name pn_rs) hisR ?_
  intro p e s m args below meth c s₁ Bd hml0 hP hK
  obtain ⟨rfl, hZ, hh⟩ := hP
  have hx := Bd.exec
  have hby := Bd.bytes
  have hml : c.maxLocals = 12 := hml0
  have hown : s.vm.findClass "com/example/overload_control/overloadcontrol/ResourceStats" = some m.cls := findClass_of_methodNamed Bd.named
  have hnm := (name_of_methodNamed Bd.named Bd.method).1
  have X0 : Stand p l e ({ frames := 2, cells := 0, slots := 0, locals := 24 } : Room) s m #[(.ref a1), nm, (.long q2), (.long q3), (.long q4), (.double d5), (.long q6)] below meth c s₁ [] 0 0 := Stand.of_body Bd
  have e0 : s₁.heap = h0 := by rw [← hh, Bd.state]; rfl
  have pre0 : ∀ t, Steps p.tables e below (s₁.setTop (mkF m 0 #[.val (.ref a1), .val nm, .val (.long q2), .second, .val (.long q3), .second, .val (.long q4), .second, .val (.double d5), .second, .val (.long q6), .second] [])) t → Steps p.tables e below (s₁.setTop (entryFrame m #[(.ref a1), nm, (.long q2), (.long q3), (.long q4), (.double d5), (.long q6)] 12)) t := fun t k => castTop (ef_1 m a1 hnr q2 q3 q4 d5 q6) k
  obtain ⟨_, _, ⟨T2, L2, k2, n2⟩, -, X2, ⟨Lc2, hQ2, l2, y2, z2⟩, st2⟩ := X0.specialBack hx (y := (⟨"java/lang/Record", "<init>", "()V"⟩ : MethodName)) rfl hown (mvT hZ (hw _ (List.mem_of_getElem? (i := 14) rfl))) (mvT hZ (hw _ (List.mem_of_getElem? (i := 15) rfl))) (mvT hZ (hw _ (List.mem_of_getElem? (i := 18) rfl))) (by decide) (backOf (W := 0) (rm2 l Z a0 hw [] a1 h0) hZ (hw _ (List.mem_of_getElem? (i := 18) rfl)) (hw _ (List.mem_of_getElem? (i := 17) rfl)) (by decide) (by decide)) (g := (mkF m 1 #[.val (.ref a1), .val nm, .val (.long q2), .second, .val (.long q3), .second, .val (.long q4), .second, .val (.double d5), .second, .val (.long q6), .second] [(.ref a1)])) rfl (by rw [hml]; rfl) (Steps.refl _) (a := a1) (argsL := []) (rest := []) (lenOf pd_v rfl) rfl (by show 2 * 0 + _ ≤ _; exact Nat.le_of_eq rfl) (hb hby d1_1) (fun _ _ => ⟨rfl, e0, (by decide : 0 + 0 ≤ _), (by decide : 0 + 0 ≤ _)⟩)
  dsimp only [Pt.U, Pt.locs, Pt.cells, Pt.slots] at X2 l2 y2 z2 st2 hQ2
  subst l2 y2 z2
  obtain ⟨rfl, rfl, e2⟩ := hQ2
  have N2 := Fr.app (Fr.nil n0) (Fr.nil n0)
  have P2 : Keep h0 h0 [a1] := Keep.refl _ _
  obtain ⟨T10, h10, X10, e10, W10, st10⟩ := putF X2 hx hZ hown (host := "") (Or.inl (hw _ (List.mem_of_getElem? (i := 22) rfl))) Via.refl e2 G0 E0 (Or.inr ⟨(hw _ (List.mem_of_getElem? (i := 23) rfl)), rfl, hnm⟩) (hw _ (List.mem_of_getElem? (i := 9) rfl)) (ty := (.object "java/lang/String")) pf_s (own_narrow hnr) (own_fits hnr) (g := (mkF m 6 #[.val (.ref a1), .val nm, .val (.long q2), .second, .val (.long q3), .second, .val (.long q4), .second, .val (.double d5), .second, .val (.long q6), .second] [nm, (.ref a1)])) rfl rfl (hb hby d1_6)
  have N10 := Fr.snoc X10 N2 g9
  have P10 : Keep h0 h10 [a1] := P2.wr W10 (Or.inl (List.mem_of_getElem? (i := 0) rfl))
  have E10 : Exa Z h10 a1 "com/example/overload_control/overloadcontrol/ResourceStats" := E0.wr W10
  have F10_1 : Fld Z h10 a1 "com/example/overload_control/overloadcontrol/ResourceStats" "passed" "J" (.long (0 : Int64)) := G1.other W10 (Or.inr (slot_ne (a0 := a0) (C := "com/example/overload_control/overloadcontrol/ResourceStats") (Or.inr (hw _ (List.mem_of_getElem? (i := 25) rfl))) (Or.inr (hw _ (List.mem_of_getElem? (i := 23) rfl))) (by decide) pf_j pf_s))
  have F10_2 : Fld Z h10 a1 "com/example/overload_control/overloadcontrol/ResourceStats" "blocked" "J" (.long (0 : Int64)) := G2.other W10 (Or.inr (slot_ne (a0 := a0) (C := "com/example/overload_control/overloadcontrol/ResourceStats") (Or.inr (hw _ (List.mem_of_getElem? (i := 27) rfl))) (Or.inr (hw _ (List.mem_of_getElem? (i := 23) rfl))) (by decide) pf_j pf_s))
  have F10_3 : Fld Z h10 a1 "com/example/overload_control/overloadcontrol/ResourceStats" "errors" "J" (.long (0 : Int64)) := G3.other W10 (Or.inr (slot_ne (a0 := a0) (C := "com/example/overload_control/overloadcontrol/ResourceStats") (Or.inr (hw _ (List.mem_of_getElem? (i := 29) rfl))) (Or.inr (hw _ (List.mem_of_getElem? (i := 23) rfl))) (by decide) pf_j pf_s))
  have F10_4 : Fld Z h10 a1 "com/example/overload_control/overloadcontrol/ResourceStats" "averageRtMillis" "D" (.double (0 : UInt64)) := G4.other W10 (Or.inr (slot_ne (a0 := a0) (C := "com/example/overload_control/overloadcontrol/ResourceStats") (Or.inr (hw _ (List.mem_of_getElem? (i := 31) rfl))) (Or.inr (hw _ (List.mem_of_getElem? (i := 23) rfl))) (by decide) pf_d pf_s))
  have F10_5 : Fld Z h10 a1 "com/example/overload_control/overloadcontrol/ResourceStats" "inFlight" "J" (.long (0 : Int64)) := G5.other W10 (Or.inr (slot_ne (a0 := a0) (C := "com/example/overload_control/overloadcontrol/ResourceStats") (Or.inr (hw _ (List.mem_of_getElem? (i := 33) rfl))) (Or.inr (hw _ (List.mem_of_getElem? (i := 23) rfl))) (by decide) pf_j pf_s))
  obtain ⟨T11, h11, X11, e11, W11, st11⟩ := putF X10 hx hZ hown (host := "") (Or.inl (hw _ (List.mem_of_getElem? (i := 24) rfl))) Via.refl e10 F10_1 E10 (Or.inr ⟨(hw _ (List.mem_of_getElem? (i := 25) rfl)), rfl, hnm⟩) (hw _ (List.mem_of_getElem? (i := 9) rfl)) (ty := .long) pf_j rfl rfl (g := (mkF m 11 #[.val (.ref a1), .val nm, .val (.long q2), .second, .val (.long q3), .second, .val (.long q4), .second, .val (.double d5), .second, .val (.long q6), .second] [(.long q2), (.ref a1)])) rfl rfl (hb hby d1_11)
  have N11 := Fr.snoc X11 N10 g9
  have P11 : Keep h0 h11 [a1] := P10.wr W11 (Or.inl (List.mem_of_getElem? (i := 0) rfl))
  have E11 : Exa Z h11 a1 "com/example/overload_control/overloadcontrol/ResourceStats" := E10.wr W11
  have F11_1 : Fld Z h11 a1 "com/example/overload_control/overloadcontrol/ResourceStats" "passed" "J" (.long q2) := F10_1.same W11
  have F11_2 : Fld Z h11 a1 "com/example/overload_control/overloadcontrol/ResourceStats" "blocked" "J" (.long (0 : Int64)) := F10_2.other W11 (Or.inr (slot_ne (a0 := a0) (C := "com/example/overload_control/overloadcontrol/ResourceStats") (Or.inr (hw _ (List.mem_of_getElem? (i := 27) rfl))) (Or.inr (hw _ (List.mem_of_getElem? (i := 25) rfl))) (by decide) pf_j pf_j))
  have F11_3 : Fld Z h11 a1 "com/example/overload_control/overloadcontrol/ResourceStats" "errors" "J" (.long (0 : Int64)) := F10_3.other W11 (Or.inr (slot_ne (a0 := a0) (C := "com/example/overload_control/overloadcontrol/ResourceStats") (Or.inr (hw _ (List.mem_of_getElem? (i := 29) rfl))) (Or.inr (hw _ (List.mem_of_getElem? (i := 25) rfl))) (by decide) pf_j pf_j))
  have F11_4 : Fld Z h11 a1 "com/example/overload_control/overloadcontrol/ResourceStats" "averageRtMillis" "D" (.double (0 : UInt64)) := F10_4.other W11 (Or.inr (slot_ne (a0 := a0) (C := "com/example/overload_control/overloadcontrol/ResourceStats") (Or.inr (hw _ (List.mem_of_getElem? (i := 31) rfl))) (Or.inr (hw _ (List.mem_of_getElem? (i := 25) rfl))) (by decide) pf_d pf_j))
  have F11_5 : Fld Z h11 a1 "com/example/overload_control/overloadcontrol/ResourceStats" "inFlight" "J" (.long (0 : Int64)) := F10_5.other W11 (Or.inr (slot_ne (a0 := a0) (C := "com/example/overload_control/overloadcontrol/ResourceStats") (Or.inr (hw _ (List.mem_of_getElem? (i := 33) rfl))) (Or.inr (hw _ (List.mem_of_getElem? (i := 25) rfl))) (by decide) pf_j pf_j))
  obtain ⟨T12, h12, X12, e12, W12, st12⟩ := putF X11 hx hZ hown (host := "") (Or.inl (hw _ (List.mem_of_getElem? (i := 26) rfl))) Via.refl e11 F11_2 E11 (Or.inr ⟨(hw _ (List.mem_of_getElem? (i := 27) rfl)), rfl, hnm⟩) (hw _ (List.mem_of_getElem? (i := 9) rfl)) (ty := .long) pf_j rfl rfl (g := (mkF m 17 #[.val (.ref a1), .val nm, .val (.long q2), .second, .val (.long q3), .second, .val (.long q4), .second, .val (.double d5), .second, .val (.long q6), .second] [(.long q3), (.ref a1)])) rfl rfl (hb hby d1_17)
  have N12 := Fr.snoc X12 N11 g9
  have P12 : Keep h0 h12 [a1] := P11.wr W12 (Or.inl (List.mem_of_getElem? (i := 0) rfl))
  have E12 : Exa Z h12 a1 "com/example/overload_control/overloadcontrol/ResourceStats" := E11.wr W12
  have F12_1 : Fld Z h12 a1 "com/example/overload_control/overloadcontrol/ResourceStats" "passed" "J" (.long q2) := F11_1.other W12 (Or.inr (slot_ne (a0 := a0) (C := "com/example/overload_control/overloadcontrol/ResourceStats") (Or.inr (hw _ (List.mem_of_getElem? (i := 25) rfl))) (Or.inr (hw _ (List.mem_of_getElem? (i := 27) rfl))) (by decide) pf_j pf_j))
  have F12_2 : Fld Z h12 a1 "com/example/overload_control/overloadcontrol/ResourceStats" "blocked" "J" (.long q3) := F11_2.same W12
  have F12_3 : Fld Z h12 a1 "com/example/overload_control/overloadcontrol/ResourceStats" "errors" "J" (.long (0 : Int64)) := F11_3.other W12 (Or.inr (slot_ne (a0 := a0) (C := "com/example/overload_control/overloadcontrol/ResourceStats") (Or.inr (hw _ (List.mem_of_getElem? (i := 29) rfl))) (Or.inr (hw _ (List.mem_of_getElem? (i := 27) rfl))) (by decide) pf_j pf_j))
  have F12_4 : Fld Z h12 a1 "com/example/overload_control/overloadcontrol/ResourceStats" "averageRtMillis" "D" (.double (0 : UInt64)) := F11_4.other W12 (Or.inr (slot_ne (a0 := a0) (C := "com/example/overload_control/overloadcontrol/ResourceStats") (Or.inr (hw _ (List.mem_of_getElem? (i := 31) rfl))) (Or.inr (hw _ (List.mem_of_getElem? (i := 27) rfl))) (by decide) pf_d pf_j))
  have F12_5 : Fld Z h12 a1 "com/example/overload_control/overloadcontrol/ResourceStats" "inFlight" "J" (.long (0 : Int64)) := F11_5.other W12 (Or.inr (slot_ne (a0 := a0) (C := "com/example/overload_control/overloadcontrol/ResourceStats") (Or.inr (hw _ (List.mem_of_getElem? (i := 33) rfl))) (Or.inr (hw _ (List.mem_of_getElem? (i := 27) rfl))) (by decide) pf_j pf_j))
  obtain ⟨T13, h13, X13, e13, W13, st13⟩ := putF X12 hx hZ hown (host := "") (Or.inl (hw _ (List.mem_of_getElem? (i := 28) rfl))) Via.refl e12 F12_3 E12 (Or.inr ⟨(hw _ (List.mem_of_getElem? (i := 29) rfl)), rfl, hnm⟩) (hw _ (List.mem_of_getElem? (i := 9) rfl)) (ty := .long) pf_j rfl rfl (g := (mkF m 23 #[.val (.ref a1), .val nm, .val (.long q2), .second, .val (.long q3), .second, .val (.long q4), .second, .val (.double d5), .second, .val (.long q6), .second] [(.long q4), (.ref a1)])) rfl rfl (hb hby d1_23)
  have N13 := Fr.snoc X13 N12 g9
  have P13 : Keep h0 h13 [a1] := P12.wr W13 (Or.inl (List.mem_of_getElem? (i := 0) rfl))
  have E13 : Exa Z h13 a1 "com/example/overload_control/overloadcontrol/ResourceStats" := E12.wr W13
  have F13_1 : Fld Z h13 a1 "com/example/overload_control/overloadcontrol/ResourceStats" "passed" "J" (.long q2) := F12_1.other W13 (Or.inr (slot_ne (a0 := a0) (C := "com/example/overload_control/overloadcontrol/ResourceStats") (Or.inr (hw _ (List.mem_of_getElem? (i := 25) rfl))) (Or.inr (hw _ (List.mem_of_getElem? (i := 29) rfl))) (by decide) pf_j pf_j))
  have F13_2 : Fld Z h13 a1 "com/example/overload_control/overloadcontrol/ResourceStats" "blocked" "J" (.long q3) := F12_2.other W13 (Or.inr (slot_ne (a0 := a0) (C := "com/example/overload_control/overloadcontrol/ResourceStats") (Or.inr (hw _ (List.mem_of_getElem? (i := 27) rfl))) (Or.inr (hw _ (List.mem_of_getElem? (i := 29) rfl))) (by decide) pf_j pf_j))
  have F13_3 : Fld Z h13 a1 "com/example/overload_control/overloadcontrol/ResourceStats" "errors" "J" (.long q4) := F12_3.same W13
  have F13_4 : Fld Z h13 a1 "com/example/overload_control/overloadcontrol/ResourceStats" "averageRtMillis" "D" (.double (0 : UInt64)) := F12_4.other W13 (Or.inr (slot_ne (a0 := a0) (C := "com/example/overload_control/overloadcontrol/ResourceStats") (Or.inr (hw _ (List.mem_of_getElem? (i := 31) rfl))) (Or.inr (hw _ (List.mem_of_getElem? (i := 29) rfl))) (by decide) pf_d pf_j))
  have F13_5 : Fld Z h13 a1 "com/example/overload_control/overloadcontrol/ResourceStats" "inFlight" "J" (.long (0 : Int64)) := F12_5.other W13 (Or.inr (slot_ne (a0 := a0) (C := "com/example/overload_control/overloadcontrol/ResourceStats") (Or.inr (hw _ (List.mem_of_getElem? (i := 33) rfl))) (Or.inr (hw _ (List.mem_of_getElem? (i := 29) rfl))) (by decide) pf_j pf_j))
  obtain ⟨T14, h14, X14, e14, W14, st14⟩ := putF X13 hx hZ hown (host := "") (Or.inl (hw _ (List.mem_of_getElem? (i := 30) rfl))) Via.refl e13 F13_4 E13 (Or.inr ⟨(hw _ (List.mem_of_getElem? (i := 31) rfl)), rfl, hnm⟩) (hw _ (List.mem_of_getElem? (i := 9) rfl)) (ty := .double) pf_d rfl rfl (g := (mkF m 29 #[.val (.ref a1), .val nm, .val (.long q2), .second, .val (.long q3), .second, .val (.long q4), .second, .val (.double d5), .second, .val (.long q6), .second] [(.double d5), (.ref a1)])) rfl rfl (hb hby d1_29)
  have N14 := Fr.snoc X14 N13 g9
  have P14 : Keep h0 h14 [a1] := P13.wr W14 (Or.inl (List.mem_of_getElem? (i := 0) rfl))
  have E14 : Exa Z h14 a1 "com/example/overload_control/overloadcontrol/ResourceStats" := E13.wr W14
  have F14_1 : Fld Z h14 a1 "com/example/overload_control/overloadcontrol/ResourceStats" "passed" "J" (.long q2) := F13_1.other W14 (Or.inr (slot_ne (a0 := a0) (C := "com/example/overload_control/overloadcontrol/ResourceStats") (Or.inr (hw _ (List.mem_of_getElem? (i := 25) rfl))) (Or.inr (hw _ (List.mem_of_getElem? (i := 31) rfl))) (by decide) pf_j pf_d))
  have F14_2 : Fld Z h14 a1 "com/example/overload_control/overloadcontrol/ResourceStats" "blocked" "J" (.long q3) := F13_2.other W14 (Or.inr (slot_ne (a0 := a0) (C := "com/example/overload_control/overloadcontrol/ResourceStats") (Or.inr (hw _ (List.mem_of_getElem? (i := 27) rfl))) (Or.inr (hw _ (List.mem_of_getElem? (i := 31) rfl))) (by decide) pf_j pf_d))
  have F14_3 : Fld Z h14 a1 "com/example/overload_control/overloadcontrol/ResourceStats" "errors" "J" (.long q4) := F13_3.other W14 (Or.inr (slot_ne (a0 := a0) (C := "com/example/overload_control/overloadcontrol/ResourceStats") (Or.inr (hw _ (List.mem_of_getElem? (i := 29) rfl))) (Or.inr (hw _ (List.mem_of_getElem? (i := 31) rfl))) (by decide) pf_j pf_d))
  have F14_4 : Fld Z h14 a1 "com/example/overload_control/overloadcontrol/ResourceStats" "averageRtMillis" "D" (.double d5) := F13_4.same W14
  have F14_5 : Fld Z h14 a1 "com/example/overload_control/overloadcontrol/ResourceStats" "inFlight" "J" (.long (0 : Int64)) := F13_5.other W14 (Or.inr (slot_ne (a0 := a0) (C := "com/example/overload_control/overloadcontrol/ResourceStats") (Or.inr (hw _ (List.mem_of_getElem? (i := 33) rfl))) (Or.inr (hw _ (List.mem_of_getElem? (i := 31) rfl))) (by decide) pf_j pf_d))
  obtain ⟨T15, h15, X15, e15, W15, st15⟩ := putF X14 hx hZ hown (host := "") (Or.inl (hw _ (List.mem_of_getElem? (i := 32) rfl))) Via.refl e14 F14_5 E14 (Or.inr ⟨(hw _ (List.mem_of_getElem? (i := 33) rfl)), rfl, hnm⟩) (hw _ (List.mem_of_getElem? (i := 9) rfl)) (ty := .long) pf_j rfl rfl (g := (mkF m 35 #[.val (.ref a1), .val nm, .val (.long q2), .second, .val (.long q3), .second, .val (.long q4), .second, .val (.double d5), .second, .val (.long q6), .second] [(.long q6), (.ref a1)])) rfl rfl (hb hby d1_35)
  have N15 := Fr.snoc X15 N14 g9
  have P15 : Keep h0 h15 [a1] := P14.wr W15 (Or.inl (List.mem_of_getElem? (i := 0) rfl))
  have E15 : Exa Z h15 a1 "com/example/overload_control/overloadcontrol/ResourceStats" := E14.wr W15
  have F15_1 : Fld Z h15 a1 "com/example/overload_control/overloadcontrol/ResourceStats" "passed" "J" (.long q2) := F14_1.other W15 (Or.inr (slot_ne (a0 := a0) (C := "com/example/overload_control/overloadcontrol/ResourceStats") (Or.inr (hw _ (List.mem_of_getElem? (i := 25) rfl))) (Or.inr (hw _ (List.mem_of_getElem? (i := 33) rfl))) (by decide) pf_j pf_j))
  have F15_2 : Fld Z h15 a1 "com/example/overload_control/overloadcontrol/ResourceStats" "blocked" "J" (.long q3) := F14_2.other W15 (Or.inr (slot_ne (a0 := a0) (C := "com/example/overload_control/overloadcontrol/ResourceStats") (Or.inr (hw _ (List.mem_of_getElem? (i := 27) rfl))) (Or.inr (hw _ (List.mem_of_getElem? (i := 33) rfl))) (by decide) pf_j pf_j))
  have F15_3 : Fld Z h15 a1 "com/example/overload_control/overloadcontrol/ResourceStats" "errors" "J" (.long q4) := F14_3.other W15 (Or.inr (slot_ne (a0 := a0) (C := "com/example/overload_control/overloadcontrol/ResourceStats") (Or.inr (hw _ (List.mem_of_getElem? (i := 29) rfl))) (Or.inr (hw _ (List.mem_of_getElem? (i := 33) rfl))) (by decide) pf_j pf_j))
  have F15_4 : Fld Z h15 a1 "com/example/overload_control/overloadcontrol/ResourceStats" "averageRtMillis" "D" (.double d5) := F14_4.other W15 (Or.inr (slot_ne (a0 := a0) (C := "com/example/overload_control/overloadcontrol/ResourceStats") (Or.inr (hw _ (List.mem_of_getElem? (i := 31) rfl))) (Or.inr (hw _ (List.mem_of_getElem? (i := 33) rfl))) (by decide) pf_d pf_j))
  have F15_5 : Fld Z h15 a1 "com/example/overload_control/overloadcontrol/ResourceStats" "inFlight" "J" (.long q6) := F14_5.same W15
  obtain ⟨fs, hr, hrun, hended, hW, hsame⟩ := X15.leave (v := none) (fun _ => rfl)
  refine ⟨_, _, pre0 _ ?_, hrun, hended, _, _, rfl, ?_, ⟨_, rfl⟩, hW, hsame.mono (by decide) (by decide)⟩
  · show Steps p.tables e below (s₁.setTop (mkF m 0 #[.val (.ref a1), .val nm, .val (.long q2), .second, .val (.long q3), .second, .val (.long q4), .second, .val (.double d5), .second, .val (.long q6), .second] [])) _
    refine XS.aloadN X0.here hx rfl (hb hby d1_0) rfl rfl ?_
    show Steps p.tables e below (s₁.setTop (mkF m 1 #[.val (.ref a1), .val nm, .val (.long q2), .second, .val (.long q3), .second, .val (.long q4), .second, .val (.double d5), .second, .val (.long q6), .second] [(.ref a1)])) _
    refine st2.trans ?_
    show Steps p.tables e below (T2.setTop (mkF m 4 #[.val (.ref a1), .val nm, .val (.long q2), .second, .val (.long q3), .second, .val (.long q4), .second, .val (.double d5), .second, .val (.long q6), .second] [])) _
    refine XS.aloadN X2.here hx rfl (hb hby d1_4) rfl rfl ?_
    show Steps p.tables e below (T2.setTop (mkF m 5 #[.val (.ref a1), .val nm, .val (.long q2), .second, .val (.long q3), .second, .val (.long q4), .second, .val (.double d5), .second, .val (.long q6), .second] [(.ref a1)])) _
    refine XS.aloadN X2.here hx rfl (hb hby d1_5) rfl hnr ?_
    show Steps p.tables e below (T2.setTop (mkF m 6 #[.val (.ref a1), .val nm, .val (.long q2), .second, .val (.long q3), .second, .val (.long q4), .second, .val (.double d5), .second, .val (.long q6), .second] [nm, (.ref a1)])) _
    refine st10 _ ?_
    show Steps p.tables e below (T10.setTop (mkF m 9 #[.val (.ref a1), .val nm, .val (.long q2), .second, .val (.long q3), .second, .val (.long q4), .second, .val (.double d5), .second, .val (.long q6), .second] [])) _
    refine XS.aloadN X10.here hx rfl (hb hby d1_9) rfl rfl ?_
    show Steps p.tables e below (T10.setTop (mkF m 10 #[.val (.ref a1), .val nm, .val (.long q2), .second, .val (.long q3), .second, .val (.long q4), .second, .val (.double d5), .second, .val (.long q6), .second] [(.ref a1)])) _
    refine XS.lloadN X10.here hx rfl (hb hby d1_10) rfl ?_
    show Steps p.tables e below (T10.setTop (mkF m 11 #[.val (.ref a1), .val nm, .val (.long q2), .second, .val (.long q3), .second, .val (.long q4), .second, .val (.double d5), .second, .val (.long q6), .second] [(.long q2), (.ref a1)])) _
    refine st11 _ ?_
    show Steps p.tables e below (T11.setTop (mkF m 14 #[.val (.ref a1), .val nm, .val (.long q2), .second, .val (.long q3), .second, .val (.long q4), .second, .val (.double d5), .second, .val (.long q6), .second] [])) _
    refine XS.aloadN X11.here hx rfl (hb hby d1_14) rfl rfl ?_
    show Steps p.tables e below (T11.setTop (mkF m 15 #[.val (.ref a1), .val nm, .val (.long q2), .second, .val (.long q3), .second, .val (.long q4), .second, .val (.double d5), .second, .val (.long q6), .second] [(.ref a1)])) _
    refine XS.lload X11.here hx rfl (hb hby d1_15) rfl ?_
    show Steps p.tables e below (T11.setTop (mkF m 17 #[.val (.ref a1), .val nm, .val (.long q2), .second, .val (.long q3), .second, .val (.long q4), .second, .val (.double d5), .second, .val (.long q6), .second] [(.long q3), (.ref a1)])) _
    refine st12 _ ?_
    show Steps p.tables e below (T12.setTop (mkF m 20 #[.val (.ref a1), .val nm, .val (.long q2), .second, .val (.long q3), .second, .val (.long q4), .second, .val (.double d5), .second, .val (.long q6), .second] [])) _
    refine XS.aloadN X12.here hx rfl (hb hby d1_20) rfl rfl ?_
    show Steps p.tables e below (T12.setTop (mkF m 21 #[.val (.ref a1), .val nm, .val (.long q2), .second, .val (.long q3), .second, .val (.long q4), .second, .val (.double d5), .second, .val (.long q6), .second] [(.ref a1)])) _
    refine XS.lload X12.here hx rfl (hb hby d1_21) rfl ?_
    show Steps p.tables e below (T12.setTop (mkF m 23 #[.val (.ref a1), .val nm, .val (.long q2), .second, .val (.long q3), .second, .val (.long q4), .second, .val (.double d5), .second, .val (.long q6), .second] [(.long q4), (.ref a1)])) _
    refine st13 _ ?_
    show Steps p.tables e below (T13.setTop (mkF m 26 #[.val (.ref a1), .val nm, .val (.long q2), .second, .val (.long q3), .second, .val (.long q4), .second, .val (.double d5), .second, .val (.long q6), .second] [])) _
    refine XS.aloadN X13.here hx rfl (hb hby d1_26) rfl rfl ?_
    show Steps p.tables e below (T13.setTop (mkF m 27 #[.val (.ref a1), .val nm, .val (.long q2), .second, .val (.long q3), .second, .val (.long q4), .second, .val (.double d5), .second, .val (.long q6), .second] [(.ref a1)])) _
    refine XS.dload X13.here hx rfl (hb hby d1_27) rfl ?_
    show Steps p.tables e below (T13.setTop (mkF m 29 #[.val (.ref a1), .val nm, .val (.long q2), .second, .val (.long q3), .second, .val (.long q4), .second, .val (.double d5), .second, .val (.long q6), .second] [(.double d5), (.ref a1)])) _
    refine st14 _ ?_
    show Steps p.tables e below (T14.setTop (mkF m 32 #[.val (.ref a1), .val nm, .val (.long q2), .second, .val (.long q3), .second, .val (.long q4), .second, .val (.double d5), .second, .val (.long q6), .second] [])) _
    refine XS.aloadN X14.here hx rfl (hb hby d1_32) rfl rfl ?_
    show Steps p.tables e below (T14.setTop (mkF m 33 #[.val (.ref a1), .val nm, .val (.long q2), .second, .val (.long q3), .second, .val (.long q4), .second, .val (.double d5), .second, .val (.long q6), .second] [(.ref a1)])) _
    refine XS.lload X14.here hx rfl (hb hby d1_33) rfl ?_
    show Steps p.tables e below (T14.setTop (mkF m 35 #[.val (.ref a1), .val nm, .val (.long q2), .second, .val (.long q3), .second, .val (.long q4), .second, .val (.double d5), .second, .val (.long q6), .second] [(.long q6), (.ref a1)])) _
    refine st15 _ ?_
    show Steps p.tables e below (T15.setTop (mkF m 38 #[.val (.ref a1), .val nm, .val (.long q2), .second, .val (.long q3), .second, .val (.long q4), .second, .val (.double d5), .second, .val (.long q6), .second] [])) _
    exact X15.returnOut hx Bd.returns (hb hby d1_38) hr
  · show Q1 Z a1 q2 q3 q4 d5 q6 h0 n0 _ T15.heap _
    rw [e15]
    exact ⟨rfl, N15, P15, E15, F15_1, F15_2, F15_3, F15_4, F15_5⟩
/-! ## 6. idle -/
def Q4 (r : Int32) (h0 : Heap) (v : Option Value) (h : Heap) (L : List Loc) : Prop := v = some (.int r) ∧ L = [] ∧ h = h0
set_option maxRecDepth 65536 in
set_option maxHeartbeats 40000000 in
theorem rm4 (l : Launch) (Z : State) (a0 : Array Value) (hw : ∀ d ∈ tables_1, d.before a0 Z = true) (ws : List Jvm.Cond) (a1 : Addr) (w1 w2 w3 : Int64) (d4 : UInt64) (w5 : Int64) (h0 : Heap) (F1 : Fld Z h0 a1 "com/example/overload_control/overloadcontrol/ResourceStats" "passed" "J" (.long w1)) (F2 : Fld Z h0 a1 "com/example/overload_control/overloadcontrol/ResourceStats" "blocked" "J" (.long w2)) (F3 : Fld Z h0 a1 "com/example/overload_control/overloadcontrol/ResourceStats" "errors" "J" (.long w3)) (F4 : Fld Z h0 a1 "com/example/overload_control/overloadcontrol/ResourceStats" "averageRtMillis" "D" (.double d4)) (F5 : Fld Z h0 a1 "com/example/overload_control/overloadcontrol/ResourceStats" "inFlight" "J" (.long w5)) :
    MetFree l (⟨"com/example/overload_control/overloadcontrol/ResourceStats", "idle", "()Z"⟩ : MethodName) (head1 (Jvm.Cond.code (⟨"com/example/overload_control/overloadcontrol/ResourceStats", "idle", "()Z"⟩ : MethodName) prog_61_method_2_code 1 (some .boolean) :: ws) ({ frames := 0, cells := 0, slots := 0, locals := 0 } : Room)) (fun a U => a = #[(.ref a1)] ∧ Z.Warmed39 U.vm ∧ U.heap = h0) (fun _ _ _ _ _ => True) (fun _ U o U' => ∃ v L, o = .returned v ∧ Q4 (own_idle w1 w2 w3 d4 w5) h0 v U'.heap L ∧ FrameEnd U o U' L ({ frames := 0, cells := 0, slots := 0, locals := 0 } : Room).cells ({ frames := 0, cells := 0, slots := 0, locals := 0 } : Room).slots) := by
  refine MetFree.of_bodySF (plainFor_of_name pn_rs) hisR ?_
  intro p e s m args below meth c s₁ Bd hml0 hP hK
  obtain ⟨rfl, hZ, hh⟩ := hP
  have hx := Bd.exec
  have hby := Bd.bytes
  have hml : c.maxLocals = 1 := hml0
  have hown : s.vm.findClass "com/example/overload_control/overloadcontrol/ResourceStats" = some m.cls := findClass_of_methodNamed Bd.named
  have hnm := (name_of_methodNamed Bd.named Bd.method).1
  have X0 : Stand p l e ({ frames := 0, cells := 0, slots := 0, locals := 0 } : Room) s m #[(.ref a1)] below meth c s₁ [] 0 0 := Stand.of_body Bd
  have e0 : s₁.heap = h0 := by rw [← hh, Bd.state]; rfl
  have pre0 : ∀ t, Steps p.tables e below (s₁.setTop (mkF m 0 #[.val (.ref a1)] [])) t → Steps p.tables e below (s₁.setTop (entryFrame m #[(.ref a1)] 1)) t := fun t k => castTop (ef_2 m a1) k
  obtain ⟨T1, X1, e1, st1⟩ := getF X0 hx hZ hown (host := "") (Or.inl (hw _ (List.mem_of_getElem? (i := 24) rfl))) Via.refl e0 F1 (g := (mkF m 1 #[.val (.ref a1)] [(.ref a1)])) rfl rfl (hb hby d4_1)
  have j1 (hc : ¬ (w1 = 0)) : ∀ t, Steps p.tables e below (T1.setTop (mkF m 49 #[.val (.ref a1)] [])) t → Steps p.tables e below (s₁.setTop (mkF m 0 #[.val (.ref a1)] [])) t := fun t kk => by
    show Steps p.tables e below (s₁.setTop (mkF m 0 #[.val (.ref a1)] [])) _
    refine XS.aloadN X0.here hx rfl (hb hby d4_0) rfl rfl ?_
    show Steps p.tables e below (s₁.setTop (mkF m 1 #[.val (.ref a1)] [(.ref a1)])) _
    refine st1 _ ?_
    show Steps p.tables e below (T1.setTop (mkF m 4 #[.val (.ref a1)] [(.long w1)])) _
    refine XS.lconst X1.here hx rfl (hb hby d4_4) ?_
    show Steps p.tables e below (T1.setTop (mkF m 5 #[.val (.ref a1)] [(.long (0 : Int64)), (.long w1)])) _
    refine XS.lcmp X1.here hx rfl (hb hby d4_5) rfl ?_
    show Steps p.tables e below (T1.setTop (mkF m 6 #[.val (.ref a1)] [(.int (lcmpW w1 (0 : Int64)))])) _
    refine XS.ifYes X1.here hx rfl (pc0 := 6) (pc' := 49) rfl (hb hby d4_6) rfl ((if0 _ _).trans (feq (fun z => hc ((own_lc _ _).mp z))).2) (by decide) (by decide) ?_
    show Steps p.tables e below (T1.setTop (mkF m 49 #[.val (.ref a1)] [])) _
    exact kk
  have k1 (hc : (w1 = 0)) : ∀ t, Steps p.tables e below (T1.setTop (mkF m 9 #[.val (.ref a1)] [])) t → Steps p.tables e below (s₁.setTop (mkF m 0 #[.val (.ref a1)] [])) t := fun t kk => by
    show Steps p.tables e below (s₁.setTop (mkF m 0 #[.val (.ref a1)] [])) _
    refine XS.aloadN X0.here hx rfl (hb hby d4_0) rfl rfl ?_
    show Steps p.tables e below (s₁.setTop (mkF m 1 #[.val (.ref a1)] [(.ref a1)])) _
    refine st1 _ ?_
    show Steps p.tables e below (T1.setTop (mkF m 4 #[.val (.ref a1)] [(.long w1)])) _
    refine XS.lconst X1.here hx rfl (hb hby d4_4) ?_
    show Steps p.tables e below (T1.setTop (mkF m 5 #[.val (.ref a1)] [(.long (0 : Int64)), (.long w1)])) _
    refine XS.lcmp X1.here hx rfl (hb hby d4_5) rfl ?_
    show Steps p.tables e below (T1.setTop (mkF m 6 #[.val (.ref a1)] [(.int (lcmpW w1 (0 : Int64)))])) _
    refine XS.ifNo X1.here hx rfl (hb hby d4_6) rfl ((if0 _ _).trans (teq ((own_lc _ _).mpr hc)).2) ?_
    show Steps p.tables e below (T1.setTop (mkF m 9 #[.val (.ref a1)] [])) _
    exact kk
  by_cases c1 : w1 = 0
  rotate_left
  · have hv : own_idle w1 w2 w3 d4 w5 = 0 := if_neg (fun q => c1 q.1)
    obtain ⟨fs, hr, hrun, hended, hW, hsame⟩ := X1.leave (v := some (.int (0 : Int32))) (fun h => by rw [Bd.returns] at h; cases h)
    refine ⟨_, _, pre0 _ (j1 c1 _ ?_), hrun, hended, _, _, rfl, ?_, ⟨_, rfl⟩, hW, hsame.mono (by decide) (by decide)⟩
    · show Steps p.tables e below (T1.setTop (mkF m 49 #[.val (.ref a1)] [])) _
      refine XS.iconst X1.here hx rfl (hb hby d4_49) ?_
      show Steps p.tables e below (T1.setTop (mkF m 50 #[.val (.ref a1)] [(.int (0 : Int32))])) _
      exact retN X1 hx (t := .boolean) Bd.returns (by simp) (hb hby d4_50) hr
    · show Q4 (own_idle w1 w2 w3 d4 w5) h0 _ T1.heap _
      rw [e1, hv]
      exact ⟨rfl, rfl, rfl⟩
  have m1 := k1 c1
  obtain ⟨T2, X2, e2, st2⟩ := getF X1 hx hZ hown (host := "") (Or.inl (hw _ (List.mem_of_getElem? (i := 26) rfl))) Via.refl e1 F2 (g := (mkF m 10 #[.val (.ref a1)] [(.ref a1)])) rfl rfl (hb hby d4_10)
  have j2 (hc : ¬ (w2 = 0)) : ∀ t, Steps p.tables e below (T2.setTop (mkF m 49 #[.val (.ref a1)] [])) t → Steps p.tables e below (s₁.setTop (mkF m 0 #[.val (.ref a1)] [])) t := fun t kk => by
    refine m1 _ ?_
    show Steps p.tables e below (T1.setTop (mkF m 9 #[.val (.ref a1)] [])) _
    refine XS.aloadN X1.here hx rfl (hb hby d4_9) rfl rfl ?_
    show Steps p.tables e below (T1.setTop (mkF m 10 #[.val (.ref a1)] [(.ref a1)])) _
    refine st2 _ ?_
    show Steps p.tables e below (T2.setTop (mkF m 13 #[.val (.ref a1)] [(.long w2)])) _
    refine XS.lconst X2.here hx rfl (hb hby d4_13) ?_
    show Steps p.tables e below (T2.setTop (mkF m 14 #[.val (.ref a1)] [(.long (0 : Int64)), (.long w2)])) _
    refine XS.lcmp X2.here hx rfl (hb hby d4_14) rfl ?_
    show Steps p.tables e below (T2.setTop (mkF m 15 #[.val (.ref a1)] [(.int (lcmpW w2 (0 : Int64)))])) _
    refine XS.ifYes X2.here hx rfl (pc0 := 15) (pc' := 49) rfl (hb hby d4_15) rfl ((if0 _ _).trans (feq (fun z => hc ((own_lc _ _).mp z))).2) (by decide) (by decide) ?_
    show Steps p.tables e below (T2.setTop (mkF m 49 #[.val (.ref a1)] [])) _
    exact kk
  have k2 (hc : (w2 = 0)) : ∀ t, Steps p.tables e below (T2.setTop (mkF m 18 #[.val (.ref a1)] [])) t → Steps p.tables e below (s₁.setTop (mkF m 0 #[.val (.ref a1)] [])) t := fun t kk => by
    refine m1 _ ?_
    show Steps p.tables e below (T1.setTop (mkF m 9 #[.val (.ref a1)] [])) _
    refine XS.aloadN X1.here hx rfl (hb hby d4_9) rfl rfl ?_
    show Steps p.tables e below (T1.setTop (mkF m 10 #[.val (.ref a1)] [(.ref a1)])) _
    refine st2 _ ?_
    show Steps p.tables e below (T2.setTop (mkF m 13 #[.val (.ref a1)] [(.long w2)])) _
    refine XS.lconst X2.here hx rfl (hb hby d4_13) ?_
    show Steps p.tables e below (T2.setTop (mkF m 14 #[.val (.ref a1)] [(.long (0 : Int64)), (.long w2)])) _
    refine XS.lcmp X2.here hx rfl (hb hby d4_14) rfl ?_
    show Steps p.tables e below (T2.setTop (mkF m 15 #[.val (.ref a1)] [(.int (lcmpW w2 (0 : Int64)))])) _
    refine XS.ifNo X2.here hx rfl (hb hby d4_15) rfl ((if0 _ _).trans (teq ((own_lc _ _).mpr hc)).2) ?_
    show Steps p.tables e below (T2.setTop (mkF m 18 #[.val (.ref a1)] [])) _
    exact kk
  by_cases c2 : w2 = 0
  rotate_left
  · have hv : own_idle w1 w2 w3 d4 w5 = 0 := if_neg (fun q => c2 q.2.1)
    obtain ⟨fs, hr, hrun, hended, hW, hsame⟩ := X2.leave (v := some (.int (0 : Int32))) (fun h => by rw [Bd.returns] at h; cases h)
    refine ⟨_, _, pre0 _ (j2 c2 _ ?_), hrun, hended, _, _, rfl, ?_, ⟨_, rfl⟩, hW, hsame.mono (by decide) (by decide)⟩
    · show Steps p.tables e below (T2.setTop (mkF m 49 #[.val (.ref a1)] [])) _
      refine XS.iconst X2.here hx rfl (hb hby d4_49) ?_
      show Steps p.tables e below (T2.setTop (mkF m 50 #[.val (.ref a1)] [(.int (0 : Int32))])) _
      exact retN X2 hx (t := .boolean) Bd.returns (by simp) (hb hby d4_50) hr
    · show Q4 (own_idle w1 w2 w3 d4 w5) h0 _ T2.heap _
      rw [e2, hv]
      exact ⟨rfl, rfl, rfl⟩
  have m2 := k2 c2
  obtain ⟨T3, X3, e3, st3⟩ := getF X2 hx hZ hown (host := "") (Or.inl (hw _ (List.mem_of_getElem? (i := 28) rfl))) Via.refl e2 F3 (g := (mkF m 19 #[.val (.ref a1)] [(.ref a1)])) rfl rfl (hb hby d4_19)
  have j3 (hc : ¬ (w3 = 0)) : ∀ t, Steps p.tables e below (T3.setTop (mkF m 49 #[.val (.ref a1)] [])) t → Steps p.tables e below (s₁.setTop (mkF m 0 #[.val (.ref a1)] [])) t := fun t kk => by
    refine m2 _ ?_
    show Steps p.tables e below (T2.setTop (mkF m 18 #[.val (.ref a1)] [])) _
    refine XS.aloadN X2.here hx rfl (hb hby d4_18) rfl rfl ?_
    show Steps p.tables e below (T2.setTop (mkF m 19 #[.val (.ref a1)] [(.ref a1)])) _
    refine st3 _ ?_
    show Steps p.tables e below (T3.setTop (mkF m 22 #[.val (.ref a1)] [(.long w3)])) _
    refine XS.lconst X3.here hx rfl (hb hby d4_22) ?_
    show Steps p.tables e below (T3.setTop (mkF m 23 #[.val (.ref a1)] [(.long (0 : Int64)), (.long w3)])) _
    refine XS.lcmp X3.here hx rfl (hb hby d4_23) rfl ?_
    show Steps p.tables e below (T3.setTop (mkF m 24 #[.val (.ref a1)] [(.int (lcmpW w3 (0 : Int64)))])) _
    refine XS.ifYes X3.here hx rfl (pc0 := 24) (pc' := 49) rfl (hb hby d4_24) rfl ((if0 _ _).trans (feq (fun z => hc ((own_lc _ _).mp z))).2) (by decide) (by decide) ?_
    show Steps p.tables e below (T3.setTop (mkF m 49 #[.val (.ref a1)] [])) _
    exact kk
  have k3 (hc : (w3 = 0)) : ∀ t, Steps p.tables e below (T3.setTop (mkF m 27 #[.val (.ref a1)] [])) t → Steps p.tables e below (s₁.setTop (mkF m 0 #[.val (.ref a1)] [])) t := fun t kk => by
    refine m2 _ ?_
    show Steps p.tables e below (T2.setTop (mkF m 18 #[.val (.ref a1)] [])) _
    refine XS.aloadN X2.here hx rfl (hb hby d4_18) rfl rfl ?_
    show Steps p.tables e below (T2.setTop (mkF m 19 #[.val (.ref a1)] [(.ref a1)])) _
    refine st3 _ ?_
    show Steps p.tables e below (T3.setTop (mkF m 22 #[.val (.ref a1)] [(.long w3)])) _
    refine XS.lconst X3.here hx rfl (hb hby d4_22) ?_
    show Steps p.tables e below (T3.setTop (mkF m 23 #[.val (.ref a1)] [(.long (0 : Int64)), (.long w3)])) _
    refine XS.lcmp X3.here hx rfl (hb hby d4_23) rfl ?_
    show Steps p.tables e below (T3.setTop (mkF m 24 #[.val (.ref a1)] [(.int (lcmpW w3 (0 : Int64)))])) _
    refine XS.ifNo X3.here hx rfl (hb hby d4_24) rfl ((if0 _ _).trans (teq ((own_lc _ _).mpr hc)).2) ?_
    show Steps p.tables e below (T3.setTop (mkF m 27 #[.val (.ref a1)] [])) _
    exact kk
  by_cases c3 : w3 = 0
  rotate_left
  · have hv : own_idle w1 w2 w3 d4 w5 = 0 := if_neg (fun q => c3 q.2.2.1)
    obtain ⟨fs, hr, hrun, hended, hW, hsame⟩ := X3.leave (v := some (.int (0 : Int32))) (fun h => by rw [Bd.returns] at h; cases h)
    refine ⟨_, _, pre0 _ (j3 c3 _ ?_), hrun, hended, _, _, rfl, ?_, ⟨_, rfl⟩, hW, hsame.mono (by decide) (by decide)⟩
    · show Steps p.tables e below (T3.setTop (mkF m 49 #[.val (.ref a1)] [])) _
      refine XS.iconst X3.here hx rfl (hb hby d4_49) ?_
      show Steps p.tables e below (T3.setTop (mkF m 50 #[.val (.ref a1)] [(.int (0 : Int32))])) _
      exact retN X3 hx (t := .boolean) Bd.returns (by simp) (hb hby d4_50) hr
    · show Q4 (own_idle w1 w2 w3 d4 w5) h0 _ T3.heap _
      rw [e3, hv]
      exact ⟨rfl, rfl, rfl⟩
  have m3 := k3 c3
  obtain ⟨T4, X4, e4, st4⟩ := getF X3 hx hZ hown (host := "") (Or.inl (hw _ (List.mem_of_getElem? (i := 30) rfl))) Via.refl e3 F4 (g := (mkF m 28 #[.val (.ref a1)] [(.ref a1)])) rfl rfl (hb hby d4_28)
  have j4 (hc : ¬ (cmpValue (FP.dcmp d4 0) .l = 0)) : ∀ t, Steps p.tables e below (T4.setTop (mkF m 49 #[.val (.ref a1)] [])) t → Steps p.tables e below (s₁.setTop (mkF m 0 #[.val (.ref a1)] [])) t := fun t kk => by
    refine m3 _ ?_
    show Steps p.tables e below (T3.setTop (mkF m 27 #[.val (.ref a1)] [])) _
    refine XS.aloadN X3.here hx rfl (hb hby d4_27) rfl rfl ?_
    show Steps p.tables e below (T3.setTop (mkF m 28 #[.val (.ref a1)] [(.ref a1)])) _
    refine st4 _ ?_
    show Steps p.tables e below (T4.setTop (mkF m 31 #[.val (.ref a1)] [(.double d4)])) _
    refine XS.dconst0 X4.here hx rfl (hb hby d4_31) (v := (0 : UInt64)) rfl ?_
    show Steps p.tables e below (T4.setTop (mkF m 32 #[.val (.ref a1)] [(.double (0 : UInt64)), (.double d4)])) _
    refine XS.dcmpS X4.here hx rfl (hb hby d4_32) rfl rfl ?_
    show Steps p.tables e below (T4.setTop (mkF m 33 #[.val (.ref a1)] [(.int (cmpValue (FP.dcmp d4 0) .l))])) _
    refine XS.ifYes X4.here hx rfl (pc0 := 33) (pc' := 49) rfl (hb hby d4_33) rfl ((if0 _ _).trans (feq hc).2) (by decide) (by decide) ?_
    show Steps p.tables e below (T4.setTop (mkF m 49 #[.val (.ref a1)] [])) _
    exact kk
  have k4 (hc : (cmpValue (FP.dcmp d4 0) .l = 0)) : ∀ t, Steps p.tables e below (T4.setTop (mkF m 36 #[.val (.ref a1)] [])) t → Steps p.tables e below (s₁.setTop (mkF m 0 #[.val (.ref a1)] [])) t := fun t kk => by
    refine m3 _ ?_
    show Steps p.tables e below (T3.setTop (mkF m 27 #[.val (.ref a1)] [])) _
    refine XS.aloadN X3.here hx rfl (hb hby d4_27) rfl rfl ?_
    show Steps p.tables e below (T3.setTop (mkF m 28 #[.val (.ref a1)] [(.ref a1)])) _
    refine st4 _ ?_
    show Steps p.tables e below (T4.setTop (mkF m 31 #[.val (.ref a1)] [(.double d4)])) _
    refine XS.dconst0 X4.here hx rfl (hb hby d4_31) (v := (0 : UInt64)) rfl ?_
    show Steps p.tables e below (T4.setTop (mkF m 32 #[.val (.ref a1)] [(.double (0 : UInt64)), (.double d4)])) _
    refine XS.dcmpS X4.here hx rfl (hb hby d4_32) rfl rfl ?_
    show Steps p.tables e below (T4.setTop (mkF m 33 #[.val (.ref a1)] [(.int (cmpValue (FP.dcmp d4 0) .l))])) _
    refine XS.ifNo X4.here hx rfl (hb hby d4_33) rfl ((if0 _ _).trans (teq hc).2) ?_
    show Steps p.tables e below (T4.setTop (mkF m 36 #[.val (.ref a1)] [])) _
    exact kk
  by_cases c4 : cmpValue (FP.dcmp d4 0) .l = 0
  rotate_left
  · have hv : own_idle w1 w2 w3 d4 w5 = 0 := if_neg (fun q => c4 q.2.2.2.1)
    obtain ⟨fs, hr, hrun, hended, hW, hsame⟩ := X4.leave (v := some (.int (0 : Int32))) (fun h => by rw [Bd.returns] at h; cases h)
    refine ⟨_, _, pre0 _ (j4 c4 _ ?_), hrun, hended, _, _, rfl, ?_, ⟨_, rfl⟩, hW, hsame.mono (by decide) (by decide)⟩
    · show Steps p.tables e below (T4.setTop (mkF m 49 #[.val (.ref a1)] [])) _
      refine XS.iconst X4.here hx rfl (hb hby d4_49) ?_
      show Steps p.tables e below (T4.setTop (mkF m 50 #[.val (.ref a1)] [(.int (0 : Int32))])) _
      exact retN X4 hx (t := .boolean) Bd.returns (by simp) (hb hby d4_50) hr
    · show Q4 (own_idle w1 w2 w3 d4 w5) h0 _ T4.heap _
      rw [e4, hv]
      exact ⟨rfl, rfl, rfl⟩
  have m4 := k4 c4
  obtain ⟨T5, X5, e5, st5⟩ := getF X4 hx hZ hown (host := "") (Or.inl (hw _ (List.mem_of_getElem? (i := 32) rfl))) Via.refl e4 F5 (g := (mkF m 37 #[.val (.ref a1)] [(.ref a1)])) rfl rfl (hb hby d4_37)
  have j5 (hc : ¬ (w5 = 0)) : ∀ t, Steps p.tables e below (T5.setTop (mkF m 49 #[.val (.ref a1)] [])) t → Steps p.tables e below (s₁.setTop (mkF m 0 #[.val (.ref a1)] [])) t := fun t kk => by
    refine m4 _ ?_
    show Steps p.tables e below (T4.setTop (mkF m 36 #[.val (.ref a1)] [])) _
    refine XS.aloadN X4.here hx rfl (hb hby d4_36) rfl rfl ?_
    show Steps p.tables e below (T4.setTop (mkF m 37 #[.val (.ref a1)] [(.ref a1)])) _
    refine st5 _ ?_
    show Steps p.tables e below (T5.setTop (mkF m 40 #[.val (.ref a1)] [(.long w5)])) _
    refine XS.lconst X5.here hx rfl (hb hby d4_40) ?_
    show Steps p.tables e below (T5.setTop (mkF m 41 #[.val (.ref a1)] [(.long (0 : Int64)), (.long w5)])) _
    refine XS.lcmp X5.here hx rfl (hb hby d4_41) rfl ?_
    show Steps p.tables e below (T5.setTop (mkF m 42 #[.val (.ref a1)] [(.int (lcmpW w5 (0 : Int64)))])) _
    refine XS.ifYes X5.here hx rfl (pc0 := 42) (pc' := 49) rfl (hb hby d4_42) rfl ((if0 _ _).trans (feq (fun z => hc ((own_lc _ _).mp z))).2) (by decide) (by decide) ?_
    show Steps p.tables e below (T5.setTop (mkF m 49 #[.val (.ref a1)] [])) _
    exact kk
  have k5 (hc : (w5 = 0)) : ∀ t, Steps p.tables e below (T5.setTop (mkF m 45 #[.val (.ref a1)] [])) t → Steps p.tables e below (s₁.setTop (mkF m 0 #[.val (.ref a1)] [])) t := fun t kk => by
    refine m4 _ ?_
    show Steps p.tables e below (T4.setTop (mkF m 36 #[.val (.ref a1)] [])) _
    refine XS.aloadN X4.here hx rfl (hb hby d4_36) rfl rfl ?_
    show Steps p.tables e below (T4.setTop (mkF m 37 #[.val (.ref a1)] [(.ref a1)])) _
    refine st5 _ ?_
    show Steps p.tables e below (T5.setTop (mkF m 40 #[.val (.ref a1)] [(.long w5)])) _
    refine XS.lconst X5.here hx rfl (hb hby d4_40) ?_
    show Steps p.tables e below (T5.setTop (mkF m 41 #[.val (.ref a1)] [(.long (0 : Int64)), (.long w5)])) _
    refine XS.lcmp X5.here hx rfl (hb hby d4_41) rfl ?_
    show Steps p.tables e below (T5.setTop (mkF m 42 #[.val (.ref a1)] [(.int (lcmpW w5 (0 : Int64)))])) _
    refine XS.ifNo X5.here hx rfl (hb hby d4_42) rfl ((if0 _ _).trans (teq ((own_lc _ _).mpr hc)).2) ?_
    show Steps p.tables e below (T5.setTop (mkF m 45 #[.val (.ref a1)] [])) _
    exact kk
  by_cases c5 : w5 = 0
  rotate_left
  · have hv : own_idle w1 w2 w3 d4 w5 = 0 := if_neg (fun q => c5 q.2.2.2.2)
    obtain ⟨fs, hr, hrun, hended, hW, hsame⟩ := X5.leave (v := some (.int (0 : Int32))) (fun h => by rw [Bd.returns] at h; cases h)
    refine ⟨_, _, pre0 _ (j5 c5 _ ?_), hrun, hended, _, _, rfl, ?_, ⟨_, rfl⟩, hW, hsame.mono (by decide) (by decide)⟩
    · show Steps p.tables e below (T5.setTop (mkF m 49 #[.val (.ref a1)] [])) _
      refine XS.iconst X5.here hx rfl (hb hby d4_49) ?_
      show Steps p.tables e below (T5.setTop (mkF m 50 #[.val (.ref a1)] [(.int (0 : Int32))])) _
      exact retN X5 hx (t := .boolean) Bd.returns (by simp) (hb hby d4_50) hr
    · show Q4 (own_idle w1 w2 w3 d4 w5) h0 _ T5.heap _
      rw [e5, hv]
      exact ⟨rfl, rfl, rfl⟩
  have m5 := k5 c5
  have hv : own_idle w1 w2 w3 d4 w5 = 1 := if_pos ⟨c1, c2, c3, c4, c5⟩
  obtain ⟨fs, hr, hrun, hended, hW, hsame⟩ := X5.leave (v := some (.int (1 : Int32))) (fun h => by rw [Bd.returns] at h; cases h)
  refine ⟨_, _, pre0 _ (m5 _ ?_), hrun, hended, _, _, rfl, ?_, ⟨_, rfl⟩, hW, hsame.mono (by decide) (by decide)⟩
  · show Steps p.tables e below (T5.setTop (mkF m 45 #[.val (.ref a1)] [])) _
    refine XS.iconst X5.here hx rfl (hb hby d4_45) ?_
    show Steps p.tables e below (T5.setTop (mkF m 46 #[.val (.ref a1)] [(.int (1 : Int32))])) _
    refine XS.goto X5.here hx rfl (pc0 := 46) (pc' := 50) rfl (hb hby d4_46) (by decide) (by decide) ?_
    show Steps p.tables e below (T5.setTop (mkF m 50 #[.val (.ref a1)] [(.int (1 : Int32))])) _
    exact retN X5 hx (t := .boolean) Bd.returns (by simp) (hb hby d4_50) hr
  · show Q4 (own_idle w1 w2 w3 d4 w5) h0 _ T5.heap _
    rw [e5, hv]
    exact ⟨rfl, rfl, rfl⟩
/-! ## 7. The law, piece by piece -/
section Pieces
variable {p : Program} {l : Launch} {e : Env} {s : State} {m : MethodId} {args : Array Value} {below : List Frame} {meth : Method} {c : Code} {T : State} {Z : State} {a0 : Array Value} {h : Heap}
set_option maxRecDepth 65536 in
set_option maxHeartbeats 40000000 in
theorem segA (X : Stand p l e room_1 s m args below meth c T [] 0 0) (hx : p.tables.exec = Jvm.exec) (hZ : Z.Warmed39 s.vm) (hw : ∀ d ∈ tables_1, d.before a0 Z = true) (hml : c.maxLocals = 24) (hby : c.code = code) (hown : s.vm.findClass "com/example/overload_control/overloadcontrol/ResourceStatsIdlePinLaw" = some m.cls) (eT : T.heap = h) (mk : Int32) (q1 q2 q3 : Int64) (rt : Int32) (q5 : Int64) :
    ∃ T', Stand p l e room_1 s m args below meth c T' [] 0 0 ∧ T'.heap = h ∧ ∀ t, Steps p.tables e below (T'.setTop (mkF m 16 #[.val (.int mk), .val (.long q1), .second, .val (.long q2), .second, .val (.long q3), .second, .val (.int rt), .val (.long q5), .second, .val (.long (own_pick mk 1 q1)), .second, .unset, .unset, .unset, .unset, .unset, .unset, .unset, .unset, .unset, .unset, .unset, .unset] [])) t → Steps p.tables e below (T.setTop (mkF m 0 #[.val (.int mk), .val (.long q1), .second, .val (.long q2), .second, .val (.long q3), .second, .val (.int rt), .val (.long q5), .second, .unset, .unset, .unset, .unset, .unset, .unset, .unset, .unset, .unset, .unset, .unset, .unset, .unset, .unset] [])) t := by
  by_cases hc : mk &&& 1 = 0
  · refine ⟨T, X, eT, fun t k => ?_⟩
    rw [show own_pick mk 1 q1 = 0 from if_pos hc] at k
    show Steps p.tables e below (T.setTop (mkF m 0 #[.val (.int mk), .val (.long q1), .second, .val (.long q2), .second, .val (.long q3), .second, .val (.int rt), .val (.long q5), .second, .unset, .unset, .unset, .unset, .unset, .unset, .unset, .unset, .unset, .unset, .unset, .unset, .unset, .unset] [])) _
    refine XS.iloadN X.here hx rfl (hb hby at_0) rfl ?_
    show Steps p.tables e below (T.setTop (mkF m 1 #[.val (.int mk), .val (.long q1), .second, .val (.long q2), .second, .val (.long q3), .second, .val (.int rt), .val (.long q5), .second, .unset, .unset, .unset, .unset, .unset, .unset, .unset, .unset, .unset, .unset, .unset, .unset, .unset, .unset] [(.int mk)])) _
    refine XS.iconst X.here hx rfl (hb hby at_1) ?_
    show Steps p.tables e below (T.setTop (mkF m 2 #[.val (.int mk), .val (.long q1), .second, .val (.long q2), .second, .val (.long q3), .second, .val (.int rt), .val (.long q5), .second, .unset, .unset, .unset, .unset, .unset, .unset, .unset, .unset, .unset, .unset, .unset, .unset, .unset, .unset] [(.int (1 : Int32)), (.int mk)])) _
    refine XS.iand X.here hx rfl (hb hby at_2) rfl ?_
    show Steps p.tables e below (T.setTop (mkF m 3 #[.val (.int mk), .val (.long q1), .second, .val (.long q2), .second, .val (.long q3), .second, .val (.int rt), .val (.long q5), .second, .unset, .unset, .unset, .unset, .unset, .unset, .unset, .unset, .unset, .unset, .unset, .unset, .unset, .unset] [(.int (mk &&& (1 : Int32)))])) _
    refine XS.ifYes X.here hx rfl (pc0 := 3) (pc' := 13) rfl (hb hby at_3) rfl ((if0 _ _).trans (teq hc).1) (by decide) (by decide) ?_
    show Steps p.tables e below (T.setTop (mkF m 13 #[.val (.int mk), .val (.long q1), .second, .val (.long q2), .second, .val (.long q3), .second, .val (.int rt), .val (.long q5), .second, .unset, .unset, .unset, .unset, .unset, .unset, .unset, .unset, .unset, .unset, .unset, .unset, .unset, .unset] [])) _
    refine XS.lconst X.here hx rfl (hb hby at_13) ?_
    show Steps p.tables e below (T.setTop (mkF m 14 #[.val (.int mk), .val (.long q1), .second, .val (.long q2), .second, .val (.long q3), .second, .val (.int rt), .val (.long q5), .second, .unset, .unset, .unset, .unset, .unset, .unset, .unset, .unset, .unset, .unset, .unset, .unset, .unset, .unset] [(.long (0 : Int64))])) _
    refine XS.lstore X.here hx rfl (hb hby at_14) rfl (l' := #[.val (.int mk), .val (.long q1), .second, .val (.long q2), .second, .val (.long q3), .second, .val (.int rt), .val (.long q5), .second, .val (.long (0 : Int64)), .second, .unset, .unset, .unset, .unset, .unset, .unset, .unset, .unset, .unset, .unset, .unset, .unset]) rfl ?_
    show Steps p.tables e below (T.setTop (mkF m 16 #[.val (.int mk), .val (.long q1), .second, .val (.long q2), .second, .val (.long q3), .second, .val (.int rt), .val (.long q5), .second, .val (.long (0 : Int64)), .second, .unset, .unset, .unset, .unset, .unset, .unset, .unset, .unset, .unset, .unset, .unset, .unset] [])) _
    exact k
  · obtain ⟨_, _, ⟨T7, L7, k7, n7⟩, -, X7, ⟨Lc7, hQ7, l7, y7, z7⟩, st7⟩ := Jvm.LawKit.callS X hx (y := (⟨"com/example/overload_control/overloadcontrol/ResourceStatsIdlePinLaw", "nz", "(J)J"⟩ : MethodName)) hown (mvT hZ (hw _ (List.mem_of_getElem? (i := 39) rfl))) (mvT hZ (hw _ (List.mem_of_getElem? (i := 40) rfl))) (mvT hZ (hw _ (List.mem_of_getElem? (i := 41) rfl))) (mvT hZ (hw _ (List.mem_of_getElem? (i := 42) rfl))) (by decide) (backOf (W := 0) (rm5 l Z a0 hw [] q1 h) hZ (hw _ (List.mem_of_getElem? (i := 42) rfl)) (hw _ (List.mem_of_getElem? (i := 41) rfl)) (by decide) (by decide)) (g := (mkF m 7 #[.val (.int mk), .val (.long q1), .second, .val (.long q2), .second, .val (.long q3), .second, .val (.int rt), .val (.long q5), .second, .unset, .unset, .unset, .unset, .unset, .unset, .unset, .unset, .unset, .unset, .unset, .unset, .unset, .unset] [(.long q1)])) rfl (by rw [hml]; rfl) (argsL := [(.long q1)]) (rest := []) (lenOf pd_nz rfl) rfl (by show 2 * 0 + _ ≤ _; exact Nat.le_of_eq rfl) (hb hby at_7) (fun _ _ => ⟨rfl, eT, (by decide : 0 + 0 ≤ _), (by decide : 0 + 0 ≤ _)⟩)
    dsimp only [Pt.U, Pt.locs, Pt.cells, Pt.slots] at X7 l7 y7 z7 st7 hQ7
    subst l7 y7 z7
    obtain ⟨rfl, rfl, e7⟩ := hQ7
    refine ⟨T7, X7, e7, fun t k => ?_⟩
    rw [show own_pick mk 1 q1 = own_nz q1 from if_neg hc] at k
    show Steps p.tables e below (T.setTop (mkF m 0 #[.val (.int mk), .val (.long q1), .second, .val (.long q2), .second, .val (.long q3), .second, .val (.int rt), .val (.long q5), .second, .unset, .unset, .unset, .unset, .unset, .unset, .unset, .unset, .unset, .unset, .unset, .unset, .unset, .unset] [])) _
    refine XS.iloadN X.here hx rfl (hb hby at_0) rfl ?_
    show Steps p.tables e below (T.setTop (mkF m 1 #[.val (.int mk), .val (.long q1), .second, .val (.long q2), .second, .val (.long q3), .second, .val (.int rt), .val (.long q5), .second, .unset, .unset, .unset, .unset, .unset, .unset, .unset, .unset, .unset, .unset, .unset, .unset, .unset, .unset] [(.int mk)])) _
    refine XS.iconst X.here hx rfl (hb hby at_1) ?_
    show Steps p.tables e below (T.setTop (mkF m 2 #[.val (.int mk), .val (.long q1), .second, .val (.long q2), .second, .val (.long q3), .second, .val (.int rt), .val (.long q5), .second, .unset, .unset, .unset, .unset, .unset, .unset, .unset, .unset, .unset, .unset, .unset, .unset, .unset, .unset] [(.int (1 : Int32)), (.int mk)])) _
    refine XS.iand X.here hx rfl (hb hby at_2) rfl ?_
    show Steps p.tables e below (T.setTop (mkF m 3 #[.val (.int mk), .val (.long q1), .second, .val (.long q2), .second, .val (.long q3), .second, .val (.int rt), .val (.long q5), .second, .unset, .unset, .unset, .unset, .unset, .unset, .unset, .unset, .unset, .unset, .unset, .unset, .unset, .unset] [(.int (mk &&& (1 : Int32)))])) _
    refine XS.ifNo X.here hx rfl (hb hby at_3) rfl ((if0 _ _).trans (feq hc).1) ?_
    show Steps p.tables e below (T.setTop (mkF m 6 #[.val (.int mk), .val (.long q1), .second, .val (.long q2), .second, .val (.long q3), .second, .val (.int rt), .val (.long q5), .second, .unset, .unset, .unset, .unset, .unset, .unset, .unset, .unset, .unset, .unset, .unset, .unset, .unset, .unset] [])) _
    refine XS.lloadN X.here hx rfl (hb hby at_6) rfl ?_
    show Steps p.tables e below (T.setTop (mkF m 7 #[.val (.int mk), .val (.long q1), .second, .val (.long q2), .second, .val (.long q3), .second, .val (.int rt), .val (.long q5), .second, .unset, .unset, .unset, .unset, .unset, .unset, .unset, .unset, .unset, .unset, .unset, .unset, .unset, .unset] [(.long q1)])) _
    refine st7 _ ?_
    show Steps p.tables e below (T7.setTop (mkF m 10 #[.val (.int mk), .val (.long q1), .second, .val (.long q2), .second, .val (.long q3), .second, .val (.int rt), .val (.long q5), .second, .unset, .unset, .unset, .unset, .unset, .unset, .unset, .unset, .unset, .unset, .unset, .unset, .unset, .unset] [(.long (own_nz q1))])) _
    refine XS.goto X7.here hx rfl (pc0 := 10) (pc' := 14) rfl (hb hby at_10) (by decide) (by decide) ?_
    show Steps p.tables e below (T7.setTop (mkF m 14 #[.val (.int mk), .val (.long q1), .second, .val (.long q2), .second, .val (.long q3), .second, .val (.int rt), .val (.long q5), .second, .unset, .unset, .unset, .unset, .unset, .unset, .unset, .unset, .unset, .unset, .unset, .unset, .unset, .unset] [(.long (own_nz q1))])) _
    refine XS.lstore X7.here hx rfl (hb hby at_14) rfl (l' := #[.val (.int mk), .val (.long q1), .second, .val (.long q2), .second, .val (.long q3), .second, .val (.int rt), .val (.long q5), .second, .val (.long (own_nz q1)), .second, .unset, .unset, .unset, .unset, .unset, .unset, .unset, .unset, .unset, .unset, .unset, .unset]) rfl ?_
    show Steps p.tables e below (T7.setTop (mkF m 16 #[.val (.int mk), .val (.long q1), .second, .val (.long q2), .second, .val (.long q3), .second, .val (.int rt), .val (.long q5), .second, .val (.long (own_nz q1)), .second, .unset, .unset, .unset, .unset, .unset, .unset, .unset, .unset, .unset, .unset, .unset, .unset] [])) _
    exact k
set_option maxRecDepth 65536 in
set_option maxHeartbeats 40000000 in
theorem segB (X : Stand p l e room_1 s m args below meth c T [] 0 0) (hx : p.tables.exec = Jvm.exec) (hZ : Z.Warmed39 s.vm) (hw : ∀ d ∈ tables_1, d.before a0 Z = true) (hml : c.maxLocals = 24) (hby : c.code = code) (hown : s.vm.findClass "com/example/overload_control/overloadcontrol/ResourceStatsIdlePinLaw" = some m.cls) (eT : T.heap = h) (mk : Int32) (q1 q2 q3 : Int64) (rt : Int32) (q5 : Int64) :
    ∃ T', Stand p l e room_1 s m args below meth c T' [] 0 0 ∧ T'.heap = h ∧ ∀ t, Steps p.tables e below (T'.setTop (mkF m 32 #[.val (.int mk), .val (.long q1), .second, .val (.long q2), .second, .val (.long q3), .second, .val (.int rt), .val (.long q5), .second, .val (.long (own_pick mk 1 q1)), .second, .val (.long (own_pick mk 2 q2)), .second, .unset, .unset, .unset, .unset, .unset, .unset, .unset, .unset, .unset, .unset] [])) t → Steps p.tables e below (T.setTop (mkF m 16 #[.val (.int mk), .val (.long q1), .second, .val (.long q2), .second, .val (.long q3), .second, .val (.int rt), .val (.long q5), .second, .val (.long (own_pick mk 1 q1)), .second, .unset, .unset, .unset, .unset, .unset, .unset, .unset, .unset, .unset, .unset, .unset, .unset] [])) t := by
  by_cases hc : mk &&& 2 = 0
  · refine ⟨T, X, eT, fun t k => ?_⟩
    rw [show own_pick mk 2 q2 = 0 from if_pos hc] at k
    show Steps p.tables e below (T.setTop (mkF m 16 #[.val (.int mk), .val (.long q1), .second, .val (.long q2), .second, .val (.long q3), .second, .val (.int rt), .val (.long q5), .second, .val (.long (own_pick mk 1 q1)), .second, .unset, .unset, .unset, .unset, .unset, .unset, .unset, .unset, .unset, .unset, .unset, .unset] [])) _
    refine XS.iloadN X.here hx rfl (hb hby at_16) rfl ?_
    show Steps p.tables e below (T.setTop (mkF m 17 #[.val (.int mk), .val (.long q1), .second, .val (.long q2), .second, .val (.long q3), .second, .val (.int rt), .val (.long q5), .second, .val (.long (own_pick mk 1 q1)), .second, .unset, .unset, .unset, .unset, .unset, .unset, .unset, .unset, .unset, .unset, .unset, .unset] [(.int mk)])) _
    refine XS.iconst X.here hx rfl (hb hby at_17) ?_
    show Steps p.tables e below (T.setTop (mkF m 18 #[.val (.int mk), .val (.long q1), .second, .val (.long q2), .second, .val (.long q3), .second, .val (.int rt), .val (.long q5), .second, .val (.long (own_pick mk 1 q1)), .second, .unset, .unset, .unset, .unset, .unset, .unset, .unset, .unset, .unset, .unset, .unset, .unset] [(.int (2 : Int32)), (.int mk)])) _
    refine XS.iand X.here hx rfl (hb hby at_18) rfl ?_
    show Steps p.tables e below (T.setTop (mkF m 19 #[.val (.int mk), .val (.long q1), .second, .val (.long q2), .second, .val (.long q3), .second, .val (.int rt), .val (.long q5), .second, .val (.long (own_pick mk 1 q1)), .second, .unset, .unset, .unset, .unset, .unset, .unset, .unset, .unset, .unset, .unset, .unset, .unset] [(.int (mk &&& (2 : Int32)))])) _
    refine XS.ifYes X.here hx rfl (pc0 := 19) (pc' := 29) rfl (hb hby at_19) rfl ((if0 _ _).trans (teq hc).1) (by decide) (by decide) ?_
    show Steps p.tables e below (T.setTop (mkF m 29 #[.val (.int mk), .val (.long q1), .second, .val (.long q2), .second, .val (.long q3), .second, .val (.int rt), .val (.long q5), .second, .val (.long (own_pick mk 1 q1)), .second, .unset, .unset, .unset, .unset, .unset, .unset, .unset, .unset, .unset, .unset, .unset, .unset] [])) _
    refine XS.lconst X.here hx rfl (hb hby at_29) ?_
    show Steps p.tables e below (T.setTop (mkF m 30 #[.val (.int mk), .val (.long q1), .second, .val (.long q2), .second, .val (.long q3), .second, .val (.int rt), .val (.long q5), .second, .val (.long (own_pick mk 1 q1)), .second, .unset, .unset, .unset, .unset, .unset, .unset, .unset, .unset, .unset, .unset, .unset, .unset] [(.long (0 : Int64))])) _
    refine XS.lstore X.here hx rfl (hb hby at_30) rfl (l' := #[.val (.int mk), .val (.long q1), .second, .val (.long q2), .second, .val (.long q3), .second, .val (.int rt), .val (.long q5), .second, .val (.long (own_pick mk 1 q1)), .second, .val (.long (0 : Int64)), .second, .unset, .unset, .unset, .unset, .unset, .unset, .unset, .unset, .unset, .unset]) rfl ?_
    show Steps p.tables e below (T.setTop (mkF m 32 #[.val (.int mk), .val (.long q1), .second, .val (.long q2), .second, .val (.long q3), .second, .val (.int rt), .val (.long q5), .second, .val (.long (own_pick mk 1 q1)), .second, .val (.long (0 : Int64)), .second, .unset, .unset, .unset, .unset, .unset, .unset, .unset, .unset, .unset, .unset] [])) _
    exact k
  · obtain ⟨_, _, ⟨T7, L7, k7, n7⟩, -, X7, ⟨Lc7, hQ7, l7, y7, z7⟩, st7⟩ := Jvm.LawKit.callS X hx (y := (⟨"com/example/overload_control/overloadcontrol/ResourceStatsIdlePinLaw", "nz", "(J)J"⟩ : MethodName)) hown (mvT hZ (hw _ (List.mem_of_getElem? (i := 39) rfl))) (mvT hZ (hw _ (List.mem_of_getElem? (i := 40) rfl))) (mvT hZ (hw _ (List.mem_of_getElem? (i := 41) rfl))) (mvT hZ (hw _ (List.mem_of_getElem? (i := 42) rfl))) (by decide) (backOf (W := 0) (rm5 l Z a0 hw [] q2 h) hZ (hw _ (List.mem_of_getElem? (i := 42) rfl)) (hw _ (List.mem_of_getElem? (i := 41) rfl)) (by decide) (by decide)) (g := (mkF m 23 #[.val (.int mk), .val (.long q1), .second, .val (.long q2), .second, .val (.long q3), .second, .val (.int rt), .val (.long q5), .second, .val (.long (own_pick mk 1 q1)), .second, .unset, .unset, .unset, .unset, .unset, .unset, .unset, .unset, .unset, .unset, .unset, .unset] [(.long q2)])) rfl (by rw [hml]; rfl) (argsL := [(.long q2)]) (rest := []) (lenOf pd_nz rfl) rfl (by show 2 * 0 + _ ≤ _; exact Nat.le_of_eq rfl) (hb hby at_23) (fun _ _ => ⟨rfl, eT, (by decide : 0 + 0 ≤ _), (by decide : 0 + 0 ≤ _)⟩)
    dsimp only [Pt.U, Pt.locs, Pt.cells, Pt.slots] at X7 l7 y7 z7 st7 hQ7
    subst l7 y7 z7
    obtain ⟨rfl, rfl, e7⟩ := hQ7
    refine ⟨T7, X7, e7, fun t k => ?_⟩
    rw [show own_pick mk 2 q2 = own_nz q2 from if_neg hc] at k
    show Steps p.tables e below (T.setTop (mkF m 16 #[.val (.int mk), .val (.long q1), .second, .val (.long q2), .second, .val (.long q3), .second, .val (.int rt), .val (.long q5), .second, .val (.long (own_pick mk 1 q1)), .second, .unset, .unset, .unset, .unset, .unset, .unset, .unset, .unset, .unset, .unset, .unset, .unset] [])) _
    refine XS.iloadN X.here hx rfl (hb hby at_16) rfl ?_
    show Steps p.tables e below (T.setTop (mkF m 17 #[.val (.int mk), .val (.long q1), .second, .val (.long q2), .second, .val (.long q3), .second, .val (.int rt), .val (.long q5), .second, .val (.long (own_pick mk 1 q1)), .second, .unset, .unset, .unset, .unset, .unset, .unset, .unset, .unset, .unset, .unset, .unset, .unset] [(.int mk)])) _
    refine XS.iconst X.here hx rfl (hb hby at_17) ?_
    show Steps p.tables e below (T.setTop (mkF m 18 #[.val (.int mk), .val (.long q1), .second, .val (.long q2), .second, .val (.long q3), .second, .val (.int rt), .val (.long q5), .second, .val (.long (own_pick mk 1 q1)), .second, .unset, .unset, .unset, .unset, .unset, .unset, .unset, .unset, .unset, .unset, .unset, .unset] [(.int (2 : Int32)), (.int mk)])) _
    refine XS.iand X.here hx rfl (hb hby at_18) rfl ?_
    show Steps p.tables e below (T.setTop (mkF m 19 #[.val (.int mk), .val (.long q1), .second, .val (.long q2), .second, .val (.long q3), .second, .val (.int rt), .val (.long q5), .second, .val (.long (own_pick mk 1 q1)), .second, .unset, .unset, .unset, .unset, .unset, .unset, .unset, .unset, .unset, .unset, .unset, .unset] [(.int (mk &&& (2 : Int32)))])) _
    refine XS.ifNo X.here hx rfl (hb hby at_19) rfl ((if0 _ _).trans (feq hc).1) ?_
    show Steps p.tables e below (T.setTop (mkF m 22 #[.val (.int mk), .val (.long q1), .second, .val (.long q2), .second, .val (.long q3), .second, .val (.int rt), .val (.long q5), .second, .val (.long (own_pick mk 1 q1)), .second, .unset, .unset, .unset, .unset, .unset, .unset, .unset, .unset, .unset, .unset, .unset, .unset] [])) _
    refine XS.lloadN X.here hx rfl (hb hby at_22) rfl ?_
    show Steps p.tables e below (T.setTop (mkF m 23 #[.val (.int mk), .val (.long q1), .second, .val (.long q2), .second, .val (.long q3), .second, .val (.int rt), .val (.long q5), .second, .val (.long (own_pick mk 1 q1)), .second, .unset, .unset, .unset, .unset, .unset, .unset, .unset, .unset, .unset, .unset, .unset, .unset] [(.long q2)])) _
    refine st7 _ ?_
    show Steps p.tables e below (T7.setTop (mkF m 26 #[.val (.int mk), .val (.long q1), .second, .val (.long q2), .second, .val (.long q3), .second, .val (.int rt), .val (.long q5), .second, .val (.long (own_pick mk 1 q1)), .second, .unset, .unset, .unset, .unset, .unset, .unset, .unset, .unset, .unset, .unset, .unset, .unset] [(.long (own_nz q2))])) _
    refine XS.goto X7.here hx rfl (pc0 := 26) (pc' := 30) rfl (hb hby at_26) (by decide) (by decide) ?_
    show Steps p.tables e below (T7.setTop (mkF m 30 #[.val (.int mk), .val (.long q1), .second, .val (.long q2), .second, .val (.long q3), .second, .val (.int rt), .val (.long q5), .second, .val (.long (own_pick mk 1 q1)), .second, .unset, .unset, .unset, .unset, .unset, .unset, .unset, .unset, .unset, .unset, .unset, .unset] [(.long (own_nz q2))])) _
    refine XS.lstore X7.here hx rfl (hb hby at_30) rfl (l' := #[.val (.int mk), .val (.long q1), .second, .val (.long q2), .second, .val (.long q3), .second, .val (.int rt), .val (.long q5), .second, .val (.long (own_pick mk 1 q1)), .second, .val (.long (own_nz q2)), .second, .unset, .unset, .unset, .unset, .unset, .unset, .unset, .unset, .unset, .unset]) rfl ?_
    show Steps p.tables e below (T7.setTop (mkF m 32 #[.val (.int mk), .val (.long q1), .second, .val (.long q2), .second, .val (.long q3), .second, .val (.int rt), .val (.long q5), .second, .val (.long (own_pick mk 1 q1)), .second, .val (.long (own_nz q2)), .second, .unset, .unset, .unset, .unset, .unset, .unset, .unset, .unset, .unset, .unset] [])) _
    exact k
set_option maxRecDepth 65536 in
set_option maxHeartbeats 40000000 in
theorem segC (X : Stand p l e room_1 s m args below meth c T [] 0 0) (hx : p.tables.exec = Jvm.exec) (hZ : Z.Warmed39 s.vm) (hw : ∀ d ∈ tables_1, d.before a0 Z = true) (hml : c.maxLocals = 24) (hby : c.code = code) (hown : s.vm.findClass "com/example/overload_control/overloadcontrol/ResourceStatsIdlePinLaw" = some m.cls) (eT : T.heap = h) (mk : Int32) (q1 q2 q3 : Int64) (rt : Int32) (q5 : Int64) :
    ∃ T', Stand p l e room_1 s m args below meth c T' [] 0 0 ∧ T'.heap = h ∧ ∀ t, Steps p.tables e below (T'.setTop (mkF m 49 #[.val (.int mk), .val (.long q1), .second, .val (.long q2), .second, .val (.long q3), .second, .val (.int rt), .val (.long q5), .second, .val (.long (own_pick mk 1 q1)), .second, .val (.long (own_pick mk 2 q2)), .second, .val (.long (own_pick mk 4 q3)), .second, .unset, .unset, .unset, .unset, .unset, .unset, .unset, .unset] [])) t → Steps p.tables e below (T.setTop (mkF m 32 #[.val (.int mk), .val (.long q1), .second, .val (.long q2), .second, .val (.long q3), .second, .val (.int rt), .val (.long q5), .second, .val (.long (own_pick mk 1 q1)), .second, .val (.long (own_pick mk 2 q2)), .second, .unset, .unset, .unset, .unset, .unset, .unset, .unset, .unset, .unset, .unset] [])) t := by
  by_cases hc : mk &&& 4 = 0
  · refine ⟨T, X, eT, fun t k => ?_⟩
    rw [show own_pick mk 4 q3 = 0 from if_pos hc] at k
    show Steps p.tables e below (T.setTop (mkF m 32 #[.val (.int mk), .val (.long q1), .second, .val (.long q2), .second, .val (.long q3), .second, .val (.int rt), .val (.long q5), .second, .val (.long (own_pick mk 1 q1)), .second, .val (.long (own_pick mk 2 q2)), .second, .unset, .unset, .unset, .unset, .unset, .unset, .unset, .unset, .unset, .unset] [])) _
    refine XS.iloadN X.here hx rfl (hb hby at_32) rfl ?_
    show Steps p.tables e below (T.setTop (mkF m 33 #[.val (.int mk), .val (.long q1), .second, .val (.long q2), .second, .val (.long q3), .second, .val (.int rt), .val (.long q5), .second, .val (.long (own_pick mk 1 q1)), .second, .val (.long (own_pick mk 2 q2)), .second, .unset, .unset, .unset, .unset, .unset, .unset, .unset, .unset, .unset, .unset] [(.int mk)])) _
    refine XS.iconst X.here hx rfl (hb hby at_33) ?_
    show Steps p.tables e below (T.setTop (mkF m 34 #[.val (.int mk), .val (.long q1), .second, .val (.long q2), .second, .val (.long q3), .second, .val (.int rt), .val (.long q5), .second, .val (.long (own_pick mk 1 q1)), .second, .val (.long (own_pick mk 2 q2)), .second, .unset, .unset, .unset, .unset, .unset, .unset, .unset, .unset, .unset, .unset] [(.int (4 : Int32)), (.int mk)])) _
    refine XS.iand X.here hx rfl (hb hby at_34) rfl ?_
    show Steps p.tables e below (T.setTop (mkF m 35 #[.val (.int mk), .val (.long q1), .second, .val (.long q2), .second, .val (.long q3), .second, .val (.int rt), .val (.long q5), .second, .val (.long (own_pick mk 1 q1)), .second, .val (.long (own_pick mk 2 q2)), .second, .unset, .unset, .unset, .unset, .unset, .unset, .unset, .unset, .unset, .unset] [(.int (mk &&& (4 : Int32)))])) _
    refine XS.ifYes X.here hx rfl (pc0 := 35) (pc' := 46) rfl (hb hby at_35) rfl ((if0 _ _).trans (teq hc).1) (by decide) (by decide) ?_
    show Steps p.tables e below (T.setTop (mkF m 46 #[.val (.int mk), .val (.long q1), .second, .val (.long q2), .second, .val (.long q3), .second, .val (.int rt), .val (.long q5), .second, .val (.long (own_pick mk 1 q1)), .second, .val (.long (own_pick mk 2 q2)), .second, .unset, .unset, .unset, .unset, .unset, .unset, .unset, .unset, .unset, .unset] [])) _
    refine XS.lconst X.here hx rfl (hb hby at_46) ?_
    show Steps p.tables e below (T.setTop (mkF m 47 #[.val (.int mk), .val (.long q1), .second, .val (.long q2), .second, .val (.long q3), .second, .val (.int rt), .val (.long q5), .second, .val (.long (own_pick mk 1 q1)), .second, .val (.long (own_pick mk 2 q2)), .second, .unset, .unset, .unset, .unset, .unset, .unset, .unset, .unset, .unset, .unset] [(.long (0 : Int64))])) _
    refine XS.lstore X.here hx rfl (hb hby at_47) rfl (l' := #[.val (.int mk), .val (.long q1), .second, .val (.long q2), .second, .val (.long q3), .second, .val (.int rt), .val (.long q5), .second, .val (.long (own_pick mk 1 q1)), .second, .val (.long (own_pick mk 2 q2)), .second, .val (.long (0 : Int64)), .second, .unset, .unset, .unset, .unset, .unset, .unset, .unset, .unset]) rfl ?_
    show Steps p.tables e below (T.setTop (mkF m 49 #[.val (.int mk), .val (.long q1), .second, .val (.long q2), .second, .val (.long q3), .second, .val (.int rt), .val (.long q5), .second, .val (.long (own_pick mk 1 q1)), .second, .val (.long (own_pick mk 2 q2)), .second, .val (.long (0 : Int64)), .second, .unset, .unset, .unset, .unset, .unset, .unset, .unset, .unset] [])) _
    exact k
  · obtain ⟨_, _, ⟨T7, L7, k7, n7⟩, -, X7, ⟨Lc7, hQ7, l7, y7, z7⟩, st7⟩ := Jvm.LawKit.callS X hx (y := (⟨"com/example/overload_control/overloadcontrol/ResourceStatsIdlePinLaw", "nz", "(J)J"⟩ : MethodName)) hown (mvT hZ (hw _ (List.mem_of_getElem? (i := 39) rfl))) (mvT hZ (hw _ (List.mem_of_getElem? (i := 40) rfl))) (mvT hZ (hw _ (List.mem_of_getElem? (i := 41) rfl))) (mvT hZ (hw _ (List.mem_of_getElem? (i := 42) rfl))) (by decide) (backOf (W := 0) (rm5 l Z a0 hw [] q3 h) hZ (hw _ (List.mem_of_getElem? (i := 42) rfl)) (hw _ (List.mem_of_getElem? (i := 41) rfl)) (by decide) (by decide)) (g := (mkF m 40 #[.val (.int mk), .val (.long q1), .second, .val (.long q2), .second, .val (.long q3), .second, .val (.int rt), .val (.long q5), .second, .val (.long (own_pick mk 1 q1)), .second, .val (.long (own_pick mk 2 q2)), .second, .unset, .unset, .unset, .unset, .unset, .unset, .unset, .unset, .unset, .unset] [(.long q3)])) rfl (by rw [hml]; rfl) (argsL := [(.long q3)]) (rest := []) (lenOf pd_nz rfl) rfl (by show 2 * 0 + _ ≤ _; exact Nat.le_of_eq rfl) (hb hby at_40) (fun _ _ => ⟨rfl, eT, (by decide : 0 + 0 ≤ _), (by decide : 0 + 0 ≤ _)⟩)
    dsimp only [Pt.U, Pt.locs, Pt.cells, Pt.slots] at X7 l7 y7 z7 st7 hQ7
    subst l7 y7 z7
    obtain ⟨rfl, rfl, e7⟩ := hQ7
    refine ⟨T7, X7, e7, fun t k => ?_⟩
    rw [show own_pick mk 4 q3 = own_nz q3 from if_neg hc] at k
    show Steps p.tables e below (T.setTop (mkF m 32 #[.val (.int mk), .val (.long q1), .second, .val (.long q2), .second, .val (.long q3), .second, .val (.int rt), .val (.long q5), .second, .val (.long (own_pick mk 1 q1)), .second, .val (.long (own_pick mk 2 q2)), .second, .unset, .unset, .unset, .unset, .unset, .unset, .unset, .unset, .unset, .unset] [])) _
    refine XS.iloadN X.here hx rfl (hb hby at_32) rfl ?_
    show Steps p.tables e below (T.setTop (mkF m 33 #[.val (.int mk), .val (.long q1), .second, .val (.long q2), .second, .val (.long q3), .second, .val (.int rt), .val (.long q5), .second, .val (.long (own_pick mk 1 q1)), .second, .val (.long (own_pick mk 2 q2)), .second, .unset, .unset, .unset, .unset, .unset, .unset, .unset, .unset, .unset, .unset] [(.int mk)])) _
    refine XS.iconst X.here hx rfl (hb hby at_33) ?_
    show Steps p.tables e below (T.setTop (mkF m 34 #[.val (.int mk), .val (.long q1), .second, .val (.long q2), .second, .val (.long q3), .second, .val (.int rt), .val (.long q5), .second, .val (.long (own_pick mk 1 q1)), .second, .val (.long (own_pick mk 2 q2)), .second, .unset, .unset, .unset, .unset, .unset, .unset, .unset, .unset, .unset, .unset] [(.int (4 : Int32)), (.int mk)])) _
    refine XS.iand X.here hx rfl (hb hby at_34) rfl ?_
    show Steps p.tables e below (T.setTop (mkF m 35 #[.val (.int mk), .val (.long q1), .second, .val (.long q2), .second, .val (.long q3), .second, .val (.int rt), .val (.long q5), .second, .val (.long (own_pick mk 1 q1)), .second, .val (.long (own_pick mk 2 q2)), .second, .unset, .unset, .unset, .unset, .unset, .unset, .unset, .unset, .unset, .unset] [(.int (mk &&& (4 : Int32)))])) _
    refine XS.ifNo X.here hx rfl (hb hby at_35) rfl ((if0 _ _).trans (feq hc).1) ?_
    show Steps p.tables e below (T.setTop (mkF m 38 #[.val (.int mk), .val (.long q1), .second, .val (.long q2), .second, .val (.long q3), .second, .val (.int rt), .val (.long q5), .second, .val (.long (own_pick mk 1 q1)), .second, .val (.long (own_pick mk 2 q2)), .second, .unset, .unset, .unset, .unset, .unset, .unset, .unset, .unset, .unset, .unset] [])) _
    refine XS.lload X.here hx rfl (hb hby at_38) rfl ?_
    show Steps p.tables e below (T.setTop (mkF m 40 #[.val (.int mk), .val (.long q1), .second, .val (.long q2), .second, .val (.long q3), .second, .val (.int rt), .val (.long q5), .second, .val (.long (own_pick mk 1 q1)), .second, .val (.long (own_pick mk 2 q2)), .second, .unset, .unset, .unset, .unset, .unset, .unset, .unset, .unset, .unset, .unset] [(.long q3)])) _
    refine st7 _ ?_
    show Steps p.tables e below (T7.setTop (mkF m 43 #[.val (.int mk), .val (.long q1), .second, .val (.long q2), .second, .val (.long q3), .second, .val (.int rt), .val (.long q5), .second, .val (.long (own_pick mk 1 q1)), .second, .val (.long (own_pick mk 2 q2)), .second, .unset, .unset, .unset, .unset, .unset, .unset, .unset, .unset, .unset, .unset] [(.long (own_nz q3))])) _
    refine XS.goto X7.here hx rfl (pc0 := 43) (pc' := 47) rfl (hb hby at_43) (by decide) (by decide) ?_
    show Steps p.tables e below (T7.setTop (mkF m 47 #[.val (.int mk), .val (.long q1), .second, .val (.long q2), .second, .val (.long q3), .second, .val (.int rt), .val (.long q5), .second, .val (.long (own_pick mk 1 q1)), .second, .val (.long (own_pick mk 2 q2)), .second, .unset, .unset, .unset, .unset, .unset, .unset, .unset, .unset, .unset, .unset] [(.long (own_nz q3))])) _
    refine XS.lstore X7.here hx rfl (hb hby at_47) rfl (l' := #[.val (.int mk), .val (.long q1), .second, .val (.long q2), .second, .val (.long q3), .second, .val (.int rt), .val (.long q5), .second, .val (.long (own_pick mk 1 q1)), .second, .val (.long (own_pick mk 2 q2)), .second, .val (.long (own_nz q3)), .second, .unset, .unset, .unset, .unset, .unset, .unset, .unset, .unset]) rfl ?_
    show Steps p.tables e below (T7.setTop (mkF m 49 #[.val (.int mk), .val (.long q1), .second, .val (.long q2), .second, .val (.long q3), .second, .val (.int rt), .val (.long q5), .second, .val (.long (own_pick mk 1 q1)), .second, .val (.long (own_pick mk 2 q2)), .second, .val (.long (own_nz q3)), .second, .unset, .unset, .unset, .unset, .unset, .unset, .unset, .unset] [])) _
    exact k
set_option maxRecDepth 65536 in
set_option maxHeartbeats 40000000 in
theorem segD (X : Stand p l e room_1 s m args below meth c T [] 0 0) (hx : p.tables.exec = Jvm.exec) (hZ : Z.Warmed39 s.vm) (hw : ∀ d ∈ tables_1, d.before a0 Z = true) (hml : c.maxLocals = 24) (hby : c.code = code) (hown : s.vm.findClass "com/example/overload_control/overloadcontrol/ResourceStatsIdlePinLaw" = some m.cls) (eT : T.heap = h) (mk : Int32) (q1 q2 q3 : Int64) (rt : Int32) (q5 : Int64) :
    ∃ T', Stand p l e room_1 s m args below meth c T' [] 0 0 ∧ T'.heap = h ∧ ∀ t, Steps p.tables e below (T'.setTop (mkF m 65 #[.val (.int mk), .val (.long q1), .second, .val (.long q2), .second, .val (.long q3), .second, .val (.int rt), .val (.long q5), .second, .val (.long (own_pick mk 1 q1)), .second, .val (.long (own_pick mk 2 q2)), .second, .val (.long (own_pick mk 4 q3)), .second, .val (.int (own_r rt)), .unset, .unset, .unset, .unset, .unset, .unset, .unset] [])) t → Steps p.tables e below (T.setTop (mkF m 49 #[.val (.int mk), .val (.long q1), .second, .val (.long q2), .second, .val (.long q3), .second, .val (.int rt), .val (.long q5), .second, .val (.long (own_pick mk 1 q1)), .second, .val (.long (own_pick mk 2 q2)), .second, .val (.long (own_pick mk 4 q3)), .second, .unset, .unset, .unset, .unset, .unset, .unset, .unset, .unset] [])) t := by
  refine ⟨T, X, eT, fun t k => ?_⟩
  show Steps p.tables e below (T.setTop (mkF m 49 #[.val (.int mk), .val (.long q1), .second, .val (.long q2), .second, .val (.long q3), .second, .val (.int rt), .val (.long q5), .second, .val (.long (own_pick mk 1 q1)), .second, .val (.long (own_pick mk 2 q2)), .second, .val (.long (own_pick mk 4 q3)), .second, .unset, .unset, .unset, .unset, .unset, .unset, .unset, .unset] [])) _
  refine XS.iload X.here hx rfl (hb hby at_49) rfl ?_
  show Steps p.tables e below (T.setTop (mkF m 51 #[.val (.int mk), .val (.long q1), .second, .val (.long q2), .second, .val (.long q3), .second, .val (.int rt), .val (.long q5), .second, .val (.long (own_pick mk 1 q1)), .second, .val (.long (own_pick mk 2 q2)), .second, .val (.long (own_pick mk 4 q3)), .second, .unset, .unset, .unset, .unset, .unset, .unset, .unset, .unset] [(.int rt)])) _
  refine XS.sipush X.here hx rfl (hb hby at_51) ?_
  show Steps p.tables e below (T.setTop (mkF m 54 #[.val (.int mk), .val (.long q1), .second, .val (.long q2), .second, .val (.long q3), .second, .val (.int rt), .val (.long q5), .second, .val (.long (own_pick mk 1 q1)), .second, .val (.long (own_pick mk 2 q2)), .second, .val (.long (own_pick mk 4 q3)), .second, .unset, .unset, .unset, .unset, .unset, .unset, .unset, .unset] [(.int (1000 : Int32)), (.int rt)])) _
  refine iremM X hx rfl (hb hby at_54) rfl (by decide) ?_
  show Steps p.tables e below (T.setTop (mkF m 55 #[.val (.int mk), .val (.long q1), .second, .val (.long q2), .second, .val (.long q3), .second, .val (.int rt), .val (.long q5), .second, .val (.long (own_pick mk 1 q1)), .second, .val (.long (own_pick mk 2 q2)), .second, .val (.long (own_pick mk 4 q3)), .second, .unset, .unset, .unset, .unset, .unset, .unset, .unset, .unset] [(.int (rt % (1000 : Int32)))])) _
  refine XS.istore X.here hx rfl (hb hby at_55) rfl (l' := #[.val (.int mk), .val (.long q1), .second, .val (.long q2), .second, .val (.long q3), .second, .val (.int rt), .val (.long q5), .second, .val (.long (own_pick mk 1 q1)), .second, .val (.long (own_pick mk 2 q2)), .second, .val (.long (own_pick mk 4 q3)), .second, .val (.int (rt % (1000 : Int32))), .unset, .unset, .unset, .unset, .unset, .unset, .unset]) rfl ?_
  show Steps p.tables e below (T.setTop (mkF m 57 #[.val (.int mk), .val (.long q1), .second, .val (.long q2), .second, .val (.long q3), .second, .val (.int rt), .val (.long q5), .second, .val (.long (own_pick mk 1 q1)), .second, .val (.long (own_pick mk 2 q2)), .second, .val (.long (own_pick mk 4 q3)), .second, .val (.int (rt % (1000 : Int32))), .unset, .unset, .unset, .unset, .unset, .unset, .unset] [])) _
  refine XS.iload X.here hx rfl (hb hby at_57) rfl ?_
  show Steps p.tables e below (T.setTop (mkF m 59 #[.val (.int mk), .val (.long q1), .second, .val (.long q2), .second, .val (.long q3), .second, .val (.int rt), .val (.long q5), .second, .val (.long (own_pick mk 1 q1)), .second, .val (.long (own_pick mk 2 q2)), .second, .val (.long (own_pick mk 4 q3)), .second, .val (.int (rt % (1000 : Int32))), .unset, .unset, .unset, .unset, .unset, .unset, .unset] [(.int (rt % (1000 : Int32)))])) _
  by_cases hc : rt % 1000 = 0
  · rw [show own_r rt = 1 from if_pos hc] at k
    refine XS.ifNo X.here hx rfl (hb hby at_59) rfl ((if0 _ _).trans (teq hc).2) ?_
    show Steps p.tables e below (T.setTop (mkF m 62 #[.val (.int mk), .val (.long q1), .second, .val (.long q2), .second, .val (.long q3), .second, .val (.int rt), .val (.long q5), .second, .val (.long (own_pick mk 1 q1)), .second, .val (.long (own_pick mk 2 q2)), .second, .val (.long (own_pick mk 4 q3)), .second, .val (.int (rt % (1000 : Int32))), .unset, .unset, .unset, .unset, .unset, .unset, .unset] [])) _
    refine XS.iconst X.here hx rfl (hb hby at_62) ?_
    show Steps p.tables e below (T.setTop (mkF m 63 #[.val (.int mk), .val (.long q1), .second, .val (.long q2), .second, .val (.long q3), .second, .val (.int rt), .val (.long q5), .second, .val (.long (own_pick mk 1 q1)), .second, .val (.long (own_pick mk 2 q2)), .second, .val (.long (own_pick mk 4 q3)), .second, .val (.int (rt % (1000 : Int32))), .unset, .unset, .unset, .unset, .unset, .unset, .unset] [(.int (1 : Int32))])) _
    refine XS.istore X.here hx rfl (hb hby at_63) rfl (l' := #[.val (.int mk), .val (.long q1), .second, .val (.long q2), .second, .val (.long q3), .second, .val (.int rt), .val (.long q5), .second, .val (.long (own_pick mk 1 q1)), .second, .val (.long (own_pick mk 2 q2)), .second, .val (.long (own_pick mk 4 q3)), .second, .val (.int (1 : Int32)), .unset, .unset, .unset, .unset, .unset, .unset, .unset]) rfl ?_
    show Steps p.tables e below (T.setTop (mkF m 65 #[.val (.int mk), .val (.long q1), .second, .val (.long q2), .second, .val (.long q3), .second, .val (.int rt), .val (.long q5), .second, .val (.long (own_pick mk 1 q1)), .second, .val (.long (own_pick mk 2 q2)), .second, .val (.long (own_pick mk 4 q3)), .second, .val (.int (1 : Int32)), .unset, .unset, .unset, .unset, .unset, .unset, .unset] [])) _
    exact k
  · rw [show own_r rt = rt % 1000 from if_neg hc] at k
    refine XS.ifYes X.here hx rfl (pc0 := 59) (pc' := 65) rfl (hb hby at_59) rfl ((if0 _ _).trans (feq hc).2) (by decide) (by decide) ?_
    show Steps p.tables e below (T.setTop (mkF m 65 #[.val (.int mk), .val (.long q1), .second, .val (.long q2), .second, .val (.long q3), .second, .val (.int rt), .val (.long q5), .second, .val (.long (own_pick mk 1 q1)), .second, .val (.long (own_pick mk 2 q2)), .second, .val (.long (own_pick mk 4 q3)), .second, .val (.int (rt % (1000 : Int32))), .unset, .unset, .unset, .unset, .unset, .unset, .unset] [])) _
    exact k
set_option maxRecDepth 65536 in
set_option maxHeartbeats 40000000 in
theorem segE (X : Stand p l e room_1 s m args below meth c T [] 0 0) (hx : p.tables.exec = Jvm.exec) (hZ : Z.Warmed39 s.vm) (hw : ∀ d ∈ tables_1, d.before a0 Z = true) (hml : c.maxLocals = 24) (hby : c.code = code) (hown : s.vm.findClass "com/example/overload_control/overloadcontrol/ResourceStatsIdlePinLaw" = some m.cls) (eT : T.heap = h) (mk : Int32) (q1 q2 q3 : Int64) (rt : Int32) (q5 : Int64) :
    ∃ T', Stand p l e room_1 s m args below meth c T' [] 0 0 ∧ T'.heap = h ∧ ∀ t, Steps p.tables e below (T'.setTop (mkF m 81 #[.val (.int mk), .val (.long q1), .second, .val (.long q2), .second, .val (.long q3), .second, .val (.int rt), .val (.long q5), .second, .val (.long (own_pick mk 1 q1)), .second, .val (.long (own_pick mk 2 q2)), .second, .val (.long (own_pick mk 4 q3)), .second, .val (.int (own_r rt)), .val (.double (own_avg mk (own_r rt))), .second, .unset, .unset, .unset, .unset, .unset] [])) t → Steps p.tables e below (T.setTop (mkF m 65 #[.val (.int mk), .val (.long q1), .second, .val (.long q2), .second, .val (.long q3), .second, .val (.int rt), .val (.long q5), .second, .val (.long (own_pick mk 1 q1)), .second, .val (.long (own_pick mk 2 q2)), .second, .val (.long (own_pick mk 4 q3)), .second, .val (.int (own_r rt)), .unset, .unset, .unset, .unset, .unset, .unset, .unset] [])) t := by
  refine ⟨T, X, eT, fun t k => ?_⟩
  by_cases hc : mk &&& 8 = 0
  · rw [show own_avg mk (own_r rt) = 0 from if_pos hc] at k
    show Steps p.tables e below (T.setTop (mkF m 65 #[.val (.int mk), .val (.long q1), .second, .val (.long q2), .second, .val (.long q3), .second, .val (.int rt), .val (.long q5), .second, .val (.long (own_pick mk 1 q1)), .second, .val (.long (own_pick mk 2 q2)), .second, .val (.long (own_pick mk 4 q3)), .second, .val (.int (own_r rt)), .unset, .unset, .unset, .unset, .unset, .unset, .unset] [])) _
    refine XS.iloadN X.here hx rfl (hb hby at_65) rfl ?_
    show Steps p.tables e below (T.setTop (mkF m 66 #[.val (.int mk), .val (.long q1), .second, .val (.long q2), .second, .val (.long q3), .second, .val (.int rt), .val (.long q5), .second, .val (.long (own_pick mk 1 q1)), .second, .val (.long (own_pick mk 2 q2)), .second, .val (.long (own_pick mk 4 q3)), .second, .val (.int (own_r rt)), .unset, .unset, .unset, .unset, .unset, .unset, .unset] [(.int mk)])) _
    refine XS.bipush X.here hx rfl (hb hby at_66) ?_
    show Steps p.tables e below (T.setTop (mkF m 68 #[.val (.int mk), .val (.long q1), .second, .val (.long q2), .second, .val (.long q3), .second, .val (.int rt), .val (.long q5), .second, .val (.long (own_pick mk 1 q1)), .second, .val (.long (own_pick mk 2 q2)), .second, .val (.long (own_pick mk 4 q3)), .second, .val (.int (own_r rt)), .unset, .unset, .unset, .unset, .unset, .unset, .unset] [(.int (8 : Int32)), (.int mk)])) _
    refine XS.iand X.here hx rfl (hb hby at_68) rfl ?_
    show Steps p.tables e below (T.setTop (mkF m 69 #[.val (.int mk), .val (.long q1), .second, .val (.long q2), .second, .val (.long q3), .second, .val (.int rt), .val (.long q5), .second, .val (.long (own_pick mk 1 q1)), .second, .val (.long (own_pick mk 2 q2)), .second, .val (.long (own_pick mk 4 q3)), .second, .val (.int (own_r rt)), .unset, .unset, .unset, .unset, .unset, .unset, .unset] [(.int (mk &&& (8 : Int32)))])) _
    refine XS.ifYes X.here hx rfl (pc0 := 69) (pc' := 78) rfl (hb hby at_69) rfl ((if0 _ _).trans (teq hc).1) (by decide) (by decide) ?_
    show Steps p.tables e below (T.setTop (mkF m 78 #[.val (.int mk), .val (.long q1), .second, .val (.long q2), .second, .val (.long q3), .second, .val (.int rt), .val (.long q5), .second, .val (.long (own_pick mk 1 q1)), .second, .val (.long (own_pick mk 2 q2)), .second, .val (.long (own_pick mk 4 q3)), .second, .val (.int (own_r rt)), .unset, .unset, .unset, .unset, .unset, .unset, .unset] [])) _
    refine XS.dconst0 X.here hx rfl (hb hby at_78) (v := (0 : UInt64)) rfl ?_
    show Steps p.tables e below (T.setTop (mkF m 79 #[.val (.int mk), .val (.long q1), .second, .val (.long q2), .second, .val (.long q3), .second, .val (.int rt), .val (.long q5), .second, .val (.long (own_pick mk 1 q1)), .second, .val (.long (own_pick mk 2 q2)), .second, .val (.long (own_pick mk 4 q3)), .second, .val (.int (own_r rt)), .unset, .unset, .unset, .unset, .unset, .unset, .unset] [(.double (0 : UInt64))])) _
    refine XS.dstore X.here hx rfl (hb hby at_79) rfl (l' := #[.val (.int mk), .val (.long q1), .second, .val (.long q2), .second, .val (.long q3), .second, .val (.int rt), .val (.long q5), .second, .val (.long (own_pick mk 1 q1)), .second, .val (.long (own_pick mk 2 q2)), .second, .val (.long (own_pick mk 4 q3)), .second, .val (.int (own_r rt)), .val (.double (0 : UInt64)), .second, .unset, .unset, .unset, .unset, .unset]) rfl ?_
    show Steps p.tables e below (T.setTop (mkF m 81 #[.val (.int mk), .val (.long q1), .second, .val (.long q2), .second, .val (.long q3), .second, .val (.int rt), .val (.long q5), .second, .val (.long (own_pick mk 1 q1)), .second, .val (.long (own_pick mk 2 q2)), .second, .val (.long (own_pick mk 4 q3)), .second, .val (.int (own_r rt)), .val (.double (0 : UInt64)), .second, .unset, .unset, .unset, .unset, .unset] [])) _
    exact k
  · rw [show own_avg mk (own_r rt) = FP.i2d (own_r rt) from if_neg hc] at k
    show Steps p.tables e below (T.setTop (mkF m 65 #[.val (.int mk), .val (.long q1), .second, .val (.long q2), .second, .val (.long q3), .second, .val (.int rt), .val (.long q5), .second, .val (.long (own_pick mk 1 q1)), .second, .val (.long (own_pick mk 2 q2)), .second, .val (.long (own_pick mk 4 q3)), .second, .val (.int (own_r rt)), .unset, .unset, .unset, .unset, .unset, .unset, .unset] [])) _
    refine XS.iloadN X.here hx rfl (hb hby at_65) rfl ?_
    show Steps p.tables e below (T.setTop (mkF m 66 #[.val (.int mk), .val (.long q1), .second, .val (.long q2), .second, .val (.long q3), .second, .val (.int rt), .val (.long q5), .second, .val (.long (own_pick mk 1 q1)), .second, .val (.long (own_pick mk 2 q2)), .second, .val (.long (own_pick mk 4 q3)), .second, .val (.int (own_r rt)), .unset, .unset, .unset, .unset, .unset, .unset, .unset] [(.int mk)])) _
    refine XS.bipush X.here hx rfl (hb hby at_66) ?_
    show Steps p.tables e below (T.setTop (mkF m 68 #[.val (.int mk), .val (.long q1), .second, .val (.long q2), .second, .val (.long q3), .second, .val (.int rt), .val (.long q5), .second, .val (.long (own_pick mk 1 q1)), .second, .val (.long (own_pick mk 2 q2)), .second, .val (.long (own_pick mk 4 q3)), .second, .val (.int (own_r rt)), .unset, .unset, .unset, .unset, .unset, .unset, .unset] [(.int (8 : Int32)), (.int mk)])) _
    refine XS.iand X.here hx rfl (hb hby at_68) rfl ?_
    show Steps p.tables e below (T.setTop (mkF m 69 #[.val (.int mk), .val (.long q1), .second, .val (.long q2), .second, .val (.long q3), .second, .val (.int rt), .val (.long q5), .second, .val (.long (own_pick mk 1 q1)), .second, .val (.long (own_pick mk 2 q2)), .second, .val (.long (own_pick mk 4 q3)), .second, .val (.int (own_r rt)), .unset, .unset, .unset, .unset, .unset, .unset, .unset] [(.int (mk &&& (8 : Int32)))])) _
    refine XS.ifNo X.here hx rfl (hb hby at_69) rfl ((if0 _ _).trans (feq hc).1) ?_
    show Steps p.tables e below (T.setTop (mkF m 72 #[.val (.int mk), .val (.long q1), .second, .val (.long q2), .second, .val (.long q3), .second, .val (.int rt), .val (.long q5), .second, .val (.long (own_pick mk 1 q1)), .second, .val (.long (own_pick mk 2 q2)), .second, .val (.long (own_pick mk 4 q3)), .second, .val (.int (own_r rt)), .unset, .unset, .unset, .unset, .unset, .unset, .unset] [])) _
    refine XS.iload X.here hx rfl (hb hby at_72) rfl ?_
    show Steps p.tables e below (T.setTop (mkF m 74 #[.val (.int mk), .val (.long q1), .second, .val (.long q2), .second, .val (.long q3), .second, .val (.int rt), .val (.long q5), .second, .val (.long (own_pick mk 1 q1)), .second, .val (.long (own_pick mk 2 q2)), .second, .val (.long (own_pick mk 4 q3)), .second, .val (.int (own_r rt)), .unset, .unset, .unset, .unset, .unset, .unset, .unset] [(.int (own_r rt))])) _
    refine XS.i2dS X.here hx rfl (hb hby at_74) rfl rfl ?_
    show Steps p.tables e below (T.setTop (mkF m 75 #[.val (.int mk), .val (.long q1), .second, .val (.long q2), .second, .val (.long q3), .second, .val (.int rt), .val (.long q5), .second, .val (.long (own_pick mk 1 q1)), .second, .val (.long (own_pick mk 2 q2)), .second, .val (.long (own_pick mk 4 q3)), .second, .val (.int (own_r rt)), .unset, .unset, .unset, .unset, .unset, .unset, .unset] [(.double (FP.i2d (own_r rt)))])) _
    refine XS.goto X.here hx rfl (pc0 := 75) (pc' := 79) rfl (hb hby at_75) (by decide) (by decide) ?_
    show Steps p.tables e below (T.setTop (mkF m 79 #[.val (.int mk), .val (.long q1), .second, .val (.long q2), .second, .val (.long q3), .second, .val (.int rt), .val (.long q5), .second, .val (.long (own_pick mk 1 q1)), .second, .val (.long (own_pick mk 2 q2)), .second, .val (.long (own_pick mk 4 q3)), .second, .val (.int (own_r rt)), .unset, .unset, .unset, .unset, .unset, .unset, .unset] [(.double (FP.i2d (own_r rt)))])) _
    refine XS.dstore X.here hx rfl (hb hby at_79) rfl (l' := #[.val (.int mk), .val (.long q1), .second, .val (.long q2), .second, .val (.long q3), .second, .val (.int rt), .val (.long q5), .second, .val (.long (own_pick mk 1 q1)), .second, .val (.long (own_pick mk 2 q2)), .second, .val (.long (own_pick mk 4 q3)), .second, .val (.int (own_r rt)), .val (.double (FP.i2d (own_r rt))), .second, .unset, .unset, .unset, .unset, .unset]) rfl ?_
    show Steps p.tables e below (T.setTop (mkF m 81 #[.val (.int mk), .val (.long q1), .second, .val (.long q2), .second, .val (.long q3), .second, .val (.int rt), .val (.long q5), .second, .val (.long (own_pick mk 1 q1)), .second, .val (.long (own_pick mk 2 q2)), .second, .val (.long (own_pick mk 4 q3)), .second, .val (.int (own_r rt)), .val (.double (FP.i2d (own_r rt))), .second, .unset, .unset, .unset, .unset, .unset] [])) _
    exact k
set_option maxRecDepth 65536 in
set_option maxHeartbeats 40000000 in
theorem segF (X : Stand p l e room_1 s m args below meth c T [] 0 0) (hx : p.tables.exec = Jvm.exec) (hZ : Z.Warmed39 s.vm) (hw : ∀ d ∈ tables_1, d.before a0 Z = true) (hml : c.maxLocals = 24) (hby : c.code = code) (hown : s.vm.findClass "com/example/overload_control/overloadcontrol/ResourceStatsIdlePinLaw" = some m.cls) (eT : T.heap = h) (mk : Int32) (q1 q2 q3 : Int64) (rt : Int32) (q5 : Int64) :
    ∃ T', Stand p l e room_1 s m args below meth c T' [] 0 0 ∧ T'.heap = h ∧ ∀ t, Steps p.tables e below (T'.setTop (mkF m 99 #[.val (.int mk), .val (.long q1), .second, .val (.long q2), .second, .val (.long q3), .second, .val (.int rt), .val (.long q5), .second, .val (.long (own_pick mk 1 q1)), .second, .val (.long (own_pick mk 2 q2)), .second, .val (.long (own_pick mk 4 q3)), .second, .val (.int (own_r rt)), .val (.double (own_avg mk (own_r rt))), .second, .val (.long (own_pick mk 16 q5)), .second, .unset, .unset, .unset] [])) t → Steps p.tables e below (T.setTop (mkF m 81 #[.val (.int mk), .val (.long q1), .second, .val (.long q2), .second, .val (.long q3), .second, .val (.int rt), .val (.long q5), .second, .val (.long (own_pick mk 1 q1)), .second, .val (.long (own_pick mk 2 q2)), .second, .val (.long (own_pick mk 4 q3)), .second, .val (.int (own_r rt)), .val (.double (own_avg mk (own_r rt))), .second, .unset, .unset, .unset, .unset, .unset] [])) t := by
  by_cases hc : mk &&& 16 = 0
  · refine ⟨T, X, eT, fun t k => ?_⟩
    rw [show own_pick mk 16 q5 = 0 from if_pos hc] at k
    show Steps p.tables e below (T.setTop (mkF m 81 #[.val (.int mk), .val (.long q1), .second, .val (.long q2), .second, .val (.long q3), .second, .val (.int rt), .val (.long q5), .second, .val (.long (own_pick mk 1 q1)), .second, .val (.long (own_pick mk 2 q2)), .second, .val (.long (own_pick mk 4 q3)), .second, .val (.int (own_r rt)), .val (.double (own_avg mk (own_r rt))), .second, .unset, .unset, .unset, .unset, .unset] [])) _
    refine XS.iloadN X.here hx rfl (hb hby at_81) rfl ?_
    show Steps p.tables e below (T.setTop (mkF m 82 #[.val (.int mk), .val (.long q1), .second, .val (.long q2), .second, .val (.long q3), .second, .val (.int rt), .val (.long q5), .second, .val (.long (own_pick mk 1 q1)), .second, .val (.long (own_pick mk 2 q2)), .second, .val (.long (own_pick mk 4 q3)), .second, .val (.int (own_r rt)), .val (.double (own_avg mk (own_r rt))), .second, .unset, .unset, .unset, .unset, .unset] [(.int mk)])) _
    refine XS.bipush X.here hx rfl (hb hby at_82) ?_
    show Steps p.tables e below (T.setTop (mkF m 84 #[.val (.int mk), .val (.long q1), .second, .val (.long q2), .second, .val (.long q3), .second, .val (.int rt), .val (.long q5), .second, .val (.long (own_pick mk 1 q1)), .second, .val (.long (own_pick mk 2 q2)), .second, .val (.long (own_pick mk 4 q3)), .second, .val (.int (own_r rt)), .val (.double (own_avg mk (own_r rt))), .second, .unset, .unset, .unset, .unset, .unset] [(.int (16 : Int32)), (.int mk)])) _
    refine XS.iand X.here hx rfl (hb hby at_84) rfl ?_
    show Steps p.tables e below (T.setTop (mkF m 85 #[.val (.int mk), .val (.long q1), .second, .val (.long q2), .second, .val (.long q3), .second, .val (.int rt), .val (.long q5), .second, .val (.long (own_pick mk 1 q1)), .second, .val (.long (own_pick mk 2 q2)), .second, .val (.long (own_pick mk 4 q3)), .second, .val (.int (own_r rt)), .val (.double (own_avg mk (own_r rt))), .second, .unset, .unset, .unset, .unset, .unset] [(.int (mk &&& (16 : Int32)))])) _
    refine XS.ifYes X.here hx rfl (pc0 := 85) (pc' := 96) rfl (hb hby at_85) rfl ((if0 _ _).trans (teq hc).1) (by decide) (by decide) ?_
    show Steps p.tables e below (T.setTop (mkF m 96 #[.val (.int mk), .val (.long q1), .second, .val (.long q2), .second, .val (.long q3), .second, .val (.int rt), .val (.long q5), .second, .val (.long (own_pick mk 1 q1)), .second, .val (.long (own_pick mk 2 q2)), .second, .val (.long (own_pick mk 4 q3)), .second, .val (.int (own_r rt)), .val (.double (own_avg mk (own_r rt))), .second, .unset, .unset, .unset, .unset, .unset] [])) _
    refine XS.lconst X.here hx rfl (hb hby at_96) ?_
    show Steps p.tables e below (T.setTop (mkF m 97 #[.val (.int mk), .val (.long q1), .second, .val (.long q2), .second, .val (.long q3), .second, .val (.int rt), .val (.long q5), .second, .val (.long (own_pick mk 1 q1)), .second, .val (.long (own_pick mk 2 q2)), .second, .val (.long (own_pick mk 4 q3)), .second, .val (.int (own_r rt)), .val (.double (own_avg mk (own_r rt))), .second, .unset, .unset, .unset, .unset, .unset] [(.long (0 : Int64))])) _
    refine XS.lstore X.here hx rfl (hb hby at_97) rfl (l' := #[.val (.int mk), .val (.long q1), .second, .val (.long q2), .second, .val (.long q3), .second, .val (.int rt), .val (.long q5), .second, .val (.long (own_pick mk 1 q1)), .second, .val (.long (own_pick mk 2 q2)), .second, .val (.long (own_pick mk 4 q3)), .second, .val (.int (own_r rt)), .val (.double (own_avg mk (own_r rt))), .second, .val (.long (0 : Int64)), .second, .unset, .unset, .unset]) rfl ?_
    show Steps p.tables e below (T.setTop (mkF m 99 #[.val (.int mk), .val (.long q1), .second, .val (.long q2), .second, .val (.long q3), .second, .val (.int rt), .val (.long q5), .second, .val (.long (own_pick mk 1 q1)), .second, .val (.long (own_pick mk 2 q2)), .second, .val (.long (own_pick mk 4 q3)), .second, .val (.int (own_r rt)), .val (.double (own_avg mk (own_r rt))), .second, .val (.long (0 : Int64)), .second, .unset, .unset, .unset] [])) _
    exact k
  · obtain ⟨_, _, ⟨T7, L7, k7, n7⟩, -, X7, ⟨Lc7, hQ7, l7, y7, z7⟩, st7⟩ := Jvm.LawKit.callS X hx (y := (⟨"com/example/overload_control/overloadcontrol/ResourceStatsIdlePinLaw", "nz", "(J)J"⟩ : MethodName)) hown (mvT hZ (hw _ (List.mem_of_getElem? (i := 39) rfl))) (mvT hZ (hw _ (List.mem_of_getElem? (i := 40) rfl))) (mvT hZ (hw _ (List.mem_of_getElem? (i := 41) rfl))) (mvT hZ (hw _ (List.mem_of_getElem? (i := 42) rfl))) (by decide) (backOf (W := 0) (rm5 l Z a0 hw [] q5 h) hZ (hw _ (List.mem_of_getElem? (i := 42) rfl)) (hw _ (List.mem_of_getElem? (i := 41) rfl)) (by decide) (by decide)) (g := (mkF m 90 #[.val (.int mk), .val (.long q1), .second, .val (.long q2), .second, .val (.long q3), .second, .val (.int rt), .val (.long q5), .second, .val (.long (own_pick mk 1 q1)), .second, .val (.long (own_pick mk 2 q2)), .second, .val (.long (own_pick mk 4 q3)), .second, .val (.int (own_r rt)), .val (.double (own_avg mk (own_r rt))), .second, .unset, .unset, .unset, .unset, .unset] [(.long q5)])) rfl (by rw [hml]; rfl) (argsL := [(.long q5)]) (rest := []) (lenOf pd_nz rfl) rfl (by show 2 * 0 + _ ≤ _; exact Nat.le_of_eq rfl) (hb hby at_90) (fun _ _ => ⟨rfl, eT, (by decide : 0 + 0 ≤ _), (by decide : 0 + 0 ≤ _)⟩)
    dsimp only [Pt.U, Pt.locs, Pt.cells, Pt.slots] at X7 l7 y7 z7 st7 hQ7
    subst l7 y7 z7
    obtain ⟨rfl, rfl, e7⟩ := hQ7
    refine ⟨T7, X7, e7, fun t k => ?_⟩
    rw [show own_pick mk 16 q5 = own_nz q5 from if_neg hc] at k
    show Steps p.tables e below (T.setTop (mkF m 81 #[.val (.int mk), .val (.long q1), .second, .val (.long q2), .second, .val (.long q3), .second, .val (.int rt), .val (.long q5), .second, .val (.long (own_pick mk 1 q1)), .second, .val (.long (own_pick mk 2 q2)), .second, .val (.long (own_pick mk 4 q3)), .second, .val (.int (own_r rt)), .val (.double (own_avg mk (own_r rt))), .second, .unset, .unset, .unset, .unset, .unset] [])) _
    refine XS.iloadN X.here hx rfl (hb hby at_81) rfl ?_
    show Steps p.tables e below (T.setTop (mkF m 82 #[.val (.int mk), .val (.long q1), .second, .val (.long q2), .second, .val (.long q3), .second, .val (.int rt), .val (.long q5), .second, .val (.long (own_pick mk 1 q1)), .second, .val (.long (own_pick mk 2 q2)), .second, .val (.long (own_pick mk 4 q3)), .second, .val (.int (own_r rt)), .val (.double (own_avg mk (own_r rt))), .second, .unset, .unset, .unset, .unset, .unset] [(.int mk)])) _
    refine XS.bipush X.here hx rfl (hb hby at_82) ?_
    show Steps p.tables e below (T.setTop (mkF m 84 #[.val (.int mk), .val (.long q1), .second, .val (.long q2), .second, .val (.long q3), .second, .val (.int rt), .val (.long q5), .second, .val (.long (own_pick mk 1 q1)), .second, .val (.long (own_pick mk 2 q2)), .second, .val (.long (own_pick mk 4 q3)), .second, .val (.int (own_r rt)), .val (.double (own_avg mk (own_r rt))), .second, .unset, .unset, .unset, .unset, .unset] [(.int (16 : Int32)), (.int mk)])) _
    refine XS.iand X.here hx rfl (hb hby at_84) rfl ?_
    show Steps p.tables e below (T.setTop (mkF m 85 #[.val (.int mk), .val (.long q1), .second, .val (.long q2), .second, .val (.long q3), .second, .val (.int rt), .val (.long q5), .second, .val (.long (own_pick mk 1 q1)), .second, .val (.long (own_pick mk 2 q2)), .second, .val (.long (own_pick mk 4 q3)), .second, .val (.int (own_r rt)), .val (.double (own_avg mk (own_r rt))), .second, .unset, .unset, .unset, .unset, .unset] [(.int (mk &&& (16 : Int32)))])) _
    refine XS.ifNo X.here hx rfl (hb hby at_85) rfl ((if0 _ _).trans (feq hc).1) ?_
    show Steps p.tables e below (T.setTop (mkF m 88 #[.val (.int mk), .val (.long q1), .second, .val (.long q2), .second, .val (.long q3), .second, .val (.int rt), .val (.long q5), .second, .val (.long (own_pick mk 1 q1)), .second, .val (.long (own_pick mk 2 q2)), .second, .val (.long (own_pick mk 4 q3)), .second, .val (.int (own_r rt)), .val (.double (own_avg mk (own_r rt))), .second, .unset, .unset, .unset, .unset, .unset] [])) _
    refine XS.lload X.here hx rfl (hb hby at_88) rfl ?_
    show Steps p.tables e below (T.setTop (mkF m 90 #[.val (.int mk), .val (.long q1), .second, .val (.long q2), .second, .val (.long q3), .second, .val (.int rt), .val (.long q5), .second, .val (.long (own_pick mk 1 q1)), .second, .val (.long (own_pick mk 2 q2)), .second, .val (.long (own_pick mk 4 q3)), .second, .val (.int (own_r rt)), .val (.double (own_avg mk (own_r rt))), .second, .unset, .unset, .unset, .unset, .unset] [(.long q5)])) _
    refine st7 _ ?_
    show Steps p.tables e below (T7.setTop (mkF m 93 #[.val (.int mk), .val (.long q1), .second, .val (.long q2), .second, .val (.long q3), .second, .val (.int rt), .val (.long q5), .second, .val (.long (own_pick mk 1 q1)), .second, .val (.long (own_pick mk 2 q2)), .second, .val (.long (own_pick mk 4 q3)), .second, .val (.int (own_r rt)), .val (.double (own_avg mk (own_r rt))), .second, .unset, .unset, .unset, .unset, .unset] [(.long (own_nz q5))])) _
    refine XS.goto X7.here hx rfl (pc0 := 93) (pc' := 97) rfl (hb hby at_93) (by decide) (by decide) ?_
    show Steps p.tables e below (T7.setTop (mkF m 97 #[.val (.int mk), .val (.long q1), .second, .val (.long q2), .second, .val (.long q3), .second, .val (.int rt), .val (.long q5), .second, .val (.long (own_pick mk 1 q1)), .second, .val (.long (own_pick mk 2 q2)), .second, .val (.long (own_pick mk 4 q3)), .second, .val (.int (own_r rt)), .val (.double (own_avg mk (own_r rt))), .second, .unset, .unset, .unset, .unset, .unset] [(.long (own_nz q5))])) _
    refine XS.lstore X7.here hx rfl (hb hby at_97) rfl (l' := #[.val (.int mk), .val (.long q1), .second, .val (.long q2), .second, .val (.long q3), .second, .val (.int rt), .val (.long q5), .second, .val (.long (own_pick mk 1 q1)), .second, .val (.long (own_pick mk 2 q2)), .second, .val (.long (own_pick mk 4 q3)), .second, .val (.int (own_r rt)), .val (.double (own_avg mk (own_r rt))), .second, .val (.long (own_nz q5)), .second, .unset, .unset, .unset]) rfl ?_
    show Steps p.tables e below (T7.setTop (mkF m 99 #[.val (.int mk), .val (.long q1), .second, .val (.long q2), .second, .val (.long q3), .second, .val (.int rt), .val (.long q5), .second, .val (.long (own_pick mk 1 q1)), .second, .val (.long (own_pick mk 2 q2)), .second, .val (.long (own_pick mk 4 q3)), .second, .val (.int (own_r rt)), .val (.double (own_avg mk (own_r rt))), .second, .val (.long (own_nz q5)), .second, .unset, .unset, .unset] [])) _
    exact k
set_option maxRecDepth 65536 in
set_option maxHeartbeats 40000000 in
theorem segG (X : Stand p l e room_1 s m args below meth c T [] 0 0) (hx : p.tables.exec = Jvm.exec) (hZ : Z.Warmed39 s.vm) (hw : ∀ d ∈ tables_1, d.before a0 Z = true) (hml : c.maxLocals = 24) (hby : c.code = code) (hown : s.vm.findClass "com/example/overload_control/overloadcontrol/ResourceStatsIdlePinLaw" = some m.cls) (eT : T.heap = h) (mk : Int32) (q1 q2 q3 : Int64) (rt : Int32) (q5 : Int64) :
    ∃ (nm : Value) (T' : State) (vm0 : Vm) (h' : Heap) (k0 : Nat), Stand p l e room_1 (s.setVm vm0) m args below meth c T' [] 2 8 ∧ T'.heap = h' ∧ Ext h h' ∧ s.Since vm0 k0 ∧ k0 ≤ h'.size ∧ Z.Warmed39 (s.setVm vm0).vm ∧ (s.setVm vm0).vm.findClass "com/example/overload_control/overloadcontrol/ResourceStatsIdlePinLaw" = some m.cls ∧ nm.isRef = true ∧ ∀ t, Steps p.tables e below (T'.setTop (mkF m 114 #[.val (.int mk), .val (.long q1), .second, .val (.long q2), .second, .val (.long q3), .second, .val (.int rt), .val (.long q5), .second, .val (.long (own_pick mk 1 q1)), .second, .val (.long (own_pick mk 2 q2)), .second, .val (.long (own_pick mk 4 q3)), .second, .val (.int (own_r rt)), .val (.double (own_avg mk (own_r rt))), .second, .val (.long (own_pick mk 16 q5)), .second, .val nm, .unset, .unset] [])) t → Steps p.tables e below (T.setTop (mkF m 99 #[.val (.int mk), .val (.long q1), .second, .val (.long q2), .second, .val (.long q3), .second, .val (.int rt), .val (.long q5), .second, .val (.long (own_pick mk 1 q1)), .second, .val (.long (own_pick mk 2 q2)), .second, .val (.long (own_pick mk 4 q3)), .second, .val (.int (own_r rt)), .val (.double (own_avg mk (own_r rt))), .second, .val (.long (own_pick mk 16 q5)), .second, .unset, .unset, .unset] [])) t := by
  have XR : Stand p l e room_1 (s.setVm T.vm) m args below meth c T [] 0 0 := X.retabled X.warmed.wide
  have hS : s.Since T.vm T.heap.size := X.warmed.since _
  have hZT : Z.Warmed39 T.vm := wtrans hZ X.warmed
  have hownT : T.vm.findClass "com/example/overload_control/overloadcontrol/ResourceStatsIdlePinLaw" = some m.cls := by rw [X.warmed.alike.findClass]; exact hown
  by_cases hc : mk &&& 32 = 0
  · have wS : ∀ d ∈ Bundle.stringAtoms, d.before a0 Z = true := fun d hd => by
      simp only [Bundle.stringAtoms, List.mem_cons, List.not_mem_nil, or_false] at hd
      rcases hd with rfl | rfl | rfl | rfl | rfl | rfl | rfl
      · exact (hw _ (List.mem_of_getElem? (i := 1) rfl))
      · exact (hw _ (List.mem_of_getElem? (i := 2) rfl))
      · exact (hw _ (List.mem_of_getElem? (i := 3) rfl))
      · exact (hw _ (List.mem_of_getElem? (i := 4) rfl))
      · exact (hw _ (List.mem_of_getElem? (i := 5) rfl))
      · exact (hw _ (List.mem_of_getElem? (i := 6) rfl))
      · exact (hw _ (List.mem_of_getElem? (i := 7) rfl))
    obtain ⟨b, T', h', k1, X', e', E', hS', hk', hZ', hown', st⟩ := ldcS (vm0 := T.vm) XR hx hZT hownT (hw _ (List.mem_of_getElem? (i := 0) rfl)) wS eT hS (Nat.le_of_eq (by rw [eT])) (g := (mkF m 110 #[.val (.int mk), .val (.long q1), .second, .val (.long q2), .second, .val (.long q3), .second, .val (.int rt), .val (.long q5), .second, .val (.long (own_pick mk 1 q1)), .second, .val (.long (own_pick mk 2 q2)), .second, .val (.long (own_pick mk 4 q3)), .second, .val (.int (own_r rt)), .val (.double (own_avg mk (own_r rt))), .second, .val (.long (own_pick mk 16 q5)), .second, .unset, .unset, .unset] [])) rfl (hb hby at_110) (n := 4) (by decide) (by decide) (by decide) (by decide)
    refine ⟨.ref b, T', T'.vm, h', k1, X', e', E', hS', hk', hZ', hown', rfl, fun t k => ?_⟩
    show Steps p.tables e below (T.setTop (mkF m 99 #[.val (.int mk), .val (.long q1), .second, .val (.long q2), .second, .val (.long q3), .second, .val (.int rt), .val (.long q5), .second, .val (.long (own_pick mk 1 q1)), .second, .val (.long (own_pick mk 2 q2)), .second, .val (.long (own_pick mk 4 q3)), .second, .val (.int (own_r rt)), .val (.double (own_avg mk (own_r rt))), .second, .val (.long (own_pick mk 16 q5)), .second, .unset, .unset, .unset] [])) _
    refine XS.iloadN X.here hx rfl (hb hby at_99) rfl ?_
    show Steps p.tables e below (T.setTop (mkF m 100 #[.val (.int mk), .val (.long q1), .second, .val (.long q2), .second, .val (.long q3), .second, .val (.int rt), .val (.long q5), .second, .val (.long (own_pick mk 1 q1)), .second, .val (.long (own_pick mk 2 q2)), .second, .val (.long (own_pick mk 4 q3)), .second, .val (.int (own_r rt)), .val (.double (own_avg mk (own_r rt))), .second, .val (.long (own_pick mk 16 q5)), .second, .unset, .unset, .unset] [(.int mk)])) _
    refine XS.bipush X.here hx rfl (hb hby at_100) ?_
    show Steps p.tables e below (T.setTop (mkF m 102 #[.val (.int mk), .val (.long q1), .second, .val (.long q2), .second, .val (.long q3), .second, .val (.int rt), .val (.long q5), .second, .val (.long (own_pick mk 1 q1)), .second, .val (.long (own_pick mk 2 q2)), .second, .val (.long (own_pick mk 4 q3)), .second, .val (.int (own_r rt)), .val (.double (own_avg mk (own_r rt))), .second, .val (.long (own_pick mk 16 q5)), .second, .unset, .unset, .unset] [(.int (32 : Int32)), (.int mk)])) _
    refine XS.iand X.here hx rfl (hb hby at_102) rfl ?_
    show Steps p.tables e below (T.setTop (mkF m 103 #[.val (.int mk), .val (.long q1), .second, .val (.long q2), .second, .val (.long q3), .second, .val (.int rt), .val (.long q5), .second, .val (.long (own_pick mk 1 q1)), .second, .val (.long (own_pick mk 2 q2)), .second, .val (.long (own_pick mk 4 q3)), .second, .val (.int (own_r rt)), .val (.double (own_avg mk (own_r rt))), .second, .val (.long (own_pick mk 16 q5)), .second, .unset, .unset, .unset] [(.int (mk &&& (32 : Int32)))])) _
    refine XS.ifYes X.here hx rfl (pc0 := 103) (pc' := 110) rfl (hb hby at_103) rfl ((if0 _ _).trans (teq hc).1) (by decide) (by decide) ?_
    show Steps p.tables e below (T.setTop (mkF m 110 #[.val (.int mk), .val (.long q1), .second, .val (.long q2), .second, .val (.long q3), .second, .val (.int rt), .val (.long q5), .second, .val (.long (own_pick mk 1 q1)), .second, .val (.long (own_pick mk 2 q2)), .second, .val (.long (own_pick mk 4 q3)), .second, .val (.int (own_r rt)), .val (.double (own_avg mk (own_r rt))), .second, .val (.long (own_pick mk 16 q5)), .second, .unset, .unset, .unset] [])) _
    refine st _ ?_
    show Steps p.tables e below (T'.setTop (mkF m 112 #[.val (.int mk), .val (.long q1), .second, .val (.long q2), .second, .val (.long q3), .second, .val (.int rt), .val (.long q5), .second, .val (.long (own_pick mk 1 q1)), .second, .val (.long (own_pick mk 2 q2)), .second, .val (.long (own_pick mk 4 q3)), .second, .val (.int (own_r rt)), .val (.double (own_avg mk (own_r rt))), .second, .val (.long (own_pick mk 16 q5)), .second, .unset, .unset, .unset] [(.ref b)])) _
    refine XS.astore X'.here hx rfl (hb hby at_112) rfl rfl (l' := #[.val (.int mk), .val (.long q1), .second, .val (.long q2), .second, .val (.long q3), .second, .val (.int rt), .val (.long q5), .second, .val (.long (own_pick mk 1 q1)), .second, .val (.long (own_pick mk 2 q2)), .second, .val (.long (own_pick mk 4 q3)), .second, .val (.int (own_r rt)), .val (.double (own_avg mk (own_r rt))), .second, .val (.long (own_pick mk 16 q5)), .second, .val (.ref b), .unset, .unset]) rfl ?_
    show Steps p.tables e below (T'.setTop (mkF m 114 #[.val (.int mk), .val (.long q1), .second, .val (.long q2), .second, .val (.long q3), .second, .val (.int rt), .val (.long q5), .second, .val (.long (own_pick mk 1 q1)), .second, .val (.long (own_pick mk 2 q2)), .second, .val (.long (own_pick mk 4 q3)), .second, .val (.int (own_r rt)), .val (.double (own_avg mk (own_r rt))), .second, .val (.long (own_pick mk 16 q5)), .second, .val (.ref b), .unset, .unset] [])) _
    exact k
  · refine ⟨.null, T, T.vm, h, T.heap.size, XR.mono (by decide) (by decide), eT, ⟨Nat.le_refl _, fun _ _ q => q⟩, hS, Nat.le_of_eq (by rw [eT]), hZT, hownT, rfl, fun t k => ?_⟩
    show Steps p.tables e below (T.setTop (mkF m 99 #[.val (.int mk), .val (.long q1), .second, .val (.long q2), .second, .val (.long q3), .second, .val (.int rt), .val (.long q5), .second, .val (.long (own_pick mk 1 q1)), .second, .val (.long (own_pick mk 2 q2)), .second, .val (.long (own_pick mk 4 q3)), .second, .val (.int (own_r rt)), .val (.double (own_avg mk (own_r rt))), .second, .val (.long (own_pick mk 16 q5)), .second, .unset, .unset, .unset] [])) _
    refine XS.iloadN X.here hx rfl (hb hby at_99) rfl ?_
    show Steps p.tables e below (T.setTop (mkF m 100 #[.val (.int mk), .val (.long q1), .second, .val (.long q2), .second, .val (.long q3), .second, .val (.int rt), .val (.long q5), .second, .val (.long (own_pick mk 1 q1)), .second, .val (.long (own_pick mk 2 q2)), .second, .val (.long (own_pick mk 4 q3)), .second, .val (.int (own_r rt)), .val (.double (own_avg mk (own_r rt))), .second, .val (.long (own_pick mk 16 q5)), .second, .unset, .unset, .unset] [(.int mk)])) _
    refine XS.bipush X.here hx rfl (hb hby at_100) ?_
    show Steps p.tables e below (T.setTop (mkF m 102 #[.val (.int mk), .val (.long q1), .second, .val (.long q2), .second, .val (.long q3), .second, .val (.int rt), .val (.long q5), .second, .val (.long (own_pick mk 1 q1)), .second, .val (.long (own_pick mk 2 q2)), .second, .val (.long (own_pick mk 4 q3)), .second, .val (.int (own_r rt)), .val (.double (own_avg mk (own_r rt))), .second, .val (.long (own_pick mk 16 q5)), .second, .unset, .unset, .unset] [(.int (32 : Int32)), (.int mk)])) _
    refine XS.iand X.here hx rfl (hb hby at_102) rfl ?_
    show Steps p.tables e below (T.setTop (mkF m 103 #[.val (.int mk), .val (.long q1), .second, .val (.long q2), .second, .val (.long q3), .second, .val (.int rt), .val (.long q5), .second, .val (.long (own_pick mk 1 q1)), .second, .val (.long (own_pick mk 2 q2)), .second, .val (.long (own_pick mk 4 q3)), .second, .val (.int (own_r rt)), .val (.double (own_avg mk (own_r rt))), .second, .val (.long (own_pick mk 16 q5)), .second, .unset, .unset, .unset] [(.int (mk &&& (32 : Int32)))])) _
    refine XS.ifNo X.here hx rfl (hb hby at_103) rfl ((if0 _ _).trans (feq hc).1) ?_
    show Steps p.tables e below (T.setTop (mkF m 106 #[.val (.int mk), .val (.long q1), .second, .val (.long q2), .second, .val (.long q3), .second, .val (.int rt), .val (.long q5), .second, .val (.long (own_pick mk 1 q1)), .second, .val (.long (own_pick mk 2 q2)), .second, .val (.long (own_pick mk 4 q3)), .second, .val (.int (own_r rt)), .val (.double (own_avg mk (own_r rt))), .second, .val (.long (own_pick mk 16 q5)), .second, .unset, .unset, .unset] [])) _
    refine XS.aconstNull X.here hx rfl (hb hby at_106) ?_
    show Steps p.tables e below (T.setTop (mkF m 107 #[.val (.int mk), .val (.long q1), .second, .val (.long q2), .second, .val (.long q3), .second, .val (.int rt), .val (.long q5), .second, .val (.long (own_pick mk 1 q1)), .second, .val (.long (own_pick mk 2 q2)), .second, .val (.long (own_pick mk 4 q3)), .second, .val (.int (own_r rt)), .val (.double (own_avg mk (own_r rt))), .second, .val (.long (own_pick mk 16 q5)), .second, .unset, .unset, .unset] [.null])) _
    refine XS.goto X.here hx rfl (pc0 := 107) (pc' := 112) rfl (hb hby at_107) (by decide) (by decide) ?_
    show Steps p.tables e below (T.setTop (mkF m 112 #[.val (.int mk), .val (.long q1), .second, .val (.long q2), .second, .val (.long q3), .second, .val (.int rt), .val (.long q5), .second, .val (.long (own_pick mk 1 q1)), .second, .val (.long (own_pick mk 2 q2)), .second, .val (.long (own_pick mk 4 q3)), .second, .val (.int (own_r rt)), .val (.double (own_avg mk (own_r rt))), .second, .val (.long (own_pick mk 16 q5)), .second, .unset, .unset, .unset] [.null])) _
    refine XS.astore X.here hx rfl (hb hby at_112) rfl rfl (l' := #[.val (.int mk), .val (.long q1), .second, .val (.long q2), .second, .val (.long q3), .second, .val (.int rt), .val (.long q5), .second, .val (.long (own_pick mk 1 q1)), .second, .val (.long (own_pick mk 2 q2)), .second, .val (.long (own_pick mk 4 q3)), .second, .val (.int (own_r rt)), .val (.double (own_avg mk (own_r rt))), .second, .val (.long (own_pick mk 16 q5)), .second, .val .null, .unset, .unset]) rfl ?_
    show Steps p.tables e below (T.setTop (mkF m 114 #[.val (.int mk), .val (.long q1), .second, .val (.long q2), .second, .val (.long q3), .second, .val (.int rt), .val (.long q5), .second, .val (.long (own_pick mk 1 q1)), .second, .val (.long (own_pick mk 2 q2)), .second, .val (.long (own_pick mk 4 q3)), .second, .val (.int (own_r rt)), .val (.double (own_avg mk (own_r rt))), .second, .val (.long (own_pick mk 16 q5)), .second, .val .null, .unset, .unset] [])) _
    exact k
set_option maxRecDepth 65536 in
set_option maxHeartbeats 40000000 in
theorem segH (X : Stand p l e room_1 s m args below meth c T [] 2 8) (hx : p.tables.exec = Jvm.exec) (hZ : Z.Warmed39 s.vm) (hw : ∀ d ∈ tables_1, d.before a0 Z = true) (hml : c.maxLocals = 24) (hby : c.code = code) (hown : s.vm.findClass "com/example/overload_control/overloadcontrol/ResourceStatsIdlePinLaw" = some m.cls) (eT : T.heap = h) (mk : Int32) (q1 q2 q3 : Int64) (rt : Int32) (q5 : Int64) (nm : Value) (hnr : nm.isRef = true) (n0 : Nat) (Z0 : n0 ≤ h.size) :
    ∃ (T' : State) (a : Addr) (L : List Loc), Stand p l e room_1 s m args below meth c T' L 3 14 ∧ Fr n0 L ∧ h.size ≤ T'.heap.size ∧ Exa Z T'.heap a "com/example/overload_control/overloadcontrol/ResourceStats" ∧ Fld Z T'.heap a "com/example/overload_control/overloadcontrol/ResourceStats" "passed" "J" (.long (own_pick mk 1 q1)) ∧ Fld Z T'.heap a "com/example/overload_control/overloadcontrol/ResourceStats" "blocked" "J" (.long (own_pick mk 2 q2)) ∧ Fld Z T'.heap a "com/example/overload_control/overloadcontrol/ResourceStats" "errors" "J" (.long (own_pick mk 4 q3)) ∧ Fld Z T'.heap a "com/example/overload_control/overloadcontrol/ResourceStats" "averageRtMillis" "D" (.double (own_avg mk (own_r rt))) ∧ Fld Z T'.heap a "com/example/overload_control/overloadcontrol/ResourceStats" "inFlight" "J" (.long (own_pick mk 16 q5)) ∧ ∀ t, Steps p.tables e below (T'.setTop (mkF m 135 #[.val (.int mk), .val (.long q1), .second, .val (.long q2), .second, .val (.long q3), .second, .val (.int rt), .val (.long q5), .second, .val (.long (own_pick mk 1 q1)), .second, .val (.long (own_pick mk 2 q2)), .second, .val (.long (own_pick mk 4 q3)), .second, .val (.int (own_r rt)), .val (.double (own_avg mk (own_r rt))), .second, .val (.long (own_pick mk 16 q5)), .second, .val nm, .val (.ref a), .unset] [])) t → Steps p.tables e below (T.setTop (mkF m 114 #[.val (.int mk), .val (.long q1), .second, .val (.long q2), .second, .val (.long q3), .second, .val (.int rt), .val (.long q5), .second, .val (.long (own_pick mk 1 q1)), .second, .val (.long (own_pick mk 2 q2)), .second, .val (.long (own_pick mk 4 q3)), .second, .val (.int (own_r rt)), .val (.double (own_avg mk (own_r rt))), .second, .val (.long (own_pick mk 16 q5)), .second, .val nm, .unset, .unset] [])) t := by
  obtain ⟨T2, h2, X2, e2, E2, A2, D2, -, st2⟩ := newO X hx hZ hown (hw _ (List.mem_of_getElem? (i := 8) rfl)) (hw _ (List.mem_of_getElem? (i := 9) rfl)) (hw _ (List.mem_of_getElem? (i := 10) rfl)) eT (g := (mkF m 114 #[.val (.int mk), .val (.long q1), .second, .val (.long q2), .second, .val (.long q3), .second, .val (.int rt), .val (.long q5), .second, .val (.long (own_pick mk 1 q1)), .second, .val (.long (own_pick mk 2 q2)), .second, .val (.long (own_pick mk 4 q3)), .second, .val (.int (own_r rt)), .val (.double (own_avg mk (own_r rt))), .second, .val (.long (own_pick mk 16 q5)), .second, .val nm, .unset, .unset] [])) rfl (hb hby at_114) (by decide) (by decide)
  obtain ⟨a, g2⟩ : ∃ z, z = h.size := ⟨_, rfl⟩
  rw [← g2] at A2 D2 st2
  have G0 : Fld Z h2 a "com/example/overload_control/overloadcontrol/ResourceStats" "resource" "Ljava/lang/String;" .null := D2 (Or.inr (hw _ (List.mem_of_getElem? (i := 23) rfl))) (ty := (.object "java/lang/String")) pf_s
  have G1 : Fld Z h2 a "com/example/overload_control/overloadcontrol/ResourceStats" "passed" "J" (.long (0 : Int64)) := D2 (Or.inr (hw _ (List.mem_of_getElem? (i := 25) rfl))) (ty := .long) pf_j
  have G2 : Fld Z h2 a "com/example/overload_control/overloadcontrol/ResourceStats" "blocked" "J" (.long (0 : Int64)) := D2 (Or.inr (hw _ (List.mem_of_getElem? (i := 27) rfl))) (ty := .long) pf_j
  have G3 : Fld Z h2 a "com/example/overload_control/overloadcontrol/ResourceStats" "errors" "J" (.long (0 : Int64)) := D2 (Or.inr (hw _ (List.mem_of_getElem? (i := 29) rfl))) (ty := .long) pf_j
  have G4 : Fld Z h2 a "com/example/overload_control/overloadcontrol/ResourceStats" "averageRtMillis" "D" (.double (0 : UInt64)) := D2 (Or.inr (hw _ (List.mem_of_getElem? (i := 31) rfl))) (ty := .double) pf_d
  have G5 : Fld Z h2 a "com/example/overload_control/overloadcontrol/ResourceStats" "inFlight" "J" (.long (0 : Int64)) := D2 (Or.inr (hw _ (List.mem_of_getElem? (i := 33) rfl))) (ty := .long) pf_j
  obtain ⟨_, _, ⟨T8, L8, k8, n8⟩, -, X8, ⟨Lc8, hQ8, l8, y8, z8⟩, st8⟩ := X2.specialBack hx (y := (⟨"com/example/overload_control/overloadcontrol/ResourceStats", "<init>", "(Ljava/lang/String;JJJDJ)V"⟩ : MethodName)) rfl hown (mvT hZ (hw _ (List.mem_of_getElem? (i := 11) rfl))) (mvT hZ (hw _ (List.mem_of_getElem? (i := 12) rfl))) (mvT hZ (hw _ (List.mem_of_getElem? (i := 13) rfl))) (by decide) (backOf (W := 1) (rm1 l Z a0 hw [] a nm hnr (own_pick mk 1 q1) (own_pick mk 2 q2) (own_pick mk 4 q3) (own_avg mk (own_r rt)) (own_pick mk 16 q5) h2 n0 G0 G1 G2 G3 G4 G5 A2 (Nat.le_trans Z0 (Nat.le_of_eq g2.symm))) hZ (hw _ (List.mem_of_getElem? (i := 13) rfl)) (hw _ (List.mem_of_getElem? (i := 10) rfl)) (by decide) (by decide)) (g := (mkF m 130 #[.val (.int mk), .val (.long q1), .second, .val (.long q2), .second, .val (.long q3), .second, .val (.int rt), .val (.long q5), .second, .val (.long (own_pick mk 1 q1)), .second, .val (.long (own_pick mk 2 q2)), .second, .val (.long (own_pick mk 4 q3)), .second, .val (.int (own_r rt)), .val (.double (own_avg mk (own_r rt))), .second, .val (.long (own_pick mk 16 q5)), .second, .val nm, .unset, .unset] [(.long (own_pick mk 16 q5)), (.double (own_avg mk (own_r rt))), (.long (own_pick mk 4 q3)), (.long (own_pick mk 2 q2)), (.long (own_pick mk 1 q1)), nm, (.ref a), (.ref a)])) rfl (by rw [hml]; rfl) (Steps.refl _) (a := a) (argsL := [nm, (.long (own_pick mk 1 q1)), (.long (own_pick mk 2 q2)), (.long (own_pick mk 4 q3)), (.double (own_avg mk (own_r rt))), (.long (own_pick mk 16 q5))]) (rest := [(.ref a)]) (lenOf pd_c rfl) rfl (by show 2 * 0 + _ ≤ _; exact Nat.le_of_eq rfl) (hb hby at_130) (fun _ _ => ⟨rfl, e2, (by decide : 3 + 0 ≤ _), (by decide : 14 + 0 ≤ _)⟩)
  dsimp only [Pt.U, Pt.locs, Pt.cells, Pt.slots] at X8 l8 y8 z8 st8 hQ8
  subst l8 y8 z8
  obtain ⟨rfl, N8, K8, E8, F1, F2, F3, F4, F5⟩ := hQ8
  refine ⟨T8, a, _, X8, Fr.app (Fr.nil n0) N8, Nat.le_trans E2.1 K8.1, E8, F1, F2, F3, F4, F5, fun t k => ?_⟩
  show Steps p.tables e below (T.setTop (mkF m 114 #[.val (.int mk), .val (.long q1), .second, .val (.long q2), .second, .val (.long q3), .second, .val (.int rt), .val (.long q5), .second, .val (.long (own_pick mk 1 q1)), .second, .val (.long (own_pick mk 2 q2)), .second, .val (.long (own_pick mk 4 q3)), .second, .val (.int (own_r rt)), .val (.double (own_avg mk (own_r rt))), .second, .val (.long (own_pick mk 16 q5)), .second, .val nm, .unset, .unset] [])) _
  refine st2 _ ?_
  show Steps p.tables e below (T2.setTop (mkF m 117 #[.val (.int mk), .val (.long q1), .second, .val (.long q2), .second, .val (.long q3), .second, .val (.int rt), .val (.long q5), .second, .val (.long (own_pick mk 1 q1)), .second, .val (.long (own_pick mk 2 q2)), .second, .val (.long (own_pick mk 4 q3)), .second, .val (.int (own_r rt)), .val (.double (own_avg mk (own_r rt))), .second, .val (.long (own_pick mk 16 q5)), .second, .val nm, .unset, .unset] [(.ref a)])) _
  refine XS.dup X2.here hx rfl (hb hby at_117) rfl rfl ?_
  show Steps p.tables e below (T2.setTop (mkF m 118 #[.val (.int mk), .val (.long q1), .second, .val (.long q2), .second, .val (.long q3), .second, .val (.int rt), .val (.long q5), .second, .val (.long (own_pick mk 1 q1)), .second, .val (.long (own_pick mk 2 q2)), .second, .val (.long (own_pick mk 4 q3)), .second, .val (.int (own_r rt)), .val (.double (own_avg mk (own_r rt))), .second, .val (.long (own_pick mk 16 q5)), .second, .val nm, .unset, .unset] [(.ref a), (.ref a)])) _
  refine XS.aload X2.here hx rfl (hb hby at_118) rfl hnr ?_
  show Steps p.tables e below (T2.setTop (mkF m 120 #[.val (.int mk), .val (.long q1), .second, .val (.long q2), .second, .val (.long q3), .second, .val (.int rt), .val (.long q5), .second, .val (.long (own_pick mk 1 q1)), .second, .val (.long (own_pick mk 2 q2)), .second, .val (.long (own_pick mk 4 q3)), .second, .val (.int (own_r rt)), .val (.double (own_avg mk (own_r rt))), .second, .val (.long (own_pick mk 16 q5)), .second, .val nm, .unset, .unset] [nm, (.ref a), (.ref a)])) _
  refine XS.lload X2.here hx rfl (hb hby at_120) rfl ?_
  show Steps p.tables e below (T2.setTop (mkF m 122 #[.val (.int mk), .val (.long q1), .second, .val (.long q2), .second, .val (.long q3), .second, .val (.int rt), .val (.long q5), .second, .val (.long (own_pick mk 1 q1)), .second, .val (.long (own_pick mk 2 q2)), .second, .val (.long (own_pick mk 4 q3)), .second, .val (.int (own_r rt)), .val (.double (own_avg mk (own_r rt))), .second, .val (.long (own_pick mk 16 q5)), .second, .val nm, .unset, .unset] [(.long (own_pick mk 1 q1)), nm, (.ref a), (.ref a)])) _
  refine XS.lload X2.here hx rfl (hb hby at_122) rfl ?_
  show Steps p.tables e below (T2.setTop (mkF m 124 #[.val (.int mk), .val (.long q1), .second, .val (.long q2), .second, .val (.long q3), .second, .val (.int rt), .val (.long q5), .second, .val (.long (own_pick mk 1 q1)), .second, .val (.long (own_pick mk 2 q2)), .second, .val (.long (own_pick mk 4 q3)), .second, .val (.int (own_r rt)), .val (.double (own_avg mk (own_r rt))), .second, .val (.long (own_pick mk 16 q5)), .second, .val nm, .unset, .unset] [(.long (own_pick mk 2 q2)), (.long (own_pick mk 1 q1)), nm, (.ref a), (.ref a)])) _
  refine XS.lload X2.here hx rfl (hb hby at_124) rfl ?_
  show Steps p.tables e below (T2.setTop (mkF m 126 #[.val (.int mk), .val (.long q1), .second, .val (.long q2), .second, .val (.long q3), .second, .val (.int rt), .val (.long q5), .second, .val (.long (own_pick mk 1 q1)), .second, .val (.long (own_pick mk 2 q2)), .second, .val (.long (own_pick mk 4 q3)), .second, .val (.int (own_r rt)), .val (.double (own_avg mk (own_r rt))), .second, .val (.long (own_pick mk 16 q5)), .second, .val nm, .unset, .unset] [(.long (own_pick mk 4 q3)), (.long (own_pick mk 2 q2)), (.long (own_pick mk 1 q1)), nm, (.ref a), (.ref a)])) _
  refine XS.dload X2.here hx rfl (hb hby at_126) rfl ?_
  show Steps p.tables e below (T2.setTop (mkF m 128 #[.val (.int mk), .val (.long q1), .second, .val (.long q2), .second, .val (.long q3), .second, .val (.int rt), .val (.long q5), .second, .val (.long (own_pick mk 1 q1)), .second, .val (.long (own_pick mk 2 q2)), .second, .val (.long (own_pick mk 4 q3)), .second, .val (.int (own_r rt)), .val (.double (own_avg mk (own_r rt))), .second, .val (.long (own_pick mk 16 q5)), .second, .val nm, .unset, .unset] [(.double (own_avg mk (own_r rt))), (.long (own_pick mk 4 q3)), (.long (own_pick mk 2 q2)), (.long (own_pick mk 1 q1)), nm, (.ref a), (.ref a)])) _
  refine XS.lload X2.here hx rfl (hb hby at_128) rfl ?_
  show Steps p.tables e below (T2.setTop (mkF m 130 #[.val (.int mk), .val (.long q1), .second, .val (.long q2), .second, .val (.long q3), .second, .val (.int rt), .val (.long q5), .second, .val (.long (own_pick mk 1 q1)), .second, .val (.long (own_pick mk 2 q2)), .second, .val (.long (own_pick mk 4 q3)), .second, .val (.int (own_r rt)), .val (.double (own_avg mk (own_r rt))), .second, .val (.long (own_pick mk 16 q5)), .second, .val nm, .unset, .unset] [(.long (own_pick mk 16 q5)), (.double (own_avg mk (own_r rt))), (.long (own_pick mk 4 q3)), (.long (own_pick mk 2 q2)), (.long (own_pick mk 1 q1)), nm, (.ref a), (.ref a)])) _
  refine st8.trans ?_
  show Steps p.tables e below (T8.setTop (mkF m 133 #[.val (.int mk), .val (.long q1), .second, .val (.long q2), .second, .val (.long q3), .second, .val (.int rt), .val (.long q5), .second, .val (.long (own_pick mk 1 q1)), .second, .val (.long (own_pick mk 2 q2)), .second, .val (.long (own_pick mk 4 q3)), .second, .val (.int (own_r rt)), .val (.double (own_avg mk (own_r rt))), .second, .val (.long (own_pick mk 16 q5)), .second, .val nm, .unset, .unset] [(.ref a)])) _
  refine XS.astore X8.here hx rfl (hb hby at_133) rfl rfl (l' := #[.val (.int mk), .val (.long q1), .second, .val (.long q2), .second, .val (.long q3), .second, .val (.int rt), .val (.long q5), .second, .val (.long (own_pick mk 1 q1)), .second, .val (.long (own_pick mk 2 q2)), .second, .val (.long (own_pick mk 4 q3)), .second, .val (.int (own_r rt)), .val (.double (own_avg mk (own_r rt))), .second, .val (.long (own_pick mk 16 q5)), .second, .val nm, .val (.ref a), .unset]) rfl ?_
  show Steps p.tables e below (T8.setTop (mkF m 135 #[.val (.int mk), .val (.long q1), .second, .val (.long q2), .second, .val (.long q3), .second, .val (.int rt), .val (.long q5), .second, .val (.long (own_pick mk 1 q1)), .second, .val (.long (own_pick mk 2 q2)), .second, .val (.long (own_pick mk 4 q3)), .second, .val (.int (own_r rt)), .val (.double (own_avg mk (own_r rt))), .second, .val (.long (own_pick mk 16 q5)), .second, .val nm, .val (.ref a), .unset] [])) _
  exact k
set_option maxRecDepth 65536 in
set_option maxHeartbeats 40000000 in
theorem segI {L : List Loc} {n1 n2 : Nat} (X : Stand p l e room_1 s m args below meth c T L n1 n2) (hx : p.tables.exec = Jvm.exec) (hby : c.code = code) (mk : Int32) (q1 q2 q3 : Int64) (rt : Int32) (q5 : Int64) (nm : Value) (a : Addr) :
    ∀ t, Steps p.tables e below (T.setTop (mkF m 149 #[.val (.int mk), .val (.long q1), .second, .val (.long q2), .second, .val (.long q3), .second, .val (.int rt), .val (.long q5), .second, .val (.long (own_pick mk 1 q1)), .second, .val (.long (own_pick mk 2 q2)), .second, .val (.long (own_pick mk 4 q3)), .second, .val (.int (own_r rt)), .val (.double (own_avg mk (own_r rt))), .second, .val (.long (own_pick mk 16 q5)), .second, .val nm, .val (.ref a), .val (.int (own_exp mk))] [])) t → Steps p.tables e below (T.setTop (mkF m 135 #[.val (.int mk), .val (.long q1), .second, .val (.long q2), .second, .val (.long q3), .second, .val (.int rt), .val (.long q5), .second, .val (.long (own_pick mk 1 q1)), .second, .val (.long (own_pick mk 2 q2)), .second, .val (.long (own_pick mk 4 q3)), .second, .val (.int (own_r rt)), .val (.double (own_avg mk (own_r rt))), .second, .val (.long (own_pick mk 16 q5)), .second, .val nm, .val (.ref a), .unset] [])) t := by
  intro t k
  by_cases hc : mk &&& 31 = 0
  · rw [show own_exp mk = 1 from if_pos hc] at k
    show Steps p.tables e below (T.setTop (mkF m 135 #[.val (.int mk), .val (.long q1), .second, .val (.long q2), .second, .val (.long q3), .second, .val (.int rt), .val (.long q5), .second, .val (.long (own_pick mk 1 q1)), .second, .val (.long (own_pick mk 2 q2)), .second, .val (.long (own_pick mk 4 q3)), .second, .val (.int (own_r rt)), .val (.double (own_avg mk (own_r rt))), .second, .val (.long (own_pick mk 16 q5)), .second, .val nm, .val (.ref a), .unset] [])) _
    refine XS.iloadN X.here hx rfl (hb hby at_135) rfl ?_
    show Steps p.tables e below (T.setTop (mkF m 136 #[.val (.int mk), .val (.long q1), .second, .val (.long q2), .second, .val (.long q3), .second, .val (.int rt), .val (.long q5), .second, .val (.long (own_pick mk 1 q1)), .second, .val (.long (own_pick mk 2 q2)), .second, .val (.long (own_pick mk 4 q3)), .second, .val (.int (own_r rt)), .val (.double (own_avg mk (own_r rt))), .second, .val (.long (own_pick mk 16 q5)), .second, .val nm, .val (.ref a), .unset] [(.int mk)])) _
    refine XS.bipush X.here hx rfl (hb hby at_136) ?_
    show Steps p.tables e below (T.setTop (mkF m 138 #[.val (.int mk), .val (.long q1), .second, .val (.long q2), .second, .val (.long q3), .second, .val (.int rt), .val (.long q5), .second, .val (.long (own_pick mk 1 q1)), .second, .val (.long (own_pick mk 2 q2)), .second, .val (.long (own_pick mk 4 q3)), .second, .val (.int (own_r rt)), .val (.double (own_avg mk (own_r rt))), .second, .val (.long (own_pick mk 16 q5)), .second, .val nm, .val (.ref a), .unset] [(.int (31 : Int32)), (.int mk)])) _
    refine XS.iand X.here hx rfl (hb hby at_138) rfl ?_
    show Steps p.tables e below (T.setTop (mkF m 139 #[.val (.int mk), .val (.long q1), .second, .val (.long q2), .second, .val (.long q3), .second, .val (.int rt), .val (.long q5), .second, .val (.long (own_pick mk 1 q1)), .second, .val (.long (own_pick mk 2 q2)), .second, .val (.long (own_pick mk 4 q3)), .second, .val (.int (own_r rt)), .val (.double (own_avg mk (own_r rt))), .second, .val (.long (own_pick mk 16 q5)), .second, .val nm, .val (.ref a), .unset] [(.int (mk &&& (31 : Int32)))])) _
    refine XS.ifNo X.here hx rfl (hb hby at_139) rfl ((if0 _ _).trans (teq hc).2) ?_
    show Steps p.tables e below (T.setTop (mkF m 142 #[.val (.int mk), .val (.long q1), .second, .val (.long q2), .second, .val (.long q3), .second, .val (.int rt), .val (.long q5), .second, .val (.long (own_pick mk 1 q1)), .second, .val (.long (own_pick mk 2 q2)), .second, .val (.long (own_pick mk 4 q3)), .second, .val (.int (own_r rt)), .val (.double (own_avg mk (own_r rt))), .second, .val (.long (own_pick mk 16 q5)), .second, .val nm, .val (.ref a), .unset] [])) _
    refine XS.iconst X.here hx rfl (hb hby at_142) ?_
    show Steps p.tables e below (T.setTop (mkF m 143 #[.val (.int mk), .val (.long q1), .second, .val (.long q2), .second, .val (.long q3), .second, .val (.int rt), .val (.long q5), .second, .val (.long (own_pick mk 1 q1)), .second, .val (.long (own_pick mk 2 q2)), .second, .val (.long (own_pick mk 4 q3)), .second, .val (.int (own_r rt)), .val (.double (own_avg mk (own_r rt))), .second, .val (.long (own_pick mk 16 q5)), .second, .val nm, .val (.ref a), .unset] [(.int (1 : Int32))])) _
    refine XS.goto X.here hx rfl (pc0 := 143) (pc' := 147) rfl (hb hby at_143) (by decide) (by decide) ?_
    show Steps p.tables e below (T.setTop (mkF m 147 #[.val (.int mk), .val (.long q1), .second, .val (.long q2), .second, .val (.long q3), .second, .val (.int rt), .val (.long q5), .second, .val (.long (own_pick mk 1 q1)), .second, .val (.long (own_pick mk 2 q2)), .second, .val (.long (own_pick mk 4 q3)), .second, .val (.int (own_r rt)), .val (.double (own_avg mk (own_r rt))), .second, .val (.long (own_pick mk 16 q5)), .second, .val nm, .val (.ref a), .unset] [(.int (1 : Int32))])) _
    refine XS.istore X.here hx rfl (hb hby at_147) rfl (l' := #[.val (.int mk), .val (.long q1), .second, .val (.long q2), .second, .val (.long q3), .second, .val (.int rt), .val (.long q5), .second, .val (.long (own_pick mk 1 q1)), .second, .val (.long (own_pick mk 2 q2)), .second, .val (.long (own_pick mk 4 q3)), .second, .val (.int (own_r rt)), .val (.double (own_avg mk (own_r rt))), .second, .val (.long (own_pick mk 16 q5)), .second, .val nm, .val (.ref a), .val (.int (1 : Int32))]) rfl ?_
    show Steps p.tables e below (T.setTop (mkF m 149 #[.val (.int mk), .val (.long q1), .second, .val (.long q2), .second, .val (.long q3), .second, .val (.int rt), .val (.long q5), .second, .val (.long (own_pick mk 1 q1)), .second, .val (.long (own_pick mk 2 q2)), .second, .val (.long (own_pick mk 4 q3)), .second, .val (.int (own_r rt)), .val (.double (own_avg mk (own_r rt))), .second, .val (.long (own_pick mk 16 q5)), .second, .val nm, .val (.ref a), .val (.int (1 : Int32))] [])) _
    exact k
  · rw [show own_exp mk = 0 from if_neg hc] at k
    show Steps p.tables e below (T.setTop (mkF m 135 #[.val (.int mk), .val (.long q1), .second, .val (.long q2), .second, .val (.long q3), .second, .val (.int rt), .val (.long q5), .second, .val (.long (own_pick mk 1 q1)), .second, .val (.long (own_pick mk 2 q2)), .second, .val (.long (own_pick mk 4 q3)), .second, .val (.int (own_r rt)), .val (.double (own_avg mk (own_r rt))), .second, .val (.long (own_pick mk 16 q5)), .second, .val nm, .val (.ref a), .unset] [])) _
    refine XS.iloadN X.here hx rfl (hb hby at_135) rfl ?_
    show Steps p.tables e below (T.setTop (mkF m 136 #[.val (.int mk), .val (.long q1), .second, .val (.long q2), .second, .val (.long q3), .second, .val (.int rt), .val (.long q5), .second, .val (.long (own_pick mk 1 q1)), .second, .val (.long (own_pick mk 2 q2)), .second, .val (.long (own_pick mk 4 q3)), .second, .val (.int (own_r rt)), .val (.double (own_avg mk (own_r rt))), .second, .val (.long (own_pick mk 16 q5)), .second, .val nm, .val (.ref a), .unset] [(.int mk)])) _
    refine XS.bipush X.here hx rfl (hb hby at_136) ?_
    show Steps p.tables e below (T.setTop (mkF m 138 #[.val (.int mk), .val (.long q1), .second, .val (.long q2), .second, .val (.long q3), .second, .val (.int rt), .val (.long q5), .second, .val (.long (own_pick mk 1 q1)), .second, .val (.long (own_pick mk 2 q2)), .second, .val (.long (own_pick mk 4 q3)), .second, .val (.int (own_r rt)), .val (.double (own_avg mk (own_r rt))), .second, .val (.long (own_pick mk 16 q5)), .second, .val nm, .val (.ref a), .unset] [(.int (31 : Int32)), (.int mk)])) _
    refine XS.iand X.here hx rfl (hb hby at_138) rfl ?_
    show Steps p.tables e below (T.setTop (mkF m 139 #[.val (.int mk), .val (.long q1), .second, .val (.long q2), .second, .val (.long q3), .second, .val (.int rt), .val (.long q5), .second, .val (.long (own_pick mk 1 q1)), .second, .val (.long (own_pick mk 2 q2)), .second, .val (.long (own_pick mk 4 q3)), .second, .val (.int (own_r rt)), .val (.double (own_avg mk (own_r rt))), .second, .val (.long (own_pick mk 16 q5)), .second, .val nm, .val (.ref a), .unset] [(.int (mk &&& (31 : Int32)))])) _
    refine XS.ifYes X.here hx rfl (pc0 := 139) (pc' := 146) rfl (hb hby at_139) rfl ((if0 _ _).trans (feq hc).2) (by decide) (by decide) ?_
    show Steps p.tables e below (T.setTop (mkF m 146 #[.val (.int mk), .val (.long q1), .second, .val (.long q2), .second, .val (.long q3), .second, .val (.int rt), .val (.long q5), .second, .val (.long (own_pick mk 1 q1)), .second, .val (.long (own_pick mk 2 q2)), .second, .val (.long (own_pick mk 4 q3)), .second, .val (.int (own_r rt)), .val (.double (own_avg mk (own_r rt))), .second, .val (.long (own_pick mk 16 q5)), .second, .val nm, .val (.ref a), .unset] [])) _
    refine XS.iconst X.here hx rfl (hb hby at_146) ?_
    show Steps p.tables e below (T.setTop (mkF m 147 #[.val (.int mk), .val (.long q1), .second, .val (.long q2), .second, .val (.long q3), .second, .val (.int rt), .val (.long q5), .second, .val (.long (own_pick mk 1 q1)), .second, .val (.long (own_pick mk 2 q2)), .second, .val (.long (own_pick mk 4 q3)), .second, .val (.int (own_r rt)), .val (.double (own_avg mk (own_r rt))), .second, .val (.long (own_pick mk 16 q5)), .second, .val nm, .val (.ref a), .unset] [(.int (0 : Int32))])) _
    refine XS.istore X.here hx rfl (hb hby at_147) rfl (l' := #[.val (.int mk), .val (.long q1), .second, .val (.long q2), .second, .val (.long q3), .second, .val (.int rt), .val (.long q5), .second, .val (.long (own_pick mk 1 q1)), .second, .val (.long (own_pick mk 2 q2)), .second, .val (.long (own_pick mk 4 q3)), .second, .val (.int (own_r rt)), .val (.double (own_avg mk (own_r rt))), .second, .val (.long (own_pick mk 16 q5)), .second, .val nm, .val (.ref a), .val (.int (0 : Int32))]) rfl ?_
    show Steps p.tables e below (T.setTop (mkF m 149 #[.val (.int mk), .val (.long q1), .second, .val (.long q2), .second, .val (.long q3), .second, .val (.int rt), .val (.long q5), .second, .val (.long (own_pick mk 1 q1)), .second, .val (.long (own_pick mk 2 q2)), .second, .val (.long (own_pick mk 4 q3)), .second, .val (.int (own_r rt)), .val (.double (own_avg mk (own_r rt))), .second, .val (.long (own_pick mk 16 q5)), .second, .val nm, .val (.ref a), .val (.int (0 : Int32))] [])) _
    exact k
end Pieces
/-! ## 8. The law whole -/
set_option maxRecDepth 65536 in
set_option maxHeartbeats 40000000 in
theorem rm0 (l : Launch) (Z : State) (a0 : Array Value) (hw : ∀ d ∈ tables_1, d.before a0 Z = true) (ws : List Jvm.Cond) (mk : Int32) (q1 q2 q3 : Int64) (rt : Int32) (q5 : Int64) (h0 : Heap) (n0 : Nat) (Z0 : n0 ≤ h0.size) :
    MetFree l x (head1 (Jvm.Cond.code x code maxLocals ret :: ws) room_1) (fun a U => a = #[(.int mk), (.long q1), (.long q2), (.long q3), (.int rt), (.long q5)] ∧ Z.Warmed39 U.vm ∧ U.heap = h0) (fun _ _ _ _ _ => True) (fun _ U o U' => ∃ v L, o = .returned v ∧ (v = some (.int 1) ∧ Fr n0 L) ∧ ReturnedEndW U o U' L 3 14) := by
  refine MetFree.of_bodySF (plainFor_of_name pn_law) hisR ?_
  intro p e s m args below meth c s₁ Bd hml0 hP hK
  obtain ⟨rfl, hZ, hh⟩ := hP
  have hx := Bd.exec
  have hby := Bd.bytes
  have hml : c.maxLocals = 24 := hml0
  have hown : s.vm.findClass "com/example/overload_control/overloadcontrol/ResourceStatsIdlePinLaw" = some m.cls := findClass_of_methodNamed Bd.named
  have hnm := (name_of_methodNamed Bd.named Bd.method).1
  have X0 : Stand p l e room_1 s m #[(.int mk), (.long q1), (.long q2), (.long q3), (.int rt), (.long q5)] below meth c s₁ [] 0 0 := Stand.of_body Bd
  have e0 : s₁.heap = h0 := by rw [← hh, Bd.state]; rfl
  have pre0 : ∀ t, Steps p.tables e below (s₁.setTop (mkF m 0 #[.val (.int mk), .val (.long q1), .second, .val (.long q2), .second, .val (.long q3), .second, .val (.int rt), .val (.long q5), .second, .unset, .unset, .unset, .unset, .unset, .unset, .unset, .unset, .unset, .unset, .unset, .unset, .unset, .unset] [])) t → Steps p.tables e below (s₁.setTop (entryFrame m #[(.int mk), (.long q1), (.long q2), (.long q3), (.int rt), (.long q5)] maxLocals)) t := fun t k => castTop (ef_0 m mk q1 q2 q3 rt q5) k
  obtain ⟨T1, X1, e1, st1⟩ := segA X0 hx hZ hw hml hby hown e0 mk q1 q2 q3 rt q5
  obtain ⟨T2, X2, e2, st2⟩ := segB X1 hx hZ hw hml hby hown e1 mk q1 q2 q3 rt q5
  obtain ⟨T3, X3, e3, st3⟩ := segC X2 hx hZ hw hml hby hown e2 mk q1 q2 q3 rt q5
  obtain ⟨T4, X4, e4, st4⟩ := segD X3 hx hZ hw hml hby hown e3 mk q1 q2 q3 rt q5
  obtain ⟨T5, X5, e5, st5⟩ := segE X4 hx hZ hw hml hby hown e4 mk q1 q2 q3 rt q5
  obtain ⟨T6, X6, e6, st6⟩ := segF X5 hx hZ hw hml hby hown e5 mk q1 q2 q3 rt q5
  obtain ⟨nm, T7, vm0, h7, k0, X7, e7, E7, hS7, hk7, hZ7, hown7, hn7, st7⟩ := segG X6 hx hZ hw hml hby hown e6 mk q1 q2 q3 rt q5
  obtain ⟨T8, a, L8, X8, N8, z8, E8, F1, F2, F3, F4, F5, st8⟩ := segH X7 hx hZ7 hw hml hby hown7 e7 mk q1 q2 q3 rt q5 nm hn7 n0 (Nat.le_trans Z0 E7.1)
  have st9 := segI X8 hx hby mk q1 q2 q3 rt q5 nm a
  obtain ⟨cq, kq, qa, qb, qc⟩ := isOf hZ7 rfl E8
  obtain ⟨_, _, ⟨T10, L10, k10, n10⟩, -, X10, ⟨Lc10, hQ10, l10, y10, z10⟩, st10⟩ := X8.virtualBack hx (y := (⟨"com/example/overload_control/overloadcontrol/ResourceStats", "idle", "()Z"⟩ : MethodName)) (z := (⟨"com/example/overload_control/overloadcontrol/ResourceStats", "idle", "()Z"⟩ : MethodName)) hown7 (mvT hZ7 (hw _ (List.mem_of_getElem? (i := 34) rfl))) (mvT hZ7 (hw _ (List.mem_of_getElem? (i := 35) rfl))) (notFace_of_selects (args := #[]) (mvT hZ7 (hw _ (List.mem_of_getElem? (i := 37) rfl)))) (mvT hZ7 (hw _ (List.mem_of_getElem? (i := 37) rfl))) (mvT hZ7 (hw _ (List.mem_of_getElem? (i := 36) rfl))) (by decide) (backOf (W := 0) (rm4 l Z a0 hw [] a (own_pick mk 1 q1) (own_pick mk 2 q2) (own_pick mk 4 q3) (own_avg mk (own_r rt)) (own_pick mk 16 q5) T8.heap F1 F2 F3 F4 F5) hZ7 (hw _ (List.mem_of_getElem? (i := 38) rfl)) (hw _ (List.mem_of_getElem? (i := 10) rfl)) (by decide) (by decide)) qa qc (g := (mkF m 151 #[.val (.int mk), .val (.long q1), .second, .val (.long q2), .second, .val (.long q3), .second, .val (.int rt), .val (.long q5), .second, .val (.long (own_pick mk 1 q1)), .second, .val (.long (own_pick mk 2 q2)), .second, .val (.long (own_pick mk 4 q3)), .second, .val (.int (own_r rt)), .val (.double (own_avg mk (own_r rt))), .second, .val (.long (own_pick mk 16 q5)), .second, .val nm, .val (.ref a), .val (.int (own_exp mk))] [(.ref a)])) rfl (by rw [hml]; rfl) (Steps.refl _) (argsL := []) (rest := []) (lenOf pd_z rfl) rfl (by show 2 * 0 + _ ≤ _; exact Nat.le_of_eq rfl) (hb hby at_151) (fun _ _ => ⟨rfl, rfl, (by decide : 3 + 0 ≤ _), (by decide : 14 + 0 ≤ _)⟩)
  dsimp only [Pt.U, Pt.locs, Pt.cells, Pt.slots] at X10 l10 y10 z10 st10 hQ10
  subst l10 y10 z10
  obtain ⟨rfl, rfl, e10⟩ := hQ10
  have hk10 : k0 ≤ T10.heap.size := by rw [e10]; exact Nat.le_trans hk7 z8
  have hlw := own_law mk q1 q2 q3 rt q5
  obtain ⟨fs, hr, hrun, hended, hRE⟩ := X10.leaveW (s := s) hS7 hk10 (v := some (.int (1 : Int32))) (fun h => by rw [Bd.returns] at h; cases h)
  refine ⟨_, _, pre0 _ (st1 _ (st2 _ (st3 _ (st4 _ (st5 _ (st6 _ (st7 _ (st8 _ (st9 _ ?_))))))))), hrun, hended, _, _, rfl, ⟨rfl, Fr.app N8 (Fr.nil n0)⟩, hRE⟩
  show Steps p.tables e below (T8.setTop (mkF m 149 #[.val (.int mk), .val (.long q1), .second, .val (.long q2), .second, .val (.long q3), .second, .val (.int rt), .val (.long q5), .second, .val (.long (own_pick mk 1 q1)), .second, .val (.long (own_pick mk 2 q2)), .second, .val (.long (own_pick mk 4 q3)), .second, .val (.int (own_r rt)), .val (.double (own_avg mk (own_r rt))), .second, .val (.long (own_pick mk 16 q5)), .second, .val nm, .val (.ref a), .val (.int (own_exp mk))] [])) _
  refine XS.aload X8.here hx rfl (hb hby at_149) rfl rfl ?_
  show Steps p.tables e below (T8.setTop (mkF m 151 #[.val (.int mk), .val (.long q1), .second, .val (.long q2), .second, .val (.long q3), .second, .val (.int rt), .val (.long q5), .second, .val (.long (own_pick mk 1 q1)), .second, .val (.long (own_pick mk 2 q2)), .second, .val (.long (own_pick mk 4 q3)), .second, .val (.int (own_r rt)), .val (.double (own_avg mk (own_r rt))), .second, .val (.long (own_pick mk 16 q5)), .second, .val nm, .val (.ref a), .val (.int (own_exp mk))] [(.ref a)])) _
  refine st10.trans ?_
  show Steps p.tables e below (T10.setTop (mkF m 154 #[.val (.int mk), .val (.long q1), .second, .val (.long q2), .second, .val (.long q3), .second, .val (.int rt), .val (.long q5), .second, .val (.long (own_pick mk 1 q1)), .second, .val (.long (own_pick mk 2 q2)), .second, .val (.long (own_pick mk 4 q3)), .second, .val (.int (own_r rt)), .val (.double (own_avg mk (own_r rt))), .second, .val (.long (own_pick mk 16 q5)), .second, .val nm, .val (.ref a), .val (.int (own_exp mk))] [(.int (own_idle (own_pick mk 1 q1) (own_pick mk 2 q2) (own_pick mk 4 q3) (own_avg mk (own_r rt)) (own_pick mk 16 q5)))])) _
  refine XS.iload X10.here hx rfl (hb hby at_154) rfl ?_
  show Steps p.tables e below (T10.setTop (mkF m 156 #[.val (.int mk), .val (.long q1), .second, .val (.long q2), .second, .val (.long q3), .second, .val (.int rt), .val (.long q5), .second, .val (.long (own_pick mk 1 q1)), .second, .val (.long (own_pick mk 2 q2)), .second, .val (.long (own_pick mk 4 q3)), .second, .val (.int (own_r rt)), .val (.double (own_avg mk (own_r rt))), .second, .val (.long (own_pick mk 16 q5)), .second, .val nm, .val (.ref a), .val (.int (own_exp mk))] [(.int (own_exp mk)), (.int (own_idle (own_pick mk 1 q1) (own_pick mk 2 q2) (own_pick mk 4 q3) (own_avg mk (own_r rt)) (own_pick mk 16 q5)))])) _
  refine XS.icmpNo X10.here hx rfl (hb hby at_156) rfl (teq hlw).2 ?_
  show Steps p.tables e below (T10.setTop (mkF m 159 #[.val (.int mk), .val (.long q1), .second, .val (.long q2), .second, .val (.long q3), .second, .val (.int rt), .val (.long q5), .second, .val (.long (own_pick mk 1 q1)), .second, .val (.long (own_pick mk 2 q2)), .second, .val (.long (own_pick mk 4 q3)), .second, .val (.int (own_r rt)), .val (.double (own_avg mk (own_r rt))), .second, .val (.long (own_pick mk 16 q5)), .second, .val nm, .val (.ref a), .val (.int (own_exp mk))] [])) _
  refine XS.iconst X10.here hx rfl (hb hby at_159) ?_
  show Steps p.tables e below (T10.setTop (mkF m 160 #[.val (.int mk), .val (.long q1), .second, .val (.long q2), .second, .val (.long q3), .second, .val (.int rt), .val (.long q5), .second, .val (.long (own_pick mk 1 q1)), .second, .val (.long (own_pick mk 2 q2)), .second, .val (.long (own_pick mk 4 q3)), .second, .val (.int (own_r rt)), .val (.double (own_avg mk (own_r rt))), .second, .val (.long (own_pick mk 16 q5)), .second, .val nm, .val (.ref a), .val (.int (own_exp mk))] [(.int (1 : Int32))])) _
  refine XS.goto X10.here hx rfl (pc0 := 160) (pc' := 164) rfl (hb hby at_160) (by decide) (by decide) ?_
  show Steps p.tables e below (T10.setTop (mkF m 164 #[.val (.int mk), .val (.long q1), .second, .val (.long q2), .second, .val (.long q3), .second, .val (.int rt), .val (.long q5), .second, .val (.long (own_pick mk 1 q1)), .second, .val (.long (own_pick mk 2 q2)), .second, .val (.long (own_pick mk 4 q3)), .second, .val (.int (own_r rt)), .val (.double (own_avg mk (own_r rt))), .second, .val (.long (own_pick mk 16 q5)), .second, .val nm, .val (.ref a), .val (.int (own_exp mk))] [(.int (1 : Int32))])) _
  exact retN X10 hx (t := .boolean) Bd.returns (by simp) (hb hby at_164) hr
set_option maxRecDepth 65536 in
set_option maxHeartbeats 40000000 in
theorem comes_1 {Post : Tables → Env → Array Value → State → Outcome → State → Prop} (hpost : ∀ tb e args s v u, (limb_1_1.after args s (.returned v) u = true ∧ limb_1_2.after args s (.returned v) u = true ∧ True) → ReturnedEndW s (.returned v) u (Jvm.fieldLocs frame_1_writes args s ++ Jvm.arrayLocs frame_1_arrays args s ++ Jvm.staticLocs frame_1_statics s) 16 1152 → Post tb e args s (.returned v) u) :
    ArmFor flags0 classFile x code maxLocals ret World_1 tables_1 room_1 Calls_1 rest_1 Pre_1 Post := by
  intro l hfl _ _ p e ha hc hk s m args below hf hA hF happ hP
  obtain ⟨hcalls, hrest, hpre⟩ := hP
  obtain ⟨-, -, -, hnamed, -, -, -, hat⟩ := (Spec.applies_iff hf).mp happ
  obtain ⟨hg, hn⟩ := and_e (Cond.before_iff.mp (show (Jvm.Cond.and given_1 narrow_1).before args s = true from hpre))
  obtain ⟨h1, h2⟩ := and_e hg
  obtain ⟨i0, h3⟩ := and_e h2
  obtain ⟨i1, h4⟩ := and_e h3
  obtain ⟨i2, h5⟩ := and_e h4
  obtain ⟨i3, h6⟩ := and_e h5
  obtain ⟨i4, i5⟩ := and_e h6
  obtain ⟨w0, w1, w2, w3, w4, w5, rfl⟩ : ∃ w0 w1 w2 w3 w4 w5 : Value, args = #[w0, w1, w2, w3, w4, w5] := by
    have hs : args.size = 6 := by simpa [Cond.value, given_1] using h1
    obtain ⟨L⟩ := args
    match L, hs with
    | [w0, w1, w2, w3, w4, w5], _ => exact ⟨w0, w1, w2, w3, w4, w5, rfl⟩
  have hw := fun d (hd : d ∈ tables_1) => atoms_spec (ws := Jvm.Cond.code x code maxLocals ret :: tables_1) hat d (List.mem_cons_of_mem _ hd)
  obtain ⟨v0, e0⟩ := is_v i0
  obtain rfl : w0 = (.int v0) := Option.some.inj e0
  obtain ⟨v1, e1⟩ := isL_v i1
  obtain rfl : w1 = (.long v1) := Option.some.inj e1
  obtain ⟨v2, e2⟩ := isL_v i2
  obtain rfl : w2 = (.long v2) := Option.some.inj e2
  obtain ⟨v3, e3⟩ := isL_v i3
  obtain rfl : w3 = (.long v3) := Option.some.inj e3
  obtain ⟨v4, e4⟩ := is_v i4
  obtain rfl : w4 = (.int v4) := Option.some.inj e4
  obtain ⟨v5, e5⟩ := isL_v i5
  obtain rfl : w5 = (.long v5) := Option.some.inj e5
  obtain ⟨n, o, h1, h2, h3, _, L, rfl, ⟨rfl, N⟩, hq⟩ := rm0 l s _ hw tables_1 v0 v1 v2 v3 v4 v5 s.heap s.heap.size (Nat.le_refl _) p e ha hc hk s m _ below hf ((Spec.applies_iff_loose hf).mp happ).1 ⟨rfl, State.Warmed39.refl s, rfl⟩ trivial
  refine ⟨n, _, h1, h2, h3, hpost _ _ _ _ _ _ ⟨Cond.after_iff.mpr rfl, Cond.after_iff.mpr (eq_i res_at (Term.int_eval (1)) rfl), trivial⟩ ⟨hq.1, hq.2.1, hq.2.2.1, (hq.2.2.2.sift fun y hy => Or.inr (N y hy)).mono (by decide) (by decide)⟩⟩
theorem main_1_1 : Claimed_1_1 := comes_1 fun _ _ _ _ _ _ h hF => ⟨h.1, hF⟩
theorem main_1_2 : Claimed_1_2 := comes_1 fun _ _ _ _ _ _ h hF => ⟨h.2.1, hF⟩
end Jvm.Pilot.@@N@@
namespace Jvm.Pilot.@@N@@
open Jvm Jvm.ClassFile Sem Op Lib Jvm.Free Jvm.Stand Jvm.Pilot.@@N@@.Jvm.D
/-! MADE BY PROGRAM (witnessworld.py) out of the Statement's table words and the real class files: 15 classes; the members and pool entries that the words name. The judged class is class 1, her method 2. -/
namespace start1
open Jvm.ClassFile
def u (s : String) : CpInfo := .utf8 (stringToUtf16 s)
/-- a pool by its gaps: so many unusable entries, then the entry; so many at the end -/
def gap : Nat → List CpInfo → List CpInfo
  | 0, r => r
  | n + 1, r => .unusable :: gap n r
def poolList (es : List (Nat × CpInfo)) (last : Nat) : List CpInfo := es.foldr (fun e r => gap e.1 (e.2 :: r)) (gap last [])
def pool (es : List (Nat × CpInfo)) (last : Nat) : Array CpInfo := ⟨poolList es last⟩
def fileOf (pool : Array CpInfo) (this : Nat) (attrs : Array Attribute := #[]) (ms : Array MethodInfo := #[]) (fl : Nat := 33) (sup : Nat := 0) (ifs : Array Nat := #[]) (fds : Array FieldInfo := #[]) : ClassFile where
  minorVersion := 0
  majorVersion := 65
  constantPool := pool
  accessFlags := fl
  thisClass := this
  superClass := sup
  interfaces := ifs
  fields := fds
  methods := ms
  attributes := attrs
def plain (name : String) (sup : Option ClassId) : Class where
  name := name
  kind := .ordinary
  loader := none
  accessFlags := 33
  super := sup
  interfaces := #[]
  cf := none
  fields := #[]
  methods := #[]
  instanceTypes := #[]
  staticTypes := #[]
  resolved := #[]
  callSites := []
  init := .initialized
  statics := none
  mirror := none

def pool0 : Array CpInfo := pool [(5, u "<init>"), (0, u "()V"), (1, .class_ 10), (1, u "java/lang/Object")] 113

def k0c0 : Code := { maxStack := 0, maxLocals := 1, code := object_method_1_code, exceptionTable := #[], attributes := #[] }
def k0m0 : Method := { name := "<init>", desc := "()V", sig := { parameters := [], returnType := none }, accessFlags := 1, code := some k0c0 }
/-- java/lang/Object -/
def k0 : Class := { plain "java/lang/Object" none with
  accessFlags := 33
  interfaces := #[]
  cf := some (fileOf pool0 8 #[] #[{ accessFlags := 1, nameIndex := 5, descriptorIndex := 6, attributes := #[] }] 33 0 #[] #[])
  fields := #[]
  methods := #[k0m0]
  instanceTypes := #[]
  staticTypes := #[]
  resolved := Array.replicate 124 none
  statics := none }

def pool1 : Array CpInfo := pool [(2, .class_ 4), (1, u "java/lang/Object"), (0, u "<init>"), (0, u "()V"), (0, .methodref 8 9), (0, .class_ 10), (0, .nameAndType 11 12), (0, u "com/example/overload_control/overloadcontrol/ResourceStatsIdlePinLaw"), (0, u "nz"), (0, u "(J)J"), (0, .string 14), (0, u "r"), (0, .class_ 16), (0, u "com/example/overload_control/overloadcontrol/ResourceStats"), (0, .methodref 15 18), (0, .nameAndType 5 19), (0, u "(Ljava/lang/String;JJJDJ)V"), (0, .methodref 15 21), (0, .nameAndType 22 23), (0, u "idle"), (0, u "()Z"), (3, u "law"), (0, u "(IJJJIJ)Z")] 4

def k1m0 : Method := { name := "<init>", desc := "()V", sig := { parameters := [], returnType := none }, accessFlags := 1, code := none }
def k1c1 : Code := { maxStack := 4, maxLocals := 2, code := method_2_code, exceptionTable := #[], attributes := #[] }
def k1m1 : Method := { name := "nz", desc := "(J)J", sig := { parameters := [.long], returnType := some .long }, accessFlags := 10, code := some k1c1 }
def k1c2 : Code := { maxStack := 13, maxLocals := 24, code := code, exceptionTable := #[], attributes := #[] }
def k1m2 : Method := { name := "law", desc := "(IJJJIJ)Z", sig := { parameters := [.int, .long, .long, .long, .int, .long], returnType := some .boolean }, accessFlags := 9, code := some k1c2 }
/-- com/example/overload_control/overloadcontrol/ResourceStatsIdlePinLaw -/
def k1 : Class := { plain "com/example/overload_control/overloadcontrol/ResourceStatsIdlePinLaw" (some 0) with
  accessFlags := 49
  interfaces := #[]
  cf := some (fileOf pool1 8 #[] #[{ accessFlags := 1, nameIndex := 5, descriptorIndex := 6, attributes := #[] }, { accessFlags := 10, nameIndex := 11, descriptorIndex := 12, attributes := #[] }, { accessFlags := 9, nameIndex := 27, descriptorIndex := 28, attributes := #[] }] 49 2 #[] #[])
  fields := #[]
  methods := #[k1m0, k1m1, k1m2]
  instanceTypes := #[]
  staticTypes := #[]
  resolved := Array.replicate 33 none
  statics := none }

def pool2 : Array CpInfo := pool [(1, .class_ 2), (0, u "java/io/Serializable"), (0, .class_ 4), (0, u "java/lang/Object")] 2

/-- java/io/Serializable -/
def k2 : Class := { plain "java/io/Serializable" (some 0) with
  accessFlags := 1537
  interfaces := #[]
  cf := some (fileOf pool2 1 #[] #[] 1537 3 #[] #[])
  fields := #[]
  methods := #[]
  instanceTypes := #[]
  staticTypes := #[]
  resolved := Array.replicate 7 none
  statics := none }

def pool3 : Array CpInfo := pool [(1, .class_ 2), (0, u "java/lang/Comparable"), (0, .class_ 4), (0, u "java/lang/Object")] 7

/-- java/lang/Comparable -/
def k3 : Class := { plain "java/lang/Comparable" (some 0) with
  accessFlags := 1537
  interfaces := #[]
  cf := some (fileOf pool3 1 #[] #[] 1537 3 #[] #[])
  fields := #[]
  methods := #[]
  instanceTypes := #[]
  staticTypes := #[]
  resolved := Array.replicate 12 none
  statics := none }

def pool4 : Array CpInfo := pool [(2, .class_ 4), (1, u "java/lang/CharSequence"), (42, .class_ 48), (0, u "java/lang/CharSequence$1CodePointIterator"), (10, .class_ 60), (0, u "java/lang/CharSequence$1CharIterator"), (5, .class_ 67), (0, u "java/lang/Object")] 63

/-- java/lang/CharSequence -/
def k4 : Class := { plain "java/lang/CharSequence" (some 0) with
  accessFlags := 1537
  interfaces := #[]
  cf := some (fileOf pool4 2 #[.nestMembers #[47, 59]] #[] 1537 66 #[] #[])
  fields := #[]
  methods := #[]
  instanceTypes := #[]
  staticTypes := #[]
  resolved := Array.replicate 131 none
  statics := none }

def pool5 : Array CpInfo := pool [(1, .class_ 2), (0, u "java/lang/constant/Constable"), (0, .class_ 4), (0, u "java/lang/Object")] 6

/-- java/lang/constant/Constable -/
def k5 : Class := { plain "java/lang/constant/Constable" (some 0) with
  accessFlags := 1537
  interfaces := #[]
  cf := some (fileOf pool5 1 #[] #[] 1537 3 #[] #[])
  fields := #[]
  methods := #[]
  instanceTypes := #[]
  staticTypes := #[]
  resolved := Array.replicate 11 none
  statics := none }

def pool6 : Array CpInfo := pool [(1, .class_ 2), (0, u "java/lang/constant/ConstantDesc"), (0, .class_ 4), (0, u "java/lang/Object")] 32

/-- java/lang/constant/ConstantDesc -/
def k6 : Class := { plain "java/lang/constant/ConstantDesc" (some 0) with
  accessFlags := 1537
  interfaces := #[]
  cf := some (fileOf pool6 1 #[] #[] 1537 3 #[] #[])
  fields := #[]
  methods := #[]
  instanceTypes := #[]
  staticTypes := #[]
  resolved := Array.replicate 37 none
  statics := none }

def pool7 : Array CpInfo := pool [(2, .class_ 4), (1, u "java/lang/Object"), (0, u "<init>"), (0, u "()V"), (3, .class_ 12), (1, u "java/lang/String"), (0, u "value"), (0, u "[B"), (2, u "coder"), (0, u "B"), (2, u "hash"), (0, u "I"), (2, u "hashIsZero"), (0, u "Z"), (13, u "COMPACT_STRINGS"), (534, .class_ 576), (0, u "java/lang/CharSequence"), (22, u "CASE_INSENSITIVE_ORDER"), (0, u "Ljava/util/Comparator;"), (500, u "serialPersistentFields"), (0, u "[Ljava/io/ObjectStreamField;"), (0, .class_ 1104), (0, u "java/lang/String$CaseInsensitiveComparator"), (1, .class_ 1107), (0, u "java/io/Serializable"), (0, .class_ 1109), (0, u "java/lang/Comparable"), (0, .class_ 1111), (0, u "java/lang/constant/Constable"), (0, .class_ 1113), (0, u "java/lang/constant/ConstantDesc"), (2, u "serialVersionUID"), (0, u "J"), (3, u "REPL"), (0, u "C"), (2, u "LATIN1"), (1, u "UTF16")] 323

def k7m0 : Method := { name := "<init>", desc := "()V", sig := { parameters := [], returnType := none }, accessFlags := 1, code := none }
/-- java/lang/String -/
def k7 : Class := { plain "java/lang/String" (some 0) with
  accessFlags := 49
  interfaces := #[2, 3, 4, 5, 6]
  cf := some (fileOf pool7 10 #[.nestMembers #[1103]] #[{ accessFlags := 1, nameIndex := 5, descriptorIndex := 6, attributes := #[] }] 49 2 #[1106, 1108, 575, 1110, 1112] #[{ accessFlags := 18, nameIndex := 13, descriptorIndex := 14, attributes := #[] }, { accessFlags := 18, nameIndex := 17, descriptorIndex := 18, attributes := #[] }, { accessFlags := 2, nameIndex := 21, descriptorIndex := 22, attributes := #[] }, { accessFlags := 2, nameIndex := 25, descriptorIndex := 26, attributes := #[] }, { accessFlags := 26, nameIndex := 1116, descriptorIndex := 1117, attributes := #[] }, { accessFlags := 24, nameIndex := 40, descriptorIndex := 26, attributes := #[] }, { accessFlags := 26, nameIndex := 1101, descriptorIndex := 1102, attributes := #[] }, { accessFlags := 26, nameIndex := 1121, descriptorIndex := 1122, attributes := #[] }, { accessFlags := 25, nameIndex := 599, descriptorIndex := 600, attributes := #[] }, { accessFlags := 24, nameIndex := 1125, descriptorIndex := 18, attributes := #[] }, { accessFlags := 24, nameIndex := 1127, descriptorIndex := 18, attributes := #[] }])
  fields := #[{ name := "value", type := (.array .byte), accessFlags := 18, slot := 0, constantValue := 0 }, { name := "coder", type := .byte, accessFlags := 18, slot := 1, constantValue := 0 }, { name := "hash", type := .int, accessFlags := 2, slot := 2, constantValue := 0 }, { name := "hashIsZero", type := .boolean, accessFlags := 2, slot := 3, constantValue := 0 }, { name := "serialVersionUID", type := .long, accessFlags := 26, slot := 0, constantValue := 0 }, { name := "COMPACT_STRINGS", type := .boolean, accessFlags := 24, slot := 1, constantValue := 0 }, { name := "serialPersistentFields", type := (.array (.object "java/io/ObjectStreamField")), accessFlags := 26, slot := 2, constantValue := 0 }, { name := "REPL", type := .char, accessFlags := 26, slot := 3, constantValue := 0 }, { name := "CASE_INSENSITIVE_ORDER", type := (.object "java/util/Comparator"), accessFlags := 25, slot := 4, constantValue := 0 }, { name := "LATIN1", type := .byte, accessFlags := 24, slot := 5, constantValue := 0 }, { name := "UTF16", type := .byte, accessFlags := 24, slot := 6, constantValue := 0 }]
  methods := #[k7m0]
  instanceTypes := #[(.array .byte), .byte, .int, .boolean]
  staticTypes := #[.long, .boolean, (.array (.object "java/io/ObjectStreamField")), .char, (.object "java/util/Comparator"), .byte, .byte]
  resolved := Array.replicate 1451 none
  statics := none }

def pool8 : Array CpInfo := pool [(1, .methodref 2 3), (0, .class_ 4), (0, .nameAndType 5 6), (0, u "java/lang/Object"), (0, u "<init>"), (0, u "()V"), (0, .class_ 8), (0, u "java/lang/Record")] 13

def k8c0 : Code := { maxStack := 1, maxLocals := 1, code := jdk_30_method_1_code, exceptionTable := #[], attributes := #[] }
def k8m0 : Method := { name := "<init>", desc := "()V", sig := { parameters := [], returnType := none }, accessFlags := 4, code := some k8c0 }
/-- java/lang/Record -/
def k8 : Class := { plain "java/lang/Record" (some 0) with
  accessFlags := 1057
  interfaces := #[]
  cf := some (fileOf pool8 7 #[] #[{ accessFlags := 4, nameIndex := 5, descriptorIndex := 6, attributes := #[] }] 1057 2 #[] #[])
  fields := #[]
  methods := #[k8m0]
  instanceTypes := #[]
  staticTypes := #[]
  resolved := Array.replicate 22 none
  statics := none }

def pool9 : Array CpInfo := pool [(1, .methodref 2 3), (0, .class_ 4), (0, .nameAndType 5 6), (0, u "java/lang/Record"), (0, u "<init>"), (0, u "()V"), (0, .fieldref 8 9), (0, .class_ 10), (0, .nameAndType 11 12), (0, u "com/example/overload_control/overloadcontrol/ResourceStats"), (0, u "resource"), (0, u "Ljava/lang/String;"), (0, .fieldref 8 14), (0, .nameAndType 15 16), (0, u "passed"), (0, u "J"), (0, .fieldref 8 18), (0, .nameAndType 19 16), (0, u "blocked"), (0, .fieldref 8 21), (0, .nameAndType 22 16), (0, u "errors"), (0, .fieldref 8 24), (0, .nameAndType 25 26), (0, u "averageRtMillis"), (0, u "D"), (0, .fieldref 8 28), (0, .nameAndType 29 16), (0, u "inFlight"), (12, u "(Ljava/lang/String;JJJDJ)V"), (3, u "idle"), (0, u "()Z")] 31

def k9c0 : Code := { maxStack := 3, maxLocals := 12, code := prog_61_method_1_code, exceptionTable := #[], attributes := #[] }
def k9m0 : Method := { name := "<init>", desc := "(Ljava/lang/String;JJJDJ)V", sig := { parameters := [(.object "java/lang/String"), .long, .long, .long, .double, .long], returnType := none }, accessFlags := 1, code := some k9c0 }
def k9c1 : Code := { maxStack := 4, maxLocals := 1, code := prog_61_method_2_code, exceptionTable := #[], attributes := #[] }
def k9m1 : Method := { name := "idle", desc := "()Z", sig := { parameters := [], returnType := some .boolean }, accessFlags := 1, code := some k9c1 }
/-- com/example/overload_control/overloadcontrol/ResourceStats -/
def k9 : Class := { plain "com/example/overload_control/overloadcontrol/ResourceStats" (some 8) with
  accessFlags := 49
  interfaces := #[]
  cf := some (fileOf pool9 8 #[] #[{ accessFlags := 1, nameIndex := 5, descriptorIndex := 42, attributes := #[] }, { accessFlags := 1, nameIndex := 46, descriptorIndex := 47, attributes := #[] }] 49 2 #[] #[{ accessFlags := 18, nameIndex := 11, descriptorIndex := 12, attributes := #[] }, { accessFlags := 18, nameIndex := 15, descriptorIndex := 16, attributes := #[] }, { accessFlags := 18, nameIndex := 19, descriptorIndex := 16, attributes := #[] }, { accessFlags := 18, nameIndex := 22, descriptorIndex := 16, attributes := #[] }, { accessFlags := 18, nameIndex := 25, descriptorIndex := 26, attributes := #[] }, { accessFlags := 18, nameIndex := 29, descriptorIndex := 16, attributes := #[] }])
  fields := #[{ name := "resource", type := (.object "java/lang/String"), accessFlags := 18, slot := 0, constantValue := 0 }, { name := "passed", type := .long, accessFlags := 18, slot := 1, constantValue := 0 }, { name := "blocked", type := .long, accessFlags := 18, slot := 2, constantValue := 0 }, { name := "errors", type := .long, accessFlags := 18, slot := 3, constantValue := 0 }, { name := "averageRtMillis", type := .double, accessFlags := 18, slot := 4, constantValue := 0 }, { name := "inFlight", type := .long, accessFlags := 18, slot := 5, constantValue := 0 }]
  methods := #[k9m0, k9m1]
  instanceTypes := #[(.object "java/lang/String"), .long, .long, .long, .double, .long]
  staticTypes := #[]
  resolved := Array.replicate 79 none
  statics := none }

def pool10 : Array CpInfo := pool [(1, u "java/lang/Cloneable"), (0, .class_ 1), (0, u "java/lang/Object"), (0, .class_ 3)] 3

/-- java/lang/Cloneable -/
def k10 : Class := { plain "java/lang/Cloneable" (some 0) with
  accessFlags := 1537
  interfaces := #[]
  cf := some (fileOf pool10 2 #[] #[] 1537 4 #[] #[])
  fields := #[]
  methods := #[]
  instanceTypes := #[]
  staticTypes := #[]
  resolved := Array.replicate 8 none
  statics := none }

/-- the primitive byte -/
def k11 : Class := { plain "byte" none with kind := .primitive 'B', accessFlags := 0x411 }
/-- [B -/
def k12 : Class := { plain "[B" (some 0) with kind := .array 11 .byte, interfaces := #[10, 2], accessFlags := 1041 }

/-- the primitive int -/
def k13 : Class := { plain "int" none with kind := .primitive 'I', accessFlags := 0x411 }
/-- [I -/
def k14 : Class := { plain "[I" (some 0) with kind := .array 13 .int, interfaces := #[10, 2], accessFlags := 1041 }

def heap : Heap := #[]
def classes : Array Class := #[k0, k1, k2, k3, k4, k5, k6, k7, k8, k9, k10, k11, k12, k13, k14]
def interned : List (Array UInt16 × Addr) := []
def slotsUsed : Nat := 0
def theMethod : MethodId := ⟨1, 2⟩
def args0 : Array Value := #[.int 0, .long 2, .long 3, .long 4, .int 5, .long 6]
def aboutOver (below : List Frame) : State where
  vm := { classes := classes, interned := interned.toArray }
  heap := heap
  slotsUsed := slotsUsed
  threads := #[{ frames := .invoking theMethod args0 :: below }]
def below0 : List Frame := [.native { method := ⟨0, 0⟩, args := #[] }]
def about1 : State := aboutOver below0
def p0 : Program := .bare "" "" ""
def e0 : Env := launch0.env 0 0 0
theorem w_frames : about1.frames = Frame.invoking theMethod args0 :: below0 := rfl
set_option maxRecDepth 65536 in
theorem w_args : argsFit about1.vm theMethod args0 = true := by decide +kernel
set_option maxRecDepth 65536 in
theorem w_heap : heapFits about1 = true := by decide +kernel
set_option maxRecDepth 65536 in
theorem w_runnable : about1.curStatus? = some .runnable := by decide +kernel
set_option maxRecDepth 65536 in
theorem w_alone : about1.alone = true := by decide +kernel
set_option maxRecDepth 65536 in
theorem w_named : about1.methodNamed? x = some theMethod := by decide +kernel
set_option maxRecDepth 65536 in
theorem w_hears : about1.hears theMethod below0 = true := by decide +kernel
set_option maxRecDepth 65536 in
theorem w_ripe : about1.ripe theMethod args0 below0 = true := by decide +kernel
theorem w_running : about1.status = .running := rfl
set_option maxRecDepth 65536 in
theorem w_room : about1.hasRoom e0.platform room_1 = true :=
  launch0.hasRoom_least _ room_1 (by decide +kernel) (by decide +kernel) (by decide +kernel) (by decide +kernel) (by decide +kernel) (by decide +kernel)
theorem allAtoms_all (ts : List Jvm.Cond) (a : Array Jvm.Value) (st : Jvm.State) : (allAtoms ts).before a st = ts.all (fun c => c.before a st) := by
  induction ts with
  | nil => rfl
  | cons c t ih =>
    show (Jvm.Cond.and c (allAtoms t)).before a st = _
    rw [Jvm.Cond.before_and, ih, List.all_cons]
def words1 : List Jvm.Cond := Jvm.Cond.code x code maxLocals ret :: tables_1
/-- a 'code' word, met by the world's own term for the bytes: nothing is compared byte by byte -/
theorem code_word {y : MethodName} {bytes : ByteArray} {mx : Nat} {rt : Option FieldType} {a : Array Value} {s : State} {m : MethodId} {meth : Method} {c : Code} (h1 : s.methodNamed? y = some m) (h2 : s.vm.method? m = some meth) (h3 : meth.code = some c) (h4 : c.code = bytes)
    (h5 : (c.maxLocals == mx && c.exceptionTable.isEmpty && decide (c.maxStack ≤ mostOperands) && decide (meth.sig.returnType = rt) && !meth.locks && decide (parseMethodDescriptor y.desc = some meth.sig)) = true) : (Jvm.Cond.code y bytes mx rt).before a s = true := by
  simp only [Bool.and_eq_true, beq_iff_eq, Bool.not_eq_true', decide_eq_true_eq] at h5
  obtain ⟨⟨⟨⟨⟨g1, g2⟩, g3⟩, g4⟩, g5⟩, g6⟩ := h5
  simp [Cond.before, Cond.holds, Cond.value, h1, h2, h3, h4, g1, g2, g3, g4, g5, g6]
def isCode : Jvm.Cond → Bool
  | .code _ _ _ _ => true
  | _ => false
theorem all_split {L : List Jvm.Cond} {P : Jvm.Cond → Bool} (h1 : L.all (fun c => isCode c || P c) = true) (h2 : ∀ c ∈ L.filter isCode, P c = true) : L.all P = true := by
  refine List.all_eq_true.mpr fun c hc => ?_
  have h := List.all_eq_true.mp h1 c hc
  rcases Bool.eq_false_or_eq_true (isCode c) with hi | hi
  · exact h2 c (List.mem_filter.mpr ⟨hc, hi⟩)
  · simpa [hi] using h
set_option maxRecDepth 65536 in
theorem w_c0 : (Jvm.Cond.code x code maxLocals ret).before args0 about1 = true := code_word (m := ⟨1, 2⟩) (meth := k1m2) (c := k1c2) (by decide +kernel) rfl rfl rfl (by decide +kernel)
set_option maxRecDepth 65536 in
theorem w_c1 : (Jvm.Cond.code ({ cls := "com/example/overload_control/overloadcontrol/ResourceStats", name := "<init>", desc := "(Ljava/lang/String;JJJDJ)V" } : Jvm.MethodName) prog_61_method_1_code (12 : Nat) (Option.none : Option Jvm.ClassFile.FieldType)).before args0 about1 = true := code_word (m := ⟨9, 0⟩) (meth := k9m0) (c := k9c0) (by decide +kernel) rfl rfl rfl (by decide +kernel)
set_option maxRecDepth 65536 in
theorem w_c2 : (Jvm.Cond.code ({ cls := "java/lang/Record", name := "<init>", desc := "()V" } : Jvm.MethodName) jdk_30_method_1_code (1 : Nat) (Option.none : Option Jvm.ClassFile.FieldType)).before args0 about1 = true := code_word (m := ⟨8, 0⟩) (meth := k8m0) (c := k8c0) (by decide +kernel) rfl rfl rfl (by decide +kernel)
set_option maxRecDepth 65536 in
theorem w_c3 : (Jvm.Cond.code ({ cls := "java/lang/Object", name := "<init>", desc := "()V" } : Jvm.MethodName) object_method_1_code (1 : Nat) (Option.none : Option Jvm.ClassFile.FieldType)).before args0 about1 = true := code_word (m := ⟨0, 0⟩) (meth := k0m0) (c := k0c0) (by decide +kernel) rfl rfl rfl (by decide +kernel)
set_option maxRecDepth 65536 in
theorem w_c4 : (Jvm.Cond.code ({ cls := "com/example/overload_control/overloadcontrol/ResourceStats", name := "idle", desc := "()Z" } : Jvm.MethodName) prog_61_method_2_code (1 : Nat) (Option.some Jvm.ClassFile.FieldType.boolean)).before args0 about1 = true := code_word (m := ⟨9, 1⟩) (meth := k9m1) (c := k9c1) (by decide +kernel) rfl rfl rfl (by decide +kernel)
set_option maxRecDepth 65536 in
theorem w_c5 : (Jvm.Cond.code ({ cls := "com/example/overload_control/overloadcontrol/ResourceStatsIdlePinLaw", name := "nz", desc := "(J)J" } : Jvm.MethodName) method_2_code (2 : Nat) (Option.some Jvm.ClassFile.FieldType.long)).before args0 about1 = true := code_word (m := ⟨1, 1⟩) (meth := k1m1) (c := k1c1) (by decide +kernel) rfl rfl rfl (by decide +kernel)
def codes1 : List Jvm.Cond := [Jvm.Cond.code x code maxLocals ret, Jvm.Cond.code ({ cls := "com/example/overload_control/overloadcontrol/ResourceStats", name := "<init>", desc := "(Ljava/lang/String;JJJDJ)V" } : Jvm.MethodName) prog_61_method_1_code (12 : Nat) (Option.none : Option Jvm.ClassFile.FieldType), Jvm.Cond.code ({ cls := "java/lang/Record", name := "<init>", desc := "()V" } : Jvm.MethodName) jdk_30_method_1_code (1 : Nat) (Option.none : Option Jvm.ClassFile.FieldType), Jvm.Cond.code ({ cls := "java/lang/Object", name := "<init>", desc := "()V" } : Jvm.MethodName) object_method_1_code (1 : Nat) (Option.none : Option Jvm.ClassFile.FieldType), Jvm.Cond.code ({ cls := "com/example/overload_control/overloadcontrol/ResourceStats", name := "idle", desc := "()Z" } : Jvm.MethodName) prog_61_method_2_code (1 : Nat) (Option.some Jvm.ClassFile.FieldType.boolean), Jvm.Cond.code ({ cls := "com/example/overload_control/overloadcontrol/ResourceStatsIdlePinLaw", name := "nz", desc := "(J)J" } : Jvm.MethodName) method_2_code (2 : Nat) (Option.some Jvm.ClassFile.FieldType.long)]
set_option maxRecDepth 65536 in
theorem codes_eq : words1.filter isCode = codes1 := rfl
theorem w_codes : ∀ c ∈ words1.filter isCode, c.before args0 about1 = true := by
  rw [codes_eq]
  intro c hc
  simp only [codes1, List.mem_cons, List.not_mem_nil, or_false] at hc
  rcases hc with rfl | rfl | rfl | rfl | rfl | rfl
  · exact w_c0
  · exact w_c1
  · exact w_c2
  · exact w_c3
  · exact w_c4
  · exact w_c5
set_option maxRecDepth 65536 in
theorem w_t1 : (words1.take 24).all (fun c => isCode c || c.before args0 about1) = true := by decide +kernel
set_option maxRecDepth 65536 in
theorem w_t2 : (words1.drop 24).all (fun c => isCode c || c.before args0 about1) = true := by decide +kernel
theorem w_tables : (allAtoms (Jvm.Cond.code x code maxLocals ret :: tables_1)).before args0 about1 = true := by
  rw [allAtoms_all]
  show words1.all (fun c => c.before args0 about1) = true
  refine all_split ?_ w_codes
  rw [← List.take_append_drop 24 words1, List.all_append, w_t1, w_t2]
  rfl
set_option maxRecDepth 65536 in
theorem w_case : (Jvm.Cond.and given_1 narrow_1).before args0 about1 = true := by decide +kernel
theorem w_applies : (headSpec (Jvm.Cond.code x code maxLocals ret :: tables_1) room_1).applies x e0.platform about1 = true :=
  (Spec.applies_iff w_frames).mpr ⟨w_running, w_runnable, w_alone, w_named, w_hears, w_ripe, w_room, w_tables⟩
theorem atStart : AtStart classFile x code maxLocals ret World_1 tables_1 room_1 Calls_1 rest_1 Pre_1 launch0 p0 e0 about1 theMethod args0 below0 :=
  ⟨lists_1, trivial, launch0.admits_env _ _ _, launch0.least_env, fairChoices_fair.cas, fairChoices_fair.clock, w_frames, w_args, w_heap, w_applies, trivial, trivial, w_case⟩
end start1
theorem witness_1 : WitnessClaimed_1 := ⟨start1.p0, start1.e0, start1.about1, start1.theMethod, start1.args0, start1.below0, start1.atStart⟩
end Jvm.Pilot.@@N@@
