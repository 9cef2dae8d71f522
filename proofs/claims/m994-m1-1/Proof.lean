import JvmDerived
import JvmDerived.Pilot.@@N@@Statement
import JvmDerived.Pilot.@@N@@Code
set_option linter.unusedVariables false
set_option linter.unusedSimpArgs false
namespace Jvm.Pilot.@@N@@
open Jvm Jvm.ClassFile Sem Op Lib Jvm.Free Jvm.Stand Jvm.LawKit Jvm.RoadKit Bundle Jvm.Free.Fl Jvm.Pilot.@@N@@.Jvm.D
/-! the run stands at F in T, and comes to an end that P says -/
def own_Go (p : Program) (e : Env) (below : List Frame) (P : Outcome → State → Prop) (T : State) (F : JFrame) : Prop :=
  ∃ s₂ o, Steps p.tables e below (T.setTop F) s₂ ∧ s₂.status = .running ∧ Ended s₂ below o ∧ P o s₂
theorem own_step {p : Program} {e : Env} {below : List Frame} {P : Outcome → State → Prop} {T T' : State} {F F' : JFrame} (st : ∀ t, Steps p.tables e below (T'.setTop F') t → Steps p.tables e below (T.setTop F) t) (h : own_Go p e below P T' F') : own_Go p e below P T F := by
  obtain ⟨s₂, o, h1, h2⟩ := h
  exact ⟨s₂, o, st _ h1, h2⟩
theorem own_cast {p : Program} {e : Env} {below : List Frame} {P : Outcome → State → Prop} {T : State} {F F' : JFrame} (q : F = F') (h : own_Go p e below P T F') : own_Go p e below P T F := q ▸ h
theorem own_all {p : Program} {e : Env} {below : List Frame} {Q : Outcome → State → Prop} {T : State} {F : JFrame} (h : ∀ P : Outcome → State → Prop, (∀ o U, Q o U → P o U) → own_Go p e below P T F) : own_Go p e below Q T F := h Q fun _ _ q => q
theorem own_b (x : Int32) : B53 x.toInt64 := by have := rng32 x; have := c_i2l x; exact ⟨by omega, by omega⟩
def own_mn (u w : Int64) : Int64 := if u < w then u else w
def own_mx (u w : Int64) : Int64 := if u < w then w else u
theorem own_bmn {u w : Int64} (hu : B53 u) (hw : B53 w) : B53 (own_mn u w) := by unfold own_mn; split <;> assumption
theorem own_bmx {u w : Int64} (hu : B53 u) (hw : B53 w) : B53 (own_mx u w) := by unfold own_mx; split <;> assumption
theorem own_pmn {u w : Int64} (hu : B53 u) (hw : B53 w) : Jvm.Native.java_lang_Math.nans.pick64 false (FP.l2d u) (FP.l2d w) = FP.l2d (own_mn u w) := by
  unfold own_mn; split
  · rename_i h; exact min_l hu hw h
  · rename_i h; exact min_g hu hw h
theorem own_pmx {u w : Int64} (hu : B53 u) (hw : B53 w) : Jvm.Native.java_lang_Math.nans.pick64 true (FP.l2d u) (FP.l2d w) = FP.l2d (own_mx u w) := by
  unfold own_mx; split
  · rename_i h; exact max_l hu hw h
  · rename_i h; exact max_g hu hw h
/-- what covers says -/
def own_cov (s f a b : Int64) : Int32 := if lcmpW a s < 0 then 0 else if 0 < lcmpW b f then 0 else 1
theorem own_c1 {s f a b : Int64} (h1 : lcmpW (own_mn s a) s = 0) (h2 : lcmpW (own_mx f b) f = 0) : own_cov s f a b = 1 := by
  rw [lw_eq] at h1 h2
  unfold own_mn at h1; unfold own_mx at h2; unfold own_cov
  simp only [lw_lt, lw_gt, Int64.lt_iff_toInt_lt, ← Int64.toInt_inj] at *
  repeat' split at *
  all_goals first | rfl | (exfalso; omega)
theorem own_c2 {s f a b : Int64} (h1 : ¬ (lcmpW (own_mn s a) s = 0)) : own_cov s f a b = 0 := by
  rw [lw_eq] at h1
  unfold own_mn at h1; unfold own_cov
  simp only [lw_lt, lw_gt, Int64.lt_iff_toInt_lt, ← Int64.toInt_inj] at *
  repeat' split at *
  all_goals first | rfl | (exfalso; omega)
theorem own_c3 {s f a b : Int64} (h2 : ¬ (lcmpW (own_mx f b) f = 0)) : own_cov s f a b = 0 := by
  rw [lw_eq] at h2
  unfold own_mx at h2; unfold own_cov
  simp only [lw_lt, lw_gt, Int64.lt_iff_toInt_lt, ← Int64.toInt_inj] at *
  repeat' split at *
  all_goals first | rfl | (exfalso; omega)
theorem own_r (s f : Int64) : ¬ (own_cov s f s f = 0) := by
  unfold own_cov
  simp only [lw_lt, lw_gt, Int64.lt_iff_toInt_lt]
  rw [if_neg (by omega), if_neg (by omega)]; decide
theorem ef_2 (m : MethodId) (x0 : Addr) : entryFrame m #[(.ref x0)] 1 = mkF m 0 #[.val (.ref x0)] [] := by first | (simp [entryFrame, mkF, argsToLocals, Value.category]; done) | rfl
theorem pn_java_lang_Record : plainName "java/lang/Record" = true := by first | (simp [plainName, overriddenIn]; done) | decide +kernel
theorem d2_0 : decode jdk_30_method_1_code 0 = .ok (.aload_n 0, 1) := by decide +kernel
theorem d2_1 : decode jdk_30_method_1_code 1 = .ok (.invokespecial 1, 3) := by decide +kernel
theorem d2_4 : decode jdk_30_method_1_code 4 = .ok (.return_, 1) := by decide +kernel
def Q2 (Z : State) (ob : Addr) (h0 : Heap) (n0 : Nat) (v : Option Value) (h : Heap) (L : List Loc) : Prop := v = none ∧ Fr n0 L ∧ h = h0
set_option maxRecDepth 65536 in
set_option maxHeartbeats 40000000 in
theorem rm2 (l : Launch) (Z : State) (a0 : Array Value) (hw : ∀ d ∈ tables_1, d.before a0 Z = true) (ws : List Jvm.Cond) (ob : Addr) (h0 : Heap) (n0 : Nat) (Z0 : n0 ≤ h0.size) :
    MetFree l (⟨"java/lang/Record", "<init>", "()V"⟩ : MethodName) (head1 (Jvm.Cond.code (⟨"java/lang/Record", "<init>", "()V"⟩ : MethodName) jdk_30_method_1_code 1 none :: ws) ({ frames := 1, cells := 0, slots := 0, locals := 12 } : Room)) (fun a U => a = #[(.ref ob)] ∧ Z.Warmed39 U.vm ∧ U.heap = h0) (fun _ _ _ _ _ => True) (fun _ U o U' => ∃ v L, o = .returned v ∧ Q2 Z ob h0 n0 v U'.heap L ∧ FrameEnd U o U' L ({ frames := 1, cells := 0, slots := 0, locals := 12 } : Room).cells ({ frames := 1, cells := 0, slots := 0, locals := 12 } : Room).slots) := by
  refine MetFree.of_bodySF (plainFor_of_name pn_java_lang_Record) hisR ?_
  intro p e s m args below meth c s₁ Bd hml0 hP hK
  obtain ⟨rfl, hZ, hh⟩ := hP
  have hx := Bd.exec
  have hby := Bd.bytes
  have hml : c.maxLocals = 1 := hml0
  have hown : s.vm.findClass "java/lang/Record" = some m.cls := findClass_of_methodNamed Bd.named
  have hnm := (name_of_methodNamed Bd.named Bd.method).1
  have X0 : Stand p l e ({ frames := 1, cells := 0, slots := 0, locals := 12 } : Room) s m #[(.ref ob)] below meth c s₁ [] 0 0 := Stand.of_body Bd
  have e0 : s₁.heap = h0 := by rw [← hh, Bd.state]; rfl
  have N0 := Fr.nil n0
  refine own_all ?_
  intro P hfin
  refine own_cast (ef_2 m ob) ?_
  show own_Go p e below P s₁ (mkF m 0 #[.val (.ref ob)] [])
  refine own_step (fun _ k => XS.aloadN X0.here hx rfl (hb hby d2_0) rfl rfl k) ?_
  show own_Go p e below P s₁ (mkF m 1 #[.val (.ref ob)] [(.ref ob)])
  obtain ⟨T1, X1, e1, st1⟩ := initO X0 hx hZ hown (hw _ (List.mem_of_getElem? (i := 11) rfl)) (hw _ (List.mem_of_getElem? (i := 12) rfl)) (hw _ (List.mem_of_getElem? (i := 13) rfl)) e0 (g := (mkF m 1 #[.val (.ref ob)] [(.ref ob)])) rfl (by rw [hml]; rfl) rfl (hb hby d2_1) (by decide) (W := 0) (by show 2 * 0 + _ ≤ _; exact Nat.le_of_eq rfl) (by decide)
  refine own_step st1 ?_
  show own_Go p e below P T1 (mkF m 4 #[.val (.ref ob)] [])
  obtain ⟨fs, hr, hrun, hended, hW, hsame⟩ := X1.leave (v := none) (fun _ => rfl)
  refine ⟨_, _, X1.returnOut hx Bd.returns (hb hby d2_4) hr, hrun, hended, hfin _ _ ⟨_, _, rfl, ?_, ⟨_, rfl⟩, hW, hsame.mono (by decide) (by decide)⟩⟩
  show Q2 Z ob h0 n0 none T1.heap _
  rw [e1]
  exact ⟨rfl, N0, rfl⟩
theorem ef_1 (m : MethodId) (x0 : Addr) (x1 : UInt64) (x2 : UInt64) : entryFrame m #[(.ref x0), (.double x1), (.double x2)] 5 = mkF m 0 #[.val (.ref x0), .val (.double x1), .second, .val (.double x2), .second] [] := by first | (simp [entryFrame, mkF, argsToLocals, Value.category]; done) | rfl
theorem pn_com_example_workflow_to_schedule_workflowtoschedule_core_Lease : plainName "com/example/workflow_to_schedule/workflowtoschedule/core/Lease" = true := by first | (simp [plainName, overriddenIn]; done) | decide +kernel
theorem d1_0 : decode prog_18_method_1_code 0 = .ok (.aload_n 0, 1) := by decide +kernel
theorem pd____V : parseMethodDescriptor "()V" = some ⟨[], none⟩ := by decide +kernel
theorem d1_1 : decode prog_18_method_1_code 1 = .ok (.invokespecial 1, 3) := by decide +kernel
theorem d1_4 : decode prog_18_method_1_code 4 = .ok (.aload_n 0, 1) := by decide +kernel
theorem d1_5 : decode prog_18_method_1_code 5 = .ok (.dload_n 1, 1) := by decide +kernel
theorem d1_6 : decode prog_18_method_1_code 6 = .ok (.putfield 7, 3) := by decide +kernel
theorem d1_9 : decode prog_18_method_1_code 9 = .ok (.aload_n 0, 1) := by decide +kernel
theorem d1_10 : decode prog_18_method_1_code 10 = .ok (.dload_n 3, 1) := by decide +kernel
theorem d1_11 : decode prog_18_method_1_code 11 = .ok (.putfield 13, 3) := by decide +kernel
theorem d1_14 : decode prog_18_method_1_code 14 = .ok (.return_, 1) := by decide +kernel
def Q1 (Z : State) (ob : Addr) (x0 : UInt64) (x1 : UInt64) (h0 : Heap) (n0 : Nat) (v : Option Value) (h : Heap) (L : List Loc) : Prop := v = none ∧ Fr n0 L ∧ Keep h0 h [ob] ∧ Exa Z h ob "com/example/workflow_to_schedule/workflowtoschedule/core/Lease" ∧ Fld Z h ob "com/example/workflow_to_schedule/workflowtoschedule/core/Lease" "start" "D" (.double x0) ∧ Fld Z h ob "com/example/workflow_to_schedule/workflowtoschedule/core/Lease" "finish" "D" (.double x1)
set_option maxRecDepth 65536 in
set_option maxHeartbeats 40000000 in
theorem rm1 (l : Launch) (Z : State) (a0 : Array Value) (hw : ∀ d ∈ tables_1, d.before a0 Z = true) (ws : List Jvm.Cond) (ob : Addr) (x0 : UInt64) (x1 : UInt64) (h0 : Heap) (n0 : Nat) (Z0 : n0 ≤ h0.size) (E_ob : Exa Z h0 ob "com/example/workflow_to_schedule/workflowtoschedule/core/Lease") (F_start_ob : Fld Z h0 ob "com/example/workflow_to_schedule/workflowtoschedule/core/Lease" "start" "D" (.double (0 : UInt64))) (F_finish_ob : Fld Z h0 ob "com/example/workflow_to_schedule/workflowtoschedule/core/Lease" "finish" "D" (.double (0 : UInt64))) (g_ob : n0 ≤ ob) :
    MetFree l (⟨"com/example/workflow_to_schedule/workflowtoschedule/core/Lease", "<init>", "(DD)V"⟩ : MethodName) (head1 (Jvm.Cond.code (⟨"com/example/workflow_to_schedule/workflowtoschedule/core/Lease", "<init>", "(DD)V"⟩ : MethodName) prog_18_method_1_code 5 none :: ws) ({ frames := 2, cells := 0, slots := 0, locals := 24 } : Room)) (fun a U => a = #[(.ref ob), (.double x0), (.double x1)] ∧ Z.Warmed39 U.vm ∧ U.heap = h0) (fun _ _ _ _ _ => True) (fun _ U o U' => ∃ v L, o = .returned v ∧ Q1 Z ob x0 x1 h0 n0 v U'.heap L ∧ FrameEnd U o U' L ({ frames := 2, cells := 0, slots := 0, locals := 24 } : Room).cells ({ frames := 2, cells := 0, slots := 0, locals := 24 } : Room).slots) := by
  refine MetFree.of_bodySF (plainFor_of_name pn_com_example_workflow_to_schedule_workflowtoschedule_core_Lease) hisR ?_
  intro p e s m args below meth c s₁ Bd hml0 hP hK
  obtain ⟨rfl, hZ, hh⟩ := hP
  have hx := Bd.exec
  have hby := Bd.bytes
  have hml : c.maxLocals = 5 := hml0
  have hown : s.vm.findClass "com/example/workflow_to_schedule/workflowtoschedule/core/Lease" = some m.cls := findClass_of_methodNamed Bd.named
  have hnm := (name_of_methodNamed Bd.named Bd.method).1
  have X0 : Stand p l e ({ frames := 2, cells := 0, slots := 0, locals := 24 } : Room) s m #[(.ref ob), (.double x0), (.double x1)] below meth c s₁ [] 0 0 := Stand.of_body Bd
  have e0 : s₁.heap = h0 := by rw [← hh, Bd.state]; rfl
  have N0 := Fr.nil n0
  refine own_all ?_
  intro P hfin
  refine own_cast (ef_1 m ob x0 x1) ?_
  show own_Go p e below P s₁ (mkF m 0 #[.val (.ref ob), .val (.double x0), .second, .val (.double x1), .second] [])
  refine own_step (fun _ k => XS.aloadN X0.here hx rfl (hb hby d1_0) rfl rfl k) ?_
  show own_Go p e below P s₁ (mkF m 1 #[.val (.ref ob), .val (.double x0), .second, .val (.double x1), .second] [(.ref ob)])
  obtain ⟨_, _, ⟨T1, L1, k1, n1⟩, -, X1, ⟨Lc1, hQ1, l1, y1, z1⟩, st1⟩ := X0.specialBack hx (y := (⟨"java/lang/Record", "<init>", "()V"⟩ : MethodName)) rfl hown (mvT hZ (hw _ (List.mem_of_getElem? (i := 6) rfl))) (mvT hZ (hw _ (List.mem_of_getElem? (i := 7) rfl))) (mvT hZ (hw _ (List.mem_of_getElem? (i := 10) rfl))) (by decide) (backOf (W := 0) (rm2 l Z a0 hw [] ob h0 n0 Z0) hZ (hw _ (List.mem_of_getElem? (i := 10) rfl)) (hw _ (List.mem_of_getElem? (i := 9) rfl)) (by decide) (by decide)) (g := (mkF m 1 #[.val (.ref ob), .val (.double x0), .second, .val (.double x1), .second] [(.ref ob)])) rfl (by rw [hml]; rfl) (Steps.refl _) (a := ob) (argsL := []) (rest := []) (lenOf pd____V rfl) rfl (by show 2 * 0 + _ ≤ _; exact Nat.le_of_eq rfl) (hb hby d1_1) (fun _ _ => ⟨rfl, e0, (by decide : 0 + 0 ≤ _), (by decide : 0 + 0 ≤ _)⟩)
  dsimp only [Pt.U, Pt.locs, Pt.cells, Pt.slots] at X1 l1 y1 z1 st1 hQ1
  subst l1 y1 z1
  obtain ⟨rfl, N1q, e1⟩ := hQ1
  have N1 := Fr.app N0 N1q
  refine own_step (fun _ k => st1.trans k) ?_
  show own_Go p e below P T1 (mkF m 4 #[.val (.ref ob), .val (.double x0), .second, .val (.double x1), .second] [])
  refine own_step (fun _ k => XS.aloadN X1.here hx rfl (hb hby d1_4) rfl rfl k) ?_
  show own_Go p e below P T1 (mkF m 5 #[.val (.ref ob), .val (.double x0), .second, .val (.double x1), .second] [(.ref ob)])
  refine own_step (fun _ k => XS.dloadN X1.here hx rfl (hb hby d1_5) rfl k) ?_
  show own_Go p e below P T1 (mkF m 6 #[.val (.ref ob), .val (.double x0), .second, .val (.double x1), .second] [(.double x0), (.ref ob)])
  obtain ⟨T2, h2, X2, e2, W2, st2⟩ := putF X1 hx hZ hown (host := "") (Or.inl (hw _ (List.mem_of_getElem? (i := 14) rfl))) Via.refl e1 F_start_ob E_ob (Or.inr ⟨(hw _ (List.mem_of_getElem? (i := 15) rfl)), rfl, hnm⟩) (hw _ (List.mem_of_getElem? (i := 1) rfl)) (ty := .double) (by decide) rfl rfl (g := (mkF m 6 #[.val (.ref ob), .val (.double x0), .second, .val (.double x1), .second] [(.double x0), (.ref ob)])) rfl rfl (hb hby d1_6)
  have Fw2 := F_start_ob.same W2
  have N2 := Fr.snoc X2 N1 g_ob
  refine own_step st2 ?_
  show own_Go p e below P T2 (mkF m 9 #[.val (.ref ob), .val (.double x0), .second, .val (.double x1), .second] [])
  refine own_step (fun _ k => XS.aloadN X2.here hx rfl (hb hby d1_9) rfl rfl k) ?_
  show own_Go p e below P T2 (mkF m 10 #[.val (.ref ob), .val (.double x0), .second, .val (.double x1), .second] [(.ref ob)])
  refine own_step (fun _ k => XS.dloadN X2.here hx rfl (hb hby d1_10) rfl k) ?_
  show own_Go p e below P T2 (mkF m 11 #[.val (.ref ob), .val (.double x0), .second, .val (.double x1), .second] [(.double x1), (.ref ob)])
  obtain ⟨T3, h3, X3, e3, W3, st3⟩ := putF X2 hx hZ hown (host := "") (Or.inl (hw _ (List.mem_of_getElem? (i := 16) rfl))) Via.refl e2 (F_finish_ob.other W2 (Or.inr (slot_ne (Or.inr (hw _ (List.mem_of_getElem? (i := 17) rfl))) (Or.inr (hw _ (List.mem_of_getElem? (i := 15) rfl))) (by decide) (t := .double) (t' := .double) (by decide) (by decide)))) (E_ob.wr W2) (Or.inr ⟨(hw _ (List.mem_of_getElem? (i := 17) rfl)), rfl, hnm⟩) (hw _ (List.mem_of_getElem? (i := 1) rfl)) (ty := .double) (by decide) rfl rfl (g := (mkF m 11 #[.val (.ref ob), .val (.double x0), .second, .val (.double x1), .second] [(.double x1), (.ref ob)])) rfl rfl (hb hby d1_11)
  have Fw3 := (F_finish_ob.other W2 (Or.inr (slot_ne (Or.inr (hw _ (List.mem_of_getElem? (i := 17) rfl))) (Or.inr (hw _ (List.mem_of_getElem? (i := 15) rfl))) (by decide) (t := .double) (t' := .double) (by decide) (by decide)))).same W3
  have N3 := Fr.snoc X3 N2 g_ob
  refine own_step st3 ?_
  show own_Go p e below P T3 (mkF m 14 #[.val (.ref ob), .val (.double x0), .second, .val (.double x1), .second] [])
  obtain ⟨fs, hr, hrun, hended, hW, hsame⟩ := X3.leave (v := none) (fun _ => rfl)
  refine ⟨_, _, X3.returnOut hx Bd.returns (hb hby d1_14) hr, hrun, hended, hfin _ _ ⟨_, _, rfl, ?_, ⟨_, rfl⟩, hW, hsame.mono (by decide) (by decide)⟩⟩
  show Q1 Z ob x0 x1 h0 n0 none T3.heap _
  rw [e3]
  exact ⟨rfl, N3, (((Keep.refl h0 [ob]).wr W2 (Or.inl (List.mem_of_getElem? (i := 0) rfl))).wr W3 (Or.inl (List.mem_of_getElem? (i := 0) rfl))), ((E_ob.wr W2).wr W3), (Fw2.other W3 (Or.inr (slot_ne (Or.inr (hw _ (List.mem_of_getElem? (i := 15) rfl))) (Or.inr (hw _ (List.mem_of_getElem? (i := 17) rfl))) (by decide) (t := .double) (t' := .double) (by decide) (by decide)))), Fw3⟩
theorem ef_4 (m : MethodId) (x0 : Addr) (x1 : UInt64) (x2 : UInt64) : entryFrame m #[(.ref x0), (.double x1), (.double x2)] 5 = mkF m 0 #[.val (.ref x0), .val (.double x1), .second, .val (.double x2), .second] [] := by first | (simp [entryFrame, mkF, argsToLocals, Value.category]; done) | rfl
theorem d4_0 : decode prog_18_method_3_code 0 = .ok (.dload_n 1, 1) := by decide +kernel
theorem d4_1 : decode prog_18_method_3_code 1 = .ok (.aload_n 0, 1) := by decide +kernel
theorem d4_2 : decode prog_18_method_3_code 2 = .ok (.getfield 7, 3) := by decide +kernel
theorem d4_5 : decode prog_18_method_3_code 5 = .ok (.dcmp .l, 1) := by decide +kernel
theorem d4_6 : decode prog_18_method_3_code 6 = .ok (.ifCond .lt 16, 3) := by decide +kernel
theorem d4_22 : decode prog_18_method_3_code 22 = .ok (.iconst 0, 1) := by decide +kernel
theorem d4_23 : decode prog_18_method_3_code 23 = .ok (.ireturn, 1) := by decide +kernel
theorem d4_9 : decode prog_18_method_3_code 9 = .ok (.dload_n 3, 1) := by decide +kernel
theorem d4_10 : decode prog_18_method_3_code 10 = .ok (.aload_n 0, 1) := by decide +kernel
theorem d4_11 : decode prog_18_method_3_code 11 = .ok (.getfield 13, 3) := by decide +kernel
theorem d4_14 : decode prog_18_method_3_code 14 = .ok (.dcmp .g, 1) := by decide +kernel
theorem d4_15 : decode prog_18_method_3_code 15 = .ok (.ifCond .gt 7, 3) := by decide +kernel
theorem d4_18 : decode prog_18_method_3_code 18 = .ok (.iconst 1, 1) := by decide +kernel
theorem d4_19 : decode prog_18_method_3_code 19 = .ok (.goto 4, 3) := by decide +kernel
def Q4 (Z : State) (ob : Addr) (us : Int64) (uf : Int64) (ua : Int64) (ub : Int64) (h0 : Heap) (n0 : Nat) (v : Option Value) (h : Heap) (L : List Loc) : Prop := v = some (.int (own_cov us uf ua ub)) ∧ Fr n0 L ∧ h = h0
set_option maxRecDepth 65536 in
set_option maxHeartbeats 40000000 in
theorem rm4 (l : Launch) (Z : State) (a0 : Array Value) (hw : ∀ d ∈ tables_1, d.before a0 Z = true) (ws : List Jvm.Cond) (ob : Addr) (us : Int64) (uf : Int64) (ua : Int64) (ub : Int64) (h0 : Heap) (n0 : Nat) (Z0 : n0 ≤ h0.size) (F_start_ob : Fld Z h0 ob "com/example/workflow_to_schedule/workflowtoschedule/core/Lease" "start" "D" (.double (FP.l2d us))) (F_finish_ob : Fld Z h0 ob "com/example/workflow_to_schedule/workflowtoschedule/core/Lease" "finish" "D" (.double (FP.l2d uf))) (hb_us : B53 us) (hb_uf : B53 uf) (hb_ua : B53 ua) (hb_ub : B53 ub) :
    MetFree l (⟨"com/example/workflow_to_schedule/workflowtoschedule/core/Lease", "covers", "(DD)Z"⟩ : MethodName) (head1 (Jvm.Cond.code (⟨"com/example/workflow_to_schedule/workflowtoschedule/core/Lease", "covers", "(DD)Z"⟩ : MethodName) prog_18_method_3_code 5 (some .boolean) :: ws) ({ frames := 0, cells := 0, slots := 0, locals := 0 } : Room)) (fun a U => a = #[(.ref ob), (.double (FP.l2d ua)), (.double (FP.l2d ub))] ∧ Z.Warmed39 U.vm ∧ U.heap = h0) (fun _ _ _ _ _ => True) (fun _ U o U' => ∃ v L, o = .returned v ∧ Q4 Z ob us uf ua ub h0 n0 v U'.heap L ∧ FrameEnd U o U' L ({ frames := 0, cells := 0, slots := 0, locals := 0 } : Room).cells ({ frames := 0, cells := 0, slots := 0, locals := 0 } : Room).slots) := by
  refine MetFree.of_bodySF (plainFor_of_name pn_com_example_workflow_to_schedule_workflowtoschedule_core_Lease) hisR ?_
  intro p e s m args below meth c s₁ Bd hml0 hP hK
  obtain ⟨rfl, hZ, hh⟩ := hP
  have hx := Bd.exec
  have hby := Bd.bytes
  have hml : c.maxLocals = 5 := hml0
  have hown : s.vm.findClass "com/example/workflow_to_schedule/workflowtoschedule/core/Lease" = some m.cls := findClass_of_methodNamed Bd.named
  have hnm := (name_of_methodNamed Bd.named Bd.method).1
  have X0 : Stand p l e ({ frames := 0, cells := 0, slots := 0, locals := 0 } : Room) s m #[(.ref ob), (.double (FP.l2d ua)), (.double (FP.l2d ub))] below meth c s₁ [] 0 0 := Stand.of_body Bd
  have e0 : s₁.heap = h0 := by rw [← hh, Bd.state]; rfl
  have N0 := Fr.nil n0
  refine own_all ?_
  intro P hfin
  refine own_cast (ef_4 m ob (FP.l2d ua) (FP.l2d ub)) ?_
  show own_Go p e below P s₁ (mkF m 0 #[.val (.ref ob), .val (.double (FP.l2d ua)), .second, .val (.double (FP.l2d ub)), .second] [])
  refine own_step (fun _ k => XS.dloadN X0.here hx rfl (hb hby d4_0) rfl k) ?_
  show own_Go p e below P s₁ (mkF m 1 #[.val (.ref ob), .val (.double (FP.l2d ua)), .second, .val (.double (FP.l2d ub)), .second] [(.double (FP.l2d ua))])
  refine own_step (fun _ k => XS.aloadN X0.here hx rfl (hb hby d4_1) rfl rfl k) ?_
  show own_Go p e below P s₁ (mkF m 2 #[.val (.ref ob), .val (.double (FP.l2d ua)), .second, .val (.double (FP.l2d ub)), .second] [(.ref ob), (.double (FP.l2d ua))])
  obtain ⟨T1, X1, e1, st1⟩ := getF X0 hx hZ hown (host := "") (Or.inl (hw _ (List.mem_of_getElem? (i := 14) rfl))) Via.refl e0 F_start_ob (g := (mkF m 2 #[.val (.ref ob), .val (.double (FP.l2d ua)), .second, .val (.double (FP.l2d ub)), .second] [(.ref ob), (.double (FP.l2d ua))])) rfl rfl (hb hby d4_2)
  refine own_step st1 ?_
  show own_Go p e below P T1 (mkF m 5 #[.val (.ref ob), .val (.double (FP.l2d ua)), .second, .val (.double (FP.l2d ub)), .second] [(.double (FP.l2d us)), (.double (FP.l2d ua))])
  refine own_step (fun _ k => XS.dcmpS X1.here hx rfl (hb hby d4_5) rfl (dcmpV_w hb_ua hb_us .l) k) ?_
  show own_Go p e below P T1 (mkF m 6 #[.val (.ref ob), .val (.double (FP.l2d ua)), .second, .val (.double (FP.l2d ub)), .second] [(.int (lcmpW ua us))])
  by_cases hc2 : (lcmpW ua us) < (0 : Int32)
  · refine own_step (fun _ k => XS.ifYes X1.here hx rfl (pc0 := 6) (pc' := 22) rfl (hb hby d4_6) rfl ((if0 _ _).trans (tlt hc2).1) (by decide) (by decide) k) ?_
    show own_Go p e below P T1 (mkF m 22 #[.val (.ref ob), .val (.double (FP.l2d ua)), .second, .val (.double (FP.l2d ub)), .second] [])
    refine own_step (fun _ k => XS.iconst X1.here hx rfl (hb hby d4_22) k) ?_
    show own_Go p e below P T1 (mkF m 23 #[.val (.ref ob), .val (.double (FP.l2d ua)), .second, .val (.double (FP.l2d ub)), .second] [(.int (0 : Int32))])
    obtain ⟨fs, hr, hrun, hended, hW, hsame⟩ := X1.leave (v := some (.int (0 : Int32))) (fun h => by rw [Bd.returns] at h; cases h)
    refine ⟨_, _, retN X1 hx (t := .boolean) Bd.returns (by simp) (hb hby d4_23) hr, hrun, hended, hfin _ _ ⟨_, _, rfl, ?_, ⟨_, rfl⟩, hW, hsame.mono (by decide) (by decide)⟩⟩
    show Q4 Z ob us uf ua ub h0 n0 (some (.int (0 : Int32))) T1.heap _
    rw [e1]
    exact ⟨(congrArg (fun z => some (Value.int z)) (if_pos hc2).symm), N0, rfl⟩
  · refine own_step (fun _ k => XS.ifNo X1.here hx rfl (hb hby d4_6) rfl ((if0 _ _).trans (flt hc2).1) k) ?_
    show own_Go p e below P T1 (mkF m 9 #[.val (.ref ob), .val (.double (FP.l2d ua)), .second, .val (.double (FP.l2d ub)), .second] [])
    refine own_step (fun _ k => XS.dloadN X1.here hx rfl (hb hby d4_9) rfl k) ?_
    show own_Go p e below P T1 (mkF m 10 #[.val (.ref ob), .val (.double (FP.l2d ua)), .second, .val (.double (FP.l2d ub)), .second] [(.double (FP.l2d ub))])
    refine own_step (fun _ k => XS.aloadN X1.here hx rfl (hb hby d4_10) rfl rfl k) ?_
    show own_Go p e below P T1 (mkF m 11 #[.val (.ref ob), .val (.double (FP.l2d ua)), .second, .val (.double (FP.l2d ub)), .second] [(.ref ob), (.double (FP.l2d ub))])
    obtain ⟨T4, X4, e4, st4⟩ := getF X1 hx hZ hown (host := "") (Or.inl (hw _ (List.mem_of_getElem? (i := 16) rfl))) Via.refl e1 F_finish_ob (g := (mkF m 11 #[.val (.ref ob), .val (.double (FP.l2d ua)), .second, .val (.double (FP.l2d ub)), .second] [(.ref ob), (.double (FP.l2d ub))])) rfl rfl (hb hby d4_11)
    refine own_step st4 ?_
    show own_Go p e below P T4 (mkF m 14 #[.val (.ref ob), .val (.double (FP.l2d ua)), .second, .val (.double (FP.l2d ub)), .second] [(.double (FP.l2d uf)), (.double (FP.l2d ub))])
    refine own_step (fun _ k => XS.dcmpS X4.here hx rfl (hb hby d4_14) rfl (dcmpV_w hb_ub hb_uf .g) k) ?_
    show own_Go p e below P T4 (mkF m 15 #[.val (.ref ob), .val (.double (FP.l2d ua)), .second, .val (.double (FP.l2d ub)), .second] [(.int (lcmpW ub uf))])
    by_cases hc5 : (0 : Int32) < (lcmpW ub uf)
    · refine own_step (fun _ k => XS.ifYes X4.here hx rfl (pc0 := 15) (pc' := 22) rfl (hb hby d4_15) rfl ((if0 _ _).trans (tlt hc5).2.2.1) (by decide) (by decide) k) ?_
      show own_Go p e below P T4 (mkF m 22 #[.val (.ref ob), .val (.double (FP.l2d ua)), .second, .val (.double (FP.l2d ub)), .second] [])
      refine own_step (fun _ k => XS.iconst X4.here hx rfl (hb hby d4_22) k) ?_
      show own_Go p e below P T4 (mkF m 23 #[.val (.ref ob), .val (.double (FP.l2d ua)), .second, .val (.double (FP.l2d ub)), .second] [(.int (0 : Int32))])
      obtain ⟨fs, hr, hrun, hended, hW, hsame⟩ := X4.leave (v := some (.int (0 : Int32))) (fun h => by rw [Bd.returns] at h; cases h)
      refine ⟨_, _, retN X4 hx (t := .boolean) Bd.returns (by simp) (hb hby d4_23) hr, hrun, hended, hfin _ _ ⟨_, _, rfl, ?_, ⟨_, rfl⟩, hW, hsame.mono (by decide) (by decide)⟩⟩
      show Q4 Z ob us uf ua ub h0 n0 (some (.int (0 : Int32))) T4.heap _
      rw [e4]
      exact ⟨(congrArg (fun z => some (Value.int z)) ((if_neg hc2).trans (if_pos hc5)).symm), N0, rfl⟩
    · refine own_step (fun _ k => XS.ifNo X4.here hx rfl (hb hby d4_15) rfl ((if0 _ _).trans (flt hc5).2.2.1) k) ?_
      show own_Go p e below P T4 (mkF m 18 #[.val (.ref ob), .val (.double (FP.l2d ua)), .second, .val (.double (FP.l2d ub)), .second] [])
      refine own_step (fun _ k => XS.iconst X4.here hx rfl (hb hby d4_18) k) ?_
      show own_Go p e below P T4 (mkF m 19 #[.val (.ref ob), .val (.double (FP.l2d ua)), .second, .val (.double (FP.l2d ub)), .second] [(.int (1 : Int32))])
      refine own_step (fun _ k => XS.goto X4.here hx rfl (pc0 := 19) (pc' := 23) rfl (hb hby d4_19) (by decide) (by decide) k) ?_
      show own_Go p e below P T4 (mkF m 23 #[.val (.ref ob), .val (.double (FP.l2d ua)), .second, .val (.double (FP.l2d ub)), .second] [(.int (1 : Int32))])
      obtain ⟨fs, hr, hrun, hended, hW, hsame⟩ := X4.leave (v := some (.int (1 : Int32))) (fun h => by rw [Bd.returns] at h; cases h)
      refine ⟨_, _, retN X4 hx (t := .boolean) Bd.returns (by simp) (hb hby d4_23) hr, hrun, hended, hfin _ _ ⟨_, _, rfl, ?_, ⟨_, rfl⟩, hW, hsame.mono (by decide) (by decide)⟩⟩
      show Q4 Z ob us uf ua ub h0 n0 (some (.int (1 : Int32))) T4.heap _
      rw [e4]
      exact ⟨(congrArg (fun z => some (Value.int z)) ((if_neg hc2).trans (if_neg hc5)).symm), N0, rfl⟩
theorem ef_5 (m : MethodId) (x0 : Addr) (x1 : UInt64) (x2 : UInt64) : entryFrame m #[(.ref x0), (.double x1), (.double x2)] 5 = mkF m 0 #[.val (.ref x0), .val (.double x1), .second, .val (.double x2), .second] [] := by first | (simp [entryFrame, mkF, argsToLocals, Value.category]; done) | rfl
theorem d5_0 : decode prog_18_method_4_code 0 = .ok (.new 8, 3) := by decide +kernel
theorem d5_3 : decode prog_18_method_4_code 3 = .ok (.dup, 1) := by decide +kernel
theorem d5_4 : decode prog_18_method_4_code 4 = .ok (.aload_n 0, 1) := by decide +kernel
theorem d5_5 : decode prog_18_method_4_code 5 = .ok (.getfield 7, 3) := by decide +kernel
theorem d5_8 : decode prog_18_method_4_code 8 = .ok (.dload_n 1, 1) := by decide +kernel
theorem pd__DD__D : parseMethodDescriptor "(DD)D" = some ⟨[.double, .double], some .double⟩ := by decide +kernel
theorem d5_9 : decode prog_18_method_4_code 9 = .ok (.invokestatic 16, 3) := by decide +kernel
theorem d5_12 : decode prog_18_method_4_code 12 = .ok (.aload_n 0, 1) := by decide +kernel
theorem d5_13 : decode prog_18_method_4_code 13 = .ok (.getfield 13, 3) := by decide +kernel
theorem d5_16 : decode prog_18_method_4_code 16 = .ok (.dload_n 3, 1) := by decide +kernel
theorem d5_17 : decode prog_18_method_4_code 17 = .ok (.invokestatic 22, 3) := by decide +kernel
theorem pd__DD__V : parseMethodDescriptor "(DD)V" = some ⟨[.double, .double], none⟩ := by decide +kernel
theorem d5_20 : decode prog_18_method_4_code 20 = .ok (.invokespecial 25, 3) := by decide +kernel
theorem d5_23 : decode prog_18_method_4_code 23 = .ok (.areturn, 1) := by decide +kernel
def Q5 (Z : State) (ob : Addr) (us : Int64) (uf : Int64) (ua : Int64) (ub : Int64) (h0 : Heap) (n0 : Nat) (v : Option Value) (h : Heap) (L : List Loc) : Prop := ∃ b, v = some (.ref b) ∧ Fr n0 L ∧ h0.size ≤ b ∧ Keep h0 h [] ∧ Exa Z h b "com/example/workflow_to_schedule/workflowtoschedule/core/Lease" ∧ Fld Z h b "com/example/workflow_to_schedule/workflowtoschedule/core/Lease" "start" "D" (.double (FP.l2d (own_mn us ua))) ∧ Fld Z h b "com/example/workflow_to_schedule/workflowtoschedule/core/Lease" "finish" "D" (.double (FP.l2d (own_mx uf ub)))
set_option maxRecDepth 65536 in
set_option maxHeartbeats 40000000 in
theorem rm5 (l : Launch) (Z : State) (a0 : Array Value) (hw : ∀ d ∈ tables_1, d.before a0 Z = true) (ws : List Jvm.Cond) (ob : Addr) (us : Int64) (uf : Int64) (ua : Int64) (ub : Int64) (h0 : Heap) (n0 : Nat) (Z0 : n0 ≤ h0.size) (E_ob : Exa Z h0 ob "com/example/workflow_to_schedule/workflowtoschedule/core/Lease") (F_start_ob : Fld Z h0 ob "com/example/workflow_to_schedule/workflowtoschedule/core/Lease" "start" "D" (.double (FP.l2d us))) (F_finish_ob : Fld Z h0 ob "com/example/workflow_to_schedule/workflowtoschedule/core/Lease" "finish" "D" (.double (FP.l2d uf))) (hb_us : B53 us) (hb_uf : B53 uf) (hb_ua : B53 ua) (hb_ub : B53 ub) :
    MetFree l (⟨"com/example/workflow_to_schedule/workflowtoschedule/core/Lease", "covering", "(DD)Lcom/example/workflow_to_schedule/workflowtoschedule/core/Lease;"⟩ : MethodName) (head1 (Jvm.Cond.code (⟨"com/example/workflow_to_schedule/workflowtoschedule/core/Lease", "covering", "(DD)Lcom/example/workflow_to_schedule/workflowtoschedule/core/Lease;"⟩ : MethodName) prog_18_method_4_code 5 (some (.object "com/example/workflow_to_schedule/workflowtoschedule/core/Lease")) :: ws) ({ frames := 3, cells := 1, slots := 2, locals := 41 } : Room)) (fun a U => a = #[(.ref ob), (.double (FP.l2d ua)), (.double (FP.l2d ub))] ∧ Z.Warmed39 U.vm ∧ U.heap = h0) (fun _ _ _ _ _ => True) (fun _ U o U' => ∃ v L, o = .returned v ∧ Q5 Z ob us uf ua ub h0 n0 v U'.heap L ∧ FrameEnd U o U' L ({ frames := 3, cells := 1, slots := 2, locals := 41 } : Room).cells ({ frames := 3, cells := 1, slots := 2, locals := 41 } : Room).slots) := by
  refine MetFree.of_bodySF (plainFor_of_name pn_com_example_workflow_to_schedule_workflowtoschedule_core_Lease) hisR ?_
  intro p e s m args below meth c s₁ Bd hml0 hP hK
  obtain ⟨rfl, hZ, hh⟩ := hP
  have hx := Bd.exec
  have hby := Bd.bytes
  have hml : c.maxLocals = 5 := hml0
  have hown : s.vm.findClass "com/example/workflow_to_schedule/workflowtoschedule/core/Lease" = some m.cls := findClass_of_methodNamed Bd.named
  have hnm := (name_of_methodNamed Bd.named Bd.method).1
  have X0 : Stand p l e ({ frames := 3, cells := 1, slots := 2, locals := 41 } : Room) s m #[(.ref ob), (.double (FP.l2d ua)), (.double (FP.l2d ub))] below meth c s₁ [] 0 0 := Stand.of_body Bd
  have e0 : s₁.heap = h0 := by rw [← hh, Bd.state]; rfl
  have N0 := Fr.nil n0
  refine own_all ?_
  intro P hfin
  refine own_cast (ef_5 m ob (FP.l2d ua) (FP.l2d ub)) ?_
  show own_Go p e below P s₁ (mkF m 0 #[.val (.ref ob), .val (.double (FP.l2d ua)), .second, .val (.double (FP.l2d ub)), .second] [])
  obtain ⟨T1, h1, X1, e1, E1, A1, D1, -, st1⟩ := newO X0 hx hZ hown (hw _ (List.mem_of_getElem? (i := 28) rfl)) (hw _ (List.mem_of_getElem? (i := 1) rfl)) (hw _ (List.mem_of_getElem? (i := 2) rfl)) e0 (g := (mkF m 0 #[.val (.ref ob), .val (.double (FP.l2d ua)), .second, .val (.double (FP.l2d ub)), .second] [])) rfl (hb hby d5_0) (by decide) (by decide)
  obtain ⟨b1, g1⟩ : ∃ z, z = h0.size := ⟨_, rfl⟩
  rw [← g1] at A1 D1 st1
  have g_b1 : n0 ≤ b1 := Nat.le_trans Z0 (Nat.le_of_eq g1.symm)
  have sz_b1 : h0.size ≤ b1 := Nat.le_trans (Keep.refl h0 []).1 (Nat.le_of_eq g1.symm)
  have E_b1 := A1
  have F_start_b1 : Fld Z h1 b1 "com/example/workflow_to_schedule/workflowtoschedule/core/Lease" "start" "D" (.double (0 : UInt64)) := D1 (Or.inr (hw _ (List.mem_of_getElem? (i := 15) rfl))) (ty := .double) (by decide)
  have F_finish_b1 : Fld Z h1 b1 "com/example/workflow_to_schedule/workflowtoschedule/core/Lease" "finish" "D" (.double (0 : UInt64)) := D1 (Or.inr (hw _ (List.mem_of_getElem? (i := 17) rfl))) (ty := .double) (by decide)
  refine own_step st1 ?_
  show own_Go p e below P T1 (mkF m 3 #[.val (.ref ob), .val (.double (FP.l2d ua)), .second, .val (.double (FP.l2d ub)), .second] [(.ref b1)])
  refine own_step (fun _ k => XS.dup X1.here hx rfl (hb hby d5_3) rfl rfl k) ?_
  show own_Go p e below P T1 (mkF m 4 #[.val (.ref ob), .val (.double (FP.l2d ua)), .second, .val (.double (FP.l2d ub)), .second] [(.ref b1), (.ref b1)])
  refine own_step (fun _ k => XS.aloadN X1.here hx rfl (hb hby d5_4) rfl rfl k) ?_
  show own_Go p e below P T1 (mkF m 5 #[.val (.ref ob), .val (.double (FP.l2d ua)), .second, .val (.double (FP.l2d ub)), .second] [(.ref ob), (.ref b1), (.ref b1)])
  obtain ⟨T2, X2, e2, st2⟩ := getF X1 hx hZ hown (host := "") (Or.inl (hw _ (List.mem_of_getElem? (i := 14) rfl))) Via.refl e1 (F_start_ob.ext E1) (g := (mkF m 5 #[.val (.ref ob), .val (.double (FP.l2d ua)), .second, .val (.double (FP.l2d ub)), .second] [(.ref ob), (.ref b1), (.ref b1)])) rfl rfl (hb hby d5_5)
  refine own_step st2 ?_
  show own_Go p e below P T2 (mkF m 8 #[.val (.ref ob), .val (.double (FP.l2d ua)), .second, .val (.double (FP.l2d ub)), .second] [(.double (FP.l2d us)), (.ref b1), (.ref b1)])
  refine own_step (fun _ k => XS.dloadN X2.here hx rfl (hb hby d5_8) rfl k) ?_
  show own_Go p e below P T2 (mkF m 9 #[.val (.ref ob), .val (.double (FP.l2d ua)), .second, .val (.double (FP.l2d ub)), .second] [(.double (FP.l2d ua)), (.double (FP.l2d us)), (.ref b1), (.ref b1)])
  obtain ⟨T3, X3, e3, st3⟩ := natS X2 hx hZ (y := (⟨"java/lang/Math", "min", "(DD)D"⟩ : MethodName)) hown (hw _ (List.mem_of_getElem? (i := 29) rfl)) (hw _ (List.mem_of_getElem? (i := 30) rfl)) (hw _ (List.mem_of_getElem? (i := 31) rfl)) (hw _ (List.mem_of_getElem? (i := 32) rfl)) (by decide) e2 (W := 2) (fun c4 => Jvm.Free.Fl.Abs.minD_pays (FP.l2d us) (FP.l2d ua) c4 (by decide) (by decide)) (g := (mkF m 9 #[.val (.ref ob), .val (.double (FP.l2d ua)), .second, .val (.double (FP.l2d ub)), .second] [(.double (FP.l2d ua)), (.double (FP.l2d us)), (.ref b1), (.ref b1)])) rfl (by rw [hml]; rfl) (argsL := [(.double (FP.l2d us)), (.double (FP.l2d ua))]) (rest := [(.ref b1), (.ref b1)]) (lenOf pd__DD__D rfl) rfl (by show 2 * 0 + _ ≤ _; exact Nat.le_of_eq rfl) (hb hby d5_9) (by decide) (by decide) ⟨rfl, nn_w rfl, nn_w rfl⟩ (congrArg Value.double (own_pmn hb_us hb_ua))
  refine own_step st3 ?_
  show own_Go p e below P T3 (mkF m 12 #[.val (.ref ob), .val (.double (FP.l2d ua)), .second, .val (.double (FP.l2d ub)), .second] [(.double (FP.l2d (own_mn us ua))), (.ref b1), (.ref b1)])
  refine own_step (fun _ k => XS.aloadN X3.here hx rfl (hb hby d5_12) rfl rfl k) ?_
  show own_Go p e below P T3 (mkF m 13 #[.val (.ref ob), .val (.double (FP.l2d ua)), .second, .val (.double (FP.l2d ub)), .second] [(.ref ob), (.double (FP.l2d (own_mn us ua))), (.ref b1), (.ref b1)])
  obtain ⟨T4, X4, e4, st4⟩ := getF X3 hx hZ hown (host := "") (Or.inl (hw _ (List.mem_of_getElem? (i := 16) rfl))) Via.refl e3 (F_finish_ob.ext E1) (g := (mkF m 13 #[.val (.ref ob), .val (.double (FP.l2d ua)), .second, .val (.double (FP.l2d ub)), .second] [(.ref ob), (.double (FP.l2d (own_mn us ua))), (.ref b1), (.ref b1)])) rfl rfl (hb hby d5_13)
  refine own_step st4 ?_
  show own_Go p e below P T4 (mkF m 16 #[.val (.ref ob), .val (.double (FP.l2d ua)), .second, .val (.double (FP.l2d ub)), .second] [(.double (FP.l2d uf)), (.double (FP.l2d (own_mn us ua))), (.ref b1), (.ref b1)])
  refine own_step (fun _ k => XS.dloadN X4.here hx rfl (hb hby d5_16) rfl k) ?_
  show own_Go p e below P T4 (mkF m 17 #[.val (.ref ob), .val (.double (FP.l2d ua)), .second, .val (.double (FP.l2d ub)), .second] [(.double (FP.l2d ub)), (.double (FP.l2d uf)), (.double (FP.l2d (own_mn us ua))), (.ref b1), (.ref b1)])
  obtain ⟨T5, X5, e5, st5⟩ := natS X4 hx hZ (y := (⟨"java/lang/Math", "max", "(DD)D"⟩ : MethodName)) hown (hw _ (List.mem_of_getElem? (i := 33) rfl)) (hw _ (List.mem_of_getElem? (i := 34) rfl)) (hw _ (List.mem_of_getElem? (i := 31) rfl)) (hw _ (List.mem_of_getElem? (i := 35) rfl)) (by decide) e4 (W := 4) (fun c4 => Jvm.Free.Fl.Abs.maxD_pays (FP.l2d uf) (FP.l2d ub) c4 (by decide) (by decide)) (g := (mkF m 17 #[.val (.ref ob), .val (.double (FP.l2d ua)), .second, .val (.double (FP.l2d ub)), .second] [(.double (FP.l2d ub)), (.double (FP.l2d uf)), (.double (FP.l2d (own_mn us ua))), (.ref b1), (.ref b1)])) rfl (by rw [hml]; rfl) (argsL := [(.double (FP.l2d uf)), (.double (FP.l2d ub))]) (rest := [(.double (FP.l2d (own_mn us ua))), (.ref b1), (.ref b1)]) (lenOf pd__DD__D rfl) rfl (by show 2 * 0 + _ ≤ _; exact Nat.le_of_eq rfl) (hb hby d5_17) (by decide) (by decide) ⟨rfl, nn_w rfl, nn_w rfl⟩ (congrArg Value.double (own_pmx hb_uf hb_ub))
  refine own_step st5 ?_
  show own_Go p e below P T5 (mkF m 20 #[.val (.ref ob), .val (.double (FP.l2d ua)), .second, .val (.double (FP.l2d ub)), .second] [(.double (FP.l2d (own_mx uf ub))), (.double (FP.l2d (own_mn us ua))), (.ref b1), (.ref b1)])
  obtain ⟨_, _, ⟨T6, L6, k6, n6⟩, -, X6, ⟨Lc6, hQ6, l6, y6, z6⟩, st6⟩ := X5.specialBack hx (y := (⟨"com/example/workflow_to_schedule/workflowtoschedule/core/Lease", "<init>", "(DD)V"⟩ : MethodName)) rfl hown (mvT hZ (hw _ (List.mem_of_getElem? (i := 36) rfl))) (mvT hZ (hw _ (List.mem_of_getElem? (i := 4) rfl))) (mvT hZ (hw _ (List.mem_of_getElem? (i := 5) rfl))) (by decide) (backOf (W := 1) (rm1 l Z a0 hw [] b1 (FP.l2d (own_mn us ua)) (FP.l2d (own_mx uf ub)) h1 n0 (Nat.le_trans Z0 E1.1) E_b1 F_start_b1 F_finish_b1 g_b1) hZ (hw _ (List.mem_of_getElem? (i := 5) rfl)) (hw _ (List.mem_of_getElem? (i := 2) rfl)) (by decide) (by decide)) (g := (mkF m 20 #[.val (.ref ob), .val (.double (FP.l2d ua)), .second, .val (.double (FP.l2d ub)), .second] [(.double (FP.l2d (own_mx uf ub))), (.double (FP.l2d (own_mn us ua))), (.ref b1), (.ref b1)])) rfl (by rw [hml]; rfl) (Steps.refl _) (a := b1) (argsL := [(.double (FP.l2d (own_mn us ua))), (.double (FP.l2d (own_mx uf ub)))]) (rest := [(.ref b1)]) (lenOf pd__DD__V rfl) rfl (by show 2 * 0 + _ ≤ _; exact Nat.le_of_eq rfl) (hb hby d5_20) (fun _ _ => ⟨rfl, e5, (by decide : 1 + 0 ≤ _), (by decide : 2 + 0 ≤ _)⟩)
  dsimp only [Pt.U, Pt.locs, Pt.cells, Pt.slots] at X6 l6 y6 z6 st6 hQ6
  subst l6 y6 z6
  obtain ⟨rfl, N6q, K6, E6_o, Fc6_start, Fc6_finish⟩ := hQ6
  have N6 := Fr.app N0 N6q
  refine own_step (fun _ k => st6.trans k) ?_
  show own_Go p e below P T6 (mkF m 23 #[.val (.ref ob), .val (.double (FP.l2d ua)), .second, .val (.double (FP.l2d ub)), .second] [(.ref b1)])
  obtain ⟨fs, hr, hrun, hended, hW, hsame⟩ := X6.leave (v := some (.ref b1)) (fun h => by rw [Bd.returns] at h; cases h)
  refine ⟨_, _, retOut X6 hx (t := (.object "com/example/workflow_to_schedule/workflowtoschedule/core/Lease")) Bd.returns rfl (Or.inr (Or.inr (Or.inr (Or.inr ⟨rfl, rfl, rfl⟩)))) (hb hby d5_23) hr, hrun, hended, hfin _ _ ⟨_, _, rfl, ?_, ⟨_, rfl⟩, hW, hsame.mono (by decide) (by decide)⟩⟩
  show Q5 Z ob us uf ua ub h0 n0 (some (.ref b1)) T6.heap _
  exact ⟨b1, rfl, N6, sz_b1, (((Keep.refl h0 []).ext E1).trans K6 (allS (Or.inr sz_b1) all0)), E6_o, Fc6_start, Fc6_finish⟩
theorem ef_8 (m : MethodId) (x0 : Addr) : entryFrame m #[(.ref x0)] 1 = mkF m 0 #[.val (.ref x0)] [] := by first | (simp [entryFrame, mkF, argsToLocals, Value.category]; done) | rfl
theorem d8_0 : decode prog_18_method_8_code 0 = .ok (.aload_n 0, 1) := by decide +kernel
theorem d8_1 : decode prog_18_method_8_code 1 = .ok (.getfield 7, 3) := by decide +kernel
theorem d8_4 : decode prog_18_method_8_code 4 = .ok (.dreturn, 1) := by decide +kernel
def Q8 (Z : State) (ob : Addr) (fv : UInt64) (h0 : Heap) (n0 : Nat) (v : Option Value) (h : Heap) (L : List Loc) : Prop := v = some (.double fv) ∧ Fr n0 L ∧ h = h0
set_option maxRecDepth 65536 in
set_option maxHeartbeats 40000000 in
theorem rm8 (l : Launch) (Z : State) (a0 : Array Value) (hw : ∀ d ∈ tables_1, d.before a0 Z = true) (ws : List Jvm.Cond) (ob : Addr) (fv : UInt64) (h0 : Heap) (n0 : Nat) (Z0 : n0 ≤ h0.size) (F_start_ob : Fld Z h0 ob "com/example/workflow_to_schedule/workflowtoschedule/core/Lease" "start" "D" (.double fv)) :
    MetFree l (⟨"com/example/workflow_to_schedule/workflowtoschedule/core/Lease", "start", "()D"⟩ : MethodName) (head1 (Jvm.Cond.code (⟨"com/example/workflow_to_schedule/workflowtoschedule/core/Lease", "start", "()D"⟩ : MethodName) prog_18_method_8_code 1 (some .double) :: ws) ({ frames := 0, cells := 0, slots := 0, locals := 0 } : Room)) (fun a U => a = #[(.ref ob)] ∧ Z.Warmed39 U.vm ∧ U.heap = h0) (fun _ _ _ _ _ => True) (fun _ U o U' => ∃ v L, o = .returned v ∧ Q8 Z ob fv h0 n0 v U'.heap L ∧ FrameEnd U o U' L ({ frames := 0, cells := 0, slots := 0, locals := 0 } : Room).cells ({ frames := 0, cells := 0, slots := 0, locals := 0 } : Room).slots) := by
  refine MetFree.of_bodySF (plainFor_of_name pn_com_example_workflow_to_schedule_workflowtoschedule_core_Lease) hisR ?_
  intro p e s m args below meth c s₁ Bd hml0 hP hK
  obtain ⟨rfl, hZ, hh⟩ := hP
  have hx := Bd.exec
  have hby := Bd.bytes
  have hml : c.maxLocals = 1 := hml0
  have hown : s.vm.findClass "com/example/workflow_to_schedule/workflowtoschedule/core/Lease" = some m.cls := findClass_of_methodNamed Bd.named
  have hnm := (name_of_methodNamed Bd.named Bd.method).1
  have X0 : Stand p l e ({ frames := 0, cells := 0, slots := 0, locals := 0 } : Room) s m #[(.ref ob)] below meth c s₁ [] 0 0 := Stand.of_body Bd
  have e0 : s₁.heap = h0 := by rw [← hh, Bd.state]; rfl
  have N0 := Fr.nil n0
  refine own_all ?_
  intro P hfin
  refine own_cast (ef_8 m ob) ?_
  show own_Go p e below P s₁ (mkF m 0 #[.val (.ref ob)] [])
  refine own_step (fun _ k => XS.aloadN X0.here hx rfl (hb hby d8_0) rfl rfl k) ?_
  show own_Go p e below P s₁ (mkF m 1 #[.val (.ref ob)] [(.ref ob)])
  obtain ⟨T1, X1, e1, st1⟩ := getF X0 hx hZ hown (host := "") (Or.inl (hw _ (List.mem_of_getElem? (i := 14) rfl))) Via.refl e0 F_start_ob (g := (mkF m 1 #[.val (.ref ob)] [(.ref ob)])) rfl rfl (hb hby d8_1)
  refine own_step st1 ?_
  show own_Go p e below P T1 (mkF m 4 #[.val (.ref ob)] [(.double fv)])
  obtain ⟨fs, hr, hrun, hended, hW, hsame⟩ := X1.leave (v := some (.double fv)) (fun h => by rw [Bd.returns] at h; cases h)
  refine ⟨_, _, retOut X1 hx (t := .double) Bd.returns rfl (Or.inr (Or.inr (Or.inl ⟨rfl, rfl, _, rfl⟩))) (hb hby d8_4) hr, hrun, hended, hfin _ _ ⟨_, _, rfl, ?_, ⟨_, rfl⟩, hW, hsame.mono (by decide) (by decide)⟩⟩
  show Q8 Z ob fv h0 n0 (some (.double fv)) T1.heap _
  rw [e1]
  exact ⟨rfl, N0, rfl⟩
theorem ef_9 (m : MethodId) (x0 : Addr) : entryFrame m #[(.ref x0)] 1 = mkF m 0 #[.val (.ref x0)] [] := by first | (simp [entryFrame, mkF, argsToLocals, Value.category]; done) | rfl
theorem d9_0 : decode prog_18_method_9_code 0 = .ok (.aload_n 0, 1) := by decide +kernel
theorem d9_1 : decode prog_18_method_9_code 1 = .ok (.getfield 13, 3) := by decide +kernel
theorem d9_4 : decode prog_18_method_9_code 4 = .ok (.dreturn, 1) := by decide +kernel
def Q9 (Z : State) (ob : Addr) (fv : UInt64) (h0 : Heap) (n0 : Nat) (v : Option Value) (h : Heap) (L : List Loc) : Prop := v = some (.double fv) ∧ Fr n0 L ∧ h = h0
set_option maxRecDepth 65536 in
set_option maxHeartbeats 40000000 in
theorem rm9 (l : Launch) (Z : State) (a0 : Array Value) (hw : ∀ d ∈ tables_1, d.before a0 Z = true) (ws : List Jvm.Cond) (ob : Addr) (fv : UInt64) (h0 : Heap) (n0 : Nat) (Z0 : n0 ≤ h0.size) (F_finish_ob : Fld Z h0 ob "com/example/workflow_to_schedule/workflowtoschedule/core/Lease" "finish" "D" (.double fv)) :
    MetFree l (⟨"com/example/workflow_to_schedule/workflowtoschedule/core/Lease", "finish", "()D"⟩ : MethodName) (head1 (Jvm.Cond.code (⟨"com/example/workflow_to_schedule/workflowtoschedule/core/Lease", "finish", "()D"⟩ : MethodName) prog_18_method_9_code 1 (some .double) :: ws) ({ frames := 0, cells := 0, slots := 0, locals := 0 } : Room)) (fun a U => a = #[(.ref ob)] ∧ Z.Warmed39 U.vm ∧ U.heap = h0) (fun _ _ _ _ _ => True) (fun _ U o U' => ∃ v L, o = .returned v ∧ Q9 Z ob fv h0 n0 v U'.heap L ∧ FrameEnd U o U' L ({ frames := 0, cells := 0, slots := 0, locals := 0 } : Room).cells ({ frames := 0, cells := 0, slots := 0, locals := 0 } : Room).slots) := by
  refine MetFree.of_bodySF (plainFor_of_name pn_com_example_workflow_to_schedule_workflowtoschedule_core_Lease) hisR ?_
  intro p e s m args below meth c s₁ Bd hml0 hP hK
  obtain ⟨rfl, hZ, hh⟩ := hP
  have hx := Bd.exec
  have hby := Bd.bytes
  have hml : c.maxLocals = 1 := hml0
  have hown : s.vm.findClass "com/example/workflow_to_schedule/workflowtoschedule/core/Lease" = some m.cls := findClass_of_methodNamed Bd.named
  have hnm := (name_of_methodNamed Bd.named Bd.method).1
  have X0 : Stand p l e ({ frames := 0, cells := 0, slots := 0, locals := 0 } : Room) s m #[(.ref ob)] below meth c s₁ [] 0 0 := Stand.of_body Bd
  have e0 : s₁.heap = h0 := by rw [← hh, Bd.state]; rfl
  have N0 := Fr.nil n0
  refine own_all ?_
  intro P hfin
  refine own_cast (ef_9 m ob) ?_
  show own_Go p e below P s₁ (mkF m 0 #[.val (.ref ob)] [])
  refine own_step (fun _ k => XS.aloadN X0.here hx rfl (hb hby d9_0) rfl rfl k) ?_
  show own_Go p e below P s₁ (mkF m 1 #[.val (.ref ob)] [(.ref ob)])
  obtain ⟨T1, X1, e1, st1⟩ := getF X0 hx hZ hown (host := "") (Or.inl (hw _ (List.mem_of_getElem? (i := 16) rfl))) Via.refl e0 F_finish_ob (g := (mkF m 1 #[.val (.ref ob)] [(.ref ob)])) rfl rfl (hb hby d9_1)
  refine own_step st1 ?_
  show own_Go p e below P T1 (mkF m 4 #[.val (.ref ob)] [(.double fv)])
  obtain ⟨fs, hr, hrun, hended, hW, hsame⟩ := X1.leave (v := some (.double fv)) (fun h => by rw [Bd.returns] at h; cases h)
  refine ⟨_, _, retOut X1 hx (t := .double) Bd.returns rfl (Or.inr (Or.inr (Or.inl ⟨rfl, rfl, _, rfl⟩))) (hb hby d9_4) hr, hrun, hended, hfin _ _ ⟨_, _, rfl, ?_, ⟨_, rfl⟩, hW, hsame.mono (by decide) (by decide)⟩⟩
  show Q9 Z ob fv h0 n0 (some (.double fv)) T1.heap _
  rw [e1]
  exact ⟨rfl, N0, rfl⟩
theorem ef_0 (m : MethodId) (x0 : Int32) (x1 : Int32) (x2 : Int32) (x3 : Int32) : entryFrame m #[(.int x0), (.int x1), (.int x2), (.int x3)] maxLocals = mkF m 0 #[.val (.int x0), .val (.int x1), .val (.int x2), .val (.int x3), .unset, .unset, .unset, .unset, .unset, .unset, .unset, .unset, .unset, .unset, .unset, .unset, .unset] [] := by first | (simp [entryFrame, mkF, argsToLocals, Value.category, maxLocals]; done) | rfl
theorem pn_com_example_workflow_to_schedule_workflowtoschedule_core_LeaseCoversPinLaw : plainName "com/example/workflow_to_schedule/workflowtoschedule/core/LeaseCoversPinLaw" = true := by first | (simp [plainName, overriddenIn]; done) | decide +kernel
theorem pd__DD__Z : parseMethodDescriptor "(DD)Z" = some ⟨[.double, .double], some .boolean⟩ := by decide +kernel
theorem pd__DD__Lcom_example_workflow_to_schedule_workflowtoschedule_core_Lease : parseMethodDescriptor "(DD)Lcom/example/workflow_to_schedule/workflowtoschedule/core/Lease;" = some ⟨[.double, .double], some (.object "com/example/workflow_to_schedule/workflowtoschedule/core/Lease")⟩ := by decide +kernel
theorem pd____D : parseMethodDescriptor "()D" = some ⟨[], some .double⟩ := by decide +kernel
def Q0 (Z : State) (p0 : Int32) (p1 : Int32) (p2 : Int32) (p3 : Int32) (h0 : Heap) (n0 : Nat) (v : Option Value) (h : Heap) (L : List Loc) : Prop := v = some (.int 1) ∧ Fr n0 L
set_option maxRecDepth 65536 in
set_option maxHeartbeats 40000000 in
theorem rm0 (l : Launch) (Z : State) (a0 : Array Value) (hw : ∀ d ∈ tables_1, d.before a0 Z = true) (ws : List Jvm.Cond) (p0 : Int32) (p1 : Int32) (p2 : Int32) (p3 : Int32) (h0 : Heap) (n0 : Nat) (Z0 : n0 ≤ h0.size) :
    MetFree l x (head1 (Jvm.Cond.code x code maxLocals ret :: ws) room_1) (fun a U => a = #[(.int p0), (.int p1), (.int p2), (.int p3)] ∧ Z.Warmed39 U.vm ∧ U.heap = h0) (fun _ _ _ _ _ => True) (fun _ U o U' => ∃ v L, o = .returned v ∧ Q0 Z p0 p1 p2 p3 h0 n0 v U'.heap L ∧ FrameEnd U o U' L room_1.cells room_1.slots) := by
  refine MetFree.of_bodySF (plainFor_of_name pn_com_example_workflow_to_schedule_workflowtoschedule_core_LeaseCoversPinLaw) hisR ?_
  intro p e s m args below meth c s₁ Bd hml0 hP hK
  obtain ⟨rfl, hZ, hh⟩ := hP
  have hx := Bd.exec
  have hby := Bd.bytes
  have hml : c.maxLocals = 17 := hml0
  have hown : s.vm.findClass "com/example/workflow_to_schedule/workflowtoschedule/core/LeaseCoversPinLaw" = some m.cls := findClass_of_methodNamed Bd.named
  have hnm := (name_of_methodNamed Bd.named Bd.method).1
  have X0 : Stand p l e room_1 s m #[(.int p0), (.int p1), (.int p2), (.int p3)] below meth c s₁ [] 0 0 := Stand.of_body Bd
  have e0 : s₁.heap = h0 := by rw [← hh, Bd.state]; rfl
  have N0 := Fr.nil n0
  refine own_all ?_
  intro P hfin
  refine own_cast (ef_0 m p0 p1 p2 p3) ?_
  show own_Go p e below P s₁ (mkF m 0 #[.val (.int p0), .val (.int p1), .val (.int p2), .val (.int p3), .unset, .unset, .unset, .unset, .unset, .unset, .unset, .unset, .unset, .unset, .unset, .unset, .unset] [])
  refine own_step (fun _ k => XS.iloadN X0.here hx rfl (hb hby at_0) rfl k) ?_
  show own_Go p e below P s₁ (mkF m 1 #[.val (.int p0), .val (.int p1), .val (.int p2), .val (.int p3), .unset, .unset, .unset, .unset, .unset, .unset, .unset, .unset, .unset, .unset, .unset, .unset, .unset] [(.int p0)])
  refine own_step (fun _ k => XS.i2dS X0.here hx rfl (hb hby at_1) rfl (i2d_w _) k) ?_
  show own_Go p e below P s₁ (mkF m 2 #[.val (.int p0), .val (.int p1), .val (.int p2), .val (.int p3), .unset, .unset, .unset, .unset, .unset, .unset, .unset, .unset, .unset, .unset, .unset, .unset, .unset] [(.double (FP.l2d p0.toInt64))])
  refine own_step (fun _ k => XS.dstore X0.here hx rfl (hb hby at_2) rfl (l' := #[.val (.int p0), .val (.int p1), .val (.int p2), .val (.int p3), .val (.double (FP.l2d p0.toInt64)), .second, .unset, .unset, .unset, .unset, .unset, .unset, .unset, .unset, .unset, .unset, .unset]) rfl k) ?_
  show own_Go p e below P s₁ (mkF m 4 #[.val (.int p0), .val (.int p1), .val (.int p2), .val (.int p3), .val (.double (FP.l2d p0.toInt64)), .second, .unset, .unset, .unset, .unset, .unset, .unset, .unset, .unset, .unset, .unset, .unset] [])
  refine own_step (fun _ k => XS.iloadN X0.here hx rfl (hb hby at_4) rfl k) ?_
  show own_Go p e below P s₁ (mkF m 5 #[.val (.int p0), .val (.int p1), .val (.int p2), .val (.int p3), .val (.double (FP.l2d p0.toInt64)), .second, .unset, .unset, .unset, .unset, .unset, .unset, .unset, .unset, .unset, .unset, .unset] [(.int p1)])
  refine own_step (fun _ k => XS.i2dS X0.here hx rfl (hb hby at_5) rfl (i2d_w _) k) ?_
  show own_Go p e below P s₁ (mkF m 6 #[.val (.int p0), .val (.int p1), .val (.int p2), .val (.int p3), .val (.double (FP.l2d p0.toInt64)), .second, .unset, .unset, .unset, .unset, .unset, .unset, .unset, .unset, .unset, .unset, .unset] [(.double (FP.l2d p1.toInt64))])
  refine own_step (fun _ k => XS.dstore X0.here hx rfl (hb hby at_6) rfl (l' := #[.val (.int p0), .val (.int p1), .val (.int p2), .val (.int p3), .val (.double (FP.l2d p0.toInt64)), .second, .val (.double (FP.l2d p1.toInt64)), .second, .unset, .unset, .unset, .unset, .unset, .unset, .unset, .unset, .unset]) rfl k) ?_
  show own_Go p e below P s₁ (mkF m 8 #[.val (.int p0), .val (.int p1), .val (.int p2), .val (.int p3), .val (.double (FP.l2d p0.toInt64)), .second, .val (.double (FP.l2d p1.toInt64)), .second, .unset, .unset, .unset, .unset, .unset, .unset, .unset, .unset, .unset] [])
  refine own_step (fun _ k => XS.iloadN X0.here hx rfl (hb hby at_8) rfl k) ?_
  show own_Go p e below P s₁ (mkF m 9 #[.val (.int p0), .val (.int p1), .val (.int p2), .val (.int p3), .val (.double (FP.l2d p0.toInt64)), .second, .val (.double (FP.l2d p1.toInt64)), .second, .unset, .unset, .unset, .unset, .unset, .unset, .unset, .unset, .unset] [(.int p2)])
  refine own_step (fun _ k => XS.i2dS X0.here hx rfl (hb hby at_9) rfl (i2d_w _) k) ?_
  show own_Go p e below P s₁ (mkF m 10 #[.val (.int p0), .val (.int p1), .val (.int p2), .val (.int p3), .val (.double (FP.l2d p0.toInt64)), .second, .val (.double (FP.l2d p1.toInt64)), .second, .unset, .unset, .unset, .unset, .unset, .unset, .unset, .unset, .unset] [(.double (FP.l2d p2.toInt64))])
  refine own_step (fun _ k => XS.dstore X0.here hx rfl (hb hby at_10) rfl (l' := #[.val (.int p0), .val (.int p1), .val (.int p2), .val (.int p3), .val (.double (FP.l2d p0.toInt64)), .second, .val (.double (FP.l2d p1.toInt64)), .second, .val (.double (FP.l2d p2.toInt64)), .second, .unset, .unset, .unset, .unset, .unset, .unset, .unset]) rfl k) ?_
  show own_Go p e below P s₁ (mkF m 12 #[.val (.int p0), .val (.int p1), .val (.int p2), .val (.int p3), .val (.double (FP.l2d p0.toInt64)), .second, .val (.double (FP.l2d p1.toInt64)), .second, .val (.double (FP.l2d p2.toInt64)), .second, .unset, .unset, .unset, .unset, .unset, .unset, .unset] [])
  refine own_step (fun _ k => XS.iloadN X0.here hx rfl (hb hby at_12) rfl k) ?_
  show own_Go p e below P s₁ (mkF m 13 #[.val (.int p0), .val (.int p1), .val (.int p2), .val (.int p3), .val (.double (FP.l2d p0.toInt64)), .second, .val (.double (FP.l2d p1.toInt64)), .second, .val (.double (FP.l2d p2.toInt64)), .second, .unset, .unset, .unset, .unset, .unset, .unset, .unset] [(.int p3)])
  refine own_step (fun _ k => XS.i2dS X0.here hx rfl (hb hby at_13) rfl (i2d_w _) k) ?_
  show own_Go p e below P s₁ (mkF m 14 #[.val (.int p0), .val (.int p1), .val (.int p2), .val (.int p3), .val (.double (FP.l2d p0.toInt64)), .second, .val (.double (FP.l2d p1.toInt64)), .second, .val (.double (FP.l2d p2.toInt64)), .second, .unset, .unset, .unset, .unset, .unset, .unset, .unset] [(.double (FP.l2d p3.toInt64))])
  refine own_step (fun _ k => XS.dstore X0.here hx rfl (hb hby at_14) rfl (l' := #[.val (.int p0), .val (.int p1), .val (.int p2), .val (.int p3), .val (.double (FP.l2d p0.toInt64)), .second, .val (.double (FP.l2d p1.toInt64)), .second, .val (.double (FP.l2d p2.toInt64)), .second, .val (.double (FP.l2d p3.toInt64)), .second, .unset, .unset, .unset, .unset, .unset]) rfl k) ?_
  show own_Go p e below P s₁ (mkF m 16 #[.val (.int p0), .val (.int p1), .val (.int p2), .val (.int p3), .val (.double (FP.l2d p0.toInt64)), .second, .val (.double (FP.l2d p1.toInt64)), .second, .val (.double (FP.l2d p2.toInt64)), .second, .val (.double (FP.l2d p3.toInt64)), .second, .unset, .unset, .unset, .unset, .unset] [])
  obtain ⟨T1, h1, X1, e1, E1, A1, D1, -, st1⟩ := newO X0 hx hZ hown (hw _ (List.mem_of_getElem? (i := 0) rfl)) (hw _ (List.mem_of_getElem? (i := 1) rfl)) (hw _ (List.mem_of_getElem? (i := 2) rfl)) e0 (g := (mkF m 16 #[.val (.int p0), .val (.int p1), .val (.int p2), .val (.int p3), .val (.double (FP.l2d p0.toInt64)), .second, .val (.double (FP.l2d p1.toInt64)), .second, .val (.double (FP.l2d p2.toInt64)), .second, .val (.double (FP.l2d p3.toInt64)), .second, .unset, .unset, .unset, .unset, .unset] [])) rfl (hb hby at_16) (by decide) (by decide)
  obtain ⟨b1, g1⟩ : ∃ z, z = h0.size := ⟨_, rfl⟩
  rw [← g1] at A1 D1 st1
  have g_b1 : n0 ≤ b1 := Nat.le_trans Z0 (Nat.le_of_eq g1.symm)
  have sz_b1 : h0.size ≤ b1 := Nat.le_trans (Keep.refl h0 []).1 (Nat.le_of_eq g1.symm)
  have E_b1 := A1
  have F_start_b1 : Fld Z h1 b1 "com/example/workflow_to_schedule/workflowtoschedule/core/Lease" "start" "D" (.double (0 : UInt64)) := D1 (Or.inr (hw _ (List.mem_of_getElem? (i := 15) rfl))) (ty := .double) (by decide)
  have F_finish_b1 : Fld Z h1 b1 "com/example/workflow_to_schedule/workflowtoschedule/core/Lease" "finish" "D" (.double (0 : UInt64)) := D1 (Or.inr (hw _ (List.mem_of_getElem? (i := 17) rfl))) (ty := .double) (by decide)
  refine own_step st1 ?_
  show own_Go p e below P T1 (mkF m 19 #[.val (.int p0), .val (.int p1), .val (.int p2), .val (.int p3), .val (.double (FP.l2d p0.toInt64)), .second, .val (.double (FP.l2d p1.toInt64)), .second, .val (.double (FP.l2d p2.toInt64)), .second, .val (.double (FP.l2d p3.toInt64)), .second, .unset, .unset, .unset, .unset, .unset] [(.ref b1)])
  refine own_step (fun _ k => XS.dup X1.here hx rfl (hb hby at_19) rfl rfl k) ?_
  show own_Go p e below P T1 (mkF m 20 #[.val (.int p0), .val (.int p1), .val (.int p2), .val (.int p3), .val (.double (FP.l2d p0.toInt64)), .second, .val (.double (FP.l2d p1.toInt64)), .second, .val (.double (FP.l2d p2.toInt64)), .second, .val (.double (FP.l2d p3.toInt64)), .second, .unset, .unset, .unset, .unset, .unset] [(.ref b1), (.ref b1)])
  refine own_step (fun _ k => XS.dload X1.here hx rfl (hb hby at_20) rfl k) ?_
  show own_Go p e below P T1 (mkF m 22 #[.val (.int p0), .val (.int p1), .val (.int p2), .val (.int p3), .val (.double (FP.l2d p0.toInt64)), .second, .val (.double (FP.l2d p1.toInt64)), .second, .val (.double (FP.l2d p2.toInt64)), .second, .val (.double (FP.l2d p3.toInt64)), .second, .unset, .unset, .unset, .unset, .unset] [(.double (FP.l2d p0.toInt64)), (.ref b1), (.ref b1)])
  refine own_step (fun _ k => XS.dload X1.here hx rfl (hb hby at_22) rfl k) ?_
  show own_Go p e below P T1 (mkF m 24 #[.val (.int p0), .val (.int p1), .val (.int p2), .val (.int p3), .val (.double (FP.l2d p0.toInt64)), .second, .val (.double (FP.l2d p1.toInt64)), .second, .val (.double (FP.l2d p2.toInt64)), .second, .val (.double (FP.l2d p3.toInt64)), .second, .unset, .unset, .unset, .unset, .unset] [(.double (FP.l2d p1.toInt64)), (.double (FP.l2d p0.toInt64)), (.ref b1), (.ref b1)])
  obtain ⟨_, _, ⟨T2, L2, k2, n2⟩, -, X2, ⟨Lc2, hQ2, l2, y2, z2⟩, st2⟩ := X1.specialBack hx (y := (⟨"com/example/workflow_to_schedule/workflowtoschedule/core/Lease", "<init>", "(DD)V"⟩ : MethodName)) rfl hown (mvT hZ (hw _ (List.mem_of_getElem? (i := 3) rfl))) (mvT hZ (hw _ (List.mem_of_getElem? (i := 4) rfl))) (mvT hZ (hw _ (List.mem_of_getElem? (i := 5) rfl))) (by decide) (backOf (W := 1) (rm1 l Z a0 hw [] b1 (FP.l2d p0.toInt64) (FP.l2d p1.toInt64) h1 n0 (Nat.le_trans Z0 E1.1) E_b1 F_start_b1 F_finish_b1 g_b1) hZ (hw _ (List.mem_of_getElem? (i := 5) rfl)) (hw _ (List.mem_of_getElem? (i := 2) rfl)) (by decide) (by decide)) (g := (mkF m 24 #[.val (.int p0), .val (.int p1), .val (.int p2), .val (.int p3), .val (.double (FP.l2d p0.toInt64)), .second, .val (.double (FP.l2d p1.toInt64)), .second, .val (.double (FP.l2d p2.toInt64)), .second, .val (.double (FP.l2d p3.toInt64)), .second, .unset, .unset, .unset, .unset, .unset] [(.double (FP.l2d p1.toInt64)), (.double (FP.l2d p0.toInt64)), (.ref b1), (.ref b1)])) rfl (by rw [hml]; rfl) (Steps.refl _) (a := b1) (argsL := [(.double (FP.l2d p0.toInt64)), (.double (FP.l2d p1.toInt64))]) (rest := [(.ref b1)]) (lenOf pd__DD__V rfl) rfl (by show 2 * 0 + _ ≤ _; exact Nat.le_of_eq rfl) (hb hby at_24) (fun _ _ => ⟨rfl, e1, (by decide : 1 + 0 ≤ _), (by decide : 2 + 0 ≤ _)⟩)
  dsimp only [Pt.U, Pt.locs, Pt.cells, Pt.slots] at X2 l2 y2 z2 st2 hQ2
  subst l2 y2 z2
  obtain ⟨rfl, N2q, K2, E2_o, Fc2_start, Fc2_finish⟩ := hQ2
  have N2 := Fr.app N0 N2q
  refine own_step (fun _ k => st2.trans k) ?_
  show own_Go p e below P T2 (mkF m 27 #[.val (.int p0), .val (.int p1), .val (.int p2), .val (.int p3), .val (.double (FP.l2d p0.toInt64)), .second, .val (.double (FP.l2d p1.toInt64)), .second, .val (.double (FP.l2d p2.toInt64)), .second, .val (.double (FP.l2d p3.toInt64)), .second, .unset, .unset, .unset, .unset, .unset] [(.ref b1)])
  refine own_step (fun _ k => XS.astore X2.here hx rfl (hb hby at_27) rfl rfl (l' := #[.val (.int p0), .val (.int p1), .val (.int p2), .val (.int p3), .val (.double (FP.l2d p0.toInt64)), .second, .val (.double (FP.l2d p1.toInt64)), .second, .val (.double (FP.l2d p2.toInt64)), .second, .val (.double (FP.l2d p3.toInt64)), .second, .val (.ref b1), .unset, .unset, .unset, .unset]) rfl k) ?_
  show own_Go p e below P T2 (mkF m 29 #[.val (.int p0), .val (.int p1), .val (.int p2), .val (.int p3), .val (.double (FP.l2d p0.toInt64)), .second, .val (.double (FP.l2d p1.toInt64)), .second, .val (.double (FP.l2d p2.toInt64)), .second, .val (.double (FP.l2d p3.toInt64)), .second, .val (.ref b1), .unset, .unset, .unset, .unset] [])
  refine own_step (fun _ k => XS.aload X2.here hx rfl (hb hby at_29) rfl rfl k) ?_
  show own_Go p e below P T2 (mkF m 31 #[.val (.int p0), .val (.int p1), .val (.int p2), .val (.int p3), .val (.double (FP.l2d p0.toInt64)), .second, .val (.double (FP.l2d p1.toInt64)), .second, .val (.double (FP.l2d p2.toInt64)), .second, .val (.double (FP.l2d p3.toInt64)), .second, .val (.ref b1), .unset, .unset, .unset, .unset] [(.ref b1)])
  refine own_step (fun _ k => XS.dload X2.here hx rfl (hb hby at_31) rfl k) ?_
  show own_Go p e below P T2 (mkF m 33 #[.val (.int p0), .val (.int p1), .val (.int p2), .val (.int p3), .val (.double (FP.l2d p0.toInt64)), .second, .val (.double (FP.l2d p1.toInt64)), .second, .val (.double (FP.l2d p2.toInt64)), .second, .val (.double (FP.l2d p3.toInt64)), .second, .val (.ref b1), .unset, .unset, .unset, .unset] [(.double (FP.l2d p2.toInt64)), (.ref b1)])
  refine own_step (fun _ k => XS.dload X2.here hx rfl (hb hby at_33) rfl k) ?_
  show own_Go p e below P T2 (mkF m 35 #[.val (.int p0), .val (.int p1), .val (.int p2), .val (.int p3), .val (.double (FP.l2d p0.toInt64)), .second, .val (.double (FP.l2d p1.toInt64)), .second, .val (.double (FP.l2d p2.toInt64)), .second, .val (.double (FP.l2d p3.toInt64)), .second, .val (.ref b1), .unset, .unset, .unset, .unset] [(.double (FP.l2d p3.toInt64)), (.double (FP.l2d p2.toInt64)), (.ref b1)])
  obtain ⟨cq3, kq3, q3a, q3b, q3c⟩ := isOf hZ rfl E2_o
  obtain ⟨_, _, ⟨T3, L3, k3, n3⟩, -, X3, ⟨Lc3, hQ3, l3, y3, z3⟩, st3⟩ := X2.virtualBack hx (y := (⟨"com/example/workflow_to_schedule/workflowtoschedule/core/Lease", "covers", "(DD)Z"⟩ : MethodName)) (z := (⟨"com/example/workflow_to_schedule/workflowtoschedule/core/Lease", "covers", "(DD)Z"⟩ : MethodName)) hown (mvT hZ (hw _ (List.mem_of_getElem? (i := 18) rfl))) (mvT hZ (hw _ (List.mem_of_getElem? (i := 19) rfl))) (notFace_of_selects (args := #[]) (mvT hZ (hw _ (List.mem_of_getElem? (i := 21) rfl)))) (mvT hZ (hw _ (List.mem_of_getElem? (i := 21) rfl))) (mvT hZ (hw _ (List.mem_of_getElem? (i := 20) rfl))) (by decide) (backOf (W := 0) (rm4 l Z a0 hw [] b1 p0.toInt64 p1.toInt64 p2.toInt64 p3.toInt64 T2.heap n0 (Nat.le_trans (Nat.le_trans Z0 E1.1) K2.1) Fc2_start Fc2_finish (own_b p0) (own_b p1) (own_b p2) (own_b p3)) hZ (hw _ (List.mem_of_getElem? (i := 22) rfl)) (hw _ (List.mem_of_getElem? (i := 2) rfl)) (by decide) (by decide)) q3a q3c (g := (mkF m 35 #[.val (.int p0), .val (.int p1), .val (.int p2), .val (.int p3), .val (.double (FP.l2d p0.toInt64)), .second, .val (.double (FP.l2d p1.toInt64)), .second, .val (.double (FP.l2d p2.toInt64)), .second, .val (.double (FP.l2d p3.toInt64)), .second, .val (.ref b1), .unset, .unset, .unset, .unset] [(.double (FP.l2d p3.toInt64)), (.double (FP.l2d p2.toInt64)), (.ref b1)])) rfl (by rw [hml]; rfl) (Steps.refl _) (argsL := [(.double (FP.l2d p2.toInt64)), (.double (FP.l2d p3.toInt64))]) (rest := []) (lenOf pd__DD__Z rfl) rfl (by show 2 * 0 + _ ≤ _; exact Nat.le_of_eq rfl) (hb hby at_35) (fun _ _ => ⟨rfl, rfl, (by decide : 1 + 0 ≤ _), (by decide : 2 + 0 ≤ _)⟩)
  dsimp only [Pt.U, Pt.locs, Pt.cells, Pt.slots] at X3 l3 y3 z3 st3 hQ3
  subst l3 y3 z3
  obtain ⟨rfl, N3q, e3⟩ := hQ3
  have N3 := Fr.app N2 N3q
  refine own_step (fun _ k => st3.trans k) ?_
  show own_Go p e below P T3 (mkF m 38 #[.val (.int p0), .val (.int p1), .val (.int p2), .val (.int p3), .val (.double (FP.l2d p0.toInt64)), .second, .val (.double (FP.l2d p1.toInt64)), .second, .val (.double (FP.l2d p2.toInt64)), .second, .val (.double (FP.l2d p3.toInt64)), .second, .val (.ref b1), .unset, .unset, .unset, .unset] [(.int (own_cov p0.toInt64 p1.toInt64 p2.toInt64 p3.toInt64))])
  refine own_step (fun _ k => XS.istore X3.here hx rfl (hb hby at_38) rfl (l' := #[.val (.int p0), .val (.int p1), .val (.int p2), .val (.int p3), .val (.double (FP.l2d p0.toInt64)), .second, .val (.double (FP.l2d p1.toInt64)), .second, .val (.double (FP.l2d p2.toInt64)), .second, .val (.double (FP.l2d p3.toInt64)), .second, .val (.ref b1), .val (.int (own_cov p0.toInt64 p1.toInt64 p2.toInt64 p3.toInt64)), .unset, .unset, .unset]) rfl k) ?_
  show own_Go p e below P T3 (mkF m 40 #[.val (.int p0), .val (.int p1), .val (.int p2), .val (.int p3), .val (.double (FP.l2d p0.toInt64)), .second, .val (.double (FP.l2d p1.toInt64)), .second, .val (.double (FP.l2d p2.toInt64)), .second, .val (.double (FP.l2d p3.toInt64)), .second, .val (.ref b1), .val (.int (own_cov p0.toInt64 p1.toInt64 p2.toInt64 p3.toInt64)), .unset, .unset, .unset] [])
  refine own_step (fun _ k => XS.aload X3.here hx rfl (hb hby at_40) rfl rfl k) ?_
  show own_Go p e below P T3 (mkF m 42 #[.val (.int p0), .val (.int p1), .val (.int p2), .val (.int p3), .val (.double (FP.l2d p0.toInt64)), .second, .val (.double (FP.l2d p1.toInt64)), .second, .val (.double (FP.l2d p2.toInt64)), .second, .val (.double (FP.l2d p3.toInt64)), .second, .val (.ref b1), .val (.int (own_cov p0.toInt64 p1.toInt64 p2.toInt64 p3.toInt64)), .unset, .unset, .unset] [(.ref b1)])
  refine own_step (fun _ k => XS.dload X3.here hx rfl (hb hby at_42) rfl k) ?_
  show own_Go p e below P T3 (mkF m 44 #[.val (.int p0), .val (.int p1), .val (.int p2), .val (.int p3), .val (.double (FP.l2d p0.toInt64)), .second, .val (.double (FP.l2d p1.toInt64)), .second, .val (.double (FP.l2d p2.toInt64)), .second, .val (.double (FP.l2d p3.toInt64)), .second, .val (.ref b1), .val (.int (own_cov p0.toInt64 p1.toInt64 p2.toInt64 p3.toInt64)), .unset, .unset, .unset] [(.double (FP.l2d p2.toInt64)), (.ref b1)])
  refine own_step (fun _ k => XS.dload X3.here hx rfl (hb hby at_44) rfl k) ?_
  show own_Go p e below P T3 (mkF m 46 #[.val (.int p0), .val (.int p1), .val (.int p2), .val (.int p3), .val (.double (FP.l2d p0.toInt64)), .second, .val (.double (FP.l2d p1.toInt64)), .second, .val (.double (FP.l2d p2.toInt64)), .second, .val (.double (FP.l2d p3.toInt64)), .second, .val (.ref b1), .val (.int (own_cov p0.toInt64 p1.toInt64 p2.toInt64 p3.toInt64)), .unset, .unset, .unset] [(.double (FP.l2d p3.toInt64)), (.double (FP.l2d p2.toInt64)), (.ref b1)])
  obtain ⟨cq4, kq4, q4a, q4b, q4c⟩ := isOf hZ e3 E2_o
  obtain ⟨_, _, ⟨T4, L4, k4, n4⟩, -, X4, ⟨Lc4, hQ4, l4, y4, z4⟩, st4⟩ := X3.virtualBack hx (y := (⟨"com/example/workflow_to_schedule/workflowtoschedule/core/Lease", "covering", "(DD)Lcom/example/workflow_to_schedule/workflowtoschedule/core/Lease;"⟩ : MethodName)) (z := (⟨"com/example/workflow_to_schedule/workflowtoschedule/core/Lease", "covering", "(DD)Lcom/example/workflow_to_schedule/workflowtoschedule/core/Lease;"⟩ : MethodName)) hown (mvT hZ (hw _ (List.mem_of_getElem? (i := 23) rfl))) (mvT hZ (hw _ (List.mem_of_getElem? (i := 24) rfl))) (notFace_of_selects (args := #[]) (mvT hZ (hw _ (List.mem_of_getElem? (i := 26) rfl)))) (mvT hZ (hw _ (List.mem_of_getElem? (i := 26) rfl))) (mvT hZ (hw _ (List.mem_of_getElem? (i := 25) rfl))) (by decide) (backOf (W := 0) (rm5 l Z a0 hw [] b1 p0.toInt64 p1.toInt64 p2.toInt64 p3.toInt64 T2.heap n0 (Nat.le_trans (Nat.le_trans Z0 E1.1) K2.1) E2_o Fc2_start Fc2_finish (own_b p0) (own_b p1) (own_b p2) (own_b p3)) hZ (hw _ (List.mem_of_getElem? (i := 27) rfl)) (hw _ (List.mem_of_getElem? (i := 2) rfl)) (by decide) (by decide)) q4a q4c (g := (mkF m 46 #[.val (.int p0), .val (.int p1), .val (.int p2), .val (.int p3), .val (.double (FP.l2d p0.toInt64)), .second, .val (.double (FP.l2d p1.toInt64)), .second, .val (.double (FP.l2d p2.toInt64)), .second, .val (.double (FP.l2d p3.toInt64)), .second, .val (.ref b1), .val (.int (own_cov p0.toInt64 p1.toInt64 p2.toInt64 p3.toInt64)), .unset, .unset, .unset] [(.double (FP.l2d p3.toInt64)), (.double (FP.l2d p2.toInt64)), (.ref b1)])) rfl (by rw [hml]; rfl) (Steps.refl _) (argsL := [(.double (FP.l2d p2.toInt64)), (.double (FP.l2d p3.toInt64))]) (rest := []) (lenOf pd__DD__Lcom_example_workflow_to_schedule_workflowtoschedule_core_Lease rfl) rfl (by show 2 * 0 + _ ≤ _; exact Nat.le_of_eq rfl) (hb hby at_46) (fun _ _ => ⟨rfl, e3, (by decide : 1 + 1 ≤ _), (by decide : 2 + 2 ≤ _)⟩)
  dsimp only [Pt.U, Pt.locs, Pt.cells, Pt.slots] at X4 l4 y4 z4 st4 hQ4
  subst l4 y4 z4
  obtain ⟨b4, rfl, N4q, lb4, K4, Eo4, Fs4, Ff4⟩ := hQ4
  have g_b4 : n0 ≤ b4 := Nat.le_trans (Nat.le_trans (Nat.le_trans Z0 E1.1) K2.1) lb4
  have sz_b4 : h0.size ≤ b4 := Nat.le_trans (((Keep.refl h0 []).ext E1).trans K2 (allS (Or.inr sz_b1) all0)).1 lb4
  have N4 := Fr.app N3 N4q
  refine own_step (fun _ k => st4.trans k) ?_
  show own_Go p e below P T4 (mkF m 49 #[.val (.int p0), .val (.int p1), .val (.int p2), .val (.int p3), .val (.double (FP.l2d p0.toInt64)), .second, .val (.double (FP.l2d p1.toInt64)), .second, .val (.double (FP.l2d p2.toInt64)), .second, .val (.double (FP.l2d p3.toInt64)), .second, .val (.ref b1), .val (.int (own_cov p0.toInt64 p1.toInt64 p2.toInt64 p3.toInt64)), .unset, .unset, .unset] [(.ref b4)])
  refine own_step (fun _ k => XS.astore X4.here hx rfl (hb hby at_49) rfl rfl (l' := #[.val (.int p0), .val (.int p1), .val (.int p2), .val (.int p3), .val (.double (FP.l2d p0.toInt64)), .second, .val (.double (FP.l2d p1.toInt64)), .second, .val (.double (FP.l2d p2.toInt64)), .second, .val (.double (FP.l2d p3.toInt64)), .second, .val (.ref b1), .val (.int (own_cov p0.toInt64 p1.toInt64 p2.toInt64 p3.toInt64)), .val (.ref b4), .unset, .unset]) rfl k) ?_
  show own_Go p e below P T4 (mkF m 51 #[.val (.int p0), .val (.int p1), .val (.int p2), .val (.int p3), .val (.double (FP.l2d p0.toInt64)), .second, .val (.double (FP.l2d p1.toInt64)), .second, .val (.double (FP.l2d p2.toInt64)), .second, .val (.double (FP.l2d p3.toInt64)), .second, .val (.ref b1), .val (.int (own_cov p0.toInt64 p1.toInt64 p2.toInt64 p3.toInt64)), .val (.ref b4), .unset, .unset] [])
  refine own_step (fun _ k => XS.aload X4.here hx rfl (hb hby at_51) rfl rfl k) ?_
  show own_Go p e below P T4 (mkF m 53 #[.val (.int p0), .val (.int p1), .val (.int p2), .val (.int p3), .val (.double (FP.l2d p0.toInt64)), .second, .val (.double (FP.l2d p1.toInt64)), .second, .val (.double (FP.l2d p2.toInt64)), .second, .val (.double (FP.l2d p3.toInt64)), .second, .val (.ref b1), .val (.int (own_cov p0.toInt64 p1.toInt64 p2.toInt64 p3.toInt64)), .val (.ref b4), .unset, .unset] [(.ref b4)])
  obtain ⟨cq5, kq5, q5a, q5b, q5c⟩ := isOf hZ rfl Eo4
  obtain ⟨_, _, ⟨T5, L5, k5, n5⟩, -, X5, ⟨Lc5, hQ5, l5, y5, z5⟩, st5⟩ := X4.virtualBack hx (y := (⟨"com/example/workflow_to_schedule/workflowtoschedule/core/Lease", "start", "()D"⟩ : MethodName)) (z := (⟨"com/example/workflow_to_schedule/workflowtoschedule/core/Lease", "start", "()D"⟩ : MethodName)) hown (mvT hZ (hw _ (List.mem_of_getElem? (i := 37) rfl))) (mvT hZ (hw _ (List.mem_of_getElem? (i := 38) rfl))) (notFace_of_selects (args := #[]) (mvT hZ (hw _ (List.mem_of_getElem? (i := 40) rfl)))) (mvT hZ (hw _ (List.mem_of_getElem? (i := 40) rfl))) (mvT hZ (hw _ (List.mem_of_getElem? (i := 39) rfl))) (by decide) (backOf (W := 0) (rm8 l Z a0 hw [] b4 (FP.l2d (own_mn p0.toInt64 p2.toInt64)) T4.heap n0 (Nat.le_trans (Nat.le_trans (Nat.le_trans Z0 E1.1) K2.1) K4.1) Fs4) hZ (hw _ (List.mem_of_getElem? (i := 41) rfl)) (hw _ (List.mem_of_getElem? (i := 2) rfl)) (by decide) (by decide)) q5a q5c (g := (mkF m 53 #[.val (.int p0), .val (.int p1), .val (.int p2), .val (.int p3), .val (.double (FP.l2d p0.toInt64)), .second, .val (.double (FP.l2d p1.toInt64)), .second, .val (.double (FP.l2d p2.toInt64)), .second, .val (.double (FP.l2d p3.toInt64)), .second, .val (.ref b1), .val (.int (own_cov p0.toInt64 p1.toInt64 p2.toInt64 p3.toInt64)), .val (.ref b4), .unset, .unset] [(.ref b4)])) rfl (by rw [hml]; rfl) (Steps.refl _) (argsL := []) (rest := []) (lenOf pd____D rfl) rfl (by show 2 * 0 + _ ≤ _; exact Nat.le_of_eq rfl) (hb hby at_53) (fun _ _ => ⟨rfl, rfl, (by decide : 2 + 0 ≤ _), (by decide : 4 + 0 ≤ _)⟩)
  dsimp only [Pt.U, Pt.locs, Pt.cells, Pt.slots] at X5 l5 y5 z5 st5 hQ5
  subst l5 y5 z5
  obtain ⟨rfl, N5q, e5⟩ := hQ5
  have N5 := Fr.app N4 N5q
  refine own_step (fun _ k => st5.trans k) ?_
  show own_Go p e below P T5 (mkF m 56 #[.val (.int p0), .val (.int p1), .val (.int p2), .val (.int p3), .val (.double (FP.l2d p0.toInt64)), .second, .val (.double (FP.l2d p1.toInt64)), .second, .val (.double (FP.l2d p2.toInt64)), .second, .val (.double (FP.l2d p3.toInt64)), .second, .val (.ref b1), .val (.int (own_cov p0.toInt64 p1.toInt64 p2.toInt64 p3.toInt64)), .val (.ref b4), .unset, .unset] [(.double (FP.l2d (own_mn p0.toInt64 p2.toInt64)))])
  refine own_step (fun _ k => XS.dload X5.here hx rfl (hb hby at_56) rfl k) ?_
  show own_Go p e below P T5 (mkF m 58 #[.val (.int p0), .val (.int p1), .val (.int p2), .val (.int p3), .val (.double (FP.l2d p0.toInt64)), .second, .val (.double (FP.l2d p1.toInt64)), .second, .val (.double (FP.l2d p2.toInt64)), .second, .val (.double (FP.l2d p3.toInt64)), .second, .val (.ref b1), .val (.int (own_cov p0.toInt64 p1.toInt64 p2.toInt64 p3.toInt64)), .val (.ref b4), .unset, .unset] [(.double (FP.l2d p0.toInt64)), (.double (FP.l2d (own_mn p0.toInt64 p2.toInt64)))])
  refine own_step (fun _ k => XS.dcmpS X5.here hx rfl (hb hby at_58) rfl (dcmpV_w (own_bmn (own_b p0) (own_b p2)) (own_b p0) .l) k) ?_
  show own_Go p e below P T5 (mkF m 59 #[.val (.int p0), .val (.int p1), .val (.int p2), .val (.int p3), .val (.double (FP.l2d p0.toInt64)), .second, .val (.double (FP.l2d p1.toInt64)), .second, .val (.double (FP.l2d p2.toInt64)), .second, .val (.double (FP.l2d p3.toInt64)), .second, .val (.ref b1), .val (.int (own_cov p0.toInt64 p1.toInt64 p2.toInt64 p3.toInt64)), .val (.ref b4), .unset, .unset] [(.int (lcmpW (own_mn p0.toInt64 p2.toInt64) p0.toInt64))])
  by_cases hc6 : (lcmpW (own_mn p0.toInt64 p2.toInt64) p0.toInt64) = (0 : Int32)
  · refine own_step (fun _ k => XS.ifNo X5.here hx rfl (hb hby at_59) rfl ((if0 _ _).trans (teq hc6).2) k) ?_
    show own_Go p e below P T5 (mkF m 62 #[.val (.int p0), .val (.int p1), .val (.int p2), .val (.int p3), .val (.double (FP.l2d p0.toInt64)), .second, .val (.double (FP.l2d p1.toInt64)), .second, .val (.double (FP.l2d p2.toInt64)), .second, .val (.double (FP.l2d p3.toInt64)), .second, .val (.ref b1), .val (.int (own_cov p0.toInt64 p1.toInt64 p2.toInt64 p3.toInt64)), .val (.ref b4), .unset, .unset] [])
    refine own_step (fun _ k => XS.aload X5.here hx rfl (hb hby at_62) rfl rfl k) ?_
    show own_Go p e below P T5 (mkF m 64 #[.val (.int p0), .val (.int p1), .val (.int p2), .val (.int p3), .val (.double (FP.l2d p0.toInt64)), .second, .val (.double (FP.l2d p1.toInt64)), .second, .val (.double (FP.l2d p2.toInt64)), .second, .val (.double (FP.l2d p3.toInt64)), .second, .val (.ref b1), .val (.int (own_cov p0.toInt64 p1.toInt64 p2.toInt64 p3.toInt64)), .val (.ref b4), .unset, .unset] [(.ref b4)])
    obtain ⟨cq7, kq7, q7a, q7b, q7c⟩ := isOf hZ e5 Eo4
    obtain ⟨_, _, ⟨T7, L7, k7, n7⟩, -, X7, ⟨Lc7, hQ7, l7, y7, z7⟩, st7⟩ := X5.virtualBack hx (y := (⟨"com/example/workflow_to_schedule/workflowtoschedule/core/Lease", "finish", "()D"⟩ : MethodName)) (z := (⟨"com/example/workflow_to_schedule/workflowtoschedule/core/Lease", "finish", "()D"⟩ : MethodName)) hown (mvT hZ (hw _ (List.mem_of_getElem? (i := 42) rfl))) (mvT hZ (hw _ (List.mem_of_getElem? (i := 43) rfl))) (notFace_of_selects (args := #[]) (mvT hZ (hw _ (List.mem_of_getElem? (i := 45) rfl)))) (mvT hZ (hw _ (List.mem_of_getElem? (i := 45) rfl))) (mvT hZ (hw _ (List.mem_of_getElem? (i := 44) rfl))) (by decide) (backOf (W := 0) (rm9 l Z a0 hw [] b4 (FP.l2d (own_mx p1.toInt64 p3.toInt64)) T4.heap n0 (Nat.le_trans (Nat.le_trans (Nat.le_trans Z0 E1.1) K2.1) K4.1) Ff4) hZ (hw _ (List.mem_of_getElem? (i := 46) rfl)) (hw _ (List.mem_of_getElem? (i := 2) rfl)) (by decide) (by decide)) q7a q7c (g := (mkF m 64 #[.val (.int p0), .val (.int p1), .val (.int p2), .val (.int p3), .val (.double (FP.l2d p0.toInt64)), .second, .val (.double (FP.l2d p1.toInt64)), .second, .val (.double (FP.l2d p2.toInt64)), .second, .val (.double (FP.l2d p3.toInt64)), .second, .val (.ref b1), .val (.int (own_cov p0.toInt64 p1.toInt64 p2.toInt64 p3.toInt64)), .val (.ref b4), .unset, .unset] [(.ref b4)])) rfl (by rw [hml]; rfl) (Steps.refl _) (argsL := []) (rest := []) (lenOf pd____D rfl) rfl (by show 2 * 0 + _ ≤ _; exact Nat.le_of_eq rfl) (hb hby at_64) (fun _ _ => ⟨rfl, e5, (by decide : 2 + 0 ≤ _), (by decide : 4 + 0 ≤ _)⟩)
    dsimp only [Pt.U, Pt.locs, Pt.cells, Pt.slots] at X7 l7 y7 z7 st7 hQ7
    subst l7 y7 z7
    obtain ⟨rfl, N7q, e7⟩ := hQ7
    have N7 := Fr.app N5 N7q
    refine own_step (fun _ k => st7.trans k) ?_
    show own_Go p e below P T7 (mkF m 67 #[.val (.int p0), .val (.int p1), .val (.int p2), .val (.int p3), .val (.double (FP.l2d p0.toInt64)), .second, .val (.double (FP.l2d p1.toInt64)), .second, .val (.double (FP.l2d p2.toInt64)), .second, .val (.double (FP.l2d p3.toInt64)), .second, .val (.ref b1), .val (.int (own_cov p0.toInt64 p1.toInt64 p2.toInt64 p3.toInt64)), .val (.ref b4), .unset, .unset] [(.double (FP.l2d (own_mx p1.toInt64 p3.toInt64)))])
    refine own_step (fun _ k => XS.dload X7.here hx rfl (hb hby at_67) rfl k) ?_
    show own_Go p e below P T7 (mkF m 69 #[.val (.int p0), .val (.int p1), .val (.int p2), .val (.int p3), .val (.double (FP.l2d p0.toInt64)), .second, .val (.double (FP.l2d p1.toInt64)), .second, .val (.double (FP.l2d p2.toInt64)), .second, .val (.double (FP.l2d p3.toInt64)), .second, .val (.ref b1), .val (.int (own_cov p0.toInt64 p1.toInt64 p2.toInt64 p3.toInt64)), .val (.ref b4), .unset, .unset] [(.double (FP.l2d p1.toInt64)), (.double (FP.l2d (own_mx p1.toInt64 p3.toInt64)))])
    refine own_step (fun _ k => XS.dcmpS X7.here hx rfl (hb hby at_69) rfl (dcmpV_w (own_bmx (own_b p1) (own_b p3)) (own_b p1) .l) k) ?_
    show own_Go p e below P T7 (mkF m 70 #[.val (.int p0), .val (.int p1), .val (.int p2), .val (.int p3), .val (.double (FP.l2d p0.toInt64)), .second, .val (.double (FP.l2d p1.toInt64)), .second, .val (.double (FP.l2d p2.toInt64)), .second, .val (.double (FP.l2d p3.toInt64)), .second, .val (.ref b1), .val (.int (own_cov p0.toInt64 p1.toInt64 p2.toInt64 p3.toInt64)), .val (.ref b4), .unset, .unset] [(.int (lcmpW (own_mx p1.toInt64 p3.toInt64) p1.toInt64))])
    by_cases hc8 : (lcmpW (own_mx p1.toInt64 p3.toInt64) p1.toInt64) = (0 : Int32)
    · refine own_step (fun _ k => XS.ifNo X7.here hx rfl (hb hby at_70) rfl ((if0 _ _).trans (teq hc8).2) k) ?_
      show own_Go p e below P T7 (mkF m 73 #[.val (.int p0), .val (.int p1), .val (.int p2), .val (.int p3), .val (.double (FP.l2d p0.toInt64)), .second, .val (.double (FP.l2d p1.toInt64)), .second, .val (.double (FP.l2d p2.toInt64)), .second, .val (.double (FP.l2d p3.toInt64)), .second, .val (.ref b1), .val (.int (own_cov p0.toInt64 p1.toInt64 p2.toInt64 p3.toInt64)), .val (.ref b4), .unset, .unset] [])
      refine own_step (fun _ k => XS.iconst X7.here hx rfl (hb hby at_73) k) ?_
      show own_Go p e below P T7 (mkF m 74 #[.val (.int p0), .val (.int p1), .val (.int p2), .val (.int p3), .val (.double (FP.l2d p0.toInt64)), .second, .val (.double (FP.l2d p1.toInt64)), .second, .val (.double (FP.l2d p2.toInt64)), .second, .val (.double (FP.l2d p3.toInt64)), .second, .val (.ref b1), .val (.int (own_cov p0.toInt64 p1.toInt64 p2.toInt64 p3.toInt64)), .val (.ref b4), .unset, .unset] [(.int (1 : Int32))])
      refine own_step (fun _ k => XS.goto X7.here hx rfl (pc0 := 74) (pc' := 78) rfl (hb hby at_74) (by decide) (by decide) k) ?_
      show own_Go p e below P T7 (mkF m 78 #[.val (.int p0), .val (.int p1), .val (.int p2), .val (.int p3), .val (.double (FP.l2d p0.toInt64)), .second, .val (.double (FP.l2d p1.toInt64)), .second, .val (.double (FP.l2d p2.toInt64)), .second, .val (.double (FP.l2d p3.toInt64)), .second, .val (.ref b1), .val (.int (own_cov p0.toInt64 p1.toInt64 p2.toInt64 p3.toInt64)), .val (.ref b4), .unset, .unset] [(.int (1 : Int32))])
      refine own_step (fun _ k => XS.istore X7.here hx rfl (hb hby at_78) rfl (l' := #[.val (.int p0), .val (.int p1), .val (.int p2), .val (.int p3), .val (.double (FP.l2d p0.toInt64)), .second, .val (.double (FP.l2d p1.toInt64)), .second, .val (.double (FP.l2d p2.toInt64)), .second, .val (.double (FP.l2d p3.toInt64)), .second, .val (.ref b1), .val (.int (own_cov p0.toInt64 p1.toInt64 p2.toInt64 p3.toInt64)), .val (.ref b4), .val (.int (1 : Int32)), .unset]) rfl k) ?_
      show own_Go p e below P T7 (mkF m 80 #[.val (.int p0), .val (.int p1), .val (.int p2), .val (.int p3), .val (.double (FP.l2d p0.toInt64)), .second, .val (.double (FP.l2d p1.toInt64)), .second, .val (.double (FP.l2d p2.toInt64)), .second, .val (.double (FP.l2d p3.toInt64)), .second, .val (.ref b1), .val (.int (own_cov p0.toInt64 p1.toInt64 p2.toInt64 p3.toInt64)), .val (.ref b4), .val (.int (1 : Int32)), .unset] [])
      refine own_step (fun _ k => XS.aload X7.here hx rfl (hb hby at_80) rfl rfl k) ?_
      show own_Go p e below P T7 (mkF m 82 #[.val (.int p0), .val (.int p1), .val (.int p2), .val (.int p3), .val (.double (FP.l2d p0.toInt64)), .second, .val (.double (FP.l2d p1.toInt64)), .second, .val (.double (FP.l2d p2.toInt64)), .second, .val (.double (FP.l2d p3.toInt64)), .second, .val (.ref b1), .val (.int (own_cov p0.toInt64 p1.toInt64 p2.toInt64 p3.toInt64)), .val (.ref b4), .val (.int (1 : Int32)), .unset] [(.ref b1)])
      refine own_step (fun _ k => XS.dload X7.here hx rfl (hb hby at_82) rfl k) ?_
      show own_Go p e below P T7 (mkF m 84 #[.val (.int p0), .val (.int p1), .val (.int p2), .val (.int p3), .val (.double (FP.l2d p0.toInt64)), .second, .val (.double (FP.l2d p1.toInt64)), .second, .val (.double (FP.l2d p2.toInt64)), .second, .val (.double (FP.l2d p3.toInt64)), .second, .val (.ref b1), .val (.int (own_cov p0.toInt64 p1.toInt64 p2.toInt64 p3.toInt64)), .val (.ref b4), .val (.int (1 : Int32)), .unset] [(.double (FP.l2d p0.toInt64)), (.ref b1)])
      refine own_step (fun _ k => XS.dload X7.here hx rfl (hb hby at_84) rfl k) ?_
      show own_Go p e below P T7 (mkF m 86 #[.val (.int p0), .val (.int p1), .val (.int p2), .val (.int p3), .val (.double (FP.l2d p0.toInt64)), .second, .val (.double (FP.l2d p1.toInt64)), .second, .val (.double (FP.l2d p2.toInt64)), .second, .val (.double (FP.l2d p3.toInt64)), .second, .val (.ref b1), .val (.int (own_cov p0.toInt64 p1.toInt64 p2.toInt64 p3.toInt64)), .val (.ref b4), .val (.int (1 : Int32)), .unset] [(.double (FP.l2d p1.toInt64)), (.double (FP.l2d p0.toInt64)), (.ref b1)])
      obtain ⟨cq9, kq9, q9a, q9b, q9c⟩ := isOf hZ e7 (E2_o.keep K4)
      obtain ⟨_, _, ⟨T9, L9, k9, n9⟩, -, X9, ⟨Lc9, hQ9, l9, y9, z9⟩, st9⟩ := X7.virtualBack hx (y := (⟨"com/example/workflow_to_schedule/workflowtoschedule/core/Lease", "covers", "(DD)Z"⟩ : MethodName)) (z := (⟨"com/example/workflow_to_schedule/workflowtoschedule/core/Lease", "covers", "(DD)Z"⟩ : MethodName)) hown (mvT hZ (hw _ (List.mem_of_getElem? (i := 18) rfl))) (mvT hZ (hw _ (List.mem_of_getElem? (i := 19) rfl))) (notFace_of_selects (args := #[]) (mvT hZ (hw _ (List.mem_of_getElem? (i := 21) rfl)))) (mvT hZ (hw _ (List.mem_of_getElem? (i := 21) rfl))) (mvT hZ (hw _ (List.mem_of_getElem? (i := 20) rfl))) (by decide) (backOf (W := 0) (rm4 l Z a0 hw [] b1 p0.toInt64 p1.toInt64 p0.toInt64 p1.toInt64 T4.heap n0 (Nat.le_trans (Nat.le_trans (Nat.le_trans Z0 E1.1) K2.1) K4.1) (Fc2_start.keep K4 nin0) (Fc2_finish.keep K4 nin0) (own_b p0) (own_b p1) (own_b p0) (own_b p1)) hZ (hw _ (List.mem_of_getElem? (i := 22) rfl)) (hw _ (List.mem_of_getElem? (i := 2) rfl)) (by decide) (by decide)) q9a q9c (g := (mkF m 86 #[.val (.int p0), .val (.int p1), .val (.int p2), .val (.int p3), .val (.double (FP.l2d p0.toInt64)), .second, .val (.double (FP.l2d p1.toInt64)), .second, .val (.double (FP.l2d p2.toInt64)), .second, .val (.double (FP.l2d p3.toInt64)), .second, .val (.ref b1), .val (.int (own_cov p0.toInt64 p1.toInt64 p2.toInt64 p3.toInt64)), .val (.ref b4), .val (.int (1 : Int32)), .unset] [(.double (FP.l2d p1.toInt64)), (.double (FP.l2d p0.toInt64)), (.ref b1)])) rfl (by rw [hml]; rfl) (Steps.refl _) (argsL := [(.double (FP.l2d p0.toInt64)), (.double (FP.l2d p1.toInt64))]) (rest := []) (lenOf pd__DD__Z rfl) rfl (by show 2 * 0 + _ ≤ _; exact Nat.le_of_eq rfl) (hb hby at_86) (fun _ _ => ⟨rfl, e7, (by decide : 2 + 0 ≤ _), (by decide : 4 + 0 ≤ _)⟩)
      dsimp only [Pt.U, Pt.locs, Pt.cells, Pt.slots] at X9 l9 y9 z9 st9 hQ9
      subst l9 y9 z9
      obtain ⟨rfl, N9q, e9⟩ := hQ9
      have N9 := Fr.app N7 N9q
      refine own_step (fun _ k => st9.trans k) ?_
      show own_Go p e below P T9 (mkF m 89 #[.val (.int p0), .val (.int p1), .val (.int p2), .val (.int p3), .val (.double (FP.l2d p0.toInt64)), .second, .val (.double (FP.l2d p1.toInt64)), .second, .val (.double (FP.l2d p2.toInt64)), .second, .val (.double (FP.l2d p3.toInt64)), .second, .val (.ref b1), .val (.int (own_cov p0.toInt64 p1.toInt64 p2.toInt64 p3.toInt64)), .val (.ref b4), .val (.int (1 : Int32)), .unset] [(.int (own_cov p0.toInt64 p1.toInt64 p0.toInt64 p1.toInt64))])
      refine own_step (fun _ k => XS.istore X9.here hx rfl (hb hby at_89) rfl (l' := #[.val (.int p0), .val (.int p1), .val (.int p2), .val (.int p3), .val (.double (FP.l2d p0.toInt64)), .second, .val (.double (FP.l2d p1.toInt64)), .second, .val (.double (FP.l2d p2.toInt64)), .second, .val (.double (FP.l2d p3.toInt64)), .second, .val (.ref b1), .val (.int (own_cov p0.toInt64 p1.toInt64 p2.toInt64 p3.toInt64)), .val (.ref b4), .val (.int (1 : Int32)), .val (.int (own_cov p0.toInt64 p1.toInt64 p0.toInt64 p1.toInt64))]) rfl k) ?_
      show own_Go p e below P T9 (mkF m 91 #[.val (.int p0), .val (.int p1), .val (.int p2), .val (.int p3), .val (.double (FP.l2d p0.toInt64)), .second, .val (.double (FP.l2d p1.toInt64)), .second, .val (.double (FP.l2d p2.toInt64)), .second, .val (.double (FP.l2d p3.toInt64)), .second, .val (.ref b1), .val (.int (own_cov p0.toInt64 p1.toInt64 p2.toInt64 p3.toInt64)), .val (.ref b4), .val (.int (1 : Int32)), .val (.int (own_cov p0.toInt64 p1.toInt64 p0.toInt64 p1.toInt64))] [])
      refine own_step (fun _ k => XS.iload X9.here hx rfl (hb hby at_91) rfl k) ?_
      show own_Go p e below P T9 (mkF m 93 #[.val (.int p0), .val (.int p1), .val (.int p2), .val (.int p3), .val (.double (FP.l2d p0.toInt64)), .second, .val (.double (FP.l2d p1.toInt64)), .second, .val (.double (FP.l2d p2.toInt64)), .second, .val (.double (FP.l2d p3.toInt64)), .second, .val (.ref b1), .val (.int (own_cov p0.toInt64 p1.toInt64 p2.toInt64 p3.toInt64)), .val (.ref b4), .val (.int (1 : Int32)), .val (.int (own_cov p0.toInt64 p1.toInt64 p0.toInt64 p1.toInt64))] [(.int (own_cov p0.toInt64 p1.toInt64 p2.toInt64 p3.toInt64))])
      refine own_step (fun _ k => XS.iload X9.here hx rfl (hb hby at_93) rfl k) ?_
      show own_Go p e below P T9 (mkF m 95 #[.val (.int p0), .val (.int p1), .val (.int p2), .val (.int p3), .val (.double (FP.l2d p0.toInt64)), .second, .val (.double (FP.l2d p1.toInt64)), .second, .val (.double (FP.l2d p2.toInt64)), .second, .val (.double (FP.l2d p3.toInt64)), .second, .val (.ref b1), .val (.int (own_cov p0.toInt64 p1.toInt64 p2.toInt64 p3.toInt64)), .val (.ref b4), .val (.int (1 : Int32)), .val (.int (own_cov p0.toInt64 p1.toInt64 p0.toInt64 p1.toInt64))] [(.int (1 : Int32)), (.int (own_cov p0.toInt64 p1.toInt64 p2.toInt64 p3.toInt64))])
      refine own_step (fun _ k => XS.icmpNo X9.here hx rfl (hb hby at_95) rfl (teq (own_c1 hc6 hc8)).2 k) ?_
      show own_Go p e below P T9 (mkF m 98 #[.val (.int p0), .val (.int p1), .val (.int p2), .val (.int p3), .val (.double (FP.l2d p0.toInt64)), .second, .val (.double (FP.l2d p1.toInt64)), .second, .val (.double (FP.l2d p2.toInt64)), .second, .val (.double (FP.l2d p3.toInt64)), .second, .val (.ref b1), .val (.int (own_cov p0.toInt64 p1.toInt64 p2.toInt64 p3.toInt64)), .val (.ref b4), .val (.int (1 : Int32)), .val (.int (own_cov p0.toInt64 p1.toInt64 p0.toInt64 p1.toInt64))] [])
      refine own_step (fun _ k => XS.iload X9.here hx rfl (hb hby at_98) rfl k) ?_
      show own_Go p e below P T9 (mkF m 100 #[.val (.int p0), .val (.int p1), .val (.int p2), .val (.int p3), .val (.double (FP.l2d p0.toInt64)), .second, .val (.double (FP.l2d p1.toInt64)), .second, .val (.double (FP.l2d p2.toInt64)), .second, .val (.double (FP.l2d p3.toInt64)), .second, .val (.ref b1), .val (.int (own_cov p0.toInt64 p1.toInt64 p2.toInt64 p3.toInt64)), .val (.ref b4), .val (.int (1 : Int32)), .val (.int (own_cov p0.toInt64 p1.toInt64 p0.toInt64 p1.toInt64))] [(.int (own_cov p0.toInt64 p1.toInt64 p0.toInt64 p1.toInt64))])
      refine own_step (fun _ k => XS.ifNo X9.here hx rfl (hb hby at_100) rfl ((if0 _ _).trans (feq (own_r p0.toInt64 p1.toInt64)).1) k) ?_
      show own_Go p e below P T9 (mkF m 103 #[.val (.int p0), .val (.int p1), .val (.int p2), .val (.int p3), .val (.double (FP.l2d p0.toInt64)), .second, .val (.double (FP.l2d p1.toInt64)), .second, .val (.double (FP.l2d p2.toInt64)), .second, .val (.double (FP.l2d p3.toInt64)), .second, .val (.ref b1), .val (.int (own_cov p0.toInt64 p1.toInt64 p2.toInt64 p3.toInt64)), .val (.ref b4), .val (.int (1 : Int32)), .val (.int (own_cov p0.toInt64 p1.toInt64 p0.toInt64 p1.toInt64))] [])
      refine own_step (fun _ k => XS.iconst X9.here hx rfl (hb hby at_103) k) ?_
      show own_Go p e below P T9 (mkF m 104 #[.val (.int p0), .val (.int p1), .val (.int p2), .val (.int p3), .val (.double (FP.l2d p0.toInt64)), .second, .val (.double (FP.l2d p1.toInt64)), .second, .val (.double (FP.l2d p2.toInt64)), .second, .val (.double (FP.l2d p3.toInt64)), .second, .val (.ref b1), .val (.int (own_cov p0.toInt64 p1.toInt64 p2.toInt64 p3.toInt64)), .val (.ref b4), .val (.int (1 : Int32)), .val (.int (own_cov p0.toInt64 p1.toInt64 p0.toInt64 p1.toInt64))] [(.int (1 : Int32))])
      refine own_step (fun _ k => XS.goto X9.here hx rfl (pc0 := 104) (pc' := 108) rfl (hb hby at_104) (by decide) (by decide) k) ?_
      show own_Go p e below P T9 (mkF m 108 #[.val (.int p0), .val (.int p1), .val (.int p2), .val (.int p3), .val (.double (FP.l2d p0.toInt64)), .second, .val (.double (FP.l2d p1.toInt64)), .second, .val (.double (FP.l2d p2.toInt64)), .second, .val (.double (FP.l2d p3.toInt64)), .second, .val (.ref b1), .val (.int (own_cov p0.toInt64 p1.toInt64 p2.toInt64 p3.toInt64)), .val (.ref b4), .val (.int (1 : Int32)), .val (.int (own_cov p0.toInt64 p1.toInt64 p0.toInt64 p1.toInt64))] [(.int (1 : Int32))])
      obtain ⟨fs, hr, hrun, hended, hW, hsame⟩ := X9.leave (v := some (.int (1 : Int32))) (fun h => by rw [Bd.returns] at h; cases h)
      refine ⟨_, _, retN X9 hx (t := .boolean) Bd.returns (by simp) (hb hby at_108) hr, hrun, hended, hfin _ _ ⟨_, _, rfl, ?_, ⟨_, rfl⟩, hW, hsame.mono (by decide) (by decide)⟩⟩
      show Q0 Z p0 p1 p2 p3 h0 n0 (some (.int (1 : Int32))) T9.heap _
      rw [e9]
      exact ⟨rfl, N9⟩
    · refine own_step (fun _ k => XS.ifYes X7.here hx rfl (pc0 := 70) (pc' := 77) rfl (hb hby at_70) rfl ((if0 _ _).trans (feq hc8).2) (by decide) (by decide) k) ?_
      show own_Go p e below P T7 (mkF m 77 #[.val (.int p0), .val (.int p1), .val (.int p2), .val (.int p3), .val (.double (FP.l2d p0.toInt64)), .second, .val (.double (FP.l2d p1.toInt64)), .second, .val (.double (FP.l2d p2.toInt64)), .second, .val (.double (FP.l2d p3.toInt64)), .second, .val (.ref b1), .val (.int (own_cov p0.toInt64 p1.toInt64 p2.toInt64 p3.toInt64)), .val (.ref b4), .unset, .unset] [])
      refine own_step (fun _ k => XS.iconst X7.here hx rfl (hb hby at_77) k) ?_
      show own_Go p e below P T7 (mkF m 78 #[.val (.int p0), .val (.int p1), .val (.int p2), .val (.int p3), .val (.double (FP.l2d p0.toInt64)), .second, .val (.double (FP.l2d p1.toInt64)), .second, .val (.double (FP.l2d p2.toInt64)), .second, .val (.double (FP.l2d p3.toInt64)), .second, .val (.ref b1), .val (.int (own_cov p0.toInt64 p1.toInt64 p2.toInt64 p3.toInt64)), .val (.ref b4), .unset, .unset] [(.int (0 : Int32))])
      refine own_step (fun _ k => XS.istore X7.here hx rfl (hb hby at_78) rfl (l' := #[.val (.int p0), .val (.int p1), .val (.int p2), .val (.int p3), .val (.double (FP.l2d p0.toInt64)), .second, .val (.double (FP.l2d p1.toInt64)), .second, .val (.double (FP.l2d p2.toInt64)), .second, .val (.double (FP.l2d p3.toInt64)), .second, .val (.ref b1), .val (.int (own_cov p0.toInt64 p1.toInt64 p2.toInt64 p3.toInt64)), .val (.ref b4), .val (.int (0 : Int32)), .unset]) rfl k) ?_
      show own_Go p e below P T7 (mkF m 80 #[.val (.int p0), .val (.int p1), .val (.int p2), .val (.int p3), .val (.double (FP.l2d p0.toInt64)), .second, .val (.double (FP.l2d p1.toInt64)), .second, .val (.double (FP.l2d p2.toInt64)), .second, .val (.double (FP.l2d p3.toInt64)), .second, .val (.ref b1), .val (.int (own_cov p0.toInt64 p1.toInt64 p2.toInt64 p3.toInt64)), .val (.ref b4), .val (.int (0 : Int32)), .unset] [])
      refine own_step (fun _ k => XS.aload X7.here hx rfl (hb hby at_80) rfl rfl k) ?_
      show own_Go p e below P T7 (mkF m 82 #[.val (.int p0), .val (.int p1), .val (.int p2), .val (.int p3), .val (.double (FP.l2d p0.toInt64)), .second, .val (.double (FP.l2d p1.toInt64)), .second, .val (.double (FP.l2d p2.toInt64)), .second, .val (.double (FP.l2d p3.toInt64)), .second, .val (.ref b1), .val (.int (own_cov p0.toInt64 p1.toInt64 p2.toInt64 p3.toInt64)), .val (.ref b4), .val (.int (0 : Int32)), .unset] [(.ref b1)])
      refine own_step (fun _ k => XS.dload X7.here hx rfl (hb hby at_82) rfl k) ?_
      show own_Go p e below P T7 (mkF m 84 #[.val (.int p0), .val (.int p1), .val (.int p2), .val (.int p3), .val (.double (FP.l2d p0.toInt64)), .second, .val (.double (FP.l2d p1.toInt64)), .second, .val (.double (FP.l2d p2.toInt64)), .second, .val (.double (FP.l2d p3.toInt64)), .second, .val (.ref b1), .val (.int (own_cov p0.toInt64 p1.toInt64 p2.toInt64 p3.toInt64)), .val (.ref b4), .val (.int (0 : Int32)), .unset] [(.double (FP.l2d p0.toInt64)), (.ref b1)])
      refine own_step (fun _ k => XS.dload X7.here hx rfl (hb hby at_84) rfl k) ?_
      show own_Go p e below P T7 (mkF m 86 #[.val (.int p0), .val (.int p1), .val (.int p2), .val (.int p3), .val (.double (FP.l2d p0.toInt64)), .second, .val (.double (FP.l2d p1.toInt64)), .second, .val (.double (FP.l2d p2.toInt64)), .second, .val (.double (FP.l2d p3.toInt64)), .second, .val (.ref b1), .val (.int (own_cov p0.toInt64 p1.toInt64 p2.toInt64 p3.toInt64)), .val (.ref b4), .val (.int (0 : Int32)), .unset] [(.double (FP.l2d p1.toInt64)), (.double (FP.l2d p0.toInt64)), (.ref b1)])
      obtain ⟨cq11, kq11, q11a, q11b, q11c⟩ := isOf hZ e7 (E2_o.keep K4)
      obtain ⟨_, _, ⟨T11, L11, k11, n11⟩, -, X11, ⟨Lc11, hQ11, l11, y11, z11⟩, st11⟩ := X7.virtualBack hx (y := (⟨"com/example/workflow_to_schedule/workflowtoschedule/core/Lease", "covers", "(DD)Z"⟩ : MethodName)) (z := (⟨"com/example/workflow_to_schedule/workflowtoschedule/core/Lease", "covers", "(DD)Z"⟩ : MethodName)) hown (mvT hZ (hw _ (List.mem_of_getElem? (i := 18) rfl))) (mvT hZ (hw _ (List.mem_of_getElem? (i := 19) rfl))) (notFace_of_selects (args := #[]) (mvT hZ (hw _ (List.mem_of_getElem? (i := 21) rfl)))) (mvT hZ (hw _ (List.mem_of_getElem? (i := 21) rfl))) (mvT hZ (hw _ (List.mem_of_getElem? (i := 20) rfl))) (by decide) (backOf (W := 0) (rm4 l Z a0 hw [] b1 p0.toInt64 p1.toInt64 p0.toInt64 p1.toInt64 T4.heap n0 (Nat.le_trans (Nat.le_trans (Nat.le_trans Z0 E1.1) K2.1) K4.1) (Fc2_start.keep K4 nin0) (Fc2_finish.keep K4 nin0) (own_b p0) (own_b p1) (own_b p0) (own_b p1)) hZ (hw _ (List.mem_of_getElem? (i := 22) rfl)) (hw _ (List.mem_of_getElem? (i := 2) rfl)) (by decide) (by decide)) q11a q11c (g := (mkF m 86 #[.val (.int p0), .val (.int p1), .val (.int p2), .val (.int p3), .val (.double (FP.l2d p0.toInt64)), .second, .val (.double (FP.l2d p1.toInt64)), .second, .val (.double (FP.l2d p2.toInt64)), .second, .val (.double (FP.l2d p3.toInt64)), .second, .val (.ref b1), .val (.int (own_cov p0.toInt64 p1.toInt64 p2.toInt64 p3.toInt64)), .val (.ref b4), .val (.int (0 : Int32)), .unset] [(.double (FP.l2d p1.toInt64)), (.double (FP.l2d p0.toInt64)), (.ref b1)])) rfl (by rw [hml]; rfl) (Steps.refl _) (argsL := [(.double (FP.l2d p0.toInt64)), (.double (FP.l2d p1.toInt64))]) (rest := []) (lenOf pd__DD__Z rfl) rfl (by show 2 * 0 + _ ≤ _; exact Nat.le_of_eq rfl) (hb hby at_86) (fun _ _ => ⟨rfl, e7, (by decide : 2 + 0 ≤ _), (by decide : 4 + 0 ≤ _)⟩)
      dsimp only [Pt.U, Pt.locs, Pt.cells, Pt.slots] at X11 l11 y11 z11 st11 hQ11
      subst l11 y11 z11
      obtain ⟨rfl, N11q, e11⟩ := hQ11
      have N11 := Fr.app N7 N11q
      refine own_step (fun _ k => st11.trans k) ?_
      show own_Go p e below P T11 (mkF m 89 #[.val (.int p0), .val (.int p1), .val (.int p2), .val (.int p3), .val (.double (FP.l2d p0.toInt64)), .second, .val (.double (FP.l2d p1.toInt64)), .second, .val (.double (FP.l2d p2.toInt64)), .second, .val (.double (FP.l2d p3.toInt64)), .second, .val (.ref b1), .val (.int (own_cov p0.toInt64 p1.toInt64 p2.toInt64 p3.toInt64)), .val (.ref b4), .val (.int (0 : Int32)), .unset] [(.int (own_cov p0.toInt64 p1.toInt64 p0.toInt64 p1.toInt64))])
      refine own_step (fun _ k => XS.istore X11.here hx rfl (hb hby at_89) rfl (l' := #[.val (.int p0), .val (.int p1), .val (.int p2), .val (.int p3), .val (.double (FP.l2d p0.toInt64)), .second, .val (.double (FP.l2d p1.toInt64)), .second, .val (.double (FP.l2d p2.toInt64)), .second, .val (.double (FP.l2d p3.toInt64)), .second, .val (.ref b1), .val (.int (own_cov p0.toInt64 p1.toInt64 p2.toInt64 p3.toInt64)), .val (.ref b4), .val (.int (0 : Int32)), .val (.int (own_cov p0.toInt64 p1.toInt64 p0.toInt64 p1.toInt64))]) rfl k) ?_
      show own_Go p e below P T11 (mkF m 91 #[.val (.int p0), .val (.int p1), .val (.int p2), .val (.int p3), .val (.double (FP.l2d p0.toInt64)), .second, .val (.double (FP.l2d p1.toInt64)), .second, .val (.double (FP.l2d p2.toInt64)), .second, .val (.double (FP.l2d p3.toInt64)), .second, .val (.ref b1), .val (.int (own_cov p0.toInt64 p1.toInt64 p2.toInt64 p3.toInt64)), .val (.ref b4), .val (.int (0 : Int32)), .val (.int (own_cov p0.toInt64 p1.toInt64 p0.toInt64 p1.toInt64))] [])
      refine own_step (fun _ k => XS.iload X11.here hx rfl (hb hby at_91) rfl k) ?_
      show own_Go p e below P T11 (mkF m 93 #[.val (.int p0), .val (.int p1), .val (.int p2), .val (.int p3), .val (.double (FP.l2d p0.toInt64)), .second, .val (.double (FP.l2d p1.toInt64)), .second, .val (.double (FP.l2d p2.toInt64)), .second, .val (.double (FP.l2d p3.toInt64)), .second, .val (.ref b1), .val (.int (own_cov p0.toInt64 p1.toInt64 p2.toInt64 p3.toInt64)), .val (.ref b4), .val (.int (0 : Int32)), .val (.int (own_cov p0.toInt64 p1.toInt64 p0.toInt64 p1.toInt64))] [(.int (own_cov p0.toInt64 p1.toInt64 p2.toInt64 p3.toInt64))])
      refine own_step (fun _ k => XS.iload X11.here hx rfl (hb hby at_93) rfl k) ?_
      show own_Go p e below P T11 (mkF m 95 #[.val (.int p0), .val (.int p1), .val (.int p2), .val (.int p3), .val (.double (FP.l2d p0.toInt64)), .second, .val (.double (FP.l2d p1.toInt64)), .second, .val (.double (FP.l2d p2.toInt64)), .second, .val (.double (FP.l2d p3.toInt64)), .second, .val (.ref b1), .val (.int (own_cov p0.toInt64 p1.toInt64 p2.toInt64 p3.toInt64)), .val (.ref b4), .val (.int (0 : Int32)), .val (.int (own_cov p0.toInt64 p1.toInt64 p0.toInt64 p1.toInt64))] [(.int (0 : Int32)), (.int (own_cov p0.toInt64 p1.toInt64 p2.toInt64 p3.toInt64))])
      refine own_step (fun _ k => XS.icmpNo X11.here hx rfl (hb hby at_95) rfl (teq (own_c3 hc8)).2 k) ?_
      show own_Go p e below P T11 (mkF m 98 #[.val (.int p0), .val (.int p1), .val (.int p2), .val (.int p3), .val (.double (FP.l2d p0.toInt64)), .second, .val (.double (FP.l2d p1.toInt64)), .second, .val (.double (FP.l2d p2.toInt64)), .second, .val (.double (FP.l2d p3.toInt64)), .second, .val (.ref b1), .val (.int (own_cov p0.toInt64 p1.toInt64 p2.toInt64 p3.toInt64)), .val (.ref b4), .val (.int (0 : Int32)), .val (.int (own_cov p0.toInt64 p1.toInt64 p0.toInt64 p1.toInt64))] [])
      refine own_step (fun _ k => XS.iload X11.here hx rfl (hb hby at_98) rfl k) ?_
      show own_Go p e below P T11 (mkF m 100 #[.val (.int p0), .val (.int p1), .val (.int p2), .val (.int p3), .val (.double (FP.l2d p0.toInt64)), .second, .val (.double (FP.l2d p1.toInt64)), .second, .val (.double (FP.l2d p2.toInt64)), .second, .val (.double (FP.l2d p3.toInt64)), .second, .val (.ref b1), .val (.int (own_cov p0.toInt64 p1.toInt64 p2.toInt64 p3.toInt64)), .val (.ref b4), .val (.int (0 : Int32)), .val (.int (own_cov p0.toInt64 p1.toInt64 p0.toInt64 p1.toInt64))] [(.int (own_cov p0.toInt64 p1.toInt64 p0.toInt64 p1.toInt64))])
      refine own_step (fun _ k => XS.ifNo X11.here hx rfl (hb hby at_100) rfl ((if0 _ _).trans (feq (own_r p0.toInt64 p1.toInt64)).1) k) ?_
      show own_Go p e below P T11 (mkF m 103 #[.val (.int p0), .val (.int p1), .val (.int p2), .val (.int p3), .val (.double (FP.l2d p0.toInt64)), .second, .val (.double (FP.l2d p1.toInt64)), .second, .val (.double (FP.l2d p2.toInt64)), .second, .val (.double (FP.l2d p3.toInt64)), .second, .val (.ref b1), .val (.int (own_cov p0.toInt64 p1.toInt64 p2.toInt64 p3.toInt64)), .val (.ref b4), .val (.int (0 : Int32)), .val (.int (own_cov p0.toInt64 p1.toInt64 p0.toInt64 p1.toInt64))] [])
      refine own_step (fun _ k => XS.iconst X11.here hx rfl (hb hby at_103) k) ?_
      show own_Go p e below P T11 (mkF m 104 #[.val (.int p0), .val (.int p1), .val (.int p2), .val (.int p3), .val (.double (FP.l2d p0.toInt64)), .second, .val (.double (FP.l2d p1.toInt64)), .second, .val (.double (FP.l2d p2.toInt64)), .second, .val (.double (FP.l2d p3.toInt64)), .second, .val (.ref b1), .val (.int (own_cov p0.toInt64 p1.toInt64 p2.toInt64 p3.toInt64)), .val (.ref b4), .val (.int (0 : Int32)), .val (.int (own_cov p0.toInt64 p1.toInt64 p0.toInt64 p1.toInt64))] [(.int (1 : Int32))])
      refine own_step (fun _ k => XS.goto X11.here hx rfl (pc0 := 104) (pc' := 108) rfl (hb hby at_104) (by decide) (by decide) k) ?_
      show own_Go p e below P T11 (mkF m 108 #[.val (.int p0), .val (.int p1), .val (.int p2), .val (.int p3), .val (.double (FP.l2d p0.toInt64)), .second, .val (.double (FP.l2d p1.toInt64)), .second, .val (.double (FP.l2d p2.toInt64)), .second, .val (.double (FP.l2d p3.toInt64)), .second, .val (.ref b1), .val (.int (own_cov p0.toInt64 p1.toInt64 p2.toInt64 p3.toInt64)), .val (.ref b4), .val (.int (0 : Int32)), .val (.int (own_cov p0.toInt64 p1.toInt64 p0.toInt64 p1.toInt64))] [(.int (1 : Int32))])
      obtain ⟨fs, hr, hrun, hended, hW, hsame⟩ := X11.leave (v := some (.int (1 : Int32))) (fun h => by rw [Bd.returns] at h; cases h)
      refine ⟨_, _, retN X11 hx (t := .boolean) Bd.returns (by simp) (hb hby at_108) hr, hrun, hended, hfin _ _ ⟨_, _, rfl, ?_, ⟨_, rfl⟩, hW, hsame.mono (by decide) (by decide)⟩⟩
      show Q0 Z p0 p1 p2 p3 h0 n0 (some (.int (1 : Int32))) T11.heap _
      rw [e11]
      exact ⟨rfl, N11⟩
  · refine own_step (fun _ k => XS.ifYes X5.here hx rfl (pc0 := 59) (pc' := 77) rfl (hb hby at_59) rfl ((if0 _ _).trans (feq hc6).2) (by decide) (by decide) k) ?_
    show own_Go p e below P T5 (mkF m 77 #[.val (.int p0), .val (.int p1), .val (.int p2), .val (.int p3), .val (.double (FP.l2d p0.toInt64)), .second, .val (.double (FP.l2d p1.toInt64)), .second, .val (.double (FP.l2d p2.toInt64)), .second, .val (.double (FP.l2d p3.toInt64)), .second, .val (.ref b1), .val (.int (own_cov p0.toInt64 p1.toInt64 p2.toInt64 p3.toInt64)), .val (.ref b4), .unset, .unset] [])
    refine own_step (fun _ k => XS.iconst X5.here hx rfl (hb hby at_77) k) ?_
    show own_Go p e below P T5 (mkF m 78 #[.val (.int p0), .val (.int p1), .val (.int p2), .val (.int p3), .val (.double (FP.l2d p0.toInt64)), .second, .val (.double (FP.l2d p1.toInt64)), .second, .val (.double (FP.l2d p2.toInt64)), .second, .val (.double (FP.l2d p3.toInt64)), .second, .val (.ref b1), .val (.int (own_cov p0.toInt64 p1.toInt64 p2.toInt64 p3.toInt64)), .val (.ref b4), .unset, .unset] [(.int (0 : Int32))])
    refine own_step (fun _ k => XS.istore X5.here hx rfl (hb hby at_78) rfl (l' := #[.val (.int p0), .val (.int p1), .val (.int p2), .val (.int p3), .val (.double (FP.l2d p0.toInt64)), .second, .val (.double (FP.l2d p1.toInt64)), .second, .val (.double (FP.l2d p2.toInt64)), .second, .val (.double (FP.l2d p3.toInt64)), .second, .val (.ref b1), .val (.int (own_cov p0.toInt64 p1.toInt64 p2.toInt64 p3.toInt64)), .val (.ref b4), .val (.int (0 : Int32)), .unset]) rfl k) ?_
    show own_Go p e below P T5 (mkF m 80 #[.val (.int p0), .val (.int p1), .val (.int p2), .val (.int p3), .val (.double (FP.l2d p0.toInt64)), .second, .val (.double (FP.l2d p1.toInt64)), .second, .val (.double (FP.l2d p2.toInt64)), .second, .val (.double (FP.l2d p3.toInt64)), .second, .val (.ref b1), .val (.int (own_cov p0.toInt64 p1.toInt64 p2.toInt64 p3.toInt64)), .val (.ref b4), .val (.int (0 : Int32)), .unset] [])
    refine own_step (fun _ k => XS.aload X5.here hx rfl (hb hby at_80) rfl rfl k) ?_
    show own_Go p e below P T5 (mkF m 82 #[.val (.int p0), .val (.int p1), .val (.int p2), .val (.int p3), .val (.double (FP.l2d p0.toInt64)), .second, .val (.double (FP.l2d p1.toInt64)), .second, .val (.double (FP.l2d p2.toInt64)), .second, .val (.double (FP.l2d p3.toInt64)), .second, .val (.ref b1), .val (.int (own_cov p0.toInt64 p1.toInt64 p2.toInt64 p3.toInt64)), .val (.ref b4), .val (.int (0 : Int32)), .unset] [(.ref b1)])
    refine own_step (fun _ k => XS.dload X5.here hx rfl (hb hby at_82) rfl k) ?_
    show own_Go p e below P T5 (mkF m 84 #[.val (.int p0), .val (.int p1), .val (.int p2), .val (.int p3), .val (.double (FP.l2d p0.toInt64)), .second, .val (.double (FP.l2d p1.toInt64)), .second, .val (.double (FP.l2d p2.toInt64)), .second, .val (.double (FP.l2d p3.toInt64)), .second, .val (.ref b1), .val (.int (own_cov p0.toInt64 p1.toInt64 p2.toInt64 p3.toInt64)), .val (.ref b4), .val (.int (0 : Int32)), .unset] [(.double (FP.l2d p0.toInt64)), (.ref b1)])
    refine own_step (fun _ k => XS.dload X5.here hx rfl (hb hby at_84) rfl k) ?_
    show own_Go p e below P T5 (mkF m 86 #[.val (.int p0), .val (.int p1), .val (.int p2), .val (.int p3), .val (.double (FP.l2d p0.toInt64)), .second, .val (.double (FP.l2d p1.toInt64)), .second, .val (.double (FP.l2d p2.toInt64)), .second, .val (.double (FP.l2d p3.toInt64)), .second, .val (.ref b1), .val (.int (own_cov p0.toInt64 p1.toInt64 p2.toInt64 p3.toInt64)), .val (.ref b4), .val (.int (0 : Int32)), .unset] [(.double (FP.l2d p1.toInt64)), (.double (FP.l2d p0.toInt64)), (.ref b1)])
    obtain ⟨cq13, kq13, q13a, q13b, q13c⟩ := isOf hZ e5 (E2_o.keep K4)
    obtain ⟨_, _, ⟨T13, L13, k13, n13⟩, -, X13, ⟨Lc13, hQ13, l13, y13, z13⟩, st13⟩ := X5.virtualBack hx (y := (⟨"com/example/workflow_to_schedule/workflowtoschedule/core/Lease", "covers", "(DD)Z"⟩ : MethodName)) (z := (⟨"com/example/workflow_to_schedule/workflowtoschedule/core/Lease", "covers", "(DD)Z"⟩ : MethodName)) hown (mvT hZ (hw _ (List.mem_of_getElem? (i := 18) rfl))) (mvT hZ (hw _ (List.mem_of_getElem? (i := 19) rfl))) (notFace_of_selects (args := #[]) (mvT hZ (hw _ (List.mem_of_getElem? (i := 21) rfl)))) (mvT hZ (hw _ (List.mem_of_getElem? (i := 21) rfl))) (mvT hZ (hw _ (List.mem_of_getElem? (i := 20) rfl))) (by decide) (backOf (W := 0) (rm4 l Z a0 hw [] b1 p0.toInt64 p1.toInt64 p0.toInt64 p1.toInt64 T4.heap n0 (Nat.le_trans (Nat.le_trans (Nat.le_trans Z0 E1.1) K2.1) K4.1) (Fc2_start.keep K4 nin0) (Fc2_finish.keep K4 nin0) (own_b p0) (own_b p1) (own_b p0) (own_b p1)) hZ (hw _ (List.mem_of_getElem? (i := 22) rfl)) (hw _ (List.mem_of_getElem? (i := 2) rfl)) (by decide) (by decide)) q13a q13c (g := (mkF m 86 #[.val (.int p0), .val (.int p1), .val (.int p2), .val (.int p3), .val (.double (FP.l2d p0.toInt64)), .second, .val (.double (FP.l2d p1.toInt64)), .second, .val (.double (FP.l2d p2.toInt64)), .second, .val (.double (FP.l2d p3.toInt64)), .second, .val (.ref b1), .val (.int (own_cov p0.toInt64 p1.toInt64 p2.toInt64 p3.toInt64)), .val (.ref b4), .val (.int (0 : Int32)), .unset] [(.double (FP.l2d p1.toInt64)), (.double (FP.l2d p0.toInt64)), (.ref b1)])) rfl (by rw [hml]; rfl) (Steps.refl _) (argsL := [(.double (FP.l2d p0.toInt64)), (.double (FP.l2d p1.toInt64))]) (rest := []) (lenOf pd__DD__Z rfl) rfl (by show 2 * 0 + _ ≤ _; exact Nat.le_of_eq rfl) (hb hby at_86) (fun _ _ => ⟨rfl, e5, (by decide : 2 + 0 ≤ _), (by decide : 4 + 0 ≤ _)⟩)
    dsimp only [Pt.U, Pt.locs, Pt.cells, Pt.slots] at X13 l13 y13 z13 st13 hQ13
    subst l13 y13 z13
    obtain ⟨rfl, N13q, e13⟩ := hQ13
    have N13 := Fr.app N5 N13q
    refine own_step (fun _ k => st13.trans k) ?_
    show own_Go p e below P T13 (mkF m 89 #[.val (.int p0), .val (.int p1), .val (.int p2), .val (.int p3), .val (.double (FP.l2d p0.toInt64)), .second, .val (.double (FP.l2d p1.toInt64)), .second, .val (.double (FP.l2d p2.toInt64)), .second, .val (.double (FP.l2d p3.toInt64)), .second, .val (.ref b1), .val (.int (own_cov p0.toInt64 p1.toInt64 p2.toInt64 p3.toInt64)), .val (.ref b4), .val (.int (0 : Int32)), .unset] [(.int (own_cov p0.toInt64 p1.toInt64 p0.toInt64 p1.toInt64))])
    refine own_step (fun _ k => XS.istore X13.here hx rfl (hb hby at_89) rfl (l' := #[.val (.int p0), .val (.int p1), .val (.int p2), .val (.int p3), .val (.double (FP.l2d p0.toInt64)), .second, .val (.double (FP.l2d p1.toInt64)), .second, .val (.double (FP.l2d p2.toInt64)), .second, .val (.double (FP.l2d p3.toInt64)), .second, .val (.ref b1), .val (.int (own_cov p0.toInt64 p1.toInt64 p2.toInt64 p3.toInt64)), .val (.ref b4), .val (.int (0 : Int32)), .val (.int (own_cov p0.toInt64 p1.toInt64 p0.toInt64 p1.toInt64))]) rfl k) ?_
    show own_Go p e below P T13 (mkF m 91 #[.val (.int p0), .val (.int p1), .val (.int p2), .val (.int p3), .val (.double (FP.l2d p0.toInt64)), .second, .val (.double (FP.l2d p1.toInt64)), .second, .val (.double (FP.l2d p2.toInt64)), .second, .val (.double (FP.l2d p3.toInt64)), .second, .val (.ref b1), .val (.int (own_cov p0.toInt64 p1.toInt64 p2.toInt64 p3.toInt64)), .val (.ref b4), .val (.int (0 : Int32)), .val (.int (own_cov p0.toInt64 p1.toInt64 p0.toInt64 p1.toInt64))] [])
    refine own_step (fun _ k => XS.iload X13.here hx rfl (hb hby at_91) rfl k) ?_
    show own_Go p e below P T13 (mkF m 93 #[.val (.int p0), .val (.int p1), .val (.int p2), .val (.int p3), .val (.double (FP.l2d p0.toInt64)), .second, .val (.double (FP.l2d p1.toInt64)), .second, .val (.double (FP.l2d p2.toInt64)), .second, .val (.double (FP.l2d p3.toInt64)), .second, .val (.ref b1), .val (.int (own_cov p0.toInt64 p1.toInt64 p2.toInt64 p3.toInt64)), .val (.ref b4), .val (.int (0 : Int32)), .val (.int (own_cov p0.toInt64 p1.toInt64 p0.toInt64 p1.toInt64))] [(.int (own_cov p0.toInt64 p1.toInt64 p2.toInt64 p3.toInt64))])
    refine own_step (fun _ k => XS.iload X13.here hx rfl (hb hby at_93) rfl k) ?_
    show own_Go p e below P T13 (mkF m 95 #[.val (.int p0), .val (.int p1), .val (.int p2), .val (.int p3), .val (.double (FP.l2d p0.toInt64)), .second, .val (.double (FP.l2d p1.toInt64)), .second, .val (.double (FP.l2d p2.toInt64)), .second, .val (.double (FP.l2d p3.toInt64)), .second, .val (.ref b1), .val (.int (own_cov p0.toInt64 p1.toInt64 p2.toInt64 p3.toInt64)), .val (.ref b4), .val (.int (0 : Int32)), .val (.int (own_cov p0.toInt64 p1.toInt64 p0.toInt64 p1.toInt64))] [(.int (0 : Int32)), (.int (own_cov p0.toInt64 p1.toInt64 p2.toInt64 p3.toInt64))])
    refine own_step (fun _ k => XS.icmpNo X13.here hx rfl (hb hby at_95) rfl (teq (own_c2 hc6)).2 k) ?_
    show own_Go p e below P T13 (mkF m 98 #[.val (.int p0), .val (.int p1), .val (.int p2), .val (.int p3), .val (.double (FP.l2d p0.toInt64)), .second, .val (.double (FP.l2d p1.toInt64)), .second, .val (.double (FP.l2d p2.toInt64)), .second, .val (.double (FP.l2d p3.toInt64)), .second, .val (.ref b1), .val (.int (own_cov p0.toInt64 p1.toInt64 p2.toInt64 p3.toInt64)), .val (.ref b4), .val (.int (0 : Int32)), .val (.int (own_cov p0.toInt64 p1.toInt64 p0.toInt64 p1.toInt64))] [])
    refine own_step (fun _ k => XS.iload X13.here hx rfl (hb hby at_98) rfl k) ?_
    show own_Go p e below P T13 (mkF m 100 #[.val (.int p0), .val (.int p1), .val (.int p2), .val (.int p3), .val (.double (FP.l2d p0.toInt64)), .second, .val (.double (FP.l2d p1.toInt64)), .second, .val (.double (FP.l2d p2.toInt64)), .second, .val (.double (FP.l2d p3.toInt64)), .second, .val (.ref b1), .val (.int (own_cov p0.toInt64 p1.toInt64 p2.toInt64 p3.toInt64)), .val (.ref b4), .val (.int (0 : Int32)), .val (.int (own_cov p0.toInt64 p1.toInt64 p0.toInt64 p1.toInt64))] [(.int (own_cov p0.toInt64 p1.toInt64 p0.toInt64 p1.toInt64))])
    refine own_step (fun _ k => XS.ifNo X13.here hx rfl (hb hby at_100) rfl ((if0 _ _).trans (feq (own_r p0.toInt64 p1.toInt64)).1) k) ?_
    show own_Go p e below P T13 (mkF m 103 #[.val (.int p0), .val (.int p1), .val (.int p2), .val (.int p3), .val (.double (FP.l2d p0.toInt64)), .second, .val (.double (FP.l2d p1.toInt64)), .second, .val (.double (FP.l2d p2.toInt64)), .second, .val (.double (FP.l2d p3.toInt64)), .second, .val (.ref b1), .val (.int (own_cov p0.toInt64 p1.toInt64 p2.toInt64 p3.toInt64)), .val (.ref b4), .val (.int (0 : Int32)), .val (.int (own_cov p0.toInt64 p1.toInt64 p0.toInt64 p1.toInt64))] [])
    refine own_step (fun _ k => XS.iconst X13.here hx rfl (hb hby at_103) k) ?_
    show own_Go p e below P T13 (mkF m 104 #[.val (.int p0), .val (.int p1), .val (.int p2), .val (.int p3), .val (.double (FP.l2d p0.toInt64)), .second, .val (.double (FP.l2d p1.toInt64)), .second, .val (.double (FP.l2d p2.toInt64)), .second, .val (.double (FP.l2d p3.toInt64)), .second, .val (.ref b1), .val (.int (own_cov p0.toInt64 p1.toInt64 p2.toInt64 p3.toInt64)), .val (.ref b4), .val (.int (0 : Int32)), .val (.int (own_cov p0.toInt64 p1.toInt64 p0.toInt64 p1.toInt64))] [(.int (1 : Int32))])
    refine own_step (fun _ k => XS.goto X13.here hx rfl (pc0 := 104) (pc' := 108) rfl (hb hby at_104) (by decide) (by decide) k) ?_
    show own_Go p e below P T13 (mkF m 108 #[.val (.int p0), .val (.int p1), .val (.int p2), .val (.int p3), .val (.double (FP.l2d p0.toInt64)), .second, .val (.double (FP.l2d p1.toInt64)), .second, .val (.double (FP.l2d p2.toInt64)), .second, .val (.double (FP.l2d p3.toInt64)), .second, .val (.ref b1), .val (.int (own_cov p0.toInt64 p1.toInt64 p2.toInt64 p3.toInt64)), .val (.ref b4), .val (.int (0 : Int32)), .val (.int (own_cov p0.toInt64 p1.toInt64 p0.toInt64 p1.toInt64))] [(.int (1 : Int32))])
    obtain ⟨fs, hr, hrun, hended, hW, hsame⟩ := X13.leave (v := some (.int (1 : Int32))) (fun h => by rw [Bd.returns] at h; cases h)
    refine ⟨_, _, retN X13 hx (t := .boolean) Bd.returns (by simp) (hb hby at_108) hr, hrun, hended, hfin _ _ ⟨_, _, rfl, ?_, ⟨_, rfl⟩, hW, hsame.mono (by decide) (by decide)⟩⟩
    show Q0 Z p0 p1 p2 p3 h0 n0 (some (.int (1 : Int32))) T13.heap _
    rw [e13]
    exact ⟨rfl, N13⟩
set_option maxRecDepth 65536 in
set_option maxHeartbeats 40000000 in
theorem comes_1 {Post : Tables → Env → Array Value → State → Outcome → State → Prop} (hpost : ∀ tb e args s v u, (limb_1_1.after args s (.returned v) u = true ∧ limb_1_2.after args s (.returned v) u = true ∧ True) → FrameEnd s (.returned v) u (Jvm.fieldLocs frame_1_writes args s ++ Jvm.arrayLocs frame_1_arrays args s ++ Jvm.staticLocs frame_1_statics s) 16 128 → Post tb e args s (.returned v) u) :
    ArmFor flags0 classFile x code maxLocals ret World_1 tables_1 room_1 Calls_1 rest_1 Pre_1 Post := by
  intro l hfl _ _ p e ha hc hk s m args below hf hA hF happ hP
  obtain ⟨hcalls, hrest, hpre⟩ := hP
  obtain ⟨-, -, -, hnamed, -, -, -, hat⟩ := (Spec.applies_iff hf).mp happ
  obtain ⟨hg, hn⟩ := and_e (Cond.before_iff.mp (show (Jvm.Cond.and given_1 narrow_1).before args s = true from hpre))
  obtain ⟨hcnt, hg0⟩ := and_e hg
  obtain ⟨ga0, hg1⟩ := and_e hg0
  obtain ⟨ga1, hg2⟩ := and_e hg1
  obtain ⟨ga2, hg3⟩ := and_e hg2
  have ga3 := hg3
  obtain ⟨w0, w1, w2, w3, rfl⟩ : ∃ w0 w1 w2 w3 : Value, args = #[w0, w1, w2, w3] := by
    have hs : args.size = 4 := by simpa [Cond.value, given_1] using hcnt
    obtain ⟨L⟩ := args
    match L, hs with
    | [w0, w1, w2, w3], _ => exact ⟨w0, w1, w2, w3, rfl⟩
  have hw := fun d (hd : d ∈ tables_1) => atoms_spec (ws := Jvm.Cond.code x code maxLocals ret :: tables_1) hat d (List.mem_cons_of_mem _ hd)
  have hfit : Fit s := fun {y c} hc i hi => by
    obtain ⟨ha, rfl⟩ := Array.getElem?_eq_some_iff.mp hc
    have q := List.all_eq_true.mp ((Array.all_eq_true_iff_forall_mem.mp hF) _ (Array.getElem_mem ha)) i (List.mem_range.mpr hi)
    simpa [Array.getElem?_eq_getElem hi] using q
  obtain ⟨i0, ei0⟩ := is_v ga0
  obtain rfl : w0 = (.int i0) := Option.some.inj ei0
  obtain ⟨i1, ei1⟩ := is_v ga1
  obtain rfl : w1 = (.int i1) := Option.some.inj ei1
  obtain ⟨i2, ei2⟩ := is_v ga2
  obtain rfl : w2 = (.int i2) := Option.some.inj ei2
  obtain ⟨i3, ei3⟩ := is_v ga3
  obtain rfl : w3 = (.int i3) := Option.some.inj ei3
  obtain ⟨n, o, h1, h2, h3, _, L, rfl, ⟨rfl, N⟩, hq⟩ := rm0 l s _ hw tables_1 i0 i1 i2 i3  s.heap s.heap.size (Nat.le_refl _)  p e ha hc hk s m _ below hf ((Spec.applies_iff_loose hf).mp happ).1 ⟨rfl, State.Warmed39.refl s, rfl⟩ trivial
  refine ⟨n, _, h1, h2, h3, hpost _ _ _ _ _ _ ⟨Cond.after_iff.mpr rfl, Cond.after_iff.mpr (eq_i res_at (Term.int_eval (1)) rfl), trivial⟩ ⟨hq.1, hq.2.1, (hq.2.2.sift fun y hy => Or.inr (N y hy)).mono (by decide) (by decide)⟩⟩
theorem main_1_1 : Claimed_1_1 := comes_1 fun _ _ _ _ _ _ h hF => ⟨h.1, hF⟩
theorem main_1_2 : Claimed_1_2 := comes_1 fun _ _ _ _ _ _ h hF => ⟨h.2.1, hF⟩
end Jvm.Pilot.@@N@@
namespace Jvm.Pilot.@@N@@
open Jvm Jvm.ClassFile Sem Op Lib Jvm.Free Jvm.Stand Jvm.Pilot.@@N@@.Jvm.D
/-! MADE BY PROGRAM (witnessworld.py) out of the Statement's table words and the real class files: 11 classes; the members and pool entries that the words name. The judged class is class 1, her method 1. -/
namespace start1
open Jvm.ClassFile
def u (s : String) : CpInfo := .utf8 (stringToUtf16 s)
/-- a pool by its gaps: so many unusable entries, then the entry; so many at the end -/
def gap : Nat → List CpInfo → List CpInfo
  | 0, r => r
  | n + 1, r => .unusable :: gap n r
def poolList (es : List (Nat × CpInfo)) (last : Nat) : List CpInfo := es.foldr (fun e r => gap e.1 (e.2 :: r)) (gap last [])
def pool (es : List (Nat × CpInfo)) (last : Nat) : Array CpInfo := ⟨poolList es last⟩
def fileOf (pool : Array CpInfo) (this : Nat) (attrs : Array Attribute := #[]) (ms : Array MethodInfo := #[]) (fl : Nat := 33) (sup : Nat := 0) (ifs : Array Nat := #[]) (fds : Array FieldInfo := #[]) : ClassFile where
  minorVersion := 0
  majorVersion := 65
  constantPool := pool
  accessFlags := fl
  thisClass := this
  superClass := sup
  interfaces := ifs
  fields := fds
  methods := ms
  attributes := attrs
def plain (name : String) (sup : Option ClassId) : Class where
  name := name
  kind := .ordinary
  loader := none
  accessFlags := 33
  super := sup
  interfaces := #[]
  cf := none
  fields := #[]
  methods := #[]
  instanceTypes := #[]
  staticTypes := #[]
  resolved := #[]
  callSites := []
  init := .initialized
  statics := none
  mirror := none

def pool0 : Array CpInfo := pool [(5, u "<init>"), (0, u "()V"), (1, .class_ 10), (1, u "java/lang/Object")] 113

def k0c0 : Code := { maxStack := 0, maxLocals := 1, code := object_method_1_code, exceptionTable := #[], attributes := #[] }
def k0m0 : Method := { name := "<init>", desc := "()V", sig := { parameters := [], returnType := none }, accessFlags := 1, code := some k0c0 }
/-- java/lang/Object -/
def k0 : Class := { plain "java/lang/Object" none with
  accessFlags := 33
  interfaces := #[]
  cf := some (fileOf pool0 8 #[] #[{ accessFlags := 1, nameIndex := 5, descriptorIndex := 6, attributes := #[] }] 33 0 #[] #[])
  fields := #[]
  methods := #[k0m0]
  instanceTypes := #[]
  staticTypes := #[]
  resolved := Array.replicate 124 none
  statics := none }

def pool1 : Array CpInfo := pool [(2, .class_ 4), (1, u "java/lang/Object"), (0, u "<init>"), (0, u "()V"), (0, .class_ 8), (0, u "com/example/workflow_to_schedule/workflowtoschedule/core/Lease"), (0, .methodref 7 10), (0, .nameAndType 5 11), (0, u "(DD)V"), (0, .methodref 7 13), (0, .nameAndType 14 15), (0, u "covers"), (0, u "(DD)Z"), (0, .methodref 7 17), (0, .nameAndType 18 19), (0, u "covering"), (0, u "(DD)Lcom/example/workflow_to_schedule/workflowtoschedule/core/Lease;"), (0, .methodref 7 21), (0, .nameAndType 22 23), (0, u "start"), (0, u "()D"), (0, .methodref 7 25), (0, .nameAndType 26 23), (0, u "finish"), (0, .class_ 28), (0, u "com/example/workflow_to_schedule/workflowtoschedule/core/LeaseCoversPinLaw"), (2, u "law"), (0, u "(IIII)Z")] 3

def k1m0 : Method := { name := "<init>", desc := "()V", sig := { parameters := [], returnType := none }, accessFlags := 1, code := none }
def k1c1 : Code := { maxStack := 6, maxLocals := 17, code := code, exceptionTable := #[], attributes := #[] }
def k1m1 : Method := { name := "law", desc := "(IIII)Z", sig := { parameters := [.int, .int, .int, .int], returnType := some .boolean }, accessFlags := 9, code := some k1c1 }
/-- com/example/workflow_to_schedule/workflowtoschedule/core/LeaseCoversPinLaw -/
def k1 : Class := { plain "com/example/workflow_to_schedule/workflowtoschedule/core/LeaseCoversPinLaw" (some 0) with
  accessFlags := 49
  interfaces := #[]
  cf := some (fileOf pool1 27 #[] #[{ accessFlags := 1, nameIndex := 5, descriptorIndex := 6, attributes := #[] }, { accessFlags := 9, nameIndex := 31, descriptorIndex := 32, attributes := #[] }] 49 2 #[] #[])
  fields := #[]
  methods := #[k1m0, k1m1]
  instanceTypes := #[]
  staticTypes := #[]
  resolved := Array.replicate 36 none
  statics := none }

def pool2 : Array CpInfo := pool [(1, .methodref 2 3), (0, .class_ 4), (0, .nameAndType 5 6), (0, u "java/lang/Object"), (0, u "<init>"), (0, u "()V"), (0, .class_ 8), (0, u "java/lang/Record")] 13

def k2c0 : Code := { maxStack := 1, maxLocals := 1, code := jdk_30_method_1_code, exceptionTable := #[], attributes := #[] }
def k2m0 : Method := { name := "<init>", desc := "()V", sig := { parameters := [], returnType := none }, accessFlags := 4, code := some k2c0 }
/-- java/lang/Record -/
def k2 : Class := { plain "java/lang/Record" (some 0) with
  accessFlags := 1057
  interfaces := #[]
  cf := some (fileOf pool2 7 #[] #[{ accessFlags := 4, nameIndex := 5, descriptorIndex := 6, attributes := #[] }] 1057 2 #[] #[])
  fields := #[]
  methods := #[k2m0]
  instanceTypes := #[]
  staticTypes := #[]
  resolved := Array.replicate 22 none
  statics := none }

def pool3 : Array CpInfo := pool [(1, .methodref 2 3), (0, .class_ 4), (0, .nameAndType 5 6), (0, u "java/lang/Record"), (0, u "<init>"), (0, u "()V"), (0, .fieldref 8 9), (0, .class_ 10), (0, .nameAndType 11 12), (0, u "com/example/workflow_to_schedule/workflowtoschedule/core/Lease"), (0, u "start"), (0, u "D"), (0, .fieldref 8 14), (0, .nameAndType 15 12), (0, u "finish"), (0, .methodref 17 18), (0, .class_ 19), (0, .nameAndType 20 21), (0, u "java/lang/Math"), (0, u "min"), (0, u "(DD)D"), (0, .methodref 17 23), (0, .nameAndType 24 21), (0, u "max"), (0, .methodref 8 26), (0, .nameAndType 5 27), (0, u "(DD)V"), (16, u "()D"), (0, u "covers"), (0, u "(DD)Z"), (1, u "covering"), (0, u "(DD)Lcom/example/workflow_to_schedule/workflowtoschedule/core/Lease;")] 24

def k3c0 : Code := { maxStack := 3, maxLocals := 5, code := prog_18_method_1_code, exceptionTable := #[], attributes := #[] }
def k3m0 : Method := { name := "<init>", desc := "(DD)V", sig := { parameters := [.double, .double], returnType := none }, accessFlags := 1, code := some k3c0 }
def k3c1 : Code := { maxStack := 4, maxLocals := 5, code := prog_18_method_3_code, exceptionTable := #[], attributes := #[] }
def k3m1 : Method := { name := "covers", desc := "(DD)Z", sig := { parameters := [.double, .double], returnType := some .boolean }, accessFlags := 1, code := some k3c1 }
def k3c2 : Code := { maxStack := 8, maxLocals := 5, code := prog_18_method_4_code, exceptionTable := #[], attributes := #[] }
def k3m2 : Method := { name := "covering", desc := "(DD)Lcom/example/workflow_to_schedule/workflowtoschedule/core/Lease;", sig := { parameters := [.double, .double], returnType := some (.object "com/example/workflow_to_schedule/workflowtoschedule/core/Lease") }, accessFlags := 1, code := some k3c2 }
def k3c3 : Code := { maxStack := 2, maxLocals := 1, code := prog_18_method_8_code, exceptionTable := #[], attributes := #[] }
def k3m3 : Method := { name := "start", desc := "()D", sig := { parameters := [], returnType := some .double }, accessFlags := 1, code := some k3c3 }
def k3c4 : Code := { maxStack := 2, maxLocals := 1, code := prog_18_method_9_code, exceptionTable := #[], attributes := #[] }
def k3m4 : Method := { name := "finish", desc := "()D", sig := { parameters := [], returnType := some .double }, accessFlags := 1, code := some k3c4 }
/-- com/example/workflow_to_schedule/workflowtoschedule/core/Lease -/
def k3 : Class := { plain "com/example/workflow_to_schedule/workflowtoschedule/core/Lease" (some 2) with
  accessFlags := 49
  interfaces := #[]
  cf := some (fileOf pool3 8 #[] #[{ accessFlags := 1, nameIndex := 5, descriptorIndex := 27, attributes := #[] }, { accessFlags := 1, nameIndex := 45, descriptorIndex := 46, attributes := #[] }, { accessFlags := 1, nameIndex := 48, descriptorIndex := 49, attributes := #[] }, { accessFlags := 1, nameIndex := 11, descriptorIndex := 44, attributes := #[] }, { accessFlags := 1, nameIndex := 15, descriptorIndex := 44, attributes := #[] }] 49 2 #[] #[{ accessFlags := 18, nameIndex := 11, descriptorIndex := 12, attributes := #[] }, { accessFlags := 18, nameIndex := 15, descriptorIndex := 12, attributes := #[] }])
  fields := #[{ name := "start", type := .double, accessFlags := 18, slot := 0, constantValue := 0 }, { name := "finish", type := .double, accessFlags := 18, slot := 1, constantValue := 0 }]
  methods := #[k3m0, k3m1, k3m2, k3m3, k3m4]
  instanceTypes := #[.double, .double]
  staticTypes := #[]
  resolved := Array.replicate 74 none
  statics := none }

def pool4 : Array CpInfo := pool [(1, .class_ 2), (0, u "java/lang/Math"), (1, .class_ 6), (1, u "java/lang/Object"), (0, u "<init>"), (0, u "()V"), (43, u "(DD)D"), (45, .class_ 100), (1, u "java/lang/Math$RandomNumberGeneratorHolder"), (71, u "negativeZeroFloatBits"), (0, u "J"), (2, u "negativeZeroDoubleBits"), (21, u "max"), (2, u "min"), (43, u "$assertionsDisabled"), (0, u "Z"), (91, u "twoToTheDoubleScaleDown"), (0, u "D"), (4, u "twoToTheDoubleScaleUp"), (9, u "E"), (3, u "PI"), (2, u "TAU"), (2, u "DEGREES_TO_RADIANS"), (0, u "RADIANS_TO_DEGREES")] 94

def k4m0 : Method := { name := "<init>", desc := "()V", sig := { parameters := [], returnType := none }, accessFlags := 2, code := none }
def k4c1 : Code := { maxStack := 4, maxLocals := 4, code := jdk_29_method_68_code, exceptionTable := #[], attributes := #[] }
def k4m1 : Method := { name := "max", desc := "(DD)D", sig := { parameters := [.double, .double], returnType := some .double }, accessFlags := 9, code := some k4c1 }
def k4c2 : Code := { maxStack := 4, maxLocals := 4, code := jdk_29_method_72_code, exceptionTable := #[], attributes := #[] }
def k4m2 : Method := { name := "min", desc := "(DD)D", sig := { parameters := [.double, .double], returnType := some .double }, accessFlags := 9, code := some k4c2 }
/-- java/lang/Math -/
def k4 : Class := { plain "java/lang/Math" (some 0) with
  accessFlags := 49
  interfaces := #[]
  cf := some (fileOf pool4 1 #[.nestMembers #[98]] #[{ accessFlags := 2, nameIndex := 7, descriptorIndex := 8, attributes := #[] }, { accessFlags := 9, nameIndex := 198, descriptorIndex := 52, attributes := #[] }, { accessFlags := 9, nameIndex := 201, descriptorIndex := 52, attributes := #[] }] 49 4 #[] #[{ accessFlags := 25, nameIndex := 354, descriptorIndex := 339, attributes := #[] }, { accessFlags := 25, nameIndex := 358, descriptorIndex := 339, attributes := #[] }, { accessFlags := 25, nameIndex := 361, descriptorIndex := 339, attributes := #[] }, { accessFlags := 26, nameIndex := 364, descriptorIndex := 339, attributes := #[] }, { accessFlags := 26, nameIndex := 365, descriptorIndex := 339, attributes := #[] }, { accessFlags := 26, nameIndex := 172, descriptorIndex := 173, attributes := #[] }, { accessFlags := 26, nameIndex := 176, descriptorIndex := 173, attributes := #[] }, { accessFlags := 8, nameIndex := 344, descriptorIndex := 339, attributes := #[] }, { accessFlags := 8, nameIndex := 338, descriptorIndex := 339, attributes := #[] }, { accessFlags := 4120, nameIndex := 245, descriptorIndex := 246, attributes := #[] }])
  fields := #[{ name := "E", type := .double, accessFlags := 25, slot := 0, constantValue := 0 }, { name := "PI", type := .double, accessFlags := 25, slot := 1, constantValue := 0 }, { name := "TAU", type := .double, accessFlags := 25, slot := 2, constantValue := 0 }, { name := "DEGREES_TO_RADIANS", type := .double, accessFlags := 26, slot := 3, constantValue := 0 }, { name := "RADIANS_TO_DEGREES", type := .double, accessFlags := 26, slot := 4, constantValue := 0 }, { name := "negativeZeroFloatBits", type := .long, accessFlags := 26, slot := 5, constantValue := 0 }, { name := "negativeZeroDoubleBits", type := .long, accessFlags := 26, slot := 6, constantValue := 0 }, { name := "twoToTheDoubleScaleUp", type := .double, accessFlags := 8, slot := 7, constantValue := 0 }, { name := "twoToTheDoubleScaleDown", type := .double, accessFlags := 8, slot := 8, constantValue := 0 }, { name := "$assertionsDisabled", type := .boolean, accessFlags := 4120, slot := 9, constantValue := 0 }]
  methods := #[k4m0, k4m1, k4m2]
  instanceTypes := #[]
  staticTypes := #[.double, .double, .double, .double, .double, .long, .long, .double, .double, .boolean]
  resolved := Array.replicate 460 none
  statics := none }

def pool5 : Array CpInfo := pool [(1, u "java/lang/Cloneable"), (0, .class_ 1), (0, u "java/lang/Object"), (0, .class_ 3)] 3

/-- java/lang/Cloneable -/
def k5 : Class := { plain "java/lang/Cloneable" (some 0) with
  accessFlags := 1537
  interfaces := #[]
  cf := some (fileOf pool5 2 #[] #[] 1537 4 #[] #[])
  fields := #[]
  methods := #[]
  instanceTypes := #[]
  staticTypes := #[]
  resolved := Array.replicate 8 none
  statics := none }

def pool6 : Array CpInfo := pool [(1, u "java/io/Serializable"), (0, .class_ 1), (0, u "java/lang/Object"), (0, .class_ 3)] 3

/-- java/io/Serializable -/
def k6 : Class := { plain "java/io/Serializable" (some 0) with
  accessFlags := 1537
  interfaces := #[]
  cf := some (fileOf pool6 2 #[] #[] 1537 4 #[] #[])
  fields := #[]
  methods := #[]
  instanceTypes := #[]
  staticTypes := #[]
  resolved := Array.replicate 8 none
  statics := none }

/-- the primitive byte -/
def k7 : Class := { plain "byte" none with kind := .primitive 'B', accessFlags := 0x411 }
/-- [B -/
def k8 : Class := { plain "[B" (some 0) with kind := .array 7 .byte, interfaces := #[5, 6], accessFlags := 1041 }

/-- the primitive int -/
def k9 : Class := { plain "int" none with kind := .primitive 'I', accessFlags := 0x411 }
/-- [I -/
def k10 : Class := { plain "[I" (some 0) with kind := .array 9 .int, interfaces := #[5, 6], accessFlags := 1041 }

def heap : Heap := #[]
def classes : Array Class := #[k0, k1, k2, k3, k4, k5, k6, k7, k8, k9, k10]
def interned : List (Array UInt16 × Addr) := []
def slotsUsed : Nat := 0
def theMethod : MethodId := ⟨1, 1⟩
def args0 : Array Value := #[.int 5, .int 7, .int 4, .int 9]
def aboutOver (below : List Frame) : State where
  vm := { classes := classes, interned := interned.toArray }
  heap := heap
  slotsUsed := slotsUsed
  threads := #[{ frames := .invoking theMethod args0 :: below }]
def below0 : List Frame := [.native { method := ⟨0, 0⟩, args := #[] }]
def about1 : State := aboutOver below0
def p0 : Program := .bare "" "" ""
def e0 : Env := launch0.env 0 0 0
theorem w_frames : about1.frames = Frame.invoking theMethod args0 :: below0 := rfl
set_option maxRecDepth 65536 in
theorem w_args : argsFit about1.vm theMethod args0 = true := by decide +kernel
set_option maxRecDepth 65536 in
theorem w_heap : heapFits about1 = true := by decide +kernel
set_option maxRecDepth 65536 in
theorem w_runnable : about1.curStatus? = some .runnable := by decide +kernel
set_option maxRecDepth 65536 in
theorem w_alone : about1.alone = true := by decide +kernel
set_option maxRecDepth 65536 in
theorem w_named : about1.methodNamed? x = some theMethod := by decide +kernel
set_option maxRecDepth 65536 in
theorem w_hears : about1.hears theMethod below0 = true := by decide +kernel
set_option maxRecDepth 65536 in
theorem w_ripe : about1.ripe theMethod args0 below0 = true := by decide +kernel
theorem w_running : about1.status = .running := rfl
set_option maxRecDepth 65536 in
theorem w_room : about1.hasRoom e0.platform room_1 = true :=
  launch0.hasRoom_least _ room_1 (by decide +kernel) (by decide +kernel) (by decide +kernel) (by decide +kernel) (by decide +kernel) (by decide +kernel)
theorem allAtoms_all (ts : List Jvm.Cond) (a : Array Jvm.Value) (st : Jvm.State) : (allAtoms ts).before a st = ts.all (fun c => c.before a st) := by
  induction ts with
  | nil => rfl
  | cons c t ih =>
    show (Jvm.Cond.and c (allAtoms t)).before a st = _
    rw [Jvm.Cond.before_and, ih, List.all_cons]
def words1 : List Jvm.Cond := Jvm.Cond.code x code maxLocals ret :: tables_1
/-- a 'code' word, met by the world's own term for the bytes: nothing is compared byte by byte -/
theorem code_word {y : MethodName} {bytes : ByteArray} {mx : Nat} {rt : Option FieldType} {a : Array Value} {s : State} {m : MethodId} {meth : Method} {c : Code} (h1 : s.methodNamed? y = some m) (h2 : s.vm.method? m = some meth) (h3 : meth.code = some c) (h4 : c.code = bytes)
    (h5 : (c.maxLocals == mx && c.exceptionTable.isEmpty && decide (c.maxStack ≤ mostOperands) && decide (meth.sig.returnType = rt) && !meth.locks && decide (parseMethodDescriptor y.desc = some meth.sig)) = true) : (Jvm.Cond.code y bytes mx rt).before a s = true := by
  simp only [Bool.and_eq_true, beq_iff_eq, Bool.not_eq_true', decide_eq_true_eq] at h5
  obtain ⟨⟨⟨⟨⟨g1, g2⟩, g3⟩, g4⟩, g5⟩, g6⟩ := h5
  simp [Cond.before, Cond.holds, Cond.value, h1, h2, h3, h4, g1, g2, g3, g4, g5, g6]
def isCode : Jvm.Cond → Bool
  | .code _ _ _ _ => true
  | _ => false
theorem all_split {L : List Jvm.Cond} {P : Jvm.Cond → Bool} (h1 : L.all (fun c => isCode c || P c) = true) (h2 : ∀ c ∈ L.filter isCode, P c = true) : L.all P = true := by
  refine List.all_eq_true.mpr fun c hc => ?_
  have h := List.all_eq_true.mp h1 c hc
  rcases Bool.eq_false_or_eq_true (isCode c) with hi | hi
  · exact h2 c (List.mem_filter.mpr ⟨hc, hi⟩)
  · simpa [hi] using h
set_option maxRecDepth 65536 in
theorem w_c0 : (Jvm.Cond.code x code maxLocals ret).before args0 about1 = true := code_word (m := ⟨1, 1⟩) (meth := k1m1) (c := k1c1) (by decide +kernel) rfl rfl rfl (by decide +kernel)
set_option maxRecDepth 65536 in
theorem w_c1 : (Jvm.Cond.code ({ cls := "com/example/workflow_to_schedule/workflowtoschedule/core/Lease", name := "<init>", desc := "(DD)V" } : Jvm.MethodName) prog_18_method_1_code (5 : Nat) (Option.none : Option Jvm.ClassFile.FieldType)).before args0 about1 = true := code_word (m := ⟨3, 0⟩) (meth := k3m0) (c := k3c0) (by decide +kernel) rfl rfl rfl (by decide +kernel)
set_option maxRecDepth 65536 in
theorem w_c2 : (Jvm.Cond.code ({ cls := "java/lang/Record", name := "<init>", desc := "()V" } : Jvm.MethodName) jdk_30_method_1_code (1 : Nat) (Option.none : Option Jvm.ClassFile.FieldType)).before args0 about1 = true := code_word (m := ⟨2, 0⟩) (meth := k2m0) (c := k2c0) (by decide +kernel) rfl rfl rfl (by decide +kernel)
set_option maxRecDepth 65536 in
theorem w_c3 : (Jvm.Cond.code ({ cls := "java/lang/Object", name := "<init>", desc := "()V" } : Jvm.MethodName) object_method_1_code (1 : Nat) (Option.none : Option Jvm.ClassFile.FieldType)).before args0 about1 = true := code_word (m := ⟨0, 0⟩) (meth := k0m0) (c := k0c0) (by decide +kernel) rfl rfl rfl (by decide +kernel)
set_option maxRecDepth 65536 in
theorem w_c4 : (Jvm.Cond.code ({ cls := "com/example/workflow_to_schedule/workflowtoschedule/core/Lease", name := "covers", desc := "(DD)Z" } : Jvm.MethodName) prog_18_method_3_code (5 : Nat) (Option.some Jvm.ClassFile.FieldType.boolean)).before args0 about1 = true := code_word (m := ⟨3, 1⟩) (meth := k3m1) (c := k3c1) (by decide +kernel) rfl rfl rfl (by decide +kernel)
set_option maxRecDepth 65536 in
theorem w_c5 : (Jvm.Cond.code ({ cls := "com/example/workflow_to_schedule/workflowtoschedule/core/Lease", name := "covering", desc := "(DD)Lcom/example/workflow_to_schedule/workflowtoschedule/core/Lease;" } : Jvm.MethodName) prog_18_method_4_code (5 : Nat) (Option.some (Jvm.ClassFile.FieldType.object "com/example/workflow_to_schedule/workflowtoschedule/core/Lease"))).before args0 about1 = true := code_word (m := ⟨3, 2⟩) (meth := k3m2) (c := k3c2) (by decide +kernel) rfl rfl rfl (by decide +kernel)
set_option maxRecDepth 65536 in
theorem w_c6 : (Jvm.Cond.code ({ cls := "java/lang/Math", name := "min", desc := "(DD)D" } : Jvm.MethodName) jdk_29_method_72_code (4 : Nat) (Option.some Jvm.ClassFile.FieldType.double)).before args0 about1 = true := code_word (m := ⟨4, 2⟩) (meth := k4m2) (c := k4c2) (by decide +kernel) rfl rfl rfl (by decide +kernel)
set_option maxRecDepth 65536 in
theorem w_c7 : (Jvm.Cond.code ({ cls := "java/lang/Math", name := "max", desc := "(DD)D" } : Jvm.MethodName) jdk_29_method_68_code (4 : Nat) (Option.some Jvm.ClassFile.FieldType.double)).before args0 about1 = true := code_word (m := ⟨4, 1⟩) (meth := k4m1) (c := k4c1) (by decide +kernel) rfl rfl rfl (by decide +kernel)
set_option maxRecDepth 65536 in
theorem w_c8 : (Jvm.Cond.code ({ cls := "com/example/workflow_to_schedule/workflowtoschedule/core/Lease", name := "start", desc := "()D" } : Jvm.MethodName) prog_18_method_8_code (1 : Nat) (Option.some Jvm.ClassFile.FieldType.double)).before args0 about1 = true := code_word (m := ⟨3, 3⟩) (meth := k3m3) (c := k3c3) (by decide +kernel) rfl rfl rfl (by decide +kernel)
set_option maxRecDepth 65536 in
theorem w_c9 : (Jvm.Cond.code ({ cls := "com/example/workflow_to_schedule/workflowtoschedule/core/Lease", name := "finish", desc := "()D" } : Jvm.MethodName) prog_18_method_9_code (1 : Nat) (Option.some Jvm.ClassFile.FieldType.double)).before args0 about1 = true := code_word (m := ⟨3, 4⟩) (meth := k3m4) (c := k3c4) (by decide +kernel) rfl rfl rfl (by decide +kernel)
def codes1 : List Jvm.Cond := [Jvm.Cond.code x code maxLocals ret, Jvm.Cond.code ({ cls := "com/example/workflow_to_schedule/workflowtoschedule/core/Lease", name := "<init>", desc := "(DD)V" } : Jvm.MethodName) prog_18_method_1_code (5 : Nat) (Option.none : Option Jvm.ClassFile.FieldType), Jvm.Cond.code ({ cls := "java/lang/Record", name := "<init>", desc := "()V" } : Jvm.MethodName) jdk_30_method_1_code (1 : Nat) (Option.none : Option Jvm.ClassFile.FieldType), Jvm.Cond.code ({ cls := "java/lang/Object", name := "<init>", desc := "()V" } : Jvm.MethodName) object_method_1_code (1 : Nat) (Option.none : Option Jvm.ClassFile.FieldType), Jvm.Cond.code ({ cls := "com/example/workflow_to_schedule/workflowtoschedule/core/Lease", name := "covers", desc := "(DD)Z" } : Jvm.MethodName) prog_18_method_3_code (5 : Nat) (Option.some Jvm.ClassFile.FieldType.boolean), Jvm.Cond.code ({ cls := "com/example/workflow_to_schedule/workflowtoschedule/core/Lease", name := "covering", desc := "(DD)Lcom/example/workflow_to_schedule/workflowtoschedule/core/Lease;" } : Jvm.MethodName) prog_18_method_4_code (5 : Nat) (Option.some (Jvm.ClassFile.FieldType.object "com/example/workflow_to_schedule/workflowtoschedule/core/Lease")), Jvm.Cond.code ({ cls := "java/lang/Math", name := "min", desc := "(DD)D" } : Jvm.MethodName) jdk_29_method_72_code (4 : Nat) (Option.some Jvm.ClassFile.FieldType.double), Jvm.Cond.code ({ cls := "java/lang/Math", name := "max", desc := "(DD)D" } : Jvm.MethodName) jdk_29_method_68_code (4 : Nat) (Option.some Jvm.ClassFile.FieldType.double), Jvm.Cond.code ({ cls := "com/example/workflow_to_schedule/workflowtoschedule/core/Lease", name := "start", desc := "()D" } : Jvm.MethodName) prog_18_method_8_code (1 : Nat) (Option.some Jvm.ClassFile.FieldType.double), Jvm.Cond.code ({ cls := "com/example/workflow_to_schedule/workflowtoschedule/core/Lease", name := "finish", desc := "()D" } : Jvm.MethodName) prog_18_method_9_code (1 : Nat) (Option.some Jvm.ClassFile.FieldType.double)]
set_option maxRecDepth 65536 in
theorem codes_eq : words1.filter isCode = codes1 := rfl
theorem w_codes : ∀ c ∈ words1.filter isCode, c.before args0 about1 = true := by
  rw [codes_eq]
  intro c hc
  simp only [codes1, List.mem_cons, List.not_mem_nil, or_false] at hc
  rcases hc with rfl | rfl | rfl | rfl | rfl | rfl | rfl | rfl | rfl | rfl
  · exact w_c0
  · exact w_c1
  · exact w_c2
  · exact w_c3
  · exact w_c4
  · exact w_c5
  · exact w_c6
  · exact w_c7
  · exact w_c8
  · exact w_c9
set_option maxRecDepth 65536 in
theorem w_t1 : (words1.take 24).all (fun c => isCode c || c.before args0 about1) = true := by decide +kernel
set_option maxRecDepth 65536 in
theorem w_t2 : (words1.drop 24).all (fun c => isCode c || c.before args0 about1) = true := by decide +kernel
theorem w_tables : (allAtoms (Jvm.Cond.code x code maxLocals ret :: tables_1)).before args0 about1 = true := by
  rw [allAtoms_all]
  show words1.all (fun c => c.before args0 about1) = true
  refine all_split ?_ w_codes
  rw [← List.take_append_drop 24 words1, List.all_append, w_t1, w_t2]
  rfl
set_option maxRecDepth 65536 in
theorem w_case : (Jvm.Cond.and given_1 narrow_1).before args0 about1 = true := by decide +kernel
theorem w_applies : (headSpec (Jvm.Cond.code x code maxLocals ret :: tables_1) room_1).applies x e0.platform about1 = true :=
  (Spec.applies_iff w_frames).mpr ⟨w_running, w_runnable, w_alone, w_named, w_hears, w_ripe, w_room, w_tables⟩
theorem atStart : AtStart classFile x code maxLocals ret World_1 tables_1 room_1 Calls_1 rest_1 Pre_1 launch0 p0 e0 about1 theMethod args0 below0 :=
  ⟨lists_1, trivial, launch0.admits_env _ _ _, launch0.least_env, fairChoices_fair.cas, fairChoices_fair.clock, w_frames, w_args, w_heap, w_applies, trivial, trivial, w_case⟩
end start1
theorem witness_1 : WitnessClaimed_1 := ⟨start1.p0, start1.e0, start1.about1, start1.theMethod, start1.args0, start1.below0, start1.atStart⟩
end Jvm.Pilot.@@N@@
