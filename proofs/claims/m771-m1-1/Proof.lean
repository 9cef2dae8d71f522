import JvmDerived
import JvmDerived.Pilot.@@N@@Statement
import JvmDerived.Pilot.@@N@@Code
set_option linter.unusedVariables false
set_option linter.unusedSimpArgs false
namespace Jvm.Pilot.@@N@@
open Jvm Jvm.ClassFile Sem Op Lib Jvm.Free Jvm.Stand Jvm.LawKit Jvm.RoadKit Bundle Jvm.Free.Fl Jvm.Pilot.@@N@@.Jvm.D
/-! the run stands at F in T, and comes to an end that P says -/
def own_Go (p : Program) (e : Env) (below : List Frame) (P : Outcome → State → Prop) (T : State) (F : JFrame) : Prop :=
  ∃ s₂ o, Steps p.tables e below (T.setTop F) s₂ ∧ s₂.status = .running ∧ Ended s₂ below o ∧ P o s₂
theorem own_step {p : Program} {e : Env} {below : List Frame} {P : Outcome → State → Prop} {T T' : State} {F F' : JFrame} (st : ∀ t, Steps p.tables e below (T'.setTop F') t → Steps p.tables e below (T.setTop F) t) (h : own_Go p e below P T' F') : own_Go p e below P T F := by
  obtain ⟨s₂, o, h1, h2⟩ := h
  exact ⟨s₂, o, st _ h1, h2⟩
theorem own_cast {p : Program} {e : Env} {below : List Frame} {P : Outcome → State → Prop} {T : State} {F F' : JFrame} (q : F = F') (h : own_Go p e below P T F') : own_Go p e below P T F := q ▸ h
theorem own_all {p : Program} {e : Env} {below : List Frame} {Q : Outcome → State → Prop} {T : State} {F : JFrame} (h : ∀ P : Outcome → State → Prop, (∀ o U, Q o U → P o U) → own_Go p e below P T F) : own_Go p e below Q T F := h Q fun _ _ q => q
theorem own_static {args : Array Value} {s : State} {C n d K : String} (hx : (Jvm.Cond.exactly (Term.static C n d) K).value args s none s [] = some true) (hi : (Jvm.Cond.initialized C).before args s = true) (hl : (Jvm.Cond.laysStatic C n d).before args s = true) : ∃ a, Sta s s.heap C n d (.ref a) ∧ Exa s s.heap a K := by
  obtain ⟨a, c', cell, k, e1, -⟩ := Cond.exactly_spec (Cond.before_iff.mpr hx)
  exact ⟨a, Sta.start e1 (Or.inr ⟨hi, hl⟩), Exa.start e1 hx⟩
/-! the doubles: k / 1000.0 for the 2048 whole numbers k that the mask lets through, against 0.05 -/
def own_p (k : Int32) : UInt64 := FP.ddiv (FP.i2d k) 4652007308841189376
theorem own_tab : ∀ i : Fin 2048, (cmpValue (FP.dcmp (own_p (Int32.ofInt ((i.1 : Int) - 1000))) 4587366580439587226) .g < 0) = ((Int32.ofInt ((i.1 : Int) - 1000)) < 50) ∧ NoNaN64 (own_p (Int32.ofInt ((i.1 : Int) - 1000))) := by
  have h : ∀ i : Fin 2048, (decide (cmpValue (FP.dcmp (own_p (Int32.ofInt ((i.1 : Int) - 1000))) 4587366580439587226) .g < 0) = decide ((Int32.ofInt ((i.1 : Int) - 1000)) < 50)) ∧ Fin64 (own_p (Int32.ofInt ((i.1 : Int) - 1000))) := by
    unfold Fin64; decide +kernel
  intro i
  exact ⟨by simpa using (h i).1, (h i).2.noNaN⟩
theorem own_k (a : Int32) : ∃ i : Fin 2048, (a &&& 2047) - 1000 = Int32.ofInt ((i.1 : Int) - 1000) := by
  have e := c_mask a 2047 11 (by decide) (by decide)
  have h0 : 0 ≤ (a &&& 2047).toInt := by rw [e]; exact Int.emod_nonneg _ (by decide)
  have h1 : (a &&& 2047).toInt < 2048 := by rw [e]; exact Int.emod_lt_of_pos _ (by decide)
  refine ⟨⟨(a &&& 2047).toInt.toNat, by omega⟩, ?_⟩
  apply Int32.toInt_inj.mp
  rw [Int32.toInt_sub, Int32.toInt_ofInt]
  show ((a &&& 2047).toInt - 1000).bmod (2 ^ 32) = (((a &&& 2047).toInt.toNat : Int) - 1000).bmod (2 ^ 32)
  rw [Int.toNat_of_nonneg h0]
theorem own_lt (a : Int32) : cmpValue (FP.dcmp (own_p ((a &&& 2047) - 1000)) 4587366580439587226) .g < 0 ↔ (a &&& 2047) - 1000 < 50 := by
  obtain ⟨i, hi⟩ := own_k a
  rw [hi]; exact iff_of_eq (own_tab i).1
theorem own_nn (a : Int32) : NoNaN64 (own_p ((a &&& 2047) - 1000)) := by
  obtain ⟨i, hi⟩ := own_k a
  rw [hi]; exact (own_tab i).2
theorem own_v {C : Prop} [Decidable C] (p1 : Int32) (ab aw an : Addr) : (¬ C → (if C ∧ p1 < 0 then ab else if C ∧ 0 < p1 then aw else an) = an) ∧ (p1 = 0 → (if C ∧ p1 < 0 then ab else if C ∧ 0 < p1 then aw else an) = an) ∧ (C → p1 < 0 → (if C ∧ p1 < 0 then ab else if C ∧ 0 < p1 then aw else an) = ab) ∧ (C → ¬ p1 = 0 → ¬ p1 < 0 → (if C ∧ p1 < 0 then ab else if C ∧ 0 < p1 then aw else an) = aw) := by
  refine ⟨fun h => ?_, fun h => ?_, fun h g => if_pos ⟨h, g⟩, fun h g k => ?_⟩
  · rw [if_neg (fun q => h q.1), if_neg (fun q => h q.1)]
  · subst h; rw [if_neg (fun q => absurd q.2 (by decide)), if_neg (fun q => absurd q.2 (by decide))]
  · have h2 : 0 < p1 := by
      have e : p1.toInt ≠ 0 := fun q => g (Int32.toInt_inj.mp q)
      rw [Int32.lt_iff_toInt_lt] at k ⊢
      have e0 : (0 : Int32).toInt = 0 := rfl
      omega
    rw [if_neg (fun q => k q.2), if_pos ⟨h, h2⟩]
theorem ef_1 (m : MethodId) (x0 : UInt64) (x1 : Int32) : entryFrame m #[(.double x0), (.int x1)] 4 = mkF m 0 #[.val (.double x0), .second, .val (.int x1), .unset] [] := by first | (simp [entryFrame, mkF, argsToLocals, Value.category]; done) | rfl
theorem pn_com_example_rulewright_rulewright_analysis_Verdict : plainName "com/example/rulewright/rulewright/analysis/Verdict" = true := by first | (simp [plainName, overriddenIn]; done) | decide +kernel
theorem d1_0 : decode prog_8_method_5_code 0 = .ok (.dload_n 0, 1) := by decide +kernel
theorem d1_1 : decode prog_8_method_5_code 1 = .ok (.ldc2_w 36, 3) := by decide +kernel
theorem d1_4 : decode prog_8_method_5_code 4 = .ok (.dcmp .g, 1) := by decide +kernel
theorem d1_5 : decode prog_8_method_5_code 5 = .ok (.ifCond .ge 14, 3) := by decide +kernel
theorem d1_8 : decode prog_8_method_5_code 8 = .ok (.iload_n 2, 1) := by decide +kernel
theorem d1_9 : decode prog_8_method_5_code 9 = .ok (.ifCond .ge 10, 3) := by decide +kernel
theorem d1_12 : decode prog_8_method_5_code 12 = .ok (.getstatic 3, 3) := by decide +kernel
theorem d1_15 : decode prog_8_method_5_code 15 = .ok (.astore_n 3, 1) := by decide +kernel
theorem d1_16 : decode prog_8_method_5_code 16 = .ok (.goto 26, 3) := by decide +kernel
theorem d1_42 : decode prog_8_method_5_code 42 = .ok (.aload_n 3, 1) := by decide +kernel
theorem d1_43 : decode prog_8_method_5_code 43 = .ok (.areturn, 1) := by decide +kernel
theorem d1_19 : decode prog_8_method_5_code 19 = .ok (.dload_n 0, 1) := by decide +kernel
theorem d1_20 : decode prog_8_method_5_code 20 = .ok (.ldc2_w 36, 3) := by decide +kernel
theorem d1_23 : decode prog_8_method_5_code 23 = .ok (.dcmp .g, 1) := by decide +kernel
theorem d1_24 : decode prog_8_method_5_code 24 = .ok (.ifCond .ge 14, 3) := by decide +kernel
theorem d1_27 : decode prog_8_method_5_code 27 = .ok (.iload_n 2, 1) := by decide +kernel
theorem d1_28 : decode prog_8_method_5_code 28 = .ok (.ifCond .le 10, 3) := by decide +kernel
theorem d1_31 : decode prog_8_method_5_code 31 = .ok (.getstatic 7, 3) := by decide +kernel
theorem d1_34 : decode prog_8_method_5_code 34 = .ok (.astore_n 3, 1) := by decide +kernel
theorem d1_35 : decode prog_8_method_5_code 35 = .ok (.goto 7, 3) := by decide +kernel
theorem d1_38 : decode prog_8_method_5_code 38 = .ok (.getstatic 10, 3) := by decide +kernel
theorem d1_41 : decode prog_8_method_5_code 41 = .ok (.astore_n 3, 1) := by decide +kernel
def Q1 (Z : State) (x0 : UInt64) (p1 : Int32) (aw : Addr) (an : Addr) (ab : Addr) (h0 : Heap) (n0 : Nat) (v : Option Value) (h : Heap) (L : List Loc) : Prop := v = some (.ref (if (cmpValue (FP.dcmp x0 (4587366580439587226 : UInt64)) .g) < 0 ∧ p1 < 0 then ab else if (cmpValue (FP.dcmp x0 (4587366580439587226 : UInt64)) .g) < 0 ∧ 0 < p1 then aw else an)) ∧ Fr n0 L ∧ h = h0
set_option maxRecDepth 65536 in
set_option maxHeartbeats 40000000 in
theorem rm1 (l : Launch) (Z : State) (a0 : Array Value) (hw : ∀ d ∈ tables_1, d.before a0 Z = true) (ws : List Jvm.Cond) (x0 : UInt64) (p1 : Int32) (aw : Addr) (an : Addr) (ab : Addr) (h0 : Heap) (n0 : Nat) (Z0 : n0 ≤ h0.size) (S_WORSE : Sta Z h0 "com/example/rulewright/rulewright/analysis/Verdict" "WORSE" "Lcom/example/rulewright/rulewright/analysis/Verdict;" (.ref aw)) (S_NO_DIFFERENCE : Sta Z h0 "com/example/rulewright/rulewright/analysis/Verdict" "NO_DIFFERENCE" "Lcom/example/rulewright/rulewright/analysis/Verdict;" (.ref an)) (S_BETTER : Sta Z h0 "com/example/rulewright/rulewright/analysis/Verdict" "BETTER" "Lcom/example/rulewright/rulewright/analysis/Verdict;" (.ref ab)) :
    MetFree l (⟨"com/example/rulewright/rulewright/analysis/Verdict", "of", "(DI)Lcom/example/rulewright/rulewright/analysis/Verdict;"⟩ : MethodName) (head1 (Jvm.Cond.code (⟨"com/example/rulewright/rulewright/analysis/Verdict", "of", "(DI)Lcom/example/rulewright/rulewright/analysis/Verdict;"⟩ : MethodName) prog_8_method_5_code 4 (some (.object "com/example/rulewright/rulewright/analysis/Verdict")) :: ws) ({ frames := 0, cells := 0, slots := 0, locals := 0 } : Room)) (fun a U => a = #[(.double x0), (.int p1)] ∧ Z.Warmed39 U.vm ∧ U.heap = h0) (fun _ _ _ _ _ => True) (fun _ U o U' => ∃ v L, o = .returned v ∧ Q1 Z x0 p1 aw an ab h0 n0 v U'.heap L ∧ FrameEnd U o U' L ({ frames := 0, cells := 0, slots := 0, locals := 0 } : Room).cells ({ frames := 0, cells := 0, slots := 0, locals := 0 } : Room).slots) := by
  refine MetFree.of_bodySF (plainFor_of_name pn_com_example_rulewright_rulewright_analysis_Verdict) hisR ?_
  intro p e s m args below meth c s₁ Bd hml0 hP hK
  obtain ⟨rfl, hZ, hh⟩ := hP
  have hx := Bd.exec
  have hby := Bd.bytes
  have hml : c.maxLocals = 4 := hml0
  have hown : s.vm.findClass "com/example/rulewright/rulewright/analysis/Verdict" = some m.cls := findClass_of_methodNamed Bd.named
  have hnm := (name_of_methodNamed Bd.named Bd.method).1
  have X0 : Stand p l e ({ frames := 0, cells := 0, slots := 0, locals := 0 } : Room) s m #[(.double x0), (.int p1)] below meth c s₁ [] 0 0 := Stand.of_body Bd
  have e0 : s₁.heap = h0 := by rw [← hh, Bd.state]; rfl
  have N0 := Fr.nil n0
  refine own_all ?_
  intro P hfin
  refine own_cast (ef_1 m x0 p1) ?_
  show own_Go p e below P s₁ (mkF m 0 #[.val (.double x0), .second, .val (.int p1), .unset] [])
  refine own_step (fun _ k => XS.dloadN X0.here hx rfl (hb hby d1_0) rfl k) ?_
  show own_Go p e below P s₁ (mkF m 1 #[.val (.double x0), .second, .val (.int p1), .unset] [(.double x0)])
  refine own_step (fun t k => X0.ldc2DoubleC hx hown (mvT hZ (hw _ (List.mem_of_getElem? (i := 5) rfl))) (g := (mkF m 1 #[.val (.double x0), .second, .val (.int p1), .unset] [(.double x0)])) rfl (hb hby d1_1) t k) ?_
  show own_Go p e below P s₁ (mkF m 4 #[.val (.double x0), .second, .val (.int p1), .unset] [(.double (4587366580439587226 : UInt64)), (.double x0)])
  refine own_step (fun _ k => XS.dcmpS X0.here hx rfl (hb hby d1_4) rfl rfl k) ?_
  show own_Go p e below P s₁ (mkF m 5 #[.val (.double x0), .second, .val (.int p1), .unset] [(.int (cmpValue (FP.dcmp x0 (4587366580439587226 : UInt64)) .g))])
  by_cases hc1 : (cmpValue (FP.dcmp x0 (4587366580439587226 : UInt64)) .g) < (0 : Int32)
  · refine own_step (fun _ k => XS.ifNo X0.here hx rfl (hb hby d1_5) rfl ((if0 _ _).trans (tlt hc1).2.1) k) ?_
    show own_Go p e below P s₁ (mkF m 8 #[.val (.double x0), .second, .val (.int p1), .unset] [])
    refine own_step (fun _ k => XS.iloadN X0.here hx rfl (hb hby d1_8) rfl k) ?_
    show own_Go p e below P s₁ (mkF m 9 #[.val (.double x0), .second, .val (.int p1), .unset] [(.int p1)])
    by_cases hc2 : p1 < (0 : Int32)
    · refine own_step (fun _ k => XS.ifNo X0.here hx rfl (hb hby d1_9) rfl ((if0 _ _).trans (tlt hc2).2.1) k) ?_
      show own_Go p e below P s₁ (mkF m 12 #[.val (.double x0), .second, .val (.int p1), .unset] [])
      obtain ⟨T3, X3, e3, st3⟩ := getS2 X0 hx hZ hown (host := "") (Or.inl (hw _ (List.mem_of_getElem? (i := 12) rfl))) Via.refl e0 S_BETTER (g := (mkF m 12 #[.val (.double x0), .second, .val (.int p1), .unset] [])) rfl (hb hby d1_12)
      refine own_step st3 ?_
      show own_Go p e below P T3 (mkF m 15 #[.val (.double x0), .second, .val (.int p1), .unset] [(.ref ab)])
      refine own_step (fun _ k => XS.astoreN X3.here hx rfl (hb hby d1_15) rfl rfl (l' := #[.val (.double x0), .second, .val (.int p1), .val (.ref ab)]) rfl k) ?_
      show own_Go p e below P T3 (mkF m 16 #[.val (.double x0), .second, .val (.int p1), .val (.ref ab)] [])
      refine own_step (fun _ k => XS.goto X3.here hx rfl (pc0 := 16) (pc' := 42) rfl (hb hby d1_16) (by decide) (by decide) k) ?_
      show own_Go p e below P T3 (mkF m 42 #[.val (.double x0), .second, .val (.int p1), .val (.ref ab)] [])
      refine own_step (fun _ k => XS.aloadN X3.here hx rfl (hb hby d1_42) rfl rfl k) ?_
      show own_Go p e below P T3 (mkF m 43 #[.val (.double x0), .second, .val (.int p1), .val (.ref ab)] [(.ref ab)])
      obtain ⟨fs, hr, hrun, hended, hW, hsame⟩ := X3.leave (v := some (.ref ab)) (fun h => by rw [Bd.returns] at h; cases h)
      refine ⟨_, _, retOut X3 hx (t := (.object "com/example/rulewright/rulewright/analysis/Verdict")) Bd.returns rfl (Or.inr (Or.inr (Or.inr (Or.inr ⟨rfl, rfl, rfl⟩)))) (hb hby d1_43) hr, hrun, hended, hfin _ _ ⟨_, _, rfl, ?_, ⟨_, rfl⟩, hW, hsame.mono (by decide) (by decide)⟩⟩
      show Q1 Z x0 p1 aw an ab h0 n0 (some (.ref ab)) T3.heap _
      rw [e3]
      exact ⟨congrArg (fun z => some (Value.ref z)) (by simp [hc1, hc2]), N0, rfl⟩
    · refine own_step (fun _ k => XS.ifYes X0.here hx rfl (pc0 := 9) (pc' := 19) rfl (hb hby d1_9) rfl ((if0 _ _).trans (flt hc2).2.1) (by decide) (by decide) k) ?_
      show own_Go p e below P s₁ (mkF m 19 #[.val (.double x0), .second, .val (.int p1), .unset] [])
      refine own_step (fun _ k => XS.dloadN X0.here hx rfl (hb hby d1_19) rfl k) ?_
      show own_Go p e below P s₁ (mkF m 20 #[.val (.double x0), .second, .val (.int p1), .unset] [(.double x0)])
      refine own_step (fun t k => X0.ldc2DoubleC hx hown (mvT hZ (hw _ (List.mem_of_getElem? (i := 5) rfl))) (g := (mkF m 20 #[.val (.double x0), .second, .val (.int p1), .unset] [(.double x0)])) rfl (hb hby d1_20) t k) ?_
      show own_Go p e below P s₁ (mkF m 23 #[.val (.double x0), .second, .val (.int p1), .unset] [(.double (4587366580439587226 : UInt64)), (.double x0)])
      refine own_step (fun _ k => XS.dcmpS X0.here hx rfl (hb hby d1_23) rfl rfl k) ?_
      show own_Go p e below P s₁ (mkF m 24 #[.val (.double x0), .second, .val (.int p1), .unset] [(.int (cmpValue (FP.dcmp x0 (4587366580439587226 : UInt64)) .g))])
      refine own_step (fun _ k => XS.ifNo X0.here hx rfl (hb hby d1_24) rfl ((if0 _ _).trans (tlt hc1).2.1) k) ?_
      show own_Go p e below P s₁ (mkF m 27 #[.val (.double x0), .second, .val (.int p1), .unset] [])
      refine own_step (fun _ k => XS.iloadN X0.here hx rfl (hb hby d1_27) rfl k) ?_
      show own_Go p e below P s₁ (mkF m 28 #[.val (.double x0), .second, .val (.int p1), .unset] [(.int p1)])
      by_cases hc5 : (0 : Int32) < p1
      · refine own_step (fun _ k => XS.ifNo X0.here hx rfl (hb hby d1_28) rfl ((if0 _ _).trans (tlt hc5).2.2.2) k) ?_
        show own_Go p e below P s₁ (mkF m 31 #[.val (.double x0), .second, .val (.int p1), .unset] [])
        obtain ⟨T6, X6, e6, st6⟩ := getS2 X0 hx hZ hown (host := "") (Or.inl (hw _ (List.mem_of_getElem? (i := 6) rfl))) Via.refl e0 S_WORSE (g := (mkF m 31 #[.val (.double x0), .second, .val (.int p1), .unset] [])) rfl (hb hby d1_31)
        refine own_step st6 ?_
        show own_Go p e below P T6 (mkF m 34 #[.val (.double x0), .second, .val (.int p1), .unset] [(.ref aw)])
        refine own_step (fun _ k => XS.astoreN X6.here hx rfl (hb hby d1_34) rfl rfl (l' := #[.val (.double x0), .second, .val (.int p1), .val (.ref aw)]) rfl k) ?_
        show own_Go p e below P T6 (mkF m 35 #[.val (.double x0), .second, .val (.int p1), .val (.ref aw)] [])
        refine own_step (fun _ k => XS.goto X6.here hx rfl (pc0 := 35) (pc' := 42) rfl (hb hby d1_35) (by decide) (by decide) k) ?_
        show own_Go p e below P T6 (mkF m 42 #[.val (.double x0), .second, .val (.int p1), .val (.ref aw)] [])
        refine own_step (fun _ k => XS.aloadN X6.here hx rfl (hb hby d1_42) rfl rfl k) ?_
        show own_Go p e below P T6 (mkF m 43 #[.val (.double x0), .second, .val (.int p1), .val (.ref aw)] [(.ref aw)])
        obtain ⟨fs, hr, hrun, hended, hW, hsame⟩ := X6.leave (v := some (.ref aw)) (fun h => by rw [Bd.returns] at h; cases h)
        refine ⟨_, _, retOut X6 hx (t := (.object "com/example/rulewright/rulewright/analysis/Verdict")) Bd.returns rfl (Or.inr (Or.inr (Or.inr (Or.inr ⟨rfl, rfl, rfl⟩)))) (hb hby d1_43) hr, hrun, hended, hfin _ _ ⟨_, _, rfl, ?_, ⟨_, rfl⟩, hW, hsame.mono (by decide) (by decide)⟩⟩
        show Q1 Z x0 p1 aw an ab h0 n0 (some (.ref aw)) T6.heap _
        rw [e6]
        exact ⟨congrArg (fun z => some (Value.ref z)) (by simp [hc1, hc2, hc5]), N0, rfl⟩
      · refine own_step (fun _ k => XS.ifYes X0.here hx rfl (pc0 := 28) (pc' := 38) rfl (hb hby d1_28) rfl ((if0 _ _).trans (flt hc5).2.2.2) (by decide) (by decide) k) ?_
        show own_Go p e below P s₁ (mkF m 38 #[.val (.double x0), .second, .val (.int p1), .unset] [])
        obtain ⟨T8, X8, e8, st8⟩ := getS2 X0 hx hZ hown (host := "") (Or.inl (hw _ (List.mem_of_getElem? (i := 9) rfl))) Via.refl e0 S_NO_DIFFERENCE (g := (mkF m 38 #[.val (.double x0), .second, .val (.int p1), .unset] [])) rfl (hb hby d1_38)
        refine own_step st8 ?_
        show own_Go p e below P T8 (mkF m 41 #[.val (.double x0), .second, .val (.int p1), .unset] [(.ref an)])
        refine own_step (fun _ k => XS.astoreN X8.here hx rfl (hb hby d1_41) rfl rfl (l' := #[.val (.double x0), .second, .val (.int p1), .val (.ref an)]) rfl k) ?_
        show own_Go p e below P T8 (mkF m 42 #[.val (.double x0), .second, .val (.int p1), .val (.ref an)] [])
        refine own_step (fun _ k => XS.aloadN X8.here hx rfl (hb hby d1_42) rfl rfl k) ?_
        show own_Go p e below P T8 (mkF m 43 #[.val (.double x0), .second, .val (.int p1), .val (.ref an)] [(.ref an)])
        obtain ⟨fs, hr, hrun, hended, hW, hsame⟩ := X8.leave (v := some (.ref an)) (fun h => by rw [Bd.returns] at h; cases h)
        refine ⟨_, _, retOut X8 hx (t := (.object "com/example/rulewright/rulewright/analysis/Verdict")) Bd.returns rfl (Or.inr (Or.inr (Or.inr (Or.inr ⟨rfl, rfl, rfl⟩)))) (hb hby d1_43) hr, hrun, hended, hfin _ _ ⟨_, _, rfl, ?_, ⟨_, rfl⟩, hW, hsame.mono (by decide) (by decide)⟩⟩
        show Q1 Z x0 p1 aw an ab h0 n0 (some (.ref an)) T8.heap _
        rw [e8]
        exact ⟨congrArg (fun z => some (Value.ref z)) (by simp [hc1, hc2, hc5]), N0, rfl⟩
  · refine own_step (fun _ k => XS.ifYes X0.here hx rfl (pc0 := 5) (pc' := 19) rfl (hb hby d1_5) rfl ((if0 _ _).trans (flt hc1).2.1) (by decide) (by decide) k) ?_
    show own_Go p e below P s₁ (mkF m 19 #[.val (.double x0), .second, .val (.int p1), .unset] [])
    refine own_step (fun _ k => XS.dloadN X0.here hx rfl (hb hby d1_19) rfl k) ?_
    show own_Go p e below P s₁ (mkF m 20 #[.val (.double x0), .second, .val (.int p1), .unset] [(.double x0)])
    refine own_step (fun t k => X0.ldc2DoubleC hx hown (mvT hZ (hw _ (List.mem_of_getElem? (i := 5) rfl))) (g := (mkF m 20 #[.val (.double x0), .second, .val (.int p1), .unset] [(.double x0)])) rfl (hb hby d1_20) t k) ?_
    show own_Go p e below P s₁ (mkF m 23 #[.val (.double x0), .second, .val (.int p1), .unset] [(.double (4587366580439587226 : UInt64)), (.double x0)])
    refine own_step (fun _ k => XS.dcmpS X0.here hx rfl (hb hby d1_23) rfl rfl k) ?_
    show own_Go p e below P s₁ (mkF m 24 #[.val (.double x0), .second, .val (.int p1), .unset] [(.int (cmpValue (FP.dcmp x0 (4587366580439587226 : UInt64)) .g))])
    refine own_step (fun _ k => XS.ifYes X0.here hx rfl (pc0 := 24) (pc' := 38) rfl (hb hby d1_24) rfl ((if0 _ _).trans (flt hc1).2.1) (by decide) (by decide) k) ?_
    show own_Go p e below P s₁ (mkF m 38 #[.val (.double x0), .second, .val (.int p1), .unset] [])
    obtain ⟨T10, X10, e10, st10⟩ := getS2 X0 hx hZ hown (host := "") (Or.inl (hw _ (List.mem_of_getElem? (i := 9) rfl))) Via.refl e0 S_NO_DIFFERENCE (g := (mkF m 38 #[.val (.double x0), .second, .val (.int p1), .unset] [])) rfl (hb hby d1_38)
    refine own_step st10 ?_
    show own_Go p e below P T10 (mkF m 41 #[.val (.double x0), .second, .val (.int p1), .unset] [(.ref an)])
    refine own_step (fun _ k => XS.astoreN X10.here hx rfl (hb hby d1_41) rfl rfl (l' := #[.val (.double x0), .second, .val (.int p1), .val (.ref an)]) rfl k) ?_
    show own_Go p e below P T10 (mkF m 42 #[.val (.double x0), .second, .val (.int p1), .val (.ref an)] [])
    refine own_step (fun _ k => XS.aloadN X10.here hx rfl (hb hby d1_42) rfl rfl k) ?_
    show own_Go p e below P T10 (mkF m 43 #[.val (.double x0), .second, .val (.int p1), .val (.ref an)] [(.ref an)])
    obtain ⟨fs, hr, hrun, hended, hW, hsame⟩ := X10.leave (v := some (.ref an)) (fun h => by rw [Bd.returns] at h; cases h)
    refine ⟨_, _, retOut X10 hx (t := (.object "com/example/rulewright/rulewright/analysis/Verdict")) Bd.returns rfl (Or.inr (Or.inr (Or.inr (Or.inr ⟨rfl, rfl, rfl⟩)))) (hb hby d1_43) hr, hrun, hended, hfin _ _ ⟨_, _, rfl, ?_, ⟨_, rfl⟩, hW, hsame.mono (by decide) (by decide)⟩⟩
    show Q1 Z x0 p1 aw an ab h0 n0 (some (.ref an)) T10.heap _
    rw [e10]
    exact ⟨congrArg (fun z => some (Value.ref z)) (by simp [hc1]), N0, rfl⟩
theorem ef_0 (m : MethodId) (x0 : Int32) (x1 : Int32) : entryFrame m #[(.int x0), (.int x1)] maxLocals = mkF m 0 #[.val (.int x0), .val (.int x1), .unset, .unset, .unset, .unset, .unset, .unset] [] := by first | (simp [entryFrame, mkF, argsToLocals, Value.category, maxLocals]; done) | rfl
theorem pn_com_example_rulewright_rulewright_analysis_VerdictOfPinLaw : plainName "com/example/rulewright/rulewright/analysis/VerdictOfPinLaw" = true := by first | (simp [plainName, overriddenIn]; done) | decide +kernel
theorem pd__DI__Lcom_example_rulewright_rulewright_analysis_Verdict : parseMethodDescriptor "(DI)Lcom/example/rulewright/rulewright/analysis/Verdict;" = some ⟨[.double, .int], some (.object "com/example/rulewright/rulewright/analysis/Verdict")⟩ := by decide +kernel
def Q0 (Z : State) (p0 : Int32) (p1 : Int32) (aw : Addr) (an : Addr) (ab : Addr) (h0 : Heap) (n0 : Nat) (v : Option Value) (h : Heap) (L : List Loc) : Prop := v = some (.int 1) ∧ Fr n0 L
set_option maxRecDepth 65536 in
set_option maxHeartbeats 40000000 in
theorem rm0 (l : Launch) (Z : State) (a0 : Array Value) (hw : ∀ d ∈ tables_1, d.before a0 Z = true) (ws : List Jvm.Cond) (p0 : Int32) (p1 : Int32) (aw : Addr) (an : Addr) (ab : Addr) (h0 : Heap) (n0 : Nat) (Z0 : n0 ≤ h0.size) (S_WORSE : Sta Z h0 "com/example/rulewright/rulewright/analysis/Verdict" "WORSE" "Lcom/example/rulewright/rulewright/analysis/Verdict;" (.ref aw)) (S_NO_DIFFERENCE : Sta Z h0 "com/example/rulewright/rulewright/analysis/Verdict" "NO_DIFFERENCE" "Lcom/example/rulewright/rulewright/analysis/Verdict;" (.ref an)) (S_BETTER : Sta Z h0 "com/example/rulewright/rulewright/analysis/Verdict" "BETTER" "Lcom/example/rulewright/rulewright/analysis/Verdict;" (.ref ab)) :
    MetFree l x (head1 (Jvm.Cond.code x code maxLocals ret :: ws) room_1) (fun a U => a = #[(.int p0), (.int p1)] ∧ Z.Warmed39 U.vm ∧ U.heap = h0) (fun _ _ _ _ _ => True) (fun _ U o U' => ∃ v L, o = .returned v ∧ Q0 Z p0 p1 aw an ab h0 n0 v U'.heap L ∧ FrameEnd U o U' L room_1.cells room_1.slots) := by
  refine MetFree.of_bodySF (plainFor_of_name pn_com_example_rulewright_rulewright_analysis_VerdictOfPinLaw) hisR ?_
  intro p e s m args below meth c s₁ Bd hml0 hP hK
  obtain ⟨rfl, hZ, hh⟩ := hP
  have hx := Bd.exec
  have hby := Bd.bytes
  have hml : c.maxLocals = 8 := hml0
  have hown : s.vm.findClass "com/example/rulewright/rulewright/analysis/VerdictOfPinLaw" = some m.cls := findClass_of_methodNamed Bd.named
  have hnm := (name_of_methodNamed Bd.named Bd.method).1
  have X0 : Stand p l e room_1 s m #[(.int p0), (.int p1)] below meth c s₁ [] 0 0 := Stand.of_body Bd
  have e0 : s₁.heap = h0 := by rw [← hh, Bd.state]; rfl
  have N0 := Fr.nil n0
  refine own_all ?_
  intro P hfin
  refine own_cast (ef_0 m p0 p1) ?_
  show own_Go p e below P s₁ (mkF m 0 #[.val (.int p0), .val (.int p1), .unset, .unset, .unset, .unset, .unset, .unset] [])
  refine own_step (fun _ k => XS.iloadN X0.here hx rfl (hb hby at_0) rfl k) ?_
  show own_Go p e below P s₁ (mkF m 1 #[.val (.int p0), .val (.int p1), .unset, .unset, .unset, .unset, .unset, .unset] [(.int p0)])
  refine own_step (fun _ k => XS.sipush X0.here hx rfl (hb hby at_1) k) ?_
  show own_Go p e below P s₁ (mkF m 4 #[.val (.int p0), .val (.int p1), .unset, .unset, .unset, .unset, .unset, .unset] [(.int (2047 : Int32)), (.int p0)])
  refine own_step (fun _ k => XS.iand X0.here hx rfl (hb hby at_4) rfl k) ?_
  show own_Go p e below P s₁ (mkF m 5 #[.val (.int p0), .val (.int p1), .unset, .unset, .unset, .unset, .unset, .unset] [(.int (p0 &&& (2047 : Int32)))])
  refine own_step (fun _ k => XS.sipush X0.here hx rfl (hb hby at_5) k) ?_
  show own_Go p e below P s₁ (mkF m 8 #[.val (.int p0), .val (.int p1), .unset, .unset, .unset, .unset, .unset, .unset] [(.int (1000 : Int32)), (.int (p0 &&& (2047 : Int32)))])
  refine own_step (fun _ k => XS.isub X0.here hx rfl (hb hby at_8) rfl k) ?_
  show own_Go p e below P s₁ (mkF m 9 #[.val (.int p0), .val (.int p1), .unset, .unset, .unset, .unset, .unset, .unset] [(.int ((p0 &&& (2047 : Int32)) - (1000 : Int32)))])
  refine own_step (fun _ k => XS.istoreN X0.here hx rfl (hb hby at_9) rfl (l' := #[.val (.int p0), .val (.int p1), .val (.int ((p0 &&& (2047 : Int32)) - (1000 : Int32))), .unset, .unset, .unset, .unset, .unset]) rfl k) ?_
  show own_Go p e below P s₁ (mkF m 10 #[.val (.int p0), .val (.int p1), .val (.int ((p0 &&& (2047 : Int32)) - (1000 : Int32))), .unset, .unset, .unset, .unset, .unset] [])
  refine own_step (fun _ k => XS.iloadN X0.here hx rfl (hb hby at_10) rfl k) ?_
  show own_Go p e below P s₁ (mkF m 11 #[.val (.int p0), .val (.int p1), .val (.int ((p0 &&& (2047 : Int32)) - (1000 : Int32))), .unset, .unset, .unset, .unset, .unset] [(.int ((p0 &&& (2047 : Int32)) - (1000 : Int32)))])
  refine own_step (fun _ k => XS.i2dS X0.here hx rfl (hb hby at_11) rfl rfl k) ?_
  show own_Go p e below P s₁ (mkF m 12 #[.val (.int p0), .val (.int p1), .val (.int ((p0 &&& (2047 : Int32)) - (1000 : Int32))), .unset, .unset, .unset, .unset, .unset] [(.double (FP.i2d ((p0 &&& (2047 : Int32)) - (1000 : Int32))))])
  refine own_step (fun t k => X0.ldc2DoubleC hx hown (mvT hZ (hw _ (List.mem_of_getElem? (i := 0) rfl))) (g := (mkF m 12 #[.val (.int p0), .val (.int p1), .val (.int ((p0 &&& (2047 : Int32)) - (1000 : Int32))), .unset, .unset, .unset, .unset, .unset] [(.double (FP.i2d ((p0 &&& (2047 : Int32)) - (1000 : Int32))))])) rfl (hb hby at_12) t k) ?_
  show own_Go p e below P s₁ (mkF m 15 #[.val (.int p0), .val (.int p1), .val (.int ((p0 &&& (2047 : Int32)) - (1000 : Int32))), .unset, .unset, .unset, .unset, .unset] [(.double (4652007308841189376 : UInt64)), (.double (FP.i2d ((p0 &&& (2047 : Int32)) - (1000 : Int32))))])
  refine own_step (fun _ k => XS.ddivS X0.here hx rfl (hb hby at_15) rfl (own_nn p0) rfl k) ?_
  show own_Go p e below P s₁ (mkF m 16 #[.val (.int p0), .val (.int p1), .val (.int ((p0 &&& (2047 : Int32)) - (1000 : Int32))), .unset, .unset, .unset, .unset, .unset] [(.double (own_p ((p0 &&& (2047 : Int32)) - (1000 : Int32))))])
  refine own_step (fun _ k => XS.dstoreN X0.here hx rfl (hb hby at_16) rfl (l' := #[.val (.int p0), .val (.int p1), .val (.int ((p0 &&& (2047 : Int32)) - (1000 : Int32))), .val (.double (own_p ((p0 &&& (2047 : Int32)) - (1000 : Int32)))), .second, .unset, .unset, .unset]) rfl k) ?_
  show own_Go p e below P s₁ (mkF m 17 #[.val (.int p0), .val (.int p1), .val (.int ((p0 &&& (2047 : Int32)) - (1000 : Int32))), .val (.double (own_p ((p0 &&& (2047 : Int32)) - (1000 : Int32)))), .second, .unset, .unset, .unset] [])
  refine own_step (fun _ k => XS.dloadN X0.here hx rfl (hb hby at_17) rfl k) ?_
  show own_Go p e below P s₁ (mkF m 18 #[.val (.int p0), .val (.int p1), .val (.int ((p0 &&& (2047 : Int32)) - (1000 : Int32))), .val (.double (own_p ((p0 &&& (2047 : Int32)) - (1000 : Int32)))), .second, .unset, .unset, .unset] [(.double (own_p ((p0 &&& (2047 : Int32)) - (1000 : Int32))))])
  refine own_step (fun _ k => XS.iloadN X0.here hx rfl (hb hby at_18) rfl k) ?_
  show own_Go p e below P s₁ (mkF m 19 #[.val (.int p0), .val (.int p1), .val (.int ((p0 &&& (2047 : Int32)) - (1000 : Int32))), .val (.double (own_p ((p0 &&& (2047 : Int32)) - (1000 : Int32)))), .second, .unset, .unset, .unset] [(.int p1), (.double (own_p ((p0 &&& (2047 : Int32)) - (1000 : Int32))))])
  obtain ⟨_, _, ⟨T1, L1, k1, n1⟩, -, X1, ⟨Lc1, hQ1, l1, y1, z1⟩, st1⟩ := Jvm.LawKit.callS X0 hx (y := (⟨"com/example/rulewright/rulewright/analysis/Verdict", "of", "(DI)Lcom/example/rulewright/rulewright/analysis/Verdict;"⟩ : MethodName)) hown (mvT hZ (hw _ (List.mem_of_getElem? (i := 1) rfl))) (mvT hZ (hw _ (List.mem_of_getElem? (i := 2) rfl))) (mvT hZ (hw _ (List.mem_of_getElem? (i := 3) rfl))) (mvT hZ (hw _ (List.mem_of_getElem? (i := 4) rfl))) (by decide) (backOf (W := 0) (rm1 l Z a0 hw [] (own_p ((p0 &&& (2047 : Int32)) - (1000 : Int32))) p1 aw an ab h0 n0 Z0 S_WORSE S_NO_DIFFERENCE S_BETTER) hZ (hw _ (List.mem_of_getElem? (i := 4) rfl)) (hw _ (List.mem_of_getElem? (i := 3) rfl)) (by decide) (by decide)) (g := (mkF m 19 #[.val (.int p0), .val (.int p1), .val (.int ((p0 &&& (2047 : Int32)) - (1000 : Int32))), .val (.double (own_p ((p0 &&& (2047 : Int32)) - (1000 : Int32)))), .second, .unset, .unset, .unset] [(.int p1), (.double (own_p ((p0 &&& (2047 : Int32)) - (1000 : Int32))))])) rfl (by rw [hml]; rfl) (argsL := [(.double (own_p ((p0 &&& (2047 : Int32)) - (1000 : Int32)))), (.int p1)]) (rest := []) (lenOf pd__DI__Lcom_example_rulewright_rulewright_analysis_Verdict rfl) rfl (by show 2 * 0 + _ ≤ _; exact Nat.le_of_eq rfl) (hb hby at_19) (fun _ _ => ⟨rfl, e0, (by decide : 0 + 0 ≤ _), (by decide : 0 + 0 ≤ _)⟩)
  dsimp only [Pt.U, Pt.locs, Pt.cells, Pt.slots] at X1 l1 y1 z1 st1 hQ1
  subst l1 y1 z1
  obtain ⟨rfl, N1q, e1⟩ := hQ1
  have N1 := Fr.app N0 N1q
  refine own_step st1 ?_
  show own_Go p e below P T1 (mkF m 22 #[.val (.int p0), .val (.int p1), .val (.int ((p0 &&& (2047 : Int32)) - (1000 : Int32))), .val (.double (own_p ((p0 &&& (2047 : Int32)) - (1000 : Int32)))), .second, .unset, .unset, .unset] [(.ref (if (cmpValue (FP.dcmp (own_p ((p0 &&& (2047 : Int32)) - (1000 : Int32))) (4587366580439587226 : UInt64)) .g) < 0 ∧ p1 < 0 then ab else if (cmpValue (FP.dcmp (own_p ((p0 &&& (2047 : Int32)) - (1000 : Int32))) (4587366580439587226 : UInt64)) .g) < 0 ∧ 0 < p1 then aw else an))])
  refine own_step (fun _ k => XS.astore X1.here hx rfl (hb hby at_22) rfl rfl (l' := #[.val (.int p0), .val (.int p1), .val (.int ((p0 &&& (2047 : Int32)) - (1000 : Int32))), .val (.double (own_p ((p0 &&& (2047 : Int32)) - (1000 : Int32)))), .second, .val (.ref (if (cmpValue (FP.dcmp (own_p ((p0 &&& (2047 : Int32)) - (1000 : Int32))) (4587366580439587226 : UInt64)) .g) < 0 ∧ p1 < 0 then ab else if (cmpValue (FP.dcmp (own_p ((p0 &&& (2047 : Int32)) - (1000 : Int32))) (4587366580439587226 : UInt64)) .g) < 0 ∧ 0 < p1 then aw else an)), .unset, .unset]) rfl k) ?_
  show own_Go p e below P T1 (mkF m 24 #[.val (.int p0), .val (.int p1), .val (.int ((p0 &&& (2047 : Int32)) - (1000 : Int32))), .val (.double (own_p ((p0 &&& (2047 : Int32)) - (1000 : Int32)))), .second, .val (.ref (if (cmpValue (FP.dcmp (own_p ((p0 &&& (2047 : Int32)) - (1000 : Int32))) (4587366580439587226 : UInt64)) .g) < 0 ∧ p1 < 0 then ab else if (cmpValue (FP.dcmp (own_p ((p0 &&& (2047 : Int32)) - (1000 : Int32))) (4587366580439587226 : UInt64)) .g) < 0 ∧ 0 < p1 then aw else an)), .unset, .unset] [])
  refine own_step (fun _ k => XS.iloadN X1.here hx rfl (hb hby at_24) rfl k) ?_
  show own_Go p e below P T1 (mkF m 25 #[.val (.int p0), .val (.int p1), .val (.int ((p0 &&& (2047 : Int32)) - (1000 : Int32))), .val (.double (own_p ((p0 &&& (2047 : Int32)) - (1000 : Int32)))), .second, .val (.ref (if (cmpValue (FP.dcmp (own_p ((p0 &&& (2047 : Int32)) - (1000 : Int32))) (4587366580439587226 : UInt64)) .g) < 0 ∧ p1 < 0 then ab else if (cmpValue (FP.dcmp (own_p ((p0 &&& (2047 : Int32)) - (1000 : Int32))) (4587366580439587226 : UInt64)) .g) < 0 ∧ 0 < p1 then aw else an)), .unset, .unset] [(.int ((p0 &&& (2047 : Int32)) - (1000 : Int32)))])
  refine own_step (fun _ k => XS.bipush X1.here hx rfl (hb hby at_25) k) ?_
  show own_Go p e below P T1 (mkF m 27 #[.val (.int p0), .val (.int p1), .val (.int ((p0 &&& (2047 : Int32)) - (1000 : Int32))), .val (.double (own_p ((p0 &&& (2047 : Int32)) - (1000 : Int32)))), .second, .val (.ref (if (cmpValue (FP.dcmp (own_p ((p0 &&& (2047 : Int32)) - (1000 : Int32))) (4587366580439587226 : UInt64)) .g) < 0 ∧ p1 < 0 then ab else if (cmpValue (FP.dcmp (own_p ((p0 &&& (2047 : Int32)) - (1000 : Int32))) (4587366580439587226 : UInt64)) .g) < 0 ∧ 0 < p1 then aw else an)), .unset, .unset] [(.int (50 : Int32)), (.int ((p0 &&& (2047 : Int32)) - (1000 : Int32)))])
  by_cases hc2 : ((p0 &&& (2047 : Int32)) - (1000 : Int32)) < (50 : Int32)
  · refine own_step (fun _ k => XS.icmpNo X1.here hx rfl (hb hby at_27) rfl (tlt hc2).2.1 k) ?_
    show own_Go p e below P T1 (mkF m 30 #[.val (.int p0), .val (.int p1), .val (.int ((p0 &&& (2047 : Int32)) - (1000 : Int32))), .val (.double (own_p ((p0 &&& (2047 : Int32)) - (1000 : Int32)))), .second, .val (.ref (if (cmpValue (FP.dcmp (own_p ((p0 &&& (2047 : Int32)) - (1000 : Int32))) (4587366580439587226 : UInt64)) .g) < 0 ∧ p1 < 0 then ab else if (cmpValue (FP.dcmp (own_p ((p0 &&& (2047 : Int32)) - (1000 : Int32))) (4587366580439587226 : UInt64)) .g) < 0 ∧ 0 < p1 then aw else an)), .unset, .unset] [])
    refine own_step (fun _ k => XS.iconst X1.here hx rfl (hb hby at_30) k) ?_
    show own_Go p e below P T1 (mkF m 31 #[.val (.int p0), .val (.int p1), .val (.int ((p0 &&& (2047 : Int32)) - (1000 : Int32))), .val (.double (own_p ((p0 &&& (2047 : Int32)) - (1000 : Int32)))), .second, .val (.ref (if (cmpValue (FP.dcmp (own_p ((p0 &&& (2047 : Int32)) - (1000 : Int32))) (4587366580439587226 : UInt64)) .g) < 0 ∧ p1 < 0 then ab else if (cmpValue (FP.dcmp (own_p ((p0 &&& (2047 : Int32)) - (1000 : Int32))) (4587366580439587226 : UInt64)) .g) < 0 ∧ 0 < p1 then aw else an)), .unset, .unset] [(.int (1 : Int32))])
    refine own_step (fun _ k => XS.goto X1.here hx rfl (pc0 := 31) (pc' := 35) rfl (hb hby at_31) (by decide) (by decide) k) ?_
    show own_Go p e below P T1 (mkF m 35 #[.val (.int p0), .val (.int p1), .val (.int ((p0 &&& (2047 : Int32)) - (1000 : Int32))), .val (.double (own_p ((p0 &&& (2047 : Int32)) - (1000 : Int32)))), .second, .val (.ref (if (cmpValue (FP.dcmp (own_p ((p0 &&& (2047 : Int32)) - (1000 : Int32))) (4587366580439587226 : UInt64)) .g) < 0 ∧ p1 < 0 then ab else if (cmpValue (FP.dcmp (own_p ((p0 &&& (2047 : Int32)) - (1000 : Int32))) (4587366580439587226 : UInt64)) .g) < 0 ∧ 0 < p1 then aw else an)), .unset, .unset] [(.int (1 : Int32))])
    refine own_step (fun _ k => XS.istore X1.here hx rfl (hb hby at_35) rfl (l' := #[.val (.int p0), .val (.int p1), .val (.int ((p0 &&& (2047 : Int32)) - (1000 : Int32))), .val (.double (own_p ((p0 &&& (2047 : Int32)) - (1000 : Int32)))), .second, .val (.ref (if (cmpValue (FP.dcmp (own_p ((p0 &&& (2047 : Int32)) - (1000 : Int32))) (4587366580439587226 : UInt64)) .g) < 0 ∧ p1 < 0 then ab else if (cmpValue (FP.dcmp (own_p ((p0 &&& (2047 : Int32)) - (1000 : Int32))) (4587366580439587226 : UInt64)) .g) < 0 ∧ 0 < p1 then aw else an)), .val (.int (1 : Int32)), .unset]) rfl k) ?_
    show own_Go p e below P T1 (mkF m 37 #[.val (.int p0), .val (.int p1), .val (.int ((p0 &&& (2047 : Int32)) - (1000 : Int32))), .val (.double (own_p ((p0 &&& (2047 : Int32)) - (1000 : Int32)))), .second, .val (.ref (if (cmpValue (FP.dcmp (own_p ((p0 &&& (2047 : Int32)) - (1000 : Int32))) (4587366580439587226 : UInt64)) .g) < 0 ∧ p1 < 0 then ab else if (cmpValue (FP.dcmp (own_p ((p0 &&& (2047 : Int32)) - (1000 : Int32))) (4587366580439587226 : UInt64)) .g) < 0 ∧ 0 < p1 then aw else an)), .val (.int (1 : Int32)), .unset] [])
    refine own_step (fun _ k => XS.iload X1.here hx rfl (hb hby at_37) rfl k) ?_
    show own_Go p e below P T1 (mkF m 39 #[.val (.int p0), .val (.int p1), .val (.int ((p0 &&& (2047 : Int32)) - (1000 : Int32))), .val (.double (own_p ((p0 &&& (2047 : Int32)) - (1000 : Int32)))), .second, .val (.ref (if (cmpValue (FP.dcmp (own_p ((p0 &&& (2047 : Int32)) - (1000 : Int32))) (4587366580439587226 : UInt64)) .g) < 0 ∧ p1 < 0 then ab else if (cmpValue (FP.dcmp (own_p ((p0 &&& (2047 : Int32)) - (1000 : Int32))) (4587366580439587226 : UInt64)) .g) < 0 ∧ 0 < p1 then aw else an)), .val (.int (1 : Int32)), .unset] [(.int (1 : Int32))])
    refine own_step (fun _ k => XS.ifNo X1.here hx rfl (hb hby at_39) rfl ((if0 _ _).trans (feq (by decide : ¬ ((1 : Int32) = (0 : Int32)))).1) k) ?_
    show own_Go p e below P T1 (mkF m 42 #[.val (.int p0), .val (.int p1), .val (.int ((p0 &&& (2047 : Int32)) - (1000 : Int32))), .val (.double (own_p ((p0 &&& (2047 : Int32)) - (1000 : Int32)))), .second, .val (.ref (if (cmpValue (FP.dcmp (own_p ((p0 &&& (2047 : Int32)) - (1000 : Int32))) (4587366580439587226 : UInt64)) .g) < 0 ∧ p1 < 0 then ab else if (cmpValue (FP.dcmp (own_p ((p0 &&& (2047 : Int32)) - (1000 : Int32))) (4587366580439587226 : UInt64)) .g) < 0 ∧ 0 < p1 then aw else an)), .val (.int (1 : Int32)), .unset] [])
    refine own_step (fun _ k => XS.iloadN X1.here hx rfl (hb hby at_42) rfl k) ?_
    show own_Go p e below P T1 (mkF m 43 #[.val (.int p0), .val (.int p1), .val (.int ((p0 &&& (2047 : Int32)) - (1000 : Int32))), .val (.double (own_p ((p0 &&& (2047 : Int32)) - (1000 : Int32)))), .second, .val (.ref (if (cmpValue (FP.dcmp (own_p ((p0 &&& (2047 : Int32)) - (1000 : Int32))) (4587366580439587226 : UInt64)) .g) < 0 ∧ p1 < 0 then ab else if (cmpValue (FP.dcmp (own_p ((p0 &&& (2047 : Int32)) - (1000 : Int32))) (4587366580439587226 : UInt64)) .g) < 0 ∧ 0 < p1 then aw else an)), .val (.int (1 : Int32)), .unset] [(.int p1)])
    by_cases hc3 : p1 = (0 : Int32)
    · refine own_step (fun _ k => XS.ifNo X1.here hx rfl (hb hby at_43) rfl ((if0 _ _).trans (teq hc3).2) k) ?_
      show own_Go p e below P T1 (mkF m 46 #[.val (.int p0), .val (.int p1), .val (.int ((p0 &&& (2047 : Int32)) - (1000 : Int32))), .val (.double (own_p ((p0 &&& (2047 : Int32)) - (1000 : Int32)))), .second, .val (.ref (if (cmpValue (FP.dcmp (own_p ((p0 &&& (2047 : Int32)) - (1000 : Int32))) (4587366580439587226 : UInt64)) .g) < 0 ∧ p1 < 0 then ab else if (cmpValue (FP.dcmp (own_p ((p0 &&& (2047 : Int32)) - (1000 : Int32))) (4587366580439587226 : UInt64)) .g) < 0 ∧ 0 < p1 then aw else an)), .val (.int (1 : Int32)), .unset] [])
      obtain ⟨T4, X4, e4, st4⟩ := getS2 X1 hx hZ hown (host := "") (Or.inl (hw _ (List.mem_of_getElem? (i := 11) rfl))) Via.refl e1 S_NO_DIFFERENCE (g := (mkF m 46 #[.val (.int p0), .val (.int p1), .val (.int ((p0 &&& (2047 : Int32)) - (1000 : Int32))), .val (.double (own_p ((p0 &&& (2047 : Int32)) - (1000 : Int32)))), .second, .val (.ref (if (cmpValue (FP.dcmp (own_p ((p0 &&& (2047 : Int32)) - (1000 : Int32))) (4587366580439587226 : UInt64)) .g) < 0 ∧ p1 < 0 then ab else if (cmpValue (FP.dcmp (own_p ((p0 &&& (2047 : Int32)) - (1000 : Int32))) (4587366580439587226 : UInt64)) .g) < 0 ∧ 0 < p1 then aw else an)), .val (.int (1 : Int32)), .unset] [])) rfl (hb hby at_46)
      refine own_step st4 ?_
      show own_Go p e below P T4 (mkF m 49 #[.val (.int p0), .val (.int p1), .val (.int ((p0 &&& (2047 : Int32)) - (1000 : Int32))), .val (.double (own_p ((p0 &&& (2047 : Int32)) - (1000 : Int32)))), .second, .val (.ref (if (cmpValue (FP.dcmp (own_p ((p0 &&& (2047 : Int32)) - (1000 : Int32))) (4587366580439587226 : UInt64)) .g) < 0 ∧ p1 < 0 then ab else if (cmpValue (FP.dcmp (own_p ((p0 &&& (2047 : Int32)) - (1000 : Int32))) (4587366580439587226 : UInt64)) .g) < 0 ∧ 0 < p1 then aw else an)), .val (.int (1 : Int32)), .unset] [(.ref an)])
      refine own_step (fun _ k => XS.astore X4.here hx rfl (hb hby at_49) rfl rfl (l' := #[.val (.int p0), .val (.int p1), .val (.int ((p0 &&& (2047 : Int32)) - (1000 : Int32))), .val (.double (own_p ((p0 &&& (2047 : Int32)) - (1000 : Int32)))), .second, .val (.ref (if (cmpValue (FP.dcmp (own_p ((p0 &&& (2047 : Int32)) - (1000 : Int32))) (4587366580439587226 : UInt64)) .g) < 0 ∧ p1 < 0 then ab else if (cmpValue (FP.dcmp (own_p ((p0 &&& (2047 : Int32)) - (1000 : Int32))) (4587366580439587226 : UInt64)) .g) < 0 ∧ 0 < p1 then aw else an)), .val (.int (1 : Int32)), .val (.ref an)]) rfl k) ?_
      show own_Go p e below P T4 (mkF m 51 #[.val (.int p0), .val (.int p1), .val (.int ((p0 &&& (2047 : Int32)) - (1000 : Int32))), .val (.double (own_p ((p0 &&& (2047 : Int32)) - (1000 : Int32)))), .second, .val (.ref (if (cmpValue (FP.dcmp (own_p ((p0 &&& (2047 : Int32)) - (1000 : Int32))) (4587366580439587226 : UInt64)) .g) < 0 ∧ p1 < 0 then ab else if (cmpValue (FP.dcmp (own_p ((p0 &&& (2047 : Int32)) - (1000 : Int32))) (4587366580439587226 : UInt64)) .g) < 0 ∧ 0 < p1 then aw else an)), .val (.int (1 : Int32)), .val (.ref an)] [])
      refine own_step (fun _ k => XS.goto X4.here hx rfl (pc0 := 51) (pc' := 71) rfl (hb hby at_51) (by decide) (by decide) k) ?_
      show own_Go p e below P T4 (mkF m 71 #[.val (.int p0), .val (.int p1), .val (.int ((p0 &&& (2047 : Int32)) - (1000 : Int32))), .val (.double (own_p ((p0 &&& (2047 : Int32)) - (1000 : Int32)))), .second, .val (.ref (if (cmpValue (FP.dcmp (own_p ((p0 &&& (2047 : Int32)) - (1000 : Int32))) (4587366580439587226 : UInt64)) .g) < 0 ∧ p1 < 0 then ab else if (cmpValue (FP.dcmp (own_p ((p0 &&& (2047 : Int32)) - (1000 : Int32))) (4587366580439587226 : UInt64)) .g) < 0 ∧ 0 < p1 then aw else an)), .val (.int (1 : Int32)), .val (.ref an)] [])
      refine own_step (fun _ k => XS.aload X4.here hx rfl (hb hby at_71) rfl rfl k) ?_
      show own_Go p e below P T4 (mkF m 73 #[.val (.int p0), .val (.int p1), .val (.int ((p0 &&& (2047 : Int32)) - (1000 : Int32))), .val (.double (own_p ((p0 &&& (2047 : Int32)) - (1000 : Int32)))), .second, .val (.ref (if (cmpValue (FP.dcmp (own_p ((p0 &&& (2047 : Int32)) - (1000 : Int32))) (4587366580439587226 : UInt64)) .g) < 0 ∧ p1 < 0 then ab else if (cmpValue (FP.dcmp (own_p ((p0 &&& (2047 : Int32)) - (1000 : Int32))) (4587366580439587226 : UInt64)) .g) < 0 ∧ 0 < p1 then aw else an)), .val (.int (1 : Int32)), .val (.ref an)] [(.ref (if (cmpValue (FP.dcmp (own_p ((p0 &&& (2047 : Int32)) - (1000 : Int32))) (4587366580439587226 : UInt64)) .g) < 0 ∧ p1 < 0 then ab else if (cmpValue (FP.dcmp (own_p ((p0 &&& (2047 : Int32)) - (1000 : Int32))) (4587366580439587226 : UInt64)) .g) < 0 ∧ 0 < p1 then aw else an))])
      refine own_step (fun _ k => XS.aload X4.here hx rfl (hb hby at_73) rfl rfl k) ?_
      show own_Go p e below P T4 (mkF m 75 #[.val (.int p0), .val (.int p1), .val (.int ((p0 &&& (2047 : Int32)) - (1000 : Int32))), .val (.double (own_p ((p0 &&& (2047 : Int32)) - (1000 : Int32)))), .second, .val (.ref (if (cmpValue (FP.dcmp (own_p ((p0 &&& (2047 : Int32)) - (1000 : Int32))) (4587366580439587226 : UInt64)) .g) < 0 ∧ p1 < 0 then ab else if (cmpValue (FP.dcmp (own_p ((p0 &&& (2047 : Int32)) - (1000 : Int32))) (4587366580439587226 : UInt64)) .g) < 0 ∧ 0 < p1 then aw else an)), .val (.int (1 : Int32)), .val (.ref an)] [(.ref an), (.ref (if (cmpValue (FP.dcmp (own_p ((p0 &&& (2047 : Int32)) - (1000 : Int32))) (4587366580439587226 : UInt64)) .g) < 0 ∧ p1 < 0 then ab else if (cmpValue (FP.dcmp (own_p ((p0 &&& (2047 : Int32)) - (1000 : Int32))) (4587366580439587226 : UInt64)) .g) < 0 ∧ 0 < p1 then aw else an))])
      have hv : (if (cmpValue (FP.dcmp (own_p ((p0 &&& (2047 : Int32)) - (1000 : Int32))) (4587366580439587226 : UInt64)) .g) < 0 ∧ p1 < 0 then ab else if (cmpValue (FP.dcmp (own_p ((p0 &&& (2047 : Int32)) - (1000 : Int32))) (4587366580439587226 : UInt64)) .g) < 0 ∧ 0 < p1 then aw else an) = an := (own_v p1 ab aw an).2.1 hc3
      refine own_step (fun _ k => Jvm.RoadKit.acmp (g := (mkF m 75 #[.val (.int p0), .val (.int p1), .val (.int ((p0 &&& (2047 : Int32)) - (1000 : Int32))), .val (.double (own_p ((p0 &&& (2047 : Int32)) - (1000 : Int32)))), .second, .val (.ref (if (cmpValue (FP.dcmp (own_p ((p0 &&& (2047 : Int32)) - (1000 : Int32))) (4587366580439587226 : UInt64)) .g) < 0 ∧ p1 < 0 then ab else if (cmpValue (FP.dcmp (own_p ((p0 &&& (2047 : Int32)) - (1000 : Int32))) (4587366580439587226 : UInt64)) .g) < 0 ∧ 0 < p1 then aw else an)), .val (.int (1 : Int32)), .val (.ref an)] [(.ref an), (.ref (if (cmpValue (FP.dcmp (own_p ((p0 &&& (2047 : Int32)) - (1000 : Int32))) (4587366580439587226 : UInt64)) .g) < 0 ∧ p1 < 0 then ab else if (cmpValue (FP.dcmp (own_p ((p0 &&& (2047 : Int32)) - (1000 : Int32))) (4587366580439587226 : UInt64)) .g) < 0 ∧ 0 < p1 then aw else an))])) X4 hx rfl rfl rfl (pc0 := 75) (pc' := 78) (same := true) rfl (hb hby at_75) rfl (decide_eq_true (congrArg Value.ref hv)) (by decide) (by decide) k) ?_
      show own_Go p e below P T4 (mkF m 78 #[.val (.int p0), .val (.int p1), .val (.int ((p0 &&& (2047 : Int32)) - (1000 : Int32))), .val (.double (own_p ((p0 &&& (2047 : Int32)) - (1000 : Int32)))), .second, .val (.ref (if (cmpValue (FP.dcmp (own_p ((p0 &&& (2047 : Int32)) - (1000 : Int32))) (4587366580439587226 : UInt64)) .g) < 0 ∧ p1 < 0 then ab else if (cmpValue (FP.dcmp (own_p ((p0 &&& (2047 : Int32)) - (1000 : Int32))) (4587366580439587226 : UInt64)) .g) < 0 ∧ 0 < p1 then aw else an)), .val (.int (1 : Int32)), .val (.ref an)] [])
      refine own_step (fun _ k => XS.iconst X4.here hx rfl (hb hby at_78) k) ?_
      show own_Go p e below P T4 (mkF m 79 #[.val (.int p0), .val (.int p1), .val (.int ((p0 &&& (2047 : Int32)) - (1000 : Int32))), .val (.double (own_p ((p0 &&& (2047 : Int32)) - (1000 : Int32)))), .second, .val (.ref (if (cmpValue (FP.dcmp (own_p ((p0 &&& (2047 : Int32)) - (1000 : Int32))) (4587366580439587226 : UInt64)) .g) < 0 ∧ p1 < 0 then ab else if (cmpValue (FP.dcmp (own_p ((p0 &&& (2047 : Int32)) - (1000 : Int32))) (4587366580439587226 : UInt64)) .g) < 0 ∧ 0 < p1 then aw else an)), .val (.int (1 : Int32)), .val (.ref an)] [(.int (1 : Int32))])
      refine own_step (fun _ k => XS.goto X4.here hx rfl (pc0 := 79) (pc' := 83) rfl (hb hby at_79) (by decide) (by decide) k) ?_
      show own_Go p e below P T4 (mkF m 83 #[.val (.int p0), .val (.int p1), .val (.int ((p0 &&& (2047 : Int32)) - (1000 : Int32))), .val (.double (own_p ((p0 &&& (2047 : Int32)) - (1000 : Int32)))), .second, .val (.ref (if (cmpValue (FP.dcmp (own_p ((p0 &&& (2047 : Int32)) - (1000 : Int32))) (4587366580439587226 : UInt64)) .g) < 0 ∧ p1 < 0 then ab else if (cmpValue (FP.dcmp (own_p ((p0 &&& (2047 : Int32)) - (1000 : Int32))) (4587366580439587226 : UInt64)) .g) < 0 ∧ 0 < p1 then aw else an)), .val (.int (1 : Int32)), .val (.ref an)] [(.int (1 : Int32))])
      obtain ⟨fs, hr, hrun, hended, hW, hsame⟩ := X4.leave (v := some (.int (1 : Int32))) (fun h => by rw [Bd.returns] at h; cases h)
      refine ⟨_, _, retN X4 hx (t := .boolean) Bd.returns (by simp) (hb hby at_83) hr, hrun, hended, hfin _ _ ⟨_, _, rfl, ?_, ⟨_, rfl⟩, hW, hsame.mono (by decide) (by decide)⟩⟩
      show Q0 Z p0 p1 aw an ab h0 n0 (some (.int (1 : Int32))) T4.heap _
      rw [e4]
      exact ⟨rfl, N1⟩
    · refine own_step (fun _ k => XS.ifYes X1.here hx rfl (pc0 := 43) (pc' := 54) rfl (hb hby at_43) rfl ((if0 _ _).trans (feq hc3).2) (by decide) (by decide) k) ?_
      show own_Go p e below P T1 (mkF m 54 #[.val (.int p0), .val (.int p1), .val (.int ((p0 &&& (2047 : Int32)) - (1000 : Int32))), .val (.double (own_p ((p0 &&& (2047 : Int32)) - (1000 : Int32)))), .second, .val (.ref (if (cmpValue (FP.dcmp (own_p ((p0 &&& (2047 : Int32)) - (1000 : Int32))) (4587366580439587226 : UInt64)) .g) < 0 ∧ p1 < 0 then ab else if (cmpValue (FP.dcmp (own_p ((p0 &&& (2047 : Int32)) - (1000 : Int32))) (4587366580439587226 : UInt64)) .g) < 0 ∧ 0 < p1 then aw else an)), .val (.int (1 : Int32)), .unset] [])
      refine own_step (fun _ k => XS.iloadN X1.here hx rfl (hb hby at_54) rfl k) ?_
      show own_Go p e below P T1 (mkF m 55 #[.val (.int p0), .val (.int p1), .val (.int ((p0 &&& (2047 : Int32)) - (1000 : Int32))), .val (.double (own_p ((p0 &&& (2047 : Int32)) - (1000 : Int32)))), .second, .val (.ref (if (cmpValue (FP.dcmp (own_p ((p0 &&& (2047 : Int32)) - (1000 : Int32))) (4587366580439587226 : UInt64)) .g) < 0 ∧ p1 < 0 then ab else if (cmpValue (FP.dcmp (own_p ((p0 &&& (2047 : Int32)) - (1000 : Int32))) (4587366580439587226 : UInt64)) .g) < 0 ∧ 0 < p1 then aw else an)), .val (.int (1 : Int32)), .unset] [(.int p1)])
      by_cases hc6 : p1 < (0 : Int32)
      · refine own_step (fun _ k => XS.ifNo X1.here hx rfl (hb hby at_55) rfl ((if0 _ _).trans (tlt hc6).2.1) k) ?_
        show own_Go p e below P T1 (mkF m 58 #[.val (.int p0), .val (.int p1), .val (.int ((p0 &&& (2047 : Int32)) - (1000 : Int32))), .val (.double (own_p ((p0 &&& (2047 : Int32)) - (1000 : Int32)))), .second, .val (.ref (if (cmpValue (FP.dcmp (own_p ((p0 &&& (2047 : Int32)) - (1000 : Int32))) (4587366580439587226 : UInt64)) .g) < 0 ∧ p1 < 0 then ab else if (cmpValue (FP.dcmp (own_p ((p0 &&& (2047 : Int32)) - (1000 : Int32))) (4587366580439587226 : UInt64)) .g) < 0 ∧ 0 < p1 then aw else an)), .val (.int (1 : Int32)), .unset] [])
        obtain ⟨T7, X7, e7, st7⟩ := getS2 X1 hx hZ hown (host := "") (Or.inl (hw _ (List.mem_of_getElem? (i := 14) rfl))) Via.refl e1 S_BETTER (g := (mkF m 58 #[.val (.int p0), .val (.int p1), .val (.int ((p0 &&& (2047 : Int32)) - (1000 : Int32))), .val (.double (own_p ((p0 &&& (2047 : Int32)) - (1000 : Int32)))), .second, .val (.ref (if (cmpValue (FP.dcmp (own_p ((p0 &&& (2047 : Int32)) - (1000 : Int32))) (4587366580439587226 : UInt64)) .g) < 0 ∧ p1 < 0 then ab else if (cmpValue (FP.dcmp (own_p ((p0 &&& (2047 : Int32)) - (1000 : Int32))) (4587366580439587226 : UInt64)) .g) < 0 ∧ 0 < p1 then aw else an)), .val (.int (1 : Int32)), .unset] [])) rfl (hb hby at_58)
        refine own_step st7 ?_
        show own_Go p e below P T7 (mkF m 61 #[.val (.int p0), .val (.int p1), .val (.int ((p0 &&& (2047 : Int32)) - (1000 : Int32))), .val (.double (own_p ((p0 &&& (2047 : Int32)) - (1000 : Int32)))), .second, .val (.ref (if (cmpValue (FP.dcmp (own_p ((p0 &&& (2047 : Int32)) - (1000 : Int32))) (4587366580439587226 : UInt64)) .g) < 0 ∧ p1 < 0 then ab else if (cmpValue (FP.dcmp (own_p ((p0 &&& (2047 : Int32)) - (1000 : Int32))) (4587366580439587226 : UInt64)) .g) < 0 ∧ 0 < p1 then aw else an)), .val (.int (1 : Int32)), .unset] [(.ref ab)])
        refine own_step (fun _ k => XS.astore X7.here hx rfl (hb hby at_61) rfl rfl (l' := #[.val (.int p0), .val (.int p1), .val (.int ((p0 &&& (2047 : Int32)) - (1000 : Int32))), .val (.double (own_p ((p0 &&& (2047 : Int32)) - (1000 : Int32)))), .second, .val (.ref (if (cmpValue (FP.dcmp (own_p ((p0 &&& (2047 : Int32)) - (1000 : Int32))) (4587366580439587226 : UInt64)) .g) < 0 ∧ p1 < 0 then ab else if (cmpValue (FP.dcmp (own_p ((p0 &&& (2047 : Int32)) - (1000 : Int32))) (4587366580439587226 : UInt64)) .g) < 0 ∧ 0 < p1 then aw else an)), .val (.int (1 : Int32)), .val (.ref ab)]) rfl k) ?_
        show own_Go p e below P T7 (mkF m 63 #[.val (.int p0), .val (.int p1), .val (.int ((p0 &&& (2047 : Int32)) - (1000 : Int32))), .val (.double (own_p ((p0 &&& (2047 : Int32)) - (1000 : Int32)))), .second, .val (.ref (if (cmpValue (FP.dcmp (own_p ((p0 &&& (2047 : Int32)) - (1000 : Int32))) (4587366580439587226 : UInt64)) .g) < 0 ∧ p1 < 0 then ab else if (cmpValue (FP.dcmp (own_p ((p0 &&& (2047 : Int32)) - (1000 : Int32))) (4587366580439587226 : UInt64)) .g) < 0 ∧ 0 < p1 then aw else an)), .val (.int (1 : Int32)), .val (.ref ab)] [])
        refine own_step (fun _ k => XS.goto X7.here hx rfl (pc0 := 63) (pc' := 71) rfl (hb hby at_63) (by decide) (by decide) k) ?_
        show own_Go p e below P T7 (mkF m 71 #[.val (.int p0), .val (.int p1), .val (.int ((p0 &&& (2047 : Int32)) - (1000 : Int32))), .val (.double (own_p ((p0 &&& (2047 : Int32)) - (1000 : Int32)))), .second, .val (.ref (if (cmpValue (FP.dcmp (own_p ((p0 &&& (2047 : Int32)) - (1000 : Int32))) (4587366580439587226 : UInt64)) .g) < 0 ∧ p1 < 0 then ab else if (cmpValue (FP.dcmp (own_p ((p0 &&& (2047 : Int32)) - (1000 : Int32))) (4587366580439587226 : UInt64)) .g) < 0 ∧ 0 < p1 then aw else an)), .val (.int (1 : Int32)), .val (.ref ab)] [])
        refine own_step (fun _ k => XS.aload X7.here hx rfl (hb hby at_71) rfl rfl k) ?_
        show own_Go p e below P T7 (mkF m 73 #[.val (.int p0), .val (.int p1), .val (.int ((p0 &&& (2047 : Int32)) - (1000 : Int32))), .val (.double (own_p ((p0 &&& (2047 : Int32)) - (1000 : Int32)))), .second, .val (.ref (if (cmpValue (FP.dcmp (own_p ((p0 &&& (2047 : Int32)) - (1000 : Int32))) (4587366580439587226 : UInt64)) .g) < 0 ∧ p1 < 0 then ab else if (cmpValue (FP.dcmp (own_p ((p0 &&& (2047 : Int32)) - (1000 : Int32))) (4587366580439587226 : UInt64)) .g) < 0 ∧ 0 < p1 then aw else an)), .val (.int (1 : Int32)), .val (.ref ab)] [(.ref (if (cmpValue (FP.dcmp (own_p ((p0 &&& (2047 : Int32)) - (1000 : Int32))) (4587366580439587226 : UInt64)) .g) < 0 ∧ p1 < 0 then ab else if (cmpValue (FP.dcmp (own_p ((p0 &&& (2047 : Int32)) - (1000 : Int32))) (4587366580439587226 : UInt64)) .g) < 0 ∧ 0 < p1 then aw else an))])
        refine own_step (fun _ k => XS.aload X7.here hx rfl (hb hby at_73) rfl rfl k) ?_
        show own_Go p e below P T7 (mkF m 75 #[.val (.int p0), .val (.int p1), .val (.int ((p0 &&& (2047 : Int32)) - (1000 : Int32))), .val (.double (own_p ((p0 &&& (2047 : Int32)) - (1000 : Int32)))), .second, .val (.ref (if (cmpValue (FP.dcmp (own_p ((p0 &&& (2047 : Int32)) - (1000 : Int32))) (4587366580439587226 : UInt64)) .g) < 0 ∧ p1 < 0 then ab else if (cmpValue (FP.dcmp (own_p ((p0 &&& (2047 : Int32)) - (1000 : Int32))) (4587366580439587226 : UInt64)) .g) < 0 ∧ 0 < p1 then aw else an)), .val (.int (1 : Int32)), .val (.ref ab)] [(.ref ab), (.ref (if (cmpValue (FP.dcmp (own_p ((p0 &&& (2047 : Int32)) - (1000 : Int32))) (4587366580439587226 : UInt64)) .g) < 0 ∧ p1 < 0 then ab else if (cmpValue (FP.dcmp (own_p ((p0 &&& (2047 : Int32)) - (1000 : Int32))) (4587366580439587226 : UInt64)) .g) < 0 ∧ 0 < p1 then aw else an))])
        have hv : (if (cmpValue (FP.dcmp (own_p ((p0 &&& (2047 : Int32)) - (1000 : Int32))) (4587366580439587226 : UInt64)) .g) < 0 ∧ p1 < 0 then ab else if (cmpValue (FP.dcmp (own_p ((p0 &&& (2047 : Int32)) - (1000 : Int32))) (4587366580439587226 : UInt64)) .g) < 0 ∧ 0 < p1 then aw else an) = ab := (own_v p1 ab aw an).2.2.1 ((own_lt p0).mpr hc2) hc6
        refine own_step (fun _ k => Jvm.RoadKit.acmp (g := (mkF m 75 #[.val (.int p0), .val (.int p1), .val (.int ((p0 &&& (2047 : Int32)) - (1000 : Int32))), .val (.double (own_p ((p0 &&& (2047 : Int32)) - (1000 : Int32)))), .second, .val (.ref (if (cmpValue (FP.dcmp (own_p ((p0 &&& (2047 : Int32)) - (1000 : Int32))) (4587366580439587226 : UInt64)) .g) < 0 ∧ p1 < 0 then ab else if (cmpValue (FP.dcmp (own_p ((p0 &&& (2047 : Int32)) - (1000 : Int32))) (4587366580439587226 : UInt64)) .g) < 0 ∧ 0 < p1 then aw else an)), .val (.int (1 : Int32)), .val (.ref ab)] [(.ref ab), (.ref (if (cmpValue (FP.dcmp (own_p ((p0 &&& (2047 : Int32)) - (1000 : Int32))) (4587366580439587226 : UInt64)) .g) < 0 ∧ p1 < 0 then ab else if (cmpValue (FP.dcmp (own_p ((p0 &&& (2047 : Int32)) - (1000 : Int32))) (4587366580439587226 : UInt64)) .g) < 0 ∧ 0 < p1 then aw else an))])) X7 hx rfl rfl rfl (pc0 := 75) (pc' := 78) (same := true) rfl (hb hby at_75) rfl (decide_eq_true (congrArg Value.ref hv)) (by decide) (by decide) k) ?_
        show own_Go p e below P T7 (mkF m 78 #[.val (.int p0), .val (.int p1), .val (.int ((p0 &&& (2047 : Int32)) - (1000 : Int32))), .val (.double (own_p ((p0 &&& (2047 : Int32)) - (1000 : Int32)))), .second, .val (.ref (if (cmpValue (FP.dcmp (own_p ((p0 &&& (2047 : Int32)) - (1000 : Int32))) (4587366580439587226 : UInt64)) .g) < 0 ∧ p1 < 0 then ab else if (cmpValue (FP.dcmp (own_p ((p0 &&& (2047 : Int32)) - (1000 : Int32))) (4587366580439587226 : UInt64)) .g) < 0 ∧ 0 < p1 then aw else an)), .val (.int (1 : Int32)), .val (.ref ab)] [])
        refine own_step (fun _ k => XS.iconst X7.here hx rfl (hb hby at_78) k) ?_
        show own_Go p e below P T7 (mkF m 79 #[.val (.int p0), .val (.int p1), .val (.int ((p0 &&& (2047 : Int32)) - (1000 : Int32))), .val (.double (own_p ((p0 &&& (2047 : Int32)) - (1000 : Int32)))), .second, .val (.ref (if (cmpValue (FP.dcmp (own_p ((p0 &&& (2047 : Int32)) - (1000 : Int32))) (4587366580439587226 : UInt64)) .g) < 0 ∧ p1 < 0 then ab else if (cmpValue (FP.dcmp (own_p ((p0 &&& (2047 : Int32)) - (1000 : Int32))) (4587366580439587226 : UInt64)) .g) < 0 ∧ 0 < p1 then aw else an)), .val (.int (1 : Int32)), .val (.ref ab)] [(.int (1 : Int32))])
        refine own_step (fun _ k => XS.goto X7.here hx rfl (pc0 := 79) (pc' := 83) rfl (hb hby at_79) (by decide) (by decide) k) ?_
        show own_Go p e below P T7 (mkF m 83 #[.val (.int p0), .val (.int p1), .val (.int ((p0 &&& (2047 : Int32)) - (1000 : Int32))), .val (.double (own_p ((p0 &&& (2047 : Int32)) - (1000 : Int32)))), .second, .val (.ref (if (cmpValue (FP.dcmp (own_p ((p0 &&& (2047 : Int32)) - (1000 : Int32))) (4587366580439587226 : UInt64)) .g) < 0 ∧ p1 < 0 then ab else if (cmpValue (FP.dcmp (own_p ((p0 &&& (2047 : Int32)) - (1000 : Int32))) (4587366580439587226 : UInt64)) .g) < 0 ∧ 0 < p1 then aw else an)), .val (.int (1 : Int32)), .val (.ref ab)] [(.int (1 : Int32))])
        obtain ⟨fs, hr, hrun, hended, hW, hsame⟩ := X7.leave (v := some (.int (1 : Int32))) (fun h => by rw [Bd.returns] at h; cases h)
        refine ⟨_, _, retN X7 hx (t := .boolean) Bd.returns (by simp) (hb hby at_83) hr, hrun, hended, hfin _ _ ⟨_, _, rfl, ?_, ⟨_, rfl⟩, hW, hsame.mono (by decide) (by decide)⟩⟩
        show Q0 Z p0 p1 aw an ab h0 n0 (some (.int (1 : Int32))) T7.heap _
        rw [e7]
        exact ⟨rfl, N1⟩
      · refine own_step (fun _ k => XS.ifYes X1.here hx rfl (pc0 := 55) (pc' := 66) rfl (hb hby at_55) rfl ((if0 _ _).trans (flt hc6).2.1) (by decide) (by decide) k) ?_
        show own_Go p e below P T1 (mkF m 66 #[.val (.int p0), .val (.int p1), .val (.int ((p0 &&& (2047 : Int32)) - (1000 : Int32))), .val (.double (own_p ((p0 &&& (2047 : Int32)) - (1000 : Int32)))), .second, .val (.ref (if (cmpValue (FP.dcmp (own_p ((p0 &&& (2047 : Int32)) - (1000 : Int32))) (4587366580439587226 : UInt64)) .g) < 0 ∧ p1 < 0 then ab else if (cmpValue (FP.dcmp (own_p ((p0 &&& (2047 : Int32)) - (1000 : Int32))) (4587366580439587226 : UInt64)) .g) < 0 ∧ 0 < p1 then aw else an)), .val (.int (1 : Int32)), .unset] [])
        obtain ⟨T9, X9, e9, st9⟩ := getS2 X1 hx hZ hown (host := "") (Or.inl (hw _ (List.mem_of_getElem? (i := 8) rfl))) Via.refl e1 S_WORSE (g := (mkF m 66 #[.val (.int p0), .val (.int p1), .val (.int ((p0 &&& (2047 : Int32)) - (1000 : Int32))), .val (.double (own_p ((p0 &&& (2047 : Int32)) - (1000 : Int32)))), .second, .val (.ref (if (cmpValue (FP.dcmp (own_p ((p0 &&& (2047 : Int32)) - (1000 : Int32))) (4587366580439587226 : UInt64)) .g) < 0 ∧ p1 < 0 then ab else if (cmpValue (FP.dcmp (own_p ((p0 &&& (2047 : Int32)) - (1000 : Int32))) (4587366580439587226 : UInt64)) .g) < 0 ∧ 0 < p1 then aw else an)), .val (.int (1 : Int32)), .unset] [])) rfl (hb hby at_66)
        refine own_step st9 ?_
        show own_Go p e below P T9 (mkF m 69 #[.val (.int p0), .val (.int p1), .val (.int ((p0 &&& (2047 : Int32)) - (1000 : Int32))), .val (.double (own_p ((p0 &&& (2047 : Int32)) - (1000 : Int32)))), .second, .val (.ref (if (cmpValue (FP.dcmp (own_p ((p0 &&& (2047 : Int32)) - (1000 : Int32))) (4587366580439587226 : UInt64)) .g) < 0 ∧ p1 < 0 then ab else if (cmpValue (FP.dcmp (own_p ((p0 &&& (2047 : Int32)) - (1000 : Int32))) (4587366580439587226 : UInt64)) .g) < 0 ∧ 0 < p1 then aw else an)), .val (.int (1 : Int32)), .unset] [(.ref aw)])
        refine own_step (fun _ k => XS.astore X9.here hx rfl (hb hby at_69) rfl rfl (l' := #[.val (.int p0), .val (.int p1), .val (.int ((p0 &&& (2047 : Int32)) - (1000 : Int32))), .val (.double (own_p ((p0 &&& (2047 : Int32)) - (1000 : Int32)))), .second, .val (.ref (if (cmpValue (FP.dcmp (own_p ((p0 &&& (2047 : Int32)) - (1000 : Int32))) (4587366580439587226 : UInt64)) .g) < 0 ∧ p1 < 0 then ab else if (cmpValue (FP.dcmp (own_p ((p0 &&& (2047 : Int32)) - (1000 : Int32))) (4587366580439587226 : UInt64)) .g) < 0 ∧ 0 < p1 then aw else an)), .val (.int (1 : Int32)), .val (.ref aw)]) rfl k) ?_
        show own_Go p e below P T9 (mkF m 71 #[.val (.int p0), .val (.int p1), .val (.int ((p0 &&& (2047 : Int32)) - (1000 : Int32))), .val (.double (own_p ((p0 &&& (2047 : Int32)) - (1000 : Int32)))), .second, .val (.ref (if (cmpValue (FP.dcmp (own_p ((p0 &&& (2047 : Int32)) - (1000 : Int32))) (4587366580439587226 : UInt64)) .g) < 0 ∧ p1 < 0 then ab else if (cmpValue (FP.dcmp (own_p ((p0 &&& (2047 : Int32)) - (1000 : Int32))) (4587366580439587226 : UInt64)) .g) < 0 ∧ 0 < p1 then aw else an)), .val (.int (1 : Int32)), .val (.ref aw)] [])
        refine own_step (fun _ k => XS.aload X9.here hx rfl (hb hby at_71) rfl rfl k) ?_
        show own_Go p e below P T9 (mkF m 73 #[.val (.int p0), .val (.int p1), .val (.int ((p0 &&& (2047 : Int32)) - (1000 : Int32))), .val (.double (own_p ((p0 &&& (2047 : Int32)) - (1000 : Int32)))), .second, .val (.ref (if (cmpValue (FP.dcmp (own_p ((p0 &&& (2047 : Int32)) - (1000 : Int32))) (4587366580439587226 : UInt64)) .g) < 0 ∧ p1 < 0 then ab else if (cmpValue (FP.dcmp (own_p ((p0 &&& (2047 : Int32)) - (1000 : Int32))) (4587366580439587226 : UInt64)) .g) < 0 ∧ 0 < p1 then aw else an)), .val (.int (1 : Int32)), .val (.ref aw)] [(.ref (if (cmpValue (FP.dcmp (own_p ((p0 &&& (2047 : Int32)) - (1000 : Int32))) (4587366580439587226 : UInt64)) .g) < 0 ∧ p1 < 0 then ab else if (cmpValue (FP.dcmp (own_p ((p0 &&& (2047 : Int32)) - (1000 : Int32))) (4587366580439587226 : UInt64)) .g) < 0 ∧ 0 < p1 then aw else an))])
        refine own_step (fun _ k => XS.aload X9.here hx rfl (hb hby at_73) rfl rfl k) ?_
        show own_Go p e below P T9 (mkF m 75 #[.val (.int p0), .val (.int p1), .val (.int ((p0 &&& (2047 : Int32)) - (1000 : Int32))), .val (.double (own_p ((p0 &&& (2047 : Int32)) - (1000 : Int32)))), .second, .val (.ref (if (cmpValue (FP.dcmp (own_p ((p0 &&& (2047 : Int32)) - (1000 : Int32))) (4587366580439587226 : UInt64)) .g) < 0 ∧ p1 < 0 then ab else if (cmpValue (FP.dcmp (own_p ((p0 &&& (2047 : Int32)) - (1000 : Int32))) (4587366580439587226 : UInt64)) .g) < 0 ∧ 0 < p1 then aw else an)), .val (.int (1 : Int32)), .val (.ref aw)] [(.ref aw), (.ref (if (cmpValue (FP.dcmp (own_p ((p0 &&& (2047 : Int32)) - (1000 : Int32))) (4587366580439587226 : UInt64)) .g) < 0 ∧ p1 < 0 then ab else if (cmpValue (FP.dcmp (own_p ((p0 &&& (2047 : Int32)) - (1000 : Int32))) (4587366580439587226 : UInt64)) .g) < 0 ∧ 0 < p1 then aw else an))])
        have hv : (if (cmpValue (FP.dcmp (own_p ((p0 &&& (2047 : Int32)) - (1000 : Int32))) (4587366580439587226 : UInt64)) .g) < 0 ∧ p1 < 0 then ab else if (cmpValue (FP.dcmp (own_p ((p0 &&& (2047 : Int32)) - (1000 : Int32))) (4587366580439587226 : UInt64)) .g) < 0 ∧ 0 < p1 then aw else an) = aw := (own_v p1 ab aw an).2.2.2 ((own_lt p0).mpr hc2) hc3 hc6
        refine own_step (fun _ k => Jvm.RoadKit.acmp (g := (mkF m 75 #[.val (.int p0), .val (.int p1), .val (.int ((p0 &&& (2047 : Int32)) - (1000 : Int32))), .val (.double (own_p ((p0 &&& (2047 : Int32)) - (1000 : Int32)))), .second, .val (.ref (if (cmpValue (FP.dcmp (own_p ((p0 &&& (2047 : Int32)) - (1000 : Int32))) (4587366580439587226 : UInt64)) .g) < 0 ∧ p1 < 0 then ab else if (cmpValue (FP.dcmp (own_p ((p0 &&& (2047 : Int32)) - (1000 : Int32))) (4587366580439587226 : UInt64)) .g) < 0 ∧ 0 < p1 then aw else an)), .val (.int (1 : Int32)), .val (.ref aw)] [(.ref aw), (.ref (if (cmpValue (FP.dcmp (own_p ((p0 &&& (2047 : Int32)) - (1000 : Int32))) (4587366580439587226 : UInt64)) .g) < 0 ∧ p1 < 0 then ab else if (cmpValue (FP.dcmp (own_p ((p0 &&& (2047 : Int32)) - (1000 : Int32))) (4587366580439587226 : UInt64)) .g) < 0 ∧ 0 < p1 then aw else an))])) X9 hx rfl rfl rfl (pc0 := 75) (pc' := 78) (same := true) rfl (hb hby at_75) rfl (decide_eq_true (congrArg Value.ref hv)) (by decide) (by decide) k) ?_
        show own_Go p e below P T9 (mkF m 78 #[.val (.int p0), .val (.int p1), .val (.int ((p0 &&& (2047 : Int32)) - (1000 : Int32))), .val (.double (own_p ((p0 &&& (2047 : Int32)) - (1000 : Int32)))), .second, .val (.ref (if (cmpValue (FP.dcmp (own_p ((p0 &&& (2047 : Int32)) - (1000 : Int32))) (4587366580439587226 : UInt64)) .g) < 0 ∧ p1 < 0 then ab else if (cmpValue (FP.dcmp (own_p ((p0 &&& (2047 : Int32)) - (1000 : Int32))) (4587366580439587226 : UInt64)) .g) < 0 ∧ 0 < p1 then aw else an)), .val (.int (1 : Int32)), .val (.ref aw)] [])
        refine own_step (fun _ k => XS.iconst X9.here hx rfl (hb hby at_78) k) ?_
        show own_Go p e below P T9 (mkF m 79 #[.val (.int p0), .val (.int p1), .val (.int ((p0 &&& (2047 : Int32)) - (1000 : Int32))), .val (.double (own_p ((p0 &&& (2047 : Int32)) - (1000 : Int32)))), .second, .val (.ref (if (cmpValue (FP.dcmp (own_p ((p0 &&& (2047 : Int32)) - (1000 : Int32))) (4587366580439587226 : UInt64)) .g) < 0 ∧ p1 < 0 then ab else if (cmpValue (FP.dcmp (own_p ((p0 &&& (2047 : Int32)) - (1000 : Int32))) (4587366580439587226 : UInt64)) .g) < 0 ∧ 0 < p1 then aw else an)), .val (.int (1 : Int32)), .val (.ref aw)] [(.int (1 : Int32))])
        refine own_step (fun _ k => XS.goto X9.here hx rfl (pc0 := 79) (pc' := 83) rfl (hb hby at_79) (by decide) (by decide) k) ?_
        show own_Go p e below P T9 (mkF m 83 #[.val (.int p0), .val (.int p1), .val (.int ((p0 &&& (2047 : Int32)) - (1000 : Int32))), .val (.double (own_p ((p0 &&& (2047 : Int32)) - (1000 : Int32)))), .second, .val (.ref (if (cmpValue (FP.dcmp (own_p ((p0 &&& (2047 : Int32)) - (1000 : Int32))) (4587366580439587226 : UInt64)) .g) < 0 ∧ p1 < 0 then ab else if (cmpValue (FP.dcmp (own_p ((p0 &&& (2047 : Int32)) - (1000 : Int32))) (4587366580439587226 : UInt64)) .g) < 0 ∧ 0 < p1 then aw else an)), .val (.int (1 : Int32)), .val (.ref aw)] [(.int (1 : Int32))])
        obtain ⟨fs, hr, hrun, hended, hW, hsame⟩ := X9.leave (v := some (.int (1 : Int32))) (fun h => by rw [Bd.returns] at h; cases h)
        refine ⟨_, _, retN X9 hx (t := .boolean) Bd.returns (by simp) (hb hby at_83) hr, hrun, hended, hfin _ _ ⟨_, _, rfl, ?_, ⟨_, rfl⟩, hW, hsame.mono (by decide) (by decide)⟩⟩
        show Q0 Z p0 p1 aw an ab h0 n0 (some (.int (1 : Int32))) T9.heap _
        rw [e9]
        exact ⟨rfl, N1⟩
  · refine own_step (fun _ k => XS.icmpYes X1.here hx rfl (pc0 := 27) (pc' := 34) rfl (hb hby at_27) rfl (flt hc2).2.1 (by decide) (by decide) k) ?_
    show own_Go p e below P T1 (mkF m 34 #[.val (.int p0), .val (.int p1), .val (.int ((p0 &&& (2047 : Int32)) - (1000 : Int32))), .val (.double (own_p ((p0 &&& (2047 : Int32)) - (1000 : Int32)))), .second, .val (.ref (if (cmpValue (FP.dcmp (own_p ((p0 &&& (2047 : Int32)) - (1000 : Int32))) (4587366580439587226 : UInt64)) .g) < 0 ∧ p1 < 0 then ab else if (cmpValue (FP.dcmp (own_p ((p0 &&& (2047 : Int32)) - (1000 : Int32))) (4587366580439587226 : UInt64)) .g) < 0 ∧ 0 < p1 then aw else an)), .unset, .unset] [])
    refine own_step (fun _ k => XS.iconst X1.here hx rfl (hb hby at_34) k) ?_
    show own_Go p e below P T1 (mkF m 35 #[.val (.int p0), .val (.int p1), .val (.int ((p0 &&& (2047 : Int32)) - (1000 : Int32))), .val (.double (own_p ((p0 &&& (2047 : Int32)) - (1000 : Int32)))), .second, .val (.ref (if (cmpValue (FP.dcmp (own_p ((p0 &&& (2047 : Int32)) - (1000 : Int32))) (4587366580439587226 : UInt64)) .g) < 0 ∧ p1 < 0 then ab else if (cmpValue (FP.dcmp (own_p ((p0 &&& (2047 : Int32)) - (1000 : Int32))) (4587366580439587226 : UInt64)) .g) < 0 ∧ 0 < p1 then aw else an)), .unset, .unset] [(.int (0 : Int32))])
    refine own_step (fun _ k => XS.istore X1.here hx rfl (hb hby at_35) rfl (l' := #[.val (.int p0), .val (.int p1), .val (.int ((p0 &&& (2047 : Int32)) - (1000 : Int32))), .val (.double (own_p ((p0 &&& (2047 : Int32)) - (1000 : Int32)))), .second, .val (.ref (if (cmpValue (FP.dcmp (own_p ((p0 &&& (2047 : Int32)) - (1000 : Int32))) (4587366580439587226 : UInt64)) .g) < 0 ∧ p1 < 0 then ab else if (cmpValue (FP.dcmp (own_p ((p0 &&& (2047 : Int32)) - (1000 : Int32))) (4587366580439587226 : UInt64)) .g) < 0 ∧ 0 < p1 then aw else an)), .val (.int (0 : Int32)), .unset]) rfl k) ?_
    show own_Go p e below P T1 (mkF m 37 #[.val (.int p0), .val (.int p1), .val (.int ((p0 &&& (2047 : Int32)) - (1000 : Int32))), .val (.double (own_p ((p0 &&& (2047 : Int32)) - (1000 : Int32)))), .second, .val (.ref (if (cmpValue (FP.dcmp (own_p ((p0 &&& (2047 : Int32)) - (1000 : Int32))) (4587366580439587226 : UInt64)) .g) < 0 ∧ p1 < 0 then ab else if (cmpValue (FP.dcmp (own_p ((p0 &&& (2047 : Int32)) - (1000 : Int32))) (4587366580439587226 : UInt64)) .g) < 0 ∧ 0 < p1 then aw else an)), .val (.int (0 : Int32)), .unset] [])
    refine own_step (fun _ k => XS.iload X1.here hx rfl (hb hby at_37) rfl k) ?_
    show own_Go p e below P T1 (mkF m 39 #[.val (.int p0), .val (.int p1), .val (.int ((p0 &&& (2047 : Int32)) - (1000 : Int32))), .val (.double (own_p ((p0 &&& (2047 : Int32)) - (1000 : Int32)))), .second, .val (.ref (if (cmpValue (FP.dcmp (own_p ((p0 &&& (2047 : Int32)) - (1000 : Int32))) (4587366580439587226 : UInt64)) .g) < 0 ∧ p1 < 0 then ab else if (cmpValue (FP.dcmp (own_p ((p0 &&& (2047 : Int32)) - (1000 : Int32))) (4587366580439587226 : UInt64)) .g) < 0 ∧ 0 < p1 then aw else an)), .val (.int (0 : Int32)), .unset] [(.int (0 : Int32))])
    refine own_step (fun _ k => XS.ifYes X1.here hx rfl (pc0 := 39) (pc' := 46) rfl (hb hby at_39) rfl ((if0 _ _).trans (teq (rfl : (0 : Int32) = (0 : Int32))).1) (by decide) (by decide) k) ?_
    show own_Go p e below P T1 (mkF m 46 #[.val (.int p0), .val (.int p1), .val (.int ((p0 &&& (2047 : Int32)) - (1000 : Int32))), .val (.double (own_p ((p0 &&& (2047 : Int32)) - (1000 : Int32)))), .second, .val (.ref (if (cmpValue (FP.dcmp (own_p ((p0 &&& (2047 : Int32)) - (1000 : Int32))) (4587366580439587226 : UInt64)) .g) < 0 ∧ p1 < 0 then ab else if (cmpValue (FP.dcmp (own_p ((p0 &&& (2047 : Int32)) - (1000 : Int32))) (4587366580439587226 : UInt64)) .g) < 0 ∧ 0 < p1 then aw else an)), .val (.int (0 : Int32)), .unset] [])
    obtain ⟨T11, X11, e11, st11⟩ := getS2 X1 hx hZ hown (host := "") (Or.inl (hw _ (List.mem_of_getElem? (i := 11) rfl))) Via.refl e1 S_NO_DIFFERENCE (g := (mkF m 46 #[.val (.int p0), .val (.int p1), .val (.int ((p0 &&& (2047 : Int32)) - (1000 : Int32))), .val (.double (own_p ((p0 &&& (2047 : Int32)) - (1000 : Int32)))), .second, .val (.ref (if (cmpValue (FP.dcmp (own_p ((p0 &&& (2047 : Int32)) - (1000 : Int32))) (4587366580439587226 : UInt64)) .g) < 0 ∧ p1 < 0 then ab else if (cmpValue (FP.dcmp (own_p ((p0 &&& (2047 : Int32)) - (1000 : Int32))) (4587366580439587226 : UInt64)) .g) < 0 ∧ 0 < p1 then aw else an)), .val (.int (0 : Int32)), .unset] [])) rfl (hb hby at_46)
    refine own_step st11 ?_
    show own_Go p e below P T11 (mkF m 49 #[.val (.int p0), .val (.int p1), .val (.int ((p0 &&& (2047 : Int32)) - (1000 : Int32))), .val (.double (own_p ((p0 &&& (2047 : Int32)) - (1000 : Int32)))), .second, .val (.ref (if (cmpValue (FP.dcmp (own_p ((p0 &&& (2047 : Int32)) - (1000 : Int32))) (4587366580439587226 : UInt64)) .g) < 0 ∧ p1 < 0 then ab else if (cmpValue (FP.dcmp (own_p ((p0 &&& (2047 : Int32)) - (1000 : Int32))) (4587366580439587226 : UInt64)) .g) < 0 ∧ 0 < p1 then aw else an)), .val (.int (0 : Int32)), .unset] [(.ref an)])
    refine own_step (fun _ k => XS.astore X11.here hx rfl (hb hby at_49) rfl rfl (l' := #[.val (.int p0), .val (.int p1), .val (.int ((p0 &&& (2047 : Int32)) - (1000 : Int32))), .val (.double (own_p ((p0 &&& (2047 : Int32)) - (1000 : Int32)))), .second, .val (.ref (if (cmpValue (FP.dcmp (own_p ((p0 &&& (2047 : Int32)) - (1000 : Int32))) (4587366580439587226 : UInt64)) .g) < 0 ∧ p1 < 0 then ab else if (cmpValue (FP.dcmp (own_p ((p0 &&& (2047 : Int32)) - (1000 : Int32))) (4587366580439587226 : UInt64)) .g) < 0 ∧ 0 < p1 then aw else an)), .val (.int (0 : Int32)), .val (.ref an)]) rfl k) ?_
    show own_Go p e below P T11 (mkF m 51 #[.val (.int p0), .val (.int p1), .val (.int ((p0 &&& (2047 : Int32)) - (1000 : Int32))), .val (.double (own_p ((p0 &&& (2047 : Int32)) - (1000 : Int32)))), .second, .val (.ref (if (cmpValue (FP.dcmp (own_p ((p0 &&& (2047 : Int32)) - (1000 : Int32))) (4587366580439587226 : UInt64)) .g) < 0 ∧ p1 < 0 then ab else if (cmpValue (FP.dcmp (own_p ((p0 &&& (2047 : Int32)) - (1000 : Int32))) (4587366580439587226 : UInt64)) .g) < 0 ∧ 0 < p1 then aw else an)), .val (.int (0 : Int32)), .val (.ref an)] [])
    refine own_step (fun _ k => XS.goto X11.here hx rfl (pc0 := 51) (pc' := 71) rfl (hb hby at_51) (by decide) (by decide) k) ?_
    show own_Go p e below P T11 (mkF m 71 #[.val (.int p0), .val (.int p1), .val (.int ((p0 &&& (2047 : Int32)) - (1000 : Int32))), .val (.double (own_p ((p0 &&& (2047 : Int32)) - (1000 : Int32)))), .second, .val (.ref (if (cmpValue (FP.dcmp (own_p ((p0 &&& (2047 : Int32)) - (1000 : Int32))) (4587366580439587226 : UInt64)) .g) < 0 ∧ p1 < 0 then ab else if (cmpValue (FP.dcmp (own_p ((p0 &&& (2047 : Int32)) - (1000 : Int32))) (4587366580439587226 : UInt64)) .g) < 0 ∧ 0 < p1 then aw else an)), .val (.int (0 : Int32)), .val (.ref an)] [])
    refine own_step (fun _ k => XS.aload X11.here hx rfl (hb hby at_71) rfl rfl k) ?_
    show own_Go p e below P T11 (mkF m 73 #[.val (.int p0), .val (.int p1), .val (.int ((p0 &&& (2047 : Int32)) - (1000 : Int32))), .val (.double (own_p ((p0 &&& (2047 : Int32)) - (1000 : Int32)))), .second, .val (.ref (if (cmpValue (FP.dcmp (own_p ((p0 &&& (2047 : Int32)) - (1000 : Int32))) (4587366580439587226 : UInt64)) .g) < 0 ∧ p1 < 0 then ab else if (cmpValue (FP.dcmp (own_p ((p0 &&& (2047 : Int32)) - (1000 : Int32))) (4587366580439587226 : UInt64)) .g) < 0 ∧ 0 < p1 then aw else an)), .val (.int (0 : Int32)), .val (.ref an)] [(.ref (if (cmpValue (FP.dcmp (own_p ((p0 &&& (2047 : Int32)) - (1000 : Int32))) (4587366580439587226 : UInt64)) .g) < 0 ∧ p1 < 0 then ab else if (cmpValue (FP.dcmp (own_p ((p0 &&& (2047 : Int32)) - (1000 : Int32))) (4587366580439587226 : UInt64)) .g) < 0 ∧ 0 < p1 then aw else an))])
    refine own_step (fun _ k => XS.aload X11.here hx rfl (hb hby at_73) rfl rfl k) ?_
    show own_Go p e below P T11 (mkF m 75 #[.val (.int p0), .val (.int p1), .val (.int ((p0 &&& (2047 : Int32)) - (1000 : Int32))), .val (.double (own_p ((p0 &&& (2047 : Int32)) - (1000 : Int32)))), .second, .val (.ref (if (cmpValue (FP.dcmp (own_p ((p0 &&& (2047 : Int32)) - (1000 : Int32))) (4587366580439587226 : UInt64)) .g) < 0 ∧ p1 < 0 then ab else if (cmpValue (FP.dcmp (own_p ((p0 &&& (2047 : Int32)) - (1000 : Int32))) (4587366580439587226 : UInt64)) .g) < 0 ∧ 0 < p1 then aw else an)), .val (.int (0 : Int32)), .val (.ref an)] [(.ref an), (.ref (if (cmpValue (FP.dcmp (own_p ((p0 &&& (2047 : Int32)) - (1000 : Int32))) (4587366580439587226 : UInt64)) .g) < 0 ∧ p1 < 0 then ab else if (cmpValue (FP.dcmp (own_p ((p0 &&& (2047 : Int32)) - (1000 : Int32))) (4587366580439587226 : UInt64)) .g) < 0 ∧ 0 < p1 then aw else an))])
    have hv : (if (cmpValue (FP.dcmp (own_p ((p0 &&& (2047 : Int32)) - (1000 : Int32))) (4587366580439587226 : UInt64)) .g) < 0 ∧ p1 < 0 then ab else if (cmpValue (FP.dcmp (own_p ((p0 &&& (2047 : Int32)) - (1000 : Int32))) (4587366580439587226 : UInt64)) .g) < 0 ∧ 0 < p1 then aw else an) = an := (own_v p1 ab aw an).1 (fun q => hc2 ((own_lt p0).mp q))
    refine own_step (fun _ k => Jvm.RoadKit.acmp (g := (mkF m 75 #[.val (.int p0), .val (.int p1), .val (.int ((p0 &&& (2047 : Int32)) - (1000 : Int32))), .val (.double (own_p ((p0 &&& (2047 : Int32)) - (1000 : Int32)))), .second, .val (.ref (if (cmpValue (FP.dcmp (own_p ((p0 &&& (2047 : Int32)) - (1000 : Int32))) (4587366580439587226 : UInt64)) .g) < 0 ∧ p1 < 0 then ab else if (cmpValue (FP.dcmp (own_p ((p0 &&& (2047 : Int32)) - (1000 : Int32))) (4587366580439587226 : UInt64)) .g) < 0 ∧ 0 < p1 then aw else an)), .val (.int (0 : Int32)), .val (.ref an)] [(.ref an), (.ref (if (cmpValue (FP.dcmp (own_p ((p0 &&& (2047 : Int32)) - (1000 : Int32))) (4587366580439587226 : UInt64)) .g) < 0 ∧ p1 < 0 then ab else if (cmpValue (FP.dcmp (own_p ((p0 &&& (2047 : Int32)) - (1000 : Int32))) (4587366580439587226 : UInt64)) .g) < 0 ∧ 0 < p1 then aw else an))])) X11 hx rfl rfl rfl (pc0 := 75) (pc' := 78) (same := true) rfl (hb hby at_75) rfl (decide_eq_true (congrArg Value.ref hv)) (by decide) (by decide) k) ?_
    show own_Go p e below P T11 (mkF m 78 #[.val (.int p0), .val (.int p1), .val (.int ((p0 &&& (2047 : Int32)) - (1000 : Int32))), .val (.double (own_p ((p0 &&& (2047 : Int32)) - (1000 : Int32)))), .second, .val (.ref (if (cmpValue (FP.dcmp (own_p ((p0 &&& (2047 : Int32)) - (1000 : Int32))) (4587366580439587226 : UInt64)) .g) < 0 ∧ p1 < 0 then ab else if (cmpValue (FP.dcmp (own_p ((p0 &&& (2047 : Int32)) - (1000 : Int32))) (4587366580439587226 : UInt64)) .g) < 0 ∧ 0 < p1 then aw else an)), .val (.int (0 : Int32)), .val (.ref an)] [])
    refine own_step (fun _ k => XS.iconst X11.here hx rfl (hb hby at_78) k) ?_
    show own_Go p e below P T11 (mkF m 79 #[.val (.int p0), .val (.int p1), .val (.int ((p0 &&& (2047 : Int32)) - (1000 : Int32))), .val (.double (own_p ((p0 &&& (2047 : Int32)) - (1000 : Int32)))), .second, .val (.ref (if (cmpValue (FP.dcmp (own_p ((p0 &&& (2047 : Int32)) - (1000 : Int32))) (4587366580439587226 : UInt64)) .g) < 0 ∧ p1 < 0 then ab else if (cmpValue (FP.dcmp (own_p ((p0 &&& (2047 : Int32)) - (1000 : Int32))) (4587366580439587226 : UInt64)) .g) < 0 ∧ 0 < p1 then aw else an)), .val (.int (0 : Int32)), .val (.ref an)] [(.int (1 : Int32))])
    refine own_step (fun _ k => XS.goto X11.here hx rfl (pc0 := 79) (pc' := 83) rfl (hb hby at_79) (by decide) (by decide) k) ?_
    show own_Go p e below P T11 (mkF m 83 #[.val (.int p0), .val (.int p1), .val (.int ((p0 &&& (2047 : Int32)) - (1000 : Int32))), .val (.double (own_p ((p0 &&& (2047 : Int32)) - (1000 : Int32)))), .second, .val (.ref (if (cmpValue (FP.dcmp (own_p ((p0 &&& (2047 : Int32)) - (1000 : Int32))) (4587366580439587226 : UInt64)) .g) < 0 ∧ p1 < 0 then ab else if (cmpValue (FP.dcmp (own_p ((p0 &&& (2047 : Int32)) - (1000 : Int32))) (4587366580439587226 : UInt64)) .g) < 0 ∧ 0 < p1 then aw else an)), .val (.int (0 : Int32)), .val (.ref an)] [(.int (1 : Int32))])
    obtain ⟨fs, hr, hrun, hended, hW, hsame⟩ := X11.leave (v := some (.int (1 : Int32))) (fun h => by rw [Bd.returns] at h; cases h)
    refine ⟨_, _, retN X11 hx (t := .boolean) Bd.returns (by simp) (hb hby at_83) hr, hrun, hended, hfin _ _ ⟨_, _, rfl, ?_, ⟨_, rfl⟩, hW, hsame.mono (by decide) (by decide)⟩⟩
    show Q0 Z p0 p1 aw an ab h0 n0 (some (.int (1 : Int32))) T11.heap _
    rw [e11]
    exact ⟨rfl, N1⟩
set_option maxRecDepth 65536 in
set_option maxHeartbeats 40000000 in
theorem comes_1 {Post : Tables → Env → Array Value → State → Outcome → State → Prop} (hpost : ∀ tb e args s v u, (limb_1_1.after args s (.returned v) u = true ∧ limb_1_2.after args s (.returned v) u = true ∧ True) → FrameEnd s (.returned v) u (Jvm.fieldLocs frame_1_writes args s ++ Jvm.arrayLocs frame_1_arrays args s ++ Jvm.staticLocs frame_1_statics s) 0 0 → Post tb e args s (.returned v) u) :
    ArmFor flags0 classFile x code maxLocals ret World_1 tables_1 room_1 Calls_1 rest_1 Pre_1 Post := by
  intro l hfl _ _ p e ha hc hk s m args below hf hA hF happ hP
  obtain ⟨hcalls, hrest, hpre⟩ := hP
  obtain ⟨-, -, -, hnamed, -, -, -, hat⟩ := (Spec.applies_iff hf).mp happ
  obtain ⟨hg, hn⟩ := and_e (Cond.before_iff.mp (show (Jvm.Cond.and given_1 narrow_1).before args s = true from hpre))
  obtain ⟨hcnt, hg0⟩ := and_e hg
  obtain ⟨ga0, hg1⟩ := and_e hg0
  have ga1 := hg1
  obtain ⟨w0, w1, rfl⟩ : ∃ w0 w1 : Value, args = #[w0, w1] := by
    have hs : args.size = 2 := by simpa [Cond.value, given_1] using hcnt
    obtain ⟨L⟩ := args
    match L, hs with
    | [w0, w1], _ => exact ⟨w0, w1, rfl⟩
  have hw := fun d (hd : d ∈ tables_1) => atoms_spec (ws := Jvm.Cond.code x code maxLocals ret :: tables_1) hat d (List.mem_cons_of_mem _ hd)
  have hfit : Fit s := fun {y c} hc i hi => by
    obtain ⟨ha, rfl⟩ := Array.getElem?_eq_some_iff.mp hc
    have q := List.all_eq_true.mp ((Array.all_eq_true_iff_forall_mem.mp hF) _ (Array.getElem_mem ha)) i (List.mem_range.mpr hi)
    simpa [Array.getElem?_eq_getElem hi] using q
  obtain ⟨i0, ei0⟩ := is_v ga0
  obtain rfl : w0 = (.int i0) := Option.some.inj ei0
  obtain ⟨i1, ei1⟩ := is_v ga1
  obtain rfl : w1 = (.int i1) := Option.some.inj ei1
  obtain ⟨hn1, hn23⟩ := and_e hn
  obtain ⟨hn2, hn3⟩ := and_e hn23
  obtain ⟨aw, S_WORSE, -⟩ := own_static hn1 (hw _ (List.mem_of_getElem? (i := 3) rfl)) (hw _ (List.mem_of_getElem? (i := 7) rfl))
  obtain ⟨an, S_NO_DIFFERENCE, -⟩ := own_static hn2 (hw _ (List.mem_of_getElem? (i := 3) rfl)) (hw _ (List.mem_of_getElem? (i := 10) rfl))
  obtain ⟨ab, S_BETTER, -⟩ := own_static hn3 (hw _ (List.mem_of_getElem? (i := 3) rfl)) (hw _ (List.mem_of_getElem? (i := 13) rfl))
  obtain ⟨n, o, h1, h2, h3, _, L, rfl, ⟨rfl, N⟩, hq⟩ := rm0 l s _ hw tables_1 i0 i1 aw an ab s.heap s.heap.size (Nat.le_refl _) S_WORSE S_NO_DIFFERENCE S_BETTER p e ha hc hk s m _ below hf ((Spec.applies_iff_loose hf).mp happ).1 ⟨rfl, State.Warmed39.refl s, rfl⟩ trivial
  refine ⟨n, _, h1, h2, h3, hpost _ _ _ _ _ _ ⟨Cond.after_iff.mpr rfl, Cond.after_iff.mpr (eq_i res_at (Term.int_eval (1)) rfl), trivial⟩ ⟨hq.1, hq.2.1, (hq.2.2.sift fun y hy => Or.inr (N y hy)).mono (by decide) (by decide)⟩⟩
theorem main_1_1 : Claimed_1_1 := comes_1 fun _ _ _ _ _ _ h hF => ⟨h.1, hF⟩
theorem main_1_2 : Claimed_1_2 := comes_1 fun _ _ _ _ _ _ h hF => ⟨h.2.1, hF⟩
end Jvm.Pilot.@@N@@
namespace Jvm.Pilot.@@N@@
open Jvm Jvm.ClassFile Sem Op Lib Jvm.Free Jvm.Stand Jvm.Pilot.@@N@@.Jvm.D
/-! MADE BY PROGRAM (witnessworld.py) out of the Statement's table words and the real class files: 12 classes; the members and pool entries that the words name. The judged class is class 1, her method 1. -/
namespace start1
open Jvm.ClassFile
def u (s : String) : CpInfo := .utf8 (stringToUtf16 s)
/-- a pool by its gaps: so many unusable entries, then the entry; so many at the end -/
def gap : Nat → List CpInfo → List CpInfo
  | 0, r => r
  | n + 1, r => .unusable :: gap n r
def poolList (es : List (Nat × CpInfo)) (last : Nat) : List CpInfo := es.foldr (fun e r => gap e.1 (e.2 :: r)) (gap last [])
def pool (es : List (Nat × CpInfo)) (last : Nat) : Array CpInfo := ⟨poolList es last⟩
def fileOf (pool : Array CpInfo) (this : Nat) (attrs : Array Attribute := #[]) (ms : Array MethodInfo := #[]) (fl : Nat := 33) (sup : Nat := 0) (ifs : Array Nat := #[]) (fds : Array FieldInfo := #[]) : ClassFile where
  minorVersion := 0
  majorVersion := 65
  constantPool := pool
  accessFlags := fl
  thisClass := this
  superClass := sup
  interfaces := ifs
  fields := fds
  methods := ms
  attributes := attrs
def plain (name : String) (sup : Option ClassId) : Class where
  name := name
  kind := .ordinary
  loader := none
  accessFlags := 33
  super := sup
  interfaces := #[]
  cf := none
  fields := #[]
  methods := #[]
  instanceTypes := #[]
  staticTypes := #[]
  resolved := #[]
  callSites := []
  init := .initialized
  statics := none
  mirror := none

def pool0 : Array CpInfo := pool [(5, u "<init>"), (0, u "()V"), (1, .class_ 10), (1, u "java/lang/Object")] 113

def k0m0 : Method := { name := "<init>", desc := "()V", sig := { parameters := [], returnType := none }, accessFlags := 1, code := none }
/-- java/lang/Object -/
def k0 : Class := { plain "java/lang/Object" none with
  accessFlags := 33
  interfaces := #[]
  cf := some (fileOf pool0 8 #[] #[{ accessFlags := 1, nameIndex := 5, descriptorIndex := 6, attributes := #[] }] 33 0 #[] #[])
  fields := #[]
  methods := #[k0m0]
  instanceTypes := #[]
  staticTypes := #[]
  resolved := Array.replicate 124 none
  statics := none }

def pool1 : Array CpInfo := pool [(2, .class_ 4), (1, u "java/lang/Object"), (0, u "<init>"), (0, u "()V"), (0, .double 4652007308841189376), (1, .methodref 10 11), (0, .class_ 12), (0, .nameAndType 13 14), (0, u "com/example/rulewright/rulewright/analysis/Verdict"), (0, u "of"), (0, u "(DI)Lcom/example/rulewright/rulewright/analysis/Verdict;"), (0, .fieldref 10 16), (0, .nameAndType 17 18), (0, u "NO_DIFFERENCE"), (0, u "Lcom/example/rulewright/rulewright/analysis/Verdict;"), (0, .fieldref 10 20), (0, .nameAndType 21 18), (0, u "BETTER"), (0, .fieldref 10 23), (0, .nameAndType 24 18), (0, u "WORSE"), (0, .class_ 26), (0, u "com/example/rulewright/rulewright/analysis/VerdictOfPinLaw"), (2, u "law"), (0, u "(II)Z")] 3

def k1m0 : Method := { name := "<init>", desc := "()V", sig := { parameters := [], returnType := none }, accessFlags := 1, code := none }
def k1c1 : Code := { maxStack := 4, maxLocals := 8, code := code, exceptionTable := #[], attributes := #[] }
def k1m1 : Method := { name := "law", desc := "(II)Z", sig := { parameters := [.int, .int], returnType := some .boolean }, accessFlags := 9, code := some k1c1 }
/-- com/example/rulewright/rulewright/analysis/VerdictOfPinLaw -/
def k1 : Class := { plain "com/example/rulewright/rulewright/analysis/VerdictOfPinLaw" (some 0) with
  accessFlags := 49
  interfaces := #[]
  cf := some (fileOf pool1 25 #[] #[{ accessFlags := 1, nameIndex := 5, descriptorIndex := 6, attributes := #[] }, { accessFlags := 9, nameIndex := 29, descriptorIndex := 30, attributes := #[] }] 49 2 #[] #[])
  fields := #[]
  methods := #[k1m0, k1m1]
  instanceTypes := #[]
  staticTypes := #[]
  resolved := Array.replicate 34 none
  statics := none }

def pool2 : Array CpInfo := pool [(1, .class_ 2), (0, u "java/lang/constant/Constable"), (0, .class_ 4), (0, u "java/lang/Object")] 6

/-- java/lang/constant/Constable -/
def k2 : Class := { plain "java/lang/constant/Constable" (some 0) with
  accessFlags := 1537
  interfaces := #[]
  cf := some (fileOf pool2 1 #[] #[] 1537 3 #[] #[])
  fields := #[]
  methods := #[]
  instanceTypes := #[]
  staticTypes := #[]
  resolved := Array.replicate 11 none
  statics := none }

def pool3 : Array CpInfo := pool [(1, .class_ 2), (0, u "java/lang/Comparable"), (0, .class_ 4), (0, u "java/lang/Object")] 7

/-- java/lang/Comparable -/
def k3 : Class := { plain "java/lang/Comparable" (some 0) with
  accessFlags := 1537
  interfaces := #[]
  cf := some (fileOf pool3 1 #[] #[] 1537 3 #[] #[])
  fields := #[]
  methods := #[]
  instanceTypes := #[]
  staticTypes := #[]
  resolved := Array.replicate 12 none
  statics := none }

def pool4 : Array CpInfo := pool [(1, .class_ 2), (0, u "java/io/Serializable"), (0, .class_ 4), (0, u "java/lang/Object")] 2

/-- java/io/Serializable -/
def k4 : Class := { plain "java/io/Serializable" (some 0) with
  accessFlags := 1537
  interfaces := #[]
  cf := some (fileOf pool4 1 #[] #[] 1537 3 #[] #[])
  fields := #[]
  methods := #[]
  instanceTypes := #[]
  staticTypes := #[]
  resolved := Array.replicate 7 none
  statics := none }

def pool5 : Array CpInfo := pool [(2, .class_ 4), (1, u "java/lang/Enum"), (0, u "name"), (0, u "Ljava/lang/String;"), (2, u "ordinal"), (0, u "I"), (1, .class_ 14), (1, u "java/lang/Object"), (4, u "hash"), (86, .class_ 108), (1, u "java/lang/Enum$EnumDesc"), (2, .class_ 112), (0, u "java/lang/constant/Constable"), (0, .class_ 114), (0, u "java/lang/Comparable"), (0, .class_ 116), (0, u "java/io/Serializable")] 87

/-- java/lang/Enum -/
def k5 : Class := { plain "java/lang/Enum" (some 0) with
  accessFlags := 1057
  interfaces := #[2, 3, 4]
  cf := some (fileOf pool5 2 #[.nestMembers #[106]] #[] 1057 12 #[111, 113, 115] #[{ accessFlags := 18, nameIndex := 5, descriptorIndex := 6, attributes := #[] }, { accessFlags := 18, nameIndex := 9, descriptorIndex := 10, attributes := #[] }, { accessFlags := 2, nameIndex := 19, descriptorIndex := 10, attributes := #[] }])
  fields := #[{ name := "name", type := (.object "java/lang/String"), accessFlags := 18, slot := 0, constantValue := 0 }, { name := "ordinal", type := .int, accessFlags := 18, slot := 1, constantValue := 0 }, { name := "hash", type := .int, accessFlags := 2, slot := 2, constantValue := 0 }]
  methods := #[]
  instanceTypes := #[(.object "java/lang/String"), .int, .int]
  staticTypes := #[]
  resolved := Array.replicate 204 none
  statics := none }

def pool6 : Array CpInfo := pool [(1, .class_ 2), (0, u "com/example/rulewright/rulewright/analysis/Verdict"), (0, .fieldref 1 4), (0, .nameAndType 5 6), (0, u "BETTER"), (0, u "Lcom/example/rulewright/rulewright/analysis/Verdict;"), (0, .fieldref 1 8), (0, .nameAndType 9 6), (0, u "WORSE"), (0, .fieldref 1 11), (0, .nameAndType 12 6), (0, u "NO_DIFFERENCE"), (2, u "$VALUES"), (0, u "[Lcom/example/rulewright/rulewright/analysis/Verdict;"), (6, .class_ 25), (1, u "java/lang/Enum"), (8, u "symbol"), (0, u "Ljava/lang/String;"), (0, .double 4587366580439587226), (17, u "LEVEL"), (0, u "D"), (9, u "of"), (0, u "(DI)Lcom/example/rulewright/rulewright/analysis/Verdict;")] 6

def k6c0 : Code := { maxStack := 4, maxLocals := 4, code := prog_8_method_5_code, exceptionTable := #[], attributes := #[] }
def k6m0 : Method := { name := "of", desc := "(DI)Lcom/example/rulewright/rulewright/analysis/Verdict;", sig := { parameters := [.double, .int], returnType := some (.object "com/example/rulewright/rulewright/analysis/Verdict") }, accessFlags := 9, code := some k6c0 }
/-- com/example/rulewright/rulewright/analysis/Verdict -/
def k6 : Class := { plain "com/example/rulewright/rulewright/analysis/Verdict" (some 5) with
  accessFlags := 16433
  interfaces := #[]
  cf := some (fileOf pool6 1 #[] #[{ accessFlags := 9, nameIndex := 65, descriptorIndex := 66, attributes := #[] }] 16433 23 #[] #[{ accessFlags := 16409, nameIndex := 5, descriptorIndex := 6, attributes := #[] }, { accessFlags := 16409, nameIndex := 9, descriptorIndex := 6, attributes := #[] }, { accessFlags := 16409, nameIndex := 12, descriptorIndex := 6, attributes := #[] }, { accessFlags := 25, nameIndex := 54, descriptorIndex := 55, attributes := #[] }, { accessFlags := 18, nameIndex := 34, descriptorIndex := 35, attributes := #[] }, { accessFlags := 4122, nameIndex := 15, descriptorIndex := 16, attributes := #[] }])
  fields := #[{ name := "BETTER", type := (.object "com/example/rulewright/rulewright/analysis/Verdict"), accessFlags := 16409, slot := 0, constantValue := 0 }, { name := "WORSE", type := (.object "com/example/rulewright/rulewright/analysis/Verdict"), accessFlags := 16409, slot := 1, constantValue := 0 }, { name := "NO_DIFFERENCE", type := (.object "com/example/rulewright/rulewright/analysis/Verdict"), accessFlags := 16409, slot := 2, constantValue := 0 }, { name := "LEVEL", type := .double, accessFlags := 25, slot := 3, constantValue := 0 }, { name := "symbol", type := (.object "java/lang/String"), accessFlags := 18, slot := 3, constantValue := 0 }, { name := "$VALUES", type := (.array (.object "com/example/rulewright/rulewright/analysis/Verdict")), accessFlags := 4122, slot := 4, constantValue := 0 }]
  methods := #[k6m0]
  instanceTypes := #[(.object "java/lang/String"), .int, .int, (.object "java/lang/String")]
  staticTypes := #[(.object "com/example/rulewright/rulewright/analysis/Verdict"), (.object "com/example/rulewright/rulewright/analysis/Verdict"), (.object "com/example/rulewright/rulewright/analysis/Verdict"), .double, (.array (.object "com/example/rulewright/rulewright/analysis/Verdict"))]
  resolved := Array.replicate 73 none
  statics := some 0 }

def pool7 : Array CpInfo := pool [(1, u "java/lang/Cloneable"), (0, .class_ 1), (0, u "java/lang/Object"), (0, .class_ 3)] 3

/-- java/lang/Cloneable -/
def k7 : Class := { plain "java/lang/Cloneable" (some 0) with
  accessFlags := 1537
  interfaces := #[]
  cf := some (fileOf pool7 2 #[] #[] 1537 4 #[] #[])
  fields := #[]
  methods := #[]
  instanceTypes := #[]
  staticTypes := #[]
  resolved := Array.replicate 8 none
  statics := none }

/-- the primitive byte -/
def k8 : Class := { plain "byte" none with kind := .primitive 'B', accessFlags := 0x411 }
/-- [B -/
def k9 : Class := { plain "[B" (some 0) with kind := .array 8 .byte, interfaces := #[7, 4], accessFlags := 1041 }

/-- the primitive int -/
def k10 : Class := { plain "int" none with kind := .primitive 'I', accessFlags := 0x411 }
/-- [I -/
def k11 : Class := { plain "[I" (some 0) with kind := .array 10 .int, interfaces := #[7, 4], accessFlags := 1041 }

def heap : Heap := #[{ cls := 6, slots := #[.ref 1, .ref 1, .ref 1, .double 0, .null], vm := .statics 6 },
  { cls := 6, slots := #[.null, .int 0, .int 0, .null], vm := .none }]
def classes : Array Class := #[k0, k1, k2, k3, k4, k5, k6, k7, k8, k9, k10, k11]
def interned : List (Array UInt16 × Addr) := []
def slotsUsed : Nat := 9
def theMethod : MethodId := ⟨1, 1⟩
def args0 : Array Value := #[.int 5, .int 7]
def aboutOver (below : List Frame) : State where
  vm := { classes := classes, interned := interned.toArray }
  heap := heap
  slotsUsed := slotsUsed
  threads := #[{ frames := .invoking theMethod args0 :: below }]
def below0 : List Frame := [.native { method := ⟨0, 0⟩, args := #[] }]
def about1 : State := aboutOver below0
def p0 : Program := .bare "" "" ""
def e0 : Env := launch0.env 0 0 0
theorem w_frames : about1.frames = Frame.invoking theMethod args0 :: below0 := rfl
set_option maxRecDepth 65536 in
theorem w_args : argsFit about1.vm theMethod args0 = true := by decide +kernel
set_option maxRecDepth 65536 in
theorem w_heap : heapFits about1 = true := by decide +kernel
set_option maxRecDepth 65536 in
theorem w_runnable : about1.curStatus? = some .runnable := by decide +kernel
set_option maxRecDepth 65536 in
theorem w_alone : about1.alone = true := by decide +kernel
set_option maxRecDepth 65536 in
theorem w_named : about1.methodNamed? x = some theMethod := by decide +kernel
set_option maxRecDepth 65536 in
theorem w_hears : about1.hears theMethod below0 = true := by decide +kernel
set_option maxRecDepth 65536 in
theorem w_ripe : about1.ripe theMethod args0 below0 = true := by decide +kernel
theorem w_running : about1.status = .running := rfl
set_option maxRecDepth 65536 in
theorem w_room : about1.hasRoom e0.platform room_1 = true :=
  launch0.hasRoom_least _ room_1 (by decide +kernel) (by decide +kernel) (by decide +kernel) (by decide +kernel) (by decide +kernel) (by decide +kernel)
theorem allAtoms_all (ts : List Jvm.Cond) (a : Array Jvm.Value) (st : Jvm.State) : (allAtoms ts).before a st = ts.all (fun c => c.before a st) := by
  induction ts with
  | nil => rfl
  | cons c t ih =>
    show (Jvm.Cond.and c (allAtoms t)).before a st = _
    rw [Jvm.Cond.before_and, ih, List.all_cons]
def words1 : List Jvm.Cond := Jvm.Cond.code x code maxLocals ret :: tables_1
/-- a 'code' word, met by the world's own term for the bytes: nothing is compared byte by byte -/
theorem code_word {y : MethodName} {bytes : ByteArray} {mx : Nat} {rt : Option FieldType} {a : Array Value} {s : State} {m : MethodId} {meth : Method} {c : Code} (h1 : s.methodNamed? y = some m) (h2 : s.vm.method? m = some meth) (h3 : meth.code = some c) (h4 : c.code = bytes)
    (h5 : (c.maxLocals == mx && c.exceptionTable.isEmpty && decide (c.maxStack ≤ mostOperands) && decide (meth.sig.returnType = rt) && !meth.locks && decide (parseMethodDescriptor y.desc = some meth.sig)) = true) : (Jvm.Cond.code y bytes mx rt).before a s = true := by
  simp only [Bool.and_eq_true, beq_iff_eq, Bool.not_eq_true', decide_eq_true_eq] at h5
  obtain ⟨⟨⟨⟨⟨g1, g2⟩, g3⟩, g4⟩, g5⟩, g6⟩ := h5
  simp [Cond.before, Cond.holds, Cond.value, h1, h2, h3, h4, g1, g2, g3, g4, g5, g6]
def isCode : Jvm.Cond → Bool
  | .code _ _ _ _ => true
  | _ => false
theorem all_split {L : List Jvm.Cond} {P : Jvm.Cond → Bool} (h1 : L.all (fun c => isCode c || P c) = true) (h2 : ∀ c ∈ L.filter isCode, P c = true) : L.all P = true := by
  refine List.all_eq_true.mpr fun c hc => ?_
  have h := List.all_eq_true.mp h1 c hc
  rcases Bool.eq_false_or_eq_true (isCode c) with hi | hi
  · exact h2 c (List.mem_filter.mpr ⟨hc, hi⟩)
  · simpa [hi] using h
set_option maxRecDepth 65536 in
theorem w_c0 : (Jvm.Cond.code x code maxLocals ret).before args0 about1 = true := code_word (m := ⟨1, 1⟩) (meth := k1m1) (c := k1c1) (by decide +kernel) rfl rfl rfl (by decide +kernel)
set_option maxRecDepth 65536 in
theorem w_c1 : (Jvm.Cond.code ({ cls := "com/example/rulewright/rulewright/analysis/Verdict", name := "of", desc := "(DI)Lcom/example/rulewright/rulewright/analysis/Verdict;" } : Jvm.MethodName) prog_8_method_5_code (4 : Nat) (Option.some (Jvm.ClassFile.FieldType.object "com/example/rulewright/rulewright/analysis/Verdict"))).before args0 about1 = true := code_word (m := ⟨6, 0⟩) (meth := k6m0) (c := k6c0) (by decide +kernel) rfl rfl rfl (by decide +kernel)
def codes1 : List Jvm.Cond := [Jvm.Cond.code x code maxLocals ret, Jvm.Cond.code ({ cls := "com/example/rulewright/rulewright/analysis/Verdict", name := "of", desc := "(DI)Lcom/example/rulewright/rulewright/analysis/Verdict;" } : Jvm.MethodName) prog_8_method_5_code (4 : Nat) (Option.some (Jvm.ClassFile.FieldType.object "com/example/rulewright/rulewright/analysis/Verdict"))]
set_option maxRecDepth 65536 in
theorem codes_eq : words1.filter isCode = codes1 := rfl
theorem w_codes : ∀ c ∈ words1.filter isCode, c.before args0 about1 = true := by
  rw [codes_eq]
  intro c hc
  simp only [codes1, List.mem_cons, List.not_mem_nil, or_false] at hc
  rcases hc with rfl | rfl
  · exact w_c0
  · exact w_c1
set_option maxRecDepth 65536 in
theorem w_t1 : words1.all (fun c => isCode c || c.before args0 about1) = true := by decide +kernel
theorem w_tables : (allAtoms (Jvm.Cond.code x code maxLocals ret :: tables_1)).before args0 about1 = true := by
  rw [allAtoms_all]
  show words1.all (fun c => c.before args0 about1) = true
  refine all_split ?_ w_codes
  rw [w_t1]
set_option maxRecDepth 65536 in
theorem w_case : (Jvm.Cond.and given_1 narrow_1).before args0 about1 = true := by decide +kernel
theorem w_applies : (headSpec (Jvm.Cond.code x code maxLocals ret :: tables_1) room_1).applies x e0.platform about1 = true :=
  (Spec.applies_iff w_frames).mpr ⟨w_running, w_runnable, w_alone, w_named, w_hears, w_ripe, w_room, w_tables⟩
theorem atStart : AtStart classFile x code maxLocals ret World_1 tables_1 room_1 Calls_1 rest_1 Pre_1 launch0 p0 e0 about1 theMethod args0 below0 :=
  ⟨lists_1, trivial, launch0.admits_env _ _ _, launch0.least_env, fairChoices_fair.cas, fairChoices_fair.clock, w_frames, w_args, w_heap, w_applies, trivial, trivial, w_case⟩
end start1
theorem witness_1 : WitnessClaimed_1 := ⟨start1.p0, start1.e0, start1.about1, start1.theMethod, start1.args0, start1.below0, start1.atStart⟩
end Jvm.Pilot.@@N@@
