import JvmDerived
import JvmDerived.Pilot.@@N@@Statement
import JvmDerived.Pilot.@@N@@Code
set_option linter.unusedVariables false
set_option linter.unusedSimpArgs false
namespace Jvm.Pilot.@@N@@
open Jvm Jvm.ClassFile Sem Op Lib Jvm.Free Jvm.Stand Jvm.LawKit Jvm.RoadKit Bundle Jvm.Free.Fl Jvm.Pilot.@@N@@.Jvm.D
/-! the run stands at F in T, and comes to an end that P says -/
def own_Go (p : Program) (e : Env) (below : List Frame) (P : Outcome → State → Prop) (T : State) (F : JFrame) : Prop :=
  ∃ s₂ o, Steps p.tables e below (T.setTop F) s₂ ∧ s₂.status = .running ∧ Ended s₂ below o ∧ P o s₂
theorem own_step {p : Program} {e : Env} {below : List Frame} {P : Outcome → State → Prop} {T T' : State} {F F' : JFrame} (st : ∀ t, Steps p.tables e below (T'.setTop F') t → Steps p.tables e below (T.setTop F) t) (h : own_Go p e below P T' F') : own_Go p e below P T F := by
  obtain ⟨s₂, o, h1, h2⟩ := h
  exact ⟨s₂, o, st _ h1, h2⟩
theorem own_cast {p : Program} {e : Env} {below : List Frame} {P : Outcome → State → Prop} {T : State} {F F' : JFrame} (q : F = F') (h : own_Go p e below P T F') : own_Go p e below P T F := q ▸ h
theorem own_all {p : Program} {e : Env} {below : List Frame} {Q : Outcome → State → Prop} {T : State} {F : JFrame} (h : ∀ P : Outcome → State → Prop, (∀ o U, Q o U → P o U) → own_Go p e below P T F) : own_Go p e below Q T F := h Q fun _ _ q => q
theorem own_b (x : Int32) : B53 x.toInt64 := by have := rng32 x; have := c_i2l x; exact ⟨by omega, by omega⟩
theorem own_four (p : Int32) : (p &&& 3) + 1 = 1 ∨ (p &&& 3) + 1 = 2 ∨ (p &&& 3) + 1 = 3 ∨ (p &&& 3) + 1 = 4 := by
  have e := c_mask p 3 2 (by decide) (by decide)
  have h0 : 0 ≤ (p &&& 3).toInt := by rw [e]; exact Int.emod_nonneg _ (by decide)
  have h1 : (p &&& 3).toInt < 4 := by rw [e]; exact Int.emod_lt_of_pos _ (by decide)
  have h2 := c_iadd (p &&& 3) 1
  have h3 := rng32 ((p &&& 3) + 1)
  have h4 : (1 : Int32).toInt = 1 := rfl
  simp only [← Int32.toInt_inj, h4, show (2 : Int32).toInt = 2 from rfl, show (3 : Int32).toInt = 3 from rfl, show (4 : Int32).toInt = 4 from rfl]
  rw [h4] at h2
  omega
def own_i1 (qa qb qc qd : Int32) : Int32 := (0 : Int32)
def own_i2 (qa qb qc qd : Int32) : Int32 := (if (lcmpW qb.toInt64 qa.toInt64) < (0 : Int32) then (1 : Int32) else (0 : Int32))
def own_i3 (qa qb qc qd : Int32) : Int32 := (if (lcmpW qb.toInt64 qa.toInt64) < (0 : Int32) then (if (lcmpW qc.toInt64 qb.toInt64) < (0 : Int32) then (2 : Int32) else (1 : Int32)) else (if (lcmpW qc.toInt64 qa.toInt64) < (0 : Int32) then (2 : Int32) else (0 : Int32)))
def own_i4 (qa qb qc qd : Int32) : Int32 := (if (lcmpW qb.toInt64 qa.toInt64) < (0 : Int32) then (if (lcmpW qc.toInt64 qb.toInt64) < (0 : Int32) then (if (lcmpW qd.toInt64 qc.toInt64) < (0 : Int32) then (3 : Int32) else (2 : Int32)) else (if (lcmpW qd.toInt64 qb.toInt64) < (0 : Int32) then (3 : Int32) else (1 : Int32))) else (if (lcmpW qc.toInt64 qa.toInt64) < (0 : Int32) then (if (lcmpW qd.toInt64 qc.toInt64) < (0 : Int32) then (3 : Int32) else (2 : Int32)) else (if (lcmpW qd.toInt64 qa.toInt64) < (0 : Int32) then (3 : Int32) else (0 : Int32))))
theorem own_lw (x y : Int32) : lcmpW x.toInt64 y.toInt64 < 0 ↔ x.toInt < y.toInt := by rw [lw_lt, Int64.lt_iff_toInt_lt, c_i2l, c_i2l]
def own_mn (a b : Int32) : Int32 := if b < a then b else a
theorem own_mns (a b : Int32) : (own_mn a b).toInt ≤ a.toInt ∧ (own_mn a b).toInt ≤ b.toInt ∧ ((own_mn a b).toInt = a.toInt ∨ (own_mn a b).toInt = b.toInt) := by
  unfold own_mn; simp only [Int32.lt_iff_toInt_lt]; split <;> omega
theorem own_e1_0 (qa qb qc qd : Int32)  : own_i1 qa qb qc qd = (0 : Int32) := by
  unfold own_i1
  rfl
theorem own_e2_0 (qa qb qc qd : Int32)  (h0 : qa = (own_mn qa qb)) : own_i2 qa qb qc qd = (0 : Int32) := by
  unfold own_i2
  have s1 := own_mns qa qb
  simp only [own_lw]
  simp only [← Int32.toInt_inj] at *
  generalize ((own_mn qa qb)).toInt = m1 at *
  repeat' split
  all_goals first | rfl | omega | (exfalso; omega)
theorem own_e2_1 (qa qb qc qd : Int32) (h0 : ¬ (qa = (own_mn qa qb))) (h1 : qb = (own_mn qa qb)) : own_i2 qa qb qc qd = (1 : Int32) := by
  unfold own_i2
  have s1 := own_mns qa qb
  simp only [own_lw]
  simp only [← Int32.toInt_inj] at *
  generalize ((own_mn qa qb)).toInt = m1 at *
  repeat' split
  all_goals first | rfl | omega | (exfalso; omega)
theorem own_e2_2 (qa qb qc qd : Int32) (h0 : ¬ (qa = (own_mn qa qb))) (h1 : ¬ (qb = (own_mn qa qb))) (h2 : qc = (own_mn qa qb)) : own_i2 qa qb qc qd = (2 : Int32) := by
  unfold own_i2
  have s1 := own_mns qa qb
  simp only [own_lw]
  simp only [← Int32.toInt_inj] at *
  generalize ((own_mn qa qb)).toInt = m1 at *
  repeat' split
  all_goals first | rfl | omega | (exfalso; omega)
theorem own_e2_3 (qa qb qc qd : Int32) (h0 : ¬ (qa = (own_mn qa qb))) (h1 : ¬ (qb = (own_mn qa qb))) (h2 : ¬ (qc = (own_mn qa qb))) : own_i2 qa qb qc qd = (3 : Int32) := by
  unfold own_i2
  have s1 := own_mns qa qb
  simp only [own_lw]
  simp only [← Int32.toInt_inj] at *
  generalize ((own_mn qa qb)).toInt = m1 at *
  repeat' split
  all_goals first | rfl | omega | (exfalso; omega)
theorem own_e3_0 (qa qb qc qd : Int32)  (h0 : qa = (own_mn (own_mn qa qb) qc)) : own_i3 qa qb qc qd = (0 : Int32) := by
  unfold own_i3
  have s1 := own_mns qa qb
  have s2 := own_mns (own_mn qa qb) qc
  simp only [own_lw]
  simp only [← Int32.toInt_inj] at *
  generalize ((own_mn (own_mn qa qb) qc)).toInt = m2 at *
  generalize ((own_mn qa qb)).toInt = m1 at *
  repeat' split
  all_goals first | rfl | omega | (exfalso; omega)
theorem own_e3_1 (qa qb qc qd : Int32) (h0 : ¬ (qa = (own_mn (own_mn qa qb) qc))) (h1 : qb = (own_mn (own_mn qa qb) qc)) : own_i3 qa qb qc qd = (1 : Int32) := by
  unfold own_i3
  have s1 := own_mns qa qb
  have s2 := own_mns (own_mn qa qb) qc
  simp only [own_lw]
  simp only [← Int32.toInt_inj] at *
  generalize ((own_mn (own_mn qa qb) qc)).toInt = m2 at *
  generalize ((own_mn qa qb)).toInt = m1 at *
  repeat' split
  all_goals first | rfl | omega | (exfalso; omega)
theorem own_e3_2 (qa qb qc qd : Int32) (h0 : ¬ (qa = (own_mn (own_mn qa qb) qc))) (h1 : ¬ (qb = (own_mn (own_mn qa qb) qc))) (h2 : qc = (own_mn (own_mn qa qb) qc)) : own_i3 qa qb qc qd = (2 : Int32) := by
  unfold own_i3
  have s1 := own_mns qa qb
  have s2 := own_mns (own_mn qa qb) qc
  simp only [own_lw]
  simp only [← Int32.toInt_inj] at *
  generalize ((own_mn (own_mn qa qb) qc)).toInt = m2 at *
  generalize ((own_mn qa qb)).toInt = m1 at *
  repeat' split
  all_goals first | rfl | omega | (exfalso; omega)
theorem own_e3_3 (qa qb qc qd : Int32) (h0 : ¬ (qa = (own_mn (own_mn qa qb) qc))) (h1 : ¬ (qb = (own_mn (own_mn qa qb) qc))) (h2 : ¬ (qc = (own_mn (own_mn qa qb) qc))) : own_i3 qa qb qc qd = (3 : Int32) := by
  unfold own_i3
  have s1 := own_mns qa qb
  have s2 := own_mns (own_mn qa qb) qc
  simp only [own_lw]
  simp only [← Int32.toInt_inj] at *
  generalize ((own_mn (own_mn qa qb) qc)).toInt = m2 at *
  generalize ((own_mn qa qb)).toInt = m1 at *
  repeat' split
  all_goals first | rfl | omega | (exfalso; omega)
theorem own_e4_0 (qa qb qc qd : Int32)  (h0 : qa = (own_mn (own_mn (own_mn qa qb) qc) qd)) : own_i4 qa qb qc qd = (0 : Int32) := by
  unfold own_i4
  have s1 := own_mns qa qb
  have s2 := own_mns (own_mn qa qb) qc
  have s3 := own_mns (own_mn (own_mn qa qb) qc) qd
  simp only [own_lw]
  simp only [← Int32.toInt_inj] at *
  generalize ((own_mn (own_mn (own_mn qa qb) qc) qd)).toInt = m3 at *
  generalize ((own_mn (own_mn qa qb) qc)).toInt = m2 at *
  generalize ((own_mn qa qb)).toInt = m1 at *
  repeat' split
  all_goals first | rfl | omega | (exfalso; omega)
theorem own_e4_1 (qa qb qc qd : Int32) (h0 : ¬ (qa = (own_mn (own_mn (own_mn qa qb) qc) qd))) (h1 : qb = (own_mn (own_mn (own_mn qa qb) qc) qd)) : own_i4 qa qb qc qd = (1 : Int32) := by
  unfold own_i4
  have s1 := own_mns qa qb
  have s2 := own_mns (own_mn qa qb) qc
  have s3 := own_mns (own_mn (own_mn qa qb) qc) qd
  simp only [own_lw]
  simp only [← Int32.toInt_inj] at *
  generalize ((own_mn (own_mn (own_mn qa qb) qc) qd)).toInt = m3 at *
  generalize ((own_mn (own_mn qa qb) qc)).toInt = m2 at *
  generalize ((own_mn qa qb)).toInt = m1 at *
  repeat' split
  all_goals first | rfl | omega | (exfalso; omega)
theorem own_e4_2 (qa qb qc qd : Int32) (h0 : ¬ (qa = (own_mn (own_mn (own_mn qa qb) qc) qd))) (h1 : ¬ (qb = (own_mn (own_mn (own_mn qa qb) qc) qd))) (h2 : qc = (own_mn (own_mn (own_mn qa qb) qc) qd)) : own_i4 qa qb qc qd = (2 : Int32) := by
  unfold own_i4
  have s1 := own_mns qa qb
  have s2 := own_mns (own_mn qa qb) qc
  have s3 := own_mns (own_mn (own_mn qa qb) qc) qd
  simp only [own_lw]
  simp only [← Int32.toInt_inj] at *
  generalize ((own_mn (own_mn (own_mn qa qb) qc) qd)).toInt = m3 at *
  generalize ((own_mn (own_mn qa qb) qc)).toInt = m2 at *
  generalize ((own_mn qa qb)).toInt = m1 at *
  repeat' split
  all_goals first | rfl | omega | (exfalso; omega)
theorem own_e4_3 (qa qb qc qd : Int32) (h0 : ¬ (qa = (own_mn (own_mn (own_mn qa qb) qc) qd))) (h1 : ¬ (qb = (own_mn (own_mn (own_mn qa qb) qc) qd))) (h2 : ¬ (qc = (own_mn (own_mn (own_mn qa qb) qc) qd))) : own_i4 qa qb qc qd = (3 : Int32) := by
  unfold own_i4
  have s1 := own_mns qa qb
  have s2 := own_mns (own_mn qa qb) qc
  have s3 := own_mns (own_mn (own_mn qa qb) qc) qd
  simp only [own_lw]
  simp only [← Int32.toInt_inj] at *
  generalize ((own_mn (own_mn (own_mn qa qb) qc) qd)).toInt = m3 at *
  generalize ((own_mn (own_mn qa qb) qc)).toInt = m2 at *
  generalize ((own_mn qa qb)).toInt = m1 at *
  repeat' split
  all_goals first | rfl | omega | (exfalso; omega)
theorem ef_1 (m : MethodId) (x0 : Addr) : entryFrame m #[(.ref x0)] 3 = mkF m 0 #[.val (.ref x0), .unset, .unset] [] := by first | (simp [entryFrame, mkF, argsToLocals, Value.category]; done) | rfl
theorem pn_com_example_rulewright_rulewright_evolution_Generation : plainName "com/example/rulewright/rulewright/evolution/Generation" = true := by first | (simp [plainName, overriddenIn]; done) | decide +kernel
theorem d1_0 : decode prog_11_method_3_code 0 = .ok (.iconst 0, 1) := by decide +kernel
theorem d1_1 : decode prog_11_method_3_code 1 = .ok (.istore_n 1, 1) := by decide +kernel
theorem d1_2 : decode prog_11_method_3_code 2 = .ok (.iconst 1, 1) := by decide +kernel
theorem d1_3 : decode prog_11_method_3_code 3 = .ok (.istore_n 2, 1) := by decide +kernel
theorem d1_4 : decode prog_11_method_3_code 4 = .ok (.iload_n 2, 1) := by decide +kernel
theorem d1_5 : decode prog_11_method_3_code 5 = .ok (.aload_n 0, 1) := by decide +kernel
theorem d1_6 : decode prog_11_method_3_code 6 = .ok (.arraylength, 1) := by decide +kernel
theorem d1_7 : decode prog_11_method_3_code 7 = .ok (.if_icmp .ge 21, 3) := by decide +kernel
theorem d1_28 : decode prog_11_method_3_code 28 = .ok (.iload_n 1, 1) := by decide +kernel
theorem d1_29 : decode prog_11_method_3_code 29 = .ok (.ireturn, 1) := by decide +kernel
def Q11 (Z : State) (ar : Addr) (kc : ClassId) (qa : Int32) (qb : Int32) (qc : Int32) (qd : Int32) (h0 : Heap) (n0 : Nat) (v : Option Value) (h : Heap) (L : List Loc) : Prop := v = some (.int (own_i1 qa qb qc qd)) ∧ Fr n0 L ∧ h = h0
set_option maxRecDepth 65536 in
set_option maxHeartbeats 40000000 in
theorem rm11 (l : Launch) (Z : State) (a0 : Array Value) (hw : ∀ d ∈ tables_1, d.before a0 Z = true) (ws : List Jvm.Cond) (ar : Addr) (kc : ClassId) (qa : Int32) (qb : Int32) (qc : Int32) (qd : Int32) (h0 : Heap) (n0 : Nat) (Z0 : n0 ≤ h0.size) (V_ar : Arv Z h0 ar kc .double (1 : Int32) [(.double (FP.l2d qa.toInt64))] (.double (FP.l2d 0))) :
    MetFree l (⟨"com/example/rulewright/rulewright/evolution/Generation", "indexOfBest", "([D)I"⟩ : MethodName) (head1 (Jvm.Cond.code (⟨"com/example/rulewright/rulewright/evolution/Generation", "indexOfBest", "([D)I"⟩ : MethodName) prog_11_method_3_code 3 (some .int) :: ws) ({ frames := 0, cells := 0, slots := 0, locals := 0 } : Room)) (fun a U => a = #[(.ref ar)] ∧ Z.Warmed39 U.vm ∧ U.heap = h0) (fun _ _ _ _ _ => True) (fun _ U o U' => ∃ v L, o = .returned v ∧ Q11 Z ar kc qa qb qc qd h0 n0 v U'.heap L ∧ FrameEnd U o U' L ({ frames := 0, cells := 0, slots := 0, locals := 0 } : Room).cells ({ frames := 0, cells := 0, slots := 0, locals := 0 } : Room).slots) := by
  refine MetFree.of_bodySF (plainFor_of_name pn_com_example_rulewright_rulewright_evolution_Generation) hisR ?_
  intro p e s m args below meth c s₁ Bd hml0 hP hK
  obtain ⟨rfl, hZ, hh⟩ := hP
  have hx := Bd.exec
  have hby := Bd.bytes
  have hml : c.maxLocals = 3 := hml0
  have hown : s.vm.findClass "com/example/rulewright/rulewright/evolution/Generation" = some m.cls := findClass_of_methodNamed Bd.named
  have hnm := (name_of_methodNamed Bd.named Bd.method).1
  have X0 : Stand p l e ({ frames := 0, cells := 0, slots := 0, locals := 0 } : Room) s m #[(.ref ar)] below meth c s₁ [] 0 0 := Stand.of_body Bd
  have e0 : s₁.heap = h0 := by rw [← hh, Bd.state]; rfl
  have N0 := Fr.nil n0
  refine own_all ?_
  intro P hfin
  refine own_cast (ef_1 m ar) ?_
  show own_Go p e below P s₁ (mkF m 0 #[.val (.ref ar), .unset, .unset] [])
  refine own_step (fun _ k => XS.iconst X0.here hx rfl (hb hby d1_0) k) ?_
  show own_Go p e below P s₁ (mkF m 1 #[.val (.ref ar), .unset, .unset] [(.int (0 : Int32))])
  refine own_step (fun _ k => XS.istoreN X0.here hx rfl (hb hby d1_1) rfl (l' := #[.val (.ref ar), .val (.int (0 : Int32)), .unset]) rfl k) ?_
  show own_Go p e below P s₁ (mkF m 2 #[.val (.ref ar), .val (.int (0 : Int32)), .unset] [])
  refine own_step (fun _ k => XS.iconst X0.here hx rfl (hb hby d1_2) k) ?_
  show own_Go p e below P s₁ (mkF m 3 #[.val (.ref ar), .val (.int (0 : Int32)), .unset] [(.int (1 : Int32))])
  refine own_step (fun _ k => XS.istoreN X0.here hx rfl (hb hby d1_3) rfl (l' := #[.val (.ref ar), .val (.int (0 : Int32)), .val (.int (1 : Int32))]) rfl k) ?_
  show own_Go p e below P s₁ (mkF m 4 #[.val (.ref ar), .val (.int (0 : Int32)), .val (.int (1 : Int32))] [])
  refine own_step (fun _ k => XS.iloadN X0.here hx rfl (hb hby d1_4) rfl k) ?_
  show own_Go p e below P s₁ (mkF m 5 #[.val (.ref ar), .val (.int (0 : Int32)), .val (.int (1 : Int32))] [(.int (1 : Int32))])
  refine own_step (fun _ k => XS.aloadN X0.here hx rfl (hb hby d1_5) rfl rfl k) ?_
  show own_Go p e below P s₁ (mkF m 6 #[.val (.ref ar), .val (.int (0 : Int32)), .val (.int (1 : Int32))] [(.ref ar), (.int (1 : Int32))])
  obtain ⟨cl1, Ar1, -, S1, M1, -, -⟩ := (id V_ar)
  refine own_step (fun t k => X0.arraylength hx (by rw [e0]; exact Ar1.1) (State.isArrayOf_alike hZ.alike Ar1.2.1) (g := (mkF m 6 #[.val (.ref ar), .val (.int (0 : Int32)), .val (.int (1 : Int32))] [(.ref ar), (.int (1 : Int32))])) rfl rfl (hb hby d1_6) t k) ?_
  rw [len_of S1 M1]
  show own_Go p e below P s₁ (mkF m 7 #[.val (.ref ar), .val (.int (0 : Int32)), .val (.int (1 : Int32))] [(.int (1 : Int32)), (.int (1 : Int32))])
  refine own_step (fun _ k => XS.icmpYes X0.here hx rfl (pc0 := 7) (pc' := 28) rfl (hb hby d1_7) rfl (flt (by decide : ¬ ((1 : Int32) < (1 : Int32)))).2.1 (by decide) (by decide) k) ?_
  show own_Go p e below P s₁ (mkF m 28 #[.val (.ref ar), .val (.int (0 : Int32)), .val (.int (1 : Int32))] [])
  refine own_step (fun _ k => XS.iloadN X0.here hx rfl (hb hby d1_28) rfl k) ?_
  show own_Go p e below P s₁ (mkF m 29 #[.val (.ref ar), .val (.int (0 : Int32)), .val (.int (1 : Int32))] [(.int (0 : Int32))])
  obtain ⟨fs, hr, hrun, hended, hW, hsame⟩ := X0.leave (v := some (.int (0 : Int32))) (fun h => by rw [Bd.returns] at h; cases h)
  refine ⟨_, _, retOut X0 hx (t := .int) Bd.returns rfl (Or.inl ⟨rfl, Or.inl rfl, _, rfl⟩) (hb hby d1_29) hr, hrun, hended, hfin _ _ ⟨_, _, rfl, ?_, ⟨_, rfl⟩, hW, hsame.mono (by decide) (by decide)⟩⟩
  show Q11 Z ar kc qa qb qc qd h0 n0 (some (.int (0 : Int32))) s₁.heap _
  rw [e0]
  exact ⟨rfl, N0, rfl⟩
theorem d1_10 : decode prog_11_method_3_code 10 = .ok (.aload_n 0, 1) := by decide +kernel
theorem d1_11 : decode prog_11_method_3_code 11 = .ok (.iload_n 2, 1) := by decide +kernel
theorem d1_12 : decode prog_11_method_3_code 12 = .ok (.daload, 1) := by decide +kernel
theorem d1_13 : decode prog_11_method_3_code 13 = .ok (.aload_n 0, 1) := by decide +kernel
theorem d1_14 : decode prog_11_method_3_code 14 = .ok (.iload_n 1, 1) := by decide +kernel
theorem d1_15 : decode prog_11_method_3_code 15 = .ok (.daload, 1) := by decide +kernel
theorem d1_16 : decode prog_11_method_3_code 16 = .ok (.dcmp .g, 1) := by decide +kernel
theorem d1_17 : decode prog_11_method_3_code 17 = .ok (.ifCond .ge 5, 3) := by decide +kernel
theorem d1_20 : decode prog_11_method_3_code 20 = .ok (.iload_n 2, 1) := by decide +kernel
theorem d1_21 : decode prog_11_method_3_code 21 = .ok (.istore_n 1, 1) := by decide +kernel
theorem d1_22 : decode prog_11_method_3_code 22 = .ok (.iinc 2 1, 3) := by decide +kernel
theorem d1_25 : decode prog_11_method_3_code 25 = .ok (.goto (-21), 3) := by decide +kernel
def Q12 (Z : State) (ar : Addr) (kc : ClassId) (qa : Int32) (qb : Int32) (qc : Int32) (qd : Int32) (h0 : Heap) (n0 : Nat) (v : Option Value) (h : Heap) (L : List Loc) : Prop := v = some (.int (own_i2 qa qb qc qd)) ∧ Fr n0 L ∧ h = h0
set_option maxRecDepth 65536 in
set_option maxHeartbeats 40000000 in
theorem rm12 (l : Launch) (Z : State) (a0 : Array Value) (hw : ∀ d ∈ tables_1, d.before a0 Z = true) (ws : List Jvm.Cond) (ar : Addr) (kc : ClassId) (qa : Int32) (qb : Int32) (qc : Int32) (qd : Int32) (h0 : Heap) (n0 : Nat) (Z0 : n0 ≤ h0.size) (V_ar : Arv Z h0 ar kc .double (2 : Int32) [(.double (FP.l2d qa.toInt64)), (.double (FP.l2d qb.toInt64))] (.double (FP.l2d 0))) :
    MetFree l (⟨"com/example/rulewright/rulewright/evolution/Generation", "indexOfBest", "([D)I"⟩ : MethodName) (head1 (Jvm.Cond.code (⟨"com/example/rulewright/rulewright/evolution/Generation", "indexOfBest", "([D)I"⟩ : MethodName) prog_11_method_3_code 3 (some .int) :: ws) ({ frames := 0, cells := 0, slots := 0, locals := 0 } : Room)) (fun a U => a = #[(.ref ar)] ∧ Z.Warmed39 U.vm ∧ U.heap = h0) (fun _ _ _ _ _ => True) (fun _ U o U' => ∃ v L, o = .returned v ∧ Q12 Z ar kc qa qb qc qd h0 n0 v U'.heap L ∧ FrameEnd U o U' L ({ frames := 0, cells := 0, slots := 0, locals := 0 } : Room).cells ({ frames := 0, cells := 0, slots := 0, locals := 0 } : Room).slots) := by
  refine MetFree.of_bodySF (plainFor_of_name pn_com_example_rulewright_rulewright_evolution_Generation) hisR ?_
  intro p e s m args below meth c s₁ Bd hml0 hP hK
  obtain ⟨rfl, hZ, hh⟩ := hP
  have hx := Bd.exec
  have hby := Bd.bytes
  have hml : c.maxLocals = 3 := hml0
  have hown : s.vm.findClass "com/example/rulewright/rulewright/evolution/Generation" = some m.cls := findClass_of_methodNamed Bd.named
  have hnm := (name_of_methodNamed Bd.named Bd.method).1
  have X0 : Stand p l e ({ frames := 0, cells := 0, slots := 0, locals := 0 } : Room) s m #[(.ref ar)] below meth c s₁ [] 0 0 := Stand.of_body Bd
  have e0 : s₁.heap = h0 := by rw [← hh, Bd.state]; rfl
  have N0 := Fr.nil n0
  refine own_all ?_
  intro P hfin
  refine own_cast (ef_1 m ar) ?_
  show own_Go p e below P s₁ (mkF m 0 #[.val (.ref ar), .unset, .unset] [])
  refine own_step (fun _ k => XS.iconst X0.here hx rfl (hb hby d1_0) k) ?_
  show own_Go p e below P s₁ (mkF m 1 #[.val (.ref ar), .unset, .unset] [(.int (0 : Int32))])
  refine own_step (fun _ k => XS.istoreN X0.here hx rfl (hb hby d1_1) rfl (l' := #[.val (.ref ar), .val (.int (0 : Int32)), .unset]) rfl k) ?_
  show own_Go p e below P s₁ (mkF m 2 #[.val (.ref ar), .val (.int (0 : Int32)), .unset] [])
  refine own_step (fun _ k => XS.iconst X0.here hx rfl (hb hby d1_2) k) ?_
  show own_Go p e below P s₁ (mkF m 3 #[.val (.ref ar), .val (.int (0 : Int32)), .unset] [(.int (1 : Int32))])
  refine own_step (fun _ k => XS.istoreN X0.here hx rfl (hb hby d1_3) rfl (l' := #[.val (.ref ar), .val (.int (0 : Int32)), .val (.int (1 : Int32))]) rfl k) ?_
  show own_Go p e below P s₁ (mkF m 4 #[.val (.ref ar), .val (.int (0 : Int32)), .val (.int (1 : Int32))] [])
  refine own_step (fun _ k => XS.iloadN X0.here hx rfl (hb hby d1_4) rfl k) ?_
  show own_Go p e below P s₁ (mkF m 5 #[.val (.ref ar), .val (.int (0 : Int32)), .val (.int (1 : Int32))] [(.int (1 : Int32))])
  refine own_step (fun _ k => XS.aloadN X0.here hx rfl (hb hby d1_5) rfl rfl k) ?_
  show own_Go p e below P s₁ (mkF m 6 #[.val (.ref ar), .val (.int (0 : Int32)), .val (.int (1 : Int32))] [(.ref ar), (.int (1 : Int32))])
  obtain ⟨cl1, Ar1, -, S1, M1, -, -⟩ := (id V_ar)
  refine own_step (fun t k => X0.arraylength hx (by rw [e0]; exact Ar1.1) (State.isArrayOf_alike hZ.alike Ar1.2.1) (g := (mkF m 6 #[.val (.ref ar), .val (.int (0 : Int32)), .val (.int (1 : Int32))] [(.ref ar), (.int (1 : Int32))])) rfl rfl (hb hby d1_6) t k) ?_
  rw [len_of S1 M1]
  show own_Go p e below P s₁ (mkF m 7 #[.val (.ref ar), .val (.int (0 : Int32)), .val (.int (1 : Int32))] [(.int (2 : Int32)), (.int (1 : Int32))])
  refine own_step (fun _ k => XS.icmpNo X0.here hx rfl (hb hby d1_7) rfl (tlt (by decide : (1 : Int32) < (2 : Int32))).2.1 k) ?_
  show own_Go p e below P s₁ (mkF m 10 #[.val (.ref ar), .val (.int (0 : Int32)), .val (.int (1 : Int32))] [])
  refine own_step (fun _ k => XS.aloadN X0.here hx rfl (hb hby d1_10) rfl rfl k) ?_
  show own_Go p e below P s₁ (mkF m 11 #[.val (.ref ar), .val (.int (0 : Int32)), .val (.int (1 : Int32))] [(.ref ar)])
  refine own_step (fun _ k => XS.iloadN X0.here hx rfl (hb hby d1_11) rfl k) ?_
  show own_Go p e below P s₁ (mkF m 12 #[.val (.ref ar), .val (.int (0 : Int32)), .val (.int (1 : Int32))] [(.int (1 : Int32)), (.ref ar)])
  obtain ⟨cl2, Ar2, -, S2, M2, H2, -⟩ := (id V_ar)
  have hin2 : ¬ ((1 : Int32) < 0 ∨ cl2.slots.size ≤ ((1 : Int32)).toNatClampNeg) := inb_of S2 ⟨by decide, by decide⟩
  refine own_step (fun t k => X0.daload hx (j := (1 : Int32)) (v := (.double (FP.l2d qb.toInt64))) (by rw [e0]; exact Ar2.1) (State.isArrayOf_alike hZ.alike Ar2.2.1) Ar2.2.2 hin2 (Has.at H2 hin2 rfl) (g := (mkF m 12 #[.val (.ref ar), .val (.int (0 : Int32)), .val (.int (1 : Int32))] [(.int (1 : Int32)), (.ref ar)])) rfl rfl (hb hby d1_12) t k) ?_
  show own_Go p e below P s₁ (mkF m 13 #[.val (.ref ar), .val (.int (0 : Int32)), .val (.int (1 : Int32))] [(.double (FP.l2d qb.toInt64))])
  refine own_step (fun _ k => XS.aloadN X0.here hx rfl (hb hby d1_13) rfl rfl k) ?_
  show own_Go p e below P s₁ (mkF m 14 #[.val (.ref ar), .val (.int (0 : Int32)), .val (.int (1 : Int32))] [(.ref ar), (.double (FP.l2d qb.toInt64))])
  refine own_step (fun _ k => XS.iloadN X0.here hx rfl (hb hby d1_14) rfl k) ?_
  show own_Go p e below P s₁ (mkF m 15 #[.val (.ref ar), .val (.int (0 : Int32)), .val (.int (1 : Int32))] [(.int (0 : Int32)), (.ref ar), (.double (FP.l2d qb.toInt64))])
  obtain ⟨cl3, Ar3, -, S3, M3, H3, -⟩ := (id V_ar)
  have hin3 : ¬ ((0 : Int32) < 0 ∨ cl3.slots.size ≤ ((0 : Int32)).toNatClampNeg) := inb_of S3 ⟨by decide, by decide⟩
  refine own_step (fun t k => X0.daload hx (j := (0 : Int32)) (v := (.double (FP.l2d qa.toInt64))) (by rw [e0]; exact Ar3.1) (State.isArrayOf_alike hZ.alike Ar3.2.1) Ar3.2.2 hin3 (Has.at H3 hin3 rfl) (g := (mkF m 15 #[.val (.ref ar), .val (.int (0 : Int32)), .val (.int (1 : Int32))] [(.int (0 : Int32)), (.ref ar), (.double (FP.l2d qb.toInt64))])) rfl rfl (hb hby d1_15) t k) ?_
  show own_Go p e below P s₁ (mkF m 16 #[.val (.ref ar), .val (.int (0 : Int32)), .val (.int (1 : Int32))] [(.double (FP.l2d qa.toInt64)), (.double (FP.l2d qb.toInt64))])
  refine own_step (fun _ k => XS.dcmpS X0.here hx rfl (hb hby d1_16) rfl (dcmpV_w (own_b qb) (own_b qa) .g) k) ?_
  show own_Go p e below P s₁ (mkF m 17 #[.val (.ref ar), .val (.int (0 : Int32)), .val (.int (1 : Int32))] [(.int (lcmpW qb.toInt64 qa.toInt64))])
  by_cases hc4 : (lcmpW qb.toInt64 qa.toInt64) < (0 : Int32)
  · refine own_step (fun _ k => XS.ifNo X0.here hx rfl (hb hby d1_17) rfl ((if0 _ _).trans (tlt hc4).2.1) k) ?_
    show own_Go p e below P s₁ (mkF m 20 #[.val (.ref ar), .val (.int (0 : Int32)), .val (.int (1 : Int32))] [])
    refine own_step (fun _ k => XS.iloadN X0.here hx rfl (hb hby d1_20) rfl k) ?_
    show own_Go p e below P s₁ (mkF m 21 #[.val (.ref ar), .val (.int (0 : Int32)), .val (.int (1 : Int32))] [(.int (1 : Int32))])
    refine own_step (fun _ k => XS.istoreN X0.here hx rfl (hb hby d1_21) rfl (l' := #[.val (.ref ar), .val (.int (1 : Int32)), .val (.int (1 : Int32))]) rfl k) ?_
    show own_Go p e below P s₁ (mkF m 22 #[.val (.ref ar), .val (.int (1 : Int32)), .val (.int (1 : Int32))] [])
    refine own_step (fun _ k => XS.iinc X0.here hx rfl (hb hby d1_22) rfl (l' := #[.val (.ref ar), .val (.int (1 : Int32)), .val (.int (2 : Int32))]) rfl k) ?_
    show own_Go p e below P s₁ (mkF m 25 #[.val (.ref ar), .val (.int (1 : Int32)), .val (.int (2 : Int32))] [])
    refine own_step (fun _ k => XS.goto X0.here hx rfl (pc0 := 25) (pc' := 4) rfl (hb hby d1_25) (by decide) (by decide) k) ?_
    show own_Go p e below P s₁ (mkF m 4 #[.val (.ref ar), .val (.int (1 : Int32)), .val (.int (2 : Int32))] [])
    refine own_step (fun _ k => XS.iloadN X0.here hx rfl (hb hby d1_4) rfl k) ?_
    show own_Go p e below P s₁ (mkF m 5 #[.val (.ref ar), .val (.int (1 : Int32)), .val (.int (2 : Int32))] [(.int (2 : Int32))])
    refine own_step (fun _ k => XS.aloadN X0.here hx rfl (hb hby d1_5) rfl rfl k) ?_
    show own_Go p e below P s₁ (mkF m 6 #[.val (.ref ar), .val (.int (1 : Int32)), .val (.int (2 : Int32))] [(.ref ar), (.int (2 : Int32))])
    obtain ⟨cl5, Ar5, -, S5, M5, -, -⟩ := (id V_ar)
    refine own_step (fun t k => X0.arraylength hx (by rw [e0]; exact Ar5.1) (State.isArrayOf_alike hZ.alike Ar5.2.1) (g := (mkF m 6 #[.val (.ref ar), .val (.int (1 : Int32)), .val (.int (2 : Int32))] [(.ref ar), (.int (2 : Int32))])) rfl rfl (hb hby d1_6) t k) ?_
    rw [len_of S5 M5]
    show own_Go p e below P s₁ (mkF m 7 #[.val (.ref ar), .val (.int (1 : Int32)), .val (.int (2 : Int32))] [(.int (2 : Int32)), (.int (2 : Int32))])
    refine own_step (fun _ k => XS.icmpYes X0.here hx rfl (pc0 := 7) (pc' := 28) rfl (hb hby d1_7) rfl (flt (by decide : ¬ ((2 : Int32) < (2 : Int32)))).2.1 (by decide) (by decide) k) ?_
    show own_Go p e below P s₁ (mkF m 28 #[.val (.ref ar), .val (.int (1 : Int32)), .val (.int (2 : Int32))] [])
    refine own_step (fun _ k => XS.iloadN X0.here hx rfl (hb hby d1_28) rfl k) ?_
    show own_Go p e below P s₁ (mkF m 29 #[.val (.ref ar), .val (.int (1 : Int32)), .val (.int (2 : Int32))] [(.int (1 : Int32))])
    obtain ⟨fs, hr, hrun, hended, hW, hsame⟩ := X0.leave (v := some (.int (1 : Int32))) (fun h => by rw [Bd.returns] at h; cases h)
    refine ⟨_, _, retOut X0 hx (t := .int) Bd.returns rfl (Or.inl ⟨rfl, Or.inl rfl, _, rfl⟩) (hb hby d1_29) hr, hrun, hended, hfin _ _ ⟨_, _, rfl, ?_, ⟨_, rfl⟩, hW, hsame.mono (by decide) (by decide)⟩⟩
    show Q12 Z ar kc qa qb qc qd h0 n0 (some (.int (1 : Int32))) s₁.heap _
    rw [e0]
    exact ⟨congrArg (fun z => some (Value.int z)) (if_pos hc4).symm, N0, rfl⟩
  · refine own_step (fun _ k => XS.ifYes X0.here hx rfl (pc0 := 17) (pc' := 22) rfl (hb hby d1_17) rfl ((if0 _ _).trans (flt hc4).2.1) (by decide) (by decide) k) ?_
    show own_Go p e below P s₁ (mkF m 22 #[.val (.ref ar), .val (.int (0 : Int32)), .val (.int (1 : Int32))] [])
    refine own_step (fun _ k => XS.iinc X0.here hx rfl (hb hby d1_22) rfl (l' := #[.val (.ref ar), .val (.int (0 : Int32)), .val (.int (2 : Int32))]) rfl k) ?_
    show own_Go p e below P s₁ (mkF m 25 #[.val (.ref ar), .val (.int (0 : Int32)), .val (.int (2 : Int32))] [])
    refine own_step (fun _ k => XS.goto X0.here hx rfl (pc0 := 25) (pc' := 4) rfl (hb hby d1_25) (by decide) (by decide) k) ?_
    show own_Go p e below P s₁ (mkF m 4 #[.val (.ref ar), .val (.int (0 : Int32)), .val (.int (2 : Int32))] [])
    refine own_step (fun _ k => XS.iloadN X0.here hx rfl (hb hby d1_4) rfl k) ?_
    show own_Go p e below P s₁ (mkF m 5 #[.val (.ref ar), .val (.int (0 : Int32)), .val (.int (2 : Int32))] [(.int (2 : Int32))])
    refine own_step (fun _ k => XS.aloadN X0.here hx rfl (hb hby d1_5) rfl rfl k) ?_
    show own_Go p e below P s₁ (mkF m 6 #[.val (.ref ar), .val (.int (0 : Int32)), .val (.int (2 : Int32))] [(.ref ar), (.int (2 : Int32))])
    obtain ⟨cl7, Ar7, -, S7, M7, -, -⟩ := (id V_ar)
    refine own_step (fun t k => X0.arraylength hx (by rw [e0]; exact Ar7.1) (State.isArrayOf_alike hZ.alike Ar7.2.1) (g := (mkF m 6 #[.val (.ref ar), .val (.int (0 : Int32)), .val (.int (2 : Int32))] [(.ref ar), (.int (2 : Int32))])) rfl rfl (hb hby d1_6) t k) ?_
    rw [len_of S7 M7]
    show own_Go p e below P s₁ (mkF m 7 #[.val (.ref ar), .val (.int (0 : Int32)), .val (.int (2 : Int32))] [(.int (2 : Int32)), (.int (2 : Int32))])
    refine own_step (fun _ k => XS.icmpYes X0.here hx rfl (pc0 := 7) (pc' := 28) rfl (hb hby d1_7) rfl (flt (by decide : ¬ ((2 : Int32) < (2 : Int32)))).2.1 (by decide) (by decide) k) ?_
    show own_Go p e below P s₁ (mkF m 28 #[.val (.ref ar), .val (.int (0 : Int32)), .val (.int (2 : Int32))] [])
    refine own_step (fun _ k => XS.iloadN X0.here hx rfl (hb hby d1_28) rfl k) ?_
    show own_Go p e below P s₁ (mkF m 29 #[.val (.ref ar), .val (.int (0 : Int32)), .val (.int (2 : Int32))] [(.int (0 : Int32))])
    obtain ⟨fs, hr, hrun, hended, hW, hsame⟩ := X0.leave (v := some (.int (0 : Int32))) (fun h => by rw [Bd.returns] at h; cases h)
    refine ⟨_, _, retOut X0 hx (t := .int) Bd.returns rfl (Or.inl ⟨rfl, Or.inl rfl, _, rfl⟩) (hb hby d1_29) hr, hrun, hended, hfin _ _ ⟨_, _, rfl, ?_, ⟨_, rfl⟩, hW, hsame.mono (by decide) (by decide)⟩⟩
    show Q12 Z ar kc qa qb qc qd h0 n0 (some (.int (0 : Int32))) s₁.heap _
    rw [e0]
    exact ⟨congrArg (fun z => some (Value.int z)) (if_neg hc4).symm, N0, rfl⟩
def Q13 (Z : State) (ar : Addr) (kc : ClassId) (qa : Int32) (qb : Int32) (qc : Int32) (qd : Int32) (h0 : Heap) (n0 : Nat) (v : Option Value) (h : Heap) (L : List Loc) : Prop := v = some (.int (own_i3 qa qb qc qd)) ∧ Fr n0 L ∧ h = h0
set_option maxRecDepth 65536 in
set_option maxHeartbeats 40000000 in
theorem rm13 (l : Launch) (Z : State) (a0 : Array Value) (hw : ∀ d ∈ tables_1, d.before a0 Z = true) (ws : List Jvm.Cond) (ar : Addr) (kc : ClassId) (qa : Int32) (qb : Int32) (qc : Int32) (qd : Int32) (h0 : Heap) (n0 : Nat) (Z0 : n0 ≤ h0.size) (V_ar : Arv Z h0 ar kc .double (3 : Int32) [(.double (FP.l2d qa.toInt64)), (.double (FP.l2d qb.toInt64)), (.double (FP.l2d qc.toInt64))] (.double (FP.l2d 0))) :
    MetFree l (⟨"com/example/rulewright/rulewright/evolution/Generation", "indexOfBest", "([D)I"⟩ : MethodName) (head1 (Jvm.Cond.code (⟨"com/example/rulewright/rulewright/evolution/Generation", "indexOfBest", "([D)I"⟩ : MethodName) prog_11_method_3_code 3 (some .int) :: ws) ({ frames := 0, cells := 0, slots := 0, locals := 0 } : Room)) (fun a U => a = #[(.ref ar)] ∧ Z.Warmed39 U.vm ∧ U.heap = h0) (fun _ _ _ _ _ => True) (fun _ U o U' => ∃ v L, o = .returned v ∧ Q13 Z ar kc qa qb qc qd h0 n0 v U'.heap L ∧ FrameEnd U o U' L ({ frames := 0, cells := 0, slots := 0, locals := 0 } : Room).cells ({ frames := 0, cells := 0, slots := 0, locals := 0 } : Room).slots) := by
  refine MetFree.of_bodySF (plainFor_of_name pn_com_example_rulewright_rulewright_evolution_Generation) hisR ?_
  intro p e s m args below meth c s₁ Bd hml0 hP hK
  obtain ⟨rfl, hZ, hh⟩ := hP
  have hx := Bd.exec
  have hby := Bd.bytes
  have hml : c.maxLocals = 3 := hml0
  have hown : s.vm.findClass "com/example/rulewright/rulewright/evolution/Generation" = some m.cls := findClass_of_methodNamed Bd.named
  have hnm := (name_of_methodNamed Bd.named Bd.method).1
  have X0 : Stand p l e ({ frames := 0, cells := 0, slots := 0, locals := 0 } : Room) s m #[(.ref ar)] below meth c s₁ [] 0 0 := Stand.of_body Bd
  have e0 : s₁.heap = h0 := by rw [← hh, Bd.state]; rfl
  have N0 := Fr.nil n0
  refine own_all ?_
  intro P hfin
  refine own_cast (ef_1 m ar) ?_
  show own_Go p e below P s₁ (mkF m 0 #[.val (.ref ar), .unset, .unset] [])
  refine own_step (fun _ k => XS.iconst X0.here hx rfl (hb hby d1_0) k) ?_
  show own_Go p e below P s₁ (mkF m 1 #[.val (.ref ar), .unset, .unset] [(.int (0 : Int32))])
  refine own_step (fun _ k => XS.istoreN X0.here hx rfl (hb hby d1_1) rfl (l' := #[.val (.ref ar), .val (.int (0 : Int32)), .unset]) rfl k) ?_
  show own_Go p e below P s₁ (mkF m 2 #[.val (.ref ar), .val (.int (0 : Int32)), .unset] [])
  refine own_step (fun _ k => XS.iconst X0.here hx rfl (hb hby d1_2) k) ?_
  show own_Go p e below P s₁ (mkF m 3 #[.val (.ref ar), .val (.int (0 : Int32)), .unset] [(.int (1 : Int32))])
  refine own_step (fun _ k => XS.istoreN X0.here hx rfl (hb hby d1_3) rfl (l' := #[.val (.ref ar), .val (.int (0 : Int32)), .val (.int (1 : Int32))]) rfl k) ?_
  show own_Go p e below P s₁ (mkF m 4 #[.val (.ref ar), .val (.int (0 : Int32)), .val (.int (1 : Int32))] [])
  refine own_step (fun _ k => XS.iloadN X0.here hx rfl (hb hby d1_4) rfl k) ?_
  show own_Go p e below P s₁ (mkF m 5 #[.val (.ref ar), .val (.int (0 : Int32)), .val (.int (1 : Int32))] [(.int (1 : Int32))])
  refine own_step (fun _ k => XS.aloadN X0.here hx rfl (hb hby d1_5) rfl rfl k) ?_
  show own_Go p e below P s₁ (mkF m 6 #[.val (.ref ar), .val (.int (0 : Int32)), .val (.int (1 : Int32))] [(.ref ar), (.int (1 : Int32))])
  obtain ⟨cl1, Ar1, -, S1, M1, -, -⟩ := (id V_ar)
  refine own_step (fun t k => X0.arraylength hx (by rw [e0]; exact Ar1.1) (State.isArrayOf_alike hZ.alike Ar1.2.1) (g := (mkF m 6 #[.val (.ref ar), .val (.int (0 : Int32)), .val (.int (1 : Int32))] [(.ref ar), (.int (1 : Int32))])) rfl rfl (hb hby d1_6) t k) ?_
  rw [len_of S1 M1]
  show own_Go p e below P s₁ (mkF m 7 #[.val (.ref ar), .val (.int (0 : Int32)), .val (.int (1 : Int32))] [(.int (3 : Int32)), (.int (1 : Int32))])
  refine own_step (fun _ k => XS.icmpNo X0.here hx rfl (hb hby d1_7) rfl (tlt (by decide : (1 : Int32) < (3 : Int32))).2.1 k) ?_
  show own_Go p e below P s₁ (mkF m 10 #[.val (.ref ar), .val (.int (0 : Int32)), .val (.int (1 : Int32))] [])
  refine own_step (fun _ k => XS.aloadN X0.here hx rfl (hb hby d1_10) rfl rfl k) ?_
  show own_Go p e below P s₁ (mkF m 11 #[.val (.ref ar), .val (.int (0 : Int32)), .val (.int (1 : Int32))] [(.ref ar)])
  refine own_step (fun _ k => XS.iloadN X0.here hx rfl (hb hby d1_11) rfl k) ?_
  show own_Go p e below P s₁ (mkF m 12 #[.val (.ref ar), .val (.int (0 : Int32)), .val (.int (1 : Int32))] [(.int (1 : Int32)), (.ref ar)])
  obtain ⟨cl2, Ar2, -, S2, M2, H2, -⟩ := (id V_ar)
  have hin2 : ¬ ((1 : Int32) < 0 ∨ cl2.slots.size ≤ ((1 : Int32)).toNatClampNeg) := inb_of S2 ⟨by decide, by decide⟩
  refine own_step (fun t k => X0.daload hx (j := (1 : Int32)) (v := (.double (FP.l2d qb.toInt64))) (by rw [e0]; exact Ar2.1) (State.isArrayOf_alike hZ.alike Ar2.2.1) Ar2.2.2 hin2 (Has.at H2 hin2 rfl) (g := (mkF m 12 #[.val (.ref ar), .val (.int (0 : Int32)), .val (.int (1 : Int32))] [(.int (1 : Int32)), (.ref ar)])) rfl rfl (hb hby d1_12) t k) ?_
  show own_Go p e below P s₁ (mkF m 13 #[.val (.ref ar), .val (.int (0 : Int32)), .val (.int (1 : Int32))] [(.double (FP.l2d qb.toInt64))])
  refine own_step (fun _ k => XS.aloadN X0.here hx rfl (hb hby d1_13) rfl rfl k) ?_
  show own_Go p e below P s₁ (mkF m 14 #[.val (.ref ar), .val (.int (0 : Int32)), .val (.int (1 : Int32))] [(.ref ar), (.double (FP.l2d qb.toInt64))])
  refine own_step (fun _ k => XS.iloadN X0.here hx rfl (hb hby d1_14) rfl k) ?_
  show own_Go p e below P s₁ (mkF m 15 #[.val (.ref ar), .val (.int (0 : Int32)), .val (.int (1 : Int32))] [(.int (0 : Int32)), (.ref ar), (.double (FP.l2d qb.toInt64))])
  obtain ⟨cl3, Ar3, -, S3, M3, H3, -⟩ := (id V_ar)
  have hin3 : ¬ ((0 : Int32) < 0 ∨ cl3.slots.size ≤ ((0 : Int32)).toNatClampNeg) := inb_of S3 ⟨by decide, by decide⟩
  refine own_step (fun t k => X0.daload hx (j := (0 : Int32)) (v := (.double (FP.l2d qa.toInt64))) (by rw [e0]; exact Ar3.1) (State.isArrayOf_alike hZ.alike Ar3.2.1) Ar3.2.2 hin3 (Has.at H3 hin3 rfl) (g := (mkF m 15 #[.val (.ref ar), .val (.int (0 : Int32)), .val (.int (1 : Int32))] [(.int (0 : Int32)), (.ref ar), (.double (FP.l2d qb.toInt64))])) rfl rfl (hb hby d1_15) t k) ?_
  show own_Go p e below P s₁ (mkF m 16 #[.val (.ref ar), .val (.int (0 : Int32)), .val (.int (1 : Int32))] [(.double (FP.l2d qa.toInt64)), (.double (FP.l2d qb.toInt64))])
  refine own_step (fun _ k => XS.dcmpS X0.here hx rfl (hb hby d1_16) rfl (dcmpV_w (own_b qb) (own_b qa) .g) k) ?_
  show own_Go p e below P s₁ (mkF m 17 #[.val (.ref ar), .val (.int (0 : Int32)), .val (.int (1 : Int32))] [(.int (lcmpW qb.toInt64 qa.toInt64))])
  by_cases hc4 : (lcmpW qb.toInt64 qa.toInt64) < (0 : Int32)
  · refine own_step (fun _ k => XS.ifNo X0.here hx rfl (hb hby d1_17) rfl ((if0 _ _).trans (tlt hc4).2.1) k) ?_
    show own_Go p e below P s₁ (mkF m 20 #[.val (.ref ar), .val (.int (0 : Int32)), .val (.int (1 : Int32))] [])
    refine own_step (fun _ k => XS.iloadN X0.here hx rfl (hb hby d1_20) rfl k) ?_
    show own_Go p e below P s₁ (mkF m 21 #[.val (.ref ar), .val (.int (0 : Int32)), .val (.int (1 : Int32))] [(.int (1 : Int32))])
    refine own_step (fun _ k => XS.istoreN X0.here hx rfl (hb hby d1_21) rfl (l' := #[.val (.ref ar), .val (.int (1 : Int32)), .val (.int (1 : Int32))]) rfl k) ?_
    show own_Go p e below P s₁ (mkF m 22 #[.val (.ref ar), .val (.int (1 : Int32)), .val (.int (1 : Int32))] [])
    refine own_step (fun _ k => XS.iinc X0.here hx rfl (hb hby d1_22) rfl (l' := #[.val (.ref ar), .val (.int (1 : Int32)), .val (.int (2 : Int32))]) rfl k) ?_
    show own_Go p e below P s₁ (mkF m 25 #[.val (.ref ar), .val (.int (1 : Int32)), .val (.int (2 : Int32))] [])
    refine own_step (fun _ k => XS.goto X0.here hx rfl (pc0 := 25) (pc' := 4) rfl (hb hby d1_25) (by decide) (by decide) k) ?_
    show own_Go p e below P s₁ (mkF m 4 #[.val (.ref ar), .val (.int (1 : Int32)), .val (.int (2 : Int32))] [])
    refine own_step (fun _ k => XS.iloadN X0.here hx rfl (hb hby d1_4) rfl k) ?_
    show own_Go p e below P s₁ (mkF m 5 #[.val (.ref ar), .val (.int (1 : Int32)), .val (.int (2 : Int32))] [(.int (2 : Int32))])
    refine own_step (fun _ k => XS.aloadN X0.here hx rfl (hb hby d1_5) rfl rfl k) ?_
    show own_Go p e below P s₁ (mkF m 6 #[.val (.ref ar), .val (.int (1 : Int32)), .val (.int (2 : Int32))] [(.ref ar), (.int (2 : Int32))])
    obtain ⟨cl5, Ar5, -, S5, M5, -, -⟩ := (id V_ar)
    refine own_step (fun t k => X0.arraylength hx (by rw [e0]; exact Ar5.1) (State.isArrayOf_alike hZ.alike Ar5.2.1) (g := (mkF m 6 #[.val (.ref ar), .val (.int (1 : Int32)), .val (.int (2 : Int32))] [(.ref ar), (.int (2 : Int32))])) rfl rfl (hb hby d1_6) t k) ?_
    rw [len_of S5 M5]
    show own_Go p e below P s₁ (mkF m 7 #[.val (.ref ar), .val (.int (1 : Int32)), .val (.int (2 : Int32))] [(.int (3 : Int32)), (.int (2 : Int32))])
    refine own_step (fun _ k => XS.icmpNo X0.here hx rfl (hb hby d1_7) rfl (tlt (by decide : (2 : Int32) < (3 : Int32))).2.1 k) ?_
    show own_Go p e below P s₁ (mkF m 10 #[.val (.ref ar), .val (.int (1 : Int32)), .val (.int (2 : Int32))] [])
    refine own_step (fun _ k => XS.aloadN X0.here hx rfl (hb hby d1_10) rfl rfl k) ?_
    show own_Go p e below P s₁ (mkF m 11 #[.val (.ref ar), .val (.int (1 : Int32)), .val (.int (2 : Int32))] [(.ref ar)])
    refine own_step (fun _ k => XS.iloadN X0.here hx rfl (hb hby d1_11) rfl k) ?_
    show own_Go p e below P s₁ (mkF m 12 #[.val (.ref ar), .val (.int (1 : Int32)), .val (.int (2 : Int32))] [(.int (2 : Int32)), (.ref ar)])
    obtain ⟨cl6, Ar6, -, S6, M6, H6, -⟩ := (id V_ar)
    have hin6 : ¬ ((2 : Int32) < 0 ∨ cl6.slots.size ≤ ((2 : Int32)).toNatClampNeg) := inb_of S6 ⟨by decide, by decide⟩
    refine own_step (fun t k => X0.daload hx (j := (2 : Int32)) (v := (.double (FP.l2d qc.toInt64))) (by rw [e0]; exact Ar6.1) (State.isArrayOf_alike hZ.alike Ar6.2.1) Ar6.2.2 hin6 (Has.at H6 hin6 rfl) (g := (mkF m 12 #[.val (.ref ar), .val (.int (1 : Int32)), .val (.int (2 : Int32))] [(.int (2 : Int32)), (.ref ar)])) rfl rfl (hb hby d1_12) t k) ?_
    show own_Go p e below P s₁ (mkF m 13 #[.val (.ref ar), .val (.int (1 : Int32)), .val (.int (2 : Int32))] [(.double (FP.l2d qc.toInt64))])
    refine own_step (fun _ k => XS.aloadN X0.here hx rfl (hb hby d1_13) rfl rfl k) ?_
    show own_Go p e below P s₁ (mkF m 14 #[.val (.ref ar), .val (.int (1 : Int32)), .val (.int (2 : Int32))] [(.ref ar), (.double (FP.l2d qc.toInt64))])
    refine own_step (fun _ k => XS.iloadN X0.here hx rfl (hb hby d1_14) rfl k) ?_
    show own_Go p e below P s₁ (mkF m 15 #[.val (.ref ar), .val (.int (1 : Int32)), .val (.int (2 : Int32))] [(.int (1 : Int32)), (.ref ar), (.double (FP.l2d qc.toInt64))])
    obtain ⟨cl7, Ar7, -, S7, M7, H7, -⟩ := (id V_ar)
    have hin7 : ¬ ((1 : Int32) < 0 ∨ cl7.slots.size ≤ ((1 : Int32)).toNatClampNeg) := inb_of S7 ⟨by decide, by decide⟩
    refine own_step (fun t k => X0.daload hx (j := (1 : Int32)) (v := (.double (FP.l2d qb.toInt64))) (by rw [e0]; exact Ar7.1) (State.isArrayOf_alike hZ.alike Ar7.2.1) Ar7.2.2 hin7 (Has.at H7 hin7 rfl) (g := (mkF m 15 #[.val (.ref ar), .val (.int (1 : Int32)), .val (.int (2 : Int32))] [(.int (1 : Int32)), (.ref ar), (.double (FP.l2d qc.toInt64))])) rfl rfl (hb hby d1_15) t k) ?_
    show own_Go p e below P s₁ (mkF m 16 #[.val (.ref ar), .val (.int (1 : Int32)), .val (.int (2 : Int32))] [(.double (FP.l2d qb.toInt64)), (.double (FP.l2d qc.toInt64))])
    refine own_step (fun _ k => XS.dcmpS X0.here hx rfl (hb hby d1_16) rfl (dcmpV_w (own_b qc) (own_b qb) .g) k) ?_
    show own_Go p e below P s₁ (mkF m 17 #[.val (.ref ar), .val (.int (1 : Int32)), .val (.int (2 : Int32))] [(.int (lcmpW qc.toInt64 qb.toInt64))])
    by_cases hc8 : (lcmpW qc.toInt64 qb.toInt64) < (0 : Int32)
    · refine own_step (fun _ k => XS.ifNo X0.here hx rfl (hb hby d1_17) rfl ((if0 _ _).trans (tlt hc8).2.1) k) ?_
      show own_Go p e below P s₁ (mkF m 20 #[.val (.ref ar), .val (.int (1 : Int32)), .val (.int (2 : Int32))] [])
      refine own_step (fun _ k => XS.iloadN X0.here hx rfl (hb hby d1_20) rfl k) ?_
      show own_Go p e below P s₁ (mkF m 21 #[.val (.ref ar), .val (.int (1 : Int32)), .val (.int (2 : Int32))] [(.int (2 : Int32))])
      refine own_step (fun _ k => XS.istoreN X0.here hx rfl (hb hby d1_21) rfl (l' := #[.val (.ref ar), .val (.int (2 : Int32)), .val (.int (2 : Int32))]) rfl k) ?_
      show own_Go p e below P s₁ (mkF m 22 #[.val (.ref ar), .val (.int (2 : Int32)), .val (.int (2 : Int32))] [])
      refine own_step (fun _ k => XS.iinc X0.here hx rfl (hb hby d1_22) rfl (l' := #[.val (.ref ar), .val (.int (2 : Int32)), .val (.int (3 : Int32))]) rfl k) ?_
      show own_Go p e below P s₁ (mkF m 25 #[.val (.ref ar), .val (.int (2 : Int32)), .val (.int (3 : Int32))] [])
      refine own_step (fun _ k => XS.goto X0.here hx rfl (pc0 := 25) (pc' := 4) rfl (hb hby d1_25) (by decide) (by decide) k) ?_
      show own_Go p e below P s₁ (mkF m 4 #[.val (.ref ar), .val (.int (2 : Int32)), .val (.int (3 : Int32))] [])
      refine own_step (fun _ k => XS.iloadN X0.here hx rfl (hb hby d1_4) rfl k) ?_
      show own_Go p e below P s₁ (mkF m 5 #[.val (.ref ar), .val (.int (2 : Int32)), .val (.int (3 : Int32))] [(.int (3 : Int32))])
      refine own_step (fun _ k => XS.aloadN X0.here hx rfl (hb hby d1_5) rfl rfl k) ?_
      show own_Go p e below P s₁ (mkF m 6 #[.val (.ref ar), .val (.int (2 : Int32)), .val (.int (3 : Int32))] [(.ref ar), (.int (3 : Int32))])
      obtain ⟨cl9, Ar9, -, S9, M9, -, -⟩ := (id V_ar)
      refine own_step (fun t k => X0.arraylength hx (by rw [e0]; exact Ar9.1) (State.isArrayOf_alike hZ.alike Ar9.2.1) (g := (mkF m 6 #[.val (.ref ar), .val (.int (2 : Int32)), .val (.int (3 : Int32))] [(.ref ar), (.int (3 : Int32))])) rfl rfl (hb hby d1_6) t k) ?_
      rw [len_of S9 M9]
      show own_Go p e below P s₁ (mkF m 7 #[.val (.ref ar), .val (.int (2 : Int32)), .val (.int (3 : Int32))] [(.int (3 : Int32)), (.int (3 : Int32))])
      refine own_step (fun _ k => XS.icmpYes X0.here hx rfl (pc0 := 7) (pc' := 28) rfl (hb hby d1_7) rfl (flt (by decide : ¬ ((3 : Int32) < (3 : Int32)))).2.1 (by decide) (by decide) k) ?_
      show own_Go p e below P s₁ (mkF m 28 #[.val (.ref ar), .val (.int (2 : Int32)), .val (.int (3 : Int32))] [])
      refine own_step (fun _ k => XS.iloadN X0.here hx rfl (hb hby d1_28) rfl k) ?_
      show own_Go p e below P s₁ (mkF m 29 #[.val (.ref ar), .val (.int (2 : Int32)), .val (.int (3 : Int32))] [(.int (2 : Int32))])
      obtain ⟨fs, hr, hrun, hended, hW, hsame⟩ := X0.leave (v := some (.int (2 : Int32))) (fun h => by rw [Bd.returns] at h; cases h)
      refine ⟨_, _, retOut X0 hx (t := .int) Bd.returns rfl (Or.inl ⟨rfl, Or.inl rfl, _, rfl⟩) (hb hby d1_29) hr, hrun, hended, hfin _ _ ⟨_, _, rfl, ?_, ⟨_, rfl⟩, hW, hsame.mono (by decide) (by decide)⟩⟩
      show Q13 Z ar kc qa qb qc qd h0 n0 (some (.int (2 : Int32))) s₁.heap _
      rw [e0]
      exact ⟨congrArg (fun z => some (Value.int z)) ((if_pos hc4).trans (if_pos hc8)).symm, N0, rfl⟩
    · refine own_step (fun _ k => XS.ifYes X0.here hx rfl (pc0 := 17) (pc' := 22) rfl (hb hby d1_17) rfl ((if0 _ _).trans (flt hc8).2.1) (by decide) (by decide) k) ?_
      show own_Go p e below P s₁ (mkF m 22 #[.val (.ref ar), .val (.int (1 : Int32)), .val (.int (2 : Int32))] [])
      refine own_step (fun _ k => XS.iinc X0.here hx rfl (hb hby d1_22) rfl (l' := #[.val (.ref ar), .val (.int (1 : Int32)), .val (.int (3 : Int32))]) rfl k) ?_
      show own_Go p e below P s₁ (mkF m 25 #[.val (.ref ar), .val (.int (1 : Int32)), .val (.int (3 : Int32))] [])
      refine own_step (fun _ k => XS.goto X0.here hx rfl (pc0 := 25) (pc' := 4) rfl (hb hby d1_25) (by decide) (by decide) k) ?_
      show own_Go p e below P s₁ (mkF m 4 #[.val (.ref ar), .val (.int (1 : Int32)), .val (.int (3 : Int32))] [])
      refine own_step (fun _ k => XS.iloadN X0.here hx rfl (hb hby d1_4) rfl k) ?_
      show own_Go p e below P s₁ (mkF m 5 #[.val (.ref ar), .val (.int (1 : Int32)), .val (.int (3 : Int32))] [(.int (3 : Int32))])
      refine own_step (fun _ k => XS.aloadN X0.here hx rfl (hb hby d1_5) rfl rfl k) ?_
      show own_Go p e below P s₁ (mkF m 6 #[.val (.ref ar), .val (.int (1 : Int32)), .val (.int (3 : Int32))] [(.ref ar), (.int (3 : Int32))])
      obtain ⟨cl11, Ar11, -, S11, M11, -, -⟩ := (id V_ar)
      refine own_step (fun t k => X0.arraylength hx (by rw [e0]; exact Ar11.1) (State.isArrayOf_alike hZ.alike Ar11.2.1) (g := (mkF m 6 #[.val (.ref ar), .val (.int (1 : Int32)), .val (.int (3 : Int32))] [(.ref ar), (.int (3 : Int32))])) rfl rfl (hb hby d1_6) t k) ?_
      rw [len_of S11 M11]
      show own_Go p e below P s₁ (mkF m 7 #[.val (.ref ar), .val (.int (1 : Int32)), .val (.int (3 : Int32))] [(.int (3 : Int32)), (.int (3 : Int32))])
      refine own_step (fun _ k => XS.icmpYes X0.here hx rfl (pc0 := 7) (pc' := 28) rfl (hb hby d1_7) rfl (flt (by decide : ¬ ((3 : Int32) < (3 : Int32)))).2.1 (by decide) (by decide) k) ?_
      show own_Go p e below P s₁ (mkF m 28 #[.val (.ref ar), .val (.int (1 : Int32)), .val (.int (3 : Int32))] [])
      refine own_step (fun _ k => XS.iloadN X0.here hx rfl (hb hby d1_28) rfl k) ?_
      show own_Go p e below P s₁ (mkF m 29 #[.val (.ref ar), .val (.int (1 : Int32)), .val (.int (3 : Int32))] [(.int (1 : Int32))])
      obtain ⟨fs, hr, hrun, hended, hW, hsame⟩ := X0.leave (v := some (.int (1 : Int32))) (fun h => by rw [Bd.returns] at h; cases h)
      refine ⟨_, _, retOut X0 hx (t := .int) Bd.returns rfl (Or.inl ⟨rfl, Or.inl rfl, _, rfl⟩) (hb hby d1_29) hr, hrun, hended, hfin _ _ ⟨_, _, rfl, ?_, ⟨_, rfl⟩, hW, hsame.mono (by decide) (by decide)⟩⟩
      show Q13 Z ar kc qa qb qc qd h0 n0 (some (.int (1 : Int32))) s₁.heap _
      rw [e0]
      exact ⟨congrArg (fun z => some (Value.int z)) ((if_pos hc4).trans (if_neg hc8)).symm, N0, rfl⟩
  · refine own_step (fun _ k => XS.ifYes X0.here hx rfl (pc0 := 17) (pc' := 22) rfl (hb hby d1_17) rfl ((if0 _ _).trans (flt hc4).2.1) (by decide) (by decide) k) ?_
    show own_Go p e below P s₁ (mkF m 22 #[.val (.ref ar), .val (.int (0 : Int32)), .val (.int (1 : Int32))] [])
    refine own_step (fun _ k => XS.iinc X0.here hx rfl (hb hby d1_22) rfl (l' := #[.val (.ref ar), .val (.int (0 : Int32)), .val (.int (2 : Int32))]) rfl k) ?_
    show own_Go p e below P s₁ (mkF m 25 #[.val (.ref ar), .val (.int (0 : Int32)), .val (.int (2 : Int32))] [])
    refine own_step (fun _ k => XS.goto X0.here hx rfl (pc0 := 25) (pc' := 4) rfl (hb hby d1_25) (by decide) (by decide) k) ?_
    show own_Go p e below P s₁ (mkF m 4 #[.val (.ref ar), .val (.int (0 : Int32)), .val (.int (2 : Int32))] [])
    refine own_step (fun _ k => XS.iloadN X0.here hx rfl (hb hby d1_4) rfl k) ?_
    show own_Go p e below P s₁ (mkF m 5 #[.val (.ref ar), .val (.int (0 : Int32)), .val (.int (2 : Int32))] [(.int (2 : Int32))])
    refine own_step (fun _ k => XS.aloadN X0.here hx rfl (hb hby d1_5) rfl rfl k) ?_
    show own_Go p e below P s₁ (mkF m 6 #[.val (.ref ar), .val (.int (0 : Int32)), .val (.int (2 : Int32))] [(.ref ar), (.int (2 : Int32))])
    obtain ⟨cl13, Ar13, -, S13, M13, -, -⟩ := (id V_ar)
    refine own_step (fun t k => X0.arraylength hx (by rw [e0]; exact Ar13.1) (State.isArrayOf_alike hZ.alike Ar13.2.1) (g := (mkF m 6 #[.val (.ref ar), .val (.int (0 : Int32)), .val (.int (2 : Int32))] [(.ref ar), (.int (2 : Int32))])) rfl rfl (hb hby d1_6) t k) ?_
    rw [len_of S13 M13]
    show own_Go p e below P s₁ (mkF m 7 #[.val (.ref ar), .val (.int (0 : Int32)), .val (.int (2 : Int32))] [(.int (3 : Int32)), (.int (2 : Int32))])
    refine own_step (fun _ k => XS.icmpNo X0.here hx rfl (hb hby d1_7) rfl (tlt (by decide : (2 : Int32) < (3 : Int32))).2.1 k) ?_
    show own_Go p e below P s₁ (mkF m 10 #[.val (.ref ar), .val (.int (0 : Int32)), .val (.int (2 : Int32))] [])
    refine own_step (fun _ k => XS.aloadN X0.here hx rfl (hb hby d1_10) rfl rfl k) ?_
    show own_Go p e below P s₁ (mkF m 11 #[.val (.ref ar), .val (.int (0 : Int32)), .val (.int (2 : Int32))] [(.ref ar)])
    refine own_step (fun _ k => XS.iloadN X0.here hx rfl (hb hby d1_11) rfl k) ?_
    show own_Go p e below P s₁ (mkF m 12 #[.val (.ref ar), .val (.int (0 : Int32)), .val (.int (2 : Int32))] [(.int (2 : Int32)), (.ref ar)])
    obtain ⟨cl14, Ar14, -, S14, M14, H14, -⟩ := (id V_ar)
    have hin14 : ¬ ((2 : Int32) < 0 ∨ cl14.slots.size ≤ ((2 : Int32)).toNatClampNeg) := inb_of S14 ⟨by decide, by decide⟩
    refine own_step (fun t k => X0.daload hx (j := (2 : Int32)) (v := (.double (FP.l2d qc.toInt64))) (by rw [e0]; exact Ar14.1) (State.isArrayOf_alike hZ.alike Ar14.2.1) Ar14.2.2 hin14 (Has.at H14 hin14 rfl) (g := (mkF m 12 #[.val (.ref ar), .val (.int (0 : Int32)), .val (.int (2 : Int32))] [(.int (2 : Int32)), (.ref ar)])) rfl rfl (hb hby d1_12) t k) ?_
    show own_Go p e below P s₁ (mkF m 13 #[.val (.ref ar), .val (.int (0 : Int32)), .val (.int (2 : Int32))] [(.double (FP.l2d qc.toInt64))])
    refine own_step (fun _ k => XS.aloadN X0.here hx rfl (hb hby d1_13) rfl rfl k) ?_
    show own_Go p e below P s₁ (mkF m 14 #[.val (.ref ar), .val (.int (0 : Int32)), .val (.int (2 : Int32))] [(.ref ar), (.double (FP.l2d qc.toInt64))])
    refine own_step (fun _ k => XS.iloadN X0.here hx rfl (hb hby d1_14) rfl k) ?_
    show own_Go p e below P s₁ (mkF m 15 #[.val (.ref ar), .val (.int (0 : Int32)), .val (.int (2 : Int32))] [(.int (0 : Int32)), (.ref ar), (.double (FP.l2d qc.toInt64))])
    obtain ⟨cl15, Ar15, -, S15, M15, H15, -⟩ := (id V_ar)
    have hin15 : ¬ ((0 : Int32) < 0 ∨ cl15.slots.size ≤ ((0 : Int32)).toNatClampNeg) := inb_of S15 ⟨by decide, by decide⟩
    refine own_step (fun t k => X0.daload hx (j := (0 : Int32)) (v := (.double (FP.l2d qa.toInt64))) (by rw [e0]; exact Ar15.1) (State.isArrayOf_alike hZ.alike Ar15.2.1) Ar15.2.2 hin15 (Has.at H15 hin15 rfl) (g := (mkF m 15 #[.val (.ref ar), .val (.int (0 : Int32)), .val (.int (2 : Int32))] [(.int (0 : Int32)), (.ref ar), (.double (FP.l2d qc.toInt64))])) rfl rfl (hb hby d1_15) t k) ?_
    show own_Go p e below P s₁ (mkF m 16 #[.val (.ref ar), .val (.int (0 : Int32)), .val (.int (2 : Int32))] [(.double (FP.l2d qa.toInt64)), (.double (FP.l2d qc.toInt64))])
    refine own_step (fun _ k => XS.dcmpS X0.here hx rfl (hb hby d1_16) rfl (dcmpV_w (own_b qc) (own_b qa) .g) k) ?_
    show own_Go p e below P s₁ (mkF m 17 #[.val (.ref ar), .val (.int (0 : Int32)), .val (.int (2 : Int32))] [(.int (lcmpW qc.toInt64 qa.toInt64))])
    by_cases hc16 : (lcmpW qc.toInt64 qa.toInt64) < (0 : Int32)
    · refine own_step (fun _ k => XS.ifNo X0.here hx rfl (hb hby d1_17) rfl ((if0 _ _).trans (tlt hc16).2.1) k) ?_
      show own_Go p e below P s₁ (mkF m 20 #[.val (.ref ar), .val (.int (0 : Int32)), .val (.int (2 : Int32))] [])
      refine own_step (fun _ k => XS.iloadN X0.here hx rfl (hb hby d1_20) rfl k) ?_
      show own_Go p e below P s₁ (mkF m 21 #[.val (.ref ar), .val (.int (0 : Int32)), .val (.int (2 : Int32))] [(.int (2 : Int32))])
      refine own_step (fun _ k => XS.istoreN X0.here hx rfl (hb hby d1_21) rfl (l' := #[.val (.ref ar), .val (.int (2 : Int32)), .val (.int (2 : Int32))]) rfl k) ?_
      show own_Go p e below P s₁ (mkF m 22 #[.val (.ref ar), .val (.int (2 : Int32)), .val (.int (2 : Int32))] [])
      refine own_step (fun _ k => XS.iinc X0.here hx rfl (hb hby d1_22) rfl (l' := #[.val (.ref ar), .val (.int (2 : Int32)), .val (.int (3 : Int32))]) rfl k) ?_
      show own_Go p e below P s₁ (mkF m 25 #[.val (.ref ar), .val (.int (2 : Int32)), .val (.int (3 : Int32))] [])
      refine own_step (fun _ k => XS.goto X0.here hx rfl (pc0 := 25) (pc' := 4) rfl (hb hby d1_25) (by decide) (by decide) k) ?_
      show own_Go p e below P s₁ (mkF m 4 #[.val (.ref ar), .val (.int (2 : Int32)), .val (.int (3 : Int32))] [])
      refine own_step (fun _ k => XS.iloadN X0.here hx rfl (hb hby d1_4) rfl k) ?_
      show own_Go p e below P s₁ (mkF m 5 #[.val (.ref ar), .val (.int (2 : Int32)), .val (.int (3 : Int32))] [(.int (3 : Int32))])
      refine own_step (fun _ k => XS.aloadN X0.here hx rfl (hb hby d1_5) rfl rfl k) ?_
      show own_Go p e below P s₁ (mkF m 6 #[.val (.ref ar), .val (.int (2 : Int32)), .val (.int (3 : Int32))] [(.ref ar), (.int (3 : Int32))])
      obtain ⟨cl17, Ar17, -, S17, M17, -, -⟩ := (id V_ar)
      refine own_step (fun t k => X0.arraylength hx (by rw [e0]; exact Ar17.1) (State.isArrayOf_alike hZ.alike Ar17.2.1) (g := (mkF m 6 #[.val (.ref ar), .val (.int (2 : Int32)), .val (.int (3 : Int32))] [(.ref ar), (.int (3 : Int32))])) rfl rfl (hb hby d1_6) t k) ?_
      rw [len_of S17 M17]
      show own_Go p e below P s₁ (mkF m 7 #[.val (.ref ar), .val (.int (2 : Int32)), .val (.int (3 : Int32))] [(.int (3 : Int32)), (.int (3 : Int32))])
      refine own_step (fun _ k => XS.icmpYes X0.here hx rfl (pc0 := 7) (pc' := 28) rfl (hb hby d1_7) rfl (flt (by decide : ¬ ((3 : Int32) < (3 : Int32)))).2.1 (by decide) (by decide) k) ?_
      show own_Go p e below P s₁ (mkF m 28 #[.val (.ref ar), .val (.int (2 : Int32)), .val (.int (3 : Int32))] [])
      refine own_step (fun _ k => XS.iloadN X0.here hx rfl (hb hby d1_28) rfl k) ?_
      show own_Go p e below P s₁ (mkF m 29 #[.val (.ref ar), .val (.int (2 : Int32)), .val (.int (3 : Int32))] [(.int (2 : Int32))])
      obtain ⟨fs, hr, hrun, hended, hW, hsame⟩ := X0.leave (v := some (.int (2 : Int32))) (fun h => by rw [Bd.returns] at h; cases h)
      refine ⟨_, _, retOut X0 hx (t := .int) Bd.returns rfl (Or.inl ⟨rfl, Or.inl rfl, _, rfl⟩) (hb hby d1_29) hr, hrun, hended, hfin _ _ ⟨_, _, rfl, ?_, ⟨_, rfl⟩, hW, hsame.mono (by decide) (by decide)⟩⟩
      show Q13 Z ar kc qa qb qc qd h0 n0 (some (.int (2 : Int32))) s₁.heap _
      rw [e0]
      exact ⟨congrArg (fun z => some (Value.int z)) ((if_neg hc4).trans (if_pos hc16)).symm, N0, rfl⟩
    · refine own_step (fun _ k => XS.ifYes X0.here hx rfl (pc0 := 17) (pc' := 22) rfl (hb hby d1_17) rfl ((if0 _ _).trans (flt hc16).2.1) (by decide) (by decide) k) ?_
      show own_Go p e below P s₁ (mkF m 22 #[.val (.ref ar), .val (.int (0 : Int32)), .val (.int (2 : Int32))] [])
      refine own_step (fun _ k => XS.iinc X0.here hx rfl (hb hby d1_22) rfl (l' := #[.val (.ref ar), .val (.int (0 : Int32)), .val (.int (3 : Int32))]) rfl k) ?_
      show own_Go p e below P s₁ (mkF m 25 #[.val (.ref ar), .val (.int (0 : Int32)), .val (.int (3 : Int32))] [])
      refine own_step (fun _ k => XS.goto X0.here hx rfl (pc0 := 25) (pc' := 4) rfl (hb hby d1_25) (by decide) (by decide) k) ?_
      show own_Go p e below P s₁ (mkF m 4 #[.val (.ref ar), .val (.int (0 : Int32)), .val (.int (3 : Int32))] [])
      refine own_step (fun _ k => XS.iloadN X0.here hx rfl (hb hby d1_4) rfl k) ?_
      show own_Go p e below P s₁ (mkF m 5 #[.val (.ref ar), .val (.int (0 : Int32)), .val (.int (3 : Int32))] [(.int (3 : Int32))])
      refine own_step (fun _ k => XS.aloadN X0.here hx rfl (hb hby d1_5) rfl rfl k) ?_
      show own_Go p e below P s₁ (mkF m 6 #[.val (.ref ar), .val (.int (0 : Int32)), .val (.int (3 : Int32))] [(.ref ar), (.int (3 : Int32))])
      obtain ⟨cl19, Ar19, -, S19, M19, -, -⟩ := (id V_ar)
      refine own_step (fun t k => X0.arraylength hx (by rw [e0]; exact Ar19.1) (State.isArrayOf_alike hZ.alike Ar19.2.1) (g := (mkF m 6 #[.val (.ref ar), .val (.int (0 : Int32)), .val (.int (3 : Int32))] [(.ref ar), (.int (3 : Int32))])) rfl rfl (hb hby d1_6) t k) ?_
      rw [len_of S19 M19]
      show own_Go p e below P s₁ (mkF m 7 #[.val (.ref ar), .val (.int (0 : Int32)), .val (.int (3 : Int32))] [(.int (3 : Int32)), (.int (3 : Int32))])
      refine own_step (fun _ k => XS.icmpYes X0.here hx rfl (pc0 := 7) (pc' := 28) rfl (hb hby d1_7) rfl (flt (by decide : ¬ ((3 : Int32) < (3 : Int32)))).2.1 (by decide) (by decide) k) ?_
      show own_Go p e below P s₁ (mkF m 28 #[.val (.ref ar), .val (.int (0 : Int32)), .val (.int (3 : Int32))] [])
      refine own_step (fun _ k => XS.iloadN X0.here hx rfl (hb hby d1_28) rfl k) ?_
      show own_Go p e below P s₁ (mkF m 29 #[.val (.ref ar), .val (.int (0 : Int32)), .val (.int (3 : Int32))] [(.int (0 : Int32))])
      obtain ⟨fs, hr, hrun, hended, hW, hsame⟩ := X0.leave (v := some (.int (0 : Int32))) (fun h => by rw [Bd.returns] at h; cases h)
      refine ⟨_, _, retOut X0 hx (t := .int) Bd.returns rfl (Or.inl ⟨rfl, Or.inl rfl, _, rfl⟩) (hb hby d1_29) hr, hrun, hended, hfin _ _ ⟨_, _, rfl, ?_, ⟨_, rfl⟩, hW, hsame.mono (by decide) (by decide)⟩⟩
      show Q13 Z ar kc qa qb qc qd h0 n0 (some (.int (0 : Int32))) s₁.heap _
      rw [e0]
      exact ⟨congrArg (fun z => some (Value.int z)) ((if_neg hc4).trans (if_neg hc16)).symm, N0, rfl⟩
def Q14 (Z : State) (ar : Addr) (kc : ClassId) (qa : Int32) (qb : Int32) (qc : Int32) (qd : Int32) (h0 : Heap) (n0 : Nat) (v : Option Value) (h : Heap) (L : List Loc) : Prop := v = some (.int (own_i4 qa qb qc qd)) ∧ Fr n0 L ∧ h = h0
set_option maxRecDepth 65536 in
set_option maxHeartbeats 40000000 in
theorem rm14 (l : Launch) (Z : State) (a0 : Array Value) (hw : ∀ d ∈ tables_1, d.before a0 Z = true) (ws : List Jvm.Cond) (ar : Addr) (kc : ClassId) (qa : Int32) (qb : Int32) (qc : Int32) (qd : Int32) (h0 : Heap) (n0 : Nat) (Z0 : n0 ≤ h0.size) (V_ar : Arv Z h0 ar kc .double (4 : Int32) [(.double (FP.l2d qa.toInt64)), (.double (FP.l2d qb.toInt64)), (.double (FP.l2d qc.toInt64)), (.double (FP.l2d qd.toInt64))] (.double (FP.l2d 0))) :
    MetFree l (⟨"com/example/rulewright/rulewright/evolution/Generation", "indexOfBest", "([D)I"⟩ : MethodName) (head1 (Jvm.Cond.code (⟨"com/example/rulewright/rulewright/evolution/Generation", "indexOfBest", "([D)I"⟩ : MethodName) prog_11_method_3_code 3 (some .int) :: ws) ({ frames := 0, cells := 0, slots := 0, locals := 0 } : Room)) (fun a U => a = #[(.ref ar)] ∧ Z.Warmed39 U.vm ∧ U.heap = h0) (fun _ _ _ _ _ => True) (fun _ U o U' => ∃ v L, o = .returned v ∧ Q14 Z ar kc qa qb qc qd h0 n0 v U'.heap L ∧ FrameEnd U o U' L ({ frames := 0, cells := 0, slots := 0, locals := 0 } : Room).cells ({ frames := 0, cells := 0, slots := 0, locals := 0 } : Room).slots) := by
  refine MetFree.of_bodySF (plainFor_of_name pn_com_example_rulewright_rulewright_evolution_Generation) hisR ?_
  intro p e s m args below meth c s₁ Bd hml0 hP hK
  obtain ⟨rfl, hZ, hh⟩ := hP
  have hx := Bd.exec
  have hby := Bd.bytes
  have hml : c.maxLocals = 3 := hml0
  have hown : s.vm.findClass "com/example/rulewright/rulewright/evolution/Generation" = some m.cls := findClass_of_methodNamed Bd.named
  have hnm := (name_of_methodNamed Bd.named Bd.method).1
  have X0 : Stand p l e ({ frames := 0, cells := 0, slots := 0, locals := 0 } : Room) s m #[(.ref ar)] below meth c s₁ [] 0 0 := Stand.of_body Bd
  have e0 : s₁.heap = h0 := by rw [← hh, Bd.state]; rfl
  have N0 := Fr.nil n0
  refine own_all ?_
  intro P hfin
  refine own_cast (ef_1 m ar) ?_
  show own_Go p e below P s₁ (mkF m 0 #[.val (.ref ar), .unset, .unset] [])
  refine own_step (fun _ k => XS.iconst X0.here hx rfl (hb hby d1_0) k) ?_
  show own_Go p e below P s₁ (mkF m 1 #[.val (.ref ar), .unset, .unset] [(.int (0 : Int32))])
  refine own_step (fun _ k => XS.istoreN X0.here hx rfl (hb hby d1_1) rfl (l' := #[.val (.ref ar), .val (.int (0 : Int32)), .unset]) rfl k) ?_
  show own_Go p e below P s₁ (mkF m 2 #[.val (.ref ar), .val (.int (0 : Int32)), .unset] [])
  refine own_step (fun _ k => XS.iconst X0.here hx rfl (hb hby d1_2) k) ?_
  show own_Go p e below P s₁ (mkF m 3 #[.val (.ref ar), .val (.int (0 : Int32)), .unset] [(.int (1 : Int32))])
  refine own_step (fun _ k => XS.istoreN X0.here hx rfl (hb hby d1_3) rfl (l' := #[.val (.ref ar), .val (.int (0 : Int32)), .val (.int (1 : Int32))]) rfl k) ?_
  show own_Go p e below P s₁ (mkF m 4 #[.val (.ref ar), .val (.int (0 : Int32)), .val (.int (1 : Int32))] [])
  refine own_step (fun _ k => XS.iloadN X0.here hx rfl (hb hby d1_4) rfl k) ?_
  show own_Go p e below P s₁ (mkF m 5 #[.val (.ref ar), .val (.int (0 : Int32)), .val (.int (1 : Int32))] [(.int (1 : Int32))])
  refine own_step (fun _ k => XS.aloadN X0.here hx rfl (hb hby d1_5) rfl rfl k) ?_
  show own_Go p e below P s₁ (mkF m 6 #[.val (.ref ar), .val (.int (0 : Int32)), .val (.int (1 : Int32))] [(.ref ar), (.int (1 : Int32))])
  obtain ⟨cl1, Ar1, -, S1, M1, -, -⟩ := (id V_ar)
  refine own_step (fun t k => X0.arraylength hx (by rw [e0]; exact Ar1.1) (State.isArrayOf_alike hZ.alike Ar1.2.1) (g := (mkF m 6 #[.val (.ref ar), .val (.int (0 : Int32)), .val (.int (1 : Int32))] [(.ref ar), (.int (1 : Int32))])) rfl rfl (hb hby d1_6) t k) ?_
  rw [len_of S1 M1]
  show own_Go p e below P s₁ (mkF m 7 #[.val (.ref ar), .val (.int (0 : Int32)), .val (.int (1 : Int32))] [(.int (4 : Int32)), (.int (1 : Int32))])
  refine own_step (fun _ k => XS.icmpNo X0.here hx rfl (hb hby d1_7) rfl (tlt (by decide : (1 : Int32) < (4 : Int32))).2.1 k) ?_
  show own_Go p e below P s₁ (mkF m 10 #[.val (.ref ar), .val (.int (0 : Int32)), .val (.int (1 : Int32))] [])
  refine own_step (fun _ k => XS.aloadN X0.here hx rfl (hb hby d1_10) rfl rfl k) ?_
  show own_Go p e below P s₁ (mkF m 11 #[.val (.ref ar), .val (.int (0 : Int32)), .val (.int (1 : Int32))] [(.ref ar)])
  refine own_step (fun _ k => XS.iloadN X0.here hx rfl (hb hby d1_11) rfl k) ?_
  show own_Go p e below P s₁ (mkF m 12 #[.val (.ref ar), .val (.int (0 : Int32)), .val (.int (1 : Int32))] [(.int (1 : Int32)), (.ref ar)])
  obtain ⟨cl2, Ar2, -, S2, M2, H2, -⟩ := (id V_ar)
  have hin2 : ¬ ((1 : Int32) < 0 ∨ cl2.slots.size ≤ ((1 : Int32)).toNatClampNeg) := inb_of S2 ⟨by decide, by decide⟩
  refine own_step (fun t k => X0.daload hx (j := (1 : Int32)) (v := (.double (FP.l2d qb.toInt64))) (by rw [e0]; exact Ar2.1) (State.isArrayOf_alike hZ.alike Ar2.2.1) Ar2.2.2 hin2 (Has.at H2 hin2 rfl) (g := (mkF m 12 #[.val (.ref ar), .val (.int (0 : Int32)), .val (.int (1 : Int32))] [(.int (1 : Int32)), (.ref ar)])) rfl rfl (hb hby d1_12) t k) ?_
  show own_Go p e below P s₁ (mkF m 13 #[.val (.ref ar), .val (.int (0 : Int32)), .val (.int (1 : Int32))] [(.double (FP.l2d qb.toInt64))])
  refine own_step (fun _ k => XS.aloadN X0.here hx rfl (hb hby d1_13) rfl rfl k) ?_
  show own_Go p e below P s₁ (mkF m 14 #[.val (.ref ar), .val (.int (0 : Int32)), .val (.int (1 : Int32))] [(.ref ar), (.double (FP.l2d qb.toInt64))])
  refine own_step (fun _ k => XS.iloadN X0.here hx rfl (hb hby d1_14) rfl k) ?_
  show own_Go p e below P s₁ (mkF m 15 #[.val (.ref ar), .val (.int (0 : Int32)), .val (.int (1 : Int32))] [(.int (0 : Int32)), (.ref ar), (.double (FP.l2d qb.toInt64))])
  obtain ⟨cl3, Ar3, -, S3, M3, H3, -⟩ := (id V_ar)
  have hin3 : ¬ ((0 : Int32) < 0 ∨ cl3.slots.size ≤ ((0 : Int32)).toNatClampNeg) := inb_of S3 ⟨by decide, by decide⟩
  refine own_step (fun t k => X0.daload hx (j := (0 : Int32)) (v := (.double (FP.l2d qa.toInt64))) (by rw [e0]; exact Ar3.1) (State.isArrayOf_alike hZ.alike Ar3.2.1) Ar3.2.2 hin3 (Has.at H3 hin3 rfl) (g := (mkF m 15 #[.val (.ref ar), .val (.int (0 : Int32)), .val (.int (1 : Int32))] [(.int (0 : Int32)), (.ref ar), (.double (FP.l2d qb.toInt64))])) rfl rfl (hb hby d1_15) t k) ?_
  show own_Go p e below P s₁ (mkF m 16 #[.val (.ref ar), .val (.int (0 : Int32)), .val (.int (1 : Int32))] [(.double (FP.l2d qa.toInt64)), (.double (FP.l2d qb.toInt64))])
  refine own_step (fun _ k => XS.dcmpS X0.here hx rfl (hb hby d1_16) rfl (dcmpV_w (own_b qb) (own_b qa) .g) k) ?_
  show own_Go p e below P s₁ (mkF m 17 #[.val (.ref ar), .val (.int (0 : Int32)), .val (.int (1 : Int32))] [(.int (lcmpW qb.toInt64 qa.toInt64))])
  by_cases hc4 : (lcmpW qb.toInt64 qa.toInt64) < (0 : Int32)
  · refine own_step (fun _ k => XS.ifNo X0.here hx rfl (hb hby d1_17) rfl ((if0 _ _).trans (tlt hc4).2.1) k) ?_
    show own_Go p e below P s₁ (mkF m 20 #[.val (.ref ar), .val (.int (0 : Int32)), .val (.int (1 : Int32))] [])
    refine own_step (fun _ k => XS.iloadN X0.here hx rfl (hb hby d1_20) rfl k) ?_
    show own_Go p e below P s₁ (mkF m 21 #[.val (.ref ar), .val (.int (0 : Int32)), .val (.int (1 : Int32))] [(.int (1 : Int32))])
    refine own_step (fun _ k => XS.istoreN X0.here hx rfl (hb hby d1_21) rfl (l' := #[.val (.ref ar), .val (.int (1 : Int32)), .val (.int (1 : Int32))]) rfl k) ?_
    show own_Go p e below P s₁ (mkF m 22 #[.val (.ref ar), .val (.int (1 : Int32)), .val (.int (1 : Int32))] [])
    refine own_step (fun _ k => XS.iinc X0.here hx rfl (hb hby d1_22) rfl (l' := #[.val (.ref ar), .val (.int (1 : Int32)), .val (.int (2 : Int32))]) rfl k) ?_
    show own_Go p e below P s₁ (mkF m 25 #[.val (.ref ar), .val (.int (1 : Int32)), .val (.int (2 : Int32))] [])
    refine own_step (fun _ k => XS.goto X0.here hx rfl (pc0 := 25) (pc' := 4) rfl (hb hby d1_25) (by decide) (by decide) k) ?_
    show own_Go p e below P s₁ (mkF m 4 #[.val (.ref ar), .val (.int (1 : Int32)), .val (.int (2 : Int32))] [])
    refine own_step (fun _ k => XS.iloadN X0.here hx rfl (hb hby d1_4) rfl k) ?_
    show own_Go p e below P s₁ (mkF m 5 #[.val (.ref ar), .val (.int (1 : Int32)), .val (.int (2 : Int32))] [(.int (2 : Int32))])
    refine own_step (fun _ k => XS.aloadN X0.here hx rfl (hb hby d1_5) rfl rfl k) ?_
    show own_Go p e below P s₁ (mkF m 6 #[.val (.ref ar), .val (.int (1 : Int32)), .val (.int (2 : Int32))] [(.ref ar), (.int (2 : Int32))])
    obtain ⟨cl5, Ar5, -, S5, M5, -, -⟩ := (id V_ar)
    refine own_step (fun t k => X0.arraylength hx (by rw [e0]; exact Ar5.1) (State.isArrayOf_alike hZ.alike Ar5.2.1) (g := (mkF m 6 #[.val (.ref ar), .val (.int (1 : Int32)), .val (.int (2 : Int32))] [(.ref ar), (.int (2 : Int32))])) rfl rfl (hb hby d1_6) t k) ?_
    rw [len_of S5 M5]
    show own_Go p e below P s₁ (mkF m 7 #[.val (.ref ar), .val (.int (1 : Int32)), .val (.int (2 : Int32))] [(.int (4 : Int32)), (.int (2 : Int32))])
    refine own_step (fun _ k => XS.icmpNo X0.here hx rfl (hb hby d1_7) rfl (tlt (by decide : (2 : Int32) < (4 : Int32))).2.1 k) ?_
    show own_Go p e below P s₁ (mkF m 10 #[.val (.ref ar), .val (.int (1 : Int32)), .val (.int (2 : Int32))] [])
    refine own_step (fun _ k => XS.aloadN X0.here hx rfl (hb hby d1_10) rfl rfl k) ?_
    show own_Go p e below P s₁ (mkF m 11 #[.val (.ref ar), .val (.int (1 : Int32)), .val (.int (2 : Int32))] [(.ref ar)])
    refine own_step (fun _ k => XS.iloadN X0.here hx rfl (hb hby d1_11) rfl k) ?_
    show own_Go p e below P s₁ (mkF m 12 #[.val (.ref ar), .val (.int (1 : Int32)), .val (.int (2 : Int32))] [(.int (2 : Int32)), (.ref ar)])
    obtain ⟨cl6, Ar6, -, S6, M6, H6, -⟩ := (id V_ar)
    have hin6 : ¬ ((2 : Int32) < 0 ∨ cl6.slots.size ≤ ((2 : Int32)).toNatClampNeg) := inb_of S6 ⟨by decide, by decide⟩
    refine own_step (fun t k => X0.daload hx (j := (2 : Int32)) (v := (.double (FP.l2d qc.toInt64))) (by rw [e0]; exact Ar6.1) (State.isArrayOf_alike hZ.alike Ar6.2.1) Ar6.2.2 hin6 (Has.at H6 hin6 rfl) (g := (mkF m 12 #[.val (.ref ar), .val (.int (1 : Int32)), .val (.int (2 : Int32))] [(.int (2 : Int32)), (.ref ar)])) rfl rfl (hb hby d1_12) t k) ?_
    show own_Go p e below P s₁ (mkF m 13 #[.val (.ref ar), .val (.int (1 : Int32)), .val (.int (2 : Int32))] [(.double (FP.l2d qc.toInt64))])
    refine own_step (fun _ k => XS.aloadN X0.here hx rfl (hb hby d1_13) rfl rfl k) ?_
    show own_Go p e below P s₁ (mkF m 14 #[.val (.ref ar), .val (.int (1 : Int32)), .val (.int (2 : Int32))] [(.ref ar), (.double (FP.l2d qc.toInt64))])
    refine own_step (fun _ k => XS.iloadN X0.here hx rfl (hb hby d1_14) rfl k) ?_
    show own_Go p e below P s₁ (mkF m 15 #[.val (.ref ar), .val (.int (1 : Int32)), .val (.int (2 : Int32))] [(.int (1 : Int32)), (.ref ar), (.double (FP.l2d qc.toInt64))])
    obtain ⟨cl7, Ar7, -, S7, M7, H7, -⟩ := (id V_ar)
    have hin7 : ¬ ((1 : Int32) < 0 ∨ cl7.slots.size ≤ ((1 : Int32)).toNatClampNeg) := inb_of S7 ⟨by decide, by decide⟩
    refine own_step (fun t k => X0.daload hx (j := (1 : Int32)) (v := (.double (FP.l2d qb.toInt64))) (by rw [e0]; exact Ar7.1) (State.isArrayOf_alike hZ.alike Ar7.2.1) Ar7.2.2 hin7 (Has.at H7 hin7 rfl) (g := (mkF m 15 #[.val (.ref ar), .val (.int (1 : Int32)), .val (.int (2 : Int32))] [(.int (1 : Int32)), (.ref ar), (.double (FP.l2d qc.toInt64))])) rfl rfl (hb hby d1_15) t k) ?_
    show own_Go p e below P s₁ (mkF m 16 #[.val (.ref ar), .val (.int (1 : Int32)), .val (.int (2 : Int32))] [(.double (FP.l2d qb.toInt64)), (.double (FP.l2d qc.toInt64))])
    refine own_step (fun _ k => XS.dcmpS X0.here hx rfl (hb hby d1_16) rfl (dcmpV_w (own_b qc) (own_b qb) .g) k) ?_
    show own_Go p e below P s₁ (mkF m 17 #[.val (.ref ar), .val (.int (1 : Int32)), .val (.int (2 : Int32))] [(.int (lcmpW qc.toInt64 qb.toInt64))])
    by_cases hc8 : (lcmpW qc.toInt64 qb.toInt64) < (0 : Int32)
    · refine own_step (fun _ k => XS.ifNo X0.here hx rfl (hb hby d1_17) rfl ((if0 _ _).trans (tlt hc8).2.1) k) ?_
      show own_Go p e below P s₁ (mkF m 20 #[.val (.ref ar), .val (.int (1 : Int32)), .val (.int (2 : Int32))] [])
      refine own_step (fun _ k => XS.iloadN X0.here hx rfl (hb hby d1_20) rfl k) ?_
      show own_Go p e below P s₁ (mkF m 21 #[.val (.ref ar), .val (.int (1 : Int32)), .val (.int (2 : Int32))] [(.int (2 : Int32))])
      refine own_step (fun _ k => XS.istoreN X0.here hx rfl (hb hby d1_21) rfl (l' := #[.val (.ref ar), .val (.int (2 : Int32)), .val (.int (2 : Int32))]) rfl k) ?_
      show own_Go p e below P s₁ (mkF m 22 #[.val (.ref ar), .val (.int (2 : Int32)), .val (.int (2 : Int32))] [])
      refine own_step (fun _ k => XS.iinc X0.here hx rfl (hb hby d1_22) rfl (l' := #[.val (.ref ar), .val (.int (2 : Int32)), .val (.int (3 : Int32))]) rfl k) ?_
      show own_Go p e below P s₁ (mkF m 25 #[.val (.ref ar), .val (.int (2 : Int32)), .val (.int (3 : Int32))] [])
      refine own_step (fun _ k => XS.goto X0.here hx rfl (pc0 := 25) (pc' := 4) rfl (hb hby d1_25) (by decide) (by decide) k) ?_
      show own_Go p e below P s₁ (mkF m 4 #[.val (.ref ar), .val (.int (2 : Int32)), .val (.int (3 : Int32))] [])
      refine own_step (fun _ k => XS.iloadN X0.here hx rfl (hb hby d1_4) rfl k) ?_
      show own_Go p e below P s₁ (mkF m 5 #[.val (.ref ar), .val (.int (2 : Int32)), .val (.int (3 : Int32))] [(.int (3 : Int32))])
      refine own_step (fun _ k => XS.aloadN X0.here hx rfl (hb hby d1_5) rfl rfl k) ?_
      show own_Go p e below P s₁ (mkF m 6 #[.val (.ref ar), .val (.int (2 : Int32)), .val (.int (3 : Int32))] [(.ref ar), (.int (3 : Int32))])
      obtain ⟨cl9, Ar9, -, S9, M9, -, -⟩ := (id V_ar)
      refine own_step (fun t k => X0.arraylength hx (by rw [e0]; exact Ar9.1) (State.isArrayOf_alike hZ.alike Ar9.2.1) (g := (mkF m 6 #[.val (.ref ar), .val (.int (2 : Int32)), .val (.int (3 : Int32))] [(.ref ar), (.int (3 : Int32))])) rfl rfl (hb hby d1_6) t k) ?_
      rw [len_of S9 M9]
      show own_Go p e below P s₁ (mkF m 7 #[.val (.ref ar), .val (.int (2 : Int32)), .val (.int (3 : Int32))] [(.int (4 : Int32)), (.int (3 : Int32))])
      refine own_step (fun _ k => XS.icmpNo X0.here hx rfl (hb hby d1_7) rfl (tlt (by decide : (3 : Int32) < (4 : Int32))).2.1 k) ?_
      show own_Go p e below P s₁ (mkF m 10 #[.val (.ref ar), .val (.int (2 : Int32)), .val (.int (3 : Int32))] [])
      refine own_step (fun _ k => XS.aloadN X0.here hx rfl (hb hby d1_10) rfl rfl k) ?_
      show own_Go p e below P s₁ (mkF m 11 #[.val (.ref ar), .val (.int (2 : Int32)), .val (.int (3 : Int32))] [(.ref ar)])
      refine own_step (fun _ k => XS.iloadN X0.here hx rfl (hb hby d1_11) rfl k) ?_
      show own_Go p e below P s₁ (mkF m 12 #[.val (.ref ar), .val (.int (2 : Int32)), .val (.int (3 : Int32))] [(.int (3 : Int32)), (.ref ar)])
      obtain ⟨cl10, Ar10, -, S10, M10, H10, -⟩ := (id V_ar)
      have hin10 : ¬ ((3 : Int32) < 0 ∨ cl10.slots.size ≤ ((3 : Int32)).toNatClampNeg) := inb_of S10 ⟨by decide, by decide⟩
      refine own_step (fun t k => X0.daload hx (j := (3 : Int32)) (v := (.double (FP.l2d qd.toInt64))) (by rw [e0]; exact Ar10.1) (State.isArrayOf_alike hZ.alike Ar10.2.1) Ar10.2.2 hin10 (Has.at H10 hin10 rfl) (g := (mkF m 12 #[.val (.ref ar), .val (.int (2 : Int32)), .val (.int (3 : Int32))] [(.int (3 : Int32)), (.ref ar)])) rfl rfl (hb hby d1_12) t k) ?_
      show own_Go p e below P s₁ (mkF m 13 #[.val (.ref ar), .val (.int (2 : Int32)), .val (.int (3 : Int32))] [(.double (FP.l2d qd.toInt64))])
      refine own_step (fun _ k => XS.aloadN X0.here hx rfl (hb hby d1_13) rfl rfl k) ?_
      show own_Go p e below P s₁ (mkF m 14 #[.val (.ref ar), .val (.int (2 : Int32)), .val (.int (3 : Int32))] [(.ref ar), (.double (FP.l2d qd.toInt64))])
      refine own_step (fun _ k => XS.iloadN X0.here hx rfl (hb hby d1_14) rfl k) ?_
      show own_Go p e below P s₁ (mkF m 15 #[.val (.ref ar), .val (.int (2 : Int32)), .val (.int (3 : Int32))] [(.int (2 : Int32)), (.ref ar), (.double (FP.l2d qd.toInt64))])
      obtain ⟨cl11, Ar11, -, S11, M11, H11, -⟩ := (id V_ar)
      have hin11 : ¬ ((2 : Int32) < 0 ∨ cl11.slots.size ≤ ((2 : Int32)).toNatClampNeg) := inb_of S11 ⟨by decide, by decide⟩
      refine own_step (fun t k => X0.daload hx (j := (2 : Int32)) (v := (.double (FP.l2d qc.toInt64))) (by rw [e0]; exact Ar11.1) (State.isArrayOf_alike hZ.alike Ar11.2.1) Ar11.2.2 hin11 (Has.at H11 hin11 rfl) (g := (mkF m 15 #[.val (.ref ar), .val (.int (2 : Int32)), .val (.int (3 : Int32))] [(.int (2 : Int32)), (.ref ar), (.double (FP.l2d qd.toInt64))])) rfl rfl (hb hby d1_15) t k) ?_
      show own_Go p e below P s₁ (mkF m 16 #[.val (.ref ar), .val (.int (2 : Int32)), .val (.int (3 : Int32))] [(.double (FP.l2d qc.toInt64)), (.double (FP.l2d qd.toInt64))])
      refine own_step (fun _ k => XS.dcmpS X0.here hx rfl (hb hby d1_16) rfl (dcmpV_w (own_b qd) (own_b qc) .g) k) ?_
      show own_Go p e below P s₁ (mkF m 17 #[.val (.ref ar), .val (.int (2 : Int32)), .val (.int (3 : Int32))] [(.int (lcmpW qd.toInt64 qc.toInt64))])
      by_cases hc12 : (lcmpW qd.toInt64 qc.toInt64) < (0 : Int32)
      · refine own_step (fun _ k => XS.ifNo X0.here hx rfl (hb hby d1_17) rfl ((if0 _ _).trans (tlt hc12).2.1) k) ?_
        show own_Go p e below P s₁ (mkF m 20 #[.val (.ref ar), .val (.int (2 : Int32)), .val (.int (3 : Int32))] [])
        refine own_step (fun _ k => XS.iloadN X0.here hx rfl (hb hby d1_20) rfl k) ?_
        show own_Go p e below P s₁ (mkF m 21 #[.val (.ref ar), .val (.int (2 : Int32)), .val (.int (3 : Int32))] [(.int (3 : Int32))])
        refine own_step (fun _ k => XS.istoreN X0.here hx rfl (hb hby d1_21) rfl (l' := #[.val (.ref ar), .val (.int (3 : Int32)), .val (.int (3 : Int32))]) rfl k) ?_
        show own_Go p e below P s₁ (mkF m 22 #[.val (.ref ar), .val (.int (3 : Int32)), .val (.int (3 : Int32))] [])
        refine own_step (fun _ k => XS.iinc X0.here hx rfl (hb hby d1_22) rfl (l' := #[.val (.ref ar), .val (.int (3 : Int32)), .val (.int (4 : Int32))]) rfl k) ?_
        show own_Go p e below P s₁ (mkF m 25 #[.val (.ref ar), .val (.int (3 : Int32)), .val (.int (4 : Int32))] [])
        refine own_step (fun _ k => XS.goto X0.here hx rfl (pc0 := 25) (pc' := 4) rfl (hb hby d1_25) (by decide) (by decide) k) ?_
        show own_Go p e below P s₁ (mkF m 4 #[.val (.ref ar), .val (.int (3 : Int32)), .val (.int (4 : Int32))] [])
        refine own_step (fun _ k => XS.iloadN X0.here hx rfl (hb hby d1_4) rfl k) ?_
        show own_Go p e below P s₁ (mkF m 5 #[.val (.ref ar), .val (.int (3 : Int32)), .val (.int (4 : Int32))] [(.int (4 : Int32))])
        refine own_step (fun _ k => XS.aloadN X0.here hx rfl (hb hby d1_5) rfl rfl k) ?_
        show own_Go p e below P s₁ (mkF m 6 #[.val (.ref ar), .val (.int (3 : Int32)), .val (.int (4 : Int32))] [(.ref ar), (.int (4 : Int32))])
        obtain ⟨cl13, Ar13, -, S13, M13, -, -⟩ := (id V_ar)
        refine own_step (fun t k => X0.arraylength hx (by rw [e0]; exact Ar13.1) (State.isArrayOf_alike hZ.alike Ar13.2.1) (g := (mkF m 6 #[.val (.ref ar), .val (.int (3 : Int32)), .val (.int (4 : Int32))] [(.ref ar), (.int (4 : Int32))])) rfl rfl (hb hby d1_6) t k) ?_
        rw [len_of S13 M13]
        show own_Go p e below P s₁ (mkF m 7 #[.val (.ref ar), .val (.int (3 : Int32)), .val (.int (4 : Int32))] [(.int (4 : Int32)), (.int (4 : Int32))])
        refine own_step (fun _ k => XS.icmpYes X0.here hx rfl (pc0 := 7) (pc' := 28) rfl (hb hby d1_7) rfl (flt (by decide : ¬ ((4 : Int32) < (4 : Int32)))).2.1 (by decide) (by decide) k) ?_
        show own_Go p e below P s₁ (mkF m 28 #[.val (.ref ar), .val (.int (3 : Int32)), .val (.int (4 : Int32))] [])
        refine own_step (fun _ k => XS.iloadN X0.here hx rfl (hb hby d1_28) rfl k) ?_
        show own_Go p e below P s₁ (mkF m 29 #[.val (.ref ar), .val (.int (3 : Int32)), .val (.int (4 : Int32))] [(.int (3 : Int32))])
        obtain ⟨fs, hr, hrun, hended, hW, hsame⟩ := X0.leave (v := some (.int (3 : Int32))) (fun h => by rw [Bd.returns] at h; cases h)
        refine ⟨_, _, retOut X0 hx (t := .int) Bd.returns rfl (Or.inl ⟨rfl, Or.inl rfl, _, rfl⟩) (hb hby d1_29) hr, hrun, hended, hfin _ _ ⟨_, _, rfl, ?_, ⟨_, rfl⟩, hW, hsame.mono (by decide) (by decide)⟩⟩
        show Q14 Z ar kc qa qb qc qd h0 n0 (some (.int (3 : Int32))) s₁.heap _
        rw [e0]
        exact ⟨congrArg (fun z => some (Value.int z)) ((if_pos hc4).trans ((if_pos hc8).trans (if_pos hc12))).symm, N0, rfl⟩
      · refine own_step (fun _ k => XS.ifYes X0.here hx rfl (pc0 := 17) (pc' := 22) rfl (hb hby d1_17) rfl ((if0 _ _).trans (flt hc12).2.1) (by decide) (by decide) k) ?_
        show own_Go p e below P s₁ (mkF m 22 #[.val (.ref ar), .val (.int (2 : Int32)), .val (.int (3 : Int32))] [])
        refine own_step (fun _ k => XS.iinc X0.here hx rfl (hb hby d1_22) rfl (l' := #[.val (.ref ar), .val (.int (2 : Int32)), .val (.int (4 : Int32))]) rfl k) ?_
        show own_Go p e below P s₁ (mkF m 25 #[.val (.ref ar), .val (.int (2 : Int32)), .val (.int (4 : Int32))] [])
        refine own_step (fun _ k => XS.goto X0.here hx rfl (pc0 := 25) (pc' := 4) rfl (hb hby d1_25) (by decide) (by decide) k) ?_
        show own_Go p e below P s₁ (mkF m 4 #[.val (.ref ar), .val (.int (2 : Int32)), .val (.int (4 : Int32))] [])
        refine own_step (fun _ k => XS.iloadN X0.here hx rfl (hb hby d1_4) rfl k) ?_
        show own_Go p e below P s₁ (mkF m 5 #[.val (.ref ar), .val (.int (2 : Int32)), .val (.int (4 : Int32))] [(.int (4 : Int32))])
        refine own_step (fun _ k => XS.aloadN X0.here hx rfl (hb hby d1_5) rfl rfl k) ?_
        show own_Go p e below P s₁ (mkF m 6 #[.val (.ref ar), .val (.int (2 : Int32)), .val (.int (4 : Int32))] [(.ref ar), (.int (4 : Int32))])
        obtain ⟨cl15, Ar15, -, S15, M15, -, -⟩ := (id V_ar)
        refine own_step (fun t k => X0.arraylength hx (by rw [e0]; exact Ar15.1) (State.isArrayOf_alike hZ.alike Ar15.2.1) (g := (mkF m 6 #[.val (.ref ar), .val (.int (2 : Int32)), .val (.int (4 : Int32))] [(.ref ar), (.int (4 : Int32))])) rfl rfl (hb hby d1_6) t k) ?_
        rw [len_of S15 M15]
        show own_Go p e below P s₁ (mkF m 7 #[.val (.ref ar), .val (.int (2 : Int32)), .val (.int (4 : Int32))] [(.int (4 : Int32)), (.int (4 : Int32))])
        refine own_step (fun _ k => XS.icmpYes X0.here hx rfl (pc0 := 7) (pc' := 28) rfl (hb hby d1_7) rfl (flt (by decide : ¬ ((4 : Int32) < (4 : Int32)))).2.1 (by decide) (by decide) k) ?_
        show own_Go p e below P s₁ (mkF m 28 #[.val (.ref ar), .val (.int (2 : Int32)), .val (.int (4 : Int32))] [])
        refine own_step (fun _ k => XS.iloadN X0.here hx rfl (hb hby d1_28) rfl k) ?_
        show own_Go p e below P s₁ (mkF m 29 #[.val (.ref ar), .val (.int (2 : Int32)), .val (.int (4 : Int32))] [(.int (2 : Int32))])
        obtain ⟨fs, hr, hrun, hended, hW, hsame⟩ := X0.leave (v := some (.int (2 : Int32))) (fun h => by rw [Bd.returns] at h; cases h)
        refine ⟨_, _, retOut X0 hx (t := .int) Bd.returns rfl (Or.inl ⟨rfl, Or.inl rfl, _, rfl⟩) (hb hby d1_29) hr, hrun, hended, hfin _ _ ⟨_, _, rfl, ?_, ⟨_, rfl⟩, hW, hsame.mono (by decide) (by decide)⟩⟩
        show Q14 Z ar kc qa qb qc qd h0 n0 (some (.int (2 : Int32))) s₁.heap _
        rw [e0]
        exact ⟨congrArg (fun z => some (Value.int z)) ((if_pos hc4).trans ((if_pos hc8).trans (if_neg hc12))).symm, N0, rfl⟩
    · refine own_step (fun _ k => XS.ifYes X0.here hx rfl (pc0 := 17) (pc' := 22) rfl (hb hby d1_17) rfl ((if0 _ _).trans (flt hc8).2.1) (by decide) (by decide) k) ?_
      show own_Go p e below P s₁ (mkF m 22 #[.val (.ref ar), .val (.int (1 : Int32)), .val (.int (2 : Int32))] [])
      refine own_step (fun _ k => XS.iinc X0.here hx rfl (hb hby d1_22) rfl (l' := #[.val (.ref ar), .val (.int (1 : Int32)), .val (.int (3 : Int32))]) rfl k) ?_
      show own_Go p e below P s₁ (mkF m 25 #[.val (.ref ar), .val (.int (1 : Int32)), .val (.int (3 : Int32))] [])
      refine own_step (fun _ k => XS.goto X0.here hx rfl (pc0 := 25) (pc' := 4) rfl (hb hby d1_25) (by decide) (by decide) k) ?_
      show own_Go p e below P s₁ (mkF m 4 #[.val (.ref ar), .val (.int (1 : Int32)), .val (.int (3 : Int32))] [])
      refine own_step (fun _ k => XS.iloadN X0.here hx rfl (hb hby d1_4) rfl k) ?_
      show own_Go p e below P s₁ (mkF m 5 #[.val (.ref ar), .val (.int (1 : Int32)), .val (.int (3 : Int32))] [(.int (3 : Int32))])
      refine own_step (fun _ k => XS.aloadN X0.here hx rfl (hb hby d1_5) rfl rfl k) ?_
      show own_Go p e below P s₁ (mkF m 6 #[.val (.ref ar), .val (.int (1 : Int32)), .val (.int (3 : Int32))] [(.ref ar), (.int (3 : Int32))])
      obtain ⟨cl17, Ar17, -, S17, M17, -, -⟩ := (id V_ar)
      refine own_step (fun t k => X0.arraylength hx (by rw [e0]; exact Ar17.1) (State.isArrayOf_alike hZ.alike Ar17.2.1) (g := (mkF m 6 #[.val (.ref ar), .val (.int (1 : Int32)), .val (.int (3 : Int32))] [(.ref ar), (.int (3 : Int32))])) rfl rfl (hb hby d1_6) t k) ?_
      rw [len_of S17 M17]
      show own_Go p e below P s₁ (mkF m 7 #[.val (.ref ar), .val (.int (1 : Int32)), .val (.int (3 : Int32))] [(.int (4 : Int32)), (.int (3 : Int32))])
      refine own_step (fun _ k => XS.icmpNo X0.here hx rfl (hb hby d1_7) rfl (tlt (by decide : (3 : Int32) < (4 : Int32))).2.1 k) ?_
      show own_Go p e below P s₁ (mkF m 10 #[.val (.ref ar), .val (.int (1 : Int32)), .val (.int (3 : Int32))] [])
      refine own_step (fun _ k => XS.aloadN X0.here hx rfl (hb hby d1_10) rfl rfl k) ?_
      show own_Go p e below P s₁ (mkF m 11 #[.val (.ref ar), .val (.int (1 : Int32)), .val (.int (3 : Int32))] [(.ref ar)])
      refine own_step (fun _ k => XS.iloadN X0.here hx rfl (hb hby d1_11) rfl k) ?_
      show own_Go p e below P s₁ (mkF m 12 #[.val (.ref ar), .val (.int (1 : Int32)), .val (.int (3 : Int32))] [(.int (3 : Int32)), (.ref ar)])
      obtain ⟨cl18, Ar18, -, S18, M18, H18, -⟩ := (id V_ar)
      have hin18 : ¬ ((3 : Int32) < 0 ∨ cl18.slots.size ≤ ((3 : Int32)).toNatClampNeg) := inb_of S18 ⟨by decide, by decide⟩
      refine own_step (fun t k => X0.daload hx (j := (3 : Int32)) (v := (.double (FP.l2d qd.toInt64))) (by rw [e0]; exact Ar18.1) (State.isArrayOf_alike hZ.alike Ar18.2.1) Ar18.2.2 hin18 (Has.at H18 hin18 rfl) (g := (mkF m 12 #[.val (.ref ar), .val (.int (1 : Int32)), .val (.int (3 : Int32))] [(.int (3 : Int32)), (.ref ar)])) rfl rfl (hb hby d1_12) t k) ?_
      show own_Go p e below P s₁ (mkF m 13 #[.val (.ref ar), .val (.int (1 : Int32)), .val (.int (3 : Int32))] [(.double (FP.l2d qd.toInt64))])
      refine own_step (fun _ k => XS.aloadN X0.here hx rfl (hb hby d1_13) rfl rfl k) ?_
      show own_Go p e below P s₁ (mkF m 14 #[.val (.ref ar), .val (.int (1 : Int32)), .val (.int (3 : Int32))] [(.ref ar), (.double (FP.l2d qd.toInt64))])
      refine own_step (fun _ k => XS.iloadN X0.here hx rfl (hb hby d1_14) rfl k) ?_
      show own_Go p e below P s₁ (mkF m 15 #[.val (.ref ar), .val (.int (1 : Int32)), .val (.int (3 : Int32))] [(.int (1 : Int32)), (.ref ar), (.double (FP.l2d qd.toInt64))])
      obtain ⟨cl19, Ar19, -, S19, M19, H19, -⟩ := (id V_ar)
      have hin19 : ¬ ((1 : Int32) < 0 ∨ cl19.slots.size ≤ ((1 : Int32)).toNatClampNeg) := inb_of S19 ⟨by decide, by decide⟩
      refine own_step (fun t k => X0.daload hx (j := (1 : Int32)) (v := (.double (FP.l2d qb.toInt64))) (by rw [e0]; exact Ar19.1) (State.isArrayOf_alike hZ.alike Ar19.2.1) Ar19.2.2 hin19 (Has.at H19 hin19 rfl) (g := (mkF m 15 #[.val (.ref ar), .val (.int (1 : Int32)), .val (.int (3 : Int32))] [(.int (1 : Int32)), (.ref ar), (.double (FP.l2d qd.toInt64))])) rfl rfl (hb hby d1_15) t k) ?_
      show own_Go p e below P s₁ (mkF m 16 #[.val (.ref ar), .val (.int (1 : Int32)), .val (.int (3 : Int32))] [(.double (FP.l2d qb.toInt64)), (.double (FP.l2d qd.toInt64))])
      refine own_step (fun _ k => XS.dcmpS X0.here hx rfl (hb hby d1_16) rfl (dcmpV_w (own_b qd) (own_b qb) .g) k) ?_
      show own_Go p e below P s₁ (mkF m 17 #[.val (.ref ar), .val (.int (1 : Int32)), .val (.int (3 : Int32))] [(.int (lcmpW qd.toInt64 qb.toInt64))])
      by_cases hc20 : (lcmpW qd.toInt64 qb.toInt64) < (0 : Int32)
      · refine own_step (fun _ k => XS.ifNo X0.here hx rfl (hb hby d1_17) rfl ((if0 _ _).trans (tlt hc20).2.1) k) ?_
        show own_Go p e below P s₁ (mkF m 20 #[.val (.ref ar), .val (.int (1 : Int32)), .val (.int (3 : Int32))] [])
        refine own_step (fun _ k => XS.iloadN X0.here hx rfl (hb hby d1_20) rfl k) ?_
        show own_Go p e below P s₁ (mkF m 21 #[.val (.ref ar), .val (.int (1 : Int32)), .val (.int (3 : Int32))] [(.int (3 : Int32))])
        refine own_step (fun _ k => XS.istoreN X0.here hx rfl (hb hby d1_21) rfl (l' := #[.val (.ref ar), .val (.int (3 : Int32)), .val (.int (3 : Int32))]) rfl k) ?_
        show own_Go p e below P s₁ (mkF m 22 #[.val (.ref ar), .val (.int (3 : Int32)), .val (.int (3 : Int32))] [])
        refine own_step (fun _ k => XS.iinc X0.here hx rfl (hb hby d1_22) rfl (l' := #[.val (.ref ar), .val (.int (3 : Int32)), .val (.int (4 : Int32))]) rfl k) ?_
        show own_Go p e below P s₁ (mkF m 25 #[.val (.ref ar), .val (.int (3 : Int32)), .val (.int (4 : Int32))] [])
        refine own_step (fun _ k => XS.goto X0.here hx rfl (pc0 := 25) (pc' := 4) rfl (hb hby d1_25) (by decide) (by decide) k) ?_
        show own_Go p e below P s₁ (mkF m 4 #[.val (.ref ar), .val (.int (3 : Int32)), .val (.int (4 : Int32))] [])
        refine own_step (fun _ k => XS.iloadN X0.here hx rfl (hb hby d1_4) rfl k) ?_
        show own_Go p e below P s₁ (mkF m 5 #[.val (.ref ar), .val (.int (3 : Int32)), .val (.int (4 : Int32))] [(.int (4 : Int32))])
        refine own_step (fun _ k => XS.aloadN X0.here hx rfl (hb hby d1_5) rfl rfl k) ?_
        show own_Go p e below P s₁ (mkF m 6 #[.val (.ref ar), .val (.int (3 : Int32)), .val (.int (4 : Int32))] [(.ref ar), (.int (4 : Int32))])
        obtain ⟨cl21, Ar21, -, S21, M21, -, -⟩ := (id V_ar)
        refine own_step (fun t k => X0.arraylength hx (by rw [e0]; exact Ar21.1) (State.isArrayOf_alike hZ.alike Ar21.2.1) (g := (mkF m 6 #[.val (.ref ar), .val (.int (3 : Int32)), .val (.int (4 : Int32))] [(.ref ar), (.int (4 : Int32))])) rfl rfl (hb hby d1_6) t k) ?_
        rw [len_of S21 M21]
        show own_Go p e below P s₁ (mkF m 7 #[.val (.ref ar), .val (.int (3 : Int32)), .val (.int (4 : Int32))] [(.int (4 : Int32)), (.int (4 : Int32))])
        refine own_step (fun _ k => XS.icmpYes X0.here hx rfl (pc0 := 7) (pc' := 28) rfl (hb hby d1_7) rfl (flt (by decide : ¬ ((4 : Int32) < (4 : Int32)))).2.1 (by decide) (by decide) k) ?_
        show own_Go p e below P s₁ (mkF m 28 #[.val (.ref ar), .val (.int (3 : Int32)), .val (.int (4 : Int32))] [])
        refine own_step (fun _ k => XS.iloadN X0.here hx rfl (hb hby d1_28) rfl k) ?_
        show own_Go p e below P s₁ (mkF m 29 #[.val (.ref ar), .val (.int (3 : Int32)), .val (.int (4 : Int32))] [(.int (3 : Int32))])
        obtain ⟨fs, hr, hrun, hended, hW, hsame⟩ := X0.leave (v := some (.int (3 : Int32))) (fun h => by rw [Bd.returns] at h; cases h)
        refine ⟨_, _, retOut X0 hx (t := .int) Bd.returns rfl (Or.inl ⟨rfl, Or.inl rfl, _, rfl⟩) (hb hby d1_29) hr, hrun, hended, hfin _ _ ⟨_, _, rfl, ?_, ⟨_, rfl⟩, hW, hsame.mono (by decide) (by decide)⟩⟩
        show Q14 Z ar kc qa qb qc qd h0 n0 (some (.int (3 : Int32))) s₁.heap _
        rw [e0]
        exact ⟨congrArg (fun z => some (Value.int z)) ((if_pos hc4).trans ((if_neg hc8).trans (if_pos hc20))).symm, N0, rfl⟩
      · refine own_step (fun _ k => XS.ifYes X0.here hx rfl (pc0 := 17) (pc' := 22) rfl (hb hby d1_17) rfl ((if0 _ _).trans (flt hc20).2.1) (by decide) (by decide) k) ?_
        show own_Go p e below P s₁ (mkF m 22 #[.val (.ref ar), .val (.int (1 : Int32)), .val (.int (3 : Int32))] [])
        refine own_step (fun _ k => XS.iinc X0.here hx rfl (hb hby d1_22) rfl (l' := #[.val (.ref ar), .val (.int (1 : Int32)), .val (.int (4 : Int32))]) rfl k) ?_
        show own_Go p e below P s₁ (mkF m 25 #[.val (.ref ar), .val (.int (1 : Int32)), .val (.int (4 : Int32))] [])
        refine own_step (fun _ k => XS.goto X0.here hx rfl (pc0 := 25) (pc' := 4) rfl (hb hby d1_25) (by decide) (by decide) k) ?_
        show own_Go p e below P s₁ (mkF m 4 #[.val (.ref ar), .val (.int (1 : Int32)), .val (.int (4 : Int32))] [])
        refine own_step (fun _ k => XS.iloadN X0.here hx rfl (hb hby d1_4) rfl k) ?_
        show own_Go p e below P s₁ (mkF m 5 #[.val (.ref ar), .val (.int (1 : Int32)), .val (.int (4 : Int32))] [(.int (4 : Int32))])
        refine own_step (fun _ k => XS.aloadN X0.here hx rfl (hb hby d1_5) rfl rfl k) ?_
        show own_Go p e below P s₁ (mkF m 6 #[.val (.ref ar), .val (.int (1 : Int32)), .val (.int (4 : Int32))] [(.ref ar), (.int (4 : Int32))])
        obtain ⟨cl23, Ar23, -, S23, M23, -, -⟩ := (id V_ar)
        refine own_step (fun t k => X0.arraylength hx (by rw [e0]; exact Ar23.1) (State.isArrayOf_alike hZ.alike Ar23.2.1) (g := (mkF m 6 #[.val (.ref ar), .val (.int (1 : Int32)), .val (.int (4 : Int32))] [(.ref ar), (.int (4 : Int32))])) rfl rfl (hb hby d1_6) t k) ?_
        rw [len_of S23 M23]
        show own_Go p e below P s₁ (mkF m 7 #[.val (.ref ar), .val (.int (1 : Int32)), .val (.int (4 : Int32))] [(.int (4 : Int32)), (.int (4 : Int32))])
        refine own_step (fun _ k => XS.icmpYes X0.here hx rfl (pc0 := 7) (pc' := 28) rfl (hb hby d1_7) rfl (flt (by decide : ¬ ((4 : Int32) < (4 : Int32)))).2.1 (by decide) (by decide) k) ?_
        show own_Go p e below P s₁ (mkF m 28 #[.val (.ref ar), .val (.int (1 : Int32)), .val (.int (4 : Int32))] [])
        refine own_step (fun _ k => XS.iloadN X0.here hx rfl (hb hby d1_28) rfl k) ?_
        show own_Go p e below P s₁ (mkF m 29 #[.val (.ref ar), .val (.int (1 : Int32)), .val (.int (4 : Int32))] [(.int (1 : Int32))])
        obtain ⟨fs, hr, hrun, hended, hW, hsame⟩ := X0.leave (v := some (.int (1 : Int32))) (fun h => by rw [Bd.returns] at h; cases h)
        refine ⟨_, _, retOut X0 hx (t := .int) Bd.returns rfl (Or.inl ⟨rfl, Or.inl rfl, _, rfl⟩) (hb hby d1_29) hr, hrun, hended, hfin _ _ ⟨_, _, rfl, ?_, ⟨_, rfl⟩, hW, hsame.mono (by decide) (by decide)⟩⟩
        show Q14 Z ar kc qa qb qc qd h0 n0 (some (.int (1 : Int32))) s₁.heap _
        rw [e0]
        exact ⟨congrArg (fun z => some (Value.int z)) ((if_pos hc4).trans ((if_neg hc8).trans (if_neg hc20))).symm, N0, rfl⟩
  · refine own_step (fun _ k => XS.ifYes X0.here hx rfl (pc0 := 17) (pc' := 22) rfl (hb hby d1_17) rfl ((if0 _ _).trans (flt hc4).2.1) (by decide) (by decide) k) ?_
    show own_Go p e below P s₁ (mkF m 22 #[.val (.ref ar), .val (.int (0 : Int32)), .val (.int (1 : Int32))] [])
    refine own_step (fun _ k => XS.iinc X0.here hx rfl (hb hby d1_22) rfl (l' := #[.val (.ref ar), .val (.int (0 : Int32)), .val (.int (2 : Int32))]) rfl k) ?_
    show own_Go p e below P s₁ (mkF m 25 #[.val (.ref ar), .val (.int (0 : Int32)), .val (.int (2 : Int32))] [])
    refine own_step (fun _ k => XS.goto X0.here hx rfl (pc0 := 25) (pc' := 4) rfl (hb hby d1_25) (by decide) (by decide) k) ?_
    show own_Go p e below P s₁ (mkF m 4 #[.val (.ref ar), .val (.int (0 : Int32)), .val (.int (2 : Int32))] [])
    refine own_step (fun _ k => XS.iloadN X0.here hx rfl (hb hby d1_4) rfl k) ?_
    show own_Go p e below P s₁ (mkF m 5 #[.val (.ref ar), .val (.int (0 : Int32)), .val (.int (2 : Int32))] [(.int (2 : Int32))])
    refine own_step (fun _ k => XS.aloadN X0.here hx rfl (hb hby d1_5) rfl rfl k) ?_
    show own_Go p e below P s₁ (mkF m 6 #[.val (.ref ar), .val (.int (0 : Int32)), .val (.int (2 : Int32))] [(.ref ar), (.int (2 : Int32))])
    obtain ⟨cl25, Ar25, -, S25, M25, -, -⟩ := (id V_ar)
    refine own_step (fun t k => X0.arraylength hx (by rw [e0]; exact Ar25.1) (State.isArrayOf_alike hZ.alike Ar25.2.1) (g := (mkF m 6 #[.val (.ref ar), .val (.int (0 : Int32)), .val (.int (2 : Int32))] [(.ref ar), (.int (2 : Int32))])) rfl rfl (hb hby d1_6) t k) ?_
    rw [len_of S25 M25]
    show own_Go p e below P s₁ (mkF m 7 #[.val (.ref ar), .val (.int (0 : Int32)), .val (.int (2 : Int32))] [(.int (4 : Int32)), (.int (2 : Int32))])
    refine own_step (fun _ k => XS.icmpNo X0.here hx rfl (hb hby d1_7) rfl (tlt (by decide : (2 : Int32) < (4 : Int32))).2.1 k) ?_
    show own_Go p e below P s₁ (mkF m 10 #[.val (.ref ar), .val (.int (0 : Int32)), .val (.int (2 : Int32))] [])
    refine own_step (fun _ k => XS.aloadN X0.here hx rfl (hb hby d1_10) rfl rfl k) ?_
    show own_Go p e below P s₁ (mkF m 11 #[.val (.ref ar), .val (.int (0 : Int32)), .val (.int (2 : Int32))] [(.ref ar)])
    refine own_step (fun _ k => XS.iloadN X0.here hx rfl (hb hby d1_11) rfl k) ?_
    show own_Go p e below P s₁ (mkF m 12 #[.val (.ref ar), .val (.int (0 : Int32)), .val (.int (2 : Int32))] [(.int (2 : Int32)), (.ref ar)])
    obtain ⟨cl26, Ar26, -, S26, M26, H26, -⟩ := (id V_ar)
    have hin26 : ¬ ((2 : Int32) < 0 ∨ cl26.slots.size ≤ ((2 : Int32)).toNatClampNeg) := inb_of S26 ⟨by decide, by decide⟩
    refine own_step (fun t k => X0.daload hx (j := (2 : Int32)) (v := (.double (FP.l2d qc.toInt64))) (by rw [e0]; exact Ar26.1) (State.isArrayOf_alike hZ.alike Ar26.2.1) Ar26.2.2 hin26 (Has.at H26 hin26 rfl) (g := (mkF m 12 #[.val (.ref ar), .val (.int (0 : Int32)), .val (.int (2 : Int32))] [(.int (2 : Int32)), (.ref ar)])) rfl rfl (hb hby d1_12) t k) ?_
    show own_Go p e below P s₁ (mkF m 13 #[.val (.ref ar), .val (.int (0 : Int32)), .val (.int (2 : Int32))] [(.double (FP.l2d qc.toInt64))])
    refine own_step (fun _ k => XS.aloadN X0.here hx rfl (hb hby d1_13) rfl rfl k) ?_
    show own_Go p e below P s₁ (mkF m 14 #[.val (.ref ar), .val (.int (0 : Int32)), .val (.int (2 : Int32))] [(.ref ar), (.double (FP.l2d qc.toInt64))])
    refine own_step (fun _ k => XS.iloadN X0.here hx rfl (hb hby d1_14) rfl k) ?_
    show own_Go p e below P s₁ (mkF m 15 #[.val (.ref ar), .val (.int (0 : Int32)), .val (.int (2 : Int32))] [(.int (0 : Int32)), (.ref ar), (.double (FP.l2d qc.toInt64))])
    obtain ⟨cl27, Ar27, -, S27, M27, H27, -⟩ := (id V_ar)
    have hin27 : ¬ ((0 : Int32) < 0 ∨ cl27.slots.size ≤ ((0 : Int32)).toNatClampNeg) := inb_of S27 ⟨by decide, by decide⟩
    refine own_step (fun t k => X0.daload hx (j := (0 : Int32)) (v := (.double (FP.l2d qa.toInt64))) (by rw [e0]; exact Ar27.1) (State.isArrayOf_alike hZ.alike Ar27.2.1) Ar27.2.2 hin27 (Has.at H27 hin27 rfl) (g := (mkF m 15 #[.val (.ref ar), .val (.int (0 : Int32)), .val (.int (2 : Int32))] [(.int (0 : Int32)), (.ref ar), (.double (FP.l2d qc.toInt64))])) rfl rfl (hb hby d1_15) t k) ?_
    show own_Go p e below P s₁ (mkF m 16 #[.val (.ref ar), .val (.int (0 : Int32)), .val (.int (2 : Int32))] [(.double (FP.l2d qa.toInt64)), (.double (FP.l2d qc.toInt64))])
    refine own_step (fun _ k => XS.dcmpS X0.here hx rfl (hb hby d1_16) rfl (dcmpV_w (own_b qc) (own_b qa) .g) k) ?_
    show own_Go p e below P s₁ (mkF m 17 #[.val (.ref ar), .val (.int (0 : Int32)), .val (.int (2 : Int32))] [(.int (lcmpW qc.toInt64 qa.toInt64))])
    by_cases hc28 : (lcmpW qc.toInt64 qa.toInt64) < (0 : Int32)
    · refine own_step (fun _ k => XS.ifNo X0.here hx rfl (hb hby d1_17) rfl ((if0 _ _).trans (tlt hc28).2.1) k) ?_
      show own_Go p e below P s₁ (mkF m 20 #[.val (.ref ar), .val (.int (0 : Int32)), .val (.int (2 : Int32))] [])
      refine own_step (fun _ k => XS.iloadN X0.here hx rfl (hb hby d1_20) rfl k) ?_
      show own_Go p e below P s₁ (mkF m 21 #[.val (.ref ar), .val (.int (0 : Int32)), .val (.int (2 : Int32))] [(.int (2 : Int32))])
      refine own_step (fun _ k => XS.istoreN X0.here hx rfl (hb hby d1_21) rfl (l' := #[.val (.ref ar), .val (.int (2 : Int32)), .val (.int (2 : Int32))]) rfl k) ?_
      show own_Go p e below P s₁ (mkF m 22 #[.val (.ref ar), .val (.int (2 : Int32)), .val (.int (2 : Int32))] [])
      refine own_step (fun _ k => XS.iinc X0.here hx rfl (hb hby d1_22) rfl (l' := #[.val (.ref ar), .val (.int (2 : Int32)), .val (.int (3 : Int32))]) rfl k) ?_
      show own_Go p e below P s₁ (mkF m 25 #[.val (.ref ar), .val (.int (2 : Int32)), .val (.int (3 : Int32))] [])
      refine own_step (fun _ k => XS.goto X0.here hx rfl (pc0 := 25) (pc' := 4) rfl (hb hby d1_25) (by decide) (by decide) k) ?_
      show own_Go p e below P s₁ (mkF m 4 #[.val (.ref ar), .val (.int (2 : Int32)), .val (.int (3 : Int32))] [])
      refine own_step (fun _ k => XS.iloadN X0.here hx rfl (hb hby d1_4) rfl k) ?_
      show own_Go p e below P s₁ (mkF m 5 #[.val (.ref ar), .val (.int (2 : Int32)), .val (.int (3 : Int32))] [(.int (3 : Int32))])
      refine own_step (fun _ k => XS.aloadN X0.here hx rfl (hb hby d1_5) rfl rfl k) ?_
      show own_Go p e below P s₁ (mkF m 6 #[.val (.ref ar), .val (.int (2 : Int32)), .val (.int (3 : Int32))] [(.ref ar), (.int (3 : Int32))])
      obtain ⟨cl29, Ar29, -, S29, M29, -, -⟩ := (id V_ar)
      refine own_step (fun t k => X0.arraylength hx (by rw [e0]; exact Ar29.1) (State.isArrayOf_alike hZ.alike Ar29.2.1) (g := (mkF m 6 #[.val (.ref ar), .val (.int (2 : Int32)), .val (.int (3 : Int32))] [(.ref ar), (.int (3 : Int32))])) rfl rfl (hb hby d1_6) t k) ?_
      rw [len_of S29 M29]
      show own_Go p e below P s₁ (mkF m 7 #[.val (.ref ar), .val (.int (2 : Int32)), .val (.int (3 : Int32))] [(.int (4 : Int32)), (.int (3 : Int32))])
      refine own_step (fun _ k => XS.icmpNo X0.here hx rfl (hb hby d1_7) rfl (tlt (by decide : (3 : Int32) < (4 : Int32))).2.1 k) ?_
      show own_Go p e below P s₁ (mkF m 10 #[.val (.ref ar), .val (.int (2 : Int32)), .val (.int (3 : Int32))] [])
      refine own_step (fun _ k => XS.aloadN X0.here hx rfl (hb hby d1_10) rfl rfl k) ?_
      show own_Go p e below P s₁ (mkF m 11 #[.val (.ref ar), .val (.int (2 : Int32)), .val (.int (3 : Int32))] [(.ref ar)])
      refine own_step (fun _ k => XS.iloadN X0.here hx rfl (hb hby d1_11) rfl k) ?_
      show own_Go p e below P s₁ (mkF m 12 #[.val (.ref ar), .val (.int (2 : Int32)), .val (.int (3 : Int32))] [(.int (3 : Int32)), (.ref ar)])
      obtain ⟨cl30, Ar30, -, S30, M30, H30, -⟩ := (id V_ar)
      have hin30 : ¬ ((3 : Int32) < 0 ∨ cl30.slots.size ≤ ((3 : Int32)).toNatClampNeg) := inb_of S30 ⟨by decide, by decide⟩
      refine own_step (fun t k => X0.daload hx (j := (3 : Int32)) (v := (.double (FP.l2d qd.toInt64))) (by rw [e0]; exact Ar30.1) (State.isArrayOf_alike hZ.alike Ar30.2.1) Ar30.2.2 hin30 (Has.at H30 hin30 rfl) (g := (mkF m 12 #[.val (.ref ar), .val (.int (2 : Int32)), .val (.int (3 : Int32))] [(.int (3 : Int32)), (.ref ar)])) rfl rfl (hb hby d1_12) t k) ?_
      show own_Go p e below P s₁ (mkF m 13 #[.val (.ref ar), .val (.int (2 : Int32)), .val (.int (3 : Int32))] [(.double (FP.l2d qd.toInt64))])
      refine own_step (fun _ k => XS.aloadN X0.here hx rfl (hb hby d1_13) rfl rfl k) ?_
      show own_Go p e below P s₁ (mkF m 14 #[.val (.ref ar), .val (.int (2 : Int32)), .val (.int (3 : Int32))] [(.ref ar), (.double (FP.l2d qd.toInt64))])
      refine own_step (fun _ k => XS.iloadN X0.here hx rfl (hb hby d1_14) rfl k) ?_
      show own_Go p e below P s₁ (mkF m 15 #[.val (.ref ar), .val (.int (2 : Int32)), .val (.int (3 : Int32))] [(.int (2 : Int32)), (.ref ar), (.double (FP.l2d qd.toInt64))])
      obtain ⟨cl31, Ar31, -, S31, M31, H31, -⟩ := (id V_ar)
      have hin31 : ¬ ((2 : Int32) < 0 ∨ cl31.slots.size ≤ ((2 : Int32)).toNatClampNeg) := inb_of S31 ⟨by decide, by decide⟩
      refine own_step (fun t k => X0.daload hx (j := (2 : Int32)) (v := (.double (FP.l2d qc.toInt64))) (by rw [e0]; exact Ar31.1) (State.isArrayOf_alike hZ.alike Ar31.2.1) Ar31.2.2 hin31 (Has.at H31 hin31 rfl) (g := (mkF m 15 #[.val (.ref ar), .val (.int (2 : Int32)), .val (.int (3 : Int32))] [(.int (2 : Int32)), (.ref ar), (.double (FP.l2d qd.toInt64))])) rfl rfl (hb hby d1_15) t k) ?_
      show own_Go p e below P s₁ (mkF m 16 #[.val (.ref ar), .val (.int (2 : Int32)), .val (.int (3 : Int32))] [(.double (FP.l2d qc.toInt64)), (.double (FP.l2d qd.toInt64))])
      refine own_step (fun _ k => XS.dcmpS X0.here hx rfl (hb hby d1_16) rfl (dcmpV_w (own_b qd) (own_b qc) .g) k) ?_
      show own_Go p e below P s₁ (mkF m 17 #[.val (.ref ar), .val (.int (2 : Int32)), .val (.int (3 : Int32))] [(.int (lcmpW qd.toInt64 qc.toInt64))])
      by_cases hc32 : (lcmpW qd.toInt64 qc.toInt64) < (0 : Int32)
      · refine own_step (fun _ k => XS.ifNo X0.here hx rfl (hb hby d1_17) rfl ((if0 _ _).trans (tlt hc32).2.1) k) ?_
        show own_Go p e below P s₁ (mkF m 20 #[.val (.ref ar), .val (.int (2 : Int32)), .val (.int (3 : Int32))] [])
        refine own_step (fun _ k => XS.iloadN X0.here hx rfl (hb hby d1_20) rfl k) ?_
        show own_Go p e below P s₁ (mkF m 21 #[.val (.ref ar), .val (.int (2 : Int32)), .val (.int (3 : Int32))] [(.int (3 : Int32))])
        refine own_step (fun _ k => XS.istoreN X0.here hx rfl (hb hby d1_21) rfl (l' := #[.val (.ref ar), .val (.int (3 : Int32)), .val (.int (3 : Int32))]) rfl k) ?_
        show own_Go p e below P s₁ (mkF m 22 #[.val (.ref ar), .val (.int (3 : Int32)), .val (.int (3 : Int32))] [])
        refine own_step (fun _ k => XS.iinc X0.here hx rfl (hb hby d1_22) rfl (l' := #[.val (.ref ar), .val (.int (3 : Int32)), .val (.int (4 : Int32))]) rfl k) ?_
        show own_Go p e below P s₁ (mkF m 25 #[.val (.ref ar), .val (.int (3 : Int32)), .val (.int (4 : Int32))] [])
        refine own_step (fun _ k => XS.goto X0.here hx rfl (pc0 := 25) (pc' := 4) rfl (hb hby d1_25) (by decide) (by decide) k) ?_
        show own_Go p e below P s₁ (mkF m 4 #[.val (.ref ar), .val (.int (3 : Int32)), .val (.int (4 : Int32))] [])
        refine own_step (fun _ k => XS.iloadN X0.here hx rfl (hb hby d1_4) rfl k) ?_
        show own_Go p e below P s₁ (mkF m 5 #[.val (.ref ar), .val (.int (3 : Int32)), .val (.int (4 : Int32))] [(.int (4 : Int32))])
        refine own_step (fun _ k => XS.aloadN X0.here hx rfl (hb hby d1_5) rfl rfl k) ?_
        show own_Go p e below P s₁ (mkF m 6 #[.val (.ref ar), .val (.int (3 : Int32)), .val (.int (4 : Int32))] [(.ref ar), (.int (4 : Int32))])
        obtain ⟨cl33, Ar33, -, S33, M33, -, -⟩ := (id V_ar)
        refine own_step (fun t k => X0.arraylength hx (by rw [e0]; exact Ar33.1) (State.isArrayOf_alike hZ.alike Ar33.2.1) (g := (mkF m 6 #[.val (.ref ar), .val (.int (3 : Int32)), .val (.int (4 : Int32))] [(.ref ar), (.int (4 : Int32))])) rfl rfl (hb hby d1_6) t k) ?_
        rw [len_of S33 M33]
        show own_Go p e below P s₁ (mkF m 7 #[.val (.ref ar), .val (.int (3 : Int32)), .val (.int (4 : Int32))] [(.int (4 : Int32)), (.int (4 : Int32))])
        refine own_step (fun _ k => XS.icmpYes X0.here hx rfl (pc0 := 7) (pc' := 28) rfl (hb hby d1_7) rfl (flt (by decide : ¬ ((4 : Int32) < (4 : Int32)))).2.1 (by decide) (by decide) k) ?_
        show own_Go p e below P s₁ (mkF m 28 #[.val (.ref ar), .val (.int (3 : Int32)), .val (.int (4 : Int32))] [])
        refine own_step (fun _ k => XS.iloadN X0.here hx rfl (hb hby d1_28) rfl k) ?_
        show own_Go p e below P s₁ (mkF m 29 #[.val (.ref ar), .val (.int (3 : Int32)), .val (.int (4 : Int32))] [(.int (3 : Int32))])
        obtain ⟨fs, hr, hrun, hended, hW, hsame⟩ := X0.leave (v := some (.int (3 : Int32))) (fun h => by rw [Bd.returns] at h; cases h)
        refine ⟨_, _, retOut X0 hx (t := .int) Bd.returns rfl (Or.inl ⟨rfl, Or.inl rfl, _, rfl⟩) (hb hby d1_29) hr, hrun, hended, hfin _ _ ⟨_, _, rfl, ?_, ⟨_, rfl⟩, hW, hsame.mono (by decide) (by decide)⟩⟩
        show Q14 Z ar kc qa qb qc qd h0 n0 (some (.int (3 : Int32))) s₁.heap _
        rw [e0]
        exact ⟨congrArg (fun z => some (Value.int z)) ((if_neg hc4).trans ((if_pos hc28).trans (if_pos hc32))).symm, N0, rfl⟩
      · refine own_step (fun _ k => XS.ifYes X0.here hx rfl (pc0 := 17) (pc' := 22) rfl (hb hby d1_17) rfl ((if0 _ _).trans (flt hc32).2.1) (by decide) (by decide) k) ?_
        show own_Go p e below P s₁ (mkF m 22 #[.val (.ref ar), .val (.int (2 : Int32)), .val (.int (3 : Int32))] [])
        refine own_step (fun _ k => XS.iinc X0.here hx rfl (hb hby d1_22) rfl (l' := #[.val (.ref ar), .val (.int (2 : Int32)), .val (.int (4 : Int32))]) rfl k) ?_
        show own_Go p e below P s₁ (mkF m 25 #[.val (.ref ar), .val (.int (2 : Int32)), .val (.int (4 : Int32))] [])
        refine own_step (fun _ k => XS.goto X0.here hx rfl (pc0 := 25) (pc' := 4) rfl (hb hby d1_25) (by decide) (by decide) k) ?_
        show own_Go p e below P s₁ (mkF m 4 #[.val (.ref ar), .val (.int (2 : Int32)), .val (.int (4 : Int32))] [])
        refine own_step (fun _ k => XS.iloadN X0.here hx rfl (hb hby d1_4) rfl k) ?_
        show own_Go p e below P s₁ (mkF m 5 #[.val (.ref ar), .val (.int (2 : Int32)), .val (.int (4 : Int32))] [(.int (4 : Int32))])
        refine own_step (fun _ k => XS.aloadN X0.here hx rfl (hb hby d1_5) rfl rfl k) ?_
        show own_Go p e below P s₁ (mkF m 6 #[.val (.ref ar), .val (.int (2 : Int32)), .val (.int (4 : Int32))] [(.ref ar), (.int (4 : Int32))])
        obtain ⟨cl35, Ar35, -, S35, M35, -, -⟩ := (id V_ar)
        refine own_step (fun t k => X0.arraylength hx (by rw [e0]; exact Ar35.1) (State.isArrayOf_alike hZ.alike Ar35.2.1) (g := (mkF m 6 #[.val (.ref ar), .val (.int (2 : Int32)), .val (.int (4 : Int32))] [(.ref ar), (.int (4 : Int32))])) rfl rfl (hb hby d1_6) t k) ?_
        rw [len_of S35 M35]
        show own_Go p e below P s₁ (mkF m 7 #[.val (.ref ar), .val (.int (2 : Int32)), .val (.int (4 : Int32))] [(.int (4 : Int32)), (.int (4 : Int32))])
        refine own_step (fun _ k => XS.icmpYes X0.here hx rfl (pc0 := 7) (pc' := 28) rfl (hb hby d1_7) rfl (flt (by decide : ¬ ((4 : Int32) < (4 : Int32)))).2.1 (by decide) (by decide) k) ?_
        show own_Go p e below P s₁ (mkF m 28 #[.val (.ref ar), .val (.int (2 : Int32)), .val (.int (4 : Int32))] [])
        refine own_step (fun _ k => XS.iloadN X0.here hx rfl (hb hby d1_28) rfl k) ?_
        show own_Go p e below P s₁ (mkF m 29 #[.val (.ref ar), .val (.int (2 : Int32)), .val (.int (4 : Int32))] [(.int (2 : Int32))])
        obtain ⟨fs, hr, hrun, hended, hW, hsame⟩ := X0.leave (v := some (.int (2 : Int32))) (fun h => by rw [Bd.returns] at h; cases h)
        refine ⟨_, _, retOut X0 hx (t := .int) Bd.returns rfl (Or.inl ⟨rfl, Or.inl rfl, _, rfl⟩) (hb hby d1_29) hr, hrun, hended, hfin _ _ ⟨_, _, rfl, ?_, ⟨_, rfl⟩, hW, hsame.mono (by decide) (by decide)⟩⟩
        show Q14 Z ar kc qa qb qc qd h0 n0 (some (.int (2 : Int32))) s₁.heap _
        rw [e0]
        exact ⟨congrArg (fun z => some (Value.int z)) ((if_neg hc4).trans ((if_pos hc28).trans (if_neg hc32))).symm, N0, rfl⟩
    · refine own_step (fun _ k => XS.ifYes X0.here hx rfl (pc0 := 17) (pc' := 22) rfl (hb hby d1_17) rfl ((if0 _ _).trans (flt hc28).2.1) (by decide) (by decide) k) ?_
      show own_Go p e below P s₁ (mkF m 22 #[.val (.ref ar), .val (.int (0 : Int32)), .val (.int (2 : Int32))] [])
      refine own_step (fun _ k => XS.iinc X0.here hx rfl (hb hby d1_22) rfl (l' := #[.val (.ref ar), .val (.int (0 : Int32)), .val (.int (3 : Int32))]) rfl k) ?_
      show own_Go p e below P s₁ (mkF m 25 #[.val (.ref ar), .val (.int (0 : Int32)), .val (.int (3 : Int32))] [])
      refine own_step (fun _ k => XS.goto X0.here hx rfl (pc0 := 25) (pc' := 4) rfl (hb hby d1_25) (by decide) (by decide) k) ?_
      show own_Go p e below P s₁ (mkF m 4 #[.val (.ref ar), .val (.int (0 : Int32)), .val (.int (3 : Int32))] [])
      refine own_step (fun _ k => XS.iloadN X0.here hx rfl (hb hby d1_4) rfl k) ?_
      show own_Go p e below P s₁ (mkF m 5 #[.val (.ref ar), .val (.int (0 : Int32)), .val (.int (3 : Int32))] [(.int (3 : Int32))])
      refine own_step (fun _ k => XS.aloadN X0.here hx rfl (hb hby d1_5) rfl rfl k) ?_
      show own_Go p e below P s₁ (mkF m 6 #[.val (.ref ar), .val (.int (0 : Int32)), .val (.int (3 : Int32))] [(.ref ar), (.int (3 : Int32))])
      obtain ⟨cl37, Ar37, -, S37, M37, -, -⟩ := (id V_ar)
      refine own_step (fun t k => X0.arraylength hx (by rw [e0]; exact Ar37.1) (State.isArrayOf_alike hZ.alike Ar37.2.1) (g := (mkF m 6 #[.val (.ref ar), .val (.int (0 : Int32)), .val (.int (3 : Int32))] [(.ref ar), (.int (3 : Int32))])) rfl rfl (hb hby d1_6) t k) ?_
      rw [len_of S37 M37]
      show own_Go p e below P s₁ (mkF m 7 #[.val (.ref ar), .val (.int (0 : Int32)), .val (.int (3 : Int32))] [(.int (4 : Int32)), (.int (3 : Int32))])
      refine own_step (fun _ k => XS.icmpNo X0.here hx rfl (hb hby d1_7) rfl (tlt (by decide : (3 : Int32) < (4 : Int32))).2.1 k) ?_
      show own_Go p e below P s₁ (mkF m 10 #[.val (.ref ar), .val (.int (0 : Int32)), .val (.int (3 : Int32))] [])
      refine own_step (fun _ k => XS.aloadN X0.here hx rfl (hb hby d1_10) rfl rfl k) ?_
      show own_Go p e below P s₁ (mkF m 11 #[.val (.ref ar), .val (.int (0 : Int32)), .val (.int (3 : Int32))] [(.ref ar)])
      refine own_step (fun _ k => XS.iloadN X0.here hx rfl (hb hby d1_11) rfl k) ?_
      show own_Go p e below P s₁ (mkF m 12 #[.val (.ref ar), .val (.int (0 : Int32)), .val (.int (3 : Int32))] [(.int (3 : Int32)), (.ref ar)])
      obtain ⟨cl38, Ar38, -, S38, M38, H38, -⟩ := (id V_ar)
      have hin38 : ¬ ((3 : Int32) < 0 ∨ cl38.slots.size ≤ ((3 : Int32)).toNatClampNeg) := inb_of S38 ⟨by decide, by decide⟩
      refine own_step (fun t k => X0.daload hx (j := (3 : Int32)) (v := (.double (FP.l2d qd.toInt64))) (by rw [e0]; exact Ar38.1) (State.isArrayOf_alike hZ.alike Ar38.2.1) Ar38.2.2 hin38 (Has.at H38 hin38 rfl) (g := (mkF m 12 #[.val (.ref ar), .val (.int (0 : Int32)), .val (.int (3 : Int32))] [(.int (3 : Int32)), (.ref ar)])) rfl rfl (hb hby d1_12) t k) ?_
      show own_Go p e below P s₁ (mkF m 13 #[.val (.ref ar), .val (.int (0 : Int32)), .val (.int (3 : Int32))] [(.double (FP.l2d qd.toInt64))])
      refine own_step (fun _ k => XS.aloadN X0.here hx rfl (hb hby d1_13) rfl rfl k) ?_
      show own_Go p e below P s₁ (mkF m 14 #[.val (.ref ar), .val (.int (0 : Int32)), .val (.int (3 : Int32))] [(.ref ar), (.double (FP.l2d qd.toInt64))])
      refine own_step (fun _ k => XS.iloadN X0.here hx rfl (hb hby d1_14) rfl k) ?_
      show own_Go p e below P s₁ (mkF m 15 #[.val (.ref ar), .val (.int (0 : Int32)), .val (.int (3 : Int32))] [(.int (0 : Int32)), (.ref ar), (.double (FP.l2d qd.toInt64))])
      obtain ⟨cl39, Ar39, -, S39, M39, H39, -⟩ := (id V_ar)
      have hin39 : ¬ ((0 : Int32) < 0 ∨ cl39.slots.size ≤ ((0 : Int32)).toNatClampNeg) := inb_of S39 ⟨by decide, by decide⟩
      refine own_step (fun t k => X0.daload hx (j := (0 : Int32)) (v := (.double (FP.l2d qa.toInt64))) (by rw [e0]; exact Ar39.1) (State.isArrayOf_alike hZ.alike Ar39.2.1) Ar39.2.2 hin39 (Has.at H39 hin39 rfl) (g := (mkF m 15 #[.val (.ref ar), .val (.int (0 : Int32)), .val (.int (3 : Int32))] [(.int (0 : Int32)), (.ref ar), (.double (FP.l2d qd.toInt64))])) rfl rfl (hb hby d1_15) t k) ?_
      show own_Go p e below P s₁ (mkF m 16 #[.val (.ref ar), .val (.int (0 : Int32)), .val (.int (3 : Int32))] [(.double (FP.l2d qa.toInt64)), (.double (FP.l2d qd.toInt64))])
      refine own_step (fun _ k => XS.dcmpS X0.here hx rfl (hb hby d1_16) rfl (dcmpV_w (own_b qd) (own_b qa) .g) k) ?_
      show own_Go p e below P s₁ (mkF m 17 #[.val (.ref ar), .val (.int (0 : Int32)), .val (.int (3 : Int32))] [(.int (lcmpW qd.toInt64 qa.toInt64))])
      by_cases hc40 : (lcmpW qd.toInt64 qa.toInt64) < (0 : Int32)
      · refine own_step (fun _ k => XS.ifNo X0.here hx rfl (hb hby d1_17) rfl ((if0 _ _).trans (tlt hc40).2.1) k) ?_
        show own_Go p e below P s₁ (mkF m 20 #[.val (.ref ar), .val (.int (0 : Int32)), .val (.int (3 : Int32))] [])
        refine own_step (fun _ k => XS.iloadN X0.here hx rfl (hb hby d1_20) rfl k) ?_
        show own_Go p e below P s₁ (mkF m 21 #[.val (.ref ar), .val (.int (0 : Int32)), .val (.int (3 : Int32))] [(.int (3 : Int32))])
        refine own_step (fun _ k => XS.istoreN X0.here hx rfl (hb hby d1_21) rfl (l' := #[.val (.ref ar), .val (.int (3 : Int32)), .val (.int (3 : Int32))]) rfl k) ?_
        show own_Go p e below P s₁ (mkF m 22 #[.val (.ref ar), .val (.int (3 : Int32)), .val (.int (3 : Int32))] [])
        refine own_step (fun _ k => XS.iinc X0.here hx rfl (hb hby d1_22) rfl (l' := #[.val (.ref ar), .val (.int (3 : Int32)), .val (.int (4 : Int32))]) rfl k) ?_
        show own_Go p e below P s₁ (mkF m 25 #[.val (.ref ar), .val (.int (3 : Int32)), .val (.int (4 : Int32))] [])
        refine own_step (fun _ k => XS.goto X0.here hx rfl (pc0 := 25) (pc' := 4) rfl (hb hby d1_25) (by decide) (by decide) k) ?_
        show own_Go p e below P s₁ (mkF m 4 #[.val (.ref ar), .val (.int (3 : Int32)), .val (.int (4 : Int32))] [])
        refine own_step (fun _ k => XS.iloadN X0.here hx rfl (hb hby d1_4) rfl k) ?_
        show own_Go p e below P s₁ (mkF m 5 #[.val (.ref ar), .val (.int (3 : Int32)), .val (.int (4 : Int32))] [(.int (4 : Int32))])
        refine own_step (fun _ k => XS.aloadN X0.here hx rfl (hb hby d1_5) rfl rfl k) ?_
        show own_Go p e below P s₁ (mkF m 6 #[.val (.ref ar), .val (.int (3 : Int32)), .val (.int (4 : Int32))] [(.ref ar), (.int (4 : Int32))])
        obtain ⟨cl41, Ar41, -, S41, M41, -, -⟩ := (id V_ar)
        refine own_step (fun t k => X0.arraylength hx (by rw [e0]; exact Ar41.1) (State.isArrayOf_alike hZ.alike Ar41.2.1) (g := (mkF m 6 #[.val (.ref ar), .val (.int (3 : Int32)), .val (.int (4 : Int32))] [(.ref ar), (.int (4 : Int32))])) rfl rfl (hb hby d1_6) t k) ?_
        rw [len_of S41 M41]
        show own_Go p e below P s₁ (mkF m 7 #[.val (.ref ar), .val (.int (3 : Int32)), .val (.int (4 : Int32))] [(.int (4 : Int32)), (.int (4 : Int32))])
        refine own_step (fun _ k => XS.icmpYes X0.here hx rfl (pc0 := 7) (pc' := 28) rfl (hb hby d1_7) rfl (flt (by decide : ¬ ((4 : Int32) < (4 : Int32)))).2.1 (by decide) (by decide) k) ?_
        show own_Go p e below P s₁ (mkF m 28 #[.val (.ref ar), .val (.int (3 : Int32)), .val (.int (4 : Int32))] [])
        refine own_step (fun _ k => XS.iloadN X0.here hx rfl (hb hby d1_28) rfl k) ?_
        show own_Go p e below P s₁ (mkF m 29 #[.val (.ref ar), .val (.int (3 : Int32)), .val (.int (4 : Int32))] [(.int (3 : Int32))])
        obtain ⟨fs, hr, hrun, hended, hW, hsame⟩ := X0.leave (v := some (.int (3 : Int32))) (fun h => by rw [Bd.returns] at h; cases h)
        refine ⟨_, _, retOut X0 hx (t := .int) Bd.returns rfl (Or.inl ⟨rfl, Or.inl rfl, _, rfl⟩) (hb hby d1_29) hr, hrun, hended, hfin _ _ ⟨_, _, rfl, ?_, ⟨_, rfl⟩, hW, hsame.mono (by decide) (by decide)⟩⟩
        show Q14 Z ar kc qa qb qc qd h0 n0 (some (.int (3 : Int32))) s₁.heap _
        rw [e0]
        exact ⟨congrArg (fun z => some (Value.int z)) ((if_neg hc4).trans ((if_neg hc28).trans (if_pos hc40))).symm, N0, rfl⟩
      · refine own_step (fun _ k => XS.ifYes X0.here hx rfl (pc0 := 17) (pc' := 22) rfl (hb hby d1_17) rfl ((if0 _ _).trans (flt hc40).2.1) (by decide) (by decide) k) ?_
        show own_Go p e below P s₁ (mkF m 22 #[.val (.ref ar), .val (.int (0 : Int32)), .val (.int (3 : Int32))] [])
        refine own_step (fun _ k => XS.iinc X0.here hx rfl (hb hby d1_22) rfl (l' := #[.val (.ref ar), .val (.int (0 : Int32)), .val (.int (4 : Int32))]) rfl k) ?_
        show own_Go p e below P s₁ (mkF m 25 #[.val (.ref ar), .val (.int (0 : Int32)), .val (.int (4 : Int32))] [])
        refine own_step (fun _ k => XS.goto X0.here hx rfl (pc0 := 25) (pc' := 4) rfl (hb hby d1_25) (by decide) (by decide) k) ?_
        show own_Go p e below P s₁ (mkF m 4 #[.val (.ref ar), .val (.int (0 : Int32)), .val (.int (4 : Int32))] [])
        refine own_step (fun _ k => XS.iloadN X0.here hx rfl (hb hby d1_4) rfl k) ?_
        show own_Go p e below P s₁ (mkF m 5 #[.val (.ref ar), .val (.int (0 : Int32)), .val (.int (4 : Int32))] [(.int (4 : Int32))])
        refine own_step (fun _ k => XS.aloadN X0.here hx rfl (hb hby d1_5) rfl rfl k) ?_
        show own_Go p e below P s₁ (mkF m 6 #[.val (.ref ar), .val (.int (0 : Int32)), .val (.int (4 : Int32))] [(.ref ar), (.int (4 : Int32))])
        obtain ⟨cl43, Ar43, -, S43, M43, -, -⟩ := (id V_ar)
        refine own_step (fun t k => X0.arraylength hx (by rw [e0]; exact Ar43.1) (State.isArrayOf_alike hZ.alike Ar43.2.1) (g := (mkF m 6 #[.val (.ref ar), .val (.int (0 : Int32)), .val (.int (4 : Int32))] [(.ref ar), (.int (4 : Int32))])) rfl rfl (hb hby d1_6) t k) ?_
        rw [len_of S43 M43]
        show own_Go p e below P s₁ (mkF m 7 #[.val (.ref ar), .val (.int (0 : Int32)), .val (.int (4 : Int32))] [(.int (4 : Int32)), (.int (4 : Int32))])
        refine own_step (fun _ k => XS.icmpYes X0.here hx rfl (pc0 := 7) (pc' := 28) rfl (hb hby d1_7) rfl (flt (by decide : ¬ ((4 : Int32) < (4 : Int32)))).2.1 (by decide) (by decide) k) ?_
        show own_Go p e below P s₁ (mkF m 28 #[.val (.ref ar), .val (.int (0 : Int32)), .val (.int (4 : Int32))] [])
        refine own_step (fun _ k => XS.iloadN X0.here hx rfl (hb hby d1_28) rfl k) ?_
        show own_Go p e below P s₁ (mkF m 29 #[.val (.ref ar), .val (.int (0 : Int32)), .val (.int (4 : Int32))] [(.int (0 : Int32))])
        obtain ⟨fs, hr, hrun, hended, hW, hsame⟩ := X0.leave (v := some (.int (0 : Int32))) (fun h => by rw [Bd.returns] at h; cases h)
        refine ⟨_, _, retOut X0 hx (t := .int) Bd.returns rfl (Or.inl ⟨rfl, Or.inl rfl, _, rfl⟩) (hb hby d1_29) hr, hrun, hended, hfin _ _ ⟨_, _, rfl, ?_, ⟨_, rfl⟩, hW, hsame.mono (by decide) (by decide)⟩⟩
        show Q14 Z ar kc qa qb qc qd h0 n0 (some (.int (0 : Int32))) s₁.heap _
        rw [e0]
        exact ⟨congrArg (fun z => some (Value.int z)) ((if_neg hc4).trans ((if_neg hc28).trans (if_neg hc40))).symm, N0, rfl⟩
theorem ef_2 (m : MethodId) (x0 : Int32) (x1 : Int32) : entryFrame m #[(.int x0), (.int x1)] 2 = mkF m 0 #[.val (.int x0), .val (.int x1)] [] := by first | (simp [entryFrame, mkF, argsToLocals, Value.category]; done) | rfl
theorem d2_0 : decode jdk_29_method_69_code 0 = .ok (.iload_n 0, 1) := by decide +kernel
theorem d2_1 : decode jdk_29_method_69_code 1 = .ok (.iload_n 1, 1) := by decide +kernel
theorem d2_2 : decode jdk_29_method_69_code 2 = .ok (.if_icmp .gt 7, 3) := by decide +kernel
theorem d2_9 : decode jdk_29_method_69_code 9 = .ok (.iload_n 1, 1) := by decide +kernel
theorem d2_10 : decode jdk_29_method_69_code 10 = .ok (.ireturn, 1) := by decide +kernel
theorem d2_5 : decode jdk_29_method_69_code 5 = .ok (.iload_n 0, 1) := by decide +kernel
theorem d2_6 : decode jdk_29_method_69_code 6 = .ok (.goto 4, 3) := by decide +kernel
def Q2 (Z : State) (p0 : Int32) (p1 : Int32) (h0 : Heap) (n0 : Nat) (v : Option Value) (h : Heap) (L : List Loc) : Prop := v = some (.int (if p1 < p0 then p1 else p0)) ∧ Fr n0 L ∧ h = h0
set_option maxRecDepth 65536 in
set_option maxHeartbeats 40000000 in
theorem rm2 (l : Launch) (Z : State) (a0 : Array Value) (hw : ∀ d ∈ tables_1, d.before a0 Z = true) (ws : List Jvm.Cond) (p0 : Int32) (p1 : Int32) (h0 : Heap) (n0 : Nat) (Z0 : n0 ≤ h0.size) :
    MetFree l (⟨"java/lang/Math", "min", "(II)I"⟩ : MethodName) (head1 (Jvm.Cond.code (⟨"java/lang/Math", "min", "(II)I"⟩ : MethodName) jdk_29_method_69_code 2 (some .int) :: ws) ({ frames := 0, cells := 0, slots := 0, locals := 0 } : Room)) (fun a U => a = #[(.int p0), (.int p1)] ∧ Z.Warmed39 U.vm ∧ U.heap = h0) (fun _ _ _ _ _ => True) (fun _ U o U' => ∃ v L, o = .returned v ∧ Q2 Z p0 p1 h0 n0 v U'.heap L ∧ FrameEnd U o U' L ({ frames := 0, cells := 0, slots := 0, locals := 0 } : Room).cells ({ frames := 0, cells := 0, slots := 0, locals := 0 } : Room).slots) := by
  refine MetFree.of_bodySF (Jvm.Free.JP.mathPlain rfl (by decide +kernel)) hisR ?_
  intro p e s m args below meth c s₁ Bd hml0 hP hK
  obtain ⟨rfl, hZ, hh⟩ := hP
  have hx := Bd.exec
  have hby := Bd.bytes
  have hml : c.maxLocals = 2 := hml0
  have hown : s.vm.findClass "java/lang/Math" = some m.cls := findClass_of_methodNamed Bd.named
  have hnm := (name_of_methodNamed Bd.named Bd.method).1
  have X0 : Stand p l e ({ frames := 0, cells := 0, slots := 0, locals := 0 } : Room) s m #[(.int p0), (.int p1)] below meth c s₁ [] 0 0 := Stand.of_body Bd
  have e0 : s₁.heap = h0 := by rw [← hh, Bd.state]; rfl
  have N0 := Fr.nil n0
  refine own_all ?_
  intro P hfin
  refine own_cast (ef_2 m p0 p1) ?_
  show own_Go p e below P s₁ (mkF m 0 #[.val (.int p0), .val (.int p1)] [])
  refine own_step (fun _ k => XS.iloadN X0.here hx rfl (hb hby d2_0) rfl k) ?_
  show own_Go p e below P s₁ (mkF m 1 #[.val (.int p0), .val (.int p1)] [(.int p0)])
  refine own_step (fun _ k => XS.iloadN X0.here hx rfl (hb hby d2_1) rfl k) ?_
  show own_Go p e below P s₁ (mkF m 2 #[.val (.int p0), .val (.int p1)] [(.int p1), (.int p0)])
  by_cases hc1 : p1 < p0
  · refine own_step (fun _ k => XS.icmpYes X0.here hx rfl (pc0 := 2) (pc' := 9) rfl (hb hby d2_2) rfl (tlt hc1).2.2.1 (by decide) (by decide) k) ?_
    show own_Go p e below P s₁ (mkF m 9 #[.val (.int p0), .val (.int p1)] [])
    refine own_step (fun _ k => XS.iloadN X0.here hx rfl (hb hby d2_9) rfl k) ?_
    show own_Go p e below P s₁ (mkF m 10 #[.val (.int p0), .val (.int p1)] [(.int p1)])
    obtain ⟨fs, hr, hrun, hended, hW, hsame⟩ := X0.leave (v := some (.int p1)) (fun h => by rw [Bd.returns] at h; cases h)
    refine ⟨_, _, retOut X0 hx (t := .int) Bd.returns rfl (Or.inl ⟨rfl, Or.inl rfl, _, rfl⟩) (hb hby d2_10) hr, hrun, hended, hfin _ _ ⟨_, _, rfl, ?_, ⟨_, rfl⟩, hW, hsame.mono (by decide) (by decide)⟩⟩
    show Q2 Z p0 p1 h0 n0 (some (.int p1)) s₁.heap _
    rw [e0]
    exact ⟨(congrArg (fun z => some (Value.int z)) (if_pos hc1).symm), N0, rfl⟩
  · refine own_step (fun _ k => XS.icmpNo X0.here hx rfl (hb hby d2_2) rfl (flt hc1).2.2.1 k) ?_
    show own_Go p e below P s₁ (mkF m 5 #[.val (.int p0), .val (.int p1)] [])
    refine own_step (fun _ k => XS.iloadN X0.here hx rfl (hb hby d2_5) rfl k) ?_
    show own_Go p e below P s₁ (mkF m 6 #[.val (.int p0), .val (.int p1)] [(.int p0)])
    refine own_step (fun _ k => XS.goto X0.here hx rfl (pc0 := 6) (pc' := 10) rfl (hb hby d2_6) (by decide) (by decide) k) ?_
    show own_Go p e below P s₁ (mkF m 10 #[.val (.int p0), .val (.int p1)] [(.int p0)])
    obtain ⟨fs, hr, hrun, hended, hW, hsame⟩ := X0.leave (v := some (.int p0)) (fun h => by rw [Bd.returns] at h; cases h)
    refine ⟨_, _, retOut X0 hx (t := .int) Bd.returns rfl (Or.inl ⟨rfl, Or.inl rfl, _, rfl⟩) (hb hby d2_10) hr, hrun, hended, hfin _ _ ⟨_, _, rfl, ?_, ⟨_, rfl⟩, hW, hsame.mono (by decide) (by decide)⟩⟩
    show Q2 Z p0 p1 h0 n0 (some (.int p0)) s₁.heap _
    rw [e0]
    exact ⟨(congrArg (fun z => some (Value.int z)) (if_neg hc1).symm), N0, rfl⟩
theorem ef_0 (m : MethodId) (x0 : Int32) (x1 : Int32) (x2 : Int32) (x3 : Int32) (x4 : Int32) : entryFrame m #[(.int x0), (.int x1), (.int x2), (.int x3), (.int x4)] maxLocals = mkF m 0 #[.val (.int x0), .val (.int x1), .val (.int x2), .val (.int x3), .val (.int x4), .unset, .unset, .unset, .unset, .unset] [] := by first | (simp [entryFrame, mkF, argsToLocals, Value.category, maxLocals]; done) | rfl
theorem pn_com_example_rulewright_rulewright_evolution_GenerationIndexOfBestPinLaw : plainName "com/example/rulewright/rulewright/evolution/GenerationIndexOfBestPinLaw" = true := by first | (simp [plainName, overriddenIn]; done) | decide +kernel
theorem pd__AD__I : parseMethodDescriptor "([D)I" = some ⟨[(.array .double)], some .int⟩ := by decide +kernel
theorem pd__II__I : parseMethodDescriptor "(II)I" = some ⟨[.int, .int], some .int⟩ := by decide +kernel
def Q0 (Z : State) (p0 : Int32) (p1 : Int32) (p2 : Int32) (p3 : Int32) (p4 : Int32) (h0 : Heap) (n0 : Nat) (v : Option Value) (h : Heap) (L : List Loc) : Prop := v = some (.int 1) ∧ Fr n0 L
set_option maxRecDepth 65536 in
set_option maxHeartbeats 40000000 in
theorem rm0 (l : Launch) (Z : State) (a0 : Array Value) (hw : ∀ d ∈ tables_1, d.before a0 Z = true) (ws : List Jvm.Cond) (p0 : Int32) (p1 : Int32) (p2 : Int32) (p3 : Int32) (p4 : Int32) (h0 : Heap) (n0 : Nat) (Z0 : n0 ≤ h0.size) :
    MetFree l x (head1 (Jvm.Cond.code x code maxLocals ret :: ws) room_1) (fun a U => a = #[(.int p0), (.int p1), (.int p2), (.int p3), (.int p4)] ∧ Z.Warmed39 U.vm ∧ U.heap = h0) (fun _ _ _ _ _ => True) (fun _ U o U' => ∃ v L, o = .returned v ∧ Q0 Z p0 p1 p2 p3 p4 h0 n0 v U'.heap L ∧ FrameEnd U o U' L room_1.cells room_1.slots) := by
  refine MetFree.of_bodySF (plainFor_of_name pn_com_example_rulewright_rulewright_evolution_GenerationIndexOfBestPinLaw) hisR ?_
  intro p e s m args below meth c s₁ Bd hml0 hP hK
  obtain ⟨rfl, hZ, hh⟩ := hP
  have hx := Bd.exec
  have hby := Bd.bytes
  have hml : c.maxLocals = 10 := hml0
  have hown : s.vm.findClass "com/example/rulewright/rulewright/evolution/GenerationIndexOfBestPinLaw" = some m.cls := findClass_of_methodNamed Bd.named
  have hnm := (name_of_methodNamed Bd.named Bd.method).1
  have X0 : Stand p l e room_1 s m #[(.int p0), (.int p1), (.int p2), (.int p3), (.int p4)] below meth c s₁ [] 0 0 := Stand.of_body Bd
  have e0 : s₁.heap = h0 := by rw [← hh, Bd.state]; rfl
  have N0 := Fr.nil n0
  refine own_all ?_
  intro P hfin
  refine own_cast (ef_0 m p0 p1 p2 p3 p4) ?_
  show own_Go p e below P s₁ (mkF m 0 #[.val (.int p0), .val (.int p1), .val (.int p2), .val (.int p3), .val (.int p4), .unset, .unset, .unset, .unset, .unset] [])
  refine own_step (fun _ k => XS.iloadN X0.here hx rfl (hb hby at_0) rfl k) ?_
  show own_Go p e below P s₁ (mkF m 1 #[.val (.int p0), .val (.int p1), .val (.int p2), .val (.int p3), .val (.int p4), .unset, .unset, .unset, .unset, .unset] [(.int p0)])
  refine own_step (fun _ k => XS.iconst X0.here hx rfl (hb hby at_1) k) ?_
  show own_Go p e below P s₁ (mkF m 2 #[.val (.int p0), .val (.int p1), .val (.int p2), .val (.int p3), .val (.int p4), .unset, .unset, .unset, .unset, .unset] [(.int (3 : Int32)), (.int p0)])
  refine own_step (fun _ k => XS.iand X0.here hx rfl (hb hby at_2) rfl k) ?_
  show own_Go p e below P s₁ (mkF m 3 #[.val (.int p0), .val (.int p1), .val (.int p2), .val (.int p3), .val (.int p4), .unset, .unset, .unset, .unset, .unset] [(.int (p0 &&& (3 : Int32)))])
  refine own_step (fun _ k => XS.iconst X0.here hx rfl (hb hby at_3) k) ?_
  show own_Go p e below P s₁ (mkF m 4 #[.val (.int p0), .val (.int p1), .val (.int p2), .val (.int p3), .val (.int p4), .unset, .unset, .unset, .unset, .unset] [(.int (1 : Int32)), (.int (p0 &&& (3 : Int32)))])
  refine own_step (fun _ k => XS.iadd X0.here hx rfl (hb hby at_4) rfl k) ?_
  show own_Go p e below P s₁ (mkF m 5 #[.val (.int p0), .val (.int p1), .val (.int p2), .val (.int p3), .val (.int p4), .unset, .unset, .unset, .unset, .unset] [(.int ((p0 &&& (3 : Int32)) + (1 : Int32)))])
  generalize hn_nn : (p0 &&& (3 : Int32)) + (1 : Int32) = nn
  have hnn : nn = 1 ∨ nn = 2 ∨ nn = 3 ∨ nn = 4 := hn_nn ▸ own_four p0
  rcases hnn with rfl | rfl | rfl | rfl
  · show own_Go p e below P s₁ (mkF m 5 #[.val (.int p0), .val (.int p1), .val (.int p2), .val (.int p3), .val (.int p4), .unset, .unset, .unset, .unset, .unset] [(.int (1 : Int32))])
    refine own_step (fun _ k => XS.istore X0.here hx rfl (hb hby at_5) rfl (l' := #[.val (.int p0), .val (.int p1), .val (.int p2), .val (.int p3), .val (.int p4), .val (.int (1 : Int32)), .unset, .unset, .unset, .unset]) rfl k) ?_
    show own_Go p e below P s₁ (mkF m 7 #[.val (.int p0), .val (.int p1), .val (.int p2), .val (.int p3), .val (.int p4), .val (.int (1 : Int32)), .unset, .unset, .unset, .unset] [])
    refine own_step (fun _ k => XS.iload X0.here hx rfl (hb hby at_7) rfl k) ?_
    show own_Go p e below P s₁ (mkF m 9 #[.val (.int p0), .val (.int p1), .val (.int p2), .val (.int p3), .val (.int p4), .val (.int (1 : Int32)), .unset, .unset, .unset, .unset] [(.int (1 : Int32))])
    obtain ⟨T1, h1, k1, X1, e1, E1, A1, st1⟩ := newP X0 hx hZ (hw _ (List.mem_of_getElem? (i := 0) rfl)) e0 (g := (mkF m 9 #[.val (.int p0), .val (.int p1), .val (.int p2), .val (.int p3), .val (.int p4), .val (.int (1 : Int32)), .unset, .unset, .unset, .unset] [(.int (1 : Int32))])) rfl (hb hby at_9) rfl (by decide) (cap := 1) (by decide) (by decide) (by decide) (by decide)
    obtain ⟨b1, g1⟩ : ∃ z, z = h0.size := ⟨_, rfl⟩
    rw [← g1] at A1 st1
    have g_b1 : n0 ≤ b1 := Nat.le_trans Z0 (Nat.le_of_eq g1.symm)
    have sz_b1 : h0.size ≤ b1 := Nat.le_trans (Keep.refl h0 []).1 (Nat.le_of_eq g1.symm)
    have V_b1 : Arv Z h1 b1 k1 .double (1 : Int32) [(.double (FP.l2d 0))] (.double (FP.l2d 0)) := (Arv.newD A1 (by decide)).pad (pad_rep [] (.double (FP.l2d 0)) 1)
    refine own_step st1 ?_
    show own_Go p e below P T1 (mkF m 11 #[.val (.int p0), .val (.int p1), .val (.int p2), .val (.int p3), .val (.int p4), .val (.int (1 : Int32)), .unset, .unset, .unset, .unset] [(.ref b1)])
    refine own_step (fun _ k => XS.astore X1.here hx rfl (hb hby at_11) rfl rfl (l' := #[.val (.int p0), .val (.int p1), .val (.int p2), .val (.int p3), .val (.int p4), .val (.int (1 : Int32)), .val (.ref b1), .unset, .unset, .unset]) rfl k) ?_
    show own_Go p e below P T1 (mkF m 13 #[.val (.int p0), .val (.int p1), .val (.int p2), .val (.int p3), .val (.int p4), .val (.int (1 : Int32)), .val (.ref b1), .unset, .unset, .unset] [])
    refine own_step (fun _ k => XS.aload X1.here hx rfl (hb hby at_13) rfl rfl k) ?_
    show own_Go p e below P T1 (mkF m 15 #[.val (.int p0), .val (.int p1), .val (.int p2), .val (.int p3), .val (.int p4), .val (.int (1 : Int32)), .val (.ref b1), .unset, .unset, .unset] [(.ref b1)])
    refine own_step (fun _ k => XS.iconst X1.here hx rfl (hb hby at_15) k) ?_
    show own_Go p e below P T1 (mkF m 16 #[.val (.int p0), .val (.int p1), .val (.int p2), .val (.int p3), .val (.int p4), .val (.int (1 : Int32)), .val (.ref b1), .unset, .unset, .unset] [(.int (0 : Int32)), (.ref b1)])
    refine own_step (fun _ k => XS.iloadN X1.here hx rfl (hb hby at_16) rfl k) ?_
    show own_Go p e below P T1 (mkF m 17 #[.val (.int p0), .val (.int p1), .val (.int p2), .val (.int p3), .val (.int p4), .val (.int (1 : Int32)), .val (.ref b1), .unset, .unset, .unset] [(.int p1), (.int (0 : Int32)), (.ref b1)])
    refine own_step (fun _ k => XS.i2dS X1.here hx rfl (hb hby at_17) rfl (i2d_w _) k) ?_
    show own_Go p e below P T1 (mkF m 18 #[.val (.int p0), .val (.int p1), .val (.int p2), .val (.int p3), .val (.int p4), .val (.int (1 : Int32)), .val (.ref b1), .unset, .unset, .unset] [(.double (FP.l2d p1.toInt64)), (.int (0 : Int32)), (.ref b1)])
    obtain ⟨cl2, Ar2, q2, S2, M2, H2, G2⟩ := (id V_b1)
    have hin2 : ¬ ((0 : Int32) < 0 ∨ cl2.slots.size ≤ ((0 : Int32)).toNatClampNeg) := inb_of S2 ⟨by decide, by decide⟩
    obtain ⟨T2, h2, X2, e2, W2, st2⟩ := stD X1 hx hZ e1 Ar2 (j := (0 : Int32)) hin2 (g := (mkF m 18 #[.val (.int p0), .val (.int p1), .val (.int p2), .val (.int p3), .val (.int p4), .val (.int (1 : Int32)), .val (.ref b1), .unset, .unset, .unset] [(.double (FP.l2d p1.toInt64)), (.int (0 : Int32)), (.ref b1)])) rfl rfl (hb hby at_18)
    have V2 : Arv Z h2 b1 k1 .double (1 : Int32) [(.double (FP.l2d p1.toInt64))] (.double (FP.l2d 0)) := Arv.set Ar2 q2 S2 M2 H2 G2 rfl W2 0 rfl (Nat.le_of_ble_eq_true rfl)
    have N2 := Fr.snoc X2 N0 g_b1
    refine own_step st2 ?_
    show own_Go p e below P T2 (mkF m 19 #[.val (.int p0), .val (.int p1), .val (.int p2), .val (.int p3), .val (.int p4), .val (.int (1 : Int32)), .val (.ref b1), .unset, .unset, .unset] [])
    refine own_step (fun _ k => XS.iload X2.here hx rfl (hb hby at_19) rfl k) ?_
    show own_Go p e below P T2 (mkF m 21 #[.val (.int p0), .val (.int p1), .val (.int p2), .val (.int p3), .val (.int p4), .val (.int (1 : Int32)), .val (.ref b1), .unset, .unset, .unset] [(.int (1 : Int32))])
    refine own_step (fun _ k => XS.iconst X2.here hx rfl (hb hby at_21) k) ?_
    show own_Go p e below P T2 (mkF m 22 #[.val (.int p0), .val (.int p1), .val (.int p2), .val (.int p3), .val (.int p4), .val (.int (1 : Int32)), .val (.ref b1), .unset, .unset, .unset] [(.int (1 : Int32)), (.int (1 : Int32))])
    refine own_step (fun _ k => XS.icmpYes X2.here hx rfl (pc0 := 22) (pc' := 31) rfl (hb hby at_22) rfl (flt (by decide : ¬ ((1 : Int32) < (1 : Int32)))).2.2.2 (by decide) (by decide) k) ?_
    show own_Go p e below P T2 (mkF m 31 #[.val (.int p0), .val (.int p1), .val (.int p2), .val (.int p3), .val (.int p4), .val (.int (1 : Int32)), .val (.ref b1), .unset, .unset, .unset] [])
    refine own_step (fun _ k => XS.iload X2.here hx rfl (hb hby at_31) rfl k) ?_
    show own_Go p e below P T2 (mkF m 33 #[.val (.int p0), .val (.int p1), .val (.int p2), .val (.int p3), .val (.int p4), .val (.int (1 : Int32)), .val (.ref b1), .unset, .unset, .unset] [(.int (1 : Int32))])
    refine own_step (fun _ k => XS.iconst X2.here hx rfl (hb hby at_33) k) ?_
    show own_Go p e below P T2 (mkF m 34 #[.val (.int p0), .val (.int p1), .val (.int p2), .val (.int p3), .val (.int p4), .val (.int (1 : Int32)), .val (.ref b1), .unset, .unset, .unset] [(.int (2 : Int32)), (.int (1 : Int32))])
    refine own_step (fun _ k => XS.icmpYes X2.here hx rfl (pc0 := 34) (pc' := 43) rfl (hb hby at_34) rfl (flt (by decide : ¬ ((2 : Int32) < (1 : Int32)))).2.2.2 (by decide) (by decide) k) ?_
    show own_Go p e below P T2 (mkF m 43 #[.val (.int p0), .val (.int p1), .val (.int p2), .val (.int p3), .val (.int p4), .val (.int (1 : Int32)), .val (.ref b1), .unset, .unset, .unset] [])
    refine own_step (fun _ k => XS.iload X2.here hx rfl (hb hby at_43) rfl k) ?_
    show own_Go p e below P T2 (mkF m 45 #[.val (.int p0), .val (.int p1), .val (.int p2), .val (.int p3), .val (.int p4), .val (.int (1 : Int32)), .val (.ref b1), .unset, .unset, .unset] [(.int (1 : Int32))])
    refine own_step (fun _ k => XS.iconst X2.here hx rfl (hb hby at_45) k) ?_
    show own_Go p e below P T2 (mkF m 46 #[.val (.int p0), .val (.int p1), .val (.int p2), .val (.int p3), .val (.int p4), .val (.int (1 : Int32)), .val (.ref b1), .unset, .unset, .unset] [(.int (3 : Int32)), (.int (1 : Int32))])
    refine own_step (fun _ k => XS.icmpYes X2.here hx rfl (pc0 := 46) (pc' := 56) rfl (hb hby at_46) rfl (flt (by decide : ¬ ((3 : Int32) < (1 : Int32)))).2.2.2 (by decide) (by decide) k) ?_
    show own_Go p e below P T2 (mkF m 56 #[.val (.int p0), .val (.int p1), .val (.int p2), .val (.int p3), .val (.int p4), .val (.int (1 : Int32)), .val (.ref b1), .unset, .unset, .unset] [])
    refine own_step (fun _ k => XS.iloadN X2.here hx rfl (hb hby at_56) rfl k) ?_
    show own_Go p e below P T2 (mkF m 57 #[.val (.int p0), .val (.int p1), .val (.int p2), .val (.int p3), .val (.int p4), .val (.int (1 : Int32)), .val (.ref b1), .unset, .unset, .unset] [(.int p1)])
    refine own_step (fun _ k => XS.istore X2.here hx rfl (hb hby at_57) rfl (l' := #[.val (.int p0), .val (.int p1), .val (.int p2), .val (.int p3), .val (.int p4), .val (.int (1 : Int32)), .val (.ref b1), .val (.int p1), .unset, .unset]) rfl k) ?_
    show own_Go p e below P T2 (mkF m 59 #[.val (.int p0), .val (.int p1), .val (.int p2), .val (.int p3), .val (.int p4), .val (.int (1 : Int32)), .val (.ref b1), .val (.int p1), .unset, .unset] [])
    refine own_step (fun _ k => XS.iload X2.here hx rfl (hb hby at_59) rfl k) ?_
    show own_Go p e below P T2 (mkF m 61 #[.val (.int p0), .val (.int p1), .val (.int p2), .val (.int p3), .val (.int p4), .val (.int (1 : Int32)), .val (.ref b1), .val (.int p1), .unset, .unset] [(.int (1 : Int32))])
    refine own_step (fun _ k => XS.iconst X2.here hx rfl (hb hby at_61) k) ?_
    show own_Go p e below P T2 (mkF m 62 #[.val (.int p0), .val (.int p1), .val (.int p2), .val (.int p3), .val (.int p4), .val (.int (1 : Int32)), .val (.ref b1), .val (.int p1), .unset, .unset] [(.int (1 : Int32)), (.int (1 : Int32))])
    refine own_step (fun _ k => XS.icmpYes X2.here hx rfl (pc0 := 62) (pc' := 73) rfl (hb hby at_62) rfl (flt (by decide : ¬ ((1 : Int32) < (1 : Int32)))).2.2.2 (by decide) (by decide) k) ?_
    show own_Go p e below P T2 (mkF m 73 #[.val (.int p0), .val (.int p1), .val (.int p2), .val (.int p3), .val (.int p4), .val (.int (1 : Int32)), .val (.ref b1), .val (.int p1), .unset, .unset] [])
    refine own_step (fun _ k => XS.iload X2.here hx rfl (hb hby at_73) rfl k) ?_
    show own_Go p e below P T2 (mkF m 75 #[.val (.int p0), .val (.int p1), .val (.int p2), .val (.int p3), .val (.int p4), .val (.int (1 : Int32)), .val (.ref b1), .val (.int p1), .unset, .unset] [(.int (1 : Int32))])
    refine own_step (fun _ k => XS.iconst X2.here hx rfl (hb hby at_75) k) ?_
    show own_Go p e below P T2 (mkF m 76 #[.val (.int p0), .val (.int p1), .val (.int p2), .val (.int p3), .val (.int p4), .val (.int (1 : Int32)), .val (.ref b1), .val (.int p1), .unset, .unset] [(.int (2 : Int32)), (.int (1 : Int32))])
    refine own_step (fun _ k => XS.icmpYes X2.here hx rfl (pc0 := 76) (pc' := 87) rfl (hb hby at_76) rfl (flt (by decide : ¬ ((2 : Int32) < (1 : Int32)))).2.2.2 (by decide) (by decide) k) ?_
    show own_Go p e below P T2 (mkF m 87 #[.val (.int p0), .val (.int p1), .val (.int p2), .val (.int p3), .val (.int p4), .val (.int (1 : Int32)), .val (.ref b1), .val (.int p1), .unset, .unset] [])
    refine own_step (fun _ k => XS.iload X2.here hx rfl (hb hby at_87) rfl k) ?_
    show own_Go p e below P T2 (mkF m 89 #[.val (.int p0), .val (.int p1), .val (.int p2), .val (.int p3), .val (.int p4), .val (.int (1 : Int32)), .val (.ref b1), .val (.int p1), .unset, .unset] [(.int (1 : Int32))])
    refine own_step (fun _ k => XS.iconst X2.here hx rfl (hb hby at_89) k) ?_
    show own_Go p e below P T2 (mkF m 90 #[.val (.int p0), .val (.int p1), .val (.int p2), .val (.int p3), .val (.int p4), .val (.int (1 : Int32)), .val (.ref b1), .val (.int p1), .unset, .unset] [(.int (3 : Int32)), (.int (1 : Int32))])
    refine own_step (fun _ k => XS.icmpYes X2.here hx rfl (pc0 := 90) (pc' := 102) rfl (hb hby at_90) rfl (flt (by decide : ¬ ((3 : Int32) < (1 : Int32)))).2.2.2 (by decide) (by decide) k) ?_
    show own_Go p e below P T2 (mkF m 102 #[.val (.int p0), .val (.int p1), .val (.int p2), .val (.int p3), .val (.int p4), .val (.int (1 : Int32)), .val (.ref b1), .val (.int p1), .unset, .unset] [])
    refine own_step (fun _ k => XS.iloadN X2.here hx rfl (hb hby at_102) rfl k) ?_
    show own_Go p e below P T2 (mkF m 103 #[.val (.int p0), .val (.int p1), .val (.int p2), .val (.int p3), .val (.int p4), .val (.int (1 : Int32)), .val (.ref b1), .val (.int p1), .unset, .unset] [(.int p1)])
    refine own_step (fun _ k => XS.iload X2.here hx rfl (hb hby at_103) rfl k) ?_
    show own_Go p e below P T2 (mkF m 105 #[.val (.int p0), .val (.int p1), .val (.int p2), .val (.int p3), .val (.int p4), .val (.int (1 : Int32)), .val (.ref b1), .val (.int p1), .unset, .unset] [(.int p1), (.int p1)])
    refine own_step (fun _ k => XS.icmpNo X2.here hx rfl (hb hby at_105) rfl (teq (rfl : p1 = p1)).2 k) ?_
    show own_Go p e below P T2 (mkF m 108 #[.val (.int p0), .val (.int p1), .val (.int p2), .val (.int p3), .val (.int p4), .val (.int (1 : Int32)), .val (.ref b1), .val (.int p1), .unset, .unset] [])
    refine own_step (fun _ k => XS.iconst X2.here hx rfl (hb hby at_108) k) ?_
    show own_Go p e below P T2 (mkF m 109 #[.val (.int p0), .val (.int p1), .val (.int p2), .val (.int p3), .val (.int p4), .val (.int (1 : Int32)), .val (.ref b1), .val (.int p1), .unset, .unset] [(.int (0 : Int32))])
    refine own_step (fun _ k => XS.istore X2.here hx rfl (hb hby at_109) rfl (l' := #[.val (.int p0), .val (.int p1), .val (.int p2), .val (.int p3), .val (.int p4), .val (.int (1 : Int32)), .val (.ref b1), .val (.int p1), .val (.int (0 : Int32)), .unset]) rfl k) ?_
    show own_Go p e below P T2 (mkF m 111 #[.val (.int p0), .val (.int p1), .val (.int p2), .val (.int p3), .val (.int p4), .val (.int (1 : Int32)), .val (.ref b1), .val (.int p1), .val (.int (0 : Int32)), .unset] [])
    refine own_step (fun _ k => XS.goto X2.here hx rfl (pc0 := 111) (pc' := 141) rfl (hb hby at_111) (by decide) (by decide) k) ?_
    show own_Go p e below P T2 (mkF m 141 #[.val (.int p0), .val (.int p1), .val (.int p2), .val (.int p3), .val (.int p4), .val (.int (1 : Int32)), .val (.ref b1), .val (.int p1), .val (.int (0 : Int32)), .unset] [])
    refine own_step (fun _ k => XS.aload X2.here hx rfl (hb hby at_141) rfl rfl k) ?_
    show own_Go p e below P T2 (mkF m 143 #[.val (.int p0), .val (.int p1), .val (.int p2), .val (.int p3), .val (.int p4), .val (.int (1 : Int32)), .val (.ref b1), .val (.int p1), .val (.int (0 : Int32)), .unset] [(.ref b1)])
    obtain ⟨_, _, ⟨T3, L3, k3, n3⟩, -, X3, ⟨Lc3, hQ3, l3, y3, z3⟩, st3⟩ := Jvm.LawKit.callS X2 hx (y := (⟨"com/example/rulewright/rulewright/evolution/Generation", "indexOfBest", "([D)I"⟩ : MethodName)) hown (mvT hZ (hw _ (List.mem_of_getElem? (i := 1) rfl))) (mvT hZ (hw _ (List.mem_of_getElem? (i := 2) rfl))) (mvT hZ (hw _ (List.mem_of_getElem? (i := 3) rfl))) (mvT hZ (hw _ (List.mem_of_getElem? (i := 4) rfl))) (by decide) (backOf (W := 0) (rm11 l Z a0 hw [] b1 k1 p1 p2 p3 p4 h2 n0 (Nat.le_trans (Nat.le_trans Z0 E1.1) (Keep.of_wr W2).1) V2) hZ (hw _ (List.mem_of_getElem? (i := 4) rfl)) (hw _ (List.mem_of_getElem? (i := 3) rfl)) (by decide) (by decide)) (g := (mkF m 143 #[.val (.int p0), .val (.int p1), .val (.int p2), .val (.int p3), .val (.int p4), .val (.int (1 : Int32)), .val (.ref b1), .val (.int p1), .val (.int (0 : Int32)), .unset] [(.ref b1)])) rfl (by rw [hml]; rfl) (argsL := [(.ref b1)]) (rest := []) (lenOf pd__AD__I rfl) rfl (by show 2 * 0 + _ ≤ _; exact Nat.le_of_eq rfl) (hb hby at_143) (fun _ _ => ⟨rfl, e2, (by decide : 1 + 0 ≤ _), (by decide : 1 + 0 ≤ _)⟩)
    dsimp only [Pt.U, Pt.locs, Pt.cells, Pt.slots] at X3 l3 y3 z3 st3 hQ3
    subst l3 y3 z3
    obtain ⟨rfl, N3q, e3⟩ := hQ3
    have N3 := Fr.app N2 N3q
    refine own_step st3 ?_
    show own_Go p e below P T3 (mkF m 146 #[.val (.int p0), .val (.int p1), .val (.int p2), .val (.int p3), .val (.int p4), .val (.int (1 : Int32)), .val (.ref b1), .val (.int p1), .val (.int (0 : Int32)), .unset] [(.int (own_i1 p1 p2 p3 p4))])
    refine own_step (fun _ k => XS.istore X3.here hx rfl (hb hby at_146) rfl (l' := #[.val (.int p0), .val (.int p1), .val (.int p2), .val (.int p3), .val (.int p4), .val (.int (1 : Int32)), .val (.ref b1), .val (.int p1), .val (.int (0 : Int32)), .val (.int (own_i1 p1 p2 p3 p4))]) rfl k) ?_
    show own_Go p e below P T3 (mkF m 148 #[.val (.int p0), .val (.int p1), .val (.int p2), .val (.int p3), .val (.int p4), .val (.int (1 : Int32)), .val (.ref b1), .val (.int p1), .val (.int (0 : Int32)), .val (.int (own_i1 p1 p2 p3 p4))] [])
    refine own_step (fun _ k => XS.iload X3.here hx rfl (hb hby at_148) rfl k) ?_
    show own_Go p e below P T3 (mkF m 150 #[.val (.int p0), .val (.int p1), .val (.int p2), .val (.int p3), .val (.int p4), .val (.int (1 : Int32)), .val (.ref b1), .val (.int p1), .val (.int (0 : Int32)), .val (.int (own_i1 p1 p2 p3 p4))] [(.int (own_i1 p1 p2 p3 p4))])
    refine own_step (fun _ k => XS.iload X3.here hx rfl (hb hby at_150) rfl k) ?_
    show own_Go p e below P T3 (mkF m 152 #[.val (.int p0), .val (.int p1), .val (.int p2), .val (.int p3), .val (.int p4), .val (.int (1 : Int32)), .val (.ref b1), .val (.int p1), .val (.int (0 : Int32)), .val (.int (own_i1 p1 p2 p3 p4))] [(.int (0 : Int32)), (.int (own_i1 p1 p2 p3 p4))])
    refine own_step (fun _ k => XS.icmpNo X3.here hx rfl (hb hby at_152) rfl (teq (own_e1_0 p1 p2 p3 p4 )).2 k) ?_
    show own_Go p e below P T3 (mkF m 155 #[.val (.int p0), .val (.int p1), .val (.int p2), .val (.int p3), .val (.int p4), .val (.int (1 : Int32)), .val (.ref b1), .val (.int p1), .val (.int (0 : Int32)), .val (.int (own_i1 p1 p2 p3 p4))] [])
    refine own_step (fun _ k => XS.iconst X3.here hx rfl (hb hby at_155) k) ?_
    show own_Go p e below P T3 (mkF m 156 #[.val (.int p0), .val (.int p1), .val (.int p2), .val (.int p3), .val (.int p4), .val (.int (1 : Int32)), .val (.ref b1), .val (.int p1), .val (.int (0 : Int32)), .val (.int (own_i1 p1 p2 p3 p4))] [(.int (1 : Int32))])
    refine own_step (fun _ k => XS.goto X3.here hx rfl (pc0 := 156) (pc' := 160) rfl (hb hby at_156) (by decide) (by decide) k) ?_
    show own_Go p e below P T3 (mkF m 160 #[.val (.int p0), .val (.int p1), .val (.int p2), .val (.int p3), .val (.int p4), .val (.int (1 : Int32)), .val (.ref b1), .val (.int p1), .val (.int (0 : Int32)), .val (.int (own_i1 p1 p2 p3 p4))] [(.int (1 : Int32))])
    obtain ⟨fs, hr, hrun, hended, hW, hsame⟩ := X3.leave (v := some (.int (1 : Int32))) (fun h => by rw [Bd.returns] at h; cases h)
    refine ⟨_, _, retN X3 hx (t := .boolean) Bd.returns (by simp) (hb hby at_160) hr, hrun, hended, hfin _ _ ⟨_, _, rfl, ?_, ⟨_, rfl⟩, hW, hsame.mono (by decide) (by decide)⟩⟩
    show Q0 Z p0 p1 p2 p3 p4 h0 n0 (some (.int (1 : Int32))) T3.heap _
    rw [e3]
    exact ⟨rfl, N3⟩
  · show own_Go p e below P s₁ (mkF m 5 #[.val (.int p0), .val (.int p1), .val (.int p2), .val (.int p3), .val (.int p4), .unset, .unset, .unset, .unset, .unset] [(.int (2 : Int32))])
    refine own_step (fun _ k => XS.istore X0.here hx rfl (hb hby at_5) rfl (l' := #[.val (.int p0), .val (.int p1), .val (.int p2), .val (.int p3), .val (.int p4), .val (.int (2 : Int32)), .unset, .unset, .unset, .unset]) rfl k) ?_
    show own_Go p e below P s₁ (mkF m 7 #[.val (.int p0), .val (.int p1), .val (.int p2), .val (.int p3), .val (.int p4), .val (.int (2 : Int32)), .unset, .unset, .unset, .unset] [])
    refine own_step (fun _ k => XS.iload X0.here hx rfl (hb hby at_7) rfl k) ?_
    show own_Go p e below P s₁ (mkF m 9 #[.val (.int p0), .val (.int p1), .val (.int p2), .val (.int p3), .val (.int p4), .val (.int (2 : Int32)), .unset, .unset, .unset, .unset] [(.int (2 : Int32))])
    obtain ⟨T5, h5, k5, X5, e5, E5, A5, st5⟩ := newP X0 hx hZ (hw _ (List.mem_of_getElem? (i := 0) rfl)) e0 (g := (mkF m 9 #[.val (.int p0), .val (.int p1), .val (.int p2), .val (.int p3), .val (.int p4), .val (.int (2 : Int32)), .unset, .unset, .unset, .unset] [(.int (2 : Int32))])) rfl (hb hby at_9) rfl (by decide) (cap := 2) (by decide) (by decide) (by decide) (by decide)
    obtain ⟨b5, g5⟩ : ∃ z, z = h0.size := ⟨_, rfl⟩
    rw [← g5] at A5 st5
    have g_b5 : n0 ≤ b5 := Nat.le_trans Z0 (Nat.le_of_eq g5.symm)
    have sz_b5 : h0.size ≤ b5 := Nat.le_trans (Keep.refl h0 []).1 (Nat.le_of_eq g5.symm)
    have V_b5 : Arv Z h5 b5 k5 .double (2 : Int32) [(.double (FP.l2d 0)), (.double (FP.l2d 0))] (.double (FP.l2d 0)) := (Arv.newD A5 (by decide)).pad (pad_rep [] (.double (FP.l2d 0)) 2)
    refine own_step st5 ?_
    show own_Go p e below P T5 (mkF m 11 #[.val (.int p0), .val (.int p1), .val (.int p2), .val (.int p3), .val (.int p4), .val (.int (2 : Int32)), .unset, .unset, .unset, .unset] [(.ref b5)])
    refine own_step (fun _ k => XS.astore X5.here hx rfl (hb hby at_11) rfl rfl (l' := #[.val (.int p0), .val (.int p1), .val (.int p2), .val (.int p3), .val (.int p4), .val (.int (2 : Int32)), .val (.ref b5), .unset, .unset, .unset]) rfl k) ?_
    show own_Go p e below P T5 (mkF m 13 #[.val (.int p0), .val (.int p1), .val (.int p2), .val (.int p3), .val (.int p4), .val (.int (2 : Int32)), .val (.ref b5), .unset, .unset, .unset] [])
    refine own_step (fun _ k => XS.aload X5.here hx rfl (hb hby at_13) rfl rfl k) ?_
    show own_Go p e below P T5 (mkF m 15 #[.val (.int p0), .val (.int p1), .val (.int p2), .val (.int p3), .val (.int p4), .val (.int (2 : Int32)), .val (.ref b5), .unset, .unset, .unset] [(.ref b5)])
    refine own_step (fun _ k => XS.iconst X5.here hx rfl (hb hby at_15) k) ?_
    show own_Go p e below P T5 (mkF m 16 #[.val (.int p0), .val (.int p1), .val (.int p2), .val (.int p3), .val (.int p4), .val (.int (2 : Int32)), .val (.ref b5), .unset, .unset, .unset] [(.int (0 : Int32)), (.ref b5)])
    refine own_step (fun _ k => XS.iloadN X5.here hx rfl (hb hby at_16) rfl k) ?_
    show own_Go p e below P T5 (mkF m 17 #[.val (.int p0), .val (.int p1), .val (.int p2), .val (.int p3), .val (.int p4), .val (.int (2 : Int32)), .val (.ref b5), .unset, .unset, .unset] [(.int p1), (.int (0 : Int32)), (.ref b5)])
    refine own_step (fun _ k => XS.i2dS X5.here hx rfl (hb hby at_17) rfl (i2d_w _) k) ?_
    show own_Go p e below P T5 (mkF m 18 #[.val (.int p0), .val (.int p1), .val (.int p2), .val (.int p3), .val (.int p4), .val (.int (2 : Int32)), .val (.ref b5), .unset, .unset, .unset] [(.double (FP.l2d p1.toInt64)), (.int (0 : Int32)), (.ref b5)])
    obtain ⟨cl6, Ar6, q6, S6, M6, H6, G6⟩ := (id V_b5)
    have hin6 : ¬ ((0 : Int32) < 0 ∨ cl6.slots.size ≤ ((0 : Int32)).toNatClampNeg) := inb_of S6 ⟨by decide, by decide⟩
    obtain ⟨T6, h6, X6, e6, W6, st6⟩ := stD X5 hx hZ e5 Ar6 (j := (0 : Int32)) hin6 (g := (mkF m 18 #[.val (.int p0), .val (.int p1), .val (.int p2), .val (.int p3), .val (.int p4), .val (.int (2 : Int32)), .val (.ref b5), .unset, .unset, .unset] [(.double (FP.l2d p1.toInt64)), (.int (0 : Int32)), (.ref b5)])) rfl rfl (hb hby at_18)
    have V6 : Arv Z h6 b5 k5 .double (2 : Int32) [(.double (FP.l2d p1.toInt64)), (.double (FP.l2d 0))] (.double (FP.l2d 0)) := Arv.set Ar6 q6 S6 M6 H6 G6 rfl W6 0 rfl (Nat.le_of_ble_eq_true rfl)
    have N6 := Fr.snoc X6 N0 g_b5
    refine own_step st6 ?_
    show own_Go p e below P T6 (mkF m 19 #[.val (.int p0), .val (.int p1), .val (.int p2), .val (.int p3), .val (.int p4), .val (.int (2 : Int32)), .val (.ref b5), .unset, .unset, .unset] [])
    refine own_step (fun _ k => XS.iload X6.here hx rfl (hb hby at_19) rfl k) ?_
    show own_Go p e below P T6 (mkF m 21 #[.val (.int p0), .val (.int p1), .val (.int p2), .val (.int p3), .val (.int p4), .val (.int (2 : Int32)), .val (.ref b5), .unset, .unset, .unset] [(.int (2 : Int32))])
    refine own_step (fun _ k => XS.iconst X6.here hx rfl (hb hby at_21) k) ?_
    show own_Go p e below P T6 (mkF m 22 #[.val (.int p0), .val (.int p1), .val (.int p2), .val (.int p3), .val (.int p4), .val (.int (2 : Int32)), .val (.ref b5), .unset, .unset, .unset] [(.int (1 : Int32)), (.int (2 : Int32))])
    refine own_step (fun _ k => XS.icmpNo X6.here hx rfl (hb hby at_22) rfl (tlt (by decide : (1 : Int32) < (2 : Int32))).2.2.2 k) ?_
    show own_Go p e below P T6 (mkF m 25 #[.val (.int p0), .val (.int p1), .val (.int p2), .val (.int p3), .val (.int p4), .val (.int (2 : Int32)), .val (.ref b5), .unset, .unset, .unset] [])
    refine own_step (fun _ k => XS.aload X6.here hx rfl (hb hby at_25) rfl rfl k) ?_
    show own_Go p e below P T6 (mkF m 27 #[.val (.int p0), .val (.int p1), .val (.int p2), .val (.int p3), .val (.int p4), .val (.int (2 : Int32)), .val (.ref b5), .unset, .unset, .unset] [(.ref b5)])
    refine own_step (fun _ k => XS.iconst X6.here hx rfl (hb hby at_27) k) ?_
    show own_Go p e below P T6 (mkF m 28 #[.val (.int p0), .val (.int p1), .val (.int p2), .val (.int p3), .val (.int p4), .val (.int (2 : Int32)), .val (.ref b5), .unset, .unset, .unset] [(.int (1 : Int32)), (.ref b5)])
    refine own_step (fun _ k => XS.iloadN X6.here hx rfl (hb hby at_28) rfl k) ?_
    show own_Go p e below P T6 (mkF m 29 #[.val (.int p0), .val (.int p1), .val (.int p2), .val (.int p3), .val (.int p4), .val (.int (2 : Int32)), .val (.ref b5), .unset, .unset, .unset] [(.int p2), (.int (1 : Int32)), (.ref b5)])
    refine own_step (fun _ k => XS.i2dS X6.here hx rfl (hb hby at_29) rfl (i2d_w _) k) ?_
    show own_Go p e below P T6 (mkF m 30 #[.val (.int p0), .val (.int p1), .val (.int p2), .val (.int p3), .val (.int p4), .val (.int (2 : Int32)), .val (.ref b5), .unset, .unset, .unset] [(.double (FP.l2d p2.toInt64)), (.int (1 : Int32)), (.ref b5)])
    obtain ⟨cl7, Ar7, q7, S7, M7, H7, G7⟩ := (id V6)
    have hin7 : ¬ ((1 : Int32) < 0 ∨ cl7.slots.size ≤ ((1 : Int32)).toNatClampNeg) := inb_of S7 ⟨by decide, by decide⟩
    obtain ⟨T7, h7, X7, e7, W7, st7⟩ := stD X6 hx hZ e6 Ar7 (j := (1 : Int32)) hin7 (g := (mkF m 30 #[.val (.int p0), .val (.int p1), .val (.int p2), .val (.int p3), .val (.int p4), .val (.int (2 : Int32)), .val (.ref b5), .unset, .unset, .unset] [(.double (FP.l2d p2.toInt64)), (.int (1 : Int32)), (.ref b5)])) rfl rfl (hb hby at_30)
    have V7 : Arv Z h7 b5 k5 .double (2 : Int32) [(.double (FP.l2d p1.toInt64)), (.double (FP.l2d p2.toInt64))] (.double (FP.l2d 0)) := Arv.set Ar7 q7 S7 M7 H7 G7 rfl W7 1 rfl (Nat.le_of_ble_eq_true rfl)
    have N7 := Fr.snoc X7 N6 g_b5
    refine own_step st7 ?_
    show own_Go p e below P T7 (mkF m 31 #[.val (.int p0), .val (.int p1), .val (.int p2), .val (.int p3), .val (.int p4), .val (.int (2 : Int32)), .val (.ref b5), .unset, .unset, .unset] [])
    refine own_step (fun _ k => XS.iload X7.here hx rfl (hb hby at_31) rfl k) ?_
    show own_Go p e below P T7 (mkF m 33 #[.val (.int p0), .val (.int p1), .val (.int p2), .val (.int p3), .val (.int p4), .val (.int (2 : Int32)), .val (.ref b5), .unset, .unset, .unset] [(.int (2 : Int32))])
    refine own_step (fun _ k => XS.iconst X7.here hx rfl (hb hby at_33) k) ?_
    show own_Go p e below P T7 (mkF m 34 #[.val (.int p0), .val (.int p1), .val (.int p2), .val (.int p3), .val (.int p4), .val (.int (2 : Int32)), .val (.ref b5), .unset, .unset, .unset] [(.int (2 : Int32)), (.int (2 : Int32))])
    refine own_step (fun _ k => XS.icmpYes X7.here hx rfl (pc0 := 34) (pc' := 43) rfl (hb hby at_34) rfl (flt (by decide : ¬ ((2 : Int32) < (2 : Int32)))).2.2.2 (by decide) (by decide) k) ?_
    show own_Go p e below P T7 (mkF m 43 #[.val (.int p0), .val (.int p1), .val (.int p2), .val (.int p3), .val (.int p4), .val (.int (2 : Int32)), .val (.ref b5), .unset, .unset, .unset] [])
    refine own_step (fun _ k => XS.iload X7.here hx rfl (hb hby at_43) rfl k) ?_
    show own_Go p e below P T7 (mkF m 45 #[.val (.int p0), .val (.int p1), .val (.int p2), .val (.int p3), .val (.int p4), .val (.int (2 : Int32)), .val (.ref b5), .unset, .unset, .unset] [(.int (2 : Int32))])
    refine own_step (fun _ k => XS.iconst X7.here hx rfl (hb hby at_45) k) ?_
    show own_Go p e below P T7 (mkF m 46 #[.val (.int p0), .val (.int p1), .val (.int p2), .val (.int p3), .val (.int p4), .val (.int (2 : Int32)), .val (.ref b5), .unset, .unset, .unset] [(.int (3 : Int32)), (.int (2 : Int32))])
    refine own_step (fun _ k => XS.icmpYes X7.here hx rfl (pc0 := 46) (pc' := 56) rfl (hb hby at_46) rfl (flt (by decide : ¬ ((3 : Int32) < (2 : Int32)))).2.2.2 (by decide) (by decide) k) ?_
    show own_Go p e below P T7 (mkF m 56 #[.val (.int p0), .val (.int p1), .val (.int p2), .val (.int p3), .val (.int p4), .val (.int (2 : Int32)), .val (.ref b5), .unset, .unset, .unset] [])
    refine own_step (fun _ k => XS.iloadN X7.here hx rfl (hb hby at_56) rfl k) ?_
    show own_Go p e below P T7 (mkF m 57 #[.val (.int p0), .val (.int p1), .val (.int p2), .val (.int p3), .val (.int p4), .val (.int (2 : Int32)), .val (.ref b5), .unset, .unset, .unset] [(.int p1)])
    refine own_step (fun _ k => XS.istore X7.here hx rfl (hb hby at_57) rfl (l' := #[.val (.int p0), .val (.int p1), .val (.int p2), .val (.int p3), .val (.int p4), .val (.int (2 : Int32)), .val (.ref b5), .val (.int p1), .unset, .unset]) rfl k) ?_
    show own_Go p e below P T7 (mkF m 59 #[.val (.int p0), .val (.int p1), .val (.int p2), .val (.int p3), .val (.int p4), .val (.int (2 : Int32)), .val (.ref b5), .val (.int p1), .unset, .unset] [])
    refine own_step (fun _ k => XS.iload X7.here hx rfl (hb hby at_59) rfl k) ?_
    show own_Go p e below P T7 (mkF m 61 #[.val (.int p0), .val (.int p1), .val (.int p2), .val (.int p3), .val (.int p4), .val (.int (2 : Int32)), .val (.ref b5), .val (.int p1), .unset, .unset] [(.int (2 : Int32))])
    refine own_step (fun _ k => XS.iconst X7.here hx rfl (hb hby at_61) k) ?_
    show own_Go p e below P T7 (mkF m 62 #[.val (.int p0), .val (.int p1), .val (.int p2), .val (.int p3), .val (.int p4), .val (.int (2 : Int32)), .val (.ref b5), .val (.int p1), .unset, .unset] [(.int (1 : Int32)), (.int (2 : Int32))])
    refine own_step (fun _ k => XS.icmpNo X7.here hx rfl (hb hby at_62) rfl (tlt (by decide : (1 : Int32) < (2 : Int32))).2.2.2 k) ?_
    show own_Go p e below P T7 (mkF m 65 #[.val (.int p0), .val (.int p1), .val (.int p2), .val (.int p3), .val (.int p4), .val (.int (2 : Int32)), .val (.ref b5), .val (.int p1), .unset, .unset] [])
    refine own_step (fun _ k => XS.iload X7.here hx rfl (hb hby at_65) rfl k) ?_
    show own_Go p e below P T7 (mkF m 67 #[.val (.int p0), .val (.int p1), .val (.int p2), .val (.int p3), .val (.int p4), .val (.int (2 : Int32)), .val (.ref b5), .val (.int p1), .unset, .unset] [(.int p1)])
    refine own_step (fun _ k => XS.iloadN X7.here hx rfl (hb hby at_67) rfl k) ?_
    show own_Go p e below P T7 (mkF m 68 #[.val (.int p0), .val (.int p1), .val (.int p2), .val (.int p3), .val (.int p4), .val (.int (2 : Int32)), .val (.ref b5), .val (.int p1), .unset, .unset] [(.int p2), (.int p1)])
    obtain ⟨_, _, ⟨T8, L8, k8, n8⟩, -, X8, ⟨Lc8, hQ8, l8, y8, z8⟩, st8⟩ := Jvm.LawKit.callS X7 hx (y := (⟨"java/lang/Math", "min", "(II)I"⟩ : MethodName)) hown (mvT hZ (hw _ (List.mem_of_getElem? (i := 5) rfl))) (mvT hZ (hw _ (List.mem_of_getElem? (i := 6) rfl))) (mvT hZ (hw _ (List.mem_of_getElem? (i := 7) rfl))) (mvT hZ (hw _ (List.mem_of_getElem? (i := 8) rfl))) (by decide) (backOf (W := 0) (rm2 l Z a0 hw [] p1 p2 h7 n0 (Nat.le_trans (Nat.le_trans (Nat.le_trans Z0 E5.1) (Keep.of_wr W6).1) (Keep.of_wr W7).1)) hZ (hw _ (List.mem_of_getElem? (i := 8) rfl)) (hw _ (List.mem_of_getElem? (i := 7) rfl)) (by decide) (by decide)) (g := (mkF m 68 #[.val (.int p0), .val (.int p1), .val (.int p2), .val (.int p3), .val (.int p4), .val (.int (2 : Int32)), .val (.ref b5), .val (.int p1), .unset, .unset] [(.int p2), (.int p1)])) rfl (by rw [hml]; rfl) (argsL := [(.int p1), (.int p2)]) (rest := []) (lenOf pd__II__I rfl) rfl (by show 2 * 0 + _ ≤ _; exact Nat.le_of_eq rfl) (hb hby at_68) (fun _ _ => ⟨rfl, e7, (by decide : 1 + 0 ≤ _), (by decide : 2 + 0 ≤ _)⟩)
    dsimp only [Pt.U, Pt.locs, Pt.cells, Pt.slots] at X8 l8 y8 z8 st8 hQ8
    subst l8 y8 z8
    obtain ⟨rfl, N8q, e8⟩ := hQ8
    have N8 := Fr.app N7 N8q
    refine own_step st8 ?_
    show own_Go p e below P T8 (mkF m 71 #[.val (.int p0), .val (.int p1), .val (.int p2), .val (.int p3), .val (.int p4), .val (.int (2 : Int32)), .val (.ref b5), .val (.int p1), .unset, .unset] [(.int (if p2 < p1 then p2 else p1))])
    refine own_step (fun _ k => XS.istore X8.here hx rfl (hb hby at_71) rfl (l' := #[.val (.int p0), .val (.int p1), .val (.int p2), .val (.int p3), .val (.int p4), .val (.int (2 : Int32)), .val (.ref b5), .val (.int (if p2 < p1 then p2 else p1)), .unset, .unset]) rfl k) ?_
    show own_Go p e below P T8 (mkF m 73 #[.val (.int p0), .val (.int p1), .val (.int p2), .val (.int p3), .val (.int p4), .val (.int (2 : Int32)), .val (.ref b5), .val (.int (if p2 < p1 then p2 else p1)), .unset, .unset] [])
    refine own_step (fun _ k => XS.iload X8.here hx rfl (hb hby at_73) rfl k) ?_
    show own_Go p e below P T8 (mkF m 75 #[.val (.int p0), .val (.int p1), .val (.int p2), .val (.int p3), .val (.int p4), .val (.int (2 : Int32)), .val (.ref b5), .val (.int (if p2 < p1 then p2 else p1)), .unset, .unset] [(.int (2 : Int32))])
    refine own_step (fun _ k => XS.iconst X8.here hx rfl (hb hby at_75) k) ?_
    show own_Go p e below P T8 (mkF m 76 #[.val (.int p0), .val (.int p1), .val (.int p2), .val (.int p3), .val (.int p4), .val (.int (2 : Int32)), .val (.ref b5), .val (.int (if p2 < p1 then p2 else p1)), .unset, .unset] [(.int (2 : Int32)), (.int (2 : Int32))])
    refine own_step (fun _ k => XS.icmpYes X8.here hx rfl (pc0 := 76) (pc' := 87) rfl (hb hby at_76) rfl (flt (by decide : ¬ ((2 : Int32) < (2 : Int32)))).2.2.2 (by decide) (by decide) k) ?_
    show own_Go p e below P T8 (mkF m 87 #[.val (.int p0), .val (.int p1), .val (.int p2), .val (.int p3), .val (.int p4), .val (.int (2 : Int32)), .val (.ref b5), .val (.int (if p2 < p1 then p2 else p1)), .unset, .unset] [])
    refine own_step (fun _ k => XS.iload X8.here hx rfl (hb hby at_87) rfl k) ?_
    show own_Go p e below P T8 (mkF m 89 #[.val (.int p0), .val (.int p1), .val (.int p2), .val (.int p3), .val (.int p4), .val (.int (2 : Int32)), .val (.ref b5), .val (.int (if p2 < p1 then p2 else p1)), .unset, .unset] [(.int (2 : Int32))])
    refine own_step (fun _ k => XS.iconst X8.here hx rfl (hb hby at_89) k) ?_
    show own_Go p e below P T8 (mkF m 90 #[.val (.int p0), .val (.int p1), .val (.int p2), .val (.int p3), .val (.int p4), .val (.int (2 : Int32)), .val (.ref b5), .val (.int (if p2 < p1 then p2 else p1)), .unset, .unset] [(.int (3 : Int32)), (.int (2 : Int32))])
    refine own_step (fun _ k => XS.icmpYes X8.here hx rfl (pc0 := 90) (pc' := 102) rfl (hb hby at_90) rfl (flt (by decide : ¬ ((3 : Int32) < (2 : Int32)))).2.2.2 (by decide) (by decide) k) ?_
    show own_Go p e below P T8 (mkF m 102 #[.val (.int p0), .val (.int p1), .val (.int p2), .val (.int p3), .val (.int p4), .val (.int (2 : Int32)), .val (.ref b5), .val (.int (if p2 < p1 then p2 else p1)), .unset, .unset] [])
    refine own_step (fun _ k => XS.iloadN X8.here hx rfl (hb hby at_102) rfl k) ?_
    show own_Go p e below P T8 (mkF m 103 #[.val (.int p0), .val (.int p1), .val (.int p2), .val (.int p3), .val (.int p4), .val (.int (2 : Int32)), .val (.ref b5), .val (.int (if p2 < p1 then p2 else p1)), .unset, .unset] [(.int p1)])
    refine own_step (fun _ k => XS.iload X8.here hx rfl (hb hby at_103) rfl k) ?_
    show own_Go p e below P T8 (mkF m 105 #[.val (.int p0), .val (.int p1), .val (.int p2), .val (.int p3), .val (.int p4), .val (.int (2 : Int32)), .val (.ref b5), .val (.int (if p2 < p1 then p2 else p1)), .unset, .unset] [(.int (if p2 < p1 then p2 else p1)), (.int p1)])
    by_cases hc9 : p1 = (if p2 < p1 then p2 else p1)
    · refine own_step (fun _ k => XS.icmpNo X8.here hx rfl (hb hby at_105) rfl (teq hc9).2 k) ?_
      show own_Go p e below P T8 (mkF m 108 #[.val (.int p0), .val (.int p1), .val (.int p2), .val (.int p3), .val (.int p4), .val (.int (2 : Int32)), .val (.ref b5), .val (.int (if p2 < p1 then p2 else p1)), .unset, .unset] [])
      refine own_step (fun _ k => XS.iconst X8.here hx rfl (hb hby at_108) k) ?_
      show own_Go p e below P T8 (mkF m 109 #[.val (.int p0), .val (.int p1), .val (.int p2), .val (.int p3), .val (.int p4), .val (.int (2 : Int32)), .val (.ref b5), .val (.int (if p2 < p1 then p2 else p1)), .unset, .unset] [(.int (0 : Int32))])
      refine own_step (fun _ k => XS.istore X8.here hx rfl (hb hby at_109) rfl (l' := #[.val (.int p0), .val (.int p1), .val (.int p2), .val (.int p3), .val (.int p4), .val (.int (2 : Int32)), .val (.ref b5), .val (.int (if p2 < p1 then p2 else p1)), .val (.int (0 : Int32)), .unset]) rfl k) ?_
      show own_Go p e below P T8 (mkF m 111 #[.val (.int p0), .val (.int p1), .val (.int p2), .val (.int p3), .val (.int p4), .val (.int (2 : Int32)), .val (.ref b5), .val (.int (if p2 < p1 then p2 else p1)), .val (.int (0 : Int32)), .unset] [])
      refine own_step (fun _ k => XS.goto X8.here hx rfl (pc0 := 111) (pc' := 141) rfl (hb hby at_111) (by decide) (by decide) k) ?_
      show own_Go p e below P T8 (mkF m 141 #[.val (.int p0), .val (.int p1), .val (.int p2), .val (.int p3), .val (.int p4), .val (.int (2 : Int32)), .val (.ref b5), .val (.int (if p2 < p1 then p2 else p1)), .val (.int (0 : Int32)), .unset] [])
      refine own_step (fun _ k => XS.aload X8.here hx rfl (hb hby at_141) rfl rfl k) ?_
      show own_Go p e below P T8 (mkF m 143 #[.val (.int p0), .val (.int p1), .val (.int p2), .val (.int p3), .val (.int p4), .val (.int (2 : Int32)), .val (.ref b5), .val (.int (if p2 < p1 then p2 else p1)), .val (.int (0 : Int32)), .unset] [(.ref b5)])
      obtain ⟨_, _, ⟨T10, L10, k10, n10⟩, -, X10, ⟨Lc10, hQ10, l10, y10, z10⟩, st10⟩ := Jvm.LawKit.callS X8 hx (y := (⟨"com/example/rulewright/rulewright/evolution/Generation", "indexOfBest", "([D)I"⟩ : MethodName)) hown (mvT hZ (hw _ (List.mem_of_getElem? (i := 1) rfl))) (mvT hZ (hw _ (List.mem_of_getElem? (i := 2) rfl))) (mvT hZ (hw _ (List.mem_of_getElem? (i := 3) rfl))) (mvT hZ (hw _ (List.mem_of_getElem? (i := 4) rfl))) (by decide) (backOf (W := 0) (rm12 l Z a0 hw [] b5 k5 p1 p2 p3 p4 h7 n0 (Nat.le_trans (Nat.le_trans (Nat.le_trans Z0 E5.1) (Keep.of_wr W6).1) (Keep.of_wr W7).1) V7) hZ (hw _ (List.mem_of_getElem? (i := 4) rfl)) (hw _ (List.mem_of_getElem? (i := 3) rfl)) (by decide) (by decide)) (g := (mkF m 143 #[.val (.int p0), .val (.int p1), .val (.int p2), .val (.int p3), .val (.int p4), .val (.int (2 : Int32)), .val (.ref b5), .val (.int (if p2 < p1 then p2 else p1)), .val (.int (0 : Int32)), .unset] [(.ref b5)])) rfl (by rw [hml]; rfl) (argsL := [(.ref b5)]) (rest := []) (lenOf pd__AD__I rfl) rfl (by show 2 * 0 + _ ≤ _; exact Nat.le_of_eq rfl) (hb hby at_143) (fun _ _ => ⟨rfl, e8, (by decide : 1 + 0 ≤ _), (by decide : 2 + 0 ≤ _)⟩)
      dsimp only [Pt.U, Pt.locs, Pt.cells, Pt.slots] at X10 l10 y10 z10 st10 hQ10
      subst l10 y10 z10
      obtain ⟨rfl, N10q, e10⟩ := hQ10
      have N10 := Fr.app N8 N10q
      refine own_step st10 ?_
      show own_Go p e below P T10 (mkF m 146 #[.val (.int p0), .val (.int p1), .val (.int p2), .val (.int p3), .val (.int p4), .val (.int (2 : Int32)), .val (.ref b5), .val (.int (if p2 < p1 then p2 else p1)), .val (.int (0 : Int32)), .unset] [(.int (own_i2 p1 p2 p3 p4))])
      refine own_step (fun _ k => XS.istore X10.here hx rfl (hb hby at_146) rfl (l' := #[.val (.int p0), .val (.int p1), .val (.int p2), .val (.int p3), .val (.int p4), .val (.int (2 : Int32)), .val (.ref b5), .val (.int (if p2 < p1 then p2 else p1)), .val (.int (0 : Int32)), .val (.int (own_i2 p1 p2 p3 p4))]) rfl k) ?_
      show own_Go p e below P T10 (mkF m 148 #[.val (.int p0), .val (.int p1), .val (.int p2), .val (.int p3), .val (.int p4), .val (.int (2 : Int32)), .val (.ref b5), .val (.int (if p2 < p1 then p2 else p1)), .val (.int (0 : Int32)), .val (.int (own_i2 p1 p2 p3 p4))] [])
      refine own_step (fun _ k => XS.iload X10.here hx rfl (hb hby at_148) rfl k) ?_
      show own_Go p e below P T10 (mkF m 150 #[.val (.int p0), .val (.int p1), .val (.int p2), .val (.int p3), .val (.int p4), .val (.int (2 : Int32)), .val (.ref b5), .val (.int (if p2 < p1 then p2 else p1)), .val (.int (0 : Int32)), .val (.int (own_i2 p1 p2 p3 p4))] [(.int (own_i2 p1 p2 p3 p4))])
      refine own_step (fun _ k => XS.iload X10.here hx rfl (hb hby at_150) rfl k) ?_
      show own_Go p e below P T10 (mkF m 152 #[.val (.int p0), .val (.int p1), .val (.int p2), .val (.int p3), .val (.int p4), .val (.int (2 : Int32)), .val (.ref b5), .val (.int (if p2 < p1 then p2 else p1)), .val (.int (0 : Int32)), .val (.int (own_i2 p1 p2 p3 p4))] [(.int (0 : Int32)), (.int (own_i2 p1 p2 p3 p4))])
      refine own_step (fun _ k => XS.icmpNo X10.here hx rfl (hb hby at_152) rfl (teq (own_e2_0 p1 p2 p3 p4 hc9)).2 k) ?_
      show own_Go p e below P T10 (mkF m 155 #[.val (.int p0), .val (.int p1), .val (.int p2), .val (.int p3), .val (.int p4), .val (.int (2 : Int32)), .val (.ref b5), .val (.int (if p2 < p1 then p2 else p1)), .val (.int (0 : Int32)), .val (.int (own_i2 p1 p2 p3 p4))] [])
      refine own_step (fun _ k => XS.iconst X10.here hx rfl (hb hby at_155) k) ?_
      show own_Go p e below P T10 (mkF m 156 #[.val (.int p0), .val (.int p1), .val (.int p2), .val (.int p3), .val (.int p4), .val (.int (2 : Int32)), .val (.ref b5), .val (.int (if p2 < p1 then p2 else p1)), .val (.int (0 : Int32)), .val (.int (own_i2 p1 p2 p3 p4))] [(.int (1 : Int32))])
      refine own_step (fun _ k => XS.goto X10.here hx rfl (pc0 := 156) (pc' := 160) rfl (hb hby at_156) (by decide) (by decide) k) ?_
      show own_Go p e below P T10 (mkF m 160 #[.val (.int p0), .val (.int p1), .val (.int p2), .val (.int p3), .val (.int p4), .val (.int (2 : Int32)), .val (.ref b5), .val (.int (if p2 < p1 then p2 else p1)), .val (.int (0 : Int32)), .val (.int (own_i2 p1 p2 p3 p4))] [(.int (1 : Int32))])
      obtain ⟨fs, hr, hrun, hended, hW, hsame⟩ := X10.leave (v := some (.int (1 : Int32))) (fun h => by rw [Bd.returns] at h; cases h)
      refine ⟨_, _, retN X10 hx (t := .boolean) Bd.returns (by simp) (hb hby at_160) hr, hrun, hended, hfin _ _ ⟨_, _, rfl, ?_, ⟨_, rfl⟩, hW, hsame.mono (by decide) (by decide)⟩⟩
      show Q0 Z p0 p1 p2 p3 p4 h0 n0 (some (.int (1 : Int32))) T10.heap _
      rw [e10]
      exact ⟨rfl, N10⟩
    · refine own_step (fun _ k => XS.icmpYes X8.here hx rfl (pc0 := 105) (pc' := 114) rfl (hb hby at_105) rfl (feq hc9).2 (by decide) (by decide) k) ?_
      show own_Go p e below P T8 (mkF m 114 #[.val (.int p0), .val (.int p1), .val (.int p2), .val (.int p3), .val (.int p4), .val (.int (2 : Int32)), .val (.ref b5), .val (.int (if p2 < p1 then p2 else p1)), .unset, .unset] [])
      refine own_step (fun _ k => XS.iloadN X8.here hx rfl (hb hby at_114) rfl k) ?_
      show own_Go p e below P T8 (mkF m 115 #[.val (.int p0), .val (.int p1), .val (.int p2), .val (.int p3), .val (.int p4), .val (.int (2 : Int32)), .val (.ref b5), .val (.int (if p2 < p1 then p2 else p1)), .unset, .unset] [(.int p2)])
      refine own_step (fun _ k => XS.iload X8.here hx rfl (hb hby at_115) rfl k) ?_
      show own_Go p e below P T8 (mkF m 117 #[.val (.int p0), .val (.int p1), .val (.int p2), .val (.int p3), .val (.int p4), .val (.int (2 : Int32)), .val (.ref b5), .val (.int (if p2 < p1 then p2 else p1)), .unset, .unset] [(.int (if p2 < p1 then p2 else p1)), (.int p2)])
      by_cases hc12 : p2 = (if p2 < p1 then p2 else p1)
      · refine own_step (fun _ k => XS.icmpNo X8.here hx rfl (hb hby at_117) rfl (teq hc12).2 k) ?_
        show own_Go p e below P T8 (mkF m 120 #[.val (.int p0), .val (.int p1), .val (.int p2), .val (.int p3), .val (.int p4), .val (.int (2 : Int32)), .val (.ref b5), .val (.int (if p2 < p1 then p2 else p1)), .unset, .unset] [])
        refine own_step (fun _ k => XS.iconst X8.here hx rfl (hb hby at_120) k) ?_
        show own_Go p e below P T8 (mkF m 121 #[.val (.int p0), .val (.int p1), .val (.int p2), .val (.int p3), .val (.int p4), .val (.int (2 : Int32)), .val (.ref b5), .val (.int (if p2 < p1 then p2 else p1)), .unset, .unset] [(.int (1 : Int32))])
        refine own_step (fun _ k => XS.istore X8.here hx rfl (hb hby at_121) rfl (l' := #[.val (.int p0), .val (.int p1), .val (.int p2), .val (.int p3), .val (.int p4), .val (.int (2 : Int32)), .val (.ref b5), .val (.int (if p2 < p1 then p2 else p1)), .val (.int (1 : Int32)), .unset]) rfl k) ?_
        show own_Go p e below P T8 (mkF m 123 #[.val (.int p0), .val (.int p1), .val (.int p2), .val (.int p3), .val (.int p4), .val (.int (2 : Int32)), .val (.ref b5), .val (.int (if p2 < p1 then p2 else p1)), .val (.int (1 : Int32)), .unset] [])
        refine own_step (fun _ k => XS.goto X8.here hx rfl (pc0 := 123) (pc' := 141) rfl (hb hby at_123) (by decide) (by decide) k) ?_
        show own_Go p e below P T8 (mkF m 141 #[.val (.int p0), .val (.int p1), .val (.int p2), .val (.int p3), .val (.int p4), .val (.int (2 : Int32)), .val (.ref b5), .val (.int (if p2 < p1 then p2 else p1)), .val (.int (1 : Int32)), .unset] [])
        refine own_step (fun _ k => XS.aload X8.here hx rfl (hb hby at_141) rfl rfl k) ?_
        show own_Go p e below P T8 (mkF m 143 #[.val (.int p0), .val (.int p1), .val (.int p2), .val (.int p3), .val (.int p4), .val (.int (2 : Int32)), .val (.ref b5), .val (.int (if p2 < p1 then p2 else p1)), .val (.int (1 : Int32)), .unset] [(.ref b5)])
        obtain ⟨_, _, ⟨T13, L13, k13, n13⟩, -, X13, ⟨Lc13, hQ13, l13, y13, z13⟩, st13⟩ := Jvm.LawKit.callS X8 hx (y := (⟨"com/example/rulewright/rulewright/evolution/Generation", "indexOfBest", "([D)I"⟩ : MethodName)) hown (mvT hZ (hw _ (List.mem_of_getElem? (i := 1) rfl))) (mvT hZ (hw _ (List.mem_of_getElem? (i := 2) rfl))) (mvT hZ (hw _ (List.mem_of_getElem? (i := 3) rfl))) (mvT hZ (hw _ (List.mem_of_getElem? (i := 4) rfl))) (by decide) (backOf (W := 0) (rm12 l Z a0 hw [] b5 k5 p1 p2 p3 p4 h7 n0 (Nat.le_trans (Nat.le_trans (Nat.le_trans Z0 E5.1) (Keep.of_wr W6).1) (Keep.of_wr W7).1) V7) hZ (hw _ (List.mem_of_getElem? (i := 4) rfl)) (hw _ (List.mem_of_getElem? (i := 3) rfl)) (by decide) (by decide)) (g := (mkF m 143 #[.val (.int p0), .val (.int p1), .val (.int p2), .val (.int p3), .val (.int p4), .val (.int (2 : Int32)), .val (.ref b5), .val (.int (if p2 < p1 then p2 else p1)), .val (.int (1 : Int32)), .unset] [(.ref b5)])) rfl (by rw [hml]; rfl) (argsL := [(.ref b5)]) (rest := []) (lenOf pd__AD__I rfl) rfl (by show 2 * 0 + _ ≤ _; exact Nat.le_of_eq rfl) (hb hby at_143) (fun _ _ => ⟨rfl, e8, (by decide : 1 + 0 ≤ _), (by decide : 2 + 0 ≤ _)⟩)
        dsimp only [Pt.U, Pt.locs, Pt.cells, Pt.slots] at X13 l13 y13 z13 st13 hQ13
        subst l13 y13 z13
        obtain ⟨rfl, N13q, e13⟩ := hQ13
        have N13 := Fr.app N8 N13q
        refine own_step st13 ?_
        show own_Go p e below P T13 (mkF m 146 #[.val (.int p0), .val (.int p1), .val (.int p2), .val (.int p3), .val (.int p4), .val (.int (2 : Int32)), .val (.ref b5), .val (.int (if p2 < p1 then p2 else p1)), .val (.int (1 : Int32)), .unset] [(.int (own_i2 p1 p2 p3 p4))])
        refine own_step (fun _ k => XS.istore X13.here hx rfl (hb hby at_146) rfl (l' := #[.val (.int p0), .val (.int p1), .val (.int p2), .val (.int p3), .val (.int p4), .val (.int (2 : Int32)), .val (.ref b5), .val (.int (if p2 < p1 then p2 else p1)), .val (.int (1 : Int32)), .val (.int (own_i2 p1 p2 p3 p4))]) rfl k) ?_
        show own_Go p e below P T13 (mkF m 148 #[.val (.int p0), .val (.int p1), .val (.int p2), .val (.int p3), .val (.int p4), .val (.int (2 : Int32)), .val (.ref b5), .val (.int (if p2 < p1 then p2 else p1)), .val (.int (1 : Int32)), .val (.int (own_i2 p1 p2 p3 p4))] [])
        refine own_step (fun _ k => XS.iload X13.here hx rfl (hb hby at_148) rfl k) ?_
        show own_Go p e below P T13 (mkF m 150 #[.val (.int p0), .val (.int p1), .val (.int p2), .val (.int p3), .val (.int p4), .val (.int (2 : Int32)), .val (.ref b5), .val (.int (if p2 < p1 then p2 else p1)), .val (.int (1 : Int32)), .val (.int (own_i2 p1 p2 p3 p4))] [(.int (own_i2 p1 p2 p3 p4))])
        refine own_step (fun _ k => XS.iload X13.here hx rfl (hb hby at_150) rfl k) ?_
        show own_Go p e below P T13 (mkF m 152 #[.val (.int p0), .val (.int p1), .val (.int p2), .val (.int p3), .val (.int p4), .val (.int (2 : Int32)), .val (.ref b5), .val (.int (if p2 < p1 then p2 else p1)), .val (.int (1 : Int32)), .val (.int (own_i2 p1 p2 p3 p4))] [(.int (1 : Int32)), (.int (own_i2 p1 p2 p3 p4))])
        refine own_step (fun _ k => XS.icmpNo X13.here hx rfl (hb hby at_152) rfl (teq (own_e2_1 p1 p2 p3 p4 hc9 hc12)).2 k) ?_
        show own_Go p e below P T13 (mkF m 155 #[.val (.int p0), .val (.int p1), .val (.int p2), .val (.int p3), .val (.int p4), .val (.int (2 : Int32)), .val (.ref b5), .val (.int (if p2 < p1 then p2 else p1)), .val (.int (1 : Int32)), .val (.int (own_i2 p1 p2 p3 p4))] [])
        refine own_step (fun _ k => XS.iconst X13.here hx rfl (hb hby at_155) k) ?_
        show own_Go p e below P T13 (mkF m 156 #[.val (.int p0), .val (.int p1), .val (.int p2), .val (.int p3), .val (.int p4), .val (.int (2 : Int32)), .val (.ref b5), .val (.int (if p2 < p1 then p2 else p1)), .val (.int (1 : Int32)), .val (.int (own_i2 p1 p2 p3 p4))] [(.int (1 : Int32))])
        refine own_step (fun _ k => XS.goto X13.here hx rfl (pc0 := 156) (pc' := 160) rfl (hb hby at_156) (by decide) (by decide) k) ?_
        show own_Go p e below P T13 (mkF m 160 #[.val (.int p0), .val (.int p1), .val (.int p2), .val (.int p3), .val (.int p4), .val (.int (2 : Int32)), .val (.ref b5), .val (.int (if p2 < p1 then p2 else p1)), .val (.int (1 : Int32)), .val (.int (own_i2 p1 p2 p3 p4))] [(.int (1 : Int32))])
        obtain ⟨fs, hr, hrun, hended, hW, hsame⟩ := X13.leave (v := some (.int (1 : Int32))) (fun h => by rw [Bd.returns] at h; cases h)
        refine ⟨_, _, retN X13 hx (t := .boolean) Bd.returns (by simp) (hb hby at_160) hr, hrun, hended, hfin _ _ ⟨_, _, rfl, ?_, ⟨_, rfl⟩, hW, hsame.mono (by decide) (by decide)⟩⟩
        show Q0 Z p0 p1 p2 p3 p4 h0 n0 (some (.int (1 : Int32))) T13.heap _
        rw [e13]
        exact ⟨rfl, N13⟩
      · refine own_step (fun _ k => XS.icmpYes X8.here hx rfl (pc0 := 117) (pc' := 126) rfl (hb hby at_117) rfl (feq hc12).2 (by decide) (by decide) k) ?_
        show own_Go p e below P T8 (mkF m 126 #[.val (.int p0), .val (.int p1), .val (.int p2), .val (.int p3), .val (.int p4), .val (.int (2 : Int32)), .val (.ref b5), .val (.int (if p2 < p1 then p2 else p1)), .unset, .unset] [])
        refine own_step (fun _ k => XS.iloadN X8.here hx rfl (hb hby at_126) rfl k) ?_
        show own_Go p e below P T8 (mkF m 127 #[.val (.int p0), .val (.int p1), .val (.int p2), .val (.int p3), .val (.int p4), .val (.int (2 : Int32)), .val (.ref b5), .val (.int (if p2 < p1 then p2 else p1)), .unset, .unset] [(.int p3)])
        refine own_step (fun _ k => XS.iload X8.here hx rfl (hb hby at_127) rfl k) ?_
        show own_Go p e below P T8 (mkF m 129 #[.val (.int p0), .val (.int p1), .val (.int p2), .val (.int p3), .val (.int p4), .val (.int (2 : Int32)), .val (.ref b5), .val (.int (if p2 < p1 then p2 else p1)), .unset, .unset] [(.int (if p2 < p1 then p2 else p1)), (.int p3)])
        by_cases hc15 : p3 = (if p2 < p1 then p2 else p1)
        · refine own_step (fun _ k => XS.icmpNo X8.here hx rfl (hb hby at_129) rfl (teq hc15).2 k) ?_
          show own_Go p e below P T8 (mkF m 132 #[.val (.int p0), .val (.int p1), .val (.int p2), .val (.int p3), .val (.int p4), .val (.int (2 : Int32)), .val (.ref b5), .val (.int (if p2 < p1 then p2 else p1)), .unset, .unset] [])
          refine own_step (fun _ k => XS.iconst X8.here hx rfl (hb hby at_132) k) ?_
          show own_Go p e below P T8 (mkF m 133 #[.val (.int p0), .val (.int p1), .val (.int p2), .val (.int p3), .val (.int p4), .val (.int (2 : Int32)), .val (.ref b5), .val (.int (if p2 < p1 then p2 else p1)), .unset, .unset] [(.int (2 : Int32))])
          refine own_step (fun _ k => XS.istore X8.here hx rfl (hb hby at_133) rfl (l' := #[.val (.int p0), .val (.int p1), .val (.int p2), .val (.int p3), .val (.int p4), .val (.int (2 : Int32)), .val (.ref b5), .val (.int (if p2 < p1 then p2 else p1)), .val (.int (2 : Int32)), .unset]) rfl k) ?_
          show own_Go p e below P T8 (mkF m 135 #[.val (.int p0), .val (.int p1), .val (.int p2), .val (.int p3), .val (.int p4), .val (.int (2 : Int32)), .val (.ref b5), .val (.int (if p2 < p1 then p2 else p1)), .val (.int (2 : Int32)), .unset] [])
          refine own_step (fun _ k => XS.goto X8.here hx rfl (pc0 := 135) (pc' := 141) rfl (hb hby at_135) (by decide) (by decide) k) ?_
          show own_Go p e below P T8 (mkF m 141 #[.val (.int p0), .val (.int p1), .val (.int p2), .val (.int p3), .val (.int p4), .val (.int (2 : Int32)), .val (.ref b5), .val (.int (if p2 < p1 then p2 else p1)), .val (.int (2 : Int32)), .unset] [])
          refine own_step (fun _ k => XS.aload X8.here hx rfl (hb hby at_141) rfl rfl k) ?_
          show own_Go p e below P T8 (mkF m 143 #[.val (.int p0), .val (.int p1), .val (.int p2), .val (.int p3), .val (.int p4), .val (.int (2 : Int32)), .val (.ref b5), .val (.int (if p2 < p1 then p2 else p1)), .val (.int (2 : Int32)), .unset] [(.ref b5)])
          obtain ⟨_, _, ⟨T16, L16, k16, n16⟩, -, X16, ⟨Lc16, hQ16, l16, y16, z16⟩, st16⟩ := Jvm.LawKit.callS X8 hx (y := (⟨"com/example/rulewright/rulewright/evolution/Generation", "indexOfBest", "([D)I"⟩ : MethodName)) hown (mvT hZ (hw _ (List.mem_of_getElem? (i := 1) rfl))) (mvT hZ (hw _ (List.mem_of_getElem? (i := 2) rfl))) (mvT hZ (hw _ (List.mem_of_getElem? (i := 3) rfl))) (mvT hZ (hw _ (List.mem_of_getElem? (i := 4) rfl))) (by decide) (backOf (W := 0) (rm12 l Z a0 hw [] b5 k5 p1 p2 p3 p4 h7 n0 (Nat.le_trans (Nat.le_trans (Nat.le_trans Z0 E5.1) (Keep.of_wr W6).1) (Keep.of_wr W7).1) V7) hZ (hw _ (List.mem_of_getElem? (i := 4) rfl)) (hw _ (List.mem_of_getElem? (i := 3) rfl)) (by decide) (by decide)) (g := (mkF m 143 #[.val (.int p0), .val (.int p1), .val (.int p2), .val (.int p3), .val (.int p4), .val (.int (2 : Int32)), .val (.ref b5), .val (.int (if p2 < p1 then p2 else p1)), .val (.int (2 : Int32)), .unset] [(.ref b5)])) rfl (by rw [hml]; rfl) (argsL := [(.ref b5)]) (rest := []) (lenOf pd__AD__I rfl) rfl (by show 2 * 0 + _ ≤ _; exact Nat.le_of_eq rfl) (hb hby at_143) (fun _ _ => ⟨rfl, e8, (by decide : 1 + 0 ≤ _), (by decide : 2 + 0 ≤ _)⟩)
          dsimp only [Pt.U, Pt.locs, Pt.cells, Pt.slots] at X16 l16 y16 z16 st16 hQ16
          subst l16 y16 z16
          obtain ⟨rfl, N16q, e16⟩ := hQ16
          have N16 := Fr.app N8 N16q
          refine own_step st16 ?_
          show own_Go p e below P T16 (mkF m 146 #[.val (.int p0), .val (.int p1), .val (.int p2), .val (.int p3), .val (.int p4), .val (.int (2 : Int32)), .val (.ref b5), .val (.int (if p2 < p1 then p2 else p1)), .val (.int (2 : Int32)), .unset] [(.int (own_i2 p1 p2 p3 p4))])
          refine own_step (fun _ k => XS.istore X16.here hx rfl (hb hby at_146) rfl (l' := #[.val (.int p0), .val (.int p1), .val (.int p2), .val (.int p3), .val (.int p4), .val (.int (2 : Int32)), .val (.ref b5), .val (.int (if p2 < p1 then p2 else p1)), .val (.int (2 : Int32)), .val (.int (own_i2 p1 p2 p3 p4))]) rfl k) ?_
          show own_Go p e below P T16 (mkF m 148 #[.val (.int p0), .val (.int p1), .val (.int p2), .val (.int p3), .val (.int p4), .val (.int (2 : Int32)), .val (.ref b5), .val (.int (if p2 < p1 then p2 else p1)), .val (.int (2 : Int32)), .val (.int (own_i2 p1 p2 p3 p4))] [])
          refine own_step (fun _ k => XS.iload X16.here hx rfl (hb hby at_148) rfl k) ?_
          show own_Go p e below P T16 (mkF m 150 #[.val (.int p0), .val (.int p1), .val (.int p2), .val (.int p3), .val (.int p4), .val (.int (2 : Int32)), .val (.ref b5), .val (.int (if p2 < p1 then p2 else p1)), .val (.int (2 : Int32)), .val (.int (own_i2 p1 p2 p3 p4))] [(.int (own_i2 p1 p2 p3 p4))])
          refine own_step (fun _ k => XS.iload X16.here hx rfl (hb hby at_150) rfl k) ?_
          show own_Go p e below P T16 (mkF m 152 #[.val (.int p0), .val (.int p1), .val (.int p2), .val (.int p3), .val (.int p4), .val (.int (2 : Int32)), .val (.ref b5), .val (.int (if p2 < p1 then p2 else p1)), .val (.int (2 : Int32)), .val (.int (own_i2 p1 p2 p3 p4))] [(.int (2 : Int32)), (.int (own_i2 p1 p2 p3 p4))])
          refine own_step (fun _ k => XS.icmpNo X16.here hx rfl (hb hby at_152) rfl (teq (own_e2_2 p1 p2 p3 p4 hc9 hc12 hc15)).2 k) ?_
          show own_Go p e below P T16 (mkF m 155 #[.val (.int p0), .val (.int p1), .val (.int p2), .val (.int p3), .val (.int p4), .val (.int (2 : Int32)), .val (.ref b5), .val (.int (if p2 < p1 then p2 else p1)), .val (.int (2 : Int32)), .val (.int (own_i2 p1 p2 p3 p4))] [])
          refine own_step (fun _ k => XS.iconst X16.here hx rfl (hb hby at_155) k) ?_
          show own_Go p e below P T16 (mkF m 156 #[.val (.int p0), .val (.int p1), .val (.int p2), .val (.int p3), .val (.int p4), .val (.int (2 : Int32)), .val (.ref b5), .val (.int (if p2 < p1 then p2 else p1)), .val (.int (2 : Int32)), .val (.int (own_i2 p1 p2 p3 p4))] [(.int (1 : Int32))])
          refine own_step (fun _ k => XS.goto X16.here hx rfl (pc0 := 156) (pc' := 160) rfl (hb hby at_156) (by decide) (by decide) k) ?_
          show own_Go p e below P T16 (mkF m 160 #[.val (.int p0), .val (.int p1), .val (.int p2), .val (.int p3), .val (.int p4), .val (.int (2 : Int32)), .val (.ref b5), .val (.int (if p2 < p1 then p2 else p1)), .val (.int (2 : Int32)), .val (.int (own_i2 p1 p2 p3 p4))] [(.int (1 : Int32))])
          obtain ⟨fs, hr, hrun, hended, hW, hsame⟩ := X16.leave (v := some (.int (1 : Int32))) (fun h => by rw [Bd.returns] at h; cases h)
          refine ⟨_, _, retN X16 hx (t := .boolean) Bd.returns (by simp) (hb hby at_160) hr, hrun, hended, hfin _ _ ⟨_, _, rfl, ?_, ⟨_, rfl⟩, hW, hsame.mono (by decide) (by decide)⟩⟩
          show Q0 Z p0 p1 p2 p3 p4 h0 n0 (some (.int (1 : Int32))) T16.heap _
          rw [e16]
          exact ⟨rfl, N16⟩
        · refine own_step (fun _ k => XS.icmpYes X8.here hx rfl (pc0 := 129) (pc' := 138) rfl (hb hby at_129) rfl (feq hc15).2 (by decide) (by decide) k) ?_
          show own_Go p e below P T8 (mkF m 138 #[.val (.int p0), .val (.int p1), .val (.int p2), .val (.int p3), .val (.int p4), .val (.int (2 : Int32)), .val (.ref b5), .val (.int (if p2 < p1 then p2 else p1)), .unset, .unset] [])
          refine own_step (fun _ k => XS.iconst X8.here hx rfl (hb hby at_138) k) ?_
          show own_Go p e below P T8 (mkF m 139 #[.val (.int p0), .val (.int p1), .val (.int p2), .val (.int p3), .val (.int p4), .val (.int (2 : Int32)), .val (.ref b5), .val (.int (if p2 < p1 then p2 else p1)), .unset, .unset] [(.int (3 : Int32))])
          refine own_step (fun _ k => XS.istore X8.here hx rfl (hb hby at_139) rfl (l' := #[.val (.int p0), .val (.int p1), .val (.int p2), .val (.int p3), .val (.int p4), .val (.int (2 : Int32)), .val (.ref b5), .val (.int (if p2 < p1 then p2 else p1)), .val (.int (3 : Int32)), .unset]) rfl k) ?_
          show own_Go p e below P T8 (mkF m 141 #[.val (.int p0), .val (.int p1), .val (.int p2), .val (.int p3), .val (.int p4), .val (.int (2 : Int32)), .val (.ref b5), .val (.int (if p2 < p1 then p2 else p1)), .val (.int (3 : Int32)), .unset] [])
          refine own_step (fun _ k => XS.aload X8.here hx rfl (hb hby at_141) rfl rfl k) ?_
          show own_Go p e below P T8 (mkF m 143 #[.val (.int p0), .val (.int p1), .val (.int p2), .val (.int p3), .val (.int p4), .val (.int (2 : Int32)), .val (.ref b5), .val (.int (if p2 < p1 then p2 else p1)), .val (.int (3 : Int32)), .unset] [(.ref b5)])
          obtain ⟨_, _, ⟨T18, L18, k18, n18⟩, -, X18, ⟨Lc18, hQ18, l18, y18, z18⟩, st18⟩ := Jvm.LawKit.callS X8 hx (y := (⟨"com/example/rulewright/rulewright/evolution/Generation", "indexOfBest", "([D)I"⟩ : MethodName)) hown (mvT hZ (hw _ (List.mem_of_getElem? (i := 1) rfl))) (mvT hZ (hw _ (List.mem_of_getElem? (i := 2) rfl))) (mvT hZ (hw _ (List.mem_of_getElem? (i := 3) rfl))) (mvT hZ (hw _ (List.mem_of_getElem? (i := 4) rfl))) (by decide) (backOf (W := 0) (rm12 l Z a0 hw [] b5 k5 p1 p2 p3 p4 h7 n0 (Nat.le_trans (Nat.le_trans (Nat.le_trans Z0 E5.1) (Keep.of_wr W6).1) (Keep.of_wr W7).1) V7) hZ (hw _ (List.mem_of_getElem? (i := 4) rfl)) (hw _ (List.mem_of_getElem? (i := 3) rfl)) (by decide) (by decide)) (g := (mkF m 143 #[.val (.int p0), .val (.int p1), .val (.int p2), .val (.int p3), .val (.int p4), .val (.int (2 : Int32)), .val (.ref b5), .val (.int (if p2 < p1 then p2 else p1)), .val (.int (3 : Int32)), .unset] [(.ref b5)])) rfl (by rw [hml]; rfl) (argsL := [(.ref b5)]) (rest := []) (lenOf pd__AD__I rfl) rfl (by show 2 * 0 + _ ≤ _; exact Nat.le_of_eq rfl) (hb hby at_143) (fun _ _ => ⟨rfl, e8, (by decide : 1 + 0 ≤ _), (by decide : 2 + 0 ≤ _)⟩)
          dsimp only [Pt.U, Pt.locs, Pt.cells, Pt.slots] at X18 l18 y18 z18 st18 hQ18
          subst l18 y18 z18
          obtain ⟨rfl, N18q, e18⟩ := hQ18
          have N18 := Fr.app N8 N18q
          refine own_step st18 ?_
          show own_Go p e below P T18 (mkF m 146 #[.val (.int p0), .val (.int p1), .val (.int p2), .val (.int p3), .val (.int p4), .val (.int (2 : Int32)), .val (.ref b5), .val (.int (if p2 < p1 then p2 else p1)), .val (.int (3 : Int32)), .unset] [(.int (own_i2 p1 p2 p3 p4))])
          refine own_step (fun _ k => XS.istore X18.here hx rfl (hb hby at_146) rfl (l' := #[.val (.int p0), .val (.int p1), .val (.int p2), .val (.int p3), .val (.int p4), .val (.int (2 : Int32)), .val (.ref b5), .val (.int (if p2 < p1 then p2 else p1)), .val (.int (3 : Int32)), .val (.int (own_i2 p1 p2 p3 p4))]) rfl k) ?_
          show own_Go p e below P T18 (mkF m 148 #[.val (.int p0), .val (.int p1), .val (.int p2), .val (.int p3), .val (.int p4), .val (.int (2 : Int32)), .val (.ref b5), .val (.int (if p2 < p1 then p2 else p1)), .val (.int (3 : Int32)), .val (.int (own_i2 p1 p2 p3 p4))] [])
          refine own_step (fun _ k => XS.iload X18.here hx rfl (hb hby at_148) rfl k) ?_
          show own_Go p e below P T18 (mkF m 150 #[.val (.int p0), .val (.int p1), .val (.int p2), .val (.int p3), .val (.int p4), .val (.int (2 : Int32)), .val (.ref b5), .val (.int (if p2 < p1 then p2 else p1)), .val (.int (3 : Int32)), .val (.int (own_i2 p1 p2 p3 p4))] [(.int (own_i2 p1 p2 p3 p4))])
          refine own_step (fun _ k => XS.iload X18.here hx rfl (hb hby at_150) rfl k) ?_
          show own_Go p e below P T18 (mkF m 152 #[.val (.int p0), .val (.int p1), .val (.int p2), .val (.int p3), .val (.int p4), .val (.int (2 : Int32)), .val (.ref b5), .val (.int (if p2 < p1 then p2 else p1)), .val (.int (3 : Int32)), .val (.int (own_i2 p1 p2 p3 p4))] [(.int (3 : Int32)), (.int (own_i2 p1 p2 p3 p4))])
          refine own_step (fun _ k => XS.icmpNo X18.here hx rfl (hb hby at_152) rfl (teq (own_e2_3 p1 p2 p3 p4 hc9 hc12 hc15)).2 k) ?_
          show own_Go p e below P T18 (mkF m 155 #[.val (.int p0), .val (.int p1), .val (.int p2), .val (.int p3), .val (.int p4), .val (.int (2 : Int32)), .val (.ref b5), .val (.int (if p2 < p1 then p2 else p1)), .val (.int (3 : Int32)), .val (.int (own_i2 p1 p2 p3 p4))] [])
          refine own_step (fun _ k => XS.iconst X18.here hx rfl (hb hby at_155) k) ?_
          show own_Go p e below P T18 (mkF m 156 #[.val (.int p0), .val (.int p1), .val (.int p2), .val (.int p3), .val (.int p4), .val (.int (2 : Int32)), .val (.ref b5), .val (.int (if p2 < p1 then p2 else p1)), .val (.int (3 : Int32)), .val (.int (own_i2 p1 p2 p3 p4))] [(.int (1 : Int32))])
          refine own_step (fun _ k => XS.goto X18.here hx rfl (pc0 := 156) (pc' := 160) rfl (hb hby at_156) (by decide) (by decide) k) ?_
          show own_Go p e below P T18 (mkF m 160 #[.val (.int p0), .val (.int p1), .val (.int p2), .val (.int p3), .val (.int p4), .val (.int (2 : Int32)), .val (.ref b5), .val (.int (if p2 < p1 then p2 else p1)), .val (.int (3 : Int32)), .val (.int (own_i2 p1 p2 p3 p4))] [(.int (1 : Int32))])
          obtain ⟨fs, hr, hrun, hended, hW, hsame⟩ := X18.leave (v := some (.int (1 : Int32))) (fun h => by rw [Bd.returns] at h; cases h)
          refine ⟨_, _, retN X18 hx (t := .boolean) Bd.returns (by simp) (hb hby at_160) hr, hrun, hended, hfin _ _ ⟨_, _, rfl, ?_, ⟨_, rfl⟩, hW, hsame.mono (by decide) (by decide)⟩⟩
          show Q0 Z p0 p1 p2 p3 p4 h0 n0 (some (.int (1 : Int32))) T18.heap _
          rw [e18]
          exact ⟨rfl, N18⟩
  · show own_Go p e below P s₁ (mkF m 5 #[.val (.int p0), .val (.int p1), .val (.int p2), .val (.int p3), .val (.int p4), .unset, .unset, .unset, .unset, .unset] [(.int (3 : Int32))])
    refine own_step (fun _ k => XS.istore X0.here hx rfl (hb hby at_5) rfl (l' := #[.val (.int p0), .val (.int p1), .val (.int p2), .val (.int p3), .val (.int p4), .val (.int (3 : Int32)), .unset, .unset, .unset, .unset]) rfl k) ?_
    show own_Go p e below P s₁ (mkF m 7 #[.val (.int p0), .val (.int p1), .val (.int p2), .val (.int p3), .val (.int p4), .val (.int (3 : Int32)), .unset, .unset, .unset, .unset] [])
    refine own_step (fun _ k => XS.iload X0.here hx rfl (hb hby at_7) rfl k) ?_
    show own_Go p e below P s₁ (mkF m 9 #[.val (.int p0), .val (.int p1), .val (.int p2), .val (.int p3), .val (.int p4), .val (.int (3 : Int32)), .unset, .unset, .unset, .unset] [(.int (3 : Int32))])
    obtain ⟨T20, h20, k20, X20, e20, E20, A20, st20⟩ := newP X0 hx hZ (hw _ (List.mem_of_getElem? (i := 0) rfl)) e0 (g := (mkF m 9 #[.val (.int p0), .val (.int p1), .val (.int p2), .val (.int p3), .val (.int p4), .val (.int (3 : Int32)), .unset, .unset, .unset, .unset] [(.int (3 : Int32))])) rfl (hb hby at_9) rfl (by decide) (cap := 3) (by decide) (by decide) (by decide) (by decide)
    obtain ⟨b20, g20⟩ : ∃ z, z = h0.size := ⟨_, rfl⟩
    rw [← g20] at A20 st20
    have g_b20 : n0 ≤ b20 := Nat.le_trans Z0 (Nat.le_of_eq g20.symm)
    have sz_b20 : h0.size ≤ b20 := Nat.le_trans (Keep.refl h0 []).1 (Nat.le_of_eq g20.symm)
    have V_b20 : Arv Z h20 b20 k20 .double (3 : Int32) [(.double (FP.l2d 0)), (.double (FP.l2d 0)), (.double (FP.l2d 0))] (.double (FP.l2d 0)) := (Arv.newD A20 (by decide)).pad (pad_rep [] (.double (FP.l2d 0)) 3)
    refine own_step st20 ?_
    show own_Go p e below P T20 (mkF m 11 #[.val (.int p0), .val (.int p1), .val (.int p2), .val (.int p3), .val (.int p4), .val (.int (3 : Int32)), .unset, .unset, .unset, .unset] [(.ref b20)])
    refine own_step (fun _ k => XS.astore X20.here hx rfl (hb hby at_11) rfl rfl (l' := #[.val (.int p0), .val (.int p1), .val (.int p2), .val (.int p3), .val (.int p4), .val (.int (3 : Int32)), .val (.ref b20), .unset, .unset, .unset]) rfl k) ?_
    show own_Go p e below P T20 (mkF m 13 #[.val (.int p0), .val (.int p1), .val (.int p2), .val (.int p3), .val (.int p4), .val (.int (3 : Int32)), .val (.ref b20), .unset, .unset, .unset] [])
    refine own_step (fun _ k => XS.aload X20.here hx rfl (hb hby at_13) rfl rfl k) ?_
    show own_Go p e below P T20 (mkF m 15 #[.val (.int p0), .val (.int p1), .val (.int p2), .val (.int p3), .val (.int p4), .val (.int (3 : Int32)), .val (.ref b20), .unset, .unset, .unset] [(.ref b20)])
    refine own_step (fun _ k => XS.iconst X20.here hx rfl (hb hby at_15) k) ?_
    show own_Go p e below P T20 (mkF m 16 #[.val (.int p0), .val (.int p1), .val (.int p2), .val (.int p3), .val (.int p4), .val (.int (3 : Int32)), .val (.ref b20), .unset, .unset, .unset] [(.int (0 : Int32)), (.ref b20)])
    refine own_step (fun _ k => XS.iloadN X20.here hx rfl (hb hby at_16) rfl k) ?_
    show own_Go p e below P T20 (mkF m 17 #[.val (.int p0), .val (.int p1), .val (.int p2), .val (.int p3), .val (.int p4), .val (.int (3 : Int32)), .val (.ref b20), .unset, .unset, .unset] [(.int p1), (.int (0 : Int32)), (.ref b20)])
    refine own_step (fun _ k => XS.i2dS X20.here hx rfl (hb hby at_17) rfl (i2d_w _) k) ?_
    show own_Go p e below P T20 (mkF m 18 #[.val (.int p0), .val (.int p1), .val (.int p2), .val (.int p3), .val (.int p4), .val (.int (3 : Int32)), .val (.ref b20), .unset, .unset, .unset] [(.double (FP.l2d p1.toInt64)), (.int (0 : Int32)), (.ref b20)])
    obtain ⟨cl21, Ar21, q21, S21, M21, H21, G21⟩ := (id V_b20)
    have hin21 : ¬ ((0 : Int32) < 0 ∨ cl21.slots.size ≤ ((0 : Int32)).toNatClampNeg) := inb_of S21 ⟨by decide, by decide⟩
    obtain ⟨T21, h21, X21, e21, W21, st21⟩ := stD X20 hx hZ e20 Ar21 (j := (0 : Int32)) hin21 (g := (mkF m 18 #[.val (.int p0), .val (.int p1), .val (.int p2), .val (.int p3), .val (.int p4), .val (.int (3 : Int32)), .val (.ref b20), .unset, .unset, .unset] [(.double (FP.l2d p1.toInt64)), (.int (0 : Int32)), (.ref b20)])) rfl rfl (hb hby at_18)
    have V21 : Arv Z h21 b20 k20 .double (3 : Int32) [(.double (FP.l2d p1.toInt64)), (.double (FP.l2d 0)), (.double (FP.l2d 0))] (.double (FP.l2d 0)) := Arv.set Ar21 q21 S21 M21 H21 G21 rfl W21 0 rfl (Nat.le_of_ble_eq_true rfl)
    have N21 := Fr.snoc X21 N0 g_b20
    refine own_step st21 ?_
    show own_Go p e below P T21 (mkF m 19 #[.val (.int p0), .val (.int p1), .val (.int p2), .val (.int p3), .val (.int p4), .val (.int (3 : Int32)), .val (.ref b20), .unset, .unset, .unset] [])
    refine own_step (fun _ k => XS.iload X21.here hx rfl (hb hby at_19) rfl k) ?_
    show own_Go p e below P T21 (mkF m 21 #[.val (.int p0), .val (.int p1), .val (.int p2), .val (.int p3), .val (.int p4), .val (.int (3 : Int32)), .val (.ref b20), .unset, .unset, .unset] [(.int (3 : Int32))])
    refine own_step (fun _ k => XS.iconst X21.here hx rfl (hb hby at_21) k) ?_
    show own_Go p e below P T21 (mkF m 22 #[.val (.int p0), .val (.int p1), .val (.int p2), .val (.int p3), .val (.int p4), .val (.int (3 : Int32)), .val (.ref b20), .unset, .unset, .unset] [(.int (1 : Int32)), (.int (3 : Int32))])
    refine own_step (fun _ k => XS.icmpNo X21.here hx rfl (hb hby at_22) rfl (tlt (by decide : (1 : Int32) < (3 : Int32))).2.2.2 k) ?_
    show own_Go p e below P T21 (mkF m 25 #[.val (.int p0), .val (.int p1), .val (.int p2), .val (.int p3), .val (.int p4), .val (.int (3 : Int32)), .val (.ref b20), .unset, .unset, .unset] [])
    refine own_step (fun _ k => XS.aload X21.here hx rfl (hb hby at_25) rfl rfl k) ?_
    show own_Go p e below P T21 (mkF m 27 #[.val (.int p0), .val (.int p1), .val (.int p2), .val (.int p3), .val (.int p4), .val (.int (3 : Int32)), .val (.ref b20), .unset, .unset, .unset] [(.ref b20)])
    refine own_step (fun _ k => XS.iconst X21.here hx rfl (hb hby at_27) k) ?_
    show own_Go p e below P T21 (mkF m 28 #[.val (.int p0), .val (.int p1), .val (.int p2), .val (.int p3), .val (.int p4), .val (.int (3 : Int32)), .val (.ref b20), .unset, .unset, .unset] [(.int (1 : Int32)), (.ref b20)])
    refine own_step (fun _ k => XS.iloadN X21.here hx rfl (hb hby at_28) rfl k) ?_
    show own_Go p e below P T21 (mkF m 29 #[.val (.int p0), .val (.int p1), .val (.int p2), .val (.int p3), .val (.int p4), .val (.int (3 : Int32)), .val (.ref b20), .unset, .unset, .unset] [(.int p2), (.int (1 : Int32)), (.ref b20)])
    refine own_step (fun _ k => XS.i2dS X21.here hx rfl (hb hby at_29) rfl (i2d_w _) k) ?_
    show own_Go p e below P T21 (mkF m 30 #[.val (.int p0), .val (.int p1), .val (.int p2), .val (.int p3), .val (.int p4), .val (.int (3 : Int32)), .val (.ref b20), .unset, .unset, .unset] [(.double (FP.l2d p2.toInt64)), (.int (1 : Int32)), (.ref b20)])
    obtain ⟨cl22, Ar22, q22, S22, M22, H22, G22⟩ := (id V21)
    have hin22 : ¬ ((1 : Int32) < 0 ∨ cl22.slots.size ≤ ((1 : Int32)).toNatClampNeg) := inb_of S22 ⟨by decide, by decide⟩
    obtain ⟨T22, h22, X22, e22, W22, st22⟩ := stD X21 hx hZ e21 Ar22 (j := (1 : Int32)) hin22 (g := (mkF m 30 #[.val (.int p0), .val (.int p1), .val (.int p2), .val (.int p3), .val (.int p4), .val (.int (3 : Int32)), .val (.ref b20), .unset, .unset, .unset] [(.double (FP.l2d p2.toInt64)), (.int (1 : Int32)), (.ref b20)])) rfl rfl (hb hby at_30)
    have V22 : Arv Z h22 b20 k20 .double (3 : Int32) [(.double (FP.l2d p1.toInt64)), (.double (FP.l2d p2.toInt64)), (.double (FP.l2d 0))] (.double (FP.l2d 0)) := Arv.set Ar22 q22 S22 M22 H22 G22 rfl W22 1 rfl (Nat.le_of_ble_eq_true rfl)
    have N22 := Fr.snoc X22 N21 g_b20
    refine own_step st22 ?_
    show own_Go p e below P T22 (mkF m 31 #[.val (.int p0), .val (.int p1), .val (.int p2), .val (.int p3), .val (.int p4), .val (.int (3 : Int32)), .val (.ref b20), .unset, .unset, .unset] [])
    refine own_step (fun _ k => XS.iload X22.here hx rfl (hb hby at_31) rfl k) ?_
    show own_Go p e below P T22 (mkF m 33 #[.val (.int p0), .val (.int p1), .val (.int p2), .val (.int p3), .val (.int p4), .val (.int (3 : Int32)), .val (.ref b20), .unset, .unset, .unset] [(.int (3 : Int32))])
    refine own_step (fun _ k => XS.iconst X22.here hx rfl (hb hby at_33) k) ?_
    show own_Go p e below P T22 (mkF m 34 #[.val (.int p0), .val (.int p1), .val (.int p2), .val (.int p3), .val (.int p4), .val (.int (3 : Int32)), .val (.ref b20), .unset, .unset, .unset] [(.int (2 : Int32)), (.int (3 : Int32))])
    refine own_step (fun _ k => XS.icmpNo X22.here hx rfl (hb hby at_34) rfl (tlt (by decide : (2 : Int32) < (3 : Int32))).2.2.2 k) ?_
    show own_Go p e below P T22 (mkF m 37 #[.val (.int p0), .val (.int p1), .val (.int p2), .val (.int p3), .val (.int p4), .val (.int (3 : Int32)), .val (.ref b20), .unset, .unset, .unset] [])
    refine own_step (fun _ k => XS.aload X22.here hx rfl (hb hby at_37) rfl rfl k) ?_
    show own_Go p e below P T22 (mkF m 39 #[.val (.int p0), .val (.int p1), .val (.int p2), .val (.int p3), .val (.int p4), .val (.int (3 : Int32)), .val (.ref b20), .unset, .unset, .unset] [(.ref b20)])
    refine own_step (fun _ k => XS.iconst X22.here hx rfl (hb hby at_39) k) ?_
    show own_Go p e below P T22 (mkF m 40 #[.val (.int p0), .val (.int p1), .val (.int p2), .val (.int p3), .val (.int p4), .val (.int (3 : Int32)), .val (.ref b20), .unset, .unset, .unset] [(.int (2 : Int32)), (.ref b20)])
    refine own_step (fun _ k => XS.iloadN X22.here hx rfl (hb hby at_40) rfl k) ?_
    show own_Go p e below P T22 (mkF m 41 #[.val (.int p0), .val (.int p1), .val (.int p2), .val (.int p3), .val (.int p4), .val (.int (3 : Int32)), .val (.ref b20), .unset, .unset, .unset] [(.int p3), (.int (2 : Int32)), (.ref b20)])
    refine own_step (fun _ k => XS.i2dS X22.here hx rfl (hb hby at_41) rfl (i2d_w _) k) ?_
    show own_Go p e below P T22 (mkF m 42 #[.val (.int p0), .val (.int p1), .val (.int p2), .val (.int p3), .val (.int p4), .val (.int (3 : Int32)), .val (.ref b20), .unset, .unset, .unset] [(.double (FP.l2d p3.toInt64)), (.int (2 : Int32)), (.ref b20)])
    obtain ⟨cl23, Ar23, q23, S23, M23, H23, G23⟩ := (id V22)
    have hin23 : ¬ ((2 : Int32) < 0 ∨ cl23.slots.size ≤ ((2 : Int32)).toNatClampNeg) := inb_of S23 ⟨by decide, by decide⟩
    obtain ⟨T23, h23, X23, e23, W23, st23⟩ := stD X22 hx hZ e22 Ar23 (j := (2 : Int32)) hin23 (g := (mkF m 42 #[.val (.int p0), .val (.int p1), .val (.int p2), .val (.int p3), .val (.int p4), .val (.int (3 : Int32)), .val (.ref b20), .unset, .unset, .unset] [(.double (FP.l2d p3.toInt64)), (.int (2 : Int32)), (.ref b20)])) rfl rfl (hb hby at_42)
    have V23 : Arv Z h23 b20 k20 .double (3 : Int32) [(.double (FP.l2d p1.toInt64)), (.double (FP.l2d p2.toInt64)), (.double (FP.l2d p3.toInt64))] (.double (FP.l2d 0)) := Arv.set Ar23 q23 S23 M23 H23 G23 rfl W23 2 rfl (Nat.le_of_ble_eq_true rfl)
    have N23 := Fr.snoc X23 N22 g_b20
    refine own_step st23 ?_
    show own_Go p e below P T23 (mkF m 43 #[.val (.int p0), .val (.int p1), .val (.int p2), .val (.int p3), .val (.int p4), .val (.int (3 : Int32)), .val (.ref b20), .unset, .unset, .unset] [])
    refine own_step (fun _ k => XS.iload X23.here hx rfl (hb hby at_43) rfl k) ?_
    show own_Go p e below P T23 (mkF m 45 #[.val (.int p0), .val (.int p1), .val (.int p2), .val (.int p3), .val (.int p4), .val (.int (3 : Int32)), .val (.ref b20), .unset, .unset, .unset] [(.int (3 : Int32))])
    refine own_step (fun _ k => XS.iconst X23.here hx rfl (hb hby at_45) k) ?_
    show own_Go p e below P T23 (mkF m 46 #[.val (.int p0), .val (.int p1), .val (.int p2), .val (.int p3), .val (.int p4), .val (.int (3 : Int32)), .val (.ref b20), .unset, .unset, .unset] [(.int (3 : Int32)), (.int (3 : Int32))])
    refine own_step (fun _ k => XS.icmpYes X23.here hx rfl (pc0 := 46) (pc' := 56) rfl (hb hby at_46) rfl (flt (by decide : ¬ ((3 : Int32) < (3 : Int32)))).2.2.2 (by decide) (by decide) k) ?_
    show own_Go p e below P T23 (mkF m 56 #[.val (.int p0), .val (.int p1), .val (.int p2), .val (.int p3), .val (.int p4), .val (.int (3 : Int32)), .val (.ref b20), .unset, .unset, .unset] [])
    refine own_step (fun _ k => XS.iloadN X23.here hx rfl (hb hby at_56) rfl k) ?_
    show own_Go p e below P T23 (mkF m 57 #[.val (.int p0), .val (.int p1), .val (.int p2), .val (.int p3), .val (.int p4), .val (.int (3 : Int32)), .val (.ref b20), .unset, .unset, .unset] [(.int p1)])
    refine own_step (fun _ k => XS.istore X23.here hx rfl (hb hby at_57) rfl (l' := #[.val (.int p0), .val (.int p1), .val (.int p2), .val (.int p3), .val (.int p4), .val (.int (3 : Int32)), .val (.ref b20), .val (.int p1), .unset, .unset]) rfl k) ?_
    show own_Go p e below P T23 (mkF m 59 #[.val (.int p0), .val (.int p1), .val (.int p2), .val (.int p3), .val (.int p4), .val (.int (3 : Int32)), .val (.ref b20), .val (.int p1), .unset, .unset] [])
    refine own_step (fun _ k => XS.iload X23.here hx rfl (hb hby at_59) rfl k) ?_
    show own_Go p e below P T23 (mkF m 61 #[.val (.int p0), .val (.int p1), .val (.int p2), .val (.int p3), .val (.int p4), .val (.int (3 : Int32)), .val (.ref b20), .val (.int p1), .unset, .unset] [(.int (3 : Int32))])
    refine own_step (fun _ k => XS.iconst X23.here hx rfl (hb hby at_61) k) ?_
    show own_Go p e below P T23 (mkF m 62 #[.val (.int p0), .val (.int p1), .val (.int p2), .val (.int p3), .val (.int p4), .val (.int (3 : Int32)), .val (.ref b20), .val (.int p1), .unset, .unset] [(.int (1 : Int32)), (.int (3 : Int32))])
    refine own_step (fun _ k => XS.icmpNo X23.here hx rfl (hb hby at_62) rfl (tlt (by decide : (1 : Int32) < (3 : Int32))).2.2.2 k) ?_
    show own_Go p e below P T23 (mkF m 65 #[.val (.int p0), .val (.int p1), .val (.int p2), .val (.int p3), .val (.int p4), .val (.int (3 : Int32)), .val (.ref b20), .val (.int p1), .unset, .unset] [])
    refine own_step (fun _ k => XS.iload X23.here hx rfl (hb hby at_65) rfl k) ?_
    show own_Go p e below P T23 (mkF m 67 #[.val (.int p0), .val (.int p1), .val (.int p2), .val (.int p3), .val (.int p4), .val (.int (3 : Int32)), .val (.ref b20), .val (.int p1), .unset, .unset] [(.int p1)])
    refine own_step (fun _ k => XS.iloadN X23.here hx rfl (hb hby at_67) rfl k) ?_
    show own_Go p e below P T23 (mkF m 68 #[.val (.int p0), .val (.int p1), .val (.int p2), .val (.int p3), .val (.int p4), .val (.int (3 : Int32)), .val (.ref b20), .val (.int p1), .unset, .unset] [(.int p2), (.int p1)])
    obtain ⟨_, _, ⟨T24, L24, k24, n24⟩, -, X24, ⟨Lc24, hQ24, l24, y24, z24⟩, st24⟩ := Jvm.LawKit.callS X23 hx (y := (⟨"java/lang/Math", "min", "(II)I"⟩ : MethodName)) hown (mvT hZ (hw _ (List.mem_of_getElem? (i := 5) rfl))) (mvT hZ (hw _ (List.mem_of_getElem? (i := 6) rfl))) (mvT hZ (hw _ (List.mem_of_getElem? (i := 7) rfl))) (mvT hZ (hw _ (List.mem_of_getElem? (i := 8) rfl))) (by decide) (backOf (W := 0) (rm2 l Z a0 hw [] p1 p2 h23 n0 (Nat.le_trans (Nat.le_trans (Nat.le_trans (Nat.le_trans Z0 E20.1) (Keep.of_wr W21).1) (Keep.of_wr W22).1) (Keep.of_wr W23).1)) hZ (hw _ (List.mem_of_getElem? (i := 8) rfl)) (hw _ (List.mem_of_getElem? (i := 7) rfl)) (by decide) (by decide)) (g := (mkF m 68 #[.val (.int p0), .val (.int p1), .val (.int p2), .val (.int p3), .val (.int p4), .val (.int (3 : Int32)), .val (.ref b20), .val (.int p1), .unset, .unset] [(.int p2), (.int p1)])) rfl (by rw [hml]; rfl) (argsL := [(.int p1), (.int p2)]) (rest := []) (lenOf pd__II__I rfl) rfl (by show 2 * 0 + _ ≤ _; exact Nat.le_of_eq rfl) (hb hby at_68) (fun _ _ => ⟨rfl, e23, (by decide : 1 + 0 ≤ _), (by decide : 3 + 0 ≤ _)⟩)
    dsimp only [Pt.U, Pt.locs, Pt.cells, Pt.slots] at X24 l24 y24 z24 st24 hQ24
    subst l24 y24 z24
    obtain ⟨rfl, N24q, e24⟩ := hQ24
    have N24 := Fr.app N23 N24q
    refine own_step st24 ?_
    show own_Go p e below P T24 (mkF m 71 #[.val (.int p0), .val (.int p1), .val (.int p2), .val (.int p3), .val (.int p4), .val (.int (3 : Int32)), .val (.ref b20), .val (.int p1), .unset, .unset] [(.int (if p2 < p1 then p2 else p1))])
    refine own_step (fun _ k => XS.istore X24.here hx rfl (hb hby at_71) rfl (l' := #[.val (.int p0), .val (.int p1), .val (.int p2), .val (.int p3), .val (.int p4), .val (.int (3 : Int32)), .val (.ref b20), .val (.int (if p2 < p1 then p2 else p1)), .unset, .unset]) rfl k) ?_
    show own_Go p e below P T24 (mkF m 73 #[.val (.int p0), .val (.int p1), .val (.int p2), .val (.int p3), .val (.int p4), .val (.int (3 : Int32)), .val (.ref b20), .val (.int (if p2 < p1 then p2 else p1)), .unset, .unset] [])
    refine own_step (fun _ k => XS.iload X24.here hx rfl (hb hby at_73) rfl k) ?_
    show own_Go p e below P T24 (mkF m 75 #[.val (.int p0), .val (.int p1), .val (.int p2), .val (.int p3), .val (.int p4), .val (.int (3 : Int32)), .val (.ref b20), .val (.int (if p2 < p1 then p2 else p1)), .unset, .unset] [(.int (3 : Int32))])
    refine own_step (fun _ k => XS.iconst X24.here hx rfl (hb hby at_75) k) ?_
    show own_Go p e below P T24 (mkF m 76 #[.val (.int p0), .val (.int p1), .val (.int p2), .val (.int p3), .val (.int p4), .val (.int (3 : Int32)), .val (.ref b20), .val (.int (if p2 < p1 then p2 else p1)), .unset, .unset] [(.int (2 : Int32)), (.int (3 : Int32))])
    refine own_step (fun _ k => XS.icmpNo X24.here hx rfl (hb hby at_76) rfl (tlt (by decide : (2 : Int32) < (3 : Int32))).2.2.2 k) ?_
    show own_Go p e below P T24 (mkF m 79 #[.val (.int p0), .val (.int p1), .val (.int p2), .val (.int p3), .val (.int p4), .val (.int (3 : Int32)), .val (.ref b20), .val (.int (if p2 < p1 then p2 else p1)), .unset, .unset] [])
    refine own_step (fun _ k => XS.iload X24.here hx rfl (hb hby at_79) rfl k) ?_
    show own_Go p e below P T24 (mkF m 81 #[.val (.int p0), .val (.int p1), .val (.int p2), .val (.int p3), .val (.int p4), .val (.int (3 : Int32)), .val (.ref b20), .val (.int (if p2 < p1 then p2 else p1)), .unset, .unset] [(.int (if p2 < p1 then p2 else p1))])
    refine own_step (fun _ k => XS.iloadN X24.here hx rfl (hb hby at_81) rfl k) ?_
    show own_Go p e below P T24 (mkF m 82 #[.val (.int p0), .val (.int p1), .val (.int p2), .val (.int p3), .val (.int p4), .val (.int (3 : Int32)), .val (.ref b20), .val (.int (if p2 < p1 then p2 else p1)), .unset, .unset] [(.int p3), (.int (if p2 < p1 then p2 else p1))])
    obtain ⟨_, _, ⟨T25, L25, k25, n25⟩, -, X25, ⟨Lc25, hQ25, l25, y25, z25⟩, st25⟩ := Jvm.LawKit.callS X24 hx (y := (⟨"java/lang/Math", "min", "(II)I"⟩ : MethodName)) hown (mvT hZ (hw _ (List.mem_of_getElem? (i := 5) rfl))) (mvT hZ (hw _ (List.mem_of_getElem? (i := 6) rfl))) (mvT hZ (hw _ (List.mem_of_getElem? (i := 7) rfl))) (mvT hZ (hw _ (List.mem_of_getElem? (i := 8) rfl))) (by decide) (backOf (W := 0) (rm2 l Z a0 hw [] (if p2 < p1 then p2 else p1) p3 h23 n0 (Nat.le_trans (Nat.le_trans (Nat.le_trans (Nat.le_trans Z0 E20.1) (Keep.of_wr W21).1) (Keep.of_wr W22).1) (Keep.of_wr W23).1)) hZ (hw _ (List.mem_of_getElem? (i := 8) rfl)) (hw _ (List.mem_of_getElem? (i := 7) rfl)) (by decide) (by decide)) (g := (mkF m 82 #[.val (.int p0), .val (.int p1), .val (.int p2), .val (.int p3), .val (.int p4), .val (.int (3 : Int32)), .val (.ref b20), .val (.int (if p2 < p1 then p2 else p1)), .unset, .unset] [(.int p3), (.int (if p2 < p1 then p2 else p1))])) rfl (by rw [hml]; rfl) (argsL := [(.int (if p2 < p1 then p2 else p1)), (.int p3)]) (rest := []) (lenOf pd__II__I rfl) rfl (by show 2 * 0 + _ ≤ _; exact Nat.le_of_eq rfl) (hb hby at_82) (fun _ _ => ⟨rfl, e24, (by decide : 1 + 0 ≤ _), (by decide : 3 + 0 ≤ _)⟩)
    dsimp only [Pt.U, Pt.locs, Pt.cells, Pt.slots] at X25 l25 y25 z25 st25 hQ25
    subst l25 y25 z25
    obtain ⟨rfl, N25q, e25⟩ := hQ25
    have N25 := Fr.app N24 N25q
    refine own_step st25 ?_
    show own_Go p e below P T25 (mkF m 85 #[.val (.int p0), .val (.int p1), .val (.int p2), .val (.int p3), .val (.int p4), .val (.int (3 : Int32)), .val (.ref b20), .val (.int (if p2 < p1 then p2 else p1)), .unset, .unset] [(.int (if p3 < (if p2 < p1 then p2 else p1) then p3 else (if p2 < p1 then p2 else p1)))])
    refine own_step (fun _ k => XS.istore X25.here hx rfl (hb hby at_85) rfl (l' := #[.val (.int p0), .val (.int p1), .val (.int p2), .val (.int p3), .val (.int p4), .val (.int (3 : Int32)), .val (.ref b20), .val (.int (if p3 < (if p2 < p1 then p2 else p1) then p3 else (if p2 < p1 then p2 else p1))), .unset, .unset]) rfl k) ?_
    show own_Go p e below P T25 (mkF m 87 #[.val (.int p0), .val (.int p1), .val (.int p2), .val (.int p3), .val (.int p4), .val (.int (3 : Int32)), .val (.ref b20), .val (.int (if p3 < (if p2 < p1 then p2 else p1) then p3 else (if p2 < p1 then p2 else p1))), .unset, .unset] [])
    refine own_step (fun _ k => XS.iload X25.here hx rfl (hb hby at_87) rfl k) ?_
    show own_Go p e below P T25 (mkF m 89 #[.val (.int p0), .val (.int p1), .val (.int p2), .val (.int p3), .val (.int p4), .val (.int (3 : Int32)), .val (.ref b20), .val (.int (if p3 < (if p2 < p1 then p2 else p1) then p3 else (if p2 < p1 then p2 else p1))), .unset, .unset] [(.int (3 : Int32))])
    refine own_step (fun _ k => XS.iconst X25.here hx rfl (hb hby at_89) k) ?_
    show own_Go p e below P T25 (mkF m 90 #[.val (.int p0), .val (.int p1), .val (.int p2), .val (.int p3), .val (.int p4), .val (.int (3 : Int32)), .val (.ref b20), .val (.int (if p3 < (if p2 < p1 then p2 else p1) then p3 else (if p2 < p1 then p2 else p1))), .unset, .unset] [(.int (3 : Int32)), (.int (3 : Int32))])
    refine own_step (fun _ k => XS.icmpYes X25.here hx rfl (pc0 := 90) (pc' := 102) rfl (hb hby at_90) rfl (flt (by decide : ¬ ((3 : Int32) < (3 : Int32)))).2.2.2 (by decide) (by decide) k) ?_
    show own_Go p e below P T25 (mkF m 102 #[.val (.int p0), .val (.int p1), .val (.int p2), .val (.int p3), .val (.int p4), .val (.int (3 : Int32)), .val (.ref b20), .val (.int (if p3 < (if p2 < p1 then p2 else p1) then p3 else (if p2 < p1 then p2 else p1))), .unset, .unset] [])
    refine own_step (fun _ k => XS.iloadN X25.here hx rfl (hb hby at_102) rfl k) ?_
    show own_Go p e below P T25 (mkF m 103 #[.val (.int p0), .val (.int p1), .val (.int p2), .val (.int p3), .val (.int p4), .val (.int (3 : Int32)), .val (.ref b20), .val (.int (if p3 < (if p2 < p1 then p2 else p1) then p3 else (if p2 < p1 then p2 else p1))), .unset, .unset] [(.int p1)])
    refine own_step (fun _ k => XS.iload X25.here hx rfl (hb hby at_103) rfl k) ?_
    show own_Go p e below P T25 (mkF m 105 #[.val (.int p0), .val (.int p1), .val (.int p2), .val (.int p3), .val (.int p4), .val (.int (3 : Int32)), .val (.ref b20), .val (.int (if p3 < (if p2 < p1 then p2 else p1) then p3 else (if p2 < p1 then p2 else p1))), .unset, .unset] [(.int (if p3 < (if p2 < p1 then p2 else p1) then p3 else (if p2 < p1 then p2 else p1))), (.int p1)])
    by_cases hc26 : p1 = (if p3 < (if p2 < p1 then p2 else p1) then p3 else (if p2 < p1 then p2 else p1))
    · refine own_step (fun _ k => XS.icmpNo X25.here hx rfl (hb hby at_105) rfl (teq hc26).2 k) ?_
      show own_Go p e below P T25 (mkF m 108 #[.val (.int p0), .val (.int p1), .val (.int p2), .val (.int p3), .val (.int p4), .val (.int (3 : Int32)), .val (.ref b20), .val (.int (if p3 < (if p2 < p1 then p2 else p1) then p3 else (if p2 < p1 then p2 else p1))), .unset, .unset] [])
      refine own_step (fun _ k => XS.iconst X25.here hx rfl (hb hby at_108) k) ?_
      show own_Go p e below P T25 (mkF m 109 #[.val (.int p0), .val (.int p1), .val (.int p2), .val (.int p3), .val (.int p4), .val (.int (3 : Int32)), .val (.ref b20), .val (.int (if p3 < (if p2 < p1 then p2 else p1) then p3 else (if p2 < p1 then p2 else p1))), .unset, .unset] [(.int (0 : Int32))])
      refine own_step (fun _ k => XS.istore X25.here hx rfl (hb hby at_109) rfl (l' := #[.val (.int p0), .val (.int p1), .val (.int p2), .val (.int p3), .val (.int p4), .val (.int (3 : Int32)), .val (.ref b20), .val (.int (if p3 < (if p2 < p1 then p2 else p1) then p3 else (if p2 < p1 then p2 else p1))), .val (.int (0 : Int32)), .unset]) rfl k) ?_
      show own_Go p e below P T25 (mkF m 111 #[.val (.int p0), .val (.int p1), .val (.int p2), .val (.int p3), .val (.int p4), .val (.int (3 : Int32)), .val (.ref b20), .val (.int (if p3 < (if p2 < p1 then p2 else p1) then p3 else (if p2 < p1 then p2 else p1))), .val (.int (0 : Int32)), .unset] [])
      refine own_step (fun _ k => XS.goto X25.here hx rfl (pc0 := 111) (pc' := 141) rfl (hb hby at_111) (by decide) (by decide) k) ?_
      show own_Go p e below P T25 (mkF m 141 #[.val (.int p0), .val (.int p1), .val (.int p2), .val (.int p3), .val (.int p4), .val (.int (3 : Int32)), .val (.ref b20), .val (.int (if p3 < (if p2 < p1 then p2 else p1) then p3 else (if p2 < p1 then p2 else p1))), .val (.int (0 : Int32)), .unset] [])
      refine own_step (fun _ k => XS.aload X25.here hx rfl (hb hby at_141) rfl rfl k) ?_
      show own_Go p e below P T25 (mkF m 143 #[.val (.int p0), .val (.int p1), .val (.int p2), .val (.int p3), .val (.int p4), .val (.int (3 : Int32)), .val (.ref b20), .val (.int (if p3 < (if p2 < p1 then p2 else p1) then p3 else (if p2 < p1 then p2 else p1))), .val (.int (0 : Int32)), .unset] [(.ref b20)])
      obtain ⟨_, _, ⟨T27, L27, k27, n27⟩, -, X27, ⟨Lc27, hQ27, l27, y27, z27⟩, st27⟩ := Jvm.LawKit.callS X25 hx (y := (⟨"com/example/rulewright/rulewright/evolution/Generation", "indexOfBest", "([D)I"⟩ : MethodName)) hown (mvT hZ (hw _ (List.mem_of_getElem? (i := 1) rfl))) (mvT hZ (hw _ (List.mem_of_getElem? (i := 2) rfl))) (mvT hZ (hw _ (List.mem_of_getElem? (i := 3) rfl))) (mvT hZ (hw _ (List.mem_of_getElem? (i := 4) rfl))) (by decide) (backOf (W := 0) (rm13 l Z a0 hw [] b20 k20 p1 p2 p3 p4 h23 n0 (Nat.le_trans (Nat.le_trans (Nat.le_trans (Nat.le_trans Z0 E20.1) (Keep.of_wr W21).1) (Keep.of_wr W22).1) (Keep.of_wr W23).1) V23) hZ (hw _ (List.mem_of_getElem? (i := 4) rfl)) (hw _ (List.mem_of_getElem? (i := 3) rfl)) (by decide) (by decide)) (g := (mkF m 143 #[.val (.int p0), .val (.int p1), .val (.int p2), .val (.int p3), .val (.int p4), .val (.int (3 : Int32)), .val (.ref b20), .val (.int (if p3 < (if p2 < p1 then p2 else p1) then p3 else (if p2 < p1 then p2 else p1))), .val (.int (0 : Int32)), .unset] [(.ref b20)])) rfl (by rw [hml]; rfl) (argsL := [(.ref b20)]) (rest := []) (lenOf pd__AD__I rfl) rfl (by show 2 * 0 + _ ≤ _; exact Nat.le_of_eq rfl) (hb hby at_143) (fun _ _ => ⟨rfl, e25, (by decide : 1 + 0 ≤ _), (by decide : 3 + 0 ≤ _)⟩)
      dsimp only [Pt.U, Pt.locs, Pt.cells, Pt.slots] at X27 l27 y27 z27 st27 hQ27
      subst l27 y27 z27
      obtain ⟨rfl, N27q, e27⟩ := hQ27
      have N27 := Fr.app N25 N27q
      refine own_step st27 ?_
      show own_Go p e below P T27 (mkF m 146 #[.val (.int p0), .val (.int p1), .val (.int p2), .val (.int p3), .val (.int p4), .val (.int (3 : Int32)), .val (.ref b20), .val (.int (if p3 < (if p2 < p1 then p2 else p1) then p3 else (if p2 < p1 then p2 else p1))), .val (.int (0 : Int32)), .unset] [(.int (own_i3 p1 p2 p3 p4))])
      refine own_step (fun _ k => XS.istore X27.here hx rfl (hb hby at_146) rfl (l' := #[.val (.int p0), .val (.int p1), .val (.int p2), .val (.int p3), .val (.int p4), .val (.int (3 : Int32)), .val (.ref b20), .val (.int (if p3 < (if p2 < p1 then p2 else p1) then p3 else (if p2 < p1 then p2 else p1))), .val (.int (0 : Int32)), .val (.int (own_i3 p1 p2 p3 p4))]) rfl k) ?_
      show own_Go p e below P T27 (mkF m 148 #[.val (.int p0), .val (.int p1), .val (.int p2), .val (.int p3), .val (.int p4), .val (.int (3 : Int32)), .val (.ref b20), .val (.int (if p3 < (if p2 < p1 then p2 else p1) then p3 else (if p2 < p1 then p2 else p1))), .val (.int (0 : Int32)), .val (.int (own_i3 p1 p2 p3 p4))] [])
      refine own_step (fun _ k => XS.iload X27.here hx rfl (hb hby at_148) rfl k) ?_
      show own_Go p e below P T27 (mkF m 150 #[.val (.int p0), .val (.int p1), .val (.int p2), .val (.int p3), .val (.int p4), .val (.int (3 : Int32)), .val (.ref b20), .val (.int (if p3 < (if p2 < p1 then p2 else p1) then p3 else (if p2 < p1 then p2 else p1))), .val (.int (0 : Int32)), .val (.int (own_i3 p1 p2 p3 p4))] [(.int (own_i3 p1 p2 p3 p4))])
      refine own_step (fun _ k => XS.iload X27.here hx rfl (hb hby at_150) rfl k) ?_
      show own_Go p e below P T27 (mkF m 152 #[.val (.int p0), .val (.int p1), .val (.int p2), .val (.int p3), .val (.int p4), .val (.int (3 : Int32)), .val (.ref b20), .val (.int (if p3 < (if p2 < p1 then p2 else p1) then p3 else (if p2 < p1 then p2 else p1))), .val (.int (0 : Int32)), .val (.int (own_i3 p1 p2 p3 p4))] [(.int (0 : Int32)), (.int (own_i3 p1 p2 p3 p4))])
      refine own_step (fun _ k => XS.icmpNo X27.here hx rfl (hb hby at_152) rfl (teq (own_e3_0 p1 p2 p3 p4 hc26)).2 k) ?_
      show own_Go p e below P T27 (mkF m 155 #[.val (.int p0), .val (.int p1), .val (.int p2), .val (.int p3), .val (.int p4), .val (.int (3 : Int32)), .val (.ref b20), .val (.int (if p3 < (if p2 < p1 then p2 else p1) then p3 else (if p2 < p1 then p2 else p1))), .val (.int (0 : Int32)), .val (.int (own_i3 p1 p2 p3 p4))] [])
      refine own_step (fun _ k => XS.iconst X27.here hx rfl (hb hby at_155) k) ?_
      show own_Go p e below P T27 (mkF m 156 #[.val (.int p0), .val (.int p1), .val (.int p2), .val (.int p3), .val (.int p4), .val (.int (3 : Int32)), .val (.ref b20), .val (.int (if p3 < (if p2 < p1 then p2 else p1) then p3 else (if p2 < p1 then p2 else p1))), .val (.int (0 : Int32)), .val (.int (own_i3 p1 p2 p3 p4))] [(.int (1 : Int32))])
      refine own_step (fun _ k => XS.goto X27.here hx rfl (pc0 := 156) (pc' := 160) rfl (hb hby at_156) (by decide) (by decide) k) ?_
      show own_Go p e below P T27 (mkF m 160 #[.val (.int p0), .val (.int p1), .val (.int p2), .val (.int p3), .val (.int p4), .val (.int (3 : Int32)), .val (.ref b20), .val (.int (if p3 < (if p2 < p1 then p2 else p1) then p3 else (if p2 < p1 then p2 else p1))), .val (.int (0 : Int32)), .val (.int (own_i3 p1 p2 p3 p4))] [(.int (1 : Int32))])
      obtain ⟨fs, hr, hrun, hended, hW, hsame⟩ := X27.leave (v := some (.int (1 : Int32))) (fun h => by rw [Bd.returns] at h; cases h)
      refine ⟨_, _, retN X27 hx (t := .boolean) Bd.returns (by simp) (hb hby at_160) hr, hrun, hended, hfin _ _ ⟨_, _, rfl, ?_, ⟨_, rfl⟩, hW, hsame.mono (by decide) (by decide)⟩⟩
      show Q0 Z p0 p1 p2 p3 p4 h0 n0 (some (.int (1 : Int32))) T27.heap _
      rw [e27]
      exact ⟨rfl, N27⟩
    · refine own_step (fun _ k => XS.icmpYes X25.here hx rfl (pc0 := 105) (pc' := 114) rfl (hb hby at_105) rfl (feq hc26).2 (by decide) (by decide) k) ?_
      show own_Go p e below P T25 (mkF m 114 #[.val (.int p0), .val (.int p1), .val (.int p2), .val (.int p3), .val (.int p4), .val (.int (3 : Int32)), .val (.ref b20), .val (.int (if p3 < (if p2 < p1 then p2 else p1) then p3 else (if p2 < p1 then p2 else p1))), .unset, .unset] [])
      refine own_step (fun _ k => XS.iloadN X25.here hx rfl (hb hby at_114) rfl k) ?_
      show own_Go p e below P T25 (mkF m 115 #[.val (.int p0), .val (.int p1), .val (.int p2), .val (.int p3), .val (.int p4), .val (.int (3 : Int32)), .val (.ref b20), .val (.int (if p3 < (if p2 < p1 then p2 else p1) then p3 else (if p2 < p1 then p2 else p1))), .unset, .unset] [(.int p2)])
      refine own_step (fun _ k => XS.iload X25.here hx rfl (hb hby at_115) rfl k) ?_
      show own_Go p e below P T25 (mkF m 117 #[.val (.int p0), .val (.int p1), .val (.int p2), .val (.int p3), .val (.int p4), .val (.int (3 : Int32)), .val (.ref b20), .val (.int (if p3 < (if p2 < p1 then p2 else p1) then p3 else (if p2 < p1 then p2 else p1))), .unset, .unset] [(.int (if p3 < (if p2 < p1 then p2 else p1) then p3 else (if p2 < p1 then p2 else p1))), (.int p2)])
      by_cases hc29 : p2 = (if p3 < (if p2 < p1 then p2 else p1) then p3 else (if p2 < p1 then p2 else p1))
      · refine own_step (fun _ k => XS.icmpNo X25.here hx rfl (hb hby at_117) rfl (teq hc29).2 k) ?_
        show own_Go p e below P T25 (mkF m 120 #[.val (.int p0), .val (.int p1), .val (.int p2), .val (.int p3), .val (.int p4), .val (.int (3 : Int32)), .val (.ref b20), .val (.int (if p3 < (if p2 < p1 then p2 else p1) then p3 else (if p2 < p1 then p2 else p1))), .unset, .unset] [])
        refine own_step (fun _ k => XS.iconst X25.here hx rfl (hb hby at_120) k) ?_
        show own_Go p e below P T25 (mkF m 121 #[.val (.int p0), .val (.int p1), .val (.int p2), .val (.int p3), .val (.int p4), .val (.int (3 : Int32)), .val (.ref b20), .val (.int (if p3 < (if p2 < p1 then p2 else p1) then p3 else (if p2 < p1 then p2 else p1))), .unset, .unset] [(.int (1 : Int32))])
        refine own_step (fun _ k => XS.istore X25.here hx rfl (hb hby at_121) rfl (l' := #[.val (.int p0), .val (.int p1), .val (.int p2), .val (.int p3), .val (.int p4), .val (.int (3 : Int32)), .val (.ref b20), .val (.int (if p3 < (if p2 < p1 then p2 else p1) then p3 else (if p2 < p1 then p2 else p1))), .val (.int (1 : Int32)), .unset]) rfl k) ?_
        show own_Go p e below P T25 (mkF m 123 #[.val (.int p0), .val (.int p1), .val (.int p2), .val (.int p3), .val (.int p4), .val (.int (3 : Int32)), .val (.ref b20), .val (.int (if p3 < (if p2 < p1 then p2 else p1) then p3 else (if p2 < p1 then p2 else p1))), .val (.int (1 : Int32)), .unset] [])
        refine own_step (fun _ k => XS.goto X25.here hx rfl (pc0 := 123) (pc' := 141) rfl (hb hby at_123) (by decide) (by decide) k) ?_
        show own_Go p e below P T25 (mkF m 141 #[.val (.int p0), .val (.int p1), .val (.int p2), .val (.int p3), .val (.int p4), .val (.int (3 : Int32)), .val (.ref b20), .val (.int (if p3 < (if p2 < p1 then p2 else p1) then p3 else (if p2 < p1 then p2 else p1))), .val (.int (1 : Int32)), .unset] [])
        refine own_step (fun _ k => XS.aload X25.here hx rfl (hb hby at_141) rfl rfl k) ?_
        show own_Go p e below P T25 (mkF m 143 #[.val (.int p0), .val (.int p1), .val (.int p2), .val (.int p3), .val (.int p4), .val (.int (3 : Int32)), .val (.ref b20), .val (.int (if p3 < (if p2 < p1 then p2 else p1) then p3 else (if p2 < p1 then p2 else p1))), .val (.int (1 : Int32)), .unset] [(.ref b20)])
        obtain ⟨_, _, ⟨T30, L30, k30, n30⟩, -, X30, ⟨Lc30, hQ30, l30, y30, z30⟩, st30⟩ := Jvm.LawKit.callS X25 hx (y := (⟨"com/example/rulewright/rulewright/evolution/Generation", "indexOfBest", "([D)I"⟩ : MethodName)) hown (mvT hZ (hw _ (List.mem_of_getElem? (i := 1) rfl))) (mvT hZ (hw _ (List.mem_of_getElem? (i := 2) rfl))) (mvT hZ (hw _ (List.mem_of_getElem? (i := 3) rfl))) (mvT hZ (hw _ (List.mem_of_getElem? (i := 4) rfl))) (by decide) (backOf (W := 0) (rm13 l Z a0 hw [] b20 k20 p1 p2 p3 p4 h23 n0 (Nat.le_trans (Nat.le_trans (Nat.le_trans (Nat.le_trans Z0 E20.1) (Keep.of_wr W21).1) (Keep.of_wr W22).1) (Keep.of_wr W23).1) V23) hZ (hw _ (List.mem_of_getElem? (i := 4) rfl)) (hw _ (List.mem_of_getElem? (i := 3) rfl)) (by decide) (by decide)) (g := (mkF m 143 #[.val (.int p0), .val (.int p1), .val (.int p2), .val (.int p3), .val (.int p4), .val (.int (3 : Int32)), .val (.ref b20), .val (.int (if p3 < (if p2 < p1 then p2 else p1) then p3 else (if p2 < p1 then p2 else p1))), .val (.int (1 : Int32)), .unset] [(.ref b20)])) rfl (by rw [hml]; rfl) (argsL := [(.ref b20)]) (rest := []) (lenOf pd__AD__I rfl) rfl (by show 2 * 0 + _ ≤ _; exact Nat.le_of_eq rfl) (hb hby at_143) (fun _ _ => ⟨rfl, e25, (by decide : 1 + 0 ≤ _), (by decide : 3 + 0 ≤ _)⟩)
        dsimp only [Pt.U, Pt.locs, Pt.cells, Pt.slots] at X30 l30 y30 z30 st30 hQ30
        subst l30 y30 z30
        obtain ⟨rfl, N30q, e30⟩ := hQ30
        have N30 := Fr.app N25 N30q
        refine own_step st30 ?_
        show own_Go p e below P T30 (mkF m 146 #[.val (.int p0), .val (.int p1), .val (.int p2), .val (.int p3), .val (.int p4), .val (.int (3 : Int32)), .val (.ref b20), .val (.int (if p3 < (if p2 < p1 then p2 else p1) then p3 else (if p2 < p1 then p2 else p1))), .val (.int (1 : Int32)), .unset] [(.int (own_i3 p1 p2 p3 p4))])
        refine own_step (fun _ k => XS.istore X30.here hx rfl (hb hby at_146) rfl (l' := #[.val (.int p0), .val (.int p1), .val (.int p2), .val (.int p3), .val (.int p4), .val (.int (3 : Int32)), .val (.ref b20), .val (.int (if p3 < (if p2 < p1 then p2 else p1) then p3 else (if p2 < p1 then p2 else p1))), .val (.int (1 : Int32)), .val (.int (own_i3 p1 p2 p3 p4))]) rfl k) ?_
        show own_Go p e below P T30 (mkF m 148 #[.val (.int p0), .val (.int p1), .val (.int p2), .val (.int p3), .val (.int p4), .val (.int (3 : Int32)), .val (.ref b20), .val (.int (if p3 < (if p2 < p1 then p2 else p1) then p3 else (if p2 < p1 then p2 else p1))), .val (.int (1 : Int32)), .val (.int (own_i3 p1 p2 p3 p4))] [])
        refine own_step (fun _ k => XS.iload X30.here hx rfl (hb hby at_148) rfl k) ?_
        show own_Go p e below P T30 (mkF m 150 #[.val (.int p0), .val (.int p1), .val (.int p2), .val (.int p3), .val (.int p4), .val (.int (3 : Int32)), .val (.ref b20), .val (.int (if p3 < (if p2 < p1 then p2 else p1) then p3 else (if p2 < p1 then p2 else p1))), .val (.int (1 : Int32)), .val (.int (own_i3 p1 p2 p3 p4))] [(.int (own_i3 p1 p2 p3 p4))])
        refine own_step (fun _ k => XS.iload X30.here hx rfl (hb hby at_150) rfl k) ?_
        show own_Go p e below P T30 (mkF m 152 #[.val (.int p0), .val (.int p1), .val (.int p2), .val (.int p3), .val (.int p4), .val (.int (3 : Int32)), .val (.ref b20), .val (.int (if p3 < (if p2 < p1 then p2 else p1) then p3 else (if p2 < p1 then p2 else p1))), .val (.int (1 : Int32)), .val (.int (own_i3 p1 p2 p3 p4))] [(.int (1 : Int32)), (.int (own_i3 p1 p2 p3 p4))])
        refine own_step (fun _ k => XS.icmpNo X30.here hx rfl (hb hby at_152) rfl (teq (own_e3_1 p1 p2 p3 p4 hc26 hc29)).2 k) ?_
        show own_Go p e below P T30 (mkF m 155 #[.val (.int p0), .val (.int p1), .val (.int p2), .val (.int p3), .val (.int p4), .val (.int (3 : Int32)), .val (.ref b20), .val (.int (if p3 < (if p2 < p1 then p2 else p1) then p3 else (if p2 < p1 then p2 else p1))), .val (.int (1 : Int32)), .val (.int (own_i3 p1 p2 p3 p4))] [])
        refine own_step (fun _ k => XS.iconst X30.here hx rfl (hb hby at_155) k) ?_
        show own_Go p e below P T30 (mkF m 156 #[.val (.int p0), .val (.int p1), .val (.int p2), .val (.int p3), .val (.int p4), .val (.int (3 : Int32)), .val (.ref b20), .val (.int (if p3 < (if p2 < p1 then p2 else p1) then p3 else (if p2 < p1 then p2 else p1))), .val (.int (1 : Int32)), .val (.int (own_i3 p1 p2 p3 p4))] [(.int (1 : Int32))])
        refine own_step (fun _ k => XS.goto X30.here hx rfl (pc0 := 156) (pc' := 160) rfl (hb hby at_156) (by decide) (by decide) k) ?_
        show own_Go p e below P T30 (mkF m 160 #[.val (.int p0), .val (.int p1), .val (.int p2), .val (.int p3), .val (.int p4), .val (.int (3 : Int32)), .val (.ref b20), .val (.int (if p3 < (if p2 < p1 then p2 else p1) then p3 else (if p2 < p1 then p2 else p1))), .val (.int (1 : Int32)), .val (.int (own_i3 p1 p2 p3 p4))] [(.int (1 : Int32))])
        obtain ⟨fs, hr, hrun, hended, hW, hsame⟩ := X30.leave (v := some (.int (1 : Int32))) (fun h => by rw [Bd.returns] at h; cases h)
        refine ⟨_, _, retN X30 hx (t := .boolean) Bd.returns (by simp) (hb hby at_160) hr, hrun, hended, hfin _ _ ⟨_, _, rfl, ?_, ⟨_, rfl⟩, hW, hsame.mono (by decide) (by decide)⟩⟩
        show Q0 Z p0 p1 p2 p3 p4 h0 n0 (some (.int (1 : Int32))) T30.heap _
        rw [e30]
        exact ⟨rfl, N30⟩
      · refine own_step (fun _ k => XS.icmpYes X25.here hx rfl (pc0 := 117) (pc' := 126) rfl (hb hby at_117) rfl (feq hc29).2 (by decide) (by decide) k) ?_
        show own_Go p e below P T25 (mkF m 126 #[.val (.int p0), .val (.int p1), .val (.int p2), .val (.int p3), .val (.int p4), .val (.int (3 : Int32)), .val (.ref b20), .val (.int (if p3 < (if p2 < p1 then p2 else p1) then p3 else (if p2 < p1 then p2 else p1))), .unset, .unset] [])
        refine own_step (fun _ k => XS.iloadN X25.here hx rfl (hb hby at_126) rfl k) ?_
        show own_Go p e below P T25 (mkF m 127 #[.val (.int p0), .val (.int p1), .val (.int p2), .val (.int p3), .val (.int p4), .val (.int (3 : Int32)), .val (.ref b20), .val (.int (if p3 < (if p2 < p1 then p2 else p1) then p3 else (if p2 < p1 then p2 else p1))), .unset, .unset] [(.int p3)])
        refine own_step (fun _ k => XS.iload X25.here hx rfl (hb hby at_127) rfl k) ?_
        show own_Go p e below P T25 (mkF m 129 #[.val (.int p0), .val (.int p1), .val (.int p2), .val (.int p3), .val (.int p4), .val (.int (3 : Int32)), .val (.ref b20), .val (.int (if p3 < (if p2 < p1 then p2 else p1) then p3 else (if p2 < p1 then p2 else p1))), .unset, .unset] [(.int (if p3 < (if p2 < p1 then p2 else p1) then p3 else (if p2 < p1 then p2 else p1))), (.int p3)])
        by_cases hc32 : p3 = (if p3 < (if p2 < p1 then p2 else p1) then p3 else (if p2 < p1 then p2 else p1))
        · refine own_step (fun _ k => XS.icmpNo X25.here hx rfl (hb hby at_129) rfl (teq hc32).2 k) ?_
          show own_Go p e below P T25 (mkF m 132 #[.val (.int p0), .val (.int p1), .val (.int p2), .val (.int p3), .val (.int p4), .val (.int (3 : Int32)), .val (.ref b20), .val (.int (if p3 < (if p2 < p1 then p2 else p1) then p3 else (if p2 < p1 then p2 else p1))), .unset, .unset] [])
          refine own_step (fun _ k => XS.iconst X25.here hx rfl (hb hby at_132) k) ?_
          show own_Go p e below P T25 (mkF m 133 #[.val (.int p0), .val (.int p1), .val (.int p2), .val (.int p3), .val (.int p4), .val (.int (3 : Int32)), .val (.ref b20), .val (.int (if p3 < (if p2 < p1 then p2 else p1) then p3 else (if p2 < p1 then p2 else p1))), .unset, .unset] [(.int (2 : Int32))])
          refine own_step (fun _ k => XS.istore X25.here hx rfl (hb hby at_133) rfl (l' := #[.val (.int p0), .val (.int p1), .val (.int p2), .val (.int p3), .val (.int p4), .val (.int (3 : Int32)), .val (.ref b20), .val (.int (if p3 < (if p2 < p1 then p2 else p1) then p3 else (if p2 < p1 then p2 else p1))), .val (.int (2 : Int32)), .unset]) rfl k) ?_
          show own_Go p e below P T25 (mkF m 135 #[.val (.int p0), .val (.int p1), .val (.int p2), .val (.int p3), .val (.int p4), .val (.int (3 : Int32)), .val (.ref b20), .val (.int (if p3 < (if p2 < p1 then p2 else p1) then p3 else (if p2 < p1 then p2 else p1))), .val (.int (2 : Int32)), .unset] [])
          refine own_step (fun _ k => XS.goto X25.here hx rfl (pc0 := 135) (pc' := 141) rfl (hb hby at_135) (by decide) (by decide) k) ?_
          show own_Go p e below P T25 (mkF m 141 #[.val (.int p0), .val (.int p1), .val (.int p2), .val (.int p3), .val (.int p4), .val (.int (3 : Int32)), .val (.ref b20), .val (.int (if p3 < (if p2 < p1 then p2 else p1) then p3 else (if p2 < p1 then p2 else p1))), .val (.int (2 : Int32)), .unset] [])
          refine own_step (fun _ k => XS.aload X25.here hx rfl (hb hby at_141) rfl rfl k) ?_
          show own_Go p e below P T25 (mkF m 143 #[.val (.int p0), .val (.int p1), .val (.int p2), .val (.int p3), .val (.int p4), .val (.int (3 : Int32)), .val (.ref b20), .val (.int (if p3 < (if p2 < p1 then p2 else p1) then p3 else (if p2 < p1 then p2 else p1))), .val (.int (2 : Int32)), .unset] [(.ref b20)])
          obtain ⟨_, _, ⟨T33, L33, k33, n33⟩, -, X33, ⟨Lc33, hQ33, l33, y33, z33⟩, st33⟩ := Jvm.LawKit.callS X25 hx (y := (⟨"com/example/rulewright/rulewright/evolution/Generation", "indexOfBest", "([D)I"⟩ : MethodName)) hown (mvT hZ (hw _ (List.mem_of_getElem? (i := 1) rfl))) (mvT hZ (hw _ (List.mem_of_getElem? (i := 2) rfl))) (mvT hZ (hw _ (List.mem_of_getElem? (i := 3) rfl))) (mvT hZ (hw _ (List.mem_of_getElem? (i := 4) rfl))) (by decide) (backOf (W := 0) (rm13 l Z a0 hw [] b20 k20 p1 p2 p3 p4 h23 n0 (Nat.le_trans (Nat.le_trans (Nat.le_trans (Nat.le_trans Z0 E20.1) (Keep.of_wr W21).1) (Keep.of_wr W22).1) (Keep.of_wr W23).1) V23) hZ (hw _ (List.mem_of_getElem? (i := 4) rfl)) (hw _ (List.mem_of_getElem? (i := 3) rfl)) (by decide) (by decide)) (g := (mkF m 143 #[.val (.int p0), .val (.int p1), .val (.int p2), .val (.int p3), .val (.int p4), .val (.int (3 : Int32)), .val (.ref b20), .val (.int (if p3 < (if p2 < p1 then p2 else p1) then p3 else (if p2 < p1 then p2 else p1))), .val (.int (2 : Int32)), .unset] [(.ref b20)])) rfl (by rw [hml]; rfl) (argsL := [(.ref b20)]) (rest := []) (lenOf pd__AD__I rfl) rfl (by show 2 * 0 + _ ≤ _; exact Nat.le_of_eq rfl) (hb hby at_143) (fun _ _ => ⟨rfl, e25, (by decide : 1 + 0 ≤ _), (by decide : 3 + 0 ≤ _)⟩)
          dsimp only [Pt.U, Pt.locs, Pt.cells, Pt.slots] at X33 l33 y33 z33 st33 hQ33
          subst l33 y33 z33
          obtain ⟨rfl, N33q, e33⟩ := hQ33
          have N33 := Fr.app N25 N33q
          refine own_step st33 ?_
          show own_Go p e below P T33 (mkF m 146 #[.val (.int p0), .val (.int p1), .val (.int p2), .val (.int p3), .val (.int p4), .val (.int (3 : Int32)), .val (.ref b20), .val (.int (if p3 < (if p2 < p1 then p2 else p1) then p3 else (if p2 < p1 then p2 else p1))), .val (.int (2 : Int32)), .unset] [(.int (own_i3 p1 p2 p3 p4))])
          refine own_step (fun _ k => XS.istore X33.here hx rfl (hb hby at_146) rfl (l' := #[.val (.int p0), .val (.int p1), .val (.int p2), .val (.int p3), .val (.int p4), .val (.int (3 : Int32)), .val (.ref b20), .val (.int (if p3 < (if p2 < p1 then p2 else p1) then p3 else (if p2 < p1 then p2 else p1))), .val (.int (2 : Int32)), .val (.int (own_i3 p1 p2 p3 p4))]) rfl k) ?_
          show own_Go p e below P T33 (mkF m 148 #[.val (.int p0), .val (.int p1), .val (.int p2), .val (.int p3), .val (.int p4), .val (.int (3 : Int32)), .val (.ref b20), .val (.int (if p3 < (if p2 < p1 then p2 else p1) then p3 else (if p2 < p1 then p2 else p1))), .val (.int (2 : Int32)), .val (.int (own_i3 p1 p2 p3 p4))] [])
          refine own_step (fun _ k => XS.iload X33.here hx rfl (hb hby at_148) rfl k) ?_
          show own_Go p e below P T33 (mkF m 150 #[.val (.int p0), .val (.int p1), .val (.int p2), .val (.int p3), .val (.int p4), .val (.int (3 : Int32)), .val (.ref b20), .val (.int (if p3 < (if p2 < p1 then p2 else p1) then p3 else (if p2 < p1 then p2 else p1))), .val (.int (2 : Int32)), .val (.int (own_i3 p1 p2 p3 p4))] [(.int (own_i3 p1 p2 p3 p4))])
          refine own_step (fun _ k => XS.iload X33.here hx rfl (hb hby at_150) rfl k) ?_
          show own_Go p e below P T33 (mkF m 152 #[.val (.int p0), .val (.int p1), .val (.int p2), .val (.int p3), .val (.int p4), .val (.int (3 : Int32)), .val (.ref b20), .val (.int (if p3 < (if p2 < p1 then p2 else p1) then p3 else (if p2 < p1 then p2 else p1))), .val (.int (2 : Int32)), .val (.int (own_i3 p1 p2 p3 p4))] [(.int (2 : Int32)), (.int (own_i3 p1 p2 p3 p4))])
          refine own_step (fun _ k => XS.icmpNo X33.here hx rfl (hb hby at_152) rfl (teq (own_e3_2 p1 p2 p3 p4 hc26 hc29 hc32)).2 k) ?_
          show own_Go p e below P T33 (mkF m 155 #[.val (.int p0), .val (.int p1), .val (.int p2), .val (.int p3), .val (.int p4), .val (.int (3 : Int32)), .val (.ref b20), .val (.int (if p3 < (if p2 < p1 then p2 else p1) then p3 else (if p2 < p1 then p2 else p1))), .val (.int (2 : Int32)), .val (.int (own_i3 p1 p2 p3 p4))] [])
          refine own_step (fun _ k => XS.iconst X33.here hx rfl (hb hby at_155) k) ?_
          show own_Go p e below P T33 (mkF m 156 #[.val (.int p0), .val (.int p1), .val (.int p2), .val (.int p3), .val (.int p4), .val (.int (3 : Int32)), .val (.ref b20), .val (.int (if p3 < (if p2 < p1 then p2 else p1) then p3 else (if p2 < p1 then p2 else p1))), .val (.int (2 : Int32)), .val (.int (own_i3 p1 p2 p3 p4))] [(.int (1 : Int32))])
          refine own_step (fun _ k => XS.goto X33.here hx rfl (pc0 := 156) (pc' := 160) rfl (hb hby at_156) (by decide) (by decide) k) ?_
          show own_Go p e below P T33 (mkF m 160 #[.val (.int p0), .val (.int p1), .val (.int p2), .val (.int p3), .val (.int p4), .val (.int (3 : Int32)), .val (.ref b20), .val (.int (if p3 < (if p2 < p1 then p2 else p1) then p3 else (if p2 < p1 then p2 else p1))), .val (.int (2 : Int32)), .val (.int (own_i3 p1 p2 p3 p4))] [(.int (1 : Int32))])
          obtain ⟨fs, hr, hrun, hended, hW, hsame⟩ := X33.leave (v := some (.int (1 : Int32))) (fun h => by rw [Bd.returns] at h; cases h)
          refine ⟨_, _, retN X33 hx (t := .boolean) Bd.returns (by simp) (hb hby at_160) hr, hrun, hended, hfin _ _ ⟨_, _, rfl, ?_, ⟨_, rfl⟩, hW, hsame.mono (by decide) (by decide)⟩⟩
          show Q0 Z p0 p1 p2 p3 p4 h0 n0 (some (.int (1 : Int32))) T33.heap _
          rw [e33]
          exact ⟨rfl, N33⟩
        · refine own_step (fun _ k => XS.icmpYes X25.here hx rfl (pc0 := 129) (pc' := 138) rfl (hb hby at_129) rfl (feq hc32).2 (by decide) (by decide) k) ?_
          show own_Go p e below P T25 (mkF m 138 #[.val (.int p0), .val (.int p1), .val (.int p2), .val (.int p3), .val (.int p4), .val (.int (3 : Int32)), .val (.ref b20), .val (.int (if p3 < (if p2 < p1 then p2 else p1) then p3 else (if p2 < p1 then p2 else p1))), .unset, .unset] [])
          refine own_step (fun _ k => XS.iconst X25.here hx rfl (hb hby at_138) k) ?_
          show own_Go p e below P T25 (mkF m 139 #[.val (.int p0), .val (.int p1), .val (.int p2), .val (.int p3), .val (.int p4), .val (.int (3 : Int32)), .val (.ref b20), .val (.int (if p3 < (if p2 < p1 then p2 else p1) then p3 else (if p2 < p1 then p2 else p1))), .unset, .unset] [(.int (3 : Int32))])
          refine own_step (fun _ k => XS.istore X25.here hx rfl (hb hby at_139) rfl (l' := #[.val (.int p0), .val (.int p1), .val (.int p2), .val (.int p3), .val (.int p4), .val (.int (3 : Int32)), .val (.ref b20), .val (.int (if p3 < (if p2 < p1 then p2 else p1) then p3 else (if p2 < p1 then p2 else p1))), .val (.int (3 : Int32)), .unset]) rfl k) ?_
          show own_Go p e below P T25 (mkF m 141 #[.val (.int p0), .val (.int p1), .val (.int p2), .val (.int p3), .val (.int p4), .val (.int (3 : Int32)), .val (.ref b20), .val (.int (if p3 < (if p2 < p1 then p2 else p1) then p3 else (if p2 < p1 then p2 else p1))), .val (.int (3 : Int32)), .unset] [])
          refine own_step (fun _ k => XS.aload X25.here hx rfl (hb hby at_141) rfl rfl k) ?_
          show own_Go p e below P T25 (mkF m 143 #[.val (.int p0), .val (.int p1), .val (.int p2), .val (.int p3), .val (.int p4), .val (.int (3 : Int32)), .val (.ref b20), .val (.int (if p3 < (if p2 < p1 then p2 else p1) then p3 else (if p2 < p1 then p2 else p1))), .val (.int (3 : Int32)), .unset] [(.ref b20)])
          obtain ⟨_, _, ⟨T35, L35, k35, n35⟩, -, X35, ⟨Lc35, hQ35, l35, y35, z35⟩, st35⟩ := Jvm.LawKit.callS X25 hx (y := (⟨"com/example/rulewright/rulewright/evolution/Generation", "indexOfBest", "([D)I"⟩ : MethodName)) hown (mvT hZ (hw _ (List.mem_of_getElem? (i := 1) rfl))) (mvT hZ (hw _ (List.mem_of_getElem? (i := 2) rfl))) (mvT hZ (hw _ (List.mem_of_getElem? (i := 3) rfl))) (mvT hZ (hw _ (List.mem_of_getElem? (i := 4) rfl))) (by decide) (backOf (W := 0) (rm13 l Z a0 hw [] b20 k20 p1 p2 p3 p4 h23 n0 (Nat.le_trans (Nat.le_trans (Nat.le_trans (Nat.le_trans Z0 E20.1) (Keep.of_wr W21).1) (Keep.of_wr W22).1) (Keep.of_wr W23).1) V23) hZ (hw _ (List.mem_of_getElem? (i := 4) rfl)) (hw _ (List.mem_of_getElem? (i := 3) rfl)) (by decide) (by decide)) (g := (mkF m 143 #[.val (.int p0), .val (.int p1), .val (.int p2), .val (.int p3), .val (.int p4), .val (.int (3 : Int32)), .val (.ref b20), .val (.int (if p3 < (if p2 < p1 then p2 else p1) then p3 else (if p2 < p1 then p2 else p1))), .val (.int (3 : Int32)), .unset] [(.ref b20)])) rfl (by rw [hml]; rfl) (argsL := [(.ref b20)]) (rest := []) (lenOf pd__AD__I rfl) rfl (by show 2 * 0 + _ ≤ _; exact Nat.le_of_eq rfl) (hb hby at_143) (fun _ _ => ⟨rfl, e25, (by decide : 1 + 0 ≤ _), (by decide : 3 + 0 ≤ _)⟩)
          dsimp only [Pt.U, Pt.locs, Pt.cells, Pt.slots] at X35 l35 y35 z35 st35 hQ35
          subst l35 y35 z35
          obtain ⟨rfl, N35q, e35⟩ := hQ35
          have N35 := Fr.app N25 N35q
          refine own_step st35 ?_
          show own_Go p e below P T35 (mkF m 146 #[.val (.int p0), .val (.int p1), .val (.int p2), .val (.int p3), .val (.int p4), .val (.int (3 : Int32)), .val (.ref b20), .val (.int (if p3 < (if p2 < p1 then p2 else p1) then p3 else (if p2 < p1 then p2 else p1))), .val (.int (3 : Int32)), .unset] [(.int (own_i3 p1 p2 p3 p4))])
          refine own_step (fun _ k => XS.istore X35.here hx rfl (hb hby at_146) rfl (l' := #[.val (.int p0), .val (.int p1), .val (.int p2), .val (.int p3), .val (.int p4), .val (.int (3 : Int32)), .val (.ref b20), .val (.int (if p3 < (if p2 < p1 then p2 else p1) then p3 else (if p2 < p1 then p2 else p1))), .val (.int (3 : Int32)), .val (.int (own_i3 p1 p2 p3 p4))]) rfl k) ?_
          show own_Go p e below P T35 (mkF m 148 #[.val (.int p0), .val (.int p1), .val (.int p2), .val (.int p3), .val (.int p4), .val (.int (3 : Int32)), .val (.ref b20), .val (.int (if p3 < (if p2 < p1 then p2 else p1) then p3 else (if p2 < p1 then p2 else p1))), .val (.int (3 : Int32)), .val (.int (own_i3 p1 p2 p3 p4))] [])
          refine own_step (fun _ k => XS.iload X35.here hx rfl (hb hby at_148) rfl k) ?_
          show own_Go p e below P T35 (mkF m 150 #[.val (.int p0), .val (.int p1), .val (.int p2), .val (.int p3), .val (.int p4), .val (.int (3 : Int32)), .val (.ref b20), .val (.int (if p3 < (if p2 < p1 then p2 else p1) then p3 else (if p2 < p1 then p2 else p1))), .val (.int (3 : Int32)), .val (.int (own_i3 p1 p2 p3 p4))] [(.int (own_i3 p1 p2 p3 p4))])
          refine own_step (fun _ k => XS.iload X35.here hx rfl (hb hby at_150) rfl k) ?_
          show own_Go p e below P T35 (mkF m 152 #[.val (.int p0), .val (.int p1), .val (.int p2), .val (.int p3), .val (.int p4), .val (.int (3 : Int32)), .val (.ref b20), .val (.int (if p3 < (if p2 < p1 then p2 else p1) then p3 else (if p2 < p1 then p2 else p1))), .val (.int (3 : Int32)), .val (.int (own_i3 p1 p2 p3 p4))] [(.int (3 : Int32)), (.int (own_i3 p1 p2 p3 p4))])
          refine own_step (fun _ k => XS.icmpNo X35.here hx rfl (hb hby at_152) rfl (teq (own_e3_3 p1 p2 p3 p4 hc26 hc29 hc32)).2 k) ?_
          show own_Go p e below P T35 (mkF m 155 #[.val (.int p0), .val (.int p1), .val (.int p2), .val (.int p3), .val (.int p4), .val (.int (3 : Int32)), .val (.ref b20), .val (.int (if p3 < (if p2 < p1 then p2 else p1) then p3 else (if p2 < p1 then p2 else p1))), .val (.int (3 : Int32)), .val (.int (own_i3 p1 p2 p3 p4))] [])
          refine own_step (fun _ k => XS.iconst X35.here hx rfl (hb hby at_155) k) ?_
          show own_Go p e below P T35 (mkF m 156 #[.val (.int p0), .val (.int p1), .val (.int p2), .val (.int p3), .val (.int p4), .val (.int (3 : Int32)), .val (.ref b20), .val (.int (if p3 < (if p2 < p1 then p2 else p1) then p3 else (if p2 < p1 then p2 else p1))), .val (.int (3 : Int32)), .val (.int (own_i3 p1 p2 p3 p4))] [(.int (1 : Int32))])
          refine own_step (fun _ k => XS.goto X35.here hx rfl (pc0 := 156) (pc' := 160) rfl (hb hby at_156) (by decide) (by decide) k) ?_
          show own_Go p e below P T35 (mkF m 160 #[.val (.int p0), .val (.int p1), .val (.int p2), .val (.int p3), .val (.int p4), .val (.int (3 : Int32)), .val (.ref b20), .val (.int (if p3 < (if p2 < p1 then p2 else p1) then p3 else (if p2 < p1 then p2 else p1))), .val (.int (3 : Int32)), .val (.int (own_i3 p1 p2 p3 p4))] [(.int (1 : Int32))])
          obtain ⟨fs, hr, hrun, hended, hW, hsame⟩ := X35.leave (v := some (.int (1 : Int32))) (fun h => by rw [Bd.returns] at h; cases h)
          refine ⟨_, _, retN X35 hx (t := .boolean) Bd.returns (by simp) (hb hby at_160) hr, hrun, hended, hfin _ _ ⟨_, _, rfl, ?_, ⟨_, rfl⟩, hW, hsame.mono (by decide) (by decide)⟩⟩
          show Q0 Z p0 p1 p2 p3 p4 h0 n0 (some (.int (1 : Int32))) T35.heap _
          rw [e35]
          exact ⟨rfl, N35⟩
  · show own_Go p e below P s₁ (mkF m 5 #[.val (.int p0), .val (.int p1), .val (.int p2), .val (.int p3), .val (.int p4), .unset, .unset, .unset, .unset, .unset] [(.int (4 : Int32))])
    refine own_step (fun _ k => XS.istore X0.here hx rfl (hb hby at_5) rfl (l' := #[.val (.int p0), .val (.int p1), .val (.int p2), .val (.int p3), .val (.int p4), .val (.int (4 : Int32)), .unset, .unset, .unset, .unset]) rfl k) ?_
    show own_Go p e below P s₁ (mkF m 7 #[.val (.int p0), .val (.int p1), .val (.int p2), .val (.int p3), .val (.int p4), .val (.int (4 : Int32)), .unset, .unset, .unset, .unset] [])
    refine own_step (fun _ k => XS.iload X0.here hx rfl (hb hby at_7) rfl k) ?_
    show own_Go p e below P s₁ (mkF m 9 #[.val (.int p0), .val (.int p1), .val (.int p2), .val (.int p3), .val (.int p4), .val (.int (4 : Int32)), .unset, .unset, .unset, .unset] [(.int (4 : Int32))])
    obtain ⟨T37, h37, k37, X37, e37, E37, A37, st37⟩ := newP X0 hx hZ (hw _ (List.mem_of_getElem? (i := 0) rfl)) e0 (g := (mkF m 9 #[.val (.int p0), .val (.int p1), .val (.int p2), .val (.int p3), .val (.int p4), .val (.int (4 : Int32)), .unset, .unset, .unset, .unset] [(.int (4 : Int32))])) rfl (hb hby at_9) rfl (by decide) (cap := 4) (by decide) (by decide) (by decide) (by decide)
    obtain ⟨b37, g37⟩ : ∃ z, z = h0.size := ⟨_, rfl⟩
    rw [← g37] at A37 st37
    have g_b37 : n0 ≤ b37 := Nat.le_trans Z0 (Nat.le_of_eq g37.symm)
    have sz_b37 : h0.size ≤ b37 := Nat.le_trans (Keep.refl h0 []).1 (Nat.le_of_eq g37.symm)
    have V_b37 : Arv Z h37 b37 k37 .double (4 : Int32) [(.double (FP.l2d 0)), (.double (FP.l2d 0)), (.double (FP.l2d 0)), (.double (FP.l2d 0))] (.double (FP.l2d 0)) := (Arv.newD A37 (by decide)).pad (pad_rep [] (.double (FP.l2d 0)) 4)
    refine own_step st37 ?_
    show own_Go p e below P T37 (mkF m 11 #[.val (.int p0), .val (.int p1), .val (.int p2), .val (.int p3), .val (.int p4), .val (.int (4 : Int32)), .unset, .unset, .unset, .unset] [(.ref b37)])
    refine own_step (fun _ k => XS.astore X37.here hx rfl (hb hby at_11) rfl rfl (l' := #[.val (.int p0), .val (.int p1), .val (.int p2), .val (.int p3), .val (.int p4), .val (.int (4 : Int32)), .val (.ref b37), .unset, .unset, .unset]) rfl k) ?_
    show own_Go p e below P T37 (mkF m 13 #[.val (.int p0), .val (.int p1), .val (.int p2), .val (.int p3), .val (.int p4), .val (.int (4 : Int32)), .val (.ref b37), .unset, .unset, .unset] [])
    refine own_step (fun _ k => XS.aload X37.here hx rfl (hb hby at_13) rfl rfl k) ?_
    show own_Go p e below P T37 (mkF m 15 #[.val (.int p0), .val (.int p1), .val (.int p2), .val (.int p3), .val (.int p4), .val (.int (4 : Int32)), .val (.ref b37), .unset, .unset, .unset] [(.ref b37)])
    refine own_step (fun _ k => XS.iconst X37.here hx rfl (hb hby at_15) k) ?_
    show own_Go p e below P T37 (mkF m 16 #[.val (.int p0), .val (.int p1), .val (.int p2), .val (.int p3), .val (.int p4), .val (.int (4 : Int32)), .val (.ref b37), .unset, .unset, .unset] [(.int (0 : Int32)), (.ref b37)])
    refine own_step (fun _ k => XS.iloadN X37.here hx rfl (hb hby at_16) rfl k) ?_
    show own_Go p e below P T37 (mkF m 17 #[.val (.int p0), .val (.int p1), .val (.int p2), .val (.int p3), .val (.int p4), .val (.int (4 : Int32)), .val (.ref b37), .unset, .unset, .unset] [(.int p1), (.int (0 : Int32)), (.ref b37)])
    refine own_step (fun _ k => XS.i2dS X37.here hx rfl (hb hby at_17) rfl (i2d_w _) k) ?_
    show own_Go p e below P T37 (mkF m 18 #[.val (.int p0), .val (.int p1), .val (.int p2), .val (.int p3), .val (.int p4), .val (.int (4 : Int32)), .val (.ref b37), .unset, .unset, .unset] [(.double (FP.l2d p1.toInt64)), (.int (0 : Int32)), (.ref b37)])
    obtain ⟨cl38, Ar38, q38, S38, M38, H38, G38⟩ := (id V_b37)
    have hin38 : ¬ ((0 : Int32) < 0 ∨ cl38.slots.size ≤ ((0 : Int32)).toNatClampNeg) := inb_of S38 ⟨by decide, by decide⟩
    obtain ⟨T38, h38, X38, e38, W38, st38⟩ := stD X37 hx hZ e37 Ar38 (j := (0 : Int32)) hin38 (g := (mkF m 18 #[.val (.int p0), .val (.int p1), .val (.int p2), .val (.int p3), .val (.int p4), .val (.int (4 : Int32)), .val (.ref b37), .unset, .unset, .unset] [(.double (FP.l2d p1.toInt64)), (.int (0 : Int32)), (.ref b37)])) rfl rfl (hb hby at_18)
    have V38 : Arv Z h38 b37 k37 .double (4 : Int32) [(.double (FP.l2d p1.toInt64)), (.double (FP.l2d 0)), (.double (FP.l2d 0)), (.double (FP.l2d 0))] (.double (FP.l2d 0)) := Arv.set Ar38 q38 S38 M38 H38 G38 rfl W38 0 rfl (Nat.le_of_ble_eq_true rfl)
    have N38 := Fr.snoc X38 N0 g_b37
    refine own_step st38 ?_
    show own_Go p e below P T38 (mkF m 19 #[.val (.int p0), .val (.int p1), .val (.int p2), .val (.int p3), .val (.int p4), .val (.int (4 : Int32)), .val (.ref b37), .unset, .unset, .unset] [])
    refine own_step (fun _ k => XS.iload X38.here hx rfl (hb hby at_19) rfl k) ?_
    show own_Go p e below P T38 (mkF m 21 #[.val (.int p0), .val (.int p1), .val (.int p2), .val (.int p3), .val (.int p4), .val (.int (4 : Int32)), .val (.ref b37), .unset, .unset, .unset] [(.int (4 : Int32))])
    refine own_step (fun _ k => XS.iconst X38.here hx rfl (hb hby at_21) k) ?_
    show own_Go p e below P T38 (mkF m 22 #[.val (.int p0), .val (.int p1), .val (.int p2), .val (.int p3), .val (.int p4), .val (.int (4 : Int32)), .val (.ref b37), .unset, .unset, .unset] [(.int (1 : Int32)), (.int (4 : Int32))])
    refine own_step (fun _ k => XS.icmpNo X38.here hx rfl (hb hby at_22) rfl (tlt (by decide : (1 : Int32) < (4 : Int32))).2.2.2 k) ?_
    show own_Go p e below P T38 (mkF m 25 #[.val (.int p0), .val (.int p1), .val (.int p2), .val (.int p3), .val (.int p4), .val (.int (4 : Int32)), .val (.ref b37), .unset, .unset, .unset] [])
    refine own_step (fun _ k => XS.aload X38.here hx rfl (hb hby at_25) rfl rfl k) ?_
    show own_Go p e below P T38 (mkF m 27 #[.val (.int p0), .val (.int p1), .val (.int p2), .val (.int p3), .val (.int p4), .val (.int (4 : Int32)), .val (.ref b37), .unset, .unset, .unset] [(.ref b37)])
    refine own_step (fun _ k => XS.iconst X38.here hx rfl (hb hby at_27) k) ?_
    show own_Go p e below P T38 (mkF m 28 #[.val (.int p0), .val (.int p1), .val (.int p2), .val (.int p3), .val (.int p4), .val (.int (4 : Int32)), .val (.ref b37), .unset, .unset, .unset] [(.int (1 : Int32)), (.ref b37)])
    refine own_step (fun _ k => XS.iloadN X38.here hx rfl (hb hby at_28) rfl k) ?_
    show own_Go p e below P T38 (mkF m 29 #[.val (.int p0), .val (.int p1), .val (.int p2), .val (.int p3), .val (.int p4), .val (.int (4 : Int32)), .val (.ref b37), .unset, .unset, .unset] [(.int p2), (.int (1 : Int32)), (.ref b37)])
    refine own_step (fun _ k => XS.i2dS X38.here hx rfl (hb hby at_29) rfl (i2d_w _) k) ?_
    show own_Go p e below P T38 (mkF m 30 #[.val (.int p0), .val (.int p1), .val (.int p2), .val (.int p3), .val (.int p4), .val (.int (4 : Int32)), .val (.ref b37), .unset, .unset, .unset] [(.double (FP.l2d p2.toInt64)), (.int (1 : Int32)), (.ref b37)])
    obtain ⟨cl39, Ar39, q39, S39, M39, H39, G39⟩ := (id V38)
    have hin39 : ¬ ((1 : Int32) < 0 ∨ cl39.slots.size ≤ ((1 : Int32)).toNatClampNeg) := inb_of S39 ⟨by decide, by decide⟩
    obtain ⟨T39, h39, X39, e39, W39, st39⟩ := stD X38 hx hZ e38 Ar39 (j := (1 : Int32)) hin39 (g := (mkF m 30 #[.val (.int p0), .val (.int p1), .val (.int p2), .val (.int p3), .val (.int p4), .val (.int (4 : Int32)), .val (.ref b37), .unset, .unset, .unset] [(.double (FP.l2d p2.toInt64)), (.int (1 : Int32)), (.ref b37)])) rfl rfl (hb hby at_30)
    have V39 : Arv Z h39 b37 k37 .double (4 : Int32) [(.double (FP.l2d p1.toInt64)), (.double (FP.l2d p2.toInt64)), (.double (FP.l2d 0)), (.double (FP.l2d 0))] (.double (FP.l2d 0)) := Arv.set Ar39 q39 S39 M39 H39 G39 rfl W39 1 rfl (Nat.le_of_ble_eq_true rfl)
    have N39 := Fr.snoc X39 N38 g_b37
    refine own_step st39 ?_
    show own_Go p e below P T39 (mkF m 31 #[.val (.int p0), .val (.int p1), .val (.int p2), .val (.int p3), .val (.int p4), .val (.int (4 : Int32)), .val (.ref b37), .unset, .unset, .unset] [])
    refine own_step (fun _ k => XS.iload X39.here hx rfl (hb hby at_31) rfl k) ?_
    show own_Go p e below P T39 (mkF m 33 #[.val (.int p0), .val (.int p1), .val (.int p2), .val (.int p3), .val (.int p4), .val (.int (4 : Int32)), .val (.ref b37), .unset, .unset, .unset] [(.int (4 : Int32))])
    refine own_step (fun _ k => XS.iconst X39.here hx rfl (hb hby at_33) k) ?_
    show own_Go p e below P T39 (mkF m 34 #[.val (.int p0), .val (.int p1), .val (.int p2), .val (.int p3), .val (.int p4), .val (.int (4 : Int32)), .val (.ref b37), .unset, .unset, .unset] [(.int (2 : Int32)), (.int (4 : Int32))])
    refine own_step (fun _ k => XS.icmpNo X39.here hx rfl (hb hby at_34) rfl (tlt (by decide : (2 : Int32) < (4 : Int32))).2.2.2 k) ?_
    show own_Go p e below P T39 (mkF m 37 #[.val (.int p0), .val (.int p1), .val (.int p2), .val (.int p3), .val (.int p4), .val (.int (4 : Int32)), .val (.ref b37), .unset, .unset, .unset] [])
    refine own_step (fun _ k => XS.aload X39.here hx rfl (hb hby at_37) rfl rfl k) ?_
    show own_Go p e below P T39 (mkF m 39 #[.val (.int p0), .val (.int p1), .val (.int p2), .val (.int p3), .val (.int p4), .val (.int (4 : Int32)), .val (.ref b37), .unset, .unset, .unset] [(.ref b37)])
    refine own_step (fun _ k => XS.iconst X39.here hx rfl (hb hby at_39) k) ?_
    show own_Go p e below P T39 (mkF m 40 #[.val (.int p0), .val (.int p1), .val (.int p2), .val (.int p3), .val (.int p4), .val (.int (4 : Int32)), .val (.ref b37), .unset, .unset, .unset] [(.int (2 : Int32)), (.ref b37)])
    refine own_step (fun _ k => XS.iloadN X39.here hx rfl (hb hby at_40) rfl k) ?_
    show own_Go p e below P T39 (mkF m 41 #[.val (.int p0), .val (.int p1), .val (.int p2), .val (.int p3), .val (.int p4), .val (.int (4 : Int32)), .val (.ref b37), .unset, .unset, .unset] [(.int p3), (.int (2 : Int32)), (.ref b37)])
    refine own_step (fun _ k => XS.i2dS X39.here hx rfl (hb hby at_41) rfl (i2d_w _) k) ?_
    show own_Go p e below P T39 (mkF m 42 #[.val (.int p0), .val (.int p1), .val (.int p2), .val (.int p3), .val (.int p4), .val (.int (4 : Int32)), .val (.ref b37), .unset, .unset, .unset] [(.double (FP.l2d p3.toInt64)), (.int (2 : Int32)), (.ref b37)])
    obtain ⟨cl40, Ar40, q40, S40, M40, H40, G40⟩ := (id V39)
    have hin40 : ¬ ((2 : Int32) < 0 ∨ cl40.slots.size ≤ ((2 : Int32)).toNatClampNeg) := inb_of S40 ⟨by decide, by decide⟩
    obtain ⟨T40, h40, X40, e40, W40, st40⟩ := stD X39 hx hZ e39 Ar40 (j := (2 : Int32)) hin40 (g := (mkF m 42 #[.val (.int p0), .val (.int p1), .val (.int p2), .val (.int p3), .val (.int p4), .val (.int (4 : Int32)), .val (.ref b37), .unset, .unset, .unset] [(.double (FP.l2d p3.toInt64)), (.int (2 : Int32)), (.ref b37)])) rfl rfl (hb hby at_42)
    have V40 : Arv Z h40 b37 k37 .double (4 : Int32) [(.double (FP.l2d p1.toInt64)), (.double (FP.l2d p2.toInt64)), (.double (FP.l2d p3.toInt64)), (.double (FP.l2d 0))] (.double (FP.l2d 0)) := Arv.set Ar40 q40 S40 M40 H40 G40 rfl W40 2 rfl (Nat.le_of_ble_eq_true rfl)
    have N40 := Fr.snoc X40 N39 g_b37
    refine own_step st40 ?_
    show own_Go p e below P T40 (mkF m 43 #[.val (.int p0), .val (.int p1), .val (.int p2), .val (.int p3), .val (.int p4), .val (.int (4 : Int32)), .val (.ref b37), .unset, .unset, .unset] [])
    refine own_step (fun _ k => XS.iload X40.here hx rfl (hb hby at_43) rfl k) ?_
    show own_Go p e below P T40 (mkF m 45 #[.val (.int p0), .val (.int p1), .val (.int p2), .val (.int p3), .val (.int p4), .val (.int (4 : Int32)), .val (.ref b37), .unset, .unset, .unset] [(.int (4 : Int32))])
    refine own_step (fun _ k => XS.iconst X40.here hx rfl (hb hby at_45) k) ?_
    show own_Go p e below P T40 (mkF m 46 #[.val (.int p0), .val (.int p1), .val (.int p2), .val (.int p3), .val (.int p4), .val (.int (4 : Int32)), .val (.ref b37), .unset, .unset, .unset] [(.int (3 : Int32)), (.int (4 : Int32))])
    refine own_step (fun _ k => XS.icmpNo X40.here hx rfl (hb hby at_46) rfl (tlt (by decide : (3 : Int32) < (4 : Int32))).2.2.2 k) ?_
    show own_Go p e below P T40 (mkF m 49 #[.val (.int p0), .val (.int p1), .val (.int p2), .val (.int p3), .val (.int p4), .val (.int (4 : Int32)), .val (.ref b37), .unset, .unset, .unset] [])
    refine own_step (fun _ k => XS.aload X40.here hx rfl (hb hby at_49) rfl rfl k) ?_
    show own_Go p e below P T40 (mkF m 51 #[.val (.int p0), .val (.int p1), .val (.int p2), .val (.int p3), .val (.int p4), .val (.int (4 : Int32)), .val (.ref b37), .unset, .unset, .unset] [(.ref b37)])
    refine own_step (fun _ k => XS.iconst X40.here hx rfl (hb hby at_51) k) ?_
    show own_Go p e below P T40 (mkF m 52 #[.val (.int p0), .val (.int p1), .val (.int p2), .val (.int p3), .val (.int p4), .val (.int (4 : Int32)), .val (.ref b37), .unset, .unset, .unset] [(.int (3 : Int32)), (.ref b37)])
    refine own_step (fun _ k => XS.iload X40.here hx rfl (hb hby at_52) rfl k) ?_
    show own_Go p e below P T40 (mkF m 54 #[.val (.int p0), .val (.int p1), .val (.int p2), .val (.int p3), .val (.int p4), .val (.int (4 : Int32)), .val (.ref b37), .unset, .unset, .unset] [(.int p4), (.int (3 : Int32)), (.ref b37)])
    refine own_step (fun _ k => XS.i2dS X40.here hx rfl (hb hby at_54) rfl (i2d_w _) k) ?_
    show own_Go p e below P T40 (mkF m 55 #[.val (.int p0), .val (.int p1), .val (.int p2), .val (.int p3), .val (.int p4), .val (.int (4 : Int32)), .val (.ref b37), .unset, .unset, .unset] [(.double (FP.l2d p4.toInt64)), (.int (3 : Int32)), (.ref b37)])
    obtain ⟨cl41, Ar41, q41, S41, M41, H41, G41⟩ := (id V40)
    have hin41 : ¬ ((3 : Int32) < 0 ∨ cl41.slots.size ≤ ((3 : Int32)).toNatClampNeg) := inb_of S41 ⟨by decide, by decide⟩
    obtain ⟨T41, h41, X41, e41, W41, st41⟩ := stD X40 hx hZ e40 Ar41 (j := (3 : Int32)) hin41 (g := (mkF m 55 #[.val (.int p0), .val (.int p1), .val (.int p2), .val (.int p3), .val (.int p4), .val (.int (4 : Int32)), .val (.ref b37), .unset, .unset, .unset] [(.double (FP.l2d p4.toInt64)), (.int (3 : Int32)), (.ref b37)])) rfl rfl (hb hby at_55)
    have V41 : Arv Z h41 b37 k37 .double (4 : Int32) [(.double (FP.l2d p1.toInt64)), (.double (FP.l2d p2.toInt64)), (.double (FP.l2d p3.toInt64)), (.double (FP.l2d p4.toInt64))] (.double (FP.l2d 0)) := Arv.set Ar41 q41 S41 M41 H41 G41 rfl W41 3 rfl (Nat.le_of_ble_eq_true rfl)
    have N41 := Fr.snoc X41 N40 g_b37
    refine own_step st41 ?_
    show own_Go p e below P T41 (mkF m 56 #[.val (.int p0), .val (.int p1), .val (.int p2), .val (.int p3), .val (.int p4), .val (.int (4 : Int32)), .val (.ref b37), .unset, .unset, .unset] [])
    refine own_step (fun _ k => XS.iloadN X41.here hx rfl (hb hby at_56) rfl k) ?_
    show own_Go p e below P T41 (mkF m 57 #[.val (.int p0), .val (.int p1), .val (.int p2), .val (.int p3), .val (.int p4), .val (.int (4 : Int32)), .val (.ref b37), .unset, .unset, .unset] [(.int p1)])
    refine own_step (fun _ k => XS.istore X41.here hx rfl (hb hby at_57) rfl (l' := #[.val (.int p0), .val (.int p1), .val (.int p2), .val (.int p3), .val (.int p4), .val (.int (4 : Int32)), .val (.ref b37), .val (.int p1), .unset, .unset]) rfl k) ?_
    show own_Go p e below P T41 (mkF m 59 #[.val (.int p0), .val (.int p1), .val (.int p2), .val (.int p3), .val (.int p4), .val (.int (4 : Int32)), .val (.ref b37), .val (.int p1), .unset, .unset] [])
    refine own_step (fun _ k => XS.iload X41.here hx rfl (hb hby at_59) rfl k) ?_
    show own_Go p e below P T41 (mkF m 61 #[.val (.int p0), .val (.int p1), .val (.int p2), .val (.int p3), .val (.int p4), .val (.int (4 : Int32)), .val (.ref b37), .val (.int p1), .unset, .unset] [(.int (4 : Int32))])
    refine own_step (fun _ k => XS.iconst X41.here hx rfl (hb hby at_61) k) ?_
    show own_Go p e below P T41 (mkF m 62 #[.val (.int p0), .val (.int p1), .val (.int p2), .val (.int p3), .val (.int p4), .val (.int (4 : Int32)), .val (.ref b37), .val (.int p1), .unset, .unset] [(.int (1 : Int32)), (.int (4 : Int32))])
    refine own_step (fun _ k => XS.icmpNo X41.here hx rfl (hb hby at_62) rfl (tlt (by decide : (1 : Int32) < (4 : Int32))).2.2.2 k) ?_
    show own_Go p e below P T41 (mkF m 65 #[.val (.int p0), .val (.int p1), .val (.int p2), .val (.int p3), .val (.int p4), .val (.int (4 : Int32)), .val (.ref b37), .val (.int p1), .unset, .unset] [])
    refine own_step (fun _ k => XS.iload X41.here hx rfl (hb hby at_65) rfl k) ?_
    show own_Go p e below P T41 (mkF m 67 #[.val (.int p0), .val (.int p1), .val (.int p2), .val (.int p3), .val (.int p4), .val (.int (4 : Int32)), .val (.ref b37), .val (.int p1), .unset, .unset] [(.int p1)])
    refine own_step (fun _ k => XS.iloadN X41.here hx rfl (hb hby at_67) rfl k) ?_
    show own_Go p e below P T41 (mkF m 68 #[.val (.int p0), .val (.int p1), .val (.int p2), .val (.int p3), .val (.int p4), .val (.int (4 : Int32)), .val (.ref b37), .val (.int p1), .unset, .unset] [(.int p2), (.int p1)])
    obtain ⟨_, _, ⟨T42, L42, k42, n42⟩, -, X42, ⟨Lc42, hQ42, l42, y42, z42⟩, st42⟩ := Jvm.LawKit.callS X41 hx (y := (⟨"java/lang/Math", "min", "(II)I"⟩ : MethodName)) hown (mvT hZ (hw _ (List.mem_of_getElem? (i := 5) rfl))) (mvT hZ (hw _ (List.mem_of_getElem? (i := 6) rfl))) (mvT hZ (hw _ (List.mem_of_getElem? (i := 7) rfl))) (mvT hZ (hw _ (List.mem_of_getElem? (i := 8) rfl))) (by decide) (backOf (W := 0) (rm2 l Z a0 hw [] p1 p2 h41 n0 (Nat.le_trans (Nat.le_trans (Nat.le_trans (Nat.le_trans (Nat.le_trans Z0 E37.1) (Keep.of_wr W38).1) (Keep.of_wr W39).1) (Keep.of_wr W40).1) (Keep.of_wr W41).1)) hZ (hw _ (List.mem_of_getElem? (i := 8) rfl)) (hw _ (List.mem_of_getElem? (i := 7) rfl)) (by decide) (by decide)) (g := (mkF m 68 #[.val (.int p0), .val (.int p1), .val (.int p2), .val (.int p3), .val (.int p4), .val (.int (4 : Int32)), .val (.ref b37), .val (.int p1), .unset, .unset] [(.int p2), (.int p1)])) rfl (by rw [hml]; rfl) (argsL := [(.int p1), (.int p2)]) (rest := []) (lenOf pd__II__I rfl) rfl (by show 2 * 0 + _ ≤ _; exact Nat.le_of_eq rfl) (hb hby at_68) (fun _ _ => ⟨rfl, e41, (by decide : 1 + 0 ≤ _), (by decide : 4 + 0 ≤ _)⟩)
    dsimp only [Pt.U, Pt.locs, Pt.cells, Pt.slots] at X42 l42 y42 z42 st42 hQ42
    subst l42 y42 z42
    obtain ⟨rfl, N42q, e42⟩ := hQ42
    have N42 := Fr.app N41 N42q
    refine own_step st42 ?_
    show own_Go p e below P T42 (mkF m 71 #[.val (.int p0), .val (.int p1), .val (.int p2), .val (.int p3), .val (.int p4), .val (.int (4 : Int32)), .val (.ref b37), .val (.int p1), .unset, .unset] [(.int (if p2 < p1 then p2 else p1))])
    refine own_step (fun _ k => XS.istore X42.here hx rfl (hb hby at_71) rfl (l' := #[.val (.int p0), .val (.int p1), .val (.int p2), .val (.int p3), .val (.int p4), .val (.int (4 : Int32)), .val (.ref b37), .val (.int (if p2 < p1 then p2 else p1)), .unset, .unset]) rfl k) ?_
    show own_Go p e below P T42 (mkF m 73 #[.val (.int p0), .val (.int p1), .val (.int p2), .val (.int p3), .val (.int p4), .val (.int (4 : Int32)), .val (.ref b37), .val (.int (if p2 < p1 then p2 else p1)), .unset, .unset] [])
    refine own_step (fun _ k => XS.iload X42.here hx rfl (hb hby at_73) rfl k) ?_
    show own_Go p e below P T42 (mkF m 75 #[.val (.int p0), .val (.int p1), .val (.int p2), .val (.int p3), .val (.int p4), .val (.int (4 : Int32)), .val (.ref b37), .val (.int (if p2 < p1 then p2 else p1)), .unset, .unset] [(.int (4 : Int32))])
    refine own_step (fun _ k => XS.iconst X42.here hx rfl (hb hby at_75) k) ?_
    show own_Go p e below P T42 (mkF m 76 #[.val (.int p0), .val (.int p1), .val (.int p2), .val (.int p3), .val (.int p4), .val (.int (4 : Int32)), .val (.ref b37), .val (.int (if p2 < p1 then p2 else p1)), .unset, .unset] [(.int (2 : Int32)), (.int (4 : Int32))])
    refine own_step (fun _ k => XS.icmpNo X42.here hx rfl (hb hby at_76) rfl (tlt (by decide : (2 : Int32) < (4 : Int32))).2.2.2 k) ?_
    show own_Go p e below P T42 (mkF m 79 #[.val (.int p0), .val (.int p1), .val (.int p2), .val (.int p3), .val (.int p4), .val (.int (4 : Int32)), .val (.ref b37), .val (.int (if p2 < p1 then p2 else p1)), .unset, .unset] [])
    refine own_step (fun _ k => XS.iload X42.here hx rfl (hb hby at_79) rfl k) ?_
    show own_Go p e below P T42 (mkF m 81 #[.val (.int p0), .val (.int p1), .val (.int p2), .val (.int p3), .val (.int p4), .val (.int (4 : Int32)), .val (.ref b37), .val (.int (if p2 < p1 then p2 else p1)), .unset, .unset] [(.int (if p2 < p1 then p2 else p1))])
    refine own_step (fun _ k => XS.iloadN X42.here hx rfl (hb hby at_81) rfl k) ?_
    show own_Go p e below P T42 (mkF m 82 #[.val (.int p0), .val (.int p1), .val (.int p2), .val (.int p3), .val (.int p4), .val (.int (4 : Int32)), .val (.ref b37), .val (.int (if p2 < p1 then p2 else p1)), .unset, .unset] [(.int p3), (.int (if p2 < p1 then p2 else p1))])
    obtain ⟨_, _, ⟨T43, L43, k43, n43⟩, -, X43, ⟨Lc43, hQ43, l43, y43, z43⟩, st43⟩ := Jvm.LawKit.callS X42 hx (y := (⟨"java/lang/Math", "min", "(II)I"⟩ : MethodName)) hown (mvT hZ (hw _ (List.mem_of_getElem? (i := 5) rfl))) (mvT hZ (hw _ (List.mem_of_getElem? (i := 6) rfl))) (mvT hZ (hw _ (List.mem_of_getElem? (i := 7) rfl))) (mvT hZ (hw _ (List.mem_of_getElem? (i := 8) rfl))) (by decide) (backOf (W := 0) (rm2 l Z a0 hw [] (if p2 < p1 then p2 else p1) p3 h41 n0 (Nat.le_trans (Nat.le_trans (Nat.le_trans (Nat.le_trans (Nat.le_trans Z0 E37.1) (Keep.of_wr W38).1) (Keep.of_wr W39).1) (Keep.of_wr W40).1) (Keep.of_wr W41).1)) hZ (hw _ (List.mem_of_getElem? (i := 8) rfl)) (hw _ (List.mem_of_getElem? (i := 7) rfl)) (by decide) (by decide)) (g := (mkF m 82 #[.val (.int p0), .val (.int p1), .val (.int p2), .val (.int p3), .val (.int p4), .val (.int (4 : Int32)), .val (.ref b37), .val (.int (if p2 < p1 then p2 else p1)), .unset, .unset] [(.int p3), (.int (if p2 < p1 then p2 else p1))])) rfl (by rw [hml]; rfl) (argsL := [(.int (if p2 < p1 then p2 else p1)), (.int p3)]) (rest := []) (lenOf pd__II__I rfl) rfl (by show 2 * 0 + _ ≤ _; exact Nat.le_of_eq rfl) (hb hby at_82) (fun _ _ => ⟨rfl, e42, (by decide : 1 + 0 ≤ _), (by decide : 4 + 0 ≤ _)⟩)
    dsimp only [Pt.U, Pt.locs, Pt.cells, Pt.slots] at X43 l43 y43 z43 st43 hQ43
    subst l43 y43 z43
    obtain ⟨rfl, N43q, e43⟩ := hQ43
    have N43 := Fr.app N42 N43q
    refine own_step st43 ?_
    show own_Go p e below P T43 (mkF m 85 #[.val (.int p0), .val (.int p1), .val (.int p2), .val (.int p3), .val (.int p4), .val (.int (4 : Int32)), .val (.ref b37), .val (.int (if p2 < p1 then p2 else p1)), .unset, .unset] [(.int (if p3 < (if p2 < p1 then p2 else p1) then p3 else (if p2 < p1 then p2 else p1)))])
    refine own_step (fun _ k => XS.istore X43.here hx rfl (hb hby at_85) rfl (l' := #[.val (.int p0), .val (.int p1), .val (.int p2), .val (.int p3), .val (.int p4), .val (.int (4 : Int32)), .val (.ref b37), .val (.int (if p3 < (if p2 < p1 then p2 else p1) then p3 else (if p2 < p1 then p2 else p1))), .unset, .unset]) rfl k) ?_
    show own_Go p e below P T43 (mkF m 87 #[.val (.int p0), .val (.int p1), .val (.int p2), .val (.int p3), .val (.int p4), .val (.int (4 : Int32)), .val (.ref b37), .val (.int (if p3 < (if p2 < p1 then p2 else p1) then p3 else (if p2 < p1 then p2 else p1))), .unset, .unset] [])
    refine own_step (fun _ k => XS.iload X43.here hx rfl (hb hby at_87) rfl k) ?_
    show own_Go p e below P T43 (mkF m 89 #[.val (.int p0), .val (.int p1), .val (.int p2), .val (.int p3), .val (.int p4), .val (.int (4 : Int32)), .val (.ref b37), .val (.int (if p3 < (if p2 < p1 then p2 else p1) then p3 else (if p2 < p1 then p2 else p1))), .unset, .unset] [(.int (4 : Int32))])
    refine own_step (fun _ k => XS.iconst X43.here hx rfl (hb hby at_89) k) ?_
    show own_Go p e below P T43 (mkF m 90 #[.val (.int p0), .val (.int p1), .val (.int p2), .val (.int p3), .val (.int p4), .val (.int (4 : Int32)), .val (.ref b37), .val (.int (if p3 < (if p2 < p1 then p2 else p1) then p3 else (if p2 < p1 then p2 else p1))), .unset, .unset] [(.int (3 : Int32)), (.int (4 : Int32))])
    refine own_step (fun _ k => XS.icmpNo X43.here hx rfl (hb hby at_90) rfl (tlt (by decide : (3 : Int32) < (4 : Int32))).2.2.2 k) ?_
    show own_Go p e below P T43 (mkF m 93 #[.val (.int p0), .val (.int p1), .val (.int p2), .val (.int p3), .val (.int p4), .val (.int (4 : Int32)), .val (.ref b37), .val (.int (if p3 < (if p2 < p1 then p2 else p1) then p3 else (if p2 < p1 then p2 else p1))), .unset, .unset] [])
    refine own_step (fun _ k => XS.iload X43.here hx rfl (hb hby at_93) rfl k) ?_
    show own_Go p e below P T43 (mkF m 95 #[.val (.int p0), .val (.int p1), .val (.int p2), .val (.int p3), .val (.int p4), .val (.int (4 : Int32)), .val (.ref b37), .val (.int (if p3 < (if p2 < p1 then p2 else p1) then p3 else (if p2 < p1 then p2 else p1))), .unset, .unset] [(.int (if p3 < (if p2 < p1 then p2 else p1) then p3 else (if p2 < p1 then p2 else p1)))])
    refine own_step (fun _ k => XS.iload X43.here hx rfl (hb hby at_95) rfl k) ?_
    show own_Go p e below P T43 (mkF m 97 #[.val (.int p0), .val (.int p1), .val (.int p2), .val (.int p3), .val (.int p4), .val (.int (4 : Int32)), .val (.ref b37), .val (.int (if p3 < (if p2 < p1 then p2 else p1) then p3 else (if p2 < p1 then p2 else p1))), .unset, .unset] [(.int p4), (.int (if p3 < (if p2 < p1 then p2 else p1) then p3 else (if p2 < p1 then p2 else p1)))])
    obtain ⟨_, _, ⟨T44, L44, k44, n44⟩, -, X44, ⟨Lc44, hQ44, l44, y44, z44⟩, st44⟩ := Jvm.LawKit.callS X43 hx (y := (⟨"java/lang/Math", "min", "(II)I"⟩ : MethodName)) hown (mvT hZ (hw _ (List.mem_of_getElem? (i := 5) rfl))) (mvT hZ (hw _ (List.mem_of_getElem? (i := 6) rfl))) (mvT hZ (hw _ (List.mem_of_getElem? (i := 7) rfl))) (mvT hZ (hw _ (List.mem_of_getElem? (i := 8) rfl))) (by decide) (backOf (W := 0) (rm2 l Z a0 hw [] (if p3 < (if p2 < p1 then p2 else p1) then p3 else (if p2 < p1 then p2 else p1)) p4 h41 n0 (Nat.le_trans (Nat.le_trans (Nat.le_trans (Nat.le_trans (Nat.le_trans Z0 E37.1) (Keep.of_wr W38).1) (Keep.of_wr W39).1) (Keep.of_wr W40).1) (Keep.of_wr W41).1)) hZ (hw _ (List.mem_of_getElem? (i := 8) rfl)) (hw _ (List.mem_of_getElem? (i := 7) rfl)) (by decide) (by decide)) (g := (mkF m 97 #[.val (.int p0), .val (.int p1), .val (.int p2), .val (.int p3), .val (.int p4), .val (.int (4 : Int32)), .val (.ref b37), .val (.int (if p3 < (if p2 < p1 then p2 else p1) then p3 else (if p2 < p1 then p2 else p1))), .unset, .unset] [(.int p4), (.int (if p3 < (if p2 < p1 then p2 else p1) then p3 else (if p2 < p1 then p2 else p1)))])) rfl (by rw [hml]; rfl) (argsL := [(.int (if p3 < (if p2 < p1 then p2 else p1) then p3 else (if p2 < p1 then p2 else p1))), (.int p4)]) (rest := []) (lenOf pd__II__I rfl) rfl (by show 2 * 0 + _ ≤ _; exact Nat.le_of_eq rfl) (hb hby at_97) (fun _ _ => ⟨rfl, e43, (by decide : 1 + 0 ≤ _), (by decide : 4 + 0 ≤ _)⟩)
    dsimp only [Pt.U, Pt.locs, Pt.cells, Pt.slots] at X44 l44 y44 z44 st44 hQ44
    subst l44 y44 z44
    obtain ⟨rfl, N44q, e44⟩ := hQ44
    have N44 := Fr.app N43 N44q
    refine own_step st44 ?_
    show own_Go p e below P T44 (mkF m 100 #[.val (.int p0), .val (.int p1), .val (.int p2), .val (.int p3), .val (.int p4), .val (.int (4 : Int32)), .val (.ref b37), .val (.int (if p3 < (if p2 < p1 then p2 else p1) then p3 else (if p2 < p1 then p2 else p1))), .unset, .unset] [(.int (if p4 < (if p3 < (if p2 < p1 then p2 else p1) then p3 else (if p2 < p1 then p2 else p1)) then p4 else (if p3 < (if p2 < p1 then p2 else p1) then p3 else (if p2 < p1 then p2 else p1))))])
    refine own_step (fun _ k => XS.istore X44.here hx rfl (hb hby at_100) rfl (l' := #[.val (.int p0), .val (.int p1), .val (.int p2), .val (.int p3), .val (.int p4), .val (.int (4 : Int32)), .val (.ref b37), .val (.int (if p4 < (if p3 < (if p2 < p1 then p2 else p1) then p3 else (if p2 < p1 then p2 else p1)) then p4 else (if p3 < (if p2 < p1 then p2 else p1) then p3 else (if p2 < p1 then p2 else p1)))), .unset, .unset]) rfl k) ?_
    show own_Go p e below P T44 (mkF m 102 #[.val (.int p0), .val (.int p1), .val (.int p2), .val (.int p3), .val (.int p4), .val (.int (4 : Int32)), .val (.ref b37), .val (.int (if p4 < (if p3 < (if p2 < p1 then p2 else p1) then p3 else (if p2 < p1 then p2 else p1)) then p4 else (if p3 < (if p2 < p1 then p2 else p1) then p3 else (if p2 < p1 then p2 else p1)))), .unset, .unset] [])
    refine own_step (fun _ k => XS.iloadN X44.here hx rfl (hb hby at_102) rfl k) ?_
    show own_Go p e below P T44 (mkF m 103 #[.val (.int p0), .val (.int p1), .val (.int p2), .val (.int p3), .val (.int p4), .val (.int (4 : Int32)), .val (.ref b37), .val (.int (if p4 < (if p3 < (if p2 < p1 then p2 else p1) then p3 else (if p2 < p1 then p2 else p1)) then p4 else (if p3 < (if p2 < p1 then p2 else p1) then p3 else (if p2 < p1 then p2 else p1)))), .unset, .unset] [(.int p1)])
    refine own_step (fun _ k => XS.iload X44.here hx rfl (hb hby at_103) rfl k) ?_
    show own_Go p e below P T44 (mkF m 105 #[.val (.int p0), .val (.int p1), .val (.int p2), .val (.int p3), .val (.int p4), .val (.int (4 : Int32)), .val (.ref b37), .val (.int (if p4 < (if p3 < (if p2 < p1 then p2 else p1) then p3 else (if p2 < p1 then p2 else p1)) then p4 else (if p3 < (if p2 < p1 then p2 else p1) then p3 else (if p2 < p1 then p2 else p1)))), .unset, .unset] [(.int (if p4 < (if p3 < (if p2 < p1 then p2 else p1) then p3 else (if p2 < p1 then p2 else p1)) then p4 else (if p3 < (if p2 < p1 then p2 else p1) then p3 else (if p2 < p1 then p2 else p1)))), (.int p1)])
    by_cases hc45 : p1 = (if p4 < (if p3 < (if p2 < p1 then p2 else p1) then p3 else (if p2 < p1 then p2 else p1)) then p4 else (if p3 < (if p2 < p1 then p2 else p1) then p3 else (if p2 < p1 then p2 else p1)))
    · refine own_step (fun _ k => XS.icmpNo X44.here hx rfl (hb hby at_105) rfl (teq hc45).2 k) ?_
      show own_Go p e below P T44 (mkF m 108 #[.val (.int p0), .val (.int p1), .val (.int p2), .val (.int p3), .val (.int p4), .val (.int (4 : Int32)), .val (.ref b37), .val (.int (if p4 < (if p3 < (if p2 < p1 then p2 else p1) then p3 else (if p2 < p1 then p2 else p1)) then p4 else (if p3 < (if p2 < p1 then p2 else p1) then p3 else (if p2 < p1 then p2 else p1)))), .unset, .unset] [])
      refine own_step (fun _ k => XS.iconst X44.here hx rfl (hb hby at_108) k) ?_
      show own_Go p e below P T44 (mkF m 109 #[.val (.int p0), .val (.int p1), .val (.int p2), .val (.int p3), .val (.int p4), .val (.int (4 : Int32)), .val (.ref b37), .val (.int (if p4 < (if p3 < (if p2 < p1 then p2 else p1) then p3 else (if p2 < p1 then p2 else p1)) then p4 else (if p3 < (if p2 < p1 then p2 else p1) then p3 else (if p2 < p1 then p2 else p1)))), .unset, .unset] [(.int (0 : Int32))])
      refine own_step (fun _ k => XS.istore X44.here hx rfl (hb hby at_109) rfl (l' := #[.val (.int p0), .val (.int p1), .val (.int p2), .val (.int p3), .val (.int p4), .val (.int (4 : Int32)), .val (.ref b37), .val (.int (if p4 < (if p3 < (if p2 < p1 then p2 else p1) then p3 else (if p2 < p1 then p2 else p1)) then p4 else (if p3 < (if p2 < p1 then p2 else p1) then p3 else (if p2 < p1 then p2 else p1)))), .val (.int (0 : Int32)), .unset]) rfl k) ?_
      show own_Go p e below P T44 (mkF m 111 #[.val (.int p0), .val (.int p1), .val (.int p2), .val (.int p3), .val (.int p4), .val (.int (4 : Int32)), .val (.ref b37), .val (.int (if p4 < (if p3 < (if p2 < p1 then p2 else p1) then p3 else (if p2 < p1 then p2 else p1)) then p4 else (if p3 < (if p2 < p1 then p2 else p1) then p3 else (if p2 < p1 then p2 else p1)))), .val (.int (0 : Int32)), .unset] [])
      refine own_step (fun _ k => XS.goto X44.here hx rfl (pc0 := 111) (pc' := 141) rfl (hb hby at_111) (by decide) (by decide) k) ?_
      show own_Go p e below P T44 (mkF m 141 #[.val (.int p0), .val (.int p1), .val (.int p2), .val (.int p3), .val (.int p4), .val (.int (4 : Int32)), .val (.ref b37), .val (.int (if p4 < (if p3 < (if p2 < p1 then p2 else p1) then p3 else (if p2 < p1 then p2 else p1)) then p4 else (if p3 < (if p2 < p1 then p2 else p1) then p3 else (if p2 < p1 then p2 else p1)))), .val (.int (0 : Int32)), .unset] [])
      refine own_step (fun _ k => XS.aload X44.here hx rfl (hb hby at_141) rfl rfl k) ?_
      show own_Go p e below P T44 (mkF m 143 #[.val (.int p0), .val (.int p1), .val (.int p2), .val (.int p3), .val (.int p4), .val (.int (4 : Int32)), .val (.ref b37), .val (.int (if p4 < (if p3 < (if p2 < p1 then p2 else p1) then p3 else (if p2 < p1 then p2 else p1)) then p4 else (if p3 < (if p2 < p1 then p2 else p1) then p3 else (if p2 < p1 then p2 else p1)))), .val (.int (0 : Int32)), .unset] [(.ref b37)])
      obtain ⟨_, _, ⟨T46, L46, k46, n46⟩, -, X46, ⟨Lc46, hQ46, l46, y46, z46⟩, st46⟩ := Jvm.LawKit.callS X44 hx (y := (⟨"com/example/rulewright/rulewright/evolution/Generation", "indexOfBest", "([D)I"⟩ : MethodName)) hown (mvT hZ (hw _ (List.mem_of_getElem? (i := 1) rfl))) (mvT hZ (hw _ (List.mem_of_getElem? (i := 2) rfl))) (mvT hZ (hw _ (List.mem_of_getElem? (i := 3) rfl))) (mvT hZ (hw _ (List.mem_of_getElem? (i := 4) rfl))) (by decide) (backOf (W := 0) (rm14 l Z a0 hw [] b37 k37 p1 p2 p3 p4 h41 n0 (Nat.le_trans (Nat.le_trans (Nat.le_trans (Nat.le_trans (Nat.le_trans Z0 E37.1) (Keep.of_wr W38).1) (Keep.of_wr W39).1) (Keep.of_wr W40).1) (Keep.of_wr W41).1) V41) hZ (hw _ (List.mem_of_getElem? (i := 4) rfl)) (hw _ (List.mem_of_getElem? (i := 3) rfl)) (by decide) (by decide)) (g := (mkF m 143 #[.val (.int p0), .val (.int p1), .val (.int p2), .val (.int p3), .val (.int p4), .val (.int (4 : Int32)), .val (.ref b37), .val (.int (if p4 < (if p3 < (if p2 < p1 then p2 else p1) then p3 else (if p2 < p1 then p2 else p1)) then p4 else (if p3 < (if p2 < p1 then p2 else p1) then p3 else (if p2 < p1 then p2 else p1)))), .val (.int (0 : Int32)), .unset] [(.ref b37)])) rfl (by rw [hml]; rfl) (argsL := [(.ref b37)]) (rest := []) (lenOf pd__AD__I rfl) rfl (by show 2 * 0 + _ ≤ _; exact Nat.le_of_eq rfl) (hb hby at_143) (fun _ _ => ⟨rfl, e44, (by decide : 1 + 0 ≤ _), (by decide : 4 + 0 ≤ _)⟩)
      dsimp only [Pt.U, Pt.locs, Pt.cells, Pt.slots] at X46 l46 y46 z46 st46 hQ46
      subst l46 y46 z46
      obtain ⟨rfl, N46q, e46⟩ := hQ46
      have N46 := Fr.app N44 N46q
      refine own_step st46 ?_
      show own_Go p e below P T46 (mkF m 146 #[.val (.int p0), .val (.int p1), .val (.int p2), .val (.int p3), .val (.int p4), .val (.int (4 : Int32)), .val (.ref b37), .val (.int (if p4 < (if p3 < (if p2 < p1 then p2 else p1) then p3 else (if p2 < p1 then p2 else p1)) then p4 else (if p3 < (if p2 < p1 then p2 else p1) then p3 else (if p2 < p1 then p2 else p1)))), .val (.int (0 : Int32)), .unset] [(.int (own_i4 p1 p2 p3 p4))])
      refine own_step (fun _ k => XS.istore X46.here hx rfl (hb hby at_146) rfl (l' := #[.val (.int p0), .val (.int p1), .val (.int p2), .val (.int p3), .val (.int p4), .val (.int (4 : Int32)), .val (.ref b37), .val (.int (if p4 < (if p3 < (if p2 < p1 then p2 else p1) then p3 else (if p2 < p1 then p2 else p1)) then p4 else (if p3 < (if p2 < p1 then p2 else p1) then p3 else (if p2 < p1 then p2 else p1)))), .val (.int (0 : Int32)), .val (.int (own_i4 p1 p2 p3 p4))]) rfl k) ?_
      show own_Go p e below P T46 (mkF m 148 #[.val (.int p0), .val (.int p1), .val (.int p2), .val (.int p3), .val (.int p4), .val (.int (4 : Int32)), .val (.ref b37), .val (.int (if p4 < (if p3 < (if p2 < p1 then p2 else p1) then p3 else (if p2 < p1 then p2 else p1)) then p4 else (if p3 < (if p2 < p1 then p2 else p1) then p3 else (if p2 < p1 then p2 else p1)))), .val (.int (0 : Int32)), .val (.int (own_i4 p1 p2 p3 p4))] [])
      refine own_step (fun _ k => XS.iload X46.here hx rfl (hb hby at_148) rfl k) ?_
      show own_Go p e below P T46 (mkF m 150 #[.val (.int p0), .val (.int p1), .val (.int p2), .val (.int p3), .val (.int p4), .val (.int (4 : Int32)), .val (.ref b37), .val (.int (if p4 < (if p3 < (if p2 < p1 then p2 else p1) then p3 else (if p2 < p1 then p2 else p1)) then p4 else (if p3 < (if p2 < p1 then p2 else p1) then p3 else (if p2 < p1 then p2 else p1)))), .val (.int (0 : Int32)), .val (.int (own_i4 p1 p2 p3 p4))] [(.int (own_i4 p1 p2 p3 p4))])
      refine own_step (fun _ k => XS.iload X46.here hx rfl (hb hby at_150) rfl k) ?_
      show own_Go p e below P T46 (mkF m 152 #[.val (.int p0), .val (.int p1), .val (.int p2), .val (.int p3), .val (.int p4), .val (.int (4 : Int32)), .val (.ref b37), .val (.int (if p4 < (if p3 < (if p2 < p1 then p2 else p1) then p3 else (if p2 < p1 then p2 else p1)) then p4 else (if p3 < (if p2 < p1 then p2 else p1) then p3 else (if p2 < p1 then p2 else p1)))), .val (.int (0 : Int32)), .val (.int (own_i4 p1 p2 p3 p4))] [(.int (0 : Int32)), (.int (own_i4 p1 p2 p3 p4))])
      refine own_step (fun _ k => XS.icmpNo X46.here hx rfl (hb hby at_152) rfl (teq (own_e4_0 p1 p2 p3 p4 hc45)).2 k) ?_
      show own_Go p e below P T46 (mkF m 155 #[.val (.int p0), .val (.int p1), .val (.int p2), .val (.int p3), .val (.int p4), .val (.int (4 : Int32)), .val (.ref b37), .val (.int (if p4 < (if p3 < (if p2 < p1 then p2 else p1) then p3 else (if p2 < p1 then p2 else p1)) then p4 else (if p3 < (if p2 < p1 then p2 else p1) then p3 else (if p2 < p1 then p2 else p1)))), .val (.int (0 : Int32)), .val (.int (own_i4 p1 p2 p3 p4))] [])
      refine own_step (fun _ k => XS.iconst X46.here hx rfl (hb hby at_155) k) ?_
      show own_Go p e below P T46 (mkF m 156 #[.val (.int p0), .val (.int p1), .val (.int p2), .val (.int p3), .val (.int p4), .val (.int (4 : Int32)), .val (.ref b37), .val (.int (if p4 < (if p3 < (if p2 < p1 then p2 else p1) then p3 else (if p2 < p1 then p2 else p1)) then p4 else (if p3 < (if p2 < p1 then p2 else p1) then p3 else (if p2 < p1 then p2 else p1)))), .val (.int (0 : Int32)), .val (.int (own_i4 p1 p2 p3 p4))] [(.int (1 : Int32))])
      refine own_step (fun _ k => XS.goto X46.here hx rfl (pc0 := 156) (pc' := 160) rfl (hb hby at_156) (by decide) (by decide) k) ?_
      show own_Go p e below P T46 (mkF m 160 #[.val (.int p0), .val (.int p1), .val (.int p2), .val (.int p3), .val (.int p4), .val (.int (4 : Int32)), .val (.ref b37), .val (.int (if p4 < (if p3 < (if p2 < p1 then p2 else p1) then p3 else (if p2 < p1 then p2 else p1)) then p4 else (if p3 < (if p2 < p1 then p2 else p1) then p3 else (if p2 < p1 then p2 else p1)))), .val (.int (0 : Int32)), .val (.int (own_i4 p1 p2 p3 p4))] [(.int (1 : Int32))])
      obtain ⟨fs, hr, hrun, hended, hW, hsame⟩ := X46.leave (v := some (.int (1 : Int32))) (fun h => by rw [Bd.returns] at h; cases h)
      refine ⟨_, _, retN X46 hx (t := .boolean) Bd.returns (by simp) (hb hby at_160) hr, hrun, hended, hfin _ _ ⟨_, _, rfl, ?_, ⟨_, rfl⟩, hW, hsame.mono (by decide) (by decide)⟩⟩
      show Q0 Z p0 p1 p2 p3 p4 h0 n0 (some (.int (1 : Int32))) T46.heap _
      rw [e46]
      exact ⟨rfl, N46⟩
    · refine own_step (fun _ k => XS.icmpYes X44.here hx rfl (pc0 := 105) (pc' := 114) rfl (hb hby at_105) rfl (feq hc45).2 (by decide) (by decide) k) ?_
      show own_Go p e below P T44 (mkF m 114 #[.val (.int p0), .val (.int p1), .val (.int p2), .val (.int p3), .val (.int p4), .val (.int (4 : Int32)), .val (.ref b37), .val (.int (if p4 < (if p3 < (if p2 < p1 then p2 else p1) then p3 else (if p2 < p1 then p2 else p1)) then p4 else (if p3 < (if p2 < p1 then p2 else p1) then p3 else (if p2 < p1 then p2 else p1)))), .unset, .unset] [])
      refine own_step (fun _ k => XS.iloadN X44.here hx rfl (hb hby at_114) rfl k) ?_
      show own_Go p e below P T44 (mkF m 115 #[.val (.int p0), .val (.int p1), .val (.int p2), .val (.int p3), .val (.int p4), .val (.int (4 : Int32)), .val (.ref b37), .val (.int (if p4 < (if p3 < (if p2 < p1 then p2 else p1) then p3 else (if p2 < p1 then p2 else p1)) then p4 else (if p3 < (if p2 < p1 then p2 else p1) then p3 else (if p2 < p1 then p2 else p1)))), .unset, .unset] [(.int p2)])
      refine own_step (fun _ k => XS.iload X44.here hx rfl (hb hby at_115) rfl k) ?_
      show own_Go p e below P T44 (mkF m 117 #[.val (.int p0), .val (.int p1), .val (.int p2), .val (.int p3), .val (.int p4), .val (.int (4 : Int32)), .val (.ref b37), .val (.int (if p4 < (if p3 < (if p2 < p1 then p2 else p1) then p3 else (if p2 < p1 then p2 else p1)) then p4 else (if p3 < (if p2 < p1 then p2 else p1) then p3 else (if p2 < p1 then p2 else p1)))), .unset, .unset] [(.int (if p4 < (if p3 < (if p2 < p1 then p2 else p1) then p3 else (if p2 < p1 then p2 else p1)) then p4 else (if p3 < (if p2 < p1 then p2 else p1) then p3 else (if p2 < p1 then p2 else p1)))), (.int p2)])
      by_cases hc48 : p2 = (if p4 < (if p3 < (if p2 < p1 then p2 else p1) then p3 else (if p2 < p1 then p2 else p1)) then p4 else (if p3 < (if p2 < p1 then p2 else p1) then p3 else (if p2 < p1 then p2 else p1)))
      · refine own_step (fun _ k => XS.icmpNo X44.here hx rfl (hb hby at_117) rfl (teq hc48).2 k) ?_
        show own_Go p e below P T44 (mkF m 120 #[.val (.int p0), .val (.int p1), .val (.int p2), .val (.int p3), .val (.int p4), .val (.int (4 : Int32)), .val (.ref b37), .val (.int (if p4 < (if p3 < (if p2 < p1 then p2 else p1) then p3 else (if p2 < p1 then p2 else p1)) then p4 else (if p3 < (if p2 < p1 then p2 else p1) then p3 else (if p2 < p1 then p2 else p1)))), .unset, .unset] [])
        refine own_step (fun _ k => XS.iconst X44.here hx rfl (hb hby at_120) k) ?_
        show own_Go p e below P T44 (mkF m 121 #[.val (.int p0), .val (.int p1), .val (.int p2), .val (.int p3), .val (.int p4), .val (.int (4 : Int32)), .val (.ref b37), .val (.int (if p4 < (if p3 < (if p2 < p1 then p2 else p1) then p3 else (if p2 < p1 then p2 else p1)) then p4 else (if p3 < (if p2 < p1 then p2 else p1) then p3 else (if p2 < p1 then p2 else p1)))), .unset, .unset] [(.int (1 : Int32))])
        refine own_step (fun _ k => XS.istore X44.here hx rfl (hb hby at_121) rfl (l' := #[.val (.int p0), .val (.int p1), .val (.int p2), .val (.int p3), .val (.int p4), .val (.int (4 : Int32)), .val (.ref b37), .val (.int (if p4 < (if p3 < (if p2 < p1 then p2 else p1) then p3 else (if p2 < p1 then p2 else p1)) then p4 else (if p3 < (if p2 < p1 then p2 else p1) then p3 else (if p2 < p1 then p2 else p1)))), .val (.int (1 : Int32)), .unset]) rfl k) ?_
        show own_Go p e below P T44 (mkF m 123 #[.val (.int p0), .val (.int p1), .val (.int p2), .val (.int p3), .val (.int p4), .val (.int (4 : Int32)), .val (.ref b37), .val (.int (if p4 < (if p3 < (if p2 < p1 then p2 else p1) then p3 else (if p2 < p1 then p2 else p1)) then p4 else (if p3 < (if p2 < p1 then p2 else p1) then p3 else (if p2 < p1 then p2 else p1)))), .val (.int (1 : Int32)), .unset] [])
        refine own_step (fun _ k => XS.goto X44.here hx rfl (pc0 := 123) (pc' := 141) rfl (hb hby at_123) (by decide) (by decide) k) ?_
        show own_Go p e below P T44 (mkF m 141 #[.val (.int p0), .val (.int p1), .val (.int p2), .val (.int p3), .val (.int p4), .val (.int (4 : Int32)), .val (.ref b37), .val (.int (if p4 < (if p3 < (if p2 < p1 then p2 else p1) then p3 else (if p2 < p1 then p2 else p1)) then p4 else (if p3 < (if p2 < p1 then p2 else p1) then p3 else (if p2 < p1 then p2 else p1)))), .val (.int (1 : Int32)), .unset] [])
        refine own_step (fun _ k => XS.aload X44.here hx rfl (hb hby at_141) rfl rfl k) ?_
        show own_Go p e below P T44 (mkF m 143 #[.val (.int p0), .val (.int p1), .val (.int p2), .val (.int p3), .val (.int p4), .val (.int (4 : Int32)), .val (.ref b37), .val (.int (if p4 < (if p3 < (if p2 < p1 then p2 else p1) then p3 else (if p2 < p1 then p2 else p1)) then p4 else (if p3 < (if p2 < p1 then p2 else p1) then p3 else (if p2 < p1 then p2 else p1)))), .val (.int (1 : Int32)), .unset] [(.ref b37)])
        obtain ⟨_, _, ⟨T49, L49, k49, n49⟩, -, X49, ⟨Lc49, hQ49, l49, y49, z49⟩, st49⟩ := Jvm.LawKit.callS X44 hx (y := (⟨"com/example/rulewright/rulewright/evolution/Generation", "indexOfBest", "([D)I"⟩ : MethodName)) hown (mvT hZ (hw _ (List.mem_of_getElem? (i := 1) rfl))) (mvT hZ (hw _ (List.mem_of_getElem? (i := 2) rfl))) (mvT hZ (hw _ (List.mem_of_getElem? (i := 3) rfl))) (mvT hZ (hw _ (List.mem_of_getElem? (i := 4) rfl))) (by decide) (backOf (W := 0) (rm14 l Z a0 hw [] b37 k37 p1 p2 p3 p4 h41 n0 (Nat.le_trans (Nat.le_trans (Nat.le_trans (Nat.le_trans (Nat.le_trans Z0 E37.1) (Keep.of_wr W38).1) (Keep.of_wr W39).1) (Keep.of_wr W40).1) (Keep.of_wr W41).1) V41) hZ (hw _ (List.mem_of_getElem? (i := 4) rfl)) (hw _ (List.mem_of_getElem? (i := 3) rfl)) (by decide) (by decide)) (g := (mkF m 143 #[.val (.int p0), .val (.int p1), .val (.int p2), .val (.int p3), .val (.int p4), .val (.int (4 : Int32)), .val (.ref b37), .val (.int (if p4 < (if p3 < (if p2 < p1 then p2 else p1) then p3 else (if p2 < p1 then p2 else p1)) then p4 else (if p3 < (if p2 < p1 then p2 else p1) then p3 else (if p2 < p1 then p2 else p1)))), .val (.int (1 : Int32)), .unset] [(.ref b37)])) rfl (by rw [hml]; rfl) (argsL := [(.ref b37)]) (rest := []) (lenOf pd__AD__I rfl) rfl (by show 2 * 0 + _ ≤ _; exact Nat.le_of_eq rfl) (hb hby at_143) (fun _ _ => ⟨rfl, e44, (by decide : 1 + 0 ≤ _), (by decide : 4 + 0 ≤ _)⟩)
        dsimp only [Pt.U, Pt.locs, Pt.cells, Pt.slots] at X49 l49 y49 z49 st49 hQ49
        subst l49 y49 z49
        obtain ⟨rfl, N49q, e49⟩ := hQ49
        have N49 := Fr.app N44 N49q
        refine own_step st49 ?_
        show own_Go p e below P T49 (mkF m 146 #[.val (.int p0), .val (.int p1), .val (.int p2), .val (.int p3), .val (.int p4), .val (.int (4 : Int32)), .val (.ref b37), .val (.int (if p4 < (if p3 < (if p2 < p1 then p2 else p1) then p3 else (if p2 < p1 then p2 else p1)) then p4 else (if p3 < (if p2 < p1 then p2 else p1) then p3 else (if p2 < p1 then p2 else p1)))), .val (.int (1 : Int32)), .unset] [(.int (own_i4 p1 p2 p3 p4))])
        refine own_step (fun _ k => XS.istore X49.here hx rfl (hb hby at_146) rfl (l' := #[.val (.int p0), .val (.int p1), .val (.int p2), .val (.int p3), .val (.int p4), .val (.int (4 : Int32)), .val (.ref b37), .val (.int (if p4 < (if p3 < (if p2 < p1 then p2 else p1) then p3 else (if p2 < p1 then p2 else p1)) then p4 else (if p3 < (if p2 < p1 then p2 else p1) then p3 else (if p2 < p1 then p2 else p1)))), .val (.int (1 : Int32)), .val (.int (own_i4 p1 p2 p3 p4))]) rfl k) ?_
        show own_Go p e below P T49 (mkF m 148 #[.val (.int p0), .val (.int p1), .val (.int p2), .val (.int p3), .val (.int p4), .val (.int (4 : Int32)), .val (.ref b37), .val (.int (if p4 < (if p3 < (if p2 < p1 then p2 else p1) then p3 else (if p2 < p1 then p2 else p1)) then p4 else (if p3 < (if p2 < p1 then p2 else p1) then p3 else (if p2 < p1 then p2 else p1)))), .val (.int (1 : Int32)), .val (.int (own_i4 p1 p2 p3 p4))] [])
        refine own_step (fun _ k => XS.iload X49.here hx rfl (hb hby at_148) rfl k) ?_
        show own_Go p e below P T49 (mkF m 150 #[.val (.int p0), .val (.int p1), .val (.int p2), .val (.int p3), .val (.int p4), .val (.int (4 : Int32)), .val (.ref b37), .val (.int (if p4 < (if p3 < (if p2 < p1 then p2 else p1) then p3 else (if p2 < p1 then p2 else p1)) then p4 else (if p3 < (if p2 < p1 then p2 else p1) then p3 else (if p2 < p1 then p2 else p1)))), .val (.int (1 : Int32)), .val (.int (own_i4 p1 p2 p3 p4))] [(.int (own_i4 p1 p2 p3 p4))])
        refine own_step (fun _ k => XS.iload X49.here hx rfl (hb hby at_150) rfl k) ?_
        show own_Go p e below P T49 (mkF m 152 #[.val (.int p0), .val (.int p1), .val (.int p2), .val (.int p3), .val (.int p4), .val (.int (4 : Int32)), .val (.ref b37), .val (.int (if p4 < (if p3 < (if p2 < p1 then p2 else p1) then p3 else (if p2 < p1 then p2 else p1)) then p4 else (if p3 < (if p2 < p1 then p2 else p1) then p3 else (if p2 < p1 then p2 else p1)))), .val (.int (1 : Int32)), .val (.int (own_i4 p1 p2 p3 p4))] [(.int (1 : Int32)), (.int (own_i4 p1 p2 p3 p4))])
        refine own_step (fun _ k => XS.icmpNo X49.here hx rfl (hb hby at_152) rfl (teq (own_e4_1 p1 p2 p3 p4 hc45 hc48)).2 k) ?_
        show own_Go p e below P T49 (mkF m 155 #[.val (.int p0), .val (.int p1), .val (.int p2), .val (.int p3), .val (.int p4), .val (.int (4 : Int32)), .val (.ref b37), .val (.int (if p4 < (if p3 < (if p2 < p1 then p2 else p1) then p3 else (if p2 < p1 then p2 else p1)) then p4 else (if p3 < (if p2 < p1 then p2 else p1) then p3 else (if p2 < p1 then p2 else p1)))), .val (.int (1 : Int32)), .val (.int (own_i4 p1 p2 p3 p4))] [])
        refine own_step (fun _ k => XS.iconst X49.here hx rfl (hb hby at_155) k) ?_
        show own_Go p e below P T49 (mkF m 156 #[.val (.int p0), .val (.int p1), .val (.int p2), .val (.int p3), .val (.int p4), .val (.int (4 : Int32)), .val (.ref b37), .val (.int (if p4 < (if p3 < (if p2 < p1 then p2 else p1) then p3 else (if p2 < p1 then p2 else p1)) then p4 else (if p3 < (if p2 < p1 then p2 else p1) then p3 else (if p2 < p1 then p2 else p1)))), .val (.int (1 : Int32)), .val (.int (own_i4 p1 p2 p3 p4))] [(.int (1 : Int32))])
        refine own_step (fun _ k => XS.goto X49.here hx rfl (pc0 := 156) (pc' := 160) rfl (hb hby at_156) (by decide) (by decide) k) ?_
        show own_Go p e below P T49 (mkF m 160 #[.val (.int p0), .val (.int p1), .val (.int p2), .val (.int p3), .val (.int p4), .val (.int (4 : Int32)), .val (.ref b37), .val (.int (if p4 < (if p3 < (if p2 < p1 then p2 else p1) then p3 else (if p2 < p1 then p2 else p1)) then p4 else (if p3 < (if p2 < p1 then p2 else p1) then p3 else (if p2 < p1 then p2 else p1)))), .val (.int (1 : Int32)), .val (.int (own_i4 p1 p2 p3 p4))] [(.int (1 : Int32))])
        obtain ⟨fs, hr, hrun, hended, hW, hsame⟩ := X49.leave (v := some (.int (1 : Int32))) (fun h => by rw [Bd.returns] at h; cases h)
        refine ⟨_, _, retN X49 hx (t := .boolean) Bd.returns (by simp) (hb hby at_160) hr, hrun, hended, hfin _ _ ⟨_, _, rfl, ?_, ⟨_, rfl⟩, hW, hsame.mono (by decide) (by decide)⟩⟩
        show Q0 Z p0 p1 p2 p3 p4 h0 n0 (some (.int (1 : Int32))) T49.heap _
        rw [e49]
        exact ⟨rfl, N49⟩
      · refine own_step (fun _ k => XS.icmpYes X44.here hx rfl (pc0 := 117) (pc' := 126) rfl (hb hby at_117) rfl (feq hc48).2 (by decide) (by decide) k) ?_
        show own_Go p e below P T44 (mkF m 126 #[.val (.int p0), .val (.int p1), .val (.int p2), .val (.int p3), .val (.int p4), .val (.int (4 : Int32)), .val (.ref b37), .val (.int (if p4 < (if p3 < (if p2 < p1 then p2 else p1) then p3 else (if p2 < p1 then p2 else p1)) then p4 else (if p3 < (if p2 < p1 then p2 else p1) then p3 else (if p2 < p1 then p2 else p1)))), .unset, .unset] [])
        refine own_step (fun _ k => XS.iloadN X44.here hx rfl (hb hby at_126) rfl k) ?_
        show own_Go p e below P T44 (mkF m 127 #[.val (.int p0), .val (.int p1), .val (.int p2), .val (.int p3), .val (.int p4), .val (.int (4 : Int32)), .val (.ref b37), .val (.int (if p4 < (if p3 < (if p2 < p1 then p2 else p1) then p3 else (if p2 < p1 then p2 else p1)) then p4 else (if p3 < (if p2 < p1 then p2 else p1) then p3 else (if p2 < p1 then p2 else p1)))), .unset, .unset] [(.int p3)])
        refine own_step (fun _ k => XS.iload X44.here hx rfl (hb hby at_127) rfl k) ?_
        show own_Go p e below P T44 (mkF m 129 #[.val (.int p0), .val (.int p1), .val (.int p2), .val (.int p3), .val (.int p4), .val (.int (4 : Int32)), .val (.ref b37), .val (.int (if p4 < (if p3 < (if p2 < p1 then p2 else p1) then p3 else (if p2 < p1 then p2 else p1)) then p4 else (if p3 < (if p2 < p1 then p2 else p1) then p3 else (if p2 < p1 then p2 else p1)))), .unset, .unset] [(.int (if p4 < (if p3 < (if p2 < p1 then p2 else p1) then p3 else (if p2 < p1 then p2 else p1)) then p4 else (if p3 < (if p2 < p1 then p2 else p1) then p3 else (if p2 < p1 then p2 else p1)))), (.int p3)])
        by_cases hc51 : p3 = (if p4 < (if p3 < (if p2 < p1 then p2 else p1) then p3 else (if p2 < p1 then p2 else p1)) then p4 else (if p3 < (if p2 < p1 then p2 else p1) then p3 else (if p2 < p1 then p2 else p1)))
        · refine own_step (fun _ k => XS.icmpNo X44.here hx rfl (hb hby at_129) rfl (teq hc51).2 k) ?_
          show own_Go p e below P T44 (mkF m 132 #[.val (.int p0), .val (.int p1), .val (.int p2), .val (.int p3), .val (.int p4), .val (.int (4 : Int32)), .val (.ref b37), .val (.int (if p4 < (if p3 < (if p2 < p1 then p2 else p1) then p3 else (if p2 < p1 then p2 else p1)) then p4 else (if p3 < (if p2 < p1 then p2 else p1) then p3 else (if p2 < p1 then p2 else p1)))), .unset, .unset] [])
          refine own_step (fun _ k => XS.iconst X44.here hx rfl (hb hby at_132) k) ?_
          show own_Go p e below P T44 (mkF m 133 #[.val (.int p0), .val (.int p1), .val (.int p2), .val (.int p3), .val (.int p4), .val (.int (4 : Int32)), .val (.ref b37), .val (.int (if p4 < (if p3 < (if p2 < p1 then p2 else p1) then p3 else (if p2 < p1 then p2 else p1)) then p4 else (if p3 < (if p2 < p1 then p2 else p1) then p3 else (if p2 < p1 then p2 else p1)))), .unset, .unset] [(.int (2 : Int32))])
          refine own_step (fun _ k => XS.istore X44.here hx rfl (hb hby at_133) rfl (l' := #[.val (.int p0), .val (.int p1), .val (.int p2), .val (.int p3), .val (.int p4), .val (.int (4 : Int32)), .val (.ref b37), .val (.int (if p4 < (if p3 < (if p2 < p1 then p2 else p1) then p3 else (if p2 < p1 then p2 else p1)) then p4 else (if p3 < (if p2 < p1 then p2 else p1) then p3 else (if p2 < p1 then p2 else p1)))), .val (.int (2 : Int32)), .unset]) rfl k) ?_
          show own_Go p e below P T44 (mkF m 135 #[.val (.int p0), .val (.int p1), .val (.int p2), .val (.int p3), .val (.int p4), .val (.int (4 : Int32)), .val (.ref b37), .val (.int (if p4 < (if p3 < (if p2 < p1 then p2 else p1) then p3 else (if p2 < p1 then p2 else p1)) then p4 else (if p3 < (if p2 < p1 then p2 else p1) then p3 else (if p2 < p1 then p2 else p1)))), .val (.int (2 : Int32)), .unset] [])
          refine own_step (fun _ k => XS.goto X44.here hx rfl (pc0 := 135) (pc' := 141) rfl (hb hby at_135) (by decide) (by decide) k) ?_
          show own_Go p e below P T44 (mkF m 141 #[.val (.int p0), .val (.int p1), .val (.int p2), .val (.int p3), .val (.int p4), .val (.int (4 : Int32)), .val (.ref b37), .val (.int (if p4 < (if p3 < (if p2 < p1 then p2 else p1) then p3 else (if p2 < p1 then p2 else p1)) then p4 else (if p3 < (if p2 < p1 then p2 else p1) then p3 else (if p2 < p1 then p2 else p1)))), .val (.int (2 : Int32)), .unset] [])
          refine own_step (fun _ k => XS.aload X44.here hx rfl (hb hby at_141) rfl rfl k) ?_
          show own_Go p e below P T44 (mkF m 143 #[.val (.int p0), .val (.int p1), .val (.int p2), .val (.int p3), .val (.int p4), .val (.int (4 : Int32)), .val (.ref b37), .val (.int (if p4 < (if p3 < (if p2 < p1 then p2 else p1) then p3 else (if p2 < p1 then p2 else p1)) then p4 else (if p3 < (if p2 < p1 then p2 else p1) then p3 else (if p2 < p1 then p2 else p1)))), .val (.int (2 : Int32)), .unset] [(.ref b37)])
          obtain ⟨_, _, ⟨T52, L52, k52, n52⟩, -, X52, ⟨Lc52, hQ52, l52, y52, z52⟩, st52⟩ := Jvm.LawKit.callS X44 hx (y := (⟨"com/example/rulewright/rulewright/evolution/Generation", "indexOfBest", "([D)I"⟩ : MethodName)) hown (mvT hZ (hw _ (List.mem_of_getElem? (i := 1) rfl))) (mvT hZ (hw _ (List.mem_of_getElem? (i := 2) rfl))) (mvT hZ (hw _ (List.mem_of_getElem? (i := 3) rfl))) (mvT hZ (hw _ (List.mem_of_getElem? (i := 4) rfl))) (by decide) (backOf (W := 0) (rm14 l Z a0 hw [] b37 k37 p1 p2 p3 p4 h41 n0 (Nat.le_trans (Nat.le_trans (Nat.le_trans (Nat.le_trans (Nat.le_trans Z0 E37.1) (Keep.of_wr W38).1) (Keep.of_wr W39).1) (Keep.of_wr W40).1) (Keep.of_wr W41).1) V41) hZ (hw _ (List.mem_of_getElem? (i := 4) rfl)) (hw _ (List.mem_of_getElem? (i := 3) rfl)) (by decide) (by decide)) (g := (mkF m 143 #[.val (.int p0), .val (.int p1), .val (.int p2), .val (.int p3), .val (.int p4), .val (.int (4 : Int32)), .val (.ref b37), .val (.int (if p4 < (if p3 < (if p2 < p1 then p2 else p1) then p3 else (if p2 < p1 then p2 else p1)) then p4 else (if p3 < (if p2 < p1 then p2 else p1) then p3 else (if p2 < p1 then p2 else p1)))), .val (.int (2 : Int32)), .unset] [(.ref b37)])) rfl (by rw [hml]; rfl) (argsL := [(.ref b37)]) (rest := []) (lenOf pd__AD__I rfl) rfl (by show 2 * 0 + _ ≤ _; exact Nat.le_of_eq rfl) (hb hby at_143) (fun _ _ => ⟨rfl, e44, (by decide : 1 + 0 ≤ _), (by decide : 4 + 0 ≤ _)⟩)
          dsimp only [Pt.U, Pt.locs, Pt.cells, Pt.slots] at X52 l52 y52 z52 st52 hQ52
          subst l52 y52 z52
          obtain ⟨rfl, N52q, e52⟩ := hQ52
          have N52 := Fr.app N44 N52q
          refine own_step st52 ?_
          show own_Go p e below P T52 (mkF m 146 #[.val (.int p0), .val (.int p1), .val (.int p2), .val (.int p3), .val (.int p4), .val (.int (4 : Int32)), .val (.ref b37), .val (.int (if p4 < (if p3 < (if p2 < p1 then p2 else p1) then p3 else (if p2 < p1 then p2 else p1)) then p4 else (if p3 < (if p2 < p1 then p2 else p1) then p3 else (if p2 < p1 then p2 else p1)))), .val (.int (2 : Int32)), .unset] [(.int (own_i4 p1 p2 p3 p4))])
          refine own_step (fun _ k => XS.istore X52.here hx rfl (hb hby at_146) rfl (l' := #[.val (.int p0), .val (.int p1), .val (.int p2), .val (.int p3), .val (.int p4), .val (.int (4 : Int32)), .val (.ref b37), .val (.int (if p4 < (if p3 < (if p2 < p1 then p2 else p1) then p3 else (if p2 < p1 then p2 else p1)) then p4 else (if p3 < (if p2 < p1 then p2 else p1) then p3 else (if p2 < p1 then p2 else p1)))), .val (.int (2 : Int32)), .val (.int (own_i4 p1 p2 p3 p4))]) rfl k) ?_
          show own_Go p e below P T52 (mkF m 148 #[.val (.int p0), .val (.int p1), .val (.int p2), .val (.int p3), .val (.int p4), .val (.int (4 : Int32)), .val (.ref b37), .val (.int (if p4 < (if p3 < (if p2 < p1 then p2 else p1) then p3 else (if p2 < p1 then p2 else p1)) then p4 else (if p3 < (if p2 < p1 then p2 else p1) then p3 else (if p2 < p1 then p2 else p1)))), .val (.int (2 : Int32)), .val (.int (own_i4 p1 p2 p3 p4))] [])
          refine own_step (fun _ k => XS.iload X52.here hx rfl (hb hby at_148) rfl k) ?_
          show own_Go p e below P T52 (mkF m 150 #[.val (.int p0), .val (.int p1), .val (.int p2), .val (.int p3), .val (.int p4), .val (.int (4 : Int32)), .val (.ref b37), .val (.int (if p4 < (if p3 < (if p2 < p1 then p2 else p1) then p3 else (if p2 < p1 then p2 else p1)) then p4 else (if p3 < (if p2 < p1 then p2 else p1) then p3 else (if p2 < p1 then p2 else p1)))), .val (.int (2 : Int32)), .val (.int (own_i4 p1 p2 p3 p4))] [(.int (own_i4 p1 p2 p3 p4))])
          refine own_step (fun _ k => XS.iload X52.here hx rfl (hb hby at_150) rfl k) ?_
          show own_Go p e below P T52 (mkF m 152 #[.val (.int p0), .val (.int p1), .val (.int p2), .val (.int p3), .val (.int p4), .val (.int (4 : Int32)), .val (.ref b37), .val (.int (if p4 < (if p3 < (if p2 < p1 then p2 else p1) then p3 else (if p2 < p1 then p2 else p1)) then p4 else (if p3 < (if p2 < p1 then p2 else p1) then p3 else (if p2 < p1 then p2 else p1)))), .val (.int (2 : Int32)), .val (.int (own_i4 p1 p2 p3 p4))] [(.int (2 : Int32)), (.int (own_i4 p1 p2 p3 p4))])
          refine own_step (fun _ k => XS.icmpNo X52.here hx rfl (hb hby at_152) rfl (teq (own_e4_2 p1 p2 p3 p4 hc45 hc48 hc51)).2 k) ?_
          show own_Go p e below P T52 (mkF m 155 #[.val (.int p0), .val (.int p1), .val (.int p2), .val (.int p3), .val (.int p4), .val (.int (4 : Int32)), .val (.ref b37), .val (.int (if p4 < (if p3 < (if p2 < p1 then p2 else p1) then p3 else (if p2 < p1 then p2 else p1)) then p4 else (if p3 < (if p2 < p1 then p2 else p1) then p3 else (if p2 < p1 then p2 else p1)))), .val (.int (2 : Int32)), .val (.int (own_i4 p1 p2 p3 p4))] [])
          refine own_step (fun _ k => XS.iconst X52.here hx rfl (hb hby at_155) k) ?_
          show own_Go p e below P T52 (mkF m 156 #[.val (.int p0), .val (.int p1), .val (.int p2), .val (.int p3), .val (.int p4), .val (.int (4 : Int32)), .val (.ref b37), .val (.int (if p4 < (if p3 < (if p2 < p1 then p2 else p1) then p3 else (if p2 < p1 then p2 else p1)) then p4 else (if p3 < (if p2 < p1 then p2 else p1) then p3 else (if p2 < p1 then p2 else p1)))), .val (.int (2 : Int32)), .val (.int (own_i4 p1 p2 p3 p4))] [(.int (1 : Int32))])
          refine own_step (fun _ k => XS.goto X52.here hx rfl (pc0 := 156) (pc' := 160) rfl (hb hby at_156) (by decide) (by decide) k) ?_
          show own_Go p e below P T52 (mkF m 160 #[.val (.int p0), .val (.int p1), .val (.int p2), .val (.int p3), .val (.int p4), .val (.int (4 : Int32)), .val (.ref b37), .val (.int (if p4 < (if p3 < (if p2 < p1 then p2 else p1) then p3 else (if p2 < p1 then p2 else p1)) then p4 else (if p3 < (if p2 < p1 then p2 else p1) then p3 else (if p2 < p1 then p2 else p1)))), .val (.int (2 : Int32)), .val (.int (own_i4 p1 p2 p3 p4))] [(.int (1 : Int32))])
          obtain ⟨fs, hr, hrun, hended, hW, hsame⟩ := X52.leave (v := some (.int (1 : Int32))) (fun h => by rw [Bd.returns] at h; cases h)
          refine ⟨_, _, retN X52 hx (t := .boolean) Bd.returns (by simp) (hb hby at_160) hr, hrun, hended, hfin _ _ ⟨_, _, rfl, ?_, ⟨_, rfl⟩, hW, hsame.mono (by decide) (by decide)⟩⟩
          show Q0 Z p0 p1 p2 p3 p4 h0 n0 (some (.int (1 : Int32))) T52.heap _
          rw [e52]
          exact ⟨rfl, N52⟩
        · refine own_step (fun _ k => XS.icmpYes X44.here hx rfl (pc0 := 129) (pc' := 138) rfl (hb hby at_129) rfl (feq hc51).2 (by decide) (by decide) k) ?_
          show own_Go p e below P T44 (mkF m 138 #[.val (.int p0), .val (.int p1), .val (.int p2), .val (.int p3), .val (.int p4), .val (.int (4 : Int32)), .val (.ref b37), .val (.int (if p4 < (if p3 < (if p2 < p1 then p2 else p1) then p3 else (if p2 < p1 then p2 else p1)) then p4 else (if p3 < (if p2 < p1 then p2 else p1) then p3 else (if p2 < p1 then p2 else p1)))), .unset, .unset] [])
          refine own_step (fun _ k => XS.iconst X44.here hx rfl (hb hby at_138) k) ?_
          show own_Go p e below P T44 (mkF m 139 #[.val (.int p0), .val (.int p1), .val (.int p2), .val (.int p3), .val (.int p4), .val (.int (4 : Int32)), .val (.ref b37), .val (.int (if p4 < (if p3 < (if p2 < p1 then p2 else p1) then p3 else (if p2 < p1 then p2 else p1)) then p4 else (if p3 < (if p2 < p1 then p2 else p1) then p3 else (if p2 < p1 then p2 else p1)))), .unset, .unset] [(.int (3 : Int32))])
          refine own_step (fun _ k => XS.istore X44.here hx rfl (hb hby at_139) rfl (l' := #[.val (.int p0), .val (.int p1), .val (.int p2), .val (.int p3), .val (.int p4), .val (.int (4 : Int32)), .val (.ref b37), .val (.int (if p4 < (if p3 < (if p2 < p1 then p2 else p1) then p3 else (if p2 < p1 then p2 else p1)) then p4 else (if p3 < (if p2 < p1 then p2 else p1) then p3 else (if p2 < p1 then p2 else p1)))), .val (.int (3 : Int32)), .unset]) rfl k) ?_
          show own_Go p e below P T44 (mkF m 141 #[.val (.int p0), .val (.int p1), .val (.int p2), .val (.int p3), .val (.int p4), .val (.int (4 : Int32)), .val (.ref b37), .val (.int (if p4 < (if p3 < (if p2 < p1 then p2 else p1) then p3 else (if p2 < p1 then p2 else p1)) then p4 else (if p3 < (if p2 < p1 then p2 else p1) then p3 else (if p2 < p1 then p2 else p1)))), .val (.int (3 : Int32)), .unset] [])
          refine own_step (fun _ k => XS.aload X44.here hx rfl (hb hby at_141) rfl rfl k) ?_
          show own_Go p e below P T44 (mkF m 143 #[.val (.int p0), .val (.int p1), .val (.int p2), .val (.int p3), .val (.int p4), .val (.int (4 : Int32)), .val (.ref b37), .val (.int (if p4 < (if p3 < (if p2 < p1 then p2 else p1) then p3 else (if p2 < p1 then p2 else p1)) then p4 else (if p3 < (if p2 < p1 then p2 else p1) then p3 else (if p2 < p1 then p2 else p1)))), .val (.int (3 : Int32)), .unset] [(.ref b37)])
          obtain ⟨_, _, ⟨T54, L54, k54, n54⟩, -, X54, ⟨Lc54, hQ54, l54, y54, z54⟩, st54⟩ := Jvm.LawKit.callS X44 hx (y := (⟨"com/example/rulewright/rulewright/evolution/Generation", "indexOfBest", "([D)I"⟩ : MethodName)) hown (mvT hZ (hw _ (List.mem_of_getElem? (i := 1) rfl))) (mvT hZ (hw _ (List.mem_of_getElem? (i := 2) rfl))) (mvT hZ (hw _ (List.mem_of_getElem? (i := 3) rfl))) (mvT hZ (hw _ (List.mem_of_getElem? (i := 4) rfl))) (by decide) (backOf (W := 0) (rm14 l Z a0 hw [] b37 k37 p1 p2 p3 p4 h41 n0 (Nat.le_trans (Nat.le_trans (Nat.le_trans (Nat.le_trans (Nat.le_trans Z0 E37.1) (Keep.of_wr W38).1) (Keep.of_wr W39).1) (Keep.of_wr W40).1) (Keep.of_wr W41).1) V41) hZ (hw _ (List.mem_of_getElem? (i := 4) rfl)) (hw _ (List.mem_of_getElem? (i := 3) rfl)) (by decide) (by decide)) (g := (mkF m 143 #[.val (.int p0), .val (.int p1), .val (.int p2), .val (.int p3), .val (.int p4), .val (.int (4 : Int32)), .val (.ref b37), .val (.int (if p4 < (if p3 < (if p2 < p1 then p2 else p1) then p3 else (if p2 < p1 then p2 else p1)) then p4 else (if p3 < (if p2 < p1 then p2 else p1) then p3 else (if p2 < p1 then p2 else p1)))), .val (.int (3 : Int32)), .unset] [(.ref b37)])) rfl (by rw [hml]; rfl) (argsL := [(.ref b37)]) (rest := []) (lenOf pd__AD__I rfl) rfl (by show 2 * 0 + _ ≤ _; exact Nat.le_of_eq rfl) (hb hby at_143) (fun _ _ => ⟨rfl, e44, (by decide : 1 + 0 ≤ _), (by decide : 4 + 0 ≤ _)⟩)
          dsimp only [Pt.U, Pt.locs, Pt.cells, Pt.slots] at X54 l54 y54 z54 st54 hQ54
          subst l54 y54 z54
          obtain ⟨rfl, N54q, e54⟩ := hQ54
          have N54 := Fr.app N44 N54q
          refine own_step st54 ?_
          show own_Go p e below P T54 (mkF m 146 #[.val (.int p0), .val (.int p1), .val (.int p2), .val (.int p3), .val (.int p4), .val (.int (4 : Int32)), .val (.ref b37), .val (.int (if p4 < (if p3 < (if p2 < p1 then p2 else p1) then p3 else (if p2 < p1 then p2 else p1)) then p4 else (if p3 < (if p2 < p1 then p2 else p1) then p3 else (if p2 < p1 then p2 else p1)))), .val (.int (3 : Int32)), .unset] [(.int (own_i4 p1 p2 p3 p4))])
          refine own_step (fun _ k => XS.istore X54.here hx rfl (hb hby at_146) rfl (l' := #[.val (.int p0), .val (.int p1), .val (.int p2), .val (.int p3), .val (.int p4), .val (.int (4 : Int32)), .val (.ref b37), .val (.int (if p4 < (if p3 < (if p2 < p1 then p2 else p1) then p3 else (if p2 < p1 then p2 else p1)) then p4 else (if p3 < (if p2 < p1 then p2 else p1) then p3 else (if p2 < p1 then p2 else p1)))), .val (.int (3 : Int32)), .val (.int (own_i4 p1 p2 p3 p4))]) rfl k) ?_
          show own_Go p e below P T54 (mkF m 148 #[.val (.int p0), .val (.int p1), .val (.int p2), .val (.int p3), .val (.int p4), .val (.int (4 : Int32)), .val (.ref b37), .val (.int (if p4 < (if p3 < (if p2 < p1 then p2 else p1) then p3 else (if p2 < p1 then p2 else p1)) then p4 else (if p3 < (if p2 < p1 then p2 else p1) then p3 else (if p2 < p1 then p2 else p1)))), .val (.int (3 : Int32)), .val (.int (own_i4 p1 p2 p3 p4))] [])
          refine own_step (fun _ k => XS.iload X54.here hx rfl (hb hby at_148) rfl k) ?_
          show own_Go p e below P T54 (mkF m 150 #[.val (.int p0), .val (.int p1), .val (.int p2), .val (.int p3), .val (.int p4), .val (.int (4 : Int32)), .val (.ref b37), .val (.int (if p4 < (if p3 < (if p2 < p1 then p2 else p1) then p3 else (if p2 < p1 then p2 else p1)) then p4 else (if p3 < (if p2 < p1 then p2 else p1) then p3 else (if p2 < p1 then p2 else p1)))), .val (.int (3 : Int32)), .val (.int (own_i4 p1 p2 p3 p4))] [(.int (own_i4 p1 p2 p3 p4))])
          refine own_step (fun _ k => XS.iload X54.here hx rfl (hb hby at_150) rfl k) ?_
          show own_Go p e below P T54 (mkF m 152 #[.val (.int p0), .val (.int p1), .val (.int p2), .val (.int p3), .val (.int p4), .val (.int (4 : Int32)), .val (.ref b37), .val (.int (if p4 < (if p3 < (if p2 < p1 then p2 else p1) then p3 else (if p2 < p1 then p2 else p1)) then p4 else (if p3 < (if p2 < p1 then p2 else p1) then p3 else (if p2 < p1 then p2 else p1)))), .val (.int (3 : Int32)), .val (.int (own_i4 p1 p2 p3 p4))] [(.int (3 : Int32)), (.int (own_i4 p1 p2 p3 p4))])
          refine own_step (fun _ k => XS.icmpNo X54.here hx rfl (hb hby at_152) rfl (teq (own_e4_3 p1 p2 p3 p4 hc45 hc48 hc51)).2 k) ?_
          show own_Go p e below P T54 (mkF m 155 #[.val (.int p0), .val (.int p1), .val (.int p2), .val (.int p3), .val (.int p4), .val (.int (4 : Int32)), .val (.ref b37), .val (.int (if p4 < (if p3 < (if p2 < p1 then p2 else p1) then p3 else (if p2 < p1 then p2 else p1)) then p4 else (if p3 < (if p2 < p1 then p2 else p1) then p3 else (if p2 < p1 then p2 else p1)))), .val (.int (3 : Int32)), .val (.int (own_i4 p1 p2 p3 p4))] [])
          refine own_step (fun _ k => XS.iconst X54.here hx rfl (hb hby at_155) k) ?_
          show own_Go p e below P T54 (mkF m 156 #[.val (.int p0), .val (.int p1), .val (.int p2), .val (.int p3), .val (.int p4), .val (.int (4 : Int32)), .val (.ref b37), .val (.int (if p4 < (if p3 < (if p2 < p1 then p2 else p1) then p3 else (if p2 < p1 then p2 else p1)) then p4 else (if p3 < (if p2 < p1 then p2 else p1) then p3 else (if p2 < p1 then p2 else p1)))), .val (.int (3 : Int32)), .val (.int (own_i4 p1 p2 p3 p4))] [(.int (1 : Int32))])
          refine own_step (fun _ k => XS.goto X54.here hx rfl (pc0 := 156) (pc' := 160) rfl (hb hby at_156) (by decide) (by decide) k) ?_
          show own_Go p e below P T54 (mkF m 160 #[.val (.int p0), .val (.int p1), .val (.int p2), .val (.int p3), .val (.int p4), .val (.int (4 : Int32)), .val (.ref b37), .val (.int (if p4 < (if p3 < (if p2 < p1 then p2 else p1) then p3 else (if p2 < p1 then p2 else p1)) then p4 else (if p3 < (if p2 < p1 then p2 else p1) then p3 else (if p2 < p1 then p2 else p1)))), .val (.int (3 : Int32)), .val (.int (own_i4 p1 p2 p3 p4))] [(.int (1 : Int32))])
          obtain ⟨fs, hr, hrun, hended, hW, hsame⟩ := X54.leave (v := some (.int (1 : Int32))) (fun h => by rw [Bd.returns] at h; cases h)
          refine ⟨_, _, retN X54 hx (t := .boolean) Bd.returns (by simp) (hb hby at_160) hr, hrun, hended, hfin _ _ ⟨_, _, rfl, ?_, ⟨_, rfl⟩, hW, hsame.mono (by decide) (by decide)⟩⟩
          show Q0 Z p0 p1 p2 p3 p4 h0 n0 (some (.int (1 : Int32))) T54.heap _
          rw [e54]
          exact ⟨rfl, N54⟩
set_option maxRecDepth 65536 in
set_option maxHeartbeats 40000000 in
theorem comes_1 {Post : Tables → Env → Array Value → State → Outcome → State → Prop} (hpost : ∀ tb e args s v u, (limb_1_1.after args s (.returned v) u = true ∧ limb_1_2.after args s (.returned v) u = true ∧ True) → FrameEnd s (.returned v) u (Jvm.fieldLocs frame_1_writes args s ++ Jvm.arrayLocs frame_1_arrays args s ++ Jvm.staticLocs frame_1_statics s) 16 128 → Post tb e args s (.returned v) u) :
    ArmFor flags0 classFile x code maxLocals ret World_1 tables_1 room_1 Calls_1 rest_1 Pre_1 Post := by
  intro l hfl _ _ p e ha hc hk s m args below hf hA hF happ hP
  obtain ⟨hcalls, hrest, hpre⟩ := hP
  obtain ⟨-, -, -, hnamed, -, -, -, hat⟩ := (Spec.applies_iff hf).mp happ
  obtain ⟨hg, hn⟩ := and_e (Cond.before_iff.mp (show (Jvm.Cond.and given_1 narrow_1).before args s = true from hpre))
  obtain ⟨hcnt, hg0⟩ := and_e hg
  obtain ⟨ga0, hg1⟩ := and_e hg0
  obtain ⟨ga1, hg2⟩ := and_e hg1
  obtain ⟨ga2, hg3⟩ := and_e hg2
  obtain ⟨ga3, hg4⟩ := and_e hg3
  have ga4 := hg4
  obtain ⟨w0, w1, w2, w3, w4, rfl⟩ : ∃ w0 w1 w2 w3 w4 : Value, args = #[w0, w1, w2, w3, w4] := by
    have hs : args.size = 5 := by simpa [Cond.value, given_1] using hcnt
    obtain ⟨L⟩ := args
    match L, hs with
    | [w0, w1, w2, w3, w4], _ => exact ⟨w0, w1, w2, w3, w4, rfl⟩
  have hw := fun d (hd : d ∈ tables_1) => atoms_spec (ws := Jvm.Cond.code x code maxLocals ret :: tables_1) hat d (List.mem_cons_of_mem _ hd)
  have hfit : Fit s := fun {y c} hc i hi => by
    obtain ⟨ha, rfl⟩ := Array.getElem?_eq_some_iff.mp hc
    have q := List.all_eq_true.mp ((Array.all_eq_true_iff_forall_mem.mp hF) _ (Array.getElem_mem ha)) i (List.mem_range.mpr hi)
    simpa [Array.getElem?_eq_getElem hi] using q
  obtain ⟨i0, ei0⟩ := is_v ga0
  obtain rfl : w0 = (.int i0) := Option.some.inj ei0
  obtain ⟨i1, ei1⟩ := is_v ga1
  obtain rfl : w1 = (.int i1) := Option.some.inj ei1
  obtain ⟨i2, ei2⟩ := is_v ga2
  obtain rfl : w2 = (.int i2) := Option.some.inj ei2
  obtain ⟨i3, ei3⟩ := is_v ga3
  obtain rfl : w3 = (.int i3) := Option.some.inj ei3
  obtain ⟨i4, ei4⟩ := is_v ga4
  obtain rfl : w4 = (.int i4) := Option.some.inj ei4
  obtain ⟨n, o, h1, h2, h3, _, L, rfl, ⟨rfl, N⟩, hq⟩ := rm0 l s _ hw tables_1 i0 i1 i2 i3 i4  s.heap s.heap.size (Nat.le_refl _)  p e ha hc hk s m _ below hf ((Spec.applies_iff_loose hf).mp happ).1 ⟨rfl, State.Warmed39.refl s, rfl⟩ trivial
  refine ⟨n, _, h1, h2, h3, hpost _ _ _ _ _ _ ⟨Cond.after_iff.mpr rfl, Cond.after_iff.mpr (eq_i res_at (Term.int_eval (1)) rfl), trivial⟩ ⟨hq.1, hq.2.1, (hq.2.2.sift fun y hy => Or.inr (N y hy)).mono (by decide) (by decide)⟩⟩
theorem main_1_1 : Claimed_1_1 := comes_1 fun _ _ _ _ _ _ h hF => ⟨h.1, hF⟩
theorem main_1_2 : Claimed_1_2 := comes_1 fun _ _ _ _ _ _ h hF => ⟨h.2.1, hF⟩
end Jvm.Pilot.@@N@@
namespace Jvm.Pilot.@@N@@
open Jvm Jvm.ClassFile Sem Op Lib Jvm.Free Jvm.Stand Jvm.Pilot.@@N@@.Jvm.D
/-! MADE BY PROGRAM (witnessworld.py) out of the Statement's table words and the real class files: 13 classes; the members and pool entries that the words name. The judged class is class 1, her method 1. -/
namespace start1
open Jvm.ClassFile
def u (s : String) : CpInfo := .utf8 (stringToUtf16 s)
/-- a pool by its gaps: so many unusable entries, then the entry; so many at the end -/
def gap : Nat → List CpInfo → List CpInfo
  | 0, r => r
  | n + 1, r => .unusable :: gap n r
def poolList (es : List (Nat × CpInfo)) (last : Nat) : List CpInfo := es.foldr (fun e r => gap e.1 (e.2 :: r)) (gap last [])
def pool (es : List (Nat × CpInfo)) (last : Nat) : Array CpInfo := ⟨poolList es last⟩
def fileOf (pool : Array CpInfo) (this : Nat) (attrs : Array Attribute := #[]) (ms : Array MethodInfo := #[]) (fl : Nat := 33) (sup : Nat := 0) (ifs : Array Nat := #[]) (fds : Array FieldInfo := #[]) : ClassFile where
  minorVersion := 0
  majorVersion := 65
  constantPool := pool
  accessFlags := fl
  thisClass := this
  superClass := sup
  interfaces := ifs
  fields := fds
  methods := ms
  attributes := attrs
def plain (name : String) (sup : Option ClassId) : Class where
  name := name
  kind := .ordinary
  loader := none
  accessFlags := 33
  super := sup
  interfaces := #[]
  cf := none
  fields := #[]
  methods := #[]
  instanceTypes := #[]
  staticTypes := #[]
  resolved := #[]
  callSites := []
  init := .initialized
  statics := none
  mirror := none

def pool0 : Array CpInfo := pool [(5, u "<init>"), (0, u "()V"), (1, .class_ 10), (1, u "java/lang/Object")] 113

def k0m0 : Method := { name := "<init>", desc := "()V", sig := { parameters := [], returnType := none }, accessFlags := 1, code := none }
/-- java/lang/Object -/
def k0 : Class := { plain "java/lang/Object" none with
  accessFlags := 33
  interfaces := #[]
  cf := some (fileOf pool0 8 #[] #[{ accessFlags := 1, nameIndex := 5, descriptorIndex := 6, attributes := #[] }] 33 0 #[] #[])
  fields := #[]
  methods := #[k0m0]
  instanceTypes := #[]
  staticTypes := #[]
  resolved := Array.replicate 124 none
  statics := none }

def pool1 : Array CpInfo := pool [(2, .class_ 4), (1, u "java/lang/Object"), (0, u "<init>"), (0, u "()V"), (0, .methodref 8 9), (0, .class_ 10), (0, .nameAndType 11 12), (0, u "java/lang/Math"), (0, u "min"), (0, u "(II)I"), (0, .methodref 14 15), (0, .class_ 16), (0, .nameAndType 17 18), (0, u "com/example/rulewright/rulewright/evolution/Generation"), (0, u "indexOfBest"), (0, u "([D)I"), (0, .class_ 20), (0, u "com/example/rulewright/rulewright/evolution/GenerationIndexOfBestPinLaw"), (2, u "law"), (0, u "(IIIII)Z")] 5

def k1m0 : Method := { name := "<init>", desc := "()V", sig := { parameters := [], returnType := none }, accessFlags := 2, code := none }
def k1c1 : Code := { maxStack := 4, maxLocals := 10, code := code, exceptionTable := #[], attributes := #[] }
def k1m1 : Method := { name := "law", desc := "(IIIII)Z", sig := { parameters := [.int, .int, .int, .int, .int], returnType := some .boolean }, accessFlags := 9, code := some k1c1 }
/-- com/example/rulewright/rulewright/evolution/GenerationIndexOfBestPinLaw -/
def k1 : Class := { plain "com/example/rulewright/rulewright/evolution/GenerationIndexOfBestPinLaw" (some 0) with
  accessFlags := 49
  interfaces := #[]
  cf := some (fileOf pool1 19 #[] #[{ accessFlags := 2, nameIndex := 5, descriptorIndex := 6, attributes := #[] }, { accessFlags := 9, nameIndex := 23, descriptorIndex := 24, attributes := #[] }] 49 2 #[] #[])
  fields := #[]
  methods := #[k1m0, k1m1]
  instanceTypes := #[]
  staticTypes := #[]
  resolved := Array.replicate 30 none
  statics := none }

def pool2 : Array CpInfo := pool [(2, .class_ 4), (1, u "java/lang/Object"), (0, u "<init>"), (0, u "()V"), (0, .class_ 8), (0, u "java/lang/Record")] 13

def k2m0 : Method := { name := "<init>", desc := "()V", sig := { parameters := [], returnType := none }, accessFlags := 4, code := none }
/-- java/lang/Record -/
def k2 : Class := { plain "java/lang/Record" (some 0) with
  accessFlags := 1057
  interfaces := #[]
  cf := some (fileOf pool2 7 #[] #[{ accessFlags := 4, nameIndex := 5, descriptorIndex := 6, attributes := #[] }] 1057 2 #[] #[])
  fields := #[]
  methods := #[k2m0]
  instanceTypes := #[]
  staticTypes := #[]
  resolved := Array.replicate 22 none
  statics := none }

def pool3 : Array CpInfo := pool [(2, .class_ 4), (1, u "java/lang/Record"), (3, .class_ 10), (1, u "com/example/rulewright/rulewright/evolution/Generation"), (0, u "number"), (0, u "I"), (2, u "bestFitness"), (0, u "D"), (2, u "meanFitness"), (2, u "best"), (0, u "Lcom/example/rulewright/rulewright/rule/RulePair;"), (6, u "indexOfBest"), (0, u "([D)I")] 61

def k3c0 : Code := { maxStack := 4, maxLocals := 3, code := prog_11_method_3_code, exceptionTable := #[], attributes := #[] }
def k3m0 : Method := { name := "indexOfBest", desc := "([D)I", sig := { parameters := [(.array .double)], returnType := some .int }, accessFlags := 8, code := some k3c0 }
/-- com/example/rulewright/rulewright/evolution/Generation -/
def k3 : Class := { plain "com/example/rulewright/rulewright/evolution/Generation" (some 2) with
  accessFlags := 49
  interfaces := #[]
  cf := some (fileOf pool3 8 #[] #[{ accessFlags := 8, nameIndex := 30, descriptorIndex := 31, attributes := #[] }] 49 2 #[] #[{ accessFlags := 18, nameIndex := 11, descriptorIndex := 12, attributes := #[] }, { accessFlags := 18, nameIndex := 15, descriptorIndex := 16, attributes := #[] }, { accessFlags := 18, nameIndex := 19, descriptorIndex := 16, attributes := #[] }, { accessFlags := 18, nameIndex := 22, descriptorIndex := 23, attributes := #[] }])
  fields := #[{ name := "number", type := .int, accessFlags := 18, slot := 0, constantValue := 0 }, { name := "bestFitness", type := .double, accessFlags := 18, slot := 1, constantValue := 0 }, { name := "meanFitness", type := .double, accessFlags := 18, slot := 2, constantValue := 0 }, { name := "best", type := (.object "com/example/rulewright/rulewright/rule/RulePair"), accessFlags := 18, slot := 3, constantValue := 0 }]
  methods := #[k3m0]
  instanceTypes := #[.int, .double, .double, (.object "com/example/rulewright/rulewright/rule/RulePair")]
  staticTypes := #[]
  resolved := Array.replicate 93 none
  statics := none }

def pool4 : Array CpInfo := pool [(1, .class_ 2), (0, u "java/lang/Math"), (1, .class_ 6), (1, u "java/lang/Object"), (0, u "<init>"), (0, u "()V"), (89, .class_ 100), (1, u "java/lang/Math$RandomNumberGeneratorHolder"), (71, u "negativeZeroFloatBits"), (0, u "J"), (2, u "negativeZeroDoubleBits"), (24, u "min"), (43, u "$assertionsDisabled"), (0, u "Z"), (88, u "(II)I"), (2, u "twoToTheDoubleScaleDown"), (0, u "D"), (4, u "twoToTheDoubleScaleUp"), (9, u "E"), (3, u "PI"), (2, u "TAU"), (2, u "DEGREES_TO_RADIANS"), (0, u "RADIANS_TO_DEGREES")] 94

def k4m0 : Method := { name := "<init>", desc := "()V", sig := { parameters := [], returnType := none }, accessFlags := 2, code := none }
def k4c1 : Code := { maxStack := 2, maxLocals := 2, code := jdk_29_method_69_code, exceptionTable := #[], attributes := #[] }
def k4m1 : Method := { name := "min", desc := "(II)I", sig := { parameters := [.int, .int], returnType := some .int }, accessFlags := 9, code := some k4c1 }
/-- java/lang/Math -/
def k4 : Class := { plain "java/lang/Math" (some 0) with
  accessFlags := 49
  interfaces := #[]
  cf := some (fileOf pool4 1 #[.nestMembers #[98]] #[{ accessFlags := 2, nameIndex := 7, descriptorIndex := 8, attributes := #[] }, { accessFlags := 9, nameIndex := 201, descriptorIndex := 335, attributes := #[] }] 49 4 #[] #[{ accessFlags := 25, nameIndex := 354, descriptorIndex := 339, attributes := #[] }, { accessFlags := 25, nameIndex := 358, descriptorIndex := 339, attributes := #[] }, { accessFlags := 25, nameIndex := 361, descriptorIndex := 339, attributes := #[] }, { accessFlags := 26, nameIndex := 364, descriptorIndex := 339, attributes := #[] }, { accessFlags := 26, nameIndex := 365, descriptorIndex := 339, attributes := #[] }, { accessFlags := 26, nameIndex := 172, descriptorIndex := 173, attributes := #[] }, { accessFlags := 26, nameIndex := 176, descriptorIndex := 173, attributes := #[] }, { accessFlags := 8, nameIndex := 344, descriptorIndex := 339, attributes := #[] }, { accessFlags := 8, nameIndex := 338, descriptorIndex := 339, attributes := #[] }, { accessFlags := 4120, nameIndex := 245, descriptorIndex := 246, attributes := #[] }])
  fields := #[{ name := "E", type := .double, accessFlags := 25, slot := 0, constantValue := 0 }, { name := "PI", type := .double, accessFlags := 25, slot := 1, constantValue := 0 }, { name := "TAU", type := .double, accessFlags := 25, slot := 2, constantValue := 0 }, { name := "DEGREES_TO_RADIANS", type := .double, accessFlags := 26, slot := 3, constantValue := 0 }, { name := "RADIANS_TO_DEGREES", type := .double, accessFlags := 26, slot := 4, constantValue := 0 }, { name := "negativeZeroFloatBits", type := .long, accessFlags := 26, slot := 5, constantValue := 0 }, { name := "negativeZeroDoubleBits", type := .long, accessFlags := 26, slot := 6, constantValue := 0 }, { name := "twoToTheDoubleScaleUp", type := .double, accessFlags := 8, slot := 7, constantValue := 0 }, { name := "twoToTheDoubleScaleDown", type := .double, accessFlags := 8, slot := 8, constantValue := 0 }, { name := "$assertionsDisabled", type := .boolean, accessFlags := 4120, slot := 9, constantValue := 0 }]
  methods := #[k4m0, k4m1]
  instanceTypes := #[]
  staticTypes := #[.double, .double, .double, .double, .double, .long, .long, .double, .double, .boolean]
  resolved := Array.replicate 460 none
  statics := none }

def pool5 : Array CpInfo := pool [(1, u "java/lang/Cloneable"), (0, .class_ 1), (0, u "java/lang/Object"), (0, .class_ 3)] 3

/-- java/lang/Cloneable -/
def k5 : Class := { plain "java/lang/Cloneable" (some 0) with
  accessFlags := 1537
  interfaces := #[]
  cf := some (fileOf pool5 2 #[] #[] 1537 4 #[] #[])
  fields := #[]
  methods := #[]
  instanceTypes := #[]
  staticTypes := #[]
  resolved := Array.replicate 8 none
  statics := none }

def pool6 : Array CpInfo := pool [(1, u "java/io/Serializable"), (0, .class_ 1), (0, u "java/lang/Object"), (0, .class_ 3)] 3

/-- java/io/Serializable -/
def k6 : Class := { plain "java/io/Serializable" (some 0) with
  accessFlags := 1537
  interfaces := #[]
  cf := some (fileOf pool6 2 #[] #[] 1537 4 #[] #[])
  fields := #[]
  methods := #[]
  instanceTypes := #[]
  staticTypes := #[]
  resolved := Array.replicate 8 none
  statics := none }

/-- the primitive byte -/
def k7 : Class := { plain "byte" none with kind := .primitive 'B', accessFlags := 0x411 }
/-- [B -/
def k8 : Class := { plain "[B" (some 0) with kind := .array 7 .byte, interfaces := #[5, 6], accessFlags := 1041 }

/-- the primitive double -/
def k9 : Class := { plain "double" none with kind := .primitive 'D', accessFlags := 0x411 }
/-- [D -/
def k10 : Class := { plain "[D" (some 0) with kind := .array 9 .double, interfaces := #[5, 6], accessFlags := 1041 }

/-- the primitive int -/
def k11 : Class := { plain "int" none with kind := .primitive 'I', accessFlags := 0x411 }
/-- [I -/
def k12 : Class := { plain "[I" (some 0) with kind := .array 11 .int, interfaces := #[5, 6], accessFlags := 1041 }

def heap : Heap := #[]
def classes : Array Class := #[k0, k1, k2, k3, k4, k5, k6, k7, k8, k9, k10, k11, k12]
def interned : List (Array UInt16 × Addr) := []
def slotsUsed : Nat := 0
def theMethod : MethodId := ⟨1, 1⟩
def args0 : Array Value := #[.int 5, .int 7, .int 4, .int 9, .int 9]
def aboutOver (below : List Frame) : State where
  vm := { classes := classes, interned := interned.toArray }
  heap := heap
  slotsUsed := slotsUsed
  threads := #[{ frames := .invoking theMethod args0 :: below }]
def below0 : List Frame := [.native { method := ⟨0, 0⟩, args := #[] }]
def about1 : State := aboutOver below0
def p0 : Program := .bare "" "" ""
def e0 : Env := launch0.env 0 0 0
theorem w_frames : about1.frames = Frame.invoking theMethod args0 :: below0 := rfl
set_option maxRecDepth 65536 in
theorem w_args : argsFit about1.vm theMethod args0 = true := by decide +kernel
set_option maxRecDepth 65536 in
theorem w_heap : heapFits about1 = true := by decide +kernel
set_option maxRecDepth 65536 in
theorem w_runnable : about1.curStatus? = some .runnable := by decide +kernel
set_option maxRecDepth 65536 in
theorem w_alone : about1.alone = true := by decide +kernel
set_option maxRecDepth 65536 in
theorem w_named : about1.methodNamed? x = some theMethod := by decide +kernel
set_option maxRecDepth 65536 in
theorem w_hears : about1.hears theMethod below0 = true := by decide +kernel
set_option maxRecDepth 65536 in
theorem w_ripe : about1.ripe theMethod args0 below0 = true := by decide +kernel
theorem w_running : about1.status = .running := rfl
set_option maxRecDepth 65536 in
theorem w_room : about1.hasRoom e0.platform room_1 = true :=
  launch0.hasRoom_least _ room_1 (by decide +kernel) (by decide +kernel) (by decide +kernel) (by decide +kernel) (by decide +kernel) (by decide +kernel)
theorem allAtoms_all (ts : List Jvm.Cond) (a : Array Jvm.Value) (st : Jvm.State) : (allAtoms ts).before a st = ts.all (fun c => c.before a st) := by
  induction ts with
  | nil => rfl
  | cons c t ih =>
    show (Jvm.Cond.and c (allAtoms t)).before a st = _
    rw [Jvm.Cond.before_and, ih, List.all_cons]
def words1 : List Jvm.Cond := Jvm.Cond.code x code maxLocals ret :: tables_1
/-- a 'code' word, met by the world's own term for the bytes: nothing is compared byte by byte -/
theorem code_word {y : MethodName} {bytes : ByteArray} {mx : Nat} {rt : Option FieldType} {a : Array Value} {s : State} {m : MethodId} {meth : Method} {c : Code} (h1 : s.methodNamed? y = some m) (h2 : s.vm.method? m = some meth) (h3 : meth.code = some c) (h4 : c.code = bytes)
    (h5 : (c.maxLocals == mx && c.exceptionTable.isEmpty && decide (c.maxStack ≤ mostOperands) && decide (meth.sig.returnType = rt) && !meth.locks && decide (parseMethodDescriptor y.desc = some meth.sig)) = true) : (Jvm.Cond.code y bytes mx rt).before a s = true := by
  simp only [Bool.and_eq_true, beq_iff_eq, Bool.not_eq_true', decide_eq_true_eq] at h5
  obtain ⟨⟨⟨⟨⟨g1, g2⟩, g3⟩, g4⟩, g5⟩, g6⟩ := h5
  simp [Cond.before, Cond.holds, Cond.value, h1, h2, h3, h4, g1, g2, g3, g4, g5, g6]
def isCode : Jvm.Cond → Bool
  | .code _ _ _ _ => true
  | _ => false
theorem all_split {L : List Jvm.Cond} {P : Jvm.Cond → Bool} (h1 : L.all (fun c => isCode c || P c) = true) (h2 : ∀ c ∈ L.filter isCode, P c = true) : L.all P = true := by
  refine List.all_eq_true.mpr fun c hc => ?_
  have h := List.all_eq_true.mp h1 c hc
  rcases Bool.eq_false_or_eq_true (isCode c) with hi | hi
  · exact h2 c (List.mem_filter.mpr ⟨hc, hi⟩)
  · simpa [hi] using h
set_option maxRecDepth 65536 in
theorem w_c0 : (Jvm.Cond.code x code maxLocals ret).before args0 about1 = true := code_word (m := ⟨1, 1⟩) (meth := k1m1) (c := k1c1) (by decide +kernel) rfl rfl rfl (by decide +kernel)
set_option maxRecDepth 65536 in
theorem w_c1 : (Jvm.Cond.code ({ cls := "com/example/rulewright/rulewright/evolution/Generation", name := "indexOfBest", desc := "([D)I" } : Jvm.MethodName) prog_11_method_3_code (3 : Nat) (Option.some Jvm.ClassFile.FieldType.int)).before args0 about1 = true := code_word (m := ⟨3, 0⟩) (meth := k3m0) (c := k3c0) (by decide +kernel) rfl rfl rfl (by decide +kernel)
set_option maxRecDepth 65536 in
theorem w_c2 : (Jvm.Cond.code ({ cls := "java/lang/Math", name := "min", desc := "(II)I" } : Jvm.MethodName) jdk_29_method_69_code (2 : Nat) (Option.some Jvm.ClassFile.FieldType.int)).before args0 about1 = true := code_word (m := ⟨4, 1⟩) (meth := k4m1) (c := k4c1) (by decide +kernel) rfl rfl rfl (by decide +kernel)
def codes1 : List Jvm.Cond := [Jvm.Cond.code x code maxLocals ret, Jvm.Cond.code ({ cls := "com/example/rulewright/rulewright/evolution/Generation", name := "indexOfBest", desc := "([D)I" } : Jvm.MethodName) prog_11_method_3_code (3 : Nat) (Option.some Jvm.ClassFile.FieldType.int), Jvm.Cond.code ({ cls := "java/lang/Math", name := "min", desc := "(II)I" } : Jvm.MethodName) jdk_29_method_69_code (2 : Nat) (Option.some Jvm.ClassFile.FieldType.int)]
set_option maxRecDepth 65536 in
theorem codes_eq : words1.filter isCode = codes1 := rfl
theorem w_codes : ∀ c ∈ words1.filter isCode, c.before args0 about1 = true := by
  rw [codes_eq]
  intro c hc
  simp only [codes1, List.mem_cons, List.not_mem_nil, or_false] at hc
  rcases hc with rfl | rfl | rfl
  · exact w_c0
  · exact w_c1
  · exact w_c2
set_option maxRecDepth 65536 in
theorem w_t1 : words1.all (fun c => isCode c || c.before args0 about1) = true := by decide +kernel
theorem w_tables : (allAtoms (Jvm.Cond.code x code maxLocals ret :: tables_1)).before args0 about1 = true := by
  rw [allAtoms_all]
  show words1.all (fun c => c.before args0 about1) = true
  refine all_split ?_ w_codes
  rw [w_t1]
set_option maxRecDepth 65536 in
theorem w_case : (Jvm.Cond.and given_1 narrow_1).before args0 about1 = true := by decide +kernel
theorem w_applies : (headSpec (Jvm.Cond.code x code maxLocals ret :: tables_1) room_1).applies x e0.platform about1 = true :=
  (Spec.applies_iff w_frames).mpr ⟨w_running, w_runnable, w_alone, w_named, w_hears, w_ripe, w_room, w_tables⟩
theorem atStart : AtStart classFile x code maxLocals ret World_1 tables_1 room_1 Calls_1 rest_1 Pre_1 launch0 p0 e0 about1 theMethod args0 below0 :=
  ⟨lists_1, trivial, launch0.admits_env _ _ _, launch0.least_env, fairChoices_fair.cas, fairChoices_fair.clock, w_frames, w_args, w_heap, w_applies, trivial, trivial, w_case⟩
end start1
theorem witness_1 : WitnessClaimed_1 := ⟨start1.p0, start1.e0, start1.about1, start1.theMethod, start1.args0, start1.below0, start1.atStart⟩
end Jvm.Pilot.@@N@@
