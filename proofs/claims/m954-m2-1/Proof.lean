import JvmDerived
import JvmDerived.Pilot.@@N@@Statement
import JvmDerived.Pilot.@@N@@Code
set_option linter.unusedVariables false
set_option linter.unusedSimpArgs false
namespace Jvm.Pilot.@@N@@
open Jvm Jvm.ClassFile Sem Op Lib Jvm.Free Jvm.Stand Jvm.LawKit Jvm.RoadKit Bundle Jvm.Free.Fl Jvm.Pilot.@@N@@.Jvm.D
/-! the run stands at F in T, and comes to an end that P says -/
def own_Go (p : Program) (e : Env) (below : List Frame) (P : Outcome → State → Prop) (T : State) (F : JFrame) : Prop :=
  ∃ s₂ o, Steps p.tables e below (T.setTop F) s₂ ∧ s₂.status = .running ∧ Ended s₂ below o ∧ P o s₂
theorem own_step {p : Program} {e : Env} {below : List Frame} {P : Outcome → State → Prop} {T T' : State} {F F' : JFrame} (st : ∀ t, Steps p.tables e below (T'.setTop F') t → Steps p.tables e below (T.setTop F) t) (h : own_Go p e below P T' F') : own_Go p e below P T F := by
  obtain ⟨s₂, o, h1, h2⟩ := h
  exact ⟨s₂, o, st _ h1, h2⟩
theorem own_cast {p : Program} {e : Env} {below : List Frame} {P : Outcome → State → Prop} {T : State} {F F' : JFrame} (q : F = F') (h : own_Go p e below P T F') : own_Go p e below P T F := q ▸ h
theorem own_all {p : Program} {e : Env} {below : List Frame} {Q : Outcome → State → Prop} {T : State} {F : JFrame} (h : ∀ P : Outcome → State → Prop, (∀ o U, Q o U → P o U) → own_Go p e below P T F) : own_Go p e below Q T F := h Q fun _ _ q => q
theorem own_gd (cs : List Int32) (i : Nat) : (cs.map Value.int).getD i (.int 0) = .int (cs.getD i 0) := by
  simp only [List.getD_eq_getElem?_getD, List.getElem?_map]
  cases cs[i]? <;> rfl
def own_one : UInt64 := 4607182418800017408
theorem own_isfin {x : UInt64} (h : Fin64 x) : ¬ (0 : Int32) < cmpValue (FP.dcmp (x &&& 0x7fffffffffffffff) (9218868437227405311 : UInt64)) .g := by
  intro hc
  have h1 := (fin64_iff x).mp h
  have e1 := FP.Core.mask_toNat x
  have n1 : FP.Core.val64 (x &&& 0x7fffffffffffffff) ≠ .nan := by rw [FP.Core.ne_nan, e1]; omega
  have n2 : FP.Core.val64 (9218868437227405311 : UInt64) ≠ .nan := by decide +kernel
  rw [cmpV_g] at hc
  rcases (FP.Core.cmpInt_g_gt _).mp hc with q | q
  · have k := (FP.Core.dcmp_gt_key n1 n2).mp q
    have e2 : FP.Core.dkey (9218868437227405311 : UInt64) = 9218868437227405311 := by decide +kernel
    rw [e2] at k
    unfold FP.Core.dkey at k
    rw [e1] at k
    split at k <;> omega
  · rcases (FP.Core.dcmp_none _ _).mp q with r | r
    · exact n1 r
    · exact n2 r
theorem own_nm {x : UInt64} (h : Fin64 x) : NoNaN64 (x &&& 0x7fffffffffffffff) := (abs_fin h).noNaN
/-- max(1, min(4096, scores / 4)) -/
def own_bk (sc : Int32) : Int32 := if (1 : Int32) < (if sc / (4 : Int32) < (4096 : Int32) then sc / (4 : Int32) else (4096 : Int32)) then (if sc / (4 : Int32) < (4096 : Int32) then sc / (4 : Int32) else (4096 : Int32)) else (1 : Int32)
/-- max(0, min(hi, j)) -/
def own_clamp (hi j : Int32) : Int32 := if (0 : Int32) < (if j < hi then j else hi) then (if j < hi then j else hi) else (0 : Int32)
theorem own_clamp_in {hi j z : Int32} (h0 : 0 ≤ hi.toInt) (hz : hi.toInt < z.toInt) : ¬ own_clamp hi j < 0 ∧ own_clamp hi j < z := by
  unfold own_clamp
  simp only [Int32.lt_iff_toInt_lt, show (0 : Int32).toInt = 0 from rfl] at *
  split <;> split <;> (try simp only [show (0 : Int32).toInt = 0 from rfl]) <;> omega
def own_put (cs : List Int32) (i : Int32) : List Int32 := cs.set i.toNatClampNeg (cs.getD i.toNatClampNeg 0 + (1 : Int32))
theorem own_put_len (cs : List Int32) (i : Int32) : (own_put cs i).length = cs.length := List.length_set
theorem own_nat {j z : Int32} {n : Nat} (h0 : ¬ j < 0) (h : j < z) (hl : n = z.toNatClampNeg) : j.toNatClampNeg < n := by
  subst hl
  rw [Int32.lt_iff_toInt_lt] at h0 h
  simp only [Int32.toNatClampNeg, show (0 : Int32).toInt = 0 from rfl] at *
  omega
/-! what the law reckons -/
def own_sum : List Int32 → Int32
  | [] => 0
  | x :: xs => x + own_sum xs
def own_ab (cs : List Int32) (q : Int32) : Int32 := own_sum (cs.drop (q.toNatClampNeg + 1))
theorem own_sum_drop : ∀ (cs : List Int32) (i : Nat), i < cs.length → own_sum (cs.drop i) = cs.getD i 0 + own_sum (cs.drop (i + 1))
  | [], i, h => absurd h (Nat.not_lt_zero _)
  | x :: xs, 0, _ => rfl
  | x :: xs, i + 1, h => by
    have := own_sum_drop xs i (Nat.lt_of_succ_lt_succ h)
    simpa using this
theorem own_sum_set : ∀ (cs : List Int32) (i d : Nat), i < cs.length → own_sum ((cs.set i (cs.getD i 0 + 1)).drop d) = own_sum (cs.drop d) + (if d ≤ i then 1 else 0)
  | [], i, d, h => absurd h (Nat.not_lt_zero _)
  | x :: xs, 0, 0, _ => by show x + 1 + own_sum xs = x + own_sum xs + 1; rw [Int32.add_assoc, Int32.add_comm 1, Int32.add_assoc]
  | x :: xs, 0, d + 1, _ => by show own_sum (xs.drop d) = own_sum (xs.drop d) + (if d + 1 ≤ 0 then 1 else 0); rw [if_neg (by omega)]; simp
  | x :: xs, i + 1, 0, h => by
    have := own_sum_set xs i 0 (Nat.lt_of_succ_lt_succ h)
    show x + own_sum (xs.set i (xs.getD i 0 + 1)) = x + own_sum xs + (if 0 ≤ i + 1 then 1 else 0)
    rw [if_pos (by omega)] at this ⊢
    simp only [List.drop_zero] at this
    rw [this, Int32.add_assoc]
  | x :: xs, i + 1, d + 1, h => by
    have := own_sum_set xs i d (Nat.lt_of_succ_lt_succ h)
    show own_sum ((xs.set i (xs.getD i 0 + 1)).drop d) = own_sum (xs.drop d) + (if d + 1 ≤ i + 1 then 1 else 0)
    rw [this]; simp
theorem own_sum_rep : ∀ (n d : Nat), own_sum ((List.replicate n (0 : Int32)).drop d) = 0
  | 0, d => by simp [own_sum]
  | n + 1, 0 => by have := own_sum_rep n 0; simp only [List.drop_zero] at this ⊢; show 0 + own_sum (List.replicate n 0) = 0; rw [this]; rfl
  | n + 1, d + 1 => by have := own_sum_rep n d; simpa [List.replicate_succ] using this
theorem own_ab_set {cs : List Int32} {i q : Int32} (h : i.toNatClampNeg < cs.length) (hi : ¬ i < 0) (hq : ¬ q < 0) : own_ab (own_put cs i) q = own_ab cs q + (if q < i then 1 else 0) := by
  unfold own_ab own_put
  rw [own_sum_set _ _ _ h]
  have e : (q.toNatClampNeg + 1 ≤ i.toNatClampNeg) ↔ q < i := by
    rw [Int32.lt_iff_toInt_lt] at hi hq ⊢
    simp only [Int32.toNatClampNeg, show (0 : Int32).toInt = 0 from rfl] at *
    omega
  simp only [e]
theorem own_j1 {j z : Int32} (h0 : ¬ j < 0) (h : j < z) : (j + (1 : Int32)).toNatClampNeg = j.toNatClampNeg + 1 ∧ ¬ (j + (1 : Int32)) < 0 := by
  have q := c_iadd j 1; have r := rng32 (j + 1); have r2 := rng32 z
  rw [Int32.lt_iff_toInt_lt] at h0 h ⊢
  simp only [Int32.toNatClampNeg, show (0 : Int32).toInt = 0 from rfl, show (1 : Int32).toInt = 1 from rfl] at *
  omega
theorem own_lt_of {j z : Int32} {k : Nat} (h0 : ¬ j < 0) (h : z.toNatClampNeg = j.toNatClampNeg + (k + 1)) : j < z := by
  rw [Int32.lt_iff_toInt_lt] at h0 ⊢
  simp only [Int32.toNatClampNeg, show (0 : Int32).toInt = 0 from rfl] at *
  omega
theorem own_nlt_of {j z : Int32} (h0 : ¬ j < 0) (h : z.toNatClampNeg = j.toNatClampNeg + 0) : ¬ j < z := by
  rw [Int32.lt_iff_toInt_lt] at h0 ⊢
  simp only [Int32.toNatClampNeg, show (0 : Int32).toInt = 0 from rfl] at *
  omega
theorem own_le_of {j z : Int32} (h0 : ¬ j < 0) (h : j < z) : z.toNatClampNeg = (j + (1 : Int32)).toNatClampNeg + (z.toNatClampNeg - (j + (1 : Int32)).toNatClampNeg) := by
  have := (own_j1 h0 h).1
  rw [Int32.lt_iff_toInt_lt] at h0 h
  simp only [Int32.toNatClampNeg, show (0 : Int32).toInt = 0 from rfl] at *
  omega
/-! the doubles: few enough to be reckoned each -/
def own_B (sc : Int32) : Int32 := if (1 : Int32) < sc / (4 : Int32) then sc / (4 : Int32) else (1 : Int32)
def own_ok (lw sc : Int32) : Prop := (0 : Int32) < cmpValue (FP.dcmp (FP.i2d (lw + own_B sc)) (FP.i2d lw)) .l ∧ Fin64 (FP.dsub (FP.i2d (lw + own_B sc)) (FP.i2d lw)) ∧ own_bk sc = own_B sc ∧ FP.ddiv (FP.i2d (own_B sc)) (FP.dsub (FP.i2d (lw + own_B sc)) (FP.i2d lw)) = own_one ∧ 1 ≤ (own_B sc).toInt ∧ (own_B sc).toInt ≤ 4
theorem own_oktab : ∀ i j : Fin 16, own_ok (Int32.ofInt ((i.1 : Int) - 8)) (Int32.ofInt (j.1 : Int)) := by unfold own_ok Fin64; decide +kernel
theorem own_sctab : ∀ i j : Fin 16, FP.d2i (FP.dmul (FP.dsub (FP.dadd (FP.i2d (Int32.ofInt ((i.1 : Int) - 8))) (FP.ddiv (FP.i2d (Int32.ofInt ((j.1 : Int) - 4))) (4611686018427387904 : UInt64))) (FP.i2d (Int32.ofInt ((i.1 : Int) - 8)))) own_one) = Int32.ofInt ((j.1 : Int) - 4) / 2 ∧ NoNaN64 (FP.ddiv (FP.i2d (Int32.ofInt ((j.1 : Int) - 4))) (4611686018427387904 : UInt64)) ∧ NoNaN64 (FP.dadd (FP.i2d (Int32.ofInt ((i.1 : Int) - 8))) (FP.ddiv (FP.i2d (Int32.ofInt ((j.1 : Int) - 4))) (4611686018427387904 : UInt64))) ∧ NoNaN64 (FP.dsub (FP.dadd (FP.i2d (Int32.ofInt ((i.1 : Int) - 8))) (FP.ddiv (FP.i2d (Int32.ofInt ((j.1 : Int) - 4))) (4611686018427387904 : UInt64))) (FP.i2d (Int32.ofInt ((i.1 : Int) - 8)))) ∧ NoNaN64 (FP.dmul (FP.dsub (FP.dadd (FP.i2d (Int32.ofInt ((i.1 : Int) - 8))) (FP.ddiv (FP.i2d (Int32.ofInt ((j.1 : Int) - 4))) (4611686018427387904 : UInt64))) (FP.i2d (Int32.ofInt ((i.1 : Int) - 8)))) own_one) := by unfold NoNaN64; decide +kernel
def own_low (lw : Int32) : Prop := ∃ i : Fin 16, lw = Int32.ofInt ((i.1 : Int) - 8)
theorem own_m15 (p : Int32) : ∃ k : Fin 16, p &&& 15 = Int32.ofInt (k.1 : Int) := by
  have e := c_mask p 15 4 (by decide) (by decide)
  have h0 : 0 ≤ (p &&& 15).toInt := by rw [e]; exact Int.emod_nonneg _ (by decide)
  have h1 : (p &&& 15).toInt < 16 := by rw [e]; exact Int.emod_lt_of_pos _ (by decide)
  refine ⟨⟨(p &&& 15).toInt.toNat, by omega⟩, ?_⟩
  show p &&& 15 = Int32.ofInt (((p &&& 15).toInt.toNat : Nat) : Int)
  rw [Int.toNat_of_nonneg h0, Int32.ofInt_toInt]
theorem own_subtab : ∀ k : Fin 16, Int32.ofInt (k.1 : Int) - 8 = Int32.ofInt ((k.1 : Int) - 8) ∧ Int32.ofInt (k.1 : Int) - 4 = Int32.ofInt ((k.1 : Int) - 4) := by decide +kernel
theorem own_lw (p : Int32) : own_low ((p &&& (15 : Int32)) - (8 : Int32)) := by
  obtain ⟨k, hk⟩ := own_m15 p
  exact ⟨k, by rw [hk]; exact (own_subtab k).1⟩
theorem own_start (p r : Int32) : own_ok ((r &&& (15 : Int32)) - (8 : Int32)) (p &&& (15 : Int32)) := by
  obtain ⟨i, hi⟩ := own_lw r
  obtain ⟨j, hj⟩ := own_m15 p
  rw [hi, hj]; exact own_oktab i j
def own_sco (lw d : Int32) : UInt64 := FP.dadd (FP.i2d lw) (FP.ddiv (FP.i2d d) (4611686018427387904 : UInt64))
theorem own_sc {lw : Int32} (h : own_low lw) (p : Int32) : FP.d2i (FP.dmul (FP.dsub (own_sco lw ((p &&& (15 : Int32)) - (4 : Int32))) (FP.i2d lw)) own_one) = ((p &&& (15 : Int32)) - (4 : Int32)) / (2 : Int32) ∧ NoNaN64 (FP.ddiv (FP.i2d ((p &&& (15 : Int32)) - (4 : Int32))) (4611686018427387904 : UInt64)) ∧ NoNaN64 (own_sco lw ((p &&& (15 : Int32)) - (4 : Int32))) ∧ NoNaN64 (FP.dsub (own_sco lw ((p &&& (15 : Int32)) - (4 : Int32))) (FP.i2d lw)) ∧ NoNaN64 (FP.dmul (FP.dsub (own_sco lw ((p &&& (15 : Int32)) - (4 : Int32))) (FP.i2d lw)) own_one) := by
  obtain ⟨i, rfl⟩ := h
  obtain ⟨j, hj⟩ := own_m15 p
  rw [hj, (own_subtab j).2]; exact own_sctab i j
theorem own_b1 {b : Int32} (h : 1 ≤ b.toInt ∧ b.toInt ≤ 4) : b + (1 : Int32) - (1 : Int32) = b := by simp
theorem own_cl {b j : Int32} (h : 1 ≤ b.toInt ∧ b.toInt ≤ 4) : ¬ own_clamp b j < 0 ∧ own_clamp b j < b + (1 : Int32) := own_clamp_in (by omega) (by have := c_iadd b 1; have := rng32 (b + 1); rw [show (1 : Int32).toInt = 1 from rfl] at *; omega)
theorem ef_6 (m : MethodId) (x0 : Int32) (x1 : Int32) : entryFrame m #[(.int x0), (.int x1)] 2 = mkF m 0 #[.val (.int x0), .val (.int x1)] [] := by first | (simp [entryFrame, mkF, argsToLocals, Value.category]; done) | rfl
theorem d6_0 : decode jdk_29_method_69_code 0 = .ok (.iload_n 0, 1) := by decide +kernel
theorem d6_1 : decode jdk_29_method_69_code 1 = .ok (.iload_n 1, 1) := by decide +kernel
theorem d6_2 : decode jdk_29_method_69_code 2 = .ok (.if_icmp .gt 7, 3) := by decide +kernel
theorem d6_9 : decode jdk_29_method_69_code 9 = .ok (.iload_n 1, 1) := by decide +kernel
theorem d6_10 : decode jdk_29_method_69_code 10 = .ok (.ireturn, 1) := by decide +kernel
theorem d6_5 : decode jdk_29_method_69_code 5 = .ok (.iload_n 0, 1) := by decide +kernel
theorem d6_6 : decode jdk_29_method_69_code 6 = .ok (.goto 4, 3) := by decide +kernel
def Q6 (Z : State) (p0 : Int32) (p1 : Int32) (h0 : Heap) (n0 : Nat) (v : Option Value) (h : Heap) (L : List Loc) : Prop := v = some (.int (if p1 < p0 then p1 else p0)) ∧ Fr n0 L ∧ h = h0
set_option maxRecDepth 65536 in
set_option maxHeartbeats 40000000 in
theorem rm6 (l : Launch) (Z : State) (a0 : Array Value) (hw : ∀ d ∈ tables_1, d.before a0 Z = true) (ws : List Jvm.Cond) (p0 : Int32) (p1 : Int32) (h0 : Heap) (n0 : Nat) (Z0 : n0 ≤ h0.size) :
    MetFree l (⟨"java/lang/Math", "min", "(II)I"⟩ : MethodName) (head1 (Jvm.Cond.code (⟨"java/lang/Math", "min", "(II)I"⟩ : MethodName) jdk_29_method_69_code 2 (some .int) :: ws) ({ frames := 0, cells := 0, slots := 0, locals := 0 } : Room)) (fun a U => a = #[(.int p0), (.int p1)] ∧ Z.Warmed39 U.vm ∧ U.heap = h0) (fun _ _ _ _ _ => True) (fun _ U o U' => ∃ v L, o = .returned v ∧ Q6 Z p0 p1 h0 n0 v U'.heap L ∧ FrameEnd U o U' L ({ frames := 0, cells := 0, slots := 0, locals := 0 } : Room).cells ({ frames := 0, cells := 0, slots := 0, locals := 0 } : Room).slots) := by
  refine MetFree.of_bodySF (Jvm.Free.JP.mathPlain rfl (by decide +kernel)) hisR ?_
  intro p e s m args below meth c s₁ Bd hml0 hP hK
  obtain ⟨rfl, hZ, hh⟩ := hP
  have hx := Bd.exec
  have hby := Bd.bytes
  have hml : c.maxLocals = 2 := hml0
  have hown : s.vm.findClass "java/lang/Math" = some m.cls := findClass_of_methodNamed Bd.named
  have hnm := (name_of_methodNamed Bd.named Bd.method).1
  have X0 : Stand p l e ({ frames := 0, cells := 0, slots := 0, locals := 0 } : Room) s m #[(.int p0), (.int p1)] below meth c s₁ [] 0 0 := Stand.of_body Bd
  have e0 : s₁.heap = h0 := by rw [← hh, Bd.state]; rfl
  have N0 := Fr.nil n0
  refine own_all ?_
  intro P hfin
  refine own_cast (ef_6 m p0 p1) ?_
  show own_Go p e below P s₁ (mkF m 0 #[.val (.int p0), .val (.int p1)] [])
  refine own_step (fun _ k => XS.iloadN X0.here hx rfl (hb hby d6_0) rfl k) ?_
  show own_Go p e below P s₁ (mkF m 1 #[.val (.int p0), .val (.int p1)] [(.int p0)])
  refine own_step (fun _ k => XS.iloadN X0.here hx rfl (hb hby d6_1) rfl k) ?_
  show own_Go p e below P s₁ (mkF m 2 #[.val (.int p0), .val (.int p1)] [(.int p1), (.int p0)])
  by_cases hc1 : p1 < p0
  · refine own_step (fun _ k => XS.icmpYes X0.here hx rfl (pc0 := 2) (pc' := 9) rfl (hb hby d6_2) rfl (tlt hc1).2.2.1 (by decide) (by decide) k) ?_
    show own_Go p e below P s₁ (mkF m 9 #[.val (.int p0), .val (.int p1)] [])
    refine own_step (fun _ k => XS.iloadN X0.here hx rfl (hb hby d6_9) rfl k) ?_
    show own_Go p e below P s₁ (mkF m 10 #[.val (.int p0), .val (.int p1)] [(.int p1)])
    obtain ⟨fs, hr, hrun, hended, hW, hsame⟩ := X0.leave (v := some (.int p1)) (fun h => by rw [Bd.returns] at h; cases h)
    refine ⟨_, _, retOut X0 hx (t := .int) Bd.returns rfl (Or.inl ⟨rfl, Or.inl rfl, _, rfl⟩) (hb hby d6_10) hr, hrun, hended, hfin _ _ ⟨_, _, rfl, ?_, ⟨_, rfl⟩, hW, hsame.mono (by decide) (by decide)⟩⟩
    show Q6 Z p0 p1 h0 n0 (some (.int p1)) s₁.heap _
    rw [e0]
    exact ⟨(congrArg (fun z => some (Value.int z)) (if_pos hc1).symm), N0, rfl⟩
  · refine own_step (fun _ k => XS.icmpNo X0.here hx rfl (hb hby d6_2) rfl (flt hc1).2.2.1 k) ?_
    show own_Go p e below P s₁ (mkF m 5 #[.val (.int p0), .val (.int p1)] [])
    refine own_step (fun _ k => XS.iloadN X0.here hx rfl (hb hby d6_5) rfl k) ?_
    show own_Go p e below P s₁ (mkF m 6 #[.val (.int p0), .val (.int p1)] [(.int p0)])
    refine own_step (fun _ k => XS.goto X0.here hx rfl (pc0 := 6) (pc' := 10) rfl (hb hby d6_6) (by decide) (by decide) k) ?_
    show own_Go p e below P s₁ (mkF m 10 #[.val (.int p0), .val (.int p1)] [(.int p0)])
    obtain ⟨fs, hr, hrun, hended, hW, hsame⟩ := X0.leave (v := some (.int p0)) (fun h => by rw [Bd.returns] at h; cases h)
    refine ⟨_, _, retOut X0 hx (t := .int) Bd.returns rfl (Or.inl ⟨rfl, Or.inl rfl, _, rfl⟩) (hb hby d6_10) hr, hrun, hended, hfin _ _ ⟨_, _, rfl, ?_, ⟨_, rfl⟩, hW, hsame.mono (by decide) (by decide)⟩⟩
    show Q6 Z p0 p1 h0 n0 (some (.int p0)) s₁.heap _
    rw [e0]
    exact ⟨(congrArg (fun z => some (Value.int z)) (if_neg hc1).symm), N0, rfl⟩
theorem ef_1 (m : MethodId) (x0 : Int32) (x1 : Int32) : entryFrame m #[(.int x0), (.int x1)] 2 = mkF m 0 #[.val (.int x0), .val (.int x1)] [] := by first | (simp [entryFrame, mkF, argsToLocals, Value.category]; done) | rfl
theorem d1_0 : decode jdk_29_method_65_code 0 = .ok (.iload_n 0, 1) := by decide +kernel
theorem d1_1 : decode jdk_29_method_65_code 1 = .ok (.iload_n 1, 1) := by decide +kernel
theorem d1_2 : decode jdk_29_method_65_code 2 = .ok (.if_icmp .lt 7, 3) := by decide +kernel
theorem d1_9 : decode jdk_29_method_65_code 9 = .ok (.iload_n 1, 1) := by decide +kernel
theorem d1_10 : decode jdk_29_method_65_code 10 = .ok (.ireturn, 1) := by decide +kernel
theorem d1_5 : decode jdk_29_method_65_code 5 = .ok (.iload_n 0, 1) := by decide +kernel
theorem d1_6 : decode jdk_29_method_65_code 6 = .ok (.goto 4, 3) := by decide +kernel
def Q1 (Z : State) (p0 : Int32) (p1 : Int32) (h0 : Heap) (n0 : Nat) (v : Option Value) (h : Heap) (L : List Loc) : Prop := v = some (.int (if p0 < p1 then p1 else p0)) ∧ Fr n0 L ∧ h = h0
set_option maxRecDepth 65536 in
set_option maxHeartbeats 40000000 in
theorem rm1 (l : Launch) (Z : State) (a0 : Array Value) (hw : ∀ d ∈ tables_1, d.before a0 Z = true) (ws : List Jvm.Cond) (p0 : Int32) (p1 : Int32) (h0 : Heap) (n0 : Nat) (Z0 : n0 ≤ h0.size) :
    MetFree l (⟨"java/lang/Math", "max", "(II)I"⟩ : MethodName) (head1 (Jvm.Cond.code (⟨"java/lang/Math", "max", "(II)I"⟩ : MethodName) jdk_29_method_65_code 2 (some .int) :: ws) ({ frames := 0, cells := 0, slots := 0, locals := 0 } : Room)) (fun a U => a = #[(.int p0), (.int p1)] ∧ Z.Warmed39 U.vm ∧ U.heap = h0) (fun _ _ _ _ _ => True) (fun _ U o U' => ∃ v L, o = .returned v ∧ Q1 Z p0 p1 h0 n0 v U'.heap L ∧ FrameEnd U o U' L ({ frames := 0, cells := 0, slots := 0, locals := 0 } : Room).cells ({ frames := 0, cells := 0, slots := 0, locals := 0 } : Room).slots) := by
  refine MetFree.of_bodySF (Jvm.Free.JP.mathPlain rfl (by decide +kernel)) hisR ?_
  intro p e s m args below meth c s₁ Bd hml0 hP hK
  obtain ⟨rfl, hZ, hh⟩ := hP
  have hx := Bd.exec
  have hby := Bd.bytes
  have hml : c.maxLocals = 2 := hml0
  have hown : s.vm.findClass "java/lang/Math" = some m.cls := findClass_of_methodNamed Bd.named
  have hnm := (name_of_methodNamed Bd.named Bd.method).1
  have X0 : Stand p l e ({ frames := 0, cells := 0, slots := 0, locals := 0 } : Room) s m #[(.int p0), (.int p1)] below meth c s₁ [] 0 0 := Stand.of_body Bd
  have e0 : s₁.heap = h0 := by rw [← hh, Bd.state]; rfl
  have N0 := Fr.nil n0
  refine own_all ?_
  intro P hfin
  refine own_cast (ef_1 m p0 p1) ?_
  show own_Go p e below P s₁ (mkF m 0 #[.val (.int p0), .val (.int p1)] [])
  refine own_step (fun _ k => XS.iloadN X0.here hx rfl (hb hby d1_0) rfl k) ?_
  show own_Go p e below P s₁ (mkF m 1 #[.val (.int p0), .val (.int p1)] [(.int p0)])
  refine own_step (fun _ k => XS.iloadN X0.here hx rfl (hb hby d1_1) rfl k) ?_
  show own_Go p e below P s₁ (mkF m 2 #[.val (.int p0), .val (.int p1)] [(.int p1), (.int p0)])
  by_cases hc1 : p0 < p1
  · refine own_step (fun _ k => XS.icmpYes X0.here hx rfl (pc0 := 2) (pc' := 9) rfl (hb hby d1_2) rfl (tlt hc1).1 (by decide) (by decide) k) ?_
    show own_Go p e below P s₁ (mkF m 9 #[.val (.int p0), .val (.int p1)] [])
    refine own_step (fun _ k => XS.iloadN X0.here hx rfl (hb hby d1_9) rfl k) ?_
    show own_Go p e below P s₁ (mkF m 10 #[.val (.int p0), .val (.int p1)] [(.int p1)])
    obtain ⟨fs, hr, hrun, hended, hW, hsame⟩ := X0.leave (v := some (.int p1)) (fun h => by rw [Bd.returns] at h; cases h)
    refine ⟨_, _, retOut X0 hx (t := .int) Bd.returns rfl (Or.inl ⟨rfl, Or.inl rfl, _, rfl⟩) (hb hby d1_10) hr, hrun, hended, hfin _ _ ⟨_, _, rfl, ?_, ⟨_, rfl⟩, hW, hsame.mono (by decide) (by decide)⟩⟩
    show Q1 Z p0 p1 h0 n0 (some (.int p1)) s₁.heap _
    rw [e0]
    exact ⟨(congrArg (fun z => some (Value.int z)) (if_pos hc1).symm), N0, rfl⟩
  · refine own_step (fun _ k => XS.icmpNo X0.here hx rfl (hb hby d1_2) rfl (flt hc1).1 k) ?_
    show own_Go p e below P s₁ (mkF m 5 #[.val (.int p0), .val (.int p1)] [])
    refine own_step (fun _ k => XS.iloadN X0.here hx rfl (hb hby d1_5) rfl k) ?_
    show own_Go p e below P s₁ (mkF m 6 #[.val (.int p0), .val (.int p1)] [(.int p0)])
    refine own_step (fun _ k => XS.goto X0.here hx rfl (pc0 := 6) (pc' := 10) rfl (hb hby d1_6) (by decide) (by decide) k) ?_
    show own_Go p e below P s₁ (mkF m 10 #[.val (.int p0), .val (.int p1)] [(.int p0)])
    obtain ⟨fs, hr, hrun, hended, hW, hsame⟩ := X0.leave (v := some (.int p0)) (fun h => by rw [Bd.returns] at h; cases h)
    refine ⟨_, _, retOut X0 hx (t := .int) Bd.returns rfl (Or.inl ⟨rfl, Or.inl rfl, _, rfl⟩) (hb hby d1_10) hr, hrun, hended, hfin _ _ ⟨_, _, rfl, ?_, ⟨_, rfl⟩, hW, hsame.mono (by decide) (by decide)⟩⟩
    show Q1 Z p0 p1 h0 n0 (some (.int p0)) s₁.heap _
    rw [e0]
    exact ⟨(congrArg (fun z => some (Value.int z)) (if_neg hc1).symm), N0, rfl⟩
theorem ef_4 (m : MethodId) (x0 : UInt64) : entryFrame m #[(.double x0)] 2 = mkF m 0 #[.val (.double x0), .second] [] := by first | (simp [entryFrame, mkF, argsToLocals, Value.category]; done) | rfl
theorem pn_java_lang_Double : plainName "java/lang/Double" = true := by first | (simp [plainName, overriddenIn]; done) | decide +kernel
theorem d4_0 : decode jdk_117_method_8_code 0 = .ok (.dload_n 0, 1) := by decide +kernel
theorem pd__D__D : parseMethodDescriptor "(D)D" = some ⟨[.double], some .double⟩ := by decide +kernel
theorem d4_1 : decode jdk_117_method_8_code 1 = .ok (.invokestatic 38, 3) := by decide +kernel
theorem d4_4 : decode jdk_117_method_8_code 4 = .ok (.ldc2_w 111, 3) := by decide +kernel
theorem d4_7 : decode jdk_117_method_8_code 7 = .ok (.dcmp .g, 1) := by decide +kernel
theorem d4_8 : decode jdk_117_method_8_code 8 = .ok (.ifCond .gt 7, 3) := by decide +kernel
theorem d4_11 : decode jdk_117_method_8_code 11 = .ok (.iconst 1, 1) := by decide +kernel
theorem d4_12 : decode jdk_117_method_8_code 12 = .ok (.goto 4, 3) := by decide +kernel
theorem d4_16 : decode jdk_117_method_8_code 16 = .ok (.ireturn, 1) := by decide +kernel
def Q4 (Z : State) (x0 : UInt64) (h0 : Heap) (n0 : Nat) (v : Option Value) (h : Heap) (L : List Loc) : Prop := v = some (.int (1 : Int32)) ∧ Fr n0 L ∧ h = h0
set_option maxRecDepth 65536 in
set_option maxHeartbeats 40000000 in
theorem rm4 (l : Launch) (Z : State) (a0 : Array Value) (hw : ∀ d ∈ tables_1, d.before a0 Z = true) (ws : List Jvm.Cond) (x0 : UInt64) (h0 : Heap) (n0 : Nat) (Z0 : n0 ≤ h0.size) (hf : Fin64 x0) :
    MetFree l (⟨"java/lang/Double", "isFinite", "(D)Z"⟩ : MethodName) (head1 (Jvm.Cond.code (⟨"java/lang/Double", "isFinite", "(D)Z"⟩ : MethodName) jdk_117_method_8_code 2 (some .boolean) :: ws) ({ frames := 1, cells := 0, slots := 0, locals := 13 } : Room)) (fun a U => a = #[(.double x0)] ∧ Z.Warmed39 U.vm ∧ U.heap = h0) (fun _ _ _ _ _ => True) (fun _ U o U' => ∃ v L, o = .returned v ∧ Q4 Z x0 h0 n0 v U'.heap L ∧ FrameEnd U o U' L ({ frames := 1, cells := 0, slots := 0, locals := 13 } : Room).cells ({ frames := 1, cells := 0, slots := 0, locals := 13 } : Room).slots) := by
  refine MetFree.of_bodySF (plainFor_of_name pn_java_lang_Double) hisR ?_
  intro p e s m args below meth c s₁ Bd hml0 hP hK
  obtain ⟨rfl, hZ, hh⟩ := hP
  have hx := Bd.exec
  have hby := Bd.bytes
  have hml : c.maxLocals = 2 := hml0
  have hown : s.vm.findClass "java/lang/Double" = some m.cls := findClass_of_methodNamed Bd.named
  have hnm := (name_of_methodNamed Bd.named Bd.method).1
  have X0 : Stand p l e ({ frames := 1, cells := 0, slots := 0, locals := 13 } : Room) s m #[(.double x0)] below meth c s₁ [] 0 0 := Stand.of_body Bd
  have e0 : s₁.heap = h0 := by rw [← hh, Bd.state]; rfl
  have N0 := Fr.nil n0
  refine own_all ?_
  intro P hfin
  refine own_cast (ef_4 m x0) ?_
  show own_Go p e below P s₁ (mkF m 0 #[.val (.double x0), .second] [])
  refine own_step (fun _ k => XS.dloadN X0.here hx rfl (hb hby d4_0) rfl k) ?_
  show own_Go p e below P s₁ (mkF m 1 #[.val (.double x0), .second] [(.double x0)])
  obtain ⟨T1, X1, e1, st1⟩ := natS X0 hx hZ (y := (⟨"java/lang/Math", "abs", "(D)D"⟩ : MethodName)) hown (hw _ (List.mem_of_getElem? (i := 17) rfl)) (hw _ (List.mem_of_getElem? (i := 18) rfl)) (hw _ (List.mem_of_getElem? (i := 2) rfl)) (hw _ (List.mem_of_getElem? (i := 19) rfl)) (by decide) e0 (W := 0) (fun c4 => Jvm.Free.Fl.Abs.absD_pays x0 c4 (by decide) (by decide)) (g := (mkF m 1 #[.val (.double x0), .second] [(.double x0)])) rfl (by rw [hml]; rfl) (argsL := [(.double x0)]) (rest := []) (lenOf pd__D__D rfl) rfl (by show 2 * 0 + _ ≤ _; exact Nat.le_of_eq rfl) (hb hby d4_1) (by decide) (by decide) ⟨rfl, hf.noNaN⟩ rfl
  refine own_step st1 ?_
  show own_Go p e below P T1 (mkF m 4 #[.val (.double x0), .second] [(.double (x0 &&& 0x7fffffffffffffff))])
  refine own_step (fun t k => X1.ldc2DoubleC hx hown (mvT hZ (hw _ (List.mem_of_getElem? (i := 20) rfl))) (g := (mkF m 4 #[.val (.double x0), .second] [(.double (x0 &&& 0x7fffffffffffffff))])) rfl (hb hby d4_4) t k) ?_
  show own_Go p e below P T1 (mkF m 7 #[.val (.double x0), .second] [(.double (9218868437227405311 : UInt64)), (.double (x0 &&& 0x7fffffffffffffff))])
  refine own_step (fun _ k => XS.dcmpS X1.here hx rfl (hb hby d4_7) rfl rfl k) ?_
  show own_Go p e below P T1 (mkF m 8 #[.val (.double x0), .second] [(.int (cmpValue (FP.dcmp (x0 &&& 0x7fffffffffffffff) (9218868437227405311 : UInt64)) .g))])
  refine own_step (fun _ k => XS.ifNo X1.here hx rfl (hb hby d4_8) rfl ((if0 _ _).trans (flt (own_isfin hf)).2.2.1) k) ?_
  show own_Go p e below P T1 (mkF m 11 #[.val (.double x0), .second] [])
  refine own_step (fun _ k => XS.iconst X1.here hx rfl (hb hby d4_11) k) ?_
  show own_Go p e below P T1 (mkF m 12 #[.val (.double x0), .second] [(.int (1 : Int32))])
  refine own_step (fun _ k => XS.goto X1.here hx rfl (pc0 := 12) (pc' := 16) rfl (hb hby d4_12) (by decide) (by decide) k) ?_
  show own_Go p e below P T1 (mkF m 16 #[.val (.double x0), .second] [(.int (1 : Int32))])
  obtain ⟨fs, hr, hrun, hended, hW, hsame⟩ := X1.leave (v := some (.int (1 : Int32))) (fun h => by rw [Bd.returns] at h; cases h)
  refine ⟨_, _, retN X1 hx (t := .boolean) Bd.returns (by simp) (hb hby d4_16) hr, hrun, hended, hfin _ _ ⟨_, _, rfl, ?_, ⟨_, rfl⟩, hW, hsame.mono (by decide) (by decide)⟩⟩
  show Q4 Z x0 h0 n0 (some (.int (1 : Int32))) T1.heap _
  rw [e1]
  exact ⟨rfl, N0, rfl⟩
theorem own_bb {b : Int32} (h : 1 ≤ b.toInt ∧ b.toInt ≤ 4) : ¬ b + (1 : Int32) < 0 ∧ (b + (1 : Int32)).toNatClampNeg ≤ 5 ∧ (b + (1 : Int32)).toInt = b.toInt + 1 ∧ (b + (1 : Int32)).toNatClampNeg = b.toNatClampNeg + 1 := by
  have q := c_iadd b 1; have r := rng32 (b + 1)
  rw [show (1 : Int32).toInt = 1 from rfl] at q
  have e : (b + (1 : Int32)).toInt = b.toInt + 1 := by omega
  have t1 : (b + (1 : Int32)).toNatClampNeg = (b + (1 : Int32)).toInt.toNat := rfl
  have t2 : b.toNatClampNeg = b.toInt.toNat := rfl
  have t0 : (0 : Int32).toInt = 0 := rfl
  refine ⟨fun hc => ?_, ?_, e, ?_⟩
  · rw [Int32.lt_iff_toInt_lt] at hc; omega
  · omega
  · omega
theorem ef_2 (m : MethodId) (x0 : Addr) (x1 : UInt64) (x2 : UInt64) (x3 : Int32) : entryFrame m #[(.ref x0), (.double x1), (.double x2), (.int x3)] 7 = mkF m 0 #[.val (.ref x0), .val (.double x1), .second, .val (.double x2), .second, .val (.int x3), .unset] [] := by first | (simp [entryFrame, mkF, argsToLocals, Value.category]; done) | rfl
theorem pn_com_example_bron_bron_trec_ScoreHistogram : plainName "com/example/bron/bron/trec/ScoreHistogram" = true := by first | (simp [plainName, overriddenIn]; done) | decide +kernel
theorem d2_0 : decode prog_23_method_1_code 0 = .ok (.aload_n 0, 1) := by decide +kernel
theorem d2_1 : decode prog_23_method_1_code 1 = .ok (.invokespecial 1, 3) := by decide +kernel
theorem d2_4 : decode prog_23_method_1_code 4 = .ok (.dload_n 3, 1) := by decide +kernel
theorem d2_5 : decode prog_23_method_1_code 5 = .ok (.dload_n 1, 1) := by decide +kernel
theorem d2_6 : decode prog_23_method_1_code 6 = .ok (.dcmp .l, 1) := by decide +kernel
theorem d2_7 : decode prog_23_method_1_code 7 = .ok (.ifCond .le 12, 3) := by decide +kernel
theorem d2_10 : decode prog_23_method_1_code 10 = .ok (.dload_n 3, 1) := by decide +kernel
theorem d2_11 : decode prog_23_method_1_code 11 = .ok (.dload_n 1, 1) := by decide +kernel
theorem d2_12 : decode prog_23_method_1_code 12 = .ok (.dsub, 1) := by decide +kernel
theorem pd__D__Z : parseMethodDescriptor "(D)Z" = some ⟨[.double], some .boolean⟩ := by decide +kernel
theorem d2_13 : decode prog_23_method_1_code 13 = .ok (.invokestatic 7, 3) := by decide +kernel
theorem d2_16 : decode prog_23_method_1_code 16 = .ok (.ifCond .ne 13, 3) := by decide +kernel
theorem d2_29 : decode prog_23_method_1_code 29 = .ok (.iconst 1, 1) := by decide +kernel
theorem d2_30 : decode prog_23_method_1_code 30 = .ok (.sipush 4096, 3) := by decide +kernel
theorem d2_33 : decode prog_23_method_1_code 33 = .ok (.iload 5, 2) := by decide +kernel
theorem d2_35 : decode prog_23_method_1_code 35 = .ok (.iconst 4, 1) := by decide +kernel
theorem d2_36 : decode prog_23_method_1_code 36 = .ok (.idiv, 1) := by decide +kernel
theorem pd__II__I : parseMethodDescriptor "(II)I" = some ⟨[.int, .int], some .int⟩ := by decide +kernel
theorem d2_37 : decode prog_23_method_1_code 37 = .ok (.invokestatic 22, 3) := by decide +kernel
theorem d2_40 : decode prog_23_method_1_code 40 = .ok (.invokestatic 28, 3) := by decide +kernel
theorem d2_43 : decode prog_23_method_1_code 43 = .ok (.istore 6, 2) := by decide +kernel
theorem d2_45 : decode prog_23_method_1_code 45 = .ok (.aload_n 0, 1) := by decide +kernel
theorem d2_46 : decode prog_23_method_1_code 46 = .ok (.dload_n 1, 1) := by decide +kernel
theorem d2_47 : decode prog_23_method_1_code 47 = .ok (.putfield 31, 3) := by decide +kernel
theorem d2_50 : decode prog_23_method_1_code 50 = .ok (.aload_n 0, 1) := by decide +kernel
theorem d2_51 : decode prog_23_method_1_code 51 = .ok (.iload 6, 2) := by decide +kernel
theorem d2_53 : decode prog_23_method_1_code 53 = .ok (.i2d, 1) := by decide +kernel
theorem d2_54 : decode prog_23_method_1_code 54 = .ok (.dload_n 3, 1) := by decide +kernel
theorem d2_55 : decode prog_23_method_1_code 55 = .ok (.dload_n 1, 1) := by decide +kernel
theorem d2_56 : decode prog_23_method_1_code 56 = .ok (.dsub, 1) := by decide +kernel
theorem d2_57 : decode prog_23_method_1_code 57 = .ok (.ddiv, 1) := by decide +kernel
theorem d2_58 : decode prog_23_method_1_code 58 = .ok (.putfield 35, 3) := by decide +kernel
theorem d2_61 : decode prog_23_method_1_code 61 = .ok (.aload_n 0, 1) := by decide +kernel
theorem d2_62 : decode prog_23_method_1_code 62 = .ok (.iload 6, 2) := by decide +kernel
theorem d2_64 : decode prog_23_method_1_code 64 = .ok (.iconst 1, 1) := by decide +kernel
theorem d2_65 : decode prog_23_method_1_code 65 = .ok (.iadd, 1) := by decide +kernel
theorem d2_66 : decode prog_23_method_1_code 66 = .ok (.newarray .int, 2) := by decide +kernel
theorem d2_68 : decode prog_23_method_1_code 68 = .ok (.putfield 38, 3) := by decide +kernel
theorem d2_71 : decode prog_23_method_1_code 71 = .ok (.return_, 1) := by decide +kernel
def Q2 (Z : State) (ob : Addr) (x0 : UInt64) (x1 : UInt64) (sc : Int32) (bb : Int32) (h0 : Heap) (n0 : Nat) (v : Option Value) (h : Heap) (L : List Loc) : Prop := v = none ∧ Fr n0 L ∧ Keep h0 h [ob] ∧ Exa Z h ob "com/example/bron/bron/trec/ScoreHistogram" ∧ Fld Z h ob "com/example/bron/bron/trec/ScoreHistogram" "lowest" "D" (.double x0) ∧ Fld Z h ob "com/example/bron/bron/trec/ScoreHistogram" "scale" "D" (.double own_one) ∧ ∃ (ar : Addr) (kc : ClassId), h0.size ≤ ar ∧ Fld Z h ob "com/example/bron/bron/trec/ScoreHistogram" "counts" "[I" (.ref ar) ∧ Arv Z h ar kc .int (bb + (1 : Int32)) ((List.replicate (bb.toNatClampNeg + 1) (0 : Int32)).map Value.int) (.int (0 : Int32))
set_option maxRecDepth 65536 in
set_option maxHeartbeats 40000000 in
theorem rm2 (l : Launch) (Z : State) (a0 : Array Value) (hw : ∀ d ∈ tables_1, d.before a0 Z = true) (ws : List Jvm.Cond) (ob : Addr) (x0 : UInt64) (x1 : UInt64) (sc : Int32) (bb : Int32) (h0 : Heap) (n0 : Nat) (Z0 : n0 ≤ h0.size) (E_ob : Exa Z h0 ob "com/example/bron/bron/trec/ScoreHistogram") (F_lowest_ob : Fld Z h0 ob "com/example/bron/bron/trec/ScoreHistogram" "lowest" "D" (.double (0 : UInt64))) (F_scale_ob : Fld Z h0 ob "com/example/bron/bron/trec/ScoreHistogram" "scale" "D" (.double (0 : UInt64))) (F_counts_ob : Fld Z h0 ob "com/example/bron/bron/trec/ScoreHistogram" "counts" "[I" .null) (g_ob : n0 ≤ ob) (hA : (0 : Int32) < (cmpValue (FP.dcmp x1 x0) .l)) (hB : Fin64 (FP.dsub x1 x0)) (hC : own_bk sc = bb) (hD : FP.ddiv (FP.i2d bb) (FP.dsub x1 x0) = own_one) (hE : 1 ≤ bb.toInt ∧ bb.toInt ≤ 4) :
    MetFree l (⟨"com/example/bron/bron/trec/ScoreHistogram", "<init>", "(DDI)V"⟩ : MethodName) (head1 (Jvm.Cond.code (⟨"com/example/bron/bron/trec/ScoreHistogram", "<init>", "(DDI)V"⟩ : MethodName) prog_23_method_1_code 7 none :: ws) ({ frames := 2, cells := 1, slots := 5, locals := 26 } : Room)) (fun a U => a = #[(.ref ob), (.double x0), (.double x1), (.int sc)] ∧ Z.Warmed39 U.vm ∧ U.heap = h0) (fun _ _ _ _ _ => True) (fun _ U o U' => ∃ v L, o = .returned v ∧ Q2 Z ob x0 x1 sc bb h0 n0 v U'.heap L ∧ FrameEnd U o U' L ({ frames := 2, cells := 1, slots := 5, locals := 26 } : Room).cells ({ frames := 2, cells := 1, slots := 5, locals := 26 } : Room).slots) := by
  refine MetFree.of_bodySF (plainFor_of_name pn_com_example_bron_bron_trec_ScoreHistogram) hisR ?_
  intro p e s m args below meth c s₁ Bd hml0 hP hK
  obtain ⟨rfl, hZ, hh⟩ := hP
  have hx := Bd.exec
  have hby := Bd.bytes
  have hml : c.maxLocals = 7 := hml0
  have hown : s.vm.findClass "com/example/bron/bron/trec/ScoreHistogram" = some m.cls := findClass_of_methodNamed Bd.named
  have hnm := (name_of_methodNamed Bd.named Bd.method).1
  have X0 : Stand p l e ({ frames := 2, cells := 1, slots := 5, locals := 26 } : Room) s m #[(.ref ob), (.double x0), (.double x1), (.int sc)] below meth c s₁ [] 0 0 := Stand.of_body Bd
  have e0 : s₁.heap = h0 := by rw [← hh, Bd.state]; rfl
  have N0 := Fr.nil n0
  refine own_all ?_
  intro P hfin
  refine own_cast (ef_2 m ob x0 x1 sc) ?_
  show own_Go p e below P s₁ (mkF m 0 #[.val (.ref ob), .val (.double x0), .second, .val (.double x1), .second, .val (.int sc), .unset] [])
  refine own_step (fun _ k => XS.aloadN X0.here hx rfl (hb hby d2_0) rfl rfl k) ?_
  show own_Go p e below P s₁ (mkF m 1 #[.val (.ref ob), .val (.double x0), .second, .val (.double x1), .second, .val (.int sc), .unset] [(.ref ob)])
  obtain ⟨T1, X1, e1, st1⟩ := initO X0 hx hZ hown (hw _ (List.mem_of_getElem? (i := 10) rfl)) (hw _ (List.mem_of_getElem? (i := 11) rfl)) (hw _ (List.mem_of_getElem? (i := 12) rfl)) e0 (g := (mkF m 1 #[.val (.ref ob), .val (.double x0), .second, .val (.double x1), .second, .val (.int sc), .unset] [(.ref ob)])) rfl (by rw [hml]; rfl) rfl (hb hby d2_1) (by decide) (W := 0) (by show 2 * 0 + _ ≤ _; exact Nat.le_of_eq rfl) (by decide)
  refine own_step st1 ?_
  show own_Go p e below P T1 (mkF m 4 #[.val (.ref ob), .val (.double x0), .second, .val (.double x1), .second, .val (.int sc), .unset] [])
  refine own_step (fun _ k => XS.dloadN X1.here hx rfl (hb hby d2_4) rfl k) ?_
  show own_Go p e below P T1 (mkF m 5 #[.val (.ref ob), .val (.double x0), .second, .val (.double x1), .second, .val (.int sc), .unset] [(.double x1)])
  refine own_step (fun _ k => XS.dloadN X1.here hx rfl (hb hby d2_5) rfl k) ?_
  show own_Go p e below P T1 (mkF m 6 #[.val (.ref ob), .val (.double x0), .second, .val (.double x1), .second, .val (.int sc), .unset] [(.double x0), (.double x1)])
  refine own_step (fun _ k => XS.dcmpS X1.here hx rfl (hb hby d2_6) rfl rfl k) ?_
  show own_Go p e below P T1 (mkF m 7 #[.val (.ref ob), .val (.double x0), .second, .val (.double x1), .second, .val (.int sc), .unset] [(.int (cmpValue (FP.dcmp x1 x0) .l))])
  refine own_step (fun _ k => XS.ifNo X1.here hx rfl (hb hby d2_7) rfl ((if0 _ _).trans (tlt hA).2.2.2) k) ?_
  show own_Go p e below P T1 (mkF m 10 #[.val (.ref ob), .val (.double x0), .second, .val (.double x1), .second, .val (.int sc), .unset] [])
  refine own_step (fun _ k => XS.dloadN X1.here hx rfl (hb hby d2_10) rfl k) ?_
  show own_Go p e below P T1 (mkF m 11 #[.val (.ref ob), .val (.double x0), .second, .val (.double x1), .second, .val (.int sc), .unset] [(.double x1)])
  refine own_step (fun _ k => XS.dloadN X1.here hx rfl (hb hby d2_11) rfl k) ?_
  show own_Go p e below P T1 (mkF m 12 #[.val (.ref ob), .val (.double x0), .second, .val (.double x1), .second, .val (.int sc), .unset] [(.double x0), (.double x1)])
  refine own_step (fun _ k => XS.dsubS X1.here hx rfl (hb hby d2_12) rfl hB.noNaN rfl k) ?_
  show own_Go p e below P T1 (mkF m 13 #[.val (.ref ob), .val (.double x0), .second, .val (.double x1), .second, .val (.int sc), .unset] [(.double (FP.dsub x1 x0))])
  obtain ⟨_, _, ⟨T2, L2, k2, n2⟩, -, X2, ⟨Lc2, hQ2, l2, y2, z2⟩, st2⟩ := Jvm.LawKit.callS X1 hx (y := (⟨"java/lang/Double", "isFinite", "(D)Z"⟩ : MethodName)) hown (mvT hZ (hw _ (List.mem_of_getElem? (i := 13) rfl))) (mvT hZ (hw _ (List.mem_of_getElem? (i := 14) rfl))) (mvT hZ (hw _ (List.mem_of_getElem? (i := 15) rfl))) (mvT hZ (hw _ (List.mem_of_getElem? (i := 16) rfl))) (by decide) (backOf (W := 0) (rm4 l Z a0 hw [] (FP.dsub x1 x0) h0 n0 Z0 hB) hZ (hw _ (List.mem_of_getElem? (i := 16) rfl)) (hw _ (List.mem_of_getElem? (i := 15) rfl)) (by decide) (by decide)) (g := (mkF m 13 #[.val (.ref ob), .val (.double x0), .second, .val (.double x1), .second, .val (.int sc), .unset] [(.double (FP.dsub x1 x0))])) rfl (by rw [hml]; rfl) (argsL := [(.double (FP.dsub x1 x0))]) (rest := []) (lenOf pd__D__Z rfl) rfl (by show 2 * 0 + _ ≤ _; exact Nat.le_of_eq rfl) (hb hby d2_13) (fun _ _ => ⟨rfl, e1, (by decide : 0 + 0 ≤ _), (by decide : 0 + 0 ≤ _)⟩)
  dsimp only [Pt.U, Pt.locs, Pt.cells, Pt.slots] at X2 l2 y2 z2 st2 hQ2
  subst l2 y2 z2
  obtain ⟨rfl, N2q, e2⟩ := hQ2
  have N2 := Fr.app N0 N2q
  refine own_step st2 ?_
  show own_Go p e below P T2 (mkF m 16 #[.val (.ref ob), .val (.double x0), .second, .val (.double x1), .second, .val (.int sc), .unset] [(.int (1 : Int32))])
  refine own_step (fun _ k => XS.ifYes X2.here hx rfl (pc0 := 16) (pc' := 29) rfl (hb hby d2_16) rfl ((if0 _ _).trans (feq (by decide : ¬ ((1 : Int32) = (0 : Int32)))).2) (by decide) (by decide) k) ?_
  show own_Go p e below P T2 (mkF m 29 #[.val (.ref ob), .val (.double x0), .second, .val (.double x1), .second, .val (.int sc), .unset] [])
  refine own_step (fun _ k => XS.iconst X2.here hx rfl (hb hby d2_29) k) ?_
  show own_Go p e below P T2 (mkF m 30 #[.val (.ref ob), .val (.double x0), .second, .val (.double x1), .second, .val (.int sc), .unset] [(.int (1 : Int32))])
  refine own_step (fun _ k => XS.sipush X2.here hx rfl (hb hby d2_30) k) ?_
  show own_Go p e below P T2 (mkF m 33 #[.val (.ref ob), .val (.double x0), .second, .val (.double x1), .second, .val (.int sc), .unset] [(.int (4096 : Int32)), (.int (1 : Int32))])
  refine own_step (fun _ k => XS.iload X2.here hx rfl (hb hby d2_33) rfl k) ?_
  show own_Go p e below P T2 (mkF m 35 #[.val (.ref ob), .val (.double x0), .second, .val (.double x1), .second, .val (.int sc), .unset] [(.int sc), (.int (4096 : Int32)), (.int (1 : Int32))])
  refine own_step (fun _ k => XS.iconst X2.here hx rfl (hb hby d2_35) k) ?_
  show own_Go p e below P T2 (mkF m 36 #[.val (.ref ob), .val (.double x0), .second, .val (.double x1), .second, .val (.int sc), .unset] [(.int (4 : Int32)), (.int sc), (.int (4096 : Int32)), (.int (1 : Int32))])
  refine own_step (fun _ k => XS.idiv X2.here hx rfl (hb hby d2_36) rfl (by decide : ¬ ((4 : Int32) = (0 : Int32))) k) ?_
  show own_Go p e below P T2 (mkF m 37 #[.val (.ref ob), .val (.double x0), .second, .val (.double x1), .second, .val (.int sc), .unset] [(.int (sc / (4 : Int32))), (.int (4096 : Int32)), (.int (1 : Int32))])
  obtain ⟨_, _, ⟨T3, L3, k3, n3⟩, -, X3, ⟨Lc3, hQ3, l3, y3, z3⟩, st3⟩ := Jvm.LawKit.callS X2 hx (y := (⟨"java/lang/Math", "min", "(II)I"⟩ : MethodName)) hown (mvT hZ (hw _ (List.mem_of_getElem? (i := 21) rfl))) (mvT hZ (hw _ (List.mem_of_getElem? (i := 22) rfl))) (mvT hZ (hw _ (List.mem_of_getElem? (i := 2) rfl))) (mvT hZ (hw _ (List.mem_of_getElem? (i := 23) rfl))) (by decide) (backOf (W := 1) (rm6 l Z a0 hw [] (4096 : Int32) (sc / (4 : Int32)) h0 n0 Z0) hZ (hw _ (List.mem_of_getElem? (i := 23) rfl)) (hw _ (List.mem_of_getElem? (i := 2) rfl)) (by decide) (by decide)) (g := (mkF m 37 #[.val (.ref ob), .val (.double x0), .second, .val (.double x1), .second, .val (.int sc), .unset] [(.int (sc / (4 : Int32))), (.int (4096 : Int32)), (.int (1 : Int32))])) rfl (by rw [hml]; rfl) (argsL := [(.int (4096 : Int32)), (.int (sc / (4 : Int32)))]) (rest := [(.int (1 : Int32))]) (lenOf pd__II__I rfl) rfl (by show 2 * 0 + _ ≤ _; exact Nat.le_of_eq rfl) (hb hby d2_37) (fun _ _ => ⟨rfl, e2, (by decide : 0 + 0 ≤ _), (by decide : 0 + 0 ≤ _)⟩)
  dsimp only [Pt.U, Pt.locs, Pt.cells, Pt.slots] at X3 l3 y3 z3 st3 hQ3
  subst l3 y3 z3
  obtain ⟨rfl, N3q, e3⟩ := hQ3
  have N3 := Fr.app N2 N3q
  refine own_step st3 ?_
  show own_Go p e below P T3 (mkF m 40 #[.val (.ref ob), .val (.double x0), .second, .val (.double x1), .second, .val (.int sc), .unset] [(.int (if (sc / (4 : Int32)) < (4096 : Int32) then (sc / (4 : Int32)) else (4096 : Int32))), (.int (1 : Int32))])
  obtain ⟨_, _, ⟨T4, L4, k4, n4⟩, -, X4, ⟨Lc4, hQ4, l4, y4, z4⟩, st4⟩ := Jvm.LawKit.callS X3 hx (y := (⟨"java/lang/Math", "max", "(II)I"⟩ : MethodName)) hown (mvT hZ (hw _ (List.mem_of_getElem? (i := 24) rfl))) (mvT hZ (hw _ (List.mem_of_getElem? (i := 1) rfl))) (mvT hZ (hw _ (List.mem_of_getElem? (i := 2) rfl))) (mvT hZ (hw _ (List.mem_of_getElem? (i := 3) rfl))) (by decide) (backOf (W := 0) (rm1 l Z a0 hw [] (1 : Int32) (if (sc / (4 : Int32)) < (4096 : Int32) then (sc / (4 : Int32)) else (4096 : Int32)) h0 n0 Z0) hZ (hw _ (List.mem_of_getElem? (i := 3) rfl)) (hw _ (List.mem_of_getElem? (i := 2) rfl)) (by decide) (by decide)) (g := (mkF m 40 #[.val (.ref ob), .val (.double x0), .second, .val (.double x1), .second, .val (.int sc), .unset] [(.int (if (sc / (4 : Int32)) < (4096 : Int32) then (sc / (4 : Int32)) else (4096 : Int32))), (.int (1 : Int32))])) rfl (by rw [hml]; rfl) (argsL := [(.int (1 : Int32)), (.int (if (sc / (4 : Int32)) < (4096 : Int32) then (sc / (4 : Int32)) else (4096 : Int32)))]) (rest := []) (lenOf pd__II__I rfl) rfl (by show 2 * 0 + _ ≤ _; exact Nat.le_of_eq rfl) (hb hby d2_40) (fun _ _ => ⟨rfl, e3, (by decide : 0 + 0 ≤ _), (by decide : 0 + 0 ≤ _)⟩)
  dsimp only [Pt.U, Pt.locs, Pt.cells, Pt.slots] at X4 l4 y4 z4 st4 hQ4
  subst l4 y4 z4
  obtain ⟨rfl, N4q, e4⟩ := hQ4
  have N4 := Fr.app N3 N4q
  refine own_step st4 ?_
  show own_Go p e below P T4 (mkF m 43 #[.val (.ref ob), .val (.double x0), .second, .val (.double x1), .second, .val (.int sc), .unset] [(.int (if (1 : Int32) < (if (sc / (4 : Int32)) < (4096 : Int32) then (sc / (4 : Int32)) else (4096 : Int32)) then (if (sc / (4 : Int32)) < (4096 : Int32) then (sc / (4 : Int32)) else (4096 : Int32)) else (1 : Int32)))])
  refine own_step (fun _ k => XS.istore X4.here hx rfl (hb hby d2_43) rfl (l' := #[.val (.ref ob), .val (.double x0), .second, .val (.double x1), .second, .val (.int sc), .val (.int (if (1 : Int32) < (if (sc / (4 : Int32)) < (4096 : Int32) then (sc / (4 : Int32)) else (4096 : Int32)) then (if (sc / (4 : Int32)) < (4096 : Int32) then (sc / (4 : Int32)) else (4096 : Int32)) else (1 : Int32)))]) rfl k) ?_
  show own_Go p e below P T4 (mkF m 45 #[.val (.ref ob), .val (.double x0), .second, .val (.double x1), .second, .val (.int sc), .val (.int (if (1 : Int32) < (if (sc / (4 : Int32)) < (4096 : Int32) then (sc / (4 : Int32)) else (4096 : Int32)) then (if (sc / (4 : Int32)) < (4096 : Int32) then (sc / (4 : Int32)) else (4096 : Int32)) else (1 : Int32)))] [])
  rw [show (if (1 : Int32) < (if (sc / (4 : Int32)) < (4096 : Int32) then (sc / (4 : Int32)) else (4096 : Int32)) then (if (sc / (4 : Int32)) < (4096 : Int32) then (sc / (4 : Int32)) else (4096 : Int32)) else (1 : Int32)) = bb from hC]
  show own_Go p e below P T4 (mkF m 45 #[.val (.ref ob), .val (.double x0), .second, .val (.double x1), .second, .val (.int sc), .val (.int bb)] [])
  refine own_step (fun _ k => XS.aloadN X4.here hx rfl (hb hby d2_45) rfl rfl k) ?_
  show own_Go p e below P T4 (mkF m 46 #[.val (.ref ob), .val (.double x0), .second, .val (.double x1), .second, .val (.int sc), .val (.int bb)] [(.ref ob)])
  refine own_step (fun _ k => XS.dloadN X4.here hx rfl (hb hby d2_46) rfl k) ?_
  show own_Go p e below P T4 (mkF m 47 #[.val (.ref ob), .val (.double x0), .second, .val (.double x1), .second, .val (.int sc), .val (.int bb)] [(.double x0), (.ref ob)])
  obtain ⟨T5, h5, X5, e5, W5, st5⟩ := putF X4 hx hZ hown (host := "") (Or.inl (hw _ (List.mem_of_getElem? (i := 25) rfl))) Via.refl e4 F_lowest_ob E_ob (Or.inr ⟨(hw _ (List.mem_of_getElem? (i := 26) rfl)), rfl, hnm⟩) (hw _ (List.mem_of_getElem? (i := 5) rfl)) (ty := .double) (by decide) rfl rfl (g := (mkF m 47 #[.val (.ref ob), .val (.double x0), .second, .val (.double x1), .second, .val (.int sc), .val (.int bb)] [(.double x0), (.ref ob)])) rfl rfl (hb hby d2_47)
  have Fw5 := F_lowest_ob.same W5
  have N5 := Fr.snoc X5 N4 g_ob
  refine own_step st5 ?_
  show own_Go p e below P T5 (mkF m 50 #[.val (.ref ob), .val (.double x0), .second, .val (.double x1), .second, .val (.int sc), .val (.int bb)] [])
  refine own_step (fun _ k => XS.aloadN X5.here hx rfl (hb hby d2_50) rfl rfl k) ?_
  show own_Go p e below P T5 (mkF m 51 #[.val (.ref ob), .val (.double x0), .second, .val (.double x1), .second, .val (.int sc), .val (.int bb)] [(.ref ob)])
  refine own_step (fun _ k => XS.iload X5.here hx rfl (hb hby d2_51) rfl k) ?_
  show own_Go p e below P T5 (mkF m 53 #[.val (.ref ob), .val (.double x0), .second, .val (.double x1), .second, .val (.int sc), .val (.int bb)] [(.int bb), (.ref ob)])
  refine own_step (fun _ k => XS.i2dS X5.here hx rfl (hb hby d2_53) rfl rfl k) ?_
  show own_Go p e below P T5 (mkF m 54 #[.val (.ref ob), .val (.double x0), .second, .val (.double x1), .second, .val (.int sc), .val (.int bb)] [(.double (FP.i2d bb)), (.ref ob)])
  refine own_step (fun _ k => XS.dloadN X5.here hx rfl (hb hby d2_54) rfl k) ?_
  show own_Go p e below P T5 (mkF m 55 #[.val (.ref ob), .val (.double x0), .second, .val (.double x1), .second, .val (.int sc), .val (.int bb)] [(.double x1), (.double (FP.i2d bb)), (.ref ob)])
  refine own_step (fun _ k => XS.dloadN X5.here hx rfl (hb hby d2_55) rfl k) ?_
  show own_Go p e below P T5 (mkF m 56 #[.val (.ref ob), .val (.double x0), .second, .val (.double x1), .second, .val (.int sc), .val (.int bb)] [(.double x0), (.double x1), (.double (FP.i2d bb)), (.ref ob)])
  refine own_step (fun _ k => XS.dsubS X5.here hx rfl (hb hby d2_56) rfl hB.noNaN rfl k) ?_
  show own_Go p e below P T5 (mkF m 57 #[.val (.ref ob), .val (.double x0), .second, .val (.double x1), .second, .val (.int sc), .val (.int bb)] [(.double (FP.dsub x1 x0)), (.double (FP.i2d bb)), (.ref ob)])
  refine own_step (fun _ k => XS.ddivS X5.here hx rfl (hb hby d2_57) rfl (by rw [hD]; unfold NoNaN64; decide) hD k) ?_
  show own_Go p e below P T5 (mkF m 58 #[.val (.ref ob), .val (.double x0), .second, .val (.double x1), .second, .val (.int sc), .val (.int bb)] [(.double own_one), (.ref ob)])
  obtain ⟨T6, h6, X6, e6, W6, st6⟩ := putF X5 hx hZ hown (host := "") (Or.inl (hw _ (List.mem_of_getElem? (i := 27) rfl))) Via.refl e5 (F_scale_ob.other W5 (Or.inr (slot_ne (Or.inr (hw _ (List.mem_of_getElem? (i := 28) rfl))) (Or.inr (hw _ (List.mem_of_getElem? (i := 26) rfl))) (by decide) (t := .double) (t' := .double) (by decide) (by decide)))) (E_ob.wr W5) (Or.inr ⟨(hw _ (List.mem_of_getElem? (i := 28) rfl)), rfl, hnm⟩) (hw _ (List.mem_of_getElem? (i := 5) rfl)) (ty := .double) (by decide) rfl rfl (g := (mkF m 58 #[.val (.ref ob), .val (.double x0), .second, .val (.double x1), .second, .val (.int sc), .val (.int bb)] [(.double own_one), (.ref ob)])) rfl rfl (hb hby d2_58)
  have Fw6 := (F_scale_ob.other W5 (Or.inr (slot_ne (Or.inr (hw _ (List.mem_of_getElem? (i := 28) rfl))) (Or.inr (hw _ (List.mem_of_getElem? (i := 26) rfl))) (by decide) (t := .double) (t' := .double) (by decide) (by decide)))).same W6
  have N6 := Fr.snoc X6 N5 g_ob
  refine own_step st6 ?_
  show own_Go p e below P T6 (mkF m 61 #[.val (.ref ob), .val (.double x0), .second, .val (.double x1), .second, .val (.int sc), .val (.int bb)] [])
  refine own_step (fun _ k => XS.aloadN X6.here hx rfl (hb hby d2_61) rfl rfl k) ?_
  show own_Go p e below P T6 (mkF m 62 #[.val (.ref ob), .val (.double x0), .second, .val (.double x1), .second, .val (.int sc), .val (.int bb)] [(.ref ob)])
  refine own_step (fun _ k => XS.iload X6.here hx rfl (hb hby d2_62) rfl k) ?_
  show own_Go p e below P T6 (mkF m 64 #[.val (.ref ob), .val (.double x0), .second, .val (.double x1), .second, .val (.int sc), .val (.int bb)] [(.int bb), (.ref ob)])
  refine own_step (fun _ k => XS.iconst X6.here hx rfl (hb hby d2_64) k) ?_
  show own_Go p e below P T6 (mkF m 65 #[.val (.ref ob), .val (.double x0), .second, .val (.double x1), .second, .val (.int sc), .val (.int bb)] [(.int (1 : Int32)), (.int bb), (.ref ob)])
  refine own_step (fun _ k => XS.iadd X6.here hx rfl (hb hby d2_65) rfl k) ?_
  show own_Go p e below P T6 (mkF m 66 #[.val (.ref ob), .val (.double x0), .second, .val (.double x1), .second, .val (.int sc), .val (.int bb)] [(.int (bb + (1 : Int32))), (.ref ob)])
  obtain ⟨T7, h7, k7, X7, e7, E7, A7, st7⟩ := newP X6 hx hZ (hw _ (List.mem_of_getElem? (i := 29) rfl)) e6 (g := (mkF m 66 #[.val (.ref ob), .val (.double x0), .second, .val (.double x1), .second, .val (.int sc), .val (.int bb)] [(.int (bb + (1 : Int32))), (.ref ob)])) rfl (hb hby d2_66) rfl (own_bb hE).1 (cap := 5) (own_bb hE).2.1 (by decide) (by decide) (by decide)
  obtain ⟨b7, g7⟩ : ∃ z, z = h6.size := ⟨_, rfl⟩
  rw [← g7] at A7 st7
  have g_b7 : n0 ≤ b7 := Nat.le_trans (Nat.le_trans (Nat.le_trans Z0 (Keep.of_wr W5).1) (Keep.of_wr W6).1) (Nat.le_of_eq g7.symm)
  have sz_b7 : h0.size ≤ b7 := Nat.le_trans (((Keep.refl h0 [ob]).wr W5 (Or.inl (List.mem_of_getElem? (i := 0) rfl))).wr W6 (Or.inl (List.mem_of_getElem? (i := 0) rfl))).1 (Nat.le_of_eq g7.symm)
  have V_b7 : Arv Z h7 b7 k7 .int (bb + (1 : Int32)) [] (.int (0 : Int32)) := (Arv.new A7 (own_bb hE).1)
  refine own_step st7 ?_
  show own_Go p e below P T7 (mkF m 68 #[.val (.ref ob), .val (.double x0), .second, .val (.double x1), .second, .val (.int sc), .val (.int bb)] [(.ref b7), (.ref ob)])
  obtain ⟨T8, h8, X8, e8, W8, st8⟩ := putF X7 hx hZ hown (host := "") (Or.inl (hw _ (List.mem_of_getElem? (i := 30) rfl))) Via.refl e7 (((F_counts_ob.other W5 (Or.inr (slot_ne (Or.inr (hw _ (List.mem_of_getElem? (i := 31) rfl))) (Or.inr (hw _ (List.mem_of_getElem? (i := 26) rfl))) (by decide) (t := (.array .int)) (t' := .double) (by decide) (by decide)))).other W6 (Or.inr (slot_ne (Or.inr (hw _ (List.mem_of_getElem? (i := 31) rfl))) (Or.inr (hw _ (List.mem_of_getElem? (i := 28) rfl))) (by decide) (t := (.array .int)) (t' := .double) (by decide) (by decide)))).ext E7) (((E_ob.wr W5).wr W6).ext E7) (Or.inr ⟨(hw _ (List.mem_of_getElem? (i := 31) rfl)), rfl, hnm⟩) (hw _ (List.mem_of_getElem? (i := 5) rfl)) (ty := (.array .int)) (by decide) rfl rfl (g := (mkF m 68 #[.val (.ref ob), .val (.double x0), .second, .val (.double x1), .second, .val (.int sc), .val (.int bb)] [(.ref b7), (.ref ob)])) rfl rfl (hb hby d2_68)
  have Fw8 := (((F_counts_ob.other W5 (Or.inr (slot_ne (Or.inr (hw _ (List.mem_of_getElem? (i := 31) rfl))) (Or.inr (hw _ (List.mem_of_getElem? (i := 26) rfl))) (by decide) (t := (.array .int)) (t' := .double) (by decide) (by decide)))).other W6 (Or.inr (slot_ne (Or.inr (hw _ (List.mem_of_getElem? (i := 31) rfl))) (Or.inr (hw _ (List.mem_of_getElem? (i := 28) rfl))) (by decide) (t := (.array .int)) (t' := .double) (by decide) (by decide)))).ext E7).same W8
  have N8 := Fr.snoc X8 N6 g_ob
  refine own_step st8 ?_
  show own_Go p e below P T8 (mkF m 71 #[.val (.ref ob), .val (.double x0), .second, .val (.double x1), .second, .val (.int sc), .val (.int bb)] [])
  obtain ⟨fs, hr, hrun, hended, hW, hsame⟩ := X8.leave (v := none) (fun _ => rfl)
  refine ⟨_, _, X8.returnOut hx Bd.returns (hb hby d2_71) hr, hrun, hended, hfin _ _ ⟨_, _, rfl, ?_, ⟨_, rfl⟩, hW, hsame.mono (by decide) (by decide)⟩⟩
  show Q2 Z ob x0 x1 sc bb h0 n0 none T8.heap _
  rw [e8]
  exact ⟨rfl, N8, (((((Keep.refl h0 [ob]).wr W5 (Or.inl (List.mem_of_getElem? (i := 0) rfl))).wr W6 (Or.inl (List.mem_of_getElem? (i := 0) rfl))).ext E7).wr W8 (Or.inl (List.mem_of_getElem? (i := 0) rfl))), ((((E_ob.wr W5).wr W6).ext E7).wr W8), (((Fw5.other W6 (Or.inr (slot_ne (Or.inr (hw _ (List.mem_of_getElem? (i := 26) rfl))) (Or.inr (hw _ (List.mem_of_getElem? (i := 28) rfl))) (by decide) (t := .double) (t' := .double) (by decide) (by decide)))).ext E7).other W8 (Or.inr (slot_ne (Or.inr (hw _ (List.mem_of_getElem? (i := 26) rfl))) (Or.inr (hw _ (List.mem_of_getElem? (i := 31) rfl))) (by decide) (t := .double) (t' := (.array .int)) (by decide) (by decide)))), ((Fw6.ext E7).other W8 (Or.inr (slot_ne (Or.inr (hw _ (List.mem_of_getElem? (i := 28) rfl))) (Or.inr (hw _ (List.mem_of_getElem? (i := 31) rfl))) (by decide) (t := .double) (t' := (.array .int)) (by decide) (by decide)))), b7, k7, sz_b7, Fw8, by rw [List.map_replicate]; exact ((V_b7.other W8 (Ne.symm (Nat.ne_of_lt (Nat.lt_of_lt_of_le ((E_ob.wr W5).wr W6).lt (Nat.le_of_eq g7.symm)))))).pad (pad_rep [] (.int (0 : Int32)) (bb.toNatClampNeg + 1))⟩
theorem ef_10 (m : MethodId) (x0 : Addr) (x1 : UInt64) : entryFrame m #[(.ref x0), (.double x1)] 3 = mkF m 0 #[.val (.ref x0), .val (.double x1), .second] [] := by first | (simp [entryFrame, mkF, argsToLocals, Value.category]; done) | rfl
theorem d10_0 : decode prog_23_method_3_code 0 = .ok (.iconst 0, 1) := by decide +kernel
theorem d10_1 : decode prog_23_method_3_code 1 = .ok (.aload_n 0, 1) := by decide +kernel
theorem d10_2 : decode prog_23_method_3_code 2 = .ok (.getfield 38, 3) := by decide +kernel
theorem d10_5 : decode prog_23_method_3_code 5 = .ok (.arraylength, 1) := by decide +kernel
theorem d10_6 : decode prog_23_method_3_code 6 = .ok (.iconst 1, 1) := by decide +kernel
theorem d10_7 : decode prog_23_method_3_code 7 = .ok (.isub, 1) := by decide +kernel
theorem d10_8 : decode prog_23_method_3_code 8 = .ok (.dload_n 1, 1) := by decide +kernel
theorem d10_9 : decode prog_23_method_3_code 9 = .ok (.aload_n 0, 1) := by decide +kernel
theorem d10_10 : decode prog_23_method_3_code 10 = .ok (.getfield 31, 3) := by decide +kernel
theorem d10_13 : decode prog_23_method_3_code 13 = .ok (.dsub, 1) := by decide +kernel
theorem d10_14 : decode prog_23_method_3_code 14 = .ok (.aload_n 0, 1) := by decide +kernel
theorem d10_15 : decode prog_23_method_3_code 15 = .ok (.getfield 35, 3) := by decide +kernel
theorem d10_18 : decode prog_23_method_3_code 18 = .ok (.dmul, 1) := by decide +kernel
theorem d10_19 : decode prog_23_method_3_code 19 = .ok (.d2i, 1) := by decide +kernel
theorem d10_20 : decode prog_23_method_3_code 20 = .ok (.invokestatic 22, 3) := by decide +kernel
theorem d10_23 : decode prog_23_method_3_code 23 = .ok (.invokestatic 28, 3) := by decide +kernel
theorem d10_26 : decode prog_23_method_3_code 26 = .ok (.ireturn, 1) := by decide +kernel
def Q10 (Z : State) (ob : Addr) (x1 : UInt64) (ar : Addr) (kc : ClassId) (zz : Int32) (cs : List Int32) (xl : UInt64) (h0 : Heap) (n0 : Nat) (v : Option Value) (h : Heap) (L : List Loc) : Prop := v = some (.int (own_clamp (zz - (1 : Int32)) (FP.d2i (FP.dmul (FP.dsub x1 xl) own_one)))) ∧ Fr n0 L ∧ h = h0
set_option maxRecDepth 65536 in
set_option maxHeartbeats 40000000 in
theorem rm10 (l : Launch) (Z : State) (a0 : Array Value) (hw : ∀ d ∈ tables_1, d.before a0 Z = true) (ws : List Jvm.Cond) (ob : Addr) (x1 : UInt64) (ar : Addr) (kc : ClassId) (zz : Int32) (cs : List Int32) (xl : UInt64) (h0 : Heap) (n0 : Nat) (Z0 : n0 ≤ h0.size) (E_ob : Exa Z h0 ob "com/example/bron/bron/trec/ScoreHistogram") (F_lowest_ob : Fld Z h0 ob "com/example/bron/bron/trec/ScoreHistogram" "lowest" "D" (.double xl)) (F_scale_ob : Fld Z h0 ob "com/example/bron/bron/trec/ScoreHistogram" "scale" "D" (.double own_one)) (F_counts_ob : Fld Z h0 ob "com/example/bron/bron/trec/ScoreHistogram" "counts" "[I" (.ref ar)) (V_ar : Arv Z h0 ar kc .int zz (cs.map Value.int) (.int (0 : Int32))) (ne_oa : ob ≠ ar) (hN1 : NoNaN64 (FP.dsub x1 xl)) (hN2 : NoNaN64 (FP.dmul (FP.dsub x1 xl) own_one)) :
    MetFree l (⟨"com/example/bron/bron/trec/ScoreHistogram", "bucket", "(D)I"⟩ : MethodName) (head1 (Jvm.Cond.code (⟨"com/example/bron/bron/trec/ScoreHistogram", "bucket", "(D)I"⟩ : MethodName) prog_23_method_3_code 3 (some .int) :: ws) ({ frames := 1, cells := 0, slots := 0, locals := 14 } : Room)) (fun a U => a = #[(.ref ob), (.double x1)] ∧ Z.Warmed39 U.vm ∧ U.heap = h0) (fun _ _ _ _ _ => True) (fun _ U o U' => ∃ v L, o = .returned v ∧ Q10 Z ob x1 ar kc zz cs xl h0 n0 v U'.heap L ∧ FrameEnd U o U' L ({ frames := 1, cells := 0, slots := 0, locals := 14 } : Room).cells ({ frames := 1, cells := 0, slots := 0, locals := 14 } : Room).slots) := by
  refine MetFree.of_bodySF (plainFor_of_name pn_com_example_bron_bron_trec_ScoreHistogram) hisR ?_
  intro p e s m args below meth c s₁ Bd hml0 hP hK
  obtain ⟨rfl, hZ, hh⟩ := hP
  have hx := Bd.exec
  have hby := Bd.bytes
  have hml : c.maxLocals = 3 := hml0
  have hown : s.vm.findClass "com/example/bron/bron/trec/ScoreHistogram" = some m.cls := findClass_of_methodNamed Bd.named
  have hnm := (name_of_methodNamed Bd.named Bd.method).1
  have X0 : Stand p l e ({ frames := 1, cells := 0, slots := 0, locals := 14 } : Room) s m #[(.ref ob), (.double x1)] below meth c s₁ [] 0 0 := Stand.of_body Bd
  have e0 : s₁.heap = h0 := by rw [← hh, Bd.state]; rfl
  have N0 := Fr.nil n0
  refine own_all ?_
  intro P hfin
  refine own_cast (ef_10 m ob x1) ?_
  show own_Go p e below P s₁ (mkF m 0 #[.val (.ref ob), .val (.double x1), .second] [])
  refine own_step (fun _ k => XS.iconst X0.here hx rfl (hb hby d10_0) k) ?_
  show own_Go p e below P s₁ (mkF m 1 #[.val (.ref ob), .val (.double x1), .second] [(.int (0 : Int32))])
  refine own_step (fun _ k => XS.aloadN X0.here hx rfl (hb hby d10_1) rfl rfl k) ?_
  show own_Go p e below P s₁ (mkF m 2 #[.val (.ref ob), .val (.double x1), .second] [(.ref ob), (.int (0 : Int32))])
  obtain ⟨T1, X1, e1, st1⟩ := getF X0 hx hZ hown (host := "") (Or.inl (hw _ (List.mem_of_getElem? (i := 30) rfl))) Via.refl e0 F_counts_ob (g := (mkF m 2 #[.val (.ref ob), .val (.double x1), .second] [(.ref ob), (.int (0 : Int32))])) rfl rfl (hb hby d10_2)
  refine own_step st1 ?_
  show own_Go p e below P T1 (mkF m 5 #[.val (.ref ob), .val (.double x1), .second] [(.ref ar), (.int (0 : Int32))])
  obtain ⟨cl2, Ar2, -, S2, M2, -, -⟩ := (id V_ar)
  refine own_step (fun t k => X1.arraylength hx (by rw [e1]; exact Ar2.1) (State.isArrayOf_alike hZ.alike Ar2.2.1) (g := (mkF m 5 #[.val (.ref ob), .val (.double x1), .second] [(.ref ar), (.int (0 : Int32))])) rfl rfl (hb hby d10_5) t k) ?_
  rw [len_of S2 M2]
  show own_Go p e below P T1 (mkF m 6 #[.val (.ref ob), .val (.double x1), .second] [(.int zz), (.int (0 : Int32))])
  refine own_step (fun _ k => XS.iconst X1.here hx rfl (hb hby d10_6) k) ?_
  show own_Go p e below P T1 (mkF m 7 #[.val (.ref ob), .val (.double x1), .second] [(.int (1 : Int32)), (.int zz), (.int (0 : Int32))])
  refine own_step (fun _ k => XS.isub X1.here hx rfl (hb hby d10_7) rfl k) ?_
  show own_Go p e below P T1 (mkF m 8 #[.val (.ref ob), .val (.double x1), .second] [(.int (zz - (1 : Int32))), (.int (0 : Int32))])
  refine own_step (fun _ k => XS.dloadN X1.here hx rfl (hb hby d10_8) rfl k) ?_
  show own_Go p e below P T1 (mkF m 9 #[.val (.ref ob), .val (.double x1), .second] [(.double x1), (.int (zz - (1 : Int32))), (.int (0 : Int32))])
  refine own_step (fun _ k => XS.aloadN X1.here hx rfl (hb hby d10_9) rfl rfl k) ?_
  show own_Go p e below P T1 (mkF m 10 #[.val (.ref ob), .val (.double x1), .second] [(.ref ob), (.double x1), (.int (zz - (1 : Int32))), (.int (0 : Int32))])
  obtain ⟨T3, X3, e3, st3⟩ := getF X1 hx hZ hown (host := "") (Or.inl (hw _ (List.mem_of_getElem? (i := 25) rfl))) Via.refl e1 F_lowest_ob (g := (mkF m 10 #[.val (.ref ob), .val (.double x1), .second] [(.ref ob), (.double x1), (.int (zz - (1 : Int32))), (.int (0 : Int32))])) rfl rfl (hb hby d10_10)
  refine own_step st3 ?_
  show own_Go p e below P T3 (mkF m 13 #[.val (.ref ob), .val (.double x1), .second] [(.double xl), (.double x1), (.int (zz - (1 : Int32))), (.int (0 : Int32))])
  refine own_step (fun _ k => XS.dsubS X3.here hx rfl (hb hby d10_13) rfl hN1 rfl k) ?_
  show own_Go p e below P T3 (mkF m 14 #[.val (.ref ob), .val (.double x1), .second] [(.double (FP.dsub x1 xl)), (.int (zz - (1 : Int32))), (.int (0 : Int32))])
  refine own_step (fun _ k => XS.aloadN X3.here hx rfl (hb hby d10_14) rfl rfl k) ?_
  show own_Go p e below P T3 (mkF m 15 #[.val (.ref ob), .val (.double x1), .second] [(.ref ob), (.double (FP.dsub x1 xl)), (.int (zz - (1 : Int32))), (.int (0 : Int32))])
  obtain ⟨T4, X4, e4, st4⟩ := getF X3 hx hZ hown (host := "") (Or.inl (hw _ (List.mem_of_getElem? (i := 27) rfl))) Via.refl e3 F_scale_ob (g := (mkF m 15 #[.val (.ref ob), .val (.double x1), .second] [(.ref ob), (.double (FP.dsub x1 xl)), (.int (zz - (1 : Int32))), (.int (0 : Int32))])) rfl rfl (hb hby d10_15)
  refine own_step st4 ?_
  show own_Go p e below P T4 (mkF m 18 #[.val (.ref ob), .val (.double x1), .second] [(.double own_one), (.double (FP.dsub x1 xl)), (.int (zz - (1 : Int32))), (.int (0 : Int32))])
  refine own_step (fun _ k => XS.dmulS X4.here hx rfl (hb hby d10_18) rfl hN2 rfl k) ?_
  show own_Go p e below P T4 (mkF m 19 #[.val (.ref ob), .val (.double x1), .second] [(.double (FP.dmul (FP.dsub x1 xl) own_one)), (.int (zz - (1 : Int32))), (.int (0 : Int32))])
  refine own_step (fun _ k => XS.d2iS X4.here hx rfl (hb hby d10_19) rfl rfl k) ?_
  show own_Go p e below P T4 (mkF m 20 #[.val (.ref ob), .val (.double x1), .second] [(.int (FP.d2i (FP.dmul (FP.dsub x1 xl) own_one))), (.int (zz - (1 : Int32))), (.int (0 : Int32))])
  obtain ⟨_, _, ⟨T5, L5, k5, n5⟩, -, X5, ⟨Lc5, hQ5, l5, y5, z5⟩, st5⟩ := Jvm.LawKit.callS X4 hx (y := (⟨"java/lang/Math", "min", "(II)I"⟩ : MethodName)) hown (mvT hZ (hw _ (List.mem_of_getElem? (i := 21) rfl))) (mvT hZ (hw _ (List.mem_of_getElem? (i := 22) rfl))) (mvT hZ (hw _ (List.mem_of_getElem? (i := 2) rfl))) (mvT hZ (hw _ (List.mem_of_getElem? (i := 23) rfl))) (by decide) (backOf (W := 1) (rm6 l Z a0 hw [] (zz - (1 : Int32)) (FP.d2i (FP.dmul (FP.dsub x1 xl) own_one)) h0 n0 Z0) hZ (hw _ (List.mem_of_getElem? (i := 23) rfl)) (hw _ (List.mem_of_getElem? (i := 2) rfl)) (by decide) (by decide)) (g := (mkF m 20 #[.val (.ref ob), .val (.double x1), .second] [(.int (FP.d2i (FP.dmul (FP.dsub x1 xl) own_one))), (.int (zz - (1 : Int32))), (.int (0 : Int32))])) rfl (by rw [hml]; rfl) (argsL := [(.int (zz - (1 : Int32))), (.int (FP.d2i (FP.dmul (FP.dsub x1 xl) own_one)))]) (rest := [(.int (0 : Int32))]) (lenOf pd__II__I rfl) rfl (by show 2 * 0 + _ ≤ _; exact Nat.le_of_eq rfl) (hb hby d10_20) (fun _ _ => ⟨rfl, e4, (by decide : 0 + 0 ≤ _), (by decide : 0 + 0 ≤ _)⟩)
  dsimp only [Pt.U, Pt.locs, Pt.cells, Pt.slots] at X5 l5 y5 z5 st5 hQ5
  subst l5 y5 z5
  obtain ⟨rfl, N5q, e5⟩ := hQ5
  have N5 := Fr.app N0 N5q
  refine own_step st5 ?_
  show own_Go p e below P T5 (mkF m 23 #[.val (.ref ob), .val (.double x1), .second] [(.int (if (FP.d2i (FP.dmul (FP.dsub x1 xl) own_one)) < (zz - (1 : Int32)) then (FP.d2i (FP.dmul (FP.dsub x1 xl) own_one)) else (zz - (1 : Int32)))), (.int (0 : Int32))])
  obtain ⟨_, _, ⟨T6, L6, k6, n6⟩, -, X6, ⟨Lc6, hQ6, l6, y6, z6⟩, st6⟩ := Jvm.LawKit.callS X5 hx (y := (⟨"java/lang/Math", "max", "(II)I"⟩ : MethodName)) hown (mvT hZ (hw _ (List.mem_of_getElem? (i := 24) rfl))) (mvT hZ (hw _ (List.mem_of_getElem? (i := 1) rfl))) (mvT hZ (hw _ (List.mem_of_getElem? (i := 2) rfl))) (mvT hZ (hw _ (List.mem_of_getElem? (i := 3) rfl))) (by decide) (backOf (W := 0) (rm1 l Z a0 hw [] (0 : Int32) (if (FP.d2i (FP.dmul (FP.dsub x1 xl) own_one)) < (zz - (1 : Int32)) then (FP.d2i (FP.dmul (FP.dsub x1 xl) own_one)) else (zz - (1 : Int32))) h0 n0 Z0) hZ (hw _ (List.mem_of_getElem? (i := 3) rfl)) (hw _ (List.mem_of_getElem? (i := 2) rfl)) (by decide) (by decide)) (g := (mkF m 23 #[.val (.ref ob), .val (.double x1), .second] [(.int (if (FP.d2i (FP.dmul (FP.dsub x1 xl) own_one)) < (zz - (1 : Int32)) then (FP.d2i (FP.dmul (FP.dsub x1 xl) own_one)) else (zz - (1 : Int32)))), (.int (0 : Int32))])) rfl (by rw [hml]; rfl) (argsL := [(.int (0 : Int32)), (.int (if (FP.d2i (FP.dmul (FP.dsub x1 xl) own_one)) < (zz - (1 : Int32)) then (FP.d2i (FP.dmul (FP.dsub x1 xl) own_one)) else (zz - (1 : Int32))))]) (rest := []) (lenOf pd__II__I rfl) rfl (by show 2 * 0 + _ ≤ _; exact Nat.le_of_eq rfl) (hb hby d10_23) (fun _ _ => ⟨rfl, e5, (by decide : 0 + 0 ≤ _), (by decide : 0 + 0 ≤ _)⟩)
  dsimp only [Pt.U, Pt.locs, Pt.cells, Pt.slots] at X6 l6 y6 z6 st6 hQ6
  subst l6 y6 z6
  obtain ⟨rfl, N6q, e6⟩ := hQ6
  have N6 := Fr.app N5 N6q
  refine own_step st6 ?_
  show own_Go p e below P T6 (mkF m 26 #[.val (.ref ob), .val (.double x1), .second] [(.int (if (0 : Int32) < (if (FP.d2i (FP.dmul (FP.dsub x1 xl) own_one)) < (zz - (1 : Int32)) then (FP.d2i (FP.dmul (FP.dsub x1 xl) own_one)) else (zz - (1 : Int32))) then (if (FP.d2i (FP.dmul (FP.dsub x1 xl) own_one)) < (zz - (1 : Int32)) then (FP.d2i (FP.dmul (FP.dsub x1 xl) own_one)) else (zz - (1 : Int32))) else (0 : Int32)))])
  obtain ⟨fs, hr, hrun, hended, hW, hsame⟩ := X6.leave (v := some (.int (if (0 : Int32) < (if (FP.d2i (FP.dmul (FP.dsub x1 xl) own_one)) < (zz - (1 : Int32)) then (FP.d2i (FP.dmul (FP.dsub x1 xl) own_one)) else (zz - (1 : Int32))) then (if (FP.d2i (FP.dmul (FP.dsub x1 xl) own_one)) < (zz - (1 : Int32)) then (FP.d2i (FP.dmul (FP.dsub x1 xl) own_one)) else (zz - (1 : Int32))) else (0 : Int32)))) (fun h => by rw [Bd.returns] at h; cases h)
  refine ⟨_, _, retOut X6 hx (t := .int) Bd.returns rfl (Or.inl ⟨rfl, Or.inl rfl, _, rfl⟩) (hb hby d10_26) hr, hrun, hended, hfin _ _ ⟨_, _, rfl, ?_, ⟨_, rfl⟩, hW, hsame.mono (by decide) (by decide)⟩⟩
  show Q10 Z ob x1 ar kc zz cs xl h0 n0 (some (.int (if (0 : Int32) < (if (FP.d2i (FP.dmul (FP.dsub x1 xl) own_one)) < (zz - (1 : Int32)) then (FP.d2i (FP.dmul (FP.dsub x1 xl) own_one)) else (zz - (1 : Int32))) then (if (FP.d2i (FP.dmul (FP.dsub x1 xl) own_one)) < (zz - (1 : Int32)) then (FP.d2i (FP.dmul (FP.dsub x1 xl) own_one)) else (zz - (1 : Int32))) else (0 : Int32)))) T6.heap _
  rw [e6]
  exact ⟨rfl, N6, rfl⟩
theorem ef_9 (m : MethodId) (x0 : Addr) (x1 : UInt64) : entryFrame m #[(.ref x0), (.double x1)] 3 = mkF m 0 #[.val (.ref x0), .val (.double x1), .second] [] := by first | (simp [entryFrame, mkF, argsToLocals, Value.category]; done) | rfl
theorem d9_0 : decode prog_23_method_2_code 0 = .ok (.aload_n 0, 1) := by decide +kernel
theorem d9_1 : decode prog_23_method_2_code 1 = .ok (.getfield 38, 3) := by decide +kernel
theorem d9_4 : decode prog_23_method_2_code 4 = .ok (.aload_n 0, 1) := by decide +kernel
theorem d9_5 : decode prog_23_method_2_code 5 = .ok (.dload_n 1, 1) := by decide +kernel
theorem pd__D__I : parseMethodDescriptor "(D)I" = some ⟨[.double], some .int⟩ := by decide +kernel
theorem d9_6 : decode prog_23_method_2_code 6 = .ok (.invokevirtual 42, 3) := by decide +kernel
theorem d9_9 : decode prog_23_method_2_code 9 = .ok (.dup2, 1) := by decide +kernel
theorem d9_10 : decode prog_23_method_2_code 10 = .ok (.iaload, 1) := by decide +kernel
theorem d9_11 : decode prog_23_method_2_code 11 = .ok (.iconst 1, 1) := by decide +kernel
theorem d9_12 : decode prog_23_method_2_code 12 = .ok (.iadd, 1) := by decide +kernel
theorem d9_13 : decode prog_23_method_2_code 13 = .ok (.iastore, 1) := by decide +kernel
theorem d9_14 : decode prog_23_method_2_code 14 = .ok (.return_, 1) := by decide +kernel
def Q9 (Z : State) (ob : Addr) (x1 : UInt64) (ar : Addr) (kc : ClassId) (zz : Int32) (cs : List Int32) (xl : UInt64) (ii : Int32) (h0 : Heap) (n0 : Nat) (v : Option Value) (h : Heap) (L : List Loc) : Prop := v = none ∧ Fr n0 L ∧ Keep h0 h [ar] ∧ Arv Z h ar kc .int zz ((own_put cs ii).map Value.int) (.int (0 : Int32))
set_option maxRecDepth 65536 in
set_option maxHeartbeats 40000000 in
theorem rm9 (l : Launch) (Z : State) (a0 : Array Value) (hw : ∀ d ∈ tables_1, d.before a0 Z = true) (ws : List Jvm.Cond) (ob : Addr) (x1 : UInt64) (ar : Addr) (kc : ClassId) (zz : Int32) (cs : List Int32) (xl : UInt64) (ii : Int32) (h0 : Heap) (n0 : Nat) (Z0 : n0 ≤ h0.size) (E_ob : Exa Z h0 ob "com/example/bron/bron/trec/ScoreHistogram") (F_lowest_ob : Fld Z h0 ob "com/example/bron/bron/trec/ScoreHistogram" "lowest" "D" (.double xl)) (F_scale_ob : Fld Z h0 ob "com/example/bron/bron/trec/ScoreHistogram" "scale" "D" (.double own_one)) (F_counts_ob : Fld Z h0 ob "com/example/bron/bron/trec/ScoreHistogram" "counts" "[I" (.ref ar)) (V_ar : Arv Z h0 ar kc .int zz (cs.map Value.int) (.int (0 : Int32))) (ne_oa : ob ≠ ar) (g_ar : n0 ≤ ar) (hN1 : NoNaN64 (FP.dsub x1 xl)) (hN2 : NoNaN64 (FP.dmul (FP.dsub x1 xl) own_one)) (hI : (own_clamp (zz - (1 : Int32)) (FP.d2i (FP.dmul (FP.dsub x1 xl) own_one))) = ii) (hi0 : ¬ ii < 0) (hi1 : ii < zz) (hlen : cs.length = zz.toNatClampNeg) :
    MetFree l (⟨"com/example/bron/bron/trec/ScoreHistogram", "add", "(D)V"⟩ : MethodName) (head1 (Jvm.Cond.code (⟨"com/example/bron/bron/trec/ScoreHistogram", "add", "(D)V"⟩ : MethodName) prog_23_method_2_code 3 none :: ws) ({ frames := 2, cells := 0, slots := 0, locals := 29 } : Room)) (fun a U => a = #[(.ref ob), (.double x1)] ∧ Z.Warmed39 U.vm ∧ U.heap = h0) (fun _ _ _ _ _ => True) (fun _ U o U' => ∃ v L, o = .returned v ∧ Q9 Z ob x1 ar kc zz cs xl ii h0 n0 v U'.heap L ∧ FrameEnd U o U' L ({ frames := 2, cells := 0, slots := 0, locals := 29 } : Room).cells ({ frames := 2, cells := 0, slots := 0, locals := 29 } : Room).slots) := by
  refine MetFree.of_bodySF (plainFor_of_name pn_com_example_bron_bron_trec_ScoreHistogram) hisR ?_
  intro p e s m args below meth c s₁ Bd hml0 hP hK
  obtain ⟨rfl, hZ, hh⟩ := hP
  have hx := Bd.exec
  have hby := Bd.bytes
  have hml : c.maxLocals = 3 := hml0
  have hown : s.vm.findClass "com/example/bron/bron/trec/ScoreHistogram" = some m.cls := findClass_of_methodNamed Bd.named
  have hnm := (name_of_methodNamed Bd.named Bd.method).1
  have X0 : Stand p l e ({ frames := 2, cells := 0, slots := 0, locals := 29 } : Room) s m #[(.ref ob), (.double x1)] below meth c s₁ [] 0 0 := Stand.of_body Bd
  have e0 : s₁.heap = h0 := by rw [← hh, Bd.state]; rfl
  have N0 := Fr.nil n0
  refine own_all ?_
  intro P hfin
  refine own_cast (ef_9 m ob x1) ?_
  show own_Go p e below P s₁ (mkF m 0 #[.val (.ref ob), .val (.double x1), .second] [])
  refine own_step (fun _ k => XS.aloadN X0.here hx rfl (hb hby d9_0) rfl rfl k) ?_
  show own_Go p e below P s₁ (mkF m 1 #[.val (.ref ob), .val (.double x1), .second] [(.ref ob)])
  obtain ⟨T1, X1, e1, st1⟩ := getF X0 hx hZ hown (host := "") (Or.inl (hw _ (List.mem_of_getElem? (i := 30) rfl))) Via.refl e0 F_counts_ob (g := (mkF m 1 #[.val (.ref ob), .val (.double x1), .second] [(.ref ob)])) rfl rfl (hb hby d9_1)
  refine own_step st1 ?_
  show own_Go p e below P T1 (mkF m 4 #[.val (.ref ob), .val (.double x1), .second] [(.ref ar)])
  refine own_step (fun _ k => XS.aloadN X1.here hx rfl (hb hby d9_4) rfl rfl k) ?_
  show own_Go p e below P T1 (mkF m 5 #[.val (.ref ob), .val (.double x1), .second] [(.ref ob), (.ref ar)])
  refine own_step (fun _ k => XS.dloadN X1.here hx rfl (hb hby d9_5) rfl k) ?_
  show own_Go p e below P T1 (mkF m 6 #[.val (.ref ob), .val (.double x1), .second] [(.double x1), (.ref ob), (.ref ar)])
  obtain ⟨cq2, kq2, q2a, q2b, q2c⟩ := isOf hZ e1 E_ob
  obtain ⟨_, _, ⟨T2, L2, k2, n2⟩, -, X2, ⟨Lc2, hQ2, l2, y2, z2⟩, st2⟩ := X1.virtualBack hx (y := (⟨"com/example/bron/bron/trec/ScoreHistogram", "bucket", "(D)I"⟩ : MethodName)) (z := (⟨"com/example/bron/bron/trec/ScoreHistogram", "bucket", "(D)I"⟩ : MethodName)) hown (mvT hZ (hw _ (List.mem_of_getElem? (i := 48) rfl))) (mvT hZ (hw _ (List.mem_of_getElem? (i := 49) rfl))) (notFace_of_selects (args := #[]) (mvT hZ (hw _ (List.mem_of_getElem? (i := 51) rfl)))) (mvT hZ (hw _ (List.mem_of_getElem? (i := 51) rfl))) (mvT hZ (hw _ (List.mem_of_getElem? (i := 50) rfl))) (by decide) (backOf (W := 1) (rm10 l Z a0 hw [] ob x1 ar kc zz cs xl h0 n0 Z0 E_ob F_lowest_ob F_scale_ob F_counts_ob V_ar ne_oa hN1 hN2) hZ (hw _ (List.mem_of_getElem? (i := 52) rfl)) (hw _ (List.mem_of_getElem? (i := 6) rfl)) (by decide) (by decide)) q2a q2c (g := (mkF m 6 #[.val (.ref ob), .val (.double x1), .second] [(.double x1), (.ref ob), (.ref ar)])) rfl (by rw [hml]; rfl) (Steps.refl _) (argsL := [(.double x1)]) (rest := [(.ref ar)]) (lenOf pd__D__I rfl) rfl (by show 2 * 0 + _ ≤ _; exact Nat.le_of_eq rfl) (hb hby d9_6) (fun _ _ => ⟨rfl, e1, (by decide : 0 + 0 ≤ _), (by decide : 0 + 0 ≤ _)⟩)
  dsimp only [Pt.U, Pt.locs, Pt.cells, Pt.slots] at X2 l2 y2 z2 st2 hQ2
  subst l2 y2 z2
  obtain ⟨rfl, N2q, e2⟩ := hQ2
  have N2 := Fr.app N0 N2q
  refine own_step (fun _ k => st2.trans k) ?_
  show own_Go p e below P T2 (mkF m 9 #[.val (.ref ob), .val (.double x1), .second] [(.int (own_clamp (zz - (1 : Int32)) (FP.d2i (FP.dmul (FP.dsub x1 xl) own_one)))), (.ref ar)])
  rw [hI]
  show own_Go p e below P T2 (mkF m 9 #[.val (.ref ob), .val (.double x1), .second] [(.int ii), (.ref ar)])
  refine own_step (fun _ k => XT.dup2 X2.here hx rfl (hb hby d9_9) rfl rfl rfl k) ?_
  show own_Go p e below P T2 (mkF m 10 #[.val (.ref ob), .val (.double x1), .second] [(.int ii), (.ref ar), (.int ii), (.ref ar)])
  obtain ⟨cl3, Ar3, -, S3, M3, H3, -⟩ := (id V_ar)
  have hin3 : ¬ (ii < 0 ∨ cl3.slots.size ≤ (ii).toNatClampNeg) := inb_of S3 ⟨hi0, hi1⟩
  refine own_step (fun t k => X2.iaload hx (j := ii) (v := (.int (cs.getD (ii).toNatClampNeg 0))) (by rw [e2]; exact Ar3.1) (State.isArrayOf_alike hZ.alike Ar3.2.1) Ar3.2.2 hin3 (Has.at H3 hin3 (own_gd cs _)) (g := (mkF m 10 #[.val (.ref ob), .val (.double x1), .second] [(.int ii), (.ref ar), (.int ii), (.ref ar)])) rfl rfl (hb hby d9_10) t k) ?_
  show own_Go p e below P T2 (mkF m 11 #[.val (.ref ob), .val (.double x1), .second] [(.int (cs.getD (ii).toNatClampNeg 0)), (.int ii), (.ref ar)])
  refine own_step (fun _ k => XS.iconst X2.here hx rfl (hb hby d9_11) k) ?_
  show own_Go p e below P T2 (mkF m 12 #[.val (.ref ob), .val (.double x1), .second] [(.int (1 : Int32)), (.int (cs.getD (ii).toNatClampNeg 0)), (.int ii), (.ref ar)])
  refine own_step (fun _ k => XS.iadd X2.here hx rfl (hb hby d9_12) rfl k) ?_
  show own_Go p e below P T2 (mkF m 13 #[.val (.ref ob), .val (.double x1), .second] [(.int ((cs.getD (ii).toNatClampNeg 0) + (1 : Int32))), (.int ii), (.ref ar)])
  obtain ⟨cl4, Ar4, q4, S4, M4, H4, G4⟩ := (id V_ar)
  have hin4 : ¬ (ii < 0 ∨ cl4.slots.size ≤ (ii).toNatClampNeg) := inb_of S4 ⟨hi0, hi1⟩
  obtain ⟨T4, h4, X4, e4, W4, st4⟩ := stI X2 hx hZ e2 Ar4 (j := ii) hin4 (g := (mkF m 13 #[.val (.ref ob), .val (.double x1), .second] [(.int ((cs.getD (ii).toNatClampNeg 0) + (1 : Int32))), (.int ii), (.ref ar)])) rfl rfl (hb hby d9_13)
  have V4 : Arv Z h4 ar kc .int zz ((cs.set (ii).toNatClampNeg ((cs.getD (ii).toNatClampNeg 0) + (1 : Int32))).map Value.int) (.int (0 : Int32)) := by
    rw [List.map_set]
    exact Arv.set Ar4 q4 S4 M4 H4 G4 rfl W4 (ii).toNatClampNeg rfl (by rw [List.length_map]; exact (own_nat hi0 hi1 hlen))
  have N4 := Fr.snoc X4 N2 g_ar
  refine own_step st4 ?_
  show own_Go p e below P T4 (mkF m 14 #[.val (.ref ob), .val (.double x1), .second] [])
  obtain ⟨fs, hr, hrun, hended, hW, hsame⟩ := X4.leave (v := none) (fun _ => rfl)
  refine ⟨_, _, X4.returnOut hx Bd.returns (hb hby d9_14) hr, hrun, hended, hfin _ _ ⟨_, _, rfl, ?_, ⟨_, rfl⟩, hW, hsame.mono (by decide) (by decide)⟩⟩
  show Q9 Z ob x1 ar kc zz cs xl ii h0 n0 none T4.heap _
  rw [e4]
  exact ⟨rfl, N4, ((Keep.refl h0 [ar]).wr W4 (Or.inl (List.mem_of_getElem? (i := 0) rfl))), V4⟩
theorem ef_8 (m : MethodId) (x0 : Addr) (x1 : Int32) : entryFrame m #[(.ref x0), (.int x1)] 4 = mkF m 0 #[.val (.ref x0), .val (.int x1), .unset, .unset] [] := by first | (simp [entryFrame, mkF, argsToLocals, Value.category]; done) | rfl
theorem d8_0 : decode prog_23_method_6_code 0 = .ok (.iconst 0, 1) := by decide +kernel
theorem d8_1 : decode prog_23_method_6_code 1 = .ok (.istore_n 2, 1) := by decide +kernel
theorem d8_2 : decode prog_23_method_6_code 2 = .ok (.iload_n 1, 1) := by decide +kernel
theorem d8_3 : decode prog_23_method_6_code 3 = .ok (.iconst 1, 1) := by decide +kernel
theorem d8_4 : decode prog_23_method_6_code 4 = .ok (.iadd, 1) := by decide +kernel
theorem d8_5 : decode prog_23_method_6_code 5 = .ok (.istore_n 3, 1) := by decide +kernel
theorem d8_6 : decode prog_23_method_6_code 6 = .ok (.iload_n 3, 1) := by decide +kernel
theorem d8_7 : decode prog_23_method_6_code 7 = .ok (.aload_n 0, 1) := by decide +kernel
theorem d8_8 : decode prog_23_method_6_code 8 = .ok (.getfield 38, 3) := by decide +kernel
theorem d8_11 : decode prog_23_method_6_code 11 = .ok (.arraylength, 1) := by decide +kernel
theorem d8_12 : decode prog_23_method_6_code 12 = .ok (.if_icmp .ge 18, 3) := by decide +kernel
theorem d8_30 : decode prog_23_method_6_code 30 = .ok (.iload_n 2, 1) := by decide +kernel
theorem d8_31 : decode prog_23_method_6_code 31 = .ok (.ireturn, 1) := by decide +kernel
theorem d8_15 : decode prog_23_method_6_code 15 = .ok (.iload_n 2, 1) := by decide +kernel
theorem d8_16 : decode prog_23_method_6_code 16 = .ok (.aload_n 0, 1) := by decide +kernel
theorem d8_17 : decode prog_23_method_6_code 17 = .ok (.getfield 38, 3) := by decide +kernel
theorem d8_20 : decode prog_23_method_6_code 20 = .ok (.iload_n 3, 1) := by decide +kernel
theorem d8_21 : decode prog_23_method_6_code 21 = .ok (.iaload, 1) := by decide +kernel
theorem d8_22 : decode prog_23_method_6_code 22 = .ok (.iadd, 1) := by decide +kernel
theorem d8_23 : decode prog_23_method_6_code 23 = .ok (.istore_n 2, 1) := by decide +kernel
theorem d8_24 : decode prog_23_method_6_code 24 = .ok (.iinc 3 1, 3) := by decide +kernel
theorem d8_27 : decode prog_23_method_6_code 27 = .ok (.goto (-21), 3) := by decide +kernel
def Q8 (Z : State) (ob : Addr) (p1 : Int32) (ar : Addr) (kc : ClassId) (zz : Int32) (cs : List Int32) (xl : UInt64) (h0 : Heap) (n0 : Nat) (v : Option Value) (h : Heap) (L : List Loc) : Prop := v = some (.int (own_ab cs p1)) ∧ Fr n0 L ∧ h = h0
set_option maxRecDepth 65536 in
set_option maxHeartbeats 40000000 in
theorem rm8 (l : Launch) (Z : State) (a0 : Array Value) (hw : ∀ d ∈ tables_1, d.before a0 Z = true) (ws : List Jvm.Cond) (ob : Addr) (p1 : Int32) (ar : Addr) (kc : ClassId) (zz : Int32) (cs : List Int32) (xl : UInt64) (h0 : Heap) (n0 : Nat) (Z0 : n0 ≤ h0.size) (E_ob : Exa Z h0 ob "com/example/bron/bron/trec/ScoreHistogram") (F_lowest_ob : Fld Z h0 ob "com/example/bron/bron/trec/ScoreHistogram" "lowest" "D" (.double xl)) (F_scale_ob : Fld Z h0 ob "com/example/bron/bron/trec/ScoreHistogram" "scale" "D" (.double own_one)) (F_counts_ob : Fld Z h0 ob "com/example/bron/bron/trec/ScoreHistogram" "counts" "[I" (.ref ar)) (V_ar : Arv Z h0 ar kc .int zz (cs.map Value.int) (.int (0 : Int32))) (ne_oa : ob ≠ ar) (hlen : cs.length = zz.toNatClampNeg) (hq0 : ¬ p1 < 0) (hq1 : p1 < zz) :
    MetFree l (⟨"com/example/bron/bron/trec/ScoreHistogram", "above", "(I)I"⟩ : MethodName) (head1 (Jvm.Cond.code (⟨"com/example/bron/bron/trec/ScoreHistogram", "above", "(I)I"⟩ : MethodName) prog_23_method_6_code 4 (some .int) :: ws) ({ frames := 0, cells := 0, slots := 0, locals := 0 } : Room)) (fun a U => a = #[(.ref ob), (.int p1)] ∧ Z.Warmed39 U.vm ∧ U.heap = h0) (fun _ _ _ _ _ => True) (fun _ U o U' => ∃ v L, o = .returned v ∧ Q8 Z ob p1 ar kc zz cs xl h0 n0 v U'.heap L ∧ FrameEnd U o U' L ({ frames := 0, cells := 0, slots := 0, locals := 0 } : Room).cells ({ frames := 0, cells := 0, slots := 0, locals := 0 } : Room).slots) := by
  refine MetFree.of_bodySF (plainFor_of_name pn_com_example_bron_bron_trec_ScoreHistogram) hisR ?_
  intro p e s m args below meth c s₁ Bd hml0 hP hK
  obtain ⟨rfl, hZ, hh⟩ := hP
  have hx := Bd.exec
  have hby := Bd.bytes
  have hml : c.maxLocals = 4 := hml0
  have hown : s.vm.findClass "com/example/bron/bron/trec/ScoreHistogram" = some m.cls := findClass_of_methodNamed Bd.named
  have hnm := (name_of_methodNamed Bd.named Bd.method).1
  have X0 : Stand p l e ({ frames := 0, cells := 0, slots := 0, locals := 0 } : Room) s m #[(.ref ob), (.int p1)] below meth c s₁ [] 0 0 := Stand.of_body Bd
  have e0 : s₁.heap = h0 := by rw [← hh, Bd.state]; rfl
  have N0 := Fr.nil n0
  refine own_all ?_
  intro P hfin
  refine own_cast (ef_8 m ob p1) ?_
  show own_Go p e below P s₁ (mkF m 0 #[.val (.ref ob), .val (.int p1), .unset, .unset] [])
  refine own_step (fun _ k => XS.iconst X0.here hx rfl (hb hby d8_0) k) ?_
  show own_Go p e below P s₁ (mkF m 1 #[.val (.ref ob), .val (.int p1), .unset, .unset] [(.int (0 : Int32))])
  refine own_step (fun _ k => XS.istoreN X0.here hx rfl (hb hby d8_1) rfl (l' := #[.val (.ref ob), .val (.int p1), .val (.int (0 : Int32)), .unset]) rfl k) ?_
  show own_Go p e below P s₁ (mkF m 2 #[.val (.ref ob), .val (.int p1), .val (.int (0 : Int32)), .unset] [])
  refine own_step (fun _ k => XS.iloadN X0.here hx rfl (hb hby d8_2) rfl k) ?_
  show own_Go p e below P s₁ (mkF m 3 #[.val (.ref ob), .val (.int p1), .val (.int (0 : Int32)), .unset] [(.int p1)])
  refine own_step (fun _ k => XS.iconst X0.here hx rfl (hb hby d8_3) k) ?_
  show own_Go p e below P s₁ (mkF m 4 #[.val (.ref ob), .val (.int p1), .val (.int (0 : Int32)), .unset] [(.int (1 : Int32)), (.int p1)])
  refine own_step (fun _ k => XS.iadd X0.here hx rfl (hb hby d8_4) rfl k) ?_
  show own_Go p e below P s₁ (mkF m 5 #[.val (.ref ob), .val (.int p1), .val (.int (0 : Int32)), .unset] [(.int (p1 + (1 : Int32)))])
  refine own_step (fun _ k => XS.istoreN X0.here hx rfl (hb hby d8_5) rfl (l' := #[.val (.ref ob), .val (.int p1), .val (.int (0 : Int32)), .val (.int (p1 + (1 : Int32)))]) rfl k) ?_
  show own_Go p e below P s₁ (mkF m 6 #[.val (.ref ob), .val (.int p1), .val (.int (0 : Int32)), .val (.int (p1 + (1 : Int32)))] [])
  have loop : ∀ (k : Nat) (T : State) (acc j : Int32), Stand p l e ({ frames := 0, cells := 0, slots := 0, locals := 0 } : Room) s m #[(.ref ob), (.int p1)] below meth c T [] 0 0 → T.heap = h0 → zz.toNatClampNeg = j.toNatClampNeg + k → ¬ j < 0 → acc + own_sum (cs.drop j.toNatClampNeg) = own_ab cs p1 → own_Go p e below P T (mkF m 6 #[.val (.ref ob), .val (.int p1), .val (.int acc), .val (.int j)] []) := by
    intro k
    induction k with
    | zero =>
      intro T acc j X eT hk hj0 hacc
      have hlt := own_nlt_of hj0 hk
      have hres : acc = own_ab cs p1 := by rw [← hacc, List.drop_of_length_le (by omega)]; simp [own_sum]
      show own_Go p e below P T (mkF m 6 #[.val (.ref ob), .val (.int p1), .val (.int acc), .val (.int j)] [])
      refine own_step (fun _ k => XS.iloadN X.here hx rfl (hb hby d8_6) rfl k) ?_
      show own_Go p e below P T (mkF m 7 #[.val (.ref ob), .val (.int p1), .val (.int acc), .val (.int j)] [(.int j)])
      refine own_step (fun _ k => XS.aloadN X.here hx rfl (hb hby d8_7) rfl rfl k) ?_
      show own_Go p e below P T (mkF m 8 #[.val (.ref ob), .val (.int p1), .val (.int acc), .val (.int j)] [(.ref ob), (.int j)])
      obtain ⟨T1, X1, e1, st1⟩ := getF X hx hZ hown (host := "") (Or.inl (hw _ (List.mem_of_getElem? (i := 30) rfl))) Via.refl eT F_counts_ob (g := (mkF m 8 #[.val (.ref ob), .val (.int p1), .val (.int acc), .val (.int j)] [(.ref ob), (.int j)])) rfl rfl (hb hby d8_8)
      refine own_step st1 ?_
      show own_Go p e below P T1 (mkF m 11 #[.val (.ref ob), .val (.int p1), .val (.int acc), .val (.int j)] [(.ref ar), (.int j)])
      obtain ⟨cl2, Ar2, -, S2, M2, -, -⟩ := (id V_ar)
      refine own_step (fun t k => X1.arraylength hx (by rw [e1]; exact Ar2.1) (State.isArrayOf_alike hZ.alike Ar2.2.1) (g := (mkF m 11 #[.val (.ref ob), .val (.int p1), .val (.int acc), .val (.int j)] [(.ref ar), (.int j)])) rfl rfl (hb hby d8_11) t k) ?_
      rw [len_of S2 M2]
      show own_Go p e below P T1 (mkF m 12 #[.val (.ref ob), .val (.int p1), .val (.int acc), .val (.int j)] [(.int zz), (.int j)])
      refine own_step (fun _ k => XS.icmpYes X1.here hx rfl (pc0 := 12) (pc' := 30) rfl (hb hby d8_12) rfl (flt hlt).2.1 (by decide) (by decide) k) ?_
      show own_Go p e below P T1 (mkF m 30 #[.val (.ref ob), .val (.int p1), .val (.int acc), .val (.int j)] [])
      refine own_step (fun _ k => XS.iloadN X1.here hx rfl (hb hby d8_30) rfl k) ?_
      show own_Go p e below P T1 (mkF m 31 #[.val (.ref ob), .val (.int p1), .val (.int acc), .val (.int j)] [(.int acc)])
      obtain ⟨fs, hr, hrun, hended, hW, hsame⟩ := X1.leave (v := some (.int acc)) (fun h => by rw [Bd.returns] at h; cases h)
      refine ⟨_, _, retOut X1 hx (t := .int) Bd.returns rfl (Or.inl ⟨rfl, Or.inl rfl, _, rfl⟩) (hb hby d8_31) hr, hrun, hended, hfin _ _ ⟨_, _, rfl, ?_, ⟨_, rfl⟩, hW, hsame.mono (by decide) (by decide)⟩⟩
      show Q8 Z ob p1 ar kc zz cs xl h0 n0 (some (.int acc)) T1.heap _
      rw [e1]
      exact ⟨congrArg (fun z => some (Value.int z)) hres, N0, rfl⟩
    | succ k ih =>
      intro T acc j X eT hk hj0 hacc
      have hlt := own_lt_of hj0 hk
      show own_Go p e below P T (mkF m 6 #[.val (.ref ob), .val (.int p1), .val (.int acc), .val (.int j)] [])
      refine own_step (fun _ k => XS.iloadN X.here hx rfl (hb hby d8_6) rfl k) ?_
      show own_Go p e below P T (mkF m 7 #[.val (.ref ob), .val (.int p1), .val (.int acc), .val (.int j)] [(.int j)])
      refine own_step (fun _ k => XS.aloadN X.here hx rfl (hb hby d8_7) rfl rfl k) ?_
      show own_Go p e below P T (mkF m 8 #[.val (.ref ob), .val (.int p1), .val (.int acc), .val (.int j)] [(.ref ob), (.int j)])
      obtain ⟨T4, X4, e4, st4⟩ := getF X hx hZ hown (host := "") (Or.inl (hw _ (List.mem_of_getElem? (i := 30) rfl))) Via.refl eT F_counts_ob (g := (mkF m 8 #[.val (.ref ob), .val (.int p1), .val (.int acc), .val (.int j)] [(.ref ob), (.int j)])) rfl rfl (hb hby d8_8)
      refine own_step st4 ?_
      show own_Go p e below P T4 (mkF m 11 #[.val (.ref ob), .val (.int p1), .val (.int acc), .val (.int j)] [(.ref ar), (.int j)])
      obtain ⟨cl5, Ar5, -, S5, M5, -, -⟩ := (id V_ar)
      refine own_step (fun t k => X4.arraylength hx (by rw [e4]; exact Ar5.1) (State.isArrayOf_alike hZ.alike Ar5.2.1) (g := (mkF m 11 #[.val (.ref ob), .val (.int p1), .val (.int acc), .val (.int j)] [(.ref ar), (.int j)])) rfl rfl (hb hby d8_11) t k) ?_
      rw [len_of S5 M5]
      show own_Go p e below P T4 (mkF m 12 #[.val (.ref ob), .val (.int p1), .val (.int acc), .val (.int j)] [(.int zz), (.int j)])
      refine own_step (fun _ k => XS.icmpNo X4.here hx rfl (hb hby d8_12) rfl (tlt hlt).2.1 k) ?_
      show own_Go p e below P T4 (mkF m 15 #[.val (.ref ob), .val (.int p1), .val (.int acc), .val (.int j)] [])
      refine own_step (fun _ k => XS.iloadN X4.here hx rfl (hb hby d8_15) rfl k) ?_
      show own_Go p e below P T4 (mkF m 16 #[.val (.ref ob), .val (.int p1), .val (.int acc), .val (.int j)] [(.int acc)])
      refine own_step (fun _ k => XS.aloadN X4.here hx rfl (hb hby d8_16) rfl rfl k) ?_
      show own_Go p e below P T4 (mkF m 17 #[.val (.ref ob), .val (.int p1), .val (.int acc), .val (.int j)] [(.ref ob), (.int acc)])
      obtain ⟨T6, X6, e6, st6⟩ := getF X4 hx hZ hown (host := "") (Or.inl (hw _ (List.mem_of_getElem? (i := 30) rfl))) Via.refl e4 F_counts_ob (g := (mkF m 17 #[.val (.ref ob), .val (.int p1), .val (.int acc), .val (.int j)] [(.ref ob), (.int acc)])) rfl rfl (hb hby d8_17)
      refine own_step st6 ?_
      show own_Go p e below P T6 (mkF m 20 #[.val (.ref ob), .val (.int p1), .val (.int acc), .val (.int j)] [(.ref ar), (.int acc)])
      refine own_step (fun _ k => XS.iloadN X6.here hx rfl (hb hby d8_20) rfl k) ?_
      show own_Go p e below P T6 (mkF m 21 #[.val (.ref ob), .val (.int p1), .val (.int acc), .val (.int j)] [(.int j), (.ref ar), (.int acc)])
      obtain ⟨cl7, Ar7, -, S7, M7, H7, -⟩ := (id V_ar)
      have hin7 : ¬ (j < 0 ∨ cl7.slots.size ≤ (j).toNatClampNeg) := inb_of S7 ⟨hj0, hlt⟩
      refine own_step (fun t k => X6.iaload hx (j := j) (v := (.int (cs.getD (j).toNatClampNeg 0))) (by rw [e6]; exact Ar7.1) (State.isArrayOf_alike hZ.alike Ar7.2.1) Ar7.2.2 hin7 (Has.at H7 hin7 (own_gd cs _)) (g := (mkF m 21 #[.val (.ref ob), .val (.int p1), .val (.int acc), .val (.int j)] [(.int j), (.ref ar), (.int acc)])) rfl rfl (hb hby d8_21) t k) ?_
      show own_Go p e below P T6 (mkF m 22 #[.val (.ref ob), .val (.int p1), .val (.int acc), .val (.int j)] [(.int (cs.getD (j).toNatClampNeg 0)), (.int acc)])
      refine own_step (fun _ k => XS.iadd X6.here hx rfl (hb hby d8_22) rfl k) ?_
      show own_Go p e below P T6 (mkF m 23 #[.val (.ref ob), .val (.int p1), .val (.int acc), .val (.int j)] [(.int (acc + (cs.getD (j).toNatClampNeg 0)))])
      refine own_step (fun _ k => XS.istoreN X6.here hx rfl (hb hby d8_23) rfl (l' := #[.val (.ref ob), .val (.int p1), .val (.int (acc + (cs.getD (j).toNatClampNeg 0))), .val (.int j)]) rfl k) ?_
      show own_Go p e below P T6 (mkF m 24 #[.val (.ref ob), .val (.int p1), .val (.int (acc + (cs.getD (j).toNatClampNeg 0))), .val (.int j)] [])
      refine own_step (fun _ k => XS.iinc X6.here hx rfl (hb hby d8_24) rfl (l' := #[.val (.ref ob), .val (.int p1), .val (.int (acc + (cs.getD (j).toNatClampNeg 0))), .val (.int (j + (1 : Int32)))]) rfl k) ?_
      show own_Go p e below P T6 (mkF m 27 #[.val (.ref ob), .val (.int p1), .val (.int (acc + (cs.getD (j).toNatClampNeg 0))), .val (.int (j + (1 : Int32)))] [])
      refine own_step (fun _ k => XS.goto X6.here hx rfl (pc0 := 27) (pc' := 6) rfl (hb hby d8_27) (by decide) (by decide) k) ?_
      show own_Go p e below P T6 (mkF m 6 #[.val (.ref ob), .val (.int p1), .val (.int (acc + (cs.getD (j).toNatClampNeg 0))), .val (.int (j + (1 : Int32)))] [])
      exact ih _ _ _ X6 e6 (by rw [(own_j1 hj0 hlt).1]; omega) (own_j1 hj0 hlt).2 (by rw [(own_j1 hj0 hlt).1, ← hacc, own_sum_drop cs _ (own_nat hj0 hlt hlen), Int32.add_assoc])
  exact loop _ _ _ _ X0 e0 (own_le_of hq0 hq1) (own_j1 hq0 hq1).2 (by rw [(own_j1 hq0 hq1).1]; show 0 + own_ab cs p1 = _; simp)
theorem ef_7 (m : MethodId) (x0 : Addr) (x1 : Int32) (x2 : Int32) (x3 : Int32) (x4 : Int32) : entryFrame m #[(.ref x0), (.int x1), (.int x2), (.int x3), (.int x4)] 8 = mkF m 0 #[.val (.ref x0), .val (.int x1), .val (.int x2), .val (.int x3), .val (.int x4), .unset, .unset, .unset] [] := by first | (simp [entryFrame, mkF, argsToLocals, Value.category]; done) | rfl
theorem pn_com_example_bron_bron_trec_ScoreHistogramAbovePinLaw : plainName "com/example/bron/bron/trec/ScoreHistogramAbovePinLaw" = true := by first | (simp [plainName, overriddenIn]; done) | decide +kernel
theorem d7_0 : decode method_3_code 0 = .ok (.iload 4, 2) := by decide +kernel
theorem d7_2 : decode method_3_code 2 = .ok (.bipush 16, 2) := by decide +kernel
theorem d7_4 : decode method_3_code 4 = .ok (.iand, 1) := by decide +kernel
theorem d7_5 : decode method_3_code 5 = .ok (.ifCond .ne 5, 3) := by decide +kernel
theorem d7_8 : decode method_3_code 8 = .ok (.iconst 0, 1) := by decide +kernel
theorem d7_9 : decode method_3_code 9 = .ok (.ireturn, 1) := by decide +kernel
theorem d7_10 : decode method_3_code 10 = .ok (.iload 4, 2) := by decide +kernel
theorem d7_12 : decode method_3_code 12 = .ok (.bipush 15, 2) := by decide +kernel
theorem d7_14 : decode method_3_code 14 = .ok (.iand, 1) := by decide +kernel
theorem d7_15 : decode method_3_code 15 = .ok (.iconst 4, 1) := by decide +kernel
theorem d7_16 : decode method_3_code 16 = .ok (.isub, 1) := by decide +kernel
theorem d7_17 : decode method_3_code 17 = .ok (.istore 5, 2) := by decide +kernel
theorem d7_19 : decode method_3_code 19 = .ok (.aload_n 0, 1) := by decide +kernel
theorem d7_20 : decode method_3_code 20 = .ok (.iload_n 1, 1) := by decide +kernel
theorem d7_21 : decode method_3_code 21 = .ok (.i2d, 1) := by decide +kernel
theorem d7_22 : decode method_3_code 22 = .ok (.iload 5, 2) := by decide +kernel
theorem d7_24 : decode method_3_code 24 = .ok (.i2d, 1) := by decide +kernel
theorem d7_25 : decode method_3_code 25 = .ok (.ldc2_w 29, 3) := by decide +kernel
theorem d7_28 : decode method_3_code 28 = .ok (.ddiv, 1) := by decide +kernel
theorem d7_29 : decode method_3_code 29 = .ok (.dadd, 1) := by decide +kernel
theorem pd__D__V : parseMethodDescriptor "(D)V" = some ⟨[.double], none⟩ := by decide +kernel
theorem d7_30 : decode method_3_code 30 = .ok (.invokevirtual 31, 3) := by decide +kernel
theorem d7_33 : decode method_3_code 33 = .ok (.iload 5, 2) := by decide +kernel
theorem d7_35 : decode method_3_code 35 = .ok (.iconst 2, 1) := by decide +kernel
theorem d7_36 : decode method_3_code 36 = .ok (.idiv, 1) := by decide +kernel
theorem d7_37 : decode method_3_code 37 = .ok (.istore 6, 2) := by decide +kernel
theorem d7_39 : decode method_3_code 39 = .ok (.iconst 0, 1) := by decide +kernel
theorem d7_40 : decode method_3_code 40 = .ok (.iload_n 2, 1) := by decide +kernel
theorem d7_41 : decode method_3_code 41 = .ok (.iload 6, 2) := by decide +kernel
theorem d7_43 : decode method_3_code 43 = .ok (.invokestatic 35, 3) := by decide +kernel
theorem d7_46 : decode method_3_code 46 = .ok (.invokestatic 7, 3) := by decide +kernel
theorem d7_49 : decode method_3_code 49 = .ok (.istore 7, 2) := by decide +kernel
theorem d7_51 : decode method_3_code 51 = .ok (.iload 7, 2) := by decide +kernel
theorem d7_53 : decode method_3_code 53 = .ok (.iload_n 3, 1) := by decide +kernel
theorem d7_54 : decode method_3_code 54 = .ok (.if_icmp .le 7, 3) := by decide +kernel
theorem d7_57 : decode method_3_code 57 = .ok (.iconst 1, 1) := by decide +kernel
theorem d7_58 : decode method_3_code 58 = .ok (.goto 4, 3) := by decide +kernel
theorem d7_62 : decode method_3_code 62 = .ok (.ireturn, 1) := by decide +kernel
theorem d7_61 : decode method_3_code 61 = .ok (.iconst 0, 1) := by decide +kernel
def Q7 (Z : State) (ob : Addr) (p1 : Int32) (p2 : Int32) (p3 : Int32) (p4 : Int32) (ar : Addr) (kc : ClassId) (cs : List Int32) (h0 : Heap) (n0 : Nat) (v : Option Value) (h : Heap) (L : List Loc) : Prop := ∃ (cs' : List Int32) (r : Int32), v = some (.int r) ∧ cs'.length = cs.length ∧ own_ab cs' p3 = own_ab cs p3 + r ∧ Fr n0 L ∧ Keep h0 h [ar] ∧ Arv Z h ar kc .int (p2 + (1 : Int32)) (cs'.map Value.int) (.int (0 : Int32))
set_option maxRecDepth 65536 in
set_option maxHeartbeats 40000000 in
theorem rm7 (l : Launch) (Z : State) (a0 : Array Value) (hw : ∀ d ∈ tables_1, d.before a0 Z = true) (ws : List Jvm.Cond) (ob : Addr) (p1 : Int32) (p2 : Int32) (p3 : Int32) (p4 : Int32) (ar : Addr) (kc : ClassId) (cs : List Int32) (h0 : Heap) (n0 : Nat) (Z0 : n0 ≤ h0.size) (E_ob : Exa Z h0 ob "com/example/bron/bron/trec/ScoreHistogram") (F_lowest_ob : Fld Z h0 ob "com/example/bron/bron/trec/ScoreHistogram" "lowest" "D" (.double (FP.i2d p1))) (F_scale_ob : Fld Z h0 ob "com/example/bron/bron/trec/ScoreHistogram" "scale" "D" (.double own_one)) (F_counts_ob : Fld Z h0 ob "com/example/bron/bron/trec/ScoreHistogram" "counts" "[I" (.ref ar)) (V_ar : Arv Z h0 ar kc .int (p2 + (1 : Int32)) (cs.map Value.int) (.int (0 : Int32))) (ne_oa : ob ≠ ar) (g_ar : n0 ≤ ar) (hlow : own_low p1) (hE : 1 ≤ p2.toInt ∧ p2.toInt ≤ 4) (hlen : cs.length = (p2 + (1 : Int32)).toNatClampNeg) (hq0 : ¬ p3 < 0) :
    MetFree l (⟨"com/example/bron/bron/trec/ScoreHistogramAbovePinLaw", "put", "(Lcom/example/bron/bron/trec/ScoreHistogram;IIII)I"⟩ : MethodName) (head1 (Jvm.Cond.code (⟨"com/example/bron/bron/trec/ScoreHistogramAbovePinLaw", "put", "(Lcom/example/bron/bron/trec/ScoreHistogram;IIII)I"⟩ : MethodName) method_3_code 8 (some .int) :: ws) ({ frames := 3, cells := 0, slots := 0, locals := 43 } : Room)) (fun a U => a = #[(.ref ob), (.int p1), (.int p2), (.int p3), (.int p4)] ∧ Z.Warmed39 U.vm ∧ U.heap = h0) (fun _ _ _ _ _ => True) (fun _ U o U' => ∃ v L, o = .returned v ∧ Q7 Z ob p1 p2 p3 p4 ar kc cs h0 n0 v U'.heap L ∧ FrameEnd U o U' L ({ frames := 3, cells := 0, slots := 0, locals := 43 } : Room).cells ({ frames := 3, cells := 0, slots := 0, locals := 43 } : Room).slots) := by
  refine MetFree.of_bodySF (plainFor_of_name pn_com_example_bron_bron_trec_ScoreHistogramAbovePinLaw) hisR ?_
  intro p e s m args below meth c s₁ Bd hml0 hP hK
  obtain ⟨rfl, hZ, hh⟩ := hP
  have hx := Bd.exec
  have hby := Bd.bytes
  have hml : c.maxLocals = 8 := hml0
  have hown : s.vm.findClass "com/example/bron/bron/trec/ScoreHistogramAbovePinLaw" = some m.cls := findClass_of_methodNamed Bd.named
  have hnm := (name_of_methodNamed Bd.named Bd.method).1
  have X0 : Stand p l e ({ frames := 3, cells := 0, slots := 0, locals := 43 } : Room) s m #[(.ref ob), (.int p1), (.int p2), (.int p3), (.int p4)] below meth c s₁ [] 0 0 := Stand.of_body Bd
  have e0 : s₁.heap = h0 := by rw [← hh, Bd.state]; rfl
  have N0 := Fr.nil n0
  refine own_all ?_
  intro P hfin
  refine own_cast (ef_7 m ob p1 p2 p3 p4) ?_
  show own_Go p e below P s₁ (mkF m 0 #[.val (.ref ob), .val (.int p1), .val (.int p2), .val (.int p3), .val (.int p4), .unset, .unset, .unset] [])
  refine own_step (fun _ k => XS.iload X0.here hx rfl (hb hby d7_0) rfl k) ?_
  show own_Go p e below P s₁ (mkF m 2 #[.val (.ref ob), .val (.int p1), .val (.int p2), .val (.int p3), .val (.int p4), .unset, .unset, .unset] [(.int p4)])
  refine own_step (fun _ k => XS.bipush X0.here hx rfl (hb hby d7_2) k) ?_
  show own_Go p e below P s₁ (mkF m 4 #[.val (.ref ob), .val (.int p1), .val (.int p2), .val (.int p3), .val (.int p4), .unset, .unset, .unset] [(.int (16 : Int32)), (.int p4)])
  refine own_step (fun _ k => XS.iand X0.here hx rfl (hb hby d7_4) rfl k) ?_
  show own_Go p e below P s₁ (mkF m 5 #[.val (.ref ob), .val (.int p1), .val (.int p2), .val (.int p3), .val (.int p4), .unset, .unset, .unset] [(.int (p4 &&& (16 : Int32)))])
  by_cases hc1 : (p4 &&& (16 : Int32)) = (0 : Int32)
  · refine own_step (fun _ k => XS.ifNo X0.here hx rfl (hb hby d7_5) rfl ((if0 _ _).trans (teq hc1).2) k) ?_
    show own_Go p e below P s₁ (mkF m 8 #[.val (.ref ob), .val (.int p1), .val (.int p2), .val (.int p3), .val (.int p4), .unset, .unset, .unset] [])
    refine own_step (fun _ k => XS.iconst X0.here hx rfl (hb hby d7_8) k) ?_
    show own_Go p e below P s₁ (mkF m 9 #[.val (.ref ob), .val (.int p1), .val (.int p2), .val (.int p3), .val (.int p4), .unset, .unset, .unset] [(.int (0 : Int32))])
    obtain ⟨fs, hr, hrun, hended, hW, hsame⟩ := X0.leave (v := some (.int (0 : Int32))) (fun h => by rw [Bd.returns] at h; cases h)
    refine ⟨_, _, retOut X0 hx (t := .int) Bd.returns rfl (Or.inl ⟨rfl, Or.inl rfl, _, rfl⟩) (hb hby d7_9) hr, hrun, hended, hfin _ _ ⟨_, _, rfl, ?_, ⟨_, rfl⟩, hW, hsame.mono (by decide) (by decide)⟩⟩
    show Q7 Z ob p1 p2 p3 p4 ar kc cs h0 n0 (some (.int (0 : Int32))) s₁.heap _
    rw [e0]
    exact ⟨cs, 0, rfl, rfl, (by simp), N0, (Keep.refl h0 [ar]), V_ar⟩
  · refine own_step (fun _ k => XS.ifYes X0.here hx rfl (pc0 := 5) (pc' := 10) rfl (hb hby d7_5) rfl ((if0 _ _).trans (feq hc1).2) (by decide) (by decide) k) ?_
    show own_Go p e below P s₁ (mkF m 10 #[.val (.ref ob), .val (.int p1), .val (.int p2), .val (.int p3), .val (.int p4), .unset, .unset, .unset] [])
    refine own_step (fun _ k => XS.iload X0.here hx rfl (hb hby d7_10) rfl k) ?_
    show own_Go p e below P s₁ (mkF m 12 #[.val (.ref ob), .val (.int p1), .val (.int p2), .val (.int p3), .val (.int p4), .unset, .unset, .unset] [(.int p4)])
    refine own_step (fun _ k => XS.bipush X0.here hx rfl (hb hby d7_12) k) ?_
    show own_Go p e below P s₁ (mkF m 14 #[.val (.ref ob), .val (.int p1), .val (.int p2), .val (.int p3), .val (.int p4), .unset, .unset, .unset] [(.int (15 : Int32)), (.int p4)])
    refine own_step (fun _ k => XS.iand X0.here hx rfl (hb hby d7_14) rfl k) ?_
    show own_Go p e below P s₁ (mkF m 15 #[.val (.ref ob), .val (.int p1), .val (.int p2), .val (.int p3), .val (.int p4), .unset, .unset, .unset] [(.int (p4 &&& (15 : Int32)))])
    refine own_step (fun _ k => XS.iconst X0.here hx rfl (hb hby d7_15) k) ?_
    show own_Go p e below P s₁ (mkF m 16 #[.val (.ref ob), .val (.int p1), .val (.int p2), .val (.int p3), .val (.int p4), .unset, .unset, .unset] [(.int (4 : Int32)), (.int (p4 &&& (15 : Int32)))])
    refine own_step (fun _ k => XS.isub X0.here hx rfl (hb hby d7_16) rfl k) ?_
    show own_Go p e below P s₁ (mkF m 17 #[.val (.ref ob), .val (.int p1), .val (.int p2), .val (.int p3), .val (.int p4), .unset, .unset, .unset] [(.int ((p4 &&& (15 : Int32)) - (4 : Int32)))])
    refine own_step (fun _ k => XS.istore X0.here hx rfl (hb hby d7_17) rfl (l' := #[.val (.ref ob), .val (.int p1), .val (.int p2), .val (.int p3), .val (.int p4), .val (.int ((p4 &&& (15 : Int32)) - (4 : Int32))), .unset, .unset]) rfl k) ?_
    show own_Go p e below P s₁ (mkF m 19 #[.val (.ref ob), .val (.int p1), .val (.int p2), .val (.int p3), .val (.int p4), .val (.int ((p4 &&& (15 : Int32)) - (4 : Int32))), .unset, .unset] [])
    refine own_step (fun _ k => XS.aloadN X0.here hx rfl (hb hby d7_19) rfl rfl k) ?_
    show own_Go p e below P s₁ (mkF m 20 #[.val (.ref ob), .val (.int p1), .val (.int p2), .val (.int p3), .val (.int p4), .val (.int ((p4 &&& (15 : Int32)) - (4 : Int32))), .unset, .unset] [(.ref ob)])
    refine own_step (fun _ k => XS.iloadN X0.here hx rfl (hb hby d7_20) rfl k) ?_
    show own_Go p e below P s₁ (mkF m 21 #[.val (.ref ob), .val (.int p1), .val (.int p2), .val (.int p3), .val (.int p4), .val (.int ((p4 &&& (15 : Int32)) - (4 : Int32))), .unset, .unset] [(.int p1), (.ref ob)])
    refine own_step (fun _ k => XS.i2dS X0.here hx rfl (hb hby d7_21) rfl rfl k) ?_
    show own_Go p e below P s₁ (mkF m 22 #[.val (.ref ob), .val (.int p1), .val (.int p2), .val (.int p3), .val (.int p4), .val (.int ((p4 &&& (15 : Int32)) - (4 : Int32))), .unset, .unset] [(.double (FP.i2d p1)), (.ref ob)])
    refine own_step (fun _ k => XS.iload X0.here hx rfl (hb hby d7_22) rfl k) ?_
    show own_Go p e below P s₁ (mkF m 24 #[.val (.ref ob), .val (.int p1), .val (.int p2), .val (.int p3), .val (.int p4), .val (.int ((p4 &&& (15 : Int32)) - (4 : Int32))), .unset, .unset] [(.int ((p4 &&& (15 : Int32)) - (4 : Int32))), (.double (FP.i2d p1)), (.ref ob)])
    refine own_step (fun _ k => XS.i2dS X0.here hx rfl (hb hby d7_24) rfl rfl k) ?_
    show own_Go p e below P s₁ (mkF m 25 #[.val (.ref ob), .val (.int p1), .val (.int p2), .val (.int p3), .val (.int p4), .val (.int ((p4 &&& (15 : Int32)) - (4 : Int32))), .unset, .unset] [(.double (FP.i2d ((p4 &&& (15 : Int32)) - (4 : Int32)))), (.double (FP.i2d p1)), (.ref ob)])
    refine own_step (fun t k => X0.ldc2DoubleC hx hown (mvT hZ (hw _ (List.mem_of_getElem? (i := 42) rfl))) (g := (mkF m 25 #[.val (.ref ob), .val (.int p1), .val (.int p2), .val (.int p3), .val (.int p4), .val (.int ((p4 &&& (15 : Int32)) - (4 : Int32))), .unset, .unset] [(.double (FP.i2d ((p4 &&& (15 : Int32)) - (4 : Int32)))), (.double (FP.i2d p1)), (.ref ob)])) rfl (hb hby d7_25) t k) ?_
    show own_Go p e below P s₁ (mkF m 28 #[.val (.ref ob), .val (.int p1), .val (.int p2), .val (.int p3), .val (.int p4), .val (.int ((p4 &&& (15 : Int32)) - (4 : Int32))), .unset, .unset] [(.double (4611686018427387904 : UInt64)), (.double (FP.i2d ((p4 &&& (15 : Int32)) - (4 : Int32)))), (.double (FP.i2d p1)), (.ref ob)])
    refine own_step (fun _ k => XS.ddivS X0.here hx rfl (hb hby d7_28) rfl (own_sc hlow p4).2.1 rfl k) ?_
    show own_Go p e below P s₁ (mkF m 29 #[.val (.ref ob), .val (.int p1), .val (.int p2), .val (.int p3), .val (.int p4), .val (.int ((p4 &&& (15 : Int32)) - (4 : Int32))), .unset, .unset] [(.double (FP.ddiv (FP.i2d ((p4 &&& (15 : Int32)) - (4 : Int32))) (4611686018427387904 : UInt64))), (.double (FP.i2d p1)), (.ref ob)])
    refine own_step (fun _ k => XS.daddS X0.here hx rfl (hb hby d7_29) rfl (own_sc hlow p4).2.2.1 rfl k) ?_
    show own_Go p e below P s₁ (mkF m 30 #[.val (.ref ob), .val (.int p1), .val (.int p2), .val (.int p3), .val (.int p4), .val (.int ((p4 &&& (15 : Int32)) - (4 : Int32))), .unset, .unset] [(.double (own_sco p1 ((p4 &&& (15 : Int32)) - (4 : Int32)))), (.ref ob)])
    obtain ⟨cq3, kq3, q3a, q3b, q3c⟩ := isOf hZ e0 E_ob
    obtain ⟨_, _, ⟨T3, L3, k3, n3⟩, -, X3, ⟨Lc3, hQ3, l3, y3, z3⟩, st3⟩ := X0.virtualBack hx (y := (⟨"com/example/bron/bron/trec/ScoreHistogram", "add", "(D)V"⟩ : MethodName)) (z := (⟨"com/example/bron/bron/trec/ScoreHistogram", "add", "(D)V"⟩ : MethodName)) hown (mvT hZ (hw _ (List.mem_of_getElem? (i := 43) rfl))) (mvT hZ (hw _ (List.mem_of_getElem? (i := 44) rfl))) (notFace_of_selects (args := #[]) (mvT hZ (hw _ (List.mem_of_getElem? (i := 46) rfl)))) (mvT hZ (hw _ (List.mem_of_getElem? (i := 46) rfl))) (mvT hZ (hw _ (List.mem_of_getElem? (i := 45) rfl))) (by decide) (backOf (W := 0) (rm9 l Z a0 hw [] ob (own_sco p1 ((p4 &&& (15 : Int32)) - (4 : Int32))) ar kc (p2 + (1 : Int32)) cs (FP.i2d p1) (own_clamp p2 (((p4 &&& (15 : Int32)) - (4 : Int32)) / (2 : Int32))) h0 n0 Z0 E_ob F_lowest_ob F_scale_ob F_counts_ob V_ar ne_oa g_ar (own_sc hlow p4).2.2.2.1 (own_sc hlow p4).2.2.2.2 (by rw [own_b1 hE, (own_sc hlow p4).1]) (own_cl hE).1 (own_cl hE).2 hlen) hZ (hw _ (List.mem_of_getElem? (i := 47) rfl)) (hw _ (List.mem_of_getElem? (i := 6) rfl)) (by decide) (by decide)) q3a q3c (g := (mkF m 30 #[.val (.ref ob), .val (.int p1), .val (.int p2), .val (.int p3), .val (.int p4), .val (.int ((p4 &&& (15 : Int32)) - (4 : Int32))), .unset, .unset] [(.double (own_sco p1 ((p4 &&& (15 : Int32)) - (4 : Int32)))), (.ref ob)])) rfl (by rw [hml]; rfl) (Steps.refl _) (argsL := [(.double (own_sco p1 ((p4 &&& (15 : Int32)) - (4 : Int32))))]) (rest := []) (lenOf pd__D__V rfl) rfl (by show 2 * 0 + _ ≤ _; exact Nat.le_of_eq rfl) (hb hby d7_30) (fun _ _ => ⟨rfl, e0, (by decide : 0 + 0 ≤ _), (by decide : 0 + 0 ≤ _)⟩)
    dsimp only [Pt.U, Pt.locs, Pt.cells, Pt.slots] at X3 l3 y3 z3 st3 hQ3
    subst l3 y3 z3
    obtain ⟨rfl, N3q, K3, V3⟩ := hQ3
    have N3 := Fr.app N0 N3q
    refine own_step (fun _ k => st3.trans k) ?_
    show own_Go p e below P T3 (mkF m 33 #[.val (.ref ob), .val (.int p1), .val (.int p2), .val (.int p3), .val (.int p4), .val (.int ((p4 &&& (15 : Int32)) - (4 : Int32))), .unset, .unset] [])
    refine own_step (fun _ k => XS.iload X3.here hx rfl (hb hby d7_33) rfl k) ?_
    show own_Go p e below P T3 (mkF m 35 #[.val (.ref ob), .val (.int p1), .val (.int p2), .val (.int p3), .val (.int p4), .val (.int ((p4 &&& (15 : Int32)) - (4 : Int32))), .unset, .unset] [(.int ((p4 &&& (15 : Int32)) - (4 : Int32)))])
    refine own_step (fun _ k => XS.iconst X3.here hx rfl (hb hby d7_35) k) ?_
    show own_Go p e below P T3 (mkF m 36 #[.val (.ref ob), .val (.int p1), .val (.int p2), .val (.int p3), .val (.int p4), .val (.int ((p4 &&& (15 : Int32)) - (4 : Int32))), .unset, .unset] [(.int (2 : Int32)), (.int ((p4 &&& (15 : Int32)) - (4 : Int32)))])
    refine own_step (fun _ k => XS.idiv X3.here hx rfl (hb hby d7_36) rfl (by decide : ¬ ((2 : Int32) = (0 : Int32))) k) ?_
    show own_Go p e below P T3 (mkF m 37 #[.val (.ref ob), .val (.int p1), .val (.int p2), .val (.int p3), .val (.int p4), .val (.int ((p4 &&& (15 : Int32)) - (4 : Int32))), .unset, .unset] [(.int (((p4 &&& (15 : Int32)) - (4 : Int32)) / (2 : Int32)))])
    refine own_step (fun _ k => XS.istore X3.here hx rfl (hb hby d7_37) rfl (l' := #[.val (.ref ob), .val (.int p1), .val (.int p2), .val (.int p3), .val (.int p4), .val (.int ((p4 &&& (15 : Int32)) - (4 : Int32))), .val (.int (((p4 &&& (15 : Int32)) - (4 : Int32)) / (2 : Int32))), .unset]) rfl k) ?_
    show own_Go p e below P T3 (mkF m 39 #[.val (.ref ob), .val (.int p1), .val (.int p2), .val (.int p3), .val (.int p4), .val (.int ((p4 &&& (15 : Int32)) - (4 : Int32))), .val (.int (((p4 &&& (15 : Int32)) - (4 : Int32)) / (2 : Int32))), .unset] [])
    refine own_step (fun _ k => XS.iconst X3.here hx rfl (hb hby d7_39) k) ?_
    show own_Go p e below P T3 (mkF m 40 #[.val (.ref ob), .val (.int p1), .val (.int p2), .val (.int p3), .val (.int p4), .val (.int ((p4 &&& (15 : Int32)) - (4 : Int32))), .val (.int (((p4 &&& (15 : Int32)) - (4 : Int32)) / (2 : Int32))), .unset] [(.int (0 : Int32))])
    refine own_step (fun _ k => XS.iloadN X3.here hx rfl (hb hby d7_40) rfl k) ?_
    show own_Go p e below P T3 (mkF m 41 #[.val (.ref ob), .val (.int p1), .val (.int p2), .val (.int p3), .val (.int p4), .val (.int ((p4 &&& (15 : Int32)) - (4 : Int32))), .val (.int (((p4 &&& (15 : Int32)) - (4 : Int32)) / (2 : Int32))), .unset] [(.int p2), (.int (0 : Int32))])
    refine own_step (fun _ k => XS.iload X3.here hx rfl (hb hby d7_41) rfl k) ?_
    show own_Go p e below P T3 (mkF m 43 #[.val (.ref ob), .val (.int p1), .val (.int p2), .val (.int p3), .val (.int p4), .val (.int ((p4 &&& (15 : Int32)) - (4 : Int32))), .val (.int (((p4 &&& (15 : Int32)) - (4 : Int32)) / (2 : Int32))), .unset] [(.int (((p4 &&& (15 : Int32)) - (4 : Int32)) / (2 : Int32))), (.int p2), (.int (0 : Int32))])
    obtain ⟨_, _, ⟨T4, L4, k4, n4⟩, -, X4, ⟨Lc4, hQ4, l4, y4, z4⟩, st4⟩ := Jvm.LawKit.callS X3 hx (y := (⟨"java/lang/Math", "min", "(II)I"⟩ : MethodName)) hown (mvT hZ (hw _ (List.mem_of_getElem? (i := 53) rfl))) (mvT hZ (hw _ (List.mem_of_getElem? (i := 22) rfl))) (mvT hZ (hw _ (List.mem_of_getElem? (i := 2) rfl))) (mvT hZ (hw _ (List.mem_of_getElem? (i := 23) rfl))) (by decide) (backOf (W := 1) (rm6 l Z a0 hw [] p2 (((p4 &&& (15 : Int32)) - (4 : Int32)) / (2 : Int32)) T3.heap n0 (Nat.le_trans Z0 K3.1)) hZ (hw _ (List.mem_of_getElem? (i := 23) rfl)) (hw _ (List.mem_of_getElem? (i := 2) rfl)) (by decide) (by decide)) (g := (mkF m 43 #[.val (.ref ob), .val (.int p1), .val (.int p2), .val (.int p3), .val (.int p4), .val (.int ((p4 &&& (15 : Int32)) - (4 : Int32))), .val (.int (((p4 &&& (15 : Int32)) - (4 : Int32)) / (2 : Int32))), .unset] [(.int (((p4 &&& (15 : Int32)) - (4 : Int32)) / (2 : Int32))), (.int p2), (.int (0 : Int32))])) rfl (by rw [hml]; rfl) (argsL := [(.int p2), (.int (((p4 &&& (15 : Int32)) - (4 : Int32)) / (2 : Int32)))]) (rest := [(.int (0 : Int32))]) (lenOf pd__II__I rfl) rfl (by show 2 * 0 + _ ≤ _; exact Nat.le_of_eq rfl) (hb hby d7_43) (fun _ _ => ⟨rfl, rfl, (by decide : 0 + 0 ≤ _), (by decide : 0 + 0 ≤ _)⟩)
    dsimp only [Pt.U, Pt.locs, Pt.cells, Pt.slots] at X4 l4 y4 z4 st4 hQ4
    subst l4 y4 z4
    obtain ⟨rfl, N4q, e4⟩ := hQ4
    have N4 := Fr.app N3 N4q
    refine own_step st4 ?_
    show own_Go p e below P T4 (mkF m 46 #[.val (.ref ob), .val (.int p1), .val (.int p2), .val (.int p3), .val (.int p4), .val (.int ((p4 &&& (15 : Int32)) - (4 : Int32))), .val (.int (((p4 &&& (15 : Int32)) - (4 : Int32)) / (2 : Int32))), .unset] [(.int (if (((p4 &&& (15 : Int32)) - (4 : Int32)) / (2 : Int32)) < p2 then (((p4 &&& (15 : Int32)) - (4 : Int32)) / (2 : Int32)) else p2)), (.int (0 : Int32))])
    obtain ⟨_, _, ⟨T5, L5, k5, n5⟩, -, X5, ⟨Lc5, hQ5, l5, y5, z5⟩, st5⟩ := Jvm.LawKit.callS X4 hx (y := (⟨"java/lang/Math", "max", "(II)I"⟩ : MethodName)) hown (mvT hZ (hw _ (List.mem_of_getElem? (i := 0) rfl))) (mvT hZ (hw _ (List.mem_of_getElem? (i := 1) rfl))) (mvT hZ (hw _ (List.mem_of_getElem? (i := 2) rfl))) (mvT hZ (hw _ (List.mem_of_getElem? (i := 3) rfl))) (by decide) (backOf (W := 0) (rm1 l Z a0 hw [] (0 : Int32) (if (((p4 &&& (15 : Int32)) - (4 : Int32)) / (2 : Int32)) < p2 then (((p4 &&& (15 : Int32)) - (4 : Int32)) / (2 : Int32)) else p2) T3.heap n0 (Nat.le_trans Z0 K3.1)) hZ (hw _ (List.mem_of_getElem? (i := 3) rfl)) (hw _ (List.mem_of_getElem? (i := 2) rfl)) (by decide) (by decide)) (g := (mkF m 46 #[.val (.ref ob), .val (.int p1), .val (.int p2), .val (.int p3), .val (.int p4), .val (.int ((p4 &&& (15 : Int32)) - (4 : Int32))), .val (.int (((p4 &&& (15 : Int32)) - (4 : Int32)) / (2 : Int32))), .unset] [(.int (if (((p4 &&& (15 : Int32)) - (4 : Int32)) / (2 : Int32)) < p2 then (((p4 &&& (15 : Int32)) - (4 : Int32)) / (2 : Int32)) else p2)), (.int (0 : Int32))])) rfl (by rw [hml]; rfl) (argsL := [(.int (0 : Int32)), (.int (if (((p4 &&& (15 : Int32)) - (4 : Int32)) / (2 : Int32)) < p2 then (((p4 &&& (15 : Int32)) - (4 : Int32)) / (2 : Int32)) else p2))]) (rest := []) (lenOf pd__II__I rfl) rfl (by show 2 * 0 + _ ≤ _; exact Nat.le_of_eq rfl) (hb hby d7_46) (fun _ _ => ⟨rfl, e4, (by decide : 0 + 0 ≤ _), (by decide : 0 + 0 ≤ _)⟩)
    dsimp only [Pt.U, Pt.locs, Pt.cells, Pt.slots] at X5 l5 y5 z5 st5 hQ5
    subst l5 y5 z5
    obtain ⟨rfl, N5q, e5⟩ := hQ5
    have N5 := Fr.app N4 N5q
    refine own_step st5 ?_
    show own_Go p e below P T5 (mkF m 49 #[.val (.ref ob), .val (.int p1), .val (.int p2), .val (.int p3), .val (.int p4), .val (.int ((p4 &&& (15 : Int32)) - (4 : Int32))), .val (.int (((p4 &&& (15 : Int32)) - (4 : Int32)) / (2 : Int32))), .unset] [(.int (if (0 : Int32) < (if (((p4 &&& (15 : Int32)) - (4 : Int32)) / (2 : Int32)) < p2 then (((p4 &&& (15 : Int32)) - (4 : Int32)) / (2 : Int32)) else p2) then (if (((p4 &&& (15 : Int32)) - (4 : Int32)) / (2 : Int32)) < p2 then (((p4 &&& (15 : Int32)) - (4 : Int32)) / (2 : Int32)) else p2) else (0 : Int32)))])
    show own_Go p e below P T5 (mkF m 49 #[.val (.ref ob), .val (.int p1), .val (.int p2), .val (.int p3), .val (.int p4), .val (.int ((p4 &&& (15 : Int32)) - (4 : Int32))), .val (.int (((p4 &&& (15 : Int32)) - (4 : Int32)) / (2 : Int32))), .unset] [(.int (own_clamp p2 (((p4 &&& (15 : Int32)) - (4 : Int32)) / (2 : Int32))))])
    refine own_step (fun _ k => XS.istore X5.here hx rfl (hb hby d7_49) rfl (l' := #[.val (.ref ob), .val (.int p1), .val (.int p2), .val (.int p3), .val (.int p4), .val (.int ((p4 &&& (15 : Int32)) - (4 : Int32))), .val (.int (((p4 &&& (15 : Int32)) - (4 : Int32)) / (2 : Int32))), .val (.int (own_clamp p2 (((p4 &&& (15 : Int32)) - (4 : Int32)) / (2 : Int32))))]) rfl k) ?_
    show own_Go p e below P T5 (mkF m 51 #[.val (.ref ob), .val (.int p1), .val (.int p2), .val (.int p3), .val (.int p4), .val (.int ((p4 &&& (15 : Int32)) - (4 : Int32))), .val (.int (((p4 &&& (15 : Int32)) - (4 : Int32)) / (2 : Int32))), .val (.int (own_clamp p2 (((p4 &&& (15 : Int32)) - (4 : Int32)) / (2 : Int32))))] [])
    refine own_step (fun _ k => XS.iload X5.here hx rfl (hb hby d7_51) rfl k) ?_
    show own_Go p e below P T5 (mkF m 53 #[.val (.ref ob), .val (.int p1), .val (.int p2), .val (.int p3), .val (.int p4), .val (.int ((p4 &&& (15 : Int32)) - (4 : Int32))), .val (.int (((p4 &&& (15 : Int32)) - (4 : Int32)) / (2 : Int32))), .val (.int (own_clamp p2 (((p4 &&& (15 : Int32)) - (4 : Int32)) / (2 : Int32))))] [(.int (own_clamp p2 (((p4 &&& (15 : Int32)) - (4 : Int32)) / (2 : Int32))))])
    refine own_step (fun _ k => XS.iloadN X5.here hx rfl (hb hby d7_53) rfl k) ?_
    show own_Go p e below P T5 (mkF m 54 #[.val (.ref ob), .val (.int p1), .val (.int p2), .val (.int p3), .val (.int p4), .val (.int ((p4 &&& (15 : Int32)) - (4 : Int32))), .val (.int (((p4 &&& (15 : Int32)) - (4 : Int32)) / (2 : Int32))), .val (.int (own_clamp p2 (((p4 &&& (15 : Int32)) - (4 : Int32)) / (2 : Int32))))] [(.int p3), (.int (own_clamp p2 (((p4 &&& (15 : Int32)) - (4 : Int32)) / (2 : Int32))))])
    by_cases hc6 : p3 < (own_clamp p2 (((p4 &&& (15 : Int32)) - (4 : Int32)) / (2 : Int32)))
    · refine own_step (fun _ k => XS.icmpNo X5.here hx rfl (hb hby d7_54) rfl (tlt hc6).2.2.2 k) ?_
      show own_Go p e below P T5 (mkF m 57 #[.val (.ref ob), .val (.int p1), .val (.int p2), .val (.int p3), .val (.int p4), .val (.int ((p4 &&& (15 : Int32)) - (4 : Int32))), .val (.int (((p4 &&& (15 : Int32)) - (4 : Int32)) / (2 : Int32))), .val (.int (own_clamp p2 (((p4 &&& (15 : Int32)) - (4 : Int32)) / (2 : Int32))))] [])
      refine own_step (fun _ k => XS.iconst X5.here hx rfl (hb hby d7_57) k) ?_
      show own_Go p e below P T5 (mkF m 58 #[.val (.ref ob), .val (.int p1), .val (.int p2), .val (.int p3), .val (.int p4), .val (.int ((p4 &&& (15 : Int32)) - (4 : Int32))), .val (.int (((p4 &&& (15 : Int32)) - (4 : Int32)) / (2 : Int32))), .val (.int (own_clamp p2 (((p4 &&& (15 : Int32)) - (4 : Int32)) / (2 : Int32))))] [(.int (1 : Int32))])
      refine own_step (fun _ k => XS.goto X5.here hx rfl (pc0 := 58) (pc' := 62) rfl (hb hby d7_58) (by decide) (by decide) k) ?_
      show own_Go p e below P T5 (mkF m 62 #[.val (.ref ob), .val (.int p1), .val (.int p2), .val (.int p3), .val (.int p4), .val (.int ((p4 &&& (15 : Int32)) - (4 : Int32))), .val (.int (((p4 &&& (15 : Int32)) - (4 : Int32)) / (2 : Int32))), .val (.int (own_clamp p2 (((p4 &&& (15 : Int32)) - (4 : Int32)) / (2 : Int32))))] [(.int (1 : Int32))])
      obtain ⟨fs, hr, hrun, hended, hW, hsame⟩ := X5.leave (v := some (.int (1 : Int32))) (fun h => by rw [Bd.returns] at h; cases h)
      refine ⟨_, _, retOut X5 hx (t := .int) Bd.returns rfl (Or.inl ⟨rfl, Or.inl rfl, _, rfl⟩) (hb hby d7_62) hr, hrun, hended, hfin _ _ ⟨_, _, rfl, ?_, ⟨_, rfl⟩, hW, hsame.mono (by decide) (by decide)⟩⟩
      show Q7 Z ob p1 p2 p3 p4 ar kc cs h0 n0 (some (.int (1 : Int32))) T5.heap _
      rw [e5]
      exact ⟨_, (1 : Int32), rfl, own_put_len _ _, (own_ab_set (own_nat (own_cl hE).1 (own_cl hE).2 hlen) (own_cl hE).1 hq0).trans (by rw [if_pos hc6]), N5, ((Keep.refl h0 [ar]).trans K3 (allS (Or.inl (List.mem_of_getElem? (i := 0) rfl)) all0)), V3⟩
    · refine own_step (fun _ k => XS.icmpYes X5.here hx rfl (pc0 := 54) (pc' := 61) rfl (hb hby d7_54) rfl (flt hc6).2.2.2 (by decide) (by decide) k) ?_
      show own_Go p e below P T5 (mkF m 61 #[.val (.ref ob), .val (.int p1), .val (.int p2), .val (.int p3), .val (.int p4), .val (.int ((p4 &&& (15 : Int32)) - (4 : Int32))), .val (.int (((p4 &&& (15 : Int32)) - (4 : Int32)) / (2 : Int32))), .val (.int (own_clamp p2 (((p4 &&& (15 : Int32)) - (4 : Int32)) / (2 : Int32))))] [])
      refine own_step (fun _ k => XS.iconst X5.here hx rfl (hb hby d7_61) k) ?_
      show own_Go p e below P T5 (mkF m 62 #[.val (.ref ob), .val (.int p1), .val (.int p2), .val (.int p3), .val (.int p4), .val (.int ((p4 &&& (15 : Int32)) - (4 : Int32))), .val (.int (((p4 &&& (15 : Int32)) - (4 : Int32)) / (2 : Int32))), .val (.int (own_clamp p2 (((p4 &&& (15 : Int32)) - (4 : Int32)) / (2 : Int32))))] [(.int (0 : Int32))])
      obtain ⟨fs, hr, hrun, hended, hW, hsame⟩ := X5.leave (v := some (.int (0 : Int32))) (fun h => by rw [Bd.returns] at h; cases h)
      refine ⟨_, _, retOut X5 hx (t := .int) Bd.returns rfl (Or.inl ⟨rfl, Or.inl rfl, _, rfl⟩) (hb hby d7_62) hr, hrun, hended, hfin _ _ ⟨_, _, rfl, ?_, ⟨_, rfl⟩, hW, hsame.mono (by decide) (by decide)⟩⟩
      show Q7 Z ob p1 p2 p3 p4 ar kc cs h0 n0 (some (.int (0 : Int32))) T5.heap _
      rw [e5]
      exact ⟨_, (0 : Int32), rfl, own_put_len _ _, (own_ab_set (own_nat (own_cl hE).1 (own_cl hE).2 hlen) (own_cl hE).1 hq0).trans (by rw [if_neg hc6]), N5, ((Keep.refl h0 [ar]).trans K3 (allS (Or.inl (List.mem_of_getElem? (i := 0) rfl)) all0)), V3⟩
theorem own_q (p : Int32) {b : Int32} (h : 1 ≤ b.toInt ∧ b.toInt ≤ 4) : ¬ ((p &&& (2147483647 : Int32)) % (b + (1 : Int32))) < 0 ∧ ((p &&& (2147483647 : Int32)) % (b + (1 : Int32))) < b + (1 : Int32) := by
  have h1 := (own_bb h).2.2.1
  have h2 := (c_and p 2147483647 (by decide)).1
  have h3 := (c_iremV (p &&& (2147483647 : Int32)) (b + (1 : Int32))).1 h2 (by omega)
  rw [Int32.lt_iff_toInt_lt, Int32.lt_iff_toInt_lt, show (0 : Int32).toInt = 0 from rfl]
  omega
theorem ef_0 (m : MethodId) (x0 : Int32) (x1 : Int32) (x2 : Int32) (x3 : Int32) (x4 : Int32) (x5 : Int32) : entryFrame m #[(.int x0), (.int x1), (.int x2), (.int x3), (.int x4), (.int x5)] maxLocals = mkF m 0 #[.val (.int x0), .val (.int x1), .val (.int x2), .val (.int x3), .val (.int x4), .val (.int x5), .unset, .unset, .unset, .unset, .unset, .unset] [] := by first | (simp [entryFrame, mkF, argsToLocals, Value.category, maxLocals]; done) | rfl
theorem pd__DDI__V : parseMethodDescriptor "(DDI)V" = some ⟨[.double, .double, .int], none⟩ := by decide +kernel
theorem pd__Lcom_example_bron_bron_trec_ScoreHistogramIIII__I : parseMethodDescriptor "(Lcom/example/bron/bron/trec/ScoreHistogram;IIII)I" = some ⟨[(.object "com/example/bron/bron/trec/ScoreHistogram"), .int, .int, .int, .int], some .int⟩ := by decide +kernel
theorem pd__I__I : parseMethodDescriptor "(I)I" = some ⟨[.int], some .int⟩ := by decide +kernel
def Q0 (Z : State) (p0 : Int32) (p1 : Int32) (p2 : Int32) (p3 : Int32) (p4 : Int32) (p5 : Int32) (h0 : Heap) (n0 : Nat) (v : Option Value) (h : Heap) (L : List Loc) : Prop := v = some (.int 1) ∧ Fr n0 L
set_option maxRecDepth 65536 in
set_option maxHeartbeats 40000000 in
theorem rm0 (l : Launch) (Z : State) (a0 : Array Value) (hw : ∀ d ∈ tables_1, d.before a0 Z = true) (ws : List Jvm.Cond) (p0 : Int32) (p1 : Int32) (p2 : Int32) (p3 : Int32) (p4 : Int32) (p5 : Int32) (h0 : Heap) (n0 : Nat) (Z0 : n0 ≤ h0.size) :
    MetFree l x (head1 (Jvm.Cond.code x code maxLocals ret :: ws) room_1) (fun a U => a = #[(.int p0), (.int p1), (.int p2), (.int p3), (.int p4), (.int p5)] ∧ Z.Warmed39 U.vm ∧ U.heap = h0) (fun _ _ _ _ _ => True) (fun _ U o U' => ∃ v L, o = .returned v ∧ Q0 Z p0 p1 p2 p3 p4 p5 h0 n0 v U'.heap L ∧ FrameEnd U o U' L room_1.cells room_1.slots) := by
  refine MetFree.of_bodySF (plainFor_of_name pn_com_example_bron_bron_trec_ScoreHistogramAbovePinLaw) hisR ?_
  intro p e s m args below meth c s₁ Bd hml0 hP hK
  obtain ⟨rfl, hZ, hh⟩ := hP
  have hx := Bd.exec
  have hby := Bd.bytes
  have hml : c.maxLocals = 12 := hml0
  have hown : s.vm.findClass "com/example/bron/bron/trec/ScoreHistogramAbovePinLaw" = some m.cls := findClass_of_methodNamed Bd.named
  have hnm := (name_of_methodNamed Bd.named Bd.method).1
  have X0 : Stand p l e room_1 s m #[(.int p0), (.int p1), (.int p2), (.int p3), (.int p4), (.int p5)] below meth c s₁ [] 0 0 := Stand.of_body Bd
  have e0 : s₁.heap = h0 := by rw [← hh, Bd.state]; rfl
  have N0 := Fr.nil n0
  refine own_all ?_
  intro P hfin
  refine own_cast (ef_0 m p0 p1 p2 p3 p4 p5) ?_
  show own_Go p e below P s₁ (mkF m 0 #[.val (.int p0), .val (.int p1), .val (.int p2), .val (.int p3), .val (.int p4), .val (.int p5), .unset, .unset, .unset, .unset, .unset, .unset] [])
  refine own_step (fun _ k => XS.iloadN X0.here hx rfl (hb hby at_0) rfl k) ?_
  show own_Go p e below P s₁ (mkF m 1 #[.val (.int p0), .val (.int p1), .val (.int p2), .val (.int p3), .val (.int p4), .val (.int p5), .unset, .unset, .unset, .unset, .unset, .unset] [(.int p0)])
  refine own_step (fun _ k => XS.bipush X0.here hx rfl (hb hby at_1) k) ?_
  show own_Go p e below P s₁ (mkF m 3 #[.val (.int p0), .val (.int p1), .val (.int p2), .val (.int p3), .val (.int p4), .val (.int p5), .unset, .unset, .unset, .unset, .unset, .unset] [(.int (15 : Int32)), (.int p0)])
  refine own_step (fun _ k => XS.iand X0.here hx rfl (hb hby at_3) rfl k) ?_
  show own_Go p e below P s₁ (mkF m 4 #[.val (.int p0), .val (.int p1), .val (.int p2), .val (.int p3), .val (.int p4), .val (.int p5), .unset, .unset, .unset, .unset, .unset, .unset] [(.int (p0 &&& (15 : Int32)))])
  refine own_step (fun _ k => XS.istore X0.here hx rfl (hb hby at_4) rfl (l' := #[.val (.int p0), .val (.int p1), .val (.int p2), .val (.int p3), .val (.int p4), .val (.int p5), .val (.int (p0 &&& (15 : Int32))), .unset, .unset, .unset, .unset, .unset]) rfl k) ?_
  show own_Go p e below P s₁ (mkF m 6 #[.val (.int p0), .val (.int p1), .val (.int p2), .val (.int p3), .val (.int p4), .val (.int p5), .val (.int (p0 &&& (15 : Int32))), .unset, .unset, .unset, .unset, .unset] [])
  refine own_step (fun _ k => XS.iconst X0.here hx rfl (hb hby at_6) k) ?_
  show own_Go p e below P s₁ (mkF m 7 #[.val (.int p0), .val (.int p1), .val (.int p2), .val (.int p3), .val (.int p4), .val (.int p5), .val (.int (p0 &&& (15 : Int32))), .unset, .unset, .unset, .unset, .unset] [(.int (1 : Int32))])
  refine own_step (fun _ k => XS.iload X0.here hx rfl (hb hby at_7) rfl k) ?_
  show own_Go p e below P s₁ (mkF m 9 #[.val (.int p0), .val (.int p1), .val (.int p2), .val (.int p3), .val (.int p4), .val (.int p5), .val (.int (p0 &&& (15 : Int32))), .unset, .unset, .unset, .unset, .unset] [(.int (p0 &&& (15 : Int32))), (.int (1 : Int32))])
  refine own_step (fun _ k => XS.iconst X0.here hx rfl (hb hby at_9) k) ?_
  show own_Go p e below P s₁ (mkF m 10 #[.val (.int p0), .val (.int p1), .val (.int p2), .val (.int p3), .val (.int p4), .val (.int p5), .val (.int (p0 &&& (15 : Int32))), .unset, .unset, .unset, .unset, .unset] [(.int (4 : Int32)), (.int (p0 &&& (15 : Int32))), (.int (1 : Int32))])
  refine own_step (fun _ k => XS.idiv X0.here hx rfl (hb hby at_10) rfl (by decide : ¬ ((4 : Int32) = (0 : Int32))) k) ?_
  show own_Go p e below P s₁ (mkF m 11 #[.val (.int p0), .val (.int p1), .val (.int p2), .val (.int p3), .val (.int p4), .val (.int p5), .val (.int (p0 &&& (15 : Int32))), .unset, .unset, .unset, .unset, .unset] [(.int ((p0 &&& (15 : Int32)) / (4 : Int32))), (.int (1 : Int32))])
  obtain ⟨_, _, ⟨T1, L1, k1, n1⟩, -, X1, ⟨Lc1, hQ1, l1, y1, z1⟩, st1⟩ := Jvm.LawKit.callS X0 hx (y := (⟨"java/lang/Math", "max", "(II)I"⟩ : MethodName)) hown (mvT hZ (hw _ (List.mem_of_getElem? (i := 0) rfl))) (mvT hZ (hw _ (List.mem_of_getElem? (i := 1) rfl))) (mvT hZ (hw _ (List.mem_of_getElem? (i := 2) rfl))) (mvT hZ (hw _ (List.mem_of_getElem? (i := 3) rfl))) (by decide) (backOf (W := 0) (rm1 l Z a0 hw [] (1 : Int32) ((p0 &&& (15 : Int32)) / (4 : Int32)) h0 n0 Z0) hZ (hw _ (List.mem_of_getElem? (i := 3) rfl)) (hw _ (List.mem_of_getElem? (i := 2) rfl)) (by decide) (by decide)) (g := (mkF m 11 #[.val (.int p0), .val (.int p1), .val (.int p2), .val (.int p3), .val (.int p4), .val (.int p5), .val (.int (p0 &&& (15 : Int32))), .unset, .unset, .unset, .unset, .unset] [(.int ((p0 &&& (15 : Int32)) / (4 : Int32))), (.int (1 : Int32))])) rfl (by rw [hml]; rfl) (argsL := [(.int (1 : Int32)), (.int ((p0 &&& (15 : Int32)) / (4 : Int32)))]) (rest := []) (lenOf pd__II__I rfl) rfl (by show 2 * 0 + _ ≤ _; exact Nat.le_of_eq rfl) (hb hby at_11) (fun _ _ => ⟨rfl, e0, (by decide : 0 + 0 ≤ _), (by decide : 0 + 0 ≤ _)⟩)
  dsimp only [Pt.U, Pt.locs, Pt.cells, Pt.slots] at X1 l1 y1 z1 st1 hQ1
  subst l1 y1 z1
  obtain ⟨rfl, N1q, e1⟩ := hQ1
  have N1 := Fr.app N0 N1q
  refine own_step st1 ?_
  show own_Go p e below P T1 (mkF m 14 #[.val (.int p0), .val (.int p1), .val (.int p2), .val (.int p3), .val (.int p4), .val (.int p5), .val (.int (p0 &&& (15 : Int32))), .unset, .unset, .unset, .unset, .unset] [(.int (if (1 : Int32) < ((p0 &&& (15 : Int32)) / (4 : Int32)) then ((p0 &&& (15 : Int32)) / (4 : Int32)) else (1 : Int32)))])
  refine own_step (fun _ k => XS.istore X1.here hx rfl (hb hby at_14) rfl (l' := #[.val (.int p0), .val (.int p1), .val (.int p2), .val (.int p3), .val (.int p4), .val (.int p5), .val (.int (p0 &&& (15 : Int32))), .val (.int (if (1 : Int32) < ((p0 &&& (15 : Int32)) / (4 : Int32)) then ((p0 &&& (15 : Int32)) / (4 : Int32)) else (1 : Int32))), .unset, .unset, .unset, .unset]) rfl k) ?_
  show own_Go p e below P T1 (mkF m 16 #[.val (.int p0), .val (.int p1), .val (.int p2), .val (.int p3), .val (.int p4), .val (.int p5), .val (.int (p0 &&& (15 : Int32))), .val (.int (if (1 : Int32) < ((p0 &&& (15 : Int32)) / (4 : Int32)) then ((p0 &&& (15 : Int32)) / (4 : Int32)) else (1 : Int32))), .unset, .unset, .unset, .unset] [])
  refine own_step (fun _ k => XS.iloadN X1.here hx rfl (hb hby at_16) rfl k) ?_
  show own_Go p e below P T1 (mkF m 17 #[.val (.int p0), .val (.int p1), .val (.int p2), .val (.int p3), .val (.int p4), .val (.int p5), .val (.int (p0 &&& (15 : Int32))), .val (.int (if (1 : Int32) < ((p0 &&& (15 : Int32)) / (4 : Int32)) then ((p0 &&& (15 : Int32)) / (4 : Int32)) else (1 : Int32))), .unset, .unset, .unset, .unset] [(.int p0)])
  refine own_step (fun _ k => XS.iconst X1.here hx rfl (hb hby at_17) k) ?_
  show own_Go p e below P T1 (mkF m 18 #[.val (.int p0), .val (.int p1), .val (.int p2), .val (.int p3), .val (.int p4), .val (.int p5), .val (.int (p0 &&& (15 : Int32))), .val (.int (if (1 : Int32) < ((p0 &&& (15 : Int32)) / (4 : Int32)) then ((p0 &&& (15 : Int32)) / (4 : Int32)) else (1 : Int32))), .unset, .unset, .unset, .unset] [(.int (4 : Int32)), (.int p0)])
  refine own_step (fun _ k => XS.ishr X1.here hx rfl (hb hby at_18) rfl k) ?_
  show own_Go p e below P T1 (mkF m 19 #[.val (.int p0), .val (.int p1), .val (.int p2), .val (.int p3), .val (.int p4), .val (.int p5), .val (.int (p0 &&& (15 : Int32))), .val (.int (if (1 : Int32) < ((p0 &&& (15 : Int32)) / (4 : Int32)) then ((p0 &&& (15 : Int32)) / (4 : Int32)) else (1 : Int32))), .unset, .unset, .unset, .unset] [(.int (p0 >>> ((4 : Int32) &&& 31)))])
  refine own_step (fun _ k => XS.bipush X1.here hx rfl (hb hby at_19) k) ?_
  show own_Go p e below P T1 (mkF m 21 #[.val (.int p0), .val (.int p1), .val (.int p2), .val (.int p3), .val (.int p4), .val (.int p5), .val (.int (p0 &&& (15 : Int32))), .val (.int (if (1 : Int32) < ((p0 &&& (15 : Int32)) / (4 : Int32)) then ((p0 &&& (15 : Int32)) / (4 : Int32)) else (1 : Int32))), .unset, .unset, .unset, .unset] [(.int (15 : Int32)), (.int (p0 >>> ((4 : Int32) &&& 31)))])
  refine own_step (fun _ k => XS.iand X1.here hx rfl (hb hby at_21) rfl k) ?_
  show own_Go p e below P T1 (mkF m 22 #[.val (.int p0), .val (.int p1), .val (.int p2), .val (.int p3), .val (.int p4), .val (.int p5), .val (.int (p0 &&& (15 : Int32))), .val (.int (if (1 : Int32) < ((p0 &&& (15 : Int32)) / (4 : Int32)) then ((p0 &&& (15 : Int32)) / (4 : Int32)) else (1 : Int32))), .unset, .unset, .unset, .unset] [(.int ((p0 >>> ((4 : Int32) &&& 31)) &&& (15 : Int32)))])
  refine own_step (fun _ k => XS.bipush X1.here hx rfl (hb hby at_22) k) ?_
  show own_Go p e below P T1 (mkF m 24 #[.val (.int p0), .val (.int p1), .val (.int p2), .val (.int p3), .val (.int p4), .val (.int p5), .val (.int (p0 &&& (15 : Int32))), .val (.int (if (1 : Int32) < ((p0 &&& (15 : Int32)) / (4 : Int32)) then ((p0 &&& (15 : Int32)) / (4 : Int32)) else (1 : Int32))), .unset, .unset, .unset, .unset] [(.int (8 : Int32)), (.int ((p0 >>> ((4 : Int32) &&& 31)) &&& (15 : Int32)))])
  refine own_step (fun _ k => XS.isub X1.here hx rfl (hb hby at_24) rfl k) ?_
  show own_Go p e below P T1 (mkF m 25 #[.val (.int p0), .val (.int p1), .val (.int p2), .val (.int p3), .val (.int p4), .val (.int p5), .val (.int (p0 &&& (15 : Int32))), .val (.int (if (1 : Int32) < ((p0 &&& (15 : Int32)) / (4 : Int32)) then ((p0 &&& (15 : Int32)) / (4 : Int32)) else (1 : Int32))), .unset, .unset, .unset, .unset] [(.int (((p0 >>> ((4 : Int32) &&& 31)) &&& (15 : Int32)) - (8 : Int32)))])
  refine own_step (fun _ k => XS.istore X1.here hx rfl (hb hby at_25) rfl (l' := #[.val (.int p0), .val (.int p1), .val (.int p2), .val (.int p3), .val (.int p4), .val (.int p5), .val (.int (p0 &&& (15 : Int32))), .val (.int (if (1 : Int32) < ((p0 &&& (15 : Int32)) / (4 : Int32)) then ((p0 &&& (15 : Int32)) / (4 : Int32)) else (1 : Int32))), .val (.int (((p0 >>> ((4 : Int32) &&& 31)) &&& (15 : Int32)) - (8 : Int32))), .unset, .unset, .unset]) rfl k) ?_
  show own_Go p e below P T1 (mkF m 27 #[.val (.int p0), .val (.int p1), .val (.int p2), .val (.int p3), .val (.int p4), .val (.int p5), .val (.int (p0 &&& (15 : Int32))), .val (.int (if (1 : Int32) < ((p0 &&& (15 : Int32)) / (4 : Int32)) then ((p0 &&& (15 : Int32)) / (4 : Int32)) else (1 : Int32))), .val (.int (((p0 >>> ((4 : Int32) &&& 31)) &&& (15 : Int32)) - (8 : Int32))), .unset, .unset, .unset] [])
  obtain ⟨sc, lw, hsc, hlw, hok, hlow⟩ : ∃ sc lw : Int32, (p0 &&& (15 : Int32)) = sc ∧ (((p0 >>> ((4 : Int32) &&& 31)) &&& (15 : Int32)) - (8 : Int32)) = lw ∧ own_ok lw sc ∧ own_low lw := ⟨_, _, rfl, rfl, own_start p0 _, own_lw _⟩
  rw [hsc, hlw]
  show own_Go p e below P T1 (mkF m 27 #[.val (.int p0), .val (.int p1), .val (.int p2), .val (.int p3), .val (.int p4), .val (.int p5), .val (.int sc), .val (.int (own_B sc)), .val (.int lw), .unset, .unset, .unset] [])
  have hE := hok.2.2.2.2
  have hbz : ¬ ((own_B sc) + (1 : Int32) = (0 : Int32)) := fun q => by have := (own_bb hE).2.2.1; rw [q] at this; have e : (0 : Int32).toInt = 0 := rfl; omega
  obtain ⟨T2, h2, X2, e2, E2, A2, D2, -, st2⟩ := newO X1 hx hZ hown (hw _ (List.mem_of_getElem? (i := 4) rfl)) (hw _ (List.mem_of_getElem? (i := 5) rfl)) (hw _ (List.mem_of_getElem? (i := 6) rfl)) e1 (g := (mkF m 27 #[.val (.int p0), .val (.int p1), .val (.int p2), .val (.int p3), .val (.int p4), .val (.int p5), .val (.int sc), .val (.int (own_B sc)), .val (.int lw), .unset, .unset, .unset] [])) rfl (hb hby at_27) (by decide) (by decide)
  obtain ⟨b2, g2⟩ : ∃ z, z = h0.size := ⟨_, rfl⟩
  rw [← g2] at A2 D2 st2
  have g_b2 : n0 ≤ b2 := Nat.le_trans Z0 (Nat.le_of_eq g2.symm)
  have sz_b2 : h0.size ≤ b2 := Nat.le_trans (Keep.refl h0 []).1 (Nat.le_of_eq g2.symm)
  have E_b2 := A2
  have F_lowest_b2 : Fld Z h2 b2 "com/example/bron/bron/trec/ScoreHistogram" "lowest" "D" (.double (0 : UInt64)) := D2 (Or.inr (hw _ (List.mem_of_getElem? (i := 26) rfl))) (ty := .double) (by decide)
  have F_scale_b2 : Fld Z h2 b2 "com/example/bron/bron/trec/ScoreHistogram" "scale" "D" (.double (0 : UInt64)) := D2 (Or.inr (hw _ (List.mem_of_getElem? (i := 28) rfl))) (ty := .double) (by decide)
  have F_counts_b2 : Fld Z h2 b2 "com/example/bron/bron/trec/ScoreHistogram" "counts" "[I" .null := D2 (Or.inr (hw _ (List.mem_of_getElem? (i := 31) rfl))) (ty := (.array .int)) (by decide)
  refine own_step st2 ?_
  show own_Go p e below P T2 (mkF m 30 #[.val (.int p0), .val (.int p1), .val (.int p2), .val (.int p3), .val (.int p4), .val (.int p5), .val (.int sc), .val (.int (own_B sc)), .val (.int lw), .unset, .unset, .unset] [(.ref b2)])
  refine own_step (fun _ k => XS.dup X2.here hx rfl (hb hby at_30) rfl rfl k) ?_
  show own_Go p e below P T2 (mkF m 31 #[.val (.int p0), .val (.int p1), .val (.int p2), .val (.int p3), .val (.int p4), .val (.int p5), .val (.int sc), .val (.int (own_B sc)), .val (.int lw), .unset, .unset, .unset] [(.ref b2), (.ref b2)])
  refine own_step (fun _ k => XS.iload X2.here hx rfl (hb hby at_31) rfl k) ?_
  show own_Go p e below P T2 (mkF m 33 #[.val (.int p0), .val (.int p1), .val (.int p2), .val (.int p3), .val (.int p4), .val (.int p5), .val (.int sc), .val (.int (own_B sc)), .val (.int lw), .unset, .unset, .unset] [(.int lw), (.ref b2), (.ref b2)])
  refine own_step (fun _ k => XS.i2dS X2.here hx rfl (hb hby at_33) rfl rfl k) ?_
  show own_Go p e below P T2 (mkF m 34 #[.val (.int p0), .val (.int p1), .val (.int p2), .val (.int p3), .val (.int p4), .val (.int p5), .val (.int sc), .val (.int (own_B sc)), .val (.int lw), .unset, .unset, .unset] [(.double (FP.i2d lw)), (.ref b2), (.ref b2)])
  refine own_step (fun _ k => XS.iload X2.here hx rfl (hb hby at_34) rfl k) ?_
  show own_Go p e below P T2 (mkF m 36 #[.val (.int p0), .val (.int p1), .val (.int p2), .val (.int p3), .val (.int p4), .val (.int p5), .val (.int sc), .val (.int (own_B sc)), .val (.int lw), .unset, .unset, .unset] [(.int lw), (.double (FP.i2d lw)), (.ref b2), (.ref b2)])
  refine own_step (fun _ k => XS.iload X2.here hx rfl (hb hby at_36) rfl k) ?_
  show own_Go p e below P T2 (mkF m 38 #[.val (.int p0), .val (.int p1), .val (.int p2), .val (.int p3), .val (.int p4), .val (.int p5), .val (.int sc), .val (.int (own_B sc)), .val (.int lw), .unset, .unset, .unset] [(.int (own_B sc)), (.int lw), (.double (FP.i2d lw)), (.ref b2), (.ref b2)])
  refine own_step (fun _ k => XS.iadd X2.here hx rfl (hb hby at_38) rfl k) ?_
  show own_Go p e below P T2 (mkF m 39 #[.val (.int p0), .val (.int p1), .val (.int p2), .val (.int p3), .val (.int p4), .val (.int p5), .val (.int sc), .val (.int (own_B sc)), .val (.int lw), .unset, .unset, .unset] [(.int (lw + (own_B sc))), (.double (FP.i2d lw)), (.ref b2), (.ref b2)])
  refine own_step (fun _ k => XS.i2dS X2.here hx rfl (hb hby at_39) rfl rfl k) ?_
  show own_Go p e below P T2 (mkF m 40 #[.val (.int p0), .val (.int p1), .val (.int p2), .val (.int p3), .val (.int p4), .val (.int p5), .val (.int sc), .val (.int (own_B sc)), .val (.int lw), .unset, .unset, .unset] [(.double (FP.i2d (lw + (own_B sc)))), (.double (FP.i2d lw)), (.ref b2), (.ref b2)])
  refine own_step (fun _ k => XS.iload X2.here hx rfl (hb hby at_40) rfl k) ?_
  show own_Go p e below P T2 (mkF m 42 #[.val (.int p0), .val (.int p1), .val (.int p2), .val (.int p3), .val (.int p4), .val (.int p5), .val (.int sc), .val (.int (own_B sc)), .val (.int lw), .unset, .unset, .unset] [(.int sc), (.double (FP.i2d (lw + (own_B sc)))), (.double (FP.i2d lw)), (.ref b2), (.ref b2)])
  obtain ⟨_, _, ⟨T3, L3, k3, n3⟩, -, X3, ⟨Lc3, hQ3, l3, y3, z3⟩, st3⟩ := X2.specialBack hx (y := (⟨"com/example/bron/bron/trec/ScoreHistogram", "<init>", "(DDI)V"⟩ : MethodName)) rfl hown (mvT hZ (hw _ (List.mem_of_getElem? (i := 7) rfl))) (mvT hZ (hw _ (List.mem_of_getElem? (i := 8) rfl))) (mvT hZ (hw _ (List.mem_of_getElem? (i := 9) rfl))) (by decide) (backOf (W := 1) (rm2 l Z a0 hw [] b2 (FP.i2d lw) (FP.i2d (lw + (own_B sc))) sc (own_B sc) h2 n0 (Nat.le_trans Z0 E2.1) E_b2 F_lowest_b2 F_scale_b2 F_counts_b2 g_b2 hok.1 hok.2.1 hok.2.2.1 hok.2.2.2.1 hE) hZ (hw _ (List.mem_of_getElem? (i := 9) rfl)) (hw _ (List.mem_of_getElem? (i := 6) rfl)) (by decide) (by decide)) (g := (mkF m 42 #[.val (.int p0), .val (.int p1), .val (.int p2), .val (.int p3), .val (.int p4), .val (.int p5), .val (.int sc), .val (.int (own_B sc)), .val (.int lw), .unset, .unset, .unset] [(.int sc), (.double (FP.i2d (lw + (own_B sc)))), (.double (FP.i2d lw)), (.ref b2), (.ref b2)])) rfl (by rw [hml]; rfl) (Steps.refl _) (a := b2) (argsL := [(.double (FP.i2d lw)), (.double (FP.i2d (lw + (own_B sc)))), (.int sc)]) (rest := [(.ref b2)]) (lenOf pd__DDI__V rfl) rfl (by show 2 * 0 + _ ≤ _; exact Nat.le_of_eq rfl) (hb hby at_42) (fun _ _ => ⟨rfl, e2, (by decide : 1 + 1 ≤ _), (by decide : 3 + 5 ≤ _)⟩)
  dsimp only [Pt.U, Pt.locs, Pt.cells, Pt.slots] at X3 l3 y3 z3 st3 hQ3
  subst l3 y3 z3
  obtain ⟨rfl, N3q, K3, E3_o, Fl3, Fs3, ar3, kc3, la3, Fc3, V3⟩ := hQ3
  have g_ar3 : n0 ≤ ar3 := Nat.le_trans (Nat.le_trans Z0 E2.1) la3
  have sz_ar3 : h0.size ≤ ar3 := Nat.le_trans ((Keep.refl h0 []).ext E2).1 la3
  have ne3 : b2 ≠ ar3 := by
    obtain ⟨_, Aq, -⟩ := V3
    exact ne_arr E3_o (hw _ (List.mem_of_getElem? (i := 5) rfl)) Aq
  have N3 := Fr.app N1 N3q
  refine own_step (fun _ k => st3.trans k) ?_
  show own_Go p e below P T3 (mkF m 45 #[.val (.int p0), .val (.int p1), .val (.int p2), .val (.int p3), .val (.int p4), .val (.int p5), .val (.int sc), .val (.int (own_B sc)), .val (.int lw), .unset, .unset, .unset] [(.ref b2)])
  refine own_step (fun _ k => XS.astore X3.here hx rfl (hb hby at_45) rfl rfl (l' := #[.val (.int p0), .val (.int p1), .val (.int p2), .val (.int p3), .val (.int p4), .val (.int p5), .val (.int sc), .val (.int (own_B sc)), .val (.int lw), .val (.ref b2), .unset, .unset]) rfl k) ?_
  show own_Go p e below P T3 (mkF m 47 #[.val (.int p0), .val (.int p1), .val (.int p2), .val (.int p3), .val (.int p4), .val (.int p5), .val (.int sc), .val (.int (own_B sc)), .val (.int lw), .val (.ref b2), .unset, .unset] [])
  refine own_step (fun _ k => XS.iload X3.here hx rfl (hb hby at_47) rfl k) ?_
  show own_Go p e below P T3 (mkF m 49 #[.val (.int p0), .val (.int p1), .val (.int p2), .val (.int p3), .val (.int p4), .val (.int p5), .val (.int sc), .val (.int (own_B sc)), .val (.int lw), .val (.ref b2), .unset, .unset] [(.int p5)])
  refine own_step (fun t k => X3.ldcInt hx hown (mvT hZ (hw _ (List.mem_of_getElem? (i := 32) rfl))) (g := (mkF m 49 #[.val (.int p0), .val (.int p1), .val (.int p2), .val (.int p3), .val (.int p4), .val (.int p5), .val (.int sc), .val (.int (own_B sc)), .val (.int lw), .val (.ref b2), .unset, .unset] [(.int p5)])) rfl (hb hby at_49) t k) ?_
  show own_Go p e below P T3 (mkF m 51 #[.val (.int p0), .val (.int p1), .val (.int p2), .val (.int p3), .val (.int p4), .val (.int p5), .val (.int sc), .val (.int (own_B sc)), .val (.int lw), .val (.ref b2), .unset, .unset] [(.int (2147483647 : Int32)), (.int p5)])
  refine own_step (fun _ k => XS.iand X3.here hx rfl (hb hby at_51) rfl k) ?_
  show own_Go p e below P T3 (mkF m 52 #[.val (.int p0), .val (.int p1), .val (.int p2), .val (.int p3), .val (.int p4), .val (.int p5), .val (.int sc), .val (.int (own_B sc)), .val (.int lw), .val (.ref b2), .unset, .unset] [(.int (p5 &&& (2147483647 : Int32)))])
  refine own_step (fun _ k => XS.iload X3.here hx rfl (hb hby at_52) rfl k) ?_
  show own_Go p e below P T3 (mkF m 54 #[.val (.int p0), .val (.int p1), .val (.int p2), .val (.int p3), .val (.int p4), .val (.int p5), .val (.int sc), .val (.int (own_B sc)), .val (.int lw), .val (.ref b2), .unset, .unset] [(.int (own_B sc)), (.int (p5 &&& (2147483647 : Int32)))])
  refine own_step (fun _ k => XS.iconst X3.here hx rfl (hb hby at_54) k) ?_
  show own_Go p e below P T3 (mkF m 55 #[.val (.int p0), .val (.int p1), .val (.int p2), .val (.int p3), .val (.int p4), .val (.int p5), .val (.int sc), .val (.int (own_B sc)), .val (.int lw), .val (.ref b2), .unset, .unset] [(.int (1 : Int32)), (.int (own_B sc)), (.int (p5 &&& (2147483647 : Int32)))])
  refine own_step (fun _ k => XS.iadd X3.here hx rfl (hb hby at_55) rfl k) ?_
  show own_Go p e below P T3 (mkF m 56 #[.val (.int p0), .val (.int p1), .val (.int p2), .val (.int p3), .val (.int p4), .val (.int p5), .val (.int sc), .val (.int (own_B sc)), .val (.int lw), .val (.ref b2), .unset, .unset] [(.int ((own_B sc) + (1 : Int32))), (.int (p5 &&& (2147483647 : Int32)))])
  refine own_step (fun _ k => iremM X3 hx rfl (hb hby at_56) rfl hbz k) ?_
  show own_Go p e below P T3 (mkF m 57 #[.val (.int p0), .val (.int p1), .val (.int p2), .val (.int p3), .val (.int p4), .val (.int p5), .val (.int sc), .val (.int (own_B sc)), .val (.int lw), .val (.ref b2), .unset, .unset] [(.int ((p5 &&& (2147483647 : Int32)) % ((own_B sc) + (1 : Int32))))])
  obtain ⟨qq, hqq, hq0, hq1⟩ : ∃ qq : Int32, ((p5 &&& (2147483647 : Int32)) % ((own_B sc) + (1 : Int32))) = qq ∧ ¬ qq < 0 ∧ qq < (own_B sc) + (1 : Int32) := ⟨_, rfl, own_q p5 hE⟩
  rw [hqq]
  show own_Go p e below P T3 (mkF m 57 #[.val (.int p0), .val (.int p1), .val (.int p2), .val (.int p3), .val (.int p4), .val (.int p5), .val (.int sc), .val (.int (own_B sc)), .val (.int lw), .val (.ref b2), .unset, .unset] [(.int qq)])
  have hlen0 : (List.replicate ((own_B sc).toNatClampNeg + 1) (0 : Int32)).length = ((own_B sc) + (1 : Int32)).toNatClampNeg := by rw [List.length_replicate, (own_bb hE).2.2.2]
  refine own_step (fun _ k => XS.istore X3.here hx rfl (hb hby at_57) rfl (l' := #[.val (.int p0), .val (.int p1), .val (.int p2), .val (.int p3), .val (.int p4), .val (.int p5), .val (.int sc), .val (.int (own_B sc)), .val (.int lw), .val (.ref b2), .val (.int qq), .unset]) rfl k) ?_
  show own_Go p e below P T3 (mkF m 59 #[.val (.int p0), .val (.int p1), .val (.int p2), .val (.int p3), .val (.int p4), .val (.int p5), .val (.int sc), .val (.int (own_B sc)), .val (.int lw), .val (.ref b2), .val (.int qq), .unset] [])
  refine own_step (fun _ k => XS.iconst X3.here hx rfl (hb hby at_59) k) ?_
  show own_Go p e below P T3 (mkF m 60 #[.val (.int p0), .val (.int p1), .val (.int p2), .val (.int p3), .val (.int p4), .val (.int p5), .val (.int sc), .val (.int (own_B sc)), .val (.int lw), .val (.ref b2), .val (.int qq), .unset] [(.int (0 : Int32))])
  refine own_step (fun _ k => XS.istore X3.here hx rfl (hb hby at_60) rfl (l' := #[.val (.int p0), .val (.int p1), .val (.int p2), .val (.int p3), .val (.int p4), .val (.int p5), .val (.int sc), .val (.int (own_B sc)), .val (.int lw), .val (.ref b2), .val (.int qq), .val (.int (0 : Int32))]) rfl k) ?_
  show own_Go p e below P T3 (mkF m 62 #[.val (.int p0), .val (.int p1), .val (.int p2), .val (.int p3), .val (.int p4), .val (.int p5), .val (.int sc), .val (.int (own_B sc)), .val (.int lw), .val (.ref b2), .val (.int qq), .val (.int (0 : Int32))] [])
  refine own_step (fun _ k => XS.iload X3.here hx rfl (hb hby at_62) rfl k) ?_
  show own_Go p e below P T3 (mkF m 64 #[.val (.int p0), .val (.int p1), .val (.int p2), .val (.int p3), .val (.int p4), .val (.int p5), .val (.int sc), .val (.int (own_B sc)), .val (.int lw), .val (.ref b2), .val (.int qq), .val (.int (0 : Int32))] [(.int (0 : Int32))])
  refine own_step (fun _ k => XS.aload X3.here hx rfl (hb hby at_64) rfl rfl k) ?_
  show own_Go p e below P T3 (mkF m 66 #[.val (.int p0), .val (.int p1), .val (.int p2), .val (.int p3), .val (.int p4), .val (.int p5), .val (.int sc), .val (.int (own_B sc)), .val (.int lw), .val (.ref b2), .val (.int qq), .val (.int (0 : Int32))] [(.ref b2), (.int (0 : Int32))])
  refine own_step (fun _ k => XS.iload X3.here hx rfl (hb hby at_66) rfl k) ?_
  show own_Go p e below P T3 (mkF m 68 #[.val (.int p0), .val (.int p1), .val (.int p2), .val (.int p3), .val (.int p4), .val (.int p5), .val (.int sc), .val (.int (own_B sc)), .val (.int lw), .val (.ref b2), .val (.int qq), .val (.int (0 : Int32))] [(.int lw), (.ref b2), (.int (0 : Int32))])
  refine own_step (fun _ k => XS.iload X3.here hx rfl (hb hby at_68) rfl k) ?_
  show own_Go p e below P T3 (mkF m 70 #[.val (.int p0), .val (.int p1), .val (.int p2), .val (.int p3), .val (.int p4), .val (.int p5), .val (.int sc), .val (.int (own_B sc)), .val (.int lw), .val (.ref b2), .val (.int qq), .val (.int (0 : Int32))] [(.int (own_B sc)), (.int lw), (.ref b2), (.int (0 : Int32))])
  refine own_step (fun _ k => XS.iload X3.here hx rfl (hb hby at_70) rfl k) ?_
  show own_Go p e below P T3 (mkF m 72 #[.val (.int p0), .val (.int p1), .val (.int p2), .val (.int p3), .val (.int p4), .val (.int p5), .val (.int sc), .val (.int (own_B sc)), .val (.int lw), .val (.ref b2), .val (.int qq), .val (.int (0 : Int32))] [(.int qq), (.int (own_B sc)), (.int lw), (.ref b2), (.int (0 : Int32))])
  refine own_step (fun _ k => XS.iloadN X3.here hx rfl (hb hby at_72) rfl k) ?_
  show own_Go p e below P T3 (mkF m 73 #[.val (.int p0), .val (.int p1), .val (.int p2), .val (.int p3), .val (.int p4), .val (.int p5), .val (.int sc), .val (.int (own_B sc)), .val (.int lw), .val (.ref b2), .val (.int qq), .val (.int (0 : Int32))] [(.int p1), (.int qq), (.int (own_B sc)), (.int lw), (.ref b2), (.int (0 : Int32))])
  obtain ⟨_, _, ⟨T4, L4, k4, n4⟩, -, X4, ⟨Lc4, hQ4, l4, y4, z4⟩, st4⟩ := Jvm.LawKit.callS X3 hx (y := (⟨"com/example/bron/bron/trec/ScoreHistogramAbovePinLaw", "put", "(Lcom/example/bron/bron/trec/ScoreHistogram;IIII)I"⟩ : MethodName)) hown (mvT hZ (hw _ (List.mem_of_getElem? (i := 33) rfl))) (mvT hZ (hw _ (List.mem_of_getElem? (i := 34) rfl))) (mvT hZ (hw _ (List.mem_of_getElem? (i := 35) rfl))) (mvT hZ (hw _ (List.mem_of_getElem? (i := 36) rfl))) (by decide) (backOf (W := 1) (rm7 l Z a0 hw [] b2 lw (own_B sc) qq p1 ar3 kc3 (List.replicate ((own_B sc).toNatClampNeg + 1) (0 : Int32)) T3.heap n0 (Nat.le_trans (Nat.le_trans Z0 E2.1) K3.1) E3_o Fl3 Fs3 Fc3 V3 ne3 g_ar3 hlow hE hlen0 hq0) hZ (hw _ (List.mem_of_getElem? (i := 36) rfl)) (hw _ (List.mem_of_getElem? (i := 35) rfl)) (by decide) (by decide)) (g := (mkF m 73 #[.val (.int p0), .val (.int p1), .val (.int p2), .val (.int p3), .val (.int p4), .val (.int p5), .val (.int sc), .val (.int (own_B sc)), .val (.int lw), .val (.ref b2), .val (.int qq), .val (.int (0 : Int32))] [(.int p1), (.int qq), (.int (own_B sc)), (.int lw), (.ref b2), (.int (0 : Int32))])) rfl (by rw [hml]; rfl) (argsL := [(.ref b2), (.int lw), (.int (own_B sc)), (.int qq), (.int p1)]) (rest := [(.int (0 : Int32))]) (lenOf pd__Lcom_example_bron_bron_trec_ScoreHistogramIIII__I rfl) rfl (by show 2 * 0 + _ ≤ _; exact Nat.le_of_eq rfl) (hb hby at_73) (fun _ _ => ⟨rfl, rfl, (by decide : 2 + 0 ≤ _), (by decide : 8 + 0 ≤ _)⟩)
  dsimp only [Pt.U, Pt.locs, Pt.cells, Pt.slots] at X4 l4 y4 z4 st4 hQ4
  subst l4 y4 z4
  obtain ⟨cs4, r4, rfl, le4, ab4, N4q, K4, V4⟩ := hQ4
  have hlen4 := le4.trans hlen0
  have N4 := Fr.app N3 N4q
  refine own_step st4 ?_
  show own_Go p e below P T4 (mkF m 76 #[.val (.int p0), .val (.int p1), .val (.int p2), .val (.int p3), .val (.int p4), .val (.int p5), .val (.int sc), .val (.int (own_B sc)), .val (.int lw), .val (.ref b2), .val (.int qq), .val (.int (0 : Int32))] [(.int r4), (.int (0 : Int32))])
  refine own_step (fun _ k => XS.iadd X4.here hx rfl (hb hby at_76) rfl k) ?_
  show own_Go p e below P T4 (mkF m 77 #[.val (.int p0), .val (.int p1), .val (.int p2), .val (.int p3), .val (.int p4), .val (.int p5), .val (.int sc), .val (.int (own_B sc)), .val (.int lw), .val (.ref b2), .val (.int qq), .val (.int (0 : Int32))] [(.int ((0 : Int32) + r4))])
  refine own_step (fun _ k => XS.istore X4.here hx rfl (hb hby at_77) rfl (l' := #[.val (.int p0), .val (.int p1), .val (.int p2), .val (.int p3), .val (.int p4), .val (.int p5), .val (.int sc), .val (.int (own_B sc)), .val (.int lw), .val (.ref b2), .val (.int qq), .val (.int ((0 : Int32) + r4))]) rfl k) ?_
  show own_Go p e below P T4 (mkF m 79 #[.val (.int p0), .val (.int p1), .val (.int p2), .val (.int p3), .val (.int p4), .val (.int p5), .val (.int sc), .val (.int (own_B sc)), .val (.int lw), .val (.ref b2), .val (.int qq), .val (.int ((0 : Int32) + r4))] [])
  refine own_step (fun _ k => XS.iload X4.here hx rfl (hb hby at_79) rfl k) ?_
  show own_Go p e below P T4 (mkF m 81 #[.val (.int p0), .val (.int p1), .val (.int p2), .val (.int p3), .val (.int p4), .val (.int p5), .val (.int sc), .val (.int (own_B sc)), .val (.int lw), .val (.ref b2), .val (.int qq), .val (.int ((0 : Int32) + r4))] [(.int ((0 : Int32) + r4))])
  refine own_step (fun _ k => XS.aload X4.here hx rfl (hb hby at_81) rfl rfl k) ?_
  show own_Go p e below P T4 (mkF m 83 #[.val (.int p0), .val (.int p1), .val (.int p2), .val (.int p3), .val (.int p4), .val (.int p5), .val (.int sc), .val (.int (own_B sc)), .val (.int lw), .val (.ref b2), .val (.int qq), .val (.int ((0 : Int32) + r4))] [(.ref b2), (.int ((0 : Int32) + r4))])
  refine own_step (fun _ k => XS.iload X4.here hx rfl (hb hby at_83) rfl k) ?_
  show own_Go p e below P T4 (mkF m 85 #[.val (.int p0), .val (.int p1), .val (.int p2), .val (.int p3), .val (.int p4), .val (.int p5), .val (.int sc), .val (.int (own_B sc)), .val (.int lw), .val (.ref b2), .val (.int qq), .val (.int ((0 : Int32) + r4))] [(.int lw), (.ref b2), (.int ((0 : Int32) + r4))])
  refine own_step (fun _ k => XS.iload X4.here hx rfl (hb hby at_85) rfl k) ?_
  show own_Go p e below P T4 (mkF m 87 #[.val (.int p0), .val (.int p1), .val (.int p2), .val (.int p3), .val (.int p4), .val (.int p5), .val (.int sc), .val (.int (own_B sc)), .val (.int lw), .val (.ref b2), .val (.int qq), .val (.int ((0 : Int32) + r4))] [(.int (own_B sc)), (.int lw), (.ref b2), (.int ((0 : Int32) + r4))])
  refine own_step (fun _ k => XS.iload X4.here hx rfl (hb hby at_87) rfl k) ?_
  show own_Go p e below P T4 (mkF m 89 #[.val (.int p0), .val (.int p1), .val (.int p2), .val (.int p3), .val (.int p4), .val (.int p5), .val (.int sc), .val (.int (own_B sc)), .val (.int lw), .val (.ref b2), .val (.int qq), .val (.int ((0 : Int32) + r4))] [(.int qq), (.int (own_B sc)), (.int lw), (.ref b2), (.int ((0 : Int32) + r4))])
  refine own_step (fun _ k => XS.iloadN X4.here hx rfl (hb hby at_89) rfl k) ?_
  show own_Go p e below P T4 (mkF m 90 #[.val (.int p0), .val (.int p1), .val (.int p2), .val (.int p3), .val (.int p4), .val (.int p5), .val (.int sc), .val (.int (own_B sc)), .val (.int lw), .val (.ref b2), .val (.int qq), .val (.int ((0 : Int32) + r4))] [(.int p2), (.int qq), (.int (own_B sc)), (.int lw), (.ref b2), (.int ((0 : Int32) + r4))])
  obtain ⟨_, _, ⟨T5, L5, k5, n5⟩, -, X5, ⟨Lc5, hQ5, l5, y5, z5⟩, st5⟩ := Jvm.LawKit.callS X4 hx (y := (⟨"com/example/bron/bron/trec/ScoreHistogramAbovePinLaw", "put", "(Lcom/example/bron/bron/trec/ScoreHistogram;IIII)I"⟩ : MethodName)) hown (mvT hZ (hw _ (List.mem_of_getElem? (i := 33) rfl))) (mvT hZ (hw _ (List.mem_of_getElem? (i := 34) rfl))) (mvT hZ (hw _ (List.mem_of_getElem? (i := 35) rfl))) (mvT hZ (hw _ (List.mem_of_getElem? (i := 36) rfl))) (by decide) (backOf (W := 1) (rm7 l Z a0 hw [] b2 lw (own_B sc) qq p2 ar3 kc3 cs4 T4.heap n0 (Nat.le_trans (Nat.le_trans (Nat.le_trans Z0 E2.1) K3.1) K4.1) (E3_o.keep K4) (Fl3.keep K4 (ninS ne3 nin0)) (Fs3.keep K4 (ninS ne3 nin0)) (Fc3.keep K4 (ninS ne3 nin0)) V4 ne3 g_ar3 hlow hE hlen4 hq0) hZ (hw _ (List.mem_of_getElem? (i := 36) rfl)) (hw _ (List.mem_of_getElem? (i := 35) rfl)) (by decide) (by decide)) (g := (mkF m 90 #[.val (.int p0), .val (.int p1), .val (.int p2), .val (.int p3), .val (.int p4), .val (.int p5), .val (.int sc), .val (.int (own_B sc)), .val (.int lw), .val (.ref b2), .val (.int qq), .val (.int ((0 : Int32) + r4))] [(.int p2), (.int qq), (.int (own_B sc)), (.int lw), (.ref b2), (.int ((0 : Int32) + r4))])) rfl (by rw [hml]; rfl) (argsL := [(.ref b2), (.int lw), (.int (own_B sc)), (.int qq), (.int p2)]) (rest := [(.int ((0 : Int32) + r4))]) (lenOf pd__Lcom_example_bron_bron_trec_ScoreHistogramIIII__I rfl) rfl (by show 2 * 0 + _ ≤ _; exact Nat.le_of_eq rfl) (hb hby at_90) (fun _ _ => ⟨rfl, rfl, (by decide : 2 + 0 ≤ _), (by decide : 8 + 0 ≤ _)⟩)
  dsimp only [Pt.U, Pt.locs, Pt.cells, Pt.slots] at X5 l5 y5 z5 st5 hQ5
  subst l5 y5 z5
  obtain ⟨cs5, r5, rfl, le5, ab5, N5q, K5, V5⟩ := hQ5
  have hlen5 := le5.trans hlen4
  have N5 := Fr.app N4 N5q
  refine own_step st5 ?_
  show own_Go p e below P T5 (mkF m 93 #[.val (.int p0), .val (.int p1), .val (.int p2), .val (.int p3), .val (.int p4), .val (.int p5), .val (.int sc), .val (.int (own_B sc)), .val (.int lw), .val (.ref b2), .val (.int qq), .val (.int ((0 : Int32) + r4))] [(.int r5), (.int ((0 : Int32) + r4))])
  refine own_step (fun _ k => XS.iadd X5.here hx rfl (hb hby at_93) rfl k) ?_
  show own_Go p e below P T5 (mkF m 94 #[.val (.int p0), .val (.int p1), .val (.int p2), .val (.int p3), .val (.int p4), .val (.int p5), .val (.int sc), .val (.int (own_B sc)), .val (.int lw), .val (.ref b2), .val (.int qq), .val (.int ((0 : Int32) + r4))] [(.int (((0 : Int32) + r4) + r5))])
  refine own_step (fun _ k => XS.istore X5.here hx rfl (hb hby at_94) rfl (l' := #[.val (.int p0), .val (.int p1), .val (.int p2), .val (.int p3), .val (.int p4), .val (.int p5), .val (.int sc), .val (.int (own_B sc)), .val (.int lw), .val (.ref b2), .val (.int qq), .val (.int (((0 : Int32) + r4) + r5))]) rfl k) ?_
  show own_Go p e below P T5 (mkF m 96 #[.val (.int p0), .val (.int p1), .val (.int p2), .val (.int p3), .val (.int p4), .val (.int p5), .val (.int sc), .val (.int (own_B sc)), .val (.int lw), .val (.ref b2), .val (.int qq), .val (.int (((0 : Int32) + r4) + r5))] [])
  refine own_step (fun _ k => XS.iload X5.here hx rfl (hb hby at_96) rfl k) ?_
  show own_Go p e below P T5 (mkF m 98 #[.val (.int p0), .val (.int p1), .val (.int p2), .val (.int p3), .val (.int p4), .val (.int p5), .val (.int sc), .val (.int (own_B sc)), .val (.int lw), .val (.ref b2), .val (.int qq), .val (.int (((0 : Int32) + r4) + r5))] [(.int (((0 : Int32) + r4) + r5))])
  refine own_step (fun _ k => XS.aload X5.here hx rfl (hb hby at_98) rfl rfl k) ?_
  show own_Go p e below P T5 (mkF m 100 #[.val (.int p0), .val (.int p1), .val (.int p2), .val (.int p3), .val (.int p4), .val (.int p5), .val (.int sc), .val (.int (own_B sc)), .val (.int lw), .val (.ref b2), .val (.int qq), .val (.int (((0 : Int32) + r4) + r5))] [(.ref b2), (.int (((0 : Int32) + r4) + r5))])
  refine own_step (fun _ k => XS.iload X5.here hx rfl (hb hby at_100) rfl k) ?_
  show own_Go p e below P T5 (mkF m 102 #[.val (.int p0), .val (.int p1), .val (.int p2), .val (.int p3), .val (.int p4), .val (.int p5), .val (.int sc), .val (.int (own_B sc)), .val (.int lw), .val (.ref b2), .val (.int qq), .val (.int (((0 : Int32) + r4) + r5))] [(.int lw), (.ref b2), (.int (((0 : Int32) + r4) + r5))])
  refine own_step (fun _ k => XS.iload X5.here hx rfl (hb hby at_102) rfl k) ?_
  show own_Go p e below P T5 (mkF m 104 #[.val (.int p0), .val (.int p1), .val (.int p2), .val (.int p3), .val (.int p4), .val (.int p5), .val (.int sc), .val (.int (own_B sc)), .val (.int lw), .val (.ref b2), .val (.int qq), .val (.int (((0 : Int32) + r4) + r5))] [(.int (own_B sc)), (.int lw), (.ref b2), (.int (((0 : Int32) + r4) + r5))])
  refine own_step (fun _ k => XS.iload X5.here hx rfl (hb hby at_104) rfl k) ?_
  show own_Go p e below P T5 (mkF m 106 #[.val (.int p0), .val (.int p1), .val (.int p2), .val (.int p3), .val (.int p4), .val (.int p5), .val (.int sc), .val (.int (own_B sc)), .val (.int lw), .val (.ref b2), .val (.int qq), .val (.int (((0 : Int32) + r4) + r5))] [(.int qq), (.int (own_B sc)), (.int lw), (.ref b2), (.int (((0 : Int32) + r4) + r5))])
  refine own_step (fun _ k => XS.iloadN X5.here hx rfl (hb hby at_106) rfl k) ?_
  show own_Go p e below P T5 (mkF m 107 #[.val (.int p0), .val (.int p1), .val (.int p2), .val (.int p3), .val (.int p4), .val (.int p5), .val (.int sc), .val (.int (own_B sc)), .val (.int lw), .val (.ref b2), .val (.int qq), .val (.int (((0 : Int32) + r4) + r5))] [(.int p3), (.int qq), (.int (own_B sc)), (.int lw), (.ref b2), (.int (((0 : Int32) + r4) + r5))])
  obtain ⟨_, _, ⟨T6, L6, k6, n6⟩, -, X6, ⟨Lc6, hQ6, l6, y6, z6⟩, st6⟩ := Jvm.LawKit.callS X5 hx (y := (⟨"com/example/bron/bron/trec/ScoreHistogramAbovePinLaw", "put", "(Lcom/example/bron/bron/trec/ScoreHistogram;IIII)I"⟩ : MethodName)) hown (mvT hZ (hw _ (List.mem_of_getElem? (i := 33) rfl))) (mvT hZ (hw _ (List.mem_of_getElem? (i := 34) rfl))) (mvT hZ (hw _ (List.mem_of_getElem? (i := 35) rfl))) (mvT hZ (hw _ (List.mem_of_getElem? (i := 36) rfl))) (by decide) (backOf (W := 1) (rm7 l Z a0 hw [] b2 lw (own_B sc) qq p3 ar3 kc3 cs5 T5.heap n0 (Nat.le_trans (Nat.le_trans (Nat.le_trans (Nat.le_trans Z0 E2.1) K3.1) K4.1) K5.1) ((E3_o.keep K4).keep K5) ((Fl3.keep K4 (ninS ne3 nin0)).keep K5 (ninS ne3 nin0)) ((Fs3.keep K4 (ninS ne3 nin0)).keep K5 (ninS ne3 nin0)) ((Fc3.keep K4 (ninS ne3 nin0)).keep K5 (ninS ne3 nin0)) V5 ne3 g_ar3 hlow hE hlen5 hq0) hZ (hw _ (List.mem_of_getElem? (i := 36) rfl)) (hw _ (List.mem_of_getElem? (i := 35) rfl)) (by decide) (by decide)) (g := (mkF m 107 #[.val (.int p0), .val (.int p1), .val (.int p2), .val (.int p3), .val (.int p4), .val (.int p5), .val (.int sc), .val (.int (own_B sc)), .val (.int lw), .val (.ref b2), .val (.int qq), .val (.int (((0 : Int32) + r4) + r5))] [(.int p3), (.int qq), (.int (own_B sc)), (.int lw), (.ref b2), (.int (((0 : Int32) + r4) + r5))])) rfl (by rw [hml]; rfl) (argsL := [(.ref b2), (.int lw), (.int (own_B sc)), (.int qq), (.int p3)]) (rest := [(.int (((0 : Int32) + r4) + r5))]) (lenOf pd__Lcom_example_bron_bron_trec_ScoreHistogramIIII__I rfl) rfl (by show 2 * 0 + _ ≤ _; exact Nat.le_of_eq rfl) (hb hby at_107) (fun _ _ => ⟨rfl, rfl, (by decide : 2 + 0 ≤ _), (by decide : 8 + 0 ≤ _)⟩)
  dsimp only [Pt.U, Pt.locs, Pt.cells, Pt.slots] at X6 l6 y6 z6 st6 hQ6
  subst l6 y6 z6
  obtain ⟨cs6, r6, rfl, le6, ab6, N6q, K6, V6⟩ := hQ6
  have hlen6 := le6.trans hlen5
  have N6 := Fr.app N5 N6q
  refine own_step st6 ?_
  show own_Go p e below P T6 (mkF m 110 #[.val (.int p0), .val (.int p1), .val (.int p2), .val (.int p3), .val (.int p4), .val (.int p5), .val (.int sc), .val (.int (own_B sc)), .val (.int lw), .val (.ref b2), .val (.int qq), .val (.int (((0 : Int32) + r4) + r5))] [(.int r6), (.int (((0 : Int32) + r4) + r5))])
  refine own_step (fun _ k => XS.iadd X6.here hx rfl (hb hby at_110) rfl k) ?_
  show own_Go p e below P T6 (mkF m 111 #[.val (.int p0), .val (.int p1), .val (.int p2), .val (.int p3), .val (.int p4), .val (.int p5), .val (.int sc), .val (.int (own_B sc)), .val (.int lw), .val (.ref b2), .val (.int qq), .val (.int (((0 : Int32) + r4) + r5))] [(.int ((((0 : Int32) + r4) + r5) + r6))])
  refine own_step (fun _ k => XS.istore X6.here hx rfl (hb hby at_111) rfl (l' := #[.val (.int p0), .val (.int p1), .val (.int p2), .val (.int p3), .val (.int p4), .val (.int p5), .val (.int sc), .val (.int (own_B sc)), .val (.int lw), .val (.ref b2), .val (.int qq), .val (.int ((((0 : Int32) + r4) + r5) + r6))]) rfl k) ?_
  show own_Go p e below P T6 (mkF m 113 #[.val (.int p0), .val (.int p1), .val (.int p2), .val (.int p3), .val (.int p4), .val (.int p5), .val (.int sc), .val (.int (own_B sc)), .val (.int lw), .val (.ref b2), .val (.int qq), .val (.int ((((0 : Int32) + r4) + r5) + r6))] [])
  refine own_step (fun _ k => XS.iload X6.here hx rfl (hb hby at_113) rfl k) ?_
  show own_Go p e below P T6 (mkF m 115 #[.val (.int p0), .val (.int p1), .val (.int p2), .val (.int p3), .val (.int p4), .val (.int p5), .val (.int sc), .val (.int (own_B sc)), .val (.int lw), .val (.ref b2), .val (.int qq), .val (.int ((((0 : Int32) + r4) + r5) + r6))] [(.int ((((0 : Int32) + r4) + r5) + r6))])
  refine own_step (fun _ k => XS.aload X6.here hx rfl (hb hby at_115) rfl rfl k) ?_
  show own_Go p e below P T6 (mkF m 117 #[.val (.int p0), .val (.int p1), .val (.int p2), .val (.int p3), .val (.int p4), .val (.int p5), .val (.int sc), .val (.int (own_B sc)), .val (.int lw), .val (.ref b2), .val (.int qq), .val (.int ((((0 : Int32) + r4) + r5) + r6))] [(.ref b2), (.int ((((0 : Int32) + r4) + r5) + r6))])
  refine own_step (fun _ k => XS.iload X6.here hx rfl (hb hby at_117) rfl k) ?_
  show own_Go p e below P T6 (mkF m 119 #[.val (.int p0), .val (.int p1), .val (.int p2), .val (.int p3), .val (.int p4), .val (.int p5), .val (.int sc), .val (.int (own_B sc)), .val (.int lw), .val (.ref b2), .val (.int qq), .val (.int ((((0 : Int32) + r4) + r5) + r6))] [(.int lw), (.ref b2), (.int ((((0 : Int32) + r4) + r5) + r6))])
  refine own_step (fun _ k => XS.iload X6.here hx rfl (hb hby at_119) rfl k) ?_
  show own_Go p e below P T6 (mkF m 121 #[.val (.int p0), .val (.int p1), .val (.int p2), .val (.int p3), .val (.int p4), .val (.int p5), .val (.int sc), .val (.int (own_B sc)), .val (.int lw), .val (.ref b2), .val (.int qq), .val (.int ((((0 : Int32) + r4) + r5) + r6))] [(.int (own_B sc)), (.int lw), (.ref b2), (.int ((((0 : Int32) + r4) + r5) + r6))])
  refine own_step (fun _ k => XS.iload X6.here hx rfl (hb hby at_121) rfl k) ?_
  show own_Go p e below P T6 (mkF m 123 #[.val (.int p0), .val (.int p1), .val (.int p2), .val (.int p3), .val (.int p4), .val (.int p5), .val (.int sc), .val (.int (own_B sc)), .val (.int lw), .val (.ref b2), .val (.int qq), .val (.int ((((0 : Int32) + r4) + r5) + r6))] [(.int qq), (.int (own_B sc)), (.int lw), (.ref b2), (.int ((((0 : Int32) + r4) + r5) + r6))])
  refine own_step (fun _ k => XS.iload X6.here hx rfl (hb hby at_123) rfl k) ?_
  show own_Go p e below P T6 (mkF m 125 #[.val (.int p0), .val (.int p1), .val (.int p2), .val (.int p3), .val (.int p4), .val (.int p5), .val (.int sc), .val (.int (own_B sc)), .val (.int lw), .val (.ref b2), .val (.int qq), .val (.int ((((0 : Int32) + r4) + r5) + r6))] [(.int p4), (.int qq), (.int (own_B sc)), (.int lw), (.ref b2), (.int ((((0 : Int32) + r4) + r5) + r6))])
  obtain ⟨_, _, ⟨T7, L7, k7, n7⟩, -, X7, ⟨Lc7, hQ7, l7, y7, z7⟩, st7⟩ := Jvm.LawKit.callS X6 hx (y := (⟨"com/example/bron/bron/trec/ScoreHistogramAbovePinLaw", "put", "(Lcom/example/bron/bron/trec/ScoreHistogram;IIII)I"⟩ : MethodName)) hown (mvT hZ (hw _ (List.mem_of_getElem? (i := 33) rfl))) (mvT hZ (hw _ (List.mem_of_getElem? (i := 34) rfl))) (mvT hZ (hw _ (List.mem_of_getElem? (i := 35) rfl))) (mvT hZ (hw _ (List.mem_of_getElem? (i := 36) rfl))) (by decide) (backOf (W := 1) (rm7 l Z a0 hw [] b2 lw (own_B sc) qq p4 ar3 kc3 cs6 T6.heap n0 (Nat.le_trans (Nat.le_trans (Nat.le_trans (Nat.le_trans (Nat.le_trans Z0 E2.1) K3.1) K4.1) K5.1) K6.1) (((E3_o.keep K4).keep K5).keep K6) (((Fl3.keep K4 (ninS ne3 nin0)).keep K5 (ninS ne3 nin0)).keep K6 (ninS ne3 nin0)) (((Fs3.keep K4 (ninS ne3 nin0)).keep K5 (ninS ne3 nin0)).keep K6 (ninS ne3 nin0)) (((Fc3.keep K4 (ninS ne3 nin0)).keep K5 (ninS ne3 nin0)).keep K6 (ninS ne3 nin0)) V6 ne3 g_ar3 hlow hE hlen6 hq0) hZ (hw _ (List.mem_of_getElem? (i := 36) rfl)) (hw _ (List.mem_of_getElem? (i := 35) rfl)) (by decide) (by decide)) (g := (mkF m 125 #[.val (.int p0), .val (.int p1), .val (.int p2), .val (.int p3), .val (.int p4), .val (.int p5), .val (.int sc), .val (.int (own_B sc)), .val (.int lw), .val (.ref b2), .val (.int qq), .val (.int ((((0 : Int32) + r4) + r5) + r6))] [(.int p4), (.int qq), (.int (own_B sc)), (.int lw), (.ref b2), (.int ((((0 : Int32) + r4) + r5) + r6))])) rfl (by rw [hml]; rfl) (argsL := [(.ref b2), (.int lw), (.int (own_B sc)), (.int qq), (.int p4)]) (rest := [(.int ((((0 : Int32) + r4) + r5) + r6))]) (lenOf pd__Lcom_example_bron_bron_trec_ScoreHistogramIIII__I rfl) rfl (by show 2 * 0 + _ ≤ _; exact Nat.le_of_eq rfl) (hb hby at_125) (fun _ _ => ⟨rfl, rfl, (by decide : 2 + 0 ≤ _), (by decide : 8 + 0 ≤ _)⟩)
  dsimp only [Pt.U, Pt.locs, Pt.cells, Pt.slots] at X7 l7 y7 z7 st7 hQ7
  subst l7 y7 z7
  obtain ⟨cs7, r7, rfl, le7, ab7, N7q, K7, V7⟩ := hQ7
  have hlen7 := le7.trans hlen6
  have N7 := Fr.app N6 N7q
  refine own_step st7 ?_
  show own_Go p e below P T7 (mkF m 128 #[.val (.int p0), .val (.int p1), .val (.int p2), .val (.int p3), .val (.int p4), .val (.int p5), .val (.int sc), .val (.int (own_B sc)), .val (.int lw), .val (.ref b2), .val (.int qq), .val (.int ((((0 : Int32) + r4) + r5) + r6))] [(.int r7), (.int ((((0 : Int32) + r4) + r5) + r6))])
  refine own_step (fun _ k => XS.iadd X7.here hx rfl (hb hby at_128) rfl k) ?_
  show own_Go p e below P T7 (mkF m 129 #[.val (.int p0), .val (.int p1), .val (.int p2), .val (.int p3), .val (.int p4), .val (.int p5), .val (.int sc), .val (.int (own_B sc)), .val (.int lw), .val (.ref b2), .val (.int qq), .val (.int ((((0 : Int32) + r4) + r5) + r6))] [(.int (((((0 : Int32) + r4) + r5) + r6) + r7))])
  refine own_step (fun _ k => XS.istore X7.here hx rfl (hb hby at_129) rfl (l' := #[.val (.int p0), .val (.int p1), .val (.int p2), .val (.int p3), .val (.int p4), .val (.int p5), .val (.int sc), .val (.int (own_B sc)), .val (.int lw), .val (.ref b2), .val (.int qq), .val (.int (((((0 : Int32) + r4) + r5) + r6) + r7))]) rfl k) ?_
  show own_Go p e below P T7 (mkF m 131 #[.val (.int p0), .val (.int p1), .val (.int p2), .val (.int p3), .val (.int p4), .val (.int p5), .val (.int sc), .val (.int (own_B sc)), .val (.int lw), .val (.ref b2), .val (.int qq), .val (.int (((((0 : Int32) + r4) + r5) + r6) + r7))] [])
  refine own_step (fun _ k => XS.aload X7.here hx rfl (hb hby at_131) rfl rfl k) ?_
  show own_Go p e below P T7 (mkF m 133 #[.val (.int p0), .val (.int p1), .val (.int p2), .val (.int p3), .val (.int p4), .val (.int p5), .val (.int sc), .val (.int (own_B sc)), .val (.int lw), .val (.ref b2), .val (.int qq), .val (.int (((((0 : Int32) + r4) + r5) + r6) + r7))] [(.ref b2)])
  refine own_step (fun _ k => XS.iload X7.here hx rfl (hb hby at_133) rfl k) ?_
  show own_Go p e below P T7 (mkF m 135 #[.val (.int p0), .val (.int p1), .val (.int p2), .val (.int p3), .val (.int p4), .val (.int p5), .val (.int sc), .val (.int (own_B sc)), .val (.int lw), .val (.ref b2), .val (.int qq), .val (.int (((((0 : Int32) + r4) + r5) + r6) + r7))] [(.int qq), (.ref b2)])
  obtain ⟨cq8, kq8, q8a, q8b, q8c⟩ := isOf hZ rfl ((((E3_o.keep K4).keep K5).keep K6).keep K7)
  obtain ⟨_, _, ⟨T8, L8, k8, n8⟩, -, X8, ⟨Lc8, hQ8, l8, y8, z8⟩, st8⟩ := X7.virtualBack hx (y := (⟨"com/example/bron/bron/trec/ScoreHistogram", "above", "(I)I"⟩ : MethodName)) (z := (⟨"com/example/bron/bron/trec/ScoreHistogram", "above", "(I)I"⟩ : MethodName)) hown (mvT hZ (hw _ (List.mem_of_getElem? (i := 37) rfl))) (mvT hZ (hw _ (List.mem_of_getElem? (i := 38) rfl))) (notFace_of_selects (args := #[]) (mvT hZ (hw _ (List.mem_of_getElem? (i := 40) rfl)))) (mvT hZ (hw _ (List.mem_of_getElem? (i := 40) rfl))) (mvT hZ (hw _ (List.mem_of_getElem? (i := 39) rfl))) (by decide) (backOf (W := 0) (rm8 l Z a0 hw [] b2 qq ar3 kc3 ((own_B sc) + (1 : Int32)) cs7 (FP.i2d lw) T7.heap n0 (Nat.le_trans (Nat.le_trans (Nat.le_trans (Nat.le_trans (Nat.le_trans (Nat.le_trans Z0 E2.1) K3.1) K4.1) K5.1) K6.1) K7.1) ((((E3_o.keep K4).keep K5).keep K6).keep K7) ((((Fl3.keep K4 (ninS ne3 nin0)).keep K5 (ninS ne3 nin0)).keep K6 (ninS ne3 nin0)).keep K7 (ninS ne3 nin0)) ((((Fs3.keep K4 (ninS ne3 nin0)).keep K5 (ninS ne3 nin0)).keep K6 (ninS ne3 nin0)).keep K7 (ninS ne3 nin0)) ((((Fc3.keep K4 (ninS ne3 nin0)).keep K5 (ninS ne3 nin0)).keep K6 (ninS ne3 nin0)).keep K7 (ninS ne3 nin0)) V7 ne3 hlen7 hq0 hq1) hZ (hw _ (List.mem_of_getElem? (i := 41) rfl)) (hw _ (List.mem_of_getElem? (i := 6) rfl)) (by decide) (by decide)) q8a q8c (g := (mkF m 135 #[.val (.int p0), .val (.int p1), .val (.int p2), .val (.int p3), .val (.int p4), .val (.int p5), .val (.int sc), .val (.int (own_B sc)), .val (.int lw), .val (.ref b2), .val (.int qq), .val (.int (((((0 : Int32) + r4) + r5) + r6) + r7))] [(.int qq), (.ref b2)])) rfl (by rw [hml]; rfl) (Steps.refl _) (argsL := [(.int qq)]) (rest := []) (lenOf pd__I__I rfl) rfl (by show 2 * 0 + _ ≤ _; exact Nat.le_of_eq rfl) (hb hby at_135) (fun _ _ => ⟨rfl, rfl, (by decide : 2 + 0 ≤ _), (by decide : 8 + 0 ≤ _)⟩)
  dsimp only [Pt.U, Pt.locs, Pt.cells, Pt.slots] at X8 l8 y8 z8 st8 hQ8
  subst l8 y8 z8
  obtain ⟨rfl, N8q, e8⟩ := hQ8
  have N8 := Fr.app N7 N8q
  refine own_step (fun _ k => st8.trans k) ?_
  show own_Go p e below P T8 (mkF m 138 #[.val (.int p0), .val (.int p1), .val (.int p2), .val (.int p3), .val (.int p4), .val (.int p5), .val (.int sc), .val (.int (own_B sc)), .val (.int lw), .val (.ref b2), .val (.int qq), .val (.int (((((0 : Int32) + r4) + r5) + r6) + r7))] [(.int (own_ab cs7 qq))])
  refine own_step (fun _ k => XS.iload X8.here hx rfl (hb hby at_138) rfl k) ?_
  show own_Go p e below P T8 (mkF m 140 #[.val (.int p0), .val (.int p1), .val (.int p2), .val (.int p3), .val (.int p4), .val (.int p5), .val (.int sc), .val (.int (own_B sc)), .val (.int lw), .val (.ref b2), .val (.int qq), .val (.int (((((0 : Int32) + r4) + r5) + r6) + r7))] [(.int (((((0 : Int32) + r4) + r5) + r6) + r7)), (.int (own_ab cs7 qq))])
  have hfin9 : (own_ab cs7 qq) = (((((0 : Int32) + r4) + r5) + r6) + r7) := by
    rw [ab7, ab6, ab5, ab4]
    show own_sum _ + _ + _ + _ + _ = _
    rw [own_sum_rep]
  refine own_step (fun _ k => XS.icmpNo X8.here hx rfl (hb hby at_140) rfl (teq hfin9).2 k) ?_
  show own_Go p e below P T8 (mkF m 143 #[.val (.int p0), .val (.int p1), .val (.int p2), .val (.int p3), .val (.int p4), .val (.int p5), .val (.int sc), .val (.int (own_B sc)), .val (.int lw), .val (.ref b2), .val (.int qq), .val (.int (((((0 : Int32) + r4) + r5) + r6) + r7))] [])
  refine own_step (fun _ k => XS.iconst X8.here hx rfl (hb hby at_143) k) ?_
  show own_Go p e below P T8 (mkF m 144 #[.val (.int p0), .val (.int p1), .val (.int p2), .val (.int p3), .val (.int p4), .val (.int p5), .val (.int sc), .val (.int (own_B sc)), .val (.int lw), .val (.ref b2), .val (.int qq), .val (.int (((((0 : Int32) + r4) + r5) + r6) + r7))] [(.int (1 : Int32))])
  refine own_step (fun _ k => XS.goto X8.here hx rfl (pc0 := 144) (pc' := 148) rfl (hb hby at_144) (by decide) (by decide) k) ?_
  show own_Go p e below P T8 (mkF m 148 #[.val (.int p0), .val (.int p1), .val (.int p2), .val (.int p3), .val (.int p4), .val (.int p5), .val (.int sc), .val (.int (own_B sc)), .val (.int lw), .val (.ref b2), .val (.int qq), .val (.int (((((0 : Int32) + r4) + r5) + r6) + r7))] [(.int (1 : Int32))])
  obtain ⟨fs, hr, hrun, hended, hW, hsame⟩ := X8.leave (v := some (.int (1 : Int32))) (fun h => by rw [Bd.returns] at h; cases h)
  refine ⟨_, _, retN X8 hx (t := .boolean) Bd.returns (by simp) (hb hby at_148) hr, hrun, hended, hfin _ _ ⟨_, _, rfl, ?_, ⟨_, rfl⟩, hW, hsame.mono (by decide) (by decide)⟩⟩
  show Q0 Z p0 p1 p2 p3 p4 p5 h0 n0 (some (.int (1 : Int32))) T8.heap _
  rw [e8]
  exact ⟨rfl, N8⟩
set_option maxRecDepth 65536 in
set_option maxHeartbeats 40000000 in
theorem comes_1 {Post : Tables → Env → Array Value → State → Outcome → State → Prop} (hpost : ∀ tb e args s v u, (limb_1_1.after args s (.returned v) u = true ∧ limb_1_2.after args s (.returned v) u = true ∧ True) → FrameEnd s (.returned v) u (Jvm.fieldLocs frame_1_writes args s ++ Jvm.arrayLocs frame_1_arrays args s ++ Jvm.staticLocs frame_1_statics s) 16 128 → Post tb e args s (.returned v) u) :
    ArmFor flags0 classFile x code maxLocals ret World_1 tables_1 room_1 Calls_1 rest_1 Pre_1 Post := by
  intro l hfl _ _ p e ha hc hk s m args below hf hA hF happ hP
  obtain ⟨hcalls, hrest, hpre⟩ := hP
  obtain ⟨-, -, -, hnamed, -, -, -, hat⟩ := (Spec.applies_iff hf).mp happ
  obtain ⟨hg, hn⟩ := and_e (Cond.before_iff.mp (show (Jvm.Cond.and given_1 narrow_1).before args s = true from hpre))
  obtain ⟨hcnt, hg0⟩ := and_e hg
  obtain ⟨ga0, hg1⟩ := and_e hg0
  obtain ⟨ga1, hg2⟩ := and_e hg1
  obtain ⟨ga2, hg3⟩ := and_e hg2
  obtain ⟨ga3, hg4⟩ := and_e hg3
  obtain ⟨ga4, hg5⟩ := and_e hg4
  have ga5 := hg5
  obtain ⟨w0, w1, w2, w3, w4, w5, rfl⟩ : ∃ w0 w1 w2 w3 w4 w5 : Value, args = #[w0, w1, w2, w3, w4, w5] := by
    have hs : args.size = 6 := by simpa [Cond.value, given_1] using hcnt
    obtain ⟨L⟩ := args
    match L, hs with
    | [w0, w1, w2, w3, w4, w5], _ => exact ⟨w0, w1, w2, w3, w4, w5, rfl⟩
  have hw := fun d (hd : d ∈ tables_1) => atoms_spec (ws := Jvm.Cond.code x code maxLocals ret :: tables_1) hat d (List.mem_cons_of_mem _ hd)
  have hfit : Fit s := fun {y c} hc i hi => by
    obtain ⟨ha, rfl⟩ := Array.getElem?_eq_some_iff.mp hc
    have q := List.all_eq_true.mp ((Array.all_eq_true_iff_forall_mem.mp hF) _ (Array.getElem_mem ha)) i (List.mem_range.mpr hi)
    simpa [Array.getElem?_eq_getElem hi] using q
  obtain ⟨i0, ei0⟩ := is_v ga0
  obtain rfl : w0 = (.int i0) := Option.some.inj ei0
  obtain ⟨i1, ei1⟩ := is_v ga1
  obtain rfl : w1 = (.int i1) := Option.some.inj ei1
  obtain ⟨i2, ei2⟩ := is_v ga2
  obtain rfl : w2 = (.int i2) := Option.some.inj ei2
  obtain ⟨i3, ei3⟩ := is_v ga3
  obtain rfl : w3 = (.int i3) := Option.some.inj ei3
  obtain ⟨i4, ei4⟩ := is_v ga4
  obtain rfl : w4 = (.int i4) := Option.some.inj ei4
  obtain ⟨i5, ei5⟩ := is_v ga5
  obtain rfl : w5 = (.int i5) := Option.some.inj ei5
  obtain ⟨n, o, h1, h2, h3, _, L, rfl, ⟨rfl, N⟩, hq⟩ := rm0 l s _ hw tables_1 i0 i1 i2 i3 i4 i5  s.heap s.heap.size (Nat.le_refl _)  p e ha hc hk s m _ below hf ((Spec.applies_iff_loose hf).mp happ).1 ⟨rfl, State.Warmed39.refl s, rfl⟩ trivial
  refine ⟨n, _, h1, h2, h3, hpost _ _ _ _ _ _ ⟨Cond.after_iff.mpr rfl, Cond.after_iff.mpr (eq_i res_at (Term.int_eval (1)) rfl), trivial⟩ ⟨hq.1, hq.2.1, (hq.2.2.sift fun y hy => Or.inr (N y hy)).mono (by decide) (by decide)⟩⟩
theorem main_1_1 : Claimed_1_1 := comes_1 fun _ _ _ _ _ _ h hF => ⟨h.1, hF⟩
theorem main_1_2 : Claimed_1_2 := comes_1 fun _ _ _ _ _ _ h hF => ⟨h.2.1, hF⟩
end Jvm.Pilot.@@N@@
namespace Jvm.Pilot.@@N@@
open Jvm Jvm.ClassFile Sem Op Lib Jvm.Free Jvm.Stand Jvm.Pilot.@@N@@.Jvm.D
/-! MADE BY PROGRAM (witnessworld.py) out of the Statement's table words and the real class files: 15 classes; the members and pool entries that the words name. The judged class is class 1, her method 1. -/
namespace start1
open Jvm.ClassFile
def u (s : String) : CpInfo := .utf8 (stringToUtf16 s)
/-- a pool by its gaps: so many unusable entries, then the entry; so many at the end -/
def gap : Nat → List CpInfo → List CpInfo
  | 0, r => r
  | n + 1, r => .unusable :: gap n r
def poolList (es : List (Nat × CpInfo)) (last : Nat) : List CpInfo := es.foldr (fun e r => gap e.1 (e.2 :: r)) (gap last [])
def pool (es : List (Nat × CpInfo)) (last : Nat) : Array CpInfo := ⟨poolList es last⟩
def fileOf (pool : Array CpInfo) (this : Nat) (attrs : Array Attribute := #[]) (ms : Array MethodInfo := #[]) (fl : Nat := 33) (sup : Nat := 0) (ifs : Array Nat := #[]) (fds : Array FieldInfo := #[]) : ClassFile where
  minorVersion := 0
  majorVersion := 65
  constantPool := pool
  accessFlags := fl
  thisClass := this
  superClass := sup
  interfaces := ifs
  fields := fds
  methods := ms
  attributes := attrs
def plain (name : String) (sup : Option ClassId) : Class where
  name := name
  kind := .ordinary
  loader := none
  accessFlags := 33
  super := sup
  interfaces := #[]
  cf := none
  fields := #[]
  methods := #[]
  instanceTypes := #[]
  staticTypes := #[]
  resolved := #[]
  callSites := []
  init := .initialized
  statics := none
  mirror := none

def pool0 : Array CpInfo := pool [(5, u "<init>"), (0, u "()V"), (1, .class_ 10), (1, u "java/lang/Object")] 113

def k0c0 : Code := { maxStack := 0, maxLocals := 1, code := object_method_1_code, exceptionTable := #[], attributes := #[] }
def k0m0 : Method := { name := "<init>", desc := "()V", sig := { parameters := [], returnType := none }, accessFlags := 1, code := some k0c0 }
/-- java/lang/Object -/
def k0 : Class := { plain "java/lang/Object" none with
  accessFlags := 33
  interfaces := #[]
  cf := some (fileOf pool0 8 #[] #[{ accessFlags := 1, nameIndex := 5, descriptorIndex := 6, attributes := #[] }] 33 0 #[] #[])
  fields := #[]
  methods := #[k0m0]
  instanceTypes := #[]
  staticTypes := #[]
  resolved := Array.replicate 124 none
  statics := none }

def pool1 : Array CpInfo := pool [(2, .class_ 4), (1, u "java/lang/Object"), (0, u "<init>"), (0, u "()V"), (0, .methodref 8 9), (0, .class_ 10), (0, .nameAndType 11 12), (0, u "java/lang/Math"), (0, u "max"), (0, u "(II)I"), (0, .class_ 14), (0, u "com/example/bron/bron/trec/ScoreHistogram"), (0, .methodref 13 16), (0, .nameAndType 5 17), (0, u "(DDI)V"), (0, .integer 2147483647), (0, .methodref 20 21), (0, .class_ 22), (0, .nameAndType 23 24), (0, u "com/example/bron/bron/trec/ScoreHistogramAbovePinLaw"), (0, u "put"), (0, u "(Lcom/example/bron/bron/trec/ScoreHistogram;IIII)I"), (0, .methodref 13 26), (0, .nameAndType 27 28), (0, u "above"), (0, u "(I)I"), (0, .double 4611686018427387904), (1, .methodref 13 32), (0, .nameAndType 33 34), (0, u "add"), (0, u "(D)V"), (0, .methodref 8 36), (0, .nameAndType 37 12), (0, u "min"), (2, u "law"), (0, u "(IIIIII)Z")] 3

def k1m0 : Method := { name := "<init>", desc := "()V", sig := { parameters := [], returnType := none }, accessFlags := 1, code := none }
def k1c1 : Code := { maxStack := 7, maxLocals := 12, code := code, exceptionTable := #[], attributes := #[] }
def k1m1 : Method := { name := "law", desc := "(IIIIII)Z", sig := { parameters := [.int, .int, .int, .int, .int, .int], returnType := some .boolean }, accessFlags := 9, code := some k1c1 }
def k1c2 : Code := { maxStack := 7, maxLocals := 8, code := method_3_code, exceptionTable := #[], attributes := #[] }
def k1m2 : Method := { name := "put", desc := "(Lcom/example/bron/bron/trec/ScoreHistogram;IIII)I", sig := { parameters := [(.object "com/example/bron/bron/trec/ScoreHistogram"), .int, .int, .int, .int], returnType := some .int }, accessFlags := 10, code := some k1c2 }
/-- com/example/bron/bron/trec/ScoreHistogramAbovePinLaw -/
def k1 : Class := { plain "com/example/bron/bron/trec/ScoreHistogramAbovePinLaw" (some 0) with
  accessFlags := 49
  interfaces := #[]
  cf := some (fileOf pool1 20 #[] #[{ accessFlags := 1, nameIndex := 5, descriptorIndex := 6, attributes := #[] }, { accessFlags := 9, nameIndex := 40, descriptorIndex := 41, attributes := #[] }, { accessFlags := 10, nameIndex := 23, descriptorIndex := 24, attributes := #[] }] 49 2 #[] #[])
  fields := #[]
  methods := #[k1m0, k1m1, k1m2]
  instanceTypes := #[]
  staticTypes := #[]
  resolved := Array.replicate 45 none
  statics := none }

def pool2 : Array CpInfo := pool [(1, .class_ 2), (0, u "java/lang/Math"), (1, .class_ 6), (1, u "java/lang/Object"), (0, u "<init>"), (0, u "()V"), (5, u "(D)D"), (83, .class_ 100), (1, u "java/lang/Math$RandomNumberGeneratorHolder"), (23, u "abs"), (47, u "negativeZeroFloatBits"), (0, u "J"), (2, u "negativeZeroDoubleBits"), (21, u "max"), (2, u "min"), (43, u "$assertionsDisabled"), (0, u "Z"), (88, u "(II)I"), (2, u "twoToTheDoubleScaleDown"), (0, u "D"), (4, u "twoToTheDoubleScaleUp"), (9, u "E"), (3, u "PI"), (2, u "TAU"), (2, u "DEGREES_TO_RADIANS"), (0, u "RADIANS_TO_DEGREES")] 94

def k2m0 : Method := { name := "<init>", desc := "()V", sig := { parameters := [], returnType := none }, accessFlags := 2, code := none }
def k2c1 : Code := { maxStack := 4, maxLocals := 2, code := jdk_29_method_64_code, exceptionTable := #[], attributes := #[] }
def k2m1 : Method := { name := "abs", desc := "(D)D", sig := { parameters := [.double], returnType := some .double }, accessFlags := 9, code := some k2c1 }
def k2c2 : Code := { maxStack := 2, maxLocals := 2, code := jdk_29_method_65_code, exceptionTable := #[], attributes := #[] }
def k2m2 : Method := { name := "max", desc := "(II)I", sig := { parameters := [.int, .int], returnType := some .int }, accessFlags := 9, code := some k2c2 }
def k2c3 : Code := { maxStack := 2, maxLocals := 2, code := jdk_29_method_69_code, exceptionTable := #[], attributes := #[] }
def k2m3 : Method := { name := "min", desc := "(II)I", sig := { parameters := [.int, .int], returnType := some .int }, accessFlags := 9, code := some k2c3 }
/-- java/lang/Math -/
def k2 : Class := { plain "java/lang/Math" (some 0) with
  accessFlags := 49
  interfaces := #[]
  cf := some (fileOf pool2 1 #[.nestMembers #[98]] #[{ accessFlags := 2, nameIndex := 7, descriptorIndex := 8, attributes := #[] }, { accessFlags := 9, nameIndex := 124, descriptorIndex := 14, attributes := #[] }, { accessFlags := 9, nameIndex := 198, descriptorIndex := 335, attributes := #[] }, { accessFlags := 9, nameIndex := 201, descriptorIndex := 335, attributes := #[] }] 49 4 #[] #[{ accessFlags := 25, nameIndex := 354, descriptorIndex := 339, attributes := #[] }, { accessFlags := 25, nameIndex := 358, descriptorIndex := 339, attributes := #[] }, { accessFlags := 25, nameIndex := 361, descriptorIndex := 339, attributes := #[] }, { accessFlags := 26, nameIndex := 364, descriptorIndex := 339, attributes := #[] }, { accessFlags := 26, nameIndex := 365, descriptorIndex := 339, attributes := #[] }, { accessFlags := 26, nameIndex := 172, descriptorIndex := 173, attributes := #[] }, { accessFlags := 26, nameIndex := 176, descriptorIndex := 173, attributes := #[] }, { accessFlags := 8, nameIndex := 344, descriptorIndex := 339, attributes := #[] }, { accessFlags := 8, nameIndex := 338, descriptorIndex := 339, attributes := #[] }, { accessFlags := 4120, nameIndex := 245, descriptorIndex := 246, attributes := #[] }])
  fields := #[{ name := "E", type := .double, accessFlags := 25, slot := 0, constantValue := 0 }, { name := "PI", type := .double, accessFlags := 25, slot := 1, constantValue := 0 }, { name := "TAU", type := .double, accessFlags := 25, slot := 2, constantValue := 0 }, { name := "DEGREES_TO_RADIANS", type := .double, accessFlags := 26, slot := 3, constantValue := 0 }, { name := "RADIANS_TO_DEGREES", type := .double, accessFlags := 26, slot := 4, constantValue := 0 }, { name := "negativeZeroFloatBits", type := .long, accessFlags := 26, slot := 5, constantValue := 0 }, { name := "negativeZeroDoubleBits", type := .long, accessFlags := 26, slot := 6, constantValue := 0 }, { name := "twoToTheDoubleScaleUp", type := .double, accessFlags := 8, slot := 7, constantValue := 0 }, { name := "twoToTheDoubleScaleDown", type := .double, accessFlags := 8, slot := 8, constantValue := 0 }, { name := "$assertionsDisabled", type := .boolean, accessFlags := 4120, slot := 9, constantValue := 0 }]
  methods := #[k2m0, k2m1, k2m2, k2m3]
  instanceTypes := #[]
  staticTypes := #[.double, .double, .double, .double, .double, .long, .long, .double, .double, .boolean]
  resolved := Array.replicate 460 none
  statics := none }

def pool3 : Array CpInfo := pool [(1, .methodref 2 3), (0, .class_ 4), (0, .nameAndType 5 6), (0, u "java/lang/Object"), (0, u "<init>"), (0, u "()V"), (0, .methodref 8 9), (0, .class_ 10), (0, .nameAndType 11 12), (0, u "java/lang/Double"), (0, u "isFinite"), (0, u "(D)Z"), (7, .class_ 21), (0, u "com/example/bron/bron/trec/ScoreHistogram"), (0, .methodref 23 24), (0, .class_ 25), (0, .nameAndType 26 27), (0, u "java/lang/Math"), (0, u "min"), (0, u "(II)I"), (0, .methodref 23 29), (0, .nameAndType 30 27), (0, u "max"), (0, .fieldref 20 32), (0, .nameAndType 33 34), (0, u "lowest"), (0, u "D"), (0, .fieldref 20 36), (0, .nameAndType 37 34), (0, u "scale"), (0, .fieldref 20 39), (0, .nameAndType 40 41), (0, u "counts"), (0, u "[I"), (0, .methodref 20 43), (0, .nameAndType 44 45), (0, u "bucket"), (0, u "(D)I"), (0, u "MOST_BUCKETS"), (0, u "I"), (2, u "SCORES_PER_BUCKET"), (1, u "(DDI)V"), (3, u "add"), (0, u "(D)V"), (1, u "(I)I"), (1, u "above")] 4

def k3c0 : Code := { maxStack := 7, maxLocals := 7, code := prog_23_method_1_code, exceptionTable := #[], attributes := #[] }
def k3m0 : Method := { name := "<init>", desc := "(DDI)V", sig := { parameters := [.double, .double, .int], returnType := none }, accessFlags := 1, code := some k3c0 }
def k3c1 : Code := { maxStack := 4, maxLocals := 3, code := prog_23_method_2_code, exceptionTable := #[], attributes := #[] }
def k3m1 : Method := { name := "add", desc := "(D)V", sig := { parameters := [.double], returnType := none }, accessFlags := 1, code := some k3c1 }
def k3c2 : Code := { maxStack := 6, maxLocals := 3, code := prog_23_method_3_code, exceptionTable := #[], attributes := #[] }
def k3m2 : Method := { name := "bucket", desc := "(D)I", sig := { parameters := [.double], returnType := some .int }, accessFlags := 1, code := some k3c2 }
def k3c3 : Code := { maxStack := 3, maxLocals := 4, code := prog_23_method_6_code, exceptionTable := #[], attributes := #[] }
def k3m3 : Method := { name := "above", desc := "(I)I", sig := { parameters := [.int], returnType := some .int }, accessFlags := 1, code := some k3c3 }
/-- com/example/bron/bron/trec/ScoreHistogram -/
def k3 : Class := { plain "com/example/bron/bron/trec/ScoreHistogram" (some 0) with
  accessFlags := 33
  interfaces := #[]
  cf := some (fileOf pool3 20 #[] #[{ accessFlags := 1, nameIndex := 5, descriptorIndex := 52, attributes := #[] }, { accessFlags := 1, nameIndex := 56, descriptorIndex := 57, attributes := #[] }, { accessFlags := 1, nameIndex := 44, descriptorIndex := 45, attributes := #[] }, { accessFlags := 1, nameIndex := 61, descriptorIndex := 59, attributes := #[] }] 33 2 #[] #[{ accessFlags := 26, nameIndex := 46, descriptorIndex := 47, attributes := #[] }, { accessFlags := 26, nameIndex := 50, descriptorIndex := 47, attributes := #[] }, { accessFlags := 18, nameIndex := 33, descriptorIndex := 34, attributes := #[] }, { accessFlags := 18, nameIndex := 37, descriptorIndex := 34, attributes := #[] }, { accessFlags := 18, nameIndex := 40, descriptorIndex := 41, attributes := #[] }])
  fields := #[{ name := "MOST_BUCKETS", type := .int, accessFlags := 26, slot := 0, constantValue := 0 }, { name := "SCORES_PER_BUCKET", type := .int, accessFlags := 26, slot := 1, constantValue := 0 }, { name := "lowest", type := .double, accessFlags := 18, slot := 0, constantValue := 0 }, { name := "scale", type := .double, accessFlags := 18, slot := 1, constantValue := 0 }, { name := "counts", type := (.array .int), accessFlags := 18, slot := 2, constantValue := 0 }]
  methods := #[k3m0, k3m1, k3m2, k3m3]
  instanceTypes := #[.double, .double, (.array .int)]
  staticTypes := #[.int, .int]
  resolved := Array.replicate 66 none
  statics := none }

def pool4 : Array CpInfo := pool [(1, .class_ 2), (0, u "java/io/Serializable"), (0, .class_ 4), (0, u "java/lang/Object")] 2

/-- java/io/Serializable -/
def k4 : Class := { plain "java/io/Serializable" (some 0) with
  accessFlags := 1537
  interfaces := #[]
  cf := some (fileOf pool4 1 #[] #[] 1537 3 #[] #[])
  fields := #[]
  methods := #[]
  instanceTypes := #[]
  staticTypes := #[]
  resolved := Array.replicate 7 none
  statics := none }

def pool5 : Array CpInfo := pool [(2, .class_ 4), (1, u "java/lang/Object"), (0, u "<init>"), (0, u "()V"), (1, .class_ 10), (1, u "java/lang/Number"), (2, .class_ 14), (0, u "java/io/Serializable"), (0, u "serialVersionUID"), (0, u "J")] 20

def k5m0 : Method := { name := "<init>", desc := "()V", sig := { parameters := [], returnType := none }, accessFlags := 1, code := none }
/-- java/lang/Number -/
def k5 : Class := { plain "java/lang/Number" (some 0) with
  accessFlags := 1057
  interfaces := #[4]
  cf := some (fileOf pool5 8 #[] #[{ accessFlags := 1, nameIndex := 5, descriptorIndex := 6, attributes := #[] }] 1057 2 #[13] #[{ accessFlags := 26, nameIndex := 15, descriptorIndex := 16, attributes := #[] }])
  fields := #[{ name := "serialVersionUID", type := .long, accessFlags := 26, slot := 0, constantValue := 0 }]
  methods := #[k5m0]
  instanceTypes := #[]
  staticTypes := #[.long]
  resolved := Array.replicate 37 none
  statics := none }

def pool6 : Array CpInfo := pool [(1, .class_ 2), (0, u "java/lang/Comparable"), (0, .class_ 4), (0, u "java/lang/Object")] 7

/-- java/lang/Comparable -/
def k6 : Class := { plain "java/lang/Comparable" (some 0) with
  accessFlags := 1537
  interfaces := #[]
  cf := some (fileOf pool6 1 #[] #[] 1537 3 #[] #[])
  fields := #[]
  methods := #[]
  instanceTypes := #[]
  staticTypes := #[]
  resolved := Array.replicate 12 none
  statics := none }

def pool7 : Array CpInfo := pool [(1, .class_ 2), (0, u "java/lang/constant/Constable"), (0, .class_ 4), (0, u "java/lang/Object")] 6

/-- java/lang/constant/Constable -/
def k7 : Class := { plain "java/lang/constant/Constable" (some 0) with
  accessFlags := 1537
  interfaces := #[]
  cf := some (fileOf pool7 1 #[] #[] 1537 3 #[] #[])
  fields := #[]
  methods := #[]
  instanceTypes := #[]
  staticTypes := #[]
  resolved := Array.replicate 11 none
  statics := none }

def pool8 : Array CpInfo := pool [(1, .class_ 2), (0, u "java/lang/constant/ConstantDesc"), (0, .class_ 4), (0, u "java/lang/Object")] 32

/-- java/lang/constant/ConstantDesc -/
def k8 : Class := { plain "java/lang/constant/ConstantDesc" (some 0) with
  accessFlags := 1537
  interfaces := #[]
  cf := some (fileOf pool8 1 #[] #[] 1537 3 #[] #[])
  fields := #[]
  methods := #[]
  instanceTypes := #[]
  staticTypes := #[]
  resolved := Array.replicate 37 none
  statics := none }

def pool9 : Array CpInfo := pool [(1, .class_ 2), (0, u "java/lang/Double"), (10, u "isFinite"), (0, u "(D)Z"), (8, .class_ 25), (1, u "java/lang/Math"), (12, .methodref 23 39), (0, .nameAndType 40 41), (0, u "abs"), (0, u "(D)D"), (69, .double 9218868437227405311), (2, .class_ 116), (1, u "java/lang/Number"), (3, u "value"), (0, u "D"), (51, u "TYPE"), (0, u "Ljava/lang/Class;"), (0, .class_ 176), (0, u "java/lang/Comparable"), (0, .class_ 178), (0, u "java/lang/constant/Constable"), (0, .class_ 180), (0, u "java/lang/constant/ConstantDesc"), (0, u "POSITIVE_INFINITY"), (3, u "NEGATIVE_INFINITY"), (2, u "NaN"), (2, u "MAX_VALUE"), (0, u "MIN_NORMAL"), (0, u "MIN_VALUE"), (2, u "SIZE"), (0, u "I"), (1, u "PRECISION"), (1, u "MAX_EXPONENT"), (1, u "MIN_EXPONENT"), (1, u "BYTES"), (3, u "serialVersionUID"), (0, u "J")] 79

def k9c0 : Code := { maxStack := 4, maxLocals := 2, code := jdk_117_method_8_code, exceptionTable := #[], attributes := #[] }
def k9m0 : Method := { name := "isFinite", desc := "(D)Z", sig := { parameters := [.double], returnType := some .boolean }, accessFlags := 9, code := some k9c0 }
/-- java/lang/Double -/
def k9 : Class := { plain "java/lang/Double" (some 5) with
  accessFlags := 49
  interfaces := #[6, 7, 8]
  cf := some (fileOf pool9 1 #[] #[{ accessFlags := 9, nameIndex := 13, descriptorIndex := 14, attributes := #[] }] 49 114 #[175, 177, 179] #[{ accessFlags := 25, nameIndex := 181, descriptorIndex := 121, attributes := #[] }, { accessFlags := 25, nameIndex := 185, descriptorIndex := 121, attributes := #[] }, { accessFlags := 25, nameIndex := 188, descriptorIndex := 121, attributes := #[] }, { accessFlags := 25, nameIndex := 191, descriptorIndex := 121, attributes := #[] }, { accessFlags := 25, nameIndex := 192, descriptorIndex := 121, attributes := #[] }, { accessFlags := 25, nameIndex := 193, descriptorIndex := 121, attributes := #[] }, { accessFlags := 25, nameIndex := 196, descriptorIndex := 197, attributes := #[] }, { accessFlags := 25, nameIndex := 199, descriptorIndex := 197, attributes := #[] }, { accessFlags := 25, nameIndex := 201, descriptorIndex := 197, attributes := #[] }, { accessFlags := 25, nameIndex := 203, descriptorIndex := 197, attributes := #[] }, { accessFlags := 25, nameIndex := 205, descriptorIndex := 197, attributes := #[] }, { accessFlags := 25, nameIndex := 173, descriptorIndex := 174, attributes := #[] }, { accessFlags := 18, nameIndex := 120, descriptorIndex := 121, attributes := #[] }, { accessFlags := 26, nameIndex := 209, descriptorIndex := 210, attributes := #[] }])
  fields := #[{ name := "POSITIVE_INFINITY", type := .double, accessFlags := 25, slot := 0, constantValue := 0 }, { name := "NEGATIVE_INFINITY", type := .double, accessFlags := 25, slot := 1, constantValue := 0 }, { name := "NaN", type := .double, accessFlags := 25, slot := 2, constantValue := 0 }, { name := "MAX_VALUE", type := .double, accessFlags := 25, slot := 3, constantValue := 0 }, { name := "MIN_NORMAL", type := .double, accessFlags := 25, slot := 4, constantValue := 0 }, { name := "MIN_VALUE", type := .double, accessFlags := 25, slot := 5, constantValue := 0 }, { name := "SIZE", type := .int, accessFlags := 25, slot := 6, constantValue := 0 }, { name := "PRECISION", type := .int, accessFlags := 25, slot := 7, constantValue := 0 }, { name := "MAX_EXPONENT", type := .int, accessFlags := 25, slot := 8, constantValue := 0 }, { name := "MIN_EXPONENT", type := .int, accessFlags := 25, slot := 9, constantValue := 0 }, { name := "BYTES", type := .int, accessFlags := 25, slot := 10, constantValue := 0 }, { name := "TYPE", type := (.object "java/lang/Class"), accessFlags := 25, slot := 11, constantValue := 0 }, { name := "value", type := .double, accessFlags := 18, slot := 0, constantValue := 0 }, { name := "serialVersionUID", type := .long, accessFlags := 26, slot := 12, constantValue := 0 }]
  methods := #[k9m0]
  instanceTypes := #[.double]
  staticTypes := #[.double, .double, .double, .double, .double, .double, .int, .int, .int, .int, .int, (.object "java/lang/Class"), .long]
  resolved := Array.replicate 290 none
  statics := none }

def pool10 : Array CpInfo := pool [(1, u "java/lang/Cloneable"), (0, .class_ 1), (0, u "java/lang/Object"), (0, .class_ 3)] 3

/-- java/lang/Cloneable -/
def k10 : Class := { plain "java/lang/Cloneable" (some 0) with
  accessFlags := 1537
  interfaces := #[]
  cf := some (fileOf pool10 2 #[] #[] 1537 4 #[] #[])
  fields := #[]
  methods := #[]
  instanceTypes := #[]
  staticTypes := #[]
  resolved := Array.replicate 8 none
  statics := none }

/-- the primitive byte -/
def k11 : Class := { plain "byte" none with kind := .primitive 'B', accessFlags := 0x411 }
/-- [B -/
def k12 : Class := { plain "[B" (some 0) with kind := .array 11 .byte, interfaces := #[10, 4], accessFlags := 1041 }

/-- the primitive int -/
def k13 : Class := { plain "int" none with kind := .primitive 'I', accessFlags := 0x411 }
/-- [I -/
def k14 : Class := { plain "[I" (some 0) with kind := .array 13 .int, interfaces := #[10, 4], accessFlags := 1041 }

def heap : Heap := #[]
def classes : Array Class := #[k0, k1, k2, k3, k4, k5, k6, k7, k8, k9, k10, k11, k12, k13, k14]
def interned : List (Array UInt16 × Addr) := []
def slotsUsed : Nat := 0
def theMethod : MethodId := ⟨1, 1⟩
def args0 : Array Value := #[.int 5, .int 7, .int 4, .int 9, .int 9, .int 9]
def aboutOver (below : List Frame) : State where
  vm := { classes := classes, interned := interned.toArray }
  heap := heap
  slotsUsed := slotsUsed
  threads := #[{ frames := .invoking theMethod args0 :: below }]
def below0 : List Frame := [.native { method := ⟨0, 0⟩, args := #[] }]
def about1 : State := aboutOver below0
def p0 : Program := .bare "" "" ""
def e0 : Env := launch0.env 0 0 0
theorem w_frames : about1.frames = Frame.invoking theMethod args0 :: below0 := rfl
set_option maxRecDepth 65536 in
theorem w_args : argsFit about1.vm theMethod args0 = true := by decide +kernel
set_option maxRecDepth 65536 in
theorem w_heap : heapFits about1 = true := by decide +kernel
set_option maxRecDepth 65536 in
theorem w_runnable : about1.curStatus? = some .runnable := by decide +kernel
set_option maxRecDepth 65536 in
theorem w_alone : about1.alone = true := by decide +kernel
set_option maxRecDepth 65536 in
theorem w_named : about1.methodNamed? x = some theMethod := by decide +kernel
set_option maxRecDepth 65536 in
theorem w_hears : about1.hears theMethod below0 = true := by decide +kernel
set_option maxRecDepth 65536 in
theorem w_ripe : about1.ripe theMethod args0 below0 = true := by decide +kernel
theorem w_running : about1.status = .running := rfl
set_option maxRecDepth 65536 in
theorem w_room : about1.hasRoom e0.platform room_1 = true :=
  launch0.hasRoom_least _ room_1 (by decide +kernel) (by decide +kernel) (by decide +kernel) (by decide +kernel) (by decide +kernel) (by decide +kernel)
theorem allAtoms_all (ts : List Jvm.Cond) (a : Array Jvm.Value) (st : Jvm.State) : (allAtoms ts).before a st = ts.all (fun c => c.before a st) := by
  induction ts with
  | nil => rfl
  | cons c t ih =>
    show (Jvm.Cond.and c (allAtoms t)).before a st = _
    rw [Jvm.Cond.before_and, ih, List.all_cons]
def words1 : List Jvm.Cond := Jvm.Cond.code x code maxLocals ret :: tables_1
/-- a 'code' word, met by the world's own term for the bytes: nothing is compared byte by byte -/
theorem code_word {y : MethodName} {bytes : ByteArray} {mx : Nat} {rt : Option FieldType} {a : Array Value} {s : State} {m : MethodId} {meth : Method} {c : Code} (h1 : s.methodNamed? y = some m) (h2 : s.vm.method? m = some meth) (h3 : meth.code = some c) (h4 : c.code = bytes)
    (h5 : (c.maxLocals == mx && c.exceptionTable.isEmpty && decide (c.maxStack ≤ mostOperands) && decide (meth.sig.returnType = rt) && !meth.locks && decide (parseMethodDescriptor y.desc = some meth.sig)) = true) : (Jvm.Cond.code y bytes mx rt).before a s = true := by
  simp only [Bool.and_eq_true, beq_iff_eq, Bool.not_eq_true', decide_eq_true_eq] at h5
  obtain ⟨⟨⟨⟨⟨g1, g2⟩, g3⟩, g4⟩, g5⟩, g6⟩ := h5
  simp [Cond.before, Cond.holds, Cond.value, h1, h2, h3, h4, g1, g2, g3, g4, g5, g6]
def isCode : Jvm.Cond → Bool
  | .code _ _ _ _ => true
  | _ => false
theorem all_split {L : List Jvm.Cond} {P : Jvm.Cond → Bool} (h1 : L.all (fun c => isCode c || P c) = true) (h2 : ∀ c ∈ L.filter isCode, P c = true) : L.all P = true := by
  refine List.all_eq_true.mpr fun c hc => ?_
  have h := List.all_eq_true.mp h1 c hc
  rcases Bool.eq_false_or_eq_true (isCode c) with hi | hi
  · exact h2 c (List.mem_filter.mpr ⟨hc, hi⟩)
  · simpa [hi] using h
set_option maxRecDepth 65536 in
theorem w_c0 : (Jvm.Cond.code x code maxLocals ret).before args0 about1 = true := code_word (m := ⟨1, 1⟩) (meth := k1m1) (c := k1c1) (by decide +kernel) rfl rfl rfl (by decide +kernel)
set_option maxRecDepth 65536 in
theorem w_c1 : (Jvm.Cond.code ({ cls := "java/lang/Math", name := "max", desc := "(II)I" } : Jvm.MethodName) jdk_29_method_65_code (2 : Nat) (Option.some Jvm.ClassFile.FieldType.int)).before args0 about1 = true := code_word (m := ⟨2, 2⟩) (meth := k2m2) (c := k2c2) (by decide +kernel) rfl rfl rfl (by decide +kernel)
set_option maxRecDepth 65536 in
theorem w_c2 : (Jvm.Cond.code ({ cls := "com/example/bron/bron/trec/ScoreHistogram", name := "<init>", desc := "(DDI)V" } : Jvm.MethodName) prog_23_method_1_code (7 : Nat) (Option.none : Option Jvm.ClassFile.FieldType)).before args0 about1 = true := code_word (m := ⟨3, 0⟩) (meth := k3m0) (c := k3c0) (by decide +kernel) rfl rfl rfl (by decide +kernel)
set_option maxRecDepth 65536 in
theorem w_c3 : (Jvm.Cond.code ({ cls := "java/lang/Object", name := "<init>", desc := "()V" } : Jvm.MethodName) object_method_1_code (1 : Nat) (Option.none : Option Jvm.ClassFile.FieldType)).before args0 about1 = true := code_word (m := ⟨0, 0⟩) (meth := k0m0) (c := k0c0) (by decide +kernel) rfl rfl rfl (by decide +kernel)
set_option maxRecDepth 65536 in
theorem w_c4 : (Jvm.Cond.code ({ cls := "java/lang/Double", name := "isFinite", desc := "(D)Z" } : Jvm.MethodName) jdk_117_method_8_code (2 : Nat) (Option.some Jvm.ClassFile.FieldType.boolean)).before args0 about1 = true := code_word (m := ⟨9, 0⟩) (meth := k9m0) (c := k9c0) (by decide +kernel) rfl rfl rfl (by decide +kernel)
set_option maxRecDepth 65536 in
theorem w_c5 : (Jvm.Cond.code ({ cls := "java/lang/Math", name := "abs", desc := "(D)D" } : Jvm.MethodName) jdk_29_method_64_code (2 : Nat) (Option.some Jvm.ClassFile.FieldType.double)).before args0 about1 = true := code_word (m := ⟨2, 1⟩) (meth := k2m1) (c := k2c1) (by decide +kernel) rfl rfl rfl (by decide +kernel)
set_option maxRecDepth 65536 in
theorem w_c6 : (Jvm.Cond.code ({ cls := "java/lang/Math", name := "min", desc := "(II)I" } : Jvm.MethodName) jdk_29_method_69_code (2 : Nat) (Option.some Jvm.ClassFile.FieldType.int)).before args0 about1 = true := code_word (m := ⟨2, 3⟩) (meth := k2m3) (c := k2c3) (by decide +kernel) rfl rfl rfl (by decide +kernel)
set_option maxRecDepth 65536 in
theorem w_c7 : (Jvm.Cond.code ({ cls := "com/example/bron/bron/trec/ScoreHistogramAbovePinLaw", name := "put", desc := "(Lcom/example/bron/bron/trec/ScoreHistogram;IIII)I" } : Jvm.MethodName) method_3_code (8 : Nat) (Option.some Jvm.ClassFile.FieldType.int)).before args0 about1 = true := code_word (m := ⟨1, 2⟩) (meth := k1m2) (c := k1c2) (by decide +kernel) rfl rfl rfl (by decide +kernel)
set_option maxRecDepth 65536 in
theorem w_c8 : (Jvm.Cond.code ({ cls := "com/example/bron/bron/trec/ScoreHistogram", name := "above", desc := "(I)I" } : Jvm.MethodName) prog_23_method_6_code (4 : Nat) (Option.some Jvm.ClassFile.FieldType.int)).before args0 about1 = true := code_word (m := ⟨3, 3⟩) (meth := k3m3) (c := k3c3) (by decide +kernel) rfl rfl rfl (by decide +kernel)
set_option maxRecDepth 65536 in
theorem w_c9 : (Jvm.Cond.code ({ cls := "com/example/bron/bron/trec/ScoreHistogram", name := "add", desc := "(D)V" } : Jvm.MethodName) prog_23_method_2_code (3 : Nat) (Option.none : Option Jvm.ClassFile.FieldType)).before args0 about1 = true := code_word (m := ⟨3, 1⟩) (meth := k3m1) (c := k3c1) (by decide +kernel) rfl rfl rfl (by decide +kernel)
set_option maxRecDepth 65536 in
theorem w_c10 : (Jvm.Cond.code ({ cls := "com/example/bron/bron/trec/ScoreHistogram", name := "bucket", desc := "(D)I" } : Jvm.MethodName) prog_23_method_3_code (3 : Nat) (Option.some Jvm.ClassFile.FieldType.int)).before args0 about1 = true := code_word (m := ⟨3, 2⟩) (meth := k3m2) (c := k3c2) (by decide +kernel) rfl rfl rfl (by decide +kernel)
def codes1 : List Jvm.Cond := [Jvm.Cond.code x code maxLocals ret, Jvm.Cond.code ({ cls := "java/lang/Math", name := "max", desc := "(II)I" } : Jvm.MethodName) jdk_29_method_65_code (2 : Nat) (Option.some Jvm.ClassFile.FieldType.int), Jvm.Cond.code ({ cls := "com/example/bron/bron/trec/ScoreHistogram", name := "<init>", desc := "(DDI)V" } : Jvm.MethodName) prog_23_method_1_code (7 : Nat) (Option.none : Option Jvm.ClassFile.FieldType), Jvm.Cond.code ({ cls := "java/lang/Object", name := "<init>", desc := "()V" } : Jvm.MethodName) object_method_1_code (1 : Nat) (Option.none : Option Jvm.ClassFile.FieldType), Jvm.Cond.code ({ cls := "java/lang/Double", name := "isFinite", desc := "(D)Z" } : Jvm.MethodName) jdk_117_method_8_code (2 : Nat) (Option.some Jvm.ClassFile.FieldType.boolean), Jvm.Cond.code ({ cls := "java/lang/Math", name := "abs", desc := "(D)D" } : Jvm.MethodName) jdk_29_method_64_code (2 : Nat) (Option.some Jvm.ClassFile.FieldType.double), Jvm.Cond.code ({ cls := "java/lang/Math", name := "min", desc := "(II)I" } : Jvm.MethodName) jdk_29_method_69_code (2 : Nat) (Option.some Jvm.ClassFile.FieldType.int), Jvm.Cond.code ({ cls := "com/example/bron/bron/trec/ScoreHistogramAbovePinLaw", name := "put", desc := "(Lcom/example/bron/bron/trec/ScoreHistogram;IIII)I" } : Jvm.MethodName) method_3_code (8 : Nat) (Option.some Jvm.ClassFile.FieldType.int), Jvm.Cond.code ({ cls := "com/example/bron/bron/trec/ScoreHistogram", name := "above", desc := "(I)I" } : Jvm.MethodName) prog_23_method_6_code (4 : Nat) (Option.some Jvm.ClassFile.FieldType.int), Jvm.Cond.code ({ cls := "com/example/bron/bron/trec/ScoreHistogram", name := "add", desc := "(D)V" } : Jvm.MethodName) prog_23_method_2_code (3 : Nat) (Option.none : Option Jvm.ClassFile.FieldType), Jvm.Cond.code ({ cls := "com/example/bron/bron/trec/ScoreHistogram", name := "bucket", desc := "(D)I" } : Jvm.MethodName) prog_23_method_3_code (3 : Nat) (Option.some Jvm.ClassFile.FieldType.int)]
set_option maxRecDepth 65536 in
theorem codes_eq : words1.filter isCode = codes1 := rfl
theorem w_codes : ∀ c ∈ words1.filter isCode, c.before args0 about1 = true := by
  rw [codes_eq]
  intro c hc
  simp only [codes1, List.mem_cons, List.not_mem_nil, or_false] at hc
  rcases hc with rfl | rfl | rfl | rfl | rfl | rfl | rfl | rfl | rfl | rfl | rfl
  · exact w_c0
  · exact w_c1
  · exact w_c2
  · exact w_c3
  · exact w_c4
  · exact w_c5
  · exact w_c6
  · exact w_c7
  · exact w_c8
  · exact w_c9
  · exact w_c10
set_option maxRecDepth 65536 in
theorem w_t1 : (words1.take 24).all (fun c => isCode c || c.before args0 about1) = true := by decide +kernel
set_option maxRecDepth 65536 in
theorem w_t2 : ((words1.drop 24).take 24).all (fun c => isCode c || c.before args0 about1) = true := by decide +kernel
set_option maxRecDepth 65536 in
theorem w_t3 : ((words1.drop 24).drop 24).all (fun c => isCode c || c.before args0 about1) = true := by decide +kernel
theorem w_tables : (allAtoms (Jvm.Cond.code x code maxLocals ret :: tables_1)).before args0 about1 = true := by
  rw [allAtoms_all]
  show words1.all (fun c => c.before args0 about1) = true
  refine all_split ?_ w_codes
  rw [← List.take_append_drop 24 words1, List.all_append, w_t1, ← List.take_append_drop 24 (words1.drop 24), List.all_append, w_t2, w_t3]
  rfl
set_option maxRecDepth 65536 in
theorem w_case : (Jvm.Cond.and given_1 narrow_1).before args0 about1 = true := by decide +kernel
theorem w_applies : (headSpec (Jvm.Cond.code x code maxLocals ret :: tables_1) room_1).applies x e0.platform about1 = true :=
  (Spec.applies_iff w_frames).mpr ⟨w_running, w_runnable, w_alone, w_named, w_hears, w_ripe, w_room, w_tables⟩
theorem atStart : AtStart classFile x code maxLocals ret World_1 tables_1 room_1 Calls_1 rest_1 Pre_1 launch0 p0 e0 about1 theMethod args0 below0 :=
  ⟨lists_1, trivial, launch0.admits_env _ _ _, launch0.least_env, fairChoices_fair.cas, fairChoices_fair.clock, w_frames, w_args, w_heap, w_applies, trivial, trivial, w_case⟩
end start1
theorem witness_1 : WitnessClaimed_1 := ⟨start1.p0, start1.e0, start1.about1, start1.theMethod, start1.args0, start1.below0, start1.atStart⟩
end Jvm.Pilot.@@N@@
