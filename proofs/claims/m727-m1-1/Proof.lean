import JvmDerived
import JvmDerived.Pilot.@@N@@Statement
import JvmDerived.Pilot.@@N@@Code
set_option linter.unusedVariables false
set_option linter.unusedSimpArgs false
namespace Jvm.Pilot.@@N@@
open Jvm Jvm.ClassFile Sem Op Lib Jvm.Free Jvm.Stand Jvm.LawKit Jvm.RoadKit Bundle Jvm.Free.Fl Jvm.Pilot.@@N@@.Jvm.D
/-! the run stands at F in T, and comes to an end that P says -/
def own_Go (p : Program) (e : Env) (below : List Frame) (P : Outcome → State → Prop) (T : State) (F : JFrame) : Prop :=
  ∃ s₂ o, Steps p.tables e below (T.setTop F) s₂ ∧ s₂.status = .running ∧ Ended s₂ below o ∧ P o s₂
theorem own_step {p : Program} {e : Env} {below : List Frame} {P : Outcome → State → Prop} {T T' : State} {F F' : JFrame} (st : ∀ t, Steps p.tables e below (T'.setTop F') t → Steps p.tables e below (T.setTop F) t) (h : own_Go p e below P T' F') : own_Go p e below P T F := by
  obtain ⟨s₂, o, h1, h2⟩ := h
  exact ⟨s₂, o, st _ h1, h2⟩
theorem own_cast {p : Program} {e : Env} {below : List Frame} {P : Outcome → State → Prop} {T : State} {F F' : JFrame} (q : F = F') (h : own_Go p e below P T F') : own_Go p e below P T F := q ▸ h
theorem own_all {p : Program} {e : Env} {below : List Frame} {Q : Outcome → State → Prop} {T : State} {F : JFrame} (h : ∀ P : Outcome → State → Prop, (∀ o U, Q o U → P o U) → own_Go p e below P T F) : own_Go p e below Q T F := h Q fun _ _ q => q
/-! quotients of doubles that hold whole numbers -/
section Quot
open Jvm.FP.Core
/-- the quotient of two whole numbers is the rounded ratio of their magnitudes -/
theorem own_qr {u t : Int} {a b : UInt64} (ha : DInt u a) (hb : DInt t b) (ht : t ≠ 0) :
    ∃ s, val64 (FP.ddiv a b) = roundRatio b64 s u.natAbs t.natAbs 0 ∧ (u ≠ 0 → s = (decide (u < 0) != decide (t < 0))) := by
  have hv : val64 (FP.ddiv a b) = quotient b64 (val64 a) (val64 b) := val64_ddiv a b
  rw [hv]
  unfold DInt at ha hb
  cases hva : val64 a with
  | nan => rw [hva] at ha; exact ha.elim
  | inf => rw [hva] at ha; exact ha.elim
  | fin s c e =>
    cases hvb : val64 b with
    | nan => rw [hvb] at hb; exact hb.elim
    | inf => rw [hvb] at hb; exact hb.elim
    | fin s' d r =>
      rw [hva] at ha; rw [hvb] at hb
      have hd : d ≠ 0 := fun q => ht ((whole_zero hb).mp q)
      have h1 := whole_natAbs ha
      have h2 := whole_natAbs hb
      refine ⟨(s != s'), ?_, fun hu => ?_⟩
      · show (if d = 0 then _ else roundRatio b64 (s != s') c d (e - r)) = _
        rw [if_neg hd]
        refine roundRatio_congr (Nat.pos_of_ne_zero hd) (by omega) ?_
        obtain ⟨m, m1, m2⟩ : ∃ m, e.toNat + (-r).toNat = (e - r - 0).toNat + m ∧ (-e).toNat + r.toNat = (0 - (e - r)).toNat + m := ⟨e.toNat + (-r).toNat - (e - r - 0).toNat, by omega, by omega⟩
        refine Nat.eq_of_mul_eq_mul_right (Nat.two_pow_pos m) ?_
        have e1 : c * t.natAbs * 2 ^ (e - r - 0).toNat * 2 ^ m = (c * 2 ^ e.toNat) * (t.natAbs * 2 ^ (-r).toNat) := by
          rw [Nat.mul_assoc (c * t.natAbs), ← Nat.pow_add, ← m1, Nat.pow_add]; ac_rfl
        have e2 : u.natAbs * d * 2 ^ (0 - (e - r)).toNat * 2 ^ m = (u.natAbs * 2 ^ (-e).toNat) * (d * 2 ^ r.toNat) := by
          rw [Nat.mul_assoc (u.natAbs * d), ← Nat.pow_add, ← m2, Nat.pow_add]; ac_rfl
        rw [e1, e2, h1, h2]
      · rw [whole_sign ha hu, whole_sign hb ht]
theorem own_sgn {q t : Int} (hq : q ≠ 0) (ht : t ≠ 0) : (decide (q * t < 0) != decide (t < 0)) = decide (q < 0) := by
  rcases Int.lt_or_gt_of_ne ht with h | h <;> rcases Int.lt_or_gt_of_ne hq with g | g
  · have := Int.mul_pos_of_neg_of_neg g h; simp [h, g, show ¬ q * t < 0 by omega]
  · have := Int.mul_neg_of_pos_of_neg g h; simp [h, this, show ¬ q < 0 by omega]
  · have := Int.mul_neg_of_neg_of_pos g h; simp [g, this, show ¬ t < 0 by omega]
  · have := Int.mul_pos g h; simp [show ¬ q * t < 0 by omega, show ¬ t < 0 by omega, show ¬ q < 0 by omega]
theorem own_rr0 (s : Bool) (B : Nat) (e : Int) : roundRatio b64 s 0 B e = .fin s 0 b64.qmin := if_pos rfl
theorem own_whole0 (s : Bool) (q : Int) : Whole 0 (.fin s 0 q) := by
  show signed s (0 * 2 ^ q.toNat) = 0 * _
  rw [Nat.zero_mul, Int.zero_mul]; exact signed_zero s
/-- an exact quotient -/
theorem own_quot {u t q : Int} {a b : UInt64} (ha : DInt u a) (hb : DInt t b) (ht : t ≠ 0) (hu : u = q * t) (hq : q.natAbs ≤ 2 ^ 53) : DInt q (FP.ddiv a b) := by
  obtain ⟨s, h1, h2⟩ := own_qr ha hb ht
  show Whole q (val64 (FP.ddiv a b))
  rw [h1]
  by_cases hz : q = 0
  · subst hz; rw [hu, Int.zero_mul]; show Whole 0 (roundRatio b64 s 0 _ 0); rw [own_rr0]; exact own_whole0 _ _
  · have hu0 : u ≠ 0 := by rw [hu]; exact Int.mul_ne_zero hz ht
    rw [h2 hu0, hu, own_sgn hz ht, Int.natAbs_mul]
    have e : roundRatio b64 (decide (q < 0)) (q.natAbs * t.natAbs) t.natAbs 0 = round b64 (ofInt q) := by
      show _ = roundRatio b64 (decide (q < 0)) q.natAbs 1 0
      refine roundRatio_congr (by omega) (by decide) ?_
      simp
    rw [e]
    exact whole_round good_b64 wide_b64 hq (whole_ofInt q)
end Quot
/-! rounding ratios over one divisor keeps their order -/
section Mono
open Jvm.FP.Core
theorem own_rle {A B : Nat} (s : Bool) (hB : 0 < B) (hA : A ≤ 2 ^ 53) : ∃ c q, roundRatio b64 s A B 0 = .fin s c q := by
  rcases roundRatio_cases b64 s A B 0 with h | h
  · exact h
  · exfalso
    obtain ⟨c', q', hfit, hv⟩ := natFit good_b64 wide_b64 false hA
    have hz : zmag b64 (.fin false c' q') = A * 2 ^ (0 - b64.qmin).toNat := by
      show inUnits c' q' b64.qmin = _
      have hq := hfit.2.1
      unfold inUnits
      rw [Nat.mul_one] at hv
      have hk : 2 ^ (q' - b64.qmin).toNat * 2 ^ (0 - q').toNat = 2 ^ (0 - b64.qmin).toNat * 2 ^ (q' - 0).toNat := by
        rw [← Nat.pow_add, ← Nat.pow_add]; congr 1; have := qmin_b64; omega
      refine Nat.eq_of_mul_eq_mul_right (Nat.two_pow_pos (q' - 0).toNat) ?_
      rw [Nat.mul_assoc, Nat.mul_comm (2 ^ (q' - b64.qmin).toNat), ← Nat.mul_assoc, ← hv, Nat.mul_assoc, Nat.mul_comm (2 ^ (0 - q').toNat), hk, ← Nat.mul_assoc]
    have hle := zmag_roundRatio_le (s := s) (A := A) (B := B) (e := 0) (e0 := b64.qmin) good_b64 hB hfit (fun q => by cases q) (Int.le_refl _) (by decide) (by
      rw [hz, Int.sub_self]
      show A * 2 ^ (0 - b64.qmin).toNat ≤ A * 2 ^ (0 - b64.qmin).toNat * 2 ^ (0 : Int).toNat * B
      rw [Int.toNat_zero, Nat.pow_zero, Nat.mul_one]; exact Nat.le_mul_of_pos_right _ hB)
    rw [h, hz] at hle
    have h1 : A * 2 ^ (0 - b64.qmin).toNat ≤ 2 ^ 53 * 2 ^ (0 - b64.qmin).toNat := Nat.mul_le_mul_right _ hA
    have h2 : zmag b64 (.inf s) ≤ 2 ^ 53 * 2 ^ (0 - b64.qmin).toNat := Nat.le_trans hle h1
    exact absurd h2 (by show ¬ (b64.tails * 2 ^ (b64.exps - 2) ≤ _); decide +kernel)
theorem own_zn (d : Datum) : zmag b64 (negate d) = zmag b64 d := by cases d <;> rfl
theorem own_zs (s1 s2 : Bool) {A B : Nat} {e : Int} : zmag b64 (roundRatio b64 s1 A B e) = zmag b64 (roundRatio b64 s2 A B e) := by
  have h := negate_roundRatio b64 s1 A B e
  have g := own_zn (roundRatio b64 s1 A B e)
  rw [h] at g
  cases s1 <;> cases s2 <;> first | rfl | exact g.symm | exact g
theorem own_magmono {A1 A2 B : Nat} (s1 s2 : Bool) (hB : 0 < B) (h : A1 ≤ A2) (hA : A2 ≤ 2 ^ 53) : zmag b64 (roundRatio b64 s1 A1 B 0) ≤ zmag b64 (roundRatio b64 s2 A2 B 0) := by
  by_cases hlt : zmag b64 (roundRatio b64 s2 A2 B 0) < zmag b64 (roundRatio b64 s1 A1 B 0)
  · exfalso
    have hlt0 := hlt
    obtain ⟨c1, q1, r1⟩ := own_rle s1 hB (Nat.le_trans h hA)
    obtain ⟨c2, q2, r2⟩ := own_rle s2 hB hA
    have f1 := roundRatio_fits good_b64 s1 A1 hB 0
    have f2 := roundRatio_fits good_b64 s2 A2 hB 0
    have n1 : ¬ (zmag b64 (roundRatio b64 s1 A1 B 0) * 2 ^ (b64.qmin - b64.qmin).toNat * B ≤ inUnits A2 0 b64.qmin) := fun q => absurd (zmag_roundRatio_ge (s := s2) good_b64 hB f1 (Int.le_refl _) (by decide) q) (Nat.not_le.mpr hlt)
    have n2 : ¬ (inUnits A1 0 b64.qmin ≤ zmag b64 (roundRatio b64 s2 A2 B 0) * 2 ^ (b64.qmin - b64.qmin).toNat * B) := fun q => absurd (zmag_roundRatio_le (s := s1) good_b64 hB f2 (roundRatio_ne_nan _ _ _ _ _) (Int.le_refl _) (by decide) q) (Nat.not_le.mpr hlt)
    rw [r1] at f1 n1 hlt; rw [r2] at f2 n2 hlt
    have d1 := roundRatio_nearest good_b64 (c' := c2) (q' := q2) (e0 := b64.qmin) hB r1 f2.1 f2.2.1 (Int.le_refl _) (by decide)
    have d2 := roundRatio_nearest good_b64 (c' := c1) (q' := q1) (e0 := b64.qmin) hB r2 f1.1 f1.2.1 (Int.le_refl _) (by decide)
    unfold distance at d1 d2
    have z1 : zmag b64 (.fin s1 c1 q1) = inUnits c1 q1 b64.qmin := rfl
    have z2 : zmag b64 (.fin s2 c2 q2) = inUnits c2 q2 b64.qmin := rfl
    rw [z1] at n1; rw [z2] at n2; rw [z1, z2] at hlt
    simp only [Int.sub_self, Int.toNat_zero, Nat.pow_zero, Nat.mul_one] at n1 n2
    have hm : inUnits A1 0 b64.qmin ≤ inUnits A2 0 b64.qmin := Nat.mul_le_mul_right _ h
    generalize hx1 : inUnits A1 0 b64.qmin = x1 at *
    generalize hx2 : inUnits A2 0 b64.qmin = x2 at *
    rw [← Int.natCast_mul, ← Int.natCast_mul] at d1 d2
    generalize inUnits c1 q1 b64.qmin * B = y1 at *
    generalize inUnits c2 q2 b64.qmin * B = y2 at *
    have e : x1 = x2 := by omega
    have e' : A1 = A2 := by
      rw [← hx1, ← hx2] at e
      exact Nat.eq_of_mul_eq_mul_right (Nat.two_pow_pos _) e
    subst e'
    exact absurd hlt0 (by rw [own_zs s1 s2]; exact Nat.lt_irrefl _)
  · exact Nat.not_lt.mp hlt
end Mono
/-! what priceOfFairness reckons -/
def own_pf (X t : UInt64) : UInt64 := if cmpValue (FP.dcmp t FP.dconst0) .l = (0 : Int32) then FP.dconst0 else FP.ddiv (FP.dsub t X) t
theorem own_nz {t : UInt64} (h : Fin64 t) (hc : ¬ (cmpValue (FP.dcmp t FP.dconst0) .l = (0 : Int32))) : Nz64 t := by
  rw [nz64_core]
  intro hz
  have q : FP.dcmp t 0 = some .eq := FP.Core.zero_iff.mpr hz
  have q' : FP.dcmp t FP.dconst0 = some .eq := q
  rw [q'] at hc
  exact hc rfl
theorem own_zc {t : Int64} (h : t ≠ 0) : ¬ (cmpValue (FP.dcmp (FP.l2d t) FP.dconst0) .l = (0 : Int32)) := by
  intro hc
  have hn := (nz64_core.mp (l2d_nz h))
  refine hn (FP.Core.zero_iff.mp ?_)
  show FP.dcmp (FP.l2d t) FP.dconst0 = some .eq
  rw [cmpV_l] at hc
  exact (FP.Core.cmpInt_l_eq _).mp hc
theorem own_pf_nz {t : Int64} {X : UInt64} (h : t ≠ 0) : own_pf X (FP.l2d t) = FP.ddiv (FP.dsub (FP.l2d t) X) (FP.l2d t) := if_neg (own_zc h)
theorem own_pf_z1 (X : UInt64) : own_pf X FP.dconst0 = FP.dconst0 := if_pos (by decide +kernel)
theorem own_pf_z2 (X : UInt64) : own_pf X (9223372036854775808 : UInt64) = FP.dconst0 := if_pos (by decide +kernel)
theorem own_00 : cmpValue (FP.dcmp FP.dconst0 FP.dconst0) .l = 0 := by decide +kernel
theorem own_c1 (X : UInt64) : cmpValue (FP.dcmp (own_pf X FP.dconst0) FP.dconst0) .l = 0 := (congrArg (fun z => cmpValue (FP.dcmp z FP.dconst0) .l) (own_pf_z1 X)).trans own_00
theorem own_c2 (X : UInt64) : cmpValue (FP.dcmp (own_pf X (9223372036854775808 : UInt64)) FP.dconst0) .l = 0 := (congrArg (fun z => cmpValue (FP.dcmp z FP.dconst0) .l) (own_pf_z2 X)).trans own_00
def own_T (t : Int64) : Prop := t ≠ 0 ∧ -2147483648 ≤ t.toInt ∧ t.toInt ≤ 2147483647
theorem own_T1 : own_T 1 := ⟨by decide, by decide, by decide⟩
theorem own_Tp {p : Int32} (h : ¬ (p = (0 : Int32))) : own_T p.toInt64 := by
  have h1 := rng32 p; have h2 := c_i2l p
  refine ⟨fun q => h ?_, by omega, by omega⟩
  apply Int32.toInt_inj.mp; rw [← h2, q]; rfl
theorem own_Tb {t : Int64} (h : own_T t) : FP.Core.DInt t.toInt (FP.l2d t) := FP.Core.l2d_int (by have := h.2; omega)
theorem own_T0 {t : Int64} (h : own_T t) : t.toInt ≠ 0 := fun q => h.1 (Int64.toInt_inj.mp q)
/-! case 1: an exact quotient -/
theorem own_case1 {k : Int32} {t : Int64} (hk : -8 ≤ k.toInt ∧ k.toInt ≤ 8) (h : own_T t) : cmpValue (FP.dcmp (own_pf (FP.l2d (k.toInt64 * t)) (FP.l2d t)) (FP.i2d (1 - k))) .l = 0 := by
  rw [own_pf_nz h.1]
  obtain ⟨-, t1, t2⟩ := id h
  have hm : (k.toInt64 * t).toInt = k.toInt * t.toInt := by
    rw [Int64.toInt_mul, c_i2l]
    have m := mc hk.1 hk.2 t1 t2
    exact Int.bmod_eq_of_le (by omega) (by omega)
  have m := mc hk.1 hk.2 t1 t2
  have d1 : FP.Core.DInt (k.toInt64 * t).toInt (FP.l2d (k.toInt64 * t)) := FP.Core.l2d_int (by rw [hm]; omega)
  have d2 : FP.Core.DInt (t.toInt - k.toInt * t.toInt) (FP.dsub (FP.l2d t) (FP.l2d (k.toInt64 * t))) := by
    rw [hm] at d1; exact FP.Core.dsub_int (own_Tb h) d1 (by omega)
  have d3 : FP.Core.DInt (1 - k.toInt) (FP.ddiv (FP.dsub (FP.l2d t) (FP.l2d (k.toInt64 * t))) (FP.l2d t)) :=
    own_quot d2 (own_Tb h) (own_T0 h) (by rw [Int.sub_mul, Int.one_mul]) (by omega)
  have hk1 : (1 - k).toInt = 1 - k.toInt := by
    have q := c_isub 1 k; have r := rng32 (1 - k); have e : (1 : Int32).toInt = 1 := rfl; rw [e] at q; omega
  have d4 : FP.Core.DInt (1 - k.toInt) (FP.i2d (1 - k)) := hk1 ▸ FP.Core.i2d_int (1 - k)
  have q := FP.Core.dcmp_int d3 d4
  rw [FP.Core.compare_self_int] at q
  show cmpValue (FP.Core.dcmp _ _) .l = 0
  rw [q]; rfl
theorem own_k9 (p : Int32) : -8 ≤ (p % (9 : Int32)).toInt ∧ (p % (9 : Int32)).toInt ≤ 8 := by
  have h := c_irem p 9 9 rfl
  by_cases q : 0 ≤ p.toInt
  · have := h.1 q; omega
  · have := h.2 (by omega); omega
/-! case 2: a power of two -/
section Pow
open Jvm.FP.Core
def own_P (t : Int64) : Prop := ∃ (s : Bool) (i : Int), 0 ≤ i ∧ i ≤ 62 ∧ val64 (FP.l2d t) = .fin s (2 ^ 52) (i - 52) ∧ Whole t.toInt (.fin s (2 ^ 52) (i - 52))
theorem own_Ptab : ∀ k : Fin 64, (val64 (FP.l2d ((1 : Int64) <<< ((Int32.ofInt (k.1 : Int) % 63) &&& 0x3f).toInt64)) = .fin false (2 ^ 52) (((k.1 % 63 : Nat) : Int) - 52)) ∧ (val64 (FP.l2d (-((1 : Int64) <<< ((Int32.ofInt (k.1 : Int) % 63) &&& 0x3f).toInt64))) = .fin true (2 ^ 52) (((k.1 % 63 : Nat) : Int) - 52)) ∧ (signed false (2 ^ 52 * 2 ^ (((k.1 % 63 : Nat) : Int) - 52).toNat) = ((1 : Int64) <<< ((Int32.ofInt (k.1 : Int) % 63) &&& 0x3f).toInt64).toInt * ((2 ^ (-(((k.1 % 63 : Nat) : Int) - 52)).toNat : Nat) : Int)) ∧ (signed true (2 ^ 52 * 2 ^ (((k.1 % 63 : Nat) : Int) - 52).toNat) = (-((1 : Int64) <<< ((Int32.ofInt (k.1 : Int) % 63) &&& 0x3f).toInt64)).toInt * ((2 ^ (-(((k.1 % 63 : Nat) : Int) - 52)).toNat : Nat) : Int)) := by decide +kernel
theorem own_P63 (p : Int32) : ∃ k : Fin 64, p &&& 63 = Int32.ofInt (k.1 : Int) := by
  have e := c_mask p 63 6 (by decide) (by decide)
  have h0 : 0 ≤ (p &&& 63).toInt := by rw [e]; exact Int.emod_nonneg _ (by decide)
  have h1 : (p &&& 63).toInt < 64 := by rw [e]; exact Int.emod_lt_of_pos _ (by decide)
  refine ⟨⟨(p &&& 63).toInt.toNat, by omega⟩, ?_⟩
  show p &&& 63 = Int32.ofInt (((p &&& 63).toInt.toNat : Nat) : Int)
  rw [Int.toNat_of_nonneg h0, Int32.ofInt_toInt]
theorem own_Pp (p : Int32) : own_P ((1 : Int64) <<< (((p &&& (63 : Int32)) % (63 : Int32)) &&& 0x3f).toInt64) := by
  obtain ⟨k, hk⟩ := own_P63 p
  rw [hk]
  have h := own_Ptab k
  have := k.2
  exact ⟨false, ((k.1 % 63 : Nat) : Int), by omega, by omega, h.1, h.2.2.1⟩
theorem own_Pn (p : Int32) : own_P (-((1 : Int64) <<< (((p &&& (63 : Int32)) % (63 : Int32)) &&& 0x3f).toInt64)) := by
  obtain ⟨k, hk⟩ := own_P63 p
  rw [hk]
  have h := own_Ptab k
  have := k.2
  exact ⟨true, ((k.1 % 63 : Nat) : Int), by omega, by omega, h.2.1, h.2.2.2⟩
theorem own_P0 {t : Int64} (h : own_P t) : t ≠ 0 := by
  obtain ⟨s, i, -, -, -, h2⟩ := h
  intro q; subst q
  exact absurd ((whole_zero h2).mpr rfl) (by decide)
theorem own_bb (s t : Bool) : ((s != t) != t) = s := by cases s <;> cases t <;> rfl
theorem own_back {X T : UInt64} {s t : Bool} {c : Nat} {q i : Int} (hX : val64 X = .fin s c q) (hT : val64 T = .fin t (2 ^ 52) (i - 52)) (h0 : 0 ≤ i) (h1 : i ≤ 62) (hq : c = 0 ∨ -60 ≤ q) : val64 (FP.dmul (FP.ddiv X T) T) = .fin s c q := by
  have fX : FP.Core.fits b64 (.fin s c q) := hX ▸ val64_fits X
  have v1 : val64 (FP.ddiv X T) = quotient b64 (val64 X) (val64 T) := val64_ddiv X T
  have v2 : val64 (FP.dmul (FP.ddiv X T) T) = round b64 (exactProduct (val64 (FP.ddiv X T)) (val64 T)) := val64_dmul _ _
  rw [hX, hT] at v1
  have v3 : val64 (FP.ddiv X T) = roundRatio b64 (s != t) c (2 ^ 52) (q - (i - 52)) := by
    rw [v1]
    show (if (2 ^ 52 : Nat) = 0 then (if c = 0 then Datum.nan else .inf (s != t)) else roundRatio b64 (s != t) c (2 ^ 52) (q - (i - 52))) = _
    rw [if_neg (by decide)]
  rcases Nat.eq_zero_or_pos c with hc | hc
  · subst hc
    have e := fits_zero_q good_b64 fX
    rw [own_rr0] at v3
    rw [v2, v3, hT]
    show roundRatio b64 ((s != t) != t) (0 * 2 ^ 52) 1 _ = _
    rw [Nat.zero_mul, own_rr0, own_bb, e]
  · have hq' : -60 ≤ q := by rcases hq with h | h <;> omega
    obtain ⟨f1, f2, f3, f4⟩ := fX
    have qm : b64.qmin = -1074 := qmin_b64
    have fY : FP.Core.fits b64 (.fin (s != t) c (q - i)) := ⟨f1, by omega, by omega, Or.inr (by rcases f4 with h | h <;> omega)⟩
    rw [roundRatio_exact good_b64 (by decide) fY (by
      rw [show (q - (i - 52) - (q - i)).toNat = 52 by omega, show (q - i - (q - (i - 52))).toNat = 0 by omega]; simp)] at v3
    rw [v2, v3, hT]
    show roundRatio b64 ((s != t) != t) (c * 2 ^ 52) 1 (q - i + (i - 52)) = _
    rw [own_bb]
    refine roundRatio_exact good_b64 (by decide) ⟨f1, f2, f3, f4⟩ ?_
    rw [show (q - i + (i - 52) - q).toNat = 0 by omega, show (q - (q - i + (i - 52))).toNat = 52 by omega]; simp
theorem own_X {t : Int64} (h : own_P t) (a : Int32) : ∃ s c q, val64 (FP.dsub (FP.l2d t) (FP.i2d a)) = .fin s c q ∧ (c = 0 ∨ -60 ≤ q) := by
  obtain ⟨s, i, h0, h1, hv, hw⟩ := id h
  have hfin : DFin (FP.dsub (FP.l2d t) (FP.i2d a)) := by
    have m := Jvm.Free.Fl.dsub_mag (Jvm.Free.Fl.l2d_mag t) ((Jvm.Free.Fl.i2d_mag a).mono (by decide : 1056 ≤ 1088)) (by decide)
    exact fin64_core.mp (m.fin (by decide))
  obtain ⟨s', c, q, hX⟩ := hfin
  refine ⟨s', c, q, hX, ?_⟩
  have fX : FP.Core.fits b64 (.fin s' c q) := hX ▸ val64_fits _
  have v : val64 (FP.dsub (FP.l2d t) (FP.i2d a)) = round b64 (exactSum (val64 (FP.l2d t)) (negate (val64 (FP.i2d a)))) := val64_dsub _ _
  have hw' : Whole (t.toInt + -a.toInt) (exactSum (val64 (FP.l2d t)) (negate (val64 (FP.i2d a)))) := whole_sum (hv ▸ hw) (whole_negate (i2d_int a))
  rcases Nat.eq_zero_or_pos c with hc | hc
  · exact Or.inl hc
  right
  cases hS : exactSum (val64 (FP.l2d t)) (negate (val64 (FP.i2d a))) with
  | nan => rw [hS] at hw'; exact hw'.elim
  | inf => rw [hS] at hw'; exact hw'.elim
  | fin s2 c2 q2 =>
    rw [hS] at hw' v
    rw [round_whole hw', hX] at v
    have hne : (t.toInt + -a.toInt).natAbs ≠ 0 := by
      intro e; rw [e, own_rr0] at v; cases v; exact absurd hc (Nat.lt_irrefl _)
    have hge := zmag_roundRatio_ge (s := s2) (A := (t.toInt + -a.toInt).natAbs) (B := 1) (e := 0) (e0 := b64.qmin) (V := .fin false (2 ^ 52) (-52)) good_b64 (by decide) (by rw [← val64_dconst1]; exact val64_fits _) (Int.le_refl _) (by decide) (by
      have e1 : zmag b64 (.fin false (2 ^ 52) (-52)) = 2 ^ (0 - b64.qmin).toNat := by decide +kernel
      rw [e1, Int.sub_self]
      show 2 ^ (0 - b64.qmin).toNat * 2 ^ (0 : Int).toNat * 1 ≤ (t.toInt + -a.toInt).natAbs * 2 ^ (0 - b64.qmin).toNat
      rw [Int.toNat_zero, Nat.pow_zero, Nat.mul_one, Nat.mul_one]
      exact Nat.le_mul_of_pos_left _ (Nat.pos_of_ne_zero hne))
    rw [← v] at hge
    have e1 : zmag b64 (.fin false (2 ^ 52) (-52)) = 2 ^ (0 - b64.qmin).toNat := by decide +kernel
    rw [e1] at hge
    have hge' : 2 ^ (0 - b64.qmin).toNat ≤ c * 2 ^ (q - b64.qmin).toNat := hge
    refine Int.not_lt.mp fun hlt => ?_
    have f1 : c < 2 ^ 53 := fX.1
    have hqm := qmin_b64
    have hp : 2 ^ (q - b64.qmin).toNat ≤ 2 ^ ((0 - b64.qmin).toNat - 60) := Nat.pow_le_pow_right (by decide) (by omega)
    have g1 : c * 2 ^ (q - b64.qmin).toNat ≤ 2 ^ 53 * 2 ^ ((0 - b64.qmin).toNat - 60) := Nat.mul_le_mul (Nat.le_of_lt f1) hp
    have g2 := Nat.le_trans hge' g1
    rw [← Nat.pow_add] at g2
    have g3 := (Nat.pow_le_pow_iff_right (by decide : 1 < 2)).mp g2
    omega
theorem own_case2 {t : Int64} (h : own_P t) (a : Int32) : FP.dmul (own_pf (FP.i2d a) (FP.l2d t)) (FP.l2d t) = FP.dsub (FP.l2d t) (FP.i2d a) := by
  rw [own_pf_nz (own_P0 h)]
  obtain ⟨s, c, q, hX, hq⟩ := own_X h a
  obtain ⟨s', i, h0, h1, hv, hw⟩ := id h
  have hb := own_back hX hv h0 h1 hq
  have hn : val64 (FP.dsub (FP.l2d t) (FP.i2d a)) ≠ .nan := by rw [hX]; exact Datum.noConfusion
  exact (val64_inj hn (by rw [hb, hX])).symm
theorem own_nn2 (t : Int64) (a : Int32) : NoNaN64 (FP.dsub (FP.l2d t) (FP.i2d a)) := Jvm.Free.Fl.dsub_out (Jvm.Free.Fl.l2d_fin t).noNaN (Jvm.Free.Fl.i2d_fin a)
end Pow
/-! case 3: the order is kept, or turned -/
section Order
open Jvm.FP.Core
theorem own_zr {u t : Int} {a b : UInt64} (ha : DInt u a) (hb : DInt t b) (ht : t ≠ 0) : (∃ s, zval b64 (val64 (FP.ddiv a b)) = signed s (zmag b64 (roundRatio b64 false u.natAbs t.natAbs 0)) ∧ (u ≠ 0 → s = (decide (u < 0) != decide (t < 0)))) ∧ val64 (FP.ddiv a b) ≠ .nan := by
  obtain ⟨s, h1, h2⟩ := own_qr ha hb ht
  refine ⟨⟨s, ?_, h2⟩, by rw [h1]; exact roundRatio_ne_nan _ _ _ _ _⟩
  rw [h1]
  unfold zval
  rw [sgn_roundRatio, own_zs s false]
theorem own_z0 (B : Nat) : zmag b64 (roundRatio b64 false 0 B 0) = 0 := by
  rw [own_rr0]; show 0 * _ = 0; exact Nat.zero_mul _
theorem own_zsign {u t : Int} {s : Bool} {M : Nat} (h : u ≠ 0 → s = (decide (u < 0) != decide (t < 0))) (hM : u = 0 → M = 0) (ht : t ≠ 0) : signed s M = if (0 ≤ u) = (0 < t) then (M : Int) else -(M : Int) := by
  by_cases hu : u = 0
  · rw [hM hu]; unfold signed; split <;> split <;> rfl
  · rw [h hu]
    unfold signed
    by_cases h1 : u < 0 <;> by_cases h2 : t < 0
    · simp [h1, h2, show ¬ 0 ≤ u by omega, show ¬ 0 < t by omega]
    · simp [h1, h2, show ¬ 0 ≤ u by omega, show 0 < t by omega]
    · simp [h1, h2, show 0 ≤ u by omega, show ¬ 0 < t by omega]
    · simp [h1, h2, show 0 ≤ u by omega, show 0 < t by omega]
theorem own_mm {u1 u2 : Int} {B : Nat} (hB : 0 < B) (h : u1.natAbs ≤ u2.natAbs) (hb : u2.natAbs ≤ 2 ^ 53) : zmag b64 (roundRatio b64 false u1.natAbs B 0) ≤ zmag b64 (roundRatio b64 false u2.natAbs B 0) := own_magmono false false hB h hb
theorem own_zmono {u1 u2 t : Int} {a1 a2 b : UInt64} (h1 : DInt u1 a1) (h2 : DInt u2 a2) (hb : DInt t b) (ht : t ≠ 0) (hu : u1 ≤ u2) (b1 : u1.natAbs ≤ 2 ^ 53) (b2 : u2.natAbs ≤ 2 ^ 53) :
    (0 < t → zval b64 (val64 (FP.ddiv a1 b)) ≤ zval b64 (val64 (FP.ddiv a2 b))) ∧ (t < 0 → zval b64 (val64 (FP.ddiv a2 b)) ≤ zval b64 (val64 (FP.ddiv a1 b))) := by
  obtain ⟨⟨s1, z1, g1⟩, -⟩ := own_zr h1 hb ht
  obtain ⟨⟨s2, z2, g2⟩, -⟩ := own_zr h2 hb ht
  have hB : 0 < t.natAbs := by omega
  have m0 : u1 = 0 → zmag b64 (roundRatio b64 false u1.natAbs t.natAbs 0) = 0 := fun q => by rw [q]; exact own_z0 _
  have m0' : u2 = 0 → zmag b64 (roundRatio b64 false u2.natAbs t.natAbs 0) = 0 := fun q => by rw [q]; exact own_z0 _
  rw [z1, z2, own_zsign g1 m0 ht, own_zsign g2 m0' ht]
  have p1 : u1.natAbs ≤ u2.natAbs → zmag b64 (roundRatio b64 false u1.natAbs t.natAbs 0) ≤ zmag b64 (roundRatio b64 false u2.natAbs t.natAbs 0) := fun q => own_mm hB q b2
  have p2 : u2.natAbs ≤ u1.natAbs → zmag b64 (roundRatio b64 false u2.natAbs t.natAbs 0) ≤ zmag b64 (roundRatio b64 false u1.natAbs t.natAbs 0) := fun q => own_mm hB q b1
  generalize zmag b64 (roundRatio b64 false u1.natAbs t.natAbs 0) = M1 at *
  generalize zmag b64 (roundRatio b64 false u2.natAbs t.natAbs 0) = M2 at *
  refine ⟨fun hp => ?_, fun hn => ?_⟩
  · simp only [hp, eq_iff_iff, iff_true]
    by_cases q1 : 0 ≤ u1
    · have := p1 (by omega); rw [if_pos q1, if_pos (show 0 ≤ u2 by omega)]; omega
    · by_cases q2 : 0 ≤ u2
      · rw [if_neg q1, if_pos q2]; omega
      · have := p2 (by omega); rw [if_neg q1, if_neg q2]; omega
  · simp only [show ¬ 0 < t by omega, eq_iff_iff, iff_false]
    by_cases q1 : 0 ≤ u1
    · have := p1 (by omega); rw [if_neg (show ¬ ¬ 0 ≤ u2 by omega), if_neg (show ¬ ¬ 0 ≤ u1 by omega)]; omega
    · by_cases q2 : 0 ≤ u2
      · rw [if_neg (show ¬ ¬ 0 ≤ u2 by omega), if_pos q1]; omega
      · have := p2 (by omega); rw [if_pos q2, if_pos q1]; omega
theorem own_case3 {lo hi : Int32} {t : Int64} (h : own_T t) (hl : lo.toInt ≤ hi.toInt) :
    ((0 : Int64) < t → ¬ cmpValue (FP.dcmp (own_pf (FP.i2d lo) (FP.l2d t)) (own_pf (FP.i2d hi) (FP.l2d t))) .l < 0) ∧ (¬ (0 : Int64) < t → ¬ 0 < cmpValue (FP.dcmp (own_pf (FP.i2d lo) (FP.l2d t)) (own_pf (FP.i2d hi) (FP.l2d t))) .g) := by
  rw [own_pf_nz h.1, own_pf_nz h.1]
  obtain ⟨-, t1, t2⟩ := id h
  have r1 := rng32 lo; have r2 := rng32 hi
  have d1 : DInt (t.toInt - lo.toInt) (FP.dsub (FP.l2d t) (FP.i2d lo)) := dsub_int (own_Tb h) (i2d_int lo) (by omega)
  have d2 : DInt (t.toInt - hi.toInt) (FP.dsub (FP.l2d t) (FP.i2d hi)) := dsub_int (own_Tb h) (i2d_int hi) (by omega)
  have z := own_zmono d2 d1 (own_Tb h) (own_T0 h) (by omega) (by omega) (by omega)
  have n1 := (own_zr d1 (own_Tb h) (own_T0 h)).2
  have n2 := (own_zr d2 (own_Tb h) (own_T0 h)).2
  have e : (0 : Int64).toInt = 0 := rfl
  have q : FP.dcmp (FP.ddiv (FP.dsub (FP.l2d t) (FP.i2d lo)) (FP.l2d t)) (FP.ddiv (FP.dsub (FP.l2d t) (FP.i2d hi)) (FP.l2d t)) = some (compare _ _) := dcmp_zval n1 n2
  rw [q, Int64.lt_iff_toInt_lt, e]
  generalize zval b64 (val64 (FP.ddiv (FP.dsub (FP.l2d t) (FP.i2d lo)) (FP.l2d t))) = y1 at *
  generalize zval b64 (val64 (FP.ddiv (FP.dsub (FP.l2d t) (FP.i2d hi)) (FP.l2d t))) = y2 at *
  refine ⟨fun hp hc => ?_, fun hp hc => ?_⟩
  · have := z.1 hp
    rw [cmpV_l] at hc
    rcases (cmpInt_l_lt _).mp hc with hc | hc
    · rw [Option.some.injEq, compare_lt_iff] at hc; omega
    · cases hc
  · have hn : t.toInt < 0 := by have := own_T0 h; omega
    have := z.2 hn
    rw [cmpV_g] at hc
    rcases (cmpInt_g_gt _).mp hc with hc | hc
    · rw [Option.some.injEq, compare_gt_iff] at hc; omega
    · cases hc
theorem own_lohi (a m : Int32) : (if m < a then m else a).toInt ≤ (if a < m then m else a).toInt := by
  simp only [Int32.lt_iff_toInt_lt]
  split <;> split <;> omega
end Order
theorem ef_2 (m : MethodId) (x0 : Addr) : entryFrame m #[(.ref x0)] 1 = mkF m 0 #[.val (.ref x0)] [] := by first | (simp [entryFrame, mkF, argsToLocals, Value.category]; done) | rfl
theorem pn_java_lang_Record : plainName "java/lang/Record" = true := by first | (simp [plainName, overriddenIn]; done) | decide +kernel
theorem d2_0 : decode jdk_30_method_1_code 0 = .ok (.aload_n 0, 1) := by decide +kernel
theorem d2_1 : decode jdk_30_method_1_code 1 = .ok (.invokespecial 1, 3) := by decide +kernel
theorem d2_4 : decode jdk_30_method_1_code 4 = .ok (.return_, 1) := by decide +kernel
def Q2 (Z : State) (ob : Addr) (h0 : Heap) (n0 : Nat) (v : Option Value) (h : Heap) (L : List Loc) : Prop := v = none ∧ Fr n0 L ∧ h = h0
set_option maxRecDepth 65536 in
set_option maxHeartbeats 40000000 in
theorem rm2 (l : Launch) (Z : State) (a0 : Array Value) (hw : ∀ d ∈ tables_1, d.before a0 Z = true) (ws : List Jvm.Cond) (ob : Addr) (h0 : Heap) (n0 : Nat) (Z0 : n0 ≤ h0.size) :
    MetFree l (⟨"java/lang/Record", "<init>", "()V"⟩ : MethodName) (head1 (Jvm.Cond.code (⟨"java/lang/Record", "<init>", "()V"⟩ : MethodName) jdk_30_method_1_code 1 none :: ws) ({ frames := 1, cells := 0, slots := 0, locals := 12 } : Room)) (fun a U => a = #[(.ref ob)] ∧ Z.Warmed39 U.vm ∧ U.heap = h0) (fun _ _ _ _ _ => True) (fun _ U o U' => ∃ v L, o = .returned v ∧ Q2 Z ob h0 n0 v U'.heap L ∧ FrameEnd U o U' L ({ frames := 1, cells := 0, slots := 0, locals := 12 } : Room).cells ({ frames := 1, cells := 0, slots := 0, locals := 12 } : Room).slots) := by
  refine MetFree.of_bodySF (plainFor_of_name pn_java_lang_Record) hisR ?_
  intro p e s m args below meth c s₁ Bd hml0 hP hK
  obtain ⟨rfl, hZ, hh⟩ := hP
  have hx := Bd.exec
  have hby := Bd.bytes
  have hml : c.maxLocals = 1 := hml0
  have hown : s.vm.findClass "java/lang/Record" = some m.cls := findClass_of_methodNamed Bd.named
  have hnm := (name_of_methodNamed Bd.named Bd.method).1
  have X0 : Stand p l e ({ frames := 1, cells := 0, slots := 0, locals := 12 } : Room) s m #[(.ref ob)] below meth c s₁ [] 0 0 := Stand.of_body Bd
  have e0 : s₁.heap = h0 := by rw [← hh, Bd.state]; rfl
  have N0 := Fr.nil n0
  refine own_all ?_
  intro P hfin
  refine own_cast (ef_2 m ob) ?_
  show own_Go p e below P s₁ (mkF m 0 #[.val (.ref ob)] [])
  refine own_step (fun _ k => XS.aloadN X0.here hx rfl (hb hby d2_0) rfl rfl k) ?_
  show own_Go p e below P s₁ (mkF m 1 #[.val (.ref ob)] [(.ref ob)])
  obtain ⟨T1, X1, e1, st1⟩ := initO X0 hx hZ hown (hw _ (List.mem_of_getElem? (i := 11) rfl)) (hw _ (List.mem_of_getElem? (i := 12) rfl)) (hw _ (List.mem_of_getElem? (i := 13) rfl)) e0 (g := (mkF m 1 #[.val (.ref ob)] [(.ref ob)])) rfl (by rw [hml]; rfl) rfl (hb hby d2_1) (by decide) (W := 0) (by show 2 * 0 + _ ≤ _; exact Nat.le_of_eq rfl) (by decide)
  refine own_step st1 ?_
  show own_Go p e below P T1 (mkF m 4 #[.val (.ref ob)] [])
  obtain ⟨fs, hr, hrun, hended, hW, hsame⟩ := X1.leave (v := none) (fun _ => rfl)
  refine ⟨_, _, X1.returnOut hx Bd.returns (hb hby d2_4) hr, hrun, hended, hfin _ _ ⟨_, _, rfl, ?_, ⟨_, rfl⟩, hW, hsame.mono (by decide) (by decide)⟩⟩
  show Q2 Z ob h0 n0 none T1.heap _
  rw [e1]
  exact ⟨rfl, N0, rfl⟩
theorem ef_1 (m : MethodId) (x0 : Addr) (x1 : UInt64) (x2 : UInt64) (x3 : UInt64) (x4 : UInt64) : entryFrame m #[(.ref x0), (.double x1), (.double x2), (.double x3), (.double x4)] 9 = mkF m 0 #[.val (.ref x0), .val (.double x1), .second, .val (.double x2), .second, .val (.double x3), .second, .val (.double x4), .second] [] := by first | (simp [entryFrame, mkF, argsToLocals, Value.category]; done) | rfl
theorem pn_com_example_equiflow_equiflow_model_Summary : plainName "com/example/equiflow/equiflow/model/Summary" = true := by first | (simp [plainName, overriddenIn]; done) | decide +kernel
theorem d1_0 : decode prog_26_method_1_code 0 = .ok (.aload_n 0, 1) := by decide +kernel
theorem pd____V : parseMethodDescriptor "()V" = some ⟨[], none⟩ := by decide +kernel
theorem d1_1 : decode prog_26_method_1_code 1 = .ok (.invokespecial 1, 3) := by decide +kernel
theorem d1_4 : decode prog_26_method_1_code 4 = .ok (.aload_n 0, 1) := by decide +kernel
theorem d1_5 : decode prog_26_method_1_code 5 = .ok (.dload_n 1, 1) := by decide +kernel
theorem d1_6 : decode prog_26_method_1_code 6 = .ok (.putfield 7, 3) := by decide +kernel
theorem d1_9 : decode prog_26_method_1_code 9 = .ok (.aload_n 0, 1) := by decide +kernel
theorem d1_10 : decode prog_26_method_1_code 10 = .ok (.dload_n 3, 1) := by decide +kernel
theorem d1_11 : decode prog_26_method_1_code 11 = .ok (.putfield 13, 3) := by decide +kernel
theorem d1_14 : decode prog_26_method_1_code 14 = .ok (.aload_n 0, 1) := by decide +kernel
theorem d1_15 : decode prog_26_method_1_code 15 = .ok (.dload 5, 2) := by decide +kernel
theorem d1_17 : decode prog_26_method_1_code 17 = .ok (.putfield 16, 3) := by decide +kernel
theorem d1_20 : decode prog_26_method_1_code 20 = .ok (.aload_n 0, 1) := by decide +kernel
theorem d1_21 : decode prog_26_method_1_code 21 = .ok (.dload 7, 2) := by decide +kernel
theorem d1_23 : decode prog_26_method_1_code 23 = .ok (.putfield 19, 3) := by decide +kernel
theorem d1_26 : decode prog_26_method_1_code 26 = .ok (.return_, 1) := by decide +kernel
def Q1 (Z : State) (ob : Addr) (x0 : UInt64) (x1 : UInt64) (x2 : UInt64) (x3 : UInt64) (h0 : Heap) (n0 : Nat) (v : Option Value) (h : Heap) (L : List Loc) : Prop := v = none ∧ Fr n0 L ∧ Keep h0 h [ob] ∧ Exa Z h ob "com/example/equiflow/equiflow/model/Summary" ∧ Fld Z h ob "com/example/equiflow/equiflow/model/Summary" "total" "D" (.double x0) ∧ Fld Z h ob "com/example/equiflow/equiflow/model/Summary" "min" "D" (.double x1) ∧ Fld Z h ob "com/example/equiflow/equiflow/model/Summary" "jain" "D" (.double x2) ∧ Fld Z h ob "com/example/equiflow/equiflow/model/Summary" "gini" "D" (.double x3)
set_option maxRecDepth 65536 in
set_option maxHeartbeats 40000000 in
theorem rm1 (l : Launch) (Z : State) (a0 : Array Value) (hw : ∀ d ∈ tables_1, d.before a0 Z = true) (ws : List Jvm.Cond) (ob : Addr) (x0 : UInt64) (x1 : UInt64) (x2 : UInt64) (x3 : UInt64) (h0 : Heap) (n0 : Nat) (Z0 : n0 ≤ h0.size) (E_ob : Exa Z h0 ob "com/example/equiflow/equiflow/model/Summary") (F_total_ob : Fld Z h0 ob "com/example/equiflow/equiflow/model/Summary" "total" "D" (.double (0 : UInt64))) (F_min_ob : Fld Z h0 ob "com/example/equiflow/equiflow/model/Summary" "min" "D" (.double (0 : UInt64))) (F_jain_ob : Fld Z h0 ob "com/example/equiflow/equiflow/model/Summary" "jain" "D" (.double (0 : UInt64))) (F_gini_ob : Fld Z h0 ob "com/example/equiflow/equiflow/model/Summary" "gini" "D" (.double (0 : UInt64))) (g_ob : n0 ≤ ob) :
    MetFree l (⟨"com/example/equiflow/equiflow/model/Summary", "<init>", "(DDDD)V"⟩ : MethodName) (head1 (Jvm.Cond.code (⟨"com/example/equiflow/equiflow/model/Summary", "<init>", "(DDDD)V"⟩ : MethodName) prog_26_method_1_code 9 none :: ws) ({ frames := 2, cells := 0, slots := 0, locals := 24 } : Room)) (fun a U => a = #[(.ref ob), (.double x0), (.double x1), (.double x2), (.double x3)] ∧ Z.Warmed39 U.vm ∧ U.heap = h0) (fun _ _ _ _ _ => True) (fun _ U o U' => ∃ v L, o = .returned v ∧ Q1 Z ob x0 x1 x2 x3 h0 n0 v U'.heap L ∧ FrameEnd U o U' L ({ frames := 2, cells := 0, slots := 0, locals := 24 } : Room).cells ({ frames := 2, cells := 0, slots := 0, locals := 24 } : Room).slots) := by
  refine MetFree.of_bodySF (plainFor_of_name pn_com_example_equiflow_equiflow_model_Summary) hisR ?_
  intro p e s m args below meth c s₁ Bd hml0 hP hK
  obtain ⟨rfl, hZ, hh⟩ := hP
  have hx := Bd.exec
  have hby := Bd.bytes
  have hml : c.maxLocals = 9 := hml0
  have hown : s.vm.findClass "com/example/equiflow/equiflow/model/Summary" = some m.cls := findClass_of_methodNamed Bd.named
  have hnm := (name_of_methodNamed Bd.named Bd.method).1
  have X0 : Stand p l e ({ frames := 2, cells := 0, slots := 0, locals := 24 } : Room) s m #[(.ref ob), (.double x0), (.double x1), (.double x2), (.double x3)] below meth c s₁ [] 0 0 := Stand.of_body Bd
  have e0 : s₁.heap = h0 := by rw [← hh, Bd.state]; rfl
  have N0 := Fr.nil n0
  refine own_all ?_
  intro P hfin
  refine own_cast (ef_1 m ob x0 x1 x2 x3) ?_
  show own_Go p e below P s₁ (mkF m 0 #[.val (.ref ob), .val (.double x0), .second, .val (.double x1), .second, .val (.double x2), .second, .val (.double x3), .second] [])
  refine own_step (fun _ k => XS.aloadN X0.here hx rfl (hb hby d1_0) rfl rfl k) ?_
  show own_Go p e below P s₁ (mkF m 1 #[.val (.ref ob), .val (.double x0), .second, .val (.double x1), .second, .val (.double x2), .second, .val (.double x3), .second] [(.ref ob)])
  obtain ⟨_, _, ⟨T1, L1, k1, n1⟩, -, X1, ⟨Lc1, hQ1, l1, y1, z1⟩, st1⟩ := X0.specialBack hx (y := (⟨"java/lang/Record", "<init>", "()V"⟩ : MethodName)) rfl hown (mvT hZ (hw _ (List.mem_of_getElem? (i := 6) rfl))) (mvT hZ (hw _ (List.mem_of_getElem? (i := 7) rfl))) (mvT hZ (hw _ (List.mem_of_getElem? (i := 10) rfl))) (by decide) (backOf (W := 0) (rm2 l Z a0 hw [] ob h0 n0 Z0) hZ (hw _ (List.mem_of_getElem? (i := 10) rfl)) (hw _ (List.mem_of_getElem? (i := 9) rfl)) (by decide) (by decide)) (g := (mkF m 1 #[.val (.ref ob), .val (.double x0), .second, .val (.double x1), .second, .val (.double x2), .second, .val (.double x3), .second] [(.ref ob)])) rfl (by rw [hml]; rfl) (Steps.refl _) (a := ob) (argsL := []) (rest := []) (lenOf pd____V rfl) rfl (by show 2 * 0 + _ ≤ _; exact Nat.le_of_eq rfl) (hb hby d1_1) (fun _ _ => ⟨rfl, e0, (by decide : 0 + 0 ≤ _), (by decide : 0 + 0 ≤ _)⟩)
  dsimp only [Pt.U, Pt.locs, Pt.cells, Pt.slots] at X1 l1 y1 z1 st1 hQ1
  subst l1 y1 z1
  obtain ⟨rfl, N1q, e1⟩ := hQ1
  have N1 := Fr.app N0 N1q
  refine own_step (fun _ k => st1.trans k) ?_
  show own_Go p e below P T1 (mkF m 4 #[.val (.ref ob), .val (.double x0), .second, .val (.double x1), .second, .val (.double x2), .second, .val (.double x3), .second] [])
  refine own_step (fun _ k => XS.aloadN X1.here hx rfl (hb hby d1_4) rfl rfl k) ?_
  show own_Go p e below P T1 (mkF m 5 #[.val (.ref ob), .val (.double x0), .second, .val (.double x1), .second, .val (.double x2), .second, .val (.double x3), .second] [(.ref ob)])
  refine own_step (fun _ k => XS.dloadN X1.here hx rfl (hb hby d1_5) rfl k) ?_
  show own_Go p e below P T1 (mkF m 6 #[.val (.ref ob), .val (.double x0), .second, .val (.double x1), .second, .val (.double x2), .second, .val (.double x3), .second] [(.double x0), (.ref ob)])
  obtain ⟨T2, h2, X2, e2, W2, st2⟩ := putF X1 hx hZ hown (host := "") (Or.inl (hw _ (List.mem_of_getElem? (i := 14) rfl))) Via.refl e1 F_total_ob E_ob (Or.inr ⟨(hw _ (List.mem_of_getElem? (i := 15) rfl)), rfl, hnm⟩) (hw _ (List.mem_of_getElem? (i := 1) rfl)) (ty := .double) (by decide) rfl rfl (g := (mkF m 6 #[.val (.ref ob), .val (.double x0), .second, .val (.double x1), .second, .val (.double x2), .second, .val (.double x3), .second] [(.double x0), (.ref ob)])) rfl rfl (hb hby d1_6)
  have Fw2 := F_total_ob.same W2
  have N2 := Fr.snoc X2 N1 g_ob
  refine own_step st2 ?_
  show own_Go p e below P T2 (mkF m 9 #[.val (.ref ob), .val (.double x0), .second, .val (.double x1), .second, .val (.double x2), .second, .val (.double x3), .second] [])
  refine own_step (fun _ k => XS.aloadN X2.here hx rfl (hb hby d1_9) rfl rfl k) ?_
  show own_Go p e below P T2 (mkF m 10 #[.val (.ref ob), .val (.double x0), .second, .val (.double x1), .second, .val (.double x2), .second, .val (.double x3), .second] [(.ref ob)])
  refine own_step (fun _ k => XS.dloadN X2.here hx rfl (hb hby d1_10) rfl k) ?_
  show own_Go p e below P T2 (mkF m 11 #[.val (.ref ob), .val (.double x0), .second, .val (.double x1), .second, .val (.double x2), .second, .val (.double x3), .second] [(.double x1), (.ref ob)])
  obtain ⟨T3, h3, X3, e3, W3, st3⟩ := putF X2 hx hZ hown (host := "") (Or.inl (hw _ (List.mem_of_getElem? (i := 16) rfl))) Via.refl e2 (F_min_ob.other W2 (Or.inr (slot_ne (Or.inr (hw _ (List.mem_of_getElem? (i := 17) rfl))) (Or.inr (hw _ (List.mem_of_getElem? (i := 15) rfl))) (by decide) (t := .double) (t' := .double) (by decide) (by decide)))) (E_ob.wr W2) (Or.inr ⟨(hw _ (List.mem_of_getElem? (i := 17) rfl)), rfl, hnm⟩) (hw _ (List.mem_of_getElem? (i := 1) rfl)) (ty := .double) (by decide) rfl rfl (g := (mkF m 11 #[.val (.ref ob), .val (.double x0), .second, .val (.double x1), .second, .val (.double x2), .second, .val (.double x3), .second] [(.double x1), (.ref ob)])) rfl rfl (hb hby d1_11)
  have Fw3 := (F_min_ob.other W2 (Or.inr (slot_ne (Or.inr (hw _ (List.mem_of_getElem? (i := 17) rfl))) (Or.inr (hw _ (List.mem_of_getElem? (i := 15) rfl))) (by decide) (t := .double) (t' := .double) (by decide) (by decide)))).same W3
  have N3 := Fr.snoc X3 N2 g_ob
  refine own_step st3 ?_
  show own_Go p e below P T3 (mkF m 14 #[.val (.ref ob), .val (.double x0), .second, .val (.double x1), .second, .val (.double x2), .second, .val (.double x3), .second] [])
  refine own_step (fun _ k => XS.aloadN X3.here hx rfl (hb hby d1_14) rfl rfl k) ?_
  show own_Go p e below P T3 (mkF m 15 #[.val (.ref ob), .val (.double x0), .second, .val (.double x1), .second, .val (.double x2), .second, .val (.double x3), .second] [(.ref ob)])
  refine own_step (fun _ k => XS.dload X3.here hx rfl (hb hby d1_15) rfl k) ?_
  show own_Go p e below P T3 (mkF m 17 #[.val (.ref ob), .val (.double x0), .second, .val (.double x1), .second, .val (.double x2), .second, .val (.double x3), .second] [(.double x2), (.ref ob)])
  obtain ⟨T4, h4, X4, e4, W4, st4⟩ := putF X3 hx hZ hown (host := "") (Or.inl (hw _ (List.mem_of_getElem? (i := 18) rfl))) Via.refl e3 ((F_jain_ob.other W2 (Or.inr (slot_ne (Or.inr (hw _ (List.mem_of_getElem? (i := 19) rfl))) (Or.inr (hw _ (List.mem_of_getElem? (i := 15) rfl))) (by decide) (t := .double) (t' := .double) (by decide) (by decide)))).other W3 (Or.inr (slot_ne (Or.inr (hw _ (List.mem_of_getElem? (i := 19) rfl))) (Or.inr (hw _ (List.mem_of_getElem? (i := 17) rfl))) (by decide) (t := .double) (t' := .double) (by decide) (by decide)))) ((E_ob.wr W2).wr W3) (Or.inr ⟨(hw _ (List.mem_of_getElem? (i := 19) rfl)), rfl, hnm⟩) (hw _ (List.mem_of_getElem? (i := 1) rfl)) (ty := .double) (by decide) rfl rfl (g := (mkF m 17 #[.val (.ref ob), .val (.double x0), .second, .val (.double x1), .second, .val (.double x2), .second, .val (.double x3), .second] [(.double x2), (.ref ob)])) rfl rfl (hb hby d1_17)
  have Fw4 := ((F_jain_ob.other W2 (Or.inr (slot_ne (Or.inr (hw _ (List.mem_of_getElem? (i := 19) rfl))) (Or.inr (hw _ (List.mem_of_getElem? (i := 15) rfl))) (by decide) (t := .double) (t' := .double) (by decide) (by decide)))).other W3 (Or.inr (slot_ne (Or.inr (hw _ (List.mem_of_getElem? (i := 19) rfl))) (Or.inr (hw _ (List.mem_of_getElem? (i := 17) rfl))) (by decide) (t := .double) (t' := .double) (by decide) (by decide)))).same W4
  have N4 := Fr.snoc X4 N3 g_ob
  refine own_step st4 ?_
  show own_Go p e below P T4 (mkF m 20 #[.val (.ref ob), .val (.double x0), .second, .val (.double x1), .second, .val (.double x2), .second, .val (.double x3), .second] [])
  refine own_step (fun _ k => XS.aloadN X4.here hx rfl (hb hby d1_20) rfl rfl k) ?_
  show own_Go p e below P T4 (mkF m 21 #[.val (.ref ob), .val (.double x0), .second, .val (.double x1), .second, .val (.double x2), .second, .val (.double x3), .second] [(.ref ob)])
  refine own_step (fun _ k => XS.dload X4.here hx rfl (hb hby d1_21) rfl k) ?_
  show own_Go p e below P T4 (mkF m 23 #[.val (.ref ob), .val (.double x0), .second, .val (.double x1), .second, .val (.double x2), .second, .val (.double x3), .second] [(.double x3), (.ref ob)])
  obtain ⟨T5, h5, X5, e5, W5, st5⟩ := putF X4 hx hZ hown (host := "") (Or.inl (hw _ (List.mem_of_getElem? (i := 20) rfl))) Via.refl e4 (((F_gini_ob.other W2 (Or.inr (slot_ne (Or.inr (hw _ (List.mem_of_getElem? (i := 21) rfl))) (Or.inr (hw _ (List.mem_of_getElem? (i := 15) rfl))) (by decide) (t := .double) (t' := .double) (by decide) (by decide)))).other W3 (Or.inr (slot_ne (Or.inr (hw _ (List.mem_of_getElem? (i := 21) rfl))) (Or.inr (hw _ (List.mem_of_getElem? (i := 17) rfl))) (by decide) (t := .double) (t' := .double) (by decide) (by decide)))).other W4 (Or.inr (slot_ne (Or.inr (hw _ (List.mem_of_getElem? (i := 21) rfl))) (Or.inr (hw _ (List.mem_of_getElem? (i := 19) rfl))) (by decide) (t := .double) (t' := .double) (by decide) (by decide)))) (((E_ob.wr W2).wr W3).wr W4) (Or.inr ⟨(hw _ (List.mem_of_getElem? (i := 21) rfl)), rfl, hnm⟩) (hw _ (List.mem_of_getElem? (i := 1) rfl)) (ty := .double) (by decide) rfl rfl (g := (mkF m 23 #[.val (.ref ob), .val (.double x0), .second, .val (.double x1), .second, .val (.double x2), .second, .val (.double x3), .second] [(.double x3), (.ref ob)])) rfl rfl (hb hby d1_23)
  have Fw5 := (((F_gini_ob.other W2 (Or.inr (slot_ne (Or.inr (hw _ (List.mem_of_getElem? (i := 21) rfl))) (Or.inr (hw _ (List.mem_of_getElem? (i := 15) rfl))) (by decide) (t := .double) (t' := .double) (by decide) (by decide)))).other W3 (Or.inr (slot_ne (Or.inr (hw _ (List.mem_of_getElem? (i := 21) rfl))) (Or.inr (hw _ (List.mem_of_getElem? (i := 17) rfl))) (by decide) (t := .double) (t' := .double) (by decide) (by decide)))).other W4 (Or.inr (slot_ne (Or.inr (hw _ (List.mem_of_getElem? (i := 21) rfl))) (Or.inr (hw _ (List.mem_of_getElem? (i := 19) rfl))) (by decide) (t := .double) (t' := .double) (by decide) (by decide)))).same W5
  have N5 := Fr.snoc X5 N4 g_ob
  refine own_step st5 ?_
  show own_Go p e below P T5 (mkF m 26 #[.val (.ref ob), .val (.double x0), .second, .val (.double x1), .second, .val (.double x2), .second, .val (.double x3), .second] [])
  obtain ⟨fs, hr, hrun, hended, hW, hsame⟩ := X5.leave (v := none) (fun _ => rfl)
  refine ⟨_, _, X5.returnOut hx Bd.returns (hb hby d1_26) hr, hrun, hended, hfin _ _ ⟨_, _, rfl, ?_, ⟨_, rfl⟩, hW, hsame.mono (by decide) (by decide)⟩⟩
  show Q1 Z ob x0 x1 x2 x3 h0 n0 none T5.heap _
  rw [e5]
  exact ⟨rfl, N5, (((((Keep.refl h0 [ob]).wr W2 (Or.inl (List.mem_of_getElem? (i := 0) rfl))).wr W3 (Or.inl (List.mem_of_getElem? (i := 0) rfl))).wr W4 (Or.inl (List.mem_of_getElem? (i := 0) rfl))).wr W5 (Or.inl (List.mem_of_getElem? (i := 0) rfl))), ((((E_ob.wr W2).wr W3).wr W4).wr W5), (((Fw2.other W3 (Or.inr (slot_ne (Or.inr (hw _ (List.mem_of_getElem? (i := 15) rfl))) (Or.inr (hw _ (List.mem_of_getElem? (i := 17) rfl))) (by decide) (t := .double) (t' := .double) (by decide) (by decide)))).other W4 (Or.inr (slot_ne (Or.inr (hw _ (List.mem_of_getElem? (i := 15) rfl))) (Or.inr (hw _ (List.mem_of_getElem? (i := 19) rfl))) (by decide) (t := .double) (t' := .double) (by decide) (by decide)))).other W5 (Or.inr (slot_ne (Or.inr (hw _ (List.mem_of_getElem? (i := 15) rfl))) (Or.inr (hw _ (List.mem_of_getElem? (i := 21) rfl))) (by decide) (t := .double) (t' := .double) (by decide) (by decide)))), ((Fw3.other W4 (Or.inr (slot_ne (Or.inr (hw _ (List.mem_of_getElem? (i := 17) rfl))) (Or.inr (hw _ (List.mem_of_getElem? (i := 19) rfl))) (by decide) (t := .double) (t' := .double) (by decide) (by decide)))).other W5 (Or.inr (slot_ne (Or.inr (hw _ (List.mem_of_getElem? (i := 17) rfl))) (Or.inr (hw _ (List.mem_of_getElem? (i := 21) rfl))) (by decide) (t := .double) (t' := .double) (by decide) (by decide)))), (Fw4.other W5 (Or.inr (slot_ne (Or.inr (hw _ (List.mem_of_getElem? (i := 19) rfl))) (Or.inr (hw _ (List.mem_of_getElem? (i := 21) rfl))) (by decide) (t := .double) (t' := .double) (by decide) (by decide)))), Fw5⟩
theorem ef_4 (m : MethodId) (x0 : Addr) (x1 : UInt64) : entryFrame m #[(.ref x0), (.double x1)] 3 = mkF m 0 #[.val (.ref x0), .val (.double x1), .second] [] := by first | (simp [entryFrame, mkF, argsToLocals, Value.category]; done) | rfl
theorem d4_0 : decode prog_26_method_3_code 0 = .ok (.dload_n 1, 1) := by decide +kernel
theorem d4_1 : decode prog_26_method_3_code 1 = .ok (.dconst 0, 1) := by decide +kernel
theorem d4_2 : decode prog_26_method_3_code 2 = .ok (.dcmp .l, 1) := by decide +kernel
theorem d4_3 : decode prog_26_method_3_code 3 = .ok (.ifCond .ne 7, 3) := by decide +kernel
theorem d4_6 : decode prog_26_method_3_code 6 = .ok (.dconst 0, 1) := by decide +kernel
theorem d4_7 : decode prog_26_method_3_code 7 = .ok (.goto 11, 3) := by decide +kernel
theorem d4_18 : decode prog_26_method_3_code 18 = .ok (.dreturn, 1) := by decide +kernel
theorem d4_10 : decode prog_26_method_3_code 10 = .ok (.dload_n 1, 1) := by decide +kernel
theorem d4_11 : decode prog_26_method_3_code 11 = .ok (.aload_n 0, 1) := by decide +kernel
theorem d4_12 : decode prog_26_method_3_code 12 = .ok (.getfield 7, 3) := by decide +kernel
theorem d4_15 : decode prog_26_method_3_code 15 = .ok (.dsub, 1) := by decide +kernel
theorem d4_16 : decode prog_26_method_3_code 16 = .ok (.dload_n 1, 1) := by decide +kernel
theorem d4_17 : decode prog_26_method_3_code 17 = .ok (.ddiv, 1) := by decide +kernel
def Q4 (Z : State) (ob : Addr) (x1 : UInt64) (xt : UInt64) (h0 : Heap) (n0 : Nat) (v : Option Value) (h : Heap) (L : List Loc) : Prop := v = some (.double (own_pf xt x1)) ∧ Fr n0 L ∧ h = h0
set_option maxRecDepth 65536 in
set_option maxHeartbeats 40000000 in
theorem rm4 (l : Launch) (Z : State) (a0 : Array Value) (hw : ∀ d ∈ tables_1, d.before a0 Z = true) (ws : List Jvm.Cond) (ob : Addr) (x1 : UInt64) (xt : UInt64) (h0 : Heap) (n0 : Nat) (Z0 : n0 ≤ h0.size) (F_total_ob : Fld Z h0 ob "com/example/equiflow/equiflow/model/Summary" "total" "D" (.double xt)) (fx0 : Fin64 xt) (ft0 : Fin64 x1) :
    MetFree l (⟨"com/example/equiflow/equiflow/model/Summary", "priceOfFairness", "(D)D"⟩ : MethodName) (head1 (Jvm.Cond.code (⟨"com/example/equiflow/equiflow/model/Summary", "priceOfFairness", "(D)D"⟩ : MethodName) prog_26_method_3_code 3 (some .double) :: ws) ({ frames := 0, cells := 0, slots := 0, locals := 0 } : Room)) (fun a U => a = #[(.ref ob), (.double x1)] ∧ Z.Warmed39 U.vm ∧ U.heap = h0) (fun _ _ _ _ _ => True) (fun _ U o U' => ∃ v L, o = .returned v ∧ Q4 Z ob x1 xt h0 n0 v U'.heap L ∧ FrameEnd U o U' L ({ frames := 0, cells := 0, slots := 0, locals := 0 } : Room).cells ({ frames := 0, cells := 0, slots := 0, locals := 0 } : Room).slots) := by
  refine MetFree.of_bodySF (plainFor_of_name pn_com_example_equiflow_equiflow_model_Summary) hisR ?_
  intro p e s m args below meth c s₁ Bd hml0 hP hK
  obtain ⟨rfl, hZ, hh⟩ := hP
  have hx := Bd.exec
  have hby := Bd.bytes
  have hml : c.maxLocals = 3 := hml0
  have hown : s.vm.findClass "com/example/equiflow/equiflow/model/Summary" = some m.cls := findClass_of_methodNamed Bd.named
  have hnm := (name_of_methodNamed Bd.named Bd.method).1
  have X0 : Stand p l e ({ frames := 0, cells := 0, slots := 0, locals := 0 } : Room) s m #[(.ref ob), (.double x1)] below meth c s₁ [] 0 0 := Stand.of_body Bd
  have e0 : s₁.heap = h0 := by rw [← hh, Bd.state]; rfl
  have N0 := Fr.nil n0
  refine own_all ?_
  intro P hfin
  refine own_cast (ef_4 m ob x1) ?_
  show own_Go p e below P s₁ (mkF m 0 #[.val (.ref ob), .val (.double x1), .second] [])
  refine own_step (fun _ k => XS.dloadN X0.here hx rfl (hb hby d4_0) rfl k) ?_
  show own_Go p e below P s₁ (mkF m 1 #[.val (.ref ob), .val (.double x1), .second] [(.double x1)])
  refine own_step (fun _ k => XS.dconst0 X0.here hx rfl (hb hby d4_1) rfl k) ?_
  show own_Go p e below P s₁ (mkF m 2 #[.val (.ref ob), .val (.double x1), .second] [(.double FP.dconst0), (.double x1)])
  refine own_step (fun _ k => XS.dcmpS X0.here hx rfl (hb hby d4_2) rfl rfl k) ?_
  show own_Go p e below P s₁ (mkF m 3 #[.val (.ref ob), .val (.double x1), .second] [(.int (cmpValue (FP.dcmp x1 FP.dconst0) .l))])
  by_cases hc1 : (cmpValue (FP.dcmp x1 FP.dconst0) .l) = (0 : Int32)
  · refine own_step (fun _ k => XS.ifNo X0.here hx rfl (hb hby d4_3) rfl ((if0 _ _).trans (teq hc1).2) k) ?_
    show own_Go p e below P s₁ (mkF m 6 #[.val (.ref ob), .val (.double x1), .second] [])
    refine own_step (fun _ k => XS.dconst0 X0.here hx rfl (hb hby d4_6) rfl k) ?_
    show own_Go p e below P s₁ (mkF m 7 #[.val (.ref ob), .val (.double x1), .second] [(.double FP.dconst0)])
    refine own_step (fun _ k => XS.goto X0.here hx rfl (pc0 := 7) (pc' := 18) rfl (hb hby d4_7) (by decide) (by decide) k) ?_
    show own_Go p e below P s₁ (mkF m 18 #[.val (.ref ob), .val (.double x1), .second] [(.double FP.dconst0)])
    obtain ⟨fs, hr, hrun, hended, hW, hsame⟩ := X0.leave (v := some (.double FP.dconst0)) (fun h => by rw [Bd.returns] at h; cases h)
    refine ⟨_, _, retOut X0 hx (t := .double) Bd.returns rfl (Or.inr (Or.inr (Or.inl ⟨rfl, rfl, _, rfl⟩))) (hb hby d4_18) hr, hrun, hended, hfin _ _ ⟨_, _, rfl, ?_, ⟨_, rfl⟩, hW, hsame.mono (by decide) (by decide)⟩⟩
    show Q4 Z ob x1 xt h0 n0 (some (.double FP.dconst0)) s₁.heap _
    rw [e0]
    exact ⟨(congrArg (fun z => some (Value.double z)) (if_pos hc1).symm), N0, rfl⟩
  · refine own_step (fun _ k => XS.ifYes X0.here hx rfl (pc0 := 3) (pc' := 10) rfl (hb hby d4_3) rfl ((if0 _ _).trans (feq hc1).2) (by decide) (by decide) k) ?_
    show own_Go p e below P s₁ (mkF m 10 #[.val (.ref ob), .val (.double x1), .second] [])
    refine own_step (fun _ k => XS.dloadN X0.here hx rfl (hb hby d4_10) rfl k) ?_
    show own_Go p e below P s₁ (mkF m 11 #[.val (.ref ob), .val (.double x1), .second] [(.double x1)])
    refine own_step (fun _ k => XS.aloadN X0.here hx rfl (hb hby d4_11) rfl rfl k) ?_
    show own_Go p e below P s₁ (mkF m 12 #[.val (.ref ob), .val (.double x1), .second] [(.ref ob), (.double x1)])
    obtain ⟨T3, X3, e3, st3⟩ := getF X0 hx hZ hown (host := "") (Or.inl (hw _ (List.mem_of_getElem? (i := 14) rfl))) Via.refl e0 F_total_ob (g := (mkF m 12 #[.val (.ref ob), .val (.double x1), .second] [(.ref ob), (.double x1)])) rfl rfl (hb hby d4_12)
    refine own_step st3 ?_
    show own_Go p e below P T3 (mkF m 15 #[.val (.ref ob), .val (.double x1), .second] [(.double xt), (.double x1)])
    refine own_step (fun _ k => XS.dsubS X3.here hx rfl (hb hby d4_15) rfl (dsub_out ft0.noNaN fx0) rfl k) ?_
    show own_Go p e below P T3 (mkF m 16 #[.val (.ref ob), .val (.double x1), .second] [(.double (FP.dsub x1 xt))])
    refine own_step (fun _ k => XS.dloadN X3.here hx rfl (hb hby d4_16) rfl k) ?_
    show own_Go p e below P T3 (mkF m 17 #[.val (.ref ob), .val (.double x1), .second] [(.double x1), (.double (FP.dsub x1 xt))])
    refine own_step (fun _ k => XS.ddivS X3.here hx rfl (hb hby d4_17) rfl (ddiv_out (dsub_out ft0.noNaN fx0) ft0 (own_nz ft0 hc1)) rfl k) ?_
    show own_Go p e below P T3 (mkF m 18 #[.val (.ref ob), .val (.double x1), .second] [(.double (FP.ddiv (FP.dsub x1 xt) x1))])
    obtain ⟨fs, hr, hrun, hended, hW, hsame⟩ := X3.leave (v := some (.double (FP.ddiv (FP.dsub x1 xt) x1))) (fun h => by rw [Bd.returns] at h; cases h)
    refine ⟨_, _, retOut X3 hx (t := .double) Bd.returns rfl (Or.inr (Or.inr (Or.inl ⟨rfl, rfl, _, rfl⟩))) (hb hby d4_18) hr, hrun, hended, hfin _ _ ⟨_, _, rfl, ?_, ⟨_, rfl⟩, hW, hsame.mono (by decide) (by decide)⟩⟩
    show Q4 Z ob x1 xt h0 n0 (some (.double (FP.ddiv (FP.dsub x1 xt) x1))) T3.heap _
    rw [e3]
    exact ⟨(congrArg (fun z => some (Value.double z)) (if_neg hc1).symm), N0, rfl⟩
theorem ef_5 (m : MethodId) (x0 : Int32) (x1 : Int32) : entryFrame m #[(.int x0), (.int x1)] 2 = mkF m 0 #[.val (.int x0), .val (.int x1)] [] := by first | (simp [entryFrame, mkF, argsToLocals, Value.category]; done) | rfl
theorem d5_0 : decode jdk_29_method_69_code 0 = .ok (.iload_n 0, 1) := by decide +kernel
theorem d5_1 : decode jdk_29_method_69_code 1 = .ok (.iload_n 1, 1) := by decide +kernel
theorem d5_2 : decode jdk_29_method_69_code 2 = .ok (.if_icmp .gt 7, 3) := by decide +kernel
theorem d5_9 : decode jdk_29_method_69_code 9 = .ok (.iload_n 1, 1) := by decide +kernel
theorem d5_10 : decode jdk_29_method_69_code 10 = .ok (.ireturn, 1) := by decide +kernel
theorem d5_5 : decode jdk_29_method_69_code 5 = .ok (.iload_n 0, 1) := by decide +kernel
theorem d5_6 : decode jdk_29_method_69_code 6 = .ok (.goto 4, 3) := by decide +kernel
def Q5 (Z : State) (p0 : Int32) (p1 : Int32) (h0 : Heap) (n0 : Nat) (v : Option Value) (h : Heap) (L : List Loc) : Prop := v = some (.int (if p1 < p0 then p1 else p0)) ∧ Fr n0 L ∧ h = h0
set_option maxRecDepth 65536 in
set_option maxHeartbeats 40000000 in
theorem rm5 (l : Launch) (Z : State) (a0 : Array Value) (hw : ∀ d ∈ tables_1, d.before a0 Z = true) (ws : List Jvm.Cond) (p0 : Int32) (p1 : Int32) (h0 : Heap) (n0 : Nat) (Z0 : n0 ≤ h0.size) :
    MetFree l (⟨"java/lang/Math", "min", "(II)I"⟩ : MethodName) (head1 (Jvm.Cond.code (⟨"java/lang/Math", "min", "(II)I"⟩ : MethodName) jdk_29_method_69_code 2 (some .int) :: ws) ({ frames := 0, cells := 0, slots := 0, locals := 0 } : Room)) (fun a U => a = #[(.int p0), (.int p1)] ∧ Z.Warmed39 U.vm ∧ U.heap = h0) (fun _ _ _ _ _ => True) (fun _ U o U' => ∃ v L, o = .returned v ∧ Q5 Z p0 p1 h0 n0 v U'.heap L ∧ FrameEnd U o U' L ({ frames := 0, cells := 0, slots := 0, locals := 0 } : Room).cells ({ frames := 0, cells := 0, slots := 0, locals := 0 } : Room).slots) := by
  refine MetFree.of_bodySF (Jvm.Free.JP.mathPlain rfl (by decide +kernel)) hisR ?_
  intro p e s m args below meth c s₁ Bd hml0 hP hK
  obtain ⟨rfl, hZ, hh⟩ := hP
  have hx := Bd.exec
  have hby := Bd.bytes
  have hml : c.maxLocals = 2 := hml0
  have hown : s.vm.findClass "java/lang/Math" = some m.cls := findClass_of_methodNamed Bd.named
  have hnm := (name_of_methodNamed Bd.named Bd.method).1
  have X0 : Stand p l e ({ frames := 0, cells := 0, slots := 0, locals := 0 } : Room) s m #[(.int p0), (.int p1)] below meth c s₁ [] 0 0 := Stand.of_body Bd
  have e0 : s₁.heap = h0 := by rw [← hh, Bd.state]; rfl
  have N0 := Fr.nil n0
  refine own_all ?_
  intro P hfin
  refine own_cast (ef_5 m p0 p1) ?_
  show own_Go p e below P s₁ (mkF m 0 #[.val (.int p0), .val (.int p1)] [])
  refine own_step (fun _ k => XS.iloadN X0.here hx rfl (hb hby d5_0) rfl k) ?_
  show own_Go p e below P s₁ (mkF m 1 #[.val (.int p0), .val (.int p1)] [(.int p0)])
  refine own_step (fun _ k => XS.iloadN X0.here hx rfl (hb hby d5_1) rfl k) ?_
  show own_Go p e below P s₁ (mkF m 2 #[.val (.int p0), .val (.int p1)] [(.int p1), (.int p0)])
  by_cases hc1 : p1 < p0
  · refine own_step (fun _ k => XS.icmpYes X0.here hx rfl (pc0 := 2) (pc' := 9) rfl (hb hby d5_2) rfl (tlt hc1).2.2.1 (by decide) (by decide) k) ?_
    show own_Go p e below P s₁ (mkF m 9 #[.val (.int p0), .val (.int p1)] [])
    refine own_step (fun _ k => XS.iloadN X0.here hx rfl (hb hby d5_9) rfl k) ?_
    show own_Go p e below P s₁ (mkF m 10 #[.val (.int p0), .val (.int p1)] [(.int p1)])
    obtain ⟨fs, hr, hrun, hended, hW, hsame⟩ := X0.leave (v := some (.int p1)) (fun h => by rw [Bd.returns] at h; cases h)
    refine ⟨_, _, retOut X0 hx (t := .int) Bd.returns rfl (Or.inl ⟨rfl, Or.inl rfl, _, rfl⟩) (hb hby d5_10) hr, hrun, hended, hfin _ _ ⟨_, _, rfl, ?_, ⟨_, rfl⟩, hW, hsame.mono (by decide) (by decide)⟩⟩
    show Q5 Z p0 p1 h0 n0 (some (.int p1)) s₁.heap _
    rw [e0]
    exact ⟨(congrArg (fun z => some (Value.int z)) (if_pos hc1).symm), N0, rfl⟩
  · refine own_step (fun _ k => XS.icmpNo X0.here hx rfl (hb hby d5_2) rfl (flt hc1).2.2.1 k) ?_
    show own_Go p e below P s₁ (mkF m 5 #[.val (.int p0), .val (.int p1)] [])
    refine own_step (fun _ k => XS.iloadN X0.here hx rfl (hb hby d5_5) rfl k) ?_
    show own_Go p e below P s₁ (mkF m 6 #[.val (.int p0), .val (.int p1)] [(.int p0)])
    refine own_step (fun _ k => XS.goto X0.here hx rfl (pc0 := 6) (pc' := 10) rfl (hb hby d5_6) (by decide) (by decide) k) ?_
    show own_Go p e below P s₁ (mkF m 10 #[.val (.int p0), .val (.int p1)] [(.int p0)])
    obtain ⟨fs, hr, hrun, hended, hW, hsame⟩ := X0.leave (v := some (.int p0)) (fun h => by rw [Bd.returns] at h; cases h)
    refine ⟨_, _, retOut X0 hx (t := .int) Bd.returns rfl (Or.inl ⟨rfl, Or.inl rfl, _, rfl⟩) (hb hby d5_10) hr, hrun, hended, hfin _ _ ⟨_, _, rfl, ?_, ⟨_, rfl⟩, hW, hsame.mono (by decide) (by decide)⟩⟩
    show Q5 Z p0 p1 h0 n0 (some (.int p0)) s₁.heap _
    rw [e0]
    exact ⟨(congrArg (fun z => some (Value.int z)) (if_neg hc1).symm), N0, rfl⟩
theorem ef_6 (m : MethodId) (x0 : Int32) (x1 : Int32) : entryFrame m #[(.int x0), (.int x1)] 2 = mkF m 0 #[.val (.int x0), .val (.int x1)] [] := by first | (simp [entryFrame, mkF, argsToLocals, Value.category]; done) | rfl
theorem d6_0 : decode jdk_29_method_65_code 0 = .ok (.iload_n 0, 1) := by decide +kernel
theorem d6_1 : decode jdk_29_method_65_code 1 = .ok (.iload_n 1, 1) := by decide +kernel
theorem d6_2 : decode jdk_29_method_65_code 2 = .ok (.if_icmp .lt 7, 3) := by decide +kernel
theorem d6_9 : decode jdk_29_method_65_code 9 = .ok (.iload_n 1, 1) := by decide +kernel
theorem d6_10 : decode jdk_29_method_65_code 10 = .ok (.ireturn, 1) := by decide +kernel
theorem d6_5 : decode jdk_29_method_65_code 5 = .ok (.iload_n 0, 1) := by decide +kernel
theorem d6_6 : decode jdk_29_method_65_code 6 = .ok (.goto 4, 3) := by decide +kernel
def Q6 (Z : State) (p0 : Int32) (p1 : Int32) (h0 : Heap) (n0 : Nat) (v : Option Value) (h : Heap) (L : List Loc) : Prop := v = some (.int (if p0 < p1 then p1 else p0)) ∧ Fr n0 L ∧ h = h0
set_option maxRecDepth 65536 in
set_option maxHeartbeats 40000000 in
theorem rm6 (l : Launch) (Z : State) (a0 : Array Value) (hw : ∀ d ∈ tables_1, d.before a0 Z = true) (ws : List Jvm.Cond) (p0 : Int32) (p1 : Int32) (h0 : Heap) (n0 : Nat) (Z0 : n0 ≤ h0.size) :
    MetFree l (⟨"java/lang/Math", "max", "(II)I"⟩ : MethodName) (head1 (Jvm.Cond.code (⟨"java/lang/Math", "max", "(II)I"⟩ : MethodName) jdk_29_method_65_code 2 (some .int) :: ws) ({ frames := 0, cells := 0, slots := 0, locals := 0 } : Room)) (fun a U => a = #[(.int p0), (.int p1)] ∧ Z.Warmed39 U.vm ∧ U.heap = h0) (fun _ _ _ _ _ => True) (fun _ U o U' => ∃ v L, o = .returned v ∧ Q6 Z p0 p1 h0 n0 v U'.heap L ∧ FrameEnd U o U' L ({ frames := 0, cells := 0, slots := 0, locals := 0 } : Room).cells ({ frames := 0, cells := 0, slots := 0, locals := 0 } : Room).slots) := by
  refine MetFree.of_bodySF (Jvm.Free.JP.mathPlain rfl (by decide +kernel)) hisR ?_
  intro p e s m args below meth c s₁ Bd hml0 hP hK
  obtain ⟨rfl, hZ, hh⟩ := hP
  have hx := Bd.exec
  have hby := Bd.bytes
  have hml : c.maxLocals = 2 := hml0
  have hown : s.vm.findClass "java/lang/Math" = some m.cls := findClass_of_methodNamed Bd.named
  have hnm := (name_of_methodNamed Bd.named Bd.method).1
  have X0 : Stand p l e ({ frames := 0, cells := 0, slots := 0, locals := 0 } : Room) s m #[(.int p0), (.int p1)] below meth c s₁ [] 0 0 := Stand.of_body Bd
  have e0 : s₁.heap = h0 := by rw [← hh, Bd.state]; rfl
  have N0 := Fr.nil n0
  refine own_all ?_
  intro P hfin
  refine own_cast (ef_6 m p0 p1) ?_
  show own_Go p e below P s₁ (mkF m 0 #[.val (.int p0), .val (.int p1)] [])
  refine own_step (fun _ k => XS.iloadN X0.here hx rfl (hb hby d6_0) rfl k) ?_
  show own_Go p e below P s₁ (mkF m 1 #[.val (.int p0), .val (.int p1)] [(.int p0)])
  refine own_step (fun _ k => XS.iloadN X0.here hx rfl (hb hby d6_1) rfl k) ?_
  show own_Go p e below P s₁ (mkF m 2 #[.val (.int p0), .val (.int p1)] [(.int p1), (.int p0)])
  by_cases hc1 : p0 < p1
  · refine own_step (fun _ k => XS.icmpYes X0.here hx rfl (pc0 := 2) (pc' := 9) rfl (hb hby d6_2) rfl (tlt hc1).1 (by decide) (by decide) k) ?_
    show own_Go p e below P s₁ (mkF m 9 #[.val (.int p0), .val (.int p1)] [])
    refine own_step (fun _ k => XS.iloadN X0.here hx rfl (hb hby d6_9) rfl k) ?_
    show own_Go p e below P s₁ (mkF m 10 #[.val (.int p0), .val (.int p1)] [(.int p1)])
    obtain ⟨fs, hr, hrun, hended, hW, hsame⟩ := X0.leave (v := some (.int p1)) (fun h => by rw [Bd.returns] at h; cases h)
    refine ⟨_, _, retOut X0 hx (t := .int) Bd.returns rfl (Or.inl ⟨rfl, Or.inl rfl, _, rfl⟩) (hb hby d6_10) hr, hrun, hended, hfin _ _ ⟨_, _, rfl, ?_, ⟨_, rfl⟩, hW, hsame.mono (by decide) (by decide)⟩⟩
    show Q6 Z p0 p1 h0 n0 (some (.int p1)) s₁.heap _
    rw [e0]
    exact ⟨(congrArg (fun z => some (Value.int z)) (if_pos hc1).symm), N0, rfl⟩
  · refine own_step (fun _ k => XS.icmpNo X0.here hx rfl (hb hby d6_2) rfl (flt hc1).1 k) ?_
    show own_Go p e below P s₁ (mkF m 5 #[.val (.int p0), .val (.int p1)] [])
    refine own_step (fun _ k => XS.iloadN X0.here hx rfl (hb hby d6_5) rfl k) ?_
    show own_Go p e below P s₁ (mkF m 6 #[.val (.int p0), .val (.int p1)] [(.int p0)])
    refine own_step (fun _ k => XS.goto X0.here hx rfl (pc0 := 6) (pc' := 10) rfl (hb hby d6_6) (by decide) (by decide) k) ?_
    show own_Go p e below P s₁ (mkF m 10 #[.val (.int p0), .val (.int p1)] [(.int p0)])
    obtain ⟨fs, hr, hrun, hended, hW, hsame⟩ := X0.leave (v := some (.int p0)) (fun h => by rw [Bd.returns] at h; cases h)
    refine ⟨_, _, retOut X0 hx (t := .int) Bd.returns rfl (Or.inl ⟨rfl, Or.inl rfl, _, rfl⟩) (hb hby d6_10) hr, hrun, hended, hfin _ _ ⟨_, _, rfl, ?_, ⟨_, rfl⟩, hW, hsame.mono (by decide) (by decide)⟩⟩
    show Q6 Z p0 p1 h0 n0 (some (.int p0)) s₁.heap _
    rw [e0]
    exact ⟨(congrArg (fun z => some (Value.int z)) (if_neg hc1).symm), N0, rfl⟩
theorem ef_0 (m : MethodId) (x0 : Int32) (x1 : Int32) (x2 : Int32) (x3 : Int32) (x4 : Int32) : entryFrame m #[(.int x0), (.int x1), (.int x2), (.int x3), (.int x4)] maxLocals = mkF m 0 #[.val (.int x0), .val (.int x1), .val (.int x2), .val (.int x3), .val (.int x4), .unset, .unset, .unset, .unset, .unset, .unset, .unset, .unset, .unset, .unset, .unset, .unset] [] := by first | (simp [entryFrame, mkF, argsToLocals, Value.category, maxLocals]; done) | rfl
theorem pn_com_example_equiflow_equiflow_model_SummaryPriceOfFairnessPinLaw : plainName "com/example/equiflow/equiflow/model/SummaryPriceOfFairnessPinLaw" = true := by first | (simp [plainName, overriddenIn]; done) | decide +kernel
theorem pd__DDDD__V : parseMethodDescriptor "(DDDD)V" = some ⟨[.double, .double, .double, .double], none⟩ := by decide +kernel
theorem pd__D__D : parseMethodDescriptor "(D)D" = some ⟨[.double], some .double⟩ := by decide +kernel
theorem pd__II__I : parseMethodDescriptor "(II)I" = some ⟨[.int, .int], some .int⟩ := by decide +kernel
def Q0 (Z : State) (p0 : Int32) (p1 : Int32) (p2 : Int32) (p3 : Int32) (p4 : Int32) (h0 : Heap) (n0 : Nat) (v : Option Value) (h : Heap) (L : List Loc) : Prop := v = some (.int 1) ∧ Fr n0 L
set_option maxRecDepth 65536 in
set_option maxHeartbeats 40000000 in
theorem rm0 (l : Launch) (Z : State) (a0 : Array Value) (hw : ∀ d ∈ tables_1, d.before a0 Z = true) (ws : List Jvm.Cond) (p0 : Int32) (p1 : Int32) (p2 : Int32) (p3 : Int32) (p4 : Int32) (h0 : Heap) (n0 : Nat) (Z0 : n0 ≤ h0.size) :
    MetFree l x (head1 (Jvm.Cond.code x code maxLocals ret :: ws) room_1) (fun a U => a = #[(.int p0), (.int p1), (.int p2), (.int p3), (.int p4)] ∧ Z.Warmed39 U.vm ∧ U.heap = h0) (fun _ _ _ _ _ => True) (fun _ U o U' => ∃ v L, o = .returned v ∧ Q0 Z p0 p1 p2 p3 p4 h0 n0 v U'.heap L ∧ FrameEnd U o U' L room_1.cells room_1.slots) := by
  refine MetFree.of_bodySF (plainFor_of_name pn_com_example_equiflow_equiflow_model_SummaryPriceOfFairnessPinLaw) hisR ?_
  intro p e s m args below meth c s₁ Bd hml0 hP hK
  obtain ⟨rfl, hZ, hh⟩ := hP
  have hx := Bd.exec
  have hby := Bd.bytes
  have hml : c.maxLocals = 17 := hml0
  have hown : s.vm.findClass "com/example/equiflow/equiflow/model/SummaryPriceOfFairnessPinLaw" = some m.cls := findClass_of_methodNamed Bd.named
  have hnm := (name_of_methodNamed Bd.named Bd.method).1
  have X0 : Stand p l e room_1 s m #[(.int p0), (.int p1), (.int p2), (.int p3), (.int p4)] below meth c s₁ [] 0 0 := Stand.of_body Bd
  have e0 : s₁.heap = h0 := by rw [← hh, Bd.state]; rfl
  have N0 := Fr.nil n0
  refine own_all ?_
  intro P hfin
  refine own_cast (ef_0 m p0 p1 p2 p3 p4) ?_
  show own_Go p e below P s₁ (mkF m 0 #[.val (.int p0), .val (.int p1), .val (.int p2), .val (.int p3), .val (.int p4), .unset, .unset, .unset, .unset, .unset, .unset, .unset, .unset, .unset, .unset, .unset, .unset] [])
  refine own_step (fun _ k => XS.iloadN X0.here hx rfl (hb hby at_0) rfl k) ?_
  show own_Go p e below P s₁ (mkF m 1 #[.val (.int p0), .val (.int p1), .val (.int p2), .val (.int p3), .val (.int p4), .unset, .unset, .unset, .unset, .unset, .unset, .unset, .unset, .unset, .unset, .unset, .unset] [(.int p0)])
  refine own_step (fun _ k => XS.iconst X0.here hx rfl (hb hby at_1) k) ?_
  show own_Go p e below P s₁ (mkF m 2 #[.val (.int p0), .val (.int p1), .val (.int p2), .val (.int p3), .val (.int p4), .unset, .unset, .unset, .unset, .unset, .unset, .unset, .unset, .unset, .unset, .unset, .unset] [(.int (3 : Int32)), (.int p0)])
  refine own_step (fun _ k => XS.iand X0.here hx rfl (hb hby at_2) rfl k) ?_
  show own_Go p e below P s₁ (mkF m 3 #[.val (.int p0), .val (.int p1), .val (.int p2), .val (.int p3), .val (.int p4), .unset, .unset, .unset, .unset, .unset, .unset, .unset, .unset, .unset, .unset, .unset, .unset] [(.int (p0 &&& (3 : Int32)))])
  refine own_step (fun _ k => XS.istore X0.here hx rfl (hb hby at_3) rfl (l' := #[.val (.int p0), .val (.int p1), .val (.int p2), .val (.int p3), .val (.int p4), .val (.int (p0 &&& (3 : Int32))), .unset, .unset, .unset, .unset, .unset, .unset, .unset, .unset, .unset, .unset, .unset]) rfl k) ?_
  show own_Go p e below P s₁ (mkF m 5 #[.val (.int p0), .val (.int p1), .val (.int p2), .val (.int p3), .val (.int p4), .val (.int (p0 &&& (3 : Int32))), .unset, .unset, .unset, .unset, .unset, .unset, .unset, .unset, .unset, .unset, .unset] [])
  refine own_step (fun _ k => XS.iloadN X0.here hx rfl (hb hby at_5) rfl k) ?_
  show own_Go p e below P s₁ (mkF m 6 #[.val (.int p0), .val (.int p1), .val (.int p2), .val (.int p3), .val (.int p4), .val (.int (p0 &&& (3 : Int32))), .unset, .unset, .unset, .unset, .unset, .unset, .unset, .unset, .unset, .unset, .unset] [(.int p0)])
  refine own_step (fun _ k => XS.iconst X0.here hx rfl (hb hby at_6) k) ?_
  show own_Go p e below P s₁ (mkF m 7 #[.val (.int p0), .val (.int p1), .val (.int p2), .val (.int p3), .val (.int p4), .val (.int (p0 &&& (3 : Int32))), .unset, .unset, .unset, .unset, .unset, .unset, .unset, .unset, .unset, .unset, .unset] [(.int (2 : Int32)), (.int p0)])
  refine own_step (fun _ k => XS.ishr X0.here hx rfl (hb hby at_7) rfl k) ?_
  show own_Go p e below P s₁ (mkF m 8 #[.val (.int p0), .val (.int p1), .val (.int p2), .val (.int p3), .val (.int p4), .val (.int (p0 &&& (3 : Int32))), .unset, .unset, .unset, .unset, .unset, .unset, .unset, .unset, .unset, .unset, .unset] [(.int (p0 >>> ((2 : Int32) &&& 31)))])
  refine own_step (fun _ k => XS.iconst X0.here hx rfl (hb hby at_8) k) ?_
  show own_Go p e below P s₁ (mkF m 9 #[.val (.int p0), .val (.int p1), .val (.int p2), .val (.int p3), .val (.int p4), .val (.int (p0 &&& (3 : Int32))), .unset, .unset, .unset, .unset, .unset, .unset, .unset, .unset, .unset, .unset, .unset] [(.int (1 : Int32)), (.int (p0 >>> ((2 : Int32) &&& 31)))])
  refine own_step (fun _ k => XS.iand X0.here hx rfl (hb hby at_9) rfl k) ?_
  show own_Go p e below P s₁ (mkF m 10 #[.val (.int p0), .val (.int p1), .val (.int p2), .val (.int p3), .val (.int p4), .val (.int (p0 &&& (3 : Int32))), .unset, .unset, .unset, .unset, .unset, .unset, .unset, .unset, .unset, .unset, .unset] [(.int ((p0 >>> ((2 : Int32) &&& 31)) &&& (1 : Int32)))])
  have J20_1 : ∀ (ng : Int32), own_Go p e below P s₁ (mkF m 20 #[.val (.int p0), .val (.int p1), .val (.int p2), .val (.int p3), .val (.int p4), .val (.int (p0 &&& (3 : Int32))), .val (.int ng), .unset, .unset, .unset, .unset, .unset, .unset, .unset, .unset, .unset, .unset] []) := by
    intro ng
    refine own_step (fun _ k => XS.iload X0.here hx rfl (hb hby at_20) rfl k) ?_
    show own_Go p e below P s₁ (mkF m 22 #[.val (.int p0), .val (.int p1), .val (.int p2), .val (.int p3), .val (.int p4), .val (.int (p0 &&& (3 : Int32))), .val (.int ng), .unset, .unset, .unset, .unset, .unset, .unset, .unset, .unset, .unset, .unset] [(.int (p0 &&& (3 : Int32)))])
    by_cases hc2 : (p0 &&& (3 : Int32)) = (0 : Int32)
    · refine own_step (fun _ k => XS.ifNo X0.here hx rfl (hb hby at_22) rfl ((if0 _ _).trans (teq hc2).2) k) ?_
      show own_Go p e below P s₁ (mkF m 25 #[.val (.int p0), .val (.int p1), .val (.int p2), .val (.int p3), .val (.int p4), .val (.int (p0 &&& (3 : Int32))), .val (.int ng), .unset, .unset, .unset, .unset, .unset, .unset, .unset, .unset, .unset, .unset] [])
      refine own_step (fun _ k => XS.iload X0.here hx rfl (hb hby at_25) rfl k) ?_
      show own_Go p e below P s₁ (mkF m 27 #[.val (.int p0), .val (.int p1), .val (.int p2), .val (.int p3), .val (.int p4), .val (.int (p0 &&& (3 : Int32))), .val (.int ng), .unset, .unset, .unset, .unset, .unset, .unset, .unset, .unset, .unset, .unset] [(.int ng)])
      by_cases hc3 : ng = (0 : Int32)
      · refine own_step (fun _ k => XS.ifYes X0.here hx rfl (pc0 := 27) (pc' := 36) rfl (hb hby at_27) rfl ((if0 _ _).trans (teq hc3).1) (by decide) (by decide) k) ?_
        show own_Go p e below P s₁ (mkF m 36 #[.val (.int p0), .val (.int p1), .val (.int p2), .val (.int p3), .val (.int p4), .val (.int (p0 &&& (3 : Int32))), .val (.int ng), .unset, .unset, .unset, .unset, .unset, .unset, .unset, .unset, .unset, .unset] [])
        refine own_step (fun _ k => XS.dconst0 X0.here hx rfl (hb hby at_36) rfl k) ?_
        show own_Go p e below P s₁ (mkF m 37 #[.val (.int p0), .val (.int p1), .val (.int p2), .val (.int p3), .val (.int p4), .val (.int (p0 &&& (3 : Int32))), .val (.int ng), .unset, .unset, .unset, .unset, .unset, .unset, .unset, .unset, .unset, .unset] [(.double FP.dconst0)])
        refine own_step (fun _ k => XS.dstore X0.here hx rfl (hb hby at_37) rfl (l' := #[.val (.int p0), .val (.int p1), .val (.int p2), .val (.int p3), .val (.int p4), .val (.int (p0 &&& (3 : Int32))), .val (.int ng), .val (.double FP.dconst0), .second, .unset, .unset, .unset, .unset, .unset, .unset, .unset, .unset]) rfl k) ?_
        show own_Go p e below P s₁ (mkF m 39 #[.val (.int p0), .val (.int p1), .val (.int p2), .val (.int p3), .val (.int p4), .val (.int (p0 &&& (3 : Int32))), .val (.int ng), .val (.double FP.dconst0), .second, .unset, .unset, .unset, .unset, .unset, .unset, .unset, .unset] [])
        obtain ⟨T4, h4, X4, e4, E4, A4, D4, -, st4⟩ := newO X0 hx hZ hown (hw _ (List.mem_of_getElem? (i := 0) rfl)) (hw _ (List.mem_of_getElem? (i := 1) rfl)) (hw _ (List.mem_of_getElem? (i := 2) rfl)) e0 (g := (mkF m 39 #[.val (.int p0), .val (.int p1), .val (.int p2), .val (.int p3), .val (.int p4), .val (.int (p0 &&& (3 : Int32))), .val (.int ng), .val (.double FP.dconst0), .second, .unset, .unset, .unset, .unset, .unset, .unset, .unset, .unset] [])) rfl (hb hby at_39) (by decide) (by decide)
        obtain ⟨b4, g4⟩ : ∃ z, z = h0.size := ⟨_, rfl⟩
        rw [← g4] at A4 D4 st4
        have g_b4 : n0 ≤ b4 := Nat.le_trans Z0 (Nat.le_of_eq g4.symm)
        have sz_b4 : h0.size ≤ b4 := Nat.le_trans (Keep.refl h0 []).1 (Nat.le_of_eq g4.symm)
        have E_b4 := A4
        have F_total_b4 : Fld Z h4 b4 "com/example/equiflow/equiflow/model/Summary" "total" "D" (.double (0 : UInt64)) := D4 (Or.inr (hw _ (List.mem_of_getElem? (i := 15) rfl))) (ty := .double) (by decide)
        have F_min_b4 : Fld Z h4 b4 "com/example/equiflow/equiflow/model/Summary" "min" "D" (.double (0 : UInt64)) := D4 (Or.inr (hw _ (List.mem_of_getElem? (i := 17) rfl))) (ty := .double) (by decide)
        have F_jain_b4 : Fld Z h4 b4 "com/example/equiflow/equiflow/model/Summary" "jain" "D" (.double (0 : UInt64)) := D4 (Or.inr (hw _ (List.mem_of_getElem? (i := 19) rfl))) (ty := .double) (by decide)
        have F_gini_b4 : Fld Z h4 b4 "com/example/equiflow/equiflow/model/Summary" "gini" "D" (.double (0 : UInt64)) := D4 (Or.inr (hw _ (List.mem_of_getElem? (i := 21) rfl))) (ty := .double) (by decide)
        refine own_step st4 ?_
        show own_Go p e below P T4 (mkF m 42 #[.val (.int p0), .val (.int p1), .val (.int p2), .val (.int p3), .val (.int p4), .val (.int (p0 &&& (3 : Int32))), .val (.int ng), .val (.double FP.dconst0), .second, .unset, .unset, .unset, .unset, .unset, .unset, .unset, .unset] [(.ref b4)])
        refine own_step (fun _ k => XS.dup X4.here hx rfl (hb hby at_42) rfl rfl k) ?_
        show own_Go p e below P T4 (mkF m 43 #[.val (.int p0), .val (.int p1), .val (.int p2), .val (.int p3), .val (.int p4), .val (.int (p0 &&& (3 : Int32))), .val (.int ng), .val (.double FP.dconst0), .second, .unset, .unset, .unset, .unset, .unset, .unset, .unset, .unset] [(.ref b4), (.ref b4)])
        refine own_step (fun _ k => XS.iloadN X4.here hx rfl (hb hby at_43) rfl k) ?_
        show own_Go p e below P T4 (mkF m 44 #[.val (.int p0), .val (.int p1), .val (.int p2), .val (.int p3), .val (.int p4), .val (.int (p0 &&& (3 : Int32))), .val (.int ng), .val (.double FP.dconst0), .second, .unset, .unset, .unset, .unset, .unset, .unset, .unset, .unset] [(.int p1), (.ref b4), (.ref b4)])
        refine own_step (fun _ k => XS.i2dS X4.here hx rfl (hb hby at_44) rfl rfl k) ?_
        show own_Go p e below P T4 (mkF m 45 #[.val (.int p0), .val (.int p1), .val (.int p2), .val (.int p3), .val (.int p4), .val (.int (p0 &&& (3 : Int32))), .val (.int ng), .val (.double FP.dconst0), .second, .unset, .unset, .unset, .unset, .unset, .unset, .unset, .unset] [(.double (FP.i2d p1)), (.ref b4), (.ref b4)])
        refine own_step (fun _ k => XS.iloadN X4.here hx rfl (hb hby at_45) rfl k) ?_
        show own_Go p e below P T4 (mkF m 46 #[.val (.int p0), .val (.int p1), .val (.int p2), .val (.int p3), .val (.int p4), .val (.int (p0 &&& (3 : Int32))), .val (.int ng), .val (.double FP.dconst0), .second, .unset, .unset, .unset, .unset, .unset, .unset, .unset, .unset] [(.int p3), (.double (FP.i2d p1)), (.ref b4), (.ref b4)])
        refine own_step (fun _ k => XS.i2dS X4.here hx rfl (hb hby at_46) rfl rfl k) ?_
        show own_Go p e below P T4 (mkF m 47 #[.val (.int p0), .val (.int p1), .val (.int p2), .val (.int p3), .val (.int p4), .val (.int (p0 &&& (3 : Int32))), .val (.int ng), .val (.double FP.dconst0), .second, .unset, .unset, .unset, .unset, .unset, .unset, .unset, .unset] [(.double (FP.i2d p3)), (.double (FP.i2d p1)), (.ref b4), (.ref b4)])
        refine own_step (fun _ k => XS.dconst1 X4.here hx rfl (hb hby at_47) rfl k) ?_
        show own_Go p e below P T4 (mkF m 48 #[.val (.int p0), .val (.int p1), .val (.int p2), .val (.int p3), .val (.int p4), .val (.int (p0 &&& (3 : Int32))), .val (.int ng), .val (.double FP.dconst0), .second, .unset, .unset, .unset, .unset, .unset, .unset, .unset, .unset] [(.double FP.dconst1), (.double (FP.i2d p3)), (.double (FP.i2d p1)), (.ref b4), (.ref b4)])
        refine own_step (fun _ k => XS.dconst0 X4.here hx rfl (hb hby at_48) rfl k) ?_
        show own_Go p e below P T4 (mkF m 49 #[.val (.int p0), .val (.int p1), .val (.int p2), .val (.int p3), .val (.int p4), .val (.int (p0 &&& (3 : Int32))), .val (.int ng), .val (.double FP.dconst0), .second, .unset, .unset, .unset, .unset, .unset, .unset, .unset, .unset] [(.double FP.dconst0), (.double FP.dconst1), (.double (FP.i2d p3)), (.double (FP.i2d p1)), (.ref b4), (.ref b4)])
        obtain ⟨_, _, ⟨T5, L5, k5, n5⟩, -, X5, ⟨Lc5, hQ5, l5, y5, z5⟩, st5⟩ := X4.specialBack hx (y := (⟨"com/example/equiflow/equiflow/model/Summary", "<init>", "(DDDD)V"⟩ : MethodName)) rfl hown (mvT hZ (hw _ (List.mem_of_getElem? (i := 3) rfl))) (mvT hZ (hw _ (List.mem_of_getElem? (i := 4) rfl))) (mvT hZ (hw _ (List.mem_of_getElem? (i := 5) rfl))) (by decide) (backOf (W := 1) (rm1 l Z a0 hw [] b4 (FP.i2d p1) (FP.i2d p3) FP.dconst1 FP.dconst0 h4 n0 (Nat.le_trans Z0 E4.1) E_b4 F_total_b4 F_min_b4 F_jain_b4 F_gini_b4 g_b4) hZ (hw _ (List.mem_of_getElem? (i := 5) rfl)) (hw _ (List.mem_of_getElem? (i := 2) rfl)) (by decide) (by decide)) (g := (mkF m 49 #[.val (.int p0), .val (.int p1), .val (.int p2), .val (.int p3), .val (.int p4), .val (.int (p0 &&& (3 : Int32))), .val (.int ng), .val (.double FP.dconst0), .second, .unset, .unset, .unset, .unset, .unset, .unset, .unset, .unset] [(.double FP.dconst0), (.double FP.dconst1), (.double (FP.i2d p3)), (.double (FP.i2d p1)), (.ref b4), (.ref b4)])) rfl (by rw [hml]; rfl) (Steps.refl _) (a := b4) (argsL := [(.double (FP.i2d p1)), (.double (FP.i2d p3)), (.double FP.dconst1), (.double FP.dconst0)]) (rest := [(.ref b4)]) (lenOf pd__DDDD__V rfl) rfl (by show 2 * 0 + _ ≤ _; exact Nat.le_of_eq rfl) (hb hby at_49) (fun _ _ => ⟨rfl, e4, (by decide : 1 + 0 ≤ _), (by decide : 4 + 0 ≤ _)⟩)
        dsimp only [Pt.U, Pt.locs, Pt.cells, Pt.slots] at X5 l5 y5 z5 st5 hQ5
        subst l5 y5 z5
        obtain ⟨rfl, N5q, K5, E5_o, Fc5_total, Fc5_min, Fc5_jain, Fc5_gini⟩ := hQ5
        have N5 := Fr.app N0 N5q
        refine own_step (fun _ k => st5.trans k) ?_
        show own_Go p e below P T5 (mkF m 52 #[.val (.int p0), .val (.int p1), .val (.int p2), .val (.int p3), .val (.int p4), .val (.int (p0 &&& (3 : Int32))), .val (.int ng), .val (.double FP.dconst0), .second, .unset, .unset, .unset, .unset, .unset, .unset, .unset, .unset] [(.ref b4)])
        refine own_step (fun _ k => XS.astore X5.here hx rfl (hb hby at_52) rfl rfl (l' := #[.val (.int p0), .val (.int p1), .val (.int p2), .val (.int p3), .val (.int p4), .val (.int (p0 &&& (3 : Int32))), .val (.int ng), .val (.double FP.dconst0), .second, .val (.ref b4), .unset, .unset, .unset, .unset, .unset, .unset, .unset]) rfl k) ?_
        show own_Go p e below P T5 (mkF m 54 #[.val (.int p0), .val (.int p1), .val (.int p2), .val (.int p3), .val (.int p4), .val (.int (p0 &&& (3 : Int32))), .val (.int ng), .val (.double FP.dconst0), .second, .val (.ref b4), .unset, .unset, .unset, .unset, .unset, .unset, .unset] [])
        refine own_step (fun _ k => XS.aload X5.here hx rfl (hb hby at_54) rfl rfl k) ?_
        show own_Go p e below P T5 (mkF m 56 #[.val (.int p0), .val (.int p1), .val (.int p2), .val (.int p3), .val (.int p4), .val (.int (p0 &&& (3 : Int32))), .val (.int ng), .val (.double FP.dconst0), .second, .val (.ref b4), .unset, .unset, .unset, .unset, .unset, .unset, .unset] [(.ref b4)])
        refine own_step (fun _ k => XS.dload X5.here hx rfl (hb hby at_56) rfl k) ?_
        show own_Go p e below P T5 (mkF m 58 #[.val (.int p0), .val (.int p1), .val (.int p2), .val (.int p3), .val (.int p4), .val (.int (p0 &&& (3 : Int32))), .val (.int ng), .val (.double FP.dconst0), .second, .val (.ref b4), .unset, .unset, .unset, .unset, .unset, .unset, .unset] [(.double FP.dconst0), (.ref b4)])
        obtain ⟨cq6, kq6, q6a, q6b, q6c⟩ := isOf hZ rfl E5_o
        obtain ⟨_, _, ⟨T6, L6, k6, n6⟩, -, X6, ⟨Lc6, hQ6, l6, y6, z6⟩, st6⟩ := X5.virtualBack hx (y := (⟨"com/example/equiflow/equiflow/model/Summary", "priceOfFairness", "(D)D"⟩ : MethodName)) (z := (⟨"com/example/equiflow/equiflow/model/Summary", "priceOfFairness", "(D)D"⟩ : MethodName)) hown (mvT hZ (hw _ (List.mem_of_getElem? (i := 22) rfl))) (mvT hZ (hw _ (List.mem_of_getElem? (i := 23) rfl))) (notFace_of_selects (args := #[]) (mvT hZ (hw _ (List.mem_of_getElem? (i := 25) rfl)))) (mvT hZ (hw _ (List.mem_of_getElem? (i := 25) rfl))) (mvT hZ (hw _ (List.mem_of_getElem? (i := 24) rfl))) (by decide) (backOf (W := 0) (rm4 l Z a0 hw [] b4 FP.dconst0 (FP.i2d p1) T5.heap n0 (Nat.le_trans (Nat.le_trans Z0 E4.1) K5.1) Fc5_total (i2d_fin _) (by unfold Fin64; decide)) hZ (hw _ (List.mem_of_getElem? (i := 26) rfl)) (hw _ (List.mem_of_getElem? (i := 2) rfl)) (by decide) (by decide)) q6a q6c (g := (mkF m 58 #[.val (.int p0), .val (.int p1), .val (.int p2), .val (.int p3), .val (.int p4), .val (.int (p0 &&& (3 : Int32))), .val (.int ng), .val (.double FP.dconst0), .second, .val (.ref b4), .unset, .unset, .unset, .unset, .unset, .unset, .unset] [(.double FP.dconst0), (.ref b4)])) rfl (by rw [hml]; rfl) (Steps.refl _) (argsL := [(.double FP.dconst0)]) (rest := []) (lenOf pd__D__D rfl) rfl (by show 2 * 0 + _ ≤ _; exact Nat.le_of_eq rfl) (hb hby at_58) (fun _ _ => ⟨rfl, rfl, (by decide : 1 + 0 ≤ _), (by decide : 4 + 0 ≤ _)⟩)
        dsimp only [Pt.U, Pt.locs, Pt.cells, Pt.slots] at X6 l6 y6 z6 st6 hQ6
        subst l6 y6 z6
        obtain ⟨rfl, N6q, e6⟩ := hQ6
        have N6 := Fr.app N5 N6q
        refine own_step (fun _ k => st6.trans k) ?_
        show own_Go p e below P T6 (mkF m 61 #[.val (.int p0), .val (.int p1), .val (.int p2), .val (.int p3), .val (.int p4), .val (.int (p0 &&& (3 : Int32))), .val (.int ng), .val (.double FP.dconst0), .second, .val (.ref b4), .unset, .unset, .unset, .unset, .unset, .unset, .unset] [(.double (own_pf (FP.i2d p1) FP.dconst0))])
        refine own_step (fun _ k => XS.dstore X6.here hx rfl (hb hby at_61) rfl (l' := #[.val (.int p0), .val (.int p1), .val (.int p2), .val (.int p3), .val (.int p4), .val (.int (p0 &&& (3 : Int32))), .val (.int ng), .val (.double FP.dconst0), .second, .val (.ref b4), .val (.double (own_pf (FP.i2d p1) FP.dconst0)), .second, .unset, .unset, .unset, .unset, .unset]) rfl k) ?_
        show own_Go p e below P T6 (mkF m 63 #[.val (.int p0), .val (.int p1), .val (.int p2), .val (.int p3), .val (.int p4), .val (.int (p0 &&& (3 : Int32))), .val (.int ng), .val (.double FP.dconst0), .second, .val (.ref b4), .val (.double (own_pf (FP.i2d p1) FP.dconst0)), .second, .unset, .unset, .unset, .unset, .unset] [])
        refine own_step (fun _ k => XS.dload X6.here hx rfl (hb hby at_63) rfl k) ?_
        show own_Go p e below P T6 (mkF m 65 #[.val (.int p0), .val (.int p1), .val (.int p2), .val (.int p3), .val (.int p4), .val (.int (p0 &&& (3 : Int32))), .val (.int ng), .val (.double FP.dconst0), .second, .val (.ref b4), .val (.double (own_pf (FP.i2d p1) FP.dconst0)), .second, .unset, .unset, .unset, .unset, .unset] [(.double (own_pf (FP.i2d p1) FP.dconst0))])
        refine own_step (fun _ k => XS.dconst0 X6.here hx rfl (hb hby at_65) rfl k) ?_
        show own_Go p e below P T6 (mkF m 66 #[.val (.int p0), .val (.int p1), .val (.int p2), .val (.int p3), .val (.int p4), .val (.int (p0 &&& (3 : Int32))), .val (.int ng), .val (.double FP.dconst0), .second, .val (.ref b4), .val (.double (own_pf (FP.i2d p1) FP.dconst0)), .second, .unset, .unset, .unset, .unset, .unset] [(.double FP.dconst0), (.double (own_pf (FP.i2d p1) FP.dconst0))])
        refine own_step (fun _ k => XS.dcmpS X6.here hx rfl (hb hby at_66) rfl (own_c1 _) k) ?_
        show own_Go p e below P T6 (mkF m 67 #[.val (.int p0), .val (.int p1), .val (.int p2), .val (.int p3), .val (.int p4), .val (.int (p0 &&& (3 : Int32))), .val (.int ng), .val (.double FP.dconst0), .second, .val (.ref b4), .val (.double (own_pf (FP.i2d p1) FP.dconst0)), .second, .unset, .unset, .unset, .unset, .unset] [(.int (0 : Int32))])
        refine own_step (fun _ k => XS.ifNo X6.here hx rfl (hb hby at_67) rfl ((if0 _ _).trans (teq (rfl : (0 : Int32) = (0 : Int32))).2) k) ?_
        show own_Go p e below P T6 (mkF m 70 #[.val (.int p0), .val (.int p1), .val (.int p2), .val (.int p3), .val (.int p4), .val (.int (p0 &&& (3 : Int32))), .val (.int ng), .val (.double FP.dconst0), .second, .val (.ref b4), .val (.double (own_pf (FP.i2d p1) FP.dconst0)), .second, .unset, .unset, .unset, .unset, .unset] [])
        refine own_step (fun _ k => XS.iconst X6.here hx rfl (hb hby at_70) k) ?_
        show own_Go p e below P T6 (mkF m 71 #[.val (.int p0), .val (.int p1), .val (.int p2), .val (.int p3), .val (.int p4), .val (.int (p0 &&& (3 : Int32))), .val (.int ng), .val (.double FP.dconst0), .second, .val (.ref b4), .val (.double (own_pf (FP.i2d p1) FP.dconst0)), .second, .unset, .unset, .unset, .unset, .unset] [(.int (1 : Int32))])
        refine own_step (fun _ k => XS.goto X6.here hx rfl (pc0 := 71) (pc' := 75) rfl (hb hby at_71) (by decide) (by decide) k) ?_
        show own_Go p e below P T6 (mkF m 75 #[.val (.int p0), .val (.int p1), .val (.int p2), .val (.int p3), .val (.int p4), .val (.int (p0 &&& (3 : Int32))), .val (.int ng), .val (.double FP.dconst0), .second, .val (.ref b4), .val (.double (own_pf (FP.i2d p1) FP.dconst0)), .second, .unset, .unset, .unset, .unset, .unset] [(.int (1 : Int32))])
        obtain ⟨fs, hr, hrun, hended, hW, hsame⟩ := X6.leave (v := some (.int (1 : Int32))) (fun h => by rw [Bd.returns] at h; cases h)
        refine ⟨_, _, retN X6 hx (t := .boolean) Bd.returns (by simp) (hb hby at_75) hr, hrun, hended, hfin _ _ ⟨_, _, rfl, ?_, ⟨_, rfl⟩, hW, hsame.mono (by decide) (by decide)⟩⟩
        show Q0 Z p0 p1 p2 p3 p4 h0 n0 (some (.int (1 : Int32))) T6.heap _
        rw [e6]
        exact ⟨rfl, N6⟩
      · refine own_step (fun _ k => XS.ifNo X0.here hx rfl (hb hby at_27) rfl ((if0 _ _).trans (feq hc3).1) k) ?_
        show own_Go p e below P s₁ (mkF m 30 #[.val (.int p0), .val (.int p1), .val (.int p2), .val (.int p3), .val (.int p4), .val (.int (p0 &&& (3 : Int32))), .val (.int ng), .unset, .unset, .unset, .unset, .unset, .unset, .unset, .unset, .unset, .unset] [])
        refine own_step (fun t k => X0.ldc2DoubleC hx hown (mvT hZ (hw _ (List.mem_of_getElem? (i := 34) rfl))) (g := (mkF m 30 #[.val (.int p0), .val (.int p1), .val (.int p2), .val (.int p3), .val (.int p4), .val (.int (p0 &&& (3 : Int32))), .val (.int ng), .unset, .unset, .unset, .unset, .unset, .unset, .unset, .unset, .unset, .unset] [])) rfl (hb hby at_30) t k) ?_
        show own_Go p e below P s₁ (mkF m 33 #[.val (.int p0), .val (.int p1), .val (.int p2), .val (.int p3), .val (.int p4), .val (.int (p0 &&& (3 : Int32))), .val (.int ng), .unset, .unset, .unset, .unset, .unset, .unset, .unset, .unset, .unset, .unset] [(.double (9223372036854775808 : UInt64))])
        refine own_step (fun _ k => XS.goto X0.here hx rfl (pc0 := 33) (pc' := 37) rfl (hb hby at_33) (by decide) (by decide) k) ?_
        show own_Go p e below P s₁ (mkF m 37 #[.val (.int p0), .val (.int p1), .val (.int p2), .val (.int p3), .val (.int p4), .val (.int (p0 &&& (3 : Int32))), .val (.int ng), .unset, .unset, .unset, .unset, .unset, .unset, .unset, .unset, .unset, .unset] [(.double (9223372036854775808 : UInt64))])
        refine own_step (fun _ k => XS.dstore X0.here hx rfl (hb hby at_37) rfl (l' := #[.val (.int p0), .val (.int p1), .val (.int p2), .val (.int p3), .val (.int p4), .val (.int (p0 &&& (3 : Int32))), .val (.int ng), .val (.double (9223372036854775808 : UInt64)), .second, .unset, .unset, .unset, .unset, .unset, .unset, .unset, .unset]) rfl k) ?_
        show own_Go p e below P s₁ (mkF m 39 #[.val (.int p0), .val (.int p1), .val (.int p2), .val (.int p3), .val (.int p4), .val (.int (p0 &&& (3 : Int32))), .val (.int ng), .val (.double (9223372036854775808 : UInt64)), .second, .unset, .unset, .unset, .unset, .unset, .unset, .unset, .unset] [])
        obtain ⟨T8, h8, X8, e8, E8, A8, D8, -, st8⟩ := newO X0 hx hZ hown (hw _ (List.mem_of_getElem? (i := 0) rfl)) (hw _ (List.mem_of_getElem? (i := 1) rfl)) (hw _ (List.mem_of_getElem? (i := 2) rfl)) e0 (g := (mkF m 39 #[.val (.int p0), .val (.int p1), .val (.int p2), .val (.int p3), .val (.int p4), .val (.int (p0 &&& (3 : Int32))), .val (.int ng), .val (.double (9223372036854775808 : UInt64)), .second, .unset, .unset, .unset, .unset, .unset, .unset, .unset, .unset] [])) rfl (hb hby at_39) (by decide) (by decide)
        obtain ⟨b8, g8⟩ : ∃ z, z = h0.size := ⟨_, rfl⟩
        rw [← g8] at A8 D8 st8
        have g_b8 : n0 ≤ b8 := Nat.le_trans Z0 (Nat.le_of_eq g8.symm)
        have sz_b8 : h0.size ≤ b8 := Nat.le_trans (Keep.refl h0 []).1 (Nat.le_of_eq g8.symm)
        have E_b8 := A8
        have F_total_b8 : Fld Z h8 b8 "com/example/equiflow/equiflow/model/Summary" "total" "D" (.double (0 : UInt64)) := D8 (Or.inr (hw _ (List.mem_of_getElem? (i := 15) rfl))) (ty := .double) (by decide)
        have F_min_b8 : Fld Z h8 b8 "com/example/equiflow/equiflow/model/Summary" "min" "D" (.double (0 : UInt64)) := D8 (Or.inr (hw _ (List.mem_of_getElem? (i := 17) rfl))) (ty := .double) (by decide)
        have F_jain_b8 : Fld Z h8 b8 "com/example/equiflow/equiflow/model/Summary" "jain" "D" (.double (0 : UInt64)) := D8 (Or.inr (hw _ (List.mem_of_getElem? (i := 19) rfl))) (ty := .double) (by decide)
        have F_gini_b8 : Fld Z h8 b8 "com/example/equiflow/equiflow/model/Summary" "gini" "D" (.double (0 : UInt64)) := D8 (Or.inr (hw _ (List.mem_of_getElem? (i := 21) rfl))) (ty := .double) (by decide)
        refine own_step st8 ?_
        show own_Go p e below P T8 (mkF m 42 #[.val (.int p0), .val (.int p1), .val (.int p2), .val (.int p3), .val (.int p4), .val (.int (p0 &&& (3 : Int32))), .val (.int ng), .val (.double (9223372036854775808 : UInt64)), .second, .unset, .unset, .unset, .unset, .unset, .unset, .unset, .unset] [(.ref b8)])
        refine own_step (fun _ k => XS.dup X8.here hx rfl (hb hby at_42) rfl rfl k) ?_
        show own_Go p e below P T8 (mkF m 43 #[.val (.int p0), .val (.int p1), .val (.int p2), .val (.int p3), .val (.int p4), .val (.int (p0 &&& (3 : Int32))), .val (.int ng), .val (.double (9223372036854775808 : UInt64)), .second, .unset, .unset, .unset, .unset, .unset, .unset, .unset, .unset] [(.ref b8), (.ref b8)])
        refine own_step (fun _ k => XS.iloadN X8.here hx rfl (hb hby at_43) rfl k) ?_
        show own_Go p e below P T8 (mkF m 44 #[.val (.int p0), .val (.int p1), .val (.int p2), .val (.int p3), .val (.int p4), .val (.int (p0 &&& (3 : Int32))), .val (.int ng), .val (.double (9223372036854775808 : UInt64)), .second, .unset, .unset, .unset, .unset, .unset, .unset, .unset, .unset] [(.int p1), (.ref b8), (.ref b8)])
        refine own_step (fun _ k => XS.i2dS X8.here hx rfl (hb hby at_44) rfl rfl k) ?_
        show own_Go p e below P T8 (mkF m 45 #[.val (.int p0), .val (.int p1), .val (.int p2), .val (.int p3), .val (.int p4), .val (.int (p0 &&& (3 : Int32))), .val (.int ng), .val (.double (9223372036854775808 : UInt64)), .second, .unset, .unset, .unset, .unset, .unset, .unset, .unset, .unset] [(.double (FP.i2d p1)), (.ref b8), (.ref b8)])
        refine own_step (fun _ k => XS.iloadN X8.here hx rfl (hb hby at_45) rfl k) ?_
        show own_Go p e below P T8 (mkF m 46 #[.val (.int p0), .val (.int p1), .val (.int p2), .val (.int p3), .val (.int p4), .val (.int (p0 &&& (3 : Int32))), .val (.int ng), .val (.double (9223372036854775808 : UInt64)), .second, .unset, .unset, .unset, .unset, .unset, .unset, .unset, .unset] [(.int p3), (.double (FP.i2d p1)), (.ref b8), (.ref b8)])
        refine own_step (fun _ k => XS.i2dS X8.here hx rfl (hb hby at_46) rfl rfl k) ?_
        show own_Go p e below P T8 (mkF m 47 #[.val (.int p0), .val (.int p1), .val (.int p2), .val (.int p3), .val (.int p4), .val (.int (p0 &&& (3 : Int32))), .val (.int ng), .val (.double (9223372036854775808 : UInt64)), .second, .unset, .unset, .unset, .unset, .unset, .unset, .unset, .unset] [(.double (FP.i2d p3)), (.double (FP.i2d p1)), (.ref b8), (.ref b8)])
        refine own_step (fun _ k => XS.dconst1 X8.here hx rfl (hb hby at_47) rfl k) ?_
        show own_Go p e below P T8 (mkF m 48 #[.val (.int p0), .val (.int p1), .val (.int p2), .val (.int p3), .val (.int p4), .val (.int (p0 &&& (3 : Int32))), .val (.int ng), .val (.double (9223372036854775808 : UInt64)), .second, .unset, .unset, .unset, .unset, .unset, .unset, .unset, .unset] [(.double FP.dconst1), (.double (FP.i2d p3)), (.double (FP.i2d p1)), (.ref b8), (.ref b8)])
        refine own_step (fun _ k => XS.dconst0 X8.here hx rfl (hb hby at_48) rfl k) ?_
        show own_Go p e below P T8 (mkF m 49 #[.val (.int p0), .val (.int p1), .val (.int p2), .val (.int p3), .val (.int p4), .val (.int (p0 &&& (3 : Int32))), .val (.int ng), .val (.double (9223372036854775808 : UInt64)), .second, .unset, .unset, .unset, .unset, .unset, .unset, .unset, .unset] [(.double FP.dconst0), (.double FP.dconst1), (.double (FP.i2d p3)), (.double (FP.i2d p1)), (.ref b8), (.ref b8)])
        obtain ⟨_, _, ⟨T9, L9, k9, n9⟩, -, X9, ⟨Lc9, hQ9, l9, y9, z9⟩, st9⟩ := X8.specialBack hx (y := (⟨"com/example/equiflow/equiflow/model/Summary", "<init>", "(DDDD)V"⟩ : MethodName)) rfl hown (mvT hZ (hw _ (List.mem_of_getElem? (i := 3) rfl))) (mvT hZ (hw _ (List.mem_of_getElem? (i := 4) rfl))) (mvT hZ (hw _ (List.mem_of_getElem? (i := 5) rfl))) (by decide) (backOf (W := 1) (rm1 l Z a0 hw [] b8 (FP.i2d p1) (FP.i2d p3) FP.dconst1 FP.dconst0 h8 n0 (Nat.le_trans Z0 E8.1) E_b8 F_total_b8 F_min_b8 F_jain_b8 F_gini_b8 g_b8) hZ (hw _ (List.mem_of_getElem? (i := 5) rfl)) (hw _ (List.mem_of_getElem? (i := 2) rfl)) (by decide) (by decide)) (g := (mkF m 49 #[.val (.int p0), .val (.int p1), .val (.int p2), .val (.int p3), .val (.int p4), .val (.int (p0 &&& (3 : Int32))), .val (.int ng), .val (.double (9223372036854775808 : UInt64)), .second, .unset, .unset, .unset, .unset, .unset, .unset, .unset, .unset] [(.double FP.dconst0), (.double FP.dconst1), (.double (FP.i2d p3)), (.double (FP.i2d p1)), (.ref b8), (.ref b8)])) rfl (by rw [hml]; rfl) (Steps.refl _) (a := b8) (argsL := [(.double (FP.i2d p1)), (.double (FP.i2d p3)), (.double FP.dconst1), (.double FP.dconst0)]) (rest := [(.ref b8)]) (lenOf pd__DDDD__V rfl) rfl (by show 2 * 0 + _ ≤ _; exact Nat.le_of_eq rfl) (hb hby at_49) (fun _ _ => ⟨rfl, e8, (by decide : 1 + 0 ≤ _), (by decide : 4 + 0 ≤ _)⟩)
        dsimp only [Pt.U, Pt.locs, Pt.cells, Pt.slots] at X9 l9 y9 z9 st9 hQ9
        subst l9 y9 z9
        obtain ⟨rfl, N9q, K9, E9_o, Fc9_total, Fc9_min, Fc9_jain, Fc9_gini⟩ := hQ9
        have N9 := Fr.app N0 N9q
        refine own_step (fun _ k => st9.trans k) ?_
        show own_Go p e below P T9 (mkF m 52 #[.val (.int p0), .val (.int p1), .val (.int p2), .val (.int p3), .val (.int p4), .val (.int (p0 &&& (3 : Int32))), .val (.int ng), .val (.double (9223372036854775808 : UInt64)), .second, .unset, .unset, .unset, .unset, .unset, .unset, .unset, .unset] [(.ref b8)])
        refine own_step (fun _ k => XS.astore X9.here hx rfl (hb hby at_52) rfl rfl (l' := #[.val (.int p0), .val (.int p1), .val (.int p2), .val (.int p3), .val (.int p4), .val (.int (p0 &&& (3 : Int32))), .val (.int ng), .val (.double (9223372036854775808 : UInt64)), .second, .val (.ref b8), .unset, .unset, .unset, .unset, .unset, .unset, .unset]) rfl k) ?_
        show own_Go p e below P T9 (mkF m 54 #[.val (.int p0), .val (.int p1), .val (.int p2), .val (.int p3), .val (.int p4), .val (.int (p0 &&& (3 : Int32))), .val (.int ng), .val (.double (9223372036854775808 : UInt64)), .second, .val (.ref b8), .unset, .unset, .unset, .unset, .unset, .unset, .unset] [])
        refine own_step (fun _ k => XS.aload X9.here hx rfl (hb hby at_54) rfl rfl k) ?_
        show own_Go p e below P T9 (mkF m 56 #[.val (.int p0), .val (.int p1), .val (.int p2), .val (.int p3), .val (.int p4), .val (.int (p0 &&& (3 : Int32))), .val (.int ng), .val (.double (9223372036854775808 : UInt64)), .second, .val (.ref b8), .unset, .unset, .unset, .unset, .unset, .unset, .unset] [(.ref b8)])
        refine own_step (fun _ k => XS.dload X9.here hx rfl (hb hby at_56) rfl k) ?_
        show own_Go p e below P T9 (mkF m 58 #[.val (.int p0), .val (.int p1), .val (.int p2), .val (.int p3), .val (.int p4), .val (.int (p0 &&& (3 : Int32))), .val (.int ng), .val (.double (9223372036854775808 : UInt64)), .second, .val (.ref b8), .unset, .unset, .unset, .unset, .unset, .unset, .unset] [(.double (9223372036854775808 : UInt64)), (.ref b8)])
        obtain ⟨cq10, kq10, q10a, q10b, q10c⟩ := isOf hZ rfl E9_o
        obtain ⟨_, _, ⟨T10, L10, k10, n10⟩, -, X10, ⟨Lc10, hQ10, l10, y10, z10⟩, st10⟩ := X9.virtualBack hx (y := (⟨"com/example/equiflow/equiflow/model/Summary", "priceOfFairness", "(D)D"⟩ : MethodName)) (z := (⟨"com/example/equiflow/equiflow/model/Summary", "priceOfFairness", "(D)D"⟩ : MethodName)) hown (mvT hZ (hw _ (List.mem_of_getElem? (i := 22) rfl))) (mvT hZ (hw _ (List.mem_of_getElem? (i := 23) rfl))) (notFace_of_selects (args := #[]) (mvT hZ (hw _ (List.mem_of_getElem? (i := 25) rfl)))) (mvT hZ (hw _ (List.mem_of_getElem? (i := 25) rfl))) (mvT hZ (hw _ (List.mem_of_getElem? (i := 24) rfl))) (by decide) (backOf (W := 0) (rm4 l Z a0 hw [] b8 (9223372036854775808 : UInt64) (FP.i2d p1) T9.heap n0 (Nat.le_trans (Nat.le_trans Z0 E8.1) K9.1) Fc9_total (i2d_fin _) (by unfold Fin64; decide)) hZ (hw _ (List.mem_of_getElem? (i := 26) rfl)) (hw _ (List.mem_of_getElem? (i := 2) rfl)) (by decide) (by decide)) q10a q10c (g := (mkF m 58 #[.val (.int p0), .val (.int p1), .val (.int p2), .val (.int p3), .val (.int p4), .val (.int (p0 &&& (3 : Int32))), .val (.int ng), .val (.double (9223372036854775808 : UInt64)), .second, .val (.ref b8), .unset, .unset, .unset, .unset, .unset, .unset, .unset] [(.double (9223372036854775808 : UInt64)), (.ref b8)])) rfl (by rw [hml]; rfl) (Steps.refl _) (argsL := [(.double (9223372036854775808 : UInt64))]) (rest := []) (lenOf pd__D__D rfl) rfl (by show 2 * 0 + _ ≤ _; exact Nat.le_of_eq rfl) (hb hby at_58) (fun _ _ => ⟨rfl, rfl, (by decide : 1 + 0 ≤ _), (by decide : 4 + 0 ≤ _)⟩)
        dsimp only [Pt.U, Pt.locs, Pt.cells, Pt.slots] at X10 l10 y10 z10 st10 hQ10
        subst l10 y10 z10
        obtain ⟨rfl, N10q, e10⟩ := hQ10
        have N10 := Fr.app N9 N10q
        refine own_step (fun _ k => st10.trans k) ?_
        show own_Go p e below P T10 (mkF m 61 #[.val (.int p0), .val (.int p1), .val (.int p2), .val (.int p3), .val (.int p4), .val (.int (p0 &&& (3 : Int32))), .val (.int ng), .val (.double (9223372036854775808 : UInt64)), .second, .val (.ref b8), .unset, .unset, .unset, .unset, .unset, .unset, .unset] [(.double (own_pf (FP.i2d p1) (9223372036854775808 : UInt64)))])
        refine own_step (fun _ k => XS.dstore X10.here hx rfl (hb hby at_61) rfl (l' := #[.val (.int p0), .val (.int p1), .val (.int p2), .val (.int p3), .val (.int p4), .val (.int (p0 &&& (3 : Int32))), .val (.int ng), .val (.double (9223372036854775808 : UInt64)), .second, .val (.ref b8), .val (.double (own_pf (FP.i2d p1) (9223372036854775808 : UInt64))), .second, .unset, .unset, .unset, .unset, .unset]) rfl k) ?_
        show own_Go p e below P T10 (mkF m 63 #[.val (.int p0), .val (.int p1), .val (.int p2), .val (.int p3), .val (.int p4), .val (.int (p0 &&& (3 : Int32))), .val (.int ng), .val (.double (9223372036854775808 : UInt64)), .second, .val (.ref b8), .val (.double (own_pf (FP.i2d p1) (9223372036854775808 : UInt64))), .second, .unset, .unset, .unset, .unset, .unset] [])
        refine own_step (fun _ k => XS.dload X10.here hx rfl (hb hby at_63) rfl k) ?_
        show own_Go p e below P T10 (mkF m 65 #[.val (.int p0), .val (.int p1), .val (.int p2), .val (.int p3), .val (.int p4), .val (.int (p0 &&& (3 : Int32))), .val (.int ng), .val (.double (9223372036854775808 : UInt64)), .second, .val (.ref b8), .val (.double (own_pf (FP.i2d p1) (9223372036854775808 : UInt64))), .second, .unset, .unset, .unset, .unset, .unset] [(.double (own_pf (FP.i2d p1) (9223372036854775808 : UInt64)))])
        refine own_step (fun _ k => XS.dconst0 X10.here hx rfl (hb hby at_65) rfl k) ?_
        show own_Go p e below P T10 (mkF m 66 #[.val (.int p0), .val (.int p1), .val (.int p2), .val (.int p3), .val (.int p4), .val (.int (p0 &&& (3 : Int32))), .val (.int ng), .val (.double (9223372036854775808 : UInt64)), .second, .val (.ref b8), .val (.double (own_pf (FP.i2d p1) (9223372036854775808 : UInt64))), .second, .unset, .unset, .unset, .unset, .unset] [(.double FP.dconst0), (.double (own_pf (FP.i2d p1) (9223372036854775808 : UInt64)))])
        refine own_step (fun _ k => XS.dcmpS X10.here hx rfl (hb hby at_66) rfl (own_c2 _) k) ?_
        show own_Go p e below P T10 (mkF m 67 #[.val (.int p0), .val (.int p1), .val (.int p2), .val (.int p3), .val (.int p4), .val (.int (p0 &&& (3 : Int32))), .val (.int ng), .val (.double (9223372036854775808 : UInt64)), .second, .val (.ref b8), .val (.double (own_pf (FP.i2d p1) (9223372036854775808 : UInt64))), .second, .unset, .unset, .unset, .unset, .unset] [(.int (0 : Int32))])
        refine own_step (fun _ k => XS.ifNo X10.here hx rfl (hb hby at_67) rfl ((if0 _ _).trans (teq (rfl : (0 : Int32) = (0 : Int32))).2) k) ?_
        show own_Go p e below P T10 (mkF m 70 #[.val (.int p0), .val (.int p1), .val (.int p2), .val (.int p3), .val (.int p4), .val (.int (p0 &&& (3 : Int32))), .val (.int ng), .val (.double (9223372036854775808 : UInt64)), .second, .val (.ref b8), .val (.double (own_pf (FP.i2d p1) (9223372036854775808 : UInt64))), .second, .unset, .unset, .unset, .unset, .unset] [])
        refine own_step (fun _ k => XS.iconst X10.here hx rfl (hb hby at_70) k) ?_
        show own_Go p e below P T10 (mkF m 71 #[.val (.int p0), .val (.int p1), .val (.int p2), .val (.int p3), .val (.int p4), .val (.int (p0 &&& (3 : Int32))), .val (.int ng), .val (.double (9223372036854775808 : UInt64)), .second, .val (.ref b8), .val (.double (own_pf (FP.i2d p1) (9223372036854775808 : UInt64))), .second, .unset, .unset, .unset, .unset, .unset] [(.int (1 : Int32))])
        refine own_step (fun _ k => XS.goto X10.here hx rfl (pc0 := 71) (pc' := 75) rfl (hb hby at_71) (by decide) (by decide) k) ?_
        show own_Go p e below P T10 (mkF m 75 #[.val (.int p0), .val (.int p1), .val (.int p2), .val (.int p3), .val (.int p4), .val (.int (p0 &&& (3 : Int32))), .val (.int ng), .val (.double (9223372036854775808 : UInt64)), .second, .val (.ref b8), .val (.double (own_pf (FP.i2d p1) (9223372036854775808 : UInt64))), .second, .unset, .unset, .unset, .unset, .unset] [(.int (1 : Int32))])
        obtain ⟨fs, hr, hrun, hended, hW, hsame⟩ := X10.leave (v := some (.int (1 : Int32))) (fun h => by rw [Bd.returns] at h; cases h)
        refine ⟨_, _, retN X10 hx (t := .boolean) Bd.returns (by simp) (hb hby at_75) hr, hrun, hended, hfin _ _ ⟨_, _, rfl, ?_, ⟨_, rfl⟩, hW, hsame.mono (by decide) (by decide)⟩⟩
        show Q0 Z p0 p1 p2 p3 p4 h0 n0 (some (.int (1 : Int32))) T10.heap _
        rw [e10]
        exact ⟨rfl, N10⟩
    · refine own_step (fun _ k => XS.ifYes X0.here hx rfl (pc0 := 22) (pc' := 76) rfl (hb hby at_22) rfl ((if0 _ _).trans (feq hc2).2) (by decide) (by decide) k) ?_
      show own_Go p e below P s₁ (mkF m 76 #[.val (.int p0), .val (.int p1), .val (.int p2), .val (.int p3), .val (.int p4), .val (.int (p0 &&& (3 : Int32))), .val (.int ng), .unset, .unset, .unset, .unset, .unset, .unset, .unset, .unset, .unset, .unset] [])
      refine own_step (fun _ k => XS.iload X0.here hx rfl (hb hby at_76) rfl k) ?_
      show own_Go p e below P s₁ (mkF m 78 #[.val (.int p0), .val (.int p1), .val (.int p2), .val (.int p3), .val (.int p4), .val (.int (p0 &&& (3 : Int32))), .val (.int ng), .unset, .unset, .unset, .unset, .unset, .unset, .unset, .unset, .unset, .unset] [(.int (p0 &&& (3 : Int32)))])
      refine own_step (fun _ k => XS.iconst X0.here hx rfl (hb hby at_78) k) ?_
      show own_Go p e below P s₁ (mkF m 79 #[.val (.int p0), .val (.int p1), .val (.int p2), .val (.int p3), .val (.int p4), .val (.int (p0 &&& (3 : Int32))), .val (.int ng), .unset, .unset, .unset, .unset, .unset, .unset, .unset, .unset, .unset, .unset] [(.int (1 : Int32)), (.int (p0 &&& (3 : Int32)))])
      by_cases hc12 : (p0 &&& (3 : Int32)) = (1 : Int32)
      · refine own_step (fun _ k => XS.icmpNo X0.here hx rfl (hb hby at_79) rfl (teq hc12).2 k) ?_
        show own_Go p e below P s₁ (mkF m 82 #[.val (.int p0), .val (.int p1), .val (.int p2), .val (.int p3), .val (.int p4), .val (.int (p0 &&& (3 : Int32))), .val (.int ng), .unset, .unset, .unset, .unset, .unset, .unset, .unset, .unset, .unset, .unset] [])
        have J92_13 : ∀ (tt : Int64), (own_T tt) → own_Go p e below P s₁ (mkF m 92 #[.val (.int p0), .val (.int p1), .val (.int p2), .val (.int p3), .val (.int p4), .val (.int (p0 &&& (3 : Int32))), .val (.int ng), .unset, .unset, .unset, .unset, .unset, .unset, .unset, .unset, .unset, .unset] [(.long tt)]) := by
          intro tt hjJ92_13_0
          refine own_step (fun _ k => XS.lstore X0.here hx rfl (hb hby at_92) rfl (l' := #[.val (.int p0), .val (.int p1), .val (.int p2), .val (.int p3), .val (.int p4), .val (.int (p0 &&& (3 : Int32))), .val (.int ng), .val (.long tt), .second, .unset, .unset, .unset, .unset, .unset, .unset, .unset, .unset]) rfl k) ?_
          show own_Go p e below P s₁ (mkF m 94 #[.val (.int p0), .val (.int p1), .val (.int p2), .val (.int p3), .val (.int p4), .val (.int (p0 &&& (3 : Int32))), .val (.int ng), .val (.long tt), .second, .unset, .unset, .unset, .unset, .unset, .unset, .unset, .unset] [])
          refine own_step (fun _ k => XS.iloadN X0.here hx rfl (hb hby at_94) rfl k) ?_
          show own_Go p e below P s₁ (mkF m 95 #[.val (.int p0), .val (.int p1), .val (.int p2), .val (.int p3), .val (.int p4), .val (.int (p0 &&& (3 : Int32))), .val (.int ng), .val (.long tt), .second, .unset, .unset, .unset, .unset, .unset, .unset, .unset, .unset] [(.int p3)])
          refine own_step (fun _ k => XS.bipush X0.here hx rfl (hb hby at_95) k) ?_
          show own_Go p e below P s₁ (mkF m 97 #[.val (.int p0), .val (.int p1), .val (.int p2), .val (.int p3), .val (.int p4), .val (.int (p0 &&& (3 : Int32))), .val (.int ng), .val (.long tt), .second, .unset, .unset, .unset, .unset, .unset, .unset, .unset, .unset] [(.int (9 : Int32)), (.int p3)])
          refine own_step (fun _ k => iremM X0 hx rfl (hb hby at_97) rfl (by decide : ¬ ((9 : Int32) = (0 : Int32))) k) ?_
          show own_Go p e below P s₁ (mkF m 98 #[.val (.int p0), .val (.int p1), .val (.int p2), .val (.int p3), .val (.int p4), .val (.int (p0 &&& (3 : Int32))), .val (.int ng), .val (.long tt), .second, .unset, .unset, .unset, .unset, .unset, .unset, .unset, .unset] [(.int (p3 % (9 : Int32)))])
          refine own_step (fun _ k => XS.istore X0.here hx rfl (hb hby at_98) rfl (l' := #[.val (.int p0), .val (.int p1), .val (.int p2), .val (.int p3), .val (.int p4), .val (.int (p0 &&& (3 : Int32))), .val (.int ng), .val (.long tt), .second, .val (.int (p3 % (9 : Int32))), .unset, .unset, .unset, .unset, .unset, .unset, .unset]) rfl k) ?_
          show own_Go p e below P s₁ (mkF m 100 #[.val (.int p0), .val (.int p1), .val (.int p2), .val (.int p3), .val (.int p4), .val (.int (p0 &&& (3 : Int32))), .val (.int ng), .val (.long tt), .second, .val (.int (p3 % (9 : Int32))), .unset, .unset, .unset, .unset, .unset, .unset, .unset] [])
          refine own_step (fun _ k => XS.iload X0.here hx rfl (hb hby at_100) rfl k) ?_
          show own_Go p e below P s₁ (mkF m 102 #[.val (.int p0), .val (.int p1), .val (.int p2), .val (.int p3), .val (.int p4), .val (.int (p0 &&& (3 : Int32))), .val (.int ng), .val (.long tt), .second, .val (.int (p3 % (9 : Int32))), .unset, .unset, .unset, .unset, .unset, .unset, .unset] [(.int (p3 % (9 : Int32)))])
          refine own_step (fun _ k => XS.i2l X0.here hx rfl (hb hby at_102) rfl k) ?_
          show own_Go p e below P s₁ (mkF m 103 #[.val (.int p0), .val (.int p1), .val (.int p2), .val (.int p3), .val (.int p4), .val (.int (p0 &&& (3 : Int32))), .val (.int ng), .val (.long tt), .second, .val (.int (p3 % (9 : Int32))), .unset, .unset, .unset, .unset, .unset, .unset, .unset] [(.long (p3 % (9 : Int32)).toInt64)])
          refine own_step (fun _ k => XS.lload X0.here hx rfl (hb hby at_103) rfl k) ?_
          show own_Go p e below P s₁ (mkF m 105 #[.val (.int p0), .val (.int p1), .val (.int p2), .val (.int p3), .val (.int p4), .val (.int (p0 &&& (3 : Int32))), .val (.int ng), .val (.long tt), .second, .val (.int (p3 % (9 : Int32))), .unset, .unset, .unset, .unset, .unset, .unset, .unset] [(.long tt), (.long (p3 % (9 : Int32)).toInt64)])
          refine own_step (fun _ k => XS.lmul X0.here hx rfl (hb hby at_105) rfl k) ?_
          show own_Go p e below P s₁ (mkF m 106 #[.val (.int p0), .val (.int p1), .val (.int p2), .val (.int p3), .val (.int p4), .val (.int (p0 &&& (3 : Int32))), .val (.int ng), .val (.long tt), .second, .val (.int (p3 % (9 : Int32))), .unset, .unset, .unset, .unset, .unset, .unset, .unset] [(.long ((p3 % (9 : Int32)).toInt64 * tt))])
          refine own_step (fun _ k => XS.l2dS X0.here hx rfl (hb hby at_106) rfl rfl k) ?_
          show own_Go p e below P s₁ (mkF m 107 #[.val (.int p0), .val (.int p1), .val (.int p2), .val (.int p3), .val (.int p4), .val (.int (p0 &&& (3 : Int32))), .val (.int ng), .val (.long tt), .second, .val (.int (p3 % (9 : Int32))), .unset, .unset, .unset, .unset, .unset, .unset, .unset] [(.double (FP.l2d ((p3 % (9 : Int32)).toInt64 * tt)))])
          refine own_step (fun _ k => XS.dstore X0.here hx rfl (hb hby at_107) rfl (l' := #[.val (.int p0), .val (.int p1), .val (.int p2), .val (.int p3), .val (.int p4), .val (.int (p0 &&& (3 : Int32))), .val (.int ng), .val (.long tt), .second, .val (.int (p3 % (9 : Int32))), .val (.double (FP.l2d ((p3 % (9 : Int32)).toInt64 * tt))), .second, .unset, .unset, .unset, .unset, .unset]) rfl k) ?_
          show own_Go p e below P s₁ (mkF m 109 #[.val (.int p0), .val (.int p1), .val (.int p2), .val (.int p3), .val (.int p4), .val (.int (p0 &&& (3 : Int32))), .val (.int ng), .val (.long tt), .second, .val (.int (p3 % (9 : Int32))), .val (.double (FP.l2d ((p3 % (9 : Int32)).toInt64 * tt))), .second, .unset, .unset, .unset, .unset, .unset] [])
          obtain ⟨T14, h14, X14, e14, E14, A14, D14, -, st14⟩ := newO X0 hx hZ hown (hw _ (List.mem_of_getElem? (i := 0) rfl)) (hw _ (List.mem_of_getElem? (i := 1) rfl)) (hw _ (List.mem_of_getElem? (i := 2) rfl)) e0 (g := (mkF m 109 #[.val (.int p0), .val (.int p1), .val (.int p2), .val (.int p3), .val (.int p4), .val (.int (p0 &&& (3 : Int32))), .val (.int ng), .val (.long tt), .second, .val (.int (p3 % (9 : Int32))), .val (.double (FP.l2d ((p3 % (9 : Int32)).toInt64 * tt))), .second, .unset, .unset, .unset, .unset, .unset] [])) rfl (hb hby at_109) (by decide) (by decide)
          obtain ⟨b14, g14⟩ : ∃ z, z = h0.size := ⟨_, rfl⟩
          rw [← g14] at A14 D14 st14
          have g_b14 : n0 ≤ b14 := Nat.le_trans Z0 (Nat.le_of_eq g14.symm)
          have sz_b14 : h0.size ≤ b14 := Nat.le_trans (Keep.refl h0 []).1 (Nat.le_of_eq g14.symm)
          have E_b14 := A14
          have F_total_b14 : Fld Z h14 b14 "com/example/equiflow/equiflow/model/Summary" "total" "D" (.double (0 : UInt64)) := D14 (Or.inr (hw _ (List.mem_of_getElem? (i := 15) rfl))) (ty := .double) (by decide)
          have F_min_b14 : Fld Z h14 b14 "com/example/equiflow/equiflow/model/Summary" "min" "D" (.double (0 : UInt64)) := D14 (Or.inr (hw _ (List.mem_of_getElem? (i := 17) rfl))) (ty := .double) (by decide)
          have F_jain_b14 : Fld Z h14 b14 "com/example/equiflow/equiflow/model/Summary" "jain" "D" (.double (0 : UInt64)) := D14 (Or.inr (hw _ (List.mem_of_getElem? (i := 19) rfl))) (ty := .double) (by decide)
          have F_gini_b14 : Fld Z h14 b14 "com/example/equiflow/equiflow/model/Summary" "gini" "D" (.double (0 : UInt64)) := D14 (Or.inr (hw _ (List.mem_of_getElem? (i := 21) rfl))) (ty := .double) (by decide)
          refine own_step st14 ?_
          show own_Go p e below P T14 (mkF m 112 #[.val (.int p0), .val (.int p1), .val (.int p2), .val (.int p3), .val (.int p4), .val (.int (p0 &&& (3 : Int32))), .val (.int ng), .val (.long tt), .second, .val (.int (p3 % (9 : Int32))), .val (.double (FP.l2d ((p3 % (9 : Int32)).toInt64 * tt))), .second, .unset, .unset, .unset, .unset, .unset] [(.ref b14)])
          refine own_step (fun _ k => XS.dup X14.here hx rfl (hb hby at_112) rfl rfl k) ?_
          show own_Go p e below P T14 (mkF m 113 #[.val (.int p0), .val (.int p1), .val (.int p2), .val (.int p3), .val (.int p4), .val (.int (p0 &&& (3 : Int32))), .val (.int ng), .val (.long tt), .second, .val (.int (p3 % (9 : Int32))), .val (.double (FP.l2d ((p3 % (9 : Int32)).toInt64 * tt))), .second, .unset, .unset, .unset, .unset, .unset] [(.ref b14), (.ref b14)])
          refine own_step (fun _ k => XS.dload X14.here hx rfl (hb hby at_113) rfl k) ?_
          show own_Go p e below P T14 (mkF m 115 #[.val (.int p0), .val (.int p1), .val (.int p2), .val (.int p3), .val (.int p4), .val (.int (p0 &&& (3 : Int32))), .val (.int ng), .val (.long tt), .second, .val (.int (p3 % (9 : Int32))), .val (.double (FP.l2d ((p3 % (9 : Int32)).toInt64 * tt))), .second, .unset, .unset, .unset, .unset, .unset] [(.double (FP.l2d ((p3 % (9 : Int32)).toInt64 * tt))), (.ref b14), (.ref b14)])
          refine own_step (fun _ k => XS.iloadN X14.here hx rfl (hb hby at_115) rfl k) ?_
          show own_Go p e below P T14 (mkF m 116 #[.val (.int p0), .val (.int p1), .val (.int p2), .val (.int p3), .val (.int p4), .val (.int (p0 &&& (3 : Int32))), .val (.int ng), .val (.long tt), .second, .val (.int (p3 % (9 : Int32))), .val (.double (FP.l2d ((p3 % (9 : Int32)).toInt64 * tt))), .second, .unset, .unset, .unset, .unset, .unset] [(.int p1), (.double (FP.l2d ((p3 % (9 : Int32)).toInt64 * tt))), (.ref b14), (.ref b14)])
          refine own_step (fun _ k => XS.i2dS X14.here hx rfl (hb hby at_116) rfl rfl k) ?_
          show own_Go p e below P T14 (mkF m 117 #[.val (.int p0), .val (.int p1), .val (.int p2), .val (.int p3), .val (.int p4), .val (.int (p0 &&& (3 : Int32))), .val (.int ng), .val (.long tt), .second, .val (.int (p3 % (9 : Int32))), .val (.double (FP.l2d ((p3 % (9 : Int32)).toInt64 * tt))), .second, .unset, .unset, .unset, .unset, .unset] [(.double (FP.i2d p1)), (.double (FP.l2d ((p3 % (9 : Int32)).toInt64 * tt))), (.ref b14), (.ref b14)])
          refine own_step (fun _ k => XS.dconst1 X14.here hx rfl (hb hby at_117) rfl k) ?_
          show own_Go p e below P T14 (mkF m 118 #[.val (.int p0), .val (.int p1), .val (.int p2), .val (.int p3), .val (.int p4), .val (.int (p0 &&& (3 : Int32))), .val (.int ng), .val (.long tt), .second, .val (.int (p3 % (9 : Int32))), .val (.double (FP.l2d ((p3 % (9 : Int32)).toInt64 * tt))), .second, .unset, .unset, .unset, .unset, .unset] [(.double FP.dconst1), (.double (FP.i2d p1)), (.double (FP.l2d ((p3 % (9 : Int32)).toInt64 * tt))), (.ref b14), (.ref b14)])
          refine own_step (fun _ k => XS.dconst0 X14.here hx rfl (hb hby at_118) rfl k) ?_
          show own_Go p e below P T14 (mkF m 119 #[.val (.int p0), .val (.int p1), .val (.int p2), .val (.int p3), .val (.int p4), .val (.int (p0 &&& (3 : Int32))), .val (.int ng), .val (.long tt), .second, .val (.int (p3 % (9 : Int32))), .val (.double (FP.l2d ((p3 % (9 : Int32)).toInt64 * tt))), .second, .unset, .unset, .unset, .unset, .unset] [(.double FP.dconst0), (.double FP.dconst1), (.double (FP.i2d p1)), (.double (FP.l2d ((p3 % (9 : Int32)).toInt64 * tt))), (.ref b14), (.ref b14)])
          obtain ⟨_, _, ⟨T15, L15, k15, n15⟩, -, X15, ⟨Lc15, hQ15, l15, y15, z15⟩, st15⟩ := X14.specialBack hx (y := (⟨"com/example/equiflow/equiflow/model/Summary", "<init>", "(DDDD)V"⟩ : MethodName)) rfl hown (mvT hZ (hw _ (List.mem_of_getElem? (i := 3) rfl))) (mvT hZ (hw _ (List.mem_of_getElem? (i := 4) rfl))) (mvT hZ (hw _ (List.mem_of_getElem? (i := 5) rfl))) (by decide) (backOf (W := 1) (rm1 l Z a0 hw [] b14 (FP.l2d ((p3 % (9 : Int32)).toInt64 * tt)) (FP.i2d p1) FP.dconst1 FP.dconst0 h14 n0 (Nat.le_trans Z0 E14.1) E_b14 F_total_b14 F_min_b14 F_jain_b14 F_gini_b14 g_b14) hZ (hw _ (List.mem_of_getElem? (i := 5) rfl)) (hw _ (List.mem_of_getElem? (i := 2) rfl)) (by decide) (by decide)) (g := (mkF m 119 #[.val (.int p0), .val (.int p1), .val (.int p2), .val (.int p3), .val (.int p4), .val (.int (p0 &&& (3 : Int32))), .val (.int ng), .val (.long tt), .second, .val (.int (p3 % (9 : Int32))), .val (.double (FP.l2d ((p3 % (9 : Int32)).toInt64 * tt))), .second, .unset, .unset, .unset, .unset, .unset] [(.double FP.dconst0), (.double FP.dconst1), (.double (FP.i2d p1)), (.double (FP.l2d ((p3 % (9 : Int32)).toInt64 * tt))), (.ref b14), (.ref b14)])) rfl (by rw [hml]; rfl) (Steps.refl _) (a := b14) (argsL := [(.double (FP.l2d ((p3 % (9 : Int32)).toInt64 * tt))), (.double (FP.i2d p1)), (.double FP.dconst1), (.double FP.dconst0)]) (rest := [(.ref b14)]) (lenOf pd__DDDD__V rfl) rfl (by show 2 * 0 + _ ≤ _; exact Nat.le_of_eq rfl) (hb hby at_119) (fun _ _ => ⟨rfl, e14, (by decide : 1 + 0 ≤ _), (by decide : 4 + 0 ≤ _)⟩)
          dsimp only [Pt.U, Pt.locs, Pt.cells, Pt.slots] at X15 l15 y15 z15 st15 hQ15
          subst l15 y15 z15
          obtain ⟨rfl, N15q, K15, E15_o, Fc15_total, Fc15_min, Fc15_jain, Fc15_gini⟩ := hQ15
          have N15 := Fr.app N0 N15q
          refine own_step (fun _ k => st15.trans k) ?_
          show own_Go p e below P T15 (mkF m 122 #[.val (.int p0), .val (.int p1), .val (.int p2), .val (.int p3), .val (.int p4), .val (.int (p0 &&& (3 : Int32))), .val (.int ng), .val (.long tt), .second, .val (.int (p3 % (9 : Int32))), .val (.double (FP.l2d ((p3 % (9 : Int32)).toInt64 * tt))), .second, .unset, .unset, .unset, .unset, .unset] [(.ref b14)])
          refine own_step (fun _ k => XS.astore X15.here hx rfl (hb hby at_122) rfl rfl (l' := #[.val (.int p0), .val (.int p1), .val (.int p2), .val (.int p3), .val (.int p4), .val (.int (p0 &&& (3 : Int32))), .val (.int ng), .val (.long tt), .second, .val (.int (p3 % (9 : Int32))), .val (.double (FP.l2d ((p3 % (9 : Int32)).toInt64 * tt))), .second, .val (.ref b14), .unset, .unset, .unset, .unset]) rfl k) ?_
          show own_Go p e below P T15 (mkF m 124 #[.val (.int p0), .val (.int p1), .val (.int p2), .val (.int p3), .val (.int p4), .val (.int (p0 &&& (3 : Int32))), .val (.int ng), .val (.long tt), .second, .val (.int (p3 % (9 : Int32))), .val (.double (FP.l2d ((p3 % (9 : Int32)).toInt64 * tt))), .second, .val (.ref b14), .unset, .unset, .unset, .unset] [])
          refine own_step (fun _ k => XS.aload X15.here hx rfl (hb hby at_124) rfl rfl k) ?_
          show own_Go p e below P T15 (mkF m 126 #[.val (.int p0), .val (.int p1), .val (.int p2), .val (.int p3), .val (.int p4), .val (.int (p0 &&& (3 : Int32))), .val (.int ng), .val (.long tt), .second, .val (.int (p3 % (9 : Int32))), .val (.double (FP.l2d ((p3 % (9 : Int32)).toInt64 * tt))), .second, .val (.ref b14), .unset, .unset, .unset, .unset] [(.ref b14)])
          refine own_step (fun _ k => XS.lload X15.here hx rfl (hb hby at_126) rfl k) ?_
          show own_Go p e below P T15 (mkF m 128 #[.val (.int p0), .val (.int p1), .val (.int p2), .val (.int p3), .val (.int p4), .val (.int (p0 &&& (3 : Int32))), .val (.int ng), .val (.long tt), .second, .val (.int (p3 % (9 : Int32))), .val (.double (FP.l2d ((p3 % (9 : Int32)).toInt64 * tt))), .second, .val (.ref b14), .unset, .unset, .unset, .unset] [(.long tt), (.ref b14)])
          refine own_step (fun _ k => XS.l2dS X15.here hx rfl (hb hby at_128) rfl rfl k) ?_
          show own_Go p e below P T15 (mkF m 129 #[.val (.int p0), .val (.int p1), .val (.int p2), .val (.int p3), .val (.int p4), .val (.int (p0 &&& (3 : Int32))), .val (.int ng), .val (.long tt), .second, .val (.int (p3 % (9 : Int32))), .val (.double (FP.l2d ((p3 % (9 : Int32)).toInt64 * tt))), .second, .val (.ref b14), .unset, .unset, .unset, .unset] [(.double (FP.l2d tt)), (.ref b14)])
          obtain ⟨cq16, kq16, q16a, q16b, q16c⟩ := isOf hZ rfl E15_o
          obtain ⟨_, _, ⟨T16, L16, k16, n16⟩, -, X16, ⟨Lc16, hQ16, l16, y16, z16⟩, st16⟩ := X15.virtualBack hx (y := (⟨"com/example/equiflow/equiflow/model/Summary", "priceOfFairness", "(D)D"⟩ : MethodName)) (z := (⟨"com/example/equiflow/equiflow/model/Summary", "priceOfFairness", "(D)D"⟩ : MethodName)) hown (mvT hZ (hw _ (List.mem_of_getElem? (i := 22) rfl))) (mvT hZ (hw _ (List.mem_of_getElem? (i := 23) rfl))) (notFace_of_selects (args := #[]) (mvT hZ (hw _ (List.mem_of_getElem? (i := 25) rfl)))) (mvT hZ (hw _ (List.mem_of_getElem? (i := 25) rfl))) (mvT hZ (hw _ (List.mem_of_getElem? (i := 24) rfl))) (by decide) (backOf (W := 0) (rm4 l Z a0 hw [] b14 (FP.l2d tt) (FP.l2d ((p3 % (9 : Int32)).toInt64 * tt)) T15.heap n0 (Nat.le_trans (Nat.le_trans Z0 E14.1) K15.1) Fc15_total (l2d_fin _) (l2d_fin _)) hZ (hw _ (List.mem_of_getElem? (i := 26) rfl)) (hw _ (List.mem_of_getElem? (i := 2) rfl)) (by decide) (by decide)) q16a q16c (g := (mkF m 129 #[.val (.int p0), .val (.int p1), .val (.int p2), .val (.int p3), .val (.int p4), .val (.int (p0 &&& (3 : Int32))), .val (.int ng), .val (.long tt), .second, .val (.int (p3 % (9 : Int32))), .val (.double (FP.l2d ((p3 % (9 : Int32)).toInt64 * tt))), .second, .val (.ref b14), .unset, .unset, .unset, .unset] [(.double (FP.l2d tt)), (.ref b14)])) rfl (by rw [hml]; rfl) (Steps.refl _) (argsL := [(.double (FP.l2d tt))]) (rest := []) (lenOf pd__D__D rfl) rfl (by show 2 * 0 + _ ≤ _; exact Nat.le_of_eq rfl) (hb hby at_129) (fun _ _ => ⟨rfl, rfl, (by decide : 1 + 0 ≤ _), (by decide : 4 + 0 ≤ _)⟩)
          dsimp only [Pt.U, Pt.locs, Pt.cells, Pt.slots] at X16 l16 y16 z16 st16 hQ16
          subst l16 y16 z16
          obtain ⟨rfl, N16q, e16⟩ := hQ16
          have N16 := Fr.app N15 N16q
          refine own_step (fun _ k => st16.trans k) ?_
          show own_Go p e below P T16 (mkF m 132 #[.val (.int p0), .val (.int p1), .val (.int p2), .val (.int p3), .val (.int p4), .val (.int (p0 &&& (3 : Int32))), .val (.int ng), .val (.long tt), .second, .val (.int (p3 % (9 : Int32))), .val (.double (FP.l2d ((p3 % (9 : Int32)).toInt64 * tt))), .second, .val (.ref b14), .unset, .unset, .unset, .unset] [(.double (own_pf (FP.l2d ((p3 % (9 : Int32)).toInt64 * tt)) (FP.l2d tt)))])
          refine own_step (fun _ k => XS.dstore X16.here hx rfl (hb hby at_132) rfl (l' := #[.val (.int p0), .val (.int p1), .val (.int p2), .val (.int p3), .val (.int p4), .val (.int (p0 &&& (3 : Int32))), .val (.int ng), .val (.long tt), .second, .val (.int (p3 % (9 : Int32))), .val (.double (FP.l2d ((p3 % (9 : Int32)).toInt64 * tt))), .second, .val (.ref b14), .val (.double (own_pf (FP.l2d ((p3 % (9 : Int32)).toInt64 * tt)) (FP.l2d tt))), .second, .unset, .unset]) rfl k) ?_
          show own_Go p e below P T16 (mkF m 134 #[.val (.int p0), .val (.int p1), .val (.int p2), .val (.int p3), .val (.int p4), .val (.int (p0 &&& (3 : Int32))), .val (.int ng), .val (.long tt), .second, .val (.int (p3 % (9 : Int32))), .val (.double (FP.l2d ((p3 % (9 : Int32)).toInt64 * tt))), .second, .val (.ref b14), .val (.double (own_pf (FP.l2d ((p3 % (9 : Int32)).toInt64 * tt)) (FP.l2d tt))), .second, .unset, .unset] [])
          refine own_step (fun _ k => XS.dload X16.here hx rfl (hb hby at_134) rfl k) ?_
          show own_Go p e below P T16 (mkF m 136 #[.val (.int p0), .val (.int p1), .val (.int p2), .val (.int p3), .val (.int p4), .val (.int (p0 &&& (3 : Int32))), .val (.int ng), .val (.long tt), .second, .val (.int (p3 % (9 : Int32))), .val (.double (FP.l2d ((p3 % (9 : Int32)).toInt64 * tt))), .second, .val (.ref b14), .val (.double (own_pf (FP.l2d ((p3 % (9 : Int32)).toInt64 * tt)) (FP.l2d tt))), .second, .unset, .unset] [(.double (own_pf (FP.l2d ((p3 % (9 : Int32)).toInt64 * tt)) (FP.l2d tt)))])
          refine own_step (fun _ k => XS.iconst X16.here hx rfl (hb hby at_136) k) ?_
          show own_Go p e below P T16 (mkF m 137 #[.val (.int p0), .val (.int p1), .val (.int p2), .val (.int p3), .val (.int p4), .val (.int (p0 &&& (3 : Int32))), .val (.int ng), .val (.long tt), .second, .val (.int (p3 % (9 : Int32))), .val (.double (FP.l2d ((p3 % (9 : Int32)).toInt64 * tt))), .second, .val (.ref b14), .val (.double (own_pf (FP.l2d ((p3 % (9 : Int32)).toInt64 * tt)) (FP.l2d tt))), .second, .unset, .unset] [(.int (1 : Int32)), (.double (own_pf (FP.l2d ((p3 % (9 : Int32)).toInt64 * tt)) (FP.l2d tt)))])
          refine own_step (fun _ k => XS.iload X16.here hx rfl (hb hby at_137) rfl k) ?_
          show own_Go p e below P T16 (mkF m 139 #[.val (.int p0), .val (.int p1), .val (.int p2), .val (.int p3), .val (.int p4), .val (.int (p0 &&& (3 : Int32))), .val (.int ng), .val (.long tt), .second, .val (.int (p3 % (9 : Int32))), .val (.double (FP.l2d ((p3 % (9 : Int32)).toInt64 * tt))), .second, .val (.ref b14), .val (.double (own_pf (FP.l2d ((p3 % (9 : Int32)).toInt64 * tt)) (FP.l2d tt))), .second, .unset, .unset] [(.int (p3 % (9 : Int32))), (.int (1 : Int32)), (.double (own_pf (FP.l2d ((p3 % (9 : Int32)).toInt64 * tt)) (FP.l2d tt)))])
          refine own_step (fun _ k => XS.isub X16.here hx rfl (hb hby at_139) rfl k) ?_
          show own_Go p e below P T16 (mkF m 140 #[.val (.int p0), .val (.int p1), .val (.int p2), .val (.int p3), .val (.int p4), .val (.int (p0 &&& (3 : Int32))), .val (.int ng), .val (.long tt), .second, .val (.int (p3 % (9 : Int32))), .val (.double (FP.l2d ((p3 % (9 : Int32)).toInt64 * tt))), .second, .val (.ref b14), .val (.double (own_pf (FP.l2d ((p3 % (9 : Int32)).toInt64 * tt)) (FP.l2d tt))), .second, .unset, .unset] [(.int ((1 : Int32) - (p3 % (9 : Int32)))), (.double (own_pf (FP.l2d ((p3 % (9 : Int32)).toInt64 * tt)) (FP.l2d tt)))])
          refine own_step (fun _ k => XS.i2dS X16.here hx rfl (hb hby at_140) rfl rfl k) ?_
          show own_Go p e below P T16 (mkF m 141 #[.val (.int p0), .val (.int p1), .val (.int p2), .val (.int p3), .val (.int p4), .val (.int (p0 &&& (3 : Int32))), .val (.int ng), .val (.long tt), .second, .val (.int (p3 % (9 : Int32))), .val (.double (FP.l2d ((p3 % (9 : Int32)).toInt64 * tt))), .second, .val (.ref b14), .val (.double (own_pf (FP.l2d ((p3 % (9 : Int32)).toInt64 * tt)) (FP.l2d tt))), .second, .unset, .unset] [(.double (FP.i2d ((1 : Int32) - (p3 % (9 : Int32))))), (.double (own_pf (FP.l2d ((p3 % (9 : Int32)).toInt64 * tt)) (FP.l2d tt)))])
          refine own_step (fun _ k => XS.dcmpS X16.here hx rfl (hb hby at_141) rfl (own_case1 (own_k9 p3) hjJ92_13_0) k) ?_
          show own_Go p e below P T16 (mkF m 142 #[.val (.int p0), .val (.int p1), .val (.int p2), .val (.int p3), .val (.int p4), .val (.int (p0 &&& (3 : Int32))), .val (.int ng), .val (.long tt), .second, .val (.int (p3 % (9 : Int32))), .val (.double (FP.l2d ((p3 % (9 : Int32)).toInt64 * tt))), .second, .val (.ref b14), .val (.double (own_pf (FP.l2d ((p3 % (9 : Int32)).toInt64 * tt)) (FP.l2d tt))), .second, .unset, .unset] [(.int (0 : Int32))])
          refine own_step (fun _ k => XS.ifNo X16.here hx rfl (hb hby at_142) rfl ((if0 _ _).trans (teq (rfl : (0 : Int32) = (0 : Int32))).2) k) ?_
          show own_Go p e below P T16 (mkF m 145 #[.val (.int p0), .val (.int p1), .val (.int p2), .val (.int p3), .val (.int p4), .val (.int (p0 &&& (3 : Int32))), .val (.int ng), .val (.long tt), .second, .val (.int (p3 % (9 : Int32))), .val (.double (FP.l2d ((p3 % (9 : Int32)).toInt64 * tt))), .second, .val (.ref b14), .val (.double (own_pf (FP.l2d ((p3 % (9 : Int32)).toInt64 * tt)) (FP.l2d tt))), .second, .unset, .unset] [])
          refine own_step (fun _ k => XS.iconst X16.here hx rfl (hb hby at_145) k) ?_
          show own_Go p e below P T16 (mkF m 146 #[.val (.int p0), .val (.int p1), .val (.int p2), .val (.int p3), .val (.int p4), .val (.int (p0 &&& (3 : Int32))), .val (.int ng), .val (.long tt), .second, .val (.int (p3 % (9 : Int32))), .val (.double (FP.l2d ((p3 % (9 : Int32)).toInt64 * tt))), .second, .val (.ref b14), .val (.double (own_pf (FP.l2d ((p3 % (9 : Int32)).toInt64 * tt)) (FP.l2d tt))), .second, .unset, .unset] [(.int (1 : Int32))])
          refine own_step (fun _ k => XS.goto X16.here hx rfl (pc0 := 146) (pc' := 150) rfl (hb hby at_146) (by decide) (by decide) k) ?_
          show own_Go p e below P T16 (mkF m 150 #[.val (.int p0), .val (.int p1), .val (.int p2), .val (.int p3), .val (.int p4), .val (.int (p0 &&& (3 : Int32))), .val (.int ng), .val (.long tt), .second, .val (.int (p3 % (9 : Int32))), .val (.double (FP.l2d ((p3 % (9 : Int32)).toInt64 * tt))), .second, .val (.ref b14), .val (.double (own_pf (FP.l2d ((p3 % (9 : Int32)).toInt64 * tt)) (FP.l2d tt))), .second, .unset, .unset] [(.int (1 : Int32))])
          obtain ⟨fs, hr, hrun, hended, hW, hsame⟩ := X16.leave (v := some (.int (1 : Int32))) (fun h => by rw [Bd.returns] at h; cases h)
          refine ⟨_, _, retN X16 hx (t := .boolean) Bd.returns (by simp) (hb hby at_150) hr, hrun, hended, hfin _ _ ⟨_, _, rfl, ?_, ⟨_, rfl⟩, hW, hsame.mono (by decide) (by decide)⟩⟩
          show Q0 Z p0 p1 p2 p3 p4 h0 n0 (some (.int (1 : Int32))) T16.heap _
          rw [e16]
          exact ⟨rfl, N16⟩
        refine own_step (fun _ k => XS.iloadN X0.here hx rfl (hb hby at_82) rfl k) ?_
        show own_Go p e below P s₁ (mkF m 83 #[.val (.int p0), .val (.int p1), .val (.int p2), .val (.int p3), .val (.int p4), .val (.int (p0 &&& (3 : Int32))), .val (.int ng), .unset, .unset, .unset, .unset, .unset, .unset, .unset, .unset, .unset, .unset] [(.int p2)])
        by_cases hc18 : p2 = (0 : Int32)
        · refine own_step (fun _ k => XS.ifNo X0.here hx rfl (hb hby at_83) rfl ((if0 _ _).trans (teq hc18).2) k) ?_
          show own_Go p e below P s₁ (mkF m 86 #[.val (.int p0), .val (.int p1), .val (.int p2), .val (.int p3), .val (.int p4), .val (.int (p0 &&& (3 : Int32))), .val (.int ng), .unset, .unset, .unset, .unset, .unset, .unset, .unset, .unset, .unset, .unset] [])
          refine own_step (fun _ k => XS.lconst X0.here hx rfl (hb hby at_86) k) ?_
          show own_Go p e below P s₁ (mkF m 87 #[.val (.int p0), .val (.int p1), .val (.int p2), .val (.int p3), .val (.int p4), .val (.int (p0 &&& (3 : Int32))), .val (.int ng), .unset, .unset, .unset, .unset, .unset, .unset, .unset, .unset, .unset, .unset] [(.long (1 : Int64))])
          refine own_step (fun _ k => XS.goto X0.here hx rfl (pc0 := 87) (pc' := 92) rfl (hb hby at_87) (by decide) (by decide) k) ?_
          show own_Go p e below P s₁ (mkF m 92 #[.val (.int p0), .val (.int p1), .val (.int p2), .val (.int p3), .val (.int p4), .val (.int (p0 &&& (3 : Int32))), .val (.int ng), .unset, .unset, .unset, .unset, .unset, .unset, .unset, .unset, .unset, .unset] [(.long (1 : Int64))])
          exact J92_13 (1 : Int64) own_T1
        · refine own_step (fun _ k => XS.ifYes X0.here hx rfl (pc0 := 83) (pc' := 90) rfl (hb hby at_83) rfl ((if0 _ _).trans (feq hc18).2) (by decide) (by decide) k) ?_
          show own_Go p e below P s₁ (mkF m 90 #[.val (.int p0), .val (.int p1), .val (.int p2), .val (.int p3), .val (.int p4), .val (.int (p0 &&& (3 : Int32))), .val (.int ng), .unset, .unset, .unset, .unset, .unset, .unset, .unset, .unset, .unset, .unset] [])
          refine own_step (fun _ k => XS.iloadN X0.here hx rfl (hb hby at_90) rfl k) ?_
          show own_Go p e below P s₁ (mkF m 91 #[.val (.int p0), .val (.int p1), .val (.int p2), .val (.int p3), .val (.int p4), .val (.int (p0 &&& (3 : Int32))), .val (.int ng), .unset, .unset, .unset, .unset, .unset, .unset, .unset, .unset, .unset, .unset] [(.int p2)])
          refine own_step (fun _ k => XS.i2l X0.here hx rfl (hb hby at_91) rfl k) ?_
          show own_Go p e below P s₁ (mkF m 92 #[.val (.int p0), .val (.int p1), .val (.int p2), .val (.int p3), .val (.int p4), .val (.int (p0 &&& (3 : Int32))), .val (.int ng), .unset, .unset, .unset, .unset, .unset, .unset, .unset, .unset, .unset, .unset] [(.long p2.toInt64)])
          exact J92_13 p2.toInt64 (own_Tp hc18)
      · refine own_step (fun _ k => XS.icmpYes X0.here hx rfl (pc0 := 79) (pc' := 151) rfl (hb hby at_79) rfl (feq hc12).2 (by decide) (by decide) k) ?_
        show own_Go p e below P s₁ (mkF m 151 #[.val (.int p0), .val (.int p1), .val (.int p2), .val (.int p3), .val (.int p4), .val (.int (p0 &&& (3 : Int32))), .val (.int ng), .unset, .unset, .unset, .unset, .unset, .unset, .unset, .unset, .unset, .unset] [])
        refine own_step (fun _ k => XS.iload X0.here hx rfl (hb hby at_151) rfl k) ?_
        show own_Go p e below P s₁ (mkF m 153 #[.val (.int p0), .val (.int p1), .val (.int p2), .val (.int p3), .val (.int p4), .val (.int (p0 &&& (3 : Int32))), .val (.int ng), .unset, .unset, .unset, .unset, .unset, .unset, .unset, .unset, .unset, .unset] [(.int (p0 &&& (3 : Int32)))])
        refine own_step (fun _ k => XS.iconst X0.here hx rfl (hb hby at_153) k) ?_
        show own_Go p e below P s₁ (mkF m 154 #[.val (.int p0), .val (.int p1), .val (.int p2), .val (.int p3), .val (.int p4), .val (.int (p0 &&& (3 : Int32))), .val (.int ng), .unset, .unset, .unset, .unset, .unset, .unset, .unset, .unset, .unset, .unset] [(.int (2 : Int32)), (.int (p0 &&& (3 : Int32)))])
        by_cases hc19 : (p0 &&& (3 : Int32)) = (2 : Int32)
        · refine own_step (fun _ k => XS.icmpNo X0.here hx rfl (hb hby at_154) rfl (teq hc19).2 k) ?_
          show own_Go p e below P s₁ (mkF m 157 #[.val (.int p0), .val (.int p1), .val (.int p2), .val (.int p3), .val (.int p4), .val (.int (p0 &&& (3 : Int32))), .val (.int ng), .unset, .unset, .unset, .unset, .unset, .unset, .unset, .unset, .unset, .unset] [])
          refine own_step (fun _ k => XS.iload X0.here hx rfl (hb hby at_157) rfl k) ?_
          show own_Go p e below P s₁ (mkF m 159 #[.val (.int p0), .val (.int p1), .val (.int p2), .val (.int p3), .val (.int p4), .val (.int (p0 &&& (3 : Int32))), .val (.int ng), .unset, .unset, .unset, .unset, .unset, .unset, .unset, .unset, .unset, .unset] [(.int p4)])
          refine own_step (fun _ k => XS.bipush X0.here hx rfl (hb hby at_159) k) ?_
          show own_Go p e below P s₁ (mkF m 161 #[.val (.int p0), .val (.int p1), .val (.int p2), .val (.int p3), .val (.int p4), .val (.int (p0 &&& (3 : Int32))), .val (.int ng), .unset, .unset, .unset, .unset, .unset, .unset, .unset, .unset, .unset, .unset] [(.int (63 : Int32)), (.int p4)])
          refine own_step (fun _ k => XS.iand X0.here hx rfl (hb hby at_161) rfl k) ?_
          show own_Go p e below P s₁ (mkF m 162 #[.val (.int p0), .val (.int p1), .val (.int p2), .val (.int p3), .val (.int p4), .val (.int (p0 &&& (3 : Int32))), .val (.int ng), .unset, .unset, .unset, .unset, .unset, .unset, .unset, .unset, .unset, .unset] [(.int (p4 &&& (63 : Int32)))])
          refine own_step (fun _ k => XS.bipush X0.here hx rfl (hb hby at_162) k) ?_
          show own_Go p e below P s₁ (mkF m 164 #[.val (.int p0), .val (.int p1), .val (.int p2), .val (.int p3), .val (.int p4), .val (.int (p0 &&& (3 : Int32))), .val (.int ng), .unset, .unset, .unset, .unset, .unset, .unset, .unset, .unset, .unset, .unset] [(.int (63 : Int32)), (.int (p4 &&& (63 : Int32)))])
          refine own_step (fun _ k => iremM X0 hx rfl (hb hby at_164) rfl (by decide : ¬ ((63 : Int32) = (0 : Int32))) k) ?_
          show own_Go p e below P s₁ (mkF m 165 #[.val (.int p0), .val (.int p1), .val (.int p2), .val (.int p3), .val (.int p4), .val (.int (p0 &&& (3 : Int32))), .val (.int ng), .unset, .unset, .unset, .unset, .unset, .unset, .unset, .unset, .unset, .unset] [(.int ((p4 &&& (63 : Int32)) % (63 : Int32)))])
          refine own_step (fun _ k => XS.istore X0.here hx rfl (hb hby at_165) rfl (l' := #[.val (.int p0), .val (.int p1), .val (.int p2), .val (.int p3), .val (.int p4), .val (.int (p0 &&& (3 : Int32))), .val (.int ng), .val (.int ((p4 &&& (63 : Int32)) % (63 : Int32))), .unset, .unset, .unset, .unset, .unset, .unset, .unset, .unset, .unset]) rfl k) ?_
          show own_Go p e below P s₁ (mkF m 167 #[.val (.int p0), .val (.int p1), .val (.int p2), .val (.int p3), .val (.int p4), .val (.int (p0 &&& (3 : Int32))), .val (.int ng), .val (.int ((p4 &&& (63 : Int32)) % (63 : Int32))), .unset, .unset, .unset, .unset, .unset, .unset, .unset, .unset, .unset] [])
          refine own_step (fun _ k => XS.lconst X0.here hx rfl (hb hby at_167) k) ?_
          show own_Go p e below P s₁ (mkF m 168 #[.val (.int p0), .val (.int p1), .val (.int p2), .val (.int p3), .val (.int p4), .val (.int (p0 &&& (3 : Int32))), .val (.int ng), .val (.int ((p4 &&& (63 : Int32)) % (63 : Int32))), .unset, .unset, .unset, .unset, .unset, .unset, .unset, .unset, .unset] [(.long (1 : Int64))])
          refine own_step (fun _ k => XS.iload X0.here hx rfl (hb hby at_168) rfl k) ?_
          show own_Go p e below P s₁ (mkF m 170 #[.val (.int p0), .val (.int p1), .val (.int p2), .val (.int p3), .val (.int p4), .val (.int (p0 &&& (3 : Int32))), .val (.int ng), .val (.int ((p4 &&& (63 : Int32)) % (63 : Int32))), .unset, .unset, .unset, .unset, .unset, .unset, .unset, .unset, .unset] [(.int ((p4 &&& (63 : Int32)) % (63 : Int32))), (.long (1 : Int64))])
          refine own_step (fun _ k => XS.lshl X0.here hx rfl (hb hby at_170) rfl k) ?_
          show own_Go p e below P s₁ (mkF m 171 #[.val (.int p0), .val (.int p1), .val (.int p2), .val (.int p3), .val (.int p4), .val (.int (p0 &&& (3 : Int32))), .val (.int ng), .val (.int ((p4 &&& (63 : Int32)) % (63 : Int32))), .unset, .unset, .unset, .unset, .unset, .unset, .unset, .unset, .unset] [(.long ((1 : Int64) <<< (((p4 &&& (63 : Int32)) % (63 : Int32)) &&& 0x3f).toInt64))])
          refine own_step (fun _ k => XS.lstore X0.here hx rfl (hb hby at_171) rfl (l' := #[.val (.int p0), .val (.int p1), .val (.int p2), .val (.int p3), .val (.int p4), .val (.int (p0 &&& (3 : Int32))), .val (.int ng), .val (.int ((p4 &&& (63 : Int32)) % (63 : Int32))), .val (.long ((1 : Int64) <<< (((p4 &&& (63 : Int32)) % (63 : Int32)) &&& 0x3f).toInt64)), .second, .unset, .unset, .unset, .unset, .unset, .unset, .unset]) rfl k) ?_
          show own_Go p e below P s₁ (mkF m 173 #[.val (.int p0), .val (.int p1), .val (.int p2), .val (.int p3), .val (.int p4), .val (.int (p0 &&& (3 : Int32))), .val (.int ng), .val (.int ((p4 &&& (63 : Int32)) % (63 : Int32))), .val (.long ((1 : Int64) <<< (((p4 &&& (63 : Int32)) % (63 : Int32)) &&& 0x3f).toInt64)), .second, .unset, .unset, .unset, .unset, .unset, .unset, .unset] [])
          have J186_20 : ∀ (tt : Int64), (own_P tt) → own_Go p e below P s₁ (mkF m 186 #[.val (.int p0), .val (.int p1), .val (.int p2), .val (.int p3), .val (.int p4), .val (.int (p0 &&& (3 : Int32))), .val (.int ng), .val (.int ((p4 &&& (63 : Int32)) % (63 : Int32))), .val (.long ((1 : Int64) <<< (((p4 &&& (63 : Int32)) % (63 : Int32)) &&& 0x3f).toInt64)), .second, .unset, .unset, .unset, .unset, .unset, .unset, .unset] [(.long tt)]) := by
            intro tt hjJ186_20_0
            refine own_step (fun _ k => XS.lstore X0.here hx rfl (hb hby at_186) rfl (l' := #[.val (.int p0), .val (.int p1), .val (.int p2), .val (.int p3), .val (.int p4), .val (.int (p0 &&& (3 : Int32))), .val (.int ng), .val (.int ((p4 &&& (63 : Int32)) % (63 : Int32))), .val (.long ((1 : Int64) <<< (((p4 &&& (63 : Int32)) % (63 : Int32)) &&& 0x3f).toInt64)), .second, .val (.long tt), .second, .unset, .unset, .unset, .unset, .unset]) rfl k) ?_
            show own_Go p e below P s₁ (mkF m 188 #[.val (.int p0), .val (.int p1), .val (.int p2), .val (.int p3), .val (.int p4), .val (.int (p0 &&& (3 : Int32))), .val (.int ng), .val (.int ((p4 &&& (63 : Int32)) % (63 : Int32))), .val (.long ((1 : Int64) <<< (((p4 &&& (63 : Int32)) % (63 : Int32)) &&& 0x3f).toInt64)), .second, .val (.long tt), .second, .unset, .unset, .unset, .unset, .unset] [])
            obtain ⟨T21, h21, X21, e21, E21, A21, D21, -, st21⟩ := newO X0 hx hZ hown (hw _ (List.mem_of_getElem? (i := 0) rfl)) (hw _ (List.mem_of_getElem? (i := 1) rfl)) (hw _ (List.mem_of_getElem? (i := 2) rfl)) e0 (g := (mkF m 188 #[.val (.int p0), .val (.int p1), .val (.int p2), .val (.int p3), .val (.int p4), .val (.int (p0 &&& (3 : Int32))), .val (.int ng), .val (.int ((p4 &&& (63 : Int32)) % (63 : Int32))), .val (.long ((1 : Int64) <<< (((p4 &&& (63 : Int32)) % (63 : Int32)) &&& 0x3f).toInt64)), .second, .val (.long tt), .second, .unset, .unset, .unset, .unset, .unset] [])) rfl (hb hby at_188) (by decide) (by decide)
            obtain ⟨b21, g21⟩ : ∃ z, z = h0.size := ⟨_, rfl⟩
            rw [← g21] at A21 D21 st21
            have g_b21 : n0 ≤ b21 := Nat.le_trans Z0 (Nat.le_of_eq g21.symm)
            have sz_b21 : h0.size ≤ b21 := Nat.le_trans (Keep.refl h0 []).1 (Nat.le_of_eq g21.symm)
            have E_b21 := A21
            have F_total_b21 : Fld Z h21 b21 "com/example/equiflow/equiflow/model/Summary" "total" "D" (.double (0 : UInt64)) := D21 (Or.inr (hw _ (List.mem_of_getElem? (i := 15) rfl))) (ty := .double) (by decide)
            have F_min_b21 : Fld Z h21 b21 "com/example/equiflow/equiflow/model/Summary" "min" "D" (.double (0 : UInt64)) := D21 (Or.inr (hw _ (List.mem_of_getElem? (i := 17) rfl))) (ty := .double) (by decide)
            have F_jain_b21 : Fld Z h21 b21 "com/example/equiflow/equiflow/model/Summary" "jain" "D" (.double (0 : UInt64)) := D21 (Or.inr (hw _ (List.mem_of_getElem? (i := 19) rfl))) (ty := .double) (by decide)
            have F_gini_b21 : Fld Z h21 b21 "com/example/equiflow/equiflow/model/Summary" "gini" "D" (.double (0 : UInt64)) := D21 (Or.inr (hw _ (List.mem_of_getElem? (i := 21) rfl))) (ty := .double) (by decide)
            refine own_step st21 ?_
            show own_Go p e below P T21 (mkF m 191 #[.val (.int p0), .val (.int p1), .val (.int p2), .val (.int p3), .val (.int p4), .val (.int (p0 &&& (3 : Int32))), .val (.int ng), .val (.int ((p4 &&& (63 : Int32)) % (63 : Int32))), .val (.long ((1 : Int64) <<< (((p4 &&& (63 : Int32)) % (63 : Int32)) &&& 0x3f).toInt64)), .second, .val (.long tt), .second, .unset, .unset, .unset, .unset, .unset] [(.ref b21)])
            refine own_step (fun _ k => XS.dup X21.here hx rfl (hb hby at_191) rfl rfl k) ?_
            show own_Go p e below P T21 (mkF m 192 #[.val (.int p0), .val (.int p1), .val (.int p2), .val (.int p3), .val (.int p4), .val (.int (p0 &&& (3 : Int32))), .val (.int ng), .val (.int ((p4 &&& (63 : Int32)) % (63 : Int32))), .val (.long ((1 : Int64) <<< (((p4 &&& (63 : Int32)) % (63 : Int32)) &&& 0x3f).toInt64)), .second, .val (.long tt), .second, .unset, .unset, .unset, .unset, .unset] [(.ref b21), (.ref b21)])
            refine own_step (fun _ k => XS.iloadN X21.here hx rfl (hb hby at_192) rfl k) ?_
            show own_Go p e below P T21 (mkF m 193 #[.val (.int p0), .val (.int p1), .val (.int p2), .val (.int p3), .val (.int p4), .val (.int (p0 &&& (3 : Int32))), .val (.int ng), .val (.int ((p4 &&& (63 : Int32)) % (63 : Int32))), .val (.long ((1 : Int64) <<< (((p4 &&& (63 : Int32)) % (63 : Int32)) &&& 0x3f).toInt64)), .second, .val (.long tt), .second, .unset, .unset, .unset, .unset, .unset] [(.int p1), (.ref b21), (.ref b21)])
            refine own_step (fun _ k => XS.i2dS X21.here hx rfl (hb hby at_193) rfl rfl k) ?_
            show own_Go p e below P T21 (mkF m 194 #[.val (.int p0), .val (.int p1), .val (.int p2), .val (.int p3), .val (.int p4), .val (.int (p0 &&& (3 : Int32))), .val (.int ng), .val (.int ((p4 &&& (63 : Int32)) % (63 : Int32))), .val (.long ((1 : Int64) <<< (((p4 &&& (63 : Int32)) % (63 : Int32)) &&& 0x3f).toInt64)), .second, .val (.long tt), .second, .unset, .unset, .unset, .unset, .unset] [(.double (FP.i2d p1)), (.ref b21), (.ref b21)])
            refine own_step (fun _ k => XS.iloadN X21.here hx rfl (hb hby at_194) rfl k) ?_
            show own_Go p e below P T21 (mkF m 195 #[.val (.int p0), .val (.int p1), .val (.int p2), .val (.int p3), .val (.int p4), .val (.int (p0 &&& (3 : Int32))), .val (.int ng), .val (.int ((p4 &&& (63 : Int32)) % (63 : Int32))), .val (.long ((1 : Int64) <<< (((p4 &&& (63 : Int32)) % (63 : Int32)) &&& 0x3f).toInt64)), .second, .val (.long tt), .second, .unset, .unset, .unset, .unset, .unset] [(.int p3), (.double (FP.i2d p1)), (.ref b21), (.ref b21)])
            refine own_step (fun _ k => XS.i2dS X21.here hx rfl (hb hby at_195) rfl rfl k) ?_
            show own_Go p e below P T21 (mkF m 196 #[.val (.int p0), .val (.int p1), .val (.int p2), .val (.int p3), .val (.int p4), .val (.int (p0 &&& (3 : Int32))), .val (.int ng), .val (.int ((p4 &&& (63 : Int32)) % (63 : Int32))), .val (.long ((1 : Int64) <<< (((p4 &&& (63 : Int32)) % (63 : Int32)) &&& 0x3f).toInt64)), .second, .val (.long tt), .second, .unset, .unset, .unset, .unset, .unset] [(.double (FP.i2d p3)), (.double (FP.i2d p1)), (.ref b21), (.ref b21)])
            refine own_step (fun _ k => XS.dconst1 X21.here hx rfl (hb hby at_196) rfl k) ?_
            show own_Go p e below P T21 (mkF m 197 #[.val (.int p0), .val (.int p1), .val (.int p2), .val (.int p3), .val (.int p4), .val (.int (p0 &&& (3 : Int32))), .val (.int ng), .val (.int ((p4 &&& (63 : Int32)) % (63 : Int32))), .val (.long ((1 : Int64) <<< (((p4 &&& (63 : Int32)) % (63 : Int32)) &&& 0x3f).toInt64)), .second, .val (.long tt), .second, .unset, .unset, .unset, .unset, .unset] [(.double FP.dconst1), (.double (FP.i2d p3)), (.double (FP.i2d p1)), (.ref b21), (.ref b21)])
            refine own_step (fun _ k => XS.dconst0 X21.here hx rfl (hb hby at_197) rfl k) ?_
            show own_Go p e below P T21 (mkF m 198 #[.val (.int p0), .val (.int p1), .val (.int p2), .val (.int p3), .val (.int p4), .val (.int (p0 &&& (3 : Int32))), .val (.int ng), .val (.int ((p4 &&& (63 : Int32)) % (63 : Int32))), .val (.long ((1 : Int64) <<< (((p4 &&& (63 : Int32)) % (63 : Int32)) &&& 0x3f).toInt64)), .second, .val (.long tt), .second, .unset, .unset, .unset, .unset, .unset] [(.double FP.dconst0), (.double FP.dconst1), (.double (FP.i2d p3)), (.double (FP.i2d p1)), (.ref b21), (.ref b21)])
            obtain ⟨_, _, ⟨T22, L22, k22, n22⟩, -, X22, ⟨Lc22, hQ22, l22, y22, z22⟩, st22⟩ := X21.specialBack hx (y := (⟨"com/example/equiflow/equiflow/model/Summary", "<init>", "(DDDD)V"⟩ : MethodName)) rfl hown (mvT hZ (hw _ (List.mem_of_getElem? (i := 3) rfl))) (mvT hZ (hw _ (List.mem_of_getElem? (i := 4) rfl))) (mvT hZ (hw _ (List.mem_of_getElem? (i := 5) rfl))) (by decide) (backOf (W := 1) (rm1 l Z a0 hw [] b21 (FP.i2d p1) (FP.i2d p3) FP.dconst1 FP.dconst0 h21 n0 (Nat.le_trans Z0 E21.1) E_b21 F_total_b21 F_min_b21 F_jain_b21 F_gini_b21 g_b21) hZ (hw _ (List.mem_of_getElem? (i := 5) rfl)) (hw _ (List.mem_of_getElem? (i := 2) rfl)) (by decide) (by decide)) (g := (mkF m 198 #[.val (.int p0), .val (.int p1), .val (.int p2), .val (.int p3), .val (.int p4), .val (.int (p0 &&& (3 : Int32))), .val (.int ng), .val (.int ((p4 &&& (63 : Int32)) % (63 : Int32))), .val (.long ((1 : Int64) <<< (((p4 &&& (63 : Int32)) % (63 : Int32)) &&& 0x3f).toInt64)), .second, .val (.long tt), .second, .unset, .unset, .unset, .unset, .unset] [(.double FP.dconst0), (.double FP.dconst1), (.double (FP.i2d p3)), (.double (FP.i2d p1)), (.ref b21), (.ref b21)])) rfl (by rw [hml]; rfl) (Steps.refl _) (a := b21) (argsL := [(.double (FP.i2d p1)), (.double (FP.i2d p3)), (.double FP.dconst1), (.double FP.dconst0)]) (rest := [(.ref b21)]) (lenOf pd__DDDD__V rfl) rfl (by show 2 * 0 + _ ≤ _; exact Nat.le_of_eq rfl) (hb hby at_198) (fun _ _ => ⟨rfl, e21, (by decide : 1 + 0 ≤ _), (by decide : 4 + 0 ≤ _)⟩)
            dsimp only [Pt.U, Pt.locs, Pt.cells, Pt.slots] at X22 l22 y22 z22 st22 hQ22
            subst l22 y22 z22
            obtain ⟨rfl, N22q, K22, E22_o, Fc22_total, Fc22_min, Fc22_jain, Fc22_gini⟩ := hQ22
            have N22 := Fr.app N0 N22q
            refine own_step (fun _ k => st22.trans k) ?_
            show own_Go p e below P T22 (mkF m 201 #[.val (.int p0), .val (.int p1), .val (.int p2), .val (.int p3), .val (.int p4), .val (.int (p0 &&& (3 : Int32))), .val (.int ng), .val (.int ((p4 &&& (63 : Int32)) % (63 : Int32))), .val (.long ((1 : Int64) <<< (((p4 &&& (63 : Int32)) % (63 : Int32)) &&& 0x3f).toInt64)), .second, .val (.long tt), .second, .unset, .unset, .unset, .unset, .unset] [(.ref b21)])
            refine own_step (fun _ k => XS.astore X22.here hx rfl (hb hby at_201) rfl rfl (l' := #[.val (.int p0), .val (.int p1), .val (.int p2), .val (.int p3), .val (.int p4), .val (.int (p0 &&& (3 : Int32))), .val (.int ng), .val (.int ((p4 &&& (63 : Int32)) % (63 : Int32))), .val (.long ((1 : Int64) <<< (((p4 &&& (63 : Int32)) % (63 : Int32)) &&& 0x3f).toInt64)), .second, .val (.long tt), .second, .val (.ref b21), .unset, .unset, .unset, .unset]) rfl k) ?_
            show own_Go p e below P T22 (mkF m 203 #[.val (.int p0), .val (.int p1), .val (.int p2), .val (.int p3), .val (.int p4), .val (.int (p0 &&& (3 : Int32))), .val (.int ng), .val (.int ((p4 &&& (63 : Int32)) % (63 : Int32))), .val (.long ((1 : Int64) <<< (((p4 &&& (63 : Int32)) % (63 : Int32)) &&& 0x3f).toInt64)), .second, .val (.long tt), .second, .val (.ref b21), .unset, .unset, .unset, .unset] [])
            refine own_step (fun _ k => XS.aload X22.here hx rfl (hb hby at_203) rfl rfl k) ?_
            show own_Go p e below P T22 (mkF m 205 #[.val (.int p0), .val (.int p1), .val (.int p2), .val (.int p3), .val (.int p4), .val (.int (p0 &&& (3 : Int32))), .val (.int ng), .val (.int ((p4 &&& (63 : Int32)) % (63 : Int32))), .val (.long ((1 : Int64) <<< (((p4 &&& (63 : Int32)) % (63 : Int32)) &&& 0x3f).toInt64)), .second, .val (.long tt), .second, .val (.ref b21), .unset, .unset, .unset, .unset] [(.ref b21)])
            refine own_step (fun _ k => XS.lload X22.here hx rfl (hb hby at_205) rfl k) ?_
            show own_Go p e below P T22 (mkF m 207 #[.val (.int p0), .val (.int p1), .val (.int p2), .val (.int p3), .val (.int p4), .val (.int (p0 &&& (3 : Int32))), .val (.int ng), .val (.int ((p4 &&& (63 : Int32)) % (63 : Int32))), .val (.long ((1 : Int64) <<< (((p4 &&& (63 : Int32)) % (63 : Int32)) &&& 0x3f).toInt64)), .second, .val (.long tt), .second, .val (.ref b21), .unset, .unset, .unset, .unset] [(.long tt), (.ref b21)])
            refine own_step (fun _ k => XS.l2dS X22.here hx rfl (hb hby at_207) rfl rfl k) ?_
            show own_Go p e below P T22 (mkF m 208 #[.val (.int p0), .val (.int p1), .val (.int p2), .val (.int p3), .val (.int p4), .val (.int (p0 &&& (3 : Int32))), .val (.int ng), .val (.int ((p4 &&& (63 : Int32)) % (63 : Int32))), .val (.long ((1 : Int64) <<< (((p4 &&& (63 : Int32)) % (63 : Int32)) &&& 0x3f).toInt64)), .second, .val (.long tt), .second, .val (.ref b21), .unset, .unset, .unset, .unset] [(.double (FP.l2d tt)), (.ref b21)])
            obtain ⟨cq23, kq23, q23a, q23b, q23c⟩ := isOf hZ rfl E22_o
            obtain ⟨_, _, ⟨T23, L23, k23, n23⟩, -, X23, ⟨Lc23, hQ23, l23, y23, z23⟩, st23⟩ := X22.virtualBack hx (y := (⟨"com/example/equiflow/equiflow/model/Summary", "priceOfFairness", "(D)D"⟩ : MethodName)) (z := (⟨"com/example/equiflow/equiflow/model/Summary", "priceOfFairness", "(D)D"⟩ : MethodName)) hown (mvT hZ (hw _ (List.mem_of_getElem? (i := 22) rfl))) (mvT hZ (hw _ (List.mem_of_getElem? (i := 23) rfl))) (notFace_of_selects (args := #[]) (mvT hZ (hw _ (List.mem_of_getElem? (i := 25) rfl)))) (mvT hZ (hw _ (List.mem_of_getElem? (i := 25) rfl))) (mvT hZ (hw _ (List.mem_of_getElem? (i := 24) rfl))) (by decide) (backOf (W := 0) (rm4 l Z a0 hw [] b21 (FP.l2d tt) (FP.i2d p1) T22.heap n0 (Nat.le_trans (Nat.le_trans Z0 E21.1) K22.1) Fc22_total (i2d_fin _) (l2d_fin _)) hZ (hw _ (List.mem_of_getElem? (i := 26) rfl)) (hw _ (List.mem_of_getElem? (i := 2) rfl)) (by decide) (by decide)) q23a q23c (g := (mkF m 208 #[.val (.int p0), .val (.int p1), .val (.int p2), .val (.int p3), .val (.int p4), .val (.int (p0 &&& (3 : Int32))), .val (.int ng), .val (.int ((p4 &&& (63 : Int32)) % (63 : Int32))), .val (.long ((1 : Int64) <<< (((p4 &&& (63 : Int32)) % (63 : Int32)) &&& 0x3f).toInt64)), .second, .val (.long tt), .second, .val (.ref b21), .unset, .unset, .unset, .unset] [(.double (FP.l2d tt)), (.ref b21)])) rfl (by rw [hml]; rfl) (Steps.refl _) (argsL := [(.double (FP.l2d tt))]) (rest := []) (lenOf pd__D__D rfl) rfl (by show 2 * 0 + _ ≤ _; exact Nat.le_of_eq rfl) (hb hby at_208) (fun _ _ => ⟨rfl, rfl, (by decide : 1 + 0 ≤ _), (by decide : 4 + 0 ≤ _)⟩)
            dsimp only [Pt.U, Pt.locs, Pt.cells, Pt.slots] at X23 l23 y23 z23 st23 hQ23
            subst l23 y23 z23
            obtain ⟨rfl, N23q, e23⟩ := hQ23
            have N23 := Fr.app N22 N23q
            refine own_step (fun _ k => st23.trans k) ?_
            show own_Go p e below P T23 (mkF m 211 #[.val (.int p0), .val (.int p1), .val (.int p2), .val (.int p3), .val (.int p4), .val (.int (p0 &&& (3 : Int32))), .val (.int ng), .val (.int ((p4 &&& (63 : Int32)) % (63 : Int32))), .val (.long ((1 : Int64) <<< (((p4 &&& (63 : Int32)) % (63 : Int32)) &&& 0x3f).toInt64)), .second, .val (.long tt), .second, .val (.ref b21), .unset, .unset, .unset, .unset] [(.double (own_pf (FP.i2d p1) (FP.l2d tt)))])
            refine own_step (fun _ k => XS.dstore X23.here hx rfl (hb hby at_211) rfl (l' := #[.val (.int p0), .val (.int p1), .val (.int p2), .val (.int p3), .val (.int p4), .val (.int (p0 &&& (3 : Int32))), .val (.int ng), .val (.int ((p4 &&& (63 : Int32)) % (63 : Int32))), .val (.long ((1 : Int64) <<< (((p4 &&& (63 : Int32)) % (63 : Int32)) &&& 0x3f).toInt64)), .second, .val (.long tt), .second, .val (.ref b21), .val (.double (own_pf (FP.i2d p1) (FP.l2d tt))), .second, .unset, .unset]) rfl k) ?_
            show own_Go p e below P T23 (mkF m 213 #[.val (.int p0), .val (.int p1), .val (.int p2), .val (.int p3), .val (.int p4), .val (.int (p0 &&& (3 : Int32))), .val (.int ng), .val (.int ((p4 &&& (63 : Int32)) % (63 : Int32))), .val (.long ((1 : Int64) <<< (((p4 &&& (63 : Int32)) % (63 : Int32)) &&& 0x3f).toInt64)), .second, .val (.long tt), .second, .val (.ref b21), .val (.double (own_pf (FP.i2d p1) (FP.l2d tt))), .second, .unset, .unset] [])
            refine own_step (fun _ k => XS.dload X23.here hx rfl (hb hby at_213) rfl k) ?_
            show own_Go p e below P T23 (mkF m 215 #[.val (.int p0), .val (.int p1), .val (.int p2), .val (.int p3), .val (.int p4), .val (.int (p0 &&& (3 : Int32))), .val (.int ng), .val (.int ((p4 &&& (63 : Int32)) % (63 : Int32))), .val (.long ((1 : Int64) <<< (((p4 &&& (63 : Int32)) % (63 : Int32)) &&& 0x3f).toInt64)), .second, .val (.long tt), .second, .val (.ref b21), .val (.double (own_pf (FP.i2d p1) (FP.l2d tt))), .second, .unset, .unset] [(.double (own_pf (FP.i2d p1) (FP.l2d tt)))])
            refine own_step (fun _ k => XS.lload X23.here hx rfl (hb hby at_215) rfl k) ?_
            show own_Go p e below P T23 (mkF m 217 #[.val (.int p0), .val (.int p1), .val (.int p2), .val (.int p3), .val (.int p4), .val (.int (p0 &&& (3 : Int32))), .val (.int ng), .val (.int ((p4 &&& (63 : Int32)) % (63 : Int32))), .val (.long ((1 : Int64) <<< (((p4 &&& (63 : Int32)) % (63 : Int32)) &&& 0x3f).toInt64)), .second, .val (.long tt), .second, .val (.ref b21), .val (.double (own_pf (FP.i2d p1) (FP.l2d tt))), .second, .unset, .unset] [(.long tt), (.double (own_pf (FP.i2d p1) (FP.l2d tt)))])
            refine own_step (fun _ k => XS.l2dS X23.here hx rfl (hb hby at_217) rfl rfl k) ?_
            show own_Go p e below P T23 (mkF m 218 #[.val (.int p0), .val (.int p1), .val (.int p2), .val (.int p3), .val (.int p4), .val (.int (p0 &&& (3 : Int32))), .val (.int ng), .val (.int ((p4 &&& (63 : Int32)) % (63 : Int32))), .val (.long ((1 : Int64) <<< (((p4 &&& (63 : Int32)) % (63 : Int32)) &&& 0x3f).toInt64)), .second, .val (.long tt), .second, .val (.ref b21), .val (.double (own_pf (FP.i2d p1) (FP.l2d tt))), .second, .unset, .unset] [(.double (FP.l2d tt)), (.double (own_pf (FP.i2d p1) (FP.l2d tt)))])
            refine own_step (fun _ k => XS.dmulS X23.here hx rfl (hb hby at_218) rfl (by rw [own_case2 hjJ186_20_0 p1]; exact own_nn2 tt p1) (own_case2 hjJ186_20_0 p1) k) ?_
            show own_Go p e below P T23 (mkF m 219 #[.val (.int p0), .val (.int p1), .val (.int p2), .val (.int p3), .val (.int p4), .val (.int (p0 &&& (3 : Int32))), .val (.int ng), .val (.int ((p4 &&& (63 : Int32)) % (63 : Int32))), .val (.long ((1 : Int64) <<< (((p4 &&& (63 : Int32)) % (63 : Int32)) &&& 0x3f).toInt64)), .second, .val (.long tt), .second, .val (.ref b21), .val (.double (own_pf (FP.i2d p1) (FP.l2d tt))), .second, .unset, .unset] [(.double (FP.dsub (FP.l2d tt) (FP.i2d p1)))])
            refine own_step (fun _ k => XS.lload X23.here hx rfl (hb hby at_219) rfl k) ?_
            show own_Go p e below P T23 (mkF m 221 #[.val (.int p0), .val (.int p1), .val (.int p2), .val (.int p3), .val (.int p4), .val (.int (p0 &&& (3 : Int32))), .val (.int ng), .val (.int ((p4 &&& (63 : Int32)) % (63 : Int32))), .val (.long ((1 : Int64) <<< (((p4 &&& (63 : Int32)) % (63 : Int32)) &&& 0x3f).toInt64)), .second, .val (.long tt), .second, .val (.ref b21), .val (.double (own_pf (FP.i2d p1) (FP.l2d tt))), .second, .unset, .unset] [(.long tt), (.double (FP.dsub (FP.l2d tt) (FP.i2d p1)))])
            refine own_step (fun _ k => XS.l2dS X23.here hx rfl (hb hby at_221) rfl rfl k) ?_
            show own_Go p e below P T23 (mkF m 222 #[.val (.int p0), .val (.int p1), .val (.int p2), .val (.int p3), .val (.int p4), .val (.int (p0 &&& (3 : Int32))), .val (.int ng), .val (.int ((p4 &&& (63 : Int32)) % (63 : Int32))), .val (.long ((1 : Int64) <<< (((p4 &&& (63 : Int32)) % (63 : Int32)) &&& 0x3f).toInt64)), .second, .val (.long tt), .second, .val (.ref b21), .val (.double (own_pf (FP.i2d p1) (FP.l2d tt))), .second, .unset, .unset] [(.double (FP.l2d tt)), (.double (FP.dsub (FP.l2d tt) (FP.i2d p1)))])
            refine own_step (fun _ k => XS.iloadN X23.here hx rfl (hb hby at_222) rfl k) ?_
            show own_Go p e below P T23 (mkF m 223 #[.val (.int p0), .val (.int p1), .val (.int p2), .val (.int p3), .val (.int p4), .val (.int (p0 &&& (3 : Int32))), .val (.int ng), .val (.int ((p4 &&& (63 : Int32)) % (63 : Int32))), .val (.long ((1 : Int64) <<< (((p4 &&& (63 : Int32)) % (63 : Int32)) &&& 0x3f).toInt64)), .second, .val (.long tt), .second, .val (.ref b21), .val (.double (own_pf (FP.i2d p1) (FP.l2d tt))), .second, .unset, .unset] [(.int p1), (.double (FP.l2d tt)), (.double (FP.dsub (FP.l2d tt) (FP.i2d p1)))])
            refine own_step (fun _ k => XS.i2dS X23.here hx rfl (hb hby at_223) rfl rfl k) ?_
            show own_Go p e below P T23 (mkF m 224 #[.val (.int p0), .val (.int p1), .val (.int p2), .val (.int p3), .val (.int p4), .val (.int (p0 &&& (3 : Int32))), .val (.int ng), .val (.int ((p4 &&& (63 : Int32)) % (63 : Int32))), .val (.long ((1 : Int64) <<< (((p4 &&& (63 : Int32)) % (63 : Int32)) &&& 0x3f).toInt64)), .second, .val (.long tt), .second, .val (.ref b21), .val (.double (own_pf (FP.i2d p1) (FP.l2d tt))), .second, .unset, .unset] [(.double (FP.i2d p1)), (.double (FP.l2d tt)), (.double (FP.dsub (FP.l2d tt) (FP.i2d p1)))])
            refine own_step (fun _ k => XS.dsubS X23.here hx rfl (hb hby at_224) rfl (own_nn2 tt p1) rfl k) ?_
            show own_Go p e below P T23 (mkF m 225 #[.val (.int p0), .val (.int p1), .val (.int p2), .val (.int p3), .val (.int p4), .val (.int (p0 &&& (3 : Int32))), .val (.int ng), .val (.int ((p4 &&& (63 : Int32)) % (63 : Int32))), .val (.long ((1 : Int64) <<< (((p4 &&& (63 : Int32)) % (63 : Int32)) &&& 0x3f).toInt64)), .second, .val (.long tt), .second, .val (.ref b21), .val (.double (own_pf (FP.i2d p1) (FP.l2d tt))), .second, .unset, .unset] [(.double (FP.dsub (FP.l2d tt) (FP.i2d p1))), (.double (FP.dsub (FP.l2d tt) (FP.i2d p1)))])
            refine own_step (fun _ k => XS.dcmpS X23.here hx rfl (hb hby at_225) rfl (dcmpV_self (own_nn2 tt p1) .l) k) ?_
            show own_Go p e below P T23 (mkF m 226 #[.val (.int p0), .val (.int p1), .val (.int p2), .val (.int p3), .val (.int p4), .val (.int (p0 &&& (3 : Int32))), .val (.int ng), .val (.int ((p4 &&& (63 : Int32)) % (63 : Int32))), .val (.long ((1 : Int64) <<< (((p4 &&& (63 : Int32)) % (63 : Int32)) &&& 0x3f).toInt64)), .second, .val (.long tt), .second, .val (.ref b21), .val (.double (own_pf (FP.i2d p1) (FP.l2d tt))), .second, .unset, .unset] [(.int (0 : Int32))])
            refine own_step (fun _ k => XS.ifNo X23.here hx rfl (hb hby at_226) rfl ((if0 _ _).trans (teq (rfl : (0 : Int32) = (0 : Int32))).2) k) ?_
            show own_Go p e below P T23 (mkF m 229 #[.val (.int p0), .val (.int p1), .val (.int p2), .val (.int p3), .val (.int p4), .val (.int (p0 &&& (3 : Int32))), .val (.int ng), .val (.int ((p4 &&& (63 : Int32)) % (63 : Int32))), .val (.long ((1 : Int64) <<< (((p4 &&& (63 : Int32)) % (63 : Int32)) &&& 0x3f).toInt64)), .second, .val (.long tt), .second, .val (.ref b21), .val (.double (own_pf (FP.i2d p1) (FP.l2d tt))), .second, .unset, .unset] [])
            refine own_step (fun _ k => XS.iconst X23.here hx rfl (hb hby at_229) k) ?_
            show own_Go p e below P T23 (mkF m 230 #[.val (.int p0), .val (.int p1), .val (.int p2), .val (.int p3), .val (.int p4), .val (.int (p0 &&& (3 : Int32))), .val (.int ng), .val (.int ((p4 &&& (63 : Int32)) % (63 : Int32))), .val (.long ((1 : Int64) <<< (((p4 &&& (63 : Int32)) % (63 : Int32)) &&& 0x3f).toInt64)), .second, .val (.long tt), .second, .val (.ref b21), .val (.double (own_pf (FP.i2d p1) (FP.l2d tt))), .second, .unset, .unset] [(.int (1 : Int32))])
            refine own_step (fun _ k => XS.goto X23.here hx rfl (pc0 := 230) (pc' := 234) rfl (hb hby at_230) (by decide) (by decide) k) ?_
            show own_Go p e below P T23 (mkF m 234 #[.val (.int p0), .val (.int p1), .val (.int p2), .val (.int p3), .val (.int p4), .val (.int (p0 &&& (3 : Int32))), .val (.int ng), .val (.int ((p4 &&& (63 : Int32)) % (63 : Int32))), .val (.long ((1 : Int64) <<< (((p4 &&& (63 : Int32)) % (63 : Int32)) &&& 0x3f).toInt64)), .second, .val (.long tt), .second, .val (.ref b21), .val (.double (own_pf (FP.i2d p1) (FP.l2d tt))), .second, .unset, .unset] [(.int (1 : Int32))])
            obtain ⟨fs, hr, hrun, hended, hW, hsame⟩ := X23.leave (v := some (.int (1 : Int32))) (fun h => by rw [Bd.returns] at h; cases h)
            refine ⟨_, _, retN X23 hx (t := .boolean) Bd.returns (by simp) (hb hby at_234) hr, hrun, hended, hfin _ _ ⟨_, _, rfl, ?_, ⟨_, rfl⟩, hW, hsame.mono (by decide) (by decide)⟩⟩
            show Q0 Z p0 p1 p2 p3 p4 h0 n0 (some (.int (1 : Int32))) T23.heap _
            rw [e23]
            exact ⟨rfl, N23⟩
          refine own_step (fun _ k => XS.iload X0.here hx rfl (hb hby at_173) rfl k) ?_
          show own_Go p e below P s₁ (mkF m 175 #[.val (.int p0), .val (.int p1), .val (.int p2), .val (.int p3), .val (.int p4), .val (.int (p0 &&& (3 : Int32))), .val (.int ng), .val (.int ((p4 &&& (63 : Int32)) % (63 : Int32))), .val (.long ((1 : Int64) <<< (((p4 &&& (63 : Int32)) % (63 : Int32)) &&& 0x3f).toInt64)), .second, .unset, .unset, .unset, .unset, .unset, .unset, .unset] [(.int ng)])
          by_cases hc25 : ng = (0 : Int32)
          · refine own_step (fun _ k => XS.ifYes X0.here hx rfl (pc0 := 175) (pc' := 184) rfl (hb hby at_175) rfl ((if0 _ _).trans (teq hc25).1) (by decide) (by decide) k) ?_
            show own_Go p e below P s₁ (mkF m 184 #[.val (.int p0), .val (.int p1), .val (.int p2), .val (.int p3), .val (.int p4), .val (.int (p0 &&& (3 : Int32))), .val (.int ng), .val (.int ((p4 &&& (63 : Int32)) % (63 : Int32))), .val (.long ((1 : Int64) <<< (((p4 &&& (63 : Int32)) % (63 : Int32)) &&& 0x3f).toInt64)), .second, .unset, .unset, .unset, .unset, .unset, .unset, .unset] [])
            refine own_step (fun _ k => XS.lload X0.here hx rfl (hb hby at_184) rfl k) ?_
            show own_Go p e below P s₁ (mkF m 186 #[.val (.int p0), .val (.int p1), .val (.int p2), .val (.int p3), .val (.int p4), .val (.int (p0 &&& (3 : Int32))), .val (.int ng), .val (.int ((p4 &&& (63 : Int32)) % (63 : Int32))), .val (.long ((1 : Int64) <<< (((p4 &&& (63 : Int32)) % (63 : Int32)) &&& 0x3f).toInt64)), .second, .unset, .unset, .unset, .unset, .unset, .unset, .unset] [(.long ((1 : Int64) <<< (((p4 &&& (63 : Int32)) % (63 : Int32)) &&& 0x3f).toInt64))])
            exact J186_20 ((1 : Int64) <<< (((p4 &&& (63 : Int32)) % (63 : Int32)) &&& 0x3f).toInt64) (own_Pp p4)
          · refine own_step (fun _ k => XS.ifNo X0.here hx rfl (hb hby at_175) rfl ((if0 _ _).trans (feq hc25).1) k) ?_
            show own_Go p e below P s₁ (mkF m 178 #[.val (.int p0), .val (.int p1), .val (.int p2), .val (.int p3), .val (.int p4), .val (.int (p0 &&& (3 : Int32))), .val (.int ng), .val (.int ((p4 &&& (63 : Int32)) % (63 : Int32))), .val (.long ((1 : Int64) <<< (((p4 &&& (63 : Int32)) % (63 : Int32)) &&& 0x3f).toInt64)), .second, .unset, .unset, .unset, .unset, .unset, .unset, .unset] [])
            refine own_step (fun _ k => XS.lload X0.here hx rfl (hb hby at_178) rfl k) ?_
            show own_Go p e below P s₁ (mkF m 180 #[.val (.int p0), .val (.int p1), .val (.int p2), .val (.int p3), .val (.int p4), .val (.int (p0 &&& (3 : Int32))), .val (.int ng), .val (.int ((p4 &&& (63 : Int32)) % (63 : Int32))), .val (.long ((1 : Int64) <<< (((p4 &&& (63 : Int32)) % (63 : Int32)) &&& 0x3f).toInt64)), .second, .unset, .unset, .unset, .unset, .unset, .unset, .unset] [(.long ((1 : Int64) <<< (((p4 &&& (63 : Int32)) % (63 : Int32)) &&& 0x3f).toInt64))])
            refine own_step (fun _ k => XS.lneg X0.here hx rfl (hb hby at_180) rfl k) ?_
            show own_Go p e below P s₁ (mkF m 181 #[.val (.int p0), .val (.int p1), .val (.int p2), .val (.int p3), .val (.int p4), .val (.int (p0 &&& (3 : Int32))), .val (.int ng), .val (.int ((p4 &&& (63 : Int32)) % (63 : Int32))), .val (.long ((1 : Int64) <<< (((p4 &&& (63 : Int32)) % (63 : Int32)) &&& 0x3f).toInt64)), .second, .unset, .unset, .unset, .unset, .unset, .unset, .unset] [(.long (-((1 : Int64) <<< (((p4 &&& (63 : Int32)) % (63 : Int32)) &&& 0x3f).toInt64)))])
            refine own_step (fun _ k => XS.goto X0.here hx rfl (pc0 := 181) (pc' := 186) rfl (hb hby at_181) (by decide) (by decide) k) ?_
            show own_Go p e below P s₁ (mkF m 186 #[.val (.int p0), .val (.int p1), .val (.int p2), .val (.int p3), .val (.int p4), .val (.int (p0 &&& (3 : Int32))), .val (.int ng), .val (.int ((p4 &&& (63 : Int32)) % (63 : Int32))), .val (.long ((1 : Int64) <<< (((p4 &&& (63 : Int32)) % (63 : Int32)) &&& 0x3f).toInt64)), .second, .unset, .unset, .unset, .unset, .unset, .unset, .unset] [(.long (-((1 : Int64) <<< (((p4 &&& (63 : Int32)) % (63 : Int32)) &&& 0x3f).toInt64)))])
            exact J186_20 (-((1 : Int64) <<< (((p4 &&& (63 : Int32)) % (63 : Int32)) &&& 0x3f).toInt64)) (own_Pn p4)
        · refine own_step (fun _ k => XS.icmpYes X0.here hx rfl (pc0 := 154) (pc' := 235) rfl (hb hby at_154) rfl (feq hc19).2 (by decide) (by decide) k) ?_
          show own_Go p e below P s₁ (mkF m 235 #[.val (.int p0), .val (.int p1), .val (.int p2), .val (.int p3), .val (.int p4), .val (.int (p0 &&& (3 : Int32))), .val (.int ng), .unset, .unset, .unset, .unset, .unset, .unset, .unset, .unset, .unset, .unset] [])
          have J245_26 : ∀ (tt : Int64), (own_T tt) → own_Go p e below P s₁ (mkF m 245 #[.val (.int p0), .val (.int p1), .val (.int p2), .val (.int p3), .val (.int p4), .val (.int (p0 &&& (3 : Int32))), .val (.int ng), .unset, .unset, .unset, .unset, .unset, .unset, .unset, .unset, .unset, .unset] [(.long tt)]) := by
            intro tt hjJ245_26_0
            refine own_step (fun _ k => XS.lstore X0.here hx rfl (hb hby at_245) rfl (l' := #[.val (.int p0), .val (.int p1), .val (.int p2), .val (.int p3), .val (.int p4), .val (.int (p0 &&& (3 : Int32))), .val (.int ng), .val (.long tt), .second, .unset, .unset, .unset, .unset, .unset, .unset, .unset, .unset]) rfl k) ?_
            show own_Go p e below P s₁ (mkF m 247 #[.val (.int p0), .val (.int p1), .val (.int p2), .val (.int p3), .val (.int p4), .val (.int (p0 &&& (3 : Int32))), .val (.int ng), .val (.long tt), .second, .unset, .unset, .unset, .unset, .unset, .unset, .unset, .unset] [])
            refine own_step (fun _ k => XS.iloadN X0.here hx rfl (hb hby at_247) rfl k) ?_
            show own_Go p e below P s₁ (mkF m 248 #[.val (.int p0), .val (.int p1), .val (.int p2), .val (.int p3), .val (.int p4), .val (.int (p0 &&& (3 : Int32))), .val (.int ng), .val (.long tt), .second, .unset, .unset, .unset, .unset, .unset, .unset, .unset, .unset] [(.int p1)])
            refine own_step (fun _ k => XS.iloadN X0.here hx rfl (hb hby at_248) rfl k) ?_
            show own_Go p e below P s₁ (mkF m 249 #[.val (.int p0), .val (.int p1), .val (.int p2), .val (.int p3), .val (.int p4), .val (.int (p0 &&& (3 : Int32))), .val (.int ng), .val (.long tt), .second, .unset, .unset, .unset, .unset, .unset, .unset, .unset, .unset] [(.int p3), (.int p1)])
            obtain ⟨_, _, ⟨T27, L27, k27, n27⟩, -, X27, ⟨Lc27, hQ27, l27, y27, z27⟩, st27⟩ := Jvm.LawKit.callS X0 hx (y := (⟨"java/lang/Math", "min", "(II)I"⟩ : MethodName)) hown (mvT hZ (hw _ (List.mem_of_getElem? (i := 27) rfl))) (mvT hZ (hw _ (List.mem_of_getElem? (i := 28) rfl))) (mvT hZ (hw _ (List.mem_of_getElem? (i := 29) rfl))) (mvT hZ (hw _ (List.mem_of_getElem? (i := 30) rfl))) (by decide) (backOf (W := 0) (rm5 l Z a0 hw [] p1 p3 h0 n0 Z0) hZ (hw _ (List.mem_of_getElem? (i := 30) rfl)) (hw _ (List.mem_of_getElem? (i := 29) rfl)) (by decide) (by decide)) (g := (mkF m 249 #[.val (.int p0), .val (.int p1), .val (.int p2), .val (.int p3), .val (.int p4), .val (.int (p0 &&& (3 : Int32))), .val (.int ng), .val (.long tt), .second, .unset, .unset, .unset, .unset, .unset, .unset, .unset, .unset] [(.int p3), (.int p1)])) rfl (by rw [hml]; rfl) (argsL := [(.int p1), (.int p3)]) (rest := []) (lenOf pd__II__I rfl) rfl (by show 2 * 0 + _ ≤ _; exact Nat.le_of_eq rfl) (hb hby at_249) (fun _ _ => ⟨rfl, e0, (by decide : 0 + 0 ≤ _), (by decide : 0 + 0 ≤ _)⟩)
            dsimp only [Pt.U, Pt.locs, Pt.cells, Pt.slots] at X27 l27 y27 z27 st27 hQ27
            subst l27 y27 z27
            obtain ⟨rfl, N27q, e27⟩ := hQ27
            have N27 := Fr.app N0 N27q
            refine own_step st27 ?_
            show own_Go p e below P T27 (mkF m 252 #[.val (.int p0), .val (.int p1), .val (.int p2), .val (.int p3), .val (.int p4), .val (.int (p0 &&& (3 : Int32))), .val (.int ng), .val (.long tt), .second, .unset, .unset, .unset, .unset, .unset, .unset, .unset, .unset] [(.int (if p3 < p1 then p3 else p1))])
            refine own_step (fun _ k => XS.istore X27.here hx rfl (hb hby at_252) rfl (l' := #[.val (.int p0), .val (.int p1), .val (.int p2), .val (.int p3), .val (.int p4), .val (.int (p0 &&& (3 : Int32))), .val (.int ng), .val (.long tt), .second, .val (.int (if p3 < p1 then p3 else p1)), .unset, .unset, .unset, .unset, .unset, .unset, .unset]) rfl k) ?_
            show own_Go p e below P T27 (mkF m 254 #[.val (.int p0), .val (.int p1), .val (.int p2), .val (.int p3), .val (.int p4), .val (.int (p0 &&& (3 : Int32))), .val (.int ng), .val (.long tt), .second, .val (.int (if p3 < p1 then p3 else p1)), .unset, .unset, .unset, .unset, .unset, .unset, .unset] [])
            refine own_step (fun _ k => XS.iloadN X27.here hx rfl (hb hby at_254) rfl k) ?_
            show own_Go p e below P T27 (mkF m 255 #[.val (.int p0), .val (.int p1), .val (.int p2), .val (.int p3), .val (.int p4), .val (.int (p0 &&& (3 : Int32))), .val (.int ng), .val (.long tt), .second, .val (.int (if p3 < p1 then p3 else p1)), .unset, .unset, .unset, .unset, .unset, .unset, .unset] [(.int p1)])
            refine own_step (fun _ k => XS.iloadN X27.here hx rfl (hb hby at_255) rfl k) ?_
            show own_Go p e below P T27 (mkF m 256 #[.val (.int p0), .val (.int p1), .val (.int p2), .val (.int p3), .val (.int p4), .val (.int (p0 &&& (3 : Int32))), .val (.int ng), .val (.long tt), .second, .val (.int (if p3 < p1 then p3 else p1)), .unset, .unset, .unset, .unset, .unset, .unset, .unset] [(.int p3), (.int p1)])
            obtain ⟨_, _, ⟨T28, L28, k28, n28⟩, -, X28, ⟨Lc28, hQ28, l28, y28, z28⟩, st28⟩ := Jvm.LawKit.callS X27 hx (y := (⟨"java/lang/Math", "max", "(II)I"⟩ : MethodName)) hown (mvT hZ (hw _ (List.mem_of_getElem? (i := 31) rfl))) (mvT hZ (hw _ (List.mem_of_getElem? (i := 32) rfl))) (mvT hZ (hw _ (List.mem_of_getElem? (i := 29) rfl))) (mvT hZ (hw _ (List.mem_of_getElem? (i := 33) rfl))) (by decide) (backOf (W := 0) (rm6 l Z a0 hw [] p1 p3 h0 n0 Z0) hZ (hw _ (List.mem_of_getElem? (i := 33) rfl)) (hw _ (List.mem_of_getElem? (i := 29) rfl)) (by decide) (by decide)) (g := (mkF m 256 #[.val (.int p0), .val (.int p1), .val (.int p2), .val (.int p3), .val (.int p4), .val (.int (p0 &&& (3 : Int32))), .val (.int ng), .val (.long tt), .second, .val (.int (if p3 < p1 then p3 else p1)), .unset, .unset, .unset, .unset, .unset, .unset, .unset] [(.int p3), (.int p1)])) rfl (by rw [hml]; rfl) (argsL := [(.int p1), (.int p3)]) (rest := []) (lenOf pd__II__I rfl) rfl (by show 2 * 0 + _ ≤ _; exact Nat.le_of_eq rfl) (hb hby at_256) (fun _ _ => ⟨rfl, e27, (by decide : 0 + 0 ≤ _), (by decide : 0 + 0 ≤ _)⟩)
            dsimp only [Pt.U, Pt.locs, Pt.cells, Pt.slots] at X28 l28 y28 z28 st28 hQ28
            subst l28 y28 z28
            obtain ⟨rfl, N28q, e28⟩ := hQ28
            have N28 := Fr.app N27 N28q
            refine own_step st28 ?_
            show own_Go p e below P T28 (mkF m 259 #[.val (.int p0), .val (.int p1), .val (.int p2), .val (.int p3), .val (.int p4), .val (.int (p0 &&& (3 : Int32))), .val (.int ng), .val (.long tt), .second, .val (.int (if p3 < p1 then p3 else p1)), .unset, .unset, .unset, .unset, .unset, .unset, .unset] [(.int (if p1 < p3 then p3 else p1))])
            refine own_step (fun _ k => XS.istore X28.here hx rfl (hb hby at_259) rfl (l' := #[.val (.int p0), .val (.int p1), .val (.int p2), .val (.int p3), .val (.int p4), .val (.int (p0 &&& (3 : Int32))), .val (.int ng), .val (.long tt), .second, .val (.int (if p3 < p1 then p3 else p1)), .val (.int (if p1 < p3 then p3 else p1)), .unset, .unset, .unset, .unset, .unset, .unset]) rfl k) ?_
            show own_Go p e below P T28 (mkF m 261 #[.val (.int p0), .val (.int p1), .val (.int p2), .val (.int p3), .val (.int p4), .val (.int (p0 &&& (3 : Int32))), .val (.int ng), .val (.long tt), .second, .val (.int (if p3 < p1 then p3 else p1)), .val (.int (if p1 < p3 then p3 else p1)), .unset, .unset, .unset, .unset, .unset, .unset] [])
            obtain ⟨T29, h29, X29, e29, E29, A29, D29, -, st29⟩ := newO X28 hx hZ hown (hw _ (List.mem_of_getElem? (i := 0) rfl)) (hw _ (List.mem_of_getElem? (i := 1) rfl)) (hw _ (List.mem_of_getElem? (i := 2) rfl)) e28 (g := (mkF m 261 #[.val (.int p0), .val (.int p1), .val (.int p2), .val (.int p3), .val (.int p4), .val (.int (p0 &&& (3 : Int32))), .val (.int ng), .val (.long tt), .second, .val (.int (if p3 < p1 then p3 else p1)), .val (.int (if p1 < p3 then p3 else p1)), .unset, .unset, .unset, .unset, .unset, .unset] [])) rfl (hb hby at_261) (by decide) (by decide)
            obtain ⟨b29, g29⟩ : ∃ z, z = h0.size := ⟨_, rfl⟩
            rw [← g29] at A29 D29 st29
            have g_b29 : n0 ≤ b29 := Nat.le_trans Z0 (Nat.le_of_eq g29.symm)
            have sz_b29 : h0.size ≤ b29 := Nat.le_trans (Keep.refl h0 []).1 (Nat.le_of_eq g29.symm)
            have E_b29 := A29
            have F_total_b29 : Fld Z h29 b29 "com/example/equiflow/equiflow/model/Summary" "total" "D" (.double (0 : UInt64)) := D29 (Or.inr (hw _ (List.mem_of_getElem? (i := 15) rfl))) (ty := .double) (by decide)
            have F_min_b29 : Fld Z h29 b29 "com/example/equiflow/equiflow/model/Summary" "min" "D" (.double (0 : UInt64)) := D29 (Or.inr (hw _ (List.mem_of_getElem? (i := 17) rfl))) (ty := .double) (by decide)
            have F_jain_b29 : Fld Z h29 b29 "com/example/equiflow/equiflow/model/Summary" "jain" "D" (.double (0 : UInt64)) := D29 (Or.inr (hw _ (List.mem_of_getElem? (i := 19) rfl))) (ty := .double) (by decide)
            have F_gini_b29 : Fld Z h29 b29 "com/example/equiflow/equiflow/model/Summary" "gini" "D" (.double (0 : UInt64)) := D29 (Or.inr (hw _ (List.mem_of_getElem? (i := 21) rfl))) (ty := .double) (by decide)
            refine own_step st29 ?_
            show own_Go p e below P T29 (mkF m 264 #[.val (.int p0), .val (.int p1), .val (.int p2), .val (.int p3), .val (.int p4), .val (.int (p0 &&& (3 : Int32))), .val (.int ng), .val (.long tt), .second, .val (.int (if p3 < p1 then p3 else p1)), .val (.int (if p1 < p3 then p3 else p1)), .unset, .unset, .unset, .unset, .unset, .unset] [(.ref b29)])
            refine own_step (fun _ k => XS.dup X29.here hx rfl (hb hby at_264) rfl rfl k) ?_
            show own_Go p e below P T29 (mkF m 265 #[.val (.int p0), .val (.int p1), .val (.int p2), .val (.int p3), .val (.int p4), .val (.int (p0 &&& (3 : Int32))), .val (.int ng), .val (.long tt), .second, .val (.int (if p3 < p1 then p3 else p1)), .val (.int (if p1 < p3 then p3 else p1)), .unset, .unset, .unset, .unset, .unset, .unset] [(.ref b29), (.ref b29)])
            refine own_step (fun _ k => XS.iload X29.here hx rfl (hb hby at_265) rfl k) ?_
            show own_Go p e below P T29 (mkF m 267 #[.val (.int p0), .val (.int p1), .val (.int p2), .val (.int p3), .val (.int p4), .val (.int (p0 &&& (3 : Int32))), .val (.int ng), .val (.long tt), .second, .val (.int (if p3 < p1 then p3 else p1)), .val (.int (if p1 < p3 then p3 else p1)), .unset, .unset, .unset, .unset, .unset, .unset] [(.int (if p3 < p1 then p3 else p1)), (.ref b29), (.ref b29)])
            refine own_step (fun _ k => XS.i2dS X29.here hx rfl (hb hby at_267) rfl rfl k) ?_
            show own_Go p e below P T29 (mkF m 268 #[.val (.int p0), .val (.int p1), .val (.int p2), .val (.int p3), .val (.int p4), .val (.int (p0 &&& (3 : Int32))), .val (.int ng), .val (.long tt), .second, .val (.int (if p3 < p1 then p3 else p1)), .val (.int (if p1 < p3 then p3 else p1)), .unset, .unset, .unset, .unset, .unset, .unset] [(.double (FP.i2d (if p3 < p1 then p3 else p1))), (.ref b29), (.ref b29)])
            refine own_step (fun _ k => XS.dconst0 X29.here hx rfl (hb hby at_268) rfl k) ?_
            show own_Go p e below P T29 (mkF m 269 #[.val (.int p0), .val (.int p1), .val (.int p2), .val (.int p3), .val (.int p4), .val (.int (p0 &&& (3 : Int32))), .val (.int ng), .val (.long tt), .second, .val (.int (if p3 < p1 then p3 else p1)), .val (.int (if p1 < p3 then p3 else p1)), .unset, .unset, .unset, .unset, .unset, .unset] [(.double FP.dconst0), (.double (FP.i2d (if p3 < p1 then p3 else p1))), (.ref b29), (.ref b29)])
            refine own_step (fun _ k => XS.dconst1 X29.here hx rfl (hb hby at_269) rfl k) ?_
            show own_Go p e below P T29 (mkF m 270 #[.val (.int p0), .val (.int p1), .val (.int p2), .val (.int p3), .val (.int p4), .val (.int (p0 &&& (3 : Int32))), .val (.int ng), .val (.long tt), .second, .val (.int (if p3 < p1 then p3 else p1)), .val (.int (if p1 < p3 then p3 else p1)), .unset, .unset, .unset, .unset, .unset, .unset] [(.double FP.dconst1), (.double FP.dconst0), (.double (FP.i2d (if p3 < p1 then p3 else p1))), (.ref b29), (.ref b29)])
            refine own_step (fun _ k => XS.dconst0 X29.here hx rfl (hb hby at_270) rfl k) ?_
            show own_Go p e below P T29 (mkF m 271 #[.val (.int p0), .val (.int p1), .val (.int p2), .val (.int p3), .val (.int p4), .val (.int (p0 &&& (3 : Int32))), .val (.int ng), .val (.long tt), .second, .val (.int (if p3 < p1 then p3 else p1)), .val (.int (if p1 < p3 then p3 else p1)), .unset, .unset, .unset, .unset, .unset, .unset] [(.double FP.dconst0), (.double FP.dconst1), (.double FP.dconst0), (.double (FP.i2d (if p3 < p1 then p3 else p1))), (.ref b29), (.ref b29)])
            obtain ⟨_, _, ⟨T30, L30, k30, n30⟩, -, X30, ⟨Lc30, hQ30, l30, y30, z30⟩, st30⟩ := X29.specialBack hx (y := (⟨"com/example/equiflow/equiflow/model/Summary", "<init>", "(DDDD)V"⟩ : MethodName)) rfl hown (mvT hZ (hw _ (List.mem_of_getElem? (i := 3) rfl))) (mvT hZ (hw _ (List.mem_of_getElem? (i := 4) rfl))) (mvT hZ (hw _ (List.mem_of_getElem? (i := 5) rfl))) (by decide) (backOf (W := 1) (rm1 l Z a0 hw [] b29 (FP.i2d (if p3 < p1 then p3 else p1)) FP.dconst0 FP.dconst1 FP.dconst0 h29 n0 (Nat.le_trans Z0 E29.1) E_b29 F_total_b29 F_min_b29 F_jain_b29 F_gini_b29 g_b29) hZ (hw _ (List.mem_of_getElem? (i := 5) rfl)) (hw _ (List.mem_of_getElem? (i := 2) rfl)) (by decide) (by decide)) (g := (mkF m 271 #[.val (.int p0), .val (.int p1), .val (.int p2), .val (.int p3), .val (.int p4), .val (.int (p0 &&& (3 : Int32))), .val (.int ng), .val (.long tt), .second, .val (.int (if p3 < p1 then p3 else p1)), .val (.int (if p1 < p3 then p3 else p1)), .unset, .unset, .unset, .unset, .unset, .unset] [(.double FP.dconst0), (.double FP.dconst1), (.double FP.dconst0), (.double (FP.i2d (if p3 < p1 then p3 else p1))), (.ref b29), (.ref b29)])) rfl (by rw [hml]; rfl) (Steps.refl _) (a := b29) (argsL := [(.double (FP.i2d (if p3 < p1 then p3 else p1))), (.double FP.dconst0), (.double FP.dconst1), (.double FP.dconst0)]) (rest := [(.ref b29)]) (lenOf pd__DDDD__V rfl) rfl (by show 2 * 0 + _ ≤ _; exact Nat.le_of_eq rfl) (hb hby at_271) (fun _ _ => ⟨rfl, e29, (by decide : 1 + 0 ≤ _), (by decide : 4 + 0 ≤ _)⟩)
            dsimp only [Pt.U, Pt.locs, Pt.cells, Pt.slots] at X30 l30 y30 z30 st30 hQ30
            subst l30 y30 z30
            obtain ⟨rfl, N30q, K30, E30_o, Fc30_total, Fc30_min, Fc30_jain, Fc30_gini⟩ := hQ30
            have N30 := Fr.app N28 N30q
            refine own_step (fun _ k => st30.trans k) ?_
            show own_Go p e below P T30 (mkF m 274 #[.val (.int p0), .val (.int p1), .val (.int p2), .val (.int p3), .val (.int p4), .val (.int (p0 &&& (3 : Int32))), .val (.int ng), .val (.long tt), .second, .val (.int (if p3 < p1 then p3 else p1)), .val (.int (if p1 < p3 then p3 else p1)), .unset, .unset, .unset, .unset, .unset, .unset] [(.ref b29)])
            refine own_step (fun _ k => XS.astore X30.here hx rfl (hb hby at_274) rfl rfl (l' := #[.val (.int p0), .val (.int p1), .val (.int p2), .val (.int p3), .val (.int p4), .val (.int (p0 &&& (3 : Int32))), .val (.int ng), .val (.long tt), .second, .val (.int (if p3 < p1 then p3 else p1)), .val (.int (if p1 < p3 then p3 else p1)), .val (.ref b29), .unset, .unset, .unset, .unset, .unset]) rfl k) ?_
            show own_Go p e below P T30 (mkF m 276 #[.val (.int p0), .val (.int p1), .val (.int p2), .val (.int p3), .val (.int p4), .val (.int (p0 &&& (3 : Int32))), .val (.int ng), .val (.long tt), .second, .val (.int (if p3 < p1 then p3 else p1)), .val (.int (if p1 < p3 then p3 else p1)), .val (.ref b29), .unset, .unset, .unset, .unset, .unset] [])
            obtain ⟨T31, h31, X31, e31, E31, A31, D31, -, st31⟩ := newO X30 hx hZ hown (hw _ (List.mem_of_getElem? (i := 0) rfl)) (hw _ (List.mem_of_getElem? (i := 1) rfl)) (hw _ (List.mem_of_getElem? (i := 2) rfl)) rfl (g := (mkF m 276 #[.val (.int p0), .val (.int p1), .val (.int p2), .val (.int p3), .val (.int p4), .val (.int (p0 &&& (3 : Int32))), .val (.int ng), .val (.long tt), .second, .val (.int (if p3 < p1 then p3 else p1)), .val (.int (if p1 < p3 then p3 else p1)), .val (.ref b29), .unset, .unset, .unset, .unset, .unset] [])) rfl (hb hby at_276) (by decide) (by decide)
            obtain ⟨b31, g31⟩ : ∃ z, z = T30.heap.size := ⟨_, rfl⟩
            rw [← g31] at A31 D31 st31
            have g_b31 : n0 ≤ b31 := Nat.le_trans (Nat.le_trans (Nat.le_trans Z0 E29.1) K30.1) (Nat.le_of_eq g31.symm)
            have sz_b31 : h0.size ≤ b31 := Nat.le_trans (((Keep.refl h0 []).ext E29).trans K30 (allS (Or.inr sz_b29) all0)).1 (Nat.le_of_eq g31.symm)
            have E_b31 := A31
            have F_total_b31 : Fld Z h31 b31 "com/example/equiflow/equiflow/model/Summary" "total" "D" (.double (0 : UInt64)) := D31 (Or.inr (hw _ (List.mem_of_getElem? (i := 15) rfl))) (ty := .double) (by decide)
            have F_min_b31 : Fld Z h31 b31 "com/example/equiflow/equiflow/model/Summary" "min" "D" (.double (0 : UInt64)) := D31 (Or.inr (hw _ (List.mem_of_getElem? (i := 17) rfl))) (ty := .double) (by decide)
            have F_jain_b31 : Fld Z h31 b31 "com/example/equiflow/equiflow/model/Summary" "jain" "D" (.double (0 : UInt64)) := D31 (Or.inr (hw _ (List.mem_of_getElem? (i := 19) rfl))) (ty := .double) (by decide)
            have F_gini_b31 : Fld Z h31 b31 "com/example/equiflow/equiflow/model/Summary" "gini" "D" (.double (0 : UInt64)) := D31 (Or.inr (hw _ (List.mem_of_getElem? (i := 21) rfl))) (ty := .double) (by decide)
            refine own_step st31 ?_
            show own_Go p e below P T31 (mkF m 279 #[.val (.int p0), .val (.int p1), .val (.int p2), .val (.int p3), .val (.int p4), .val (.int (p0 &&& (3 : Int32))), .val (.int ng), .val (.long tt), .second, .val (.int (if p3 < p1 then p3 else p1)), .val (.int (if p1 < p3 then p3 else p1)), .val (.ref b29), .unset, .unset, .unset, .unset, .unset] [(.ref b31)])
            refine own_step (fun _ k => XS.dup X31.here hx rfl (hb hby at_279) rfl rfl k) ?_
            show own_Go p e below P T31 (mkF m 280 #[.val (.int p0), .val (.int p1), .val (.int p2), .val (.int p3), .val (.int p4), .val (.int (p0 &&& (3 : Int32))), .val (.int ng), .val (.long tt), .second, .val (.int (if p3 < p1 then p3 else p1)), .val (.int (if p1 < p3 then p3 else p1)), .val (.ref b29), .unset, .unset, .unset, .unset, .unset] [(.ref b31), (.ref b31)])
            refine own_step (fun _ k => XS.iload X31.here hx rfl (hb hby at_280) rfl k) ?_
            show own_Go p e below P T31 (mkF m 282 #[.val (.int p0), .val (.int p1), .val (.int p2), .val (.int p3), .val (.int p4), .val (.int (p0 &&& (3 : Int32))), .val (.int ng), .val (.long tt), .second, .val (.int (if p3 < p1 then p3 else p1)), .val (.int (if p1 < p3 then p3 else p1)), .val (.ref b29), .unset, .unset, .unset, .unset, .unset] [(.int (if p1 < p3 then p3 else p1)), (.ref b31), (.ref b31)])
            refine own_step (fun _ k => XS.i2dS X31.here hx rfl (hb hby at_282) rfl rfl k) ?_
            show own_Go p e below P T31 (mkF m 283 #[.val (.int p0), .val (.int p1), .val (.int p2), .val (.int p3), .val (.int p4), .val (.int (p0 &&& (3 : Int32))), .val (.int ng), .val (.long tt), .second, .val (.int (if p3 < p1 then p3 else p1)), .val (.int (if p1 < p3 then p3 else p1)), .val (.ref b29), .unset, .unset, .unset, .unset, .unset] [(.double (FP.i2d (if p1 < p3 then p3 else p1))), (.ref b31), (.ref b31)])
            refine own_step (fun _ k => XS.dconst0 X31.here hx rfl (hb hby at_283) rfl k) ?_
            show own_Go p e below P T31 (mkF m 284 #[.val (.int p0), .val (.int p1), .val (.int p2), .val (.int p3), .val (.int p4), .val (.int (p0 &&& (3 : Int32))), .val (.int ng), .val (.long tt), .second, .val (.int (if p3 < p1 then p3 else p1)), .val (.int (if p1 < p3 then p3 else p1)), .val (.ref b29), .unset, .unset, .unset, .unset, .unset] [(.double FP.dconst0), (.double (FP.i2d (if p1 < p3 then p3 else p1))), (.ref b31), (.ref b31)])
            refine own_step (fun _ k => XS.dconst1 X31.here hx rfl (hb hby at_284) rfl k) ?_
            show own_Go p e below P T31 (mkF m 285 #[.val (.int p0), .val (.int p1), .val (.int p2), .val (.int p3), .val (.int p4), .val (.int (p0 &&& (3 : Int32))), .val (.int ng), .val (.long tt), .second, .val (.int (if p3 < p1 then p3 else p1)), .val (.int (if p1 < p3 then p3 else p1)), .val (.ref b29), .unset, .unset, .unset, .unset, .unset] [(.double FP.dconst1), (.double FP.dconst0), (.double (FP.i2d (if p1 < p3 then p3 else p1))), (.ref b31), (.ref b31)])
            refine own_step (fun _ k => XS.dconst0 X31.here hx rfl (hb hby at_285) rfl k) ?_
            show own_Go p e below P T31 (mkF m 286 #[.val (.int p0), .val (.int p1), .val (.int p2), .val (.int p3), .val (.int p4), .val (.int (p0 &&& (3 : Int32))), .val (.int ng), .val (.long tt), .second, .val (.int (if p3 < p1 then p3 else p1)), .val (.int (if p1 < p3 then p3 else p1)), .val (.ref b29), .unset, .unset, .unset, .unset, .unset] [(.double FP.dconst0), (.double FP.dconst1), (.double FP.dconst0), (.double (FP.i2d (if p1 < p3 then p3 else p1))), (.ref b31), (.ref b31)])
            obtain ⟨_, _, ⟨T32, L32, k32, n32⟩, -, X32, ⟨Lc32, hQ32, l32, y32, z32⟩, st32⟩ := X31.specialBack hx (y := (⟨"com/example/equiflow/equiflow/model/Summary", "<init>", "(DDDD)V"⟩ : MethodName)) rfl hown (mvT hZ (hw _ (List.mem_of_getElem? (i := 3) rfl))) (mvT hZ (hw _ (List.mem_of_getElem? (i := 4) rfl))) (mvT hZ (hw _ (List.mem_of_getElem? (i := 5) rfl))) (by decide) (backOf (W := 1) (rm1 l Z a0 hw [] b31 (FP.i2d (if p1 < p3 then p3 else p1)) FP.dconst0 FP.dconst1 FP.dconst0 h31 n0 (Nat.le_trans (Nat.le_trans (Nat.le_trans Z0 E29.1) K30.1) E31.1) E_b31 F_total_b31 F_min_b31 F_jain_b31 F_gini_b31 g_b31) hZ (hw _ (List.mem_of_getElem? (i := 5) rfl)) (hw _ (List.mem_of_getElem? (i := 2) rfl)) (by decide) (by decide)) (g := (mkF m 286 #[.val (.int p0), .val (.int p1), .val (.int p2), .val (.int p3), .val (.int p4), .val (.int (p0 &&& (3 : Int32))), .val (.int ng), .val (.long tt), .second, .val (.int (if p3 < p1 then p3 else p1)), .val (.int (if p1 < p3 then p3 else p1)), .val (.ref b29), .unset, .unset, .unset, .unset, .unset] [(.double FP.dconst0), (.double FP.dconst1), (.double FP.dconst0), (.double (FP.i2d (if p1 < p3 then p3 else p1))), (.ref b31), (.ref b31)])) rfl (by rw [hml]; rfl) (Steps.refl _) (a := b31) (argsL := [(.double (FP.i2d (if p1 < p3 then p3 else p1))), (.double FP.dconst0), (.double FP.dconst1), (.double FP.dconst0)]) (rest := [(.ref b31)]) (lenOf pd__DDDD__V rfl) rfl (by show 2 * 0 + _ ≤ _; exact Nat.le_of_eq rfl) (hb hby at_286) (fun _ _ => ⟨rfl, e31, (by decide : 2 + 0 ≤ _), (by decide : 8 + 0 ≤ _)⟩)
            dsimp only [Pt.U, Pt.locs, Pt.cells, Pt.slots] at X32 l32 y32 z32 st32 hQ32
            subst l32 y32 z32
            obtain ⟨rfl, N32q, K32, E32_o, Fc32_total, Fc32_min, Fc32_jain, Fc32_gini⟩ := hQ32
            have N32 := Fr.app N30 N32q
            refine own_step (fun _ k => st32.trans k) ?_
            show own_Go p e below P T32 (mkF m 289 #[.val (.int p0), .val (.int p1), .val (.int p2), .val (.int p3), .val (.int p4), .val (.int (p0 &&& (3 : Int32))), .val (.int ng), .val (.long tt), .second, .val (.int (if p3 < p1 then p3 else p1)), .val (.int (if p1 < p3 then p3 else p1)), .val (.ref b29), .unset, .unset, .unset, .unset, .unset] [(.ref b31)])
            refine own_step (fun _ k => XS.astore X32.here hx rfl (hb hby at_289) rfl rfl (l' := #[.val (.int p0), .val (.int p1), .val (.int p2), .val (.int p3), .val (.int p4), .val (.int (p0 &&& (3 : Int32))), .val (.int ng), .val (.long tt), .second, .val (.int (if p3 < p1 then p3 else p1)), .val (.int (if p1 < p3 then p3 else p1)), .val (.ref b29), .val (.ref b31), .unset, .unset, .unset, .unset]) rfl k) ?_
            show own_Go p e below P T32 (mkF m 291 #[.val (.int p0), .val (.int p1), .val (.int p2), .val (.int p3), .val (.int p4), .val (.int (p0 &&& (3 : Int32))), .val (.int ng), .val (.long tt), .second, .val (.int (if p3 < p1 then p3 else p1)), .val (.int (if p1 < p3 then p3 else p1)), .val (.ref b29), .val (.ref b31), .unset, .unset, .unset, .unset] [])
            refine own_step (fun _ k => XS.aload X32.here hx rfl (hb hby at_291) rfl rfl k) ?_
            show own_Go p e below P T32 (mkF m 293 #[.val (.int p0), .val (.int p1), .val (.int p2), .val (.int p3), .val (.int p4), .val (.int (p0 &&& (3 : Int32))), .val (.int ng), .val (.long tt), .second, .val (.int (if p3 < p1 then p3 else p1)), .val (.int (if p1 < p3 then p3 else p1)), .val (.ref b29), .val (.ref b31), .unset, .unset, .unset, .unset] [(.ref b29)])
            refine own_step (fun _ k => XS.lload X32.here hx rfl (hb hby at_293) rfl k) ?_
            show own_Go p e below P T32 (mkF m 295 #[.val (.int p0), .val (.int p1), .val (.int p2), .val (.int p3), .val (.int p4), .val (.int (p0 &&& (3 : Int32))), .val (.int ng), .val (.long tt), .second, .val (.int (if p3 < p1 then p3 else p1)), .val (.int (if p1 < p3 then p3 else p1)), .val (.ref b29), .val (.ref b31), .unset, .unset, .unset, .unset] [(.long tt), (.ref b29)])
            refine own_step (fun _ k => XS.l2dS X32.here hx rfl (hb hby at_295) rfl rfl k) ?_
            show own_Go p e below P T32 (mkF m 296 #[.val (.int p0), .val (.int p1), .val (.int p2), .val (.int p3), .val (.int p4), .val (.int (p0 &&& (3 : Int32))), .val (.int ng), .val (.long tt), .second, .val (.int (if p3 < p1 then p3 else p1)), .val (.int (if p1 < p3 then p3 else p1)), .val (.ref b29), .val (.ref b31), .unset, .unset, .unset, .unset] [(.double (FP.l2d tt)), (.ref b29)])
            obtain ⟨cq33, kq33, q33a, q33b, q33c⟩ := isOf hZ rfl ((E30_o.ext E31).keep K32)
            obtain ⟨_, _, ⟨T33, L33, k33, n33⟩, -, X33, ⟨Lc33, hQ33, l33, y33, z33⟩, st33⟩ := X32.virtualBack hx (y := (⟨"com/example/equiflow/equiflow/model/Summary", "priceOfFairness", "(D)D"⟩ : MethodName)) (z := (⟨"com/example/equiflow/equiflow/model/Summary", "priceOfFairness", "(D)D"⟩ : MethodName)) hown (mvT hZ (hw _ (List.mem_of_getElem? (i := 22) rfl))) (mvT hZ (hw _ (List.mem_of_getElem? (i := 23) rfl))) (notFace_of_selects (args := #[]) (mvT hZ (hw _ (List.mem_of_getElem? (i := 25) rfl)))) (mvT hZ (hw _ (List.mem_of_getElem? (i := 25) rfl))) (mvT hZ (hw _ (List.mem_of_getElem? (i := 24) rfl))) (by decide) (backOf (W := 0) (rm4 l Z a0 hw [] b29 (FP.l2d tt) (FP.i2d (if p3 < p1 then p3 else p1)) T32.heap n0 (Nat.le_trans (Nat.le_trans (Nat.le_trans (Nat.le_trans Z0 E29.1) K30.1) E31.1) K32.1) ((Fc30_total.ext E31).keep K32 (ninS (Nat.ne_of_lt (Nat.lt_of_lt_of_le E30_o.lt (Nat.le_of_eq g31.symm))) nin0)) (i2d_fin _) (l2d_fin _)) hZ (hw _ (List.mem_of_getElem? (i := 26) rfl)) (hw _ (List.mem_of_getElem? (i := 2) rfl)) (by decide) (by decide)) q33a q33c (g := (mkF m 296 #[.val (.int p0), .val (.int p1), .val (.int p2), .val (.int p3), .val (.int p4), .val (.int (p0 &&& (3 : Int32))), .val (.int ng), .val (.long tt), .second, .val (.int (if p3 < p1 then p3 else p1)), .val (.int (if p1 < p3 then p3 else p1)), .val (.ref b29), .val (.ref b31), .unset, .unset, .unset, .unset] [(.double (FP.l2d tt)), (.ref b29)])) rfl (by rw [hml]; rfl) (Steps.refl _) (argsL := [(.double (FP.l2d tt))]) (rest := []) (lenOf pd__D__D rfl) rfl (by show 2 * 0 + _ ≤ _; exact Nat.le_of_eq rfl) (hb hby at_296) (fun _ _ => ⟨rfl, rfl, (by decide : 2 + 0 ≤ _), (by decide : 8 + 0 ≤ _)⟩)
            dsimp only [Pt.U, Pt.locs, Pt.cells, Pt.slots] at X33 l33 y33 z33 st33 hQ33
            subst l33 y33 z33
            obtain ⟨rfl, N33q, e33⟩ := hQ33
            have N33 := Fr.app N32 N33q
            refine own_step (fun _ k => st33.trans k) ?_
            show own_Go p e below P T33 (mkF m 299 #[.val (.int p0), .val (.int p1), .val (.int p2), .val (.int p3), .val (.int p4), .val (.int (p0 &&& (3 : Int32))), .val (.int ng), .val (.long tt), .second, .val (.int (if p3 < p1 then p3 else p1)), .val (.int (if p1 < p3 then p3 else p1)), .val (.ref b29), .val (.ref b31), .unset, .unset, .unset, .unset] [(.double (own_pf (FP.i2d (if p3 < p1 then p3 else p1)) (FP.l2d tt)))])
            refine own_step (fun _ k => XS.dstore X33.here hx rfl (hb hby at_299) rfl (l' := #[.val (.int p0), .val (.int p1), .val (.int p2), .val (.int p3), .val (.int p4), .val (.int (p0 &&& (3 : Int32))), .val (.int ng), .val (.long tt), .second, .val (.int (if p3 < p1 then p3 else p1)), .val (.int (if p1 < p3 then p3 else p1)), .val (.ref b29), .val (.ref b31), .val (.double (own_pf (FP.i2d (if p3 < p1 then p3 else p1)) (FP.l2d tt))), .second, .unset, .unset]) rfl k) ?_
            show own_Go p e below P T33 (mkF m 301 #[.val (.int p0), .val (.int p1), .val (.int p2), .val (.int p3), .val (.int p4), .val (.int (p0 &&& (3 : Int32))), .val (.int ng), .val (.long tt), .second, .val (.int (if p3 < p1 then p3 else p1)), .val (.int (if p1 < p3 then p3 else p1)), .val (.ref b29), .val (.ref b31), .val (.double (own_pf (FP.i2d (if p3 < p1 then p3 else p1)) (FP.l2d tt))), .second, .unset, .unset] [])
            refine own_step (fun _ k => XS.aload X33.here hx rfl (hb hby at_301) rfl rfl k) ?_
            show own_Go p e below P T33 (mkF m 303 #[.val (.int p0), .val (.int p1), .val (.int p2), .val (.int p3), .val (.int p4), .val (.int (p0 &&& (3 : Int32))), .val (.int ng), .val (.long tt), .second, .val (.int (if p3 < p1 then p3 else p1)), .val (.int (if p1 < p3 then p3 else p1)), .val (.ref b29), .val (.ref b31), .val (.double (own_pf (FP.i2d (if p3 < p1 then p3 else p1)) (FP.l2d tt))), .second, .unset, .unset] [(.ref b31)])
            refine own_step (fun _ k => XS.lload X33.here hx rfl (hb hby at_303) rfl k) ?_
            show own_Go p e below P T33 (mkF m 305 #[.val (.int p0), .val (.int p1), .val (.int p2), .val (.int p3), .val (.int p4), .val (.int (p0 &&& (3 : Int32))), .val (.int ng), .val (.long tt), .second, .val (.int (if p3 < p1 then p3 else p1)), .val (.int (if p1 < p3 then p3 else p1)), .val (.ref b29), .val (.ref b31), .val (.double (own_pf (FP.i2d (if p3 < p1 then p3 else p1)) (FP.l2d tt))), .second, .unset, .unset] [(.long tt), (.ref b31)])
            refine own_step (fun _ k => XS.l2dS X33.here hx rfl (hb hby at_305) rfl rfl k) ?_
            show own_Go p e below P T33 (mkF m 306 #[.val (.int p0), .val (.int p1), .val (.int p2), .val (.int p3), .val (.int p4), .val (.int (p0 &&& (3 : Int32))), .val (.int ng), .val (.long tt), .second, .val (.int (if p3 < p1 then p3 else p1)), .val (.int (if p1 < p3 then p3 else p1)), .val (.ref b29), .val (.ref b31), .val (.double (own_pf (FP.i2d (if p3 < p1 then p3 else p1)) (FP.l2d tt))), .second, .unset, .unset] [(.double (FP.l2d tt)), (.ref b31)])
            obtain ⟨cq34, kq34, q34a, q34b, q34c⟩ := isOf hZ e33 E32_o
            obtain ⟨_, _, ⟨T34, L34, k34, n34⟩, -, X34, ⟨Lc34, hQ34, l34, y34, z34⟩, st34⟩ := X33.virtualBack hx (y := (⟨"com/example/equiflow/equiflow/model/Summary", "priceOfFairness", "(D)D"⟩ : MethodName)) (z := (⟨"com/example/equiflow/equiflow/model/Summary", "priceOfFairness", "(D)D"⟩ : MethodName)) hown (mvT hZ (hw _ (List.mem_of_getElem? (i := 22) rfl))) (mvT hZ (hw _ (List.mem_of_getElem? (i := 23) rfl))) (notFace_of_selects (args := #[]) (mvT hZ (hw _ (List.mem_of_getElem? (i := 25) rfl)))) (mvT hZ (hw _ (List.mem_of_getElem? (i := 25) rfl))) (mvT hZ (hw _ (List.mem_of_getElem? (i := 24) rfl))) (by decide) (backOf (W := 0) (rm4 l Z a0 hw [] b31 (FP.l2d tt) (FP.i2d (if p1 < p3 then p3 else p1)) T32.heap n0 (Nat.le_trans (Nat.le_trans (Nat.le_trans (Nat.le_trans Z0 E29.1) K30.1) E31.1) K32.1) Fc32_total (i2d_fin _) (l2d_fin _)) hZ (hw _ (List.mem_of_getElem? (i := 26) rfl)) (hw _ (List.mem_of_getElem? (i := 2) rfl)) (by decide) (by decide)) q34a q34c (g := (mkF m 306 #[.val (.int p0), .val (.int p1), .val (.int p2), .val (.int p3), .val (.int p4), .val (.int (p0 &&& (3 : Int32))), .val (.int ng), .val (.long tt), .second, .val (.int (if p3 < p1 then p3 else p1)), .val (.int (if p1 < p3 then p3 else p1)), .val (.ref b29), .val (.ref b31), .val (.double (own_pf (FP.i2d (if p3 < p1 then p3 else p1)) (FP.l2d tt))), .second, .unset, .unset] [(.double (FP.l2d tt)), (.ref b31)])) rfl (by rw [hml]; rfl) (Steps.refl _) (argsL := [(.double (FP.l2d tt))]) (rest := []) (lenOf pd__D__D rfl) rfl (by show 2 * 0 + _ ≤ _; exact Nat.le_of_eq rfl) (hb hby at_306) (fun _ _ => ⟨rfl, e33, (by decide : 2 + 0 ≤ _), (by decide : 8 + 0 ≤ _)⟩)
            dsimp only [Pt.U, Pt.locs, Pt.cells, Pt.slots] at X34 l34 y34 z34 st34 hQ34
            subst l34 y34 z34
            obtain ⟨rfl, N34q, e34⟩ := hQ34
            have N34 := Fr.app N33 N34q
            refine own_step (fun _ k => st34.trans k) ?_
            show own_Go p e below P T34 (mkF m 309 #[.val (.int p0), .val (.int p1), .val (.int p2), .val (.int p3), .val (.int p4), .val (.int (p0 &&& (3 : Int32))), .val (.int ng), .val (.long tt), .second, .val (.int (if p3 < p1 then p3 else p1)), .val (.int (if p1 < p3 then p3 else p1)), .val (.ref b29), .val (.ref b31), .val (.double (own_pf (FP.i2d (if p3 < p1 then p3 else p1)) (FP.l2d tt))), .second, .unset, .unset] [(.double (own_pf (FP.i2d (if p1 < p3 then p3 else p1)) (FP.l2d tt)))])
            refine own_step (fun _ k => XS.dstore X34.here hx rfl (hb hby at_309) rfl (l' := #[.val (.int p0), .val (.int p1), .val (.int p2), .val (.int p3), .val (.int p4), .val (.int (p0 &&& (3 : Int32))), .val (.int ng), .val (.long tt), .second, .val (.int (if p3 < p1 then p3 else p1)), .val (.int (if p1 < p3 then p3 else p1)), .val (.ref b29), .val (.ref b31), .val (.double (own_pf (FP.i2d (if p3 < p1 then p3 else p1)) (FP.l2d tt))), .second, .val (.double (own_pf (FP.i2d (if p1 < p3 then p3 else p1)) (FP.l2d tt))), .second]) rfl k) ?_
            show own_Go p e below P T34 (mkF m 311 #[.val (.int p0), .val (.int p1), .val (.int p2), .val (.int p3), .val (.int p4), .val (.int (p0 &&& (3 : Int32))), .val (.int ng), .val (.long tt), .second, .val (.int (if p3 < p1 then p3 else p1)), .val (.int (if p1 < p3 then p3 else p1)), .val (.ref b29), .val (.ref b31), .val (.double (own_pf (FP.i2d (if p3 < p1 then p3 else p1)) (FP.l2d tt))), .second, .val (.double (own_pf (FP.i2d (if p1 < p3 then p3 else p1)) (FP.l2d tt))), .second] [])
            refine own_step (fun _ k => XS.lload X34.here hx rfl (hb hby at_311) rfl k) ?_
            show own_Go p e below P T34 (mkF m 313 #[.val (.int p0), .val (.int p1), .val (.int p2), .val (.int p3), .val (.int p4), .val (.int (p0 &&& (3 : Int32))), .val (.int ng), .val (.long tt), .second, .val (.int (if p3 < p1 then p3 else p1)), .val (.int (if p1 < p3 then p3 else p1)), .val (.ref b29), .val (.ref b31), .val (.double (own_pf (FP.i2d (if p3 < p1 then p3 else p1)) (FP.l2d tt))), .second, .val (.double (own_pf (FP.i2d (if p1 < p3 then p3 else p1)) (FP.l2d tt))), .second] [(.long tt)])
            refine own_step (fun _ k => XS.lconst X34.here hx rfl (hb hby at_313) k) ?_
            show own_Go p e below P T34 (mkF m 314 #[.val (.int p0), .val (.int p1), .val (.int p2), .val (.int p3), .val (.int p4), .val (.int (p0 &&& (3 : Int32))), .val (.int ng), .val (.long tt), .second, .val (.int (if p3 < p1 then p3 else p1)), .val (.int (if p1 < p3 then p3 else p1)), .val (.ref b29), .val (.ref b31), .val (.double (own_pf (FP.i2d (if p3 < p1 then p3 else p1)) (FP.l2d tt))), .second, .val (.double (own_pf (FP.i2d (if p1 < p3 then p3 else p1)) (FP.l2d tt))), .second] [(.long (0 : Int64)), (.long tt)])
            refine own_step (fun _ k => XS.lcmp X34.here hx rfl (hb hby at_314) rfl k) ?_
            show own_Go p e below P T34 (mkF m 315 #[.val (.int p0), .val (.int p1), .val (.int p2), .val (.int p3), .val (.int p4), .val (.int (p0 &&& (3 : Int32))), .val (.int ng), .val (.long tt), .second, .val (.int (if p3 < p1 then p3 else p1)), .val (.int (if p1 < p3 then p3 else p1)), .val (.ref b29), .val (.ref b31), .val (.double (own_pf (FP.i2d (if p3 < p1 then p3 else p1)) (FP.l2d tt))), .second, .val (.double (own_pf (FP.i2d (if p1 < p3 then p3 else p1)) (FP.l2d tt))), .second] [(.int (lcmpW tt (0 : Int64)))])
            by_cases hc35 : (0 : Int32) < (lcmpW tt (0 : Int64))
            · refine own_step (fun _ k => XS.ifNo X34.here hx rfl (hb hby at_315) rfl ((if0 _ _).trans (tlt hc35).2.2.2) k) ?_
              show own_Go p e below P T34 (mkF m 318 #[.val (.int p0), .val (.int p1), .val (.int p2), .val (.int p3), .val (.int p4), .val (.int (p0 &&& (3 : Int32))), .val (.int ng), .val (.long tt), .second, .val (.int (if p3 < p1 then p3 else p1)), .val (.int (if p1 < p3 then p3 else p1)), .val (.ref b29), .val (.ref b31), .val (.double (own_pf (FP.i2d (if p3 < p1 then p3 else p1)) (FP.l2d tt))), .second, .val (.double (own_pf (FP.i2d (if p1 < p3 then p3 else p1)) (FP.l2d tt))), .second] [])
              refine own_step (fun _ k => XS.dload X34.here hx rfl (hb hby at_318) rfl k) ?_
              show own_Go p e below P T34 (mkF m 320 #[.val (.int p0), .val (.int p1), .val (.int p2), .val (.int p3), .val (.int p4), .val (.int (p0 &&& (3 : Int32))), .val (.int ng), .val (.long tt), .second, .val (.int (if p3 < p1 then p3 else p1)), .val (.int (if p1 < p3 then p3 else p1)), .val (.ref b29), .val (.ref b31), .val (.double (own_pf (FP.i2d (if p3 < p1 then p3 else p1)) (FP.l2d tt))), .second, .val (.double (own_pf (FP.i2d (if p1 < p3 then p3 else p1)) (FP.l2d tt))), .second] [(.double (own_pf (FP.i2d (if p3 < p1 then p3 else p1)) (FP.l2d tt)))])
              refine own_step (fun _ k => XS.dload X34.here hx rfl (hb hby at_320) rfl k) ?_
              show own_Go p e below P T34 (mkF m 322 #[.val (.int p0), .val (.int p1), .val (.int p2), .val (.int p3), .val (.int p4), .val (.int (p0 &&& (3 : Int32))), .val (.int ng), .val (.long tt), .second, .val (.int (if p3 < p1 then p3 else p1)), .val (.int (if p1 < p3 then p3 else p1)), .val (.ref b29), .val (.ref b31), .val (.double (own_pf (FP.i2d (if p3 < p1 then p3 else p1)) (FP.l2d tt))), .second, .val (.double (own_pf (FP.i2d (if p1 < p3 then p3 else p1)) (FP.l2d tt))), .second] [(.double (own_pf (FP.i2d (if p1 < p3 then p3 else p1)) (FP.l2d tt))), (.double (own_pf (FP.i2d (if p3 < p1 then p3 else p1)) (FP.l2d tt)))])
              refine own_step (fun _ k => XS.dcmpS X34.here hx rfl (hb hby at_322) rfl rfl k) ?_
              show own_Go p e below P T34 (mkF m 323 #[.val (.int p0), .val (.int p1), .val (.int p2), .val (.int p3), .val (.int p4), .val (.int (p0 &&& (3 : Int32))), .val (.int ng), .val (.long tt), .second, .val (.int (if p3 < p1 then p3 else p1)), .val (.int (if p1 < p3 then p3 else p1)), .val (.ref b29), .val (.ref b31), .val (.double (own_pf (FP.i2d (if p3 < p1 then p3 else p1)) (FP.l2d tt))), .second, .val (.double (own_pf (FP.i2d (if p1 < p3 then p3 else p1)) (FP.l2d tt))), .second] [(.int (cmpValue (FP.dcmp (own_pf (FP.i2d (if p3 < p1 then p3 else p1)) (FP.l2d tt)) (own_pf (FP.i2d (if p1 < p3 then p3 else p1)) (FP.l2d tt))) .l))])
              refine own_step (fun _ k => XS.ifNo X34.here hx rfl (hb hby at_323) rfl ((if0 _ _).trans (flt ((own_case3 hjJ245_26_0 (own_lohi p1 p3)).1 ((lw_gt _ _).mp hc35))).1) k) ?_
              show own_Go p e below P T34 (mkF m 326 #[.val (.int p0), .val (.int p1), .val (.int p2), .val (.int p3), .val (.int p4), .val (.int (p0 &&& (3 : Int32))), .val (.int ng), .val (.long tt), .second, .val (.int (if p3 < p1 then p3 else p1)), .val (.int (if p1 < p3 then p3 else p1)), .val (.ref b29), .val (.ref b31), .val (.double (own_pf (FP.i2d (if p3 < p1 then p3 else p1)) (FP.l2d tt))), .second, .val (.double (own_pf (FP.i2d (if p1 < p3 then p3 else p1)) (FP.l2d tt))), .second] [])
              refine own_step (fun _ k => XS.iconst X34.here hx rfl (hb hby at_326) k) ?_
              show own_Go p e below P T34 (mkF m 327 #[.val (.int p0), .val (.int p1), .val (.int p2), .val (.int p3), .val (.int p4), .val (.int (p0 &&& (3 : Int32))), .val (.int ng), .val (.long tt), .second, .val (.int (if p3 < p1 then p3 else p1)), .val (.int (if p1 < p3 then p3 else p1)), .val (.ref b29), .val (.ref b31), .val (.double (own_pf (FP.i2d (if p3 < p1 then p3 else p1)) (FP.l2d tt))), .second, .val (.double (own_pf (FP.i2d (if p1 < p3 then p3 else p1)) (FP.l2d tt))), .second] [(.int (1 : Int32))])
              refine own_step (fun _ k => XS.goto X34.here hx rfl (pc0 := 327) (pc' := 347) rfl (hb hby at_327) (by decide) (by decide) k) ?_
              show own_Go p e below P T34 (mkF m 347 #[.val (.int p0), .val (.int p1), .val (.int p2), .val (.int p3), .val (.int p4), .val (.int (p0 &&& (3 : Int32))), .val (.int ng), .val (.long tt), .second, .val (.int (if p3 < p1 then p3 else p1)), .val (.int (if p1 < p3 then p3 else p1)), .val (.ref b29), .val (.ref b31), .val (.double (own_pf (FP.i2d (if p3 < p1 then p3 else p1)) (FP.l2d tt))), .second, .val (.double (own_pf (FP.i2d (if p1 < p3 then p3 else p1)) (FP.l2d tt))), .second] [(.int (1 : Int32))])
              obtain ⟨fs, hr, hrun, hended, hW, hsame⟩ := X34.leave (v := some (.int (1 : Int32))) (fun h => by rw [Bd.returns] at h; cases h)
              refine ⟨_, _, retN X34 hx (t := .boolean) Bd.returns (by simp) (hb hby at_347) hr, hrun, hended, hfin _ _ ⟨_, _, rfl, ?_, ⟨_, rfl⟩, hW, hsame.mono (by decide) (by decide)⟩⟩
              show Q0 Z p0 p1 p2 p3 p4 h0 n0 (some (.int (1 : Int32))) T34.heap _
              rw [e34]
              exact ⟨rfl, N34⟩
            · refine own_step (fun _ k => XS.ifYes X34.here hx rfl (pc0 := 315) (pc' := 334) rfl (hb hby at_315) rfl ((if0 _ _).trans (flt hc35).2.2.2) (by decide) (by decide) k) ?_
              show own_Go p e below P T34 (mkF m 334 #[.val (.int p0), .val (.int p1), .val (.int p2), .val (.int p3), .val (.int p4), .val (.int (p0 &&& (3 : Int32))), .val (.int ng), .val (.long tt), .second, .val (.int (if p3 < p1 then p3 else p1)), .val (.int (if p1 < p3 then p3 else p1)), .val (.ref b29), .val (.ref b31), .val (.double (own_pf (FP.i2d (if p3 < p1 then p3 else p1)) (FP.l2d tt))), .second, .val (.double (own_pf (FP.i2d (if p1 < p3 then p3 else p1)) (FP.l2d tt))), .second] [])
              refine own_step (fun _ k => XS.dload X34.here hx rfl (hb hby at_334) rfl k) ?_
              show own_Go p e below P T34 (mkF m 336 #[.val (.int p0), .val (.int p1), .val (.int p2), .val (.int p3), .val (.int p4), .val (.int (p0 &&& (3 : Int32))), .val (.int ng), .val (.long tt), .second, .val (.int (if p3 < p1 then p3 else p1)), .val (.int (if p1 < p3 then p3 else p1)), .val (.ref b29), .val (.ref b31), .val (.double (own_pf (FP.i2d (if p3 < p1 then p3 else p1)) (FP.l2d tt))), .second, .val (.double (own_pf (FP.i2d (if p1 < p3 then p3 else p1)) (FP.l2d tt))), .second] [(.double (own_pf (FP.i2d (if p3 < p1 then p3 else p1)) (FP.l2d tt)))])
              refine own_step (fun _ k => XS.dload X34.here hx rfl (hb hby at_336) rfl k) ?_
              show own_Go p e below P T34 (mkF m 338 #[.val (.int p0), .val (.int p1), .val (.int p2), .val (.int p3), .val (.int p4), .val (.int (p0 &&& (3 : Int32))), .val (.int ng), .val (.long tt), .second, .val (.int (if p3 < p1 then p3 else p1)), .val (.int (if p1 < p3 then p3 else p1)), .val (.ref b29), .val (.ref b31), .val (.double (own_pf (FP.i2d (if p3 < p1 then p3 else p1)) (FP.l2d tt))), .second, .val (.double (own_pf (FP.i2d (if p1 < p3 then p3 else p1)) (FP.l2d tt))), .second] [(.double (own_pf (FP.i2d (if p1 < p3 then p3 else p1)) (FP.l2d tt))), (.double (own_pf (FP.i2d (if p3 < p1 then p3 else p1)) (FP.l2d tt)))])
              refine own_step (fun _ k => XS.dcmpS X34.here hx rfl (hb hby at_338) rfl rfl k) ?_
              show own_Go p e below P T34 (mkF m 339 #[.val (.int p0), .val (.int p1), .val (.int p2), .val (.int p3), .val (.int p4), .val (.int (p0 &&& (3 : Int32))), .val (.int ng), .val (.long tt), .second, .val (.int (if p3 < p1 then p3 else p1)), .val (.int (if p1 < p3 then p3 else p1)), .val (.ref b29), .val (.ref b31), .val (.double (own_pf (FP.i2d (if p3 < p1 then p3 else p1)) (FP.l2d tt))), .second, .val (.double (own_pf (FP.i2d (if p1 < p3 then p3 else p1)) (FP.l2d tt))), .second] [(.int (cmpValue (FP.dcmp (own_pf (FP.i2d (if p3 < p1 then p3 else p1)) (FP.l2d tt)) (own_pf (FP.i2d (if p1 < p3 then p3 else p1)) (FP.l2d tt))) .g))])
              refine own_step (fun _ k => XS.ifNo X34.here hx rfl (hb hby at_339) rfl ((if0 _ _).trans (flt ((own_case3 hjJ245_26_0 (own_lohi p1 p3)).2 (fun q => hc35 ((lw_gt _ _).mpr q)))).2.2.1) k) ?_
              show own_Go p e below P T34 (mkF m 342 #[.val (.int p0), .val (.int p1), .val (.int p2), .val (.int p3), .val (.int p4), .val (.int (p0 &&& (3 : Int32))), .val (.int ng), .val (.long tt), .second, .val (.int (if p3 < p1 then p3 else p1)), .val (.int (if p1 < p3 then p3 else p1)), .val (.ref b29), .val (.ref b31), .val (.double (own_pf (FP.i2d (if p3 < p1 then p3 else p1)) (FP.l2d tt))), .second, .val (.double (own_pf (FP.i2d (if p1 < p3 then p3 else p1)) (FP.l2d tt))), .second] [])
              refine own_step (fun _ k => XS.iconst X34.here hx rfl (hb hby at_342) k) ?_
              show own_Go p e below P T34 (mkF m 343 #[.val (.int p0), .val (.int p1), .val (.int p2), .val (.int p3), .val (.int p4), .val (.int (p0 &&& (3 : Int32))), .val (.int ng), .val (.long tt), .second, .val (.int (if p3 < p1 then p3 else p1)), .val (.int (if p1 < p3 then p3 else p1)), .val (.ref b29), .val (.ref b31), .val (.double (own_pf (FP.i2d (if p3 < p1 then p3 else p1)) (FP.l2d tt))), .second, .val (.double (own_pf (FP.i2d (if p1 < p3 then p3 else p1)) (FP.l2d tt))), .second] [(.int (1 : Int32))])
              refine own_step (fun _ k => XS.goto X34.here hx rfl (pc0 := 343) (pc' := 347) rfl (hb hby at_343) (by decide) (by decide) k) ?_
              show own_Go p e below P T34 (mkF m 347 #[.val (.int p0), .val (.int p1), .val (.int p2), .val (.int p3), .val (.int p4), .val (.int (p0 &&& (3 : Int32))), .val (.int ng), .val (.long tt), .second, .val (.int (if p3 < p1 then p3 else p1)), .val (.int (if p1 < p3 then p3 else p1)), .val (.ref b29), .val (.ref b31), .val (.double (own_pf (FP.i2d (if p3 < p1 then p3 else p1)) (FP.l2d tt))), .second, .val (.double (own_pf (FP.i2d (if p1 < p3 then p3 else p1)) (FP.l2d tt))), .second] [(.int (1 : Int32))])
              obtain ⟨fs, hr, hrun, hended, hW, hsame⟩ := X34.leave (v := some (.int (1 : Int32))) (fun h => by rw [Bd.returns] at h; cases h)
              refine ⟨_, _, retN X34 hx (t := .boolean) Bd.returns (by simp) (hb hby at_347) hr, hrun, hended, hfin _ _ ⟨_, _, rfl, ?_, ⟨_, rfl⟩, hW, hsame.mono (by decide) (by decide)⟩⟩
              show Q0 Z p0 p1 p2 p3 p4 h0 n0 (some (.int (1 : Int32))) T34.heap _
              rw [e34]
              exact ⟨rfl, N34⟩
          refine own_step (fun _ k => XS.iloadN X0.here hx rfl (hb hby at_235) rfl k) ?_
          show own_Go p e below P s₁ (mkF m 236 #[.val (.int p0), .val (.int p1), .val (.int p2), .val (.int p3), .val (.int p4), .val (.int (p0 &&& (3 : Int32))), .val (.int ng), .unset, .unset, .unset, .unset, .unset, .unset, .unset, .unset, .unset, .unset] [(.int p2)])
          by_cases hc38 : p2 = (0 : Int32)
          · refine own_step (fun _ k => XS.ifNo X0.here hx rfl (hb hby at_236) rfl ((if0 _ _).trans (teq hc38).2) k) ?_
            show own_Go p e below P s₁ (mkF m 239 #[.val (.int p0), .val (.int p1), .val (.int p2), .val (.int p3), .val (.int p4), .val (.int (p0 &&& (3 : Int32))), .val (.int ng), .unset, .unset, .unset, .unset, .unset, .unset, .unset, .unset, .unset, .unset] [])
            refine own_step (fun _ k => XS.lconst X0.here hx rfl (hb hby at_239) k) ?_
            show own_Go p e below P s₁ (mkF m 240 #[.val (.int p0), .val (.int p1), .val (.int p2), .val (.int p3), .val (.int p4), .val (.int (p0 &&& (3 : Int32))), .val (.int ng), .unset, .unset, .unset, .unset, .unset, .unset, .unset, .unset, .unset, .unset] [(.long (1 : Int64))])
            refine own_step (fun _ k => XS.goto X0.here hx rfl (pc0 := 240) (pc' := 245) rfl (hb hby at_240) (by decide) (by decide) k) ?_
            show own_Go p e below P s₁ (mkF m 245 #[.val (.int p0), .val (.int p1), .val (.int p2), .val (.int p3), .val (.int p4), .val (.int (p0 &&& (3 : Int32))), .val (.int ng), .unset, .unset, .unset, .unset, .unset, .unset, .unset, .unset, .unset, .unset] [(.long (1 : Int64))])
            exact J245_26 (1 : Int64) own_T1
          · refine own_step (fun _ k => XS.ifYes X0.here hx rfl (pc0 := 236) (pc' := 243) rfl (hb hby at_236) rfl ((if0 _ _).trans (feq hc38).2) (by decide) (by decide) k) ?_
            show own_Go p e below P s₁ (mkF m 243 #[.val (.int p0), .val (.int p1), .val (.int p2), .val (.int p3), .val (.int p4), .val (.int (p0 &&& (3 : Int32))), .val (.int ng), .unset, .unset, .unset, .unset, .unset, .unset, .unset, .unset, .unset, .unset] [])
            refine own_step (fun _ k => XS.iloadN X0.here hx rfl (hb hby at_243) rfl k) ?_
            show own_Go p e below P s₁ (mkF m 244 #[.val (.int p0), .val (.int p1), .val (.int p2), .val (.int p3), .val (.int p4), .val (.int (p0 &&& (3 : Int32))), .val (.int ng), .unset, .unset, .unset, .unset, .unset, .unset, .unset, .unset, .unset, .unset] [(.int p2)])
            refine own_step (fun _ k => XS.i2l X0.here hx rfl (hb hby at_244) rfl k) ?_
            show own_Go p e below P s₁ (mkF m 245 #[.val (.int p0), .val (.int p1), .val (.int p2), .val (.int p3), .val (.int p4), .val (.int (p0 &&& (3 : Int32))), .val (.int ng), .unset, .unset, .unset, .unset, .unset, .unset, .unset, .unset, .unset, .unset] [(.long p2.toInt64)])
            exact J245_26 p2.toInt64 (own_Tp hc38)
  by_cases hc39 : ((p0 >>> ((2 : Int32) &&& 31)) &&& (1 : Int32)) = (0 : Int32)
  · refine own_step (fun _ k => XS.ifYes X0.here hx rfl (pc0 := 10) (pc' := 17) rfl (hb hby at_10) rfl ((if0 _ _).trans (teq hc39).1) (by decide) (by decide) k) ?_
    show own_Go p e below P s₁ (mkF m 17 #[.val (.int p0), .val (.int p1), .val (.int p2), .val (.int p3), .val (.int p4), .val (.int (p0 &&& (3 : Int32))), .unset, .unset, .unset, .unset, .unset, .unset, .unset, .unset, .unset, .unset, .unset] [])
    refine own_step (fun _ k => XS.iconst X0.here hx rfl (hb hby at_17) k) ?_
    show own_Go p e below P s₁ (mkF m 18 #[.val (.int p0), .val (.int p1), .val (.int p2), .val (.int p3), .val (.int p4), .val (.int (p0 &&& (3 : Int32))), .unset, .unset, .unset, .unset, .unset, .unset, .unset, .unset, .unset, .unset, .unset] [(.int (0 : Int32))])
    refine own_step (fun _ k => XS.istore X0.here hx rfl (hb hby at_18) rfl (l' := #[.val (.int p0), .val (.int p1), .val (.int p2), .val (.int p3), .val (.int p4), .val (.int (p0 &&& (3 : Int32))), .val (.int (0 : Int32)), .unset, .unset, .unset, .unset, .unset, .unset, .unset, .unset, .unset, .unset]) rfl k) ?_
    show own_Go p e below P s₁ (mkF m 20 #[.val (.int p0), .val (.int p1), .val (.int p2), .val (.int p3), .val (.int p4), .val (.int (p0 &&& (3 : Int32))), .val (.int (0 : Int32)), .unset, .unset, .unset, .unset, .unset, .unset, .unset, .unset, .unset, .unset] [])
    exact J20_1 (0 : Int32)
  · refine own_step (fun _ k => XS.ifNo X0.here hx rfl (hb hby at_10) rfl ((if0 _ _).trans (feq hc39).1) k) ?_
    show own_Go p e below P s₁ (mkF m 13 #[.val (.int p0), .val (.int p1), .val (.int p2), .val (.int p3), .val (.int p4), .val (.int (p0 &&& (3 : Int32))), .unset, .unset, .unset, .unset, .unset, .unset, .unset, .unset, .unset, .unset, .unset] [])
    refine own_step (fun _ k => XS.iconst X0.here hx rfl (hb hby at_13) k) ?_
    show own_Go p e below P s₁ (mkF m 14 #[.val (.int p0), .val (.int p1), .val (.int p2), .val (.int p3), .val (.int p4), .val (.int (p0 &&& (3 : Int32))), .unset, .unset, .unset, .unset, .unset, .unset, .unset, .unset, .unset, .unset, .unset] [(.int (1 : Int32))])
    refine own_step (fun _ k => XS.goto X0.here hx rfl (pc0 := 14) (pc' := 18) rfl (hb hby at_14) (by decide) (by decide) k) ?_
    show own_Go p e below P s₁ (mkF m 18 #[.val (.int p0), .val (.int p1), .val (.int p2), .val (.int p3), .val (.int p4), .val (.int (p0 &&& (3 : Int32))), .unset, .unset, .unset, .unset, .unset, .unset, .unset, .unset, .unset, .unset, .unset] [(.int (1 : Int32))])
    refine own_step (fun _ k => XS.istore X0.here hx rfl (hb hby at_18) rfl (l' := #[.val (.int p0), .val (.int p1), .val (.int p2), .val (.int p3), .val (.int p4), .val (.int (p0 &&& (3 : Int32))), .val (.int (1 : Int32)), .unset, .unset, .unset, .unset, .unset, .unset, .unset, .unset, .unset, .unset]) rfl k) ?_
    show own_Go p e below P s₁ (mkF m 20 #[.val (.int p0), .val (.int p1), .val (.int p2), .val (.int p3), .val (.int p4), .val (.int (p0 &&& (3 : Int32))), .val (.int (1 : Int32)), .unset, .unset, .unset, .unset, .unset, .unset, .unset, .unset, .unset, .unset] [])
    exact J20_1 (1 : Int32)
set_option maxRecDepth 65536 in
set_option maxHeartbeats 40000000 in
theorem comes_1 {Post : Tables → Env → Array Value → State → Outcome → State → Prop} (hpost : ∀ tb e args s v u, (limb_1_1.after args s (.returned v) u = true ∧ limb_1_2.after args s (.returned v) u = true ∧ True) → FrameEnd s (.returned v) u (Jvm.fieldLocs frame_1_writes args s ++ Jvm.arrayLocs frame_1_arrays args s ++ Jvm.staticLocs frame_1_statics s) 16 128 → Post tb e args s (.returned v) u) :
    ArmFor flags0 classFile x code maxLocals ret World_1 tables_1 room_1 Calls_1 rest_1 Pre_1 Post := by
  intro l hfl _ _ p e ha hc hk s m args below hf hA hF happ hP
  obtain ⟨hcalls, hrest, hpre⟩ := hP
  obtain ⟨-, -, -, hnamed, -, -, -, hat⟩ := (Spec.applies_iff hf).mp happ
  obtain ⟨hg, hn⟩ := and_e (Cond.before_iff.mp (show (Jvm.Cond.and given_1 narrow_1).before args s = true from hpre))
  obtain ⟨hcnt, hg0⟩ := and_e hg
  obtain ⟨ga0, hg1⟩ := and_e hg0
  obtain ⟨ga1, hg2⟩ := and_e hg1
  obtain ⟨ga2, hg3⟩ := and_e hg2
  obtain ⟨ga3, hg4⟩ := and_e hg3
  have ga4 := hg4
  obtain ⟨w0, w1, w2, w3, w4, rfl⟩ : ∃ w0 w1 w2 w3 w4 : Value, args = #[w0, w1, w2, w3, w4] := by
    have hs : args.size = 5 := by simpa [Cond.value, given_1] using hcnt
    obtain ⟨L⟩ := args
    match L, hs with
    | [w0, w1, w2, w3, w4], _ => exact ⟨w0, w1, w2, w3, w4, rfl⟩
  have hw := fun d (hd : d ∈ tables_1) => atoms_spec (ws := Jvm.Cond.code x code maxLocals ret :: tables_1) hat d (List.mem_cons_of_mem _ hd)
  have hfit : Fit s := fun {y c} hc i hi => by
    obtain ⟨ha, rfl⟩ := Array.getElem?_eq_some_iff.mp hc
    have q := List.all_eq_true.mp ((Array.all_eq_true_iff_forall_mem.mp hF) _ (Array.getElem_mem ha)) i (List.mem_range.mpr hi)
    simpa [Array.getElem?_eq_getElem hi] using q
  obtain ⟨i0, ei0⟩ := is_v ga0
  obtain rfl : w0 = (.int i0) := Option.some.inj ei0
  obtain ⟨i1, ei1⟩ := is_v ga1
  obtain rfl : w1 = (.int i1) := Option.some.inj ei1
  obtain ⟨i2, ei2⟩ := is_v ga2
  obtain rfl : w2 = (.int i2) := Option.some.inj ei2
  obtain ⟨i3, ei3⟩ := is_v ga3
  obtain rfl : w3 = (.int i3) := Option.some.inj ei3
  obtain ⟨i4, ei4⟩ := is_v ga4
  obtain rfl : w4 = (.int i4) := Option.some.inj ei4
  obtain ⟨n, o, h1, h2, h3, _, L, rfl, ⟨rfl, N⟩, hq⟩ := rm0 l s _ hw tables_1 i0 i1 i2 i3 i4  s.heap s.heap.size (Nat.le_refl _)  p e ha hc hk s m _ below hf ((Spec.applies_iff_loose hf).mp happ).1 ⟨rfl, State.Warmed39.refl s, rfl⟩ trivial
  refine ⟨n, _, h1, h2, h3, hpost _ _ _ _ _ _ ⟨Cond.after_iff.mpr rfl, Cond.after_iff.mpr (eq_i res_at (Term.int_eval (1)) rfl), trivial⟩ ⟨hq.1, hq.2.1, (hq.2.2.sift fun y hy => Or.inr (N y hy)).mono (by decide) (by decide)⟩⟩
theorem main_1_1 : Claimed_1_1 := comes_1 fun _ _ _ _ _ _ h hF => ⟨h.1, hF⟩
theorem main_1_2 : Claimed_1_2 := comes_1 fun _ _ _ _ _ _ h hF => ⟨h.2.1, hF⟩
end Jvm.Pilot.@@N@@
namespace Jvm.Pilot.@@N@@
open Jvm Jvm.ClassFile Sem Op Lib Jvm.Free Jvm.Stand Jvm.Pilot.@@N@@.Jvm.D
/-! MADE BY PROGRAM (witnessworld.py) out of the Statement's table words and the real class files: 11 classes; the members and pool entries that the words name. The judged class is class 1, her method 1. -/
namespace start1
open Jvm.ClassFile
def u (s : String) : CpInfo := .utf8 (stringToUtf16 s)
/-- a pool by its gaps: so many unusable entries, then the entry; so many at the end -/
def gap : Nat → List CpInfo → List CpInfo
  | 0, r => r
  | n + 1, r => .unusable :: gap n r
def poolList (es : List (Nat × CpInfo)) (last : Nat) : List CpInfo := es.foldr (fun e r => gap e.1 (e.2 :: r)) (gap last [])
def pool (es : List (Nat × CpInfo)) (last : Nat) : Array CpInfo := ⟨poolList es last⟩
def fileOf (pool : Array CpInfo) (this : Nat) (attrs : Array Attribute := #[]) (ms : Array MethodInfo := #[]) (fl : Nat := 33) (sup : Nat := 0) (ifs : Array Nat := #[]) (fds : Array FieldInfo := #[]) : ClassFile where
  minorVersion := 0
  majorVersion := 65
  constantPool := pool
  accessFlags := fl
  thisClass := this
  superClass := sup
  interfaces := ifs
  fields := fds
  methods := ms
  attributes := attrs
def plain (name : String) (sup : Option ClassId) : Class where
  name := name
  kind := .ordinary
  loader := none
  accessFlags := 33
  super := sup
  interfaces := #[]
  cf := none
  fields := #[]
  methods := #[]
  instanceTypes := #[]
  staticTypes := #[]
  resolved := #[]
  callSites := []
  init := .initialized
  statics := none
  mirror := none

def pool0 : Array CpInfo := pool [(5, u "<init>"), (0, u "()V"), (1, .class_ 10), (1, u "java/lang/Object")] 113

def k0c0 : Code := { maxStack := 0, maxLocals := 1, code := object_method_1_code, exceptionTable := #[], attributes := #[] }
def k0m0 : Method := { name := "<init>", desc := "()V", sig := { parameters := [], returnType := none }, accessFlags := 1, code := some k0c0 }
/-- java/lang/Object -/
def k0 : Class := { plain "java/lang/Object" none with
  accessFlags := 33
  interfaces := #[]
  cf := some (fileOf pool0 8 #[] #[{ accessFlags := 1, nameIndex := 5, descriptorIndex := 6, attributes := #[] }] 33 0 #[] #[])
  fields := #[]
  methods := #[k0m0]
  instanceTypes := #[]
  staticTypes := #[]
  resolved := Array.replicate 124 none
  statics := none }

def pool1 : Array CpInfo := pool [(2, .class_ 4), (1, u "java/lang/Object"), (0, u "<init>"), (0, u "()V"), (0, .double 9223372036854775808), (1, .class_ 10), (0, u "com/example/equiflow/equiflow/model/Summary"), (0, .methodref 9 12), (0, .nameAndType 5 13), (0, u "(DDDD)V"), (0, .methodref 9 15), (0, .nameAndType 16 17), (0, u "priceOfFairness"), (0, u "(D)D"), (0, .methodref 19 20), (0, .class_ 21), (0, .nameAndType 22 23), (0, u "java/lang/Math"), (0, u "min"), (0, u "(II)I"), (0, .methodref 19 25), (0, .nameAndType 26 23), (0, u "max"), (0, .class_ 28), (0, u "com/example/equiflow/equiflow/model/SummaryPriceOfFairnessPinLaw"), (2, u "law"), (0, u "(IIIII)Z")] 3

def k1m0 : Method := { name := "<init>", desc := "()V", sig := { parameters := [], returnType := none }, accessFlags := 2, code := none }
def k1c1 : Code := { maxStack := 10, maxLocals := 17, code := code, exceptionTable := #[], attributes := #[] }
def k1m1 : Method := { name := "law", desc := "(IIIII)Z", sig := { parameters := [.int, .int, .int, .int, .int], returnType := some .boolean }, accessFlags := 9, code := some k1c1 }
/-- com/example/equiflow/equiflow/model/SummaryPriceOfFairnessPinLaw -/
def k1 : Class := { plain "com/example/equiflow/equiflow/model/SummaryPriceOfFairnessPinLaw" (some 0) with
  accessFlags := 49
  interfaces := #[]
  cf := some (fileOf pool1 27 #[] #[{ accessFlags := 2, nameIndex := 5, descriptorIndex := 6, attributes := #[] }, { accessFlags := 9, nameIndex := 31, descriptorIndex := 32, attributes := #[] }] 49 2 #[] #[])
  fields := #[]
  methods := #[k1m0, k1m1]
  instanceTypes := #[]
  staticTypes := #[]
  resolved := Array.replicate 36 none
  statics := none }

def pool2 : Array CpInfo := pool [(1, .methodref 2 3), (0, .class_ 4), (0, .nameAndType 5 6), (0, u "java/lang/Object"), (0, u "<init>"), (0, u "()V"), (0, .class_ 8), (0, u "java/lang/Record")] 13

def k2c0 : Code := { maxStack := 1, maxLocals := 1, code := jdk_30_method_1_code, exceptionTable := #[], attributes := #[] }
def k2m0 : Method := { name := "<init>", desc := "()V", sig := { parameters := [], returnType := none }, accessFlags := 4, code := some k2c0 }
/-- java/lang/Record -/
def k2 : Class := { plain "java/lang/Record" (some 0) with
  accessFlags := 1057
  interfaces := #[]
  cf := some (fileOf pool2 7 #[] #[{ accessFlags := 4, nameIndex := 5, descriptorIndex := 6, attributes := #[] }] 1057 2 #[] #[])
  fields := #[]
  methods := #[k2m0]
  instanceTypes := #[]
  staticTypes := #[]
  resolved := Array.replicate 22 none
  statics := none }

def pool3 : Array CpInfo := pool [(1, .methodref 2 3), (0, .class_ 4), (0, .nameAndType 5 6), (0, u "java/lang/Record"), (0, u "<init>"), (0, u "()V"), (0, .fieldref 8 9), (0, .class_ 10), (0, .nameAndType 11 12), (0, u "com/example/equiflow/equiflow/model/Summary"), (0, u "total"), (0, u "D"), (0, .fieldref 8 14), (0, .nameAndType 15 12), (0, u "min"), (0, .fieldref 8 17), (0, .nameAndType 18 12), (0, u "jain"), (0, .fieldref 8 20), (0, .nameAndType 21 12), (0, u "gini"), (66, u "(DDDD)V"), (44, u "priceOfFairness"), (0, u "(D)D")] 53

def k3c0 : Code := { maxStack := 3, maxLocals := 9, code := prog_26_method_1_code, exceptionTable := #[], attributes := #[] }
def k3m0 : Method := { name := "<init>", desc := "(DDDD)V", sig := { parameters := [.double, .double, .double, .double], returnType := none }, accessFlags := 1, code := some k3c0 }
def k3c1 : Code := { maxStack := 4, maxLocals := 3, code := prog_26_method_3_code, exceptionTable := #[], attributes := #[] }
def k3m1 : Method := { name := "priceOfFairness", desc := "(D)D", sig := { parameters := [.double], returnType := some .double }, accessFlags := 1, code := some k3c1 }
/-- com/example/equiflow/equiflow/model/Summary -/
def k3 : Class := { plain "com/example/equiflow/equiflow/model/Summary" (some 2) with
  accessFlags := 49
  interfaces := #[]
  cf := some (fileOf pool3 8 #[] #[{ accessFlags := 1, nameIndex := 5, descriptorIndex := 88, attributes := #[] }, { accessFlags := 1, nameIndex := 133, descriptorIndex := 134, attributes := #[] }] 49 2 #[] #[{ accessFlags := 18, nameIndex := 11, descriptorIndex := 12, attributes := #[] }, { accessFlags := 18, nameIndex := 15, descriptorIndex := 12, attributes := #[] }, { accessFlags := 18, nameIndex := 18, descriptorIndex := 12, attributes := #[] }, { accessFlags := 18, nameIndex := 21, descriptorIndex := 12, attributes := #[] }])
  fields := #[{ name := "total", type := .double, accessFlags := 18, slot := 0, constantValue := 0 }, { name := "min", type := .double, accessFlags := 18, slot := 1, constantValue := 0 }, { name := "jain", type := .double, accessFlags := 18, slot := 2, constantValue := 0 }, { name := "gini", type := .double, accessFlags := 18, slot := 3, constantValue := 0 }]
  methods := #[k3m0, k3m1]
  instanceTypes := #[.double, .double, .double, .double]
  staticTypes := #[]
  resolved := Array.replicate 188 none
  statics := none }

def pool4 : Array CpInfo := pool [(1, .class_ 2), (0, u "java/lang/Math"), (1, .class_ 6), (1, u "java/lang/Object"), (0, u "<init>"), (0, u "()V"), (89, .class_ 100), (1, u "java/lang/Math$RandomNumberGeneratorHolder"), (71, u "negativeZeroFloatBits"), (0, u "J"), (2, u "negativeZeroDoubleBits"), (21, u "max"), (2, u "min"), (43, u "$assertionsDisabled"), (0, u "Z"), (88, u "(II)I"), (2, u "twoToTheDoubleScaleDown"), (0, u "D"), (4, u "twoToTheDoubleScaleUp"), (9, u "E"), (3, u "PI"), (2, u "TAU"), (2, u "DEGREES_TO_RADIANS"), (0, u "RADIANS_TO_DEGREES")] 94

def k4m0 : Method := { name := "<init>", desc := "()V", sig := { parameters := [], returnType := none }, accessFlags := 2, code := none }
def k4c1 : Code := { maxStack := 2, maxLocals := 2, code := jdk_29_method_65_code, exceptionTable := #[], attributes := #[] }
def k4m1 : Method := { name := "max", desc := "(II)I", sig := { parameters := [.int, .int], returnType := some .int }, accessFlags := 9, code := some k4c1 }
def k4c2 : Code := { maxStack := 2, maxLocals := 2, code := jdk_29_method_69_code, exceptionTable := #[], attributes := #[] }
def k4m2 : Method := { name := "min", desc := "(II)I", sig := { parameters := [.int, .int], returnType := some .int }, accessFlags := 9, code := some k4c2 }
/-- java/lang/Math -/
def k4 : Class := { plain "java/lang/Math" (some 0) with
  accessFlags := 49
  interfaces := #[]
  cf := some (fileOf pool4 1 #[.nestMembers #[98]] #[{ accessFlags := 2, nameIndex := 7, descriptorIndex := 8, attributes := #[] }, { accessFlags := 9, nameIndex := 198, descriptorIndex := 335, attributes := #[] }, { accessFlags := 9, nameIndex := 201, descriptorIndex := 335, attributes := #[] }] 49 4 #[] #[{ accessFlags := 25, nameIndex := 354, descriptorIndex := 339, attributes := #[] }, { accessFlags := 25, nameIndex := 358, descriptorIndex := 339, attributes := #[] }, { accessFlags := 25, nameIndex := 361, descriptorIndex := 339, attributes := #[] }, { accessFlags := 26, nameIndex := 364, descriptorIndex := 339, attributes := #[] }, { accessFlags := 26, nameIndex := 365, descriptorIndex := 339, attributes := #[] }, { accessFlags := 26, nameIndex := 172, descriptorIndex := 173, attributes := #[] }, { accessFlags := 26, nameIndex := 176, descriptorIndex := 173, attributes := #[] }, { accessFlags := 8, nameIndex := 344, descriptorIndex := 339, attributes := #[] }, { accessFlags := 8, nameIndex := 338, descriptorIndex := 339, attributes := #[] }, { accessFlags := 4120, nameIndex := 245, descriptorIndex := 246, attributes := #[] }])
  fields := #[{ name := "E", type := .double, accessFlags := 25, slot := 0, constantValue := 0 }, { name := "PI", type := .double, accessFlags := 25, slot := 1, constantValue := 0 }, { name := "TAU", type := .double, accessFlags := 25, slot := 2, constantValue := 0 }, { name := "DEGREES_TO_RADIANS", type := .double, accessFlags := 26, slot := 3, constantValue := 0 }, { name := "RADIANS_TO_DEGREES", type := .double, accessFlags := 26, slot := 4, constantValue := 0 }, { name := "negativeZeroFloatBits", type := .long, accessFlags := 26, slot := 5, constantValue := 0 }, { name := "negativeZeroDoubleBits", type := .long, accessFlags := 26, slot := 6, constantValue := 0 }, { name := "twoToTheDoubleScaleUp", type := .double, accessFlags := 8, slot := 7, constantValue := 0 }, { name := "twoToTheDoubleScaleDown", type := .double, accessFlags := 8, slot := 8, constantValue := 0 }, { name := "$assertionsDisabled", type := .boolean, accessFlags := 4120, slot := 9, constantValue := 0 }]
  methods := #[k4m0, k4m1, k4m2]
  instanceTypes := #[]
  staticTypes := #[.double, .double, .double, .double, .double, .long, .long, .double, .double, .boolean]
  resolved := Array.replicate 460 none
  statics := none }

def pool5 : Array CpInfo := pool [(1, u "java/lang/Cloneable"), (0, .class_ 1), (0, u "java/lang/Object"), (0, .class_ 3)] 3

/-- java/lang/Cloneable -/
def k5 : Class := { plain "java/lang/Cloneable" (some 0) with
  accessFlags := 1537
  interfaces := #[]
  cf := some (fileOf pool5 2 #[] #[] 1537 4 #[] #[])
  fields := #[]
  methods := #[]
  instanceTypes := #[]
  staticTypes := #[]
  resolved := Array.replicate 8 none
  statics := none }

def pool6 : Array CpInfo := pool [(1, u "java/io/Serializable"), (0, .class_ 1), (0, u "java/lang/Object"), (0, .class_ 3)] 3

/-- java/io/Serializable -/
def k6 : Class := { plain "java/io/Serializable" (some 0) with
  accessFlags := 1537
  interfaces := #[]
  cf := some (fileOf pool6 2 #[] #[] 1537 4 #[] #[])
  fields := #[]
  methods := #[]
  instanceTypes := #[]
  staticTypes := #[]
  resolved := Array.replicate 8 none
  statics := none }

/-- the primitive byte -/
def k7 : Class := { plain "byte" none with kind := .primitive 'B', accessFlags := 0x411 }
/-- [B -/
def k8 : Class := { plain "[B" (some 0) with kind := .array 7 .byte, interfaces := #[5, 6], accessFlags := 1041 }

/-- the primitive int -/
def k9 : Class := { plain "int" none with kind := .primitive 'I', accessFlags := 0x411 }
/-- [I -/
def k10 : Class := { plain "[I" (some 0) with kind := .array 9 .int, interfaces := #[5, 6], accessFlags := 1041 }

def heap : Heap := #[]
def classes : Array Class := #[k0, k1, k2, k3, k4, k5, k6, k7, k8, k9, k10]
def interned : List (Array UInt16 × Addr) := []
def slotsUsed : Nat := 0
def theMethod : MethodId := ⟨1, 1⟩
def args0 : Array Value := #[.int 5, .int 7, .int 4, .int 9, .int 9]
def aboutOver (below : List Frame) : State where
  vm := { classes := classes, interned := interned.toArray }
  heap := heap
  slotsUsed := slotsUsed
  threads := #[{ frames := .invoking theMethod args0 :: below }]
def below0 : List Frame := [.native { method := ⟨0, 0⟩, args := #[] }]
def about1 : State := aboutOver below0
def p0 : Program := .bare "" "" ""
def e0 : Env := launch0.env 0 0 0
theorem w_frames : about1.frames = Frame.invoking theMethod args0 :: below0 := rfl
set_option maxRecDepth 65536 in
theorem w_args : argsFit about1.vm theMethod args0 = true := by decide +kernel
set_option maxRecDepth 65536 in
theorem w_heap : heapFits about1 = true := by decide +kernel
set_option maxRecDepth 65536 in
theorem w_runnable : about1.curStatus? = some .runnable := by decide +kernel
set_option maxRecDepth 65536 in
theorem w_alone : about1.alone = true := by decide +kernel
set_option maxRecDepth 65536 in
theorem w_named : about1.methodNamed? x = some theMethod := by decide +kernel
set_option maxRecDepth 65536 in
theorem w_hears : about1.hears theMethod below0 = true := by decide +kernel
set_option maxRecDepth 65536 in
theorem w_ripe : about1.ripe theMethod args0 below0 = true := by decide +kernel
theorem w_running : about1.status = .running := rfl
set_option maxRecDepth 65536 in
theorem w_room : about1.hasRoom e0.platform room_1 = true :=
  launch0.hasRoom_least _ room_1 (by decide +kernel) (by decide +kernel) (by decide +kernel) (by decide +kernel) (by decide +kernel) (by decide +kernel)
theorem allAtoms_all (ts : List Jvm.Cond) (a : Array Jvm.Value) (st : Jvm.State) : (allAtoms ts).before a st = ts.all (fun c => c.before a st) := by
  induction ts with
  | nil => rfl
  | cons c t ih =>
    show (Jvm.Cond.and c (allAtoms t)).before a st = _
    rw [Jvm.Cond.before_and, ih, List.all_cons]
def words1 : List Jvm.Cond := Jvm.Cond.code x code maxLocals ret :: tables_1
/-- a 'code' word, met by the world's own term for the bytes: nothing is compared byte by byte -/
theorem code_word {y : MethodName} {bytes : ByteArray} {mx : Nat} {rt : Option FieldType} {a : Array Value} {s : State} {m : MethodId} {meth : Method} {c : Code} (h1 : s.methodNamed? y = some m) (h2 : s.vm.method? m = some meth) (h3 : meth.code = some c) (h4 : c.code = bytes)
    (h5 : (c.maxLocals == mx && c.exceptionTable.isEmpty && decide (c.maxStack ≤ mostOperands) && decide (meth.sig.returnType = rt) && !meth.locks && decide (parseMethodDescriptor y.desc = some meth.sig)) = true) : (Jvm.Cond.code y bytes mx rt).before a s = true := by
  simp only [Bool.and_eq_true, beq_iff_eq, Bool.not_eq_true', decide_eq_true_eq] at h5
  obtain ⟨⟨⟨⟨⟨g1, g2⟩, g3⟩, g4⟩, g5⟩, g6⟩ := h5
  simp [Cond.before, Cond.holds, Cond.value, h1, h2, h3, h4, g1, g2, g3, g4, g5, g6]
def isCode : Jvm.Cond → Bool
  | .code _ _ _ _ => true
  | _ => false
theorem all_split {L : List Jvm.Cond} {P : Jvm.Cond → Bool} (h1 : L.all (fun c => isCode c || P c) = true) (h2 : ∀ c ∈ L.filter isCode, P c = true) : L.all P = true := by
  refine List.all_eq_true.mpr fun c hc => ?_
  have h := List.all_eq_true.mp h1 c hc
  rcases Bool.eq_false_or_eq_true (isCode c) with hi | hi
  · exact h2 c (List.mem_filter.mpr ⟨hc, hi⟩)
  · simpa [hi] using h
set_option maxRecDepth 65536 in
theorem w_c0 : (Jvm.Cond.code x code maxLocals ret).before args0 about1 = true := code_word (m := ⟨1, 1⟩) (meth := k1m1) (c := k1c1) (by decide +kernel) rfl rfl rfl (by decide +kernel)
set_option maxRecDepth 65536 in
theorem w_c1 : (Jvm.Cond.code ({ cls := "com/example/equiflow/equiflow/model/Summary", name := "<init>", desc := "(DDDD)V" } : Jvm.MethodName) prog_26_method_1_code (9 : Nat) (Option.none : Option Jvm.ClassFile.FieldType)).before args0 about1 = true := code_word (m := ⟨3, 0⟩) (meth := k3m0) (c := k3c0) (by decide +kernel) rfl rfl rfl (by decide +kernel)
set_option maxRecDepth 65536 in
theorem w_c2 : (Jvm.Cond.code ({ cls := "java/lang/Record", name := "<init>", desc := "()V" } : Jvm.MethodName) jdk_30_method_1_code (1 : Nat) (Option.none : Option Jvm.ClassFile.FieldType)).before args0 about1 = true := code_word (m := ⟨2, 0⟩) (meth := k2m0) (c := k2c0) (by decide +kernel) rfl rfl rfl (by decide +kernel)
set_option maxRecDepth 65536 in
theorem w_c3 : (Jvm.Cond.code ({ cls := "java/lang/Object", name := "<init>", desc := "()V" } : Jvm.MethodName) object_method_1_code (1 : Nat) (Option.none : Option Jvm.ClassFile.FieldType)).before args0 about1 = true := code_word (m := ⟨0, 0⟩) (meth := k0m0) (c := k0c0) (by decide +kernel) rfl rfl rfl (by decide +kernel)
set_option maxRecDepth 65536 in
theorem w_c4 : (Jvm.Cond.code ({ cls := "com/example/equiflow/equiflow/model/Summary", name := "priceOfFairness", desc := "(D)D" } : Jvm.MethodName) prog_26_method_3_code (3 : Nat) (Option.some Jvm.ClassFile.FieldType.double)).before args0 about1 = true := code_word (m := ⟨3, 1⟩) (meth := k3m1) (c := k3c1) (by decide +kernel) rfl rfl rfl (by decide +kernel)
set_option maxRecDepth 65536 in
theorem w_c5 : (Jvm.Cond.code ({ cls := "java/lang/Math", name := "min", desc := "(II)I" } : Jvm.MethodName) jdk_29_method_69_code (2 : Nat) (Option.some Jvm.ClassFile.FieldType.int)).before args0 about1 = true := code_word (m := ⟨4, 2⟩) (meth := k4m2) (c := k4c2) (by decide +kernel) rfl rfl rfl (by decide +kernel)
set_option maxRecDepth 65536 in
theorem w_c6 : (Jvm.Cond.code ({ cls := "java/lang/Math", name := "max", desc := "(II)I" } : Jvm.MethodName) jdk_29_method_65_code (2 : Nat) (Option.some Jvm.ClassFile.FieldType.int)).before args0 about1 = true := code_word (m := ⟨4, 1⟩) (meth := k4m1) (c := k4c1) (by decide +kernel) rfl rfl rfl (by decide +kernel)
def codes1 : List Jvm.Cond := [Jvm.Cond.code x code maxLocals ret, Jvm.Cond.code ({ cls := "com/example/equiflow/equiflow/model/Summary", name := "<init>", desc := "(DDDD)V" } : Jvm.MethodName) prog_26_method_1_code (9 : Nat) (Option.none : Option Jvm.ClassFile.FieldType), Jvm.Cond.code ({ cls := "java/lang/Record", name := "<init>", desc := "()V" } : Jvm.MethodName) jdk_30_method_1_code (1 : Nat) (Option.none : Option Jvm.ClassFile.FieldType), Jvm.Cond.code ({ cls := "java/lang/Object", name := "<init>", desc := "()V" } : Jvm.MethodName) object_method_1_code (1 : Nat) (Option.none : Option Jvm.ClassFile.FieldType), Jvm.Cond.code ({ cls := "com/example/equiflow/equiflow/model/Summary", name := "priceOfFairness", desc := "(D)D" } : Jvm.MethodName) prog_26_method_3_code (3 : Nat) (Option.some Jvm.ClassFile.FieldType.double), Jvm.Cond.code ({ cls := "java/lang/Math", name := "min", desc := "(II)I" } : Jvm.MethodName) jdk_29_method_69_code (2 : Nat) (Option.some Jvm.ClassFile.FieldType.int), Jvm.Cond.code ({ cls := "java/lang/Math", name := "max", desc := "(II)I" } : Jvm.MethodName) jdk_29_method_65_code (2 : Nat) (Option.some Jvm.ClassFile.FieldType.int)]
set_option maxRecDepth 65536 in
theorem codes_eq : words1.filter isCode = codes1 := rfl
theorem w_codes : ∀ c ∈ words1.filter isCode, c.before args0 about1 = true := by
  rw [codes_eq]
  intro c hc
  simp only [codes1, List.mem_cons, List.not_mem_nil, or_false] at hc
  rcases hc with rfl | rfl | rfl | rfl | rfl | rfl | rfl
  · exact w_c0
  · exact w_c1
  · exact w_c2
  · exact w_c3
  · exact w_c4
  · exact w_c5
  · exact w_c6
set_option maxRecDepth 65536 in
theorem w_t1 : (words1.take 24).all (fun c => isCode c || c.before args0 about1) = true := by decide +kernel
set_option maxRecDepth 65536 in
theorem w_t2 : (words1.drop 24).all (fun c => isCode c || c.before args0 about1) = true := by decide +kernel
theorem w_tables : (allAtoms (Jvm.Cond.code x code maxLocals ret :: tables_1)).before args0 about1 = true := by
  rw [allAtoms_all]
  show words1.all (fun c => c.before args0 about1) = true
  refine all_split ?_ w_codes
  rw [← List.take_append_drop 24 words1, List.all_append, w_t1, w_t2]
  rfl
set_option maxRecDepth 65536 in
theorem w_case : (Jvm.Cond.and given_1 narrow_1).before args0 about1 = true := by decide +kernel
theorem w_applies : (headSpec (Jvm.Cond.code x code maxLocals ret :: tables_1) room_1).applies x e0.platform about1 = true :=
  (Spec.applies_iff w_frames).mpr ⟨w_running, w_runnable, w_alone, w_named, w_hears, w_ripe, w_room, w_tables⟩
theorem atStart : AtStart classFile x code maxLocals ret World_1 tables_1 room_1 Calls_1 rest_1 Pre_1 launch0 p0 e0 about1 theMethod args0 below0 :=
  ⟨lists_1, trivial, launch0.admits_env _ _ _, launch0.least_env, fairChoices_fair.cas, fairChoices_fair.clock, w_frames, w_args, w_heap, w_applies, trivial, trivial, w_case⟩
end start1
theorem witness_1 : WitnessClaimed_1 := ⟨start1.p0, start1.e0, start1.about1, start1.theMethod, start1.args0, start1.below0, start1.atStart⟩
end Jvm.Pilot.@@N@@
