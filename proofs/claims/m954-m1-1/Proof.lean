import JvmDerived
import JvmDerived.Pilot.@@N@@Statement
import JvmDerived.Pilot.@@N@@Code
set_option linter.unusedVariables false
set_option linter.unusedSimpArgs false
namespace Jvm.Pilot.@@N@@
open Jvm Jvm.ClassFile Sem Op Lib Jvm.Free Jvm.Stand Jvm.LawKit Jvm.RoadKit Bundle Jvm.Free.Fl Jvm.Pilot.@@N@@.Jvm.D
/-! the run stands at F in T, and comes to an end that P says -/
def own_Go (p : Program) (e : Env) (below : List Frame) (P : Outcome → State → Prop) (T : State) (F : JFrame) : Prop :=
  ∃ s₂ o, Steps p.tables e below (T.setTop F) s₂ ∧ s₂.status = .running ∧ Ended s₂ below o ∧ P o s₂
theorem own_step {p : Program} {e : Env} {below : List Frame} {P : Outcome → State → Prop} {T T' : State} {F F' : JFrame} (st : ∀ t, Steps p.tables e below (T'.setTop F') t → Steps p.tables e below (T.setTop F) t) (h : own_Go p e below P T' F') : own_Go p e below P T F := by
  obtain ⟨s₂, o, h1, h2⟩ := h
  exact ⟨s₂, o, st _ h1, h2⟩
theorem own_cast {p : Program} {e : Env} {below : List Frame} {P : Outcome → State → Prop} {T : State} {F F' : JFrame} (q : F = F') (h : own_Go p e below P T F') : own_Go p e below P T F := q ▸ h
theorem own_all {p : Program} {e : Env} {below : List Frame} {Q : Outcome → State → Prop} {T : State} {F : JFrame} (h : ∀ P : Outcome → State → Prop, (∀ o U, Q o U → P o U) → own_Go p e below P T F) : own_Go p e below Q T F := h Q fun _ _ q => q
theorem own_gd (cs : List Int32) (i : Nat) : (cs.map Value.int).getD i (.int 0) = .int (cs.getD i 0) := by
  simp only [List.getD_eq_getElem?_getD, List.getElem?_map]
  cases cs[i]? <;> rfl
def own_one : UInt64 := 4607182418800017408
theorem own_isfin {x : UInt64} (h : Fin64 x) : ¬ (0 : Int32) < cmpValue (FP.dcmp (x &&& 0x7fffffffffffffff) (9218868437227405311 : UInt64)) .g := by
  intro hc
  have h1 := (fin64_iff x).mp h
  have e1 := FP.Core.mask_toNat x
  have n1 : FP.Core.val64 (x &&& 0x7fffffffffffffff) ≠ .nan := by rw [FP.Core.ne_nan, e1]; omega
  have n2 : FP.Core.val64 (9218868437227405311 : UInt64) ≠ .nan := by decide +kernel
  rw [cmpV_g] at hc
  rcases (FP.Core.cmpInt_g_gt _).mp hc with q | q
  · have k := (FP.Core.dcmp_gt_key n1 n2).mp q
    have e2 : FP.Core.dkey (9218868437227405311 : UInt64) = 9218868437227405311 := by decide +kernel
    rw [e2] at k
    unfold FP.Core.dkey at k
    rw [e1] at k
    split at k <;> omega
  · rcases (FP.Core.dcmp_none _ _).mp q with r | r
    · exact n1 r
    · exact n2 r
theorem own_nm {x : UInt64} (h : Fin64 x) : NoNaN64 (x &&& 0x7fffffffffffffff) := (abs_fin h).noNaN
/-- max(1, min(4096, scores / 4)) -/
def own_bk (sc : Int32) : Int32 := if (1 : Int32) < (if sc / (4 : Int32) < (4096 : Int32) then sc / (4 : Int32) else (4096 : Int32)) then (if sc / (4 : Int32) < (4096 : Int32) then sc / (4 : Int32) else (4096 : Int32)) else (1 : Int32)
/-- max(0, min(hi, j)) -/
def own_clamp (hi j : Int32) : Int32 := if (0 : Int32) < (if j < hi then j else hi) then (if j < hi then j else hi) else (0 : Int32)
theorem own_clamp_in {hi j z : Int32} (h0 : 0 ≤ hi.toInt) (hz : hi.toInt < z.toInt) : ¬ own_clamp hi j < 0 ∧ own_clamp hi j < z := by
  unfold own_clamp
  simp only [Int32.lt_iff_toInt_lt, show (0 : Int32).toInt = 0 from rfl] at *
  split <;> split <;> (try simp only [show (0 : Int32).toInt = 0 from rfl]) <;> omega
def own_put (cs : List Int32) (i : Int32) : List Int32 := cs.set i.toNatClampNeg (cs.getD i.toNatClampNeg 0 + (1 : Int32))
theorem own_put_len (cs : List Int32) (i : Int32) : (own_put cs i).length = cs.length := List.length_set
theorem own_nat {j z : Int32} {n : Nat} (h0 : ¬ j < 0) (h : j < z) (hl : n = z.toNatClampNeg) : j.toNatClampNeg < n := by
  subst hl
  rw [Int32.lt_iff_toInt_lt] at h0 h
  simp only [Int32.toNatClampNeg, show (0 : Int32).toInt = 0 from rfl] at *
  omega
/-! quotients of doubles that hold whole numbers -/
section Quot
open Jvm.FP.Core
/-- the quotient of two whole numbers is the rounded ratio of their magnitudes -/
theorem own_qr {u t : Int} {a b : UInt64} (ha : DInt u a) (hb : DInt t b) (ht : t ≠ 0) :
    ∃ s, val64 (FP.ddiv a b) = roundRatio b64 s u.natAbs t.natAbs 0 ∧ (u ≠ 0 → s = (decide (u < 0) != decide (t < 0))) := by
  have hv : val64 (FP.ddiv a b) = quotient b64 (val64 a) (val64 b) := val64_ddiv a b
  rw [hv]
  unfold DInt at ha hb
  cases hva : val64 a with
  | nan => rw [hva] at ha; exact ha.elim
  | inf => rw [hva] at ha; exact ha.elim
  | fin s c e =>
    cases hvb : val64 b with
    | nan => rw [hvb] at hb; exact hb.elim
    | inf => rw [hvb] at hb; exact hb.elim
    | fin s' d r =>
      rw [hva] at ha; rw [hvb] at hb
      have hd : d ≠ 0 := fun q => ht ((whole_zero hb).mp q)
      have h1 := whole_natAbs ha
      have h2 := whole_natAbs hb
      refine ⟨(s != s'), ?_, fun hu => ?_⟩
      · show (if d = 0 then _ else roundRatio b64 (s != s') c d (e - r)) = _
        rw [if_neg hd]
        refine roundRatio_congr (Nat.pos_of_ne_zero hd) (by omega) ?_
        obtain ⟨m, m1, m2⟩ : ∃ m, e.toNat + (-r).toNat = (e - r - 0).toNat + m ∧ (-e).toNat + r.toNat = (0 - (e - r)).toNat + m := ⟨e.toNat + (-r).toNat - (e - r - 0).toNat, by omega, by omega⟩
        refine Nat.eq_of_mul_eq_mul_right (Nat.two_pow_pos m) ?_
        have e1 : c * t.natAbs * 2 ^ (e - r - 0).toNat * 2 ^ m = (c * 2 ^ e.toNat) * (t.natAbs * 2 ^ (-r).toNat) := by
          rw [Nat.mul_assoc (c * t.natAbs), ← Nat.pow_add, ← m1, Nat.pow_add]; ac_rfl
        have e2 : u.natAbs * d * 2 ^ (0 - (e - r)).toNat * 2 ^ m = (u.natAbs * 2 ^ (-e).toNat) * (d * 2 ^ r.toNat) := by
          rw [Nat.mul_assoc (u.natAbs * d), ← Nat.pow_add, ← m2, Nat.pow_add]; ac_rfl
        rw [e1, e2, h1, h2]
      · rw [whole_sign ha hu, whole_sign hb ht]
theorem own_sgn {q t : Int} (hq : q ≠ 0) (ht : t ≠ 0) : (decide (q * t < 0) != decide (t < 0)) = decide (q < 0) := by
  rcases Int.lt_or_gt_of_ne ht with h | h <;> rcases Int.lt_or_gt_of_ne hq with g | g
  · have := Int.mul_pos_of_neg_of_neg g h; simp [h, g, show ¬ q * t < 0 by omega]
  · have := Int.mul_neg_of_pos_of_neg g h; simp [h, this, show ¬ q < 0 by omega]
  · have := Int.mul_neg_of_neg_of_pos g h; simp [g, this, show ¬ t < 0 by omega]
  · have := Int.mul_pos g h; simp [show ¬ q * t < 0 by omega, show ¬ t < 0 by omega, show ¬ q < 0 by omega]
theorem own_rr0 (s : Bool) (B : Nat) (e : Int) : roundRatio b64 s 0 B e = .fin s 0 b64.qmin := if_pos rfl
theorem own_whole0 (s : Bool) (q : Int) : Whole 0 (.fin s 0 q) := by
  show signed s (0 * 2 ^ q.toNat) = 0 * _
  rw [Nat.zero_mul, Int.zero_mul]; exact signed_zero s
/-- an exact quotient -/
theorem own_quot {u t q : Int} {a b : UInt64} (ha : DInt u a) (hb : DInt t b) (ht : t ≠ 0) (hu : u = q * t) (hq : q.natAbs ≤ 2 ^ 53) : DInt q (FP.ddiv a b) := by
  obtain ⟨s, h1, h2⟩ := own_qr ha hb ht
  show Whole q (val64 (FP.ddiv a b))
  rw [h1]
  by_cases hz : q = 0
  · subst hz; rw [hu, Int.zero_mul]; show Whole 0 (roundRatio b64 s 0 _ 0); rw [own_rr0]; exact own_whole0 _ _
  · have hu0 : u ≠ 0 := by rw [hu]; exact Int.mul_ne_zero hz ht
    rw [h2 hu0, hu, own_sgn hz ht, Int.natAbs_mul]
    have e : roundRatio b64 (decide (q < 0)) (q.natAbs * t.natAbs) t.natAbs 0 = round b64 (ofInt q) := by
      show _ = roundRatio b64 (decide (q < 0)) q.natAbs 1 0
      refine roundRatio_congr (by omega) (by decide) ?_
      simp
    rw [e]
    exact whole_round good_b64 wide_b64 hq (whole_ofInt q)
end Quot
/-! the counts, searched from the top -/
def own_walk (cs : List Int32) (pl : Int32) : Nat → Int32 → Option Int32
  | 0, ab => if pl < ab then some 0 else none
  | i + 1, ab => if pl < ab then some (i + 1).toInt32 else own_walk cs pl i (ab + cs.getD i 0)
theorem own_w0 (cs : List Int32) (pl ab : Int32) : own_walk cs pl 0 ab = if pl < ab then some 0 else none := rfl
theorem own_w1 (cs : List Int32) (pl ab : Int32) (i : Nat) : own_walk cs pl (i + 1) ab = if pl < ab then some (i + 1).toInt32 else own_walk cs pl i (ab + cs.getD i 0) := rfl
def own_bat (cs : List Int32) (pl : Int32) : Option Int32 := own_walk cs pl (cs.length - 1) (cs.getD (cs.length - 1) 0)
theorem own_whit {cs : List Int32} {pl ab rr : Int32} {i : Nat} (h : own_walk cs pl i ab = some rr) (hc : pl < ab) : rr = i.toInt32 := by
  cases i with
  | zero => rw [own_w0, if_pos hc] at h; exact (Option.some.inj h).symm
  | succ i => rw [own_w1, if_pos hc] at h; exact (Option.some.inj h).symm
theorem own_wz {cs : List Int32} {pl ab rr : Int32} (h : own_walk cs pl 0 ab = some rr) (hc : ¬ pl < ab) : False := by rw [own_w0, if_neg hc] at h; cases h
theorem own_ws {cs : List Int32} {pl ab rr : Int32} {i : Nat} (h : own_walk cs pl (i + 1) ab = some rr) (hc : ¬ pl < ab) : own_walk cs pl i (ab + cs.getD i 0) = some rr := by rw [own_w1, if_neg hc] at h; exact h
theorem own_dn {b z : Int32} {i : Nat} (h0 : ¬ b < 0) (h1 : b < z) (h : b.toNatClampNeg = i + 1) : ¬ (b + (-1 : Int32)) < 0 ∧ (b + (-1 : Int32)) < z ∧ (b + (-1 : Int32)).toNatClampNeg = i := by
  have q := c_iadd b (-1); have r := rng32 (b + -1); have r2 := rng32 z
  rw [Int32.lt_iff_toInt_lt] at h0 h1 ⊢
  rw [Int32.lt_iff_toInt_lt]
  simp only [Int32.toNatClampNeg, show (0 : Int32).toInt = 0 from rfl, show (-1 : Int32).toInt = -1 from rfl] at *
  omega
def own_ref (r k : Int32) : Int32 := if r < (0 : Int32) then (0 : Int32) else if k < r then k else r
def own_srt (x0 x1 x2 pl : Int32) : Int32 := (if x0 < x1 then (if x0 < x2 then (if x1 < x2 then ([x2, x1, x0].getD pl.toNatClampNeg 0) else ([x1, x2, x0].getD pl.toNatClampNeg 0)) else (if x1 < x0 then ([x0, x1, x2].getD pl.toNatClampNeg 0) else ([x1, x0, x2].getD pl.toNatClampNeg 0))) else (if x1 < x2 then (if x0 < x2 then ([x2, x0, x1].getD pl.toNatClampNeg 0) else ([x0, x2, x1].getD pl.toNatClampNeg 0)) else (if x0 < x1 then ([x1, x0, x2].getD pl.toNatClampNeg 0) else ([x0, x1, x2].getD pl.toNatClampNeg 0))))
def own_c0 (k : Int32) : List Int32 := List.replicate (k.toNatClampNeg + 1) (0 : Int32)
def own_K (i : Fin 4) : Int32 := Int32.ofInt ((i.1 : Int) + 1)
def own_R (i : Fin 8) : Int32 := Int32.ofInt ((i.1 : Int) - 1)
theorem own_t1 : ∀ (k : Fin 4) (a : Fin 8), own_bat (own_put (own_c0 (own_K k)) (own_clamp (own_K k) (own_R a))) 0 = some (own_srt (own_ref (own_R a) (own_K k)) (-1) (-1) 0) := by decide +kernel
theorem own_t2 : ∀ (k : Fin 4) (a b : Fin 8) (p : Fin 2), own_bat (own_put (own_put (own_c0 (own_K k)) (own_clamp (own_K k) (own_R a))) (own_clamp (own_K k) (own_R b))) (Int32.ofInt (p.1 : Int)) = some (own_srt (own_ref (own_R a) (own_K k)) (own_ref (own_R b) (own_K k)) (-1) (Int32.ofInt (p.1 : Int))) := by decide +kernel
theorem own_t3 : ∀ (k : Fin 4) (a b c : Fin 8) (p : Fin 3), own_bat (own_put (own_put (own_put (own_c0 (own_K k)) (own_clamp (own_K k) (own_R a))) (own_clamp (own_K k) (own_R b))) (own_clamp (own_K k) (own_R c))) (Int32.ofInt (p.1 : Int)) = some (own_srt (own_ref (own_R a) (own_K k)) (own_ref (own_R b) (own_K k)) (own_ref (own_R c) (own_K k)) (Int32.ofInt (p.1 : Int))) := by decide +kernel
theorem own_mask (p m : Int32) (k : Nat) (hk : k ≤ 31) (hm : m.toBitVec.toNat = 2 ^ k - 1) : ∃ i : Fin (2 ^ k), p &&& m = Int32.ofInt (i.1 : Int) := by
  have e := c_mask p m k hk hm
  have h0 : 0 ≤ (p &&& m).toInt := by rw [e]; exact Int.emod_nonneg _ (by have := Nat.two_pow_pos k; omega)
  have h1 : (p &&& m).toInt < (2 ^ k : Nat) := by rw [e]; exact Int.emod_lt_of_pos _ (by have := Nat.two_pow_pos k; omega)
  refine ⟨⟨(p &&& m).toInt.toNat, by omega⟩, ?_⟩
  show p &&& m = Int32.ofInt (((p &&& m).toInt.toNat : Nat) : Int)
  rw [Int.toNat_of_nonneg h0, Int32.ofInt_toInt]
theorem own_Kt : ∀ i : Fin 4, (1 : Int32) + Int32.ofInt (i.1 : Int) = own_K i := by decide +kernel
theorem own_Rt : ∀ i : Fin 8, Int32.ofInt (i.1 : Int) - (1 : Int32) = own_R i := by decide +kernel
def own_isK (k : Int32) : Prop := ∃ i, k = own_K i
def own_isR (r : Int32) : Prop := ∃ i, r = own_R i
theorem own_k (p : Int32) : own_isK ((1 : Int32) + (p &&& (3 : Int32))) := by
  obtain ⟨i, hi⟩ := own_mask p 3 2 (by decide) (by decide)
  exact ⟨i, by rw [hi]; exact own_Kt i⟩
theorem own_r (p : Int32) : own_isR ((p &&& (7 : Int32)) - (1 : Int32)) := by
  obtain ⟨i, hi⟩ := own_mask p 7 3 (by decide) (by decide)
  exact ⟨i, by rw [hi]; exact own_Rt i⟩
theorem own_o (p : Int32) : -1000 < (p % (1000 : Int32)).toInt ∧ (p % (1000 : Int32)).toInt < 1000 := by
  have h := c_irem p 1000 1000 rfl
  by_cases q : 0 ≤ p.toInt
  · have := h.1 q; omega
  · have := h.2 (by omega); omega
theorem own_n (p : Int32) : (1 : Int32) + ((p &&& (2147483647 : Int32)) % (3 : Int32)) = 1 ∨ (1 : Int32) + ((p &&& (2147483647 : Int32)) % (3 : Int32)) = 2 ∨ (1 : Int32) + ((p &&& (2147483647 : Int32)) % (3 : Int32)) = 3 := by
  have h1 := (c_and p 2147483647 (by decide)).1
  have h2 := (c_irem (p &&& (2147483647 : Int32)) 3 3 rfl).1 h1
  have h3 := c_iadd 1 ((p &&& (2147483647 : Int32)) % (3 : Int32))
  have h4 := rng32 ((1 : Int32) + ((p &&& (2147483647 : Int32)) % (3 : Int32)))
  simp only [← Int32.toInt_inj, show (1 : Int32).toInt = 1 from rfl, show (2 : Int32).toInt = 2 from rfl, show (3 : Int32).toInt = 3 from rfl] at *
  omega
theorem own_Kr {k : Int32} (h : own_isK k) : 1 ≤ k.toInt ∧ k.toInt ≤ 4 := by
  obtain ⟨i, rfl⟩ := h
  have : ∀ i : Fin 4, 1 ≤ (own_K i).toInt ∧ (own_K i).toInt ≤ 4 := by decide +kernel
  exact this i
theorem own_Rr {r : Int32} (h : own_isR r) : -1 ≤ r.toInt ∧ r.toInt ≤ 6 := by
  obtain ⟨i, rfl⟩ := h
  have : ∀ i : Fin 8, -1 ≤ (own_R i).toInt ∧ (own_R i).toInt ≤ 6 := by decide +kernel
  exact this i
theorem own_bkK {k : Int32} (h : own_isK k) : own_bk ((4 : Int32) * k) = k := by
  obtain ⟨i, rfl⟩ := h
  have : ∀ i : Fin 4, own_bk ((4 : Int32) * own_K i) = own_K i := by decide +kernel
  exact this i
/-! the doubles hold whole numbers -/
section Dbl
open Jvm.FP.Core
theorem own_add32 {o k : Int32} (h : -2000000000 ≤ o.toInt + k.toInt ∧ o.toInt + k.toInt ≤ 2000000000) : (o + k).toInt = o.toInt + k.toInt := by
  have q := c_iadd o k; have r := rng32 (o + k); omega
theorem own_ds {o k : Int32} (h : -2000000000 ≤ o.toInt + k.toInt ∧ o.toInt + k.toInt ≤ 2000000000) (hk : -1000 ≤ k.toInt ∧ k.toInt ≤ 1000) : DInt k.toInt (FP.dsub (FP.i2d (o + k)) (FP.i2d o)) := by
  have e := own_add32 h
  have d : DInt ((o + k).toInt - o.toInt) (FP.dsub (FP.i2d (o + k)) (FP.i2d o)) := dsub_int (i2d_int (o + k)) (i2d_int o) (by omega)
  rw [e] at d
  rwa [show o.toInt + k.toInt - o.toInt = k.toInt by omega] at d
theorem own_dfin {i : Int} {a : UInt64} (h : DInt i a) : Fin64 a := by
  rw [fin64_core]
  unfold DInt at h
  cases hv : val64 a with
  | nan => rw [hv] at h; exact h.elim
  | inf => rw [hv] at h; exact h.elim
  | fin s c q => exact ⟨s, c, q, hv⟩
theorem own_hA {o k : Int32} (h : -2000000000 ≤ o.toInt + k.toInt ∧ o.toInt + k.toInt ≤ 2000000000) (hk : 1 ≤ k.toInt) : (0 : Int32) < cmpValue (FP.dcmp (FP.i2d (o + k)) (FP.i2d o)) .l := by
  have q : FP.dcmp (FP.i2d (o + k)) (FP.i2d o) = some (compare (o + k).toInt o.toInt) := dcmp_int (i2d_int (o + k)) (i2d_int o)
  have e := own_add32 h
  rw [q, (compare_gt_iff _ _).mpr (by omega)]
  decide
theorem own_hD {o k : Int32} (h : -2000000000 ≤ o.toInt + k.toInt ∧ o.toInt + k.toInt ≤ 2000000000) (hk : 1 ≤ k.toInt ∧ k.toInt ≤ 1000) : FP.ddiv (FP.i2d k) (FP.dsub (FP.i2d (o + k)) (FP.i2d o)) = own_one := by
  have d := own_quot (q := 1) (i2d_int k) (own_ds h ⟨by omega, hk.2⟩) (by omega) (by omega) (by decide)
  exact dint_unique (by decide) d dint_one
theorem own_val {o r : Int32} (h : -2000000000 ≤ o.toInt + r.toInt ∧ o.toInt + r.toInt ≤ 2000000000) (hr : -1000 ≤ r.toInt ∧ r.toInt ≤ 1000) : FP.d2i (FP.dmul (FP.dsub (FP.i2d (o + r)) (FP.i2d o)) own_one) = r ∧ NoNaN64 (FP.dsub (FP.i2d (o + r)) (FP.i2d o)) ∧ NoNaN64 (FP.dmul (FP.dsub (FP.i2d (o + r)) (FP.i2d o)) own_one) := by
  have d := own_ds h hr
  have d2 : DInt (r.toInt * 1) (FP.dmul (FP.dsub (FP.i2d (o + r)) (FP.i2d o)) own_one) := dmul_int d dint_one (by omega)
  rw [Int.mul_one] at d2
  exact ⟨d2i_int d2, (own_dfin d).noNaN, (own_dfin d2).noNaN⟩
end Dbl
theorem own_b1 {b : Int32} : b + (1 : Int32) - (1 : Int32) = b := by simp
theorem own_cl {b j : Int32} (h : 1 ≤ b.toInt ∧ b.toInt ≤ 4) : ¬ own_clamp b j < 0 ∧ own_clamp b j < b + (1 : Int32) := own_clamp_in (by omega) (by have := c_iadd b 1; have := rng32 (b + 1); rw [show (1 : Int32).toInt = 1 from rfl] at *; omega)
theorem own_ok {o k : Int32} (h : -1000 < o.toInt ∧ o.toInt < 1000) (hk : -1 ≤ k.toInt ∧ k.toInt ≤ 6) : -2000000000 ≤ o.toInt + k.toInt ∧ o.toInt + k.toInt ≤ 2000000000 := by omega
theorem ef_5 (m : MethodId) (x0 : Int32) (x1 : Int32) : entryFrame m #[(.int x0), (.int x1)] 2 = mkF m 0 #[.val (.int x0), .val (.int x1)] [] := by first | (simp [entryFrame, mkF, argsToLocals, Value.category]; done) | rfl
theorem d5_0 : decode jdk_29_method_69_code 0 = .ok (.iload_n 0, 1) := by decide +kernel
theorem d5_1 : decode jdk_29_method_69_code 1 = .ok (.iload_n 1, 1) := by decide +kernel
theorem d5_2 : decode jdk_29_method_69_code 2 = .ok (.if_icmp .gt 7, 3) := by decide +kernel
theorem d5_9 : decode jdk_29_method_69_code 9 = .ok (.iload_n 1, 1) := by decide +kernel
theorem d5_10 : decode jdk_29_method_69_code 10 = .ok (.ireturn, 1) := by decide +kernel
theorem d5_5 : decode jdk_29_method_69_code 5 = .ok (.iload_n 0, 1) := by decide +kernel
theorem d5_6 : decode jdk_29_method_69_code 6 = .ok (.goto 4, 3) := by decide +kernel
def Q5 (Z : State) (p0 : Int32) (p1 : Int32) (h0 : Heap) (n0 : Nat) (v : Option Value) (h : Heap) (L : List Loc) : Prop := v = some (.int (if p1 < p0 then p1 else p0)) ∧ Fr n0 L ∧ h = h0
set_option maxRecDepth 65536 in
set_option maxHeartbeats 40000000 in
theorem rm5 (l : Launch) (Z : State) (a0 : Array Value) (hw : ∀ d ∈ tables_1, d.before a0 Z = true) (ws : List Jvm.Cond) (p0 : Int32) (p1 : Int32) (h0 : Heap) (n0 : Nat) (Z0 : n0 ≤ h0.size) :
    MetFree l (⟨"java/lang/Math", "min", "(II)I"⟩ : MethodName) (head1 (Jvm.Cond.code (⟨"java/lang/Math", "min", "(II)I"⟩ : MethodName) jdk_29_method_69_code 2 (some .int) :: ws) ({ frames := 0, cells := 0, slots := 0, locals := 0 } : Room)) (fun a U => a = #[(.int p0), (.int p1)] ∧ Z.Warmed39 U.vm ∧ U.heap = h0) (fun _ _ _ _ _ => True) (fun _ U o U' => ∃ v L, o = .returned v ∧ Q5 Z p0 p1 h0 n0 v U'.heap L ∧ FrameEnd U o U' L ({ frames := 0, cells := 0, slots := 0, locals := 0 } : Room).cells ({ frames := 0, cells := 0, slots := 0, locals := 0 } : Room).slots) := by
  refine MetFree.of_bodySF (Jvm.Free.JP.mathPlain rfl (by decide +kernel)) hisR ?_
  intro p e s m args below meth c s₁ Bd hml0 hP hK
  obtain ⟨rfl, hZ, hh⟩ := hP
  have hx := Bd.exec
  have hby := Bd.bytes
  have hml : c.maxLocals = 2 := hml0
  have hown : s.vm.findClass "java/lang/Math" = some m.cls := findClass_of_methodNamed Bd.named
  have hnm := (name_of_methodNamed Bd.named Bd.method).1
  have X0 : Stand p l e ({ frames := 0, cells := 0, slots := 0, locals := 0 } : Room) s m #[(.int p0), (.int p1)] below meth c s₁ [] 0 0 := Stand.of_body Bd
  have e0 : s₁.heap = h0 := by rw [← hh, Bd.state]; rfl
  have N0 := Fr.nil n0
  refine own_all ?_
  intro P hfin
  refine own_cast (ef_5 m p0 p1) ?_
  show own_Go p e below P s₁ (mkF m 0 #[.val (.int p0), .val (.int p1)] [])
  refine own_step (fun _ k => XS.iloadN X0.here hx rfl (hb hby d5_0) rfl k) ?_
  show own_Go p e below P s₁ (mkF m 1 #[.val (.int p0), .val (.int p1)] [(.int p0)])
  refine own_step (fun _ k => XS.iloadN X0.here hx rfl (hb hby d5_1) rfl k) ?_
  show own_Go p e below P s₁ (mkF m 2 #[.val (.int p0), .val (.int p1)] [(.int p1), (.int p0)])
  by_cases hc1 : p1 < p0
  · refine own_step (fun _ k => XS.icmpYes X0.here hx rfl (pc0 := 2) (pc' := 9) rfl (hb hby d5_2) rfl (tlt hc1).2.2.1 (by decide) (by decide) k) ?_
    show own_Go p e below P s₁ (mkF m 9 #[.val (.int p0), .val (.int p1)] [])
    refine own_step (fun _ k => XS.iloadN X0.here hx rfl (hb hby d5_9) rfl k) ?_
    show own_Go p e below P s₁ (mkF m 10 #[.val (.int p0), .val (.int p1)] [(.int p1)])
    obtain ⟨fs, hr, hrun, hended, hW, hsame⟩ := X0.leave (v := some (.int p1)) (fun h => by rw [Bd.returns] at h; cases h)
    refine ⟨_, _, retOut X0 hx (t := .int) Bd.returns rfl (Or.inl ⟨rfl, Or.inl rfl, _, rfl⟩) (hb hby d5_10) hr, hrun, hended, hfin _ _ ⟨_, _, rfl, ?_, ⟨_, rfl⟩, hW, hsame.mono (by decide) (by decide)⟩⟩
    show Q5 Z p0 p1 h0 n0 (some (.int p1)) s₁.heap _
    rw [e0]
    exact ⟨(congrArg (fun z => some (Value.int z)) (if_pos hc1).symm), N0, rfl⟩
  · refine own_step (fun _ k => XS.icmpNo X0.here hx rfl (hb hby d5_2) rfl (flt hc1).2.2.1 k) ?_
    show own_Go p e below P s₁ (mkF m 5 #[.val (.int p0), .val (.int p1)] [])
    refine own_step (fun _ k => XS.iloadN X0.here hx rfl (hb hby d5_5) rfl k) ?_
    show own_Go p e below P s₁ (mkF m 6 #[.val (.int p0), .val (.int p1)] [(.int p0)])
    refine own_step (fun _ k => XS.goto X0.here hx rfl (pc0 := 6) (pc' := 10) rfl (hb hby d5_6) (by decide) (by decide) k) ?_
    show own_Go p e below P s₁ (mkF m 10 #[.val (.int p0), .val (.int p1)] [(.int p0)])
    obtain ⟨fs, hr, hrun, hended, hW, hsame⟩ := X0.leave (v := some (.int p0)) (fun h => by rw [Bd.returns] at h; cases h)
    refine ⟨_, _, retOut X0 hx (t := .int) Bd.returns rfl (Or.inl ⟨rfl, Or.inl rfl, _, rfl⟩) (hb hby d5_10) hr, hrun, hended, hfin _ _ ⟨_, _, rfl, ?_, ⟨_, rfl⟩, hW, hsame.mono (by decide) (by decide)⟩⟩
    show Q5 Z p0 p1 h0 n0 (some (.int p0)) s₁.heap _
    rw [e0]
    exact ⟨(congrArg (fun z => some (Value.int z)) (if_neg hc1).symm), N0, rfl⟩
theorem ef_6 (m : MethodId) (x0 : Int32) (x1 : Int32) : entryFrame m #[(.int x0), (.int x1)] 2 = mkF m 0 #[.val (.int x0), .val (.int x1)] [] := by first | (simp [entryFrame, mkF, argsToLocals, Value.category]; done) | rfl
theorem d6_0 : decode jdk_29_method_65_code 0 = .ok (.iload_n 0, 1) := by decide +kernel
theorem d6_1 : decode jdk_29_method_65_code 1 = .ok (.iload_n 1, 1) := by decide +kernel
theorem d6_2 : decode jdk_29_method_65_code 2 = .ok (.if_icmp .lt 7, 3) := by decide +kernel
theorem d6_9 : decode jdk_29_method_65_code 9 = .ok (.iload_n 1, 1) := by decide +kernel
theorem d6_10 : decode jdk_29_method_65_code 10 = .ok (.ireturn, 1) := by decide +kernel
theorem d6_5 : decode jdk_29_method_65_code 5 = .ok (.iload_n 0, 1) := by decide +kernel
theorem d6_6 : decode jdk_29_method_65_code 6 = .ok (.goto 4, 3) := by decide +kernel
def Q6 (Z : State) (p0 : Int32) (p1 : Int32) (h0 : Heap) (n0 : Nat) (v : Option Value) (h : Heap) (L : List Loc) : Prop := v = some (.int (if p0 < p1 then p1 else p0)) ∧ Fr n0 L ∧ h = h0
set_option maxRecDepth 65536 in
set_option maxHeartbeats 40000000 in
theorem rm6 (l : Launch) (Z : State) (a0 : Array Value) (hw : ∀ d ∈ tables_1, d.before a0 Z = true) (ws : List Jvm.Cond) (p0 : Int32) (p1 : Int32) (h0 : Heap) (n0 : Nat) (Z0 : n0 ≤ h0.size) :
    MetFree l (⟨"java/lang/Math", "max", "(II)I"⟩ : MethodName) (head1 (Jvm.Cond.code (⟨"java/lang/Math", "max", "(II)I"⟩ : MethodName) jdk_29_method_65_code 2 (some .int) :: ws) ({ frames := 0, cells := 0, slots := 0, locals := 0 } : Room)) (fun a U => a = #[(.int p0), (.int p1)] ∧ Z.Warmed39 U.vm ∧ U.heap = h0) (fun _ _ _ _ _ => True) (fun _ U o U' => ∃ v L, o = .returned v ∧ Q6 Z p0 p1 h0 n0 v U'.heap L ∧ FrameEnd U o U' L ({ frames := 0, cells := 0, slots := 0, locals := 0 } : Room).cells ({ frames := 0, cells := 0, slots := 0, locals := 0 } : Room).slots) := by
  refine MetFree.of_bodySF (Jvm.Free.JP.mathPlain rfl (by decide +kernel)) hisR ?_
  intro p e s m args below meth c s₁ Bd hml0 hP hK
  obtain ⟨rfl, hZ, hh⟩ := hP
  have hx := Bd.exec
  have hby := Bd.bytes
  have hml : c.maxLocals = 2 := hml0
  have hown : s.vm.findClass "java/lang/Math" = some m.cls := findClass_of_methodNamed Bd.named
  have hnm := (name_of_methodNamed Bd.named Bd.method).1
  have X0 : Stand p l e ({ frames := 0, cells := 0, slots := 0, locals := 0 } : Room) s m #[(.int p0), (.int p1)] below meth c s₁ [] 0 0 := Stand.of_body Bd
  have e0 : s₁.heap = h0 := by rw [← hh, Bd.state]; rfl
  have N0 := Fr.nil n0
  refine own_all ?_
  intro P hfin
  refine own_cast (ef_6 m p0 p1) ?_
  show own_Go p e below P s₁ (mkF m 0 #[.val (.int p0), .val (.int p1)] [])
  refine own_step (fun _ k => XS.iloadN X0.here hx rfl (hb hby d6_0) rfl k) ?_
  show own_Go p e below P s₁ (mkF m 1 #[.val (.int p0), .val (.int p1)] [(.int p0)])
  refine own_step (fun _ k => XS.iloadN X0.here hx rfl (hb hby d6_1) rfl k) ?_
  show own_Go p e below P s₁ (mkF m 2 #[.val (.int p0), .val (.int p1)] [(.int p1), (.int p0)])
  by_cases hc1 : p0 < p1
  · refine own_step (fun _ k => XS.icmpYes X0.here hx rfl (pc0 := 2) (pc' := 9) rfl (hb hby d6_2) rfl (tlt hc1).1 (by decide) (by decide) k) ?_
    show own_Go p e below P s₁ (mkF m 9 #[.val (.int p0), .val (.int p1)] [])
    refine own_step (fun _ k => XS.iloadN X0.here hx rfl (hb hby d6_9) rfl k) ?_
    show own_Go p e below P s₁ (mkF m 10 #[.val (.int p0), .val (.int p1)] [(.int p1)])
    obtain ⟨fs, hr, hrun, hended, hW, hsame⟩ := X0.leave (v := some (.int p1)) (fun h => by rw [Bd.returns] at h; cases h)
    refine ⟨_, _, retOut X0 hx (t := .int) Bd.returns rfl (Or.inl ⟨rfl, Or.inl rfl, _, rfl⟩) (hb hby d6_10) hr, hrun, hended, hfin _ _ ⟨_, _, rfl, ?_, ⟨_, rfl⟩, hW, hsame.mono (by decide) (by decide)⟩⟩
    show Q6 Z p0 p1 h0 n0 (some (.int p1)) s₁.heap _
    rw [e0]
    exact ⟨(congrArg (fun z => some (Value.int z)) (if_pos hc1).symm), N0, rfl⟩
  · refine own_step (fun _ k => XS.icmpNo X0.here hx rfl (hb hby d6_2) rfl (flt hc1).1 k) ?_
    show own_Go p e below P s₁ (mkF m 5 #[.val (.int p0), .val (.int p1)] [])
    refine own_step (fun _ k => XS.iloadN X0.here hx rfl (hb hby d6_5) rfl k) ?_
    show own_Go p e below P s₁ (mkF m 6 #[.val (.int p0), .val (.int p1)] [(.int p0)])
    refine own_step (fun _ k => XS.goto X0.here hx rfl (pc0 := 6) (pc' := 10) rfl (hb hby d6_6) (by decide) (by decide) k) ?_
    show own_Go p e below P s₁ (mkF m 10 #[.val (.int p0), .val (.int p1)] [(.int p0)])
    obtain ⟨fs, hr, hrun, hended, hW, hsame⟩ := X0.leave (v := some (.int p0)) (fun h => by rw [Bd.returns] at h; cases h)
    refine ⟨_, _, retOut X0 hx (t := .int) Bd.returns rfl (Or.inl ⟨rfl, Or.inl rfl, _, rfl⟩) (hb hby d6_10) hr, hrun, hended, hfin _ _ ⟨_, _, rfl, ?_, ⟨_, rfl⟩, hW, hsame.mono (by decide) (by decide)⟩⟩
    show Q6 Z p0 p1 h0 n0 (some (.int p0)) s₁.heap _
    rw [e0]
    exact ⟨(congrArg (fun z => some (Value.int z)) (if_neg hc1).symm), N0, rfl⟩
theorem ef_3 (m : MethodId) (x0 : UInt64) : entryFrame m #[(.double x0)] 2 = mkF m 0 #[.val (.double x0), .second] [] := by first | (simp [entryFrame, mkF, argsToLocals, Value.category]; done) | rfl
theorem pn_java_lang_Double : plainName "java/lang/Double" = true := by first | (simp [plainName, overriddenIn]; done) | decide +kernel
theorem d3_0 : decode jdk_117_method_8_code 0 = .ok (.dload_n 0, 1) := by decide +kernel
theorem pd__D__D : parseMethodDescriptor "(D)D" = some ⟨[.double], some .double⟩ := by decide +kernel
theorem d3_1 : decode jdk_117_method_8_code 1 = .ok (.invokestatic 38, 3) := by decide +kernel
theorem d3_4 : decode jdk_117_method_8_code 4 = .ok (.ldc2_w 111, 3) := by decide +kernel
theorem d3_7 : decode jdk_117_method_8_code 7 = .ok (.dcmp .g, 1) := by decide +kernel
theorem d3_8 : decode jdk_117_method_8_code 8 = .ok (.ifCond .gt 7, 3) := by decide +kernel
theorem d3_11 : decode jdk_117_method_8_code 11 = .ok (.iconst 1, 1) := by decide +kernel
theorem d3_12 : decode jdk_117_method_8_code 12 = .ok (.goto 4, 3) := by decide +kernel
theorem d3_16 : decode jdk_117_method_8_code 16 = .ok (.ireturn, 1) := by decide +kernel
def Q3 (Z : State) (x0 : UInt64) (h0 : Heap) (n0 : Nat) (v : Option Value) (h : Heap) (L : List Loc) : Prop := v = some (.int (1 : Int32)) ∧ Fr n0 L ∧ h = h0
set_option maxRecDepth 65536 in
set_option maxHeartbeats 40000000 in
theorem rm3 (l : Launch) (Z : State) (a0 : Array Value) (hw : ∀ d ∈ tables_1, d.before a0 Z = true) (ws : List Jvm.Cond) (x0 : UInt64) (h0 : Heap) (n0 : Nat) (Z0 : n0 ≤ h0.size) (hf : Fin64 x0) :
    MetFree l (⟨"java/lang/Double", "isFinite", "(D)Z"⟩ : MethodName) (head1 (Jvm.Cond.code (⟨"java/lang/Double", "isFinite", "(D)Z"⟩ : MethodName) jdk_117_method_8_code 2 (some .boolean) :: ws) ({ frames := 1, cells := 0, slots := 0, locals := 13 } : Room)) (fun a U => a = #[(.double x0)] ∧ Z.Warmed39 U.vm ∧ U.heap = h0) (fun _ _ _ _ _ => True) (fun _ U o U' => ∃ v L, o = .returned v ∧ Q3 Z x0 h0 n0 v U'.heap L ∧ FrameEnd U o U' L ({ frames := 1, cells := 0, slots := 0, locals := 13 } : Room).cells ({ frames := 1, cells := 0, slots := 0, locals := 13 } : Room).slots) := by
  refine MetFree.of_bodySF (plainFor_of_name pn_java_lang_Double) hisR ?_
  intro p e s m args below meth c s₁ Bd hml0 hP hK
  obtain ⟨rfl, hZ, hh⟩ := hP
  have hx := Bd.exec
  have hby := Bd.bytes
  have hml : c.maxLocals = 2 := hml0
  have hown : s.vm.findClass "java/lang/Double" = some m.cls := findClass_of_methodNamed Bd.named
  have hnm := (name_of_methodNamed Bd.named Bd.method).1
  have X0 : Stand p l e ({ frames := 1, cells := 0, slots := 0, locals := 13 } : Room) s m #[(.double x0)] below meth c s₁ [] 0 0 := Stand.of_body Bd
  have e0 : s₁.heap = h0 := by rw [← hh, Bd.state]; rfl
  have N0 := Fr.nil n0
  refine own_all ?_
  intro P hfin
  refine own_cast (ef_3 m x0) ?_
  show own_Go p e below P s₁ (mkF m 0 #[.val (.double x0), .second] [])
  refine own_step (fun _ k => XS.dloadN X0.here hx rfl (hb hby d3_0) rfl k) ?_
  show own_Go p e below P s₁ (mkF m 1 #[.val (.double x0), .second] [(.double x0)])
  obtain ⟨T1, X1, e1, st1⟩ := natS X0 hx hZ (y := (⟨"java/lang/Math", "abs", "(D)D"⟩ : MethodName)) hown (hw _ (List.mem_of_getElem? (i := 14) rfl)) (hw _ (List.mem_of_getElem? (i := 15) rfl)) (hw _ (List.mem_of_getElem? (i := 16) rfl)) (hw _ (List.mem_of_getElem? (i := 17) rfl)) (by decide) e0 (W := 0) (fun c4 => Jvm.Free.Fl.Abs.absD_pays x0 c4 (by decide) (by decide)) (g := (mkF m 1 #[.val (.double x0), .second] [(.double x0)])) rfl (by rw [hml]; rfl) (argsL := [(.double x0)]) (rest := []) (lenOf pd__D__D rfl) rfl (by show 2 * 0 + _ ≤ _; exact Nat.le_of_eq rfl) (hb hby d3_1) (by decide) (by decide) ⟨rfl, hf.noNaN⟩ rfl
  refine own_step st1 ?_
  show own_Go p e below P T1 (mkF m 4 #[.val (.double x0), .second] [(.double (x0 &&& 0x7fffffffffffffff))])
  refine own_step (fun t k => X1.ldc2DoubleC hx hown (mvT hZ (hw _ (List.mem_of_getElem? (i := 18) rfl))) (g := (mkF m 4 #[.val (.double x0), .second] [(.double (x0 &&& 0x7fffffffffffffff))])) rfl (hb hby d3_4) t k) ?_
  show own_Go p e below P T1 (mkF m 7 #[.val (.double x0), .second] [(.double (9218868437227405311 : UInt64)), (.double (x0 &&& 0x7fffffffffffffff))])
  refine own_step (fun _ k => XS.dcmpS X1.here hx rfl (hb hby d3_7) rfl rfl k) ?_
  show own_Go p e below P T1 (mkF m 8 #[.val (.double x0), .second] [(.int (cmpValue (FP.dcmp (x0 &&& 0x7fffffffffffffff) (9218868437227405311 : UInt64)) .g))])
  refine own_step (fun _ k => XS.ifNo X1.here hx rfl (hb hby d3_8) rfl ((if0 _ _).trans (flt (own_isfin hf)).2.2.1) k) ?_
  show own_Go p e below P T1 (mkF m 11 #[.val (.double x0), .second] [])
  refine own_step (fun _ k => XS.iconst X1.here hx rfl (hb hby d3_11) k) ?_
  show own_Go p e below P T1 (mkF m 12 #[.val (.double x0), .second] [(.int (1 : Int32))])
  refine own_step (fun _ k => XS.goto X1.here hx rfl (pc0 := 12) (pc' := 16) rfl (hb hby d3_12) (by decide) (by decide) k) ?_
  show own_Go p e below P T1 (mkF m 16 #[.val (.double x0), .second] [(.int (1 : Int32))])
  obtain ⟨fs, hr, hrun, hended, hW, hsame⟩ := X1.leave (v := some (.int (1 : Int32))) (fun h => by rw [Bd.returns] at h; cases h)
  refine ⟨_, _, retN X1 hx (t := .boolean) Bd.returns (by simp) (hb hby d3_16) hr, hrun, hended, hfin _ _ ⟨_, _, rfl, ?_, ⟨_, rfl⟩, hW, hsame.mono (by decide) (by decide)⟩⟩
  show Q3 Z x0 h0 n0 (some (.int (1 : Int32))) T1.heap _
  rw [e1]
  exact ⟨rfl, N0, rfl⟩
theorem own_bb {b : Int32} (h : 1 ≤ b.toInt ∧ b.toInt ≤ 4) : ¬ b + (1 : Int32) < 0 ∧ (b + (1 : Int32)).toNatClampNeg ≤ 5 ∧ (b + (1 : Int32)).toInt = b.toInt + 1 ∧ (b + (1 : Int32)).toNatClampNeg = b.toNatClampNeg + 1 := by
  have q := c_iadd b 1; have r := rng32 (b + 1)
  rw [show (1 : Int32).toInt = 1 from rfl] at q
  have e : (b + (1 : Int32)).toInt = b.toInt + 1 := by omega
  have t1 : (b + (1 : Int32)).toNatClampNeg = (b + (1 : Int32)).toInt.toNat := rfl
  have t2 : b.toNatClampNeg = b.toInt.toNat := rfl
  have t0 : (0 : Int32).toInt = 0 := rfl
  refine ⟨fun hc => ?_, ?_, e, ?_⟩
  · rw [Int32.lt_iff_toInt_lt] at hc; omega
  · omega
  · omega
theorem ef_1 (m : MethodId) (x0 : Addr) (x1 : UInt64) (x2 : UInt64) (x3 : Int32) : entryFrame m #[(.ref x0), (.double x1), (.double x2), (.int x3)] 7 = mkF m 0 #[.val (.ref x0), .val (.double x1), .second, .val (.double x2), .second, .val (.int x3), .unset] [] := by first | (simp [entryFrame, mkF, argsToLocals, Value.category]; done) | rfl
theorem pn_com_example_bron_bron_trec_ScoreHistogram : plainName "com/example/bron/bron/trec/ScoreHistogram" = true := by first | (simp [plainName, overriddenIn]; done) | decide +kernel
theorem d1_0 : decode prog_23_method_1_code 0 = .ok (.aload_n 0, 1) := by decide +kernel
theorem d1_1 : decode prog_23_method_1_code 1 = .ok (.invokespecial 1, 3) := by decide +kernel
theorem d1_4 : decode prog_23_method_1_code 4 = .ok (.dload_n 3, 1) := by decide +kernel
theorem d1_5 : decode prog_23_method_1_code 5 = .ok (.dload_n 1, 1) := by decide +kernel
theorem d1_6 : decode prog_23_method_1_code 6 = .ok (.dcmp .l, 1) := by decide +kernel
theorem d1_7 : decode prog_23_method_1_code 7 = .ok (.ifCond .le 12, 3) := by decide +kernel
theorem d1_10 : decode prog_23_method_1_code 10 = .ok (.dload_n 3, 1) := by decide +kernel
theorem d1_11 : decode prog_23_method_1_code 11 = .ok (.dload_n 1, 1) := by decide +kernel
theorem d1_12 : decode prog_23_method_1_code 12 = .ok (.dsub, 1) := by decide +kernel
theorem pd__D__Z : parseMethodDescriptor "(D)Z" = some ⟨[.double], some .boolean⟩ := by decide +kernel
theorem d1_13 : decode prog_23_method_1_code 13 = .ok (.invokestatic 7, 3) := by decide +kernel
theorem d1_16 : decode prog_23_method_1_code 16 = .ok (.ifCond .ne 13, 3) := by decide +kernel
theorem d1_29 : decode prog_23_method_1_code 29 = .ok (.iconst 1, 1) := by decide +kernel
theorem d1_30 : decode prog_23_method_1_code 30 = .ok (.sipush 4096, 3) := by decide +kernel
theorem d1_33 : decode prog_23_method_1_code 33 = .ok (.iload 5, 2) := by decide +kernel
theorem d1_35 : decode prog_23_method_1_code 35 = .ok (.iconst 4, 1) := by decide +kernel
theorem d1_36 : decode prog_23_method_1_code 36 = .ok (.idiv, 1) := by decide +kernel
theorem pd__II__I : parseMethodDescriptor "(II)I" = some ⟨[.int, .int], some .int⟩ := by decide +kernel
theorem d1_37 : decode prog_23_method_1_code 37 = .ok (.invokestatic 22, 3) := by decide +kernel
theorem d1_40 : decode prog_23_method_1_code 40 = .ok (.invokestatic 28, 3) := by decide +kernel
theorem d1_43 : decode prog_23_method_1_code 43 = .ok (.istore 6, 2) := by decide +kernel
theorem d1_45 : decode prog_23_method_1_code 45 = .ok (.aload_n 0, 1) := by decide +kernel
theorem d1_46 : decode prog_23_method_1_code 46 = .ok (.dload_n 1, 1) := by decide +kernel
theorem d1_47 : decode prog_23_method_1_code 47 = .ok (.putfield 31, 3) := by decide +kernel
theorem d1_50 : decode prog_23_method_1_code 50 = .ok (.aload_n 0, 1) := by decide +kernel
theorem d1_51 : decode prog_23_method_1_code 51 = .ok (.iload 6, 2) := by decide +kernel
theorem d1_53 : decode prog_23_method_1_code 53 = .ok (.i2d, 1) := by decide +kernel
theorem d1_54 : decode prog_23_method_1_code 54 = .ok (.dload_n 3, 1) := by decide +kernel
theorem d1_55 : decode prog_23_method_1_code 55 = .ok (.dload_n 1, 1) := by decide +kernel
theorem d1_56 : decode prog_23_method_1_code 56 = .ok (.dsub, 1) := by decide +kernel
theorem d1_57 : decode prog_23_method_1_code 57 = .ok (.ddiv, 1) := by decide +kernel
theorem d1_58 : decode prog_23_method_1_code 58 = .ok (.putfield 35, 3) := by decide +kernel
theorem d1_61 : decode prog_23_method_1_code 61 = .ok (.aload_n 0, 1) := by decide +kernel
theorem d1_62 : decode prog_23_method_1_code 62 = .ok (.iload 6, 2) := by decide +kernel
theorem d1_64 : decode prog_23_method_1_code 64 = .ok (.iconst 1, 1) := by decide +kernel
theorem d1_65 : decode prog_23_method_1_code 65 = .ok (.iadd, 1) := by decide +kernel
theorem d1_66 : decode prog_23_method_1_code 66 = .ok (.newarray .int, 2) := by decide +kernel
theorem d1_68 : decode prog_23_method_1_code 68 = .ok (.putfield 38, 3) := by decide +kernel
theorem d1_71 : decode prog_23_method_1_code 71 = .ok (.return_, 1) := by decide +kernel
def Q1 (Z : State) (ob : Addr) (x0 : UInt64) (x1 : UInt64) (sc : Int32) (bb : Int32) (h0 : Heap) (n0 : Nat) (v : Option Value) (h : Heap) (L : List Loc) : Prop := v = none ∧ Fr n0 L ∧ Keep h0 h [ob] ∧ Exa Z h ob "com/example/bron/bron/trec/ScoreHistogram" ∧ Fld Z h ob "com/example/bron/bron/trec/ScoreHistogram" "lowest" "D" (.double x0) ∧ Fld Z h ob "com/example/bron/bron/trec/ScoreHistogram" "scale" "D" (.double own_one) ∧ ∃ (ar : Addr) (kc : ClassId), h0.size ≤ ar ∧ Fld Z h ob "com/example/bron/bron/trec/ScoreHistogram" "counts" "[I" (.ref ar) ∧ Arv Z h ar kc .int (bb + (1 : Int32)) ((List.replicate (bb.toNatClampNeg + 1) (0 : Int32)).map Value.int) (.int (0 : Int32))
set_option maxRecDepth 65536 in
set_option maxHeartbeats 40000000 in
theorem rm1 (l : Launch) (Z : State) (a0 : Array Value) (hw : ∀ d ∈ tables_1, d.before a0 Z = true) (ws : List Jvm.Cond) (ob : Addr) (x0 : UInt64) (x1 : UInt64) (sc : Int32) (bb : Int32) (h0 : Heap) (n0 : Nat) (Z0 : n0 ≤ h0.size) (E_ob : Exa Z h0 ob "com/example/bron/bron/trec/ScoreHistogram") (F_lowest_ob : Fld Z h0 ob "com/example/bron/bron/trec/ScoreHistogram" "lowest" "D" (.double (0 : UInt64))) (F_scale_ob : Fld Z h0 ob "com/example/bron/bron/trec/ScoreHistogram" "scale" "D" (.double (0 : UInt64))) (F_counts_ob : Fld Z h0 ob "com/example/bron/bron/trec/ScoreHistogram" "counts" "[I" .null) (g_ob : n0 ≤ ob) (hA : (0 : Int32) < (cmpValue (FP.dcmp x1 x0) .l)) (hB : Fin64 (FP.dsub x1 x0)) (hC : own_bk sc = bb) (hD : FP.ddiv (FP.i2d bb) (FP.dsub x1 x0) = own_one) (hE : 1 ≤ bb.toInt ∧ bb.toInt ≤ 4) :
    MetFree l (⟨"com/example/bron/bron/trec/ScoreHistogram", "<init>", "(DDI)V"⟩ : MethodName) (head1 (Jvm.Cond.code (⟨"com/example/bron/bron/trec/ScoreHistogram", "<init>", "(DDI)V"⟩ : MethodName) prog_23_method_1_code 7 none :: ws) ({ frames := 2, cells := 1, slots := 5, locals := 26 } : Room)) (fun a U => a = #[(.ref ob), (.double x0), (.double x1), (.int sc)] ∧ Z.Warmed39 U.vm ∧ U.heap = h0) (fun _ _ _ _ _ => True) (fun _ U o U' => ∃ v L, o = .returned v ∧ Q1 Z ob x0 x1 sc bb h0 n0 v U'.heap L ∧ FrameEnd U o U' L ({ frames := 2, cells := 1, slots := 5, locals := 26 } : Room).cells ({ frames := 2, cells := 1, slots := 5, locals := 26 } : Room).slots) := by
  refine MetFree.of_bodySF (plainFor_of_name pn_com_example_bron_bron_trec_ScoreHistogram) hisR ?_
  intro p e s m args below meth c s₁ Bd hml0 hP hK
  obtain ⟨rfl, hZ, hh⟩ := hP
  have hx := Bd.exec
  have hby := Bd.bytes
  have hml : c.maxLocals = 7 := hml0
  have hown : s.vm.findClass "com/example/bron/bron/trec/ScoreHistogram" = some m.cls := findClass_of_methodNamed Bd.named
  have hnm := (name_of_methodNamed Bd.named Bd.method).1
  have X0 : Stand p l e ({ frames := 2, cells := 1, slots := 5, locals := 26 } : Room) s m #[(.ref ob), (.double x0), (.double x1), (.int sc)] below meth c s₁ [] 0 0 := Stand.of_body Bd
  have e0 : s₁.heap = h0 := by rw [← hh, Bd.state]; rfl
  have N0 := Fr.nil n0
  refine own_all ?_
  intro P hfin
  refine own_cast (ef_1 m ob x0 x1 sc) ?_
  show own_Go p e below P s₁ (mkF m 0 #[.val (.ref ob), .val (.double x0), .second, .val (.double x1), .second, .val (.int sc), .unset] [])
  refine own_step (fun _ k => XS.aloadN X0.here hx rfl (hb hby d1_0) rfl rfl k) ?_
  show own_Go p e below P s₁ (mkF m 1 #[.val (.ref ob), .val (.double x0), .second, .val (.double x1), .second, .val (.int sc), .unset] [(.ref ob)])
  obtain ⟨T1, X1, e1, st1⟩ := initO X0 hx hZ hown (hw _ (List.mem_of_getElem? (i := 7) rfl)) (hw _ (List.mem_of_getElem? (i := 8) rfl)) (hw _ (List.mem_of_getElem? (i := 9) rfl)) e0 (g := (mkF m 1 #[.val (.ref ob), .val (.double x0), .second, .val (.double x1), .second, .val (.int sc), .unset] [(.ref ob)])) rfl (by rw [hml]; rfl) rfl (hb hby d1_1) (by decide) (W := 0) (by show 2 * 0 + _ ≤ _; exact Nat.le_of_eq rfl) (by decide)
  refine own_step st1 ?_
  show own_Go p e below P T1 (mkF m 4 #[.val (.ref ob), .val (.double x0), .second, .val (.double x1), .second, .val (.int sc), .unset] [])
  refine own_step (fun _ k => XS.dloadN X1.here hx rfl (hb hby d1_4) rfl k) ?_
  show own_Go p e below P T1 (mkF m 5 #[.val (.ref ob), .val (.double x0), .second, .val (.double x1), .second, .val (.int sc), .unset] [(.double x1)])
  refine own_step (fun _ k => XS.dloadN X1.here hx rfl (hb hby d1_5) rfl k) ?_
  show own_Go p e below P T1 (mkF m 6 #[.val (.ref ob), .val (.double x0), .second, .val (.double x1), .second, .val (.int sc), .unset] [(.double x0), (.double x1)])
  refine own_step (fun _ k => XS.dcmpS X1.here hx rfl (hb hby d1_6) rfl rfl k) ?_
  show own_Go p e below P T1 (mkF m 7 #[.val (.ref ob), .val (.double x0), .second, .val (.double x1), .second, .val (.int sc), .unset] [(.int (cmpValue (FP.dcmp x1 x0) .l))])
  refine own_step (fun _ k => XS.ifNo X1.here hx rfl (hb hby d1_7) rfl ((if0 _ _).trans (tlt hA).2.2.2) k) ?_
  show own_Go p e below P T1 (mkF m 10 #[.val (.ref ob), .val (.double x0), .second, .val (.double x1), .second, .val (.int sc), .unset] [])
  refine own_step (fun _ k => XS.dloadN X1.here hx rfl (hb hby d1_10) rfl k) ?_
  show own_Go p e below P T1 (mkF m 11 #[.val (.ref ob), .val (.double x0), .second, .val (.double x1), .second, .val (.int sc), .unset] [(.double x1)])
  refine own_step (fun _ k => XS.dloadN X1.here hx rfl (hb hby d1_11) rfl k) ?_
  show own_Go p e below P T1 (mkF m 12 #[.val (.ref ob), .val (.double x0), .second, .val (.double x1), .second, .val (.int sc), .unset] [(.double x0), (.double x1)])
  refine own_step (fun _ k => XS.dsubS X1.here hx rfl (hb hby d1_12) rfl hB.noNaN rfl k) ?_
  show own_Go p e below P T1 (mkF m 13 #[.val (.ref ob), .val (.double x0), .second, .val (.double x1), .second, .val (.int sc), .unset] [(.double (FP.dsub x1 x0))])
  obtain ⟨_, _, ⟨T2, L2, k2, n2⟩, -, X2, ⟨Lc2, hQ2, l2, y2, z2⟩, st2⟩ := Jvm.LawKit.callS X1 hx (y := (⟨"java/lang/Double", "isFinite", "(D)Z"⟩ : MethodName)) hown (mvT hZ (hw _ (List.mem_of_getElem? (i := 10) rfl))) (mvT hZ (hw _ (List.mem_of_getElem? (i := 11) rfl))) (mvT hZ (hw _ (List.mem_of_getElem? (i := 12) rfl))) (mvT hZ (hw _ (List.mem_of_getElem? (i := 13) rfl))) (by decide) (backOf (W := 0) (rm3 l Z a0 hw [] (FP.dsub x1 x0) h0 n0 Z0 hB) hZ (hw _ (List.mem_of_getElem? (i := 13) rfl)) (hw _ (List.mem_of_getElem? (i := 12) rfl)) (by decide) (by decide)) (g := (mkF m 13 #[.val (.ref ob), .val (.double x0), .second, .val (.double x1), .second, .val (.int sc), .unset] [(.double (FP.dsub x1 x0))])) rfl (by rw [hml]; rfl) (argsL := [(.double (FP.dsub x1 x0))]) (rest := []) (lenOf pd__D__Z rfl) rfl (by show 2 * 0 + _ ≤ _; exact Nat.le_of_eq rfl) (hb hby d1_13) (fun _ _ => ⟨rfl, e1, (by decide : 0 + 0 ≤ _), (by decide : 0 + 0 ≤ _)⟩)
  dsimp only [Pt.U, Pt.locs, Pt.cells, Pt.slots] at X2 l2 y2 z2 st2 hQ2
  subst l2 y2 z2
  obtain ⟨rfl, N2q, e2⟩ := hQ2
  have N2 := Fr.app N0 N2q
  refine own_step st2 ?_
  show own_Go p e below P T2 (mkF m 16 #[.val (.ref ob), .val (.double x0), .second, .val (.double x1), .second, .val (.int sc), .unset] [(.int (1 : Int32))])
  refine own_step (fun _ k => XS.ifYes X2.here hx rfl (pc0 := 16) (pc' := 29) rfl (hb hby d1_16) rfl ((if0 _ _).trans (feq (by decide : ¬ ((1 : Int32) = (0 : Int32)))).2) (by decide) (by decide) k) ?_
  show own_Go p e below P T2 (mkF m 29 #[.val (.ref ob), .val (.double x0), .second, .val (.double x1), .second, .val (.int sc), .unset] [])
  refine own_step (fun _ k => XS.iconst X2.here hx rfl (hb hby d1_29) k) ?_
  show own_Go p e below P T2 (mkF m 30 #[.val (.ref ob), .val (.double x0), .second, .val (.double x1), .second, .val (.int sc), .unset] [(.int (1 : Int32))])
  refine own_step (fun _ k => XS.sipush X2.here hx rfl (hb hby d1_30) k) ?_
  show own_Go p e below P T2 (mkF m 33 #[.val (.ref ob), .val (.double x0), .second, .val (.double x1), .second, .val (.int sc), .unset] [(.int (4096 : Int32)), (.int (1 : Int32))])
  refine own_step (fun _ k => XS.iload X2.here hx rfl (hb hby d1_33) rfl k) ?_
  show own_Go p e below P T2 (mkF m 35 #[.val (.ref ob), .val (.double x0), .second, .val (.double x1), .second, .val (.int sc), .unset] [(.int sc), (.int (4096 : Int32)), (.int (1 : Int32))])
  refine own_step (fun _ k => XS.iconst X2.here hx rfl (hb hby d1_35) k) ?_
  show own_Go p e below P T2 (mkF m 36 #[.val (.ref ob), .val (.double x0), .second, .val (.double x1), .second, .val (.int sc), .unset] [(.int (4 : Int32)), (.int sc), (.int (4096 : Int32)), (.int (1 : Int32))])
  refine own_step (fun _ k => XS.idiv X2.here hx rfl (hb hby d1_36) rfl (by decide : ¬ ((4 : Int32) = (0 : Int32))) k) ?_
  show own_Go p e below P T2 (mkF m 37 #[.val (.ref ob), .val (.double x0), .second, .val (.double x1), .second, .val (.int sc), .unset] [(.int (sc / (4 : Int32))), (.int (4096 : Int32)), (.int (1 : Int32))])
  obtain ⟨_, _, ⟨T3, L3, k3, n3⟩, -, X3, ⟨Lc3, hQ3, l3, y3, z3⟩, st3⟩ := Jvm.LawKit.callS X2 hx (y := (⟨"java/lang/Math", "min", "(II)I"⟩ : MethodName)) hown (mvT hZ (hw _ (List.mem_of_getElem? (i := 19) rfl))) (mvT hZ (hw _ (List.mem_of_getElem? (i := 20) rfl))) (mvT hZ (hw _ (List.mem_of_getElem? (i := 16) rfl))) (mvT hZ (hw _ (List.mem_of_getElem? (i := 21) rfl))) (by decide) (backOf (W := 1) (rm5 l Z a0 hw [] (4096 : Int32) (sc / (4 : Int32)) h0 n0 Z0) hZ (hw _ (List.mem_of_getElem? (i := 21) rfl)) (hw _ (List.mem_of_getElem? (i := 16) rfl)) (by decide) (by decide)) (g := (mkF m 37 #[.val (.ref ob), .val (.double x0), .second, .val (.double x1), .second, .val (.int sc), .unset] [(.int (sc / (4 : Int32))), (.int (4096 : Int32)), (.int (1 : Int32))])) rfl (by rw [hml]; rfl) (argsL := [(.int (4096 : Int32)), (.int (sc / (4 : Int32)))]) (rest := [(.int (1 : Int32))]) (lenOf pd__II__I rfl) rfl (by show 2 * 0 + _ ≤ _; exact Nat.le_of_eq rfl) (hb hby d1_37) (fun _ _ => ⟨rfl, e2, (by decide : 0 + 0 ≤ _), (by decide : 0 + 0 ≤ _)⟩)
  dsimp only [Pt.U, Pt.locs, Pt.cells, Pt.slots] at X3 l3 y3 z3 st3 hQ3
  subst l3 y3 z3
  obtain ⟨rfl, N3q, e3⟩ := hQ3
  have N3 := Fr.app N2 N3q
  refine own_step st3 ?_
  show own_Go p e below P T3 (mkF m 40 #[.val (.ref ob), .val (.double x0), .second, .val (.double x1), .second, .val (.int sc), .unset] [(.int (if (sc / (4 : Int32)) < (4096 : Int32) then (sc / (4 : Int32)) else (4096 : Int32))), (.int (1 : Int32))])
  obtain ⟨_, _, ⟨T4, L4, k4, n4⟩, -, X4, ⟨Lc4, hQ4, l4, y4, z4⟩, st4⟩ := Jvm.LawKit.callS X3 hx (y := (⟨"java/lang/Math", "max", "(II)I"⟩ : MethodName)) hown (mvT hZ (hw _ (List.mem_of_getElem? (i := 22) rfl))) (mvT hZ (hw _ (List.mem_of_getElem? (i := 23) rfl))) (mvT hZ (hw _ (List.mem_of_getElem? (i := 16) rfl))) (mvT hZ (hw _ (List.mem_of_getElem? (i := 24) rfl))) (by decide) (backOf (W := 0) (rm6 l Z a0 hw [] (1 : Int32) (if (sc / (4 : Int32)) < (4096 : Int32) then (sc / (4 : Int32)) else (4096 : Int32)) h0 n0 Z0) hZ (hw _ (List.mem_of_getElem? (i := 24) rfl)) (hw _ (List.mem_of_getElem? (i := 16) rfl)) (by decide) (by decide)) (g := (mkF m 40 #[.val (.ref ob), .val (.double x0), .second, .val (.double x1), .second, .val (.int sc), .unset] [(.int (if (sc / (4 : Int32)) < (4096 : Int32) then (sc / (4 : Int32)) else (4096 : Int32))), (.int (1 : Int32))])) rfl (by rw [hml]; rfl) (argsL := [(.int (1 : Int32)), (.int (if (sc / (4 : Int32)) < (4096 : Int32) then (sc / (4 : Int32)) else (4096 : Int32)))]) (rest := []) (lenOf pd__II__I rfl) rfl (by show 2 * 0 + _ ≤ _; exact Nat.le_of_eq rfl) (hb hby d1_40) (fun _ _ => ⟨rfl, e3, (by decide : 0 + 0 ≤ _), (by decide : 0 + 0 ≤ _)⟩)
  dsimp only [Pt.U, Pt.locs, Pt.cells, Pt.slots] at X4 l4 y4 z4 st4 hQ4
  subst l4 y4 z4
  obtain ⟨rfl, N4q, e4⟩ := hQ4
  have N4 := Fr.app N3 N4q
  refine own_step st4 ?_
  show own_Go p e below P T4 (mkF m 43 #[.val (.ref ob), .val (.double x0), .second, .val (.double x1), .second, .val (.int sc), .unset] [(.int (if (1 : Int32) < (if (sc / (4 : Int32)) < (4096 : Int32) then (sc / (4 : Int32)) else (4096 : Int32)) then (if (sc / (4 : Int32)) < (4096 : Int32) then (sc / (4 : Int32)) else (4096 : Int32)) else (1 : Int32)))])
  refine own_step (fun _ k => XS.istore X4.here hx rfl (hb hby d1_43) rfl (l' := #[.val (.ref ob), .val (.double x0), .second, .val (.double x1), .second, .val (.int sc), .val (.int (if (1 : Int32) < (if (sc / (4 : Int32)) < (4096 : Int32) then (sc / (4 : Int32)) else (4096 : Int32)) then (if (sc / (4 : Int32)) < (4096 : Int32) then (sc / (4 : Int32)) else (4096 : Int32)) else (1 : Int32)))]) rfl k) ?_
  show own_Go p e below P T4 (mkF m 45 #[.val (.ref ob), .val (.double x0), .second, .val (.double x1), .second, .val (.int sc), .val (.int (if (1 : Int32) < (if (sc / (4 : Int32)) < (4096 : Int32) then (sc / (4 : Int32)) else (4096 : Int32)) then (if (sc / (4 : Int32)) < (4096 : Int32) then (sc / (4 : Int32)) else (4096 : Int32)) else (1 : Int32)))] [])
  rw [show (if (1 : Int32) < (if (sc / (4 : Int32)) < (4096 : Int32) then (sc / (4 : Int32)) else (4096 : Int32)) then (if (sc / (4 : Int32)) < (4096 : Int32) then (sc / (4 : Int32)) else (4096 : Int32)) else (1 : Int32)) = bb from hC]
  show own_Go p e below P T4 (mkF m 45 #[.val (.ref ob), .val (.double x0), .second, .val (.double x1), .second, .val (.int sc), .val (.int bb)] [])
  refine own_step (fun _ k => XS.aloadN X4.here hx rfl (hb hby d1_45) rfl rfl k) ?_
  show own_Go p e below P T4 (mkF m 46 #[.val (.ref ob), .val (.double x0), .second, .val (.double x1), .second, .val (.int sc), .val (.int bb)] [(.ref ob)])
  refine own_step (fun _ k => XS.dloadN X4.here hx rfl (hb hby d1_46) rfl k) ?_
  show own_Go p e below P T4 (mkF m 47 #[.val (.ref ob), .val (.double x0), .second, .val (.double x1), .second, .val (.int sc), .val (.int bb)] [(.double x0), (.ref ob)])
  obtain ⟨T5, h5, X5, e5, W5, st5⟩ := putF X4 hx hZ hown (host := "") (Or.inl (hw _ (List.mem_of_getElem? (i := 25) rfl))) Via.refl e4 F_lowest_ob E_ob (Or.inr ⟨(hw _ (List.mem_of_getElem? (i := 26) rfl)), rfl, hnm⟩) (hw _ (List.mem_of_getElem? (i := 2) rfl)) (ty := .double) (by decide) rfl rfl (g := (mkF m 47 #[.val (.ref ob), .val (.double x0), .second, .val (.double x1), .second, .val (.int sc), .val (.int bb)] [(.double x0), (.ref ob)])) rfl rfl (hb hby d1_47)
  have Fw5 := F_lowest_ob.same W5
  have N5 := Fr.snoc X5 N4 g_ob
  refine own_step st5 ?_
  show own_Go p e below P T5 (mkF m 50 #[.val (.ref ob), .val (.double x0), .second, .val (.double x1), .second, .val (.int sc), .val (.int bb)] [])
  refine own_step (fun _ k => XS.aloadN X5.here hx rfl (hb hby d1_50) rfl rfl k) ?_
  show own_Go p e below P T5 (mkF m 51 #[.val (.ref ob), .val (.double x0), .second, .val (.double x1), .second, .val (.int sc), .val (.int bb)] [(.ref ob)])
  refine own_step (fun _ k => XS.iload X5.here hx rfl (hb hby d1_51) rfl k) ?_
  show own_Go p e below P T5 (mkF m 53 #[.val (.ref ob), .val (.double x0), .second, .val (.double x1), .second, .val (.int sc), .val (.int bb)] [(.int bb), (.ref ob)])
  refine own_step (fun _ k => XS.i2dS X5.here hx rfl (hb hby d1_53) rfl rfl k) ?_
  show own_Go p e below P T5 (mkF m 54 #[.val (.ref ob), .val (.double x0), .second, .val (.double x1), .second, .val (.int sc), .val (.int bb)] [(.double (FP.i2d bb)), (.ref ob)])
  refine own_step (fun _ k => XS.dloadN X5.here hx rfl (hb hby d1_54) rfl k) ?_
  show own_Go p e below P T5 (mkF m 55 #[.val (.ref ob), .val (.double x0), .second, .val (.double x1), .second, .val (.int sc), .val (.int bb)] [(.double x1), (.double (FP.i2d bb)), (.ref ob)])
  refine own_step (fun _ k => XS.dloadN X5.here hx rfl (hb hby d1_55) rfl k) ?_
  show own_Go p e below P T5 (mkF m 56 #[.val (.ref ob), .val (.double x0), .second, .val (.double x1), .second, .val (.int sc), .val (.int bb)] [(.double x0), (.double x1), (.double (FP.i2d bb)), (.ref ob)])
  refine own_step (fun _ k => XS.dsubS X5.here hx rfl (hb hby d1_56) rfl hB.noNaN rfl k) ?_
  show own_Go p e below P T5 (mkF m 57 #[.val (.ref ob), .val (.double x0), .second, .val (.double x1), .second, .val (.int sc), .val (.int bb)] [(.double (FP.dsub x1 x0)), (.double (FP.i2d bb)), (.ref ob)])
  refine own_step (fun _ k => XS.ddivS X5.here hx rfl (hb hby d1_57) rfl (by rw [hD]; unfold NoNaN64; decide) hD k) ?_
  show own_Go p e below P T5 (mkF m 58 #[.val (.ref ob), .val (.double x0), .second, .val (.double x1), .second, .val (.int sc), .val (.int bb)] [(.double own_one), (.ref ob)])
  obtain ⟨T6, h6, X6, e6, W6, st6⟩ := putF X5 hx hZ hown (host := "") (Or.inl (hw _ (List.mem_of_getElem? (i := 27) rfl))) Via.refl e5 (F_scale_ob.other W5 (Or.inr (slot_ne (Or.inr (hw _ (List.mem_of_getElem? (i := 28) rfl))) (Or.inr (hw _ (List.mem_of_getElem? (i := 26) rfl))) (by decide) (t := .double) (t' := .double) (by decide) (by decide)))) (E_ob.wr W5) (Or.inr ⟨(hw _ (List.mem_of_getElem? (i := 28) rfl)), rfl, hnm⟩) (hw _ (List.mem_of_getElem? (i := 2) rfl)) (ty := .double) (by decide) rfl rfl (g := (mkF m 58 #[.val (.ref ob), .val (.double x0), .second, .val (.double x1), .second, .val (.int sc), .val (.int bb)] [(.double own_one), (.ref ob)])) rfl rfl (hb hby d1_58)
  have Fw6 := (F_scale_ob.other W5 (Or.inr (slot_ne (Or.inr (hw _ (List.mem_of_getElem? (i := 28) rfl))) (Or.inr (hw _ (List.mem_of_getElem? (i := 26) rfl))) (by decide) (t := .double) (t' := .double) (by decide) (by decide)))).same W6
  have N6 := Fr.snoc X6 N5 g_ob
  refine own_step st6 ?_
  show own_Go p e below P T6 (mkF m 61 #[.val (.ref ob), .val (.double x0), .second, .val (.double x1), .second, .val (.int sc), .val (.int bb)] [])
  refine own_step (fun _ k => XS.aloadN X6.here hx rfl (hb hby d1_61) rfl rfl k) ?_
  show own_Go p e below P T6 (mkF m 62 #[.val (.ref ob), .val (.double x0), .second, .val (.double x1), .second, .val (.int sc), .val (.int bb)] [(.ref ob)])
  refine own_step (fun _ k => XS.iload X6.here hx rfl (hb hby d1_62) rfl k) ?_
  show own_Go p e below P T6 (mkF m 64 #[.val (.ref ob), .val (.double x0), .second, .val (.double x1), .second, .val (.int sc), .val (.int bb)] [(.int bb), (.ref ob)])
  refine own_step (fun _ k => XS.iconst X6.here hx rfl (hb hby d1_64) k) ?_
  show own_Go p e below P T6 (mkF m 65 #[.val (.ref ob), .val (.double x0), .second, .val (.double x1), .second, .val (.int sc), .val (.int bb)] [(.int (1 : Int32)), (.int bb), (.ref ob)])
  refine own_step (fun _ k => XS.iadd X6.here hx rfl (hb hby d1_65) rfl k) ?_
  show own_Go p e below P T6 (mkF m 66 #[.val (.ref ob), .val (.double x0), .second, .val (.double x1), .second, .val (.int sc), .val (.int bb)] [(.int (bb + (1 : Int32))), (.ref ob)])
  obtain ⟨T7, h7, k7, X7, e7, E7, A7, st7⟩ := newP X6 hx hZ (hw _ (List.mem_of_getElem? (i := 29) rfl)) e6 (g := (mkF m 66 #[.val (.ref ob), .val (.double x0), .second, .val (.double x1), .second, .val (.int sc), .val (.int bb)] [(.int (bb + (1 : Int32))), (.ref ob)])) rfl (hb hby d1_66) rfl (own_bb hE).1 (cap := 5) (own_bb hE).2.1 (by decide) (by decide) (by decide)
  obtain ⟨b7, g7⟩ : ∃ z, z = h6.size := ⟨_, rfl⟩
  rw [← g7] at A7 st7
  have g_b7 : n0 ≤ b7 := Nat.le_trans (Nat.le_trans (Nat.le_trans Z0 (Keep.of_wr W5).1) (Keep.of_wr W6).1) (Nat.le_of_eq g7.symm)
  have sz_b7 : h0.size ≤ b7 := Nat.le_trans (((Keep.refl h0 [ob]).wr W5 (Or.inl (List.mem_of_getElem? (i := 0) rfl))).wr W6 (Or.inl (List.mem_of_getElem? (i := 0) rfl))).1 (Nat.le_of_eq g7.symm)
  have V_b7 : Arv Z h7 b7 k7 .int (bb + (1 : Int32)) [] (.int (0 : Int32)) := (Arv.new A7 (own_bb hE).1)
  refine own_step st7 ?_
  show own_Go p e below P T7 (mkF m 68 #[.val (.ref ob), .val (.double x0), .second, .val (.double x1), .second, .val (.int sc), .val (.int bb)] [(.ref b7), (.ref ob)])
  obtain ⟨T8, h8, X8, e8, W8, st8⟩ := putF X7 hx hZ hown (host := "") (Or.inl (hw _ (List.mem_of_getElem? (i := 30) rfl))) Via.refl e7 (((F_counts_ob.other W5 (Or.inr (slot_ne (Or.inr (hw _ (List.mem_of_getElem? (i := 31) rfl))) (Or.inr (hw _ (List.mem_of_getElem? (i := 26) rfl))) (by decide) (t := (.array .int)) (t' := .double) (by decide) (by decide)))).other W6 (Or.inr (slot_ne (Or.inr (hw _ (List.mem_of_getElem? (i := 31) rfl))) (Or.inr (hw _ (List.mem_of_getElem? (i := 28) rfl))) (by decide) (t := (.array .int)) (t' := .double) (by decide) (by decide)))).ext E7) (((E_ob.wr W5).wr W6).ext E7) (Or.inr ⟨(hw _ (List.mem_of_getElem? (i := 31) rfl)), rfl, hnm⟩) (hw _ (List.mem_of_getElem? (i := 2) rfl)) (ty := (.array .int)) (by decide) rfl rfl (g := (mkF m 68 #[.val (.ref ob), .val (.double x0), .second, .val (.double x1), .second, .val (.int sc), .val (.int bb)] [(.ref b7), (.ref ob)])) rfl rfl (hb hby d1_68)
  have Fw8 := (((F_counts_ob.other W5 (Or.inr (slot_ne (Or.inr (hw _ (List.mem_of_getElem? (i := 31) rfl))) (Or.inr (hw _ (List.mem_of_getElem? (i := 26) rfl))) (by decide) (t := (.array .int)) (t' := .double) (by decide) (by decide)))).other W6 (Or.inr (slot_ne (Or.inr (hw _ (List.mem_of_getElem? (i := 31) rfl))) (Or.inr (hw _ (List.mem_of_getElem? (i := 28) rfl))) (by decide) (t := (.array .int)) (t' := .double) (by decide) (by decide)))).ext E7).same W8
  have N8 := Fr.snoc X8 N6 g_ob
  refine own_step st8 ?_
  show own_Go p e below P T8 (mkF m 71 #[.val (.ref ob), .val (.double x0), .second, .val (.double x1), .second, .val (.int sc), .val (.int bb)] [])
  obtain ⟨fs, hr, hrun, hended, hW, hsame⟩ := X8.leave (v := none) (fun _ => rfl)
  refine ⟨_, _, X8.returnOut hx Bd.returns (hb hby d1_71) hr, hrun, hended, hfin _ _ ⟨_, _, rfl, ?_, ⟨_, rfl⟩, hW, hsame.mono (by decide) (by decide)⟩⟩
  show Q1 Z ob x0 x1 sc bb h0 n0 none T8.heap _
  rw [e8]
  exact ⟨rfl, N8, (((((Keep.refl h0 [ob]).wr W5 (Or.inl (List.mem_of_getElem? (i := 0) rfl))).wr W6 (Or.inl (List.mem_of_getElem? (i := 0) rfl))).ext E7).wr W8 (Or.inl (List.mem_of_getElem? (i := 0) rfl))), ((((E_ob.wr W5).wr W6).ext E7).wr W8), (((Fw5.other W6 (Or.inr (slot_ne (Or.inr (hw _ (List.mem_of_getElem? (i := 26) rfl))) (Or.inr (hw _ (List.mem_of_getElem? (i := 28) rfl))) (by decide) (t := .double) (t' := .double) (by decide) (by decide)))).ext E7).other W8 (Or.inr (slot_ne (Or.inr (hw _ (List.mem_of_getElem? (i := 26) rfl))) (Or.inr (hw _ (List.mem_of_getElem? (i := 31) rfl))) (by decide) (t := .double) (t' := (.array .int)) (by decide) (by decide)))), ((Fw6.ext E7).other W8 (Or.inr (slot_ne (Or.inr (hw _ (List.mem_of_getElem? (i := 28) rfl))) (Or.inr (hw _ (List.mem_of_getElem? (i := 31) rfl))) (by decide) (t := .double) (t' := (.array .int)) (by decide) (by decide)))), b7, k7, sz_b7, Fw8, by rw [List.map_replicate]; exact ((V_b7.other W8 (Ne.symm (Nat.ne_of_lt (Nat.lt_of_lt_of_le ((E_ob.wr W5).wr W6).lt (Nat.le_of_eq g7.symm)))))).pad (pad_rep [] (.int (0 : Int32)) (bb.toNatClampNeg + 1))⟩
theorem ef_8 (m : MethodId) (x0 : Addr) (x1 : UInt64) : entryFrame m #[(.ref x0), (.double x1)] 3 = mkF m 0 #[.val (.ref x0), .val (.double x1), .second] [] := by first | (simp [entryFrame, mkF, argsToLocals, Value.category]; done) | rfl
theorem d8_0 : decode prog_23_method_3_code 0 = .ok (.iconst 0, 1) := by decide +kernel
theorem d8_1 : decode prog_23_method_3_code 1 = .ok (.aload_n 0, 1) := by decide +kernel
theorem d8_2 : decode prog_23_method_3_code 2 = .ok (.getfield 38, 3) := by decide +kernel
theorem d8_5 : decode prog_23_method_3_code 5 = .ok (.arraylength, 1) := by decide +kernel
theorem d8_6 : decode prog_23_method_3_code 6 = .ok (.iconst 1, 1) := by decide +kernel
theorem d8_7 : decode prog_23_method_3_code 7 = .ok (.isub, 1) := by decide +kernel
theorem d8_8 : decode prog_23_method_3_code 8 = .ok (.dload_n 1, 1) := by decide +kernel
theorem d8_9 : decode prog_23_method_3_code 9 = .ok (.aload_n 0, 1) := by decide +kernel
theorem d8_10 : decode prog_23_method_3_code 10 = .ok (.getfield 31, 3) := by decide +kernel
theorem d8_13 : decode prog_23_method_3_code 13 = .ok (.dsub, 1) := by decide +kernel
theorem d8_14 : decode prog_23_method_3_code 14 = .ok (.aload_n 0, 1) := by decide +kernel
theorem d8_15 : decode prog_23_method_3_code 15 = .ok (.getfield 35, 3) := by decide +kernel
theorem d8_18 : decode prog_23_method_3_code 18 = .ok (.dmul, 1) := by decide +kernel
theorem d8_19 : decode prog_23_method_3_code 19 = .ok (.d2i, 1) := by decide +kernel
theorem d8_20 : decode prog_23_method_3_code 20 = .ok (.invokestatic 22, 3) := by decide +kernel
theorem d8_23 : decode prog_23_method_3_code 23 = .ok (.invokestatic 28, 3) := by decide +kernel
theorem d8_26 : decode prog_23_method_3_code 26 = .ok (.ireturn, 1) := by decide +kernel
def Q8 (Z : State) (ob : Addr) (x1 : UInt64) (ar : Addr) (kc : ClassId) (zz : Int32) (cs : List Int32) (xl : UInt64) (h0 : Heap) (n0 : Nat) (v : Option Value) (h : Heap) (L : List Loc) : Prop := v = some (.int (own_clamp (zz - (1 : Int32)) (FP.d2i (FP.dmul (FP.dsub x1 xl) own_one)))) ∧ Fr n0 L ∧ h = h0
set_option maxRecDepth 65536 in
set_option maxHeartbeats 40000000 in
theorem rm8 (l : Launch) (Z : State) (a0 : Array Value) (hw : ∀ d ∈ tables_1, d.before a0 Z = true) (ws : List Jvm.Cond) (ob : Addr) (x1 : UInt64) (ar : Addr) (kc : ClassId) (zz : Int32) (cs : List Int32) (xl : UInt64) (h0 : Heap) (n0 : Nat) (Z0 : n0 ≤ h0.size) (E_ob : Exa Z h0 ob "com/example/bron/bron/trec/ScoreHistogram") (F_lowest_ob : Fld Z h0 ob "com/example/bron/bron/trec/ScoreHistogram" "lowest" "D" (.double xl)) (F_scale_ob : Fld Z h0 ob "com/example/bron/bron/trec/ScoreHistogram" "scale" "D" (.double own_one)) (F_counts_ob : Fld Z h0 ob "com/example/bron/bron/trec/ScoreHistogram" "counts" "[I" (.ref ar)) (V_ar : Arv Z h0 ar kc .int zz (cs.map Value.int) (.int (0 : Int32))) (ne_oa : ob ≠ ar) (hN1 : NoNaN64 (FP.dsub x1 xl)) (hN2 : NoNaN64 (FP.dmul (FP.dsub x1 xl) own_one)) :
    MetFree l (⟨"com/example/bron/bron/trec/ScoreHistogram", "bucket", "(D)I"⟩ : MethodName) (head1 (Jvm.Cond.code (⟨"com/example/bron/bron/trec/ScoreHistogram", "bucket", "(D)I"⟩ : MethodName) prog_23_method_3_code 3 (some .int) :: ws) ({ frames := 1, cells := 0, slots := 0, locals := 14 } : Room)) (fun a U => a = #[(.ref ob), (.double x1)] ∧ Z.Warmed39 U.vm ∧ U.heap = h0) (fun _ _ _ _ _ => True) (fun _ U o U' => ∃ v L, o = .returned v ∧ Q8 Z ob x1 ar kc zz cs xl h0 n0 v U'.heap L ∧ FrameEnd U o U' L ({ frames := 1, cells := 0, slots := 0, locals := 14 } : Room).cells ({ frames := 1, cells := 0, slots := 0, locals := 14 } : Room).slots) := by
  refine MetFree.of_bodySF (plainFor_of_name pn_com_example_bron_bron_trec_ScoreHistogram) hisR ?_
  intro p e s m args below meth c s₁ Bd hml0 hP hK
  obtain ⟨rfl, hZ, hh⟩ := hP
  have hx := Bd.exec
  have hby := Bd.bytes
  have hml : c.maxLocals = 3 := hml0
  have hown : s.vm.findClass "com/example/bron/bron/trec/ScoreHistogram" = some m.cls := findClass_of_methodNamed Bd.named
  have hnm := (name_of_methodNamed Bd.named Bd.method).1
  have X0 : Stand p l e ({ frames := 1, cells := 0, slots := 0, locals := 14 } : Room) s m #[(.ref ob), (.double x1)] below meth c s₁ [] 0 0 := Stand.of_body Bd
  have e0 : s₁.heap = h0 := by rw [← hh, Bd.state]; rfl
  have N0 := Fr.nil n0
  refine own_all ?_
  intro P hfin
  refine own_cast (ef_8 m ob x1) ?_
  show own_Go p e below P s₁ (mkF m 0 #[.val (.ref ob), .val (.double x1), .second] [])
  refine own_step (fun _ k => XS.iconst X0.here hx rfl (hb hby d8_0) k) ?_
  show own_Go p e below P s₁ (mkF m 1 #[.val (.ref ob), .val (.double x1), .second] [(.int (0 : Int32))])
  refine own_step (fun _ k => XS.aloadN X0.here hx rfl (hb hby d8_1) rfl rfl k) ?_
  show own_Go p e below P s₁ (mkF m 2 #[.val (.ref ob), .val (.double x1), .second] [(.ref ob), (.int (0 : Int32))])
  obtain ⟨T1, X1, e1, st1⟩ := getF X0 hx hZ hown (host := "") (Or.inl (hw _ (List.mem_of_getElem? (i := 30) rfl))) Via.refl e0 F_counts_ob (g := (mkF m 2 #[.val (.ref ob), .val (.double x1), .second] [(.ref ob), (.int (0 : Int32))])) rfl rfl (hb hby d8_2)
  refine own_step st1 ?_
  show own_Go p e below P T1 (mkF m 5 #[.val (.ref ob), .val (.double x1), .second] [(.ref ar), (.int (0 : Int32))])
  obtain ⟨cl2, Ar2, -, S2, M2, -, -⟩ := (id V_ar)
  refine own_step (fun t k => X1.arraylength hx (by rw [e1]; exact Ar2.1) (State.isArrayOf_alike hZ.alike Ar2.2.1) (g := (mkF m 5 #[.val (.ref ob), .val (.double x1), .second] [(.ref ar), (.int (0 : Int32))])) rfl rfl (hb hby d8_5) t k) ?_
  rw [len_of S2 M2]
  show own_Go p e below P T1 (mkF m 6 #[.val (.ref ob), .val (.double x1), .second] [(.int zz), (.int (0 : Int32))])
  refine own_step (fun _ k => XS.iconst X1.here hx rfl (hb hby d8_6) k) ?_
  show own_Go p e below P T1 (mkF m 7 #[.val (.ref ob), .val (.double x1), .second] [(.int (1 : Int32)), (.int zz), (.int (0 : Int32))])
  refine own_step (fun _ k => XS.isub X1.here hx rfl (hb hby d8_7) rfl k) ?_
  show own_Go p e below P T1 (mkF m 8 #[.val (.ref ob), .val (.double x1), .second] [(.int (zz - (1 : Int32))), (.int (0 : Int32))])
  refine own_step (fun _ k => XS.dloadN X1.here hx rfl (hb hby d8_8) rfl k) ?_
  show own_Go p e below P T1 (mkF m 9 #[.val (.ref ob), .val (.double x1), .second] [(.double x1), (.int (zz - (1 : Int32))), (.int (0 : Int32))])
  refine own_step (fun _ k => XS.aloadN X1.here hx rfl (hb hby d8_9) rfl rfl k) ?_
  show own_Go p e below P T1 (mkF m 10 #[.val (.ref ob), .val (.double x1), .second] [(.ref ob), (.double x1), (.int (zz - (1 : Int32))), (.int (0 : Int32))])
  obtain ⟨T3, X3, e3, st3⟩ := getF X1 hx hZ hown (host := "") (Or.inl (hw _ (List.mem_of_getElem? (i := 25) rfl))) Via.refl e1 F_lowest_ob (g := (mkF m 10 #[.val (.ref ob), .val (.double x1), .second] [(.ref ob), (.double x1), (.int (zz - (1 : Int32))), (.int (0 : Int32))])) rfl rfl (hb hby d8_10)
  refine own_step st3 ?_
  show own_Go p e below P T3 (mkF m 13 #[.val (.ref ob), .val (.double x1), .second] [(.double xl), (.double x1), (.int (zz - (1 : Int32))), (.int (0 : Int32))])
  refine own_step (fun _ k => XS.dsubS X3.here hx rfl (hb hby d8_13) rfl hN1 rfl k) ?_
  show own_Go p e below P T3 (mkF m 14 #[.val (.ref ob), .val (.double x1), .second] [(.double (FP.dsub x1 xl)), (.int (zz - (1 : Int32))), (.int (0 : Int32))])
  refine own_step (fun _ k => XS.aloadN X3.here hx rfl (hb hby d8_14) rfl rfl k) ?_
  show own_Go p e below P T3 (mkF m 15 #[.val (.ref ob), .val (.double x1), .second] [(.ref ob), (.double (FP.dsub x1 xl)), (.int (zz - (1 : Int32))), (.int (0 : Int32))])
  obtain ⟨T4, X4, e4, st4⟩ := getF X3 hx hZ hown (host := "") (Or.inl (hw _ (List.mem_of_getElem? (i := 27) rfl))) Via.refl e3 F_scale_ob (g := (mkF m 15 #[.val (.ref ob), .val (.double x1), .second] [(.ref ob), (.double (FP.dsub x1 xl)), (.int (zz - (1 : Int32))), (.int (0 : Int32))])) rfl rfl (hb hby d8_15)
  refine own_step st4 ?_
  show own_Go p e below P T4 (mkF m 18 #[.val (.ref ob), .val (.double x1), .second] [(.double own_one), (.double (FP.dsub x1 xl)), (.int (zz - (1 : Int32))), (.int (0 : Int32))])
  refine own_step (fun _ k => XS.dmulS X4.here hx rfl (hb hby d8_18) rfl hN2 rfl k) ?_
  show own_Go p e below P T4 (mkF m 19 #[.val (.ref ob), .val (.double x1), .second] [(.double (FP.dmul (FP.dsub x1 xl) own_one)), (.int (zz - (1 : Int32))), (.int (0 : Int32))])
  refine own_step (fun _ k => XS.d2iS X4.here hx rfl (hb hby d8_19) rfl rfl k) ?_
  show own_Go p e below P T4 (mkF m 20 #[.val (.ref ob), .val (.double x1), .second] [(.int (FP.d2i (FP.dmul (FP.dsub x1 xl) own_one))), (.int (zz - (1 : Int32))), (.int (0 : Int32))])
  obtain ⟨_, _, ⟨T5, L5, k5, n5⟩, -, X5, ⟨Lc5, hQ5, l5, y5, z5⟩, st5⟩ := Jvm.LawKit.callS X4 hx (y := (⟨"java/lang/Math", "min", "(II)I"⟩ : MethodName)) hown (mvT hZ (hw _ (List.mem_of_getElem? (i := 19) rfl))) (mvT hZ (hw _ (List.mem_of_getElem? (i := 20) rfl))) (mvT hZ (hw _ (List.mem_of_getElem? (i := 16) rfl))) (mvT hZ (hw _ (List.mem_of_getElem? (i := 21) rfl))) (by decide) (backOf (W := 1) (rm5 l Z a0 hw [] (zz - (1 : Int32)) (FP.d2i (FP.dmul (FP.dsub x1 xl) own_one)) h0 n0 Z0) hZ (hw _ (List.mem_of_getElem? (i := 21) rfl)) (hw _ (List.mem_of_getElem? (i := 16) rfl)) (by decide) (by decide)) (g := (mkF m 20 #[.val (.ref ob), .val (.double x1), .second] [(.int (FP.d2i (FP.dmul (FP.dsub x1 xl) own_one))), (.int (zz - (1 : Int32))), (.int (0 : Int32))])) rfl (by rw [hml]; rfl) (argsL := [(.int (zz - (1 : Int32))), (.int (FP.d2i (FP.dmul (FP.dsub x1 xl) own_one)))]) (rest := [(.int (0 : Int32))]) (lenOf pd__II__I rfl) rfl (by show 2 * 0 + _ ≤ _; exact Nat.le_of_eq rfl) (hb hby d8_20) (fun _ _ => ⟨rfl, e4, (by decide : 0 + 0 ≤ _), (by decide : 0 + 0 ≤ _)⟩)
  dsimp only [Pt.U, Pt.locs, Pt.cells, Pt.slots] at X5 l5 y5 z5 st5 hQ5
  subst l5 y5 z5
  obtain ⟨rfl, N5q, e5⟩ := hQ5
  have N5 := Fr.app N0 N5q
  refine own_step st5 ?_
  show own_Go p e below P T5 (mkF m 23 #[.val (.ref ob), .val (.double x1), .second] [(.int (if (FP.d2i (FP.dmul (FP.dsub x1 xl) own_one)) < (zz - (1 : Int32)) then (FP.d2i (FP.dmul (FP.dsub x1 xl) own_one)) else (zz - (1 : Int32)))), (.int (0 : Int32))])
  obtain ⟨_, _, ⟨T6, L6, k6, n6⟩, -, X6, ⟨Lc6, hQ6, l6, y6, z6⟩, st6⟩ := Jvm.LawKit.callS X5 hx (y := (⟨"java/lang/Math", "max", "(II)I"⟩ : MethodName)) hown (mvT hZ (hw _ (List.mem_of_getElem? (i := 22) rfl))) (mvT hZ (hw _ (List.mem_of_getElem? (i := 23) rfl))) (mvT hZ (hw _ (List.mem_of_getElem? (i := 16) rfl))) (mvT hZ (hw _ (List.mem_of_getElem? (i := 24) rfl))) (by decide) (backOf (W := 0) (rm6 l Z a0 hw [] (0 : Int32) (if (FP.d2i (FP.dmul (FP.dsub x1 xl) own_one)) < (zz - (1 : Int32)) then (FP.d2i (FP.dmul (FP.dsub x1 xl) own_one)) else (zz - (1 : Int32))) h0 n0 Z0) hZ (hw _ (List.mem_of_getElem? (i := 24) rfl)) (hw _ (List.mem_of_getElem? (i := 16) rfl)) (by decide) (by decide)) (g := (mkF m 23 #[.val (.ref ob), .val (.double x1), .second] [(.int (if (FP.d2i (FP.dmul (FP.dsub x1 xl) own_one)) < (zz - (1 : Int32)) then (FP.d2i (FP.dmul (FP.dsub x1 xl) own_one)) else (zz - (1 : Int32)))), (.int (0 : Int32))])) rfl (by rw [hml]; rfl) (argsL := [(.int (0 : Int32)), (.int (if (FP.d2i (FP.dmul (FP.dsub x1 xl) own_one)) < (zz - (1 : Int32)) then (FP.d2i (FP.dmul (FP.dsub x1 xl) own_one)) else (zz - (1 : Int32))))]) (rest := []) (lenOf pd__II__I rfl) rfl (by show 2 * 0 + _ ≤ _; exact Nat.le_of_eq rfl) (hb hby d8_23) (fun _ _ => ⟨rfl, e5, (by decide : 0 + 0 ≤ _), (by decide : 0 + 0 ≤ _)⟩)
  dsimp only [Pt.U, Pt.locs, Pt.cells, Pt.slots] at X6 l6 y6 z6 st6 hQ6
  subst l6 y6 z6
  obtain ⟨rfl, N6q, e6⟩ := hQ6
  have N6 := Fr.app N5 N6q
  refine own_step st6 ?_
  show own_Go p e below P T6 (mkF m 26 #[.val (.ref ob), .val (.double x1), .second] [(.int (if (0 : Int32) < (if (FP.d2i (FP.dmul (FP.dsub x1 xl) own_one)) < (zz - (1 : Int32)) then (FP.d2i (FP.dmul (FP.dsub x1 xl) own_one)) else (zz - (1 : Int32))) then (if (FP.d2i (FP.dmul (FP.dsub x1 xl) own_one)) < (zz - (1 : Int32)) then (FP.d2i (FP.dmul (FP.dsub x1 xl) own_one)) else (zz - (1 : Int32))) else (0 : Int32)))])
  obtain ⟨fs, hr, hrun, hended, hW, hsame⟩ := X6.leave (v := some (.int (if (0 : Int32) < (if (FP.d2i (FP.dmul (FP.dsub x1 xl) own_one)) < (zz - (1 : Int32)) then (FP.d2i (FP.dmul (FP.dsub x1 xl) own_one)) else (zz - (1 : Int32))) then (if (FP.d2i (FP.dmul (FP.dsub x1 xl) own_one)) < (zz - (1 : Int32)) then (FP.d2i (FP.dmul (FP.dsub x1 xl) own_one)) else (zz - (1 : Int32))) else (0 : Int32)))) (fun h => by rw [Bd.returns] at h; cases h)
  refine ⟨_, _, retOut X6 hx (t := .int) Bd.returns rfl (Or.inl ⟨rfl, Or.inl rfl, _, rfl⟩) (hb hby d8_26) hr, hrun, hended, hfin _ _ ⟨_, _, rfl, ?_, ⟨_, rfl⟩, hW, hsame.mono (by decide) (by decide)⟩⟩
  show Q8 Z ob x1 ar kc zz cs xl h0 n0 (some (.int (if (0 : Int32) < (if (FP.d2i (FP.dmul (FP.dsub x1 xl) own_one)) < (zz - (1 : Int32)) then (FP.d2i (FP.dmul (FP.dsub x1 xl) own_one)) else (zz - (1 : Int32))) then (if (FP.d2i (FP.dmul (FP.dsub x1 xl) own_one)) < (zz - (1 : Int32)) then (FP.d2i (FP.dmul (FP.dsub x1 xl) own_one)) else (zz - (1 : Int32))) else (0 : Int32)))) T6.heap _
  rw [e6]
  exact ⟨rfl, N6, rfl⟩
theorem ef_7 (m : MethodId) (x0 : Addr) (x1 : UInt64) : entryFrame m #[(.ref x0), (.double x1)] 3 = mkF m 0 #[.val (.ref x0), .val (.double x1), .second] [] := by first | (simp [entryFrame, mkF, argsToLocals, Value.category]; done) | rfl
theorem d7_0 : decode prog_23_method_2_code 0 = .ok (.aload_n 0, 1) := by decide +kernel
theorem d7_1 : decode prog_23_method_2_code 1 = .ok (.getfield 38, 3) := by decide +kernel
theorem d7_4 : decode prog_23_method_2_code 4 = .ok (.aload_n 0, 1) := by decide +kernel
theorem d7_5 : decode prog_23_method_2_code 5 = .ok (.dload_n 1, 1) := by decide +kernel
theorem pd__D__I : parseMethodDescriptor "(D)I" = some ⟨[.double], some .int⟩ := by decide +kernel
theorem d7_6 : decode prog_23_method_2_code 6 = .ok (.invokevirtual 42, 3) := by decide +kernel
theorem d7_9 : decode prog_23_method_2_code 9 = .ok (.dup2, 1) := by decide +kernel
theorem d7_10 : decode prog_23_method_2_code 10 = .ok (.iaload, 1) := by decide +kernel
theorem d7_11 : decode prog_23_method_2_code 11 = .ok (.iconst 1, 1) := by decide +kernel
theorem d7_12 : decode prog_23_method_2_code 12 = .ok (.iadd, 1) := by decide +kernel
theorem d7_13 : decode prog_23_method_2_code 13 = .ok (.iastore, 1) := by decide +kernel
theorem d7_14 : decode prog_23_method_2_code 14 = .ok (.return_, 1) := by decide +kernel
def Q7 (Z : State) (ob : Addr) (x1 : UInt64) (ar : Addr) (kc : ClassId) (zz : Int32) (cs : List Int32) (xl : UInt64) (ii : Int32) (h0 : Heap) (n0 : Nat) (v : Option Value) (h : Heap) (L : List Loc) : Prop := v = none ∧ Fr n0 L ∧ Keep h0 h [ar] ∧ Arv Z h ar kc .int zz ((own_put cs ii).map Value.int) (.int (0 : Int32))
set_option maxRecDepth 65536 in
set_option maxHeartbeats 40000000 in
theorem rm7 (l : Launch) (Z : State) (a0 : Array Value) (hw : ∀ d ∈ tables_1, d.before a0 Z = true) (ws : List Jvm.Cond) (ob : Addr) (x1 : UInt64) (ar : Addr) (kc : ClassId) (zz : Int32) (cs : List Int32) (xl : UInt64) (ii : Int32) (h0 : Heap) (n0 : Nat) (Z0 : n0 ≤ h0.size) (E_ob : Exa Z h0 ob "com/example/bron/bron/trec/ScoreHistogram") (F_lowest_ob : Fld Z h0 ob "com/example/bron/bron/trec/ScoreHistogram" "lowest" "D" (.double xl)) (F_scale_ob : Fld Z h0 ob "com/example/bron/bron/trec/ScoreHistogram" "scale" "D" (.double own_one)) (F_counts_ob : Fld Z h0 ob "com/example/bron/bron/trec/ScoreHistogram" "counts" "[I" (.ref ar)) (V_ar : Arv Z h0 ar kc .int zz (cs.map Value.int) (.int (0 : Int32))) (ne_oa : ob ≠ ar) (g_ar : n0 ≤ ar) (hN1 : NoNaN64 (FP.dsub x1 xl)) (hN2 : NoNaN64 (FP.dmul (FP.dsub x1 xl) own_one)) (hI : (own_clamp (zz - (1 : Int32)) (FP.d2i (FP.dmul (FP.dsub x1 xl) own_one))) = ii) (hi0 : ¬ ii < 0) (hi1 : ii < zz) (hlen : cs.length = zz.toNatClampNeg) :
    MetFree l (⟨"com/example/bron/bron/trec/ScoreHistogram", "add", "(D)V"⟩ : MethodName) (head1 (Jvm.Cond.code (⟨"com/example/bron/bron/trec/ScoreHistogram", "add", "(D)V"⟩ : MethodName) prog_23_method_2_code 3 none :: ws) ({ frames := 2, cells := 0, slots := 0, locals := 29 } : Room)) (fun a U => a = #[(.ref ob), (.double x1)] ∧ Z.Warmed39 U.vm ∧ U.heap = h0) (fun _ _ _ _ _ => True) (fun _ U o U' => ∃ v L, o = .returned v ∧ Q7 Z ob x1 ar kc zz cs xl ii h0 n0 v U'.heap L ∧ FrameEnd U o U' L ({ frames := 2, cells := 0, slots := 0, locals := 29 } : Room).cells ({ frames := 2, cells := 0, slots := 0, locals := 29 } : Room).slots) := by
  refine MetFree.of_bodySF (plainFor_of_name pn_com_example_bron_bron_trec_ScoreHistogram) hisR ?_
  intro p e s m args below meth c s₁ Bd hml0 hP hK
  obtain ⟨rfl, hZ, hh⟩ := hP
  have hx := Bd.exec
  have hby := Bd.bytes
  have hml : c.maxLocals = 3 := hml0
  have hown : s.vm.findClass "com/example/bron/bron/trec/ScoreHistogram" = some m.cls := findClass_of_methodNamed Bd.named
  have hnm := (name_of_methodNamed Bd.named Bd.method).1
  have X0 : Stand p l e ({ frames := 2, cells := 0, slots := 0, locals := 29 } : Room) s m #[(.ref ob), (.double x1)] below meth c s₁ [] 0 0 := Stand.of_body Bd
  have e0 : s₁.heap = h0 := by rw [← hh, Bd.state]; rfl
  have N0 := Fr.nil n0
  refine own_all ?_
  intro P hfin
  refine own_cast (ef_7 m ob x1) ?_
  show own_Go p e below P s₁ (mkF m 0 #[.val (.ref ob), .val (.double x1), .second] [])
  refine own_step (fun _ k => XS.aloadN X0.here hx rfl (hb hby d7_0) rfl rfl k) ?_
  show own_Go p e below P s₁ (mkF m 1 #[.val (.ref ob), .val (.double x1), .second] [(.ref ob)])
  obtain ⟨T1, X1, e1, st1⟩ := getF X0 hx hZ hown (host := "") (Or.inl (hw _ (List.mem_of_getElem? (i := 30) rfl))) Via.refl e0 F_counts_ob (g := (mkF m 1 #[.val (.ref ob), .val (.double x1), .second] [(.ref ob)])) rfl rfl (hb hby d7_1)
  refine own_step st1 ?_
  show own_Go p e below P T1 (mkF m 4 #[.val (.ref ob), .val (.double x1), .second] [(.ref ar)])
  refine own_step (fun _ k => XS.aloadN X1.here hx rfl (hb hby d7_4) rfl rfl k) ?_
  show own_Go p e below P T1 (mkF m 5 #[.val (.ref ob), .val (.double x1), .second] [(.ref ob), (.ref ar)])
  refine own_step (fun _ k => XS.dloadN X1.here hx rfl (hb hby d7_5) rfl k) ?_
  show own_Go p e below P T1 (mkF m 6 #[.val (.ref ob), .val (.double x1), .second] [(.double x1), (.ref ob), (.ref ar)])
  obtain ⟨cq2, kq2, q2a, q2b, q2c⟩ := isOf hZ e1 E_ob
  obtain ⟨_, _, ⟨T2, L2, k2, n2⟩, -, X2, ⟨Lc2, hQ2, l2, y2, z2⟩, st2⟩ := X1.virtualBack hx (y := (⟨"com/example/bron/bron/trec/ScoreHistogram", "bucket", "(D)I"⟩ : MethodName)) (z := (⟨"com/example/bron/bron/trec/ScoreHistogram", "bucket", "(D)I"⟩ : MethodName)) hown (mvT hZ (hw _ (List.mem_of_getElem? (i := 37) rfl))) (mvT hZ (hw _ (List.mem_of_getElem? (i := 38) rfl))) (notFace_of_selects (args := #[]) (mvT hZ (hw _ (List.mem_of_getElem? (i := 40) rfl)))) (mvT hZ (hw _ (List.mem_of_getElem? (i := 40) rfl))) (mvT hZ (hw _ (List.mem_of_getElem? (i := 39) rfl))) (by decide) (backOf (W := 1) (rm8 l Z a0 hw [] ob x1 ar kc zz cs xl h0 n0 Z0 E_ob F_lowest_ob F_scale_ob F_counts_ob V_ar ne_oa hN1 hN2) hZ (hw _ (List.mem_of_getElem? (i := 41) rfl)) (hw _ (List.mem_of_getElem? (i := 3) rfl)) (by decide) (by decide)) q2a q2c (g := (mkF m 6 #[.val (.ref ob), .val (.double x1), .second] [(.double x1), (.ref ob), (.ref ar)])) rfl (by rw [hml]; rfl) (Steps.refl _) (argsL := [(.double x1)]) (rest := [(.ref ar)]) (lenOf pd__D__I rfl) rfl (by show 2 * 0 + _ ≤ _; exact Nat.le_of_eq rfl) (hb hby d7_6) (fun _ _ => ⟨rfl, e1, (by decide : 0 + 0 ≤ _), (by decide : 0 + 0 ≤ _)⟩)
  dsimp only [Pt.U, Pt.locs, Pt.cells, Pt.slots] at X2 l2 y2 z2 st2 hQ2
  subst l2 y2 z2
  obtain ⟨rfl, N2q, e2⟩ := hQ2
  have N2 := Fr.app N0 N2q
  refine own_step (fun _ k => st2.trans k) ?_
  show own_Go p e below P T2 (mkF m 9 #[.val (.ref ob), .val (.double x1), .second] [(.int (own_clamp (zz - (1 : Int32)) (FP.d2i (FP.dmul (FP.dsub x1 xl) own_one)))), (.ref ar)])
  rw [hI]
  show own_Go p e below P T2 (mkF m 9 #[.val (.ref ob), .val (.double x1), .second] [(.int ii), (.ref ar)])
  refine own_step (fun _ k => XT.dup2 X2.here hx rfl (hb hby d7_9) rfl rfl rfl k) ?_
  show own_Go p e below P T2 (mkF m 10 #[.val (.ref ob), .val (.double x1), .second] [(.int ii), (.ref ar), (.int ii), (.ref ar)])
  obtain ⟨cl3, Ar3, -, S3, M3, H3, -⟩ := (id V_ar)
  have hin3 : ¬ (ii < 0 ∨ cl3.slots.size ≤ (ii).toNatClampNeg) := inb_of S3 ⟨hi0, hi1⟩
  refine own_step (fun t k => X2.iaload hx (j := ii) (v := (.int (cs.getD (ii).toNatClampNeg 0))) (by rw [e2]; exact Ar3.1) (State.isArrayOf_alike hZ.alike Ar3.2.1) Ar3.2.2 hin3 (Has.at H3 hin3 (own_gd cs _)) (g := (mkF m 10 #[.val (.ref ob), .val (.double x1), .second] [(.int ii), (.ref ar), (.int ii), (.ref ar)])) rfl rfl (hb hby d7_10) t k) ?_
  show own_Go p e below P T2 (mkF m 11 #[.val (.ref ob), .val (.double x1), .second] [(.int (cs.getD (ii).toNatClampNeg 0)), (.int ii), (.ref ar)])
  refine own_step (fun _ k => XS.iconst X2.here hx rfl (hb hby d7_11) k) ?_
  show own_Go p e below P T2 (mkF m 12 #[.val (.ref ob), .val (.double x1), .second] [(.int (1 : Int32)), (.int (cs.getD (ii).toNatClampNeg 0)), (.int ii), (.ref ar)])
  refine own_step (fun _ k => XS.iadd X2.here hx rfl (hb hby d7_12) rfl k) ?_
  show own_Go p e below P T2 (mkF m 13 #[.val (.ref ob), .val (.double x1), .second] [(.int ((cs.getD (ii).toNatClampNeg 0) + (1 : Int32))), (.int ii), (.ref ar)])
  obtain ⟨cl4, Ar4, q4, S4, M4, H4, G4⟩ := (id V_ar)
  have hin4 : ¬ (ii < 0 ∨ cl4.slots.size ≤ (ii).toNatClampNeg) := inb_of S4 ⟨hi0, hi1⟩
  obtain ⟨T4, h4, X4, e4, W4, st4⟩ := stI X2 hx hZ e2 Ar4 (j := ii) hin4 (g := (mkF m 13 #[.val (.ref ob), .val (.double x1), .second] [(.int ((cs.getD (ii).toNatClampNeg 0) + (1 : Int32))), (.int ii), (.ref ar)])) rfl rfl (hb hby d7_13)
  have V4 : Arv Z h4 ar kc .int zz ((cs.set (ii).toNatClampNeg ((cs.getD (ii).toNatClampNeg 0) + (1 : Int32))).map Value.int) (.int (0 : Int32)) := by
    rw [List.map_set]
    exact Arv.set Ar4 q4 S4 M4 H4 G4 rfl W4 (ii).toNatClampNeg rfl (by rw [List.length_map]; exact (own_nat hi0 hi1 hlen))
  have N4 := Fr.snoc X4 N2 g_ar
  refine own_step st4 ?_
  show own_Go p e below P T4 (mkF m 14 #[.val (.ref ob), .val (.double x1), .second] [])
  obtain ⟨fs, hr, hrun, hended, hW, hsame⟩ := X4.leave (v := none) (fun _ => rfl)
  refine ⟨_, _, X4.returnOut hx Bd.returns (hb hby d7_14) hr, hrun, hended, hfin _ _ ⟨_, _, rfl, ?_, ⟨_, rfl⟩, hW, hsame.mono (by decide) (by decide)⟩⟩
  show Q7 Z ob x1 ar kc zz cs xl ii h0 n0 none T4.heap _
  rw [e4]
  exact ⟨rfl, N4, ((Keep.refl h0 [ar]).wr W4 (Or.inl (List.mem_of_getElem? (i := 0) rfl))), V4⟩
theorem ef_10 (m : MethodId) (x0 : Int32) (x1 : Int32) : entryFrame m #[(.int x0), (.int x1)] 2 = mkF m 0 #[.val (.int x0), .val (.int x1)] [] := by first | (simp [entryFrame, mkF, argsToLocals, Value.category]; done) | rfl
theorem pn_com_example_bron_bron_trec_ScoreHistogramBucketAtPinLaw : plainName "com/example/bron/bron/trec/ScoreHistogramBucketAtPinLaw" = true := by first | (simp [plainName, overriddenIn]; done) | decide +kernel
theorem d10_0 : decode method_2_code 0 = .ok (.iload_n 0, 1) := by decide +kernel
theorem d10_1 : decode method_2_code 1 = .ok (.ifCond .ge 5, 3) := by decide +kernel
theorem d10_4 : decode method_2_code 4 = .ok (.iconst 0, 1) := by decide +kernel
theorem d10_5 : decode method_2_code 5 = .ok (.ireturn, 1) := by decide +kernel
theorem d10_6 : decode method_2_code 6 = .ok (.iload_n 0, 1) := by decide +kernel
theorem d10_7 : decode method_2_code 7 = .ok (.iload_n 1, 1) := by decide +kernel
theorem d10_8 : decode method_2_code 8 = .ok (.if_icmp .le 5, 3) := by decide +kernel
theorem d10_11 : decode method_2_code 11 = .ok (.iload_n 1, 1) := by decide +kernel
theorem d10_12 : decode method_2_code 12 = .ok (.ireturn, 1) := by decide +kernel
theorem d10_13 : decode method_2_code 13 = .ok (.iload_n 0, 1) := by decide +kernel
theorem d10_14 : decode method_2_code 14 = .ok (.ireturn, 1) := by decide +kernel
def Q10 (Z : State) (p0 : Int32) (p1 : Int32) (h0 : Heap) (n0 : Nat) (v : Option Value) (h : Heap) (L : List Loc) : Prop := v = some (.int (own_ref p0 p1)) ∧ Fr n0 L ∧ h = h0
set_option maxRecDepth 65536 in
set_option maxHeartbeats 40000000 in
theorem rm10 (l : Launch) (Z : State) (a0 : Array Value) (hw : ∀ d ∈ tables_1, d.before a0 Z = true) (ws : List Jvm.Cond) (p0 : Int32) (p1 : Int32) (h0 : Heap) (n0 : Nat) (Z0 : n0 ≤ h0.size) :
    MetFree l (⟨"com/example/bron/bron/trec/ScoreHistogramBucketAtPinLaw", "ref", "(II)I"⟩ : MethodName) (head1 (Jvm.Cond.code (⟨"com/example/bron/bron/trec/ScoreHistogramBucketAtPinLaw", "ref", "(II)I"⟩ : MethodName) method_2_code 2 (some .int) :: ws) ({ frames := 0, cells := 0, slots := 0, locals := 0 } : Room)) (fun a U => a = #[(.int p0), (.int p1)] ∧ Z.Warmed39 U.vm ∧ U.heap = h0) (fun _ _ _ _ _ => True) (fun _ U o U' => ∃ v L, o = .returned v ∧ Q10 Z p0 p1 h0 n0 v U'.heap L ∧ FrameEnd U o U' L ({ frames := 0, cells := 0, slots := 0, locals := 0 } : Room).cells ({ frames := 0, cells := 0, slots := 0, locals := 0 } : Room).slots) := by
  refine MetFree.of_bodySF (plainFor_of_name pn_com_example_bron_bron_trec_ScoreHistogramBucketAtPinLaw) hisR ?_
  intro p e s m args below meth c s₁ Bd hml0 hP hK
  obtain ⟨rfl, hZ, hh⟩ := hP
  have hx := Bd.exec
  have hby := Bd.bytes
  have hml : c.maxLocals = 2 := hml0
  have hown : s.vm.findClass "com/example/bron/bron/trec/ScoreHistogramBucketAtPinLaw" = some m.cls := findClass_of_methodNamed Bd.named
  have hnm := (name_of_methodNamed Bd.named Bd.method).1
  have X0 : Stand p l e ({ frames := 0, cells := 0, slots := 0, locals := 0 } : Room) s m #[(.int p0), (.int p1)] below meth c s₁ [] 0 0 := Stand.of_body Bd
  have e0 : s₁.heap = h0 := by rw [← hh, Bd.state]; rfl
  have N0 := Fr.nil n0
  refine own_all ?_
  intro P hfin
  refine own_cast (ef_10 m p0 p1) ?_
  show own_Go p e below P s₁ (mkF m 0 #[.val (.int p0), .val (.int p1)] [])
  refine own_step (fun _ k => XS.iloadN X0.here hx rfl (hb hby d10_0) rfl k) ?_
  show own_Go p e below P s₁ (mkF m 1 #[.val (.int p0), .val (.int p1)] [(.int p0)])
  by_cases hc1 : p0 < (0 : Int32)
  · refine own_step (fun _ k => XS.ifNo X0.here hx rfl (hb hby d10_1) rfl ((if0 _ _).trans (tlt hc1).2.1) k) ?_
    show own_Go p e below P s₁ (mkF m 4 #[.val (.int p0), .val (.int p1)] [])
    refine own_step (fun _ k => XS.iconst X0.here hx rfl (hb hby d10_4) k) ?_
    show own_Go p e below P s₁ (mkF m 5 #[.val (.int p0), .val (.int p1)] [(.int (0 : Int32))])
    obtain ⟨fs, hr, hrun, hended, hW, hsame⟩ := X0.leave (v := some (.int (0 : Int32))) (fun h => by rw [Bd.returns] at h; cases h)
    refine ⟨_, _, retOut X0 hx (t := .int) Bd.returns rfl (Or.inl ⟨rfl, Or.inl rfl, _, rfl⟩) (hb hby d10_5) hr, hrun, hended, hfin _ _ ⟨_, _, rfl, ?_, ⟨_, rfl⟩, hW, hsame.mono (by decide) (by decide)⟩⟩
    show Q10 Z p0 p1 h0 n0 (some (.int (0 : Int32))) s₁.heap _
    rw [e0]
    exact ⟨congrArg (fun z => some (Value.int z)) (if_pos hc1).symm, N0, rfl⟩
  · refine own_step (fun _ k => XS.ifYes X0.here hx rfl (pc0 := 1) (pc' := 6) rfl (hb hby d10_1) rfl ((if0 _ _).trans (flt hc1).2.1) (by decide) (by decide) k) ?_
    show own_Go p e below P s₁ (mkF m 6 #[.val (.int p0), .val (.int p1)] [])
    refine own_step (fun _ k => XS.iloadN X0.here hx rfl (hb hby d10_6) rfl k) ?_
    show own_Go p e below P s₁ (mkF m 7 #[.val (.int p0), .val (.int p1)] [(.int p0)])
    refine own_step (fun _ k => XS.iloadN X0.here hx rfl (hb hby d10_7) rfl k) ?_
    show own_Go p e below P s₁ (mkF m 8 #[.val (.int p0), .val (.int p1)] [(.int p1), (.int p0)])
    by_cases hc3 : p1 < p0
    · refine own_step (fun _ k => XS.icmpNo X0.here hx rfl (hb hby d10_8) rfl (tlt hc3).2.2.2 k) ?_
      show own_Go p e below P s₁ (mkF m 11 #[.val (.int p0), .val (.int p1)] [])
      refine own_step (fun _ k => XS.iloadN X0.here hx rfl (hb hby d10_11) rfl k) ?_
      show own_Go p e below P s₁ (mkF m 12 #[.val (.int p0), .val (.int p1)] [(.int p1)])
      obtain ⟨fs, hr, hrun, hended, hW, hsame⟩ := X0.leave (v := some (.int p1)) (fun h => by rw [Bd.returns] at h; cases h)
      refine ⟨_, _, retOut X0 hx (t := .int) Bd.returns rfl (Or.inl ⟨rfl, Or.inl rfl, _, rfl⟩) (hb hby d10_12) hr, hrun, hended, hfin _ _ ⟨_, _, rfl, ?_, ⟨_, rfl⟩, hW, hsame.mono (by decide) (by decide)⟩⟩
      show Q10 Z p0 p1 h0 n0 (some (.int p1)) s₁.heap _
      rw [e0]
      exact ⟨congrArg (fun z => some (Value.int z)) ((if_neg hc1).trans (if_pos hc3)).symm, N0, rfl⟩
    · refine own_step (fun _ k => XS.icmpYes X0.here hx rfl (pc0 := 8) (pc' := 13) rfl (hb hby d10_8) rfl (flt hc3).2.2.2 (by decide) (by decide) k) ?_
      show own_Go p e below P s₁ (mkF m 13 #[.val (.int p0), .val (.int p1)] [])
      refine own_step (fun _ k => XS.iloadN X0.here hx rfl (hb hby d10_13) rfl k) ?_
      show own_Go p e below P s₁ (mkF m 14 #[.val (.int p0), .val (.int p1)] [(.int p0)])
      obtain ⟨fs, hr, hrun, hended, hW, hsame⟩ := X0.leave (v := some (.int p0)) (fun h => by rw [Bd.returns] at h; cases h)
      refine ⟨_, _, retOut X0 hx (t := .int) Bd.returns rfl (Or.inl ⟨rfl, Or.inl rfl, _, rfl⟩) (hb hby d10_14) hr, hrun, hended, hfin _ _ ⟨_, _, rfl, ?_, ⟨_, rfl⟩, hW, hsame.mono (by decide) (by decide)⟩⟩
      show Q10 Z p0 p1 h0 n0 (some (.int p0)) s₁.heap _
      rw [e0]
      exact ⟨congrArg (fun z => some (Value.int z)) ((if_neg hc1).trans (if_neg hc3)).symm, N0, rfl⟩
theorem own_z1 {z : Int32} {n : Nat} (h : 1 ≤ z.toInt) (hl : n = z.toNatClampNeg) : ¬ (z - (1 : Int32)) < 0 ∧ (z - (1 : Int32)) < z ∧ (z - (1 : Int32)).toNatClampNeg = n - 1 := by
  subst hl
  have q := c_isub z 1; have r := rng32 (z - 1); have r2 := rng32 z
  rw [Int32.lt_iff_toInt_lt, Int32.lt_iff_toInt_lt]
  simp only [Int32.toNatClampNeg, show (0 : Int32).toInt = 0 from rfl, show (1 : Int32).toInt = 1 from rfl] at *
  omega
theorem ef_9 (m : MethodId) (x0 : Addr) (x1 : Int32) : entryFrame m #[(.ref x0), (.int x1)] 4 = mkF m 0 #[.val (.ref x0), .val (.int x1), .unset, .unset] [] := by first | (simp [entryFrame, mkF, argsToLocals, Value.category]; done) | rfl
theorem d9_0 : decode prog_23_method_4_code 0 = .ok (.aload_n 0, 1) := by decide +kernel
theorem d9_1 : decode prog_23_method_4_code 1 = .ok (.getfield 38, 3) := by decide +kernel
theorem d9_4 : decode prog_23_method_4_code 4 = .ok (.arraylength, 1) := by decide +kernel
theorem d9_5 : decode prog_23_method_4_code 5 = .ok (.iconst 1, 1) := by decide +kernel
theorem d9_6 : decode prog_23_method_4_code 6 = .ok (.isub, 1) := by decide +kernel
theorem d9_7 : decode prog_23_method_4_code 7 = .ok (.istore_n 2, 1) := by decide +kernel
theorem d9_8 : decode prog_23_method_4_code 8 = .ok (.aload_n 0, 1) := by decide +kernel
theorem d9_9 : decode prog_23_method_4_code 9 = .ok (.getfield 38, 3) := by decide +kernel
theorem d9_12 : decode prog_23_method_4_code 12 = .ok (.iload_n 2, 1) := by decide +kernel
theorem d9_13 : decode prog_23_method_4_code 13 = .ok (.iaload, 1) := by decide +kernel
theorem d9_14 : decode prog_23_method_4_code 14 = .ok (.istore_n 3, 1) := by decide +kernel
theorem d9_15 : decode prog_23_method_4_code 15 = .ok (.iload_n 3, 1) := by decide +kernel
theorem d9_16 : decode prog_23_method_4_code 16 = .ok (.iload_n 1, 1) := by decide +kernel
theorem d9_17 : decode prog_23_method_4_code 17 = .ok (.if_icmp .gt 18, 3) := by decide +kernel
theorem d9_35 : decode prog_23_method_4_code 35 = .ok (.iload_n 2, 1) := by decide +kernel
theorem d9_36 : decode prog_23_method_4_code 36 = .ok (.ireturn, 1) := by decide +kernel
theorem d9_20 : decode prog_23_method_4_code 20 = .ok (.iload_n 3, 1) := by decide +kernel
theorem d9_21 : decode prog_23_method_4_code 21 = .ok (.aload_n 0, 1) := by decide +kernel
theorem d9_22 : decode prog_23_method_4_code 22 = .ok (.getfield 38, 3) := by decide +kernel
theorem d9_25 : decode prog_23_method_4_code 25 = .ok (.iinc 2 (-1), 3) := by decide +kernel
theorem d9_28 : decode prog_23_method_4_code 28 = .ok (.iload_n 2, 1) := by decide +kernel
theorem d9_29 : decode prog_23_method_4_code 29 = .ok (.iaload, 1) := by decide +kernel
theorem d9_30 : decode prog_23_method_4_code 30 = .ok (.iadd, 1) := by decide +kernel
theorem d9_31 : decode prog_23_method_4_code 31 = .ok (.istore_n 3, 1) := by decide +kernel
theorem d9_32 : decode prog_23_method_4_code 32 = .ok (.goto (-17), 3) := by decide +kernel
def Q9 (Z : State) (ob : Addr) (p1 : Int32) (ar : Addr) (kc : ClassId) (zz : Int32) (cs : List Int32) (xl : UInt64) (rr : Int32) (h0 : Heap) (n0 : Nat) (v : Option Value) (h : Heap) (L : List Loc) : Prop := v = some (.int rr) ∧ Fr n0 L ∧ h = h0
set_option maxRecDepth 65536 in
set_option maxHeartbeats 40000000 in
theorem rm9 (l : Launch) (Z : State) (a0 : Array Value) (hw : ∀ d ∈ tables_1, d.before a0 Z = true) (ws : List Jvm.Cond) (ob : Addr) (p1 : Int32) (ar : Addr) (kc : ClassId) (zz : Int32) (cs : List Int32) (xl : UInt64) (rr : Int32) (h0 : Heap) (n0 : Nat) (Z0 : n0 ≤ h0.size) (E_ob : Exa Z h0 ob "com/example/bron/bron/trec/ScoreHistogram") (F_lowest_ob : Fld Z h0 ob "com/example/bron/bron/trec/ScoreHistogram" "lowest" "D" (.double xl)) (F_scale_ob : Fld Z h0 ob "com/example/bron/bron/trec/ScoreHistogram" "scale" "D" (.double own_one)) (F_counts_ob : Fld Z h0 ob "com/example/bron/bron/trec/ScoreHistogram" "counts" "[I" (.ref ar)) (V_ar : Arv Z h0 ar kc .int zz (cs.map Value.int) (.int (0 : Int32))) (ne_oa : ob ≠ ar) (hlen : cs.length = zz.toNatClampNeg) (hz1 : 1 ≤ zz.toInt) (hbat : own_bat cs p1 = some rr) :
    MetFree l (⟨"com/example/bron/bron/trec/ScoreHistogram", "bucketAt", "(I)I"⟩ : MethodName) (head1 (Jvm.Cond.code (⟨"com/example/bron/bron/trec/ScoreHistogram", "bucketAt", "(I)I"⟩ : MethodName) prog_23_method_4_code 4 (some .int) :: ws) ({ frames := 0, cells := 0, slots := 0, locals := 0 } : Room)) (fun a U => a = #[(.ref ob), (.int p1)] ∧ Z.Warmed39 U.vm ∧ U.heap = h0) (fun _ _ _ _ _ => True) (fun _ U o U' => ∃ v L, o = .returned v ∧ Q9 Z ob p1 ar kc zz cs xl rr h0 n0 v U'.heap L ∧ FrameEnd U o U' L ({ frames := 0, cells := 0, slots := 0, locals := 0 } : Room).cells ({ frames := 0, cells := 0, slots := 0, locals := 0 } : Room).slots) := by
  refine MetFree.of_bodySF (plainFor_of_name pn_com_example_bron_bron_trec_ScoreHistogram) hisR ?_
  intro p e s m args below meth c s₁ Bd hml0 hP hK
  obtain ⟨rfl, hZ, hh⟩ := hP
  have hx := Bd.exec
  have hby := Bd.bytes
  have hml : c.maxLocals = 4 := hml0
  have hown : s.vm.findClass "com/example/bron/bron/trec/ScoreHistogram" = some m.cls := findClass_of_methodNamed Bd.named
  have hnm := (name_of_methodNamed Bd.named Bd.method).1
  have X0 : Stand p l e ({ frames := 0, cells := 0, slots := 0, locals := 0 } : Room) s m #[(.ref ob), (.int p1)] below meth c s₁ [] 0 0 := Stand.of_body Bd
  have e0 : s₁.heap = h0 := by rw [← hh, Bd.state]; rfl
  have N0 := Fr.nil n0
  refine own_all ?_
  intro P hfin
  refine own_cast (ef_9 m ob p1) ?_
  show own_Go p e below P s₁ (mkF m 0 #[.val (.ref ob), .val (.int p1), .unset, .unset] [])
  have hz := own_z1 hz1 hlen
  refine own_step (fun _ k => XS.aloadN X0.here hx rfl (hb hby d9_0) rfl rfl k) ?_
  show own_Go p e below P s₁ (mkF m 1 #[.val (.ref ob), .val (.int p1), .unset, .unset] [(.ref ob)])
  obtain ⟨T1, X1, e1, st1⟩ := getF X0 hx hZ hown (host := "") (Or.inl (hw _ (List.mem_of_getElem? (i := 30) rfl))) Via.refl e0 F_counts_ob (g := (mkF m 1 #[.val (.ref ob), .val (.int p1), .unset, .unset] [(.ref ob)])) rfl rfl (hb hby d9_1)
  refine own_step st1 ?_
  show own_Go p e below P T1 (mkF m 4 #[.val (.ref ob), .val (.int p1), .unset, .unset] [(.ref ar)])
  obtain ⟨cl2, Ar2, -, S2, M2, -, -⟩ := (id V_ar)
  refine own_step (fun t k => X1.arraylength hx (by rw [e1]; exact Ar2.1) (State.isArrayOf_alike hZ.alike Ar2.2.1) (g := (mkF m 4 #[.val (.ref ob), .val (.int p1), .unset, .unset] [(.ref ar)])) rfl rfl (hb hby d9_4) t k) ?_
  rw [len_of S2 M2]
  show own_Go p e below P T1 (mkF m 5 #[.val (.ref ob), .val (.int p1), .unset, .unset] [(.int zz)])
  refine own_step (fun _ k => XS.iconst X1.here hx rfl (hb hby d9_5) k) ?_
  show own_Go p e below P T1 (mkF m 6 #[.val (.ref ob), .val (.int p1), .unset, .unset] [(.int (1 : Int32)), (.int zz)])
  refine own_step (fun _ k => XS.isub X1.here hx rfl (hb hby d9_6) rfl k) ?_
  show own_Go p e below P T1 (mkF m 7 #[.val (.ref ob), .val (.int p1), .unset, .unset] [(.int (zz - (1 : Int32)))])
  refine own_step (fun _ k => XS.istoreN X1.here hx rfl (hb hby d9_7) rfl (l' := #[.val (.ref ob), .val (.int p1), .val (.int (zz - (1 : Int32))), .unset]) rfl k) ?_
  show own_Go p e below P T1 (mkF m 8 #[.val (.ref ob), .val (.int p1), .val (.int (zz - (1 : Int32))), .unset] [])
  refine own_step (fun _ k => XS.aloadN X1.here hx rfl (hb hby d9_8) rfl rfl k) ?_
  show own_Go p e below P T1 (mkF m 9 #[.val (.ref ob), .val (.int p1), .val (.int (zz - (1 : Int32))), .unset] [(.ref ob)])
  obtain ⟨T3, X3, e3, st3⟩ := getF X1 hx hZ hown (host := "") (Or.inl (hw _ (List.mem_of_getElem? (i := 30) rfl))) Via.refl e1 F_counts_ob (g := (mkF m 9 #[.val (.ref ob), .val (.int p1), .val (.int (zz - (1 : Int32))), .unset] [(.ref ob)])) rfl rfl (hb hby d9_9)
  refine own_step st3 ?_
  show own_Go p e below P T3 (mkF m 12 #[.val (.ref ob), .val (.int p1), .val (.int (zz - (1 : Int32))), .unset] [(.ref ar)])
  refine own_step (fun _ k => XS.iloadN X3.here hx rfl (hb hby d9_12) rfl k) ?_
  show own_Go p e below P T3 (mkF m 13 #[.val (.ref ob), .val (.int p1), .val (.int (zz - (1 : Int32))), .unset] [(.int (zz - (1 : Int32))), (.ref ar)])
  obtain ⟨cl4, Ar4, -, S4, M4, H4, -⟩ := (id V_ar)
  have hin4 : ¬ ((zz - (1 : Int32)) < 0 ∨ cl4.slots.size ≤ ((zz - (1 : Int32))).toNatClampNeg) := inb_of S4 ⟨hz.1, hz.2.1⟩
  refine own_step (fun t k => X3.iaload hx (j := (zz - (1 : Int32))) (v := (.int (cs.getD ((zz - (1 : Int32))).toNatClampNeg 0))) (by rw [e3]; exact Ar4.1) (State.isArrayOf_alike hZ.alike Ar4.2.1) Ar4.2.2 hin4 (Has.at H4 hin4 (own_gd cs _)) (g := (mkF m 13 #[.val (.ref ob), .val (.int p1), .val (.int (zz - (1 : Int32))), .unset] [(.int (zz - (1 : Int32))), (.ref ar)])) rfl rfl (hb hby d9_13) t k) ?_
  show own_Go p e below P T3 (mkF m 14 #[.val (.ref ob), .val (.int p1), .val (.int (zz - (1 : Int32))), .unset] [(.int (cs.getD ((zz - (1 : Int32))).toNatClampNeg 0))])
  refine own_step (fun _ k => XS.istoreN X3.here hx rfl (hb hby d9_14) rfl (l' := #[.val (.ref ob), .val (.int p1), .val (.int (zz - (1 : Int32))), .val (.int (cs.getD ((zz - (1 : Int32))).toNatClampNeg 0))]) rfl k) ?_
  show own_Go p e below P T3 (mkF m 15 #[.val (.ref ob), .val (.int p1), .val (.int (zz - (1 : Int32))), .val (.int (cs.getD ((zz - (1 : Int32))).toNatClampNeg 0))] [])
  have loop : ∀ (i : Nat) (T : State) (bk ab : Int32), Stand p l e ({ frames := 0, cells := 0, slots := 0, locals := 0 } : Room) s m #[(.ref ob), (.int p1)] below meth c T [] 0 0 → T.heap = h0 → bk.toNatClampNeg = i → ¬ bk < 0 → bk < zz → own_walk cs p1 i ab = some rr → own_Go p e below P T (mkF m 15 #[.val (.ref ob), .val (.int p1), .val (.int bk), .val (.int ab)] []) := by
    intro i
    induction i with
    | zero =>
      intro T bk ab X eT hbi hb0 hb1 hwk
      show own_Go p e below P T (mkF m 15 #[.val (.ref ob), .val (.int p1), .val (.int bk), .val (.int ab)] [])
      refine own_step (fun _ k => XS.iloadN X.here hx rfl (hb hby d9_15) rfl k) ?_
      show own_Go p e below P T (mkF m 16 #[.val (.ref ob), .val (.int p1), .val (.int bk), .val (.int ab)] [(.int ab)])
      refine own_step (fun _ k => XS.iloadN X.here hx rfl (hb hby d9_16) rfl k) ?_
      show own_Go p e below P T (mkF m 17 #[.val (.ref ob), .val (.int p1), .val (.int bk), .val (.int ab)] [(.int p1), (.int ab)])
      by_cases hc5 : p1 < ab
      · refine own_step (fun _ k => XS.icmpYes X.here hx rfl (pc0 := 17) (pc' := 35) rfl (hb hby d9_17) rfl (tlt hc5).2.2.1 (by decide) (by decide) k) ?_
        show own_Go p e below P T (mkF m 35 #[.val (.ref ob), .val (.int p1), .val (.int bk), .val (.int ab)] [])
        have hres : bk = rr := by rw [own_whit hwk hc5, ← hbi]; exact (back32 hb0).1.symm
        refine own_step (fun _ k => XS.iloadN X.here hx rfl (hb hby d9_35) rfl k) ?_
        show own_Go p e below P T (mkF m 36 #[.val (.ref ob), .val (.int p1), .val (.int bk), .val (.int ab)] [(.int bk)])
        obtain ⟨fs, hr, hrun, hended, hW, hsame⟩ := X.leave (v := some (.int bk)) (fun h => by rw [Bd.returns] at h; cases h)
        refine ⟨_, _, retOut X hx (t := .int) Bd.returns rfl (Or.inl ⟨rfl, Or.inl rfl, _, rfl⟩) (hb hby d9_36) hr, hrun, hended, hfin _ _ ⟨_, _, rfl, ?_, ⟨_, rfl⟩, hW, hsame.mono (by decide) (by decide)⟩⟩
        show Q9 Z ob p1 ar kc zz cs xl rr h0 n0 (some (.int bk)) T.heap _
        rw [eT]
        exact ⟨congrArg (fun z => some (Value.int z)) hres, N0, rfl⟩
      · refine own_step (fun _ k => XS.icmpNo X.here hx rfl (hb hby d9_17) rfl (flt hc5).2.2.1 k) ?_
        show own_Go p e below P T (mkF m 20 #[.val (.ref ob), .val (.int p1), .val (.int bk), .val (.int ab)] [])
        exact (own_wz hwk hc5).elim
    | succ i ih =>
      intro T bk ab X eT hbi hb0 hb1 hwk
      show own_Go p e below P T (mkF m 15 #[.val (.ref ob), .val (.int p1), .val (.int bk), .val (.int ab)] [])
      refine own_step (fun _ k => XS.iloadN X.here hx rfl (hb hby d9_15) rfl k) ?_
      show own_Go p e below P T (mkF m 16 #[.val (.ref ob), .val (.int p1), .val (.int bk), .val (.int ab)] [(.int ab)])
      refine own_step (fun _ k => XS.iloadN X.here hx rfl (hb hby d9_16) rfl k) ?_
      show own_Go p e below P T (mkF m 17 #[.val (.ref ob), .val (.int p1), .val (.int bk), .val (.int ab)] [(.int p1), (.int ab)])
      by_cases hc7 : p1 < ab
      · refine own_step (fun _ k => XS.icmpYes X.here hx rfl (pc0 := 17) (pc' := 35) rfl (hb hby d9_17) rfl (tlt hc7).2.2.1 (by decide) (by decide) k) ?_
        show own_Go p e below P T (mkF m 35 #[.val (.ref ob), .val (.int p1), .val (.int bk), .val (.int ab)] [])
        have hres : bk = rr := by rw [own_whit hwk hc7, ← hbi]; exact (back32 hb0).1.symm
        refine own_step (fun _ k => XS.iloadN X.here hx rfl (hb hby d9_35) rfl k) ?_
        show own_Go p e below P T (mkF m 36 #[.val (.ref ob), .val (.int p1), .val (.int bk), .val (.int ab)] [(.int bk)])
        obtain ⟨fs, hr, hrun, hended, hW, hsame⟩ := X.leave (v := some (.int bk)) (fun h => by rw [Bd.returns] at h; cases h)
        refine ⟨_, _, retOut X hx (t := .int) Bd.returns rfl (Or.inl ⟨rfl, Or.inl rfl, _, rfl⟩) (hb hby d9_36) hr, hrun, hended, hfin _ _ ⟨_, _, rfl, ?_, ⟨_, rfl⟩, hW, hsame.mono (by decide) (by decide)⟩⟩
        show Q9 Z ob p1 ar kc zz cs xl rr h0 n0 (some (.int bk)) T.heap _
        rw [eT]
        exact ⟨congrArg (fun z => some (Value.int z)) hres, N0, rfl⟩
      · refine own_step (fun _ k => XS.icmpNo X.here hx rfl (hb hby d9_17) rfl (flt hc7).2.2.1 k) ?_
        show own_Go p e below P T (mkF m 20 #[.val (.ref ob), .val (.int p1), .val (.int bk), .val (.int ab)] [])
        refine own_step (fun _ k => XS.iloadN X.here hx rfl (hb hby d9_20) rfl k) ?_
        show own_Go p e below P T (mkF m 21 #[.val (.ref ob), .val (.int p1), .val (.int bk), .val (.int ab)] [(.int ab)])
        refine own_step (fun _ k => XS.aloadN X.here hx rfl (hb hby d9_21) rfl rfl k) ?_
        show own_Go p e below P T (mkF m 22 #[.val (.ref ob), .val (.int p1), .val (.int bk), .val (.int ab)] [(.ref ob), (.int ab)])
        obtain ⟨T9, X9, e9, st9⟩ := getF X hx hZ hown (host := "") (Or.inl (hw _ (List.mem_of_getElem? (i := 30) rfl))) Via.refl eT F_counts_ob (g := (mkF m 22 #[.val (.ref ob), .val (.int p1), .val (.int bk), .val (.int ab)] [(.ref ob), (.int ab)])) rfl rfl (hb hby d9_22)
        refine own_step st9 ?_
        show own_Go p e below P T9 (mkF m 25 #[.val (.ref ob), .val (.int p1), .val (.int bk), .val (.int ab)] [(.ref ar), (.int ab)])
        refine own_step (fun _ k => XS.iinc X9.here hx rfl (hb hby d9_25) rfl (l' := #[.val (.ref ob), .val (.int p1), .val (.int (bk + (-1 : Int32))), .val (.int ab)]) rfl k) ?_
        show own_Go p e below P T9 (mkF m 28 #[.val (.ref ob), .val (.int p1), .val (.int (bk + (-1 : Int32))), .val (.int ab)] [(.ref ar), (.int ab)])
        have hd0 := own_dn hb0 hb1 hbi
        refine own_step (fun _ k => XS.iloadN X9.here hx rfl (hb hby d9_28) rfl k) ?_
        show own_Go p e below P T9 (mkF m 29 #[.val (.ref ob), .val (.int p1), .val (.int (bk + (-1 : Int32))), .val (.int ab)] [(.int (bk + (-1 : Int32))), (.ref ar), (.int ab)])
        obtain ⟨cl10, Ar10, -, S10, M10, H10, -⟩ := (id V_ar)
        have hin10 : ¬ ((bk + (-1 : Int32)) < 0 ∨ cl10.slots.size ≤ ((bk + (-1 : Int32))).toNatClampNeg) := inb_of S10 ⟨hd0.1, hd0.2.1⟩
        refine own_step (fun t k => X9.iaload hx (j := (bk + (-1 : Int32))) (v := (.int (cs.getD ((bk + (-1 : Int32))).toNatClampNeg 0))) (by rw [e9]; exact Ar10.1) (State.isArrayOf_alike hZ.alike Ar10.2.1) Ar10.2.2 hin10 (Has.at H10 hin10 (own_gd cs _)) (g := (mkF m 29 #[.val (.ref ob), .val (.int p1), .val (.int (bk + (-1 : Int32))), .val (.int ab)] [(.int (bk + (-1 : Int32))), (.ref ar), (.int ab)])) rfl rfl (hb hby d9_29) t k) ?_
        show own_Go p e below P T9 (mkF m 30 #[.val (.ref ob), .val (.int p1), .val (.int (bk + (-1 : Int32))), .val (.int ab)] [(.int (cs.getD ((bk + (-1 : Int32))).toNatClampNeg 0)), (.int ab)])
        refine own_step (fun _ k => XS.iadd X9.here hx rfl (hb hby d9_30) rfl k) ?_
        show own_Go p e below P T9 (mkF m 31 #[.val (.ref ob), .val (.int p1), .val (.int (bk + (-1 : Int32))), .val (.int ab)] [(.int (ab + (cs.getD ((bk + (-1 : Int32))).toNatClampNeg 0)))])
        refine own_step (fun _ k => XS.istoreN X9.here hx rfl (hb hby d9_31) rfl (l' := #[.val (.ref ob), .val (.int p1), .val (.int (bk + (-1 : Int32))), .val (.int (ab + (cs.getD ((bk + (-1 : Int32))).toNatClampNeg 0)))]) rfl k) ?_
        show own_Go p e below P T9 (mkF m 32 #[.val (.ref ob), .val (.int p1), .val (.int (bk + (-1 : Int32))), .val (.int (ab + (cs.getD ((bk + (-1 : Int32))).toNatClampNeg 0)))] [])
        refine own_step (fun _ k => XS.goto X9.here hx rfl (pc0 := 32) (pc' := 15) rfl (hb hby d9_32) (by decide) (by decide) k) ?_
        show own_Go p e below P T9 (mkF m 15 #[.val (.ref ob), .val (.int p1), .val (.int (bk + (-1 : Int32))), .val (.int (ab + (cs.getD ((bk + (-1 : Int32))).toNatClampNeg 0)))] [])
        have hd := own_dn hb0 hb1 hbi
        exact ih _ _ _ X9 e9 hd.2.2 hd.1 hd.2.1 (by rw [hd.2.2]; exact own_ws hwk hc7)
  exact loop _ _ _ _ X3 e3 hz.2.2 hz.1 hz.2.1 (by rw [hz.2.2]; exact hbat)
theorem own_pl1 (p : Int32) : ((p.toUInt32 >>> ((8 : Int32) &&& 31).toUInt32).toInt32) % (1 : Int32) = 0 := by
  have h := c_iushr p 8 8 rfl (by decide)
  have h2 := (c_iremV ((p.toUInt32 >>> ((8 : Int32) &&& 31).toUInt32).toInt32) 1).1 (by rw [h]; exact Int.ediv_nonneg (Int.emod_nonneg _ (by decide)) (by decide)) (by decide)
  rw [← Int32.toInt_inj]
  have e : (1 : Int32).toInt = 1 := rfl
  have e0 : (0 : Int32).toInt = 0 := rfl
  omega
theorem own_pln (p n : Int32) {N : Nat} (hn : n.toInt = N) (h0 : 0 < N) : ∃ i : Fin N, ((p.toUInt32 >>> ((8 : Int32) &&& 31).toUInt32).toInt32) % n = Int32.ofInt (i.1 : Int) := by
  have h := c_iushr p 8 8 rfl (by decide)
  have h2 := (c_iremV ((p.toUInt32 >>> ((8 : Int32) &&& 31).toUInt32).toInt32) n).1 (by rw [h]; exact Int.ediv_nonneg (Int.emod_nonneg _ (by decide)) (by decide)) (by omega)
  generalize ((p.toUInt32 >>> ((8 : Int32) &&& 31).toUInt32).toInt32) % n = z at *
  refine ⟨⟨z.toInt.toNat, by omega⟩, ?_⟩
  show z = Int32.ofInt ((z.toInt.toNat : Nat) : Int)
  rw [Int.toNat_of_nonneg h2.1, Int32.ofInt_toInt]
theorem own_plf : ∀ (N : Nat) (i : Fin N), N ≤ 3 → ¬ (Int32.ofInt (i.1 : Int)) < 0 ∧ (Int32.ofInt (i.1 : Int)) < 3 ∧ (Int32.ofInt (i.1 : Int)).toNatClampNeg < 3 := by
  intro N i h
  have : ∀ j : Fin 3, ¬ (Int32.ofInt (j.1 : Int)) < 0 ∧ (Int32.ofInt (j.1 : Int)) < 3 ∧ (Int32.ofInt (j.1 : Int)).toNatClampNeg < 3 := by decide +kernel
  exact this ⟨i.1, by omega⟩
theorem own_l0 {k : Int32} (h : 1 ≤ k.toInt ∧ k.toInt ≤ 4) : (List.replicate (k.toNatClampNeg + 1) (0 : Int32)).length = (k + (1 : Int32)).toNatClampNeg := by rw [List.length_replicate, (own_bb h).2.2.2]
theorem ef_0 (m : MethodId) (x0 : Int32) (x1 : Int32) (x2 : Int32) (x3 : Int32) : entryFrame m #[(.int x0), (.int x1), (.int x2), (.int x3)] maxLocals = mkF m 0 #[.val (.int x0), .val (.int x1), .val (.int x2), .val (.int x3), .unset, .unset, .unset, .unset, .unset, .unset, .unset, .unset, .unset, .unset, .unset] [] := by first | (simp [entryFrame, mkF, argsToLocals, Value.category, maxLocals]; done) | rfl
theorem pd__DDI__V : parseMethodDescriptor "(DDI)V" = some ⟨[.double, .double, .int], none⟩ := by decide +kernel
theorem pd__D__V : parseMethodDescriptor "(D)V" = some ⟨[.double], none⟩ := by decide +kernel
theorem pd__I__I : parseMethodDescriptor "(I)I" = some ⟨[.int], some .int⟩ := by decide +kernel
def Q0 (Z : State) (p0 : Int32) (p1 : Int32) (p2 : Int32) (p3 : Int32) (h0 : Heap) (n0 : Nat) (v : Option Value) (h : Heap) (L : List Loc) : Prop := v = some (.int 1) ∧ Fr n0 L
set_option maxRecDepth 65536 in
set_option maxHeartbeats 40000000 in
theorem rm0 (l : Launch) (Z : State) (a0 : Array Value) (hw : ∀ d ∈ tables_1, d.before a0 Z = true) (ws : List Jvm.Cond) (p0 : Int32) (p1 : Int32) (p2 : Int32) (p3 : Int32) (h0 : Heap) (n0 : Nat) (Z0 : n0 ≤ h0.size) :
    MetFree l x (head1 (Jvm.Cond.code x code maxLocals ret :: ws) room_1) (fun a U => a = #[(.int p0), (.int p1), (.int p2), (.int p3)] ∧ Z.Warmed39 U.vm ∧ U.heap = h0) (fun _ _ _ _ _ => True) (fun _ U o U' => ∃ v L, o = .returned v ∧ Q0 Z p0 p1 p2 p3 h0 n0 v U'.heap L ∧ FrameEnd U o U' L room_1.cells room_1.slots) := by
  refine MetFree.of_bodySF (plainFor_of_name pn_com_example_bron_bron_trec_ScoreHistogramBucketAtPinLaw) hisR ?_
  intro p e s m args below meth c s₁ Bd hml0 hP hK
  obtain ⟨rfl, hZ, hh⟩ := hP
  have hx := Bd.exec
  have hby := Bd.bytes
  have hml : c.maxLocals = 15 := hml0
  have hown : s.vm.findClass "com/example/bron/bron/trec/ScoreHistogramBucketAtPinLaw" = some m.cls := findClass_of_methodNamed Bd.named
  have hnm := (name_of_methodNamed Bd.named Bd.method).1
  have X0 : Stand p l e room_1 s m #[(.int p0), (.int p1), (.int p2), (.int p3)] below meth c s₁ [] 0 0 := Stand.of_body Bd
  have e0 : s₁.heap = h0 := by rw [← hh, Bd.state]; rfl
  have N0 := Fr.nil n0
  refine own_all ?_
  intro P hfin
  refine own_cast (ef_0 m p0 p1 p2 p3) ?_
  show own_Go p e below P s₁ (mkF m 0 #[.val (.int p0), .val (.int p1), .val (.int p2), .val (.int p3), .unset, .unset, .unset, .unset, .unset, .unset, .unset, .unset, .unset, .unset, .unset] [])
  refine own_step (fun _ k => XS.iconst X0.here hx rfl (hb hby at_0) k) ?_
  show own_Go p e below P s₁ (mkF m 1 #[.val (.int p0), .val (.int p1), .val (.int p2), .val (.int p3), .unset, .unset, .unset, .unset, .unset, .unset, .unset, .unset, .unset, .unset, .unset] [(.int (1 : Int32))])
  refine own_step (fun _ k => XS.iloadN X0.here hx rfl (hb hby at_1) rfl k) ?_
  show own_Go p e below P s₁ (mkF m 2 #[.val (.int p0), .val (.int p1), .val (.int p2), .val (.int p3), .unset, .unset, .unset, .unset, .unset, .unset, .unset, .unset, .unset, .unset, .unset] [(.int p0), (.int (1 : Int32))])
  refine own_step (fun _ k => XS.iconst X0.here hx rfl (hb hby at_2) k) ?_
  show own_Go p e below P s₁ (mkF m 3 #[.val (.int p0), .val (.int p1), .val (.int p2), .val (.int p3), .unset, .unset, .unset, .unset, .unset, .unset, .unset, .unset, .unset, .unset, .unset] [(.int (3 : Int32)), (.int p0), (.int (1 : Int32))])
  refine own_step (fun _ k => XS.iand X0.here hx rfl (hb hby at_3) rfl k) ?_
  show own_Go p e below P s₁ (mkF m 4 #[.val (.int p0), .val (.int p1), .val (.int p2), .val (.int p3), .unset, .unset, .unset, .unset, .unset, .unset, .unset, .unset, .unset, .unset, .unset] [(.int (p0 &&& (3 : Int32))), (.int (1 : Int32))])
  refine own_step (fun _ k => XS.iadd X0.here hx rfl (hb hby at_4) rfl k) ?_
  show own_Go p e below P s₁ (mkF m 5 #[.val (.int p0), .val (.int p1), .val (.int p2), .val (.int p3), .unset, .unset, .unset, .unset, .unset, .unset, .unset, .unset, .unset, .unset, .unset] [(.int ((1 : Int32) + (p0 &&& (3 : Int32))))])
  refine own_step (fun _ k => XS.istore X0.here hx rfl (hb hby at_5) rfl (l' := #[.val (.int p0), .val (.int p1), .val (.int p2), .val (.int p3), .val (.int ((1 : Int32) + (p0 &&& (3 : Int32)))), .unset, .unset, .unset, .unset, .unset, .unset, .unset, .unset, .unset, .unset]) rfl k) ?_
  show own_Go p e below P s₁ (mkF m 7 #[.val (.int p0), .val (.int p1), .val (.int p2), .val (.int p3), .val (.int ((1 : Int32) + (p0 &&& (3 : Int32)))), .unset, .unset, .unset, .unset, .unset, .unset, .unset, .unset, .unset, .unset] [])
  refine own_step (fun _ k => XS.iloadN X0.here hx rfl (hb hby at_7) rfl k) ?_
  show own_Go p e below P s₁ (mkF m 8 #[.val (.int p0), .val (.int p1), .val (.int p2), .val (.int p3), .val (.int ((1 : Int32) + (p0 &&& (3 : Int32)))), .unset, .unset, .unset, .unset, .unset, .unset, .unset, .unset, .unset, .unset] [(.int p1)])
  refine own_step (fun _ k => XS.sipush X0.here hx rfl (hb hby at_8) k) ?_
  show own_Go p e below P s₁ (mkF m 11 #[.val (.int p0), .val (.int p1), .val (.int p2), .val (.int p3), .val (.int ((1 : Int32) + (p0 &&& (3 : Int32)))), .unset, .unset, .unset, .unset, .unset, .unset, .unset, .unset, .unset, .unset] [(.int (1000 : Int32)), (.int p1)])
  refine own_step (fun _ k => iremM X0 hx rfl (hb hby at_11) rfl (by decide : ¬ ((1000 : Int32) = (0 : Int32))) k) ?_
  show own_Go p e below P s₁ (mkF m 12 #[.val (.int p0), .val (.int p1), .val (.int p2), .val (.int p3), .val (.int ((1 : Int32) + (p0 &&& (3 : Int32)))), .unset, .unset, .unset, .unset, .unset, .unset, .unset, .unset, .unset, .unset] [(.int (p1 % (1000 : Int32)))])
  refine own_step (fun _ k => XS.istore X0.here hx rfl (hb hby at_12) rfl (l' := #[.val (.int p0), .val (.int p1), .val (.int p2), .val (.int p3), .val (.int ((1 : Int32) + (p0 &&& (3 : Int32)))), .val (.int (p1 % (1000 : Int32))), .unset, .unset, .unset, .unset, .unset, .unset, .unset, .unset, .unset]) rfl k) ?_
  show own_Go p e below P s₁ (mkF m 14 #[.val (.int p0), .val (.int p1), .val (.int p2), .val (.int p3), .val (.int ((1 : Int32) + (p0 &&& (3 : Int32)))), .val (.int (p1 % (1000 : Int32))), .unset, .unset, .unset, .unset, .unset, .unset, .unset, .unset, .unset] [])
  refine own_step (fun _ k => XS.iconst X0.here hx rfl (hb hby at_14) k) ?_
  show own_Go p e below P s₁ (mkF m 15 #[.val (.int p0), .val (.int p1), .val (.int p2), .val (.int p3), .val (.int ((1 : Int32) + (p0 &&& (3 : Int32)))), .val (.int (p1 % (1000 : Int32))), .unset, .unset, .unset, .unset, .unset, .unset, .unset, .unset, .unset] [(.int (1 : Int32))])
  refine own_step (fun _ k => XS.iloadN X0.here hx rfl (hb hby at_15) rfl k) ?_
  show own_Go p e below P s₁ (mkF m 16 #[.val (.int p0), .val (.int p1), .val (.int p2), .val (.int p3), .val (.int ((1 : Int32) + (p0 &&& (3 : Int32)))), .val (.int (p1 % (1000 : Int32))), .unset, .unset, .unset, .unset, .unset, .unset, .unset, .unset, .unset] [(.int p2), (.int (1 : Int32))])
  refine own_step (fun t k => X0.ldcInt hx hown (mvT hZ (hw _ (List.mem_of_getElem? (i := 0) rfl))) (g := (mkF m 16 #[.val (.int p0), .val (.int p1), .val (.int p2), .val (.int p3), .val (.int ((1 : Int32) + (p0 &&& (3 : Int32)))), .val (.int (p1 % (1000 : Int32))), .unset, .unset, .unset, .unset, .unset, .unset, .unset, .unset, .unset] [(.int p2), (.int (1 : Int32))])) rfl (hb hby at_16) t k) ?_
  show own_Go p e below P s₁ (mkF m 18 #[.val (.int p0), .val (.int p1), .val (.int p2), .val (.int p3), .val (.int ((1 : Int32) + (p0 &&& (3 : Int32)))), .val (.int (p1 % (1000 : Int32))), .unset, .unset, .unset, .unset, .unset, .unset, .unset, .unset, .unset] [(.int (2147483647 : Int32)), (.int p2), (.int (1 : Int32))])
  refine own_step (fun _ k => XS.iand X0.here hx rfl (hb hby at_18) rfl k) ?_
  show own_Go p e below P s₁ (mkF m 19 #[.val (.int p0), .val (.int p1), .val (.int p2), .val (.int p3), .val (.int ((1 : Int32) + (p0 &&& (3 : Int32)))), .val (.int (p1 % (1000 : Int32))), .unset, .unset, .unset, .unset, .unset, .unset, .unset, .unset, .unset] [(.int (p2 &&& (2147483647 : Int32))), (.int (1 : Int32))])
  refine own_step (fun _ k => XS.iconst X0.here hx rfl (hb hby at_19) k) ?_
  show own_Go p e below P s₁ (mkF m 20 #[.val (.int p0), .val (.int p1), .val (.int p2), .val (.int p3), .val (.int ((1 : Int32) + (p0 &&& (3 : Int32)))), .val (.int (p1 % (1000 : Int32))), .unset, .unset, .unset, .unset, .unset, .unset, .unset, .unset, .unset] [(.int (3 : Int32)), (.int (p2 &&& (2147483647 : Int32))), (.int (1 : Int32))])
  refine own_step (fun _ k => iremM X0 hx rfl (hb hby at_20) rfl (by decide : ¬ ((3 : Int32) = (0 : Int32))) k) ?_
  show own_Go p e below P s₁ (mkF m 21 #[.val (.int p0), .val (.int p1), .val (.int p2), .val (.int p3), .val (.int ((1 : Int32) + (p0 &&& (3 : Int32)))), .val (.int (p1 % (1000 : Int32))), .unset, .unset, .unset, .unset, .unset, .unset, .unset, .unset, .unset] [(.int ((p2 &&& (2147483647 : Int32)) % (3 : Int32))), (.int (1 : Int32))])
  refine own_step (fun _ k => XS.iadd X0.here hx rfl (hb hby at_21) rfl k) ?_
  show own_Go p e below P s₁ (mkF m 22 #[.val (.int p0), .val (.int p1), .val (.int p2), .val (.int p3), .val (.int ((1 : Int32) + (p0 &&& (3 : Int32)))), .val (.int (p1 % (1000 : Int32))), .unset, .unset, .unset, .unset, .unset, .unset, .unset, .unset, .unset] [(.int ((1 : Int32) + ((p2 &&& (2147483647 : Int32)) % (3 : Int32))))])
  refine own_step (fun _ k => XS.istore X0.here hx rfl (hb hby at_22) rfl (l' := #[.val (.int p0), .val (.int p1), .val (.int p2), .val (.int p3), .val (.int ((1 : Int32) + (p0 &&& (3 : Int32)))), .val (.int (p1 % (1000 : Int32))), .val (.int ((1 : Int32) + ((p2 &&& (2147483647 : Int32)) % (3 : Int32)))), .unset, .unset, .unset, .unset, .unset, .unset, .unset, .unset]) rfl k) ?_
  show own_Go p e below P s₁ (mkF m 24 #[.val (.int p0), .val (.int p1), .val (.int p2), .val (.int p3), .val (.int ((1 : Int32) + (p0 &&& (3 : Int32)))), .val (.int (p1 % (1000 : Int32))), .val (.int ((1 : Int32) + ((p2 &&& (2147483647 : Int32)) % (3 : Int32)))), .unset, .unset, .unset, .unset, .unset, .unset, .unset, .unset] [])
  obtain ⟨kk, hkk, hK⟩ : ∃ z : Int32, ((1 : Int32) + (p0 &&& (3 : Int32))) = z ∧ own_isK z := ⟨_, rfl, own_k p0⟩
  rw [hkk]
  obtain ⟨oo, hoo, hO⟩ : ∃ z : Int32, (p1 % (1000 : Int32)) = z ∧ (-1000 < z.toInt ∧ z.toInt < 1000) := ⟨_, rfl, own_o p1⟩
  rw [hoo]
  obtain ⟨nn, hnn0, hnn⟩ : ∃ z : Int32, ((1 : Int32) + ((p2 &&& (2147483647 : Int32)) % (3 : Int32))) = z ∧ (z = 1 ∨ z = 2 ∨ z = 3) := ⟨_, rfl, own_n p2⟩
  rw [hnn0]
  clear hnn0
  rcases hnn with rfl | rfl | rfl
  · show own_Go p e below P s₁ (mkF m 24 #[.val (.int p0), .val (.int p1), .val (.int p2), .val (.int p3), .val (.int kk), .val (.int oo), .val (.int (1 : Int32)), .unset, .unset, .unset, .unset, .unset, .unset, .unset, .unset] [])
    refine own_step (fun _ k => XS.iloadN X0.here hx rfl (hb hby at_24) rfl k) ?_
    show own_Go p e below P s₁ (mkF m 25 #[.val (.int p0), .val (.int p1), .val (.int p2), .val (.int p3), .val (.int kk), .val (.int oo), .val (.int (1 : Int32)), .unset, .unset, .unset, .unset, .unset, .unset, .unset, .unset] [(.int p2)])
    refine own_step (fun _ k => XS.bipush X0.here hx rfl (hb hby at_25) k) ?_
    show own_Go p e below P s₁ (mkF m 27 #[.val (.int p0), .val (.int p1), .val (.int p2), .val (.int p3), .val (.int kk), .val (.int oo), .val (.int (1 : Int32)), .unset, .unset, .unset, .unset, .unset, .unset, .unset, .unset] [(.int (8 : Int32)), (.int p2)])
    refine own_step (fun _ k => XS.iushr X0.here hx rfl (hb hby at_27) rfl k) ?_
    show own_Go p e below P s₁ (mkF m 28 #[.val (.int p0), .val (.int p1), .val (.int p2), .val (.int p3), .val (.int kk), .val (.int oo), .val (.int (1 : Int32)), .unset, .unset, .unset, .unset, .unset, .unset, .unset, .unset] [(.int ((p2.toUInt32 >>> ((8 : Int32) &&& 31).toUInt32).toInt32))])
    refine own_step (fun _ k => XS.iload X0.here hx rfl (hb hby at_28) rfl k) ?_
    show own_Go p e below P s₁ (mkF m 30 #[.val (.int p0), .val (.int p1), .val (.int p2), .val (.int p3), .val (.int kk), .val (.int oo), .val (.int (1 : Int32)), .unset, .unset, .unset, .unset, .unset, .unset, .unset, .unset] [(.int (1 : Int32)), (.int ((p2.toUInt32 >>> ((8 : Int32) &&& 31).toUInt32).toInt32))])
    refine own_step (fun _ k => iremM X0 hx rfl (hb hby at_30) rfl (by decide : ¬ ((1 : Int32) = (0 : Int32))) k) ?_
    show own_Go p e below P s₁ (mkF m 31 #[.val (.int p0), .val (.int p1), .val (.int p2), .val (.int p3), .val (.int kk), .val (.int oo), .val (.int (1 : Int32)), .unset, .unset, .unset, .unset, .unset, .unset, .unset, .unset] [(.int (((p2.toUInt32 >>> ((8 : Int32) &&& 31).toUInt32).toInt32) % (1 : Int32)))])
    refine own_step (fun _ k => XS.istore X0.here hx rfl (hb hby at_31) rfl (l' := #[.val (.int p0), .val (.int p1), .val (.int p2), .val (.int p3), .val (.int kk), .val (.int oo), .val (.int (1 : Int32)), .val (.int (((p2.toUInt32 >>> ((8 : Int32) &&& 31).toUInt32).toInt32) % (1 : Int32))), .unset, .unset, .unset, .unset, .unset, .unset, .unset]) rfl k) ?_
    show own_Go p e below P s₁ (mkF m 33 #[.val (.int p0), .val (.int p1), .val (.int p2), .val (.int p3), .val (.int kk), .val (.int oo), .val (.int (1 : Int32)), .val (.int (((p2.toUInt32 >>> ((8 : Int32) &&& 31).toUInt32).toInt32) % (1 : Int32))), .unset, .unset, .unset, .unset, .unset, .unset, .unset] [])
    refine own_step (fun _ k => XS.iloadN X0.here hx rfl (hb hby at_33) rfl k) ?_
    show own_Go p e below P s₁ (mkF m 34 #[.val (.int p0), .val (.int p1), .val (.int p2), .val (.int p3), .val (.int kk), .val (.int oo), .val (.int (1 : Int32)), .val (.int (((p2.toUInt32 >>> ((8 : Int32) &&& 31).toUInt32).toInt32) % (1 : Int32))), .unset, .unset, .unset, .unset, .unset, .unset, .unset] [(.int p3)])
    refine own_step (fun _ k => XS.bipush X0.here hx rfl (hb hby at_34) k) ?_
    show own_Go p e below P s₁ (mkF m 36 #[.val (.int p0), .val (.int p1), .val (.int p2), .val (.int p3), .val (.int kk), .val (.int oo), .val (.int (1 : Int32)), .val (.int (((p2.toUInt32 >>> ((8 : Int32) &&& 31).toUInt32).toInt32) % (1 : Int32))), .unset, .unset, .unset, .unset, .unset, .unset, .unset] [(.int (7 : Int32)), (.int p3)])
    refine own_step (fun _ k => XS.iand X0.here hx rfl (hb hby at_36) rfl k) ?_
    show own_Go p e below P s₁ (mkF m 37 #[.val (.int p0), .val (.int p1), .val (.int p2), .val (.int p3), .val (.int kk), .val (.int oo), .val (.int (1 : Int32)), .val (.int (((p2.toUInt32 >>> ((8 : Int32) &&& 31).toUInt32).toInt32) % (1 : Int32))), .unset, .unset, .unset, .unset, .unset, .unset, .unset] [(.int (p3 &&& (7 : Int32)))])
    refine own_step (fun _ k => XS.iconst X0.here hx rfl (hb hby at_37) k) ?_
    show own_Go p e below P s₁ (mkF m 38 #[.val (.int p0), .val (.int p1), .val (.int p2), .val (.int p3), .val (.int kk), .val (.int oo), .val (.int (1 : Int32)), .val (.int (((p2.toUInt32 >>> ((8 : Int32) &&& 31).toUInt32).toInt32) % (1 : Int32))), .unset, .unset, .unset, .unset, .unset, .unset, .unset] [(.int (1 : Int32)), (.int (p3 &&& (7 : Int32)))])
    refine own_step (fun _ k => XS.isub X0.here hx rfl (hb hby at_38) rfl k) ?_
    show own_Go p e below P s₁ (mkF m 39 #[.val (.int p0), .val (.int p1), .val (.int p2), .val (.int p3), .val (.int kk), .val (.int oo), .val (.int (1 : Int32)), .val (.int (((p2.toUInt32 >>> ((8 : Int32) &&& 31).toUInt32).toInt32) % (1 : Int32))), .unset, .unset, .unset, .unset, .unset, .unset, .unset] [(.int ((p3 &&& (7 : Int32)) - (1 : Int32)))])
    refine own_step (fun _ k => XS.istore X0.here hx rfl (hb hby at_39) rfl (l' := #[.val (.int p0), .val (.int p1), .val (.int p2), .val (.int p3), .val (.int kk), .val (.int oo), .val (.int (1 : Int32)), .val (.int (((p2.toUInt32 >>> ((8 : Int32) &&& 31).toUInt32).toInt32) % (1 : Int32))), .val (.int ((p3 &&& (7 : Int32)) - (1 : Int32))), .unset, .unset, .unset, .unset, .unset, .unset]) rfl k) ?_
    show own_Go p e below P s₁ (mkF m 41 #[.val (.int p0), .val (.int p1), .val (.int p2), .val (.int p3), .val (.int kk), .val (.int oo), .val (.int (1 : Int32)), .val (.int (((p2.toUInt32 >>> ((8 : Int32) &&& 31).toUInt32).toInt32) % (1 : Int32))), .val (.int ((p3 &&& (7 : Int32)) - (1 : Int32))), .unset, .unset, .unset, .unset, .unset, .unset] [])
    refine own_step (fun _ k => XS.iloadN X0.here hx rfl (hb hby at_41) rfl k) ?_
    show own_Go p e below P s₁ (mkF m 42 #[.val (.int p0), .val (.int p1), .val (.int p2), .val (.int p3), .val (.int kk), .val (.int oo), .val (.int (1 : Int32)), .val (.int (((p2.toUInt32 >>> ((8 : Int32) &&& 31).toUInt32).toInt32) % (1 : Int32))), .val (.int ((p3 &&& (7 : Int32)) - (1 : Int32))), .unset, .unset, .unset, .unset, .unset, .unset] [(.int p3)])
    refine own_step (fun _ k => XS.iconst X0.here hx rfl (hb hby at_42) k) ?_
    show own_Go p e below P s₁ (mkF m 43 #[.val (.int p0), .val (.int p1), .val (.int p2), .val (.int p3), .val (.int kk), .val (.int oo), .val (.int (1 : Int32)), .val (.int (((p2.toUInt32 >>> ((8 : Int32) &&& 31).toUInt32).toInt32) % (1 : Int32))), .val (.int ((p3 &&& (7 : Int32)) - (1 : Int32))), .unset, .unset, .unset, .unset, .unset, .unset] [(.int (3 : Int32)), (.int p3)])
    refine own_step (fun _ k => XS.iushr X0.here hx rfl (hb hby at_43) rfl k) ?_
    show own_Go p e below P s₁ (mkF m 44 #[.val (.int p0), .val (.int p1), .val (.int p2), .val (.int p3), .val (.int kk), .val (.int oo), .val (.int (1 : Int32)), .val (.int (((p2.toUInt32 >>> ((8 : Int32) &&& 31).toUInt32).toInt32) % (1 : Int32))), .val (.int ((p3 &&& (7 : Int32)) - (1 : Int32))), .unset, .unset, .unset, .unset, .unset, .unset] [(.int ((p3.toUInt32 >>> ((3 : Int32) &&& 31).toUInt32).toInt32))])
    refine own_step (fun _ k => XS.bipush X0.here hx rfl (hb hby at_44) k) ?_
    show own_Go p e below P s₁ (mkF m 46 #[.val (.int p0), .val (.int p1), .val (.int p2), .val (.int p3), .val (.int kk), .val (.int oo), .val (.int (1 : Int32)), .val (.int (((p2.toUInt32 >>> ((8 : Int32) &&& 31).toUInt32).toInt32) % (1 : Int32))), .val (.int ((p3 &&& (7 : Int32)) - (1 : Int32))), .unset, .unset, .unset, .unset, .unset, .unset] [(.int (7 : Int32)), (.int ((p3.toUInt32 >>> ((3 : Int32) &&& 31).toUInt32).toInt32))])
    refine own_step (fun _ k => XS.iand X0.here hx rfl (hb hby at_46) rfl k) ?_
    show own_Go p e below P s₁ (mkF m 47 #[.val (.int p0), .val (.int p1), .val (.int p2), .val (.int p3), .val (.int kk), .val (.int oo), .val (.int (1 : Int32)), .val (.int (((p2.toUInt32 >>> ((8 : Int32) &&& 31).toUInt32).toInt32) % (1 : Int32))), .val (.int ((p3 &&& (7 : Int32)) - (1 : Int32))), .unset, .unset, .unset, .unset, .unset, .unset] [(.int (((p3.toUInt32 >>> ((3 : Int32) &&& 31).toUInt32).toInt32) &&& (7 : Int32)))])
    refine own_step (fun _ k => XS.iconst X0.here hx rfl (hb hby at_47) k) ?_
    show own_Go p e below P s₁ (mkF m 48 #[.val (.int p0), .val (.int p1), .val (.int p2), .val (.int p3), .val (.int kk), .val (.int oo), .val (.int (1 : Int32)), .val (.int (((p2.toUInt32 >>> ((8 : Int32) &&& 31).toUInt32).toInt32) % (1 : Int32))), .val (.int ((p3 &&& (7 : Int32)) - (1 : Int32))), .unset, .unset, .unset, .unset, .unset, .unset] [(.int (1 : Int32)), (.int (((p3.toUInt32 >>> ((3 : Int32) &&& 31).toUInt32).toInt32) &&& (7 : Int32)))])
    refine own_step (fun _ k => XS.isub X0.here hx rfl (hb hby at_48) rfl k) ?_
    show own_Go p e below P s₁ (mkF m 49 #[.val (.int p0), .val (.int p1), .val (.int p2), .val (.int p3), .val (.int kk), .val (.int oo), .val (.int (1 : Int32)), .val (.int (((p2.toUInt32 >>> ((8 : Int32) &&& 31).toUInt32).toInt32) % (1 : Int32))), .val (.int ((p3 &&& (7 : Int32)) - (1 : Int32))), .unset, .unset, .unset, .unset, .unset, .unset] [(.int ((((p3.toUInt32 >>> ((3 : Int32) &&& 31).toUInt32).toInt32) &&& (7 : Int32)) - (1 : Int32)))])
    refine own_step (fun _ k => XS.istore X0.here hx rfl (hb hby at_49) rfl (l' := #[.val (.int p0), .val (.int p1), .val (.int p2), .val (.int p3), .val (.int kk), .val (.int oo), .val (.int (1 : Int32)), .val (.int (((p2.toUInt32 >>> ((8 : Int32) &&& 31).toUInt32).toInt32) % (1 : Int32))), .val (.int ((p3 &&& (7 : Int32)) - (1 : Int32))), .val (.int ((((p3.toUInt32 >>> ((3 : Int32) &&& 31).toUInt32).toInt32) &&& (7 : Int32)) - (1 : Int32))), .unset, .unset, .unset, .unset, .unset]) rfl k) ?_
    show own_Go p e below P s₁ (mkF m 51 #[.val (.int p0), .val (.int p1), .val (.int p2), .val (.int p3), .val (.int kk), .val (.int oo), .val (.int (1 : Int32)), .val (.int (((p2.toUInt32 >>> ((8 : Int32) &&& 31).toUInt32).toInt32) % (1 : Int32))), .val (.int ((p3 &&& (7 : Int32)) - (1 : Int32))), .val (.int ((((p3.toUInt32 >>> ((3 : Int32) &&& 31).toUInt32).toInt32) &&& (7 : Int32)) - (1 : Int32))), .unset, .unset, .unset, .unset, .unset] [])
    refine own_step (fun _ k => XS.iloadN X0.here hx rfl (hb hby at_51) rfl k) ?_
    show own_Go p e below P s₁ (mkF m 52 #[.val (.int p0), .val (.int p1), .val (.int p2), .val (.int p3), .val (.int kk), .val (.int oo), .val (.int (1 : Int32)), .val (.int (((p2.toUInt32 >>> ((8 : Int32) &&& 31).toUInt32).toInt32) % (1 : Int32))), .val (.int ((p3 &&& (7 : Int32)) - (1 : Int32))), .val (.int ((((p3.toUInt32 >>> ((3 : Int32) &&& 31).toUInt32).toInt32) &&& (7 : Int32)) - (1 : Int32))), .unset, .unset, .unset, .unset, .unset] [(.int p3)])
    refine own_step (fun _ k => XS.bipush X0.here hx rfl (hb hby at_52) k) ?_
    show own_Go p e below P s₁ (mkF m 54 #[.val (.int p0), .val (.int p1), .val (.int p2), .val (.int p3), .val (.int kk), .val (.int oo), .val (.int (1 : Int32)), .val (.int (((p2.toUInt32 >>> ((8 : Int32) &&& 31).toUInt32).toInt32) % (1 : Int32))), .val (.int ((p3 &&& (7 : Int32)) - (1 : Int32))), .val (.int ((((p3.toUInt32 >>> ((3 : Int32) &&& 31).toUInt32).toInt32) &&& (7 : Int32)) - (1 : Int32))), .unset, .unset, .unset, .unset, .unset] [(.int (6 : Int32)), (.int p3)])
    refine own_step (fun _ k => XS.iushr X0.here hx rfl (hb hby at_54) rfl k) ?_
    show own_Go p e below P s₁ (mkF m 55 #[.val (.int p0), .val (.int p1), .val (.int p2), .val (.int p3), .val (.int kk), .val (.int oo), .val (.int (1 : Int32)), .val (.int (((p2.toUInt32 >>> ((8 : Int32) &&& 31).toUInt32).toInt32) % (1 : Int32))), .val (.int ((p3 &&& (7 : Int32)) - (1 : Int32))), .val (.int ((((p3.toUInt32 >>> ((3 : Int32) &&& 31).toUInt32).toInt32) &&& (7 : Int32)) - (1 : Int32))), .unset, .unset, .unset, .unset, .unset] [(.int ((p3.toUInt32 >>> ((6 : Int32) &&& 31).toUInt32).toInt32))])
    refine own_step (fun _ k => XS.bipush X0.here hx rfl (hb hby at_55) k) ?_
    show own_Go p e below P s₁ (mkF m 57 #[.val (.int p0), .val (.int p1), .val (.int p2), .val (.int p3), .val (.int kk), .val (.int oo), .val (.int (1 : Int32)), .val (.int (((p2.toUInt32 >>> ((8 : Int32) &&& 31).toUInt32).toInt32) % (1 : Int32))), .val (.int ((p3 &&& (7 : Int32)) - (1 : Int32))), .val (.int ((((p3.toUInt32 >>> ((3 : Int32) &&& 31).toUInt32).toInt32) &&& (7 : Int32)) - (1 : Int32))), .unset, .unset, .unset, .unset, .unset] [(.int (7 : Int32)), (.int ((p3.toUInt32 >>> ((6 : Int32) &&& 31).toUInt32).toInt32))])
    refine own_step (fun _ k => XS.iand X0.here hx rfl (hb hby at_57) rfl k) ?_
    show own_Go p e below P s₁ (mkF m 58 #[.val (.int p0), .val (.int p1), .val (.int p2), .val (.int p3), .val (.int kk), .val (.int oo), .val (.int (1 : Int32)), .val (.int (((p2.toUInt32 >>> ((8 : Int32) &&& 31).toUInt32).toInt32) % (1 : Int32))), .val (.int ((p3 &&& (7 : Int32)) - (1 : Int32))), .val (.int ((((p3.toUInt32 >>> ((3 : Int32) &&& 31).toUInt32).toInt32) &&& (7 : Int32)) - (1 : Int32))), .unset, .unset, .unset, .unset, .unset] [(.int (((p3.toUInt32 >>> ((6 : Int32) &&& 31).toUInt32).toInt32) &&& (7 : Int32)))])
    refine own_step (fun _ k => XS.iconst X0.here hx rfl (hb hby at_58) k) ?_
    show own_Go p e below P s₁ (mkF m 59 #[.val (.int p0), .val (.int p1), .val (.int p2), .val (.int p3), .val (.int kk), .val (.int oo), .val (.int (1 : Int32)), .val (.int (((p2.toUInt32 >>> ((8 : Int32) &&& 31).toUInt32).toInt32) % (1 : Int32))), .val (.int ((p3 &&& (7 : Int32)) - (1 : Int32))), .val (.int ((((p3.toUInt32 >>> ((3 : Int32) &&& 31).toUInt32).toInt32) &&& (7 : Int32)) - (1 : Int32))), .unset, .unset, .unset, .unset, .unset] [(.int (1 : Int32)), (.int (((p3.toUInt32 >>> ((6 : Int32) &&& 31).toUInt32).toInt32) &&& (7 : Int32)))])
    refine own_step (fun _ k => XS.isub X0.here hx rfl (hb hby at_59) rfl k) ?_
    show own_Go p e below P s₁ (mkF m 60 #[.val (.int p0), .val (.int p1), .val (.int p2), .val (.int p3), .val (.int kk), .val (.int oo), .val (.int (1 : Int32)), .val (.int (((p2.toUInt32 >>> ((8 : Int32) &&& 31).toUInt32).toInt32) % (1 : Int32))), .val (.int ((p3 &&& (7 : Int32)) - (1 : Int32))), .val (.int ((((p3.toUInt32 >>> ((3 : Int32) &&& 31).toUInt32).toInt32) &&& (7 : Int32)) - (1 : Int32))), .unset, .unset, .unset, .unset, .unset] [(.int ((((p3.toUInt32 >>> ((6 : Int32) &&& 31).toUInt32).toInt32) &&& (7 : Int32)) - (1 : Int32)))])
    refine own_step (fun _ k => XS.istore X0.here hx rfl (hb hby at_60) rfl (l' := #[.val (.int p0), .val (.int p1), .val (.int p2), .val (.int p3), .val (.int kk), .val (.int oo), .val (.int (1 : Int32)), .val (.int (((p2.toUInt32 >>> ((8 : Int32) &&& 31).toUInt32).toInt32) % (1 : Int32))), .val (.int ((p3 &&& (7 : Int32)) - (1 : Int32))), .val (.int ((((p3.toUInt32 >>> ((3 : Int32) &&& 31).toUInt32).toInt32) &&& (7 : Int32)) - (1 : Int32))), .val (.int ((((p3.toUInt32 >>> ((6 : Int32) &&& 31).toUInt32).toInt32) &&& (7 : Int32)) - (1 : Int32))), .unset, .unset, .unset, .unset]) rfl k) ?_
    show own_Go p e below P s₁ (mkF m 62 #[.val (.int p0), .val (.int p1), .val (.int p2), .val (.int p3), .val (.int kk), .val (.int oo), .val (.int (1 : Int32)), .val (.int (((p2.toUInt32 >>> ((8 : Int32) &&& 31).toUInt32).toInt32) % (1 : Int32))), .val (.int ((p3 &&& (7 : Int32)) - (1 : Int32))), .val (.int ((((p3.toUInt32 >>> ((3 : Int32) &&& 31).toUInt32).toInt32) &&& (7 : Int32)) - (1 : Int32))), .val (.int ((((p3.toUInt32 >>> ((6 : Int32) &&& 31).toUInt32).toInt32) &&& (7 : Int32)) - (1 : Int32))), .unset, .unset, .unset, .unset] [])
    obtain ⟨pl, hpl, pi, hpi⟩ : ∃ z : Int32, (((p2.toUInt32 >>> ((8 : Int32) &&& 31).toUInt32).toInt32) % (1 : Int32)) = z ∧ ∃ i : Fin 1, z = Int32.ofInt (i.1 : Int) := ⟨_, rfl, own_pln p2 (1 : Int32) (N := 1) rfl (by decide)⟩
    rw [hpl]
    obtain ⟨r0, hr0, hR0⟩ : ∃ z : Int32, ((p3 &&& (7 : Int32)) - (1 : Int32)) = z ∧ own_isR z := ⟨_, rfl, own_r _⟩
    rw [hr0]
    obtain ⟨r1, hr1, hR1⟩ : ∃ z : Int32, ((((p3.toUInt32 >>> ((3 : Int32) &&& 31).toUInt32).toInt32) &&& (7 : Int32)) - (1 : Int32)) = z ∧ own_isR z := ⟨_, rfl, own_r _⟩
    rw [hr1]
    obtain ⟨r2, hr2, hR2⟩ : ∃ z : Int32, ((((p3.toUInt32 >>> ((6 : Int32) &&& 31).toUInt32).toInt32) &&& (7 : Int32)) - (1 : Int32)) = z ∧ own_isR z := ⟨_, rfl, own_r _⟩
    rw [hr2]
    show own_Go p e below P s₁ (mkF m 62 #[.val (.int p0), .val (.int p1), .val (.int p2), .val (.int p3), .val (.int kk), .val (.int oo), .val (.int (1 : Int32)), .val (.int pl), .val (.int r0), .val (.int r1), .val (.int r2), .unset, .unset, .unset, .unset] [])
    have hE := own_Kr hK
    have hok := own_ok hO ⟨by omega, by omega⟩ (k := kk)
    have hv0 := own_val (own_ok hO (own_Rr hR0)) ⟨by have := own_Rr hR0; omega, by have := own_Rr hR0; omega⟩
    have hv1 := own_val (own_ok hO (own_Rr hR1)) ⟨by have := own_Rr hR1; omega, by have := own_Rr hR1; omega⟩
    have hv2 := own_val (own_ok hO (own_Rr hR2)) ⟨by have := own_Rr hR2; omega, by have := own_Rr hR2; omega⟩
    obtain ⟨T1, h1, X1, e1, E1, A1, D1, -, st1⟩ := newO X0 hx hZ hown (hw _ (List.mem_of_getElem? (i := 1) rfl)) (hw _ (List.mem_of_getElem? (i := 2) rfl)) (hw _ (List.mem_of_getElem? (i := 3) rfl)) e0 (g := (mkF m 62 #[.val (.int p0), .val (.int p1), .val (.int p2), .val (.int p3), .val (.int kk), .val (.int oo), .val (.int (1 : Int32)), .val (.int pl), .val (.int r0), .val (.int r1), .val (.int r2), .unset, .unset, .unset, .unset] [])) rfl (hb hby at_62) (by decide) (by decide)
    obtain ⟨b1, g1⟩ : ∃ z, z = h0.size := ⟨_, rfl⟩
    rw [← g1] at A1 D1 st1
    have g_b1 : n0 ≤ b1 := Nat.le_trans Z0 (Nat.le_of_eq g1.symm)
    have sz_b1 : h0.size ≤ b1 := Nat.le_trans (Keep.refl h0 []).1 (Nat.le_of_eq g1.symm)
    have E_b1 := A1
    have F_lowest_b1 : Fld Z h1 b1 "com/example/bron/bron/trec/ScoreHistogram" "lowest" "D" (.double (0 : UInt64)) := D1 (Or.inr (hw _ (List.mem_of_getElem? (i := 26) rfl))) (ty := .double) (by decide)
    have F_scale_b1 : Fld Z h1 b1 "com/example/bron/bron/trec/ScoreHistogram" "scale" "D" (.double (0 : UInt64)) := D1 (Or.inr (hw _ (List.mem_of_getElem? (i := 28) rfl))) (ty := .double) (by decide)
    have F_counts_b1 : Fld Z h1 b1 "com/example/bron/bron/trec/ScoreHistogram" "counts" "[I" .null := D1 (Or.inr (hw _ (List.mem_of_getElem? (i := 31) rfl))) (ty := (.array .int)) (by decide)
    refine own_step st1 ?_
    show own_Go p e below P T1 (mkF m 65 #[.val (.int p0), .val (.int p1), .val (.int p2), .val (.int p3), .val (.int kk), .val (.int oo), .val (.int (1 : Int32)), .val (.int pl), .val (.int r0), .val (.int r1), .val (.int r2), .unset, .unset, .unset, .unset] [(.ref b1)])
    refine own_step (fun _ k => XS.dup X1.here hx rfl (hb hby at_65) rfl rfl k) ?_
    show own_Go p e below P T1 (mkF m 66 #[.val (.int p0), .val (.int p1), .val (.int p2), .val (.int p3), .val (.int kk), .val (.int oo), .val (.int (1 : Int32)), .val (.int pl), .val (.int r0), .val (.int r1), .val (.int r2), .unset, .unset, .unset, .unset] [(.ref b1), (.ref b1)])
    refine own_step (fun _ k => XS.iload X1.here hx rfl (hb hby at_66) rfl k) ?_
    show own_Go p e below P T1 (mkF m 68 #[.val (.int p0), .val (.int p1), .val (.int p2), .val (.int p3), .val (.int kk), .val (.int oo), .val (.int (1 : Int32)), .val (.int pl), .val (.int r0), .val (.int r1), .val (.int r2), .unset, .unset, .unset, .unset] [(.int oo), (.ref b1), (.ref b1)])
    refine own_step (fun _ k => XS.i2dS X1.here hx rfl (hb hby at_68) rfl rfl k) ?_
    show own_Go p e below P T1 (mkF m 69 #[.val (.int p0), .val (.int p1), .val (.int p2), .val (.int p3), .val (.int kk), .val (.int oo), .val (.int (1 : Int32)), .val (.int pl), .val (.int r0), .val (.int r1), .val (.int r2), .unset, .unset, .unset, .unset] [(.double (FP.i2d oo)), (.ref b1), (.ref b1)])
    refine own_step (fun _ k => XS.iload X1.here hx rfl (hb hby at_69) rfl k) ?_
    show own_Go p e below P T1 (mkF m 71 #[.val (.int p0), .val (.int p1), .val (.int p2), .val (.int p3), .val (.int kk), .val (.int oo), .val (.int (1 : Int32)), .val (.int pl), .val (.int r0), .val (.int r1), .val (.int r2), .unset, .unset, .unset, .unset] [(.int oo), (.double (FP.i2d oo)), (.ref b1), (.ref b1)])
    refine own_step (fun _ k => XS.iload X1.here hx rfl (hb hby at_71) rfl k) ?_
    show own_Go p e below P T1 (mkF m 73 #[.val (.int p0), .val (.int p1), .val (.int p2), .val (.int p3), .val (.int kk), .val (.int oo), .val (.int (1 : Int32)), .val (.int pl), .val (.int r0), .val (.int r1), .val (.int r2), .unset, .unset, .unset, .unset] [(.int kk), (.int oo), (.double (FP.i2d oo)), (.ref b1), (.ref b1)])
    refine own_step (fun _ k => XS.iadd X1.here hx rfl (hb hby at_73) rfl k) ?_
    show own_Go p e below P T1 (mkF m 74 #[.val (.int p0), .val (.int p1), .val (.int p2), .val (.int p3), .val (.int kk), .val (.int oo), .val (.int (1 : Int32)), .val (.int pl), .val (.int r0), .val (.int r1), .val (.int r2), .unset, .unset, .unset, .unset] [(.int (oo + kk)), (.double (FP.i2d oo)), (.ref b1), (.ref b1)])
    refine own_step (fun _ k => XS.i2dS X1.here hx rfl (hb hby at_74) rfl rfl k) ?_
    show own_Go p e below P T1 (mkF m 75 #[.val (.int p0), .val (.int p1), .val (.int p2), .val (.int p3), .val (.int kk), .val (.int oo), .val (.int (1 : Int32)), .val (.int pl), .val (.int r0), .val (.int r1), .val (.int r2), .unset, .unset, .unset, .unset] [(.double (FP.i2d (oo + kk))), (.double (FP.i2d oo)), (.ref b1), (.ref b1)])
    refine own_step (fun _ k => XS.iconst X1.here hx rfl (hb hby at_75) k) ?_
    show own_Go p e below P T1 (mkF m 76 #[.val (.int p0), .val (.int p1), .val (.int p2), .val (.int p3), .val (.int kk), .val (.int oo), .val (.int (1 : Int32)), .val (.int pl), .val (.int r0), .val (.int r1), .val (.int r2), .unset, .unset, .unset, .unset] [(.int (4 : Int32)), (.double (FP.i2d (oo + kk))), (.double (FP.i2d oo)), (.ref b1), (.ref b1)])
    refine own_step (fun _ k => XS.iload X1.here hx rfl (hb hby at_76) rfl k) ?_
    show own_Go p e below P T1 (mkF m 78 #[.val (.int p0), .val (.int p1), .val (.int p2), .val (.int p3), .val (.int kk), .val (.int oo), .val (.int (1 : Int32)), .val (.int pl), .val (.int r0), .val (.int r1), .val (.int r2), .unset, .unset, .unset, .unset] [(.int kk), (.int (4 : Int32)), (.double (FP.i2d (oo + kk))), (.double (FP.i2d oo)), (.ref b1), (.ref b1)])
    refine own_step (fun _ k => XS.imul X1.here hx rfl (hb hby at_78) rfl k) ?_
    show own_Go p e below P T1 (mkF m 79 #[.val (.int p0), .val (.int p1), .val (.int p2), .val (.int p3), .val (.int kk), .val (.int oo), .val (.int (1 : Int32)), .val (.int pl), .val (.int r0), .val (.int r1), .val (.int r2), .unset, .unset, .unset, .unset] [(.int ((4 : Int32) * kk)), (.double (FP.i2d (oo + kk))), (.double (FP.i2d oo)), (.ref b1), (.ref b1)])
    obtain ⟨_, _, ⟨T2, L2, k2, n2⟩, -, X2, ⟨Lc2, hQ2, l2, y2, z2⟩, st2⟩ := X1.specialBack hx (y := (⟨"com/example/bron/bron/trec/ScoreHistogram", "<init>", "(DDI)V"⟩ : MethodName)) rfl hown (mvT hZ (hw _ (List.mem_of_getElem? (i := 4) rfl))) (mvT hZ (hw _ (List.mem_of_getElem? (i := 5) rfl))) (mvT hZ (hw _ (List.mem_of_getElem? (i := 6) rfl))) (by decide) (backOf (W := 1) (rm1 l Z a0 hw [] b1 (FP.i2d oo) (FP.i2d (oo + kk)) ((4 : Int32) * kk) kk h1 n0 (Nat.le_trans Z0 E1.1) E_b1 F_lowest_b1 F_scale_b1 F_counts_b1 g_b1 (own_hA hok hE.1) (own_dfin (own_ds hok ⟨by omega, by omega⟩)) (own_bkK hK) (own_hD hok ⟨hE.1, by omega⟩) hE) hZ (hw _ (List.mem_of_getElem? (i := 6) rfl)) (hw _ (List.mem_of_getElem? (i := 3) rfl)) (by decide) (by decide)) (g := (mkF m 79 #[.val (.int p0), .val (.int p1), .val (.int p2), .val (.int p3), .val (.int kk), .val (.int oo), .val (.int (1 : Int32)), .val (.int pl), .val (.int r0), .val (.int r1), .val (.int r2), .unset, .unset, .unset, .unset] [(.int ((4 : Int32) * kk)), (.double (FP.i2d (oo + kk))), (.double (FP.i2d oo)), (.ref b1), (.ref b1)])) rfl (by rw [hml]; rfl) (Steps.refl _) (a := b1) (argsL := [(.double (FP.i2d oo)), (.double (FP.i2d (oo + kk))), (.int ((4 : Int32) * kk))]) (rest := [(.ref b1)]) (lenOf pd__DDI__V rfl) rfl (by show 2 * 0 + _ ≤ _; exact Nat.le_of_eq rfl) (hb hby at_79) (fun _ _ => ⟨rfl, e1, (by decide : 1 + 1 ≤ _), (by decide : 3 + 5 ≤ _)⟩)
    dsimp only [Pt.U, Pt.locs, Pt.cells, Pt.slots] at X2 l2 y2 z2 st2 hQ2
    subst l2 y2 z2
    obtain ⟨rfl, N2q, K2, E2_o, Fl2, Fs2, ar2, kc2, la2, Fc2, V2⟩ := hQ2
    have g_ar2 : n0 ≤ ar2 := Nat.le_trans (Nat.le_trans Z0 E1.1) la2
    have sz_ar2 : h0.size ≤ ar2 := Nat.le_trans ((Keep.refl h0 []).ext E1).1 la2
    have ne2 : b1 ≠ ar2 := by
      obtain ⟨_, Aq, -⟩ := V2
      exact ne_arr E2_o (hw _ (List.mem_of_getElem? (i := 2) rfl)) Aq
    have N2 := Fr.app N0 N2q
    refine own_step (fun _ k => st2.trans k) ?_
    show own_Go p e below P T2 (mkF m 82 #[.val (.int p0), .val (.int p1), .val (.int p2), .val (.int p3), .val (.int kk), .val (.int oo), .val (.int (1 : Int32)), .val (.int pl), .val (.int r0), .val (.int r1), .val (.int r2), .unset, .unset, .unset, .unset] [(.ref b1)])
    refine own_step (fun _ k => XS.astore X2.here hx rfl (hb hby at_82) rfl rfl (l' := #[.val (.int p0), .val (.int p1), .val (.int p2), .val (.int p3), .val (.int kk), .val (.int oo), .val (.int (1 : Int32)), .val (.int pl), .val (.int r0), .val (.int r1), .val (.int r2), .val (.ref b1), .unset, .unset, .unset]) rfl k) ?_
    show own_Go p e below P T2 (mkF m 84 #[.val (.int p0), .val (.int p1), .val (.int p2), .val (.int p3), .val (.int kk), .val (.int oo), .val (.int (1 : Int32)), .val (.int pl), .val (.int r0), .val (.int r1), .val (.int r2), .val (.ref b1), .unset, .unset, .unset] [])
    refine own_step (fun _ k => XS.aload X2.here hx rfl (hb hby at_84) rfl rfl k) ?_
    show own_Go p e below P T2 (mkF m 86 #[.val (.int p0), .val (.int p1), .val (.int p2), .val (.int p3), .val (.int kk), .val (.int oo), .val (.int (1 : Int32)), .val (.int pl), .val (.int r0), .val (.int r1), .val (.int r2), .val (.ref b1), .unset, .unset, .unset] [(.ref b1)])
    refine own_step (fun _ k => XS.iload X2.here hx rfl (hb hby at_86) rfl k) ?_
    show own_Go p e below P T2 (mkF m 88 #[.val (.int p0), .val (.int p1), .val (.int p2), .val (.int p3), .val (.int kk), .val (.int oo), .val (.int (1 : Int32)), .val (.int pl), .val (.int r0), .val (.int r1), .val (.int r2), .val (.ref b1), .unset, .unset, .unset] [(.int oo), (.ref b1)])
    refine own_step (fun _ k => XS.iload X2.here hx rfl (hb hby at_88) rfl k) ?_
    show own_Go p e below P T2 (mkF m 90 #[.val (.int p0), .val (.int p1), .val (.int p2), .val (.int p3), .val (.int kk), .val (.int oo), .val (.int (1 : Int32)), .val (.int pl), .val (.int r0), .val (.int r1), .val (.int r2), .val (.ref b1), .unset, .unset, .unset] [(.int r0), (.int oo), (.ref b1)])
    refine own_step (fun _ k => XS.iadd X2.here hx rfl (hb hby at_90) rfl k) ?_
    show own_Go p e below P T2 (mkF m 91 #[.val (.int p0), .val (.int p1), .val (.int p2), .val (.int p3), .val (.int kk), .val (.int oo), .val (.int (1 : Int32)), .val (.int pl), .val (.int r0), .val (.int r1), .val (.int r2), .val (.ref b1), .unset, .unset, .unset] [(.int (oo + r0)), (.ref b1)])
    refine own_step (fun _ k => XS.i2dS X2.here hx rfl (hb hby at_91) rfl rfl k) ?_
    show own_Go p e below P T2 (mkF m 92 #[.val (.int p0), .val (.int p1), .val (.int p2), .val (.int p3), .val (.int kk), .val (.int oo), .val (.int (1 : Int32)), .val (.int pl), .val (.int r0), .val (.int r1), .val (.int r2), .val (.ref b1), .unset, .unset, .unset] [(.double (FP.i2d (oo + r0))), (.ref b1)])
    obtain ⟨cq3, kq3, q3a, q3b, q3c⟩ := isOf hZ rfl E2_o
    obtain ⟨_, _, ⟨T3, L3, k3, n3⟩, -, X3, ⟨Lc3, hQ3, l3, y3, z3⟩, st3⟩ := X2.virtualBack hx (y := (⟨"com/example/bron/bron/trec/ScoreHistogram", "add", "(D)V"⟩ : MethodName)) (z := (⟨"com/example/bron/bron/trec/ScoreHistogram", "add", "(D)V"⟩ : MethodName)) hown (mvT hZ (hw _ (List.mem_of_getElem? (i := 32) rfl))) (mvT hZ (hw _ (List.mem_of_getElem? (i := 33) rfl))) (notFace_of_selects (args := #[]) (mvT hZ (hw _ (List.mem_of_getElem? (i := 35) rfl)))) (mvT hZ (hw _ (List.mem_of_getElem? (i := 35) rfl))) (mvT hZ (hw _ (List.mem_of_getElem? (i := 34) rfl))) (by decide) (backOf (W := 0) (rm7 l Z a0 hw [] b1 (FP.i2d (oo + r0)) ar2 kc2 (kk + (1 : Int32)) (List.replicate (kk.toNatClampNeg + 1) (0 : Int32)) (FP.i2d oo) (own_clamp kk r0) T2.heap n0 (Nat.le_trans (Nat.le_trans Z0 E1.1) K2.1) E2_o Fl2 Fs2 Fc2 V2 ne2 g_ar2 hv0.2.1 hv0.2.2 (by rw [own_b1, hv0.1]) (own_cl hE).1 (own_cl hE).2 (own_l0 hE)) hZ (hw _ (List.mem_of_getElem? (i := 36) rfl)) (hw _ (List.mem_of_getElem? (i := 3) rfl)) (by decide) (by decide)) q3a q3c (g := (mkF m 92 #[.val (.int p0), .val (.int p1), .val (.int p2), .val (.int p3), .val (.int kk), .val (.int oo), .val (.int (1 : Int32)), .val (.int pl), .val (.int r0), .val (.int r1), .val (.int r2), .val (.ref b1), .unset, .unset, .unset] [(.double (FP.i2d (oo + r0))), (.ref b1)])) rfl (by rw [hml]; rfl) (Steps.refl _) (argsL := [(.double (FP.i2d (oo + r0)))]) (rest := []) (lenOf pd__D__V rfl) rfl (by show 2 * 0 + _ ≤ _; exact Nat.le_of_eq rfl) (hb hby at_92) (fun _ _ => ⟨rfl, rfl, (by decide : 2 + 0 ≤ _), (by decide : 8 + 0 ≤ _)⟩)
    dsimp only [Pt.U, Pt.locs, Pt.cells, Pt.slots] at X3 l3 y3 z3 st3 hQ3
    subst l3 y3 z3
    obtain ⟨rfl, N3q, K3, V3⟩ := hQ3
    have N3 := Fr.app N2 N3q
    refine own_step (fun _ k => st3.trans k) ?_
    show own_Go p e below P T3 (mkF m 95 #[.val (.int p0), .val (.int p1), .val (.int p2), .val (.int p3), .val (.int kk), .val (.int oo), .val (.int (1 : Int32)), .val (.int pl), .val (.int r0), .val (.int r1), .val (.int r2), .val (.ref b1), .unset, .unset, .unset] [])
    refine own_step (fun _ k => XS.iload X3.here hx rfl (hb hby at_95) rfl k) ?_
    show own_Go p e below P T3 (mkF m 97 #[.val (.int p0), .val (.int p1), .val (.int p2), .val (.int p3), .val (.int kk), .val (.int oo), .val (.int (1 : Int32)), .val (.int pl), .val (.int r0), .val (.int r1), .val (.int r2), .val (.ref b1), .unset, .unset, .unset] [(.int (1 : Int32))])
    refine own_step (fun _ k => XS.iconst X3.here hx rfl (hb hby at_97) k) ?_
    show own_Go p e below P T3 (mkF m 98 #[.val (.int p0), .val (.int p1), .val (.int p2), .val (.int p3), .val (.int kk), .val (.int oo), .val (.int (1 : Int32)), .val (.int pl), .val (.int r0), .val (.int r1), .val (.int r2), .val (.ref b1), .unset, .unset, .unset] [(.int (2 : Int32)), (.int (1 : Int32))])
    refine own_step (fun _ k => XS.icmpYes X3.here hx rfl (pc0 := 98) (pc' := 112) rfl (hb hby at_98) rfl (tlt (by decide : (1 : Int32) < (2 : Int32))).1 (by decide) (by decide) k) ?_
    show own_Go p e below P T3 (mkF m 112 #[.val (.int p0), .val (.int p1), .val (.int p2), .val (.int p3), .val (.int kk), .val (.int oo), .val (.int (1 : Int32)), .val (.int pl), .val (.int r0), .val (.int r1), .val (.int r2), .val (.ref b1), .unset, .unset, .unset] [])
    refine own_step (fun _ k => XS.iload X3.here hx rfl (hb hby at_112) rfl k) ?_
    show own_Go p e below P T3 (mkF m 114 #[.val (.int p0), .val (.int p1), .val (.int p2), .val (.int p3), .val (.int kk), .val (.int oo), .val (.int (1 : Int32)), .val (.int pl), .val (.int r0), .val (.int r1), .val (.int r2), .val (.ref b1), .unset, .unset, .unset] [(.int (1 : Int32))])
    refine own_step (fun _ k => XS.iconst X3.here hx rfl (hb hby at_114) k) ?_
    show own_Go p e below P T3 (mkF m 115 #[.val (.int p0), .val (.int p1), .val (.int p2), .val (.int p3), .val (.int kk), .val (.int oo), .val (.int (1 : Int32)), .val (.int pl), .val (.int r0), .val (.int r1), .val (.int r2), .val (.ref b1), .unset, .unset, .unset] [(.int (3 : Int32)), (.int (1 : Int32))])
    refine own_step (fun _ k => XS.icmpYes X3.here hx rfl (pc0 := 115) (pc' := 129) rfl (hb hby at_115) rfl (tlt (by decide : (1 : Int32) < (3 : Int32))).1 (by decide) (by decide) k) ?_
    show own_Go p e below P T3 (mkF m 129 #[.val (.int p0), .val (.int p1), .val (.int p2), .val (.int p3), .val (.int kk), .val (.int oo), .val (.int (1 : Int32)), .val (.int pl), .val (.int r0), .val (.int r1), .val (.int r2), .val (.ref b1), .unset, .unset, .unset] [])
    refine own_step (fun _ k => XS.aload X3.here hx rfl (hb hby at_129) rfl rfl k) ?_
    show own_Go p e below P T3 (mkF m 131 #[.val (.int p0), .val (.int p1), .val (.int p2), .val (.int p3), .val (.int kk), .val (.int oo), .val (.int (1 : Int32)), .val (.int pl), .val (.int r0), .val (.int r1), .val (.int r2), .val (.ref b1), .unset, .unset, .unset] [(.ref b1)])
    refine own_step (fun _ k => XS.iload X3.here hx rfl (hb hby at_131) rfl k) ?_
    show own_Go p e below P T3 (mkF m 133 #[.val (.int p0), .val (.int p1), .val (.int p2), .val (.int p3), .val (.int kk), .val (.int oo), .val (.int (1 : Int32)), .val (.int pl), .val (.int r0), .val (.int r1), .val (.int r2), .val (.ref b1), .unset, .unset, .unset] [(.int pl), (.ref b1)])
    have hbat : own_bat (own_put (List.replicate (kk.toNatClampNeg + 1) (0 : Int32)) (own_clamp kk r0)) pl = some (own_srt (own_ref r0 kk) (-1 : Int32) (-1 : Int32) pl) := by
      obtain ⟨ki, hki⟩ := hK
      obtain ⟨i0, hi0⟩ := hR0
      have e : pl = 0 := by rw [hpi]; have : ∀ j : Fin 1, Int32.ofInt (j.1 : Int) = 0 := by decide
                            exact this pi
      rw [e, hki, hi0]
      exact own_t1 ki i0
    obtain ⟨cq4, kq4, q4a, q4b, q4c⟩ := isOf hZ rfl (E2_o.keep K3)
    obtain ⟨_, _, ⟨T4, L4, k4, n4⟩, -, X4, ⟨Lc4, hQ4, l4, y4, z4⟩, st4⟩ := X3.virtualBack hx (y := (⟨"com/example/bron/bron/trec/ScoreHistogram", "bucketAt", "(I)I"⟩ : MethodName)) (z := (⟨"com/example/bron/bron/trec/ScoreHistogram", "bucketAt", "(I)I"⟩ : MethodName)) hown (mvT hZ (hw _ (List.mem_of_getElem? (i := 42) rfl))) (mvT hZ (hw _ (List.mem_of_getElem? (i := 43) rfl))) (notFace_of_selects (args := #[]) (mvT hZ (hw _ (List.mem_of_getElem? (i := 45) rfl)))) (mvT hZ (hw _ (List.mem_of_getElem? (i := 45) rfl))) (mvT hZ (hw _ (List.mem_of_getElem? (i := 44) rfl))) (by decide) (backOf (W := 0) (rm9 l Z a0 hw [] b1 pl ar2 kc2 (kk + (1 : Int32)) (own_put (List.replicate (kk.toNatClampNeg + 1) (0 : Int32)) (own_clamp kk r0)) (FP.i2d oo) (own_srt (own_ref r0 kk) (-1 : Int32) (-1 : Int32) pl) T3.heap n0 (Nat.le_trans (Nat.le_trans (Nat.le_trans Z0 E1.1) K2.1) K3.1) (E2_o.keep K3) (Fl2.keep K3 (ninS ne2 nin0)) (Fs2.keep K3 (ninS ne2 nin0)) (Fc2.keep K3 (ninS ne2 nin0)) V3 ne2 ((own_put_len _ _).trans (own_l0 hE)) (by have := (own_bb hE).2.2.1; omega) hbat) hZ (hw _ (List.mem_of_getElem? (i := 46) rfl)) (hw _ (List.mem_of_getElem? (i := 3) rfl)) (by decide) (by decide)) q4a q4c (g := (mkF m 133 #[.val (.int p0), .val (.int p1), .val (.int p2), .val (.int p3), .val (.int kk), .val (.int oo), .val (.int (1 : Int32)), .val (.int pl), .val (.int r0), .val (.int r1), .val (.int r2), .val (.ref b1), .unset, .unset, .unset] [(.int pl), (.ref b1)])) rfl (by rw [hml]; rfl) (Steps.refl _) (argsL := [(.int pl)]) (rest := []) (lenOf pd__I__I rfl) rfl (by show 2 * 0 + _ ≤ _; exact Nat.le_of_eq rfl) (hb hby at_133) (fun _ _ => ⟨rfl, rfl, (by decide : 2 + 0 ≤ _), (by decide : 8 + 0 ≤ _)⟩)
    dsimp only [Pt.U, Pt.locs, Pt.cells, Pt.slots] at X4 l4 y4 z4 st4 hQ4
    subst l4 y4 z4
    obtain ⟨rfl, N4q, e4⟩ := hQ4
    have N4 := Fr.app N3 N4q
    refine own_step (fun _ k => st4.trans k) ?_
    show own_Go p e below P T4 (mkF m 136 #[.val (.int p0), .val (.int p1), .val (.int p2), .val (.int p3), .val (.int kk), .val (.int oo), .val (.int (1 : Int32)), .val (.int pl), .val (.int r0), .val (.int r1), .val (.int r2), .val (.ref b1), .unset, .unset, .unset] [(.int (own_srt (own_ref r0 kk) (-1 : Int32) (-1 : Int32) pl))])
    refine own_step (fun _ k => XS.istore X4.here hx rfl (hb hby at_136) rfl (l' := #[.val (.int p0), .val (.int p1), .val (.int p2), .val (.int p3), .val (.int kk), .val (.int oo), .val (.int (1 : Int32)), .val (.int pl), .val (.int r0), .val (.int r1), .val (.int r2), .val (.ref b1), .val (.int (own_srt (own_ref r0 kk) (-1 : Int32) (-1 : Int32) pl)), .unset, .unset]) rfl k) ?_
    show own_Go p e below P T4 (mkF m 138 #[.val (.int p0), .val (.int p1), .val (.int p2), .val (.int p3), .val (.int kk), .val (.int oo), .val (.int (1 : Int32)), .val (.int pl), .val (.int r0), .val (.int r1), .val (.int r2), .val (.ref b1), .val (.int (own_srt (own_ref r0 kk) (-1 : Int32) (-1 : Int32) pl)), .unset, .unset] [])
    refine own_step (fun _ k => XS.iconst X4.here hx rfl (hb hby at_138) k) ?_
    show own_Go p e below P T4 (mkF m 139 #[.val (.int p0), .val (.int p1), .val (.int p2), .val (.int p3), .val (.int kk), .val (.int oo), .val (.int (1 : Int32)), .val (.int pl), .val (.int r0), .val (.int r1), .val (.int r2), .val (.ref b1), .val (.int (own_srt (own_ref r0 kk) (-1 : Int32) (-1 : Int32) pl)), .unset, .unset] [(.int (3 : Int32))])
    obtain ⟨T5, h5, k5, X5, e5, E5, A5, st5⟩ := newP X4 hx hZ (hw _ (List.mem_of_getElem? (i := 29) rfl)) e4 (g := (mkF m 139 #[.val (.int p0), .val (.int p1), .val (.int p2), .val (.int p3), .val (.int kk), .val (.int oo), .val (.int (1 : Int32)), .val (.int pl), .val (.int r0), .val (.int r1), .val (.int r2), .val (.ref b1), .val (.int (own_srt (own_ref r0 kk) (-1 : Int32) (-1 : Int32) pl)), .unset, .unset] [(.int (3 : Int32))])) rfl (hb hby at_139) rfl (by decide) (cap := 3) (by decide) (by decide) (by decide) (by decide)
    obtain ⟨b5, g5⟩ : ∃ z, z = T3.heap.size := ⟨_, rfl⟩
    rw [← g5] at A5 st5
    have g_b5 : n0 ≤ b5 := Nat.le_trans (Nat.le_trans (Nat.le_trans (Nat.le_trans Z0 E1.1) K2.1) K3.1) (Nat.le_of_eq g5.symm)
    have sz_b5 : h0.size ≤ b5 := Nat.le_trans ((((Keep.refl h0 []).ext E1).trans K2 (allS (Or.inr sz_b1) all0)).trans K3 (allS (Or.inr sz_ar2) all0)).1 (Nat.le_of_eq g5.symm)
    have V_b5 : Arv Z h5 b5 k5 .int (3 : Int32) [(.int (0 : Int32)), (.int (0 : Int32)), (.int (0 : Int32))] (.int (0 : Int32)) := (Arv.new A5 (by decide)).pad (pad_rep [] (.int (0 : Int32)) 3)
    refine own_step st5 ?_
    show own_Go p e below P T5 (mkF m 141 #[.val (.int p0), .val (.int p1), .val (.int p2), .val (.int p3), .val (.int kk), .val (.int oo), .val (.int (1 : Int32)), .val (.int pl), .val (.int r0), .val (.int r1), .val (.int r2), .val (.ref b1), .val (.int (own_srt (own_ref r0 kk) (-1 : Int32) (-1 : Int32) pl)), .unset, .unset] [(.ref b5)])
    refine own_step (fun _ k => XS.astore X5.here hx rfl (hb hby at_141) rfl rfl (l' := #[.val (.int p0), .val (.int p1), .val (.int p2), .val (.int p3), .val (.int kk), .val (.int oo), .val (.int (1 : Int32)), .val (.int pl), .val (.int r0), .val (.int r1), .val (.int r2), .val (.ref b1), .val (.int (own_srt (own_ref r0 kk) (-1 : Int32) (-1 : Int32) pl)), .val (.ref b5), .unset]) rfl k) ?_
    show own_Go p e below P T5 (mkF m 143 #[.val (.int p0), .val (.int p1), .val (.int p2), .val (.int p3), .val (.int kk), .val (.int oo), .val (.int (1 : Int32)), .val (.int pl), .val (.int r0), .val (.int r1), .val (.int r2), .val (.ref b1), .val (.int (own_srt (own_ref r0 kk) (-1 : Int32) (-1 : Int32) pl)), .val (.ref b5), .unset] [])
    refine own_step (fun _ k => XS.aload X5.here hx rfl (hb hby at_143) rfl rfl k) ?_
    show own_Go p e below P T5 (mkF m 145 #[.val (.int p0), .val (.int p1), .val (.int p2), .val (.int p3), .val (.int kk), .val (.int oo), .val (.int (1 : Int32)), .val (.int pl), .val (.int r0), .val (.int r1), .val (.int r2), .val (.ref b1), .val (.int (own_srt (own_ref r0 kk) (-1 : Int32) (-1 : Int32) pl)), .val (.ref b5), .unset] [(.ref b5)])
    refine own_step (fun _ k => XS.iconst X5.here hx rfl (hb hby at_145) k) ?_
    show own_Go p e below P T5 (mkF m 146 #[.val (.int p0), .val (.int p1), .val (.int p2), .val (.int p3), .val (.int kk), .val (.int oo), .val (.int (1 : Int32)), .val (.int pl), .val (.int r0), .val (.int r1), .val (.int r2), .val (.ref b1), .val (.int (own_srt (own_ref r0 kk) (-1 : Int32) (-1 : Int32) pl)), .val (.ref b5), .unset] [(.int (0 : Int32)), (.ref b5)])
    refine own_step (fun _ k => XS.iload X5.here hx rfl (hb hby at_146) rfl k) ?_
    show own_Go p e below P T5 (mkF m 148 #[.val (.int p0), .val (.int p1), .val (.int p2), .val (.int p3), .val (.int kk), .val (.int oo), .val (.int (1 : Int32)), .val (.int pl), .val (.int r0), .val (.int r1), .val (.int r2), .val (.ref b1), .val (.int (own_srt (own_ref r0 kk) (-1 : Int32) (-1 : Int32) pl)), .val (.ref b5), .unset] [(.int r0), (.int (0 : Int32)), (.ref b5)])
    refine own_step (fun _ k => XS.iload X5.here hx rfl (hb hby at_148) rfl k) ?_
    show own_Go p e below P T5 (mkF m 150 #[.val (.int p0), .val (.int p1), .val (.int p2), .val (.int p3), .val (.int kk), .val (.int oo), .val (.int (1 : Int32)), .val (.int pl), .val (.int r0), .val (.int r1), .val (.int r2), .val (.ref b1), .val (.int (own_srt (own_ref r0 kk) (-1 : Int32) (-1 : Int32) pl)), .val (.ref b5), .unset] [(.int kk), (.int r0), (.int (0 : Int32)), (.ref b5)])
    obtain ⟨_, _, ⟨T6, L6, k6, n6⟩, -, X6, ⟨Lc6, hQ6, l6, y6, z6⟩, st6⟩ := Jvm.LawKit.callS X5 hx (y := (⟨"com/example/bron/bron/trec/ScoreHistogramBucketAtPinLaw", "ref", "(II)I"⟩ : MethodName)) hown (mvT hZ (hw _ (List.mem_of_getElem? (i := 47) rfl))) (mvT hZ (hw _ (List.mem_of_getElem? (i := 48) rfl))) (mvT hZ (hw _ (List.mem_of_getElem? (i := 49) rfl))) (mvT hZ (hw _ (List.mem_of_getElem? (i := 50) rfl))) (by decide) (backOf (W := 2) (rm10 l Z a0 hw [] r0 kk h5 n0 (Nat.le_trans (Nat.le_trans (Nat.le_trans (Nat.le_trans Z0 E1.1) K2.1) K3.1) E5.1)) hZ (hw _ (List.mem_of_getElem? (i := 50) rfl)) (hw _ (List.mem_of_getElem? (i := 49) rfl)) (by decide) (by decide)) (g := (mkF m 150 #[.val (.int p0), .val (.int p1), .val (.int p2), .val (.int p3), .val (.int kk), .val (.int oo), .val (.int (1 : Int32)), .val (.int pl), .val (.int r0), .val (.int r1), .val (.int r2), .val (.ref b1), .val (.int (own_srt (own_ref r0 kk) (-1 : Int32) (-1 : Int32) pl)), .val (.ref b5), .unset] [(.int kk), (.int r0), (.int (0 : Int32)), (.ref b5)])) rfl (by rw [hml]; rfl) (argsL := [(.int r0), (.int kk)]) (rest := [(.int (0 : Int32)), (.ref b5)]) (lenOf pd__II__I rfl) rfl (by show 2 * 0 + _ ≤ _; exact Nat.le_of_eq rfl) (hb hby at_150) (fun _ _ => ⟨rfl, e5, (by decide : 3 + 0 ≤ _), (by decide : 11 + 0 ≤ _)⟩)
    dsimp only [Pt.U, Pt.locs, Pt.cells, Pt.slots] at X6 l6 y6 z6 st6 hQ6
    subst l6 y6 z6
    obtain ⟨rfl, N6q, e6⟩ := hQ6
    have N6 := Fr.app N4 N6q
    refine own_step st6 ?_
    show own_Go p e below P T6 (mkF m 153 #[.val (.int p0), .val (.int p1), .val (.int p2), .val (.int p3), .val (.int kk), .val (.int oo), .val (.int (1 : Int32)), .val (.int pl), .val (.int r0), .val (.int r1), .val (.int r2), .val (.ref b1), .val (.int (own_srt (own_ref r0 kk) (-1 : Int32) (-1 : Int32) pl)), .val (.ref b5), .unset] [(.int (own_ref r0 kk)), (.int (0 : Int32)), (.ref b5)])
    obtain ⟨cl7, Ar7, q7, S7, M7, H7, G7⟩ := (id V_b5)
    have hin7 : ¬ ((0 : Int32) < 0 ∨ cl7.slots.size ≤ ((0 : Int32)).toNatClampNeg) := inb_of S7 ⟨by decide, by decide⟩
    obtain ⟨T7, h7, X7, e7, W7, st7⟩ := stI X6 hx hZ e6 Ar7 (j := (0 : Int32)) hin7 (g := (mkF m 153 #[.val (.int p0), .val (.int p1), .val (.int p2), .val (.int p3), .val (.int kk), .val (.int oo), .val (.int (1 : Int32)), .val (.int pl), .val (.int r0), .val (.int r1), .val (.int r2), .val (.ref b1), .val (.int (own_srt (own_ref r0 kk) (-1 : Int32) (-1 : Int32) pl)), .val (.ref b5), .unset] [(.int (own_ref r0 kk)), (.int (0 : Int32)), (.ref b5)])) rfl rfl (hb hby at_153)
    have V7 : Arv Z h7 b5 k5 .int (3 : Int32) [(.int (own_ref r0 kk)), (.int (0 : Int32)), (.int (0 : Int32))] (.int (0 : Int32)) := Arv.set Ar7 q7 S7 M7 H7 G7 rfl W7 0 rfl (Nat.le_of_ble_eq_true rfl)
    have N7 := Fr.snoc X7 N6 g_b5
    refine own_step st7 ?_
    show own_Go p e below P T7 (mkF m 154 #[.val (.int p0), .val (.int p1), .val (.int p2), .val (.int p3), .val (.int kk), .val (.int oo), .val (.int (1 : Int32)), .val (.int pl), .val (.int r0), .val (.int r1), .val (.int r2), .val (.ref b1), .val (.int (own_srt (own_ref r0 kk) (-1 : Int32) (-1 : Int32) pl)), .val (.ref b5), .unset] [])
    refine own_step (fun _ k => XS.aload X7.here hx rfl (hb hby at_154) rfl rfl k) ?_
    show own_Go p e below P T7 (mkF m 156 #[.val (.int p0), .val (.int p1), .val (.int p2), .val (.int p3), .val (.int kk), .val (.int oo), .val (.int (1 : Int32)), .val (.int pl), .val (.int r0), .val (.int r1), .val (.int r2), .val (.ref b1), .val (.int (own_srt (own_ref r0 kk) (-1 : Int32) (-1 : Int32) pl)), .val (.ref b5), .unset] [(.ref b5)])
    refine own_step (fun _ k => XS.iconst X7.here hx rfl (hb hby at_156) k) ?_
    show own_Go p e below P T7 (mkF m 157 #[.val (.int p0), .val (.int p1), .val (.int p2), .val (.int p3), .val (.int kk), .val (.int oo), .val (.int (1 : Int32)), .val (.int pl), .val (.int r0), .val (.int r1), .val (.int r2), .val (.ref b1), .val (.int (own_srt (own_ref r0 kk) (-1 : Int32) (-1 : Int32) pl)), .val (.ref b5), .unset] [(.int (1 : Int32)), (.ref b5)])
    refine own_step (fun _ k => XS.iload X7.here hx rfl (hb hby at_157) rfl k) ?_
    show own_Go p e below P T7 (mkF m 159 #[.val (.int p0), .val (.int p1), .val (.int p2), .val (.int p3), .val (.int kk), .val (.int oo), .val (.int (1 : Int32)), .val (.int pl), .val (.int r0), .val (.int r1), .val (.int r2), .val (.ref b1), .val (.int (own_srt (own_ref r0 kk) (-1 : Int32) (-1 : Int32) pl)), .val (.ref b5), .unset] [(.int (1 : Int32)), (.int (1 : Int32)), (.ref b5)])
    refine own_step (fun _ k => XS.iconst X7.here hx rfl (hb hby at_159) k) ?_
    show own_Go p e below P T7 (mkF m 160 #[.val (.int p0), .val (.int p1), .val (.int p2), .val (.int p3), .val (.int kk), .val (.int oo), .val (.int (1 : Int32)), .val (.int pl), .val (.int r0), .val (.int r1), .val (.int r2), .val (.ref b1), .val (.int (own_srt (own_ref r0 kk) (-1 : Int32) (-1 : Int32) pl)), .val (.ref b5), .unset] [(.int (2 : Int32)), (.int (1 : Int32)), (.int (1 : Int32)), (.ref b5)])
    refine own_step (fun _ k => XS.icmpYes X7.here hx rfl (pc0 := 160) (pc' := 173) rfl (hb hby at_160) rfl (tlt (by decide : (1 : Int32) < (2 : Int32))).1 (by decide) (by decide) k) ?_
    show own_Go p e below P T7 (mkF m 173 #[.val (.int p0), .val (.int p1), .val (.int p2), .val (.int p3), .val (.int kk), .val (.int oo), .val (.int (1 : Int32)), .val (.int pl), .val (.int r0), .val (.int r1), .val (.int r2), .val (.ref b1), .val (.int (own_srt (own_ref r0 kk) (-1 : Int32) (-1 : Int32) pl)), .val (.ref b5), .unset] [(.int (1 : Int32)), (.ref b5)])
    refine own_step (fun _ k => XS.iconst X7.here hx rfl (hb hby at_173) k) ?_
    show own_Go p e below P T7 (mkF m 174 #[.val (.int p0), .val (.int p1), .val (.int p2), .val (.int p3), .val (.int kk), .val (.int oo), .val (.int (1 : Int32)), .val (.int pl), .val (.int r0), .val (.int r1), .val (.int r2), .val (.ref b1), .val (.int (own_srt (own_ref r0 kk) (-1 : Int32) (-1 : Int32) pl)), .val (.ref b5), .unset] [(.int (-1 : Int32)), (.int (1 : Int32)), (.ref b5)])
    obtain ⟨cl8, Ar8, q8, S8, M8, H8, G8⟩ := (id V7)
    have hin8 : ¬ ((1 : Int32) < 0 ∨ cl8.slots.size ≤ ((1 : Int32)).toNatClampNeg) := inb_of S8 ⟨by decide, by decide⟩
    obtain ⟨T8, h8, X8, e8, W8, st8⟩ := stI X7 hx hZ e7 Ar8 (j := (1 : Int32)) hin8 (g := (mkF m 174 #[.val (.int p0), .val (.int p1), .val (.int p2), .val (.int p3), .val (.int kk), .val (.int oo), .val (.int (1 : Int32)), .val (.int pl), .val (.int r0), .val (.int r1), .val (.int r2), .val (.ref b1), .val (.int (own_srt (own_ref r0 kk) (-1 : Int32) (-1 : Int32) pl)), .val (.ref b5), .unset] [(.int (-1 : Int32)), (.int (1 : Int32)), (.ref b5)])) rfl rfl (hb hby at_174)
    have V8 : Arv Z h8 b5 k5 .int (3 : Int32) [(.int (own_ref r0 kk)), (.int (-1 : Int32)), (.int (0 : Int32))] (.int (0 : Int32)) := Arv.set Ar8 q8 S8 M8 H8 G8 rfl W8 1 rfl (Nat.le_of_ble_eq_true rfl)
    have N8 := Fr.snoc X8 N7 g_b5
    refine own_step st8 ?_
    show own_Go p e below P T8 (mkF m 175 #[.val (.int p0), .val (.int p1), .val (.int p2), .val (.int p3), .val (.int kk), .val (.int oo), .val (.int (1 : Int32)), .val (.int pl), .val (.int r0), .val (.int r1), .val (.int r2), .val (.ref b1), .val (.int (own_srt (own_ref r0 kk) (-1 : Int32) (-1 : Int32) pl)), .val (.ref b5), .unset] [])
    refine own_step (fun _ k => XS.aload X8.here hx rfl (hb hby at_175) rfl rfl k) ?_
    show own_Go p e below P T8 (mkF m 177 #[.val (.int p0), .val (.int p1), .val (.int p2), .val (.int p3), .val (.int kk), .val (.int oo), .val (.int (1 : Int32)), .val (.int pl), .val (.int r0), .val (.int r1), .val (.int r2), .val (.ref b1), .val (.int (own_srt (own_ref r0 kk) (-1 : Int32) (-1 : Int32) pl)), .val (.ref b5), .unset] [(.ref b5)])
    refine own_step (fun _ k => XS.iconst X8.here hx rfl (hb hby at_177) k) ?_
    show own_Go p e below P T8 (mkF m 178 #[.val (.int p0), .val (.int p1), .val (.int p2), .val (.int p3), .val (.int kk), .val (.int oo), .val (.int (1 : Int32)), .val (.int pl), .val (.int r0), .val (.int r1), .val (.int r2), .val (.ref b1), .val (.int (own_srt (own_ref r0 kk) (-1 : Int32) (-1 : Int32) pl)), .val (.ref b5), .unset] [(.int (2 : Int32)), (.ref b5)])
    refine own_step (fun _ k => XS.iload X8.here hx rfl (hb hby at_178) rfl k) ?_
    show own_Go p e below P T8 (mkF m 180 #[.val (.int p0), .val (.int p1), .val (.int p2), .val (.int p3), .val (.int kk), .val (.int oo), .val (.int (1 : Int32)), .val (.int pl), .val (.int r0), .val (.int r1), .val (.int r2), .val (.ref b1), .val (.int (own_srt (own_ref r0 kk) (-1 : Int32) (-1 : Int32) pl)), .val (.ref b5), .unset] [(.int (1 : Int32)), (.int (2 : Int32)), (.ref b5)])
    refine own_step (fun _ k => XS.iconst X8.here hx rfl (hb hby at_180) k) ?_
    show own_Go p e below P T8 (mkF m 181 #[.val (.int p0), .val (.int p1), .val (.int p2), .val (.int p3), .val (.int kk), .val (.int oo), .val (.int (1 : Int32)), .val (.int pl), .val (.int r0), .val (.int r1), .val (.int r2), .val (.ref b1), .val (.int (own_srt (own_ref r0 kk) (-1 : Int32) (-1 : Int32) pl)), .val (.ref b5), .unset] [(.int (3 : Int32)), (.int (1 : Int32)), (.int (2 : Int32)), (.ref b5)])
    refine own_step (fun _ k => XS.icmpYes X8.here hx rfl (pc0 := 181) (pc' := 194) rfl (hb hby at_181) rfl (tlt (by decide : (1 : Int32) < (3 : Int32))).1 (by decide) (by decide) k) ?_
    show own_Go p e below P T8 (mkF m 194 #[.val (.int p0), .val (.int p1), .val (.int p2), .val (.int p3), .val (.int kk), .val (.int oo), .val (.int (1 : Int32)), .val (.int pl), .val (.int r0), .val (.int r1), .val (.int r2), .val (.ref b1), .val (.int (own_srt (own_ref r0 kk) (-1 : Int32) (-1 : Int32) pl)), .val (.ref b5), .unset] [(.int (2 : Int32)), (.ref b5)])
    refine own_step (fun _ k => XS.iconst X8.here hx rfl (hb hby at_194) k) ?_
    show own_Go p e below P T8 (mkF m 195 #[.val (.int p0), .val (.int p1), .val (.int p2), .val (.int p3), .val (.int kk), .val (.int oo), .val (.int (1 : Int32)), .val (.int pl), .val (.int r0), .val (.int r1), .val (.int r2), .val (.ref b1), .val (.int (own_srt (own_ref r0 kk) (-1 : Int32) (-1 : Int32) pl)), .val (.ref b5), .unset] [(.int (-1 : Int32)), (.int (2 : Int32)), (.ref b5)])
    obtain ⟨cl9, Ar9, q9, S9, M9, H9, G9⟩ := (id V8)
    have hin9 : ¬ ((2 : Int32) < 0 ∨ cl9.slots.size ≤ ((2 : Int32)).toNatClampNeg) := inb_of S9 ⟨by decide, by decide⟩
    obtain ⟨T9, h9, X9, e9, W9, st9⟩ := stI X8 hx hZ e8 Ar9 (j := (2 : Int32)) hin9 (g := (mkF m 195 #[.val (.int p0), .val (.int p1), .val (.int p2), .val (.int p3), .val (.int kk), .val (.int oo), .val (.int (1 : Int32)), .val (.int pl), .val (.int r0), .val (.int r1), .val (.int r2), .val (.ref b1), .val (.int (own_srt (own_ref r0 kk) (-1 : Int32) (-1 : Int32) pl)), .val (.ref b5), .unset] [(.int (-1 : Int32)), (.int (2 : Int32)), (.ref b5)])) rfl rfl (hb hby at_195)
    have V9 : Arv Z h9 b5 k5 .int (3 : Int32) [(.int (own_ref r0 kk)), (.int (-1 : Int32)), (.int (-1 : Int32))] (.int (0 : Int32)) := Arv.set Ar9 q9 S9 M9 H9 G9 rfl W9 2 rfl (Nat.le_of_ble_eq_true rfl)
    have N9 := Fr.snoc X9 N8 g_b5
    refine own_step st9 ?_
    show own_Go p e below P T9 (mkF m 196 #[.val (.int p0), .val (.int p1), .val (.int p2), .val (.int p3), .val (.int kk), .val (.int oo), .val (.int (1 : Int32)), .val (.int pl), .val (.int r0), .val (.int r1), .val (.int r2), .val (.ref b1), .val (.int (own_srt (own_ref r0 kk) (-1 : Int32) (-1 : Int32) pl)), .val (.ref b5), .unset] [])
    refine own_step (fun _ k => XS.aload X9.here hx rfl (hb hby at_196) rfl rfl k) ?_
    show own_Go p e below P T9 (mkF m 198 #[.val (.int p0), .val (.int p1), .val (.int p2), .val (.int p3), .val (.int kk), .val (.int oo), .val (.int (1 : Int32)), .val (.int pl), .val (.int r0), .val (.int r1), .val (.int r2), .val (.ref b1), .val (.int (own_srt (own_ref r0 kk) (-1 : Int32) (-1 : Int32) pl)), .val (.ref b5), .unset] [(.ref b5)])
    refine own_step (fun _ k => XS.iconst X9.here hx rfl (hb hby at_198) k) ?_
    show own_Go p e below P T9 (mkF m 199 #[.val (.int p0), .val (.int p1), .val (.int p2), .val (.int p3), .val (.int kk), .val (.int oo), .val (.int (1 : Int32)), .val (.int pl), .val (.int r0), .val (.int r1), .val (.int r2), .val (.ref b1), .val (.int (own_srt (own_ref r0 kk) (-1 : Int32) (-1 : Int32) pl)), .val (.ref b5), .unset] [(.int (0 : Int32)), (.ref b5)])
    obtain ⟨cl10, Ar10, -, S10, M10, H10, -⟩ := (id V9)
    have hin10 : ¬ ((0 : Int32) < 0 ∨ cl10.slots.size ≤ ((0 : Int32)).toNatClampNeg) := inb_of S10 ⟨by decide, by decide⟩
    refine own_step (fun t k => X9.iaload hx (j := (0 : Int32)) (v := (.int (own_ref r0 kk))) (by rw [e9]; exact Ar10.1) (State.isArrayOf_alike hZ.alike Ar10.2.1) Ar10.2.2 hin10 (Has.at H10 hin10 rfl) (g := (mkF m 199 #[.val (.int p0), .val (.int p1), .val (.int p2), .val (.int p3), .val (.int kk), .val (.int oo), .val (.int (1 : Int32)), .val (.int pl), .val (.int r0), .val (.int r1), .val (.int r2), .val (.ref b1), .val (.int (own_srt (own_ref r0 kk) (-1 : Int32) (-1 : Int32) pl)), .val (.ref b5), .unset] [(.int (0 : Int32)), (.ref b5)])) rfl rfl (hb hby at_199) t k) ?_
    show own_Go p e below P T9 (mkF m 200 #[.val (.int p0), .val (.int p1), .val (.int p2), .val (.int p3), .val (.int kk), .val (.int oo), .val (.int (1 : Int32)), .val (.int pl), .val (.int r0), .val (.int r1), .val (.int r2), .val (.ref b1), .val (.int (own_srt (own_ref r0 kk) (-1 : Int32) (-1 : Int32) pl)), .val (.ref b5), .unset] [(.int (own_ref r0 kk))])
    refine own_step (fun _ k => XS.aload X9.here hx rfl (hb hby at_200) rfl rfl k) ?_
    show own_Go p e below P T9 (mkF m 202 #[.val (.int p0), .val (.int p1), .val (.int p2), .val (.int p3), .val (.int kk), .val (.int oo), .val (.int (1 : Int32)), .val (.int pl), .val (.int r0), .val (.int r1), .val (.int r2), .val (.ref b1), .val (.int (own_srt (own_ref r0 kk) (-1 : Int32) (-1 : Int32) pl)), .val (.ref b5), .unset] [(.ref b5), (.int (own_ref r0 kk))])
    refine own_step (fun _ k => XS.iconst X9.here hx rfl (hb hby at_202) k) ?_
    show own_Go p e below P T9 (mkF m 203 #[.val (.int p0), .val (.int p1), .val (.int p2), .val (.int p3), .val (.int kk), .val (.int oo), .val (.int (1 : Int32)), .val (.int pl), .val (.int r0), .val (.int r1), .val (.int r2), .val (.ref b1), .val (.int (own_srt (own_ref r0 kk) (-1 : Int32) (-1 : Int32) pl)), .val (.ref b5), .unset] [(.int (1 : Int32)), (.ref b5), (.int (own_ref r0 kk))])
    obtain ⟨cl11, Ar11, -, S11, M11, H11, -⟩ := (id V9)
    have hin11 : ¬ ((1 : Int32) < 0 ∨ cl11.slots.size ≤ ((1 : Int32)).toNatClampNeg) := inb_of S11 ⟨by decide, by decide⟩
    refine own_step (fun t k => X9.iaload hx (j := (1 : Int32)) (v := (.int (-1 : Int32))) (by rw [e9]; exact Ar11.1) (State.isArrayOf_alike hZ.alike Ar11.2.1) Ar11.2.2 hin11 (Has.at H11 hin11 rfl) (g := (mkF m 203 #[.val (.int p0), .val (.int p1), .val (.int p2), .val (.int p3), .val (.int kk), .val (.int oo), .val (.int (1 : Int32)), .val (.int pl), .val (.int r0), .val (.int r1), .val (.int r2), .val (.ref b1), .val (.int (own_srt (own_ref r0 kk) (-1 : Int32) (-1 : Int32) pl)), .val (.ref b5), .unset] [(.int (1 : Int32)), (.ref b5), (.int (own_ref r0 kk))])) rfl rfl (hb hby at_203) t k) ?_
    show own_Go p e below P T9 (mkF m 204 #[.val (.int p0), .val (.int p1), .val (.int p2), .val (.int p3), .val (.int kk), .val (.int oo), .val (.int (1 : Int32)), .val (.int pl), .val (.int r0), .val (.int r1), .val (.int r2), .val (.ref b1), .val (.int (own_srt (own_ref r0 kk) (-1 : Int32) (-1 : Int32) pl)), .val (.ref b5), .unset] [(.int (-1 : Int32)), (.int (own_ref r0 kk))])
    by_cases hc12 : (own_ref r0 kk) < (-1 : Int32)
    · refine own_step (fun _ k => XS.icmpNo X9.here hx rfl (hb hby at_204) rfl (tlt hc12).2.1 k) ?_
      show own_Go p e below P T9 (mkF m 207 #[.val (.int p0), .val (.int p1), .val (.int p2), .val (.int p3), .val (.int kk), .val (.int oo), .val (.int (1 : Int32)), .val (.int pl), .val (.int r0), .val (.int r1), .val (.int r2), .val (.ref b1), .val (.int (own_srt (own_ref r0 kk) (-1 : Int32) (-1 : Int32) pl)), .val (.ref b5), .unset] [])
      refine own_step (fun _ k => XS.aload X9.here hx rfl (hb hby at_207) rfl rfl k) ?_
      show own_Go p e below P T9 (mkF m 209 #[.val (.int p0), .val (.int p1), .val (.int p2), .val (.int p3), .val (.int kk), .val (.int oo), .val (.int (1 : Int32)), .val (.int pl), .val (.int r0), .val (.int r1), .val (.int r2), .val (.ref b1), .val (.int (own_srt (own_ref r0 kk) (-1 : Int32) (-1 : Int32) pl)), .val (.ref b5), .unset] [(.ref b5)])
      refine own_step (fun _ k => XS.iconst X9.here hx rfl (hb hby at_209) k) ?_
      show own_Go p e below P T9 (mkF m 210 #[.val (.int p0), .val (.int p1), .val (.int p2), .val (.int p3), .val (.int kk), .val (.int oo), .val (.int (1 : Int32)), .val (.int pl), .val (.int r0), .val (.int r1), .val (.int r2), .val (.ref b1), .val (.int (own_srt (own_ref r0 kk) (-1 : Int32) (-1 : Int32) pl)), .val (.ref b5), .unset] [(.int (0 : Int32)), (.ref b5)])
      obtain ⟨cl13, Ar13, -, S13, M13, H13, -⟩ := (id V9)
      have hin13 : ¬ ((0 : Int32) < 0 ∨ cl13.slots.size ≤ ((0 : Int32)).toNatClampNeg) := inb_of S13 ⟨by decide, by decide⟩
      refine own_step (fun t k => X9.iaload hx (j := (0 : Int32)) (v := (.int (own_ref r0 kk))) (by rw [e9]; exact Ar13.1) (State.isArrayOf_alike hZ.alike Ar13.2.1) Ar13.2.2 hin13 (Has.at H13 hin13 rfl) (g := (mkF m 210 #[.val (.int p0), .val (.int p1), .val (.int p2), .val (.int p3), .val (.int kk), .val (.int oo), .val (.int (1 : Int32)), .val (.int pl), .val (.int r0), .val (.int r1), .val (.int r2), .val (.ref b1), .val (.int (own_srt (own_ref r0 kk) (-1 : Int32) (-1 : Int32) pl)), .val (.ref b5), .unset] [(.int (0 : Int32)), (.ref b5)])) rfl rfl (hb hby at_210) t k) ?_
      show own_Go p e below P T9 (mkF m 211 #[.val (.int p0), .val (.int p1), .val (.int p2), .val (.int p3), .val (.int kk), .val (.int oo), .val (.int (1 : Int32)), .val (.int pl), .val (.int r0), .val (.int r1), .val (.int r2), .val (.ref b1), .val (.int (own_srt (own_ref r0 kk) (-1 : Int32) (-1 : Int32) pl)), .val (.ref b5), .unset] [(.int (own_ref r0 kk))])
      refine own_step (fun _ k => XS.istore X9.here hx rfl (hb hby at_211) rfl (l' := #[.val (.int p0), .val (.int p1), .val (.int p2), .val (.int p3), .val (.int kk), .val (.int oo), .val (.int (1 : Int32)), .val (.int pl), .val (.int r0), .val (.int r1), .val (.int r2), .val (.ref b1), .val (.int (own_srt (own_ref r0 kk) (-1 : Int32) (-1 : Int32) pl)), .val (.ref b5), .val (.int (own_ref r0 kk))]) rfl k) ?_
      show own_Go p e below P T9 (mkF m 213 #[.val (.int p0), .val (.int p1), .val (.int p2), .val (.int p3), .val (.int kk), .val (.int oo), .val (.int (1 : Int32)), .val (.int pl), .val (.int r0), .val (.int r1), .val (.int r2), .val (.ref b1), .val (.int (own_srt (own_ref r0 kk) (-1 : Int32) (-1 : Int32) pl)), .val (.ref b5), .val (.int (own_ref r0 kk))] [])
      refine own_step (fun _ k => XS.aload X9.here hx rfl (hb hby at_213) rfl rfl k) ?_
      show own_Go p e below P T9 (mkF m 215 #[.val (.int p0), .val (.int p1), .val (.int p2), .val (.int p3), .val (.int kk), .val (.int oo), .val (.int (1 : Int32)), .val (.int pl), .val (.int r0), .val (.int r1), .val (.int r2), .val (.ref b1), .val (.int (own_srt (own_ref r0 kk) (-1 : Int32) (-1 : Int32) pl)), .val (.ref b5), .val (.int (own_ref r0 kk))] [(.ref b5)])
      refine own_step (fun _ k => XS.iconst X9.here hx rfl (hb hby at_215) k) ?_
      show own_Go p e below P T9 (mkF m 216 #[.val (.int p0), .val (.int p1), .val (.int p2), .val (.int p3), .val (.int kk), .val (.int oo), .val (.int (1 : Int32)), .val (.int pl), .val (.int r0), .val (.int r1), .val (.int r2), .val (.ref b1), .val (.int (own_srt (own_ref r0 kk) (-1 : Int32) (-1 : Int32) pl)), .val (.ref b5), .val (.int (own_ref r0 kk))] [(.int (0 : Int32)), (.ref b5)])
      refine own_step (fun _ k => XS.aload X9.here hx rfl (hb hby at_216) rfl rfl k) ?_
      show own_Go p e below P T9 (mkF m 218 #[.val (.int p0), .val (.int p1), .val (.int p2), .val (.int p3), .val (.int kk), .val (.int oo), .val (.int (1 : Int32)), .val (.int pl), .val (.int r0), .val (.int r1), .val (.int r2), .val (.ref b1), .val (.int (own_srt (own_ref r0 kk) (-1 : Int32) (-1 : Int32) pl)), .val (.ref b5), .val (.int (own_ref r0 kk))] [(.ref b5), (.int (0 : Int32)), (.ref b5)])
      refine own_step (fun _ k => XS.iconst X9.here hx rfl (hb hby at_218) k) ?_
      show own_Go p e below P T9 (mkF m 219 #[.val (.int p0), .val (.int p1), .val (.int p2), .val (.int p3), .val (.int kk), .val (.int oo), .val (.int (1 : Int32)), .val (.int pl), .val (.int r0), .val (.int r1), .val (.int r2), .val (.ref b1), .val (.int (own_srt (own_ref r0 kk) (-1 : Int32) (-1 : Int32) pl)), .val (.ref b5), .val (.int (own_ref r0 kk))] [(.int (1 : Int32)), (.ref b5), (.int (0 : Int32)), (.ref b5)])
      obtain ⟨cl14, Ar14, -, S14, M14, H14, -⟩ := (id V9)
      have hin14 : ¬ ((1 : Int32) < 0 ∨ cl14.slots.size ≤ ((1 : Int32)).toNatClampNeg) := inb_of S14 ⟨by decide, by decide⟩
      refine own_step (fun t k => X9.iaload hx (j := (1 : Int32)) (v := (.int (-1 : Int32))) (by rw [e9]; exact Ar14.1) (State.isArrayOf_alike hZ.alike Ar14.2.1) Ar14.2.2 hin14 (Has.at H14 hin14 rfl) (g := (mkF m 219 #[.val (.int p0), .val (.int p1), .val (.int p2), .val (.int p3), .val (.int kk), .val (.int oo), .val (.int (1 : Int32)), .val (.int pl), .val (.int r0), .val (.int r1), .val (.int r2), .val (.ref b1), .val (.int (own_srt (own_ref r0 kk) (-1 : Int32) (-1 : Int32) pl)), .val (.ref b5), .val (.int (own_ref r0 kk))] [(.int (1 : Int32)), (.ref b5), (.int (0 : Int32)), (.ref b5)])) rfl rfl (hb hby at_219) t k) ?_
      show own_Go p e below P T9 (mkF m 220 #[.val (.int p0), .val (.int p1), .val (.int p2), .val (.int p3), .val (.int kk), .val (.int oo), .val (.int (1 : Int32)), .val (.int pl), .val (.int r0), .val (.int r1), .val (.int r2), .val (.ref b1), .val (.int (own_srt (own_ref r0 kk) (-1 : Int32) (-1 : Int32) pl)), .val (.ref b5), .val (.int (own_ref r0 kk))] [(.int (-1 : Int32)), (.int (0 : Int32)), (.ref b5)])
      obtain ⟨cl15, Ar15, q15, S15, M15, H15, G15⟩ := (id V9)
      have hin15 : ¬ ((0 : Int32) < 0 ∨ cl15.slots.size ≤ ((0 : Int32)).toNatClampNeg) := inb_of S15 ⟨by decide, by decide⟩
      obtain ⟨T15, h15, X15, e15, W15, st15⟩ := stI X9 hx hZ e9 Ar15 (j := (0 : Int32)) hin15 (g := (mkF m 220 #[.val (.int p0), .val (.int p1), .val (.int p2), .val (.int p3), .val (.int kk), .val (.int oo), .val (.int (1 : Int32)), .val (.int pl), .val (.int r0), .val (.int r1), .val (.int r2), .val (.ref b1), .val (.int (own_srt (own_ref r0 kk) (-1 : Int32) (-1 : Int32) pl)), .val (.ref b5), .val (.int (own_ref r0 kk))] [(.int (-1 : Int32)), (.int (0 : Int32)), (.ref b5)])) rfl rfl (hb hby at_220)
      have V15 : Arv Z h15 b5 k5 .int (3 : Int32) [(.int (-1 : Int32)), (.int (-1 : Int32)), (.int (-1 : Int32))] (.int (0 : Int32)) := Arv.set Ar15 q15 S15 M15 H15 G15 rfl W15 0 rfl (Nat.le_of_ble_eq_true rfl)
      have N15 := Fr.snoc X15 N9 g_b5
      refine own_step st15 ?_
      show own_Go p e below P T15 (mkF m 221 #[.val (.int p0), .val (.int p1), .val (.int p2), .val (.int p3), .val (.int kk), .val (.int oo), .val (.int (1 : Int32)), .val (.int pl), .val (.int r0), .val (.int r1), .val (.int r2), .val (.ref b1), .val (.int (own_srt (own_ref r0 kk) (-1 : Int32) (-1 : Int32) pl)), .val (.ref b5), .val (.int (own_ref r0 kk))] [])
      refine own_step (fun _ k => XS.aload X15.here hx rfl (hb hby at_221) rfl rfl k) ?_
      show own_Go p e below P T15 (mkF m 223 #[.val (.int p0), .val (.int p1), .val (.int p2), .val (.int p3), .val (.int kk), .val (.int oo), .val (.int (1 : Int32)), .val (.int pl), .val (.int r0), .val (.int r1), .val (.int r2), .val (.ref b1), .val (.int (own_srt (own_ref r0 kk) (-1 : Int32) (-1 : Int32) pl)), .val (.ref b5), .val (.int (own_ref r0 kk))] [(.ref b5)])
      refine own_step (fun _ k => XS.iconst X15.here hx rfl (hb hby at_223) k) ?_
      show own_Go p e below P T15 (mkF m 224 #[.val (.int p0), .val (.int p1), .val (.int p2), .val (.int p3), .val (.int kk), .val (.int oo), .val (.int (1 : Int32)), .val (.int pl), .val (.int r0), .val (.int r1), .val (.int r2), .val (.ref b1), .val (.int (own_srt (own_ref r0 kk) (-1 : Int32) (-1 : Int32) pl)), .val (.ref b5), .val (.int (own_ref r0 kk))] [(.int (1 : Int32)), (.ref b5)])
      refine own_step (fun _ k => XS.iload X15.here hx rfl (hb hby at_224) rfl k) ?_
      show own_Go p e below P T15 (mkF m 226 #[.val (.int p0), .val (.int p1), .val (.int p2), .val (.int p3), .val (.int kk), .val (.int oo), .val (.int (1 : Int32)), .val (.int pl), .val (.int r0), .val (.int r1), .val (.int r2), .val (.ref b1), .val (.int (own_srt (own_ref r0 kk) (-1 : Int32) (-1 : Int32) pl)), .val (.ref b5), .val (.int (own_ref r0 kk))] [(.int (own_ref r0 kk)), (.int (1 : Int32)), (.ref b5)])
      obtain ⟨cl16, Ar16, q16, S16, M16, H16, G16⟩ := (id V15)
      have hin16 : ¬ ((1 : Int32) < 0 ∨ cl16.slots.size ≤ ((1 : Int32)).toNatClampNeg) := inb_of S16 ⟨by decide, by decide⟩
      obtain ⟨T16, h16, X16, e16, W16, st16⟩ := stI X15 hx hZ e15 Ar16 (j := (1 : Int32)) hin16 (g := (mkF m 226 #[.val (.int p0), .val (.int p1), .val (.int p2), .val (.int p3), .val (.int kk), .val (.int oo), .val (.int (1 : Int32)), .val (.int pl), .val (.int r0), .val (.int r1), .val (.int r2), .val (.ref b1), .val (.int (own_srt (own_ref r0 kk) (-1 : Int32) (-1 : Int32) pl)), .val (.ref b5), .val (.int (own_ref r0 kk))] [(.int (own_ref r0 kk)), (.int (1 : Int32)), (.ref b5)])) rfl rfl (hb hby at_226)
      have V16 : Arv Z h16 b5 k5 .int (3 : Int32) [(.int (-1 : Int32)), (.int (own_ref r0 kk)), (.int (-1 : Int32))] (.int (0 : Int32)) := Arv.set Ar16 q16 S16 M16 H16 G16 rfl W16 1 rfl (Nat.le_of_ble_eq_true rfl)
      have N16 := Fr.snoc X16 N15 g_b5
      refine own_step st16 ?_
      show own_Go p e below P T16 (mkF m 227 #[.val (.int p0), .val (.int p1), .val (.int p2), .val (.int p3), .val (.int kk), .val (.int oo), .val (.int (1 : Int32)), .val (.int pl), .val (.int r0), .val (.int r1), .val (.int r2), .val (.ref b1), .val (.int (own_srt (own_ref r0 kk) (-1 : Int32) (-1 : Int32) pl)), .val (.ref b5), .val (.int (own_ref r0 kk))] [])
      refine own_step (fun _ k => XS.aload X16.here hx rfl (hb hby at_227) rfl rfl k) ?_
      show own_Go p e below P T16 (mkF m 229 #[.val (.int p0), .val (.int p1), .val (.int p2), .val (.int p3), .val (.int kk), .val (.int oo), .val (.int (1 : Int32)), .val (.int pl), .val (.int r0), .val (.int r1), .val (.int r2), .val (.ref b1), .val (.int (own_srt (own_ref r0 kk) (-1 : Int32) (-1 : Int32) pl)), .val (.ref b5), .val (.int (own_ref r0 kk))] [(.ref b5)])
      refine own_step (fun _ k => XS.iconst X16.here hx rfl (hb hby at_229) k) ?_
      show own_Go p e below P T16 (mkF m 230 #[.val (.int p0), .val (.int p1), .val (.int p2), .val (.int p3), .val (.int kk), .val (.int oo), .val (.int (1 : Int32)), .val (.int pl), .val (.int r0), .val (.int r1), .val (.int r2), .val (.ref b1), .val (.int (own_srt (own_ref r0 kk) (-1 : Int32) (-1 : Int32) pl)), .val (.ref b5), .val (.int (own_ref r0 kk))] [(.int (1 : Int32)), (.ref b5)])
      obtain ⟨cl17, Ar17, -, S17, M17, H17, -⟩ := (id V16)
      have hin17 : ¬ ((1 : Int32) < 0 ∨ cl17.slots.size ≤ ((1 : Int32)).toNatClampNeg) := inb_of S17 ⟨by decide, by decide⟩
      refine own_step (fun t k => X16.iaload hx (j := (1 : Int32)) (v := (.int (own_ref r0 kk))) (by rw [e16]; exact Ar17.1) (State.isArrayOf_alike hZ.alike Ar17.2.1) Ar17.2.2 hin17 (Has.at H17 hin17 rfl) (g := (mkF m 230 #[.val (.int p0), .val (.int p1), .val (.int p2), .val (.int p3), .val (.int kk), .val (.int oo), .val (.int (1 : Int32)), .val (.int pl), .val (.int r0), .val (.int r1), .val (.int r2), .val (.ref b1), .val (.int (own_srt (own_ref r0 kk) (-1 : Int32) (-1 : Int32) pl)), .val (.ref b5), .val (.int (own_ref r0 kk))] [(.int (1 : Int32)), (.ref b5)])) rfl rfl (hb hby at_230) t k) ?_
      show own_Go p e below P T16 (mkF m 231 #[.val (.int p0), .val (.int p1), .val (.int p2), .val (.int p3), .val (.int kk), .val (.int oo), .val (.int (1 : Int32)), .val (.int pl), .val (.int r0), .val (.int r1), .val (.int r2), .val (.ref b1), .val (.int (own_srt (own_ref r0 kk) (-1 : Int32) (-1 : Int32) pl)), .val (.ref b5), .val (.int (own_ref r0 kk))] [(.int (own_ref r0 kk))])
      refine own_step (fun _ k => XS.aload X16.here hx rfl (hb hby at_231) rfl rfl k) ?_
      show own_Go p e below P T16 (mkF m 233 #[.val (.int p0), .val (.int p1), .val (.int p2), .val (.int p3), .val (.int kk), .val (.int oo), .val (.int (1 : Int32)), .val (.int pl), .val (.int r0), .val (.int r1), .val (.int r2), .val (.ref b1), .val (.int (own_srt (own_ref r0 kk) (-1 : Int32) (-1 : Int32) pl)), .val (.ref b5), .val (.int (own_ref r0 kk))] [(.ref b5), (.int (own_ref r0 kk))])
      refine own_step (fun _ k => XS.iconst X16.here hx rfl (hb hby at_233) k) ?_
      show own_Go p e below P T16 (mkF m 234 #[.val (.int p0), .val (.int p1), .val (.int p2), .val (.int p3), .val (.int kk), .val (.int oo), .val (.int (1 : Int32)), .val (.int pl), .val (.int r0), .val (.int r1), .val (.int r2), .val (.ref b1), .val (.int (own_srt (own_ref r0 kk) (-1 : Int32) (-1 : Int32) pl)), .val (.ref b5), .val (.int (own_ref r0 kk))] [(.int (2 : Int32)), (.ref b5), (.int (own_ref r0 kk))])
      obtain ⟨cl18, Ar18, -, S18, M18, H18, -⟩ := (id V16)
      have hin18 : ¬ ((2 : Int32) < 0 ∨ cl18.slots.size ≤ ((2 : Int32)).toNatClampNeg) := inb_of S18 ⟨by decide, by decide⟩
      refine own_step (fun t k => X16.iaload hx (j := (2 : Int32)) (v := (.int (-1 : Int32))) (by rw [e16]; exact Ar18.1) (State.isArrayOf_alike hZ.alike Ar18.2.1) Ar18.2.2 hin18 (Has.at H18 hin18 rfl) (g := (mkF m 234 #[.val (.int p0), .val (.int p1), .val (.int p2), .val (.int p3), .val (.int kk), .val (.int oo), .val (.int (1 : Int32)), .val (.int pl), .val (.int r0), .val (.int r1), .val (.int r2), .val (.ref b1), .val (.int (own_srt (own_ref r0 kk) (-1 : Int32) (-1 : Int32) pl)), .val (.ref b5), .val (.int (own_ref r0 kk))] [(.int (2 : Int32)), (.ref b5), (.int (own_ref r0 kk))])) rfl rfl (hb hby at_234) t k) ?_
      show own_Go p e below P T16 (mkF m 235 #[.val (.int p0), .val (.int p1), .val (.int p2), .val (.int p3), .val (.int kk), .val (.int oo), .val (.int (1 : Int32)), .val (.int pl), .val (.int r0), .val (.int r1), .val (.int r2), .val (.ref b1), .val (.int (own_srt (own_ref r0 kk) (-1 : Int32) (-1 : Int32) pl)), .val (.ref b5), .val (.int (own_ref r0 kk))] [(.int (-1 : Int32)), (.int (own_ref r0 kk))])
      refine own_step (fun _ k => XS.icmpNo X16.here hx rfl (hb hby at_235) rfl (tlt hc12).2.1 k) ?_
      show own_Go p e below P T16 (mkF m 238 #[.val (.int p0), .val (.int p1), .val (.int p2), .val (.int p3), .val (.int kk), .val (.int oo), .val (.int (1 : Int32)), .val (.int pl), .val (.int r0), .val (.int r1), .val (.int r2), .val (.ref b1), .val (.int (own_srt (own_ref r0 kk) (-1 : Int32) (-1 : Int32) pl)), .val (.ref b5), .val (.int (own_ref r0 kk))] [])
      refine own_step (fun _ k => XS.aload X16.here hx rfl (hb hby at_238) rfl rfl k) ?_
      show own_Go p e below P T16 (mkF m 240 #[.val (.int p0), .val (.int p1), .val (.int p2), .val (.int p3), .val (.int kk), .val (.int oo), .val (.int (1 : Int32)), .val (.int pl), .val (.int r0), .val (.int r1), .val (.int r2), .val (.ref b1), .val (.int (own_srt (own_ref r0 kk) (-1 : Int32) (-1 : Int32) pl)), .val (.ref b5), .val (.int (own_ref r0 kk))] [(.ref b5)])
      refine own_step (fun _ k => XS.iconst X16.here hx rfl (hb hby at_240) k) ?_
      show own_Go p e below P T16 (mkF m 241 #[.val (.int p0), .val (.int p1), .val (.int p2), .val (.int p3), .val (.int kk), .val (.int oo), .val (.int (1 : Int32)), .val (.int pl), .val (.int r0), .val (.int r1), .val (.int r2), .val (.ref b1), .val (.int (own_srt (own_ref r0 kk) (-1 : Int32) (-1 : Int32) pl)), .val (.ref b5), .val (.int (own_ref r0 kk))] [(.int (1 : Int32)), (.ref b5)])
      obtain ⟨cl19, Ar19, -, S19, M19, H19, -⟩ := (id V16)
      have hin19 : ¬ ((1 : Int32) < 0 ∨ cl19.slots.size ≤ ((1 : Int32)).toNatClampNeg) := inb_of S19 ⟨by decide, by decide⟩
      refine own_step (fun t k => X16.iaload hx (j := (1 : Int32)) (v := (.int (own_ref r0 kk))) (by rw [e16]; exact Ar19.1) (State.isArrayOf_alike hZ.alike Ar19.2.1) Ar19.2.2 hin19 (Has.at H19 hin19 rfl) (g := (mkF m 241 #[.val (.int p0), .val (.int p1), .val (.int p2), .val (.int p3), .val (.int kk), .val (.int oo), .val (.int (1 : Int32)), .val (.int pl), .val (.int r0), .val (.int r1), .val (.int r2), .val (.ref b1), .val (.int (own_srt (own_ref r0 kk) (-1 : Int32) (-1 : Int32) pl)), .val (.ref b5), .val (.int (own_ref r0 kk))] [(.int (1 : Int32)), (.ref b5)])) rfl rfl (hb hby at_241) t k) ?_
      show own_Go p e below P T16 (mkF m 242 #[.val (.int p0), .val (.int p1), .val (.int p2), .val (.int p3), .val (.int kk), .val (.int oo), .val (.int (1 : Int32)), .val (.int pl), .val (.int r0), .val (.int r1), .val (.int r2), .val (.ref b1), .val (.int (own_srt (own_ref r0 kk) (-1 : Int32) (-1 : Int32) pl)), .val (.ref b5), .val (.int (own_ref r0 kk))] [(.int (own_ref r0 kk))])
      refine own_step (fun _ k => XS.istore X16.here hx rfl (hb hby at_242) rfl (l' := #[.val (.int p0), .val (.int p1), .val (.int p2), .val (.int p3), .val (.int kk), .val (.int oo), .val (.int (1 : Int32)), .val (.int pl), .val (.int r0), .val (.int r1), .val (.int r2), .val (.ref b1), .val (.int (own_srt (own_ref r0 kk) (-1 : Int32) (-1 : Int32) pl)), .val (.ref b5), .val (.int (own_ref r0 kk))]) rfl k) ?_
      show own_Go p e below P T16 (mkF m 244 #[.val (.int p0), .val (.int p1), .val (.int p2), .val (.int p3), .val (.int kk), .val (.int oo), .val (.int (1 : Int32)), .val (.int pl), .val (.int r0), .val (.int r1), .val (.int r2), .val (.ref b1), .val (.int (own_srt (own_ref r0 kk) (-1 : Int32) (-1 : Int32) pl)), .val (.ref b5), .val (.int (own_ref r0 kk))] [])
      refine own_step (fun _ k => XS.aload X16.here hx rfl (hb hby at_244) rfl rfl k) ?_
      show own_Go p e below P T16 (mkF m 246 #[.val (.int p0), .val (.int p1), .val (.int p2), .val (.int p3), .val (.int kk), .val (.int oo), .val (.int (1 : Int32)), .val (.int pl), .val (.int r0), .val (.int r1), .val (.int r2), .val (.ref b1), .val (.int (own_srt (own_ref r0 kk) (-1 : Int32) (-1 : Int32) pl)), .val (.ref b5), .val (.int (own_ref r0 kk))] [(.ref b5)])
      refine own_step (fun _ k => XS.iconst X16.here hx rfl (hb hby at_246) k) ?_
      show own_Go p e below P T16 (mkF m 247 #[.val (.int p0), .val (.int p1), .val (.int p2), .val (.int p3), .val (.int kk), .val (.int oo), .val (.int (1 : Int32)), .val (.int pl), .val (.int r0), .val (.int r1), .val (.int r2), .val (.ref b1), .val (.int (own_srt (own_ref r0 kk) (-1 : Int32) (-1 : Int32) pl)), .val (.ref b5), .val (.int (own_ref r0 kk))] [(.int (1 : Int32)), (.ref b5)])
      refine own_step (fun _ k => XS.aload X16.here hx rfl (hb hby at_247) rfl rfl k) ?_
      show own_Go p e below P T16 (mkF m 249 #[.val (.int p0), .val (.int p1), .val (.int p2), .val (.int p3), .val (.int kk), .val (.int oo), .val (.int (1 : Int32)), .val (.int pl), .val (.int r0), .val (.int r1), .val (.int r2), .val (.ref b1), .val (.int (own_srt (own_ref r0 kk) (-1 : Int32) (-1 : Int32) pl)), .val (.ref b5), .val (.int (own_ref r0 kk))] [(.ref b5), (.int (1 : Int32)), (.ref b5)])
      refine own_step (fun _ k => XS.iconst X16.here hx rfl (hb hby at_249) k) ?_
      show own_Go p e below P T16 (mkF m 250 #[.val (.int p0), .val (.int p1), .val (.int p2), .val (.int p3), .val (.int kk), .val (.int oo), .val (.int (1 : Int32)), .val (.int pl), .val (.int r0), .val (.int r1), .val (.int r2), .val (.ref b1), .val (.int (own_srt (own_ref r0 kk) (-1 : Int32) (-1 : Int32) pl)), .val (.ref b5), .val (.int (own_ref r0 kk))] [(.int (2 : Int32)), (.ref b5), (.int (1 : Int32)), (.ref b5)])
      obtain ⟨cl20, Ar20, -, S20, M20, H20, -⟩ := (id V16)
      have hin20 : ¬ ((2 : Int32) < 0 ∨ cl20.slots.size ≤ ((2 : Int32)).toNatClampNeg) := inb_of S20 ⟨by decide, by decide⟩
      refine own_step (fun t k => X16.iaload hx (j := (2 : Int32)) (v := (.int (-1 : Int32))) (by rw [e16]; exact Ar20.1) (State.isArrayOf_alike hZ.alike Ar20.2.1) Ar20.2.2 hin20 (Has.at H20 hin20 rfl) (g := (mkF m 250 #[.val (.int p0), .val (.int p1), .val (.int p2), .val (.int p3), .val (.int kk), .val (.int oo), .val (.int (1 : Int32)), .val (.int pl), .val (.int r0), .val (.int r1), .val (.int r2), .val (.ref b1), .val (.int (own_srt (own_ref r0 kk) (-1 : Int32) (-1 : Int32) pl)), .val (.ref b5), .val (.int (own_ref r0 kk))] [(.int (2 : Int32)), (.ref b5), (.int (1 : Int32)), (.ref b5)])) rfl rfl (hb hby at_250) t k) ?_
      show own_Go p e below P T16 (mkF m 251 #[.val (.int p0), .val (.int p1), .val (.int p2), .val (.int p3), .val (.int kk), .val (.int oo), .val (.int (1 : Int32)), .val (.int pl), .val (.int r0), .val (.int r1), .val (.int r2), .val (.ref b1), .val (.int (own_srt (own_ref r0 kk) (-1 : Int32) (-1 : Int32) pl)), .val (.ref b5), .val (.int (own_ref r0 kk))] [(.int (-1 : Int32)), (.int (1 : Int32)), (.ref b5)])
      obtain ⟨cl21, Ar21, q21, S21, M21, H21, G21⟩ := (id V16)
      have hin21 : ¬ ((1 : Int32) < 0 ∨ cl21.slots.size ≤ ((1 : Int32)).toNatClampNeg) := inb_of S21 ⟨by decide, by decide⟩
      obtain ⟨T21, h21, X21, e21, W21, st21⟩ := stI X16 hx hZ e16 Ar21 (j := (1 : Int32)) hin21 (g := (mkF m 251 #[.val (.int p0), .val (.int p1), .val (.int p2), .val (.int p3), .val (.int kk), .val (.int oo), .val (.int (1 : Int32)), .val (.int pl), .val (.int r0), .val (.int r1), .val (.int r2), .val (.ref b1), .val (.int (own_srt (own_ref r0 kk) (-1 : Int32) (-1 : Int32) pl)), .val (.ref b5), .val (.int (own_ref r0 kk))] [(.int (-1 : Int32)), (.int (1 : Int32)), (.ref b5)])) rfl rfl (hb hby at_251)
      have V21 : Arv Z h21 b5 k5 .int (3 : Int32) [(.int (-1 : Int32)), (.int (-1 : Int32)), (.int (-1 : Int32))] (.int (0 : Int32)) := Arv.set Ar21 q21 S21 M21 H21 G21 rfl W21 1 rfl (Nat.le_of_ble_eq_true rfl)
      have N21 := Fr.snoc X21 N16 g_b5
      refine own_step st21 ?_
      show own_Go p e below P T21 (mkF m 252 #[.val (.int p0), .val (.int p1), .val (.int p2), .val (.int p3), .val (.int kk), .val (.int oo), .val (.int (1 : Int32)), .val (.int pl), .val (.int r0), .val (.int r1), .val (.int r2), .val (.ref b1), .val (.int (own_srt (own_ref r0 kk) (-1 : Int32) (-1 : Int32) pl)), .val (.ref b5), .val (.int (own_ref r0 kk))] [])
      refine own_step (fun _ k => XS.aload X21.here hx rfl (hb hby at_252) rfl rfl k) ?_
      show own_Go p e below P T21 (mkF m 254 #[.val (.int p0), .val (.int p1), .val (.int p2), .val (.int p3), .val (.int kk), .val (.int oo), .val (.int (1 : Int32)), .val (.int pl), .val (.int r0), .val (.int r1), .val (.int r2), .val (.ref b1), .val (.int (own_srt (own_ref r0 kk) (-1 : Int32) (-1 : Int32) pl)), .val (.ref b5), .val (.int (own_ref r0 kk))] [(.ref b5)])
      refine own_step (fun _ k => XS.iconst X21.here hx rfl (hb hby at_254) k) ?_
      show own_Go p e below P T21 (mkF m 255 #[.val (.int p0), .val (.int p1), .val (.int p2), .val (.int p3), .val (.int kk), .val (.int oo), .val (.int (1 : Int32)), .val (.int pl), .val (.int r0), .val (.int r1), .val (.int r2), .val (.ref b1), .val (.int (own_srt (own_ref r0 kk) (-1 : Int32) (-1 : Int32) pl)), .val (.ref b5), .val (.int (own_ref r0 kk))] [(.int (2 : Int32)), (.ref b5)])
      refine own_step (fun _ k => XS.iload X21.here hx rfl (hb hby at_255) rfl k) ?_
      show own_Go p e below P T21 (mkF m 257 #[.val (.int p0), .val (.int p1), .val (.int p2), .val (.int p3), .val (.int kk), .val (.int oo), .val (.int (1 : Int32)), .val (.int pl), .val (.int r0), .val (.int r1), .val (.int r2), .val (.ref b1), .val (.int (own_srt (own_ref r0 kk) (-1 : Int32) (-1 : Int32) pl)), .val (.ref b5), .val (.int (own_ref r0 kk))] [(.int (own_ref r0 kk)), (.int (2 : Int32)), (.ref b5)])
      obtain ⟨cl22, Ar22, q22, S22, M22, H22, G22⟩ := (id V21)
      have hin22 : ¬ ((2 : Int32) < 0 ∨ cl22.slots.size ≤ ((2 : Int32)).toNatClampNeg) := inb_of S22 ⟨by decide, by decide⟩
      obtain ⟨T22, h22, X22, e22, W22, st22⟩ := stI X21 hx hZ e21 Ar22 (j := (2 : Int32)) hin22 (g := (mkF m 257 #[.val (.int p0), .val (.int p1), .val (.int p2), .val (.int p3), .val (.int kk), .val (.int oo), .val (.int (1 : Int32)), .val (.int pl), .val (.int r0), .val (.int r1), .val (.int r2), .val (.ref b1), .val (.int (own_srt (own_ref r0 kk) (-1 : Int32) (-1 : Int32) pl)), .val (.ref b5), .val (.int (own_ref r0 kk))] [(.int (own_ref r0 kk)), (.int (2 : Int32)), (.ref b5)])) rfl rfl (hb hby at_257)
      have V22 : Arv Z h22 b5 k5 .int (3 : Int32) [(.int (-1 : Int32)), (.int (-1 : Int32)), (.int (own_ref r0 kk))] (.int (0 : Int32)) := Arv.set Ar22 q22 S22 M22 H22 G22 rfl W22 2 rfl (Nat.le_of_ble_eq_true rfl)
      have N22 := Fr.snoc X22 N21 g_b5
      refine own_step st22 ?_
      show own_Go p e below P T22 (mkF m 258 #[.val (.int p0), .val (.int p1), .val (.int p2), .val (.int p3), .val (.int kk), .val (.int oo), .val (.int (1 : Int32)), .val (.int pl), .val (.int r0), .val (.int r1), .val (.int r2), .val (.ref b1), .val (.int (own_srt (own_ref r0 kk) (-1 : Int32) (-1 : Int32) pl)), .val (.ref b5), .val (.int (own_ref r0 kk))] [])
      refine own_step (fun _ k => XS.aload X22.here hx rfl (hb hby at_258) rfl rfl k) ?_
      show own_Go p e below P T22 (mkF m 260 #[.val (.int p0), .val (.int p1), .val (.int p2), .val (.int p3), .val (.int kk), .val (.int oo), .val (.int (1 : Int32)), .val (.int pl), .val (.int r0), .val (.int r1), .val (.int r2), .val (.ref b1), .val (.int (own_srt (own_ref r0 kk) (-1 : Int32) (-1 : Int32) pl)), .val (.ref b5), .val (.int (own_ref r0 kk))] [(.ref b5)])
      refine own_step (fun _ k => XS.iconst X22.here hx rfl (hb hby at_260) k) ?_
      show own_Go p e below P T22 (mkF m 261 #[.val (.int p0), .val (.int p1), .val (.int p2), .val (.int p3), .val (.int kk), .val (.int oo), .val (.int (1 : Int32)), .val (.int pl), .val (.int r0), .val (.int r1), .val (.int r2), .val (.ref b1), .val (.int (own_srt (own_ref r0 kk) (-1 : Int32) (-1 : Int32) pl)), .val (.ref b5), .val (.int (own_ref r0 kk))] [(.int (0 : Int32)), (.ref b5)])
      obtain ⟨cl23, Ar23, -, S23, M23, H23, -⟩ := (id V22)
      have hin23 : ¬ ((0 : Int32) < 0 ∨ cl23.slots.size ≤ ((0 : Int32)).toNatClampNeg) := inb_of S23 ⟨by decide, by decide⟩
      refine own_step (fun t k => X22.iaload hx (j := (0 : Int32)) (v := (.int (-1 : Int32))) (by rw [e22]; exact Ar23.1) (State.isArrayOf_alike hZ.alike Ar23.2.1) Ar23.2.2 hin23 (Has.at H23 hin23 rfl) (g := (mkF m 261 #[.val (.int p0), .val (.int p1), .val (.int p2), .val (.int p3), .val (.int kk), .val (.int oo), .val (.int (1 : Int32)), .val (.int pl), .val (.int r0), .val (.int r1), .val (.int r2), .val (.ref b1), .val (.int (own_srt (own_ref r0 kk) (-1 : Int32) (-1 : Int32) pl)), .val (.ref b5), .val (.int (own_ref r0 kk))] [(.int (0 : Int32)), (.ref b5)])) rfl rfl (hb hby at_261) t k) ?_
      show own_Go p e below P T22 (mkF m 262 #[.val (.int p0), .val (.int p1), .val (.int p2), .val (.int p3), .val (.int kk), .val (.int oo), .val (.int (1 : Int32)), .val (.int pl), .val (.int r0), .val (.int r1), .val (.int r2), .val (.ref b1), .val (.int (own_srt (own_ref r0 kk) (-1 : Int32) (-1 : Int32) pl)), .val (.ref b5), .val (.int (own_ref r0 kk))] [(.int (-1 : Int32))])
      refine own_step (fun _ k => XS.aload X22.here hx rfl (hb hby at_262) rfl rfl k) ?_
      show own_Go p e below P T22 (mkF m 264 #[.val (.int p0), .val (.int p1), .val (.int p2), .val (.int p3), .val (.int kk), .val (.int oo), .val (.int (1 : Int32)), .val (.int pl), .val (.int r0), .val (.int r1), .val (.int r2), .val (.ref b1), .val (.int (own_srt (own_ref r0 kk) (-1 : Int32) (-1 : Int32) pl)), .val (.ref b5), .val (.int (own_ref r0 kk))] [(.ref b5), (.int (-1 : Int32))])
      refine own_step (fun _ k => XS.iconst X22.here hx rfl (hb hby at_264) k) ?_
      show own_Go p e below P T22 (mkF m 265 #[.val (.int p0), .val (.int p1), .val (.int p2), .val (.int p3), .val (.int kk), .val (.int oo), .val (.int (1 : Int32)), .val (.int pl), .val (.int r0), .val (.int r1), .val (.int r2), .val (.ref b1), .val (.int (own_srt (own_ref r0 kk) (-1 : Int32) (-1 : Int32) pl)), .val (.ref b5), .val (.int (own_ref r0 kk))] [(.int (1 : Int32)), (.ref b5), (.int (-1 : Int32))])
      obtain ⟨cl24, Ar24, -, S24, M24, H24, -⟩ := (id V22)
      have hin24 : ¬ ((1 : Int32) < 0 ∨ cl24.slots.size ≤ ((1 : Int32)).toNatClampNeg) := inb_of S24 ⟨by decide, by decide⟩
      refine own_step (fun t k => X22.iaload hx (j := (1 : Int32)) (v := (.int (-1 : Int32))) (by rw [e22]; exact Ar24.1) (State.isArrayOf_alike hZ.alike Ar24.2.1) Ar24.2.2 hin24 (Has.at H24 hin24 rfl) (g := (mkF m 265 #[.val (.int p0), .val (.int p1), .val (.int p2), .val (.int p3), .val (.int kk), .val (.int oo), .val (.int (1 : Int32)), .val (.int pl), .val (.int r0), .val (.int r1), .val (.int r2), .val (.ref b1), .val (.int (own_srt (own_ref r0 kk) (-1 : Int32) (-1 : Int32) pl)), .val (.ref b5), .val (.int (own_ref r0 kk))] [(.int (1 : Int32)), (.ref b5), (.int (-1 : Int32))])) rfl rfl (hb hby at_265) t k) ?_
      show own_Go p e below P T22 (mkF m 266 #[.val (.int p0), .val (.int p1), .val (.int p2), .val (.int p3), .val (.int kk), .val (.int oo), .val (.int (1 : Int32)), .val (.int pl), .val (.int r0), .val (.int r1), .val (.int r2), .val (.ref b1), .val (.int (own_srt (own_ref r0 kk) (-1 : Int32) (-1 : Int32) pl)), .val (.ref b5), .val (.int (own_ref r0 kk))] [(.int (-1 : Int32)), (.int (-1 : Int32))])
      refine own_step (fun _ k => XS.icmpYes X22.here hx rfl (pc0 := 266) (pc' := 289) rfl (hb hby at_266) rfl (flt (by decide : ¬ ((-1 : Int32) < (-1 : Int32)))).2.1 (by decide) (by decide) k) ?_
      show own_Go p e below P T22 (mkF m 289 #[.val (.int p0), .val (.int p1), .val (.int p2), .val (.int p3), .val (.int kk), .val (.int oo), .val (.int (1 : Int32)), .val (.int pl), .val (.int r0), .val (.int r1), .val (.int r2), .val (.ref b1), .val (.int (own_srt (own_ref r0 kk) (-1 : Int32) (-1 : Int32) pl)), .val (.ref b5), .val (.int (own_ref r0 kk))] [])
      have hpf := own_plf _ pi (by decide)
      rw [← hpi] at hpf
      refine own_step (fun _ k => XS.iload X22.here hx rfl (hb hby at_289) rfl k) ?_
      show own_Go p e below P T22 (mkF m 291 #[.val (.int p0), .val (.int p1), .val (.int p2), .val (.int p3), .val (.int kk), .val (.int oo), .val (.int (1 : Int32)), .val (.int pl), .val (.int r0), .val (.int r1), .val (.int r2), .val (.ref b1), .val (.int (own_srt (own_ref r0 kk) (-1 : Int32) (-1 : Int32) pl)), .val (.ref b5), .val (.int (own_ref r0 kk))] [(.int (own_srt (own_ref r0 kk) (-1 : Int32) (-1 : Int32) pl))])
      refine own_step (fun _ k => XS.aload X22.here hx rfl (hb hby at_291) rfl rfl k) ?_
      show own_Go p e below P T22 (mkF m 293 #[.val (.int p0), .val (.int p1), .val (.int p2), .val (.int p3), .val (.int kk), .val (.int oo), .val (.int (1 : Int32)), .val (.int pl), .val (.int r0), .val (.int r1), .val (.int r2), .val (.ref b1), .val (.int (own_srt (own_ref r0 kk) (-1 : Int32) (-1 : Int32) pl)), .val (.ref b5), .val (.int (own_ref r0 kk))] [(.ref b5), (.int (own_srt (own_ref r0 kk) (-1 : Int32) (-1 : Int32) pl))])
      refine own_step (fun _ k => XS.iload X22.here hx rfl (hb hby at_293) rfl k) ?_
      show own_Go p e below P T22 (mkF m 295 #[.val (.int p0), .val (.int p1), .val (.int p2), .val (.int p3), .val (.int kk), .val (.int oo), .val (.int (1 : Int32)), .val (.int pl), .val (.int r0), .val (.int r1), .val (.int r2), .val (.ref b1), .val (.int (own_srt (own_ref r0 kk) (-1 : Int32) (-1 : Int32) pl)), .val (.ref b5), .val (.int (own_ref r0 kk))] [(.int pl), (.ref b5), (.int (own_srt (own_ref r0 kk) (-1 : Int32) (-1 : Int32) pl))])
      obtain ⟨cl25, Ar25, -, S25, M25, H25, -⟩ := (id V22)
      have hin25 : ¬ (pl < 0 ∨ cl25.slots.size ≤ (pl).toNatClampNeg) := inb_of S25 ⟨hpf.1, hpf.2.1⟩
      refine own_step (fun t k => X22.iaload hx (j := pl) (v := (.int ([(-1 : Int32), (-1 : Int32), (own_ref r0 kk)].getD (pl).toNatClampNeg 0))) (by rw [e22]; exact Ar25.1) (State.isArrayOf_alike hZ.alike Ar25.2.1) Ar25.2.2 hin25 (Has.at H25 hin25 (own_gd [(-1 : Int32), (-1 : Int32), (own_ref r0 kk)] _)) (g := (mkF m 295 #[.val (.int p0), .val (.int p1), .val (.int p2), .val (.int p3), .val (.int kk), .val (.int oo), .val (.int (1 : Int32)), .val (.int pl), .val (.int r0), .val (.int r1), .val (.int r2), .val (.ref b1), .val (.int (own_srt (own_ref r0 kk) (-1 : Int32) (-1 : Int32) pl)), .val (.ref b5), .val (.int (own_ref r0 kk))] [(.int pl), (.ref b5), (.int (own_srt (own_ref r0 kk) (-1 : Int32) (-1 : Int32) pl))])) rfl rfl (hb hby at_295) t k) ?_
      show own_Go p e below P T22 (mkF m 296 #[.val (.int p0), .val (.int p1), .val (.int p2), .val (.int p3), .val (.int kk), .val (.int oo), .val (.int (1 : Int32)), .val (.int pl), .val (.int r0), .val (.int r1), .val (.int r2), .val (.ref b1), .val (.int (own_srt (own_ref r0 kk) (-1 : Int32) (-1 : Int32) pl)), .val (.ref b5), .val (.int (own_ref r0 kk))] [(.int ([(-1 : Int32), (-1 : Int32), (own_ref r0 kk)].getD (pl).toNatClampNeg 0)), (.int (own_srt (own_ref r0 kk) (-1 : Int32) (-1 : Int32) pl))])
      refine own_step (fun _ k => XS.icmpNo X22.here hx rfl (hb hby at_296) rfl (teq ((if_pos hc12).trans ((if_pos hc12).trans (if_neg (by decide : ¬ ((-1 : Int32) < (-1 : Int32))))))).2 k) ?_
      show own_Go p e below P T22 (mkF m 299 #[.val (.int p0), .val (.int p1), .val (.int p2), .val (.int p3), .val (.int kk), .val (.int oo), .val (.int (1 : Int32)), .val (.int pl), .val (.int r0), .val (.int r1), .val (.int r2), .val (.ref b1), .val (.int (own_srt (own_ref r0 kk) (-1 : Int32) (-1 : Int32) pl)), .val (.ref b5), .val (.int (own_ref r0 kk))] [])
      refine own_step (fun _ k => XS.iconst X22.here hx rfl (hb hby at_299) k) ?_
      show own_Go p e below P T22 (mkF m 300 #[.val (.int p0), .val (.int p1), .val (.int p2), .val (.int p3), .val (.int kk), .val (.int oo), .val (.int (1 : Int32)), .val (.int pl), .val (.int r0), .val (.int r1), .val (.int r2), .val (.ref b1), .val (.int (own_srt (own_ref r0 kk) (-1 : Int32) (-1 : Int32) pl)), .val (.ref b5), .val (.int (own_ref r0 kk))] [(.int (1 : Int32))])
      refine own_step (fun _ k => XS.goto X22.here hx rfl (pc0 := 300) (pc' := 304) rfl (hb hby at_300) (by decide) (by decide) k) ?_
      show own_Go p e below P T22 (mkF m 304 #[.val (.int p0), .val (.int p1), .val (.int p2), .val (.int p3), .val (.int kk), .val (.int oo), .val (.int (1 : Int32)), .val (.int pl), .val (.int r0), .val (.int r1), .val (.int r2), .val (.ref b1), .val (.int (own_srt (own_ref r0 kk) (-1 : Int32) (-1 : Int32) pl)), .val (.ref b5), .val (.int (own_ref r0 kk))] [(.int (1 : Int32))])
      obtain ⟨fs, hr, hrun, hended, hW, hsame⟩ := X22.leave (v := some (.int (1 : Int32))) (fun h => by rw [Bd.returns] at h; cases h)
      refine ⟨_, _, retN X22 hx (t := .boolean) Bd.returns (by simp) (hb hby at_304) hr, hrun, hended, hfin _ _ ⟨_, _, rfl, ?_, ⟨_, rfl⟩, hW, hsame.mono (by decide) (by decide)⟩⟩
      show Q0 Z p0 p1 p2 p3 h0 n0 (some (.int (1 : Int32))) T22.heap _
      rw [e22]
      exact ⟨rfl, N22⟩
    · refine own_step (fun _ k => XS.icmpYes X9.here hx rfl (pc0 := 204) (pc' := 227) rfl (hb hby at_204) rfl (flt hc12).2.1 (by decide) (by decide) k) ?_
      show own_Go p e below P T9 (mkF m 227 #[.val (.int p0), .val (.int p1), .val (.int p2), .val (.int p3), .val (.int kk), .val (.int oo), .val (.int (1 : Int32)), .val (.int pl), .val (.int r0), .val (.int r1), .val (.int r2), .val (.ref b1), .val (.int (own_srt (own_ref r0 kk) (-1 : Int32) (-1 : Int32) pl)), .val (.ref b5), .unset] [])
      refine own_step (fun _ k => XS.aload X9.here hx rfl (hb hby at_227) rfl rfl k) ?_
      show own_Go p e below P T9 (mkF m 229 #[.val (.int p0), .val (.int p1), .val (.int p2), .val (.int p3), .val (.int kk), .val (.int oo), .val (.int (1 : Int32)), .val (.int pl), .val (.int r0), .val (.int r1), .val (.int r2), .val (.ref b1), .val (.int (own_srt (own_ref r0 kk) (-1 : Int32) (-1 : Int32) pl)), .val (.ref b5), .unset] [(.ref b5)])
      refine own_step (fun _ k => XS.iconst X9.here hx rfl (hb hby at_229) k) ?_
      show own_Go p e below P T9 (mkF m 230 #[.val (.int p0), .val (.int p1), .val (.int p2), .val (.int p3), .val (.int kk), .val (.int oo), .val (.int (1 : Int32)), .val (.int pl), .val (.int r0), .val (.int r1), .val (.int r2), .val (.ref b1), .val (.int (own_srt (own_ref r0 kk) (-1 : Int32) (-1 : Int32) pl)), .val (.ref b5), .unset] [(.int (1 : Int32)), (.ref b5)])
      obtain ⟨cl27, Ar27, -, S27, M27, H27, -⟩ := (id V9)
      have hin27 : ¬ ((1 : Int32) < 0 ∨ cl27.slots.size ≤ ((1 : Int32)).toNatClampNeg) := inb_of S27 ⟨by decide, by decide⟩
      refine own_step (fun t k => X9.iaload hx (j := (1 : Int32)) (v := (.int (-1 : Int32))) (by rw [e9]; exact Ar27.1) (State.isArrayOf_alike hZ.alike Ar27.2.1) Ar27.2.2 hin27 (Has.at H27 hin27 rfl) (g := (mkF m 230 #[.val (.int p0), .val (.int p1), .val (.int p2), .val (.int p3), .val (.int kk), .val (.int oo), .val (.int (1 : Int32)), .val (.int pl), .val (.int r0), .val (.int r1), .val (.int r2), .val (.ref b1), .val (.int (own_srt (own_ref r0 kk) (-1 : Int32) (-1 : Int32) pl)), .val (.ref b5), .unset] [(.int (1 : Int32)), (.ref b5)])) rfl rfl (hb hby at_230) t k) ?_
      show own_Go p e below P T9 (mkF m 231 #[.val (.int p0), .val (.int p1), .val (.int p2), .val (.int p3), .val (.int kk), .val (.int oo), .val (.int (1 : Int32)), .val (.int pl), .val (.int r0), .val (.int r1), .val (.int r2), .val (.ref b1), .val (.int (own_srt (own_ref r0 kk) (-1 : Int32) (-1 : Int32) pl)), .val (.ref b5), .unset] [(.int (-1 : Int32))])
      refine own_step (fun _ k => XS.aload X9.here hx rfl (hb hby at_231) rfl rfl k) ?_
      show own_Go p e below P T9 (mkF m 233 #[.val (.int p0), .val (.int p1), .val (.int p2), .val (.int p3), .val (.int kk), .val (.int oo), .val (.int (1 : Int32)), .val (.int pl), .val (.int r0), .val (.int r1), .val (.int r2), .val (.ref b1), .val (.int (own_srt (own_ref r0 kk) (-1 : Int32) (-1 : Int32) pl)), .val (.ref b5), .unset] [(.ref b5), (.int (-1 : Int32))])
      refine own_step (fun _ k => XS.iconst X9.here hx rfl (hb hby at_233) k) ?_
      show own_Go p e below P T9 (mkF m 234 #[.val (.int p0), .val (.int p1), .val (.int p2), .val (.int p3), .val (.int kk), .val (.int oo), .val (.int (1 : Int32)), .val (.int pl), .val (.int r0), .val (.int r1), .val (.int r2), .val (.ref b1), .val (.int (own_srt (own_ref r0 kk) (-1 : Int32) (-1 : Int32) pl)), .val (.ref b5), .unset] [(.int (2 : Int32)), (.ref b5), (.int (-1 : Int32))])
      obtain ⟨cl28, Ar28, -, S28, M28, H28, -⟩ := (id V9)
      have hin28 : ¬ ((2 : Int32) < 0 ∨ cl28.slots.size ≤ ((2 : Int32)).toNatClampNeg) := inb_of S28 ⟨by decide, by decide⟩
      refine own_step (fun t k => X9.iaload hx (j := (2 : Int32)) (v := (.int (-1 : Int32))) (by rw [e9]; exact Ar28.1) (State.isArrayOf_alike hZ.alike Ar28.2.1) Ar28.2.2 hin28 (Has.at H28 hin28 rfl) (g := (mkF m 234 #[.val (.int p0), .val (.int p1), .val (.int p2), .val (.int p3), .val (.int kk), .val (.int oo), .val (.int (1 : Int32)), .val (.int pl), .val (.int r0), .val (.int r1), .val (.int r2), .val (.ref b1), .val (.int (own_srt (own_ref r0 kk) (-1 : Int32) (-1 : Int32) pl)), .val (.ref b5), .unset] [(.int (2 : Int32)), (.ref b5), (.int (-1 : Int32))])) rfl rfl (hb hby at_234) t k) ?_
      show own_Go p e below P T9 (mkF m 235 #[.val (.int p0), .val (.int p1), .val (.int p2), .val (.int p3), .val (.int kk), .val (.int oo), .val (.int (1 : Int32)), .val (.int pl), .val (.int r0), .val (.int r1), .val (.int r2), .val (.ref b1), .val (.int (own_srt (own_ref r0 kk) (-1 : Int32) (-1 : Int32) pl)), .val (.ref b5), .unset] [(.int (-1 : Int32)), (.int (-1 : Int32))])
      refine own_step (fun _ k => XS.icmpYes X9.here hx rfl (pc0 := 235) (pc' := 258) rfl (hb hby at_235) rfl (flt (by decide : ¬ ((-1 : Int32) < (-1 : Int32)))).2.1 (by decide) (by decide) k) ?_
      show own_Go p e below P T9 (mkF m 258 #[.val (.int p0), .val (.int p1), .val (.int p2), .val (.int p3), .val (.int kk), .val (.int oo), .val (.int (1 : Int32)), .val (.int pl), .val (.int r0), .val (.int r1), .val (.int r2), .val (.ref b1), .val (.int (own_srt (own_ref r0 kk) (-1 : Int32) (-1 : Int32) pl)), .val (.ref b5), .unset] [])
      refine own_step (fun _ k => XS.aload X9.here hx rfl (hb hby at_258) rfl rfl k) ?_
      show own_Go p e below P T9 (mkF m 260 #[.val (.int p0), .val (.int p1), .val (.int p2), .val (.int p3), .val (.int kk), .val (.int oo), .val (.int (1 : Int32)), .val (.int pl), .val (.int r0), .val (.int r1), .val (.int r2), .val (.ref b1), .val (.int (own_srt (own_ref r0 kk) (-1 : Int32) (-1 : Int32) pl)), .val (.ref b5), .unset] [(.ref b5)])
      refine own_step (fun _ k => XS.iconst X9.here hx rfl (hb hby at_260) k) ?_
      show own_Go p e below P T9 (mkF m 261 #[.val (.int p0), .val (.int p1), .val (.int p2), .val (.int p3), .val (.int kk), .val (.int oo), .val (.int (1 : Int32)), .val (.int pl), .val (.int r0), .val (.int r1), .val (.int r2), .val (.ref b1), .val (.int (own_srt (own_ref r0 kk) (-1 : Int32) (-1 : Int32) pl)), .val (.ref b5), .unset] [(.int (0 : Int32)), (.ref b5)])
      obtain ⟨cl29, Ar29, -, S29, M29, H29, -⟩ := (id V9)
      have hin29 : ¬ ((0 : Int32) < 0 ∨ cl29.slots.size ≤ ((0 : Int32)).toNatClampNeg) := inb_of S29 ⟨by decide, by decide⟩
      refine own_step (fun t k => X9.iaload hx (j := (0 : Int32)) (v := (.int (own_ref r0 kk))) (by rw [e9]; exact Ar29.1) (State.isArrayOf_alike hZ.alike Ar29.2.1) Ar29.2.2 hin29 (Has.at H29 hin29 rfl) (g := (mkF m 261 #[.val (.int p0), .val (.int p1), .val (.int p2), .val (.int p3), .val (.int kk), .val (.int oo), .val (.int (1 : Int32)), .val (.int pl), .val (.int r0), .val (.int r1), .val (.int r2), .val (.ref b1), .val (.int (own_srt (own_ref r0 kk) (-1 : Int32) (-1 : Int32) pl)), .val (.ref b5), .unset] [(.int (0 : Int32)), (.ref b5)])) rfl rfl (hb hby at_261) t k) ?_
      show own_Go p e below P T9 (mkF m 262 #[.val (.int p0), .val (.int p1), .val (.int p2), .val (.int p3), .val (.int kk), .val (.int oo), .val (.int (1 : Int32)), .val (.int pl), .val (.int r0), .val (.int r1), .val (.int r2), .val (.ref b1), .val (.int (own_srt (own_ref r0 kk) (-1 : Int32) (-1 : Int32) pl)), .val (.ref b5), .unset] [(.int (own_ref r0 kk))])
      refine own_step (fun _ k => XS.aload X9.here hx rfl (hb hby at_262) rfl rfl k) ?_
      show own_Go p e below P T9 (mkF m 264 #[.val (.int p0), .val (.int p1), .val (.int p2), .val (.int p3), .val (.int kk), .val (.int oo), .val (.int (1 : Int32)), .val (.int pl), .val (.int r0), .val (.int r1), .val (.int r2), .val (.ref b1), .val (.int (own_srt (own_ref r0 kk) (-1 : Int32) (-1 : Int32) pl)), .val (.ref b5), .unset] [(.ref b5), (.int (own_ref r0 kk))])
      refine own_step (fun _ k => XS.iconst X9.here hx rfl (hb hby at_264) k) ?_
      show own_Go p e below P T9 (mkF m 265 #[.val (.int p0), .val (.int p1), .val (.int p2), .val (.int p3), .val (.int kk), .val (.int oo), .val (.int (1 : Int32)), .val (.int pl), .val (.int r0), .val (.int r1), .val (.int r2), .val (.ref b1), .val (.int (own_srt (own_ref r0 kk) (-1 : Int32) (-1 : Int32) pl)), .val (.ref b5), .unset] [(.int (1 : Int32)), (.ref b5), (.int (own_ref r0 kk))])
      obtain ⟨cl30, Ar30, -, S30, M30, H30, -⟩ := (id V9)
      have hin30 : ¬ ((1 : Int32) < 0 ∨ cl30.slots.size ≤ ((1 : Int32)).toNatClampNeg) := inb_of S30 ⟨by decide, by decide⟩
      refine own_step (fun t k => X9.iaload hx (j := (1 : Int32)) (v := (.int (-1 : Int32))) (by rw [e9]; exact Ar30.1) (State.isArrayOf_alike hZ.alike Ar30.2.1) Ar30.2.2 hin30 (Has.at H30 hin30 rfl) (g := (mkF m 265 #[.val (.int p0), .val (.int p1), .val (.int p2), .val (.int p3), .val (.int kk), .val (.int oo), .val (.int (1 : Int32)), .val (.int pl), .val (.int r0), .val (.int r1), .val (.int r2), .val (.ref b1), .val (.int (own_srt (own_ref r0 kk) (-1 : Int32) (-1 : Int32) pl)), .val (.ref b5), .unset] [(.int (1 : Int32)), (.ref b5), (.int (own_ref r0 kk))])) rfl rfl (hb hby at_265) t k) ?_
      show own_Go p e below P T9 (mkF m 266 #[.val (.int p0), .val (.int p1), .val (.int p2), .val (.int p3), .val (.int kk), .val (.int oo), .val (.int (1 : Int32)), .val (.int pl), .val (.int r0), .val (.int r1), .val (.int r2), .val (.ref b1), .val (.int (own_srt (own_ref r0 kk) (-1 : Int32) (-1 : Int32) pl)), .val (.ref b5), .unset] [(.int (-1 : Int32)), (.int (own_ref r0 kk))])
      refine own_step (fun _ k => XS.icmpYes X9.here hx rfl (pc0 := 266) (pc' := 289) rfl (hb hby at_266) rfl (flt hc12).2.1 (by decide) (by decide) k) ?_
      show own_Go p e below P T9 (mkF m 289 #[.val (.int p0), .val (.int p1), .val (.int p2), .val (.int p3), .val (.int kk), .val (.int oo), .val (.int (1 : Int32)), .val (.int pl), .val (.int r0), .val (.int r1), .val (.int r2), .val (.ref b1), .val (.int (own_srt (own_ref r0 kk) (-1 : Int32) (-1 : Int32) pl)), .val (.ref b5), .unset] [])
      have hpf := own_plf _ pi (by decide)
      rw [← hpi] at hpf
      refine own_step (fun _ k => XS.iload X9.here hx rfl (hb hby at_289) rfl k) ?_
      show own_Go p e below P T9 (mkF m 291 #[.val (.int p0), .val (.int p1), .val (.int p2), .val (.int p3), .val (.int kk), .val (.int oo), .val (.int (1 : Int32)), .val (.int pl), .val (.int r0), .val (.int r1), .val (.int r2), .val (.ref b1), .val (.int (own_srt (own_ref r0 kk) (-1 : Int32) (-1 : Int32) pl)), .val (.ref b5), .unset] [(.int (own_srt (own_ref r0 kk) (-1 : Int32) (-1 : Int32) pl))])
      refine own_step (fun _ k => XS.aload X9.here hx rfl (hb hby at_291) rfl rfl k) ?_
      show own_Go p e below P T9 (mkF m 293 #[.val (.int p0), .val (.int p1), .val (.int p2), .val (.int p3), .val (.int kk), .val (.int oo), .val (.int (1 : Int32)), .val (.int pl), .val (.int r0), .val (.int r1), .val (.int r2), .val (.ref b1), .val (.int (own_srt (own_ref r0 kk) (-1 : Int32) (-1 : Int32) pl)), .val (.ref b5), .unset] [(.ref b5), (.int (own_srt (own_ref r0 kk) (-1 : Int32) (-1 : Int32) pl))])
      refine own_step (fun _ k => XS.iload X9.here hx rfl (hb hby at_293) rfl k) ?_
      show own_Go p e below P T9 (mkF m 295 #[.val (.int p0), .val (.int p1), .val (.int p2), .val (.int p3), .val (.int kk), .val (.int oo), .val (.int (1 : Int32)), .val (.int pl), .val (.int r0), .val (.int r1), .val (.int r2), .val (.ref b1), .val (.int (own_srt (own_ref r0 kk) (-1 : Int32) (-1 : Int32) pl)), .val (.ref b5), .unset] [(.int pl), (.ref b5), (.int (own_srt (own_ref r0 kk) (-1 : Int32) (-1 : Int32) pl))])
      obtain ⟨cl31, Ar31, -, S31, M31, H31, -⟩ := (id V9)
      have hin31 : ¬ (pl < 0 ∨ cl31.slots.size ≤ (pl).toNatClampNeg) := inb_of S31 ⟨hpf.1, hpf.2.1⟩
      refine own_step (fun t k => X9.iaload hx (j := pl) (v := (.int ([(own_ref r0 kk), (-1 : Int32), (-1 : Int32)].getD (pl).toNatClampNeg 0))) (by rw [e9]; exact Ar31.1) (State.isArrayOf_alike hZ.alike Ar31.2.1) Ar31.2.2 hin31 (Has.at H31 hin31 (own_gd [(own_ref r0 kk), (-1 : Int32), (-1 : Int32)] _)) (g := (mkF m 295 #[.val (.int p0), .val (.int p1), .val (.int p2), .val (.int p3), .val (.int kk), .val (.int oo), .val (.int (1 : Int32)), .val (.int pl), .val (.int r0), .val (.int r1), .val (.int r2), .val (.ref b1), .val (.int (own_srt (own_ref r0 kk) (-1 : Int32) (-1 : Int32) pl)), .val (.ref b5), .unset] [(.int pl), (.ref b5), (.int (own_srt (own_ref r0 kk) (-1 : Int32) (-1 : Int32) pl))])) rfl rfl (hb hby at_295) t k) ?_
      show own_Go p e below P T9 (mkF m 296 #[.val (.int p0), .val (.int p1), .val (.int p2), .val (.int p3), .val (.int kk), .val (.int oo), .val (.int (1 : Int32)), .val (.int pl), .val (.int r0), .val (.int r1), .val (.int r2), .val (.ref b1), .val (.int (own_srt (own_ref r0 kk) (-1 : Int32) (-1 : Int32) pl)), .val (.ref b5), .unset] [(.int ([(own_ref r0 kk), (-1 : Int32), (-1 : Int32)].getD (pl).toNatClampNeg 0)), (.int (own_srt (own_ref r0 kk) (-1 : Int32) (-1 : Int32) pl))])
      refine own_step (fun _ k => XS.icmpNo X9.here hx rfl (hb hby at_296) rfl (teq ((if_neg hc12).trans ((if_neg (by decide : ¬ ((-1 : Int32) < (-1 : Int32)))).trans (if_neg hc12)))).2 k) ?_
      show own_Go p e below P T9 (mkF m 299 #[.val (.int p0), .val (.int p1), .val (.int p2), .val (.int p3), .val (.int kk), .val (.int oo), .val (.int (1 : Int32)), .val (.int pl), .val (.int r0), .val (.int r1), .val (.int r2), .val (.ref b1), .val (.int (own_srt (own_ref r0 kk) (-1 : Int32) (-1 : Int32) pl)), .val (.ref b5), .unset] [])
      refine own_step (fun _ k => XS.iconst X9.here hx rfl (hb hby at_299) k) ?_
      show own_Go p e below P T9 (mkF m 300 #[.val (.int p0), .val (.int p1), .val (.int p2), .val (.int p3), .val (.int kk), .val (.int oo), .val (.int (1 : Int32)), .val (.int pl), .val (.int r0), .val (.int r1), .val (.int r2), .val (.ref b1), .val (.int (own_srt (own_ref r0 kk) (-1 : Int32) (-1 : Int32) pl)), .val (.ref b5), .unset] [(.int (1 : Int32))])
      refine own_step (fun _ k => XS.goto X9.here hx rfl (pc0 := 300) (pc' := 304) rfl (hb hby at_300) (by decide) (by decide) k) ?_
      show own_Go p e below P T9 (mkF m 304 #[.val (.int p0), .val (.int p1), .val (.int p2), .val (.int p3), .val (.int kk), .val (.int oo), .val (.int (1 : Int32)), .val (.int pl), .val (.int r0), .val (.int r1), .val (.int r2), .val (.ref b1), .val (.int (own_srt (own_ref r0 kk) (-1 : Int32) (-1 : Int32) pl)), .val (.ref b5), .unset] [(.int (1 : Int32))])
      obtain ⟨fs, hr, hrun, hended, hW, hsame⟩ := X9.leave (v := some (.int (1 : Int32))) (fun h => by rw [Bd.returns] at h; cases h)
      refine ⟨_, _, retN X9 hx (t := .boolean) Bd.returns (by simp) (hb hby at_304) hr, hrun, hended, hfin _ _ ⟨_, _, rfl, ?_, ⟨_, rfl⟩, hW, hsame.mono (by decide) (by decide)⟩⟩
      show Q0 Z p0 p1 p2 p3 h0 n0 (some (.int (1 : Int32))) T9.heap _
      rw [e9]
      exact ⟨rfl, N9⟩
  · show own_Go p e below P s₁ (mkF m 24 #[.val (.int p0), .val (.int p1), .val (.int p2), .val (.int p3), .val (.int kk), .val (.int oo), .val (.int (2 : Int32)), .unset, .unset, .unset, .unset, .unset, .unset, .unset, .unset] [])
    refine own_step (fun _ k => XS.iloadN X0.here hx rfl (hb hby at_24) rfl k) ?_
    show own_Go p e below P s₁ (mkF m 25 #[.val (.int p0), .val (.int p1), .val (.int p2), .val (.int p3), .val (.int kk), .val (.int oo), .val (.int (2 : Int32)), .unset, .unset, .unset, .unset, .unset, .unset, .unset, .unset] [(.int p2)])
    refine own_step (fun _ k => XS.bipush X0.here hx rfl (hb hby at_25) k) ?_
    show own_Go p e below P s₁ (mkF m 27 #[.val (.int p0), .val (.int p1), .val (.int p2), .val (.int p3), .val (.int kk), .val (.int oo), .val (.int (2 : Int32)), .unset, .unset, .unset, .unset, .unset, .unset, .unset, .unset] [(.int (8 : Int32)), (.int p2)])
    refine own_step (fun _ k => XS.iushr X0.here hx rfl (hb hby at_27) rfl k) ?_
    show own_Go p e below P s₁ (mkF m 28 #[.val (.int p0), .val (.int p1), .val (.int p2), .val (.int p3), .val (.int kk), .val (.int oo), .val (.int (2 : Int32)), .unset, .unset, .unset, .unset, .unset, .unset, .unset, .unset] [(.int ((p2.toUInt32 >>> ((8 : Int32) &&& 31).toUInt32).toInt32))])
    refine own_step (fun _ k => XS.iload X0.here hx rfl (hb hby at_28) rfl k) ?_
    show own_Go p e below P s₁ (mkF m 30 #[.val (.int p0), .val (.int p1), .val (.int p2), .val (.int p3), .val (.int kk), .val (.int oo), .val (.int (2 : Int32)), .unset, .unset, .unset, .unset, .unset, .unset, .unset, .unset] [(.int (2 : Int32)), (.int ((p2.toUInt32 >>> ((8 : Int32) &&& 31).toUInt32).toInt32))])
    refine own_step (fun _ k => iremM X0 hx rfl (hb hby at_30) rfl (by decide : ¬ ((2 : Int32) = (0 : Int32))) k) ?_
    show own_Go p e below P s₁ (mkF m 31 #[.val (.int p0), .val (.int p1), .val (.int p2), .val (.int p3), .val (.int kk), .val (.int oo), .val (.int (2 : Int32)), .unset, .unset, .unset, .unset, .unset, .unset, .unset, .unset] [(.int (((p2.toUInt32 >>> ((8 : Int32) &&& 31).toUInt32).toInt32) % (2 : Int32)))])
    refine own_step (fun _ k => XS.istore X0.here hx rfl (hb hby at_31) rfl (l' := #[.val (.int p0), .val (.int p1), .val (.int p2), .val (.int p3), .val (.int kk), .val (.int oo), .val (.int (2 : Int32)), .val (.int (((p2.toUInt32 >>> ((8 : Int32) &&& 31).toUInt32).toInt32) % (2 : Int32))), .unset, .unset, .unset, .unset, .unset, .unset, .unset]) rfl k) ?_
    show own_Go p e below P s₁ (mkF m 33 #[.val (.int p0), .val (.int p1), .val (.int p2), .val (.int p3), .val (.int kk), .val (.int oo), .val (.int (2 : Int32)), .val (.int (((p2.toUInt32 >>> ((8 : Int32) &&& 31).toUInt32).toInt32) % (2 : Int32))), .unset, .unset, .unset, .unset, .unset, .unset, .unset] [])
    refine own_step (fun _ k => XS.iloadN X0.here hx rfl (hb hby at_33) rfl k) ?_
    show own_Go p e below P s₁ (mkF m 34 #[.val (.int p0), .val (.int p1), .val (.int p2), .val (.int p3), .val (.int kk), .val (.int oo), .val (.int (2 : Int32)), .val (.int (((p2.toUInt32 >>> ((8 : Int32) &&& 31).toUInt32).toInt32) % (2 : Int32))), .unset, .unset, .unset, .unset, .unset, .unset, .unset] [(.int p3)])
    refine own_step (fun _ k => XS.bipush X0.here hx rfl (hb hby at_34) k) ?_
    show own_Go p e below P s₁ (mkF m 36 #[.val (.int p0), .val (.int p1), .val (.int p2), .val (.int p3), .val (.int kk), .val (.int oo), .val (.int (2 : Int32)), .val (.int (((p2.toUInt32 >>> ((8 : Int32) &&& 31).toUInt32).toInt32) % (2 : Int32))), .unset, .unset, .unset, .unset, .unset, .unset, .unset] [(.int (7 : Int32)), (.int p3)])
    refine own_step (fun _ k => XS.iand X0.here hx rfl (hb hby at_36) rfl k) ?_
    show own_Go p e below P s₁ (mkF m 37 #[.val (.int p0), .val (.int p1), .val (.int p2), .val (.int p3), .val (.int kk), .val (.int oo), .val (.int (2 : Int32)), .val (.int (((p2.toUInt32 >>> ((8 : Int32) &&& 31).toUInt32).toInt32) % (2 : Int32))), .unset, .unset, .unset, .unset, .unset, .unset, .unset] [(.int (p3 &&& (7 : Int32)))])
    refine own_step (fun _ k => XS.iconst X0.here hx rfl (hb hby at_37) k) ?_
    show own_Go p e below P s₁ (mkF m 38 #[.val (.int p0), .val (.int p1), .val (.int p2), .val (.int p3), .val (.int kk), .val (.int oo), .val (.int (2 : Int32)), .val (.int (((p2.toUInt32 >>> ((8 : Int32) &&& 31).toUInt32).toInt32) % (2 : Int32))), .unset, .unset, .unset, .unset, .unset, .unset, .unset] [(.int (1 : Int32)), (.int (p3 &&& (7 : Int32)))])
    refine own_step (fun _ k => XS.isub X0.here hx rfl (hb hby at_38) rfl k) ?_
    show own_Go p e below P s₁ (mkF m 39 #[.val (.int p0), .val (.int p1), .val (.int p2), .val (.int p3), .val (.int kk), .val (.int oo), .val (.int (2 : Int32)), .val (.int (((p2.toUInt32 >>> ((8 : Int32) &&& 31).toUInt32).toInt32) % (2 : Int32))), .unset, .unset, .unset, .unset, .unset, .unset, .unset] [(.int ((p3 &&& (7 : Int32)) - (1 : Int32)))])
    refine own_step (fun _ k => XS.istore X0.here hx rfl (hb hby at_39) rfl (l' := #[.val (.int p0), .val (.int p1), .val (.int p2), .val (.int p3), .val (.int kk), .val (.int oo), .val (.int (2 : Int32)), .val (.int (((p2.toUInt32 >>> ((8 : Int32) &&& 31).toUInt32).toInt32) % (2 : Int32))), .val (.int ((p3 &&& (7 : Int32)) - (1 : Int32))), .unset, .unset, .unset, .unset, .unset, .unset]) rfl k) ?_
    show own_Go p e below P s₁ (mkF m 41 #[.val (.int p0), .val (.int p1), .val (.int p2), .val (.int p3), .val (.int kk), .val (.int oo), .val (.int (2 : Int32)), .val (.int (((p2.toUInt32 >>> ((8 : Int32) &&& 31).toUInt32).toInt32) % (2 : Int32))), .val (.int ((p3 &&& (7 : Int32)) - (1 : Int32))), .unset, .unset, .unset, .unset, .unset, .unset] [])
    refine own_step (fun _ k => XS.iloadN X0.here hx rfl (hb hby at_41) rfl k) ?_
    show own_Go p e below P s₁ (mkF m 42 #[.val (.int p0), .val (.int p1), .val (.int p2), .val (.int p3), .val (.int kk), .val (.int oo), .val (.int (2 : Int32)), .val (.int (((p2.toUInt32 >>> ((8 : Int32) &&& 31).toUInt32).toInt32) % (2 : Int32))), .val (.int ((p3 &&& (7 : Int32)) - (1 : Int32))), .unset, .unset, .unset, .unset, .unset, .unset] [(.int p3)])
    refine own_step (fun _ k => XS.iconst X0.here hx rfl (hb hby at_42) k) ?_
    show own_Go p e below P s₁ (mkF m 43 #[.val (.int p0), .val (.int p1), .val (.int p2), .val (.int p3), .val (.int kk), .val (.int oo), .val (.int (2 : Int32)), .val (.int (((p2.toUInt32 >>> ((8 : Int32) &&& 31).toUInt32).toInt32) % (2 : Int32))), .val (.int ((p3 &&& (7 : Int32)) - (1 : Int32))), .unset, .unset, .unset, .unset, .unset, .unset] [(.int (3 : Int32)), (.int p3)])
    refine own_step (fun _ k => XS.iushr X0.here hx rfl (hb hby at_43) rfl k) ?_
    show own_Go p e below P s₁ (mkF m 44 #[.val (.int p0), .val (.int p1), .val (.int p2), .val (.int p3), .val (.int kk), .val (.int oo), .val (.int (2 : Int32)), .val (.int (((p2.toUInt32 >>> ((8 : Int32) &&& 31).toUInt32).toInt32) % (2 : Int32))), .val (.int ((p3 &&& (7 : Int32)) - (1 : Int32))), .unset, .unset, .unset, .unset, .unset, .unset] [(.int ((p3.toUInt32 >>> ((3 : Int32) &&& 31).toUInt32).toInt32))])
    refine own_step (fun _ k => XS.bipush X0.here hx rfl (hb hby at_44) k) ?_
    show own_Go p e below P s₁ (mkF m 46 #[.val (.int p0), .val (.int p1), .val (.int p2), .val (.int p3), .val (.int kk), .val (.int oo), .val (.int (2 : Int32)), .val (.int (((p2.toUInt32 >>> ((8 : Int32) &&& 31).toUInt32).toInt32) % (2 : Int32))), .val (.int ((p3 &&& (7 : Int32)) - (1 : Int32))), .unset, .unset, .unset, .unset, .unset, .unset] [(.int (7 : Int32)), (.int ((p3.toUInt32 >>> ((3 : Int32) &&& 31).toUInt32).toInt32))])
    refine own_step (fun _ k => XS.iand X0.here hx rfl (hb hby at_46) rfl k) ?_
    show own_Go p e below P s₁ (mkF m 47 #[.val (.int p0), .val (.int p1), .val (.int p2), .val (.int p3), .val (.int kk), .val (.int oo), .val (.int (2 : Int32)), .val (.int (((p2.toUInt32 >>> ((8 : Int32) &&& 31).toUInt32).toInt32) % (2 : Int32))), .val (.int ((p3 &&& (7 : Int32)) - (1 : Int32))), .unset, .unset, .unset, .unset, .unset, .unset] [(.int (((p3.toUInt32 >>> ((3 : Int32) &&& 31).toUInt32).toInt32) &&& (7 : Int32)))])
    refine own_step (fun _ k => XS.iconst X0.here hx rfl (hb hby at_47) k) ?_
    show own_Go p e below P s₁ (mkF m 48 #[.val (.int p0), .val (.int p1), .val (.int p2), .val (.int p3), .val (.int kk), .val (.int oo), .val (.int (2 : Int32)), .val (.int (((p2.toUInt32 >>> ((8 : Int32) &&& 31).toUInt32).toInt32) % (2 : Int32))), .val (.int ((p3 &&& (7 : Int32)) - (1 : Int32))), .unset, .unset, .unset, .unset, .unset, .unset] [(.int (1 : Int32)), (.int (((p3.toUInt32 >>> ((3 : Int32) &&& 31).toUInt32).toInt32) &&& (7 : Int32)))])
    refine own_step (fun _ k => XS.isub X0.here hx rfl (hb hby at_48) rfl k) ?_
    show own_Go p e below P s₁ (mkF m 49 #[.val (.int p0), .val (.int p1), .val (.int p2), .val (.int p3), .val (.int kk), .val (.int oo), .val (.int (2 : Int32)), .val (.int (((p2.toUInt32 >>> ((8 : Int32) &&& 31).toUInt32).toInt32) % (2 : Int32))), .val (.int ((p3 &&& (7 : Int32)) - (1 : Int32))), .unset, .unset, .unset, .unset, .unset, .unset] [(.int ((((p3.toUInt32 >>> ((3 : Int32) &&& 31).toUInt32).toInt32) &&& (7 : Int32)) - (1 : Int32)))])
    refine own_step (fun _ k => XS.istore X0.here hx rfl (hb hby at_49) rfl (l' := #[.val (.int p0), .val (.int p1), .val (.int p2), .val (.int p3), .val (.int kk), .val (.int oo), .val (.int (2 : Int32)), .val (.int (((p2.toUInt32 >>> ((8 : Int32) &&& 31).toUInt32).toInt32) % (2 : Int32))), .val (.int ((p3 &&& (7 : Int32)) - (1 : Int32))), .val (.int ((((p3.toUInt32 >>> ((3 : Int32) &&& 31).toUInt32).toInt32) &&& (7 : Int32)) - (1 : Int32))), .unset, .unset, .unset, .unset, .unset]) rfl k) ?_
    show own_Go p e below P s₁ (mkF m 51 #[.val (.int p0), .val (.int p1), .val (.int p2), .val (.int p3), .val (.int kk), .val (.int oo), .val (.int (2 : Int32)), .val (.int (((p2.toUInt32 >>> ((8 : Int32) &&& 31).toUInt32).toInt32) % (2 : Int32))), .val (.int ((p3 &&& (7 : Int32)) - (1 : Int32))), .val (.int ((((p3.toUInt32 >>> ((3 : Int32) &&& 31).toUInt32).toInt32) &&& (7 : Int32)) - (1 : Int32))), .unset, .unset, .unset, .unset, .unset] [])
    refine own_step (fun _ k => XS.iloadN X0.here hx rfl (hb hby at_51) rfl k) ?_
    show own_Go p e below P s₁ (mkF m 52 #[.val (.int p0), .val (.int p1), .val (.int p2), .val (.int p3), .val (.int kk), .val (.int oo), .val (.int (2 : Int32)), .val (.int (((p2.toUInt32 >>> ((8 : Int32) &&& 31).toUInt32).toInt32) % (2 : Int32))), .val (.int ((p3 &&& (7 : Int32)) - (1 : Int32))), .val (.int ((((p3.toUInt32 >>> ((3 : Int32) &&& 31).toUInt32).toInt32) &&& (7 : Int32)) - (1 : Int32))), .unset, .unset, .unset, .unset, .unset] [(.int p3)])
    refine own_step (fun _ k => XS.bipush X0.here hx rfl (hb hby at_52) k) ?_
    show own_Go p e below P s₁ (mkF m 54 #[.val (.int p0), .val (.int p1), .val (.int p2), .val (.int p3), .val (.int kk), .val (.int oo), .val (.int (2 : Int32)), .val (.int (((p2.toUInt32 >>> ((8 : Int32) &&& 31).toUInt32).toInt32) % (2 : Int32))), .val (.int ((p3 &&& (7 : Int32)) - (1 : Int32))), .val (.int ((((p3.toUInt32 >>> ((3 : Int32) &&& 31).toUInt32).toInt32) &&& (7 : Int32)) - (1 : Int32))), .unset, .unset, .unset, .unset, .unset] [(.int (6 : Int32)), (.int p3)])
    refine own_step (fun _ k => XS.iushr X0.here hx rfl (hb hby at_54) rfl k) ?_
    show own_Go p e below P s₁ (mkF m 55 #[.val (.int p0), .val (.int p1), .val (.int p2), .val (.int p3), .val (.int kk), .val (.int oo), .val (.int (2 : Int32)), .val (.int (((p2.toUInt32 >>> ((8 : Int32) &&& 31).toUInt32).toInt32) % (2 : Int32))), .val (.int ((p3 &&& (7 : Int32)) - (1 : Int32))), .val (.int ((((p3.toUInt32 >>> ((3 : Int32) &&& 31).toUInt32).toInt32) &&& (7 : Int32)) - (1 : Int32))), .unset, .unset, .unset, .unset, .unset] [(.int ((p3.toUInt32 >>> ((6 : Int32) &&& 31).toUInt32).toInt32))])
    refine own_step (fun _ k => XS.bipush X0.here hx rfl (hb hby at_55) k) ?_
    show own_Go p e below P s₁ (mkF m 57 #[.val (.int p0), .val (.int p1), .val (.int p2), .val (.int p3), .val (.int kk), .val (.int oo), .val (.int (2 : Int32)), .val (.int (((p2.toUInt32 >>> ((8 : Int32) &&& 31).toUInt32).toInt32) % (2 : Int32))), .val (.int ((p3 &&& (7 : Int32)) - (1 : Int32))), .val (.int ((((p3.toUInt32 >>> ((3 : Int32) &&& 31).toUInt32).toInt32) &&& (7 : Int32)) - (1 : Int32))), .unset, .unset, .unset, .unset, .unset] [(.int (7 : Int32)), (.int ((p3.toUInt32 >>> ((6 : Int32) &&& 31).toUInt32).toInt32))])
    refine own_step (fun _ k => XS.iand X0.here hx rfl (hb hby at_57) rfl k) ?_
    show own_Go p e below P s₁ (mkF m 58 #[.val (.int p0), .val (.int p1), .val (.int p2), .val (.int p3), .val (.int kk), .val (.int oo), .val (.int (2 : Int32)), .val (.int (((p2.toUInt32 >>> ((8 : Int32) &&& 31).toUInt32).toInt32) % (2 : Int32))), .val (.int ((p3 &&& (7 : Int32)) - (1 : Int32))), .val (.int ((((p3.toUInt32 >>> ((3 : Int32) &&& 31).toUInt32).toInt32) &&& (7 : Int32)) - (1 : Int32))), .unset, .unset, .unset, .unset, .unset] [(.int (((p3.toUInt32 >>> ((6 : Int32) &&& 31).toUInt32).toInt32) &&& (7 : Int32)))])
    refine own_step (fun _ k => XS.iconst X0.here hx rfl (hb hby at_58) k) ?_
    show own_Go p e below P s₁ (mkF m 59 #[.val (.int p0), .val (.int p1), .val (.int p2), .val (.int p3), .val (.int kk), .val (.int oo), .val (.int (2 : Int32)), .val (.int (((p2.toUInt32 >>> ((8 : Int32) &&& 31).toUInt32).toInt32) % (2 : Int32))), .val (.int ((p3 &&& (7 : Int32)) - (1 : Int32))), .val (.int ((((p3.toUInt32 >>> ((3 : Int32) &&& 31).toUInt32).toInt32) &&& (7 : Int32)) - (1 : Int32))), .unset, .unset, .unset, .unset, .unset] [(.int (1 : Int32)), (.int (((p3.toUInt32 >>> ((6 : Int32) &&& 31).toUInt32).toInt32) &&& (7 : Int32)))])
    refine own_step (fun _ k => XS.isub X0.here hx rfl (hb hby at_59) rfl k) ?_
    show own_Go p e below P s₁ (mkF m 60 #[.val (.int p0), .val (.int p1), .val (.int p2), .val (.int p3), .val (.int kk), .val (.int oo), .val (.int (2 : Int32)), .val (.int (((p2.toUInt32 >>> ((8 : Int32) &&& 31).toUInt32).toInt32) % (2 : Int32))), .val (.int ((p3 &&& (7 : Int32)) - (1 : Int32))), .val (.int ((((p3.toUInt32 >>> ((3 : Int32) &&& 31).toUInt32).toInt32) &&& (7 : Int32)) - (1 : Int32))), .unset, .unset, .unset, .unset, .unset] [(.int ((((p3.toUInt32 >>> ((6 : Int32) &&& 31).toUInt32).toInt32) &&& (7 : Int32)) - (1 : Int32)))])
    refine own_step (fun _ k => XS.istore X0.here hx rfl (hb hby at_60) rfl (l' := #[.val (.int p0), .val (.int p1), .val (.int p2), .val (.int p3), .val (.int kk), .val (.int oo), .val (.int (2 : Int32)), .val (.int (((p2.toUInt32 >>> ((8 : Int32) &&& 31).toUInt32).toInt32) % (2 : Int32))), .val (.int ((p3 &&& (7 : Int32)) - (1 : Int32))), .val (.int ((((p3.toUInt32 >>> ((3 : Int32) &&& 31).toUInt32).toInt32) &&& (7 : Int32)) - (1 : Int32))), .val (.int ((((p3.toUInt32 >>> ((6 : Int32) &&& 31).toUInt32).toInt32) &&& (7 : Int32)) - (1 : Int32))), .unset, .unset, .unset, .unset]) rfl k) ?_
    show own_Go p e below P s₁ (mkF m 62 #[.val (.int p0), .val (.int p1), .val (.int p2), .val (.int p3), .val (.int kk), .val (.int oo), .val (.int (2 : Int32)), .val (.int (((p2.toUInt32 >>> ((8 : Int32) &&& 31).toUInt32).toInt32) % (2 : Int32))), .val (.int ((p3 &&& (7 : Int32)) - (1 : Int32))), .val (.int ((((p3.toUInt32 >>> ((3 : Int32) &&& 31).toUInt32).toInt32) &&& (7 : Int32)) - (1 : Int32))), .val (.int ((((p3.toUInt32 >>> ((6 : Int32) &&& 31).toUInt32).toInt32) &&& (7 : Int32)) - (1 : Int32))), .unset, .unset, .unset, .unset] [])
    obtain ⟨pl, hpl, pi, hpi⟩ : ∃ z : Int32, (((p2.toUInt32 >>> ((8 : Int32) &&& 31).toUInt32).toInt32) % (2 : Int32)) = z ∧ ∃ i : Fin 2, z = Int32.ofInt (i.1 : Int) := ⟨_, rfl, own_pln p2 (2 : Int32) (N := 2) rfl (by decide)⟩
    rw [hpl]
    obtain ⟨r0, hr0, hR0⟩ : ∃ z : Int32, ((p3 &&& (7 : Int32)) - (1 : Int32)) = z ∧ own_isR z := ⟨_, rfl, own_r _⟩
    rw [hr0]
    obtain ⟨r1, hr1, hR1⟩ : ∃ z : Int32, ((((p3.toUInt32 >>> ((3 : Int32) &&& 31).toUInt32).toInt32) &&& (7 : Int32)) - (1 : Int32)) = z ∧ own_isR z := ⟨_, rfl, own_r _⟩
    rw [hr1]
    obtain ⟨r2, hr2, hR2⟩ : ∃ z : Int32, ((((p3.toUInt32 >>> ((6 : Int32) &&& 31).toUInt32).toInt32) &&& (7 : Int32)) - (1 : Int32)) = z ∧ own_isR z := ⟨_, rfl, own_r _⟩
    rw [hr2]
    show own_Go p e below P s₁ (mkF m 62 #[.val (.int p0), .val (.int p1), .val (.int p2), .val (.int p3), .val (.int kk), .val (.int oo), .val (.int (2 : Int32)), .val (.int pl), .val (.int r0), .val (.int r1), .val (.int r2), .unset, .unset, .unset, .unset] [])
    have hE := own_Kr hK
    have hok := own_ok hO ⟨by omega, by omega⟩ (k := kk)
    have hv0 := own_val (own_ok hO (own_Rr hR0)) ⟨by have := own_Rr hR0; omega, by have := own_Rr hR0; omega⟩
    have hv1 := own_val (own_ok hO (own_Rr hR1)) ⟨by have := own_Rr hR1; omega, by have := own_Rr hR1; omega⟩
    have hv2 := own_val (own_ok hO (own_Rr hR2)) ⟨by have := own_Rr hR2; omega, by have := own_Rr hR2; omega⟩
    obtain ⟨T33, h33, X33, e33, E33, A33, D33, -, st33⟩ := newO X0 hx hZ hown (hw _ (List.mem_of_getElem? (i := 1) rfl)) (hw _ (List.mem_of_getElem? (i := 2) rfl)) (hw _ (List.mem_of_getElem? (i := 3) rfl)) e0 (g := (mkF m 62 #[.val (.int p0), .val (.int p1), .val (.int p2), .val (.int p3), .val (.int kk), .val (.int oo), .val (.int (2 : Int32)), .val (.int pl), .val (.int r0), .val (.int r1), .val (.int r2), .unset, .unset, .unset, .unset] [])) rfl (hb hby at_62) (by decide) (by decide)
    obtain ⟨b33, g33⟩ : ∃ z, z = h0.size := ⟨_, rfl⟩
    rw [← g33] at A33 D33 st33
    have g_b33 : n0 ≤ b33 := Nat.le_trans Z0 (Nat.le_of_eq g33.symm)
    have sz_b33 : h0.size ≤ b33 := Nat.le_trans (Keep.refl h0 []).1 (Nat.le_of_eq g33.symm)
    have E_b33 := A33
    have F_lowest_b33 : Fld Z h33 b33 "com/example/bron/bron/trec/ScoreHistogram" "lowest" "D" (.double (0 : UInt64)) := D33 (Or.inr (hw _ (List.mem_of_getElem? (i := 26) rfl))) (ty := .double) (by decide)
    have F_scale_b33 : Fld Z h33 b33 "com/example/bron/bron/trec/ScoreHistogram" "scale" "D" (.double (0 : UInt64)) := D33 (Or.inr (hw _ (List.mem_of_getElem? (i := 28) rfl))) (ty := .double) (by decide)
    have F_counts_b33 : Fld Z h33 b33 "com/example/bron/bron/trec/ScoreHistogram" "counts" "[I" .null := D33 (Or.inr (hw _ (List.mem_of_getElem? (i := 31) rfl))) (ty := (.array .int)) (by decide)
    refine own_step st33 ?_
    show own_Go p e below P T33 (mkF m 65 #[.val (.int p0), .val (.int p1), .val (.int p2), .val (.int p3), .val (.int kk), .val (.int oo), .val (.int (2 : Int32)), .val (.int pl), .val (.int r0), .val (.int r1), .val (.int r2), .unset, .unset, .unset, .unset] [(.ref b33)])
    refine own_step (fun _ k => XS.dup X33.here hx rfl (hb hby at_65) rfl rfl k) ?_
    show own_Go p e below P T33 (mkF m 66 #[.val (.int p0), .val (.int p1), .val (.int p2), .val (.int p3), .val (.int kk), .val (.int oo), .val (.int (2 : Int32)), .val (.int pl), .val (.int r0), .val (.int r1), .val (.int r2), .unset, .unset, .unset, .unset] [(.ref b33), (.ref b33)])
    refine own_step (fun _ k => XS.iload X33.here hx rfl (hb hby at_66) rfl k) ?_
    show own_Go p e below P T33 (mkF m 68 #[.val (.int p0), .val (.int p1), .val (.int p2), .val (.int p3), .val (.int kk), .val (.int oo), .val (.int (2 : Int32)), .val (.int pl), .val (.int r0), .val (.int r1), .val (.int r2), .unset, .unset, .unset, .unset] [(.int oo), (.ref b33), (.ref b33)])
    refine own_step (fun _ k => XS.i2dS X33.here hx rfl (hb hby at_68) rfl rfl k) ?_
    show own_Go p e below P T33 (mkF m 69 #[.val (.int p0), .val (.int p1), .val (.int p2), .val (.int p3), .val (.int kk), .val (.int oo), .val (.int (2 : Int32)), .val (.int pl), .val (.int r0), .val (.int r1), .val (.int r2), .unset, .unset, .unset, .unset] [(.double (FP.i2d oo)), (.ref b33), (.ref b33)])
    refine own_step (fun _ k => XS.iload X33.here hx rfl (hb hby at_69) rfl k) ?_
    show own_Go p e below P T33 (mkF m 71 #[.val (.int p0), .val (.int p1), .val (.int p2), .val (.int p3), .val (.int kk), .val (.int oo), .val (.int (2 : Int32)), .val (.int pl), .val (.int r0), .val (.int r1), .val (.int r2), .unset, .unset, .unset, .unset] [(.int oo), (.double (FP.i2d oo)), (.ref b33), (.ref b33)])
    refine own_step (fun _ k => XS.iload X33.here hx rfl (hb hby at_71) rfl k) ?_
    show own_Go p e below P T33 (mkF m 73 #[.val (.int p0), .val (.int p1), .val (.int p2), .val (.int p3), .val (.int kk), .val (.int oo), .val (.int (2 : Int32)), .val (.int pl), .val (.int r0), .val (.int r1), .val (.int r2), .unset, .unset, .unset, .unset] [(.int kk), (.int oo), (.double (FP.i2d oo)), (.ref b33), (.ref b33)])
    refine own_step (fun _ k => XS.iadd X33.here hx rfl (hb hby at_73) rfl k) ?_
    show own_Go p e below P T33 (mkF m 74 #[.val (.int p0), .val (.int p1), .val (.int p2), .val (.int p3), .val (.int kk), .val (.int oo), .val (.int (2 : Int32)), .val (.int pl), .val (.int r0), .val (.int r1), .val (.int r2), .unset, .unset, .unset, .unset] [(.int (oo + kk)), (.double (FP.i2d oo)), (.ref b33), (.ref b33)])
    refine own_step (fun _ k => XS.i2dS X33.here hx rfl (hb hby at_74) rfl rfl k) ?_
    show own_Go p e below P T33 (mkF m 75 #[.val (.int p0), .val (.int p1), .val (.int p2), .val (.int p3), .val (.int kk), .val (.int oo), .val (.int (2 : Int32)), .val (.int pl), .val (.int r0), .val (.int r1), .val (.int r2), .unset, .unset, .unset, .unset] [(.double (FP.i2d (oo + kk))), (.double (FP.i2d oo)), (.ref b33), (.ref b33)])
    refine own_step (fun _ k => XS.iconst X33.here hx rfl (hb hby at_75) k) ?_
    show own_Go p e below P T33 (mkF m 76 #[.val (.int p0), .val (.int p1), .val (.int p2), .val (.int p3), .val (.int kk), .val (.int oo), .val (.int (2 : Int32)), .val (.int pl), .val (.int r0), .val (.int r1), .val (.int r2), .unset, .unset, .unset, .unset] [(.int (4 : Int32)), (.double (FP.i2d (oo + kk))), (.double (FP.i2d oo)), (.ref b33), (.ref b33)])
    refine own_step (fun _ k => XS.iload X33.here hx rfl (hb hby at_76) rfl k) ?_
    show own_Go p e below P T33 (mkF m 78 #[.val (.int p0), .val (.int p1), .val (.int p2), .val (.int p3), .val (.int kk), .val (.int oo), .val (.int (2 : Int32)), .val (.int pl), .val (.int r0), .val (.int r1), .val (.int r2), .unset, .unset, .unset, .unset] [(.int kk), (.int (4 : Int32)), (.double (FP.i2d (oo + kk))), (.double (FP.i2d oo)), (.ref b33), (.ref b33)])
    refine own_step (fun _ k => XS.imul X33.here hx rfl (hb hby at_78) rfl k) ?_
    show own_Go p e below P T33 (mkF m 79 #[.val (.int p0), .val (.int p1), .val (.int p2), .val (.int p3), .val (.int kk), .val (.int oo), .val (.int (2 : Int32)), .val (.int pl), .val (.int r0), .val (.int r1), .val (.int r2), .unset, .unset, .unset, .unset] [(.int ((4 : Int32) * kk)), (.double (FP.i2d (oo + kk))), (.double (FP.i2d oo)), (.ref b33), (.ref b33)])
    obtain ⟨_, _, ⟨T34, L34, k34, n34⟩, -, X34, ⟨Lc34, hQ34, l34, y34, z34⟩, st34⟩ := X33.specialBack hx (y := (⟨"com/example/bron/bron/trec/ScoreHistogram", "<init>", "(DDI)V"⟩ : MethodName)) rfl hown (mvT hZ (hw _ (List.mem_of_getElem? (i := 4) rfl))) (mvT hZ (hw _ (List.mem_of_getElem? (i := 5) rfl))) (mvT hZ (hw _ (List.mem_of_getElem? (i := 6) rfl))) (by decide) (backOf (W := 1) (rm1 l Z a0 hw [] b33 (FP.i2d oo) (FP.i2d (oo + kk)) ((4 : Int32) * kk) kk h33 n0 (Nat.le_trans Z0 E33.1) E_b33 F_lowest_b33 F_scale_b33 F_counts_b33 g_b33 (own_hA hok hE.1) (own_dfin (own_ds hok ⟨by omega, by omega⟩)) (own_bkK hK) (own_hD hok ⟨hE.1, by omega⟩) hE) hZ (hw _ (List.mem_of_getElem? (i := 6) rfl)) (hw _ (List.mem_of_getElem? (i := 3) rfl)) (by decide) (by decide)) (g := (mkF m 79 #[.val (.int p0), .val (.int p1), .val (.int p2), .val (.int p3), .val (.int kk), .val (.int oo), .val (.int (2 : Int32)), .val (.int pl), .val (.int r0), .val (.int r1), .val (.int r2), .unset, .unset, .unset, .unset] [(.int ((4 : Int32) * kk)), (.double (FP.i2d (oo + kk))), (.double (FP.i2d oo)), (.ref b33), (.ref b33)])) rfl (by rw [hml]; rfl) (Steps.refl _) (a := b33) (argsL := [(.double (FP.i2d oo)), (.double (FP.i2d (oo + kk))), (.int ((4 : Int32) * kk))]) (rest := [(.ref b33)]) (lenOf pd__DDI__V rfl) rfl (by show 2 * 0 + _ ≤ _; exact Nat.le_of_eq rfl) (hb hby at_79) (fun _ _ => ⟨rfl, e33, (by decide : 1 + 1 ≤ _), (by decide : 3 + 5 ≤ _)⟩)
    dsimp only [Pt.U, Pt.locs, Pt.cells, Pt.slots] at X34 l34 y34 z34 st34 hQ34
    subst l34 y34 z34
    obtain ⟨rfl, N34q, K34, E34_o, Fl34, Fs34, ar34, kc34, la34, Fc34, V34⟩ := hQ34
    have g_ar34 : n0 ≤ ar34 := Nat.le_trans (Nat.le_trans Z0 E33.1) la34
    have sz_ar34 : h0.size ≤ ar34 := Nat.le_trans ((Keep.refl h0 []).ext E33).1 la34
    have ne34 : b33 ≠ ar34 := by
      obtain ⟨_, Aq, -⟩ := V34
      exact ne_arr E34_o (hw _ (List.mem_of_getElem? (i := 2) rfl)) Aq
    have N34 := Fr.app N0 N34q
    refine own_step (fun _ k => st34.trans k) ?_
    show own_Go p e below P T34 (mkF m 82 #[.val (.int p0), .val (.int p1), .val (.int p2), .val (.int p3), .val (.int kk), .val (.int oo), .val (.int (2 : Int32)), .val (.int pl), .val (.int r0), .val (.int r1), .val (.int r2), .unset, .unset, .unset, .unset] [(.ref b33)])
    refine own_step (fun _ k => XS.astore X34.here hx rfl (hb hby at_82) rfl rfl (l' := #[.val (.int p0), .val (.int p1), .val (.int p2), .val (.int p3), .val (.int kk), .val (.int oo), .val (.int (2 : Int32)), .val (.int pl), .val (.int r0), .val (.int r1), .val (.int r2), .val (.ref b33), .unset, .unset, .unset]) rfl k) ?_
    show own_Go p e below P T34 (mkF m 84 #[.val (.int p0), .val (.int p1), .val (.int p2), .val (.int p3), .val (.int kk), .val (.int oo), .val (.int (2 : Int32)), .val (.int pl), .val (.int r0), .val (.int r1), .val (.int r2), .val (.ref b33), .unset, .unset, .unset] [])
    refine own_step (fun _ k => XS.aload X34.here hx rfl (hb hby at_84) rfl rfl k) ?_
    show own_Go p e below P T34 (mkF m 86 #[.val (.int p0), .val (.int p1), .val (.int p2), .val (.int p3), .val (.int kk), .val (.int oo), .val (.int (2 : Int32)), .val (.int pl), .val (.int r0), .val (.int r1), .val (.int r2), .val (.ref b33), .unset, .unset, .unset] [(.ref b33)])
    refine own_step (fun _ k => XS.iload X34.here hx rfl (hb hby at_86) rfl k) ?_
    show own_Go p e below P T34 (mkF m 88 #[.val (.int p0), .val (.int p1), .val (.int p2), .val (.int p3), .val (.int kk), .val (.int oo), .val (.int (2 : Int32)), .val (.int pl), .val (.int r0), .val (.int r1), .val (.int r2), .val (.ref b33), .unset, .unset, .unset] [(.int oo), (.ref b33)])
    refine own_step (fun _ k => XS.iload X34.here hx rfl (hb hby at_88) rfl k) ?_
    show own_Go p e below P T34 (mkF m 90 #[.val (.int p0), .val (.int p1), .val (.int p2), .val (.int p3), .val (.int kk), .val (.int oo), .val (.int (2 : Int32)), .val (.int pl), .val (.int r0), .val (.int r1), .val (.int r2), .val (.ref b33), .unset, .unset, .unset] [(.int r0), (.int oo), (.ref b33)])
    refine own_step (fun _ k => XS.iadd X34.here hx rfl (hb hby at_90) rfl k) ?_
    show own_Go p e below P T34 (mkF m 91 #[.val (.int p0), .val (.int p1), .val (.int p2), .val (.int p3), .val (.int kk), .val (.int oo), .val (.int (2 : Int32)), .val (.int pl), .val (.int r0), .val (.int r1), .val (.int r2), .val (.ref b33), .unset, .unset, .unset] [(.int (oo + r0)), (.ref b33)])
    refine own_step (fun _ k => XS.i2dS X34.here hx rfl (hb hby at_91) rfl rfl k) ?_
    show own_Go p e below P T34 (mkF m 92 #[.val (.int p0), .val (.int p1), .val (.int p2), .val (.int p3), .val (.int kk), .val (.int oo), .val (.int (2 : Int32)), .val (.int pl), .val (.int r0), .val (.int r1), .val (.int r2), .val (.ref b33), .unset, .unset, .unset] [(.double (FP.i2d (oo + r0))), (.ref b33)])
    obtain ⟨cq35, kq35, q35a, q35b, q35c⟩ := isOf hZ rfl E34_o
    obtain ⟨_, _, ⟨T35, L35, k35, n35⟩, -, X35, ⟨Lc35, hQ35, l35, y35, z35⟩, st35⟩ := X34.virtualBack hx (y := (⟨"com/example/bron/bron/trec/ScoreHistogram", "add", "(D)V"⟩ : MethodName)) (z := (⟨"com/example/bron/bron/trec/ScoreHistogram", "add", "(D)V"⟩ : MethodName)) hown (mvT hZ (hw _ (List.mem_of_getElem? (i := 32) rfl))) (mvT hZ (hw _ (List.mem_of_getElem? (i := 33) rfl))) (notFace_of_selects (args := #[]) (mvT hZ (hw _ (List.mem_of_getElem? (i := 35) rfl)))) (mvT hZ (hw _ (List.mem_of_getElem? (i := 35) rfl))) (mvT hZ (hw _ (List.mem_of_getElem? (i := 34) rfl))) (by decide) (backOf (W := 0) (rm7 l Z a0 hw [] b33 (FP.i2d (oo + r0)) ar34 kc34 (kk + (1 : Int32)) (List.replicate (kk.toNatClampNeg + 1) (0 : Int32)) (FP.i2d oo) (own_clamp kk r0) T34.heap n0 (Nat.le_trans (Nat.le_trans Z0 E33.1) K34.1) E34_o Fl34 Fs34 Fc34 V34 ne34 g_ar34 hv0.2.1 hv0.2.2 (by rw [own_b1, hv0.1]) (own_cl hE).1 (own_cl hE).2 (own_l0 hE)) hZ (hw _ (List.mem_of_getElem? (i := 36) rfl)) (hw _ (List.mem_of_getElem? (i := 3) rfl)) (by decide) (by decide)) q35a q35c (g := (mkF m 92 #[.val (.int p0), .val (.int p1), .val (.int p2), .val (.int p3), .val (.int kk), .val (.int oo), .val (.int (2 : Int32)), .val (.int pl), .val (.int r0), .val (.int r1), .val (.int r2), .val (.ref b33), .unset, .unset, .unset] [(.double (FP.i2d (oo + r0))), (.ref b33)])) rfl (by rw [hml]; rfl) (Steps.refl _) (argsL := [(.double (FP.i2d (oo + r0)))]) (rest := []) (lenOf pd__D__V rfl) rfl (by show 2 * 0 + _ ≤ _; exact Nat.le_of_eq rfl) (hb hby at_92) (fun _ _ => ⟨rfl, rfl, (by decide : 2 + 0 ≤ _), (by decide : 8 + 0 ≤ _)⟩)
    dsimp only [Pt.U, Pt.locs, Pt.cells, Pt.slots] at X35 l35 y35 z35 st35 hQ35
    subst l35 y35 z35
    obtain ⟨rfl, N35q, K35, V35⟩ := hQ35
    have N35 := Fr.app N34 N35q
    refine own_step (fun _ k => st35.trans k) ?_
    show own_Go p e below P T35 (mkF m 95 #[.val (.int p0), .val (.int p1), .val (.int p2), .val (.int p3), .val (.int kk), .val (.int oo), .val (.int (2 : Int32)), .val (.int pl), .val (.int r0), .val (.int r1), .val (.int r2), .val (.ref b33), .unset, .unset, .unset] [])
    refine own_step (fun _ k => XS.iload X35.here hx rfl (hb hby at_95) rfl k) ?_
    show own_Go p e below P T35 (mkF m 97 #[.val (.int p0), .val (.int p1), .val (.int p2), .val (.int p3), .val (.int kk), .val (.int oo), .val (.int (2 : Int32)), .val (.int pl), .val (.int r0), .val (.int r1), .val (.int r2), .val (.ref b33), .unset, .unset, .unset] [(.int (2 : Int32))])
    refine own_step (fun _ k => XS.iconst X35.here hx rfl (hb hby at_97) k) ?_
    show own_Go p e below P T35 (mkF m 98 #[.val (.int p0), .val (.int p1), .val (.int p2), .val (.int p3), .val (.int kk), .val (.int oo), .val (.int (2 : Int32)), .val (.int pl), .val (.int r0), .val (.int r1), .val (.int r2), .val (.ref b33), .unset, .unset, .unset] [(.int (2 : Int32)), (.int (2 : Int32))])
    refine own_step (fun _ k => XS.icmpNo X35.here hx rfl (hb hby at_98) rfl (flt (by decide : ¬ ((2 : Int32) < (2 : Int32)))).1 k) ?_
    show own_Go p e below P T35 (mkF m 101 #[.val (.int p0), .val (.int p1), .val (.int p2), .val (.int p3), .val (.int kk), .val (.int oo), .val (.int (2 : Int32)), .val (.int pl), .val (.int r0), .val (.int r1), .val (.int r2), .val (.ref b33), .unset, .unset, .unset] [])
    refine own_step (fun _ k => XS.aload X35.here hx rfl (hb hby at_101) rfl rfl k) ?_
    show own_Go p e below P T35 (mkF m 103 #[.val (.int p0), .val (.int p1), .val (.int p2), .val (.int p3), .val (.int kk), .val (.int oo), .val (.int (2 : Int32)), .val (.int pl), .val (.int r0), .val (.int r1), .val (.int r2), .val (.ref b33), .unset, .unset, .unset] [(.ref b33)])
    refine own_step (fun _ k => XS.iload X35.here hx rfl (hb hby at_103) rfl k) ?_
    show own_Go p e below P T35 (mkF m 105 #[.val (.int p0), .val (.int p1), .val (.int p2), .val (.int p3), .val (.int kk), .val (.int oo), .val (.int (2 : Int32)), .val (.int pl), .val (.int r0), .val (.int r1), .val (.int r2), .val (.ref b33), .unset, .unset, .unset] [(.int oo), (.ref b33)])
    refine own_step (fun _ k => XS.iload X35.here hx rfl (hb hby at_105) rfl k) ?_
    show own_Go p e below P T35 (mkF m 107 #[.val (.int p0), .val (.int p1), .val (.int p2), .val (.int p3), .val (.int kk), .val (.int oo), .val (.int (2 : Int32)), .val (.int pl), .val (.int r0), .val (.int r1), .val (.int r2), .val (.ref b33), .unset, .unset, .unset] [(.int r1), (.int oo), (.ref b33)])
    refine own_step (fun _ k => XS.iadd X35.here hx rfl (hb hby at_107) rfl k) ?_
    show own_Go p e below P T35 (mkF m 108 #[.val (.int p0), .val (.int p1), .val (.int p2), .val (.int p3), .val (.int kk), .val (.int oo), .val (.int (2 : Int32)), .val (.int pl), .val (.int r0), .val (.int r1), .val (.int r2), .val (.ref b33), .unset, .unset, .unset] [(.int (oo + r1)), (.ref b33)])
    refine own_step (fun _ k => XS.i2dS X35.here hx rfl (hb hby at_108) rfl rfl k) ?_
    show own_Go p e below P T35 (mkF m 109 #[.val (.int p0), .val (.int p1), .val (.int p2), .val (.int p3), .val (.int kk), .val (.int oo), .val (.int (2 : Int32)), .val (.int pl), .val (.int r0), .val (.int r1), .val (.int r2), .val (.ref b33), .unset, .unset, .unset] [(.double (FP.i2d (oo + r1))), (.ref b33)])
    obtain ⟨cq36, kq36, q36a, q36b, q36c⟩ := isOf hZ rfl (E34_o.keep K35)
    obtain ⟨_, _, ⟨T36, L36, k36, n36⟩, -, X36, ⟨Lc36, hQ36, l36, y36, z36⟩, st36⟩ := X35.virtualBack hx (y := (⟨"com/example/bron/bron/trec/ScoreHistogram", "add", "(D)V"⟩ : MethodName)) (z := (⟨"com/example/bron/bron/trec/ScoreHistogram", "add", "(D)V"⟩ : MethodName)) hown (mvT hZ (hw _ (List.mem_of_getElem? (i := 32) rfl))) (mvT hZ (hw _ (List.mem_of_getElem? (i := 33) rfl))) (notFace_of_selects (args := #[]) (mvT hZ (hw _ (List.mem_of_getElem? (i := 35) rfl)))) (mvT hZ (hw _ (List.mem_of_getElem? (i := 35) rfl))) (mvT hZ (hw _ (List.mem_of_getElem? (i := 34) rfl))) (by decide) (backOf (W := 0) (rm7 l Z a0 hw [] b33 (FP.i2d (oo + r1)) ar34 kc34 (kk + (1 : Int32)) (own_put (List.replicate (kk.toNatClampNeg + 1) (0 : Int32)) (own_clamp kk r0)) (FP.i2d oo) (own_clamp kk r1) T35.heap n0 (Nat.le_trans (Nat.le_trans (Nat.le_trans Z0 E33.1) K34.1) K35.1) (E34_o.keep K35) (Fl34.keep K35 (ninS ne34 nin0)) (Fs34.keep K35 (ninS ne34 nin0)) (Fc34.keep K35 (ninS ne34 nin0)) V35 ne34 g_ar34 hv1.2.1 hv1.2.2 (by rw [own_b1, hv1.1]) (own_cl hE).1 (own_cl hE).2 ((own_put_len _ _).trans (own_l0 hE))) hZ (hw _ (List.mem_of_getElem? (i := 36) rfl)) (hw _ (List.mem_of_getElem? (i := 3) rfl)) (by decide) (by decide)) q36a q36c (g := (mkF m 109 #[.val (.int p0), .val (.int p1), .val (.int p2), .val (.int p3), .val (.int kk), .val (.int oo), .val (.int (2 : Int32)), .val (.int pl), .val (.int r0), .val (.int r1), .val (.int r2), .val (.ref b33), .unset, .unset, .unset] [(.double (FP.i2d (oo + r1))), (.ref b33)])) rfl (by rw [hml]; rfl) (Steps.refl _) (argsL := [(.double (FP.i2d (oo + r1)))]) (rest := []) (lenOf pd__D__V rfl) rfl (by show 2 * 0 + _ ≤ _; exact Nat.le_of_eq rfl) (hb hby at_109) (fun _ _ => ⟨rfl, rfl, (by decide : 2 + 0 ≤ _), (by decide : 8 + 0 ≤ _)⟩)
    dsimp only [Pt.U, Pt.locs, Pt.cells, Pt.slots] at X36 l36 y36 z36 st36 hQ36
    subst l36 y36 z36
    obtain ⟨rfl, N36q, K36, V36⟩ := hQ36
    have N36 := Fr.app N35 N36q
    refine own_step (fun _ k => st36.trans k) ?_
    show own_Go p e below P T36 (mkF m 112 #[.val (.int p0), .val (.int p1), .val (.int p2), .val (.int p3), .val (.int kk), .val (.int oo), .val (.int (2 : Int32)), .val (.int pl), .val (.int r0), .val (.int r1), .val (.int r2), .val (.ref b33), .unset, .unset, .unset] [])
    refine own_step (fun _ k => XS.iload X36.here hx rfl (hb hby at_112) rfl k) ?_
    show own_Go p e below P T36 (mkF m 114 #[.val (.int p0), .val (.int p1), .val (.int p2), .val (.int p3), .val (.int kk), .val (.int oo), .val (.int (2 : Int32)), .val (.int pl), .val (.int r0), .val (.int r1), .val (.int r2), .val (.ref b33), .unset, .unset, .unset] [(.int (2 : Int32))])
    refine own_step (fun _ k => XS.iconst X36.here hx rfl (hb hby at_114) k) ?_
    show own_Go p e below P T36 (mkF m 115 #[.val (.int p0), .val (.int p1), .val (.int p2), .val (.int p3), .val (.int kk), .val (.int oo), .val (.int (2 : Int32)), .val (.int pl), .val (.int r0), .val (.int r1), .val (.int r2), .val (.ref b33), .unset, .unset, .unset] [(.int (3 : Int32)), (.int (2 : Int32))])
    refine own_step (fun _ k => XS.icmpYes X36.here hx rfl (pc0 := 115) (pc' := 129) rfl (hb hby at_115) rfl (tlt (by decide : (2 : Int32) < (3 : Int32))).1 (by decide) (by decide) k) ?_
    show own_Go p e below P T36 (mkF m 129 #[.val (.int p0), .val (.int p1), .val (.int p2), .val (.int p3), .val (.int kk), .val (.int oo), .val (.int (2 : Int32)), .val (.int pl), .val (.int r0), .val (.int r1), .val (.int r2), .val (.ref b33), .unset, .unset, .unset] [])
    refine own_step (fun _ k => XS.aload X36.here hx rfl (hb hby at_129) rfl rfl k) ?_
    show own_Go p e below P T36 (mkF m 131 #[.val (.int p0), .val (.int p1), .val (.int p2), .val (.int p3), .val (.int kk), .val (.int oo), .val (.int (2 : Int32)), .val (.int pl), .val (.int r0), .val (.int r1), .val (.int r2), .val (.ref b33), .unset, .unset, .unset] [(.ref b33)])
    refine own_step (fun _ k => XS.iload X36.here hx rfl (hb hby at_131) rfl k) ?_
    show own_Go p e below P T36 (mkF m 133 #[.val (.int p0), .val (.int p1), .val (.int p2), .val (.int p3), .val (.int kk), .val (.int oo), .val (.int (2 : Int32)), .val (.int pl), .val (.int r0), .val (.int r1), .val (.int r2), .val (.ref b33), .unset, .unset, .unset] [(.int pl), (.ref b33)])
    have hbat : own_bat (own_put (own_put (List.replicate (kk.toNatClampNeg + 1) (0 : Int32)) (own_clamp kk r0)) (own_clamp kk r1)) pl = some (own_srt (own_ref r0 kk) (own_ref r1 kk) (-1 : Int32) pl) := by
      obtain ⟨ki, hki⟩ := hK
      obtain ⟨i0, hi0⟩ := hR0
      obtain ⟨i1, hi1⟩ := hR1
      subst hpi hki hi0 hi1
      exact own_t2 ki i0 i1 pi
    obtain ⟨cq37, kq37, q37a, q37b, q37c⟩ := isOf hZ rfl ((E34_o.keep K35).keep K36)
    obtain ⟨_, _, ⟨T37, L37, k37, n37⟩, -, X37, ⟨Lc37, hQ37, l37, y37, z37⟩, st37⟩ := X36.virtualBack hx (y := (⟨"com/example/bron/bron/trec/ScoreHistogram", "bucketAt", "(I)I"⟩ : MethodName)) (z := (⟨"com/example/bron/bron/trec/ScoreHistogram", "bucketAt", "(I)I"⟩ : MethodName)) hown (mvT hZ (hw _ (List.mem_of_getElem? (i := 42) rfl))) (mvT hZ (hw _ (List.mem_of_getElem? (i := 43) rfl))) (notFace_of_selects (args := #[]) (mvT hZ (hw _ (List.mem_of_getElem? (i := 45) rfl)))) (mvT hZ (hw _ (List.mem_of_getElem? (i := 45) rfl))) (mvT hZ (hw _ (List.mem_of_getElem? (i := 44) rfl))) (by decide) (backOf (W := 0) (rm9 l Z a0 hw [] b33 pl ar34 kc34 (kk + (1 : Int32)) (own_put (own_put (List.replicate (kk.toNatClampNeg + 1) (0 : Int32)) (own_clamp kk r0)) (own_clamp kk r1)) (FP.i2d oo) (own_srt (own_ref r0 kk) (own_ref r1 kk) (-1 : Int32) pl) T36.heap n0 (Nat.le_trans (Nat.le_trans (Nat.le_trans (Nat.le_trans Z0 E33.1) K34.1) K35.1) K36.1) ((E34_o.keep K35).keep K36) ((Fl34.keep K35 (ninS ne34 nin0)).keep K36 (ninS ne34 nin0)) ((Fs34.keep K35 (ninS ne34 nin0)).keep K36 (ninS ne34 nin0)) ((Fc34.keep K35 (ninS ne34 nin0)).keep K36 (ninS ne34 nin0)) V36 ne34 ((own_put_len _ _).trans ((own_put_len _ _).trans (own_l0 hE))) (by have := (own_bb hE).2.2.1; omega) hbat) hZ (hw _ (List.mem_of_getElem? (i := 46) rfl)) (hw _ (List.mem_of_getElem? (i := 3) rfl)) (by decide) (by decide)) q37a q37c (g := (mkF m 133 #[.val (.int p0), .val (.int p1), .val (.int p2), .val (.int p3), .val (.int kk), .val (.int oo), .val (.int (2 : Int32)), .val (.int pl), .val (.int r0), .val (.int r1), .val (.int r2), .val (.ref b33), .unset, .unset, .unset] [(.int pl), (.ref b33)])) rfl (by rw [hml]; rfl) (Steps.refl _) (argsL := [(.int pl)]) (rest := []) (lenOf pd__I__I rfl) rfl (by show 2 * 0 + _ ≤ _; exact Nat.le_of_eq rfl) (hb hby at_133) (fun _ _ => ⟨rfl, rfl, (by decide : 2 + 0 ≤ _), (by decide : 8 + 0 ≤ _)⟩)
    dsimp only [Pt.U, Pt.locs, Pt.cells, Pt.slots] at X37 l37 y37 z37 st37 hQ37
    subst l37 y37 z37
    obtain ⟨rfl, N37q, e37⟩ := hQ37
    have N37 := Fr.app N36 N37q
    refine own_step (fun _ k => st37.trans k) ?_
    show own_Go p e below P T37 (mkF m 136 #[.val (.int p0), .val (.int p1), .val (.int p2), .val (.int p3), .val (.int kk), .val (.int oo), .val (.int (2 : Int32)), .val (.int pl), .val (.int r0), .val (.int r1), .val (.int r2), .val (.ref b33), .unset, .unset, .unset] [(.int (own_srt (own_ref r0 kk) (own_ref r1 kk) (-1 : Int32) pl))])
    refine own_step (fun _ k => XS.istore X37.here hx rfl (hb hby at_136) rfl (l' := #[.val (.int p0), .val (.int p1), .val (.int p2), .val (.int p3), .val (.int kk), .val (.int oo), .val (.int (2 : Int32)), .val (.int pl), .val (.int r0), .val (.int r1), .val (.int r2), .val (.ref b33), .val (.int (own_srt (own_ref r0 kk) (own_ref r1 kk) (-1 : Int32) pl)), .unset, .unset]) rfl k) ?_
    show own_Go p e below P T37 (mkF m 138 #[.val (.int p0), .val (.int p1), .val (.int p2), .val (.int p3), .val (.int kk), .val (.int oo), .val (.int (2 : Int32)), .val (.int pl), .val (.int r0), .val (.int r1), .val (.int r2), .val (.ref b33), .val (.int (own_srt (own_ref r0 kk) (own_ref r1 kk) (-1 : Int32) pl)), .unset, .unset] [])
    refine own_step (fun _ k => XS.iconst X37.here hx rfl (hb hby at_138) k) ?_
    show own_Go p e below P T37 (mkF m 139 #[.val (.int p0), .val (.int p1), .val (.int p2), .val (.int p3), .val (.int kk), .val (.int oo), .val (.int (2 : Int32)), .val (.int pl), .val (.int r0), .val (.int r1), .val (.int r2), .val (.ref b33), .val (.int (own_srt (own_ref r0 kk) (own_ref r1 kk) (-1 : Int32) pl)), .unset, .unset] [(.int (3 : Int32))])
    obtain ⟨T38, h38, k38, X38, e38, E38, A38, st38⟩ := newP X37 hx hZ (hw _ (List.mem_of_getElem? (i := 29) rfl)) e37 (g := (mkF m 139 #[.val (.int p0), .val (.int p1), .val (.int p2), .val (.int p3), .val (.int kk), .val (.int oo), .val (.int (2 : Int32)), .val (.int pl), .val (.int r0), .val (.int r1), .val (.int r2), .val (.ref b33), .val (.int (own_srt (own_ref r0 kk) (own_ref r1 kk) (-1 : Int32) pl)), .unset, .unset] [(.int (3 : Int32))])) rfl (hb hby at_139) rfl (by decide) (cap := 3) (by decide) (by decide) (by decide) (by decide)
    obtain ⟨b38, g38⟩ : ∃ z, z = T36.heap.size := ⟨_, rfl⟩
    rw [← g38] at A38 st38
    have g_b38 : n0 ≤ b38 := Nat.le_trans (Nat.le_trans (Nat.le_trans (Nat.le_trans (Nat.le_trans Z0 E33.1) K34.1) K35.1) K36.1) (Nat.le_of_eq g38.symm)
    have sz_b38 : h0.size ≤ b38 := Nat.le_trans (((((Keep.refl h0 []).ext E33).trans K34 (allS (Or.inr sz_b33) all0)).trans K35 (allS (Or.inr sz_ar34) all0)).trans K36 (allS (Or.inr sz_ar34) all0)).1 (Nat.le_of_eq g38.symm)
    have V_b38 : Arv Z h38 b38 k38 .int (3 : Int32) [(.int (0 : Int32)), (.int (0 : Int32)), (.int (0 : Int32))] (.int (0 : Int32)) := (Arv.new A38 (by decide)).pad (pad_rep [] (.int (0 : Int32)) 3)
    refine own_step st38 ?_
    show own_Go p e below P T38 (mkF m 141 #[.val (.int p0), .val (.int p1), .val (.int p2), .val (.int p3), .val (.int kk), .val (.int oo), .val (.int (2 : Int32)), .val (.int pl), .val (.int r0), .val (.int r1), .val (.int r2), .val (.ref b33), .val (.int (own_srt (own_ref r0 kk) (own_ref r1 kk) (-1 : Int32) pl)), .unset, .unset] [(.ref b38)])
    refine own_step (fun _ k => XS.astore X38.here hx rfl (hb hby at_141) rfl rfl (l' := #[.val (.int p0), .val (.int p1), .val (.int p2), .val (.int p3), .val (.int kk), .val (.int oo), .val (.int (2 : Int32)), .val (.int pl), .val (.int r0), .val (.int r1), .val (.int r2), .val (.ref b33), .val (.int (own_srt (own_ref r0 kk) (own_ref r1 kk) (-1 : Int32) pl)), .val (.ref b38), .unset]) rfl k) ?_
    show own_Go p e below P T38 (mkF m 143 #[.val (.int p0), .val (.int p1), .val (.int p2), .val (.int p3), .val (.int kk), .val (.int oo), .val (.int (2 : Int32)), .val (.int pl), .val (.int r0), .val (.int r1), .val (.int r2), .val (.ref b33), .val (.int (own_srt (own_ref r0 kk) (own_ref r1 kk) (-1 : Int32) pl)), .val (.ref b38), .unset] [])
    refine own_step (fun _ k => XS.aload X38.here hx rfl (hb hby at_143) rfl rfl k) ?_
    show own_Go p e below P T38 (mkF m 145 #[.val (.int p0), .val (.int p1), .val (.int p2), .val (.int p3), .val (.int kk), .val (.int oo), .val (.int (2 : Int32)), .val (.int pl), .val (.int r0), .val (.int r1), .val (.int r2), .val (.ref b33), .val (.int (own_srt (own_ref r0 kk) (own_ref r1 kk) (-1 : Int32) pl)), .val (.ref b38), .unset] [(.ref b38)])
    refine own_step (fun _ k => XS.iconst X38.here hx rfl (hb hby at_145) k) ?_
    show own_Go p e below P T38 (mkF m 146 #[.val (.int p0), .val (.int p1), .val (.int p2), .val (.int p3), .val (.int kk), .val (.int oo), .val (.int (2 : Int32)), .val (.int pl), .val (.int r0), .val (.int r1), .val (.int r2), .val (.ref b33), .val (.int (own_srt (own_ref r0 kk) (own_ref r1 kk) (-1 : Int32) pl)), .val (.ref b38), .unset] [(.int (0 : Int32)), (.ref b38)])
    refine own_step (fun _ k => XS.iload X38.here hx rfl (hb hby at_146) rfl k) ?_
    show own_Go p e below P T38 (mkF m 148 #[.val (.int p0), .val (.int p1), .val (.int p2), .val (.int p3), .val (.int kk), .val (.int oo), .val (.int (2 : Int32)), .val (.int pl), .val (.int r0), .val (.int r1), .val (.int r2), .val (.ref b33), .val (.int (own_srt (own_ref r0 kk) (own_ref r1 kk) (-1 : Int32) pl)), .val (.ref b38), .unset] [(.int r0), (.int (0 : Int32)), (.ref b38)])
    refine own_step (fun _ k => XS.iload X38.here hx rfl (hb hby at_148) rfl k) ?_
    show own_Go p e below P T38 (mkF m 150 #[.val (.int p0), .val (.int p1), .val (.int p2), .val (.int p3), .val (.int kk), .val (.int oo), .val (.int (2 : Int32)), .val (.int pl), .val (.int r0), .val (.int r1), .val (.int r2), .val (.ref b33), .val (.int (own_srt (own_ref r0 kk) (own_ref r1 kk) (-1 : Int32) pl)), .val (.ref b38), .unset] [(.int kk), (.int r0), (.int (0 : Int32)), (.ref b38)])
    obtain ⟨_, _, ⟨T39, L39, k39, n39⟩, -, X39, ⟨Lc39, hQ39, l39, y39, z39⟩, st39⟩ := Jvm.LawKit.callS X38 hx (y := (⟨"com/example/bron/bron/trec/ScoreHistogramBucketAtPinLaw", "ref", "(II)I"⟩ : MethodName)) hown (mvT hZ (hw _ (List.mem_of_getElem? (i := 47) rfl))) (mvT hZ (hw _ (List.mem_of_getElem? (i := 48) rfl))) (mvT hZ (hw _ (List.mem_of_getElem? (i := 49) rfl))) (mvT hZ (hw _ (List.mem_of_getElem? (i := 50) rfl))) (by decide) (backOf (W := 2) (rm10 l Z a0 hw [] r0 kk h38 n0 (Nat.le_trans (Nat.le_trans (Nat.le_trans (Nat.le_trans (Nat.le_trans Z0 E33.1) K34.1) K35.1) K36.1) E38.1)) hZ (hw _ (List.mem_of_getElem? (i := 50) rfl)) (hw _ (List.mem_of_getElem? (i := 49) rfl)) (by decide) (by decide)) (g := (mkF m 150 #[.val (.int p0), .val (.int p1), .val (.int p2), .val (.int p3), .val (.int kk), .val (.int oo), .val (.int (2 : Int32)), .val (.int pl), .val (.int r0), .val (.int r1), .val (.int r2), .val (.ref b33), .val (.int (own_srt (own_ref r0 kk) (own_ref r1 kk) (-1 : Int32) pl)), .val (.ref b38), .unset] [(.int kk), (.int r0), (.int (0 : Int32)), (.ref b38)])) rfl (by rw [hml]; rfl) (argsL := [(.int r0), (.int kk)]) (rest := [(.int (0 : Int32)), (.ref b38)]) (lenOf pd__II__I rfl) rfl (by show 2 * 0 + _ ≤ _; exact Nat.le_of_eq rfl) (hb hby at_150) (fun _ _ => ⟨rfl, e38, (by decide : 3 + 0 ≤ _), (by decide : 11 + 0 ≤ _)⟩)
    dsimp only [Pt.U, Pt.locs, Pt.cells, Pt.slots] at X39 l39 y39 z39 st39 hQ39
    subst l39 y39 z39
    obtain ⟨rfl, N39q, e39⟩ := hQ39
    have N39 := Fr.app N37 N39q
    refine own_step st39 ?_
    show own_Go p e below P T39 (mkF m 153 #[.val (.int p0), .val (.int p1), .val (.int p2), .val (.int p3), .val (.int kk), .val (.int oo), .val (.int (2 : Int32)), .val (.int pl), .val (.int r0), .val (.int r1), .val (.int r2), .val (.ref b33), .val (.int (own_srt (own_ref r0 kk) (own_ref r1 kk) (-1 : Int32) pl)), .val (.ref b38), .unset] [(.int (own_ref r0 kk)), (.int (0 : Int32)), (.ref b38)])
    obtain ⟨cl40, Ar40, q40, S40, M40, H40, G40⟩ := (id V_b38)
    have hin40 : ¬ ((0 : Int32) < 0 ∨ cl40.slots.size ≤ ((0 : Int32)).toNatClampNeg) := inb_of S40 ⟨by decide, by decide⟩
    obtain ⟨T40, h40, X40, e40, W40, st40⟩ := stI X39 hx hZ e39 Ar40 (j := (0 : Int32)) hin40 (g := (mkF m 153 #[.val (.int p0), .val (.int p1), .val (.int p2), .val (.int p3), .val (.int kk), .val (.int oo), .val (.int (2 : Int32)), .val (.int pl), .val (.int r0), .val (.int r1), .val (.int r2), .val (.ref b33), .val (.int (own_srt (own_ref r0 kk) (own_ref r1 kk) (-1 : Int32) pl)), .val (.ref b38), .unset] [(.int (own_ref r0 kk)), (.int (0 : Int32)), (.ref b38)])) rfl rfl (hb hby at_153)
    have V40 : Arv Z h40 b38 k38 .int (3 : Int32) [(.int (own_ref r0 kk)), (.int (0 : Int32)), (.int (0 : Int32))] (.int (0 : Int32)) := Arv.set Ar40 q40 S40 M40 H40 G40 rfl W40 0 rfl (Nat.le_of_ble_eq_true rfl)
    have N40 := Fr.snoc X40 N39 g_b38
    refine own_step st40 ?_
    show own_Go p e below P T40 (mkF m 154 #[.val (.int p0), .val (.int p1), .val (.int p2), .val (.int p3), .val (.int kk), .val (.int oo), .val (.int (2 : Int32)), .val (.int pl), .val (.int r0), .val (.int r1), .val (.int r2), .val (.ref b33), .val (.int (own_srt (own_ref r0 kk) (own_ref r1 kk) (-1 : Int32) pl)), .val (.ref b38), .unset] [])
    refine own_step (fun _ k => XS.aload X40.here hx rfl (hb hby at_154) rfl rfl k) ?_
    show own_Go p e below P T40 (mkF m 156 #[.val (.int p0), .val (.int p1), .val (.int p2), .val (.int p3), .val (.int kk), .val (.int oo), .val (.int (2 : Int32)), .val (.int pl), .val (.int r0), .val (.int r1), .val (.int r2), .val (.ref b33), .val (.int (own_srt (own_ref r0 kk) (own_ref r1 kk) (-1 : Int32) pl)), .val (.ref b38), .unset] [(.ref b38)])
    refine own_step (fun _ k => XS.iconst X40.here hx rfl (hb hby at_156) k) ?_
    show own_Go p e below P T40 (mkF m 157 #[.val (.int p0), .val (.int p1), .val (.int p2), .val (.int p3), .val (.int kk), .val (.int oo), .val (.int (2 : Int32)), .val (.int pl), .val (.int r0), .val (.int r1), .val (.int r2), .val (.ref b33), .val (.int (own_srt (own_ref r0 kk) (own_ref r1 kk) (-1 : Int32) pl)), .val (.ref b38), .unset] [(.int (1 : Int32)), (.ref b38)])
    refine own_step (fun _ k => XS.iload X40.here hx rfl (hb hby at_157) rfl k) ?_
    show own_Go p e below P T40 (mkF m 159 #[.val (.int p0), .val (.int p1), .val (.int p2), .val (.int p3), .val (.int kk), .val (.int oo), .val (.int (2 : Int32)), .val (.int pl), .val (.int r0), .val (.int r1), .val (.int r2), .val (.ref b33), .val (.int (own_srt (own_ref r0 kk) (own_ref r1 kk) (-1 : Int32) pl)), .val (.ref b38), .unset] [(.int (2 : Int32)), (.int (1 : Int32)), (.ref b38)])
    refine own_step (fun _ k => XS.iconst X40.here hx rfl (hb hby at_159) k) ?_
    show own_Go p e below P T40 (mkF m 160 #[.val (.int p0), .val (.int p1), .val (.int p2), .val (.int p3), .val (.int kk), .val (.int oo), .val (.int (2 : Int32)), .val (.int pl), .val (.int r0), .val (.int r1), .val (.int r2), .val (.ref b33), .val (.int (own_srt (own_ref r0 kk) (own_ref r1 kk) (-1 : Int32) pl)), .val (.ref b38), .unset] [(.int (2 : Int32)), (.int (2 : Int32)), (.int (1 : Int32)), (.ref b38)])
    refine own_step (fun _ k => XS.icmpNo X40.here hx rfl (hb hby at_160) rfl (flt (by decide : ¬ ((2 : Int32) < (2 : Int32)))).1 k) ?_
    show own_Go p e below P T40 (mkF m 163 #[.val (.int p0), .val (.int p1), .val (.int p2), .val (.int p3), .val (.int kk), .val (.int oo), .val (.int (2 : Int32)), .val (.int pl), .val (.int r0), .val (.int r1), .val (.int r2), .val (.ref b33), .val (.int (own_srt (own_ref r0 kk) (own_ref r1 kk) (-1 : Int32) pl)), .val (.ref b38), .unset] [(.int (1 : Int32)), (.ref b38)])
    refine own_step (fun _ k => XS.iload X40.here hx rfl (hb hby at_163) rfl k) ?_
    show own_Go p e below P T40 (mkF m 165 #[.val (.int p0), .val (.int p1), .val (.int p2), .val (.int p3), .val (.int kk), .val (.int oo), .val (.int (2 : Int32)), .val (.int pl), .val (.int r0), .val (.int r1), .val (.int r2), .val (.ref b33), .val (.int (own_srt (own_ref r0 kk) (own_ref r1 kk) (-1 : Int32) pl)), .val (.ref b38), .unset] [(.int r1), (.int (1 : Int32)), (.ref b38)])
    refine own_step (fun _ k => XS.iload X40.here hx rfl (hb hby at_165) rfl k) ?_
    show own_Go p e below P T40 (mkF m 167 #[.val (.int p0), .val (.int p1), .val (.int p2), .val (.int p3), .val (.int kk), .val (.int oo), .val (.int (2 : Int32)), .val (.int pl), .val (.int r0), .val (.int r1), .val (.int r2), .val (.ref b33), .val (.int (own_srt (own_ref r0 kk) (own_ref r1 kk) (-1 : Int32) pl)), .val (.ref b38), .unset] [(.int kk), (.int r1), (.int (1 : Int32)), (.ref b38)])
    obtain ⟨_, _, ⟨T41, L41, k41, n41⟩, -, X41, ⟨Lc41, hQ41, l41, y41, z41⟩, st41⟩ := Jvm.LawKit.callS X40 hx (y := (⟨"com/example/bron/bron/trec/ScoreHistogramBucketAtPinLaw", "ref", "(II)I"⟩ : MethodName)) hown (mvT hZ (hw _ (List.mem_of_getElem? (i := 47) rfl))) (mvT hZ (hw _ (List.mem_of_getElem? (i := 48) rfl))) (mvT hZ (hw _ (List.mem_of_getElem? (i := 49) rfl))) (mvT hZ (hw _ (List.mem_of_getElem? (i := 50) rfl))) (by decide) (backOf (W := 2) (rm10 l Z a0 hw [] r1 kk h40 n0 (Nat.le_trans (Nat.le_trans (Nat.le_trans (Nat.le_trans (Nat.le_trans (Nat.le_trans Z0 E33.1) K34.1) K35.1) K36.1) E38.1) (Keep.of_wr W40).1)) hZ (hw _ (List.mem_of_getElem? (i := 50) rfl)) (hw _ (List.mem_of_getElem? (i := 49) rfl)) (by decide) (by decide)) (g := (mkF m 167 #[.val (.int p0), .val (.int p1), .val (.int p2), .val (.int p3), .val (.int kk), .val (.int oo), .val (.int (2 : Int32)), .val (.int pl), .val (.int r0), .val (.int r1), .val (.int r2), .val (.ref b33), .val (.int (own_srt (own_ref r0 kk) (own_ref r1 kk) (-1 : Int32) pl)), .val (.ref b38), .unset] [(.int kk), (.int r1), (.int (1 : Int32)), (.ref b38)])) rfl (by rw [hml]; rfl) (argsL := [(.int r1), (.int kk)]) (rest := [(.int (1 : Int32)), (.ref b38)]) (lenOf pd__II__I rfl) rfl (by show 2 * 0 + _ ≤ _; exact Nat.le_of_eq rfl) (hb hby at_167) (fun _ _ => ⟨rfl, e40, (by decide : 3 + 0 ≤ _), (by decide : 11 + 0 ≤ _)⟩)
    dsimp only [Pt.U, Pt.locs, Pt.cells, Pt.slots] at X41 l41 y41 z41 st41 hQ41
    subst l41 y41 z41
    obtain ⟨rfl, N41q, e41⟩ := hQ41
    have N41 := Fr.app N40 N41q
    refine own_step st41 ?_
    show own_Go p e below P T41 (mkF m 170 #[.val (.int p0), .val (.int p1), .val (.int p2), .val (.int p3), .val (.int kk), .val (.int oo), .val (.int (2 : Int32)), .val (.int pl), .val (.int r0), .val (.int r1), .val (.int r2), .val (.ref b33), .val (.int (own_srt (own_ref r0 kk) (own_ref r1 kk) (-1 : Int32) pl)), .val (.ref b38), .unset] [(.int (own_ref r1 kk)), (.int (1 : Int32)), (.ref b38)])
    refine own_step (fun _ k => XS.goto X41.here hx rfl (pc0 := 170) (pc' := 174) rfl (hb hby at_170) (by decide) (by decide) k) ?_
    show own_Go p e below P T41 (mkF m 174 #[.val (.int p0), .val (.int p1), .val (.int p2), .val (.int p3), .val (.int kk), .val (.int oo), .val (.int (2 : Int32)), .val (.int pl), .val (.int r0), .val (.int r1), .val (.int r2), .val (.ref b33), .val (.int (own_srt (own_ref r0 kk) (own_ref r1 kk) (-1 : Int32) pl)), .val (.ref b38), .unset] [(.int (own_ref r1 kk)), (.int (1 : Int32)), (.ref b38)])
    obtain ⟨cl42, Ar42, q42, S42, M42, H42, G42⟩ := (id V40)
    have hin42 : ¬ ((1 : Int32) < 0 ∨ cl42.slots.size ≤ ((1 : Int32)).toNatClampNeg) := inb_of S42 ⟨by decide, by decide⟩
    obtain ⟨T42, h42, X42, e42, W42, st42⟩ := stI X41 hx hZ e41 Ar42 (j := (1 : Int32)) hin42 (g := (mkF m 174 #[.val (.int p0), .val (.int p1), .val (.int p2), .val (.int p3), .val (.int kk), .val (.int oo), .val (.int (2 : Int32)), .val (.int pl), .val (.int r0), .val (.int r1), .val (.int r2), .val (.ref b33), .val (.int (own_srt (own_ref r0 kk) (own_ref r1 kk) (-1 : Int32) pl)), .val (.ref b38), .unset] [(.int (own_ref r1 kk)), (.int (1 : Int32)), (.ref b38)])) rfl rfl (hb hby at_174)
    have V42 : Arv Z h42 b38 k38 .int (3 : Int32) [(.int (own_ref r0 kk)), (.int (own_ref r1 kk)), (.int (0 : Int32))] (.int (0 : Int32)) := Arv.set Ar42 q42 S42 M42 H42 G42 rfl W42 1 rfl (Nat.le_of_ble_eq_true rfl)
    have N42 := Fr.snoc X42 N41 g_b38
    refine own_step st42 ?_
    show own_Go p e below P T42 (mkF m 175 #[.val (.int p0), .val (.int p1), .val (.int p2), .val (.int p3), .val (.int kk), .val (.int oo), .val (.int (2 : Int32)), .val (.int pl), .val (.int r0), .val (.int r1), .val (.int r2), .val (.ref b33), .val (.int (own_srt (own_ref r0 kk) (own_ref r1 kk) (-1 : Int32) pl)), .val (.ref b38), .unset] [])
    refine own_step (fun _ k => XS.aload X42.here hx rfl (hb hby at_175) rfl rfl k) ?_
    show own_Go p e below P T42 (mkF m 177 #[.val (.int p0), .val (.int p1), .val (.int p2), .val (.int p3), .val (.int kk), .val (.int oo), .val (.int (2 : Int32)), .val (.int pl), .val (.int r0), .val (.int r1), .val (.int r2), .val (.ref b33), .val (.int (own_srt (own_ref r0 kk) (own_ref r1 kk) (-1 : Int32) pl)), .val (.ref b38), .unset] [(.ref b38)])
    refine own_step (fun _ k => XS.iconst X42.here hx rfl (hb hby at_177) k) ?_
    show own_Go p e below P T42 (mkF m 178 #[.val (.int p0), .val (.int p1), .val (.int p2), .val (.int p3), .val (.int kk), .val (.int oo), .val (.int (2 : Int32)), .val (.int pl), .val (.int r0), .val (.int r1), .val (.int r2), .val (.ref b33), .val (.int (own_srt (own_ref r0 kk) (own_ref r1 kk) (-1 : Int32) pl)), .val (.ref b38), .unset] [(.int (2 : Int32)), (.ref b38)])
    refine own_step (fun _ k => XS.iload X42.here hx rfl (hb hby at_178) rfl k) ?_
    show own_Go p e below P T42 (mkF m 180 #[.val (.int p0), .val (.int p1), .val (.int p2), .val (.int p3), .val (.int kk), .val (.int oo), .val (.int (2 : Int32)), .val (.int pl), .val (.int r0), .val (.int r1), .val (.int r2), .val (.ref b33), .val (.int (own_srt (own_ref r0 kk) (own_ref r1 kk) (-1 : Int32) pl)), .val (.ref b38), .unset] [(.int (2 : Int32)), (.int (2 : Int32)), (.ref b38)])
    refine own_step (fun _ k => XS.iconst X42.here hx rfl (hb hby at_180) k) ?_
    show own_Go p e below P T42 (mkF m 181 #[.val (.int p0), .val (.int p1), .val (.int p2), .val (.int p3), .val (.int kk), .val (.int oo), .val (.int (2 : Int32)), .val (.int pl), .val (.int r0), .val (.int r1), .val (.int r2), .val (.ref b33), .val (.int (own_srt (own_ref r0 kk) (own_ref r1 kk) (-1 : Int32) pl)), .val (.ref b38), .unset] [(.int (3 : Int32)), (.int (2 : Int32)), (.int (2 : Int32)), (.ref b38)])
    refine own_step (fun _ k => XS.icmpYes X42.here hx rfl (pc0 := 181) (pc' := 194) rfl (hb hby at_181) rfl (tlt (by decide : (2 : Int32) < (3 : Int32))).1 (by decide) (by decide) k) ?_
    show own_Go p e below P T42 (mkF m 194 #[.val (.int p0), .val (.int p1), .val (.int p2), .val (.int p3), .val (.int kk), .val (.int oo), .val (.int (2 : Int32)), .val (.int pl), .val (.int r0), .val (.int r1), .val (.int r2), .val (.ref b33), .val (.int (own_srt (own_ref r0 kk) (own_ref r1 kk) (-1 : Int32) pl)), .val (.ref b38), .unset] [(.int (2 : Int32)), (.ref b38)])
    refine own_step (fun _ k => XS.iconst X42.here hx rfl (hb hby at_194) k) ?_
    show own_Go p e below P T42 (mkF m 195 #[.val (.int p0), .val (.int p1), .val (.int p2), .val (.int p3), .val (.int kk), .val (.int oo), .val (.int (2 : Int32)), .val (.int pl), .val (.int r0), .val (.int r1), .val (.int r2), .val (.ref b33), .val (.int (own_srt (own_ref r0 kk) (own_ref r1 kk) (-1 : Int32) pl)), .val (.ref b38), .unset] [(.int (-1 : Int32)), (.int (2 : Int32)), (.ref b38)])
    obtain ⟨cl43, Ar43, q43, S43, M43, H43, G43⟩ := (id V42)
    have hin43 : ¬ ((2 : Int32) < 0 ∨ cl43.slots.size ≤ ((2 : Int32)).toNatClampNeg) := inb_of S43 ⟨by decide, by decide⟩
    obtain ⟨T43, h43, X43, e43, W43, st43⟩ := stI X42 hx hZ e42 Ar43 (j := (2 : Int32)) hin43 (g := (mkF m 195 #[.val (.int p0), .val (.int p1), .val (.int p2), .val (.int p3), .val (.int kk), .val (.int oo), .val (.int (2 : Int32)), .val (.int pl), .val (.int r0), .val (.int r1), .val (.int r2), .val (.ref b33), .val (.int (own_srt (own_ref r0 kk) (own_ref r1 kk) (-1 : Int32) pl)), .val (.ref b38), .unset] [(.int (-1 : Int32)), (.int (2 : Int32)), (.ref b38)])) rfl rfl (hb hby at_195)
    have V43 : Arv Z h43 b38 k38 .int (3 : Int32) [(.int (own_ref r0 kk)), (.int (own_ref r1 kk)), (.int (-1 : Int32))] (.int (0 : Int32)) := Arv.set Ar43 q43 S43 M43 H43 G43 rfl W43 2 rfl (Nat.le_of_ble_eq_true rfl)
    have N43 := Fr.snoc X43 N42 g_b38
    refine own_step st43 ?_
    show own_Go p e below P T43 (mkF m 196 #[.val (.int p0), .val (.int p1), .val (.int p2), .val (.int p3), .val (.int kk), .val (.int oo), .val (.int (2 : Int32)), .val (.int pl), .val (.int r0), .val (.int r1), .val (.int r2), .val (.ref b33), .val (.int (own_srt (own_ref r0 kk) (own_ref r1 kk) (-1 : Int32) pl)), .val (.ref b38), .unset] [])
    refine own_step (fun _ k => XS.aload X43.here hx rfl (hb hby at_196) rfl rfl k) ?_
    show own_Go p e below P T43 (mkF m 198 #[.val (.int p0), .val (.int p1), .val (.int p2), .val (.int p3), .val (.int kk), .val (.int oo), .val (.int (2 : Int32)), .val (.int pl), .val (.int r0), .val (.int r1), .val (.int r2), .val (.ref b33), .val (.int (own_srt (own_ref r0 kk) (own_ref r1 kk) (-1 : Int32) pl)), .val (.ref b38), .unset] [(.ref b38)])
    refine own_step (fun _ k => XS.iconst X43.here hx rfl (hb hby at_198) k) ?_
    show own_Go p e below P T43 (mkF m 199 #[.val (.int p0), .val (.int p1), .val (.int p2), .val (.int p3), .val (.int kk), .val (.int oo), .val (.int (2 : Int32)), .val (.int pl), .val (.int r0), .val (.int r1), .val (.int r2), .val (.ref b33), .val (.int (own_srt (own_ref r0 kk) (own_ref r1 kk) (-1 : Int32) pl)), .val (.ref b38), .unset] [(.int (0 : Int32)), (.ref b38)])
    obtain ⟨cl44, Ar44, -, S44, M44, H44, -⟩ := (id V43)
    have hin44 : ¬ ((0 : Int32) < 0 ∨ cl44.slots.size ≤ ((0 : Int32)).toNatClampNeg) := inb_of S44 ⟨by decide, by decide⟩
    refine own_step (fun t k => X43.iaload hx (j := (0 : Int32)) (v := (.int (own_ref r0 kk))) (by rw [e43]; exact Ar44.1) (State.isArrayOf_alike hZ.alike Ar44.2.1) Ar44.2.2 hin44 (Has.at H44 hin44 rfl) (g := (mkF m 199 #[.val (.int p0), .val (.int p1), .val (.int p2), .val (.int p3), .val (.int kk), .val (.int oo), .val (.int (2 : Int32)), .val (.int pl), .val (.int r0), .val (.int r1), .val (.int r2), .val (.ref b33), .val (.int (own_srt (own_ref r0 kk) (own_ref r1 kk) (-1 : Int32) pl)), .val (.ref b38), .unset] [(.int (0 : Int32)), (.ref b38)])) rfl rfl (hb hby at_199) t k) ?_
    show own_Go p e below P T43 (mkF m 200 #[.val (.int p0), .val (.int p1), .val (.int p2), .val (.int p3), .val (.int kk), .val (.int oo), .val (.int (2 : Int32)), .val (.int pl), .val (.int r0), .val (.int r1), .val (.int r2), .val (.ref b33), .val (.int (own_srt (own_ref r0 kk) (own_ref r1 kk) (-1 : Int32) pl)), .val (.ref b38), .unset] [(.int (own_ref r0 kk))])
    refine own_step (fun _ k => XS.aload X43.here hx rfl (hb hby at_200) rfl rfl k) ?_
    show own_Go p e below P T43 (mkF m 202 #[.val (.int p0), .val (.int p1), .val (.int p2), .val (.int p3), .val (.int kk), .val (.int oo), .val (.int (2 : Int32)), .val (.int pl), .val (.int r0), .val (.int r1), .val (.int r2), .val (.ref b33), .val (.int (own_srt (own_ref r0 kk) (own_ref r1 kk) (-1 : Int32) pl)), .val (.ref b38), .unset] [(.ref b38), (.int (own_ref r0 kk))])
    refine own_step (fun _ k => XS.iconst X43.here hx rfl (hb hby at_202) k) ?_
    show own_Go p e below P T43 (mkF m 203 #[.val (.int p0), .val (.int p1), .val (.int p2), .val (.int p3), .val (.int kk), .val (.int oo), .val (.int (2 : Int32)), .val (.int pl), .val (.int r0), .val (.int r1), .val (.int r2), .val (.ref b33), .val (.int (own_srt (own_ref r0 kk) (own_ref r1 kk) (-1 : Int32) pl)), .val (.ref b38), .unset] [(.int (1 : Int32)), (.ref b38), (.int (own_ref r0 kk))])
    obtain ⟨cl45, Ar45, -, S45, M45, H45, -⟩ := (id V43)
    have hin45 : ¬ ((1 : Int32) < 0 ∨ cl45.slots.size ≤ ((1 : Int32)).toNatClampNeg) := inb_of S45 ⟨by decide, by decide⟩
    refine own_step (fun t k => X43.iaload hx (j := (1 : Int32)) (v := (.int (own_ref r1 kk))) (by rw [e43]; exact Ar45.1) (State.isArrayOf_alike hZ.alike Ar45.2.1) Ar45.2.2 hin45 (Has.at H45 hin45 rfl) (g := (mkF m 203 #[.val (.int p0), .val (.int p1), .val (.int p2), .val (.int p3), .val (.int kk), .val (.int oo), .val (.int (2 : Int32)), .val (.int pl), .val (.int r0), .val (.int r1), .val (.int r2), .val (.ref b33), .val (.int (own_srt (own_ref r0 kk) (own_ref r1 kk) (-1 : Int32) pl)), .val (.ref b38), .unset] [(.int (1 : Int32)), (.ref b38), (.int (own_ref r0 kk))])) rfl rfl (hb hby at_203) t k) ?_
    show own_Go p e below P T43 (mkF m 204 #[.val (.int p0), .val (.int p1), .val (.int p2), .val (.int p3), .val (.int kk), .val (.int oo), .val (.int (2 : Int32)), .val (.int pl), .val (.int r0), .val (.int r1), .val (.int r2), .val (.ref b33), .val (.int (own_srt (own_ref r0 kk) (own_ref r1 kk) (-1 : Int32) pl)), .val (.ref b38), .unset] [(.int (own_ref r1 kk)), (.int (own_ref r0 kk))])
    by_cases hc46 : (own_ref r0 kk) < (own_ref r1 kk)
    · refine own_step (fun _ k => XS.icmpNo X43.here hx rfl (hb hby at_204) rfl (tlt hc46).2.1 k) ?_
      show own_Go p e below P T43 (mkF m 207 #[.val (.int p0), .val (.int p1), .val (.int p2), .val (.int p3), .val (.int kk), .val (.int oo), .val (.int (2 : Int32)), .val (.int pl), .val (.int r0), .val (.int r1), .val (.int r2), .val (.ref b33), .val (.int (own_srt (own_ref r0 kk) (own_ref r1 kk) (-1 : Int32) pl)), .val (.ref b38), .unset] [])
      refine own_step (fun _ k => XS.aload X43.here hx rfl (hb hby at_207) rfl rfl k) ?_
      show own_Go p e below P T43 (mkF m 209 #[.val (.int p0), .val (.int p1), .val (.int p2), .val (.int p3), .val (.int kk), .val (.int oo), .val (.int (2 : Int32)), .val (.int pl), .val (.int r0), .val (.int r1), .val (.int r2), .val (.ref b33), .val (.int (own_srt (own_ref r0 kk) (own_ref r1 kk) (-1 : Int32) pl)), .val (.ref b38), .unset] [(.ref b38)])
      refine own_step (fun _ k => XS.iconst X43.here hx rfl (hb hby at_209) k) ?_
      show own_Go p e below P T43 (mkF m 210 #[.val (.int p0), .val (.int p1), .val (.int p2), .val (.int p3), .val (.int kk), .val (.int oo), .val (.int (2 : Int32)), .val (.int pl), .val (.int r0), .val (.int r1), .val (.int r2), .val (.ref b33), .val (.int (own_srt (own_ref r0 kk) (own_ref r1 kk) (-1 : Int32) pl)), .val (.ref b38), .unset] [(.int (0 : Int32)), (.ref b38)])
      obtain ⟨cl47, Ar47, -, S47, M47, H47, -⟩ := (id V43)
      have hin47 : ¬ ((0 : Int32) < 0 ∨ cl47.slots.size ≤ ((0 : Int32)).toNatClampNeg) := inb_of S47 ⟨by decide, by decide⟩
      refine own_step (fun t k => X43.iaload hx (j := (0 : Int32)) (v := (.int (own_ref r0 kk))) (by rw [e43]; exact Ar47.1) (State.isArrayOf_alike hZ.alike Ar47.2.1) Ar47.2.2 hin47 (Has.at H47 hin47 rfl) (g := (mkF m 210 #[.val (.int p0), .val (.int p1), .val (.int p2), .val (.int p3), .val (.int kk), .val (.int oo), .val (.int (2 : Int32)), .val (.int pl), .val (.int r0), .val (.int r1), .val (.int r2), .val (.ref b33), .val (.int (own_srt (own_ref r0 kk) (own_ref r1 kk) (-1 : Int32) pl)), .val (.ref b38), .unset] [(.int (0 : Int32)), (.ref b38)])) rfl rfl (hb hby at_210) t k) ?_
      show own_Go p e below P T43 (mkF m 211 #[.val (.int p0), .val (.int p1), .val (.int p2), .val (.int p3), .val (.int kk), .val (.int oo), .val (.int (2 : Int32)), .val (.int pl), .val (.int r0), .val (.int r1), .val (.int r2), .val (.ref b33), .val (.int (own_srt (own_ref r0 kk) (own_ref r1 kk) (-1 : Int32) pl)), .val (.ref b38), .unset] [(.int (own_ref r0 kk))])
      refine own_step (fun _ k => XS.istore X43.here hx rfl (hb hby at_211) rfl (l' := #[.val (.int p0), .val (.int p1), .val (.int p2), .val (.int p3), .val (.int kk), .val (.int oo), .val (.int (2 : Int32)), .val (.int pl), .val (.int r0), .val (.int r1), .val (.int r2), .val (.ref b33), .val (.int (own_srt (own_ref r0 kk) (own_ref r1 kk) (-1 : Int32) pl)), .val (.ref b38), .val (.int (own_ref r0 kk))]) rfl k) ?_
      show own_Go p e below P T43 (mkF m 213 #[.val (.int p0), .val (.int p1), .val (.int p2), .val (.int p3), .val (.int kk), .val (.int oo), .val (.int (2 : Int32)), .val (.int pl), .val (.int r0), .val (.int r1), .val (.int r2), .val (.ref b33), .val (.int (own_srt (own_ref r0 kk) (own_ref r1 kk) (-1 : Int32) pl)), .val (.ref b38), .val (.int (own_ref r0 kk))] [])
      refine own_step (fun _ k => XS.aload X43.here hx rfl (hb hby at_213) rfl rfl k) ?_
      show own_Go p e below P T43 (mkF m 215 #[.val (.int p0), .val (.int p1), .val (.int p2), .val (.int p3), .val (.int kk), .val (.int oo), .val (.int (2 : Int32)), .val (.int pl), .val (.int r0), .val (.int r1), .val (.int r2), .val (.ref b33), .val (.int (own_srt (own_ref r0 kk) (own_ref r1 kk) (-1 : Int32) pl)), .val (.ref b38), .val (.int (own_ref r0 kk))] [(.ref b38)])
      refine own_step (fun _ k => XS.iconst X43.here hx rfl (hb hby at_215) k) ?_
      show own_Go p e below P T43 (mkF m 216 #[.val (.int p0), .val (.int p1), .val (.int p2), .val (.int p3), .val (.int kk), .val (.int oo), .val (.int (2 : Int32)), .val (.int pl), .val (.int r0), .val (.int r1), .val (.int r2), .val (.ref b33), .val (.int (own_srt (own_ref r0 kk) (own_ref r1 kk) (-1 : Int32) pl)), .val (.ref b38), .val (.int (own_ref r0 kk))] [(.int (0 : Int32)), (.ref b38)])
      refine own_step (fun _ k => XS.aload X43.here hx rfl (hb hby at_216) rfl rfl k) ?_
      show own_Go p e below P T43 (mkF m 218 #[.val (.int p0), .val (.int p1), .val (.int p2), .val (.int p3), .val (.int kk), .val (.int oo), .val (.int (2 : Int32)), .val (.int pl), .val (.int r0), .val (.int r1), .val (.int r2), .val (.ref b33), .val (.int (own_srt (own_ref r0 kk) (own_ref r1 kk) (-1 : Int32) pl)), .val (.ref b38), .val (.int (own_ref r0 kk))] [(.ref b38), (.int (0 : Int32)), (.ref b38)])
      refine own_step (fun _ k => XS.iconst X43.here hx rfl (hb hby at_218) k) ?_
      show own_Go p e below P T43 (mkF m 219 #[.val (.int p0), .val (.int p1), .val (.int p2), .val (.int p3), .val (.int kk), .val (.int oo), .val (.int (2 : Int32)), .val (.int pl), .val (.int r0), .val (.int r1), .val (.int r2), .val (.ref b33), .val (.int (own_srt (own_ref r0 kk) (own_ref r1 kk) (-1 : Int32) pl)), .val (.ref b38), .val (.int (own_ref r0 kk))] [(.int (1 : Int32)), (.ref b38), (.int (0 : Int32)), (.ref b38)])
      obtain ⟨cl48, Ar48, -, S48, M48, H48, -⟩ := (id V43)
      have hin48 : ¬ ((1 : Int32) < 0 ∨ cl48.slots.size ≤ ((1 : Int32)).toNatClampNeg) := inb_of S48 ⟨by decide, by decide⟩
      refine own_step (fun t k => X43.iaload hx (j := (1 : Int32)) (v := (.int (own_ref r1 kk))) (by rw [e43]; exact Ar48.1) (State.isArrayOf_alike hZ.alike Ar48.2.1) Ar48.2.2 hin48 (Has.at H48 hin48 rfl) (g := (mkF m 219 #[.val (.int p0), .val (.int p1), .val (.int p2), .val (.int p3), .val (.int kk), .val (.int oo), .val (.int (2 : Int32)), .val (.int pl), .val (.int r0), .val (.int r1), .val (.int r2), .val (.ref b33), .val (.int (own_srt (own_ref r0 kk) (own_ref r1 kk) (-1 : Int32) pl)), .val (.ref b38), .val (.int (own_ref r0 kk))] [(.int (1 : Int32)), (.ref b38), (.int (0 : Int32)), (.ref b38)])) rfl rfl (hb hby at_219) t k) ?_
      show own_Go p e below P T43 (mkF m 220 #[.val (.int p0), .val (.int p1), .val (.int p2), .val (.int p3), .val (.int kk), .val (.int oo), .val (.int (2 : Int32)), .val (.int pl), .val (.int r0), .val (.int r1), .val (.int r2), .val (.ref b33), .val (.int (own_srt (own_ref r0 kk) (own_ref r1 kk) (-1 : Int32) pl)), .val (.ref b38), .val (.int (own_ref r0 kk))] [(.int (own_ref r1 kk)), (.int (0 : Int32)), (.ref b38)])
      obtain ⟨cl49, Ar49, q49, S49, M49, H49, G49⟩ := (id V43)
      have hin49 : ¬ ((0 : Int32) < 0 ∨ cl49.slots.size ≤ ((0 : Int32)).toNatClampNeg) := inb_of S49 ⟨by decide, by decide⟩
      obtain ⟨T49, h49, X49, e49, W49, st49⟩ := stI X43 hx hZ e43 Ar49 (j := (0 : Int32)) hin49 (g := (mkF m 220 #[.val (.int p0), .val (.int p1), .val (.int p2), .val (.int p3), .val (.int kk), .val (.int oo), .val (.int (2 : Int32)), .val (.int pl), .val (.int r0), .val (.int r1), .val (.int r2), .val (.ref b33), .val (.int (own_srt (own_ref r0 kk) (own_ref r1 kk) (-1 : Int32) pl)), .val (.ref b38), .val (.int (own_ref r0 kk))] [(.int (own_ref r1 kk)), (.int (0 : Int32)), (.ref b38)])) rfl rfl (hb hby at_220)
      have V49 : Arv Z h49 b38 k38 .int (3 : Int32) [(.int (own_ref r1 kk)), (.int (own_ref r1 kk)), (.int (-1 : Int32))] (.int (0 : Int32)) := Arv.set Ar49 q49 S49 M49 H49 G49 rfl W49 0 rfl (Nat.le_of_ble_eq_true rfl)
      have N49 := Fr.snoc X49 N43 g_b38
      refine own_step st49 ?_
      show own_Go p e below P T49 (mkF m 221 #[.val (.int p0), .val (.int p1), .val (.int p2), .val (.int p3), .val (.int kk), .val (.int oo), .val (.int (2 : Int32)), .val (.int pl), .val (.int r0), .val (.int r1), .val (.int r2), .val (.ref b33), .val (.int (own_srt (own_ref r0 kk) (own_ref r1 kk) (-1 : Int32) pl)), .val (.ref b38), .val (.int (own_ref r0 kk))] [])
      refine own_step (fun _ k => XS.aload X49.here hx rfl (hb hby at_221) rfl rfl k) ?_
      show own_Go p e below P T49 (mkF m 223 #[.val (.int p0), .val (.int p1), .val (.int p2), .val (.int p3), .val (.int kk), .val (.int oo), .val (.int (2 : Int32)), .val (.int pl), .val (.int r0), .val (.int r1), .val (.int r2), .val (.ref b33), .val (.int (own_srt (own_ref r0 kk) (own_ref r1 kk) (-1 : Int32) pl)), .val (.ref b38), .val (.int (own_ref r0 kk))] [(.ref b38)])
      refine own_step (fun _ k => XS.iconst X49.here hx rfl (hb hby at_223) k) ?_
      show own_Go p e below P T49 (mkF m 224 #[.val (.int p0), .val (.int p1), .val (.int p2), .val (.int p3), .val (.int kk), .val (.int oo), .val (.int (2 : Int32)), .val (.int pl), .val (.int r0), .val (.int r1), .val (.int r2), .val (.ref b33), .val (.int (own_srt (own_ref r0 kk) (own_ref r1 kk) (-1 : Int32) pl)), .val (.ref b38), .val (.int (own_ref r0 kk))] [(.int (1 : Int32)), (.ref b38)])
      refine own_step (fun _ k => XS.iload X49.here hx rfl (hb hby at_224) rfl k) ?_
      show own_Go p e below P T49 (mkF m 226 #[.val (.int p0), .val (.int p1), .val (.int p2), .val (.int p3), .val (.int kk), .val (.int oo), .val (.int (2 : Int32)), .val (.int pl), .val (.int r0), .val (.int r1), .val (.int r2), .val (.ref b33), .val (.int (own_srt (own_ref r0 kk) (own_ref r1 kk) (-1 : Int32) pl)), .val (.ref b38), .val (.int (own_ref r0 kk))] [(.int (own_ref r0 kk)), (.int (1 : Int32)), (.ref b38)])
      obtain ⟨cl50, Ar50, q50, S50, M50, H50, G50⟩ := (id V49)
      have hin50 : ¬ ((1 : Int32) < 0 ∨ cl50.slots.size ≤ ((1 : Int32)).toNatClampNeg) := inb_of S50 ⟨by decide, by decide⟩
      obtain ⟨T50, h50, X50, e50, W50, st50⟩ := stI X49 hx hZ e49 Ar50 (j := (1 : Int32)) hin50 (g := (mkF m 226 #[.val (.int p0), .val (.int p1), .val (.int p2), .val (.int p3), .val (.int kk), .val (.int oo), .val (.int (2 : Int32)), .val (.int pl), .val (.int r0), .val (.int r1), .val (.int r2), .val (.ref b33), .val (.int (own_srt (own_ref r0 kk) (own_ref r1 kk) (-1 : Int32) pl)), .val (.ref b38), .val (.int (own_ref r0 kk))] [(.int (own_ref r0 kk)), (.int (1 : Int32)), (.ref b38)])) rfl rfl (hb hby at_226)
      have V50 : Arv Z h50 b38 k38 .int (3 : Int32) [(.int (own_ref r1 kk)), (.int (own_ref r0 kk)), (.int (-1 : Int32))] (.int (0 : Int32)) := Arv.set Ar50 q50 S50 M50 H50 G50 rfl W50 1 rfl (Nat.le_of_ble_eq_true rfl)
      have N50 := Fr.snoc X50 N49 g_b38
      refine own_step st50 ?_
      show own_Go p e below P T50 (mkF m 227 #[.val (.int p0), .val (.int p1), .val (.int p2), .val (.int p3), .val (.int kk), .val (.int oo), .val (.int (2 : Int32)), .val (.int pl), .val (.int r0), .val (.int r1), .val (.int r2), .val (.ref b33), .val (.int (own_srt (own_ref r0 kk) (own_ref r1 kk) (-1 : Int32) pl)), .val (.ref b38), .val (.int (own_ref r0 kk))] [])
      refine own_step (fun _ k => XS.aload X50.here hx rfl (hb hby at_227) rfl rfl k) ?_
      show own_Go p e below P T50 (mkF m 229 #[.val (.int p0), .val (.int p1), .val (.int p2), .val (.int p3), .val (.int kk), .val (.int oo), .val (.int (2 : Int32)), .val (.int pl), .val (.int r0), .val (.int r1), .val (.int r2), .val (.ref b33), .val (.int (own_srt (own_ref r0 kk) (own_ref r1 kk) (-1 : Int32) pl)), .val (.ref b38), .val (.int (own_ref r0 kk))] [(.ref b38)])
      refine own_step (fun _ k => XS.iconst X50.here hx rfl (hb hby at_229) k) ?_
      show own_Go p e below P T50 (mkF m 230 #[.val (.int p0), .val (.int p1), .val (.int p2), .val (.int p3), .val (.int kk), .val (.int oo), .val (.int (2 : Int32)), .val (.int pl), .val (.int r0), .val (.int r1), .val (.int r2), .val (.ref b33), .val (.int (own_srt (own_ref r0 kk) (own_ref r1 kk) (-1 : Int32) pl)), .val (.ref b38), .val (.int (own_ref r0 kk))] [(.int (1 : Int32)), (.ref b38)])
      obtain ⟨cl51, Ar51, -, S51, M51, H51, -⟩ := (id V50)
      have hin51 : ¬ ((1 : Int32) < 0 ∨ cl51.slots.size ≤ ((1 : Int32)).toNatClampNeg) := inb_of S51 ⟨by decide, by decide⟩
      refine own_step (fun t k => X50.iaload hx (j := (1 : Int32)) (v := (.int (own_ref r0 kk))) (by rw [e50]; exact Ar51.1) (State.isArrayOf_alike hZ.alike Ar51.2.1) Ar51.2.2 hin51 (Has.at H51 hin51 rfl) (g := (mkF m 230 #[.val (.int p0), .val (.int p1), .val (.int p2), .val (.int p3), .val (.int kk), .val (.int oo), .val (.int (2 : Int32)), .val (.int pl), .val (.int r0), .val (.int r1), .val (.int r2), .val (.ref b33), .val (.int (own_srt (own_ref r0 kk) (own_ref r1 kk) (-1 : Int32) pl)), .val (.ref b38), .val (.int (own_ref r0 kk))] [(.int (1 : Int32)), (.ref b38)])) rfl rfl (hb hby at_230) t k) ?_
      show own_Go p e below P T50 (mkF m 231 #[.val (.int p0), .val (.int p1), .val (.int p2), .val (.int p3), .val (.int kk), .val (.int oo), .val (.int (2 : Int32)), .val (.int pl), .val (.int r0), .val (.int r1), .val (.int r2), .val (.ref b33), .val (.int (own_srt (own_ref r0 kk) (own_ref r1 kk) (-1 : Int32) pl)), .val (.ref b38), .val (.int (own_ref r0 kk))] [(.int (own_ref r0 kk))])
      refine own_step (fun _ k => XS.aload X50.here hx rfl (hb hby at_231) rfl rfl k) ?_
      show own_Go p e below P T50 (mkF m 233 #[.val (.int p0), .val (.int p1), .val (.int p2), .val (.int p3), .val (.int kk), .val (.int oo), .val (.int (2 : Int32)), .val (.int pl), .val (.int r0), .val (.int r1), .val (.int r2), .val (.ref b33), .val (.int (own_srt (own_ref r0 kk) (own_ref r1 kk) (-1 : Int32) pl)), .val (.ref b38), .val (.int (own_ref r0 kk))] [(.ref b38), (.int (own_ref r0 kk))])
      refine own_step (fun _ k => XS.iconst X50.here hx rfl (hb hby at_233) k) ?_
      show own_Go p e below P T50 (mkF m 234 #[.val (.int p0), .val (.int p1), .val (.int p2), .val (.int p3), .val (.int kk), .val (.int oo), .val (.int (2 : Int32)), .val (.int pl), .val (.int r0), .val (.int r1), .val (.int r2), .val (.ref b33), .val (.int (own_srt (own_ref r0 kk) (own_ref r1 kk) (-1 : Int32) pl)), .val (.ref b38), .val (.int (own_ref r0 kk))] [(.int (2 : Int32)), (.ref b38), (.int (own_ref r0 kk))])
      obtain ⟨cl52, Ar52, -, S52, M52, H52, -⟩ := (id V50)
      have hin52 : ¬ ((2 : Int32) < 0 ∨ cl52.slots.size ≤ ((2 : Int32)).toNatClampNeg) := inb_of S52 ⟨by decide, by decide⟩
      refine own_step (fun t k => X50.iaload hx (j := (2 : Int32)) (v := (.int (-1 : Int32))) (by rw [e50]; exact Ar52.1) (State.isArrayOf_alike hZ.alike Ar52.2.1) Ar52.2.2 hin52 (Has.at H52 hin52 rfl) (g := (mkF m 234 #[.val (.int p0), .val (.int p1), .val (.int p2), .val (.int p3), .val (.int kk), .val (.int oo), .val (.int (2 : Int32)), .val (.int pl), .val (.int r0), .val (.int r1), .val (.int r2), .val (.ref b33), .val (.int (own_srt (own_ref r0 kk) (own_ref r1 kk) (-1 : Int32) pl)), .val (.ref b38), .val (.int (own_ref r0 kk))] [(.int (2 : Int32)), (.ref b38), (.int (own_ref r0 kk))])) rfl rfl (hb hby at_234) t k) ?_
      show own_Go p e below P T50 (mkF m 235 #[.val (.int p0), .val (.int p1), .val (.int p2), .val (.int p3), .val (.int kk), .val (.int oo), .val (.int (2 : Int32)), .val (.int pl), .val (.int r0), .val (.int r1), .val (.int r2), .val (.ref b33), .val (.int (own_srt (own_ref r0 kk) (own_ref r1 kk) (-1 : Int32) pl)), .val (.ref b38), .val (.int (own_ref r0 kk))] [(.int (-1 : Int32)), (.int (own_ref r0 kk))])
      by_cases hc53 : (own_ref r0 kk) < (-1 : Int32)
      · refine own_step (fun _ k => XS.icmpNo X50.here hx rfl (hb hby at_235) rfl (tlt hc53).2.1 k) ?_
        show own_Go p e below P T50 (mkF m 238 #[.val (.int p0), .val (.int p1), .val (.int p2), .val (.int p3), .val (.int kk), .val (.int oo), .val (.int (2 : Int32)), .val (.int pl), .val (.int r0), .val (.int r1), .val (.int r2), .val (.ref b33), .val (.int (own_srt (own_ref r0 kk) (own_ref r1 kk) (-1 : Int32) pl)), .val (.ref b38), .val (.int (own_ref r0 kk))] [])
        refine own_step (fun _ k => XS.aload X50.here hx rfl (hb hby at_238) rfl rfl k) ?_
        show own_Go p e below P T50 (mkF m 240 #[.val (.int p0), .val (.int p1), .val (.int p2), .val (.int p3), .val (.int kk), .val (.int oo), .val (.int (2 : Int32)), .val (.int pl), .val (.int r0), .val (.int r1), .val (.int r2), .val (.ref b33), .val (.int (own_srt (own_ref r0 kk) (own_ref r1 kk) (-1 : Int32) pl)), .val (.ref b38), .val (.int (own_ref r0 kk))] [(.ref b38)])
        refine own_step (fun _ k => XS.iconst X50.here hx rfl (hb hby at_240) k) ?_
        show own_Go p e below P T50 (mkF m 241 #[.val (.int p0), .val (.int p1), .val (.int p2), .val (.int p3), .val (.int kk), .val (.int oo), .val (.int (2 : Int32)), .val (.int pl), .val (.int r0), .val (.int r1), .val (.int r2), .val (.ref b33), .val (.int (own_srt (own_ref r0 kk) (own_ref r1 kk) (-1 : Int32) pl)), .val (.ref b38), .val (.int (own_ref r0 kk))] [(.int (1 : Int32)), (.ref b38)])
        obtain ⟨cl54, Ar54, -, S54, M54, H54, -⟩ := (id V50)
        have hin54 : ¬ ((1 : Int32) < 0 ∨ cl54.slots.size ≤ ((1 : Int32)).toNatClampNeg) := inb_of S54 ⟨by decide, by decide⟩
        refine own_step (fun t k => X50.iaload hx (j := (1 : Int32)) (v := (.int (own_ref r0 kk))) (by rw [e50]; exact Ar54.1) (State.isArrayOf_alike hZ.alike Ar54.2.1) Ar54.2.2 hin54 (Has.at H54 hin54 rfl) (g := (mkF m 241 #[.val (.int p0), .val (.int p1), .val (.int p2), .val (.int p3), .val (.int kk), .val (.int oo), .val (.int (2 : Int32)), .val (.int pl), .val (.int r0), .val (.int r1), .val (.int r2), .val (.ref b33), .val (.int (own_srt (own_ref r0 kk) (own_ref r1 kk) (-1 : Int32) pl)), .val (.ref b38), .val (.int (own_ref r0 kk))] [(.int (1 : Int32)), (.ref b38)])) rfl rfl (hb hby at_241) t k) ?_
        show own_Go p e below P T50 (mkF m 242 #[.val (.int p0), .val (.int p1), .val (.int p2), .val (.int p3), .val (.int kk), .val (.int oo), .val (.int (2 : Int32)), .val (.int pl), .val (.int r0), .val (.int r1), .val (.int r2), .val (.ref b33), .val (.int (own_srt (own_ref r0 kk) (own_ref r1 kk) (-1 : Int32) pl)), .val (.ref b38), .val (.int (own_ref r0 kk))] [(.int (own_ref r0 kk))])
        refine own_step (fun _ k => XS.istore X50.here hx rfl (hb hby at_242) rfl (l' := #[.val (.int p0), .val (.int p1), .val (.int p2), .val (.int p3), .val (.int kk), .val (.int oo), .val (.int (2 : Int32)), .val (.int pl), .val (.int r0), .val (.int r1), .val (.int r2), .val (.ref b33), .val (.int (own_srt (own_ref r0 kk) (own_ref r1 kk) (-1 : Int32) pl)), .val (.ref b38), .val (.int (own_ref r0 kk))]) rfl k) ?_
        show own_Go p e below P T50 (mkF m 244 #[.val (.int p0), .val (.int p1), .val (.int p2), .val (.int p3), .val (.int kk), .val (.int oo), .val (.int (2 : Int32)), .val (.int pl), .val (.int r0), .val (.int r1), .val (.int r2), .val (.ref b33), .val (.int (own_srt (own_ref r0 kk) (own_ref r1 kk) (-1 : Int32) pl)), .val (.ref b38), .val (.int (own_ref r0 kk))] [])
        refine own_step (fun _ k => XS.aload X50.here hx rfl (hb hby at_244) rfl rfl k) ?_
        show own_Go p e below P T50 (mkF m 246 #[.val (.int p0), .val (.int p1), .val (.int p2), .val (.int p3), .val (.int kk), .val (.int oo), .val (.int (2 : Int32)), .val (.int pl), .val (.int r0), .val (.int r1), .val (.int r2), .val (.ref b33), .val (.int (own_srt (own_ref r0 kk) (own_ref r1 kk) (-1 : Int32) pl)), .val (.ref b38), .val (.int (own_ref r0 kk))] [(.ref b38)])
        refine own_step (fun _ k => XS.iconst X50.here hx rfl (hb hby at_246) k) ?_
        show own_Go p e below P T50 (mkF m 247 #[.val (.int p0), .val (.int p1), .val (.int p2), .val (.int p3), .val (.int kk), .val (.int oo), .val (.int (2 : Int32)), .val (.int pl), .val (.int r0), .val (.int r1), .val (.int r2), .val (.ref b33), .val (.int (own_srt (own_ref r0 kk) (own_ref r1 kk) (-1 : Int32) pl)), .val (.ref b38), .val (.int (own_ref r0 kk))] [(.int (1 : Int32)), (.ref b38)])
        refine own_step (fun _ k => XS.aload X50.here hx rfl (hb hby at_247) rfl rfl k) ?_
        show own_Go p e below P T50 (mkF m 249 #[.val (.int p0), .val (.int p1), .val (.int p2), .val (.int p3), .val (.int kk), .val (.int oo), .val (.int (2 : Int32)), .val (.int pl), .val (.int r0), .val (.int r1), .val (.int r2), .val (.ref b33), .val (.int (own_srt (own_ref r0 kk) (own_ref r1 kk) (-1 : Int32) pl)), .val (.ref b38), .val (.int (own_ref r0 kk))] [(.ref b38), (.int (1 : Int32)), (.ref b38)])
        refine own_step (fun _ k => XS.iconst X50.here hx rfl (hb hby at_249) k) ?_
        show own_Go p e below P T50 (mkF m 250 #[.val (.int p0), .val (.int p1), .val (.int p2), .val (.int p3), .val (.int kk), .val (.int oo), .val (.int (2 : Int32)), .val (.int pl), .val (.int r0), .val (.int r1), .val (.int r2), .val (.ref b33), .val (.int (own_srt (own_ref r0 kk) (own_ref r1 kk) (-1 : Int32) pl)), .val (.ref b38), .val (.int (own_ref r0 kk))] [(.int (2 : Int32)), (.ref b38), (.int (1 : Int32)), (.ref b38)])
        obtain ⟨cl55, Ar55, -, S55, M55, H55, -⟩ := (id V50)
        have hin55 : ¬ ((2 : Int32) < 0 ∨ cl55.slots.size ≤ ((2 : Int32)).toNatClampNeg) := inb_of S55 ⟨by decide, by decide⟩
        refine own_step (fun t k => X50.iaload hx (j := (2 : Int32)) (v := (.int (-1 : Int32))) (by rw [e50]; exact Ar55.1) (State.isArrayOf_alike hZ.alike Ar55.2.1) Ar55.2.2 hin55 (Has.at H55 hin55 rfl) (g := (mkF m 250 #[.val (.int p0), .val (.int p1), .val (.int p2), .val (.int p3), .val (.int kk), .val (.int oo), .val (.int (2 : Int32)), .val (.int pl), .val (.int r0), .val (.int r1), .val (.int r2), .val (.ref b33), .val (.int (own_srt (own_ref r0 kk) (own_ref r1 kk) (-1 : Int32) pl)), .val (.ref b38), .val (.int (own_ref r0 kk))] [(.int (2 : Int32)), (.ref b38), (.int (1 : Int32)), (.ref b38)])) rfl rfl (hb hby at_250) t k) ?_
        show own_Go p e below P T50 (mkF m 251 #[.val (.int p0), .val (.int p1), .val (.int p2), .val (.int p3), .val (.int kk), .val (.int oo), .val (.int (2 : Int32)), .val (.int pl), .val (.int r0), .val (.int r1), .val (.int r2), .val (.ref b33), .val (.int (own_srt (own_ref r0 kk) (own_ref r1 kk) (-1 : Int32) pl)), .val (.ref b38), .val (.int (own_ref r0 kk))] [(.int (-1 : Int32)), (.int (1 : Int32)), (.ref b38)])
        obtain ⟨cl56, Ar56, q56, S56, M56, H56, G56⟩ := (id V50)
        have hin56 : ¬ ((1 : Int32) < 0 ∨ cl56.slots.size ≤ ((1 : Int32)).toNatClampNeg) := inb_of S56 ⟨by decide, by decide⟩
        obtain ⟨T56, h56, X56, e56, W56, st56⟩ := stI X50 hx hZ e50 Ar56 (j := (1 : Int32)) hin56 (g := (mkF m 251 #[.val (.int p0), .val (.int p1), .val (.int p2), .val (.int p3), .val (.int kk), .val (.int oo), .val (.int (2 : Int32)), .val (.int pl), .val (.int r0), .val (.int r1), .val (.int r2), .val (.ref b33), .val (.int (own_srt (own_ref r0 kk) (own_ref r1 kk) (-1 : Int32) pl)), .val (.ref b38), .val (.int (own_ref r0 kk))] [(.int (-1 : Int32)), (.int (1 : Int32)), (.ref b38)])) rfl rfl (hb hby at_251)
        have V56 : Arv Z h56 b38 k38 .int (3 : Int32) [(.int (own_ref r1 kk)), (.int (-1 : Int32)), (.int (-1 : Int32))] (.int (0 : Int32)) := Arv.set Ar56 q56 S56 M56 H56 G56 rfl W56 1 rfl (Nat.le_of_ble_eq_true rfl)
        have N56 := Fr.snoc X56 N50 g_b38
        refine own_step st56 ?_
        show own_Go p e below P T56 (mkF m 252 #[.val (.int p0), .val (.int p1), .val (.int p2), .val (.int p3), .val (.int kk), .val (.int oo), .val (.int (2 : Int32)), .val (.int pl), .val (.int r0), .val (.int r1), .val (.int r2), .val (.ref b33), .val (.int (own_srt (own_ref r0 kk) (own_ref r1 kk) (-1 : Int32) pl)), .val (.ref b38), .val (.int (own_ref r0 kk))] [])
        refine own_step (fun _ k => XS.aload X56.here hx rfl (hb hby at_252) rfl rfl k) ?_
        show own_Go p e below P T56 (mkF m 254 #[.val (.int p0), .val (.int p1), .val (.int p2), .val (.int p3), .val (.int kk), .val (.int oo), .val (.int (2 : Int32)), .val (.int pl), .val (.int r0), .val (.int r1), .val (.int r2), .val (.ref b33), .val (.int (own_srt (own_ref r0 kk) (own_ref r1 kk) (-1 : Int32) pl)), .val (.ref b38), .val (.int (own_ref r0 kk))] [(.ref b38)])
        refine own_step (fun _ k => XS.iconst X56.here hx rfl (hb hby at_254) k) ?_
        show own_Go p e below P T56 (mkF m 255 #[.val (.int p0), .val (.int p1), .val (.int p2), .val (.int p3), .val (.int kk), .val (.int oo), .val (.int (2 : Int32)), .val (.int pl), .val (.int r0), .val (.int r1), .val (.int r2), .val (.ref b33), .val (.int (own_srt (own_ref r0 kk) (own_ref r1 kk) (-1 : Int32) pl)), .val (.ref b38), .val (.int (own_ref r0 kk))] [(.int (2 : Int32)), (.ref b38)])
        refine own_step (fun _ k => XS.iload X56.here hx rfl (hb hby at_255) rfl k) ?_
        show own_Go p e below P T56 (mkF m 257 #[.val (.int p0), .val (.int p1), .val (.int p2), .val (.int p3), .val (.int kk), .val (.int oo), .val (.int (2 : Int32)), .val (.int pl), .val (.int r0), .val (.int r1), .val (.int r2), .val (.ref b33), .val (.int (own_srt (own_ref r0 kk) (own_ref r1 kk) (-1 : Int32) pl)), .val (.ref b38), .val (.int (own_ref r0 kk))] [(.int (own_ref r0 kk)), (.int (2 : Int32)), (.ref b38)])
        obtain ⟨cl57, Ar57, q57, S57, M57, H57, G57⟩ := (id V56)
        have hin57 : ¬ ((2 : Int32) < 0 ∨ cl57.slots.size ≤ ((2 : Int32)).toNatClampNeg) := inb_of S57 ⟨by decide, by decide⟩
        obtain ⟨T57, h57, X57, e57, W57, st57⟩ := stI X56 hx hZ e56 Ar57 (j := (2 : Int32)) hin57 (g := (mkF m 257 #[.val (.int p0), .val (.int p1), .val (.int p2), .val (.int p3), .val (.int kk), .val (.int oo), .val (.int (2 : Int32)), .val (.int pl), .val (.int r0), .val (.int r1), .val (.int r2), .val (.ref b33), .val (.int (own_srt (own_ref r0 kk) (own_ref r1 kk) (-1 : Int32) pl)), .val (.ref b38), .val (.int (own_ref r0 kk))] [(.int (own_ref r0 kk)), (.int (2 : Int32)), (.ref b38)])) rfl rfl (hb hby at_257)
        have V57 : Arv Z h57 b38 k38 .int (3 : Int32) [(.int (own_ref r1 kk)), (.int (-1 : Int32)), (.int (own_ref r0 kk))] (.int (0 : Int32)) := Arv.set Ar57 q57 S57 M57 H57 G57 rfl W57 2 rfl (Nat.le_of_ble_eq_true rfl)
        have N57 := Fr.snoc X57 N56 g_b38
        refine own_step st57 ?_
        show own_Go p e below P T57 (mkF m 258 #[.val (.int p0), .val (.int p1), .val (.int p2), .val (.int p3), .val (.int kk), .val (.int oo), .val (.int (2 : Int32)), .val (.int pl), .val (.int r0), .val (.int r1), .val (.int r2), .val (.ref b33), .val (.int (own_srt (own_ref r0 kk) (own_ref r1 kk) (-1 : Int32) pl)), .val (.ref b38), .val (.int (own_ref r0 kk))] [])
        refine own_step (fun _ k => XS.aload X57.here hx rfl (hb hby at_258) rfl rfl k) ?_
        show own_Go p e below P T57 (mkF m 260 #[.val (.int p0), .val (.int p1), .val (.int p2), .val (.int p3), .val (.int kk), .val (.int oo), .val (.int (2 : Int32)), .val (.int pl), .val (.int r0), .val (.int r1), .val (.int r2), .val (.ref b33), .val (.int (own_srt (own_ref r0 kk) (own_ref r1 kk) (-1 : Int32) pl)), .val (.ref b38), .val (.int (own_ref r0 kk))] [(.ref b38)])
        refine own_step (fun _ k => XS.iconst X57.here hx rfl (hb hby at_260) k) ?_
        show own_Go p e below P T57 (mkF m 261 #[.val (.int p0), .val (.int p1), .val (.int p2), .val (.int p3), .val (.int kk), .val (.int oo), .val (.int (2 : Int32)), .val (.int pl), .val (.int r0), .val (.int r1), .val (.int r2), .val (.ref b33), .val (.int (own_srt (own_ref r0 kk) (own_ref r1 kk) (-1 : Int32) pl)), .val (.ref b38), .val (.int (own_ref r0 kk))] [(.int (0 : Int32)), (.ref b38)])
        obtain ⟨cl58, Ar58, -, S58, M58, H58, -⟩ := (id V57)
        have hin58 : ¬ ((0 : Int32) < 0 ∨ cl58.slots.size ≤ ((0 : Int32)).toNatClampNeg) := inb_of S58 ⟨by decide, by decide⟩
        refine own_step (fun t k => X57.iaload hx (j := (0 : Int32)) (v := (.int (own_ref r1 kk))) (by rw [e57]; exact Ar58.1) (State.isArrayOf_alike hZ.alike Ar58.2.1) Ar58.2.2 hin58 (Has.at H58 hin58 rfl) (g := (mkF m 261 #[.val (.int p0), .val (.int p1), .val (.int p2), .val (.int p3), .val (.int kk), .val (.int oo), .val (.int (2 : Int32)), .val (.int pl), .val (.int r0), .val (.int r1), .val (.int r2), .val (.ref b33), .val (.int (own_srt (own_ref r0 kk) (own_ref r1 kk) (-1 : Int32) pl)), .val (.ref b38), .val (.int (own_ref r0 kk))] [(.int (0 : Int32)), (.ref b38)])) rfl rfl (hb hby at_261) t k) ?_
        show own_Go p e below P T57 (mkF m 262 #[.val (.int p0), .val (.int p1), .val (.int p2), .val (.int p3), .val (.int kk), .val (.int oo), .val (.int (2 : Int32)), .val (.int pl), .val (.int r0), .val (.int r1), .val (.int r2), .val (.ref b33), .val (.int (own_srt (own_ref r0 kk) (own_ref r1 kk) (-1 : Int32) pl)), .val (.ref b38), .val (.int (own_ref r0 kk))] [(.int (own_ref r1 kk))])
        refine own_step (fun _ k => XS.aload X57.here hx rfl (hb hby at_262) rfl rfl k) ?_
        show own_Go p e below P T57 (mkF m 264 #[.val (.int p0), .val (.int p1), .val (.int p2), .val (.int p3), .val (.int kk), .val (.int oo), .val (.int (2 : Int32)), .val (.int pl), .val (.int r0), .val (.int r1), .val (.int r2), .val (.ref b33), .val (.int (own_srt (own_ref r0 kk) (own_ref r1 kk) (-1 : Int32) pl)), .val (.ref b38), .val (.int (own_ref r0 kk))] [(.ref b38), (.int (own_ref r1 kk))])
        refine own_step (fun _ k => XS.iconst X57.here hx rfl (hb hby at_264) k) ?_
        show own_Go p e below P T57 (mkF m 265 #[.val (.int p0), .val (.int p1), .val (.int p2), .val (.int p3), .val (.int kk), .val (.int oo), .val (.int (2 : Int32)), .val (.int pl), .val (.int r0), .val (.int r1), .val (.int r2), .val (.ref b33), .val (.int (own_srt (own_ref r0 kk) (own_ref r1 kk) (-1 : Int32) pl)), .val (.ref b38), .val (.int (own_ref r0 kk))] [(.int (1 : Int32)), (.ref b38), (.int (own_ref r1 kk))])
        obtain ⟨cl59, Ar59, -, S59, M59, H59, -⟩ := (id V57)
        have hin59 : ¬ ((1 : Int32) < 0 ∨ cl59.slots.size ≤ ((1 : Int32)).toNatClampNeg) := inb_of S59 ⟨by decide, by decide⟩
        refine own_step (fun t k => X57.iaload hx (j := (1 : Int32)) (v := (.int (-1 : Int32))) (by rw [e57]; exact Ar59.1) (State.isArrayOf_alike hZ.alike Ar59.2.1) Ar59.2.2 hin59 (Has.at H59 hin59 rfl) (g := (mkF m 265 #[.val (.int p0), .val (.int p1), .val (.int p2), .val (.int p3), .val (.int kk), .val (.int oo), .val (.int (2 : Int32)), .val (.int pl), .val (.int r0), .val (.int r1), .val (.int r2), .val (.ref b33), .val (.int (own_srt (own_ref r0 kk) (own_ref r1 kk) (-1 : Int32) pl)), .val (.ref b38), .val (.int (own_ref r0 kk))] [(.int (1 : Int32)), (.ref b38), (.int (own_ref r1 kk))])) rfl rfl (hb hby at_265) t k) ?_
        show own_Go p e below P T57 (mkF m 266 #[.val (.int p0), .val (.int p1), .val (.int p2), .val (.int p3), .val (.int kk), .val (.int oo), .val (.int (2 : Int32)), .val (.int pl), .val (.int r0), .val (.int r1), .val (.int r2), .val (.ref b33), .val (.int (own_srt (own_ref r0 kk) (own_ref r1 kk) (-1 : Int32) pl)), .val (.ref b38), .val (.int (own_ref r0 kk))] [(.int (-1 : Int32)), (.int (own_ref r1 kk))])
        by_cases hc60 : (own_ref r1 kk) < (-1 : Int32)
        · refine own_step (fun _ k => XS.icmpNo X57.here hx rfl (hb hby at_266) rfl (tlt hc60).2.1 k) ?_
          show own_Go p e below P T57 (mkF m 269 #[.val (.int p0), .val (.int p1), .val (.int p2), .val (.int p3), .val (.int kk), .val (.int oo), .val (.int (2 : Int32)), .val (.int pl), .val (.int r0), .val (.int r1), .val (.int r2), .val (.ref b33), .val (.int (own_srt (own_ref r0 kk) (own_ref r1 kk) (-1 : Int32) pl)), .val (.ref b38), .val (.int (own_ref r0 kk))] [])
          refine own_step (fun _ k => XS.aload X57.here hx rfl (hb hby at_269) rfl rfl k) ?_
          show own_Go p e below P T57 (mkF m 271 #[.val (.int p0), .val (.int p1), .val (.int p2), .val (.int p3), .val (.int kk), .val (.int oo), .val (.int (2 : Int32)), .val (.int pl), .val (.int r0), .val (.int r1), .val (.int r2), .val (.ref b33), .val (.int (own_srt (own_ref r0 kk) (own_ref r1 kk) (-1 : Int32) pl)), .val (.ref b38), .val (.int (own_ref r0 kk))] [(.ref b38)])
          refine own_step (fun _ k => XS.iconst X57.here hx rfl (hb hby at_271) k) ?_
          show own_Go p e below P T57 (mkF m 272 #[.val (.int p0), .val (.int p1), .val (.int p2), .val (.int p3), .val (.int kk), .val (.int oo), .val (.int (2 : Int32)), .val (.int pl), .val (.int r0), .val (.int r1), .val (.int r2), .val (.ref b33), .val (.int (own_srt (own_ref r0 kk) (own_ref r1 kk) (-1 : Int32) pl)), .val (.ref b38), .val (.int (own_ref r0 kk))] [(.int (0 : Int32)), (.ref b38)])
          obtain ⟨cl61, Ar61, -, S61, M61, H61, -⟩ := (id V57)
          have hin61 : ¬ ((0 : Int32) < 0 ∨ cl61.slots.size ≤ ((0 : Int32)).toNatClampNeg) := inb_of S61 ⟨by decide, by decide⟩
          refine own_step (fun t k => X57.iaload hx (j := (0 : Int32)) (v := (.int (own_ref r1 kk))) (by rw [e57]; exact Ar61.1) (State.isArrayOf_alike hZ.alike Ar61.2.1) Ar61.2.2 hin61 (Has.at H61 hin61 rfl) (g := (mkF m 272 #[.val (.int p0), .val (.int p1), .val (.int p2), .val (.int p3), .val (.int kk), .val (.int oo), .val (.int (2 : Int32)), .val (.int pl), .val (.int r0), .val (.int r1), .val (.int r2), .val (.ref b33), .val (.int (own_srt (own_ref r0 kk) (own_ref r1 kk) (-1 : Int32) pl)), .val (.ref b38), .val (.int (own_ref r0 kk))] [(.int (0 : Int32)), (.ref b38)])) rfl rfl (hb hby at_272) t k) ?_
          show own_Go p e below P T57 (mkF m 273 #[.val (.int p0), .val (.int p1), .val (.int p2), .val (.int p3), .val (.int kk), .val (.int oo), .val (.int (2 : Int32)), .val (.int pl), .val (.int r0), .val (.int r1), .val (.int r2), .val (.ref b33), .val (.int (own_srt (own_ref r0 kk) (own_ref r1 kk) (-1 : Int32) pl)), .val (.ref b38), .val (.int (own_ref r0 kk))] [(.int (own_ref r1 kk))])
          refine own_step (fun _ k => XS.istore X57.here hx rfl (hb hby at_273) rfl (l' := #[.val (.int p0), .val (.int p1), .val (.int p2), .val (.int p3), .val (.int kk), .val (.int oo), .val (.int (2 : Int32)), .val (.int pl), .val (.int r0), .val (.int r1), .val (.int r2), .val (.ref b33), .val (.int (own_srt (own_ref r0 kk) (own_ref r1 kk) (-1 : Int32) pl)), .val (.ref b38), .val (.int (own_ref r1 kk))]) rfl k) ?_
          show own_Go p e below P T57 (mkF m 275 #[.val (.int p0), .val (.int p1), .val (.int p2), .val (.int p3), .val (.int kk), .val (.int oo), .val (.int (2 : Int32)), .val (.int pl), .val (.int r0), .val (.int r1), .val (.int r2), .val (.ref b33), .val (.int (own_srt (own_ref r0 kk) (own_ref r1 kk) (-1 : Int32) pl)), .val (.ref b38), .val (.int (own_ref r1 kk))] [])
          refine own_step (fun _ k => XS.aload X57.here hx rfl (hb hby at_275) rfl rfl k) ?_
          show own_Go p e below P T57 (mkF m 277 #[.val (.int p0), .val (.int p1), .val (.int p2), .val (.int p3), .val (.int kk), .val (.int oo), .val (.int (2 : Int32)), .val (.int pl), .val (.int r0), .val (.int r1), .val (.int r2), .val (.ref b33), .val (.int (own_srt (own_ref r0 kk) (own_ref r1 kk) (-1 : Int32) pl)), .val (.ref b38), .val (.int (own_ref r1 kk))] [(.ref b38)])
          refine own_step (fun _ k => XS.iconst X57.here hx rfl (hb hby at_277) k) ?_
          show own_Go p e below P T57 (mkF m 278 #[.val (.int p0), .val (.int p1), .val (.int p2), .val (.int p3), .val (.int kk), .val (.int oo), .val (.int (2 : Int32)), .val (.int pl), .val (.int r0), .val (.int r1), .val (.int r2), .val (.ref b33), .val (.int (own_srt (own_ref r0 kk) (own_ref r1 kk) (-1 : Int32) pl)), .val (.ref b38), .val (.int (own_ref r1 kk))] [(.int (0 : Int32)), (.ref b38)])
          refine own_step (fun _ k => XS.aload X57.here hx rfl (hb hby at_278) rfl rfl k) ?_
          show own_Go p e below P T57 (mkF m 280 #[.val (.int p0), .val (.int p1), .val (.int p2), .val (.int p3), .val (.int kk), .val (.int oo), .val (.int (2 : Int32)), .val (.int pl), .val (.int r0), .val (.int r1), .val (.int r2), .val (.ref b33), .val (.int (own_srt (own_ref r0 kk) (own_ref r1 kk) (-1 : Int32) pl)), .val (.ref b38), .val (.int (own_ref r1 kk))] [(.ref b38), (.int (0 : Int32)), (.ref b38)])
          refine own_step (fun _ k => XS.iconst X57.here hx rfl (hb hby at_280) k) ?_
          show own_Go p e below P T57 (mkF m 281 #[.val (.int p0), .val (.int p1), .val (.int p2), .val (.int p3), .val (.int kk), .val (.int oo), .val (.int (2 : Int32)), .val (.int pl), .val (.int r0), .val (.int r1), .val (.int r2), .val (.ref b33), .val (.int (own_srt (own_ref r0 kk) (own_ref r1 kk) (-1 : Int32) pl)), .val (.ref b38), .val (.int (own_ref r1 kk))] [(.int (1 : Int32)), (.ref b38), (.int (0 : Int32)), (.ref b38)])
          obtain ⟨cl62, Ar62, -, S62, M62, H62, -⟩ := (id V57)
          have hin62 : ¬ ((1 : Int32) < 0 ∨ cl62.slots.size ≤ ((1 : Int32)).toNatClampNeg) := inb_of S62 ⟨by decide, by decide⟩
          refine own_step (fun t k => X57.iaload hx (j := (1 : Int32)) (v := (.int (-1 : Int32))) (by rw [e57]; exact Ar62.1) (State.isArrayOf_alike hZ.alike Ar62.2.1) Ar62.2.2 hin62 (Has.at H62 hin62 rfl) (g := (mkF m 281 #[.val (.int p0), .val (.int p1), .val (.int p2), .val (.int p3), .val (.int kk), .val (.int oo), .val (.int (2 : Int32)), .val (.int pl), .val (.int r0), .val (.int r1), .val (.int r2), .val (.ref b33), .val (.int (own_srt (own_ref r0 kk) (own_ref r1 kk) (-1 : Int32) pl)), .val (.ref b38), .val (.int (own_ref r1 kk))] [(.int (1 : Int32)), (.ref b38), (.int (0 : Int32)), (.ref b38)])) rfl rfl (hb hby at_281) t k) ?_
          show own_Go p e below P T57 (mkF m 282 #[.val (.int p0), .val (.int p1), .val (.int p2), .val (.int p3), .val (.int kk), .val (.int oo), .val (.int (2 : Int32)), .val (.int pl), .val (.int r0), .val (.int r1), .val (.int r2), .val (.ref b33), .val (.int (own_srt (own_ref r0 kk) (own_ref r1 kk) (-1 : Int32) pl)), .val (.ref b38), .val (.int (own_ref r1 kk))] [(.int (-1 : Int32)), (.int (0 : Int32)), (.ref b38)])
          obtain ⟨cl63, Ar63, q63, S63, M63, H63, G63⟩ := (id V57)
          have hin63 : ¬ ((0 : Int32) < 0 ∨ cl63.slots.size ≤ ((0 : Int32)).toNatClampNeg) := inb_of S63 ⟨by decide, by decide⟩
          obtain ⟨T63, h63, X63, e63, W63, st63⟩ := stI X57 hx hZ e57 Ar63 (j := (0 : Int32)) hin63 (g := (mkF m 282 #[.val (.int p0), .val (.int p1), .val (.int p2), .val (.int p3), .val (.int kk), .val (.int oo), .val (.int (2 : Int32)), .val (.int pl), .val (.int r0), .val (.int r1), .val (.int r2), .val (.ref b33), .val (.int (own_srt (own_ref r0 kk) (own_ref r1 kk) (-1 : Int32) pl)), .val (.ref b38), .val (.int (own_ref r1 kk))] [(.int (-1 : Int32)), (.int (0 : Int32)), (.ref b38)])) rfl rfl (hb hby at_282)
          have V63 : Arv Z h63 b38 k38 .int (3 : Int32) [(.int (-1 : Int32)), (.int (-1 : Int32)), (.int (own_ref r0 kk))] (.int (0 : Int32)) := Arv.set Ar63 q63 S63 M63 H63 G63 rfl W63 0 rfl (Nat.le_of_ble_eq_true rfl)
          have N63 := Fr.snoc X63 N57 g_b38
          refine own_step st63 ?_
          show own_Go p e below P T63 (mkF m 283 #[.val (.int p0), .val (.int p1), .val (.int p2), .val (.int p3), .val (.int kk), .val (.int oo), .val (.int (2 : Int32)), .val (.int pl), .val (.int r0), .val (.int r1), .val (.int r2), .val (.ref b33), .val (.int (own_srt (own_ref r0 kk) (own_ref r1 kk) (-1 : Int32) pl)), .val (.ref b38), .val (.int (own_ref r1 kk))] [])
          refine own_step (fun _ k => XS.aload X63.here hx rfl (hb hby at_283) rfl rfl k) ?_
          show own_Go p e below P T63 (mkF m 285 #[.val (.int p0), .val (.int p1), .val (.int p2), .val (.int p3), .val (.int kk), .val (.int oo), .val (.int (2 : Int32)), .val (.int pl), .val (.int r0), .val (.int r1), .val (.int r2), .val (.ref b33), .val (.int (own_srt (own_ref r0 kk) (own_ref r1 kk) (-1 : Int32) pl)), .val (.ref b38), .val (.int (own_ref r1 kk))] [(.ref b38)])
          refine own_step (fun _ k => XS.iconst X63.here hx rfl (hb hby at_285) k) ?_
          show own_Go p e below P T63 (mkF m 286 #[.val (.int p0), .val (.int p1), .val (.int p2), .val (.int p3), .val (.int kk), .val (.int oo), .val (.int (2 : Int32)), .val (.int pl), .val (.int r0), .val (.int r1), .val (.int r2), .val (.ref b33), .val (.int (own_srt (own_ref r0 kk) (own_ref r1 kk) (-1 : Int32) pl)), .val (.ref b38), .val (.int (own_ref r1 kk))] [(.int (1 : Int32)), (.ref b38)])
          refine own_step (fun _ k => XS.iload X63.here hx rfl (hb hby at_286) rfl k) ?_
          show own_Go p e below P T63 (mkF m 288 #[.val (.int p0), .val (.int p1), .val (.int p2), .val (.int p3), .val (.int kk), .val (.int oo), .val (.int (2 : Int32)), .val (.int pl), .val (.int r0), .val (.int r1), .val (.int r2), .val (.ref b33), .val (.int (own_srt (own_ref r0 kk) (own_ref r1 kk) (-1 : Int32) pl)), .val (.ref b38), .val (.int (own_ref r1 kk))] [(.int (own_ref r1 kk)), (.int (1 : Int32)), (.ref b38)])
          obtain ⟨cl64, Ar64, q64, S64, M64, H64, G64⟩ := (id V63)
          have hin64 : ¬ ((1 : Int32) < 0 ∨ cl64.slots.size ≤ ((1 : Int32)).toNatClampNeg) := inb_of S64 ⟨by decide, by decide⟩
          obtain ⟨T64, h64, X64, e64, W64, st64⟩ := stI X63 hx hZ e63 Ar64 (j := (1 : Int32)) hin64 (g := (mkF m 288 #[.val (.int p0), .val (.int p1), .val (.int p2), .val (.int p3), .val (.int kk), .val (.int oo), .val (.int (2 : Int32)), .val (.int pl), .val (.int r0), .val (.int r1), .val (.int r2), .val (.ref b33), .val (.int (own_srt (own_ref r0 kk) (own_ref r1 kk) (-1 : Int32) pl)), .val (.ref b38), .val (.int (own_ref r1 kk))] [(.int (own_ref r1 kk)), (.int (1 : Int32)), (.ref b38)])) rfl rfl (hb hby at_288)
          have V64 : Arv Z h64 b38 k38 .int (3 : Int32) [(.int (-1 : Int32)), (.int (own_ref r1 kk)), (.int (own_ref r0 kk))] (.int (0 : Int32)) := Arv.set Ar64 q64 S64 M64 H64 G64 rfl W64 1 rfl (Nat.le_of_ble_eq_true rfl)
          have N64 := Fr.snoc X64 N63 g_b38
          refine own_step st64 ?_
          show own_Go p e below P T64 (mkF m 289 #[.val (.int p0), .val (.int p1), .val (.int p2), .val (.int p3), .val (.int kk), .val (.int oo), .val (.int (2 : Int32)), .val (.int pl), .val (.int r0), .val (.int r1), .val (.int r2), .val (.ref b33), .val (.int (own_srt (own_ref r0 kk) (own_ref r1 kk) (-1 : Int32) pl)), .val (.ref b38), .val (.int (own_ref r1 kk))] [])
          have hpf := own_plf _ pi (by decide)
          rw [← hpi] at hpf
          refine own_step (fun _ k => XS.iload X64.here hx rfl (hb hby at_289) rfl k) ?_
          show own_Go p e below P T64 (mkF m 291 #[.val (.int p0), .val (.int p1), .val (.int p2), .val (.int p3), .val (.int kk), .val (.int oo), .val (.int (2 : Int32)), .val (.int pl), .val (.int r0), .val (.int r1), .val (.int r2), .val (.ref b33), .val (.int (own_srt (own_ref r0 kk) (own_ref r1 kk) (-1 : Int32) pl)), .val (.ref b38), .val (.int (own_ref r1 kk))] [(.int (own_srt (own_ref r0 kk) (own_ref r1 kk) (-1 : Int32) pl))])
          refine own_step (fun _ k => XS.aload X64.here hx rfl (hb hby at_291) rfl rfl k) ?_
          show own_Go p e below P T64 (mkF m 293 #[.val (.int p0), .val (.int p1), .val (.int p2), .val (.int p3), .val (.int kk), .val (.int oo), .val (.int (2 : Int32)), .val (.int pl), .val (.int r0), .val (.int r1), .val (.int r2), .val (.ref b33), .val (.int (own_srt (own_ref r0 kk) (own_ref r1 kk) (-1 : Int32) pl)), .val (.ref b38), .val (.int (own_ref r1 kk))] [(.ref b38), (.int (own_srt (own_ref r0 kk) (own_ref r1 kk) (-1 : Int32) pl))])
          refine own_step (fun _ k => XS.iload X64.here hx rfl (hb hby at_293) rfl k) ?_
          show own_Go p e below P T64 (mkF m 295 #[.val (.int p0), .val (.int p1), .val (.int p2), .val (.int p3), .val (.int kk), .val (.int oo), .val (.int (2 : Int32)), .val (.int pl), .val (.int r0), .val (.int r1), .val (.int r2), .val (.ref b33), .val (.int (own_srt (own_ref r0 kk) (own_ref r1 kk) (-1 : Int32) pl)), .val (.ref b38), .val (.int (own_ref r1 kk))] [(.int pl), (.ref b38), (.int (own_srt (own_ref r0 kk) (own_ref r1 kk) (-1 : Int32) pl))])
          obtain ⟨cl65, Ar65, -, S65, M65, H65, -⟩ := (id V64)
          have hin65 : ¬ (pl < 0 ∨ cl65.slots.size ≤ (pl).toNatClampNeg) := inb_of S65 ⟨hpf.1, hpf.2.1⟩
          refine own_step (fun t k => X64.iaload hx (j := pl) (v := (.int ([(-1 : Int32), (own_ref r1 kk), (own_ref r0 kk)].getD (pl).toNatClampNeg 0))) (by rw [e64]; exact Ar65.1) (State.isArrayOf_alike hZ.alike Ar65.2.1) Ar65.2.2 hin65 (Has.at H65 hin65 (own_gd [(-1 : Int32), (own_ref r1 kk), (own_ref r0 kk)] _)) (g := (mkF m 295 #[.val (.int p0), .val (.int p1), .val (.int p2), .val (.int p3), .val (.int kk), .val (.int oo), .val (.int (2 : Int32)), .val (.int pl), .val (.int r0), .val (.int r1), .val (.int r2), .val (.ref b33), .val (.int (own_srt (own_ref r0 kk) (own_ref r1 kk) (-1 : Int32) pl)), .val (.ref b38), .val (.int (own_ref r1 kk))] [(.int pl), (.ref b38), (.int (own_srt (own_ref r0 kk) (own_ref r1 kk) (-1 : Int32) pl))])) rfl rfl (hb hby at_295) t k) ?_
          show own_Go p e below P T64 (mkF m 296 #[.val (.int p0), .val (.int p1), .val (.int p2), .val (.int p3), .val (.int kk), .val (.int oo), .val (.int (2 : Int32)), .val (.int pl), .val (.int r0), .val (.int r1), .val (.int r2), .val (.ref b33), .val (.int (own_srt (own_ref r0 kk) (own_ref r1 kk) (-1 : Int32) pl)), .val (.ref b38), .val (.int (own_ref r1 kk))] [(.int ([(-1 : Int32), (own_ref r1 kk), (own_ref r0 kk)].getD (pl).toNatClampNeg 0)), (.int (own_srt (own_ref r0 kk) (own_ref r1 kk) (-1 : Int32) pl))])
          refine own_step (fun _ k => XS.icmpNo X64.here hx rfl (hb hby at_296) rfl (teq ((if_pos hc46).trans ((if_pos hc53).trans (if_pos hc60)))).2 k) ?_
          show own_Go p e below P T64 (mkF m 299 #[.val (.int p0), .val (.int p1), .val (.int p2), .val (.int p3), .val (.int kk), .val (.int oo), .val (.int (2 : Int32)), .val (.int pl), .val (.int r0), .val (.int r1), .val (.int r2), .val (.ref b33), .val (.int (own_srt (own_ref r0 kk) (own_ref r1 kk) (-1 : Int32) pl)), .val (.ref b38), .val (.int (own_ref r1 kk))] [])
          refine own_step (fun _ k => XS.iconst X64.here hx rfl (hb hby at_299) k) ?_
          show own_Go p e below P T64 (mkF m 300 #[.val (.int p0), .val (.int p1), .val (.int p2), .val (.int p3), .val (.int kk), .val (.int oo), .val (.int (2 : Int32)), .val (.int pl), .val (.int r0), .val (.int r1), .val (.int r2), .val (.ref b33), .val (.int (own_srt (own_ref r0 kk) (own_ref r1 kk) (-1 : Int32) pl)), .val (.ref b38), .val (.int (own_ref r1 kk))] [(.int (1 : Int32))])
          refine own_step (fun _ k => XS.goto X64.here hx rfl (pc0 := 300) (pc' := 304) rfl (hb hby at_300) (by decide) (by decide) k) ?_
          show own_Go p e below P T64 (mkF m 304 #[.val (.int p0), .val (.int p1), .val (.int p2), .val (.int p3), .val (.int kk), .val (.int oo), .val (.int (2 : Int32)), .val (.int pl), .val (.int r0), .val (.int r1), .val (.int r2), .val (.ref b33), .val (.int (own_srt (own_ref r0 kk) (own_ref r1 kk) (-1 : Int32) pl)), .val (.ref b38), .val (.int (own_ref r1 kk))] [(.int (1 : Int32))])
          obtain ⟨fs, hr, hrun, hended, hW, hsame⟩ := X64.leave (v := some (.int (1 : Int32))) (fun h => by rw [Bd.returns] at h; cases h)
          refine ⟨_, _, retN X64 hx (t := .boolean) Bd.returns (by simp) (hb hby at_304) hr, hrun, hended, hfin _ _ ⟨_, _, rfl, ?_, ⟨_, rfl⟩, hW, hsame.mono (by decide) (by decide)⟩⟩
          show Q0 Z p0 p1 p2 p3 h0 n0 (some (.int (1 : Int32))) T64.heap _
          rw [e64]
          exact ⟨rfl, N64⟩
        · refine own_step (fun _ k => XS.icmpYes X57.here hx rfl (pc0 := 266) (pc' := 289) rfl (hb hby at_266) rfl (flt hc60).2.1 (by decide) (by decide) k) ?_
          show own_Go p e below P T57 (mkF m 289 #[.val (.int p0), .val (.int p1), .val (.int p2), .val (.int p3), .val (.int kk), .val (.int oo), .val (.int (2 : Int32)), .val (.int pl), .val (.int r0), .val (.int r1), .val (.int r2), .val (.ref b33), .val (.int (own_srt (own_ref r0 kk) (own_ref r1 kk) (-1 : Int32) pl)), .val (.ref b38), .val (.int (own_ref r0 kk))] [])
          have hpf := own_plf _ pi (by decide)
          rw [← hpi] at hpf
          refine own_step (fun _ k => XS.iload X57.here hx rfl (hb hby at_289) rfl k) ?_
          show own_Go p e below P T57 (mkF m 291 #[.val (.int p0), .val (.int p1), .val (.int p2), .val (.int p3), .val (.int kk), .val (.int oo), .val (.int (2 : Int32)), .val (.int pl), .val (.int r0), .val (.int r1), .val (.int r2), .val (.ref b33), .val (.int (own_srt (own_ref r0 kk) (own_ref r1 kk) (-1 : Int32) pl)), .val (.ref b38), .val (.int (own_ref r0 kk))] [(.int (own_srt (own_ref r0 kk) (own_ref r1 kk) (-1 : Int32) pl))])
          refine own_step (fun _ k => XS.aload X57.here hx rfl (hb hby at_291) rfl rfl k) ?_
          show own_Go p e below P T57 (mkF m 293 #[.val (.int p0), .val (.int p1), .val (.int p2), .val (.int p3), .val (.int kk), .val (.int oo), .val (.int (2 : Int32)), .val (.int pl), .val (.int r0), .val (.int r1), .val (.int r2), .val (.ref b33), .val (.int (own_srt (own_ref r0 kk) (own_ref r1 kk) (-1 : Int32) pl)), .val (.ref b38), .val (.int (own_ref r0 kk))] [(.ref b38), (.int (own_srt (own_ref r0 kk) (own_ref r1 kk) (-1 : Int32) pl))])
          refine own_step (fun _ k => XS.iload X57.here hx rfl (hb hby at_293) rfl k) ?_
          show own_Go p e below P T57 (mkF m 295 #[.val (.int p0), .val (.int p1), .val (.int p2), .val (.int p3), .val (.int kk), .val (.int oo), .val (.int (2 : Int32)), .val (.int pl), .val (.int r0), .val (.int r1), .val (.int r2), .val (.ref b33), .val (.int (own_srt (own_ref r0 kk) (own_ref r1 kk) (-1 : Int32) pl)), .val (.ref b38), .val (.int (own_ref r0 kk))] [(.int pl), (.ref b38), (.int (own_srt (own_ref r0 kk) (own_ref r1 kk) (-1 : Int32) pl))])
          obtain ⟨cl67, Ar67, -, S67, M67, H67, -⟩ := (id V57)
          have hin67 : ¬ (pl < 0 ∨ cl67.slots.size ≤ (pl).toNatClampNeg) := inb_of S67 ⟨hpf.1, hpf.2.1⟩
          refine own_step (fun t k => X57.iaload hx (j := pl) (v := (.int ([(own_ref r1 kk), (-1 : Int32), (own_ref r0 kk)].getD (pl).toNatClampNeg 0))) (by rw [e57]; exact Ar67.1) (State.isArrayOf_alike hZ.alike Ar67.2.1) Ar67.2.2 hin67 (Has.at H67 hin67 (own_gd [(own_ref r1 kk), (-1 : Int32), (own_ref r0 kk)] _)) (g := (mkF m 295 #[.val (.int p0), .val (.int p1), .val (.int p2), .val (.int p3), .val (.int kk), .val (.int oo), .val (.int (2 : Int32)), .val (.int pl), .val (.int r0), .val (.int r1), .val (.int r2), .val (.ref b33), .val (.int (own_srt (own_ref r0 kk) (own_ref r1 kk) (-1 : Int32) pl)), .val (.ref b38), .val (.int (own_ref r0 kk))] [(.int pl), (.ref b38), (.int (own_srt (own_ref r0 kk) (own_ref r1 kk) (-1 : Int32) pl))])) rfl rfl (hb hby at_295) t k) ?_
          show own_Go p e below P T57 (mkF m 296 #[.val (.int p0), .val (.int p1), .val (.int p2), .val (.int p3), .val (.int kk), .val (.int oo), .val (.int (2 : Int32)), .val (.int pl), .val (.int r0), .val (.int r1), .val (.int r2), .val (.ref b33), .val (.int (own_srt (own_ref r0 kk) (own_ref r1 kk) (-1 : Int32) pl)), .val (.ref b38), .val (.int (own_ref r0 kk))] [(.int ([(own_ref r1 kk), (-1 : Int32), (own_ref r0 kk)].getD (pl).toNatClampNeg 0)), (.int (own_srt (own_ref r0 kk) (own_ref r1 kk) (-1 : Int32) pl))])
          refine own_step (fun _ k => XS.icmpNo X57.here hx rfl (hb hby at_296) rfl (teq ((if_pos hc46).trans ((if_pos hc53).trans (if_neg hc60)))).2 k) ?_
          show own_Go p e below P T57 (mkF m 299 #[.val (.int p0), .val (.int p1), .val (.int p2), .val (.int p3), .val (.int kk), .val (.int oo), .val (.int (2 : Int32)), .val (.int pl), .val (.int r0), .val (.int r1), .val (.int r2), .val (.ref b33), .val (.int (own_srt (own_ref r0 kk) (own_ref r1 kk) (-1 : Int32) pl)), .val (.ref b38), .val (.int (own_ref r0 kk))] [])
          refine own_step (fun _ k => XS.iconst X57.here hx rfl (hb hby at_299) k) ?_
          show own_Go p e below P T57 (mkF m 300 #[.val (.int p0), .val (.int p1), .val (.int p2), .val (.int p3), .val (.int kk), .val (.int oo), .val (.int (2 : Int32)), .val (.int pl), .val (.int r0), .val (.int r1), .val (.int r2), .val (.ref b33), .val (.int (own_srt (own_ref r0 kk) (own_ref r1 kk) (-1 : Int32) pl)), .val (.ref b38), .val (.int (own_ref r0 kk))] [(.int (1 : Int32))])
          refine own_step (fun _ k => XS.goto X57.here hx rfl (pc0 := 300) (pc' := 304) rfl (hb hby at_300) (by decide) (by decide) k) ?_
          show own_Go p e below P T57 (mkF m 304 #[.val (.int p0), .val (.int p1), .val (.int p2), .val (.int p3), .val (.int kk), .val (.int oo), .val (.int (2 : Int32)), .val (.int pl), .val (.int r0), .val (.int r1), .val (.int r2), .val (.ref b33), .val (.int (own_srt (own_ref r0 kk) (own_ref r1 kk) (-1 : Int32) pl)), .val (.ref b38), .val (.int (own_ref r0 kk))] [(.int (1 : Int32))])
          obtain ⟨fs, hr, hrun, hended, hW, hsame⟩ := X57.leave (v := some (.int (1 : Int32))) (fun h => by rw [Bd.returns] at h; cases h)
          refine ⟨_, _, retN X57 hx (t := .boolean) Bd.returns (by simp) (hb hby at_304) hr, hrun, hended, hfin _ _ ⟨_, _, rfl, ?_, ⟨_, rfl⟩, hW, hsame.mono (by decide) (by decide)⟩⟩
          show Q0 Z p0 p1 p2 p3 h0 n0 (some (.int (1 : Int32))) T57.heap _
          rw [e57]
          exact ⟨rfl, N57⟩
      · refine own_step (fun _ k => XS.icmpYes X50.here hx rfl (pc0 := 235) (pc' := 258) rfl (hb hby at_235) rfl (flt hc53).2.1 (by decide) (by decide) k) ?_
        show own_Go p e below P T50 (mkF m 258 #[.val (.int p0), .val (.int p1), .val (.int p2), .val (.int p3), .val (.int kk), .val (.int oo), .val (.int (2 : Int32)), .val (.int pl), .val (.int r0), .val (.int r1), .val (.int r2), .val (.ref b33), .val (.int (own_srt (own_ref r0 kk) (own_ref r1 kk) (-1 : Int32) pl)), .val (.ref b38), .val (.int (own_ref r0 kk))] [])
        refine own_step (fun _ k => XS.aload X50.here hx rfl (hb hby at_258) rfl rfl k) ?_
        show own_Go p e below P T50 (mkF m 260 #[.val (.int p0), .val (.int p1), .val (.int p2), .val (.int p3), .val (.int kk), .val (.int oo), .val (.int (2 : Int32)), .val (.int pl), .val (.int r0), .val (.int r1), .val (.int r2), .val (.ref b33), .val (.int (own_srt (own_ref r0 kk) (own_ref r1 kk) (-1 : Int32) pl)), .val (.ref b38), .val (.int (own_ref r0 kk))] [(.ref b38)])
        refine own_step (fun _ k => XS.iconst X50.here hx rfl (hb hby at_260) k) ?_
        show own_Go p e below P T50 (mkF m 261 #[.val (.int p0), .val (.int p1), .val (.int p2), .val (.int p3), .val (.int kk), .val (.int oo), .val (.int (2 : Int32)), .val (.int pl), .val (.int r0), .val (.int r1), .val (.int r2), .val (.ref b33), .val (.int (own_srt (own_ref r0 kk) (own_ref r1 kk) (-1 : Int32) pl)), .val (.ref b38), .val (.int (own_ref r0 kk))] [(.int (0 : Int32)), (.ref b38)])
        obtain ⟨cl69, Ar69, -, S69, M69, H69, -⟩ := (id V50)
        have hin69 : ¬ ((0 : Int32) < 0 ∨ cl69.slots.size ≤ ((0 : Int32)).toNatClampNeg) := inb_of S69 ⟨by decide, by decide⟩
        refine own_step (fun t k => X50.iaload hx (j := (0 : Int32)) (v := (.int (own_ref r1 kk))) (by rw [e50]; exact Ar69.1) (State.isArrayOf_alike hZ.alike Ar69.2.1) Ar69.2.2 hin69 (Has.at H69 hin69 rfl) (g := (mkF m 261 #[.val (.int p0), .val (.int p1), .val (.int p2), .val (.int p3), .val (.int kk), .val (.int oo), .val (.int (2 : Int32)), .val (.int pl), .val (.int r0), .val (.int r1), .val (.int r2), .val (.ref b33), .val (.int (own_srt (own_ref r0 kk) (own_ref r1 kk) (-1 : Int32) pl)), .val (.ref b38), .val (.int (own_ref r0 kk))] [(.int (0 : Int32)), (.ref b38)])) rfl rfl (hb hby at_261) t k) ?_
        show own_Go p e below P T50 (mkF m 262 #[.val (.int p0), .val (.int p1), .val (.int p2), .val (.int p3), .val (.int kk), .val (.int oo), .val (.int (2 : Int32)), .val (.int pl), .val (.int r0), .val (.int r1), .val (.int r2), .val (.ref b33), .val (.int (own_srt (own_ref r0 kk) (own_ref r1 kk) (-1 : Int32) pl)), .val (.ref b38), .val (.int (own_ref r0 kk))] [(.int (own_ref r1 kk))])
        refine own_step (fun _ k => XS.aload X50.here hx rfl (hb hby at_262) rfl rfl k) ?_
        show own_Go p e below P T50 (mkF m 264 #[.val (.int p0), .val (.int p1), .val (.int p2), .val (.int p3), .val (.int kk), .val (.int oo), .val (.int (2 : Int32)), .val (.int pl), .val (.int r0), .val (.int r1), .val (.int r2), .val (.ref b33), .val (.int (own_srt (own_ref r0 kk) (own_ref r1 kk) (-1 : Int32) pl)), .val (.ref b38), .val (.int (own_ref r0 kk))] [(.ref b38), (.int (own_ref r1 kk))])
        refine own_step (fun _ k => XS.iconst X50.here hx rfl (hb hby at_264) k) ?_
        show own_Go p e below P T50 (mkF m 265 #[.val (.int p0), .val (.int p1), .val (.int p2), .val (.int p3), .val (.int kk), .val (.int oo), .val (.int (2 : Int32)), .val (.int pl), .val (.int r0), .val (.int r1), .val (.int r2), .val (.ref b33), .val (.int (own_srt (own_ref r0 kk) (own_ref r1 kk) (-1 : Int32) pl)), .val (.ref b38), .val (.int (own_ref r0 kk))] [(.int (1 : Int32)), (.ref b38), (.int (own_ref r1 kk))])
        obtain ⟨cl70, Ar70, -, S70, M70, H70, -⟩ := (id V50)
        have hin70 : ¬ ((1 : Int32) < 0 ∨ cl70.slots.size ≤ ((1 : Int32)).toNatClampNeg) := inb_of S70 ⟨by decide, by decide⟩
        refine own_step (fun t k => X50.iaload hx (j := (1 : Int32)) (v := (.int (own_ref r0 kk))) (by rw [e50]; exact Ar70.1) (State.isArrayOf_alike hZ.alike Ar70.2.1) Ar70.2.2 hin70 (Has.at H70 hin70 rfl) (g := (mkF m 265 #[.val (.int p0), .val (.int p1), .val (.int p2), .val (.int p3), .val (.int kk), .val (.int oo), .val (.int (2 : Int32)), .val (.int pl), .val (.int r0), .val (.int r1), .val (.int r2), .val (.ref b33), .val (.int (own_srt (own_ref r0 kk) (own_ref r1 kk) (-1 : Int32) pl)), .val (.ref b38), .val (.int (own_ref r0 kk))] [(.int (1 : Int32)), (.ref b38), (.int (own_ref r1 kk))])) rfl rfl (hb hby at_265) t k) ?_
        show own_Go p e below P T50 (mkF m 266 #[.val (.int p0), .val (.int p1), .val (.int p2), .val (.int p3), .val (.int kk), .val (.int oo), .val (.int (2 : Int32)), .val (.int pl), .val (.int r0), .val (.int r1), .val (.int r2), .val (.ref b33), .val (.int (own_srt (own_ref r0 kk) (own_ref r1 kk) (-1 : Int32) pl)), .val (.ref b38), .val (.int (own_ref r0 kk))] [(.int (own_ref r0 kk)), (.int (own_ref r1 kk))])
        by_cases hc71 : (own_ref r1 kk) < (own_ref r0 kk)
        · refine own_step (fun _ k => XS.icmpNo X50.here hx rfl (hb hby at_266) rfl (tlt hc71).2.1 k) ?_
          show own_Go p e below P T50 (mkF m 269 #[.val (.int p0), .val (.int p1), .val (.int p2), .val (.int p3), .val (.int kk), .val (.int oo), .val (.int (2 : Int32)), .val (.int pl), .val (.int r0), .val (.int r1), .val (.int r2), .val (.ref b33), .val (.int (own_srt (own_ref r0 kk) (own_ref r1 kk) (-1 : Int32) pl)), .val (.ref b38), .val (.int (own_ref r0 kk))] [])
          refine own_step (fun _ k => XS.aload X50.here hx rfl (hb hby at_269) rfl rfl k) ?_
          show own_Go p e below P T50 (mkF m 271 #[.val (.int p0), .val (.int p1), .val (.int p2), .val (.int p3), .val (.int kk), .val (.int oo), .val (.int (2 : Int32)), .val (.int pl), .val (.int r0), .val (.int r1), .val (.int r2), .val (.ref b33), .val (.int (own_srt (own_ref r0 kk) (own_ref r1 kk) (-1 : Int32) pl)), .val (.ref b38), .val (.int (own_ref r0 kk))] [(.ref b38)])
          refine own_step (fun _ k => XS.iconst X50.here hx rfl (hb hby at_271) k) ?_
          show own_Go p e below P T50 (mkF m 272 #[.val (.int p0), .val (.int p1), .val (.int p2), .val (.int p3), .val (.int kk), .val (.int oo), .val (.int (2 : Int32)), .val (.int pl), .val (.int r0), .val (.int r1), .val (.int r2), .val (.ref b33), .val (.int (own_srt (own_ref r0 kk) (own_ref r1 kk) (-1 : Int32) pl)), .val (.ref b38), .val (.int (own_ref r0 kk))] [(.int (0 : Int32)), (.ref b38)])
          obtain ⟨cl72, Ar72, -, S72, M72, H72, -⟩ := (id V50)
          have hin72 : ¬ ((0 : Int32) < 0 ∨ cl72.slots.size ≤ ((0 : Int32)).toNatClampNeg) := inb_of S72 ⟨by decide, by decide⟩
          refine own_step (fun t k => X50.iaload hx (j := (0 : Int32)) (v := (.int (own_ref r1 kk))) (by rw [e50]; exact Ar72.1) (State.isArrayOf_alike hZ.alike Ar72.2.1) Ar72.2.2 hin72 (Has.at H72 hin72 rfl) (g := (mkF m 272 #[.val (.int p0), .val (.int p1), .val (.int p2), .val (.int p3), .val (.int kk), .val (.int oo), .val (.int (2 : Int32)), .val (.int pl), .val (.int r0), .val (.int r1), .val (.int r2), .val (.ref b33), .val (.int (own_srt (own_ref r0 kk) (own_ref r1 kk) (-1 : Int32) pl)), .val (.ref b38), .val (.int (own_ref r0 kk))] [(.int (0 : Int32)), (.ref b38)])) rfl rfl (hb hby at_272) t k) ?_
          show own_Go p e below P T50 (mkF m 273 #[.val (.int p0), .val (.int p1), .val (.int p2), .val (.int p3), .val (.int kk), .val (.int oo), .val (.int (2 : Int32)), .val (.int pl), .val (.int r0), .val (.int r1), .val (.int r2), .val (.ref b33), .val (.int (own_srt (own_ref r0 kk) (own_ref r1 kk) (-1 : Int32) pl)), .val (.ref b38), .val (.int (own_ref r0 kk))] [(.int (own_ref r1 kk))])
          refine own_step (fun _ k => XS.istore X50.here hx rfl (hb hby at_273) rfl (l' := #[.val (.int p0), .val (.int p1), .val (.int p2), .val (.int p3), .val (.int kk), .val (.int oo), .val (.int (2 : Int32)), .val (.int pl), .val (.int r0), .val (.int r1), .val (.int r2), .val (.ref b33), .val (.int (own_srt (own_ref r0 kk) (own_ref r1 kk) (-1 : Int32) pl)), .val (.ref b38), .val (.int (own_ref r1 kk))]) rfl k) ?_
          show own_Go p e below P T50 (mkF m 275 #[.val (.int p0), .val (.int p1), .val (.int p2), .val (.int p3), .val (.int kk), .val (.int oo), .val (.int (2 : Int32)), .val (.int pl), .val (.int r0), .val (.int r1), .val (.int r2), .val (.ref b33), .val (.int (own_srt (own_ref r0 kk) (own_ref r1 kk) (-1 : Int32) pl)), .val (.ref b38), .val (.int (own_ref r1 kk))] [])
          refine own_step (fun _ k => XS.aload X50.here hx rfl (hb hby at_275) rfl rfl k) ?_
          show own_Go p e below P T50 (mkF m 277 #[.val (.int p0), .val (.int p1), .val (.int p2), .val (.int p3), .val (.int kk), .val (.int oo), .val (.int (2 : Int32)), .val (.int pl), .val (.int r0), .val (.int r1), .val (.int r2), .val (.ref b33), .val (.int (own_srt (own_ref r0 kk) (own_ref r1 kk) (-1 : Int32) pl)), .val (.ref b38), .val (.int (own_ref r1 kk))] [(.ref b38)])
          refine own_step (fun _ k => XS.iconst X50.here hx rfl (hb hby at_277) k) ?_
          show own_Go p e below P T50 (mkF m 278 #[.val (.int p0), .val (.int p1), .val (.int p2), .val (.int p3), .val (.int kk), .val (.int oo), .val (.int (2 : Int32)), .val (.int pl), .val (.int r0), .val (.int r1), .val (.int r2), .val (.ref b33), .val (.int (own_srt (own_ref r0 kk) (own_ref r1 kk) (-1 : Int32) pl)), .val (.ref b38), .val (.int (own_ref r1 kk))] [(.int (0 : Int32)), (.ref b38)])
          refine own_step (fun _ k => XS.aload X50.here hx rfl (hb hby at_278) rfl rfl k) ?_
          show own_Go p e below P T50 (mkF m 280 #[.val (.int p0), .val (.int p1), .val (.int p2), .val (.int p3), .val (.int kk), .val (.int oo), .val (.int (2 : Int32)), .val (.int pl), .val (.int r0), .val (.int r1), .val (.int r2), .val (.ref b33), .val (.int (own_srt (own_ref r0 kk) (own_ref r1 kk) (-1 : Int32) pl)), .val (.ref b38), .val (.int (own_ref r1 kk))] [(.ref b38), (.int (0 : Int32)), (.ref b38)])
          refine own_step (fun _ k => XS.iconst X50.here hx rfl (hb hby at_280) k) ?_
          show own_Go p e below P T50 (mkF m 281 #[.val (.int p0), .val (.int p1), .val (.int p2), .val (.int p3), .val (.int kk), .val (.int oo), .val (.int (2 : Int32)), .val (.int pl), .val (.int r0), .val (.int r1), .val (.int r2), .val (.ref b33), .val (.int (own_srt (own_ref r0 kk) (own_ref r1 kk) (-1 : Int32) pl)), .val (.ref b38), .val (.int (own_ref r1 kk))] [(.int (1 : Int32)), (.ref b38), (.int (0 : Int32)), (.ref b38)])
          obtain ⟨cl73, Ar73, -, S73, M73, H73, -⟩ := (id V50)
          have hin73 : ¬ ((1 : Int32) < 0 ∨ cl73.slots.size ≤ ((1 : Int32)).toNatClampNeg) := inb_of S73 ⟨by decide, by decide⟩
          refine own_step (fun t k => X50.iaload hx (j := (1 : Int32)) (v := (.int (own_ref r0 kk))) (by rw [e50]; exact Ar73.1) (State.isArrayOf_alike hZ.alike Ar73.2.1) Ar73.2.2 hin73 (Has.at H73 hin73 rfl) (g := (mkF m 281 #[.val (.int p0), .val (.int p1), .val (.int p2), .val (.int p3), .val (.int kk), .val (.int oo), .val (.int (2 : Int32)), .val (.int pl), .val (.int r0), .val (.int r1), .val (.int r2), .val (.ref b33), .val (.int (own_srt (own_ref r0 kk) (own_ref r1 kk) (-1 : Int32) pl)), .val (.ref b38), .val (.int (own_ref r1 kk))] [(.int (1 : Int32)), (.ref b38), (.int (0 : Int32)), (.ref b38)])) rfl rfl (hb hby at_281) t k) ?_
          show own_Go p e below P T50 (mkF m 282 #[.val (.int p0), .val (.int p1), .val (.int p2), .val (.int p3), .val (.int kk), .val (.int oo), .val (.int (2 : Int32)), .val (.int pl), .val (.int r0), .val (.int r1), .val (.int r2), .val (.ref b33), .val (.int (own_srt (own_ref r0 kk) (own_ref r1 kk) (-1 : Int32) pl)), .val (.ref b38), .val (.int (own_ref r1 kk))] [(.int (own_ref r0 kk)), (.int (0 : Int32)), (.ref b38)])
          obtain ⟨cl74, Ar74, q74, S74, M74, H74, G74⟩ := (id V50)
          have hin74 : ¬ ((0 : Int32) < 0 ∨ cl74.slots.size ≤ ((0 : Int32)).toNatClampNeg) := inb_of S74 ⟨by decide, by decide⟩
          obtain ⟨T74, h74, X74, e74, W74, st74⟩ := stI X50 hx hZ e50 Ar74 (j := (0 : Int32)) hin74 (g := (mkF m 282 #[.val (.int p0), .val (.int p1), .val (.int p2), .val (.int p3), .val (.int kk), .val (.int oo), .val (.int (2 : Int32)), .val (.int pl), .val (.int r0), .val (.int r1), .val (.int r2), .val (.ref b33), .val (.int (own_srt (own_ref r0 kk) (own_ref r1 kk) (-1 : Int32) pl)), .val (.ref b38), .val (.int (own_ref r1 kk))] [(.int (own_ref r0 kk)), (.int (0 : Int32)), (.ref b38)])) rfl rfl (hb hby at_282)
          have V74 : Arv Z h74 b38 k38 .int (3 : Int32) [(.int (own_ref r0 kk)), (.int (own_ref r0 kk)), (.int (-1 : Int32))] (.int (0 : Int32)) := Arv.set Ar74 q74 S74 M74 H74 G74 rfl W74 0 rfl (Nat.le_of_ble_eq_true rfl)
          have N74 := Fr.snoc X74 N50 g_b38
          refine own_step st74 ?_
          show own_Go p e below P T74 (mkF m 283 #[.val (.int p0), .val (.int p1), .val (.int p2), .val (.int p3), .val (.int kk), .val (.int oo), .val (.int (2 : Int32)), .val (.int pl), .val (.int r0), .val (.int r1), .val (.int r2), .val (.ref b33), .val (.int (own_srt (own_ref r0 kk) (own_ref r1 kk) (-1 : Int32) pl)), .val (.ref b38), .val (.int (own_ref r1 kk))] [])
          refine own_step (fun _ k => XS.aload X74.here hx rfl (hb hby at_283) rfl rfl k) ?_
          show own_Go p e below P T74 (mkF m 285 #[.val (.int p0), .val (.int p1), .val (.int p2), .val (.int p3), .val (.int kk), .val (.int oo), .val (.int (2 : Int32)), .val (.int pl), .val (.int r0), .val (.int r1), .val (.int r2), .val (.ref b33), .val (.int (own_srt (own_ref r0 kk) (own_ref r1 kk) (-1 : Int32) pl)), .val (.ref b38), .val (.int (own_ref r1 kk))] [(.ref b38)])
          refine own_step (fun _ k => XS.iconst X74.here hx rfl (hb hby at_285) k) ?_
          show own_Go p e below P T74 (mkF m 286 #[.val (.int p0), .val (.int p1), .val (.int p2), .val (.int p3), .val (.int kk), .val (.int oo), .val (.int (2 : Int32)), .val (.int pl), .val (.int r0), .val (.int r1), .val (.int r2), .val (.ref b33), .val (.int (own_srt (own_ref r0 kk) (own_ref r1 kk) (-1 : Int32) pl)), .val (.ref b38), .val (.int (own_ref r1 kk))] [(.int (1 : Int32)), (.ref b38)])
          refine own_step (fun _ k => XS.iload X74.here hx rfl (hb hby at_286) rfl k) ?_
          show own_Go p e below P T74 (mkF m 288 #[.val (.int p0), .val (.int p1), .val (.int p2), .val (.int p3), .val (.int kk), .val (.int oo), .val (.int (2 : Int32)), .val (.int pl), .val (.int r0), .val (.int r1), .val (.int r2), .val (.ref b33), .val (.int (own_srt (own_ref r0 kk) (own_ref r1 kk) (-1 : Int32) pl)), .val (.ref b38), .val (.int (own_ref r1 kk))] [(.int (own_ref r1 kk)), (.int (1 : Int32)), (.ref b38)])
          obtain ⟨cl75, Ar75, q75, S75, M75, H75, G75⟩ := (id V74)
          have hin75 : ¬ ((1 : Int32) < 0 ∨ cl75.slots.size ≤ ((1 : Int32)).toNatClampNeg) := inb_of S75 ⟨by decide, by decide⟩
          obtain ⟨T75, h75, X75, e75, W75, st75⟩ := stI X74 hx hZ e74 Ar75 (j := (1 : Int32)) hin75 (g := (mkF m 288 #[.val (.int p0), .val (.int p1), .val (.int p2), .val (.int p3), .val (.int kk), .val (.int oo), .val (.int (2 : Int32)), .val (.int pl), .val (.int r0), .val (.int r1), .val (.int r2), .val (.ref b33), .val (.int (own_srt (own_ref r0 kk) (own_ref r1 kk) (-1 : Int32) pl)), .val (.ref b38), .val (.int (own_ref r1 kk))] [(.int (own_ref r1 kk)), (.int (1 : Int32)), (.ref b38)])) rfl rfl (hb hby at_288)
          have V75 : Arv Z h75 b38 k38 .int (3 : Int32) [(.int (own_ref r0 kk)), (.int (own_ref r1 kk)), (.int (-1 : Int32))] (.int (0 : Int32)) := Arv.set Ar75 q75 S75 M75 H75 G75 rfl W75 1 rfl (Nat.le_of_ble_eq_true rfl)
          have N75 := Fr.snoc X75 N74 g_b38
          refine own_step st75 ?_
          show own_Go p e below P T75 (mkF m 289 #[.val (.int p0), .val (.int p1), .val (.int p2), .val (.int p3), .val (.int kk), .val (.int oo), .val (.int (2 : Int32)), .val (.int pl), .val (.int r0), .val (.int r1), .val (.int r2), .val (.ref b33), .val (.int (own_srt (own_ref r0 kk) (own_ref r1 kk) (-1 : Int32) pl)), .val (.ref b38), .val (.int (own_ref r1 kk))] [])
          have hpf := own_plf _ pi (by decide)
          rw [← hpi] at hpf
          refine own_step (fun _ k => XS.iload X75.here hx rfl (hb hby at_289) rfl k) ?_
          show own_Go p e below P T75 (mkF m 291 #[.val (.int p0), .val (.int p1), .val (.int p2), .val (.int p3), .val (.int kk), .val (.int oo), .val (.int (2 : Int32)), .val (.int pl), .val (.int r0), .val (.int r1), .val (.int r2), .val (.ref b33), .val (.int (own_srt (own_ref r0 kk) (own_ref r1 kk) (-1 : Int32) pl)), .val (.ref b38), .val (.int (own_ref r1 kk))] [(.int (own_srt (own_ref r0 kk) (own_ref r1 kk) (-1 : Int32) pl))])
          refine own_step (fun _ k => XS.aload X75.here hx rfl (hb hby at_291) rfl rfl k) ?_
          show own_Go p e below P T75 (mkF m 293 #[.val (.int p0), .val (.int p1), .val (.int p2), .val (.int p3), .val (.int kk), .val (.int oo), .val (.int (2 : Int32)), .val (.int pl), .val (.int r0), .val (.int r1), .val (.int r2), .val (.ref b33), .val (.int (own_srt (own_ref r0 kk) (own_ref r1 kk) (-1 : Int32) pl)), .val (.ref b38), .val (.int (own_ref r1 kk))] [(.ref b38), (.int (own_srt (own_ref r0 kk) (own_ref r1 kk) (-1 : Int32) pl))])
          refine own_step (fun _ k => XS.iload X75.here hx rfl (hb hby at_293) rfl k) ?_
          show own_Go p e below P T75 (mkF m 295 #[.val (.int p0), .val (.int p1), .val (.int p2), .val (.int p3), .val (.int kk), .val (.int oo), .val (.int (2 : Int32)), .val (.int pl), .val (.int r0), .val (.int r1), .val (.int r2), .val (.ref b33), .val (.int (own_srt (own_ref r0 kk) (own_ref r1 kk) (-1 : Int32) pl)), .val (.ref b38), .val (.int (own_ref r1 kk))] [(.int pl), (.ref b38), (.int (own_srt (own_ref r0 kk) (own_ref r1 kk) (-1 : Int32) pl))])
          obtain ⟨cl76, Ar76, -, S76, M76, H76, -⟩ := (id V75)
          have hin76 : ¬ (pl < 0 ∨ cl76.slots.size ≤ (pl).toNatClampNeg) := inb_of S76 ⟨hpf.1, hpf.2.1⟩
          refine own_step (fun t k => X75.iaload hx (j := pl) (v := (.int ([(own_ref r0 kk), (own_ref r1 kk), (-1 : Int32)].getD (pl).toNatClampNeg 0))) (by rw [e75]; exact Ar76.1) (State.isArrayOf_alike hZ.alike Ar76.2.1) Ar76.2.2 hin76 (Has.at H76 hin76 (own_gd [(own_ref r0 kk), (own_ref r1 kk), (-1 : Int32)] _)) (g := (mkF m 295 #[.val (.int p0), .val (.int p1), .val (.int p2), .val (.int p3), .val (.int kk), .val (.int oo), .val (.int (2 : Int32)), .val (.int pl), .val (.int r0), .val (.int r1), .val (.int r2), .val (.ref b33), .val (.int (own_srt (own_ref r0 kk) (own_ref r1 kk) (-1 : Int32) pl)), .val (.ref b38), .val (.int (own_ref r1 kk))] [(.int pl), (.ref b38), (.int (own_srt (own_ref r0 kk) (own_ref r1 kk) (-1 : Int32) pl))])) rfl rfl (hb hby at_295) t k) ?_
          show own_Go p e below P T75 (mkF m 296 #[.val (.int p0), .val (.int p1), .val (.int p2), .val (.int p3), .val (.int kk), .val (.int oo), .val (.int (2 : Int32)), .val (.int pl), .val (.int r0), .val (.int r1), .val (.int r2), .val (.ref b33), .val (.int (own_srt (own_ref r0 kk) (own_ref r1 kk) (-1 : Int32) pl)), .val (.ref b38), .val (.int (own_ref r1 kk))] [(.int ([(own_ref r0 kk), (own_ref r1 kk), (-1 : Int32)].getD (pl).toNatClampNeg 0)), (.int (own_srt (own_ref r0 kk) (own_ref r1 kk) (-1 : Int32) pl))])
          refine own_step (fun _ k => XS.icmpNo X75.here hx rfl (hb hby at_296) rfl (teq ((if_pos hc46).trans ((if_neg hc53).trans (if_pos hc71)))).2 k) ?_
          show own_Go p e below P T75 (mkF m 299 #[.val (.int p0), .val (.int p1), .val (.int p2), .val (.int p3), .val (.int kk), .val (.int oo), .val (.int (2 : Int32)), .val (.int pl), .val (.int r0), .val (.int r1), .val (.int r2), .val (.ref b33), .val (.int (own_srt (own_ref r0 kk) (own_ref r1 kk) (-1 : Int32) pl)), .val (.ref b38), .val (.int (own_ref r1 kk))] [])
          refine own_step (fun _ k => XS.iconst X75.here hx rfl (hb hby at_299) k) ?_
          show own_Go p e below P T75 (mkF m 300 #[.val (.int p0), .val (.int p1), .val (.int p2), .val (.int p3), .val (.int kk), .val (.int oo), .val (.int (2 : Int32)), .val (.int pl), .val (.int r0), .val (.int r1), .val (.int r2), .val (.ref b33), .val (.int (own_srt (own_ref r0 kk) (own_ref r1 kk) (-1 : Int32) pl)), .val (.ref b38), .val (.int (own_ref r1 kk))] [(.int (1 : Int32))])
          refine own_step (fun _ k => XS.goto X75.here hx rfl (pc0 := 300) (pc' := 304) rfl (hb hby at_300) (by decide) (by decide) k) ?_
          show own_Go p e below P T75 (mkF m 304 #[.val (.int p0), .val (.int p1), .val (.int p2), .val (.int p3), .val (.int kk), .val (.int oo), .val (.int (2 : Int32)), .val (.int pl), .val (.int r0), .val (.int r1), .val (.int r2), .val (.ref b33), .val (.int (own_srt (own_ref r0 kk) (own_ref r1 kk) (-1 : Int32) pl)), .val (.ref b38), .val (.int (own_ref r1 kk))] [(.int (1 : Int32))])
          obtain ⟨fs, hr, hrun, hended, hW, hsame⟩ := X75.leave (v := some (.int (1 : Int32))) (fun h => by rw [Bd.returns] at h; cases h)
          refine ⟨_, _, retN X75 hx (t := .boolean) Bd.returns (by simp) (hb hby at_304) hr, hrun, hended, hfin _ _ ⟨_, _, rfl, ?_, ⟨_, rfl⟩, hW, hsame.mono (by decide) (by decide)⟩⟩
          show Q0 Z p0 p1 p2 p3 h0 n0 (some (.int (1 : Int32))) T75.heap _
          rw [e75]
          exact ⟨rfl, N75⟩
        · refine own_step (fun _ k => XS.icmpYes X50.here hx rfl (pc0 := 266) (pc' := 289) rfl (hb hby at_266) rfl (flt hc71).2.1 (by decide) (by decide) k) ?_
          show own_Go p e below P T50 (mkF m 289 #[.val (.int p0), .val (.int p1), .val (.int p2), .val (.int p3), .val (.int kk), .val (.int oo), .val (.int (2 : Int32)), .val (.int pl), .val (.int r0), .val (.int r1), .val (.int r2), .val (.ref b33), .val (.int (own_srt (own_ref r0 kk) (own_ref r1 kk) (-1 : Int32) pl)), .val (.ref b38), .val (.int (own_ref r0 kk))] [])
          have hpf := own_plf _ pi (by decide)
          rw [← hpi] at hpf
          refine own_step (fun _ k => XS.iload X50.here hx rfl (hb hby at_289) rfl k) ?_
          show own_Go p e below P T50 (mkF m 291 #[.val (.int p0), .val (.int p1), .val (.int p2), .val (.int p3), .val (.int kk), .val (.int oo), .val (.int (2 : Int32)), .val (.int pl), .val (.int r0), .val (.int r1), .val (.int r2), .val (.ref b33), .val (.int (own_srt (own_ref r0 kk) (own_ref r1 kk) (-1 : Int32) pl)), .val (.ref b38), .val (.int (own_ref r0 kk))] [(.int (own_srt (own_ref r0 kk) (own_ref r1 kk) (-1 : Int32) pl))])
          refine own_step (fun _ k => XS.aload X50.here hx rfl (hb hby at_291) rfl rfl k) ?_
          show own_Go p e below P T50 (mkF m 293 #[.val (.int p0), .val (.int p1), .val (.int p2), .val (.int p3), .val (.int kk), .val (.int oo), .val (.int (2 : Int32)), .val (.int pl), .val (.int r0), .val (.int r1), .val (.int r2), .val (.ref b33), .val (.int (own_srt (own_ref r0 kk) (own_ref r1 kk) (-1 : Int32) pl)), .val (.ref b38), .val (.int (own_ref r0 kk))] [(.ref b38), (.int (own_srt (own_ref r0 kk) (own_ref r1 kk) (-1 : Int32) pl))])
          refine own_step (fun _ k => XS.iload X50.here hx rfl (hb hby at_293) rfl k) ?_
          show own_Go p e below P T50 (mkF m 295 #[.val (.int p0), .val (.int p1), .val (.int p2), .val (.int p3), .val (.int kk), .val (.int oo), .val (.int (2 : Int32)), .val (.int pl), .val (.int r0), .val (.int r1), .val (.int r2), .val (.ref b33), .val (.int (own_srt (own_ref r0 kk) (own_ref r1 kk) (-1 : Int32) pl)), .val (.ref b38), .val (.int (own_ref r0 kk))] [(.int pl), (.ref b38), (.int (own_srt (own_ref r0 kk) (own_ref r1 kk) (-1 : Int32) pl))])
          obtain ⟨cl78, Ar78, -, S78, M78, H78, -⟩ := (id V50)
          have hin78 : ¬ (pl < 0 ∨ cl78.slots.size ≤ (pl).toNatClampNeg) := inb_of S78 ⟨hpf.1, hpf.2.1⟩
          refine own_step (fun t k => X50.iaload hx (j := pl) (v := (.int ([(own_ref r1 kk), (own_ref r0 kk), (-1 : Int32)].getD (pl).toNatClampNeg 0))) (by rw [e50]; exact Ar78.1) (State.isArrayOf_alike hZ.alike Ar78.2.1) Ar78.2.2 hin78 (Has.at H78 hin78 (own_gd [(own_ref r1 kk), (own_ref r0 kk), (-1 : Int32)] _)) (g := (mkF m 295 #[.val (.int p0), .val (.int p1), .val (.int p2), .val (.int p3), .val (.int kk), .val (.int oo), .val (.int (2 : Int32)), .val (.int pl), .val (.int r0), .val (.int r1), .val (.int r2), .val (.ref b33), .val (.int (own_srt (own_ref r0 kk) (own_ref r1 kk) (-1 : Int32) pl)), .val (.ref b38), .val (.int (own_ref r0 kk))] [(.int pl), (.ref b38), (.int (own_srt (own_ref r0 kk) (own_ref r1 kk) (-1 : Int32) pl))])) rfl rfl (hb hby at_295) t k) ?_
          show own_Go p e below P T50 (mkF m 296 #[.val (.int p0), .val (.int p1), .val (.int p2), .val (.int p3), .val (.int kk), .val (.int oo), .val (.int (2 : Int32)), .val (.int pl), .val (.int r0), .val (.int r1), .val (.int r2), .val (.ref b33), .val (.int (own_srt (own_ref r0 kk) (own_ref r1 kk) (-1 : Int32) pl)), .val (.ref b38), .val (.int (own_ref r0 kk))] [(.int ([(own_ref r1 kk), (own_ref r0 kk), (-1 : Int32)].getD (pl).toNatClampNeg 0)), (.int (own_srt (own_ref r0 kk) (own_ref r1 kk) (-1 : Int32) pl))])
          refine own_step (fun _ k => XS.icmpNo X50.here hx rfl (hb hby at_296) rfl (teq ((if_pos hc46).trans ((if_neg hc53).trans (if_neg hc71)))).2 k) ?_
          show own_Go p e below P T50 (mkF m 299 #[.val (.int p0), .val (.int p1), .val (.int p2), .val (.int p3), .val (.int kk), .val (.int oo), .val (.int (2 : Int32)), .val (.int pl), .val (.int r0), .val (.int r1), .val (.int r2), .val (.ref b33), .val (.int (own_srt (own_ref r0 kk) (own_ref r1 kk) (-1 : Int32) pl)), .val (.ref b38), .val (.int (own_ref r0 kk))] [])
          refine own_step (fun _ k => XS.iconst X50.here hx rfl (hb hby at_299) k) ?_
          show own_Go p e below P T50 (mkF m 300 #[.val (.int p0), .val (.int p1), .val (.int p2), .val (.int p3), .val (.int kk), .val (.int oo), .val (.int (2 : Int32)), .val (.int pl), .val (.int r0), .val (.int r1), .val (.int r2), .val (.ref b33), .val (.int (own_srt (own_ref r0 kk) (own_ref r1 kk) (-1 : Int32) pl)), .val (.ref b38), .val (.int (own_ref r0 kk))] [(.int (1 : Int32))])
          refine own_step (fun _ k => XS.goto X50.here hx rfl (pc0 := 300) (pc' := 304) rfl (hb hby at_300) (by decide) (by decide) k) ?_
          show own_Go p e below P T50 (mkF m 304 #[.val (.int p0), .val (.int p1), .val (.int p2), .val (.int p3), .val (.int kk), .val (.int oo), .val (.int (2 : Int32)), .val (.int pl), .val (.int r0), .val (.int r1), .val (.int r2), .val (.ref b33), .val (.int (own_srt (own_ref r0 kk) (own_ref r1 kk) (-1 : Int32) pl)), .val (.ref b38), .val (.int (own_ref r0 kk))] [(.int (1 : Int32))])
          obtain ⟨fs, hr, hrun, hended, hW, hsame⟩ := X50.leave (v := some (.int (1 : Int32))) (fun h => by rw [Bd.returns] at h; cases h)
          refine ⟨_, _, retN X50 hx (t := .boolean) Bd.returns (by simp) (hb hby at_304) hr, hrun, hended, hfin _ _ ⟨_, _, rfl, ?_, ⟨_, rfl⟩, hW, hsame.mono (by decide) (by decide)⟩⟩
          show Q0 Z p0 p1 p2 p3 h0 n0 (some (.int (1 : Int32))) T50.heap _
          rw [e50]
          exact ⟨rfl, N50⟩
    · refine own_step (fun _ k => XS.icmpYes X43.here hx rfl (pc0 := 204) (pc' := 227) rfl (hb hby at_204) rfl (flt hc46).2.1 (by decide) (by decide) k) ?_
      show own_Go p e below P T43 (mkF m 227 #[.val (.int p0), .val (.int p1), .val (.int p2), .val (.int p3), .val (.int kk), .val (.int oo), .val (.int (2 : Int32)), .val (.int pl), .val (.int r0), .val (.int r1), .val (.int r2), .val (.ref b33), .val (.int (own_srt (own_ref r0 kk) (own_ref r1 kk) (-1 : Int32) pl)), .val (.ref b38), .unset] [])
      refine own_step (fun _ k => XS.aload X43.here hx rfl (hb hby at_227) rfl rfl k) ?_
      show own_Go p e below P T43 (mkF m 229 #[.val (.int p0), .val (.int p1), .val (.int p2), .val (.int p3), .val (.int kk), .val (.int oo), .val (.int (2 : Int32)), .val (.int pl), .val (.int r0), .val (.int r1), .val (.int r2), .val (.ref b33), .val (.int (own_srt (own_ref r0 kk) (own_ref r1 kk) (-1 : Int32) pl)), .val (.ref b38), .unset] [(.ref b38)])
      refine own_step (fun _ k => XS.iconst X43.here hx rfl (hb hby at_229) k) ?_
      show own_Go p e below P T43 (mkF m 230 #[.val (.int p0), .val (.int p1), .val (.int p2), .val (.int p3), .val (.int kk), .val (.int oo), .val (.int (2 : Int32)), .val (.int pl), .val (.int r0), .val (.int r1), .val (.int r2), .val (.ref b33), .val (.int (own_srt (own_ref r0 kk) (own_ref r1 kk) (-1 : Int32) pl)), .val (.ref b38), .unset] [(.int (1 : Int32)), (.ref b38)])
      obtain ⟨cl80, Ar80, -, S80, M80, H80, -⟩ := (id V43)
      have hin80 : ¬ ((1 : Int32) < 0 ∨ cl80.slots.size ≤ ((1 : Int32)).toNatClampNeg) := inb_of S80 ⟨by decide, by decide⟩
      refine own_step (fun t k => X43.iaload hx (j := (1 : Int32)) (v := (.int (own_ref r1 kk))) (by rw [e43]; exact Ar80.1) (State.isArrayOf_alike hZ.alike Ar80.2.1) Ar80.2.2 hin80 (Has.at H80 hin80 rfl) (g := (mkF m 230 #[.val (.int p0), .val (.int p1), .val (.int p2), .val (.int p3), .val (.int kk), .val (.int oo), .val (.int (2 : Int32)), .val (.int pl), .val (.int r0), .val (.int r1), .val (.int r2), .val (.ref b33), .val (.int (own_srt (own_ref r0 kk) (own_ref r1 kk) (-1 : Int32) pl)), .val (.ref b38), .unset] [(.int (1 : Int32)), (.ref b38)])) rfl rfl (hb hby at_230) t k) ?_
      show own_Go p e below P T43 (mkF m 231 #[.val (.int p0), .val (.int p1), .val (.int p2), .val (.int p3), .val (.int kk), .val (.int oo), .val (.int (2 : Int32)), .val (.int pl), .val (.int r0), .val (.int r1), .val (.int r2), .val (.ref b33), .val (.int (own_srt (own_ref r0 kk) (own_ref r1 kk) (-1 : Int32) pl)), .val (.ref b38), .unset] [(.int (own_ref r1 kk))])
      refine own_step (fun _ k => XS.aload X43.here hx rfl (hb hby at_231) rfl rfl k) ?_
      show own_Go p e below P T43 (mkF m 233 #[.val (.int p0), .val (.int p1), .val (.int p2), .val (.int p3), .val (.int kk), .val (.int oo), .val (.int (2 : Int32)), .val (.int pl), .val (.int r0), .val (.int r1), .val (.int r2), .val (.ref b33), .val (.int (own_srt (own_ref r0 kk) (own_ref r1 kk) (-1 : Int32) pl)), .val (.ref b38), .unset] [(.ref b38), (.int (own_ref r1 kk))])
      refine own_step (fun _ k => XS.iconst X43.here hx rfl (hb hby at_233) k) ?_
      show own_Go p e below P T43 (mkF m 234 #[.val (.int p0), .val (.int p1), .val (.int p2), .val (.int p3), .val (.int kk), .val (.int oo), .val (.int (2 : Int32)), .val (.int pl), .val (.int r0), .val (.int r1), .val (.int r2), .val (.ref b33), .val (.int (own_srt (own_ref r0 kk) (own_ref r1 kk) (-1 : Int32) pl)), .val (.ref b38), .unset] [(.int (2 : Int32)), (.ref b38), (.int (own_ref r1 kk))])
      obtain ⟨cl81, Ar81, -, S81, M81, H81, -⟩ := (id V43)
      have hin81 : ¬ ((2 : Int32) < 0 ∨ cl81.slots.size ≤ ((2 : Int32)).toNatClampNeg) := inb_of S81 ⟨by decide, by decide⟩
      refine own_step (fun t k => X43.iaload hx (j := (2 : Int32)) (v := (.int (-1 : Int32))) (by rw [e43]; exact Ar81.1) (State.isArrayOf_alike hZ.alike Ar81.2.1) Ar81.2.2 hin81 (Has.at H81 hin81 rfl) (g := (mkF m 234 #[.val (.int p0), .val (.int p1), .val (.int p2), .val (.int p3), .val (.int kk), .val (.int oo), .val (.int (2 : Int32)), .val (.int pl), .val (.int r0), .val (.int r1), .val (.int r2), .val (.ref b33), .val (.int (own_srt (own_ref r0 kk) (own_ref r1 kk) (-1 : Int32) pl)), .val (.ref b38), .unset] [(.int (2 : Int32)), (.ref b38), (.int (own_ref r1 kk))])) rfl rfl (hb hby at_234) t k) ?_
      show own_Go p e below P T43 (mkF m 235 #[.val (.int p0), .val (.int p1), .val (.int p2), .val (.int p3), .val (.int kk), .val (.int oo), .val (.int (2 : Int32)), .val (.int pl), .val (.int r0), .val (.int r1), .val (.int r2), .val (.ref b33), .val (.int (own_srt (own_ref r0 kk) (own_ref r1 kk) (-1 : Int32) pl)), .val (.ref b38), .unset] [(.int (-1 : Int32)), (.int (own_ref r1 kk))])
      by_cases hc82 : (own_ref r1 kk) < (-1 : Int32)
      · refine own_step (fun _ k => XS.icmpNo X43.here hx rfl (hb hby at_235) rfl (tlt hc82).2.1 k) ?_
        show own_Go p e below P T43 (mkF m 238 #[.val (.int p0), .val (.int p1), .val (.int p2), .val (.int p3), .val (.int kk), .val (.int oo), .val (.int (2 : Int32)), .val (.int pl), .val (.int r0), .val (.int r1), .val (.int r2), .val (.ref b33), .val (.int (own_srt (own_ref r0 kk) (own_ref r1 kk) (-1 : Int32) pl)), .val (.ref b38), .unset] [])
        refine own_step (fun _ k => XS.aload X43.here hx rfl (hb hby at_238) rfl rfl k) ?_
        show own_Go p e below P T43 (mkF m 240 #[.val (.int p0), .val (.int p1), .val (.int p2), .val (.int p3), .val (.int kk), .val (.int oo), .val (.int (2 : Int32)), .val (.int pl), .val (.int r0), .val (.int r1), .val (.int r2), .val (.ref b33), .val (.int (own_srt (own_ref r0 kk) (own_ref r1 kk) (-1 : Int32) pl)), .val (.ref b38), .unset] [(.ref b38)])
        refine own_step (fun _ k => XS.iconst X43.here hx rfl (hb hby at_240) k) ?_
        show own_Go p e below P T43 (mkF m 241 #[.val (.int p0), .val (.int p1), .val (.int p2), .val (.int p3), .val (.int kk), .val (.int oo), .val (.int (2 : Int32)), .val (.int pl), .val (.int r0), .val (.int r1), .val (.int r2), .val (.ref b33), .val (.int (own_srt (own_ref r0 kk) (own_ref r1 kk) (-1 : Int32) pl)), .val (.ref b38), .unset] [(.int (1 : Int32)), (.ref b38)])
        obtain ⟨cl83, Ar83, -, S83, M83, H83, -⟩ := (id V43)
        have hin83 : ¬ ((1 : Int32) < 0 ∨ cl83.slots.size ≤ ((1 : Int32)).toNatClampNeg) := inb_of S83 ⟨by decide, by decide⟩
        refine own_step (fun t k => X43.iaload hx (j := (1 : Int32)) (v := (.int (own_ref r1 kk))) (by rw [e43]; exact Ar83.1) (State.isArrayOf_alike hZ.alike Ar83.2.1) Ar83.2.2 hin83 (Has.at H83 hin83 rfl) (g := (mkF m 241 #[.val (.int p0), .val (.int p1), .val (.int p2), .val (.int p3), .val (.int kk), .val (.int oo), .val (.int (2 : Int32)), .val (.int pl), .val (.int r0), .val (.int r1), .val (.int r2), .val (.ref b33), .val (.int (own_srt (own_ref r0 kk) (own_ref r1 kk) (-1 : Int32) pl)), .val (.ref b38), .unset] [(.int (1 : Int32)), (.ref b38)])) rfl rfl (hb hby at_241) t k) ?_
        show own_Go p e below P T43 (mkF m 242 #[.val (.int p0), .val (.int p1), .val (.int p2), .val (.int p3), .val (.int kk), .val (.int oo), .val (.int (2 : Int32)), .val (.int pl), .val (.int r0), .val (.int r1), .val (.int r2), .val (.ref b33), .val (.int (own_srt (own_ref r0 kk) (own_ref r1 kk) (-1 : Int32) pl)), .val (.ref b38), .unset] [(.int (own_ref r1 kk))])
        refine own_step (fun _ k => XS.istore X43.here hx rfl (hb hby at_242) rfl (l' := #[.val (.int p0), .val (.int p1), .val (.int p2), .val (.int p3), .val (.int kk), .val (.int oo), .val (.int (2 : Int32)), .val (.int pl), .val (.int r0), .val (.int r1), .val (.int r2), .val (.ref b33), .val (.int (own_srt (own_ref r0 kk) (own_ref r1 kk) (-1 : Int32) pl)), .val (.ref b38), .val (.int (own_ref r1 kk))]) rfl k) ?_
        show own_Go p e below P T43 (mkF m 244 #[.val (.int p0), .val (.int p1), .val (.int p2), .val (.int p3), .val (.int kk), .val (.int oo), .val (.int (2 : Int32)), .val (.int pl), .val (.int r0), .val (.int r1), .val (.int r2), .val (.ref b33), .val (.int (own_srt (own_ref r0 kk) (own_ref r1 kk) (-1 : Int32) pl)), .val (.ref b38), .val (.int (own_ref r1 kk))] [])
        refine own_step (fun _ k => XS.aload X43.here hx rfl (hb hby at_244) rfl rfl k) ?_
        show own_Go p e below P T43 (mkF m 246 #[.val (.int p0), .val (.int p1), .val (.int p2), .val (.int p3), .val (.int kk), .val (.int oo), .val (.int (2 : Int32)), .val (.int pl), .val (.int r0), .val (.int r1), .val (.int r2), .val (.ref b33), .val (.int (own_srt (own_ref r0 kk) (own_ref r1 kk) (-1 : Int32) pl)), .val (.ref b38), .val (.int (own_ref r1 kk))] [(.ref b38)])
        refine own_step (fun _ k => XS.iconst X43.here hx rfl (hb hby at_246) k) ?_
        show own_Go p e below P T43 (mkF m 247 #[.val (.int p0), .val (.int p1), .val (.int p2), .val (.int p3), .val (.int kk), .val (.int oo), .val (.int (2 : Int32)), .val (.int pl), .val (.int r0), .val (.int r1), .val (.int r2), .val (.ref b33), .val (.int (own_srt (own_ref r0 kk) (own_ref r1 kk) (-1 : Int32) pl)), .val (.ref b38), .val (.int (own_ref r1 kk))] [(.int (1 : Int32)), (.ref b38)])
        refine own_step (fun _ k => XS.aload X43.here hx rfl (hb hby at_247) rfl rfl k) ?_
        show own_Go p e below P T43 (mkF m 249 #[.val (.int p0), .val (.int p1), .val (.int p2), .val (.int p3), .val (.int kk), .val (.int oo), .val (.int (2 : Int32)), .val (.int pl), .val (.int r0), .val (.int r1), .val (.int r2), .val (.ref b33), .val (.int (own_srt (own_ref r0 kk) (own_ref r1 kk) (-1 : Int32) pl)), .val (.ref b38), .val (.int (own_ref r1 kk))] [(.ref b38), (.int (1 : Int32)), (.ref b38)])
        refine own_step (fun _ k => XS.iconst X43.here hx rfl (hb hby at_249) k) ?_
        show own_Go p e below P T43 (mkF m 250 #[.val (.int p0), .val (.int p1), .val (.int p2), .val (.int p3), .val (.int kk), .val (.int oo), .val (.int (2 : Int32)), .val (.int pl), .val (.int r0), .val (.int r1), .val (.int r2), .val (.ref b33), .val (.int (own_srt (own_ref r0 kk) (own_ref r1 kk) (-1 : Int32) pl)), .val (.ref b38), .val (.int (own_ref r1 kk))] [(.int (2 : Int32)), (.ref b38), (.int (1 : Int32)), (.ref b38)])
        obtain ⟨cl84, Ar84, -, S84, M84, H84, -⟩ := (id V43)
        have hin84 : ¬ ((2 : Int32) < 0 ∨ cl84.slots.size ≤ ((2 : Int32)).toNatClampNeg) := inb_of S84 ⟨by decide, by decide⟩
        refine own_step (fun t k => X43.iaload hx (j := (2 : Int32)) (v := (.int (-1 : Int32))) (by rw [e43]; exact Ar84.1) (State.isArrayOf_alike hZ.alike Ar84.2.1) Ar84.2.2 hin84 (Has.at H84 hin84 rfl) (g := (mkF m 250 #[.val (.int p0), .val (.int p1), .val (.int p2), .val (.int p3), .val (.int kk), .val (.int oo), .val (.int (2 : Int32)), .val (.int pl), .val (.int r0), .val (.int r1), .val (.int r2), .val (.ref b33), .val (.int (own_srt (own_ref r0 kk) (own_ref r1 kk) (-1 : Int32) pl)), .val (.ref b38), .val (.int (own_ref r1 kk))] [(.int (2 : Int32)), (.ref b38), (.int (1 : Int32)), (.ref b38)])) rfl rfl (hb hby at_250) t k) ?_
        show own_Go p e below P T43 (mkF m 251 #[.val (.int p0), .val (.int p1), .val (.int p2), .val (.int p3), .val (.int kk), .val (.int oo), .val (.int (2 : Int32)), .val (.int pl), .val (.int r0), .val (.int r1), .val (.int r2), .val (.ref b33), .val (.int (own_srt (own_ref r0 kk) (own_ref r1 kk) (-1 : Int32) pl)), .val (.ref b38), .val (.int (own_ref r1 kk))] [(.int (-1 : Int32)), (.int (1 : Int32)), (.ref b38)])
        obtain ⟨cl85, Ar85, q85, S85, M85, H85, G85⟩ := (id V43)
        have hin85 : ¬ ((1 : Int32) < 0 ∨ cl85.slots.size ≤ ((1 : Int32)).toNatClampNeg) := inb_of S85 ⟨by decide, by decide⟩
        obtain ⟨T85, h85, X85, e85, W85, st85⟩ := stI X43 hx hZ e43 Ar85 (j := (1 : Int32)) hin85 (g := (mkF m 251 #[.val (.int p0), .val (.int p1), .val (.int p2), .val (.int p3), .val (.int kk), .val (.int oo), .val (.int (2 : Int32)), .val (.int pl), .val (.int r0), .val (.int r1), .val (.int r2), .val (.ref b33), .val (.int (own_srt (own_ref r0 kk) (own_ref r1 kk) (-1 : Int32) pl)), .val (.ref b38), .val (.int (own_ref r1 kk))] [(.int (-1 : Int32)), (.int (1 : Int32)), (.ref b38)])) rfl rfl (hb hby at_251)
        have V85 : Arv Z h85 b38 k38 .int (3 : Int32) [(.int (own_ref r0 kk)), (.int (-1 : Int32)), (.int (-1 : Int32))] (.int (0 : Int32)) := Arv.set Ar85 q85 S85 M85 H85 G85 rfl W85 1 rfl (Nat.le_of_ble_eq_true rfl)
        have N85 := Fr.snoc X85 N43 g_b38
        refine own_step st85 ?_
        show own_Go p e below P T85 (mkF m 252 #[.val (.int p0), .val (.int p1), .val (.int p2), .val (.int p3), .val (.int kk), .val (.int oo), .val (.int (2 : Int32)), .val (.int pl), .val (.int r0), .val (.int r1), .val (.int r2), .val (.ref b33), .val (.int (own_srt (own_ref r0 kk) (own_ref r1 kk) (-1 : Int32) pl)), .val (.ref b38), .val (.int (own_ref r1 kk))] [])
        refine own_step (fun _ k => XS.aload X85.here hx rfl (hb hby at_252) rfl rfl k) ?_
        show own_Go p e below P T85 (mkF m 254 #[.val (.int p0), .val (.int p1), .val (.int p2), .val (.int p3), .val (.int kk), .val (.int oo), .val (.int (2 : Int32)), .val (.int pl), .val (.int r0), .val (.int r1), .val (.int r2), .val (.ref b33), .val (.int (own_srt (own_ref r0 kk) (own_ref r1 kk) (-1 : Int32) pl)), .val (.ref b38), .val (.int (own_ref r1 kk))] [(.ref b38)])
        refine own_step (fun _ k => XS.iconst X85.here hx rfl (hb hby at_254) k) ?_
        show own_Go p e below P T85 (mkF m 255 #[.val (.int p0), .val (.int p1), .val (.int p2), .val (.int p3), .val (.int kk), .val (.int oo), .val (.int (2 : Int32)), .val (.int pl), .val (.int r0), .val (.int r1), .val (.int r2), .val (.ref b33), .val (.int (own_srt (own_ref r0 kk) (own_ref r1 kk) (-1 : Int32) pl)), .val (.ref b38), .val (.int (own_ref r1 kk))] [(.int (2 : Int32)), (.ref b38)])
        refine own_step (fun _ k => XS.iload X85.here hx rfl (hb hby at_255) rfl k) ?_
        show own_Go p e below P T85 (mkF m 257 #[.val (.int p0), .val (.int p1), .val (.int p2), .val (.int p3), .val (.int kk), .val (.int oo), .val (.int (2 : Int32)), .val (.int pl), .val (.int r0), .val (.int r1), .val (.int r2), .val (.ref b33), .val (.int (own_srt (own_ref r0 kk) (own_ref r1 kk) (-1 : Int32) pl)), .val (.ref b38), .val (.int (own_ref r1 kk))] [(.int (own_ref r1 kk)), (.int (2 : Int32)), (.ref b38)])
        obtain ⟨cl86, Ar86, q86, S86, M86, H86, G86⟩ := (id V85)
        have hin86 : ¬ ((2 : Int32) < 0 ∨ cl86.slots.size ≤ ((2 : Int32)).toNatClampNeg) := inb_of S86 ⟨by decide, by decide⟩
        obtain ⟨T86, h86, X86, e86, W86, st86⟩ := stI X85 hx hZ e85 Ar86 (j := (2 : Int32)) hin86 (g := (mkF m 257 #[.val (.int p0), .val (.int p1), .val (.int p2), .val (.int p3), .val (.int kk), .val (.int oo), .val (.int (2 : Int32)), .val (.int pl), .val (.int r0), .val (.int r1), .val (.int r2), .val (.ref b33), .val (.int (own_srt (own_ref r0 kk) (own_ref r1 kk) (-1 : Int32) pl)), .val (.ref b38), .val (.int (own_ref r1 kk))] [(.int (own_ref r1 kk)), (.int (2 : Int32)), (.ref b38)])) rfl rfl (hb hby at_257)
        have V86 : Arv Z h86 b38 k38 .int (3 : Int32) [(.int (own_ref r0 kk)), (.int (-1 : Int32)), (.int (own_ref r1 kk))] (.int (0 : Int32)) := Arv.set Ar86 q86 S86 M86 H86 G86 rfl W86 2 rfl (Nat.le_of_ble_eq_true rfl)
        have N86 := Fr.snoc X86 N85 g_b38
        refine own_step st86 ?_
        show own_Go p e below P T86 (mkF m 258 #[.val (.int p0), .val (.int p1), .val (.int p2), .val (.int p3), .val (.int kk), .val (.int oo), .val (.int (2 : Int32)), .val (.int pl), .val (.int r0), .val (.int r1), .val (.int r2), .val (.ref b33), .val (.int (own_srt (own_ref r0 kk) (own_ref r1 kk) (-1 : Int32) pl)), .val (.ref b38), .val (.int (own_ref r1 kk))] [])
        refine own_step (fun _ k => XS.aload X86.here hx rfl (hb hby at_258) rfl rfl k) ?_
        show own_Go p e below P T86 (mkF m 260 #[.val (.int p0), .val (.int p1), .val (.int p2), .val (.int p3), .val (.int kk), .val (.int oo), .val (.int (2 : Int32)), .val (.int pl), .val (.int r0), .val (.int r1), .val (.int r2), .val (.ref b33), .val (.int (own_srt (own_ref r0 kk) (own_ref r1 kk) (-1 : Int32) pl)), .val (.ref b38), .val (.int (own_ref r1 kk))] [(.ref b38)])
        refine own_step (fun _ k => XS.iconst X86.here hx rfl (hb hby at_260) k) ?_
        show own_Go p e below P T86 (mkF m 261 #[.val (.int p0), .val (.int p1), .val (.int p2), .val (.int p3), .val (.int kk), .val (.int oo), .val (.int (2 : Int32)), .val (.int pl), .val (.int r0), .val (.int r1), .val (.int r2), .val (.ref b33), .val (.int (own_srt (own_ref r0 kk) (own_ref r1 kk) (-1 : Int32) pl)), .val (.ref b38), .val (.int (own_ref r1 kk))] [(.int (0 : Int32)), (.ref b38)])
        obtain ⟨cl87, Ar87, -, S87, M87, H87, -⟩ := (id V86)
        have hin87 : ¬ ((0 : Int32) < 0 ∨ cl87.slots.size ≤ ((0 : Int32)).toNatClampNeg) := inb_of S87 ⟨by decide, by decide⟩
        refine own_step (fun t k => X86.iaload hx (j := (0 : Int32)) (v := (.int (own_ref r0 kk))) (by rw [e86]; exact Ar87.1) (State.isArrayOf_alike hZ.alike Ar87.2.1) Ar87.2.2 hin87 (Has.at H87 hin87 rfl) (g := (mkF m 261 #[.val (.int p0), .val (.int p1), .val (.int p2), .val (.int p3), .val (.int kk), .val (.int oo), .val (.int (2 : Int32)), .val (.int pl), .val (.int r0), .val (.int r1), .val (.int r2), .val (.ref b33), .val (.int (own_srt (own_ref r0 kk) (own_ref r1 kk) (-1 : Int32) pl)), .val (.ref b38), .val (.int (own_ref r1 kk))] [(.int (0 : Int32)), (.ref b38)])) rfl rfl (hb hby at_261) t k) ?_
        show own_Go p e below P T86 (mkF m 262 #[.val (.int p0), .val (.int p1), .val (.int p2), .val (.int p3), .val (.int kk), .val (.int oo), .val (.int (2 : Int32)), .val (.int pl), .val (.int r0), .val (.int r1), .val (.int r2), .val (.ref b33), .val (.int (own_srt (own_ref r0 kk) (own_ref r1 kk) (-1 : Int32) pl)), .val (.ref b38), .val (.int (own_ref r1 kk))] [(.int (own_ref r0 kk))])
        refine own_step (fun _ k => XS.aload X86.here hx rfl (hb hby at_262) rfl rfl k) ?_
        show own_Go p e below P T86 (mkF m 264 #[.val (.int p0), .val (.int p1), .val (.int p2), .val (.int p3), .val (.int kk), .val (.int oo), .val (.int (2 : Int32)), .val (.int pl), .val (.int r0), .val (.int r1), .val (.int r2), .val (.ref b33), .val (.int (own_srt (own_ref r0 kk) (own_ref r1 kk) (-1 : Int32) pl)), .val (.ref b38), .val (.int (own_ref r1 kk))] [(.ref b38), (.int (own_ref r0 kk))])
        refine own_step (fun _ k => XS.iconst X86.here hx rfl (hb hby at_264) k) ?_
        show own_Go p e below P T86 (mkF m 265 #[.val (.int p0), .val (.int p1), .val (.int p2), .val (.int p3), .val (.int kk), .val (.int oo), .val (.int (2 : Int32)), .val (.int pl), .val (.int r0), .val (.int r1), .val (.int r2), .val (.ref b33), .val (.int (own_srt (own_ref r0 kk) (own_ref r1 kk) (-1 : Int32) pl)), .val (.ref b38), .val (.int (own_ref r1 kk))] [(.int (1 : Int32)), (.ref b38), (.int (own_ref r0 kk))])
        obtain ⟨cl88, Ar88, -, S88, M88, H88, -⟩ := (id V86)
        have hin88 : ¬ ((1 : Int32) < 0 ∨ cl88.slots.size ≤ ((1 : Int32)).toNatClampNeg) := inb_of S88 ⟨by decide, by decide⟩
        refine own_step (fun t k => X86.iaload hx (j := (1 : Int32)) (v := (.int (-1 : Int32))) (by rw [e86]; exact Ar88.1) (State.isArrayOf_alike hZ.alike Ar88.2.1) Ar88.2.2 hin88 (Has.at H88 hin88 rfl) (g := (mkF m 265 #[.val (.int p0), .val (.int p1), .val (.int p2), .val (.int p3), .val (.int kk), .val (.int oo), .val (.int (2 : Int32)), .val (.int pl), .val (.int r0), .val (.int r1), .val (.int r2), .val (.ref b33), .val (.int (own_srt (own_ref r0 kk) (own_ref r1 kk) (-1 : Int32) pl)), .val (.ref b38), .val (.int (own_ref r1 kk))] [(.int (1 : Int32)), (.ref b38), (.int (own_ref r0 kk))])) rfl rfl (hb hby at_265) t k) ?_
        show own_Go p e below P T86 (mkF m 266 #[.val (.int p0), .val (.int p1), .val (.int p2), .val (.int p3), .val (.int kk), .val (.int oo), .val (.int (2 : Int32)), .val (.int pl), .val (.int r0), .val (.int r1), .val (.int r2), .val (.ref b33), .val (.int (own_srt (own_ref r0 kk) (own_ref r1 kk) (-1 : Int32) pl)), .val (.ref b38), .val (.int (own_ref r1 kk))] [(.int (-1 : Int32)), (.int (own_ref r0 kk))])
        by_cases hc89 : (own_ref r0 kk) < (-1 : Int32)
        · refine own_step (fun _ k => XS.icmpNo X86.here hx rfl (hb hby at_266) rfl (tlt hc89).2.1 k) ?_
          show own_Go p e below P T86 (mkF m 269 #[.val (.int p0), .val (.int p1), .val (.int p2), .val (.int p3), .val (.int kk), .val (.int oo), .val (.int (2 : Int32)), .val (.int pl), .val (.int r0), .val (.int r1), .val (.int r2), .val (.ref b33), .val (.int (own_srt (own_ref r0 kk) (own_ref r1 kk) (-1 : Int32) pl)), .val (.ref b38), .val (.int (own_ref r1 kk))] [])
          refine own_step (fun _ k => XS.aload X86.here hx rfl (hb hby at_269) rfl rfl k) ?_
          show own_Go p e below P T86 (mkF m 271 #[.val (.int p0), .val (.int p1), .val (.int p2), .val (.int p3), .val (.int kk), .val (.int oo), .val (.int (2 : Int32)), .val (.int pl), .val (.int r0), .val (.int r1), .val (.int r2), .val (.ref b33), .val (.int (own_srt (own_ref r0 kk) (own_ref r1 kk) (-1 : Int32) pl)), .val (.ref b38), .val (.int (own_ref r1 kk))] [(.ref b38)])
          refine own_step (fun _ k => XS.iconst X86.here hx rfl (hb hby at_271) k) ?_
          show own_Go p e below P T86 (mkF m 272 #[.val (.int p0), .val (.int p1), .val (.int p2), .val (.int p3), .val (.int kk), .val (.int oo), .val (.int (2 : Int32)), .val (.int pl), .val (.int r0), .val (.int r1), .val (.int r2), .val (.ref b33), .val (.int (own_srt (own_ref r0 kk) (own_ref r1 kk) (-1 : Int32) pl)), .val (.ref b38), .val (.int (own_ref r1 kk))] [(.int (0 : Int32)), (.ref b38)])
          obtain ⟨cl90, Ar90, -, S90, M90, H90, -⟩ := (id V86)
          have hin90 : ¬ ((0 : Int32) < 0 ∨ cl90.slots.size ≤ ((0 : Int32)).toNatClampNeg) := inb_of S90 ⟨by decide, by decide⟩
          refine own_step (fun t k => X86.iaload hx (j := (0 : Int32)) (v := (.int (own_ref r0 kk))) (by rw [e86]; exact Ar90.1) (State.isArrayOf_alike hZ.alike Ar90.2.1) Ar90.2.2 hin90 (Has.at H90 hin90 rfl) (g := (mkF m 272 #[.val (.int p0), .val (.int p1), .val (.int p2), .val (.int p3), .val (.int kk), .val (.int oo), .val (.int (2 : Int32)), .val (.int pl), .val (.int r0), .val (.int r1), .val (.int r2), .val (.ref b33), .val (.int (own_srt (own_ref r0 kk) (own_ref r1 kk) (-1 : Int32) pl)), .val (.ref b38), .val (.int (own_ref r1 kk))] [(.int (0 : Int32)), (.ref b38)])) rfl rfl (hb hby at_272) t k) ?_
          show own_Go p e below P T86 (mkF m 273 #[.val (.int p0), .val (.int p1), .val (.int p2), .val (.int p3), .val (.int kk), .val (.int oo), .val (.int (2 : Int32)), .val (.int pl), .val (.int r0), .val (.int r1), .val (.int r2), .val (.ref b33), .val (.int (own_srt (own_ref r0 kk) (own_ref r1 kk) (-1 : Int32) pl)), .val (.ref b38), .val (.int (own_ref r1 kk))] [(.int (own_ref r0 kk))])
          refine own_step (fun _ k => XS.istore X86.here hx rfl (hb hby at_273) rfl (l' := #[.val (.int p0), .val (.int p1), .val (.int p2), .val (.int p3), .val (.int kk), .val (.int oo), .val (.int (2 : Int32)), .val (.int pl), .val (.int r0), .val (.int r1), .val (.int r2), .val (.ref b33), .val (.int (own_srt (own_ref r0 kk) (own_ref r1 kk) (-1 : Int32) pl)), .val (.ref b38), .val (.int (own_ref r0 kk))]) rfl k) ?_
          show own_Go p e below P T86 (mkF m 275 #[.val (.int p0), .val (.int p1), .val (.int p2), .val (.int p3), .val (.int kk), .val (.int oo), .val (.int (2 : Int32)), .val (.int pl), .val (.int r0), .val (.int r1), .val (.int r2), .val (.ref b33), .val (.int (own_srt (own_ref r0 kk) (own_ref r1 kk) (-1 : Int32) pl)), .val (.ref b38), .val (.int (own_ref r0 kk))] [])
          refine own_step (fun _ k => XS.aload X86.here hx rfl (hb hby at_275) rfl rfl k) ?_
          show own_Go p e below P T86 (mkF m 277 #[.val (.int p0), .val (.int p1), .val (.int p2), .val (.int p3), .val (.int kk), .val (.int oo), .val (.int (2 : Int32)), .val (.int pl), .val (.int r0), .val (.int r1), .val (.int r2), .val (.ref b33), .val (.int (own_srt (own_ref r0 kk) (own_ref r1 kk) (-1 : Int32) pl)), .val (.ref b38), .val (.int (own_ref r0 kk))] [(.ref b38)])
          refine own_step (fun _ k => XS.iconst X86.here hx rfl (hb hby at_277) k) ?_
          show own_Go p e below P T86 (mkF m 278 #[.val (.int p0), .val (.int p1), .val (.int p2), .val (.int p3), .val (.int kk), .val (.int oo), .val (.int (2 : Int32)), .val (.int pl), .val (.int r0), .val (.int r1), .val (.int r2), .val (.ref b33), .val (.int (own_srt (own_ref r0 kk) (own_ref r1 kk) (-1 : Int32) pl)), .val (.ref b38), .val (.int (own_ref r0 kk))] [(.int (0 : Int32)), (.ref b38)])
          refine own_step (fun _ k => XS.aload X86.here hx rfl (hb hby at_278) rfl rfl k) ?_
          show own_Go p e below P T86 (mkF m 280 #[.val (.int p0), .val (.int p1), .val (.int p2), .val (.int p3), .val (.int kk), .val (.int oo), .val (.int (2 : Int32)), .val (.int pl), .val (.int r0), .val (.int r1), .val (.int r2), .val (.ref b33), .val (.int (own_srt (own_ref r0 kk) (own_ref r1 kk) (-1 : Int32) pl)), .val (.ref b38), .val (.int (own_ref r0 kk))] [(.ref b38), (.int (0 : Int32)), (.ref b38)])
          refine own_step (fun _ k => XS.iconst X86.here hx rfl (hb hby at_280) k) ?_
          show own_Go p e below P T86 (mkF m 281 #[.val (.int p0), .val (.int p1), .val (.int p2), .val (.int p3), .val (.int kk), .val (.int oo), .val (.int (2 : Int32)), .val (.int pl), .val (.int r0), .val (.int r1), .val (.int r2), .val (.ref b33), .val (.int (own_srt (own_ref r0 kk) (own_ref r1 kk) (-1 : Int32) pl)), .val (.ref b38), .val (.int (own_ref r0 kk))] [(.int (1 : Int32)), (.ref b38), (.int (0 : Int32)), (.ref b38)])
          obtain ⟨cl91, Ar91, -, S91, M91, H91, -⟩ := (id V86)
          have hin91 : ¬ ((1 : Int32) < 0 ∨ cl91.slots.size ≤ ((1 : Int32)).toNatClampNeg) := inb_of S91 ⟨by decide, by decide⟩
          refine own_step (fun t k => X86.iaload hx (j := (1 : Int32)) (v := (.int (-1 : Int32))) (by rw [e86]; exact Ar91.1) (State.isArrayOf_alike hZ.alike Ar91.2.1) Ar91.2.2 hin91 (Has.at H91 hin91 rfl) (g := (mkF m 281 #[.val (.int p0), .val (.int p1), .val (.int p2), .val (.int p3), .val (.int kk), .val (.int oo), .val (.int (2 : Int32)), .val (.int pl), .val (.int r0), .val (.int r1), .val (.int r2), .val (.ref b33), .val (.int (own_srt (own_ref r0 kk) (own_ref r1 kk) (-1 : Int32) pl)), .val (.ref b38), .val (.int (own_ref r0 kk))] [(.int (1 : Int32)), (.ref b38), (.int (0 : Int32)), (.ref b38)])) rfl rfl (hb hby at_281) t k) ?_
          show own_Go p e below P T86 (mkF m 282 #[.val (.int p0), .val (.int p1), .val (.int p2), .val (.int p3), .val (.int kk), .val (.int oo), .val (.int (2 : Int32)), .val (.int pl), .val (.int r0), .val (.int r1), .val (.int r2), .val (.ref b33), .val (.int (own_srt (own_ref r0 kk) (own_ref r1 kk) (-1 : Int32) pl)), .val (.ref b38), .val (.int (own_ref r0 kk))] [(.int (-1 : Int32)), (.int (0 : Int32)), (.ref b38)])
          obtain ⟨cl92, Ar92, q92, S92, M92, H92, G92⟩ := (id V86)
          have hin92 : ¬ ((0 : Int32) < 0 ∨ cl92.slots.size ≤ ((0 : Int32)).toNatClampNeg) := inb_of S92 ⟨by decide, by decide⟩
          obtain ⟨T92, h92, X92, e92, W92, st92⟩ := stI X86 hx hZ e86 Ar92 (j := (0 : Int32)) hin92 (g := (mkF m 282 #[.val (.int p0), .val (.int p1), .val (.int p2), .val (.int p3), .val (.int kk), .val (.int oo), .val (.int (2 : Int32)), .val (.int pl), .val (.int r0), .val (.int r1), .val (.int r2), .val (.ref b33), .val (.int (own_srt (own_ref r0 kk) (own_ref r1 kk) (-1 : Int32) pl)), .val (.ref b38), .val (.int (own_ref r0 kk))] [(.int (-1 : Int32)), (.int (0 : Int32)), (.ref b38)])) rfl rfl (hb hby at_282)
          have V92 : Arv Z h92 b38 k38 .int (3 : Int32) [(.int (-1 : Int32)), (.int (-1 : Int32)), (.int (own_ref r1 kk))] (.int (0 : Int32)) := Arv.set Ar92 q92 S92 M92 H92 G92 rfl W92 0 rfl (Nat.le_of_ble_eq_true rfl)
          have N92 := Fr.snoc X92 N86 g_b38
          refine own_step st92 ?_
          show own_Go p e below P T92 (mkF m 283 #[.val (.int p0), .val (.int p1), .val (.int p2), .val (.int p3), .val (.int kk), .val (.int oo), .val (.int (2 : Int32)), .val (.int pl), .val (.int r0), .val (.int r1), .val (.int r2), .val (.ref b33), .val (.int (own_srt (own_ref r0 kk) (own_ref r1 kk) (-1 : Int32) pl)), .val (.ref b38), .val (.int (own_ref r0 kk))] [])
          refine own_step (fun _ k => XS.aload X92.here hx rfl (hb hby at_283) rfl rfl k) ?_
          show own_Go p e below P T92 (mkF m 285 #[.val (.int p0), .val (.int p1), .val (.int p2), .val (.int p3), .val (.int kk), .val (.int oo), .val (.int (2 : Int32)), .val (.int pl), .val (.int r0), .val (.int r1), .val (.int r2), .val (.ref b33), .val (.int (own_srt (own_ref r0 kk) (own_ref r1 kk) (-1 : Int32) pl)), .val (.ref b38), .val (.int (own_ref r0 kk))] [(.ref b38)])
          refine own_step (fun _ k => XS.iconst X92.here hx rfl (hb hby at_285) k) ?_
          show own_Go p e below P T92 (mkF m 286 #[.val (.int p0), .val (.int p1), .val (.int p2), .val (.int p3), .val (.int kk), .val (.int oo), .val (.int (2 : Int32)), .val (.int pl), .val (.int r0), .val (.int r1), .val (.int r2), .val (.ref b33), .val (.int (own_srt (own_ref r0 kk) (own_ref r1 kk) (-1 : Int32) pl)), .val (.ref b38), .val (.int (own_ref r0 kk))] [(.int (1 : Int32)), (.ref b38)])
          refine own_step (fun _ k => XS.iload X92.here hx rfl (hb hby at_286) rfl k) ?_
          show own_Go p e below P T92 (mkF m 288 #[.val (.int p0), .val (.int p1), .val (.int p2), .val (.int p3), .val (.int kk), .val (.int oo), .val (.int (2 : Int32)), .val (.int pl), .val (.int r0), .val (.int r1), .val (.int r2), .val (.ref b33), .val (.int (own_srt (own_ref r0 kk) (own_ref r1 kk) (-1 : Int32) pl)), .val (.ref b38), .val (.int (own_ref r0 kk))] [(.int (own_ref r0 kk)), (.int (1 : Int32)), (.ref b38)])
          obtain ⟨cl93, Ar93, q93, S93, M93, H93, G93⟩ := (id V92)
          have hin93 : ¬ ((1 : Int32) < 0 ∨ cl93.slots.size ≤ ((1 : Int32)).toNatClampNeg) := inb_of S93 ⟨by decide, by decide⟩
          obtain ⟨T93, h93, X93, e93, W93, st93⟩ := stI X92 hx hZ e92 Ar93 (j := (1 : Int32)) hin93 (g := (mkF m 288 #[.val (.int p0), .val (.int p1), .val (.int p2), .val (.int p3), .val (.int kk), .val (.int oo), .val (.int (2 : Int32)), .val (.int pl), .val (.int r0), .val (.int r1), .val (.int r2), .val (.ref b33), .val (.int (own_srt (own_ref r0 kk) (own_ref r1 kk) (-1 : Int32) pl)), .val (.ref b38), .val (.int (own_ref r0 kk))] [(.int (own_ref r0 kk)), (.int (1 : Int32)), (.ref b38)])) rfl rfl (hb hby at_288)
          have V93 : Arv Z h93 b38 k38 .int (3 : Int32) [(.int (-1 : Int32)), (.int (own_ref r0 kk)), (.int (own_ref r1 kk))] (.int (0 : Int32)) := Arv.set Ar93 q93 S93 M93 H93 G93 rfl W93 1 rfl (Nat.le_of_ble_eq_true rfl)
          have N93 := Fr.snoc X93 N92 g_b38
          refine own_step st93 ?_
          show own_Go p e below P T93 (mkF m 289 #[.val (.int p0), .val (.int p1), .val (.int p2), .val (.int p3), .val (.int kk), .val (.int oo), .val (.int (2 : Int32)), .val (.int pl), .val (.int r0), .val (.int r1), .val (.int r2), .val (.ref b33), .val (.int (own_srt (own_ref r0 kk) (own_ref r1 kk) (-1 : Int32) pl)), .val (.ref b38), .val (.int (own_ref r0 kk))] [])
          have hpf := own_plf _ pi (by decide)
          rw [← hpi] at hpf
          refine own_step (fun _ k => XS.iload X93.here hx rfl (hb hby at_289) rfl k) ?_
          show own_Go p e below P T93 (mkF m 291 #[.val (.int p0), .val (.int p1), .val (.int p2), .val (.int p3), .val (.int kk), .val (.int oo), .val (.int (2 : Int32)), .val (.int pl), .val (.int r0), .val (.int r1), .val (.int r2), .val (.ref b33), .val (.int (own_srt (own_ref r0 kk) (own_ref r1 kk) (-1 : Int32) pl)), .val (.ref b38), .val (.int (own_ref r0 kk))] [(.int (own_srt (own_ref r0 kk) (own_ref r1 kk) (-1 : Int32) pl))])
          refine own_step (fun _ k => XS.aload X93.here hx rfl (hb hby at_291) rfl rfl k) ?_
          show own_Go p e below P T93 (mkF m 293 #[.val (.int p0), .val (.int p1), .val (.int p2), .val (.int p3), .val (.int kk), .val (.int oo), .val (.int (2 : Int32)), .val (.int pl), .val (.int r0), .val (.int r1), .val (.int r2), .val (.ref b33), .val (.int (own_srt (own_ref r0 kk) (own_ref r1 kk) (-1 : Int32) pl)), .val (.ref b38), .val (.int (own_ref r0 kk))] [(.ref b38), (.int (own_srt (own_ref r0 kk) (own_ref r1 kk) (-1 : Int32) pl))])
          refine own_step (fun _ k => XS.iload X93.here hx rfl (hb hby at_293) rfl k) ?_
          show own_Go p e below P T93 (mkF m 295 #[.val (.int p0), .val (.int p1), .val (.int p2), .val (.int p3), .val (.int kk), .val (.int oo), .val (.int (2 : Int32)), .val (.int pl), .val (.int r0), .val (.int r1), .val (.int r2), .val (.ref b33), .val (.int (own_srt (own_ref r0 kk) (own_ref r1 kk) (-1 : Int32) pl)), .val (.ref b38), .val (.int (own_ref r0 kk))] [(.int pl), (.ref b38), (.int (own_srt (own_ref r0 kk) (own_ref r1 kk) (-1 : Int32) pl))])
          obtain ⟨cl94, Ar94, -, S94, M94, H94, -⟩ := (id V93)
          have hin94 : ¬ (pl < 0 ∨ cl94.slots.size ≤ (pl).toNatClampNeg) := inb_of S94 ⟨hpf.1, hpf.2.1⟩
          refine own_step (fun t k => X93.iaload hx (j := pl) (v := (.int ([(-1 : Int32), (own_ref r0 kk), (own_ref r1 kk)].getD (pl).toNatClampNeg 0))) (by rw [e93]; exact Ar94.1) (State.isArrayOf_alike hZ.alike Ar94.2.1) Ar94.2.2 hin94 (Has.at H94 hin94 (own_gd [(-1 : Int32), (own_ref r0 kk), (own_ref r1 kk)] _)) (g := (mkF m 295 #[.val (.int p0), .val (.int p1), .val (.int p2), .val (.int p3), .val (.int kk), .val (.int oo), .val (.int (2 : Int32)), .val (.int pl), .val (.int r0), .val (.int r1), .val (.int r2), .val (.ref b33), .val (.int (own_srt (own_ref r0 kk) (own_ref r1 kk) (-1 : Int32) pl)), .val (.ref b38), .val (.int (own_ref r0 kk))] [(.int pl), (.ref b38), (.int (own_srt (own_ref r0 kk) (own_ref r1 kk) (-1 : Int32) pl))])) rfl rfl (hb hby at_295) t k) ?_
          show own_Go p e below P T93 (mkF m 296 #[.val (.int p0), .val (.int p1), .val (.int p2), .val (.int p3), .val (.int kk), .val (.int oo), .val (.int (2 : Int32)), .val (.int pl), .val (.int r0), .val (.int r1), .val (.int r2), .val (.ref b33), .val (.int (own_srt (own_ref r0 kk) (own_ref r1 kk) (-1 : Int32) pl)), .val (.ref b38), .val (.int (own_ref r0 kk))] [(.int ([(-1 : Int32), (own_ref r0 kk), (own_ref r1 kk)].getD (pl).toNatClampNeg 0)), (.int (own_srt (own_ref r0 kk) (own_ref r1 kk) (-1 : Int32) pl))])
          refine own_step (fun _ k => XS.icmpNo X93.here hx rfl (hb hby at_296) rfl (teq ((if_neg hc46).trans ((if_pos hc82).trans (if_pos hc89)))).2 k) ?_
          show own_Go p e below P T93 (mkF m 299 #[.val (.int p0), .val (.int p1), .val (.int p2), .val (.int p3), .val (.int kk), .val (.int oo), .val (.int (2 : Int32)), .val (.int pl), .val (.int r0), .val (.int r1), .val (.int r2), .val (.ref b33), .val (.int (own_srt (own_ref r0 kk) (own_ref r1 kk) (-1 : Int32) pl)), .val (.ref b38), .val (.int (own_ref r0 kk))] [])
          refine own_step (fun _ k => XS.iconst X93.here hx rfl (hb hby at_299) k) ?_
          show own_Go p e below P T93 (mkF m 300 #[.val (.int p0), .val (.int p1), .val (.int p2), .val (.int p3), .val (.int kk), .val (.int oo), .val (.int (2 : Int32)), .val (.int pl), .val (.int r0), .val (.int r1), .val (.int r2), .val (.ref b33), .val (.int (own_srt (own_ref r0 kk) (own_ref r1 kk) (-1 : Int32) pl)), .val (.ref b38), .val (.int (own_ref r0 kk))] [(.int (1 : Int32))])
          refine own_step (fun _ k => XS.goto X93.here hx rfl (pc0 := 300) (pc' := 304) rfl (hb hby at_300) (by decide) (by decide) k) ?_
          show own_Go p e below P T93 (mkF m 304 #[.val (.int p0), .val (.int p1), .val (.int p2), .val (.int p3), .val (.int kk), .val (.int oo), .val (.int (2 : Int32)), .val (.int pl), .val (.int r0), .val (.int r1), .val (.int r2), .val (.ref b33), .val (.int (own_srt (own_ref r0 kk) (own_ref r1 kk) (-1 : Int32) pl)), .val (.ref b38), .val (.int (own_ref r0 kk))] [(.int (1 : Int32))])
          obtain ⟨fs, hr, hrun, hended, hW, hsame⟩ := X93.leave (v := some (.int (1 : Int32))) (fun h => by rw [Bd.returns] at h; cases h)
          refine ⟨_, _, retN X93 hx (t := .boolean) Bd.returns (by simp) (hb hby at_304) hr, hrun, hended, hfin _ _ ⟨_, _, rfl, ?_, ⟨_, rfl⟩, hW, hsame.mono (by decide) (by decide)⟩⟩
          show Q0 Z p0 p1 p2 p3 h0 n0 (some (.int (1 : Int32))) T93.heap _
          rw [e93]
          exact ⟨rfl, N93⟩
        · refine own_step (fun _ k => XS.icmpYes X86.here hx rfl (pc0 := 266) (pc' := 289) rfl (hb hby at_266) rfl (flt hc89).2.1 (by decide) (by decide) k) ?_
          show own_Go p e below P T86 (mkF m 289 #[.val (.int p0), .val (.int p1), .val (.int p2), .val (.int p3), .val (.int kk), .val (.int oo), .val (.int (2 : Int32)), .val (.int pl), .val (.int r0), .val (.int r1), .val (.int r2), .val (.ref b33), .val (.int (own_srt (own_ref r0 kk) (own_ref r1 kk) (-1 : Int32) pl)), .val (.ref b38), .val (.int (own_ref r1 kk))] [])
          have hpf := own_plf _ pi (by decide)
          rw [← hpi] at hpf
          refine own_step (fun _ k => XS.iload X86.here hx rfl (hb hby at_289) rfl k) ?_
          show own_Go p e below P T86 (mkF m 291 #[.val (.int p0), .val (.int p1), .val (.int p2), .val (.int p3), .val (.int kk), .val (.int oo), .val (.int (2 : Int32)), .val (.int pl), .val (.int r0), .val (.int r1), .val (.int r2), .val (.ref b33), .val (.int (own_srt (own_ref r0 kk) (own_ref r1 kk) (-1 : Int32) pl)), .val (.ref b38), .val (.int (own_ref r1 kk))] [(.int (own_srt (own_ref r0 kk) (own_ref r1 kk) (-1 : Int32) pl))])
          refine own_step (fun _ k => XS.aload X86.here hx rfl (hb hby at_291) rfl rfl k) ?_
          show own_Go p e below P T86 (mkF m 293 #[.val (.int p0), .val (.int p1), .val (.int p2), .val (.int p3), .val (.int kk), .val (.int oo), .val (.int (2 : Int32)), .val (.int pl), .val (.int r0), .val (.int r1), .val (.int r2), .val (.ref b33), .val (.int (own_srt (own_ref r0 kk) (own_ref r1 kk) (-1 : Int32) pl)), .val (.ref b38), .val (.int (own_ref r1 kk))] [(.ref b38), (.int (own_srt (own_ref r0 kk) (own_ref r1 kk) (-1 : Int32) pl))])
          refine own_step (fun _ k => XS.iload X86.here hx rfl (hb hby at_293) rfl k) ?_
          show own_Go p e below P T86 (mkF m 295 #[.val (.int p0), .val (.int p1), .val (.int p2), .val (.int p3), .val (.int kk), .val (.int oo), .val (.int (2 : Int32)), .val (.int pl), .val (.int r0), .val (.int r1), .val (.int r2), .val (.ref b33), .val (.int (own_srt (own_ref r0 kk) (own_ref r1 kk) (-1 : Int32) pl)), .val (.ref b38), .val (.int (own_ref r1 kk))] [(.int pl), (.ref b38), (.int (own_srt (own_ref r0 kk) (own_ref r1 kk) (-1 : Int32) pl))])
          obtain ⟨cl96, Ar96, -, S96, M96, H96, -⟩ := (id V86)
          have hin96 : ¬ (pl < 0 ∨ cl96.slots.size ≤ (pl).toNatClampNeg) := inb_of S96 ⟨hpf.1, hpf.2.1⟩
          refine own_step (fun t k => X86.iaload hx (j := pl) (v := (.int ([(own_ref r0 kk), (-1 : Int32), (own_ref r1 kk)].getD (pl).toNatClampNeg 0))) (by rw [e86]; exact Ar96.1) (State.isArrayOf_alike hZ.alike Ar96.2.1) Ar96.2.2 hin96 (Has.at H96 hin96 (own_gd [(own_ref r0 kk), (-1 : Int32), (own_ref r1 kk)] _)) (g := (mkF m 295 #[.val (.int p0), .val (.int p1), .val (.int p2), .val (.int p3), .val (.int kk), .val (.int oo), .val (.int (2 : Int32)), .val (.int pl), .val (.int r0), .val (.int r1), .val (.int r2), .val (.ref b33), .val (.int (own_srt (own_ref r0 kk) (own_ref r1 kk) (-1 : Int32) pl)), .val (.ref b38), .val (.int (own_ref r1 kk))] [(.int pl), (.ref b38), (.int (own_srt (own_ref r0 kk) (own_ref r1 kk) (-1 : Int32) pl))])) rfl rfl (hb hby at_295) t k) ?_
          show own_Go p e below P T86 (mkF m 296 #[.val (.int p0), .val (.int p1), .val (.int p2), .val (.int p3), .val (.int kk), .val (.int oo), .val (.int (2 : Int32)), .val (.int pl), .val (.int r0), .val (.int r1), .val (.int r2), .val (.ref b33), .val (.int (own_srt (own_ref r0 kk) (own_ref r1 kk) (-1 : Int32) pl)), .val (.ref b38), .val (.int (own_ref r1 kk))] [(.int ([(own_ref r0 kk), (-1 : Int32), (own_ref r1 kk)].getD (pl).toNatClampNeg 0)), (.int (own_srt (own_ref r0 kk) (own_ref r1 kk) (-1 : Int32) pl))])
          refine own_step (fun _ k => XS.icmpNo X86.here hx rfl (hb hby at_296) rfl (teq ((if_neg hc46).trans ((if_pos hc82).trans (if_neg hc89)))).2 k) ?_
          show own_Go p e below P T86 (mkF m 299 #[.val (.int p0), .val (.int p1), .val (.int p2), .val (.int p3), .val (.int kk), .val (.int oo), .val (.int (2 : Int32)), .val (.int pl), .val (.int r0), .val (.int r1), .val (.int r2), .val (.ref b33), .val (.int (own_srt (own_ref r0 kk) (own_ref r1 kk) (-1 : Int32) pl)), .val (.ref b38), .val (.int (own_ref r1 kk))] [])
          refine own_step (fun _ k => XS.iconst X86.here hx rfl (hb hby at_299) k) ?_
          show own_Go p e below P T86 (mkF m 300 #[.val (.int p0), .val (.int p1), .val (.int p2), .val (.int p3), .val (.int kk), .val (.int oo), .val (.int (2 : Int32)), .val (.int pl), .val (.int r0), .val (.int r1), .val (.int r2), .val (.ref b33), .val (.int (own_srt (own_ref r0 kk) (own_ref r1 kk) (-1 : Int32) pl)), .val (.ref b38), .val (.int (own_ref r1 kk))] [(.int (1 : Int32))])
          refine own_step (fun _ k => XS.goto X86.here hx rfl (pc0 := 300) (pc' := 304) rfl (hb hby at_300) (by decide) (by decide) k) ?_
          show own_Go p e below P T86 (mkF m 304 #[.val (.int p0), .val (.int p1), .val (.int p2), .val (.int p3), .val (.int kk), .val (.int oo), .val (.int (2 : Int32)), .val (.int pl), .val (.int r0), .val (.int r1), .val (.int r2), .val (.ref b33), .val (.int (own_srt (own_ref r0 kk) (own_ref r1 kk) (-1 : Int32) pl)), .val (.ref b38), .val (.int (own_ref r1 kk))] [(.int (1 : Int32))])
          obtain ⟨fs, hr, hrun, hended, hW, hsame⟩ := X86.leave (v := some (.int (1 : Int32))) (fun h => by rw [Bd.returns] at h; cases h)
          refine ⟨_, _, retN X86 hx (t := .boolean) Bd.returns (by simp) (hb hby at_304) hr, hrun, hended, hfin _ _ ⟨_, _, rfl, ?_, ⟨_, rfl⟩, hW, hsame.mono (by decide) (by decide)⟩⟩
          show Q0 Z p0 p1 p2 p3 h0 n0 (some (.int (1 : Int32))) T86.heap _
          rw [e86]
          exact ⟨rfl, N86⟩
      · refine own_step (fun _ k => XS.icmpYes X43.here hx rfl (pc0 := 235) (pc' := 258) rfl (hb hby at_235) rfl (flt hc82).2.1 (by decide) (by decide) k) ?_
        show own_Go p e below P T43 (mkF m 258 #[.val (.int p0), .val (.int p1), .val (.int p2), .val (.int p3), .val (.int kk), .val (.int oo), .val (.int (2 : Int32)), .val (.int pl), .val (.int r0), .val (.int r1), .val (.int r2), .val (.ref b33), .val (.int (own_srt (own_ref r0 kk) (own_ref r1 kk) (-1 : Int32) pl)), .val (.ref b38), .unset] [])
        refine own_step (fun _ k => XS.aload X43.here hx rfl (hb hby at_258) rfl rfl k) ?_
        show own_Go p e below P T43 (mkF m 260 #[.val (.int p0), .val (.int p1), .val (.int p2), .val (.int p3), .val (.int kk), .val (.int oo), .val (.int (2 : Int32)), .val (.int pl), .val (.int r0), .val (.int r1), .val (.int r2), .val (.ref b33), .val (.int (own_srt (own_ref r0 kk) (own_ref r1 kk) (-1 : Int32) pl)), .val (.ref b38), .unset] [(.ref b38)])
        refine own_step (fun _ k => XS.iconst X43.here hx rfl (hb hby at_260) k) ?_
        show own_Go p e below P T43 (mkF m 261 #[.val (.int p0), .val (.int p1), .val (.int p2), .val (.int p3), .val (.int kk), .val (.int oo), .val (.int (2 : Int32)), .val (.int pl), .val (.int r0), .val (.int r1), .val (.int r2), .val (.ref b33), .val (.int (own_srt (own_ref r0 kk) (own_ref r1 kk) (-1 : Int32) pl)), .val (.ref b38), .unset] [(.int (0 : Int32)), (.ref b38)])
        obtain ⟨cl98, Ar98, -, S98, M98, H98, -⟩ := (id V43)
        have hin98 : ¬ ((0 : Int32) < 0 ∨ cl98.slots.size ≤ ((0 : Int32)).toNatClampNeg) := inb_of S98 ⟨by decide, by decide⟩
        refine own_step (fun t k => X43.iaload hx (j := (0 : Int32)) (v := (.int (own_ref r0 kk))) (by rw [e43]; exact Ar98.1) (State.isArrayOf_alike hZ.alike Ar98.2.1) Ar98.2.2 hin98 (Has.at H98 hin98 rfl) (g := (mkF m 261 #[.val (.int p0), .val (.int p1), .val (.int p2), .val (.int p3), .val (.int kk), .val (.int oo), .val (.int (2 : Int32)), .val (.int pl), .val (.int r0), .val (.int r1), .val (.int r2), .val (.ref b33), .val (.int (own_srt (own_ref r0 kk) (own_ref r1 kk) (-1 : Int32) pl)), .val (.ref b38), .unset] [(.int (0 : Int32)), (.ref b38)])) rfl rfl (hb hby at_261) t k) ?_
        show own_Go p e below P T43 (mkF m 262 #[.val (.int p0), .val (.int p1), .val (.int p2), .val (.int p3), .val (.int kk), .val (.int oo), .val (.int (2 : Int32)), .val (.int pl), .val (.int r0), .val (.int r1), .val (.int r2), .val (.ref b33), .val (.int (own_srt (own_ref r0 kk) (own_ref r1 kk) (-1 : Int32) pl)), .val (.ref b38), .unset] [(.int (own_ref r0 kk))])
        refine own_step (fun _ k => XS.aload X43.here hx rfl (hb hby at_262) rfl rfl k) ?_
        show own_Go p e below P T43 (mkF m 264 #[.val (.int p0), .val (.int p1), .val (.int p2), .val (.int p3), .val (.int kk), .val (.int oo), .val (.int (2 : Int32)), .val (.int pl), .val (.int r0), .val (.int r1), .val (.int r2), .val (.ref b33), .val (.int (own_srt (own_ref r0 kk) (own_ref r1 kk) (-1 : Int32) pl)), .val (.ref b38), .unset] [(.ref b38), (.int (own_ref r0 kk))])
        refine own_step (fun _ k => XS.iconst X43.here hx rfl (hb hby at_264) k) ?_
        show own_Go p e below P T43 (mkF m 265 #[.val (.int p0), .val (.int p1), .val (.int p2), .val (.int p3), .val (.int kk), .val (.int oo), .val (.int (2 : Int32)), .val (.int pl), .val (.int r0), .val (.int r1), .val (.int r2), .val (.ref b33), .val (.int (own_srt (own_ref r0 kk) (own_ref r1 kk) (-1 : Int32) pl)), .val (.ref b38), .unset] [(.int (1 : Int32)), (.ref b38), (.int (own_ref r0 kk))])
        obtain ⟨cl99, Ar99, -, S99, M99, H99, -⟩ := (id V43)
        have hin99 : ¬ ((1 : Int32) < 0 ∨ cl99.slots.size ≤ ((1 : Int32)).toNatClampNeg) := inb_of S99 ⟨by decide, by decide⟩
        refine own_step (fun t k => X43.iaload hx (j := (1 : Int32)) (v := (.int (own_ref r1 kk))) (by rw [e43]; exact Ar99.1) (State.isArrayOf_alike hZ.alike Ar99.2.1) Ar99.2.2 hin99 (Has.at H99 hin99 rfl) (g := (mkF m 265 #[.val (.int p0), .val (.int p1), .val (.int p2), .val (.int p3), .val (.int kk), .val (.int oo), .val (.int (2 : Int32)), .val (.int pl), .val (.int r0), .val (.int r1), .val (.int r2), .val (.ref b33), .val (.int (own_srt (own_ref r0 kk) (own_ref r1 kk) (-1 : Int32) pl)), .val (.ref b38), .unset] [(.int (1 : Int32)), (.ref b38), (.int (own_ref r0 kk))])) rfl rfl (hb hby at_265) t k) ?_
        show own_Go p e below P T43 (mkF m 266 #[.val (.int p0), .val (.int p1), .val (.int p2), .val (.int p3), .val (.int kk), .val (.int oo), .val (.int (2 : Int32)), .val (.int pl), .val (.int r0), .val (.int r1), .val (.int r2), .val (.ref b33), .val (.int (own_srt (own_ref r0 kk) (own_ref r1 kk) (-1 : Int32) pl)), .val (.ref b38), .unset] [(.int (own_ref r1 kk)), (.int (own_ref r0 kk))])
        refine own_step (fun _ k => XS.icmpYes X43.here hx rfl (pc0 := 266) (pc' := 289) rfl (hb hby at_266) rfl (flt hc46).2.1 (by decide) (by decide) k) ?_
        show own_Go p e below P T43 (mkF m 289 #[.val (.int p0), .val (.int p1), .val (.int p2), .val (.int p3), .val (.int kk), .val (.int oo), .val (.int (2 : Int32)), .val (.int pl), .val (.int r0), .val (.int r1), .val (.int r2), .val (.ref b33), .val (.int (own_srt (own_ref r0 kk) (own_ref r1 kk) (-1 : Int32) pl)), .val (.ref b38), .unset] [])
        have hpf := own_plf _ pi (by decide)
        rw [← hpi] at hpf
        refine own_step (fun _ k => XS.iload X43.here hx rfl (hb hby at_289) rfl k) ?_
        show own_Go p e below P T43 (mkF m 291 #[.val (.int p0), .val (.int p1), .val (.int p2), .val (.int p3), .val (.int kk), .val (.int oo), .val (.int (2 : Int32)), .val (.int pl), .val (.int r0), .val (.int r1), .val (.int r2), .val (.ref b33), .val (.int (own_srt (own_ref r0 kk) (own_ref r1 kk) (-1 : Int32) pl)), .val (.ref b38), .unset] [(.int (own_srt (own_ref r0 kk) (own_ref r1 kk) (-1 : Int32) pl))])
        refine own_step (fun _ k => XS.aload X43.here hx rfl (hb hby at_291) rfl rfl k) ?_
        show own_Go p e below P T43 (mkF m 293 #[.val (.int p0), .val (.int p1), .val (.int p2), .val (.int p3), .val (.int kk), .val (.int oo), .val (.int (2 : Int32)), .val (.int pl), .val (.int r0), .val (.int r1), .val (.int r2), .val (.ref b33), .val (.int (own_srt (own_ref r0 kk) (own_ref r1 kk) (-1 : Int32) pl)), .val (.ref b38), .unset] [(.ref b38), (.int (own_srt (own_ref r0 kk) (own_ref r1 kk) (-1 : Int32) pl))])
        refine own_step (fun _ k => XS.iload X43.here hx rfl (hb hby at_293) rfl k) ?_
        show own_Go p e below P T43 (mkF m 295 #[.val (.int p0), .val (.int p1), .val (.int p2), .val (.int p3), .val (.int kk), .val (.int oo), .val (.int (2 : Int32)), .val (.int pl), .val (.int r0), .val (.int r1), .val (.int r2), .val (.ref b33), .val (.int (own_srt (own_ref r0 kk) (own_ref r1 kk) (-1 : Int32) pl)), .val (.ref b38), .unset] [(.int pl), (.ref b38), (.int (own_srt (own_ref r0 kk) (own_ref r1 kk) (-1 : Int32) pl))])
        obtain ⟨cl100, Ar100, -, S100, M100, H100, -⟩ := (id V43)
        have hin100 : ¬ (pl < 0 ∨ cl100.slots.size ≤ (pl).toNatClampNeg) := inb_of S100 ⟨hpf.1, hpf.2.1⟩
        refine own_step (fun t k => X43.iaload hx (j := pl) (v := (.int ([(own_ref r0 kk), (own_ref r1 kk), (-1 : Int32)].getD (pl).toNatClampNeg 0))) (by rw [e43]; exact Ar100.1) (State.isArrayOf_alike hZ.alike Ar100.2.1) Ar100.2.2 hin100 (Has.at H100 hin100 (own_gd [(own_ref r0 kk), (own_ref r1 kk), (-1 : Int32)] _)) (g := (mkF m 295 #[.val (.int p0), .val (.int p1), .val (.int p2), .val (.int p3), .val (.int kk), .val (.int oo), .val (.int (2 : Int32)), .val (.int pl), .val (.int r0), .val (.int r1), .val (.int r2), .val (.ref b33), .val (.int (own_srt (own_ref r0 kk) (own_ref r1 kk) (-1 : Int32) pl)), .val (.ref b38), .unset] [(.int pl), (.ref b38), (.int (own_srt (own_ref r0 kk) (own_ref r1 kk) (-1 : Int32) pl))])) rfl rfl (hb hby at_295) t k) ?_
        show own_Go p e below P T43 (mkF m 296 #[.val (.int p0), .val (.int p1), .val (.int p2), .val (.int p3), .val (.int kk), .val (.int oo), .val (.int (2 : Int32)), .val (.int pl), .val (.int r0), .val (.int r1), .val (.int r2), .val (.ref b33), .val (.int (own_srt (own_ref r0 kk) (own_ref r1 kk) (-1 : Int32) pl)), .val (.ref b38), .unset] [(.int ([(own_ref r0 kk), (own_ref r1 kk), (-1 : Int32)].getD (pl).toNatClampNeg 0)), (.int (own_srt (own_ref r0 kk) (own_ref r1 kk) (-1 : Int32) pl))])
        refine own_step (fun _ k => XS.icmpNo X43.here hx rfl (hb hby at_296) rfl (teq ((if_neg hc46).trans ((if_neg hc82).trans (if_neg hc46)))).2 k) ?_
        show own_Go p e below P T43 (mkF m 299 #[.val (.int p0), .val (.int p1), .val (.int p2), .val (.int p3), .val (.int kk), .val (.int oo), .val (.int (2 : Int32)), .val (.int pl), .val (.int r0), .val (.int r1), .val (.int r2), .val (.ref b33), .val (.int (own_srt (own_ref r0 kk) (own_ref r1 kk) (-1 : Int32) pl)), .val (.ref b38), .unset] [])
        refine own_step (fun _ k => XS.iconst X43.here hx rfl (hb hby at_299) k) ?_
        show own_Go p e below P T43 (mkF m 300 #[.val (.int p0), .val (.int p1), .val (.int p2), .val (.int p3), .val (.int kk), .val (.int oo), .val (.int (2 : Int32)), .val (.int pl), .val (.int r0), .val (.int r1), .val (.int r2), .val (.ref b33), .val (.int (own_srt (own_ref r0 kk) (own_ref r1 kk) (-1 : Int32) pl)), .val (.ref b38), .unset] [(.int (1 : Int32))])
        refine own_step (fun _ k => XS.goto X43.here hx rfl (pc0 := 300) (pc' := 304) rfl (hb hby at_300) (by decide) (by decide) k) ?_
        show own_Go p e below P T43 (mkF m 304 #[.val (.int p0), .val (.int p1), .val (.int p2), .val (.int p3), .val (.int kk), .val (.int oo), .val (.int (2 : Int32)), .val (.int pl), .val (.int r0), .val (.int r1), .val (.int r2), .val (.ref b33), .val (.int (own_srt (own_ref r0 kk) (own_ref r1 kk) (-1 : Int32) pl)), .val (.ref b38), .unset] [(.int (1 : Int32))])
        obtain ⟨fs, hr, hrun, hended, hW, hsame⟩ := X43.leave (v := some (.int (1 : Int32))) (fun h => by rw [Bd.returns] at h; cases h)
        refine ⟨_, _, retN X43 hx (t := .boolean) Bd.returns (by simp) (hb hby at_304) hr, hrun, hended, hfin _ _ ⟨_, _, rfl, ?_, ⟨_, rfl⟩, hW, hsame.mono (by decide) (by decide)⟩⟩
        show Q0 Z p0 p1 p2 p3 h0 n0 (some (.int (1 : Int32))) T43.heap _
        rw [e43]
        exact ⟨rfl, N43⟩
  · show own_Go p e below P s₁ (mkF m 24 #[.val (.int p0), .val (.int p1), .val (.int p2), .val (.int p3), .val (.int kk), .val (.int oo), .val (.int (3 : Int32)), .unset, .unset, .unset, .unset, .unset, .unset, .unset, .unset] [])
    refine own_step (fun _ k => XS.iloadN X0.here hx rfl (hb hby at_24) rfl k) ?_
    show own_Go p e below P s₁ (mkF m 25 #[.val (.int p0), .val (.int p1), .val (.int p2), .val (.int p3), .val (.int kk), .val (.int oo), .val (.int (3 : Int32)), .unset, .unset, .unset, .unset, .unset, .unset, .unset, .unset] [(.int p2)])
    refine own_step (fun _ k => XS.bipush X0.here hx rfl (hb hby at_25) k) ?_
    show own_Go p e below P s₁ (mkF m 27 #[.val (.int p0), .val (.int p1), .val (.int p2), .val (.int p3), .val (.int kk), .val (.int oo), .val (.int (3 : Int32)), .unset, .unset, .unset, .unset, .unset, .unset, .unset, .unset] [(.int (8 : Int32)), (.int p2)])
    refine own_step (fun _ k => XS.iushr X0.here hx rfl (hb hby at_27) rfl k) ?_
    show own_Go p e below P s₁ (mkF m 28 #[.val (.int p0), .val (.int p1), .val (.int p2), .val (.int p3), .val (.int kk), .val (.int oo), .val (.int (3 : Int32)), .unset, .unset, .unset, .unset, .unset, .unset, .unset, .unset] [(.int ((p2.toUInt32 >>> ((8 : Int32) &&& 31).toUInt32).toInt32))])
    refine own_step (fun _ k => XS.iload X0.here hx rfl (hb hby at_28) rfl k) ?_
    show own_Go p e below P s₁ (mkF m 30 #[.val (.int p0), .val (.int p1), .val (.int p2), .val (.int p3), .val (.int kk), .val (.int oo), .val (.int (3 : Int32)), .unset, .unset, .unset, .unset, .unset, .unset, .unset, .unset] [(.int (3 : Int32)), (.int ((p2.toUInt32 >>> ((8 : Int32) &&& 31).toUInt32).toInt32))])
    refine own_step (fun _ k => iremM X0 hx rfl (hb hby at_30) rfl (by decide : ¬ ((3 : Int32) = (0 : Int32))) k) ?_
    show own_Go p e below P s₁ (mkF m 31 #[.val (.int p0), .val (.int p1), .val (.int p2), .val (.int p3), .val (.int kk), .val (.int oo), .val (.int (3 : Int32)), .unset, .unset, .unset, .unset, .unset, .unset, .unset, .unset] [(.int (((p2.toUInt32 >>> ((8 : Int32) &&& 31).toUInt32).toInt32) % (3 : Int32)))])
    refine own_step (fun _ k => XS.istore X0.here hx rfl (hb hby at_31) rfl (l' := #[.val (.int p0), .val (.int p1), .val (.int p2), .val (.int p3), .val (.int kk), .val (.int oo), .val (.int (3 : Int32)), .val (.int (((p2.toUInt32 >>> ((8 : Int32) &&& 31).toUInt32).toInt32) % (3 : Int32))), .unset, .unset, .unset, .unset, .unset, .unset, .unset]) rfl k) ?_
    show own_Go p e below P s₁ (mkF m 33 #[.val (.int p0), .val (.int p1), .val (.int p2), .val (.int p3), .val (.int kk), .val (.int oo), .val (.int (3 : Int32)), .val (.int (((p2.toUInt32 >>> ((8 : Int32) &&& 31).toUInt32).toInt32) % (3 : Int32))), .unset, .unset, .unset, .unset, .unset, .unset, .unset] [])
    refine own_step (fun _ k => XS.iloadN X0.here hx rfl (hb hby at_33) rfl k) ?_
    show own_Go p e below P s₁ (mkF m 34 #[.val (.int p0), .val (.int p1), .val (.int p2), .val (.int p3), .val (.int kk), .val (.int oo), .val (.int (3 : Int32)), .val (.int (((p2.toUInt32 >>> ((8 : Int32) &&& 31).toUInt32).toInt32) % (3 : Int32))), .unset, .unset, .unset, .unset, .unset, .unset, .unset] [(.int p3)])
    refine own_step (fun _ k => XS.bipush X0.here hx rfl (hb hby at_34) k) ?_
    show own_Go p e below P s₁ (mkF m 36 #[.val (.int p0), .val (.int p1), .val (.int p2), .val (.int p3), .val (.int kk), .val (.int oo), .val (.int (3 : Int32)), .val (.int (((p2.toUInt32 >>> ((8 : Int32) &&& 31).toUInt32).toInt32) % (3 : Int32))), .unset, .unset, .unset, .unset, .unset, .unset, .unset] [(.int (7 : Int32)), (.int p3)])
    refine own_step (fun _ k => XS.iand X0.here hx rfl (hb hby at_36) rfl k) ?_
    show own_Go p e below P s₁ (mkF m 37 #[.val (.int p0), .val (.int p1), .val (.int p2), .val (.int p3), .val (.int kk), .val (.int oo), .val (.int (3 : Int32)), .val (.int (((p2.toUInt32 >>> ((8 : Int32) &&& 31).toUInt32).toInt32) % (3 : Int32))), .unset, .unset, .unset, .unset, .unset, .unset, .unset] [(.int (p3 &&& (7 : Int32)))])
    refine own_step (fun _ k => XS.iconst X0.here hx rfl (hb hby at_37) k) ?_
    show own_Go p e below P s₁ (mkF m 38 #[.val (.int p0), .val (.int p1), .val (.int p2), .val (.int p3), .val (.int kk), .val (.int oo), .val (.int (3 : Int32)), .val (.int (((p2.toUInt32 >>> ((8 : Int32) &&& 31).toUInt32).toInt32) % (3 : Int32))), .unset, .unset, .unset, .unset, .unset, .unset, .unset] [(.int (1 : Int32)), (.int (p3 &&& (7 : Int32)))])
    refine own_step (fun _ k => XS.isub X0.here hx rfl (hb hby at_38) rfl k) ?_
    show own_Go p e below P s₁ (mkF m 39 #[.val (.int p0), .val (.int p1), .val (.int p2), .val (.int p3), .val (.int kk), .val (.int oo), .val (.int (3 : Int32)), .val (.int (((p2.toUInt32 >>> ((8 : Int32) &&& 31).toUInt32).toInt32) % (3 : Int32))), .unset, .unset, .unset, .unset, .unset, .unset, .unset] [(.int ((p3 &&& (7 : Int32)) - (1 : Int32)))])
    refine own_step (fun _ k => XS.istore X0.here hx rfl (hb hby at_39) rfl (l' := #[.val (.int p0), .val (.int p1), .val (.int p2), .val (.int p3), .val (.int kk), .val (.int oo), .val (.int (3 : Int32)), .val (.int (((p2.toUInt32 >>> ((8 : Int32) &&& 31).toUInt32).toInt32) % (3 : Int32))), .val (.int ((p3 &&& (7 : Int32)) - (1 : Int32))), .unset, .unset, .unset, .unset, .unset, .unset]) rfl k) ?_
    show own_Go p e below P s₁ (mkF m 41 #[.val (.int p0), .val (.int p1), .val (.int p2), .val (.int p3), .val (.int kk), .val (.int oo), .val (.int (3 : Int32)), .val (.int (((p2.toUInt32 >>> ((8 : Int32) &&& 31).toUInt32).toInt32) % (3 : Int32))), .val (.int ((p3 &&& (7 : Int32)) - (1 : Int32))), .unset, .unset, .unset, .unset, .unset, .unset] [])
    refine own_step (fun _ k => XS.iloadN X0.here hx rfl (hb hby at_41) rfl k) ?_
    show own_Go p e below P s₁ (mkF m 42 #[.val (.int p0), .val (.int p1), .val (.int p2), .val (.int p3), .val (.int kk), .val (.int oo), .val (.int (3 : Int32)), .val (.int (((p2.toUInt32 >>> ((8 : Int32) &&& 31).toUInt32).toInt32) % (3 : Int32))), .val (.int ((p3 &&& (7 : Int32)) - (1 : Int32))), .unset, .unset, .unset, .unset, .unset, .unset] [(.int p3)])
    refine own_step (fun _ k => XS.iconst X0.here hx rfl (hb hby at_42) k) ?_
    show own_Go p e below P s₁ (mkF m 43 #[.val (.int p0), .val (.int p1), .val (.int p2), .val (.int p3), .val (.int kk), .val (.int oo), .val (.int (3 : Int32)), .val (.int (((p2.toUInt32 >>> ((8 : Int32) &&& 31).toUInt32).toInt32) % (3 : Int32))), .val (.int ((p3 &&& (7 : Int32)) - (1 : Int32))), .unset, .unset, .unset, .unset, .unset, .unset] [(.int (3 : Int32)), (.int p3)])
    refine own_step (fun _ k => XS.iushr X0.here hx rfl (hb hby at_43) rfl k) ?_
    show own_Go p e below P s₁ (mkF m 44 #[.val (.int p0), .val (.int p1), .val (.int p2), .val (.int p3), .val (.int kk), .val (.int oo), .val (.int (3 : Int32)), .val (.int (((p2.toUInt32 >>> ((8 : Int32) &&& 31).toUInt32).toInt32) % (3 : Int32))), .val (.int ((p3 &&& (7 : Int32)) - (1 : Int32))), .unset, .unset, .unset, .unset, .unset, .unset] [(.int ((p3.toUInt32 >>> ((3 : Int32) &&& 31).toUInt32).toInt32))])
    refine own_step (fun _ k => XS.bipush X0.here hx rfl (hb hby at_44) k) ?_
    show own_Go p e below P s₁ (mkF m 46 #[.val (.int p0), .val (.int p1), .val (.int p2), .val (.int p3), .val (.int kk), .val (.int oo), .val (.int (3 : Int32)), .val (.int (((p2.toUInt32 >>> ((8 : Int32) &&& 31).toUInt32).toInt32) % (3 : Int32))), .val (.int ((p3 &&& (7 : Int32)) - (1 : Int32))), .unset, .unset, .unset, .unset, .unset, .unset] [(.int (7 : Int32)), (.int ((p3.toUInt32 >>> ((3 : Int32) &&& 31).toUInt32).toInt32))])
    refine own_step (fun _ k => XS.iand X0.here hx rfl (hb hby at_46) rfl k) ?_
    show own_Go p e below P s₁ (mkF m 47 #[.val (.int p0), .val (.int p1), .val (.int p2), .val (.int p3), .val (.int kk), .val (.int oo), .val (.int (3 : Int32)), .val (.int (((p2.toUInt32 >>> ((8 : Int32) &&& 31).toUInt32).toInt32) % (3 : Int32))), .val (.int ((p3 &&& (7 : Int32)) - (1 : Int32))), .unset, .unset, .unset, .unset, .unset, .unset] [(.int (((p3.toUInt32 >>> ((3 : Int32) &&& 31).toUInt32).toInt32) &&& (7 : Int32)))])
    refine own_step (fun _ k => XS.iconst X0.here hx rfl (hb hby at_47) k) ?_
    show own_Go p e below P s₁ (mkF m 48 #[.val (.int p0), .val (.int p1), .val (.int p2), .val (.int p3), .val (.int kk), .val (.int oo), .val (.int (3 : Int32)), .val (.int (((p2.toUInt32 >>> ((8 : Int32) &&& 31).toUInt32).toInt32) % (3 : Int32))), .val (.int ((p3 &&& (7 : Int32)) - (1 : Int32))), .unset, .unset, .unset, .unset, .unset, .unset] [(.int (1 : Int32)), (.int (((p3.toUInt32 >>> ((3 : Int32) &&& 31).toUInt32).toInt32) &&& (7 : Int32)))])
    refine own_step (fun _ k => XS.isub X0.here hx rfl (hb hby at_48) rfl k) ?_
    show own_Go p e below P s₁ (mkF m 49 #[.val (.int p0), .val (.int p1), .val (.int p2), .val (.int p3), .val (.int kk), .val (.int oo), .val (.int (3 : Int32)), .val (.int (((p2.toUInt32 >>> ((8 : Int32) &&& 31).toUInt32).toInt32) % (3 : Int32))), .val (.int ((p3 &&& (7 : Int32)) - (1 : Int32))), .unset, .unset, .unset, .unset, .unset, .unset] [(.int ((((p3.toUInt32 >>> ((3 : Int32) &&& 31).toUInt32).toInt32) &&& (7 : Int32)) - (1 : Int32)))])
    refine own_step (fun _ k => XS.istore X0.here hx rfl (hb hby at_49) rfl (l' := #[.val (.int p0), .val (.int p1), .val (.int p2), .val (.int p3), .val (.int kk), .val (.int oo), .val (.int (3 : Int32)), .val (.int (((p2.toUInt32 >>> ((8 : Int32) &&& 31).toUInt32).toInt32) % (3 : Int32))), .val (.int ((p3 &&& (7 : Int32)) - (1 : Int32))), .val (.int ((((p3.toUInt32 >>> ((3 : Int32) &&& 31).toUInt32).toInt32) &&& (7 : Int32)) - (1 : Int32))), .unset, .unset, .unset, .unset, .unset]) rfl k) ?_
    show own_Go p e below P s₁ (mkF m 51 #[.val (.int p0), .val (.int p1), .val (.int p2), .val (.int p3), .val (.int kk), .val (.int oo), .val (.int (3 : Int32)), .val (.int (((p2.toUInt32 >>> ((8 : Int32) &&& 31).toUInt32).toInt32) % (3 : Int32))), .val (.int ((p3 &&& (7 : Int32)) - (1 : Int32))), .val (.int ((((p3.toUInt32 >>> ((3 : Int32) &&& 31).toUInt32).toInt32) &&& (7 : Int32)) - (1 : Int32))), .unset, .unset, .unset, .unset, .unset] [])
    refine own_step (fun _ k => XS.iloadN X0.here hx rfl (hb hby at_51) rfl k) ?_
    show own_Go p e below P s₁ (mkF m 52 #[.val (.int p0), .val (.int p1), .val (.int p2), .val (.int p3), .val (.int kk), .val (.int oo), .val (.int (3 : Int32)), .val (.int (((p2.toUInt32 >>> ((8 : Int32) &&& 31).toUInt32).toInt32) % (3 : Int32))), .val (.int ((p3 &&& (7 : Int32)) - (1 : Int32))), .val (.int ((((p3.toUInt32 >>> ((3 : Int32) &&& 31).toUInt32).toInt32) &&& (7 : Int32)) - (1 : Int32))), .unset, .unset, .unset, .unset, .unset] [(.int p3)])
    refine own_step (fun _ k => XS.bipush X0.here hx rfl (hb hby at_52) k) ?_
    show own_Go p e below P s₁ (mkF m 54 #[.val (.int p0), .val (.int p1), .val (.int p2), .val (.int p3), .val (.int kk), .val (.int oo), .val (.int (3 : Int32)), .val (.int (((p2.toUInt32 >>> ((8 : Int32) &&& 31).toUInt32).toInt32) % (3 : Int32))), .val (.int ((p3 &&& (7 : Int32)) - (1 : Int32))), .val (.int ((((p3.toUInt32 >>> ((3 : Int32) &&& 31).toUInt32).toInt32) &&& (7 : Int32)) - (1 : Int32))), .unset, .unset, .unset, .unset, .unset] [(.int (6 : Int32)), (.int p3)])
    refine own_step (fun _ k => XS.iushr X0.here hx rfl (hb hby at_54) rfl k) ?_
    show own_Go p e below P s₁ (mkF m 55 #[.val (.int p0), .val (.int p1), .val (.int p2), .val (.int p3), .val (.int kk), .val (.int oo), .val (.int (3 : Int32)), .val (.int (((p2.toUInt32 >>> ((8 : Int32) &&& 31).toUInt32).toInt32) % (3 : Int32))), .val (.int ((p3 &&& (7 : Int32)) - (1 : Int32))), .val (.int ((((p3.toUInt32 >>> ((3 : Int32) &&& 31).toUInt32).toInt32) &&& (7 : Int32)) - (1 : Int32))), .unset, .unset, .unset, .unset, .unset] [(.int ((p3.toUInt32 >>> ((6 : Int32) &&& 31).toUInt32).toInt32))])
    refine own_step (fun _ k => XS.bipush X0.here hx rfl (hb hby at_55) k) ?_
    show own_Go p e below P s₁ (mkF m 57 #[.val (.int p0), .val (.int p1), .val (.int p2), .val (.int p3), .val (.int kk), .val (.int oo), .val (.int (3 : Int32)), .val (.int (((p2.toUInt32 >>> ((8 : Int32) &&& 31).toUInt32).toInt32) % (3 : Int32))), .val (.int ((p3 &&& (7 : Int32)) - (1 : Int32))), .val (.int ((((p3.toUInt32 >>> ((3 : Int32) &&& 31).toUInt32).toInt32) &&& (7 : Int32)) - (1 : Int32))), .unset, .unset, .unset, .unset, .unset] [(.int (7 : Int32)), (.int ((p3.toUInt32 >>> ((6 : Int32) &&& 31).toUInt32).toInt32))])
    refine own_step (fun _ k => XS.iand X0.here hx rfl (hb hby at_57) rfl k) ?_
    show own_Go p e below P s₁ (mkF m 58 #[.val (.int p0), .val (.int p1), .val (.int p2), .val (.int p3), .val (.int kk), .val (.int oo), .val (.int (3 : Int32)), .val (.int (((p2.toUInt32 >>> ((8 : Int32) &&& 31).toUInt32).toInt32) % (3 : Int32))), .val (.int ((p3 &&& (7 : Int32)) - (1 : Int32))), .val (.int ((((p3.toUInt32 >>> ((3 : Int32) &&& 31).toUInt32).toInt32) &&& (7 : Int32)) - (1 : Int32))), .unset, .unset, .unset, .unset, .unset] [(.int (((p3.toUInt32 >>> ((6 : Int32) &&& 31).toUInt32).toInt32) &&& (7 : Int32)))])
    refine own_step (fun _ k => XS.iconst X0.here hx rfl (hb hby at_58) k) ?_
    show own_Go p e below P s₁ (mkF m 59 #[.val (.int p0), .val (.int p1), .val (.int p2), .val (.int p3), .val (.int kk), .val (.int oo), .val (.int (3 : Int32)), .val (.int (((p2.toUInt32 >>> ((8 : Int32) &&& 31).toUInt32).toInt32) % (3 : Int32))), .val (.int ((p3 &&& (7 : Int32)) - (1 : Int32))), .val (.int ((((p3.toUInt32 >>> ((3 : Int32) &&& 31).toUInt32).toInt32) &&& (7 : Int32)) - (1 : Int32))), .unset, .unset, .unset, .unset, .unset] [(.int (1 : Int32)), (.int (((p3.toUInt32 >>> ((6 : Int32) &&& 31).toUInt32).toInt32) &&& (7 : Int32)))])
    refine own_step (fun _ k => XS.isub X0.here hx rfl (hb hby at_59) rfl k) ?_
    show own_Go p e below P s₁ (mkF m 60 #[.val (.int p0), .val (.int p1), .val (.int p2), .val (.int p3), .val (.int kk), .val (.int oo), .val (.int (3 : Int32)), .val (.int (((p2.toUInt32 >>> ((8 : Int32) &&& 31).toUInt32).toInt32) % (3 : Int32))), .val (.int ((p3 &&& (7 : Int32)) - (1 : Int32))), .val (.int ((((p3.toUInt32 >>> ((3 : Int32) &&& 31).toUInt32).toInt32) &&& (7 : Int32)) - (1 : Int32))), .unset, .unset, .unset, .unset, .unset] [(.int ((((p3.toUInt32 >>> ((6 : Int32) &&& 31).toUInt32).toInt32) &&& (7 : Int32)) - (1 : Int32)))])
    refine own_step (fun _ k => XS.istore X0.here hx rfl (hb hby at_60) rfl (l' := #[.val (.int p0), .val (.int p1), .val (.int p2), .val (.int p3), .val (.int kk), .val (.int oo), .val (.int (3 : Int32)), .val (.int (((p2.toUInt32 >>> ((8 : Int32) &&& 31).toUInt32).toInt32) % (3 : Int32))), .val (.int ((p3 &&& (7 : Int32)) - (1 : Int32))), .val (.int ((((p3.toUInt32 >>> ((3 : Int32) &&& 31).toUInt32).toInt32) &&& (7 : Int32)) - (1 : Int32))), .val (.int ((((p3.toUInt32 >>> ((6 : Int32) &&& 31).toUInt32).toInt32) &&& (7 : Int32)) - (1 : Int32))), .unset, .unset, .unset, .unset]) rfl k) ?_
    show own_Go p e below P s₁ (mkF m 62 #[.val (.int p0), .val (.int p1), .val (.int p2), .val (.int p3), .val (.int kk), .val (.int oo), .val (.int (3 : Int32)), .val (.int (((p2.toUInt32 >>> ((8 : Int32) &&& 31).toUInt32).toInt32) % (3 : Int32))), .val (.int ((p3 &&& (7 : Int32)) - (1 : Int32))), .val (.int ((((p3.toUInt32 >>> ((3 : Int32) &&& 31).toUInt32).toInt32) &&& (7 : Int32)) - (1 : Int32))), .val (.int ((((p3.toUInt32 >>> ((6 : Int32) &&& 31).toUInt32).toInt32) &&& (7 : Int32)) - (1 : Int32))), .unset, .unset, .unset, .unset] [])
    obtain ⟨pl, hpl, pi, hpi⟩ : ∃ z : Int32, (((p2.toUInt32 >>> ((8 : Int32) &&& 31).toUInt32).toInt32) % (3 : Int32)) = z ∧ ∃ i : Fin 3, z = Int32.ofInt (i.1 : Int) := ⟨_, rfl, own_pln p2 (3 : Int32) (N := 3) rfl (by decide)⟩
    rw [hpl]
    obtain ⟨r0, hr0, hR0⟩ : ∃ z : Int32, ((p3 &&& (7 : Int32)) - (1 : Int32)) = z ∧ own_isR z := ⟨_, rfl, own_r _⟩
    rw [hr0]
    obtain ⟨r1, hr1, hR1⟩ : ∃ z : Int32, ((((p3.toUInt32 >>> ((3 : Int32) &&& 31).toUInt32).toInt32) &&& (7 : Int32)) - (1 : Int32)) = z ∧ own_isR z := ⟨_, rfl, own_r _⟩
    rw [hr1]
    obtain ⟨r2, hr2, hR2⟩ : ∃ z : Int32, ((((p3.toUInt32 >>> ((6 : Int32) &&& 31).toUInt32).toInt32) &&& (7 : Int32)) - (1 : Int32)) = z ∧ own_isR z := ⟨_, rfl, own_r _⟩
    rw [hr2]
    show own_Go p e below P s₁ (mkF m 62 #[.val (.int p0), .val (.int p1), .val (.int p2), .val (.int p3), .val (.int kk), .val (.int oo), .val (.int (3 : Int32)), .val (.int pl), .val (.int r0), .val (.int r1), .val (.int r2), .unset, .unset, .unset, .unset] [])
    have hE := own_Kr hK
    have hok := own_ok hO ⟨by omega, by omega⟩ (k := kk)
    have hv0 := own_val (own_ok hO (own_Rr hR0)) ⟨by have := own_Rr hR0; omega, by have := own_Rr hR0; omega⟩
    have hv1 := own_val (own_ok hO (own_Rr hR1)) ⟨by have := own_Rr hR1; omega, by have := own_Rr hR1; omega⟩
    have hv2 := own_val (own_ok hO (own_Rr hR2)) ⟨by have := own_Rr hR2; omega, by have := own_Rr hR2; omega⟩
    obtain ⟨T102, h102, X102, e102, E102, A102, D102, -, st102⟩ := newO X0 hx hZ hown (hw _ (List.mem_of_getElem? (i := 1) rfl)) (hw _ (List.mem_of_getElem? (i := 2) rfl)) (hw _ (List.mem_of_getElem? (i := 3) rfl)) e0 (g := (mkF m 62 #[.val (.int p0), .val (.int p1), .val (.int p2), .val (.int p3), .val (.int kk), .val (.int oo), .val (.int (3 : Int32)), .val (.int pl), .val (.int r0), .val (.int r1), .val (.int r2), .unset, .unset, .unset, .unset] [])) rfl (hb hby at_62) (by decide) (by decide)
    obtain ⟨b102, g102⟩ : ∃ z, z = h0.size := ⟨_, rfl⟩
    rw [← g102] at A102 D102 st102
    have g_b102 : n0 ≤ b102 := Nat.le_trans Z0 (Nat.le_of_eq g102.symm)
    have sz_b102 : h0.size ≤ b102 := Nat.le_trans (Keep.refl h0 []).1 (Nat.le_of_eq g102.symm)
    have E_b102 := A102
    have F_lowest_b102 : Fld Z h102 b102 "com/example/bron/bron/trec/ScoreHistogram" "lowest" "D" (.double (0 : UInt64)) := D102 (Or.inr (hw _ (List.mem_of_getElem? (i := 26) rfl))) (ty := .double) (by decide)
    have F_scale_b102 : Fld Z h102 b102 "com/example/bron/bron/trec/ScoreHistogram" "scale" "D" (.double (0 : UInt64)) := D102 (Or.inr (hw _ (List.mem_of_getElem? (i := 28) rfl))) (ty := .double) (by decide)
    have F_counts_b102 : Fld Z h102 b102 "com/example/bron/bron/trec/ScoreHistogram" "counts" "[I" .null := D102 (Or.inr (hw _ (List.mem_of_getElem? (i := 31) rfl))) (ty := (.array .int)) (by decide)
    refine own_step st102 ?_
    show own_Go p e below P T102 (mkF m 65 #[.val (.int p0), .val (.int p1), .val (.int p2), .val (.int p3), .val (.int kk), .val (.int oo), .val (.int (3 : Int32)), .val (.int pl), .val (.int r0), .val (.int r1), .val (.int r2), .unset, .unset, .unset, .unset] [(.ref b102)])
    refine own_step (fun _ k => XS.dup X102.here hx rfl (hb hby at_65) rfl rfl k) ?_
    show own_Go p e below P T102 (mkF m 66 #[.val (.int p0), .val (.int p1), .val (.int p2), .val (.int p3), .val (.int kk), .val (.int oo), .val (.int (3 : Int32)), .val (.int pl), .val (.int r0), .val (.int r1), .val (.int r2), .unset, .unset, .unset, .unset] [(.ref b102), (.ref b102)])
    refine own_step (fun _ k => XS.iload X102.here hx rfl (hb hby at_66) rfl k) ?_
    show own_Go p e below P T102 (mkF m 68 #[.val (.int p0), .val (.int p1), .val (.int p2), .val (.int p3), .val (.int kk), .val (.int oo), .val (.int (3 : Int32)), .val (.int pl), .val (.int r0), .val (.int r1), .val (.int r2), .unset, .unset, .unset, .unset] [(.int oo), (.ref b102), (.ref b102)])
    refine own_step (fun _ k => XS.i2dS X102.here hx rfl (hb hby at_68) rfl rfl k) ?_
    show own_Go p e below P T102 (mkF m 69 #[.val (.int p0), .val (.int p1), .val (.int p2), .val (.int p3), .val (.int kk), .val (.int oo), .val (.int (3 : Int32)), .val (.int pl), .val (.int r0), .val (.int r1), .val (.int r2), .unset, .unset, .unset, .unset] [(.double (FP.i2d oo)), (.ref b102), (.ref b102)])
    refine own_step (fun _ k => XS.iload X102.here hx rfl (hb hby at_69) rfl k) ?_
    show own_Go p e below P T102 (mkF m 71 #[.val (.int p0), .val (.int p1), .val (.int p2), .val (.int p3), .val (.int kk), .val (.int oo), .val (.int (3 : Int32)), .val (.int pl), .val (.int r0), .val (.int r1), .val (.int r2), .unset, .unset, .unset, .unset] [(.int oo), (.double (FP.i2d oo)), (.ref b102), (.ref b102)])
    refine own_step (fun _ k => XS.iload X102.here hx rfl (hb hby at_71) rfl k) ?_
    show own_Go p e below P T102 (mkF m 73 #[.val (.int p0), .val (.int p1), .val (.int p2), .val (.int p3), .val (.int kk), .val (.int oo), .val (.int (3 : Int32)), .val (.int pl), .val (.int r0), .val (.int r1), .val (.int r2), .unset, .unset, .unset, .unset] [(.int kk), (.int oo), (.double (FP.i2d oo)), (.ref b102), (.ref b102)])
    refine own_step (fun _ k => XS.iadd X102.here hx rfl (hb hby at_73) rfl k) ?_
    show own_Go p e below P T102 (mkF m 74 #[.val (.int p0), .val (.int p1), .val (.int p2), .val (.int p3), .val (.int kk), .val (.int oo), .val (.int (3 : Int32)), .val (.int pl), .val (.int r0), .val (.int r1), .val (.int r2), .unset, .unset, .unset, .unset] [(.int (oo + kk)), (.double (FP.i2d oo)), (.ref b102), (.ref b102)])
    refine own_step (fun _ k => XS.i2dS X102.here hx rfl (hb hby at_74) rfl rfl k) ?_
    show own_Go p e below P T102 (mkF m 75 #[.val (.int p0), .val (.int p1), .val (.int p2), .val (.int p3), .val (.int kk), .val (.int oo), .val (.int (3 : Int32)), .val (.int pl), .val (.int r0), .val (.int r1), .val (.int r2), .unset, .unset, .unset, .unset] [(.double (FP.i2d (oo + kk))), (.double (FP.i2d oo)), (.ref b102), (.ref b102)])
    refine own_step (fun _ k => XS.iconst X102.here hx rfl (hb hby at_75) k) ?_
    show own_Go p e below P T102 (mkF m 76 #[.val (.int p0), .val (.int p1), .val (.int p2), .val (.int p3), .val (.int kk), .val (.int oo), .val (.int (3 : Int32)), .val (.int pl), .val (.int r0), .val (.int r1), .val (.int r2), .unset, .unset, .unset, .unset] [(.int (4 : Int32)), (.double (FP.i2d (oo + kk))), (.double (FP.i2d oo)), (.ref b102), (.ref b102)])
    refine own_step (fun _ k => XS.iload X102.here hx rfl (hb hby at_76) rfl k) ?_
    show own_Go p e below P T102 (mkF m 78 #[.val (.int p0), .val (.int p1), .val (.int p2), .val (.int p3), .val (.int kk), .val (.int oo), .val (.int (3 : Int32)), .val (.int pl), .val (.int r0), .val (.int r1), .val (.int r2), .unset, .unset, .unset, .unset] [(.int kk), (.int (4 : Int32)), (.double (FP.i2d (oo + kk))), (.double (FP.i2d oo)), (.ref b102), (.ref b102)])
    refine own_step (fun _ k => XS.imul X102.here hx rfl (hb hby at_78) rfl k) ?_
    show own_Go p e below P T102 (mkF m 79 #[.val (.int p0), .val (.int p1), .val (.int p2), .val (.int p3), .val (.int kk), .val (.int oo), .val (.int (3 : Int32)), .val (.int pl), .val (.int r0), .val (.int r1), .val (.int r2), .unset, .unset, .unset, .unset] [(.int ((4 : Int32) * kk)), (.double (FP.i2d (oo + kk))), (.double (FP.i2d oo)), (.ref b102), (.ref b102)])
    obtain ⟨_, _, ⟨T103, L103, k103, n103⟩, -, X103, ⟨Lc103, hQ103, l103, y103, z103⟩, st103⟩ := X102.specialBack hx (y := (⟨"com/example/bron/bron/trec/ScoreHistogram", "<init>", "(DDI)V"⟩ : MethodName)) rfl hown (mvT hZ (hw _ (List.mem_of_getElem? (i := 4) rfl))) (mvT hZ (hw _ (List.mem_of_getElem? (i := 5) rfl))) (mvT hZ (hw _ (List.mem_of_getElem? (i := 6) rfl))) (by decide) (backOf (W := 1) (rm1 l Z a0 hw [] b102 (FP.i2d oo) (FP.i2d (oo + kk)) ((4 : Int32) * kk) kk h102 n0 (Nat.le_trans Z0 E102.1) E_b102 F_lowest_b102 F_scale_b102 F_counts_b102 g_b102 (own_hA hok hE.1) (own_dfin (own_ds hok ⟨by omega, by omega⟩)) (own_bkK hK) (own_hD hok ⟨hE.1, by omega⟩) hE) hZ (hw _ (List.mem_of_getElem? (i := 6) rfl)) (hw _ (List.mem_of_getElem? (i := 3) rfl)) (by decide) (by decide)) (g := (mkF m 79 #[.val (.int p0), .val (.int p1), .val (.int p2), .val (.int p3), .val (.int kk), .val (.int oo), .val (.int (3 : Int32)), .val (.int pl), .val (.int r0), .val (.int r1), .val (.int r2), .unset, .unset, .unset, .unset] [(.int ((4 : Int32) * kk)), (.double (FP.i2d (oo + kk))), (.double (FP.i2d oo)), (.ref b102), (.ref b102)])) rfl (by rw [hml]; rfl) (Steps.refl _) (a := b102) (argsL := [(.double (FP.i2d oo)), (.double (FP.i2d (oo + kk))), (.int ((4 : Int32) * kk))]) (rest := [(.ref b102)]) (lenOf pd__DDI__V rfl) rfl (by show 2 * 0 + _ ≤ _; exact Nat.le_of_eq rfl) (hb hby at_79) (fun _ _ => ⟨rfl, e102, (by decide : 1 + 1 ≤ _), (by decide : 3 + 5 ≤ _)⟩)
    dsimp only [Pt.U, Pt.locs, Pt.cells, Pt.slots] at X103 l103 y103 z103 st103 hQ103
    subst l103 y103 z103
    obtain ⟨rfl, N103q, K103, E103_o, Fl103, Fs103, ar103, kc103, la103, Fc103, V103⟩ := hQ103
    have g_ar103 : n0 ≤ ar103 := Nat.le_trans (Nat.le_trans Z0 E102.1) la103
    have sz_ar103 : h0.size ≤ ar103 := Nat.le_trans ((Keep.refl h0 []).ext E102).1 la103
    have ne103 : b102 ≠ ar103 := by
      obtain ⟨_, Aq, -⟩ := V103
      exact ne_arr E103_o (hw _ (List.mem_of_getElem? (i := 2) rfl)) Aq
    have N103 := Fr.app N0 N103q
    refine own_step (fun _ k => st103.trans k) ?_
    show own_Go p e below P T103 (mkF m 82 #[.val (.int p0), .val (.int p1), .val (.int p2), .val (.int p3), .val (.int kk), .val (.int oo), .val (.int (3 : Int32)), .val (.int pl), .val (.int r0), .val (.int r1), .val (.int r2), .unset, .unset, .unset, .unset] [(.ref b102)])
    refine own_step (fun _ k => XS.astore X103.here hx rfl (hb hby at_82) rfl rfl (l' := #[.val (.int p0), .val (.int p1), .val (.int p2), .val (.int p3), .val (.int kk), .val (.int oo), .val (.int (3 : Int32)), .val (.int pl), .val (.int r0), .val (.int r1), .val (.int r2), .val (.ref b102), .unset, .unset, .unset]) rfl k) ?_
    show own_Go p e below P T103 (mkF m 84 #[.val (.int p0), .val (.int p1), .val (.int p2), .val (.int p3), .val (.int kk), .val (.int oo), .val (.int (3 : Int32)), .val (.int pl), .val (.int r0), .val (.int r1), .val (.int r2), .val (.ref b102), .unset, .unset, .unset] [])
    refine own_step (fun _ k => XS.aload X103.here hx rfl (hb hby at_84) rfl rfl k) ?_
    show own_Go p e below P T103 (mkF m 86 #[.val (.int p0), .val (.int p1), .val (.int p2), .val (.int p3), .val (.int kk), .val (.int oo), .val (.int (3 : Int32)), .val (.int pl), .val (.int r0), .val (.int r1), .val (.int r2), .val (.ref b102), .unset, .unset, .unset] [(.ref b102)])
    refine own_step (fun _ k => XS.iload X103.here hx rfl (hb hby at_86) rfl k) ?_
    show own_Go p e below P T103 (mkF m 88 #[.val (.int p0), .val (.int p1), .val (.int p2), .val (.int p3), .val (.int kk), .val (.int oo), .val (.int (3 : Int32)), .val (.int pl), .val (.int r0), .val (.int r1), .val (.int r2), .val (.ref b102), .unset, .unset, .unset] [(.int oo), (.ref b102)])
    refine own_step (fun _ k => XS.iload X103.here hx rfl (hb hby at_88) rfl k) ?_
    show own_Go p e below P T103 (mkF m 90 #[.val (.int p0), .val (.int p1), .val (.int p2), .val (.int p3), .val (.int kk), .val (.int oo), .val (.int (3 : Int32)), .val (.int pl), .val (.int r0), .val (.int r1), .val (.int r2), .val (.ref b102), .unset, .unset, .unset] [(.int r0), (.int oo), (.ref b102)])
    refine own_step (fun _ k => XS.iadd X103.here hx rfl (hb hby at_90) rfl k) ?_
    show own_Go p e below P T103 (mkF m 91 #[.val (.int p0), .val (.int p1), .val (.int p2), .val (.int p3), .val (.int kk), .val (.int oo), .val (.int (3 : Int32)), .val (.int pl), .val (.int r0), .val (.int r1), .val (.int r2), .val (.ref b102), .unset, .unset, .unset] [(.int (oo + r0)), (.ref b102)])
    refine own_step (fun _ k => XS.i2dS X103.here hx rfl (hb hby at_91) rfl rfl k) ?_
    show own_Go p e below P T103 (mkF m 92 #[.val (.int p0), .val (.int p1), .val (.int p2), .val (.int p3), .val (.int kk), .val (.int oo), .val (.int (3 : Int32)), .val (.int pl), .val (.int r0), .val (.int r1), .val (.int r2), .val (.ref b102), .unset, .unset, .unset] [(.double (FP.i2d (oo + r0))), (.ref b102)])
    obtain ⟨cq104, kq104, q104a, q104b, q104c⟩ := isOf hZ rfl E103_o
    obtain ⟨_, _, ⟨T104, L104, k104, n104⟩, -, X104, ⟨Lc104, hQ104, l104, y104, z104⟩, st104⟩ := X103.virtualBack hx (y := (⟨"com/example/bron/bron/trec/ScoreHistogram", "add", "(D)V"⟩ : MethodName)) (z := (⟨"com/example/bron/bron/trec/ScoreHistogram", "add", "(D)V"⟩ : MethodName)) hown (mvT hZ (hw _ (List.mem_of_getElem? (i := 32) rfl))) (mvT hZ (hw _ (List.mem_of_getElem? (i := 33) rfl))) (notFace_of_selects (args := #[]) (mvT hZ (hw _ (List.mem_of_getElem? (i := 35) rfl)))) (mvT hZ (hw _ (List.mem_of_getElem? (i := 35) rfl))) (mvT hZ (hw _ (List.mem_of_getElem? (i := 34) rfl))) (by decide) (backOf (W := 0) (rm7 l Z a0 hw [] b102 (FP.i2d (oo + r0)) ar103 kc103 (kk + (1 : Int32)) (List.replicate (kk.toNatClampNeg + 1) (0 : Int32)) (FP.i2d oo) (own_clamp kk r0) T103.heap n0 (Nat.le_trans (Nat.le_trans Z0 E102.1) K103.1) E103_o Fl103 Fs103 Fc103 V103 ne103 g_ar103 hv0.2.1 hv0.2.2 (by rw [own_b1, hv0.1]) (own_cl hE).1 (own_cl hE).2 (own_l0 hE)) hZ (hw _ (List.mem_of_getElem? (i := 36) rfl)) (hw _ (List.mem_of_getElem? (i := 3) rfl)) (by decide) (by decide)) q104a q104c (g := (mkF m 92 #[.val (.int p0), .val (.int p1), .val (.int p2), .val (.int p3), .val (.int kk), .val (.int oo), .val (.int (3 : Int32)), .val (.int pl), .val (.int r0), .val (.int r1), .val (.int r2), .val (.ref b102), .unset, .unset, .unset] [(.double (FP.i2d (oo + r0))), (.ref b102)])) rfl (by rw [hml]; rfl) (Steps.refl _) (argsL := [(.double (FP.i2d (oo + r0)))]) (rest := []) (lenOf pd__D__V rfl) rfl (by show 2 * 0 + _ ≤ _; exact Nat.le_of_eq rfl) (hb hby at_92) (fun _ _ => ⟨rfl, rfl, (by decide : 2 + 0 ≤ _), (by decide : 8 + 0 ≤ _)⟩)
    dsimp only [Pt.U, Pt.locs, Pt.cells, Pt.slots] at X104 l104 y104 z104 st104 hQ104
    subst l104 y104 z104
    obtain ⟨rfl, N104q, K104, V104⟩ := hQ104
    have N104 := Fr.app N103 N104q
    refine own_step (fun _ k => st104.trans k) ?_
    show own_Go p e below P T104 (mkF m 95 #[.val (.int p0), .val (.int p1), .val (.int p2), .val (.int p3), .val (.int kk), .val (.int oo), .val (.int (3 : Int32)), .val (.int pl), .val (.int r0), .val (.int r1), .val (.int r2), .val (.ref b102), .unset, .unset, .unset] [])
    refine own_step (fun _ k => XS.iload X104.here hx rfl (hb hby at_95) rfl k) ?_
    show own_Go p e below P T104 (mkF m 97 #[.val (.int p0), .val (.int p1), .val (.int p2), .val (.int p3), .val (.int kk), .val (.int oo), .val (.int (3 : Int32)), .val (.int pl), .val (.int r0), .val (.int r1), .val (.int r2), .val (.ref b102), .unset, .unset, .unset] [(.int (3 : Int32))])
    refine own_step (fun _ k => XS.iconst X104.here hx rfl (hb hby at_97) k) ?_
    show own_Go p e below P T104 (mkF m 98 #[.val (.int p0), .val (.int p1), .val (.int p2), .val (.int p3), .val (.int kk), .val (.int oo), .val (.int (3 : Int32)), .val (.int pl), .val (.int r0), .val (.int r1), .val (.int r2), .val (.ref b102), .unset, .unset, .unset] [(.int (2 : Int32)), (.int (3 : Int32))])
    refine own_step (fun _ k => XS.icmpNo X104.here hx rfl (hb hby at_98) rfl (flt (by decide : ¬ ((3 : Int32) < (2 : Int32)))).1 k) ?_
    show own_Go p e below P T104 (mkF m 101 #[.val (.int p0), .val (.int p1), .val (.int p2), .val (.int p3), .val (.int kk), .val (.int oo), .val (.int (3 : Int32)), .val (.int pl), .val (.int r0), .val (.int r1), .val (.int r2), .val (.ref b102), .unset, .unset, .unset] [])
    refine own_step (fun _ k => XS.aload X104.here hx rfl (hb hby at_101) rfl rfl k) ?_
    show own_Go p e below P T104 (mkF m 103 #[.val (.int p0), .val (.int p1), .val (.int p2), .val (.int p3), .val (.int kk), .val (.int oo), .val (.int (3 : Int32)), .val (.int pl), .val (.int r0), .val (.int r1), .val (.int r2), .val (.ref b102), .unset, .unset, .unset] [(.ref b102)])
    refine own_step (fun _ k => XS.iload X104.here hx rfl (hb hby at_103) rfl k) ?_
    show own_Go p e below P T104 (mkF m 105 #[.val (.int p0), .val (.int p1), .val (.int p2), .val (.int p3), .val (.int kk), .val (.int oo), .val (.int (3 : Int32)), .val (.int pl), .val (.int r0), .val (.int r1), .val (.int r2), .val (.ref b102), .unset, .unset, .unset] [(.int oo), (.ref b102)])
    refine own_step (fun _ k => XS.iload X104.here hx rfl (hb hby at_105) rfl k) ?_
    show own_Go p e below P T104 (mkF m 107 #[.val (.int p0), .val (.int p1), .val (.int p2), .val (.int p3), .val (.int kk), .val (.int oo), .val (.int (3 : Int32)), .val (.int pl), .val (.int r0), .val (.int r1), .val (.int r2), .val (.ref b102), .unset, .unset, .unset] [(.int r1), (.int oo), (.ref b102)])
    refine own_step (fun _ k => XS.iadd X104.here hx rfl (hb hby at_107) rfl k) ?_
    show own_Go p e below P T104 (mkF m 108 #[.val (.int p0), .val (.int p1), .val (.int p2), .val (.int p3), .val (.int kk), .val (.int oo), .val (.int (3 : Int32)), .val (.int pl), .val (.int r0), .val (.int r1), .val (.int r2), .val (.ref b102), .unset, .unset, .unset] [(.int (oo + r1)), (.ref b102)])
    refine own_step (fun _ k => XS.i2dS X104.here hx rfl (hb hby at_108) rfl rfl k) ?_
    show own_Go p e below P T104 (mkF m 109 #[.val (.int p0), .val (.int p1), .val (.int p2), .val (.int p3), .val (.int kk), .val (.int oo), .val (.int (3 : Int32)), .val (.int pl), .val (.int r0), .val (.int r1), .val (.int r2), .val (.ref b102), .unset, .unset, .unset] [(.double (FP.i2d (oo + r1))), (.ref b102)])
    obtain ⟨cq105, kq105, q105a, q105b, q105c⟩ := isOf hZ rfl (E103_o.keep K104)
    obtain ⟨_, _, ⟨T105, L105, k105, n105⟩, -, X105, ⟨Lc105, hQ105, l105, y105, z105⟩, st105⟩ := X104.virtualBack hx (y := (⟨"com/example/bron/bron/trec/ScoreHistogram", "add", "(D)V"⟩ : MethodName)) (z := (⟨"com/example/bron/bron/trec/ScoreHistogram", "add", "(D)V"⟩ : MethodName)) hown (mvT hZ (hw _ (List.mem_of_getElem? (i := 32) rfl))) (mvT hZ (hw _ (List.mem_of_getElem? (i := 33) rfl))) (notFace_of_selects (args := #[]) (mvT hZ (hw _ (List.mem_of_getElem? (i := 35) rfl)))) (mvT hZ (hw _ (List.mem_of_getElem? (i := 35) rfl))) (mvT hZ (hw _ (List.mem_of_getElem? (i := 34) rfl))) (by decide) (backOf (W := 0) (rm7 l Z a0 hw [] b102 (FP.i2d (oo + r1)) ar103 kc103 (kk + (1 : Int32)) (own_put (List.replicate (kk.toNatClampNeg + 1) (0 : Int32)) (own_clamp kk r0)) (FP.i2d oo) (own_clamp kk r1) T104.heap n0 (Nat.le_trans (Nat.le_trans (Nat.le_trans Z0 E102.1) K103.1) K104.1) (E103_o.keep K104) (Fl103.keep K104 (ninS ne103 nin0)) (Fs103.keep K104 (ninS ne103 nin0)) (Fc103.keep K104 (ninS ne103 nin0)) V104 ne103 g_ar103 hv1.2.1 hv1.2.2 (by rw [own_b1, hv1.1]) (own_cl hE).1 (own_cl hE).2 ((own_put_len _ _).trans (own_l0 hE))) hZ (hw _ (List.mem_of_getElem? (i := 36) rfl)) (hw _ (List.mem_of_getElem? (i := 3) rfl)) (by decide) (by decide)) q105a q105c (g := (mkF m 109 #[.val (.int p0), .val (.int p1), .val (.int p2), .val (.int p3), .val (.int kk), .val (.int oo), .val (.int (3 : Int32)), .val (.int pl), .val (.int r0), .val (.int r1), .val (.int r2), .val (.ref b102), .unset, .unset, .unset] [(.double (FP.i2d (oo + r1))), (.ref b102)])) rfl (by rw [hml]; rfl) (Steps.refl _) (argsL := [(.double (FP.i2d (oo + r1)))]) (rest := []) (lenOf pd__D__V rfl) rfl (by show 2 * 0 + _ ≤ _; exact Nat.le_of_eq rfl) (hb hby at_109) (fun _ _ => ⟨rfl, rfl, (by decide : 2 + 0 ≤ _), (by decide : 8 + 0 ≤ _)⟩)
    dsimp only [Pt.U, Pt.locs, Pt.cells, Pt.slots] at X105 l105 y105 z105 st105 hQ105
    subst l105 y105 z105
    obtain ⟨rfl, N105q, K105, V105⟩ := hQ105
    have N105 := Fr.app N104 N105q
    refine own_step (fun _ k => st105.trans k) ?_
    show own_Go p e below P T105 (mkF m 112 #[.val (.int p0), .val (.int p1), .val (.int p2), .val (.int p3), .val (.int kk), .val (.int oo), .val (.int (3 : Int32)), .val (.int pl), .val (.int r0), .val (.int r1), .val (.int r2), .val (.ref b102), .unset, .unset, .unset] [])
    refine own_step (fun _ k => XS.iload X105.here hx rfl (hb hby at_112) rfl k) ?_
    show own_Go p e below P T105 (mkF m 114 #[.val (.int p0), .val (.int p1), .val (.int p2), .val (.int p3), .val (.int kk), .val (.int oo), .val (.int (3 : Int32)), .val (.int pl), .val (.int r0), .val (.int r1), .val (.int r2), .val (.ref b102), .unset, .unset, .unset] [(.int (3 : Int32))])
    refine own_step (fun _ k => XS.iconst X105.here hx rfl (hb hby at_114) k) ?_
    show own_Go p e below P T105 (mkF m 115 #[.val (.int p0), .val (.int p1), .val (.int p2), .val (.int p3), .val (.int kk), .val (.int oo), .val (.int (3 : Int32)), .val (.int pl), .val (.int r0), .val (.int r1), .val (.int r2), .val (.ref b102), .unset, .unset, .unset] [(.int (3 : Int32)), (.int (3 : Int32))])
    refine own_step (fun _ k => XS.icmpNo X105.here hx rfl (hb hby at_115) rfl (flt (by decide : ¬ ((3 : Int32) < (3 : Int32)))).1 k) ?_
    show own_Go p e below P T105 (mkF m 118 #[.val (.int p0), .val (.int p1), .val (.int p2), .val (.int p3), .val (.int kk), .val (.int oo), .val (.int (3 : Int32)), .val (.int pl), .val (.int r0), .val (.int r1), .val (.int r2), .val (.ref b102), .unset, .unset, .unset] [])
    refine own_step (fun _ k => XS.aload X105.here hx rfl (hb hby at_118) rfl rfl k) ?_
    show own_Go p e below P T105 (mkF m 120 #[.val (.int p0), .val (.int p1), .val (.int p2), .val (.int p3), .val (.int kk), .val (.int oo), .val (.int (3 : Int32)), .val (.int pl), .val (.int r0), .val (.int r1), .val (.int r2), .val (.ref b102), .unset, .unset, .unset] [(.ref b102)])
    refine own_step (fun _ k => XS.iload X105.here hx rfl (hb hby at_120) rfl k) ?_
    show own_Go p e below P T105 (mkF m 122 #[.val (.int p0), .val (.int p1), .val (.int p2), .val (.int p3), .val (.int kk), .val (.int oo), .val (.int (3 : Int32)), .val (.int pl), .val (.int r0), .val (.int r1), .val (.int r2), .val (.ref b102), .unset, .unset, .unset] [(.int oo), (.ref b102)])
    refine own_step (fun _ k => XS.iload X105.here hx rfl (hb hby at_122) rfl k) ?_
    show own_Go p e below P T105 (mkF m 124 #[.val (.int p0), .val (.int p1), .val (.int p2), .val (.int p3), .val (.int kk), .val (.int oo), .val (.int (3 : Int32)), .val (.int pl), .val (.int r0), .val (.int r1), .val (.int r2), .val (.ref b102), .unset, .unset, .unset] [(.int r2), (.int oo), (.ref b102)])
    refine own_step (fun _ k => XS.iadd X105.here hx rfl (hb hby at_124) rfl k) ?_
    show own_Go p e below P T105 (mkF m 125 #[.val (.int p0), .val (.int p1), .val (.int p2), .val (.int p3), .val (.int kk), .val (.int oo), .val (.int (3 : Int32)), .val (.int pl), .val (.int r0), .val (.int r1), .val (.int r2), .val (.ref b102), .unset, .unset, .unset] [(.int (oo + r2)), (.ref b102)])
    refine own_step (fun _ k => XS.i2dS X105.here hx rfl (hb hby at_125) rfl rfl k) ?_
    show own_Go p e below P T105 (mkF m 126 #[.val (.int p0), .val (.int p1), .val (.int p2), .val (.int p3), .val (.int kk), .val (.int oo), .val (.int (3 : Int32)), .val (.int pl), .val (.int r0), .val (.int r1), .val (.int r2), .val (.ref b102), .unset, .unset, .unset] [(.double (FP.i2d (oo + r2))), (.ref b102)])
    obtain ⟨cq106, kq106, q106a, q106b, q106c⟩ := isOf hZ rfl ((E103_o.keep K104).keep K105)
    obtain ⟨_, _, ⟨T106, L106, k106, n106⟩, -, X106, ⟨Lc106, hQ106, l106, y106, z106⟩, st106⟩ := X105.virtualBack hx (y := (⟨"com/example/bron/bron/trec/ScoreHistogram", "add", "(D)V"⟩ : MethodName)) (z := (⟨"com/example/bron/bron/trec/ScoreHistogram", "add", "(D)V"⟩ : MethodName)) hown (mvT hZ (hw _ (List.mem_of_getElem? (i := 32) rfl))) (mvT hZ (hw _ (List.mem_of_getElem? (i := 33) rfl))) (notFace_of_selects (args := #[]) (mvT hZ (hw _ (List.mem_of_getElem? (i := 35) rfl)))) (mvT hZ (hw _ (List.mem_of_getElem? (i := 35) rfl))) (mvT hZ (hw _ (List.mem_of_getElem? (i := 34) rfl))) (by decide) (backOf (W := 0) (rm7 l Z a0 hw [] b102 (FP.i2d (oo + r2)) ar103 kc103 (kk + (1 : Int32)) (own_put (own_put (List.replicate (kk.toNatClampNeg + 1) (0 : Int32)) (own_clamp kk r0)) (own_clamp kk r1)) (FP.i2d oo) (own_clamp kk r2) T105.heap n0 (Nat.le_trans (Nat.le_trans (Nat.le_trans (Nat.le_trans Z0 E102.1) K103.1) K104.1) K105.1) ((E103_o.keep K104).keep K105) ((Fl103.keep K104 (ninS ne103 nin0)).keep K105 (ninS ne103 nin0)) ((Fs103.keep K104 (ninS ne103 nin0)).keep K105 (ninS ne103 nin0)) ((Fc103.keep K104 (ninS ne103 nin0)).keep K105 (ninS ne103 nin0)) V105 ne103 g_ar103 hv2.2.1 hv2.2.2 (by rw [own_b1, hv2.1]) (own_cl hE).1 (own_cl hE).2 ((own_put_len _ _).trans ((own_put_len _ _).trans (own_l0 hE)))) hZ (hw _ (List.mem_of_getElem? (i := 36) rfl)) (hw _ (List.mem_of_getElem? (i := 3) rfl)) (by decide) (by decide)) q106a q106c (g := (mkF m 126 #[.val (.int p0), .val (.int p1), .val (.int p2), .val (.int p3), .val (.int kk), .val (.int oo), .val (.int (3 : Int32)), .val (.int pl), .val (.int r0), .val (.int r1), .val (.int r2), .val (.ref b102), .unset, .unset, .unset] [(.double (FP.i2d (oo + r2))), (.ref b102)])) rfl (by rw [hml]; rfl) (Steps.refl _) (argsL := [(.double (FP.i2d (oo + r2)))]) (rest := []) (lenOf pd__D__V rfl) rfl (by show 2 * 0 + _ ≤ _; exact Nat.le_of_eq rfl) (hb hby at_126) (fun _ _ => ⟨rfl, rfl, (by decide : 2 + 0 ≤ _), (by decide : 8 + 0 ≤ _)⟩)
    dsimp only [Pt.U, Pt.locs, Pt.cells, Pt.slots] at X106 l106 y106 z106 st106 hQ106
    subst l106 y106 z106
    obtain ⟨rfl, N106q, K106, V106⟩ := hQ106
    have N106 := Fr.app N105 N106q
    refine own_step (fun _ k => st106.trans k) ?_
    show own_Go p e below P T106 (mkF m 129 #[.val (.int p0), .val (.int p1), .val (.int p2), .val (.int p3), .val (.int kk), .val (.int oo), .val (.int (3 : Int32)), .val (.int pl), .val (.int r0), .val (.int r1), .val (.int r2), .val (.ref b102), .unset, .unset, .unset] [])
    refine own_step (fun _ k => XS.aload X106.here hx rfl (hb hby at_129) rfl rfl k) ?_
    show own_Go p e below P T106 (mkF m 131 #[.val (.int p0), .val (.int p1), .val (.int p2), .val (.int p3), .val (.int kk), .val (.int oo), .val (.int (3 : Int32)), .val (.int pl), .val (.int r0), .val (.int r1), .val (.int r2), .val (.ref b102), .unset, .unset, .unset] [(.ref b102)])
    refine own_step (fun _ k => XS.iload X106.here hx rfl (hb hby at_131) rfl k) ?_
    show own_Go p e below P T106 (mkF m 133 #[.val (.int p0), .val (.int p1), .val (.int p2), .val (.int p3), .val (.int kk), .val (.int oo), .val (.int (3 : Int32)), .val (.int pl), .val (.int r0), .val (.int r1), .val (.int r2), .val (.ref b102), .unset, .unset, .unset] [(.int pl), (.ref b102)])
    have hbat : own_bat (own_put (own_put (own_put (List.replicate (kk.toNatClampNeg + 1) (0 : Int32)) (own_clamp kk r0)) (own_clamp kk r1)) (own_clamp kk r2)) pl = some (own_srt (own_ref r0 kk) (own_ref r1 kk) (own_ref r2 kk) pl) := by
      obtain ⟨ki, hki⟩ := hK
      obtain ⟨i0, hi0⟩ := hR0
      obtain ⟨i1, hi1⟩ := hR1
      obtain ⟨i2, hi2⟩ := hR2
      subst hpi hki hi0 hi1 hi2
      exact own_t3 ki i0 i1 i2 pi
    obtain ⟨cq107, kq107, q107a, q107b, q107c⟩ := isOf hZ rfl (((E103_o.keep K104).keep K105).keep K106)
    obtain ⟨_, _, ⟨T107, L107, k107, n107⟩, -, X107, ⟨Lc107, hQ107, l107, y107, z107⟩, st107⟩ := X106.virtualBack hx (y := (⟨"com/example/bron/bron/trec/ScoreHistogram", "bucketAt", "(I)I"⟩ : MethodName)) (z := (⟨"com/example/bron/bron/trec/ScoreHistogram", "bucketAt", "(I)I"⟩ : MethodName)) hown (mvT hZ (hw _ (List.mem_of_getElem? (i := 42) rfl))) (mvT hZ (hw _ (List.mem_of_getElem? (i := 43) rfl))) (notFace_of_selects (args := #[]) (mvT hZ (hw _ (List.mem_of_getElem? (i := 45) rfl)))) (mvT hZ (hw _ (List.mem_of_getElem? (i := 45) rfl))) (mvT hZ (hw _ (List.mem_of_getElem? (i := 44) rfl))) (by decide) (backOf (W := 0) (rm9 l Z a0 hw [] b102 pl ar103 kc103 (kk + (1 : Int32)) (own_put (own_put (own_put (List.replicate (kk.toNatClampNeg + 1) (0 : Int32)) (own_clamp kk r0)) (own_clamp kk r1)) (own_clamp kk r2)) (FP.i2d oo) (own_srt (own_ref r0 kk) (own_ref r1 kk) (own_ref r2 kk) pl) T106.heap n0 (Nat.le_trans (Nat.le_trans (Nat.le_trans (Nat.le_trans (Nat.le_trans Z0 E102.1) K103.1) K104.1) K105.1) K106.1) (((E103_o.keep K104).keep K105).keep K106) (((Fl103.keep K104 (ninS ne103 nin0)).keep K105 (ninS ne103 nin0)).keep K106 (ninS ne103 nin0)) (((Fs103.keep K104 (ninS ne103 nin0)).keep K105 (ninS ne103 nin0)).keep K106 (ninS ne103 nin0)) (((Fc103.keep K104 (ninS ne103 nin0)).keep K105 (ninS ne103 nin0)).keep K106 (ninS ne103 nin0)) V106 ne103 ((own_put_len _ _).trans ((own_put_len _ _).trans ((own_put_len _ _).trans (own_l0 hE)))) (by have := (own_bb hE).2.2.1; omega) hbat) hZ (hw _ (List.mem_of_getElem? (i := 46) rfl)) (hw _ (List.mem_of_getElem? (i := 3) rfl)) (by decide) (by decide)) q107a q107c (g := (mkF m 133 #[.val (.int p0), .val (.int p1), .val (.int p2), .val (.int p3), .val (.int kk), .val (.int oo), .val (.int (3 : Int32)), .val (.int pl), .val (.int r0), .val (.int r1), .val (.int r2), .val (.ref b102), .unset, .unset, .unset] [(.int pl), (.ref b102)])) rfl (by rw [hml]; rfl) (Steps.refl _) (argsL := [(.int pl)]) (rest := []) (lenOf pd__I__I rfl) rfl (by show 2 * 0 + _ ≤ _; exact Nat.le_of_eq rfl) (hb hby at_133) (fun _ _ => ⟨rfl, rfl, (by decide : 2 + 0 ≤ _), (by decide : 8 + 0 ≤ _)⟩)
    dsimp only [Pt.U, Pt.locs, Pt.cells, Pt.slots] at X107 l107 y107 z107 st107 hQ107
    subst l107 y107 z107
    obtain ⟨rfl, N107q, e107⟩ := hQ107
    have N107 := Fr.app N106 N107q
    refine own_step (fun _ k => st107.trans k) ?_
    show own_Go p e below P T107 (mkF m 136 #[.val (.int p0), .val (.int p1), .val (.int p2), .val (.int p3), .val (.int kk), .val (.int oo), .val (.int (3 : Int32)), .val (.int pl), .val (.int r0), .val (.int r1), .val (.int r2), .val (.ref b102), .unset, .unset, .unset] [(.int (own_srt (own_ref r0 kk) (own_ref r1 kk) (own_ref r2 kk) pl))])
    refine own_step (fun _ k => XS.istore X107.here hx rfl (hb hby at_136) rfl (l' := #[.val (.int p0), .val (.int p1), .val (.int p2), .val (.int p3), .val (.int kk), .val (.int oo), .val (.int (3 : Int32)), .val (.int pl), .val (.int r0), .val (.int r1), .val (.int r2), .val (.ref b102), .val (.int (own_srt (own_ref r0 kk) (own_ref r1 kk) (own_ref r2 kk) pl)), .unset, .unset]) rfl k) ?_
    show own_Go p e below P T107 (mkF m 138 #[.val (.int p0), .val (.int p1), .val (.int p2), .val (.int p3), .val (.int kk), .val (.int oo), .val (.int (3 : Int32)), .val (.int pl), .val (.int r0), .val (.int r1), .val (.int r2), .val (.ref b102), .val (.int (own_srt (own_ref r0 kk) (own_ref r1 kk) (own_ref r2 kk) pl)), .unset, .unset] [])
    refine own_step (fun _ k => XS.iconst X107.here hx rfl (hb hby at_138) k) ?_
    show own_Go p e below P T107 (mkF m 139 #[.val (.int p0), .val (.int p1), .val (.int p2), .val (.int p3), .val (.int kk), .val (.int oo), .val (.int (3 : Int32)), .val (.int pl), .val (.int r0), .val (.int r1), .val (.int r2), .val (.ref b102), .val (.int (own_srt (own_ref r0 kk) (own_ref r1 kk) (own_ref r2 kk) pl)), .unset, .unset] [(.int (3 : Int32))])
    obtain ⟨T108, h108, k108, X108, e108, E108, A108, st108⟩ := newP X107 hx hZ (hw _ (List.mem_of_getElem? (i := 29) rfl)) e107 (g := (mkF m 139 #[.val (.int p0), .val (.int p1), .val (.int p2), .val (.int p3), .val (.int kk), .val (.int oo), .val (.int (3 : Int32)), .val (.int pl), .val (.int r0), .val (.int r1), .val (.int r2), .val (.ref b102), .val (.int (own_srt (own_ref r0 kk) (own_ref r1 kk) (own_ref r2 kk) pl)), .unset, .unset] [(.int (3 : Int32))])) rfl (hb hby at_139) rfl (by decide) (cap := 3) (by decide) (by decide) (by decide) (by decide)
    obtain ⟨b108, g108⟩ : ∃ z, z = T106.heap.size := ⟨_, rfl⟩
    rw [← g108] at A108 st108
    have g_b108 : n0 ≤ b108 := Nat.le_trans (Nat.le_trans (Nat.le_trans (Nat.le_trans (Nat.le_trans (Nat.le_trans Z0 E102.1) K103.1) K104.1) K105.1) K106.1) (Nat.le_of_eq g108.symm)
    have sz_b108 : h0.size ≤ b108 := Nat.le_trans ((((((Keep.refl h0 []).ext E102).trans K103 (allS (Or.inr sz_b102) all0)).trans K104 (allS (Or.inr sz_ar103) all0)).trans K105 (allS (Or.inr sz_ar103) all0)).trans K106 (allS (Or.inr sz_ar103) all0)).1 (Nat.le_of_eq g108.symm)
    have V_b108 : Arv Z h108 b108 k108 .int (3 : Int32) [(.int (0 : Int32)), (.int (0 : Int32)), (.int (0 : Int32))] (.int (0 : Int32)) := (Arv.new A108 (by decide)).pad (pad_rep [] (.int (0 : Int32)) 3)
    refine own_step st108 ?_
    show own_Go p e below P T108 (mkF m 141 #[.val (.int p0), .val (.int p1), .val (.int p2), .val (.int p3), .val (.int kk), .val (.int oo), .val (.int (3 : Int32)), .val (.int pl), .val (.int r0), .val (.int r1), .val (.int r2), .val (.ref b102), .val (.int (own_srt (own_ref r0 kk) (own_ref r1 kk) (own_ref r2 kk) pl)), .unset, .unset] [(.ref b108)])
    refine own_step (fun _ k => XS.astore X108.here hx rfl (hb hby at_141) rfl rfl (l' := #[.val (.int p0), .val (.int p1), .val (.int p2), .val (.int p3), .val (.int kk), .val (.int oo), .val (.int (3 : Int32)), .val (.int pl), .val (.int r0), .val (.int r1), .val (.int r2), .val (.ref b102), .val (.int (own_srt (own_ref r0 kk) (own_ref r1 kk) (own_ref r2 kk) pl)), .val (.ref b108), .unset]) rfl k) ?_
    show own_Go p e below P T108 (mkF m 143 #[.val (.int p0), .val (.int p1), .val (.int p2), .val (.int p3), .val (.int kk), .val (.int oo), .val (.int (3 : Int32)), .val (.int pl), .val (.int r0), .val (.int r1), .val (.int r2), .val (.ref b102), .val (.int (own_srt (own_ref r0 kk) (own_ref r1 kk) (own_ref r2 kk) pl)), .val (.ref b108), .unset] [])
    refine own_step (fun _ k => XS.aload X108.here hx rfl (hb hby at_143) rfl rfl k) ?_
    show own_Go p e below P T108 (mkF m 145 #[.val (.int p0), .val (.int p1), .val (.int p2), .val (.int p3), .val (.int kk), .val (.int oo), .val (.int (3 : Int32)), .val (.int pl), .val (.int r0), .val (.int r1), .val (.int r2), .val (.ref b102), .val (.int (own_srt (own_ref r0 kk) (own_ref r1 kk) (own_ref r2 kk) pl)), .val (.ref b108), .unset] [(.ref b108)])
    refine own_step (fun _ k => XS.iconst X108.here hx rfl (hb hby at_145) k) ?_
    show own_Go p e below P T108 (mkF m 146 #[.val (.int p0), .val (.int p1), .val (.int p2), .val (.int p3), .val (.int kk), .val (.int oo), .val (.int (3 : Int32)), .val (.int pl), .val (.int r0), .val (.int r1), .val (.int r2), .val (.ref b102), .val (.int (own_srt (own_ref r0 kk) (own_ref r1 kk) (own_ref r2 kk) pl)), .val (.ref b108), .unset] [(.int (0 : Int32)), (.ref b108)])
    refine own_step (fun _ k => XS.iload X108.here hx rfl (hb hby at_146) rfl k) ?_
    show own_Go p e below P T108 (mkF m 148 #[.val (.int p0), .val (.int p1), .val (.int p2), .val (.int p3), .val (.int kk), .val (.int oo), .val (.int (3 : Int32)), .val (.int pl), .val (.int r0), .val (.int r1), .val (.int r2), .val (.ref b102), .val (.int (own_srt (own_ref r0 kk) (own_ref r1 kk) (own_ref r2 kk) pl)), .val (.ref b108), .unset] [(.int r0), (.int (0 : Int32)), (.ref b108)])
    refine own_step (fun _ k => XS.iload X108.here hx rfl (hb hby at_148) rfl k) ?_
    show own_Go p e below P T108 (mkF m 150 #[.val (.int p0), .val (.int p1), .val (.int p2), .val (.int p3), .val (.int kk), .val (.int oo), .val (.int (3 : Int32)), .val (.int pl), .val (.int r0), .val (.int r1), .val (.int r2), .val (.ref b102), .val (.int (own_srt (own_ref r0 kk) (own_ref r1 kk) (own_ref r2 kk) pl)), .val (.ref b108), .unset] [(.int kk), (.int r0), (.int (0 : Int32)), (.ref b108)])
    obtain ⟨_, _, ⟨T109, L109, k109, n109⟩, -, X109, ⟨Lc109, hQ109, l109, y109, z109⟩, st109⟩ := Jvm.LawKit.callS X108 hx (y := (⟨"com/example/bron/bron/trec/ScoreHistogramBucketAtPinLaw", "ref", "(II)I"⟩ : MethodName)) hown (mvT hZ (hw _ (List.mem_of_getElem? (i := 47) rfl))) (mvT hZ (hw _ (List.mem_of_getElem? (i := 48) rfl))) (mvT hZ (hw _ (List.mem_of_getElem? (i := 49) rfl))) (mvT hZ (hw _ (List.mem_of_getElem? (i := 50) rfl))) (by decide) (backOf (W := 2) (rm10 l Z a0 hw [] r0 kk h108 n0 (Nat.le_trans (Nat.le_trans (Nat.le_trans (Nat.le_trans (Nat.le_trans (Nat.le_trans Z0 E102.1) K103.1) K104.1) K105.1) K106.1) E108.1)) hZ (hw _ (List.mem_of_getElem? (i := 50) rfl)) (hw _ (List.mem_of_getElem? (i := 49) rfl)) (by decide) (by decide)) (g := (mkF m 150 #[.val (.int p0), .val (.int p1), .val (.int p2), .val (.int p3), .val (.int kk), .val (.int oo), .val (.int (3 : Int32)), .val (.int pl), .val (.int r0), .val (.int r1), .val (.int r2), .val (.ref b102), .val (.int (own_srt (own_ref r0 kk) (own_ref r1 kk) (own_ref r2 kk) pl)), .val (.ref b108), .unset] [(.int kk), (.int r0), (.int (0 : Int32)), (.ref b108)])) rfl (by rw [hml]; rfl) (argsL := [(.int r0), (.int kk)]) (rest := [(.int (0 : Int32)), (.ref b108)]) (lenOf pd__II__I rfl) rfl (by show 2 * 0 + _ ≤ _; exact Nat.le_of_eq rfl) (hb hby at_150) (fun _ _ => ⟨rfl, e108, (by decide : 3 + 0 ≤ _), (by decide : 11 + 0 ≤ _)⟩)
    dsimp only [Pt.U, Pt.locs, Pt.cells, Pt.slots] at X109 l109 y109 z109 st109 hQ109
    subst l109 y109 z109
    obtain ⟨rfl, N109q, e109⟩ := hQ109
    have N109 := Fr.app N107 N109q
    refine own_step st109 ?_
    show own_Go p e below P T109 (mkF m 153 #[.val (.int p0), .val (.int p1), .val (.int p2), .val (.int p3), .val (.int kk), .val (.int oo), .val (.int (3 : Int32)), .val (.int pl), .val (.int r0), .val (.int r1), .val (.int r2), .val (.ref b102), .val (.int (own_srt (own_ref r0 kk) (own_ref r1 kk) (own_ref r2 kk) pl)), .val (.ref b108), .unset] [(.int (own_ref r0 kk)), (.int (0 : Int32)), (.ref b108)])
    obtain ⟨cl110, Ar110, q110, S110, M110, H110, G110⟩ := (id V_b108)
    have hin110 : ¬ ((0 : Int32) < 0 ∨ cl110.slots.size ≤ ((0 : Int32)).toNatClampNeg) := inb_of S110 ⟨by decide, by decide⟩
    obtain ⟨T110, h110, X110, e110, W110, st110⟩ := stI X109 hx hZ e109 Ar110 (j := (0 : Int32)) hin110 (g := (mkF m 153 #[.val (.int p0), .val (.int p1), .val (.int p2), .val (.int p3), .val (.int kk), .val (.int oo), .val (.int (3 : Int32)), .val (.int pl), .val (.int r0), .val (.int r1), .val (.int r2), .val (.ref b102), .val (.int (own_srt (own_ref r0 kk) (own_ref r1 kk) (own_ref r2 kk) pl)), .val (.ref b108), .unset] [(.int (own_ref r0 kk)), (.int (0 : Int32)), (.ref b108)])) rfl rfl (hb hby at_153)
    have V110 : Arv Z h110 b108 k108 .int (3 : Int32) [(.int (own_ref r0 kk)), (.int (0 : Int32)), (.int (0 : Int32))] (.int (0 : Int32)) := Arv.set Ar110 q110 S110 M110 H110 G110 rfl W110 0 rfl (Nat.le_of_ble_eq_true rfl)
    have N110 := Fr.snoc X110 N109 g_b108
    refine own_step st110 ?_
    show own_Go p e below P T110 (mkF m 154 #[.val (.int p0), .val (.int p1), .val (.int p2), .val (.int p3), .val (.int kk), .val (.int oo), .val (.int (3 : Int32)), .val (.int pl), .val (.int r0), .val (.int r1), .val (.int r2), .val (.ref b102), .val (.int (own_srt (own_ref r0 kk) (own_ref r1 kk) (own_ref r2 kk) pl)), .val (.ref b108), .unset] [])
    refine own_step (fun _ k => XS.aload X110.here hx rfl (hb hby at_154) rfl rfl k) ?_
    show own_Go p e below P T110 (mkF m 156 #[.val (.int p0), .val (.int p1), .val (.int p2), .val (.int p3), .val (.int kk), .val (.int oo), .val (.int (3 : Int32)), .val (.int pl), .val (.int r0), .val (.int r1), .val (.int r2), .val (.ref b102), .val (.int (own_srt (own_ref r0 kk) (own_ref r1 kk) (own_ref r2 kk) pl)), .val (.ref b108), .unset] [(.ref b108)])
    refine own_step (fun _ k => XS.iconst X110.here hx rfl (hb hby at_156) k) ?_
    show own_Go p e below P T110 (mkF m 157 #[.val (.int p0), .val (.int p1), .val (.int p2), .val (.int p3), .val (.int kk), .val (.int oo), .val (.int (3 : Int32)), .val (.int pl), .val (.int r0), .val (.int r1), .val (.int r2), .val (.ref b102), .val (.int (own_srt (own_ref r0 kk) (own_ref r1 kk) (own_ref r2 kk) pl)), .val (.ref b108), .unset] [(.int (1 : Int32)), (.ref b108)])
    refine own_step (fun _ k => XS.iload X110.here hx rfl (hb hby at_157) rfl k) ?_
    show own_Go p e below P T110 (mkF m 159 #[.val (.int p0), .val (.int p1), .val (.int p2), .val (.int p3), .val (.int kk), .val (.int oo), .val (.int (3 : Int32)), .val (.int pl), .val (.int r0), .val (.int r1), .val (.int r2), .val (.ref b102), .val (.int (own_srt (own_ref r0 kk) (own_ref r1 kk) (own_ref r2 kk) pl)), .val (.ref b108), .unset] [(.int (3 : Int32)), (.int (1 : Int32)), (.ref b108)])
    refine own_step (fun _ k => XS.iconst X110.here hx rfl (hb hby at_159) k) ?_
    show own_Go p e below P T110 (mkF m 160 #[.val (.int p0), .val (.int p1), .val (.int p2), .val (.int p3), .val (.int kk), .val (.int oo), .val (.int (3 : Int32)), .val (.int pl), .val (.int r0), .val (.int r1), .val (.int r2), .val (.ref b102), .val (.int (own_srt (own_ref r0 kk) (own_ref r1 kk) (own_ref r2 kk) pl)), .val (.ref b108), .unset] [(.int (2 : Int32)), (.int (3 : Int32)), (.int (1 : Int32)), (.ref b108)])
    refine own_step (fun _ k => XS.icmpNo X110.here hx rfl (hb hby at_160) rfl (flt (by decide : ¬ ((3 : Int32) < (2 : Int32)))).1 k) ?_
    show own_Go p e below P T110 (mkF m 163 #[.val (.int p0), .val (.int p1), .val (.int p2), .val (.int p3), .val (.int kk), .val (.int oo), .val (.int (3 : Int32)), .val (.int pl), .val (.int r0), .val (.int r1), .val (.int r2), .val (.ref b102), .val (.int (own_srt (own_ref r0 kk) (own_ref r1 kk) (own_ref r2 kk) pl)), .val (.ref b108), .unset] [(.int (1 : Int32)), (.ref b108)])
    refine own_step (fun _ k => XS.iload X110.here hx rfl (hb hby at_163) rfl k) ?_
    show own_Go p e below P T110 (mkF m 165 #[.val (.int p0), .val (.int p1), .val (.int p2), .val (.int p3), .val (.int kk), .val (.int oo), .val (.int (3 : Int32)), .val (.int pl), .val (.int r0), .val (.int r1), .val (.int r2), .val (.ref b102), .val (.int (own_srt (own_ref r0 kk) (own_ref r1 kk) (own_ref r2 kk) pl)), .val (.ref b108), .unset] [(.int r1), (.int (1 : Int32)), (.ref b108)])
    refine own_step (fun _ k => XS.iload X110.here hx rfl (hb hby at_165) rfl k) ?_
    show own_Go p e below P T110 (mkF m 167 #[.val (.int p0), .val (.int p1), .val (.int p2), .val (.int p3), .val (.int kk), .val (.int oo), .val (.int (3 : Int32)), .val (.int pl), .val (.int r0), .val (.int r1), .val (.int r2), .val (.ref b102), .val (.int (own_srt (own_ref r0 kk) (own_ref r1 kk) (own_ref r2 kk) pl)), .val (.ref b108), .unset] [(.int kk), (.int r1), (.int (1 : Int32)), (.ref b108)])
    obtain ⟨_, _, ⟨T111, L111, k111, n111⟩, -, X111, ⟨Lc111, hQ111, l111, y111, z111⟩, st111⟩ := Jvm.LawKit.callS X110 hx (y := (⟨"com/example/bron/bron/trec/ScoreHistogramBucketAtPinLaw", "ref", "(II)I"⟩ : MethodName)) hown (mvT hZ (hw _ (List.mem_of_getElem? (i := 47) rfl))) (mvT hZ (hw _ (List.mem_of_getElem? (i := 48) rfl))) (mvT hZ (hw _ (List.mem_of_getElem? (i := 49) rfl))) (mvT hZ (hw _ (List.mem_of_getElem? (i := 50) rfl))) (by decide) (backOf (W := 2) (rm10 l Z a0 hw [] r1 kk h110 n0 (Nat.le_trans (Nat.le_trans (Nat.le_trans (Nat.le_trans (Nat.le_trans (Nat.le_trans (Nat.le_trans Z0 E102.1) K103.1) K104.1) K105.1) K106.1) E108.1) (Keep.of_wr W110).1)) hZ (hw _ (List.mem_of_getElem? (i := 50) rfl)) (hw _ (List.mem_of_getElem? (i := 49) rfl)) (by decide) (by decide)) (g := (mkF m 167 #[.val (.int p0), .val (.int p1), .val (.int p2), .val (.int p3), .val (.int kk), .val (.int oo), .val (.int (3 : Int32)), .val (.int pl), .val (.int r0), .val (.int r1), .val (.int r2), .val (.ref b102), .val (.int (own_srt (own_ref r0 kk) (own_ref r1 kk) (own_ref r2 kk) pl)), .val (.ref b108), .unset] [(.int kk), (.int r1), (.int (1 : Int32)), (.ref b108)])) rfl (by rw [hml]; rfl) (argsL := [(.int r1), (.int kk)]) (rest := [(.int (1 : Int32)), (.ref b108)]) (lenOf pd__II__I rfl) rfl (by show 2 * 0 + _ ≤ _; exact Nat.le_of_eq rfl) (hb hby at_167) (fun _ _ => ⟨rfl, e110, (by decide : 3 + 0 ≤ _), (by decide : 11 + 0 ≤ _)⟩)
    dsimp only [Pt.U, Pt.locs, Pt.cells, Pt.slots] at X111 l111 y111 z111 st111 hQ111
    subst l111 y111 z111
    obtain ⟨rfl, N111q, e111⟩ := hQ111
    have N111 := Fr.app N110 N111q
    refine own_step st111 ?_
    show own_Go p e below P T111 (mkF m 170 #[.val (.int p0), .val (.int p1), .val (.int p2), .val (.int p3), .val (.int kk), .val (.int oo), .val (.int (3 : Int32)), .val (.int pl), .val (.int r0), .val (.int r1), .val (.int r2), .val (.ref b102), .val (.int (own_srt (own_ref r0 kk) (own_ref r1 kk) (own_ref r2 kk) pl)), .val (.ref b108), .unset] [(.int (own_ref r1 kk)), (.int (1 : Int32)), (.ref b108)])
    refine own_step (fun _ k => XS.goto X111.here hx rfl (pc0 := 170) (pc' := 174) rfl (hb hby at_170) (by decide) (by decide) k) ?_
    show own_Go p e below P T111 (mkF m 174 #[.val (.int p0), .val (.int p1), .val (.int p2), .val (.int p3), .val (.int kk), .val (.int oo), .val (.int (3 : Int32)), .val (.int pl), .val (.int r0), .val (.int r1), .val (.int r2), .val (.ref b102), .val (.int (own_srt (own_ref r0 kk) (own_ref r1 kk) (own_ref r2 kk) pl)), .val (.ref b108), .unset] [(.int (own_ref r1 kk)), (.int (1 : Int32)), (.ref b108)])
    obtain ⟨cl112, Ar112, q112, S112, M112, H112, G112⟩ := (id V110)
    have hin112 : ¬ ((1 : Int32) < 0 ∨ cl112.slots.size ≤ ((1 : Int32)).toNatClampNeg) := inb_of S112 ⟨by decide, by decide⟩
    obtain ⟨T112, h112, X112, e112, W112, st112⟩ := stI X111 hx hZ e111 Ar112 (j := (1 : Int32)) hin112 (g := (mkF m 174 #[.val (.int p0), .val (.int p1), .val (.int p2), .val (.int p3), .val (.int kk), .val (.int oo), .val (.int (3 : Int32)), .val (.int pl), .val (.int r0), .val (.int r1), .val (.int r2), .val (.ref b102), .val (.int (own_srt (own_ref r0 kk) (own_ref r1 kk) (own_ref r2 kk) pl)), .val (.ref b108), .unset] [(.int (own_ref r1 kk)), (.int (1 : Int32)), (.ref b108)])) rfl rfl (hb hby at_174)
    have V112 : Arv Z h112 b108 k108 .int (3 : Int32) [(.int (own_ref r0 kk)), (.int (own_ref r1 kk)), (.int (0 : Int32))] (.int (0 : Int32)) := Arv.set Ar112 q112 S112 M112 H112 G112 rfl W112 1 rfl (Nat.le_of_ble_eq_true rfl)
    have N112 := Fr.snoc X112 N111 g_b108
    refine own_step st112 ?_
    show own_Go p e below P T112 (mkF m 175 #[.val (.int p0), .val (.int p1), .val (.int p2), .val (.int p3), .val (.int kk), .val (.int oo), .val (.int (3 : Int32)), .val (.int pl), .val (.int r0), .val (.int r1), .val (.int r2), .val (.ref b102), .val (.int (own_srt (own_ref r0 kk) (own_ref r1 kk) (own_ref r2 kk) pl)), .val (.ref b108), .unset] [])
    refine own_step (fun _ k => XS.aload X112.here hx rfl (hb hby at_175) rfl rfl k) ?_
    show own_Go p e below P T112 (mkF m 177 #[.val (.int p0), .val (.int p1), .val (.int p2), .val (.int p3), .val (.int kk), .val (.int oo), .val (.int (3 : Int32)), .val (.int pl), .val (.int r0), .val (.int r1), .val (.int r2), .val (.ref b102), .val (.int (own_srt (own_ref r0 kk) (own_ref r1 kk) (own_ref r2 kk) pl)), .val (.ref b108), .unset] [(.ref b108)])
    refine own_step (fun _ k => XS.iconst X112.here hx rfl (hb hby at_177) k) ?_
    show own_Go p e below P T112 (mkF m 178 #[.val (.int p0), .val (.int p1), .val (.int p2), .val (.int p3), .val (.int kk), .val (.int oo), .val (.int (3 : Int32)), .val (.int pl), .val (.int r0), .val (.int r1), .val (.int r2), .val (.ref b102), .val (.int (own_srt (own_ref r0 kk) (own_ref r1 kk) (own_ref r2 kk) pl)), .val (.ref b108), .unset] [(.int (2 : Int32)), (.ref b108)])
    refine own_step (fun _ k => XS.iload X112.here hx rfl (hb hby at_178) rfl k) ?_
    show own_Go p e below P T112 (mkF m 180 #[.val (.int p0), .val (.int p1), .val (.int p2), .val (.int p3), .val (.int kk), .val (.int oo), .val (.int (3 : Int32)), .val (.int pl), .val (.int r0), .val (.int r1), .val (.int r2), .val (.ref b102), .val (.int (own_srt (own_ref r0 kk) (own_ref r1 kk) (own_ref r2 kk) pl)), .val (.ref b108), .unset] [(.int (3 : Int32)), (.int (2 : Int32)), (.ref b108)])
    refine own_step (fun _ k => XS.iconst X112.here hx rfl (hb hby at_180) k) ?_
    show own_Go p e below P T112 (mkF m 181 #[.val (.int p0), .val (.int p1), .val (.int p2), .val (.int p3), .val (.int kk), .val (.int oo), .val (.int (3 : Int32)), .val (.int pl), .val (.int r0), .val (.int r1), .val (.int r2), .val (.ref b102), .val (.int (own_srt (own_ref r0 kk) (own_ref r1 kk) (own_ref r2 kk) pl)), .val (.ref b108), .unset] [(.int (3 : Int32)), (.int (3 : Int32)), (.int (2 : Int32)), (.ref b108)])
    refine own_step (fun _ k => XS.icmpNo X112.here hx rfl (hb hby at_181) rfl (flt (by decide : ¬ ((3 : Int32) < (3 : Int32)))).1 k) ?_
    show own_Go p e below P T112 (mkF m 184 #[.val (.int p0), .val (.int p1), .val (.int p2), .val (.int p3), .val (.int kk), .val (.int oo), .val (.int (3 : Int32)), .val (.int pl), .val (.int r0), .val (.int r1), .val (.int r2), .val (.ref b102), .val (.int (own_srt (own_ref r0 kk) (own_ref r1 kk) (own_ref r2 kk) pl)), .val (.ref b108), .unset] [(.int (2 : Int32)), (.ref b108)])
    refine own_step (fun _ k => XS.iload X112.here hx rfl (hb hby at_184) rfl k) ?_
    show own_Go p e below P T112 (mkF m 186 #[.val (.int p0), .val (.int p1), .val (.int p2), .val (.int p3), .val (.int kk), .val (.int oo), .val (.int (3 : Int32)), .val (.int pl), .val (.int r0), .val (.int r1), .val (.int r2), .val (.ref b102), .val (.int (own_srt (own_ref r0 kk) (own_ref r1 kk) (own_ref r2 kk) pl)), .val (.ref b108), .unset] [(.int r2), (.int (2 : Int32)), (.ref b108)])
    refine own_step (fun _ k => XS.iload X112.here hx rfl (hb hby at_186) rfl k) ?_
    show own_Go p e below P T112 (mkF m 188 #[.val (.int p0), .val (.int p1), .val (.int p2), .val (.int p3), .val (.int kk), .val (.int oo), .val (.int (3 : Int32)), .val (.int pl), .val (.int r0), .val (.int r1), .val (.int r2), .val (.ref b102), .val (.int (own_srt (own_ref r0 kk) (own_ref r1 kk) (own_ref r2 kk) pl)), .val (.ref b108), .unset] [(.int kk), (.int r2), (.int (2 : Int32)), (.ref b108)])
    obtain ⟨_, _, ⟨T113, L113, k113, n113⟩, -, X113, ⟨Lc113, hQ113, l113, y113, z113⟩, st113⟩ := Jvm.LawKit.callS X112 hx (y := (⟨"com/example/bron/bron/trec/ScoreHistogramBucketAtPinLaw", "ref", "(II)I"⟩ : MethodName)) hown (mvT hZ (hw _ (List.mem_of_getElem? (i := 47) rfl))) (mvT hZ (hw _ (List.mem_of_getElem? (i := 48) rfl))) (mvT hZ (hw _ (List.mem_of_getElem? (i := 49) rfl))) (mvT hZ (hw _ (List.mem_of_getElem? (i := 50) rfl))) (by decide) (backOf (W := 2) (rm10 l Z a0 hw [] r2 kk h112 n0 (Nat.le_trans (Nat.le_trans (Nat.le_trans (Nat.le_trans (Nat.le_trans (Nat.le_trans (Nat.le_trans (Nat.le_trans Z0 E102.1) K103.1) K104.1) K105.1) K106.1) E108.1) (Keep.of_wr W110).1) (Keep.of_wr W112).1)) hZ (hw _ (List.mem_of_getElem? (i := 50) rfl)) (hw _ (List.mem_of_getElem? (i := 49) rfl)) (by decide) (by decide)) (g := (mkF m 188 #[.val (.int p0), .val (.int p1), .val (.int p2), .val (.int p3), .val (.int kk), .val (.int oo), .val (.int (3 : Int32)), .val (.int pl), .val (.int r0), .val (.int r1), .val (.int r2), .val (.ref b102), .val (.int (own_srt (own_ref r0 kk) (own_ref r1 kk) (own_ref r2 kk) pl)), .val (.ref b108), .unset] [(.int kk), (.int r2), (.int (2 : Int32)), (.ref b108)])) rfl (by rw [hml]; rfl) (argsL := [(.int r2), (.int kk)]) (rest := [(.int (2 : Int32)), (.ref b108)]) (lenOf pd__II__I rfl) rfl (by show 2 * 0 + _ ≤ _; exact Nat.le_of_eq rfl) (hb hby at_188) (fun _ _ => ⟨rfl, e112, (by decide : 3 + 0 ≤ _), (by decide : 11 + 0 ≤ _)⟩)
    dsimp only [Pt.U, Pt.locs, Pt.cells, Pt.slots] at X113 l113 y113 z113 st113 hQ113
    subst l113 y113 z113
    obtain ⟨rfl, N113q, e113⟩ := hQ113
    have N113 := Fr.app N112 N113q
    refine own_step st113 ?_
    show own_Go p e below P T113 (mkF m 191 #[.val (.int p0), .val (.int p1), .val (.int p2), .val (.int p3), .val (.int kk), .val (.int oo), .val (.int (3 : Int32)), .val (.int pl), .val (.int r0), .val (.int r1), .val (.int r2), .val (.ref b102), .val (.int (own_srt (own_ref r0 kk) (own_ref r1 kk) (own_ref r2 kk) pl)), .val (.ref b108), .unset] [(.int (own_ref r2 kk)), (.int (2 : Int32)), (.ref b108)])
    refine own_step (fun _ k => XS.goto X113.here hx rfl (pc0 := 191) (pc' := 195) rfl (hb hby at_191) (by decide) (by decide) k) ?_
    show own_Go p e below P T113 (mkF m 195 #[.val (.int p0), .val (.int p1), .val (.int p2), .val (.int p3), .val (.int kk), .val (.int oo), .val (.int (3 : Int32)), .val (.int pl), .val (.int r0), .val (.int r1), .val (.int r2), .val (.ref b102), .val (.int (own_srt (own_ref r0 kk) (own_ref r1 kk) (own_ref r2 kk) pl)), .val (.ref b108), .unset] [(.int (own_ref r2 kk)), (.int (2 : Int32)), (.ref b108)])
    obtain ⟨cl114, Ar114, q114, S114, M114, H114, G114⟩ := (id V112)
    have hin114 : ¬ ((2 : Int32) < 0 ∨ cl114.slots.size ≤ ((2 : Int32)).toNatClampNeg) := inb_of S114 ⟨by decide, by decide⟩
    obtain ⟨T114, h114, X114, e114, W114, st114⟩ := stI X113 hx hZ e113 Ar114 (j := (2 : Int32)) hin114 (g := (mkF m 195 #[.val (.int p0), .val (.int p1), .val (.int p2), .val (.int p3), .val (.int kk), .val (.int oo), .val (.int (3 : Int32)), .val (.int pl), .val (.int r0), .val (.int r1), .val (.int r2), .val (.ref b102), .val (.int (own_srt (own_ref r0 kk) (own_ref r1 kk) (own_ref r2 kk) pl)), .val (.ref b108), .unset] [(.int (own_ref r2 kk)), (.int (2 : Int32)), (.ref b108)])) rfl rfl (hb hby at_195)
    have V114 : Arv Z h114 b108 k108 .int (3 : Int32) [(.int (own_ref r0 kk)), (.int (own_ref r1 kk)), (.int (own_ref r2 kk))] (.int (0 : Int32)) := Arv.set Ar114 q114 S114 M114 H114 G114 rfl W114 2 rfl (Nat.le_of_ble_eq_true rfl)
    have N114 := Fr.snoc X114 N113 g_b108
    refine own_step st114 ?_
    show own_Go p e below P T114 (mkF m 196 #[.val (.int p0), .val (.int p1), .val (.int p2), .val (.int p3), .val (.int kk), .val (.int oo), .val (.int (3 : Int32)), .val (.int pl), .val (.int r0), .val (.int r1), .val (.int r2), .val (.ref b102), .val (.int (own_srt (own_ref r0 kk) (own_ref r1 kk) (own_ref r2 kk) pl)), .val (.ref b108), .unset] [])
    refine own_step (fun _ k => XS.aload X114.here hx rfl (hb hby at_196) rfl rfl k) ?_
    show own_Go p e below P T114 (mkF m 198 #[.val (.int p0), .val (.int p1), .val (.int p2), .val (.int p3), .val (.int kk), .val (.int oo), .val (.int (3 : Int32)), .val (.int pl), .val (.int r0), .val (.int r1), .val (.int r2), .val (.ref b102), .val (.int (own_srt (own_ref r0 kk) (own_ref r1 kk) (own_ref r2 kk) pl)), .val (.ref b108), .unset] [(.ref b108)])
    refine own_step (fun _ k => XS.iconst X114.here hx rfl (hb hby at_198) k) ?_
    show own_Go p e below P T114 (mkF m 199 #[.val (.int p0), .val (.int p1), .val (.int p2), .val (.int p3), .val (.int kk), .val (.int oo), .val (.int (3 : Int32)), .val (.int pl), .val (.int r0), .val (.int r1), .val (.int r2), .val (.ref b102), .val (.int (own_srt (own_ref r0 kk) (own_ref r1 kk) (own_ref r2 kk) pl)), .val (.ref b108), .unset] [(.int (0 : Int32)), (.ref b108)])
    obtain ⟨cl115, Ar115, -, S115, M115, H115, -⟩ := (id V114)
    have hin115 : ¬ ((0 : Int32) < 0 ∨ cl115.slots.size ≤ ((0 : Int32)).toNatClampNeg) := inb_of S115 ⟨by decide, by decide⟩
    refine own_step (fun t k => X114.iaload hx (j := (0 : Int32)) (v := (.int (own_ref r0 kk))) (by rw [e114]; exact Ar115.1) (State.isArrayOf_alike hZ.alike Ar115.2.1) Ar115.2.2 hin115 (Has.at H115 hin115 rfl) (g := (mkF m 199 #[.val (.int p0), .val (.int p1), .val (.int p2), .val (.int p3), .val (.int kk), .val (.int oo), .val (.int (3 : Int32)), .val (.int pl), .val (.int r0), .val (.int r1), .val (.int r2), .val (.ref b102), .val (.int (own_srt (own_ref r0 kk) (own_ref r1 kk) (own_ref r2 kk) pl)), .val (.ref b108), .unset] [(.int (0 : Int32)), (.ref b108)])) rfl rfl (hb hby at_199) t k) ?_
    show own_Go p e below P T114 (mkF m 200 #[.val (.int p0), .val (.int p1), .val (.int p2), .val (.int p3), .val (.int kk), .val (.int oo), .val (.int (3 : Int32)), .val (.int pl), .val (.int r0), .val (.int r1), .val (.int r2), .val (.ref b102), .val (.int (own_srt (own_ref r0 kk) (own_ref r1 kk) (own_ref r2 kk) pl)), .val (.ref b108), .unset] [(.int (own_ref r0 kk))])
    refine own_step (fun _ k => XS.aload X114.here hx rfl (hb hby at_200) rfl rfl k) ?_
    show own_Go p e below P T114 (mkF m 202 #[.val (.int p0), .val (.int p1), .val (.int p2), .val (.int p3), .val (.int kk), .val (.int oo), .val (.int (3 : Int32)), .val (.int pl), .val (.int r0), .val (.int r1), .val (.int r2), .val (.ref b102), .val (.int (own_srt (own_ref r0 kk) (own_ref r1 kk) (own_ref r2 kk) pl)), .val (.ref b108), .unset] [(.ref b108), (.int (own_ref r0 kk))])
    refine own_step (fun _ k => XS.iconst X114.here hx rfl (hb hby at_202) k) ?_
    show own_Go p e below P T114 (mkF m 203 #[.val (.int p0), .val (.int p1), .val (.int p2), .val (.int p3), .val (.int kk), .val (.int oo), .val (.int (3 : Int32)), .val (.int pl), .val (.int r0), .val (.int r1), .val (.int r2), .val (.ref b102), .val (.int (own_srt (own_ref r0 kk) (own_ref r1 kk) (own_ref r2 kk) pl)), .val (.ref b108), .unset] [(.int (1 : Int32)), (.ref b108), (.int (own_ref r0 kk))])
    obtain ⟨cl116, Ar116, -, S116, M116, H116, -⟩ := (id V114)
    have hin116 : ¬ ((1 : Int32) < 0 ∨ cl116.slots.size ≤ ((1 : Int32)).toNatClampNeg) := inb_of S116 ⟨by decide, by decide⟩
    refine own_step (fun t k => X114.iaload hx (j := (1 : Int32)) (v := (.int (own_ref r1 kk))) (by rw [e114]; exact Ar116.1) (State.isArrayOf_alike hZ.alike Ar116.2.1) Ar116.2.2 hin116 (Has.at H116 hin116 rfl) (g := (mkF m 203 #[.val (.int p0), .val (.int p1), .val (.int p2), .val (.int p3), .val (.int kk), .val (.int oo), .val (.int (3 : Int32)), .val (.int pl), .val (.int r0), .val (.int r1), .val (.int r2), .val (.ref b102), .val (.int (own_srt (own_ref r0 kk) (own_ref r1 kk) (own_ref r2 kk) pl)), .val (.ref b108), .unset] [(.int (1 : Int32)), (.ref b108), (.int (own_ref r0 kk))])) rfl rfl (hb hby at_203) t k) ?_
    show own_Go p e below P T114 (mkF m 204 #[.val (.int p0), .val (.int p1), .val (.int p2), .val (.int p3), .val (.int kk), .val (.int oo), .val (.int (3 : Int32)), .val (.int pl), .val (.int r0), .val (.int r1), .val (.int r2), .val (.ref b102), .val (.int (own_srt (own_ref r0 kk) (own_ref r1 kk) (own_ref r2 kk) pl)), .val (.ref b108), .unset] [(.int (own_ref r1 kk)), (.int (own_ref r0 kk))])
    by_cases hc117 : (own_ref r0 kk) < (own_ref r1 kk)
    · refine own_step (fun _ k => XS.icmpNo X114.here hx rfl (hb hby at_204) rfl (tlt hc117).2.1 k) ?_
      show own_Go p e below P T114 (mkF m 207 #[.val (.int p0), .val (.int p1), .val (.int p2), .val (.int p3), .val (.int kk), .val (.int oo), .val (.int (3 : Int32)), .val (.int pl), .val (.int r0), .val (.int r1), .val (.int r2), .val (.ref b102), .val (.int (own_srt (own_ref r0 kk) (own_ref r1 kk) (own_ref r2 kk) pl)), .val (.ref b108), .unset] [])
      refine own_step (fun _ k => XS.aload X114.here hx rfl (hb hby at_207) rfl rfl k) ?_
      show own_Go p e below P T114 (mkF m 209 #[.val (.int p0), .val (.int p1), .val (.int p2), .val (.int p3), .val (.int kk), .val (.int oo), .val (.int (3 : Int32)), .val (.int pl), .val (.int r0), .val (.int r1), .val (.int r2), .val (.ref b102), .val (.int (own_srt (own_ref r0 kk) (own_ref r1 kk) (own_ref r2 kk) pl)), .val (.ref b108), .unset] [(.ref b108)])
      refine own_step (fun _ k => XS.iconst X114.here hx rfl (hb hby at_209) k) ?_
      show own_Go p e below P T114 (mkF m 210 #[.val (.int p0), .val (.int p1), .val (.int p2), .val (.int p3), .val (.int kk), .val (.int oo), .val (.int (3 : Int32)), .val (.int pl), .val (.int r0), .val (.int r1), .val (.int r2), .val (.ref b102), .val (.int (own_srt (own_ref r0 kk) (own_ref r1 kk) (own_ref r2 kk) pl)), .val (.ref b108), .unset] [(.int (0 : Int32)), (.ref b108)])
      obtain ⟨cl118, Ar118, -, S118, M118, H118, -⟩ := (id V114)
      have hin118 : ¬ ((0 : Int32) < 0 ∨ cl118.slots.size ≤ ((0 : Int32)).toNatClampNeg) := inb_of S118 ⟨by decide, by decide⟩
      refine own_step (fun t k => X114.iaload hx (j := (0 : Int32)) (v := (.int (own_ref r0 kk))) (by rw [e114]; exact Ar118.1) (State.isArrayOf_alike hZ.alike Ar118.2.1) Ar118.2.2 hin118 (Has.at H118 hin118 rfl) (g := (mkF m 210 #[.val (.int p0), .val (.int p1), .val (.int p2), .val (.int p3), .val (.int kk), .val (.int oo), .val (.int (3 : Int32)), .val (.int pl), .val (.int r0), .val (.int r1), .val (.int r2), .val (.ref b102), .val (.int (own_srt (own_ref r0 kk) (own_ref r1 kk) (own_ref r2 kk) pl)), .val (.ref b108), .unset] [(.int (0 : Int32)), (.ref b108)])) rfl rfl (hb hby at_210) t k) ?_
      show own_Go p e below P T114 (mkF m 211 #[.val (.int p0), .val (.int p1), .val (.int p2), .val (.int p3), .val (.int kk), .val (.int oo), .val (.int (3 : Int32)), .val (.int pl), .val (.int r0), .val (.int r1), .val (.int r2), .val (.ref b102), .val (.int (own_srt (own_ref r0 kk) (own_ref r1 kk) (own_ref r2 kk) pl)), .val (.ref b108), .unset] [(.int (own_ref r0 kk))])
      refine own_step (fun _ k => XS.istore X114.here hx rfl (hb hby at_211) rfl (l' := #[.val (.int p0), .val (.int p1), .val (.int p2), .val (.int p3), .val (.int kk), .val (.int oo), .val (.int (3 : Int32)), .val (.int pl), .val (.int r0), .val (.int r1), .val (.int r2), .val (.ref b102), .val (.int (own_srt (own_ref r0 kk) (own_ref r1 kk) (own_ref r2 kk) pl)), .val (.ref b108), .val (.int (own_ref r0 kk))]) rfl k) ?_
      show own_Go p e below P T114 (mkF m 213 #[.val (.int p0), .val (.int p1), .val (.int p2), .val (.int p3), .val (.int kk), .val (.int oo), .val (.int (3 : Int32)), .val (.int pl), .val (.int r0), .val (.int r1), .val (.int r2), .val (.ref b102), .val (.int (own_srt (own_ref r0 kk) (own_ref r1 kk) (own_ref r2 kk) pl)), .val (.ref b108), .val (.int (own_ref r0 kk))] [])
      refine own_step (fun _ k => XS.aload X114.here hx rfl (hb hby at_213) rfl rfl k) ?_
      show own_Go p e below P T114 (mkF m 215 #[.val (.int p0), .val (.int p1), .val (.int p2), .val (.int p3), .val (.int kk), .val (.int oo), .val (.int (3 : Int32)), .val (.int pl), .val (.int r0), .val (.int r1), .val (.int r2), .val (.ref b102), .val (.int (own_srt (own_ref r0 kk) (own_ref r1 kk) (own_ref r2 kk) pl)), .val (.ref b108), .val (.int (own_ref r0 kk))] [(.ref b108)])
      refine own_step (fun _ k => XS.iconst X114.here hx rfl (hb hby at_215) k) ?_
      show own_Go p e below P T114 (mkF m 216 #[.val (.int p0), .val (.int p1), .val (.int p2), .val (.int p3), .val (.int kk), .val (.int oo), .val (.int (3 : Int32)), .val (.int pl), .val (.int r0), .val (.int r1), .val (.int r2), .val (.ref b102), .val (.int (own_srt (own_ref r0 kk) (own_ref r1 kk) (own_ref r2 kk) pl)), .val (.ref b108), .val (.int (own_ref r0 kk))] [(.int (0 : Int32)), (.ref b108)])
      refine own_step (fun _ k => XS.aload X114.here hx rfl (hb hby at_216) rfl rfl k) ?_
      show own_Go p e below P T114 (mkF m 218 #[.val (.int p0), .val (.int p1), .val (.int p2), .val (.int p3), .val (.int kk), .val (.int oo), .val (.int (3 : Int32)), .val (.int pl), .val (.int r0), .val (.int r1), .val (.int r2), .val (.ref b102), .val (.int (own_srt (own_ref r0 kk) (own_ref r1 kk) (own_ref r2 kk) pl)), .val (.ref b108), .val (.int (own_ref r0 kk))] [(.ref b108), (.int (0 : Int32)), (.ref b108)])
      refine own_step (fun _ k => XS.iconst X114.here hx rfl (hb hby at_218) k) ?_
      show own_Go p e below P T114 (mkF m 219 #[.val (.int p0), .val (.int p1), .val (.int p2), .val (.int p3), .val (.int kk), .val (.int oo), .val (.int (3 : Int32)), .val (.int pl), .val (.int r0), .val (.int r1), .val (.int r2), .val (.ref b102), .val (.int (own_srt (own_ref r0 kk) (own_ref r1 kk) (own_ref r2 kk) pl)), .val (.ref b108), .val (.int (own_ref r0 kk))] [(.int (1 : Int32)), (.ref b108), (.int (0 : Int32)), (.ref b108)])
      obtain ⟨cl119, Ar119, -, S119, M119, H119, -⟩ := (id V114)
      have hin119 : ¬ ((1 : Int32) < 0 ∨ cl119.slots.size ≤ ((1 : Int32)).toNatClampNeg) := inb_of S119 ⟨by decide, by decide⟩
      refine own_step (fun t k => X114.iaload hx (j := (1 : Int32)) (v := (.int (own_ref r1 kk))) (by rw [e114]; exact Ar119.1) (State.isArrayOf_alike hZ.alike Ar119.2.1) Ar119.2.2 hin119 (Has.at H119 hin119 rfl) (g := (mkF m 219 #[.val (.int p0), .val (.int p1), .val (.int p2), .val (.int p3), .val (.int kk), .val (.int oo), .val (.int (3 : Int32)), .val (.int pl), .val (.int r0), .val (.int r1), .val (.int r2), .val (.ref b102), .val (.int (own_srt (own_ref r0 kk) (own_ref r1 kk) (own_ref r2 kk) pl)), .val (.ref b108), .val (.int (own_ref r0 kk))] [(.int (1 : Int32)), (.ref b108), (.int (0 : Int32)), (.ref b108)])) rfl rfl (hb hby at_219) t k) ?_
      show own_Go p e below P T114 (mkF m 220 #[.val (.int p0), .val (.int p1), .val (.int p2), .val (.int p3), .val (.int kk), .val (.int oo), .val (.int (3 : Int32)), .val (.int pl), .val (.int r0), .val (.int r1), .val (.int r2), .val (.ref b102), .val (.int (own_srt (own_ref r0 kk) (own_ref r1 kk) (own_ref r2 kk) pl)), .val (.ref b108), .val (.int (own_ref r0 kk))] [(.int (own_ref r1 kk)), (.int (0 : Int32)), (.ref b108)])
      obtain ⟨cl120, Ar120, q120, S120, M120, H120, G120⟩ := (id V114)
      have hin120 : ¬ ((0 : Int32) < 0 ∨ cl120.slots.size ≤ ((0 : Int32)).toNatClampNeg) := inb_of S120 ⟨by decide, by decide⟩
      obtain ⟨T120, h120, X120, e120, W120, st120⟩ := stI X114 hx hZ e114 Ar120 (j := (0 : Int32)) hin120 (g := (mkF m 220 #[.val (.int p0), .val (.int p1), .val (.int p2), .val (.int p3), .val (.int kk), .val (.int oo), .val (.int (3 : Int32)), .val (.int pl), .val (.int r0), .val (.int r1), .val (.int r2), .val (.ref b102), .val (.int (own_srt (own_ref r0 kk) (own_ref r1 kk) (own_ref r2 kk) pl)), .val (.ref b108), .val (.int (own_ref r0 kk))] [(.int (own_ref r1 kk)), (.int (0 : Int32)), (.ref b108)])) rfl rfl (hb hby at_220)
      have V120 : Arv Z h120 b108 k108 .int (3 : Int32) [(.int (own_ref r1 kk)), (.int (own_ref r1 kk)), (.int (own_ref r2 kk))] (.int (0 : Int32)) := Arv.set Ar120 q120 S120 M120 H120 G120 rfl W120 0 rfl (Nat.le_of_ble_eq_true rfl)
      have N120 := Fr.snoc X120 N114 g_b108
      refine own_step st120 ?_
      show own_Go p e below P T120 (mkF m 221 #[.val (.int p0), .val (.int p1), .val (.int p2), .val (.int p3), .val (.int kk), .val (.int oo), .val (.int (3 : Int32)), .val (.int pl), .val (.int r0), .val (.int r1), .val (.int r2), .val (.ref b102), .val (.int (own_srt (own_ref r0 kk) (own_ref r1 kk) (own_ref r2 kk) pl)), .val (.ref b108), .val (.int (own_ref r0 kk))] [])
      refine own_step (fun _ k => XS.aload X120.here hx rfl (hb hby at_221) rfl rfl k) ?_
      show own_Go p e below P T120 (mkF m 223 #[.val (.int p0), .val (.int p1), .val (.int p2), .val (.int p3), .val (.int kk), .val (.int oo), .val (.int (3 : Int32)), .val (.int pl), .val (.int r0), .val (.int r1), .val (.int r2), .val (.ref b102), .val (.int (own_srt (own_ref r0 kk) (own_ref r1 kk) (own_ref r2 kk) pl)), .val (.ref b108), .val (.int (own_ref r0 kk))] [(.ref b108)])
      refine own_step (fun _ k => XS.iconst X120.here hx rfl (hb hby at_223) k) ?_
      show own_Go p e below P T120 (mkF m 224 #[.val (.int p0), .val (.int p1), .val (.int p2), .val (.int p3), .val (.int kk), .val (.int oo), .val (.int (3 : Int32)), .val (.int pl), .val (.int r0), .val (.int r1), .val (.int r2), .val (.ref b102), .val (.int (own_srt (own_ref r0 kk) (own_ref r1 kk) (own_ref r2 kk) pl)), .val (.ref b108), .val (.int (own_ref r0 kk))] [(.int (1 : Int32)), (.ref b108)])
      refine own_step (fun _ k => XS.iload X120.here hx rfl (hb hby at_224) rfl k) ?_
      show own_Go p e below P T120 (mkF m 226 #[.val (.int p0), .val (.int p1), .val (.int p2), .val (.int p3), .val (.int kk), .val (.int oo), .val (.int (3 : Int32)), .val (.int pl), .val (.int r0), .val (.int r1), .val (.int r2), .val (.ref b102), .val (.int (own_srt (own_ref r0 kk) (own_ref r1 kk) (own_ref r2 kk) pl)), .val (.ref b108), .val (.int (own_ref r0 kk))] [(.int (own_ref r0 kk)), (.int (1 : Int32)), (.ref b108)])
      obtain ⟨cl121, Ar121, q121, S121, M121, H121, G121⟩ := (id V120)
      have hin121 : ¬ ((1 : Int32) < 0 ∨ cl121.slots.size ≤ ((1 : Int32)).toNatClampNeg) := inb_of S121 ⟨by decide, by decide⟩
      obtain ⟨T121, h121, X121, e121, W121, st121⟩ := stI X120 hx hZ e120 Ar121 (j := (1 : Int32)) hin121 (g := (mkF m 226 #[.val (.int p0), .val (.int p1), .val (.int p2), .val (.int p3), .val (.int kk), .val (.int oo), .val (.int (3 : Int32)), .val (.int pl), .val (.int r0), .val (.int r1), .val (.int r2), .val (.ref b102), .val (.int (own_srt (own_ref r0 kk) (own_ref r1 kk) (own_ref r2 kk) pl)), .val (.ref b108), .val (.int (own_ref r0 kk))] [(.int (own_ref r0 kk)), (.int (1 : Int32)), (.ref b108)])) rfl rfl (hb hby at_226)
      have V121 : Arv Z h121 b108 k108 .int (3 : Int32) [(.int (own_ref r1 kk)), (.int (own_ref r0 kk)), (.int (own_ref r2 kk))] (.int (0 : Int32)) := Arv.set Ar121 q121 S121 M121 H121 G121 rfl W121 1 rfl (Nat.le_of_ble_eq_true rfl)
      have N121 := Fr.snoc X121 N120 g_b108
      refine own_step st121 ?_
      show own_Go p e below P T121 (mkF m 227 #[.val (.int p0), .val (.int p1), .val (.int p2), .val (.int p3), .val (.int kk), .val (.int oo), .val (.int (3 : Int32)), .val (.int pl), .val (.int r0), .val (.int r1), .val (.int r2), .val (.ref b102), .val (.int (own_srt (own_ref r0 kk) (own_ref r1 kk) (own_ref r2 kk) pl)), .val (.ref b108), .val (.int (own_ref r0 kk))] [])
      refine own_step (fun _ k => XS.aload X121.here hx rfl (hb hby at_227) rfl rfl k) ?_
      show own_Go p e below P T121 (mkF m 229 #[.val (.int p0), .val (.int p1), .val (.int p2), .val (.int p3), .val (.int kk), .val (.int oo), .val (.int (3 : Int32)), .val (.int pl), .val (.int r0), .val (.int r1), .val (.int r2), .val (.ref b102), .val (.int (own_srt (own_ref r0 kk) (own_ref r1 kk) (own_ref r2 kk) pl)), .val (.ref b108), .val (.int (own_ref r0 kk))] [(.ref b108)])
      refine own_step (fun _ k => XS.iconst X121.here hx rfl (hb hby at_229) k) ?_
      show own_Go p e below P T121 (mkF m 230 #[.val (.int p0), .val (.int p1), .val (.int p2), .val (.int p3), .val (.int kk), .val (.int oo), .val (.int (3 : Int32)), .val (.int pl), .val (.int r0), .val (.int r1), .val (.int r2), .val (.ref b102), .val (.int (own_srt (own_ref r0 kk) (own_ref r1 kk) (own_ref r2 kk) pl)), .val (.ref b108), .val (.int (own_ref r0 kk))] [(.int (1 : Int32)), (.ref b108)])
      obtain ⟨cl122, Ar122, -, S122, M122, H122, -⟩ := (id V121)
      have hin122 : ¬ ((1 : Int32) < 0 ∨ cl122.slots.size ≤ ((1 : Int32)).toNatClampNeg) := inb_of S122 ⟨by decide, by decide⟩
      refine own_step (fun t k => X121.iaload hx (j := (1 : Int32)) (v := (.int (own_ref r0 kk))) (by rw [e121]; exact Ar122.1) (State.isArrayOf_alike hZ.alike Ar122.2.1) Ar122.2.2 hin122 (Has.at H122 hin122 rfl) (g := (mkF m 230 #[.val (.int p0), .val (.int p1), .val (.int p2), .val (.int p3), .val (.int kk), .val (.int oo), .val (.int (3 : Int32)), .val (.int pl), .val (.int r0), .val (.int r1), .val (.int r2), .val (.ref b102), .val (.int (own_srt (own_ref r0 kk) (own_ref r1 kk) (own_ref r2 kk) pl)), .val (.ref b108), .val (.int (own_ref r0 kk))] [(.int (1 : Int32)), (.ref b108)])) rfl rfl (hb hby at_230) t k) ?_
      show own_Go p e below P T121 (mkF m 231 #[.val (.int p0), .val (.int p1), .val (.int p2), .val (.int p3), .val (.int kk), .val (.int oo), .val (.int (3 : Int32)), .val (.int pl), .val (.int r0), .val (.int r1), .val (.int r2), .val (.ref b102), .val (.int (own_srt (own_ref r0 kk) (own_ref r1 kk) (own_ref r2 kk) pl)), .val (.ref b108), .val (.int (own_ref r0 kk))] [(.int (own_ref r0 kk))])
      refine own_step (fun _ k => XS.aload X121.here hx rfl (hb hby at_231) rfl rfl k) ?_
      show own_Go p e below P T121 (mkF m 233 #[.val (.int p0), .val (.int p1), .val (.int p2), .val (.int p3), .val (.int kk), .val (.int oo), .val (.int (3 : Int32)), .val (.int pl), .val (.int r0), .val (.int r1), .val (.int r2), .val (.ref b102), .val (.int (own_srt (own_ref r0 kk) (own_ref r1 kk) (own_ref r2 kk) pl)), .val (.ref b108), .val (.int (own_ref r0 kk))] [(.ref b108), (.int (own_ref r0 kk))])
      refine own_step (fun _ k => XS.iconst X121.here hx rfl (hb hby at_233) k) ?_
      show own_Go p e below P T121 (mkF m 234 #[.val (.int p0), .val (.int p1), .val (.int p2), .val (.int p3), .val (.int kk), .val (.int oo), .val (.int (3 : Int32)), .val (.int pl), .val (.int r0), .val (.int r1), .val (.int r2), .val (.ref b102), .val (.int (own_srt (own_ref r0 kk) (own_ref r1 kk) (own_ref r2 kk) pl)), .val (.ref b108), .val (.int (own_ref r0 kk))] [(.int (2 : Int32)), (.ref b108), (.int (own_ref r0 kk))])
      obtain ⟨cl123, Ar123, -, S123, M123, H123, -⟩ := (id V121)
      have hin123 : ¬ ((2 : Int32) < 0 ∨ cl123.slots.size ≤ ((2 : Int32)).toNatClampNeg) := inb_of S123 ⟨by decide, by decide⟩
      refine own_step (fun t k => X121.iaload hx (j := (2 : Int32)) (v := (.int (own_ref r2 kk))) (by rw [e121]; exact Ar123.1) (State.isArrayOf_alike hZ.alike Ar123.2.1) Ar123.2.2 hin123 (Has.at H123 hin123 rfl) (g := (mkF m 234 #[.val (.int p0), .val (.int p1), .val (.int p2), .val (.int p3), .val (.int kk), .val (.int oo), .val (.int (3 : Int32)), .val (.int pl), .val (.int r0), .val (.int r1), .val (.int r2), .val (.ref b102), .val (.int (own_srt (own_ref r0 kk) (own_ref r1 kk) (own_ref r2 kk) pl)), .val (.ref b108), .val (.int (own_ref r0 kk))] [(.int (2 : Int32)), (.ref b108), (.int (own_ref r0 kk))])) rfl rfl (hb hby at_234) t k) ?_
      show own_Go p e below P T121 (mkF m 235 #[.val (.int p0), .val (.int p1), .val (.int p2), .val (.int p3), .val (.int kk), .val (.int oo), .val (.int (3 : Int32)), .val (.int pl), .val (.int r0), .val (.int r1), .val (.int r2), .val (.ref b102), .val (.int (own_srt (own_ref r0 kk) (own_ref r1 kk) (own_ref r2 kk) pl)), .val (.ref b108), .val (.int (own_ref r0 kk))] [(.int (own_ref r2 kk)), (.int (own_ref r0 kk))])
      by_cases hc124 : (own_ref r0 kk) < (own_ref r2 kk)
      · refine own_step (fun _ k => XS.icmpNo X121.here hx rfl (hb hby at_235) rfl (tlt hc124).2.1 k) ?_
        show own_Go p e below P T121 (mkF m 238 #[.val (.int p0), .val (.int p1), .val (.int p2), .val (.int p3), .val (.int kk), .val (.int oo), .val (.int (3 : Int32)), .val (.int pl), .val (.int r0), .val (.int r1), .val (.int r2), .val (.ref b102), .val (.int (own_srt (own_ref r0 kk) (own_ref r1 kk) (own_ref r2 kk) pl)), .val (.ref b108), .val (.int (own_ref r0 kk))] [])
        refine own_step (fun _ k => XS.aload X121.here hx rfl (hb hby at_238) rfl rfl k) ?_
        show own_Go p e below P T121 (mkF m 240 #[.val (.int p0), .val (.int p1), .val (.int p2), .val (.int p3), .val (.int kk), .val (.int oo), .val (.int (3 : Int32)), .val (.int pl), .val (.int r0), .val (.int r1), .val (.int r2), .val (.ref b102), .val (.int (own_srt (own_ref r0 kk) (own_ref r1 kk) (own_ref r2 kk) pl)), .val (.ref b108), .val (.int (own_ref r0 kk))] [(.ref b108)])
        refine own_step (fun _ k => XS.iconst X121.here hx rfl (hb hby at_240) k) ?_
        show own_Go p e below P T121 (mkF m 241 #[.val (.int p0), .val (.int p1), .val (.int p2), .val (.int p3), .val (.int kk), .val (.int oo), .val (.int (3 : Int32)), .val (.int pl), .val (.int r0), .val (.int r1), .val (.int r2), .val (.ref b102), .val (.int (own_srt (own_ref r0 kk) (own_ref r1 kk) (own_ref r2 kk) pl)), .val (.ref b108), .val (.int (own_ref r0 kk))] [(.int (1 : Int32)), (.ref b108)])
        obtain ⟨cl125, Ar125, -, S125, M125, H125, -⟩ := (id V121)
        have hin125 : ¬ ((1 : Int32) < 0 ∨ cl125.slots.size ≤ ((1 : Int32)).toNatClampNeg) := inb_of S125 ⟨by decide, by decide⟩
        refine own_step (fun t k => X121.iaload hx (j := (1 : Int32)) (v := (.int (own_ref r0 kk))) (by rw [e121]; exact Ar125.1) (State.isArrayOf_alike hZ.alike Ar125.2.1) Ar125.2.2 hin125 (Has.at H125 hin125 rfl) (g := (mkF m 241 #[.val (.int p0), .val (.int p1), .val (.int p2), .val (.int p3), .val (.int kk), .val (.int oo), .val (.int (3 : Int32)), .val (.int pl), .val (.int r0), .val (.int r1), .val (.int r2), .val (.ref b102), .val (.int (own_srt (own_ref r0 kk) (own_ref r1 kk) (own_ref r2 kk) pl)), .val (.ref b108), .val (.int (own_ref r0 kk))] [(.int (1 : Int32)), (.ref b108)])) rfl rfl (hb hby at_241) t k) ?_
        show own_Go p e below P T121 (mkF m 242 #[.val (.int p0), .val (.int p1), .val (.int p2), .val (.int p3), .val (.int kk), .val (.int oo), .val (.int (3 : Int32)), .val (.int pl), .val (.int r0), .val (.int r1), .val (.int r2), .val (.ref b102), .val (.int (own_srt (own_ref r0 kk) (own_ref r1 kk) (own_ref r2 kk) pl)), .val (.ref b108), .val (.int (own_ref r0 kk))] [(.int (own_ref r0 kk))])
        refine own_step (fun _ k => XS.istore X121.here hx rfl (hb hby at_242) rfl (l' := #[.val (.int p0), .val (.int p1), .val (.int p2), .val (.int p3), .val (.int kk), .val (.int oo), .val (.int (3 : Int32)), .val (.int pl), .val (.int r0), .val (.int r1), .val (.int r2), .val (.ref b102), .val (.int (own_srt (own_ref r0 kk) (own_ref r1 kk) (own_ref r2 kk) pl)), .val (.ref b108), .val (.int (own_ref r0 kk))]) rfl k) ?_
        show own_Go p e below P T121 (mkF m 244 #[.val (.int p0), .val (.int p1), .val (.int p2), .val (.int p3), .val (.int kk), .val (.int oo), .val (.int (3 : Int32)), .val (.int pl), .val (.int r0), .val (.int r1), .val (.int r2), .val (.ref b102), .val (.int (own_srt (own_ref r0 kk) (own_ref r1 kk) (own_ref r2 kk) pl)), .val (.ref b108), .val (.int (own_ref r0 kk))] [])
        refine own_step (fun _ k => XS.aload X121.here hx rfl (hb hby at_244) rfl rfl k) ?_
        show own_Go p e below P T121 (mkF m 246 #[.val (.int p0), .val (.int p1), .val (.int p2), .val (.int p3), .val (.int kk), .val (.int oo), .val (.int (3 : Int32)), .val (.int pl), .val (.int r0), .val (.int r1), .val (.int r2), .val (.ref b102), .val (.int (own_srt (own_ref r0 kk) (own_ref r1 kk) (own_ref r2 kk) pl)), .val (.ref b108), .val (.int (own_ref r0 kk))] [(.ref b108)])
        refine own_step (fun _ k => XS.iconst X121.here hx rfl (hb hby at_246) k) ?_
        show own_Go p e below P T121 (mkF m 247 #[.val (.int p0), .val (.int p1), .val (.int p2), .val (.int p3), .val (.int kk), .val (.int oo), .val (.int (3 : Int32)), .val (.int pl), .val (.int r0), .val (.int r1), .val (.int r2), .val (.ref b102), .val (.int (own_srt (own_ref r0 kk) (own_ref r1 kk) (own_ref r2 kk) pl)), .val (.ref b108), .val (.int (own_ref r0 kk))] [(.int (1 : Int32)), (.ref b108)])
        refine own_step (fun _ k => XS.aload X121.here hx rfl (hb hby at_247) rfl rfl k) ?_
        show own_Go p e below P T121 (mkF m 249 #[.val (.int p0), .val (.int p1), .val (.int p2), .val (.int p3), .val (.int kk), .val (.int oo), .val (.int (3 : Int32)), .val (.int pl), .val (.int r0), .val (.int r1), .val (.int r2), .val (.ref b102), .val (.int (own_srt (own_ref r0 kk) (own_ref r1 kk) (own_ref r2 kk) pl)), .val (.ref b108), .val (.int (own_ref r0 kk))] [(.ref b108), (.int (1 : Int32)), (.ref b108)])
        refine own_step (fun _ k => XS.iconst X121.here hx rfl (hb hby at_249) k) ?_
        show own_Go p e below P T121 (mkF m 250 #[.val (.int p0), .val (.int p1), .val (.int p2), .val (.int p3), .val (.int kk), .val (.int oo), .val (.int (3 : Int32)), .val (.int pl), .val (.int r0), .val (.int r1), .val (.int r2), .val (.ref b102), .val (.int (own_srt (own_ref r0 kk) (own_ref r1 kk) (own_ref r2 kk) pl)), .val (.ref b108), .val (.int (own_ref r0 kk))] [(.int (2 : Int32)), (.ref b108), (.int (1 : Int32)), (.ref b108)])
        obtain ⟨cl126, Ar126, -, S126, M126, H126, -⟩ := (id V121)
        have hin126 : ¬ ((2 : Int32) < 0 ∨ cl126.slots.size ≤ ((2 : Int32)).toNatClampNeg) := inb_of S126 ⟨by decide, by decide⟩
        refine own_step (fun t k => X121.iaload hx (j := (2 : Int32)) (v := (.int (own_ref r2 kk))) (by rw [e121]; exact Ar126.1) (State.isArrayOf_alike hZ.alike Ar126.2.1) Ar126.2.2 hin126 (Has.at H126 hin126 rfl) (g := (mkF m 250 #[.val (.int p0), .val (.int p1), .val (.int p2), .val (.int p3), .val (.int kk), .val (.int oo), .val (.int (3 : Int32)), .val (.int pl), .val (.int r0), .val (.int r1), .val (.int r2), .val (.ref b102), .val (.int (own_srt (own_ref r0 kk) (own_ref r1 kk) (own_ref r2 kk) pl)), .val (.ref b108), .val (.int (own_ref r0 kk))] [(.int (2 : Int32)), (.ref b108), (.int (1 : Int32)), (.ref b108)])) rfl rfl (hb hby at_250) t k) ?_
        show own_Go p e below P T121 (mkF m 251 #[.val (.int p0), .val (.int p1), .val (.int p2), .val (.int p3), .val (.int kk), .val (.int oo), .val (.int (3 : Int32)), .val (.int pl), .val (.int r0), .val (.int r1), .val (.int r2), .val (.ref b102), .val (.int (own_srt (own_ref r0 kk) (own_ref r1 kk) (own_ref r2 kk) pl)), .val (.ref b108), .val (.int (own_ref r0 kk))] [(.int (own_ref r2 kk)), (.int (1 : Int32)), (.ref b108)])
        obtain ⟨cl127, Ar127, q127, S127, M127, H127, G127⟩ := (id V121)
        have hin127 : ¬ ((1 : Int32) < 0 ∨ cl127.slots.size ≤ ((1 : Int32)).toNatClampNeg) := inb_of S127 ⟨by decide, by decide⟩
        obtain ⟨T127, h127, X127, e127, W127, st127⟩ := stI X121 hx hZ e121 Ar127 (j := (1 : Int32)) hin127 (g := (mkF m 251 #[.val (.int p0), .val (.int p1), .val (.int p2), .val (.int p3), .val (.int kk), .val (.int oo), .val (.int (3 : Int32)), .val (.int pl), .val (.int r0), .val (.int r1), .val (.int r2), .val (.ref b102), .val (.int (own_srt (own_ref r0 kk) (own_ref r1 kk) (own_ref r2 kk) pl)), .val (.ref b108), .val (.int (own_ref r0 kk))] [(.int (own_ref r2 kk)), (.int (1 : Int32)), (.ref b108)])) rfl rfl (hb hby at_251)
        have V127 : Arv Z h127 b108 k108 .int (3 : Int32) [(.int (own_ref r1 kk)), (.int (own_ref r2 kk)), (.int (own_ref r2 kk))] (.int (0 : Int32)) := Arv.set Ar127 q127 S127 M127 H127 G127 rfl W127 1 rfl (Nat.le_of_ble_eq_true rfl)
        have N127 := Fr.snoc X127 N121 g_b108
        refine own_step st127 ?_
        show own_Go p e below P T127 (mkF m 252 #[.val (.int p0), .val (.int p1), .val (.int p2), .val (.int p3), .val (.int kk), .val (.int oo), .val (.int (3 : Int32)), .val (.int pl), .val (.int r0), .val (.int r1), .val (.int r2), .val (.ref b102), .val (.int (own_srt (own_ref r0 kk) (own_ref r1 kk) (own_ref r2 kk) pl)), .val (.ref b108), .val (.int (own_ref r0 kk))] [])
        refine own_step (fun _ k => XS.aload X127.here hx rfl (hb hby at_252) rfl rfl k) ?_
        show own_Go p e below P T127 (mkF m 254 #[.val (.int p0), .val (.int p1), .val (.int p2), .val (.int p3), .val (.int kk), .val (.int oo), .val (.int (3 : Int32)), .val (.int pl), .val (.int r0), .val (.int r1), .val (.int r2), .val (.ref b102), .val (.int (own_srt (own_ref r0 kk) (own_ref r1 kk) (own_ref r2 kk) pl)), .val (.ref b108), .val (.int (own_ref r0 kk))] [(.ref b108)])
        refine own_step (fun _ k => XS.iconst X127.here hx rfl (hb hby at_254) k) ?_
        show own_Go p e below P T127 (mkF m 255 #[.val (.int p0), .val (.int p1), .val (.int p2), .val (.int p3), .val (.int kk), .val (.int oo), .val (.int (3 : Int32)), .val (.int pl), .val (.int r0), .val (.int r1), .val (.int r2), .val (.ref b102), .val (.int (own_srt (own_ref r0 kk) (own_ref r1 kk) (own_ref r2 kk) pl)), .val (.ref b108), .val (.int (own_ref r0 kk))] [(.int (2 : Int32)), (.ref b108)])
        refine own_step (fun _ k => XS.iload X127.here hx rfl (hb hby at_255) rfl k) ?_
        show own_Go p e below P T127 (mkF m 257 #[.val (.int p0), .val (.int p1), .val (.int p2), .val (.int p3), .val (.int kk), .val (.int oo), .val (.int (3 : Int32)), .val (.int pl), .val (.int r0), .val (.int r1), .val (.int r2), .val (.ref b102), .val (.int (own_srt (own_ref r0 kk) (own_ref r1 kk) (own_ref r2 kk) pl)), .val (.ref b108), .val (.int (own_ref r0 kk))] [(.int (own_ref r0 kk)), (.int (2 : Int32)), (.ref b108)])
        obtain ⟨cl128, Ar128, q128, S128, M128, H128, G128⟩ := (id V127)
        have hin128 : ¬ ((2 : Int32) < 0 ∨ cl128.slots.size ≤ ((2 : Int32)).toNatClampNeg) := inb_of S128 ⟨by decide, by decide⟩
        obtain ⟨T128, h128, X128, e128, W128, st128⟩ := stI X127 hx hZ e127 Ar128 (j := (2 : Int32)) hin128 (g := (mkF m 257 #[.val (.int p0), .val (.int p1), .val (.int p2), .val (.int p3), .val (.int kk), .val (.int oo), .val (.int (3 : Int32)), .val (.int pl), .val (.int r0), .val (.int r1), .val (.int r2), .val (.ref b102), .val (.int (own_srt (own_ref r0 kk) (own_ref r1 kk) (own_ref r2 kk) pl)), .val (.ref b108), .val (.int (own_ref r0 kk))] [(.int (own_ref r0 kk)), (.int (2 : Int32)), (.ref b108)])) rfl rfl (hb hby at_257)
        have V128 : Arv Z h128 b108 k108 .int (3 : Int32) [(.int (own_ref r1 kk)), (.int (own_ref r2 kk)), (.int (own_ref r0 kk))] (.int (0 : Int32)) := Arv.set Ar128 q128 S128 M128 H128 G128 rfl W128 2 rfl (Nat.le_of_ble_eq_true rfl)
        have N128 := Fr.snoc X128 N127 g_b108
        refine own_step st128 ?_
        show own_Go p e below P T128 (mkF m 258 #[.val (.int p0), .val (.int p1), .val (.int p2), .val (.int p3), .val (.int kk), .val (.int oo), .val (.int (3 : Int32)), .val (.int pl), .val (.int r0), .val (.int r1), .val (.int r2), .val (.ref b102), .val (.int (own_srt (own_ref r0 kk) (own_ref r1 kk) (own_ref r2 kk) pl)), .val (.ref b108), .val (.int (own_ref r0 kk))] [])
        refine own_step (fun _ k => XS.aload X128.here hx rfl (hb hby at_258) rfl rfl k) ?_
        show own_Go p e below P T128 (mkF m 260 #[.val (.int p0), .val (.int p1), .val (.int p2), .val (.int p3), .val (.int kk), .val (.int oo), .val (.int (3 : Int32)), .val (.int pl), .val (.int r0), .val (.int r1), .val (.int r2), .val (.ref b102), .val (.int (own_srt (own_ref r0 kk) (own_ref r1 kk) (own_ref r2 kk) pl)), .val (.ref b108), .val (.int (own_ref r0 kk))] [(.ref b108)])
        refine own_step (fun _ k => XS.iconst X128.here hx rfl (hb hby at_260) k) ?_
        show own_Go p e below P T128 (mkF m 261 #[.val (.int p0), .val (.int p1), .val (.int p2), .val (.int p3), .val (.int kk), .val (.int oo), .val (.int (3 : Int32)), .val (.int pl), .val (.int r0), .val (.int r1), .val (.int r2), .val (.ref b102), .val (.int (own_srt (own_ref r0 kk) (own_ref r1 kk) (own_ref r2 kk) pl)), .val (.ref b108), .val (.int (own_ref r0 kk))] [(.int (0 : Int32)), (.ref b108)])
        obtain ⟨cl129, Ar129, -, S129, M129, H129, -⟩ := (id V128)
        have hin129 : ¬ ((0 : Int32) < 0 ∨ cl129.slots.size ≤ ((0 : Int32)).toNatClampNeg) := inb_of S129 ⟨by decide, by decide⟩
        refine own_step (fun t k => X128.iaload hx (j := (0 : Int32)) (v := (.int (own_ref r1 kk))) (by rw [e128]; exact Ar129.1) (State.isArrayOf_alike hZ.alike Ar129.2.1) Ar129.2.2 hin129 (Has.at H129 hin129 rfl) (g := (mkF m 261 #[.val (.int p0), .val (.int p1), .val (.int p2), .val (.int p3), .val (.int kk), .val (.int oo), .val (.int (3 : Int32)), .val (.int pl), .val (.int r0), .val (.int r1), .val (.int r2), .val (.ref b102), .val (.int (own_srt (own_ref r0 kk) (own_ref r1 kk) (own_ref r2 kk) pl)), .val (.ref b108), .val (.int (own_ref r0 kk))] [(.int (0 : Int32)), (.ref b108)])) rfl rfl (hb hby at_261) t k) ?_
        show own_Go p e below P T128 (mkF m 262 #[.val (.int p0), .val (.int p1), .val (.int p2), .val (.int p3), .val (.int kk), .val (.int oo), .val (.int (3 : Int32)), .val (.int pl), .val (.int r0), .val (.int r1), .val (.int r2), .val (.ref b102), .val (.int (own_srt (own_ref r0 kk) (own_ref r1 kk) (own_ref r2 kk) pl)), .val (.ref b108), .val (.int (own_ref r0 kk))] [(.int (own_ref r1 kk))])
        refine own_step (fun _ k => XS.aload X128.here hx rfl (hb hby at_262) rfl rfl k) ?_
        show own_Go p e below P T128 (mkF m 264 #[.val (.int p0), .val (.int p1), .val (.int p2), .val (.int p3), .val (.int kk), .val (.int oo), .val (.int (3 : Int32)), .val (.int pl), .val (.int r0), .val (.int r1), .val (.int r2), .val (.ref b102), .val (.int (own_srt (own_ref r0 kk) (own_ref r1 kk) (own_ref r2 kk) pl)), .val (.ref b108), .val (.int (own_ref r0 kk))] [(.ref b108), (.int (own_ref r1 kk))])
        refine own_step (fun _ k => XS.iconst X128.here hx rfl (hb hby at_264) k) ?_
        show own_Go p e below P T128 (mkF m 265 #[.val (.int p0), .val (.int p1), .val (.int p2), .val (.int p3), .val (.int kk), .val (.int oo), .val (.int (3 : Int32)), .val (.int pl), .val (.int r0), .val (.int r1), .val (.int r2), .val (.ref b102), .val (.int (own_srt (own_ref r0 kk) (own_ref r1 kk) (own_ref r2 kk) pl)), .val (.ref b108), .val (.int (own_ref r0 kk))] [(.int (1 : Int32)), (.ref b108), (.int (own_ref r1 kk))])
        obtain ⟨cl130, Ar130, -, S130, M130, H130, -⟩ := (id V128)
        have hin130 : ¬ ((1 : Int32) < 0 ∨ cl130.slots.size ≤ ((1 : Int32)).toNatClampNeg) := inb_of S130 ⟨by decide, by decide⟩
        refine own_step (fun t k => X128.iaload hx (j := (1 : Int32)) (v := (.int (own_ref r2 kk))) (by rw [e128]; exact Ar130.1) (State.isArrayOf_alike hZ.alike Ar130.2.1) Ar130.2.2 hin130 (Has.at H130 hin130 rfl) (g := (mkF m 265 #[.val (.int p0), .val (.int p1), .val (.int p2), .val (.int p3), .val (.int kk), .val (.int oo), .val (.int (3 : Int32)), .val (.int pl), .val (.int r0), .val (.int r1), .val (.int r2), .val (.ref b102), .val (.int (own_srt (own_ref r0 kk) (own_ref r1 kk) (own_ref r2 kk) pl)), .val (.ref b108), .val (.int (own_ref r0 kk))] [(.int (1 : Int32)), (.ref b108), (.int (own_ref r1 kk))])) rfl rfl (hb hby at_265) t k) ?_
        show own_Go p e below P T128 (mkF m 266 #[.val (.int p0), .val (.int p1), .val (.int p2), .val (.int p3), .val (.int kk), .val (.int oo), .val (.int (3 : Int32)), .val (.int pl), .val (.int r0), .val (.int r1), .val (.int r2), .val (.ref b102), .val (.int (own_srt (own_ref r0 kk) (own_ref r1 kk) (own_ref r2 kk) pl)), .val (.ref b108), .val (.int (own_ref r0 kk))] [(.int (own_ref r2 kk)), (.int (own_ref r1 kk))])
        by_cases hc131 : (own_ref r1 kk) < (own_ref r2 kk)
        · refine own_step (fun _ k => XS.icmpNo X128.here hx rfl (hb hby at_266) rfl (tlt hc131).2.1 k) ?_
          show own_Go p e below P T128 (mkF m 269 #[.val (.int p0), .val (.int p1), .val (.int p2), .val (.int p3), .val (.int kk), .val (.int oo), .val (.int (3 : Int32)), .val (.int pl), .val (.int r0), .val (.int r1), .val (.int r2), .val (.ref b102), .val (.int (own_srt (own_ref r0 kk) (own_ref r1 kk) (own_ref r2 kk) pl)), .val (.ref b108), .val (.int (own_ref r0 kk))] [])
          refine own_step (fun _ k => XS.aload X128.here hx rfl (hb hby at_269) rfl rfl k) ?_
          show own_Go p e below P T128 (mkF m 271 #[.val (.int p0), .val (.int p1), .val (.int p2), .val (.int p3), .val (.int kk), .val (.int oo), .val (.int (3 : Int32)), .val (.int pl), .val (.int r0), .val (.int r1), .val (.int r2), .val (.ref b102), .val (.int (own_srt (own_ref r0 kk) (own_ref r1 kk) (own_ref r2 kk) pl)), .val (.ref b108), .val (.int (own_ref r0 kk))] [(.ref b108)])
          refine own_step (fun _ k => XS.iconst X128.here hx rfl (hb hby at_271) k) ?_
          show own_Go p e below P T128 (mkF m 272 #[.val (.int p0), .val (.int p1), .val (.int p2), .val (.int p3), .val (.int kk), .val (.int oo), .val (.int (3 : Int32)), .val (.int pl), .val (.int r0), .val (.int r1), .val (.int r2), .val (.ref b102), .val (.int (own_srt (own_ref r0 kk) (own_ref r1 kk) (own_ref r2 kk) pl)), .val (.ref b108), .val (.int (own_ref r0 kk))] [(.int (0 : Int32)), (.ref b108)])
          obtain ⟨cl132, Ar132, -, S132, M132, H132, -⟩ := (id V128)
          have hin132 : ¬ ((0 : Int32) < 0 ∨ cl132.slots.size ≤ ((0 : Int32)).toNatClampNeg) := inb_of S132 ⟨by decide, by decide⟩
          refine own_step (fun t k => X128.iaload hx (j := (0 : Int32)) (v := (.int (own_ref r1 kk))) (by rw [e128]; exact Ar132.1) (State.isArrayOf_alike hZ.alike Ar132.2.1) Ar132.2.2 hin132 (Has.at H132 hin132 rfl) (g := (mkF m 272 #[.val (.int p0), .val (.int p1), .val (.int p2), .val (.int p3), .val (.int kk), .val (.int oo), .val (.int (3 : Int32)), .val (.int pl), .val (.int r0), .val (.int r1), .val (.int r2), .val (.ref b102), .val (.int (own_srt (own_ref r0 kk) (own_ref r1 kk) (own_ref r2 kk) pl)), .val (.ref b108), .val (.int (own_ref r0 kk))] [(.int (0 : Int32)), (.ref b108)])) rfl rfl (hb hby at_272) t k) ?_
          show own_Go p e below P T128 (mkF m 273 #[.val (.int p0), .val (.int p1), .val (.int p2), .val (.int p3), .val (.int kk), .val (.int oo), .val (.int (3 : Int32)), .val (.int pl), .val (.int r0), .val (.int r1), .val (.int r2), .val (.ref b102), .val (.int (own_srt (own_ref r0 kk) (own_ref r1 kk) (own_ref r2 kk) pl)), .val (.ref b108), .val (.int (own_ref r0 kk))] [(.int (own_ref r1 kk))])
          refine own_step (fun _ k => XS.istore X128.here hx rfl (hb hby at_273) rfl (l' := #[.val (.int p0), .val (.int p1), .val (.int p2), .val (.int p3), .val (.int kk), .val (.int oo), .val (.int (3 : Int32)), .val (.int pl), .val (.int r0), .val (.int r1), .val (.int r2), .val (.ref b102), .val (.int (own_srt (own_ref r0 kk) (own_ref r1 kk) (own_ref r2 kk) pl)), .val (.ref b108), .val (.int (own_ref r1 kk))]) rfl k) ?_
          show own_Go p e below P T128 (mkF m 275 #[.val (.int p0), .val (.int p1), .val (.int p2), .val (.int p3), .val (.int kk), .val (.int oo), .val (.int (3 : Int32)), .val (.int pl), .val (.int r0), .val (.int r1), .val (.int r2), .val (.ref b102), .val (.int (own_srt (own_ref r0 kk) (own_ref r1 kk) (own_ref r2 kk) pl)), .val (.ref b108), .val (.int (own_ref r1 kk))] [])
          refine own_step (fun _ k => XS.aload X128.here hx rfl (hb hby at_275) rfl rfl k) ?_
          show own_Go p e below P T128 (mkF m 277 #[.val (.int p0), .val (.int p1), .val (.int p2), .val (.int p3), .val (.int kk), .val (.int oo), .val (.int (3 : Int32)), .val (.int pl), .val (.int r0), .val (.int r1), .val (.int r2), .val (.ref b102), .val (.int (own_srt (own_ref r0 kk) (own_ref r1 kk) (own_ref r2 kk) pl)), .val (.ref b108), .val (.int (own_ref r1 kk))] [(.ref b108)])
          refine own_step (fun _ k => XS.iconst X128.here hx rfl (hb hby at_277) k) ?_
          show own_Go p e below P T128 (mkF m 278 #[.val (.int p0), .val (.int p1), .val (.int p2), .val (.int p3), .val (.int kk), .val (.int oo), .val (.int (3 : Int32)), .val (.int pl), .val (.int r0), .val (.int r1), .val (.int r2), .val (.ref b102), .val (.int (own_srt (own_ref r0 kk) (own_ref r1 kk) (own_ref r2 kk) pl)), .val (.ref b108), .val (.int (own_ref r1 kk))] [(.int (0 : Int32)), (.ref b108)])
          refine own_step (fun _ k => XS.aload X128.here hx rfl (hb hby at_278) rfl rfl k) ?_
          show own_Go p e below P T128 (mkF m 280 #[.val (.int p0), .val (.int p1), .val (.int p2), .val (.int p3), .val (.int kk), .val (.int oo), .val (.int (3 : Int32)), .val (.int pl), .val (.int r0), .val (.int r1), .val (.int r2), .val (.ref b102), .val (.int (own_srt (own_ref r0 kk) (own_ref r1 kk) (own_ref r2 kk) pl)), .val (.ref b108), .val (.int (own_ref r1 kk))] [(.ref b108), (.int (0 : Int32)), (.ref b108)])
          refine own_step (fun _ k => XS.iconst X128.here hx rfl (hb hby at_280) k) ?_
          show own_Go p e below P T128 (mkF m 281 #[.val (.int p0), .val (.int p1), .val (.int p2), .val (.int p3), .val (.int kk), .val (.int oo), .val (.int (3 : Int32)), .val (.int pl), .val (.int r0), .val (.int r1), .val (.int r2), .val (.ref b102), .val (.int (own_srt (own_ref r0 kk) (own_ref r1 kk) (own_ref r2 kk) pl)), .val (.ref b108), .val (.int (own_ref r1 kk))] [(.int (1 : Int32)), (.ref b108), (.int (0 : Int32)), (.ref b108)])
          obtain ⟨cl133, Ar133, -, S133, M133, H133, -⟩ := (id V128)
          have hin133 : ¬ ((1 : Int32) < 0 ∨ cl133.slots.size ≤ ((1 : Int32)).toNatClampNeg) := inb_of S133 ⟨by decide, by decide⟩
          refine own_step (fun t k => X128.iaload hx (j := (1 : Int32)) (v := (.int (own_ref r2 kk))) (by rw [e128]; exact Ar133.1) (State.isArrayOf_alike hZ.alike Ar133.2.1) Ar133.2.2 hin133 (Has.at H133 hin133 rfl) (g := (mkF m 281 #[.val (.int p0), .val (.int p1), .val (.int p2), .val (.int p3), .val (.int kk), .val (.int oo), .val (.int (3 : Int32)), .val (.int pl), .val (.int r0), .val (.int r1), .val (.int r2), .val (.ref b102), .val (.int (own_srt (own_ref r0 kk) (own_ref r1 kk) (own_ref r2 kk) pl)), .val (.ref b108), .val (.int (own_ref r1 kk))] [(.int (1 : Int32)), (.ref b108), (.int (0 : Int32)), (.ref b108)])) rfl rfl (hb hby at_281) t k) ?_
          show own_Go p e below P T128 (mkF m 282 #[.val (.int p0), .val (.int p1), .val (.int p2), .val (.int p3), .val (.int kk), .val (.int oo), .val (.int (3 : Int32)), .val (.int pl), .val (.int r0), .val (.int r1), .val (.int r2), .val (.ref b102), .val (.int (own_srt (own_ref r0 kk) (own_ref r1 kk) (own_ref r2 kk) pl)), .val (.ref b108), .val (.int (own_ref r1 kk))] [(.int (own_ref r2 kk)), (.int (0 : Int32)), (.ref b108)])
          obtain ⟨cl134, Ar134, q134, S134, M134, H134, G134⟩ := (id V128)
          have hin134 : ¬ ((0 : Int32) < 0 ∨ cl134.slots.size ≤ ((0 : Int32)).toNatClampNeg) := inb_of S134 ⟨by decide, by decide⟩
          obtain ⟨T134, h134, X134, e134, W134, st134⟩ := stI X128 hx hZ e128 Ar134 (j := (0 : Int32)) hin134 (g := (mkF m 282 #[.val (.int p0), .val (.int p1), .val (.int p2), .val (.int p3), .val (.int kk), .val (.int oo), .val (.int (3 : Int32)), .val (.int pl), .val (.int r0), .val (.int r1), .val (.int r2), .val (.ref b102), .val (.int (own_srt (own_ref r0 kk) (own_ref r1 kk) (own_ref r2 kk) pl)), .val (.ref b108), .val (.int (own_ref r1 kk))] [(.int (own_ref r2 kk)), (.int (0 : Int32)), (.ref b108)])) rfl rfl (hb hby at_282)
          have V134 : Arv Z h134 b108 k108 .int (3 : Int32) [(.int (own_ref r2 kk)), (.int (own_ref r2 kk)), (.int (own_ref r0 kk))] (.int (0 : Int32)) := Arv.set Ar134 q134 S134 M134 H134 G134 rfl W134 0 rfl (Nat.le_of_ble_eq_true rfl)
          have N134 := Fr.snoc X134 N128 g_b108
          refine own_step st134 ?_
          show own_Go p e below P T134 (mkF m 283 #[.val (.int p0), .val (.int p1), .val (.int p2), .val (.int p3), .val (.int kk), .val (.int oo), .val (.int (3 : Int32)), .val (.int pl), .val (.int r0), .val (.int r1), .val (.int r2), .val (.ref b102), .val (.int (own_srt (own_ref r0 kk) (own_ref r1 kk) (own_ref r2 kk) pl)), .val (.ref b108), .val (.int (own_ref r1 kk))] [])
          refine own_step (fun _ k => XS.aload X134.here hx rfl (hb hby at_283) rfl rfl k) ?_
          show own_Go p e below P T134 (mkF m 285 #[.val (.int p0), .val (.int p1), .val (.int p2), .val (.int p3), .val (.int kk), .val (.int oo), .val (.int (3 : Int32)), .val (.int pl), .val (.int r0), .val (.int r1), .val (.int r2), .val (.ref b102), .val (.int (own_srt (own_ref r0 kk) (own_ref r1 kk) (own_ref r2 kk) pl)), .val (.ref b108), .val (.int (own_ref r1 kk))] [(.ref b108)])
          refine own_step (fun _ k => XS.iconst X134.here hx rfl (hb hby at_285) k) ?_
          show own_Go p e below P T134 (mkF m 286 #[.val (.int p0), .val (.int p1), .val (.int p2), .val (.int p3), .val (.int kk), .val (.int oo), .val (.int (3 : Int32)), .val (.int pl), .val (.int r0), .val (.int r1), .val (.int r2), .val (.ref b102), .val (.int (own_srt (own_ref r0 kk) (own_ref r1 kk) (own_ref r2 kk) pl)), .val (.ref b108), .val (.int (own_ref r1 kk))] [(.int (1 : Int32)), (.ref b108)])
          refine own_step (fun _ k => XS.iload X134.here hx rfl (hb hby at_286) rfl k) ?_
          show own_Go p e below P T134 (mkF m 288 #[.val (.int p0), .val (.int p1), .val (.int p2), .val (.int p3), .val (.int kk), .val (.int oo), .val (.int (3 : Int32)), .val (.int pl), .val (.int r0), .val (.int r1), .val (.int r2), .val (.ref b102), .val (.int (own_srt (own_ref r0 kk) (own_ref r1 kk) (own_ref r2 kk) pl)), .val (.ref b108), .val (.int (own_ref r1 kk))] [(.int (own_ref r1 kk)), (.int (1 : Int32)), (.ref b108)])
          obtain ⟨cl135, Ar135, q135, S135, M135, H135, G135⟩ := (id V134)
          have hin135 : ¬ ((1 : Int32) < 0 ∨ cl135.slots.size ≤ ((1 : Int32)).toNatClampNeg) := inb_of S135 ⟨by decide, by decide⟩
          obtain ⟨T135, h135, X135, e135, W135, st135⟩ := stI X134 hx hZ e134 Ar135 (j := (1 : Int32)) hin135 (g := (mkF m 288 #[.val (.int p0), .val (.int p1), .val (.int p2), .val (.int p3), .val (.int kk), .val (.int oo), .val (.int (3 : Int32)), .val (.int pl), .val (.int r0), .val (.int r1), .val (.int r2), .val (.ref b102), .val (.int (own_srt (own_ref r0 kk) (own_ref r1 kk) (own_ref r2 kk) pl)), .val (.ref b108), .val (.int (own_ref r1 kk))] [(.int (own_ref r1 kk)), (.int (1 : Int32)), (.ref b108)])) rfl rfl (hb hby at_288)
          have V135 : Arv Z h135 b108 k108 .int (3 : Int32) [(.int (own_ref r2 kk)), (.int (own_ref r1 kk)), (.int (own_ref r0 kk))] (.int (0 : Int32)) := Arv.set Ar135 q135 S135 M135 H135 G135 rfl W135 1 rfl (Nat.le_of_ble_eq_true rfl)
          have N135 := Fr.snoc X135 N134 g_b108
          refine own_step st135 ?_
          show own_Go p e below P T135 (mkF m 289 #[.val (.int p0), .val (.int p1), .val (.int p2), .val (.int p3), .val (.int kk), .val (.int oo), .val (.int (3 : Int32)), .val (.int pl), .val (.int r0), .val (.int r1), .val (.int r2), .val (.ref b102), .val (.int (own_srt (own_ref r0 kk) (own_ref r1 kk) (own_ref r2 kk) pl)), .val (.ref b108), .val (.int (own_ref r1 kk))] [])
          have hpf := own_plf _ pi (by decide)
          rw [← hpi] at hpf
          refine own_step (fun _ k => XS.iload X135.here hx rfl (hb hby at_289) rfl k) ?_
          show own_Go p e below P T135 (mkF m 291 #[.val (.int p0), .val (.int p1), .val (.int p2), .val (.int p3), .val (.int kk), .val (.int oo), .val (.int (3 : Int32)), .val (.int pl), .val (.int r0), .val (.int r1), .val (.int r2), .val (.ref b102), .val (.int (own_srt (own_ref r0 kk) (own_ref r1 kk) (own_ref r2 kk) pl)), .val (.ref b108), .val (.int (own_ref r1 kk))] [(.int (own_srt (own_ref r0 kk) (own_ref r1 kk) (own_ref r2 kk) pl))])
          refine own_step (fun _ k => XS.aload X135.here hx rfl (hb hby at_291) rfl rfl k) ?_
          show own_Go p e below P T135 (mkF m 293 #[.val (.int p0), .val (.int p1), .val (.int p2), .val (.int p3), .val (.int kk), .val (.int oo), .val (.int (3 : Int32)), .val (.int pl), .val (.int r0), .val (.int r1), .val (.int r2), .val (.ref b102), .val (.int (own_srt (own_ref r0 kk) (own_ref r1 kk) (own_ref r2 kk) pl)), .val (.ref b108), .val (.int (own_ref r1 kk))] [(.ref b108), (.int (own_srt (own_ref r0 kk) (own_ref r1 kk) (own_ref r2 kk) pl))])
          refine own_step (fun _ k => XS.iload X135.here hx rfl (hb hby at_293) rfl k) ?_
          show own_Go p e below P T135 (mkF m 295 #[.val (.int p0), .val (.int p1), .val (.int p2), .val (.int p3), .val (.int kk), .val (.int oo), .val (.int (3 : Int32)), .val (.int pl), .val (.int r0), .val (.int r1), .val (.int r2), .val (.ref b102), .val (.int (own_srt (own_ref r0 kk) (own_ref r1 kk) (own_ref r2 kk) pl)), .val (.ref b108), .val (.int (own_ref r1 kk))] [(.int pl), (.ref b108), (.int (own_srt (own_ref r0 kk) (own_ref r1 kk) (own_ref r2 kk) pl))])
          obtain ⟨cl136, Ar136, -, S136, M136, H136, -⟩ := (id V135)
          have hin136 : ¬ (pl < 0 ∨ cl136.slots.size ≤ (pl).toNatClampNeg) := inb_of S136 ⟨hpf.1, hpf.2.1⟩
          refine own_step (fun t k => X135.iaload hx (j := pl) (v := (.int ([(own_ref r2 kk), (own_ref r1 kk), (own_ref r0 kk)].getD (pl).toNatClampNeg 0))) (by rw [e135]; exact Ar136.1) (State.isArrayOf_alike hZ.alike Ar136.2.1) Ar136.2.2 hin136 (Has.at H136 hin136 (own_gd [(own_ref r2 kk), (own_ref r1 kk), (own_ref r0 kk)] _)) (g := (mkF m 295 #[.val (.int p0), .val (.int p1), .val (.int p2), .val (.int p3), .val (.int kk), .val (.int oo), .val (.int (3 : Int32)), .val (.int pl), .val (.int r0), .val (.int r1), .val (.int r2), .val (.ref b102), .val (.int (own_srt (own_ref r0 kk) (own_ref r1 kk) (own_ref r2 kk) pl)), .val (.ref b108), .val (.int (own_ref r1 kk))] [(.int pl), (.ref b108), (.int (own_srt (own_ref r0 kk) (own_ref r1 kk) (own_ref r2 kk) pl))])) rfl rfl (hb hby at_295) t k) ?_
          show own_Go p e below P T135 (mkF m 296 #[.val (.int p0), .val (.int p1), .val (.int p2), .val (.int p3), .val (.int kk), .val (.int oo), .val (.int (3 : Int32)), .val (.int pl), .val (.int r0), .val (.int r1), .val (.int r2), .val (.ref b102), .val (.int (own_srt (own_ref r0 kk) (own_ref r1 kk) (own_ref r2 kk) pl)), .val (.ref b108), .val (.int (own_ref r1 kk))] [(.int ([(own_ref r2 kk), (own_ref r1 kk), (own_ref r0 kk)].getD (pl).toNatClampNeg 0)), (.int (own_srt (own_ref r0 kk) (own_ref r1 kk) (own_ref r2 kk) pl))])
          refine own_step (fun _ k => XS.icmpNo X135.here hx rfl (hb hby at_296) rfl (teq ((if_pos hc117).trans ((if_pos hc124).trans (if_pos hc131)))).2 k) ?_
          show own_Go p e below P T135 (mkF m 299 #[.val (.int p0), .val (.int p1), .val (.int p2), .val (.int p3), .val (.int kk), .val (.int oo), .val (.int (3 : Int32)), .val (.int pl), .val (.int r0), .val (.int r1), .val (.int r2), .val (.ref b102), .val (.int (own_srt (own_ref r0 kk) (own_ref r1 kk) (own_ref r2 kk) pl)), .val (.ref b108), .val (.int (own_ref r1 kk))] [])
          refine own_step (fun _ k => XS.iconst X135.here hx rfl (hb hby at_299) k) ?_
          show own_Go p e below P T135 (mkF m 300 #[.val (.int p0), .val (.int p1), .val (.int p2), .val (.int p3), .val (.int kk), .val (.int oo), .val (.int (3 : Int32)), .val (.int pl), .val (.int r0), .val (.int r1), .val (.int r2), .val (.ref b102), .val (.int (own_srt (own_ref r0 kk) (own_ref r1 kk) (own_ref r2 kk) pl)), .val (.ref b108), .val (.int (own_ref r1 kk))] [(.int (1 : Int32))])
          refine own_step (fun _ k => XS.goto X135.here hx rfl (pc0 := 300) (pc' := 304) rfl (hb hby at_300) (by decide) (by decide) k) ?_
          show own_Go p e below P T135 (mkF m 304 #[.val (.int p0), .val (.int p1), .val (.int p2), .val (.int p3), .val (.int kk), .val (.int oo), .val (.int (3 : Int32)), .val (.int pl), .val (.int r0), .val (.int r1), .val (.int r2), .val (.ref b102), .val (.int (own_srt (own_ref r0 kk) (own_ref r1 kk) (own_ref r2 kk) pl)), .val (.ref b108), .val (.int (own_ref r1 kk))] [(.int (1 : Int32))])
          obtain ⟨fs, hr, hrun, hended, hW, hsame⟩ := X135.leave (v := some (.int (1 : Int32))) (fun h => by rw [Bd.returns] at h; cases h)
          refine ⟨_, _, retN X135 hx (t := .boolean) Bd.returns (by simp) (hb hby at_304) hr, hrun, hended, hfin _ _ ⟨_, _, rfl, ?_, ⟨_, rfl⟩, hW, hsame.mono (by decide) (by decide)⟩⟩
          show Q0 Z p0 p1 p2 p3 h0 n0 (some (.int (1 : Int32))) T135.heap _
          rw [e135]
          exact ⟨rfl, N135⟩
        · refine own_step (fun _ k => XS.icmpYes X128.here hx rfl (pc0 := 266) (pc' := 289) rfl (hb hby at_266) rfl (flt hc131).2.1 (by decide) (by decide) k) ?_
          show own_Go p e below P T128 (mkF m 289 #[.val (.int p0), .val (.int p1), .val (.int p2), .val (.int p3), .val (.int kk), .val (.int oo), .val (.int (3 : Int32)), .val (.int pl), .val (.int r0), .val (.int r1), .val (.int r2), .val (.ref b102), .val (.int (own_srt (own_ref r0 kk) (own_ref r1 kk) (own_ref r2 kk) pl)), .val (.ref b108), .val (.int (own_ref r0 kk))] [])
          have hpf := own_plf _ pi (by decide)
          rw [← hpi] at hpf
          refine own_step (fun _ k => XS.iload X128.here hx rfl (hb hby at_289) rfl k) ?_
          show own_Go p e below P T128 (mkF m 291 #[.val (.int p0), .val (.int p1), .val (.int p2), .val (.int p3), .val (.int kk), .val (.int oo), .val (.int (3 : Int32)), .val (.int pl), .val (.int r0), .val (.int r1), .val (.int r2), .val (.ref b102), .val (.int (own_srt (own_ref r0 kk) (own_ref r1 kk) (own_ref r2 kk) pl)), .val (.ref b108), .val (.int (own_ref r0 kk))] [(.int (own_srt (own_ref r0 kk) (own_ref r1 kk) (own_ref r2 kk) pl))])
          refine own_step (fun _ k => XS.aload X128.here hx rfl (hb hby at_291) rfl rfl k) ?_
          show own_Go p e below P T128 (mkF m 293 #[.val (.int p0), .val (.int p1), .val (.int p2), .val (.int p3), .val (.int kk), .val (.int oo), .val (.int (3 : Int32)), .val (.int pl), .val (.int r0), .val (.int r1), .val (.int r2), .val (.ref b102), .val (.int (own_srt (own_ref r0 kk) (own_ref r1 kk) (own_ref r2 kk) pl)), .val (.ref b108), .val (.int (own_ref r0 kk))] [(.ref b108), (.int (own_srt (own_ref r0 kk) (own_ref r1 kk) (own_ref r2 kk) pl))])
          refine own_step (fun _ k => XS.iload X128.here hx rfl (hb hby at_293) rfl k) ?_
          show own_Go p e below P T128 (mkF m 295 #[.val (.int p0), .val (.int p1), .val (.int p2), .val (.int p3), .val (.int kk), .val (.int oo), .val (.int (3 : Int32)), .val (.int pl), .val (.int r0), .val (.int r1), .val (.int r2), .val (.ref b102), .val (.int (own_srt (own_ref r0 kk) (own_ref r1 kk) (own_ref r2 kk) pl)), .val (.ref b108), .val (.int (own_ref r0 kk))] [(.int pl), (.ref b108), (.int (own_srt (own_ref r0 kk) (own_ref r1 kk) (own_ref r2 kk) pl))])
          obtain ⟨cl138, Ar138, -, S138, M138, H138, -⟩ := (id V128)
          have hin138 : ¬ (pl < 0 ∨ cl138.slots.size ≤ (pl).toNatClampNeg) := inb_of S138 ⟨hpf.1, hpf.2.1⟩
          refine own_step (fun t k => X128.iaload hx (j := pl) (v := (.int ([(own_ref r1 kk), (own_ref r2 kk), (own_ref r0 kk)].getD (pl).toNatClampNeg 0))) (by rw [e128]; exact Ar138.1) (State.isArrayOf_alike hZ.alike Ar138.2.1) Ar138.2.2 hin138 (Has.at H138 hin138 (own_gd [(own_ref r1 kk), (own_ref r2 kk), (own_ref r0 kk)] _)) (g := (mkF m 295 #[.val (.int p0), .val (.int p1), .val (.int p2), .val (.int p3), .val (.int kk), .val (.int oo), .val (.int (3 : Int32)), .val (.int pl), .val (.int r0), .val (.int r1), .val (.int r2), .val (.ref b102), .val (.int (own_srt (own_ref r0 kk) (own_ref r1 kk) (own_ref r2 kk) pl)), .val (.ref b108), .val (.int (own_ref r0 kk))] [(.int pl), (.ref b108), (.int (own_srt (own_ref r0 kk) (own_ref r1 kk) (own_ref r2 kk) pl))])) rfl rfl (hb hby at_295) t k) ?_
          show own_Go p e below P T128 (mkF m 296 #[.val (.int p0), .val (.int p1), .val (.int p2), .val (.int p3), .val (.int kk), .val (.int oo), .val (.int (3 : Int32)), .val (.int pl), .val (.int r0), .val (.int r1), .val (.int r2), .val (.ref b102), .val (.int (own_srt (own_ref r0 kk) (own_ref r1 kk) (own_ref r2 kk) pl)), .val (.ref b108), .val (.int (own_ref r0 kk))] [(.int ([(own_ref r1 kk), (own_ref r2 kk), (own_ref r0 kk)].getD (pl).toNatClampNeg 0)), (.int (own_srt (own_ref r0 kk) (own_ref r1 kk) (own_ref r2 kk) pl))])
          refine own_step (fun _ k => XS.icmpNo X128.here hx rfl (hb hby at_296) rfl (teq ((if_pos hc117).trans ((if_pos hc124).trans (if_neg hc131)))).2 k) ?_
          show own_Go p e below P T128 (mkF m 299 #[.val (.int p0), .val (.int p1), .val (.int p2), .val (.int p3), .val (.int kk), .val (.int oo), .val (.int (3 : Int32)), .val (.int pl), .val (.int r0), .val (.int r1), .val (.int r2), .val (.ref b102), .val (.int (own_srt (own_ref r0 kk) (own_ref r1 kk) (own_ref r2 kk) pl)), .val (.ref b108), .val (.int (own_ref r0 kk))] [])
          refine own_step (fun _ k => XS.iconst X128.here hx rfl (hb hby at_299) k) ?_
          show own_Go p e below P T128 (mkF m 300 #[.val (.int p0), .val (.int p1), .val (.int p2), .val (.int p3), .val (.int kk), .val (.int oo), .val (.int (3 : Int32)), .val (.int pl), .val (.int r0), .val (.int r1), .val (.int r2), .val (.ref b102), .val (.int (own_srt (own_ref r0 kk) (own_ref r1 kk) (own_ref r2 kk) pl)), .val (.ref b108), .val (.int (own_ref r0 kk))] [(.int (1 : Int32))])
          refine own_step (fun _ k => XS.goto X128.here hx rfl (pc0 := 300) (pc' := 304) rfl (hb hby at_300) (by decide) (by decide) k) ?_
          show own_Go p e below P T128 (mkF m 304 #[.val (.int p0), .val (.int p1), .val (.int p2), .val (.int p3), .val (.int kk), .val (.int oo), .val (.int (3 : Int32)), .val (.int pl), .val (.int r0), .val (.int r1), .val (.int r2), .val (.ref b102), .val (.int (own_srt (own_ref r0 kk) (own_ref r1 kk) (own_ref r2 kk) pl)), .val (.ref b108), .val (.int (own_ref r0 kk))] [(.int (1 : Int32))])
          obtain ⟨fs, hr, hrun, hended, hW, hsame⟩ := X128.leave (v := some (.int (1 : Int32))) (fun h => by rw [Bd.returns] at h; cases h)
          refine ⟨_, _, retN X128 hx (t := .boolean) Bd.returns (by simp) (hb hby at_304) hr, hrun, hended, hfin _ _ ⟨_, _, rfl, ?_, ⟨_, rfl⟩, hW, hsame.mono (by decide) (by decide)⟩⟩
          show Q0 Z p0 p1 p2 p3 h0 n0 (some (.int (1 : Int32))) T128.heap _
          rw [e128]
          exact ⟨rfl, N128⟩
      · refine own_step (fun _ k => XS.icmpYes X121.here hx rfl (pc0 := 235) (pc' := 258) rfl (hb hby at_235) rfl (flt hc124).2.1 (by decide) (by decide) k) ?_
        show own_Go p e below P T121 (mkF m 258 #[.val (.int p0), .val (.int p1), .val (.int p2), .val (.int p3), .val (.int kk), .val (.int oo), .val (.int (3 : Int32)), .val (.int pl), .val (.int r0), .val (.int r1), .val (.int r2), .val (.ref b102), .val (.int (own_srt (own_ref r0 kk) (own_ref r1 kk) (own_ref r2 kk) pl)), .val (.ref b108), .val (.int (own_ref r0 kk))] [])
        refine own_step (fun _ k => XS.aload X121.here hx rfl (hb hby at_258) rfl rfl k) ?_
        show own_Go p e below P T121 (mkF m 260 #[.val (.int p0), .val (.int p1), .val (.int p2), .val (.int p3), .val (.int kk), .val (.int oo), .val (.int (3 : Int32)), .val (.int pl), .val (.int r0), .val (.int r1), .val (.int r2), .val (.ref b102), .val (.int (own_srt (own_ref r0 kk) (own_ref r1 kk) (own_ref r2 kk) pl)), .val (.ref b108), .val (.int (own_ref r0 kk))] [(.ref b108)])
        refine own_step (fun _ k => XS.iconst X121.here hx rfl (hb hby at_260) k) ?_
        show own_Go p e below P T121 (mkF m 261 #[.val (.int p0), .val (.int p1), .val (.int p2), .val (.int p3), .val (.int kk), .val (.int oo), .val (.int (3 : Int32)), .val (.int pl), .val (.int r0), .val (.int r1), .val (.int r2), .val (.ref b102), .val (.int (own_srt (own_ref r0 kk) (own_ref r1 kk) (own_ref r2 kk) pl)), .val (.ref b108), .val (.int (own_ref r0 kk))] [(.int (0 : Int32)), (.ref b108)])
        obtain ⟨cl140, Ar140, -, S140, M140, H140, -⟩ := (id V121)
        have hin140 : ¬ ((0 : Int32) < 0 ∨ cl140.slots.size ≤ ((0 : Int32)).toNatClampNeg) := inb_of S140 ⟨by decide, by decide⟩
        refine own_step (fun t k => X121.iaload hx (j := (0 : Int32)) (v := (.int (own_ref r1 kk))) (by rw [e121]; exact Ar140.1) (State.isArrayOf_alike hZ.alike Ar140.2.1) Ar140.2.2 hin140 (Has.at H140 hin140 rfl) (g := (mkF m 261 #[.val (.int p0), .val (.int p1), .val (.int p2), .val (.int p3), .val (.int kk), .val (.int oo), .val (.int (3 : Int32)), .val (.int pl), .val (.int r0), .val (.int r1), .val (.int r2), .val (.ref b102), .val (.int (own_srt (own_ref r0 kk) (own_ref r1 kk) (own_ref r2 kk) pl)), .val (.ref b108), .val (.int (own_ref r0 kk))] [(.int (0 : Int32)), (.ref b108)])) rfl rfl (hb hby at_261) t k) ?_
        show own_Go p e below P T121 (mkF m 262 #[.val (.int p0), .val (.int p1), .val (.int p2), .val (.int p3), .val (.int kk), .val (.int oo), .val (.int (3 : Int32)), .val (.int pl), .val (.int r0), .val (.int r1), .val (.int r2), .val (.ref b102), .val (.int (own_srt (own_ref r0 kk) (own_ref r1 kk) (own_ref r2 kk) pl)), .val (.ref b108), .val (.int (own_ref r0 kk))] [(.int (own_ref r1 kk))])
        refine own_step (fun _ k => XS.aload X121.here hx rfl (hb hby at_262) rfl rfl k) ?_
        show own_Go p e below P T121 (mkF m 264 #[.val (.int p0), .val (.int p1), .val (.int p2), .val (.int p3), .val (.int kk), .val (.int oo), .val (.int (3 : Int32)), .val (.int pl), .val (.int r0), .val (.int r1), .val (.int r2), .val (.ref b102), .val (.int (own_srt (own_ref r0 kk) (own_ref r1 kk) (own_ref r2 kk) pl)), .val (.ref b108), .val (.int (own_ref r0 kk))] [(.ref b108), (.int (own_ref r1 kk))])
        refine own_step (fun _ k => XS.iconst X121.here hx rfl (hb hby at_264) k) ?_
        show own_Go p e below P T121 (mkF m 265 #[.val (.int p0), .val (.int p1), .val (.int p2), .val (.int p3), .val (.int kk), .val (.int oo), .val (.int (3 : Int32)), .val (.int pl), .val (.int r0), .val (.int r1), .val (.int r2), .val (.ref b102), .val (.int (own_srt (own_ref r0 kk) (own_ref r1 kk) (own_ref r2 kk) pl)), .val (.ref b108), .val (.int (own_ref r0 kk))] [(.int (1 : Int32)), (.ref b108), (.int (own_ref r1 kk))])
        obtain ⟨cl141, Ar141, -, S141, M141, H141, -⟩ := (id V121)
        have hin141 : ¬ ((1 : Int32) < 0 ∨ cl141.slots.size ≤ ((1 : Int32)).toNatClampNeg) := inb_of S141 ⟨by decide, by decide⟩
        refine own_step (fun t k => X121.iaload hx (j := (1 : Int32)) (v := (.int (own_ref r0 kk))) (by rw [e121]; exact Ar141.1) (State.isArrayOf_alike hZ.alike Ar141.2.1) Ar141.2.2 hin141 (Has.at H141 hin141 rfl) (g := (mkF m 265 #[.val (.int p0), .val (.int p1), .val (.int p2), .val (.int p3), .val (.int kk), .val (.int oo), .val (.int (3 : Int32)), .val (.int pl), .val (.int r0), .val (.int r1), .val (.int r2), .val (.ref b102), .val (.int (own_srt (own_ref r0 kk) (own_ref r1 kk) (own_ref r2 kk) pl)), .val (.ref b108), .val (.int (own_ref r0 kk))] [(.int (1 : Int32)), (.ref b108), (.int (own_ref r1 kk))])) rfl rfl (hb hby at_265) t k) ?_
        show own_Go p e below P T121 (mkF m 266 #[.val (.int p0), .val (.int p1), .val (.int p2), .val (.int p3), .val (.int kk), .val (.int oo), .val (.int (3 : Int32)), .val (.int pl), .val (.int r0), .val (.int r1), .val (.int r2), .val (.ref b102), .val (.int (own_srt (own_ref r0 kk) (own_ref r1 kk) (own_ref r2 kk) pl)), .val (.ref b108), .val (.int (own_ref r0 kk))] [(.int (own_ref r0 kk)), (.int (own_ref r1 kk))])
        by_cases hc142 : (own_ref r1 kk) < (own_ref r0 kk)
        · refine own_step (fun _ k => XS.icmpNo X121.here hx rfl (hb hby at_266) rfl (tlt hc142).2.1 k) ?_
          show own_Go p e below P T121 (mkF m 269 #[.val (.int p0), .val (.int p1), .val (.int p2), .val (.int p3), .val (.int kk), .val (.int oo), .val (.int (3 : Int32)), .val (.int pl), .val (.int r0), .val (.int r1), .val (.int r2), .val (.ref b102), .val (.int (own_srt (own_ref r0 kk) (own_ref r1 kk) (own_ref r2 kk) pl)), .val (.ref b108), .val (.int (own_ref r0 kk))] [])
          refine own_step (fun _ k => XS.aload X121.here hx rfl (hb hby at_269) rfl rfl k) ?_
          show own_Go p e below P T121 (mkF m 271 #[.val (.int p0), .val (.int p1), .val (.int p2), .val (.int p3), .val (.int kk), .val (.int oo), .val (.int (3 : Int32)), .val (.int pl), .val (.int r0), .val (.int r1), .val (.int r2), .val (.ref b102), .val (.int (own_srt (own_ref r0 kk) (own_ref r1 kk) (own_ref r2 kk) pl)), .val (.ref b108), .val (.int (own_ref r0 kk))] [(.ref b108)])
          refine own_step (fun _ k => XS.iconst X121.here hx rfl (hb hby at_271) k) ?_
          show own_Go p e below P T121 (mkF m 272 #[.val (.int p0), .val (.int p1), .val (.int p2), .val (.int p3), .val (.int kk), .val (.int oo), .val (.int (3 : Int32)), .val (.int pl), .val (.int r0), .val (.int r1), .val (.int r2), .val (.ref b102), .val (.int (own_srt (own_ref r0 kk) (own_ref r1 kk) (own_ref r2 kk) pl)), .val (.ref b108), .val (.int (own_ref r0 kk))] [(.int (0 : Int32)), (.ref b108)])
          obtain ⟨cl143, Ar143, -, S143, M143, H143, -⟩ := (id V121)
          have hin143 : ¬ ((0 : Int32) < 0 ∨ cl143.slots.size ≤ ((0 : Int32)).toNatClampNeg) := inb_of S143 ⟨by decide, by decide⟩
          refine own_step (fun t k => X121.iaload hx (j := (0 : Int32)) (v := (.int (own_ref r1 kk))) (by rw [e121]; exact Ar143.1) (State.isArrayOf_alike hZ.alike Ar143.2.1) Ar143.2.2 hin143 (Has.at H143 hin143 rfl) (g := (mkF m 272 #[.val (.int p0), .val (.int p1), .val (.int p2), .val (.int p3), .val (.int kk), .val (.int oo), .val (.int (3 : Int32)), .val (.int pl), .val (.int r0), .val (.int r1), .val (.int r2), .val (.ref b102), .val (.int (own_srt (own_ref r0 kk) (own_ref r1 kk) (own_ref r2 kk) pl)), .val (.ref b108), .val (.int (own_ref r0 kk))] [(.int (0 : Int32)), (.ref b108)])) rfl rfl (hb hby at_272) t k) ?_
          show own_Go p e below P T121 (mkF m 273 #[.val (.int p0), .val (.int p1), .val (.int p2), .val (.int p3), .val (.int kk), .val (.int oo), .val (.int (3 : Int32)), .val (.int pl), .val (.int r0), .val (.int r1), .val (.int r2), .val (.ref b102), .val (.int (own_srt (own_ref r0 kk) (own_ref r1 kk) (own_ref r2 kk) pl)), .val (.ref b108), .val (.int (own_ref r0 kk))] [(.int (own_ref r1 kk))])
          refine own_step (fun _ k => XS.istore X121.here hx rfl (hb hby at_273) rfl (l' := #[.val (.int p0), .val (.int p1), .val (.int p2), .val (.int p3), .val (.int kk), .val (.int oo), .val (.int (3 : Int32)), .val (.int pl), .val (.int r0), .val (.int r1), .val (.int r2), .val (.ref b102), .val (.int (own_srt (own_ref r0 kk) (own_ref r1 kk) (own_ref r2 kk) pl)), .val (.ref b108), .val (.int (own_ref r1 kk))]) rfl k) ?_
          show own_Go p e below P T121 (mkF m 275 #[.val (.int p0), .val (.int p1), .val (.int p2), .val (.int p3), .val (.int kk), .val (.int oo), .val (.int (3 : Int32)), .val (.int pl), .val (.int r0), .val (.int r1), .val (.int r2), .val (.ref b102), .val (.int (own_srt (own_ref r0 kk) (own_ref r1 kk) (own_ref r2 kk) pl)), .val (.ref b108), .val (.int (own_ref r1 kk))] [])
          refine own_step (fun _ k => XS.aload X121.here hx rfl (hb hby at_275) rfl rfl k) ?_
          show own_Go p e below P T121 (mkF m 277 #[.val (.int p0), .val (.int p1), .val (.int p2), .val (.int p3), .val (.int kk), .val (.int oo), .val (.int (3 : Int32)), .val (.int pl), .val (.int r0), .val (.int r1), .val (.int r2), .val (.ref b102), .val (.int (own_srt (own_ref r0 kk) (own_ref r1 kk) (own_ref r2 kk) pl)), .val (.ref b108), .val (.int (own_ref r1 kk))] [(.ref b108)])
          refine own_step (fun _ k => XS.iconst X121.here hx rfl (hb hby at_277) k) ?_
          show own_Go p e below P T121 (mkF m 278 #[.val (.int p0), .val (.int p1), .val (.int p2), .val (.int p3), .val (.int kk), .val (.int oo), .val (.int (3 : Int32)), .val (.int pl), .val (.int r0), .val (.int r1), .val (.int r2), .val (.ref b102), .val (.int (own_srt (own_ref r0 kk) (own_ref r1 kk) (own_ref r2 kk) pl)), .val (.ref b108), .val (.int (own_ref r1 kk))] [(.int (0 : Int32)), (.ref b108)])
          refine own_step (fun _ k => XS.aload X121.here hx rfl (hb hby at_278) rfl rfl k) ?_
          show own_Go p e below P T121 (mkF m 280 #[.val (.int p0), .val (.int p1), .val (.int p2), .val (.int p3), .val (.int kk), .val (.int oo), .val (.int (3 : Int32)), .val (.int pl), .val (.int r0), .val (.int r1), .val (.int r2), .val (.ref b102), .val (.int (own_srt (own_ref r0 kk) (own_ref r1 kk) (own_ref r2 kk) pl)), .val (.ref b108), .val (.int (own_ref r1 kk))] [(.ref b108), (.int (0 : Int32)), (.ref b108)])
          refine own_step (fun _ k => XS.iconst X121.here hx rfl (hb hby at_280) k) ?_
          show own_Go p e below P T121 (mkF m 281 #[.val (.int p0), .val (.int p1), .val (.int p2), .val (.int p3), .val (.int kk), .val (.int oo), .val (.int (3 : Int32)), .val (.int pl), .val (.int r0), .val (.int r1), .val (.int r2), .val (.ref b102), .val (.int (own_srt (own_ref r0 kk) (own_ref r1 kk) (own_ref r2 kk) pl)), .val (.ref b108), .val (.int (own_ref r1 kk))] [(.int (1 : Int32)), (.ref b108), (.int (0 : Int32)), (.ref b108)])
          obtain ⟨cl144, Ar144, -, S144, M144, H144, -⟩ := (id V121)
          have hin144 : ¬ ((1 : Int32) < 0 ∨ cl144.slots.size ≤ ((1 : Int32)).toNatClampNeg) := inb_of S144 ⟨by decide, by decide⟩
          refine own_step (fun t k => X121.iaload hx (j := (1 : Int32)) (v := (.int (own_ref r0 kk))) (by rw [e121]; exact Ar144.1) (State.isArrayOf_alike hZ.alike Ar144.2.1) Ar144.2.2 hin144 (Has.at H144 hin144 rfl) (g := (mkF m 281 #[.val (.int p0), .val (.int p1), .val (.int p2), .val (.int p3), .val (.int kk), .val (.int oo), .val (.int (3 : Int32)), .val (.int pl), .val (.int r0), .val (.int r1), .val (.int r2), .val (.ref b102), .val (.int (own_srt (own_ref r0 kk) (own_ref r1 kk) (own_ref r2 kk) pl)), .val (.ref b108), .val (.int (own_ref r1 kk))] [(.int (1 : Int32)), (.ref b108), (.int (0 : Int32)), (.ref b108)])) rfl rfl (hb hby at_281) t k) ?_
          show own_Go p e below P T121 (mkF m 282 #[.val (.int p0), .val (.int p1), .val (.int p2), .val (.int p3), .val (.int kk), .val (.int oo), .val (.int (3 : Int32)), .val (.int pl), .val (.int r0), .val (.int r1), .val (.int r2), .val (.ref b102), .val (.int (own_srt (own_ref r0 kk) (own_ref r1 kk) (own_ref r2 kk) pl)), .val (.ref b108), .val (.int (own_ref r1 kk))] [(.int (own_ref r0 kk)), (.int (0 : Int32)), (.ref b108)])
          obtain ⟨cl145, Ar145, q145, S145, M145, H145, G145⟩ := (id V121)
          have hin145 : ¬ ((0 : Int32) < 0 ∨ cl145.slots.size ≤ ((0 : Int32)).toNatClampNeg) := inb_of S145 ⟨by decide, by decide⟩
          obtain ⟨T145, h145, X145, e145, W145, st145⟩ := stI X121 hx hZ e121 Ar145 (j := (0 : Int32)) hin145 (g := (mkF m 282 #[.val (.int p0), .val (.int p1), .val (.int p2), .val (.int p3), .val (.int kk), .val (.int oo), .val (.int (3 : Int32)), .val (.int pl), .val (.int r0), .val (.int r1), .val (.int r2), .val (.ref b102), .val (.int (own_srt (own_ref r0 kk) (own_ref r1 kk) (own_ref r2 kk) pl)), .val (.ref b108), .val (.int (own_ref r1 kk))] [(.int (own_ref r0 kk)), (.int (0 : Int32)), (.ref b108)])) rfl rfl (hb hby at_282)
          have V145 : Arv Z h145 b108 k108 .int (3 : Int32) [(.int (own_ref r0 kk)), (.int (own_ref r0 kk)), (.int (own_ref r2 kk))] (.int (0 : Int32)) := Arv.set Ar145 q145 S145 M145 H145 G145 rfl W145 0 rfl (Nat.le_of_ble_eq_true rfl)
          have N145 := Fr.snoc X145 N121 g_b108
          refine own_step st145 ?_
          show own_Go p e below P T145 (mkF m 283 #[.val (.int p0), .val (.int p1), .val (.int p2), .val (.int p3), .val (.int kk), .val (.int oo), .val (.int (3 : Int32)), .val (.int pl), .val (.int r0), .val (.int r1), .val (.int r2), .val (.ref b102), .val (.int (own_srt (own_ref r0 kk) (own_ref r1 kk) (own_ref r2 kk) pl)), .val (.ref b108), .val (.int (own_ref r1 kk))] [])
          refine own_step (fun _ k => XS.aload X145.here hx rfl (hb hby at_283) rfl rfl k) ?_
          show own_Go p e below P T145 (mkF m 285 #[.val (.int p0), .val (.int p1), .val (.int p2), .val (.int p3), .val (.int kk), .val (.int oo), .val (.int (3 : Int32)), .val (.int pl), .val (.int r0), .val (.int r1), .val (.int r2), .val (.ref b102), .val (.int (own_srt (own_ref r0 kk) (own_ref r1 kk) (own_ref r2 kk) pl)), .val (.ref b108), .val (.int (own_ref r1 kk))] [(.ref b108)])
          refine own_step (fun _ k => XS.iconst X145.here hx rfl (hb hby at_285) k) ?_
          show own_Go p e below P T145 (mkF m 286 #[.val (.int p0), .val (.int p1), .val (.int p2), .val (.int p3), .val (.int kk), .val (.int oo), .val (.int (3 : Int32)), .val (.int pl), .val (.int r0), .val (.int r1), .val (.int r2), .val (.ref b102), .val (.int (own_srt (own_ref r0 kk) (own_ref r1 kk) (own_ref r2 kk) pl)), .val (.ref b108), .val (.int (own_ref r1 kk))] [(.int (1 : Int32)), (.ref b108)])
          refine own_step (fun _ k => XS.iload X145.here hx rfl (hb hby at_286) rfl k) ?_
          show own_Go p e below P T145 (mkF m 288 #[.val (.int p0), .val (.int p1), .val (.int p2), .val (.int p3), .val (.int kk), .val (.int oo), .val (.int (3 : Int32)), .val (.int pl), .val (.int r0), .val (.int r1), .val (.int r2), .val (.ref b102), .val (.int (own_srt (own_ref r0 kk) (own_ref r1 kk) (own_ref r2 kk) pl)), .val (.ref b108), .val (.int (own_ref r1 kk))] [(.int (own_ref r1 kk)), (.int (1 : Int32)), (.ref b108)])
          obtain ⟨cl146, Ar146, q146, S146, M146, H146, G146⟩ := (id V145)
          have hin146 : ¬ ((1 : Int32) < 0 ∨ cl146.slots.size ≤ ((1 : Int32)).toNatClampNeg) := inb_of S146 ⟨by decide, by decide⟩
          obtain ⟨T146, h146, X146, e146, W146, st146⟩ := stI X145 hx hZ e145 Ar146 (j := (1 : Int32)) hin146 (g := (mkF m 288 #[.val (.int p0), .val (.int p1), .val (.int p2), .val (.int p3), .val (.int kk), .val (.int oo), .val (.int (3 : Int32)), .val (.int pl), .val (.int r0), .val (.int r1), .val (.int r2), .val (.ref b102), .val (.int (own_srt (own_ref r0 kk) (own_ref r1 kk) (own_ref r2 kk) pl)), .val (.ref b108), .val (.int (own_ref r1 kk))] [(.int (own_ref r1 kk)), (.int (1 : Int32)), (.ref b108)])) rfl rfl (hb hby at_288)
          have V146 : Arv Z h146 b108 k108 .int (3 : Int32) [(.int (own_ref r0 kk)), (.int (own_ref r1 kk)), (.int (own_ref r2 kk))] (.int (0 : Int32)) := Arv.set Ar146 q146 S146 M146 H146 G146 rfl W146 1 rfl (Nat.le_of_ble_eq_true rfl)
          have N146 := Fr.snoc X146 N145 g_b108
          refine own_step st146 ?_
          show own_Go p e below P T146 (mkF m 289 #[.val (.int p0), .val (.int p1), .val (.int p2), .val (.int p3), .val (.int kk), .val (.int oo), .val (.int (3 : Int32)), .val (.int pl), .val (.int r0), .val (.int r1), .val (.int r2), .val (.ref b102), .val (.int (own_srt (own_ref r0 kk) (own_ref r1 kk) (own_ref r2 kk) pl)), .val (.ref b108), .val (.int (own_ref r1 kk))] [])
          have hpf := own_plf _ pi (by decide)
          rw [← hpi] at hpf
          refine own_step (fun _ k => XS.iload X146.here hx rfl (hb hby at_289) rfl k) ?_
          show own_Go p e below P T146 (mkF m 291 #[.val (.int p0), .val (.int p1), .val (.int p2), .val (.int p3), .val (.int kk), .val (.int oo), .val (.int (3 : Int32)), .val (.int pl), .val (.int r0), .val (.int r1), .val (.int r2), .val (.ref b102), .val (.int (own_srt (own_ref r0 kk) (own_ref r1 kk) (own_ref r2 kk) pl)), .val (.ref b108), .val (.int (own_ref r1 kk))] [(.int (own_srt (own_ref r0 kk) (own_ref r1 kk) (own_ref r2 kk) pl))])
          refine own_step (fun _ k => XS.aload X146.here hx rfl (hb hby at_291) rfl rfl k) ?_
          show own_Go p e below P T146 (mkF m 293 #[.val (.int p0), .val (.int p1), .val (.int p2), .val (.int p3), .val (.int kk), .val (.int oo), .val (.int (3 : Int32)), .val (.int pl), .val (.int r0), .val (.int r1), .val (.int r2), .val (.ref b102), .val (.int (own_srt (own_ref r0 kk) (own_ref r1 kk) (own_ref r2 kk) pl)), .val (.ref b108), .val (.int (own_ref r1 kk))] [(.ref b108), (.int (own_srt (own_ref r0 kk) (own_ref r1 kk) (own_ref r2 kk) pl))])
          refine own_step (fun _ k => XS.iload X146.here hx rfl (hb hby at_293) rfl k) ?_
          show own_Go p e below P T146 (mkF m 295 #[.val (.int p0), .val (.int p1), .val (.int p2), .val (.int p3), .val (.int kk), .val (.int oo), .val (.int (3 : Int32)), .val (.int pl), .val (.int r0), .val (.int r1), .val (.int r2), .val (.ref b102), .val (.int (own_srt (own_ref r0 kk) (own_ref r1 kk) (own_ref r2 kk) pl)), .val (.ref b108), .val (.int (own_ref r1 kk))] [(.int pl), (.ref b108), (.int (own_srt (own_ref r0 kk) (own_ref r1 kk) (own_ref r2 kk) pl))])
          obtain ⟨cl147, Ar147, -, S147, M147, H147, -⟩ := (id V146)
          have hin147 : ¬ (pl < 0 ∨ cl147.slots.size ≤ (pl).toNatClampNeg) := inb_of S147 ⟨hpf.1, hpf.2.1⟩
          refine own_step (fun t k => X146.iaload hx (j := pl) (v := (.int ([(own_ref r0 kk), (own_ref r1 kk), (own_ref r2 kk)].getD (pl).toNatClampNeg 0))) (by rw [e146]; exact Ar147.1) (State.isArrayOf_alike hZ.alike Ar147.2.1) Ar147.2.2 hin147 (Has.at H147 hin147 (own_gd [(own_ref r0 kk), (own_ref r1 kk), (own_ref r2 kk)] _)) (g := (mkF m 295 #[.val (.int p0), .val (.int p1), .val (.int p2), .val (.int p3), .val (.int kk), .val (.int oo), .val (.int (3 : Int32)), .val (.int pl), .val (.int r0), .val (.int r1), .val (.int r2), .val (.ref b102), .val (.int (own_srt (own_ref r0 kk) (own_ref r1 kk) (own_ref r2 kk) pl)), .val (.ref b108), .val (.int (own_ref r1 kk))] [(.int pl), (.ref b108), (.int (own_srt (own_ref r0 kk) (own_ref r1 kk) (own_ref r2 kk) pl))])) rfl rfl (hb hby at_295) t k) ?_
          show own_Go p e below P T146 (mkF m 296 #[.val (.int p0), .val (.int p1), .val (.int p2), .val (.int p3), .val (.int kk), .val (.int oo), .val (.int (3 : Int32)), .val (.int pl), .val (.int r0), .val (.int r1), .val (.int r2), .val (.ref b102), .val (.int (own_srt (own_ref r0 kk) (own_ref r1 kk) (own_ref r2 kk) pl)), .val (.ref b108), .val (.int (own_ref r1 kk))] [(.int ([(own_ref r0 kk), (own_ref r1 kk), (own_ref r2 kk)].getD (pl).toNatClampNeg 0)), (.int (own_srt (own_ref r0 kk) (own_ref r1 kk) (own_ref r2 kk) pl))])
          refine own_step (fun _ k => XS.icmpNo X146.here hx rfl (hb hby at_296) rfl (teq ((if_pos hc117).trans ((if_neg hc124).trans (if_pos hc142)))).2 k) ?_
          show own_Go p e below P T146 (mkF m 299 #[.val (.int p0), .val (.int p1), .val (.int p2), .val (.int p3), .val (.int kk), .val (.int oo), .val (.int (3 : Int32)), .val (.int pl), .val (.int r0), .val (.int r1), .val (.int r2), .val (.ref b102), .val (.int (own_srt (own_ref r0 kk) (own_ref r1 kk) (own_ref r2 kk) pl)), .val (.ref b108), .val (.int (own_ref r1 kk))] [])
          refine own_step (fun _ k => XS.iconst X146.here hx rfl (hb hby at_299) k) ?_
          show own_Go p e below P T146 (mkF m 300 #[.val (.int p0), .val (.int p1), .val (.int p2), .val (.int p3), .val (.int kk), .val (.int oo), .val (.int (3 : Int32)), .val (.int pl), .val (.int r0), .val (.int r1), .val (.int r2), .val (.ref b102), .val (.int (own_srt (own_ref r0 kk) (own_ref r1 kk) (own_ref r2 kk) pl)), .val (.ref b108), .val (.int (own_ref r1 kk))] [(.int (1 : Int32))])
          refine own_step (fun _ k => XS.goto X146.here hx rfl (pc0 := 300) (pc' := 304) rfl (hb hby at_300) (by decide) (by decide) k) ?_
          show own_Go p e below P T146 (mkF m 304 #[.val (.int p0), .val (.int p1), .val (.int p2), .val (.int p3), .val (.int kk), .val (.int oo), .val (.int (3 : Int32)), .val (.int pl), .val (.int r0), .val (.int r1), .val (.int r2), .val (.ref b102), .val (.int (own_srt (own_ref r0 kk) (own_ref r1 kk) (own_ref r2 kk) pl)), .val (.ref b108), .val (.int (own_ref r1 kk))] [(.int (1 : Int32))])
          obtain ⟨fs, hr, hrun, hended, hW, hsame⟩ := X146.leave (v := some (.int (1 : Int32))) (fun h => by rw [Bd.returns] at h; cases h)
          refine ⟨_, _, retN X146 hx (t := .boolean) Bd.returns (by simp) (hb hby at_304) hr, hrun, hended, hfin _ _ ⟨_, _, rfl, ?_, ⟨_, rfl⟩, hW, hsame.mono (by decide) (by decide)⟩⟩
          show Q0 Z p0 p1 p2 p3 h0 n0 (some (.int (1 : Int32))) T146.heap _
          rw [e146]
          exact ⟨rfl, N146⟩
        · refine own_step (fun _ k => XS.icmpYes X121.here hx rfl (pc0 := 266) (pc' := 289) rfl (hb hby at_266) rfl (flt hc142).2.1 (by decide) (by decide) k) ?_
          show own_Go p e below P T121 (mkF m 289 #[.val (.int p0), .val (.int p1), .val (.int p2), .val (.int p3), .val (.int kk), .val (.int oo), .val (.int (3 : Int32)), .val (.int pl), .val (.int r0), .val (.int r1), .val (.int r2), .val (.ref b102), .val (.int (own_srt (own_ref r0 kk) (own_ref r1 kk) (own_ref r2 kk) pl)), .val (.ref b108), .val (.int (own_ref r0 kk))] [])
          have hpf := own_plf _ pi (by decide)
          rw [← hpi] at hpf
          refine own_step (fun _ k => XS.iload X121.here hx rfl (hb hby at_289) rfl k) ?_
          show own_Go p e below P T121 (mkF m 291 #[.val (.int p0), .val (.int p1), .val (.int p2), .val (.int p3), .val (.int kk), .val (.int oo), .val (.int (3 : Int32)), .val (.int pl), .val (.int r0), .val (.int r1), .val (.int r2), .val (.ref b102), .val (.int (own_srt (own_ref r0 kk) (own_ref r1 kk) (own_ref r2 kk) pl)), .val (.ref b108), .val (.int (own_ref r0 kk))] [(.int (own_srt (own_ref r0 kk) (own_ref r1 kk) (own_ref r2 kk) pl))])
          refine own_step (fun _ k => XS.aload X121.here hx rfl (hb hby at_291) rfl rfl k) ?_
          show own_Go p e below P T121 (mkF m 293 #[.val (.int p0), .val (.int p1), .val (.int p2), .val (.int p3), .val (.int kk), .val (.int oo), .val (.int (3 : Int32)), .val (.int pl), .val (.int r0), .val (.int r1), .val (.int r2), .val (.ref b102), .val (.int (own_srt (own_ref r0 kk) (own_ref r1 kk) (own_ref r2 kk) pl)), .val (.ref b108), .val (.int (own_ref r0 kk))] [(.ref b108), (.int (own_srt (own_ref r0 kk) (own_ref r1 kk) (own_ref r2 kk) pl))])
          refine own_step (fun _ k => XS.iload X121.here hx rfl (hb hby at_293) rfl k) ?_
          show own_Go p e below P T121 (mkF m 295 #[.val (.int p0), .val (.int p1), .val (.int p2), .val (.int p3), .val (.int kk), .val (.int oo), .val (.int (3 : Int32)), .val (.int pl), .val (.int r0), .val (.int r1), .val (.int r2), .val (.ref b102), .val (.int (own_srt (own_ref r0 kk) (own_ref r1 kk) (own_ref r2 kk) pl)), .val (.ref b108), .val (.int (own_ref r0 kk))] [(.int pl), (.ref b108), (.int (own_srt (own_ref r0 kk) (own_ref r1 kk) (own_ref r2 kk) pl))])
          obtain ⟨cl149, Ar149, -, S149, M149, H149, -⟩ := (id V121)
          have hin149 : ¬ (pl < 0 ∨ cl149.slots.size ≤ (pl).toNatClampNeg) := inb_of S149 ⟨hpf.1, hpf.2.1⟩
          refine own_step (fun t k => X121.iaload hx (j := pl) (v := (.int ([(own_ref r1 kk), (own_ref r0 kk), (own_ref r2 kk)].getD (pl).toNatClampNeg 0))) (by rw [e121]; exact Ar149.1) (State.isArrayOf_alike hZ.alike Ar149.2.1) Ar149.2.2 hin149 (Has.at H149 hin149 (own_gd [(own_ref r1 kk), (own_ref r0 kk), (own_ref r2 kk)] _)) (g := (mkF m 295 #[.val (.int p0), .val (.int p1), .val (.int p2), .val (.int p3), .val (.int kk), .val (.int oo), .val (.int (3 : Int32)), .val (.int pl), .val (.int r0), .val (.int r1), .val (.int r2), .val (.ref b102), .val (.int (own_srt (own_ref r0 kk) (own_ref r1 kk) (own_ref r2 kk) pl)), .val (.ref b108), .val (.int (own_ref r0 kk))] [(.int pl), (.ref b108), (.int (own_srt (own_ref r0 kk) (own_ref r1 kk) (own_ref r2 kk) pl))])) rfl rfl (hb hby at_295) t k) ?_
          show own_Go p e below P T121 (mkF m 296 #[.val (.int p0), .val (.int p1), .val (.int p2), .val (.int p3), .val (.int kk), .val (.int oo), .val (.int (3 : Int32)), .val (.int pl), .val (.int r0), .val (.int r1), .val (.int r2), .val (.ref b102), .val (.int (own_srt (own_ref r0 kk) (own_ref r1 kk) (own_ref r2 kk) pl)), .val (.ref b108), .val (.int (own_ref r0 kk))] [(.int ([(own_ref r1 kk), (own_ref r0 kk), (own_ref r2 kk)].getD (pl).toNatClampNeg 0)), (.int (own_srt (own_ref r0 kk) (own_ref r1 kk) (own_ref r2 kk) pl))])
          refine own_step (fun _ k => XS.icmpNo X121.here hx rfl (hb hby at_296) rfl (teq ((if_pos hc117).trans ((if_neg hc124).trans (if_neg hc142)))).2 k) ?_
          show own_Go p e below P T121 (mkF m 299 #[.val (.int p0), .val (.int p1), .val (.int p2), .val (.int p3), .val (.int kk), .val (.int oo), .val (.int (3 : Int32)), .val (.int pl), .val (.int r0), .val (.int r1), .val (.int r2), .val (.ref b102), .val (.int (own_srt (own_ref r0 kk) (own_ref r1 kk) (own_ref r2 kk) pl)), .val (.ref b108), .val (.int (own_ref r0 kk))] [])
          refine own_step (fun _ k => XS.iconst X121.here hx rfl (hb hby at_299) k) ?_
          show own_Go p e below P T121 (mkF m 300 #[.val (.int p0), .val (.int p1), .val (.int p2), .val (.int p3), .val (.int kk), .val (.int oo), .val (.int (3 : Int32)), .val (.int pl), .val (.int r0), .val (.int r1), .val (.int r2), .val (.ref b102), .val (.int (own_srt (own_ref r0 kk) (own_ref r1 kk) (own_ref r2 kk) pl)), .val (.ref b108), .val (.int (own_ref r0 kk))] [(.int (1 : Int32))])
          refine own_step (fun _ k => XS.goto X121.here hx rfl (pc0 := 300) (pc' := 304) rfl (hb hby at_300) (by decide) (by decide) k) ?_
          show own_Go p e below P T121 (mkF m 304 #[.val (.int p0), .val (.int p1), .val (.int p2), .val (.int p3), .val (.int kk), .val (.int oo), .val (.int (3 : Int32)), .val (.int pl), .val (.int r0), .val (.int r1), .val (.int r2), .val (.ref b102), .val (.int (own_srt (own_ref r0 kk) (own_ref r1 kk) (own_ref r2 kk) pl)), .val (.ref b108), .val (.int (own_ref r0 kk))] [(.int (1 : Int32))])
          obtain ⟨fs, hr, hrun, hended, hW, hsame⟩ := X121.leave (v := some (.int (1 : Int32))) (fun h => by rw [Bd.returns] at h; cases h)
          refine ⟨_, _, retN X121 hx (t := .boolean) Bd.returns (by simp) (hb hby at_304) hr, hrun, hended, hfin _ _ ⟨_, _, rfl, ?_, ⟨_, rfl⟩, hW, hsame.mono (by decide) (by decide)⟩⟩
          show Q0 Z p0 p1 p2 p3 h0 n0 (some (.int (1 : Int32))) T121.heap _
          rw [e121]
          exact ⟨rfl, N121⟩
    · refine own_step (fun _ k => XS.icmpYes X114.here hx rfl (pc0 := 204) (pc' := 227) rfl (hb hby at_204) rfl (flt hc117).2.1 (by decide) (by decide) k) ?_
      show own_Go p e below P T114 (mkF m 227 #[.val (.int p0), .val (.int p1), .val (.int p2), .val (.int p3), .val (.int kk), .val (.int oo), .val (.int (3 : Int32)), .val (.int pl), .val (.int r0), .val (.int r1), .val (.int r2), .val (.ref b102), .val (.int (own_srt (own_ref r0 kk) (own_ref r1 kk) (own_ref r2 kk) pl)), .val (.ref b108), .unset] [])
      refine own_step (fun _ k => XS.aload X114.here hx rfl (hb hby at_227) rfl rfl k) ?_
      show own_Go p e below P T114 (mkF m 229 #[.val (.int p0), .val (.int p1), .val (.int p2), .val (.int p3), .val (.int kk), .val (.int oo), .val (.int (3 : Int32)), .val (.int pl), .val (.int r0), .val (.int r1), .val (.int r2), .val (.ref b102), .val (.int (own_srt (own_ref r0 kk) (own_ref r1 kk) (own_ref r2 kk) pl)), .val (.ref b108), .unset] [(.ref b108)])
      refine own_step (fun _ k => XS.iconst X114.here hx rfl (hb hby at_229) k) ?_
      show own_Go p e below P T114 (mkF m 230 #[.val (.int p0), .val (.int p1), .val (.int p2), .val (.int p3), .val (.int kk), .val (.int oo), .val (.int (3 : Int32)), .val (.int pl), .val (.int r0), .val (.int r1), .val (.int r2), .val (.ref b102), .val (.int (own_srt (own_ref r0 kk) (own_ref r1 kk) (own_ref r2 kk) pl)), .val (.ref b108), .unset] [(.int (1 : Int32)), (.ref b108)])
      obtain ⟨cl151, Ar151, -, S151, M151, H151, -⟩ := (id V114)
      have hin151 : ¬ ((1 : Int32) < 0 ∨ cl151.slots.size ≤ ((1 : Int32)).toNatClampNeg) := inb_of S151 ⟨by decide, by decide⟩
      refine own_step (fun t k => X114.iaload hx (j := (1 : Int32)) (v := (.int (own_ref r1 kk))) (by rw [e114]; exact Ar151.1) (State.isArrayOf_alike hZ.alike Ar151.2.1) Ar151.2.2 hin151 (Has.at H151 hin151 rfl) (g := (mkF m 230 #[.val (.int p0), .val (.int p1), .val (.int p2), .val (.int p3), .val (.int kk), .val (.int oo), .val (.int (3 : Int32)), .val (.int pl), .val (.int r0), .val (.int r1), .val (.int r2), .val (.ref b102), .val (.int (own_srt (own_ref r0 kk) (own_ref r1 kk) (own_ref r2 kk) pl)), .val (.ref b108), .unset] [(.int (1 : Int32)), (.ref b108)])) rfl rfl (hb hby at_230) t k) ?_
      show own_Go p e below P T114 (mkF m 231 #[.val (.int p0), .val (.int p1), .val (.int p2), .val (.int p3), .val (.int kk), .val (.int oo), .val (.int (3 : Int32)), .val (.int pl), .val (.int r0), .val (.int r1), .val (.int r2), .val (.ref b102), .val (.int (own_srt (own_ref r0 kk) (own_ref r1 kk) (own_ref r2 kk) pl)), .val (.ref b108), .unset] [(.int (own_ref r1 kk))])
      refine own_step (fun _ k => XS.aload X114.here hx rfl (hb hby at_231) rfl rfl k) ?_
      show own_Go p e below P T114 (mkF m 233 #[.val (.int p0), .val (.int p1), .val (.int p2), .val (.int p3), .val (.int kk), .val (.int oo), .val (.int (3 : Int32)), .val (.int pl), .val (.int r0), .val (.int r1), .val (.int r2), .val (.ref b102), .val (.int (own_srt (own_ref r0 kk) (own_ref r1 kk) (own_ref r2 kk) pl)), .val (.ref b108), .unset] [(.ref b108), (.int (own_ref r1 kk))])
      refine own_step (fun _ k => XS.iconst X114.here hx rfl (hb hby at_233) k) ?_
      show own_Go p e below P T114 (mkF m 234 #[.val (.int p0), .val (.int p1), .val (.int p2), .val (.int p3), .val (.int kk), .val (.int oo), .val (.int (3 : Int32)), .val (.int pl), .val (.int r0), .val (.int r1), .val (.int r2), .val (.ref b102), .val (.int (own_srt (own_ref r0 kk) (own_ref r1 kk) (own_ref r2 kk) pl)), .val (.ref b108), .unset] [(.int (2 : Int32)), (.ref b108), (.int (own_ref r1 kk))])
      obtain ⟨cl152, Ar152, -, S152, M152, H152, -⟩ := (id V114)
      have hin152 : ¬ ((2 : Int32) < 0 ∨ cl152.slots.size ≤ ((2 : Int32)).toNatClampNeg) := inb_of S152 ⟨by decide, by decide⟩
      refine own_step (fun t k => X114.iaload hx (j := (2 : Int32)) (v := (.int (own_ref r2 kk))) (by rw [e114]; exact Ar152.1) (State.isArrayOf_alike hZ.alike Ar152.2.1) Ar152.2.2 hin152 (Has.at H152 hin152 rfl) (g := (mkF m 234 #[.val (.int p0), .val (.int p1), .val (.int p2), .val (.int p3), .val (.int kk), .val (.int oo), .val (.int (3 : Int32)), .val (.int pl), .val (.int r0), .val (.int r1), .val (.int r2), .val (.ref b102), .val (.int (own_srt (own_ref r0 kk) (own_ref r1 kk) (own_ref r2 kk) pl)), .val (.ref b108), .unset] [(.int (2 : Int32)), (.ref b108), (.int (own_ref r1 kk))])) rfl rfl (hb hby at_234) t k) ?_
      show own_Go p e below P T114 (mkF m 235 #[.val (.int p0), .val (.int p1), .val (.int p2), .val (.int p3), .val (.int kk), .val (.int oo), .val (.int (3 : Int32)), .val (.int pl), .val (.int r0), .val (.int r1), .val (.int r2), .val (.ref b102), .val (.int (own_srt (own_ref r0 kk) (own_ref r1 kk) (own_ref r2 kk) pl)), .val (.ref b108), .unset] [(.int (own_ref r2 kk)), (.int (own_ref r1 kk))])
      by_cases hc153 : (own_ref r1 kk) < (own_ref r2 kk)
      · refine own_step (fun _ k => XS.icmpNo X114.here hx rfl (hb hby at_235) rfl (tlt hc153).2.1 k) ?_
        show own_Go p e below P T114 (mkF m 238 #[.val (.int p0), .val (.int p1), .val (.int p2), .val (.int p3), .val (.int kk), .val (.int oo), .val (.int (3 : Int32)), .val (.int pl), .val (.int r0), .val (.int r1), .val (.int r2), .val (.ref b102), .val (.int (own_srt (own_ref r0 kk) (own_ref r1 kk) (own_ref r2 kk) pl)), .val (.ref b108), .unset] [])
        refine own_step (fun _ k => XS.aload X114.here hx rfl (hb hby at_238) rfl rfl k) ?_
        show own_Go p e below P T114 (mkF m 240 #[.val (.int p0), .val (.int p1), .val (.int p2), .val (.int p3), .val (.int kk), .val (.int oo), .val (.int (3 : Int32)), .val (.int pl), .val (.int r0), .val (.int r1), .val (.int r2), .val (.ref b102), .val (.int (own_srt (own_ref r0 kk) (own_ref r1 kk) (own_ref r2 kk) pl)), .val (.ref b108), .unset] [(.ref b108)])
        refine own_step (fun _ k => XS.iconst X114.here hx rfl (hb hby at_240) k) ?_
        show own_Go p e below P T114 (mkF m 241 #[.val (.int p0), .val (.int p1), .val (.int p2), .val (.int p3), .val (.int kk), .val (.int oo), .val (.int (3 : Int32)), .val (.int pl), .val (.int r0), .val (.int r1), .val (.int r2), .val (.ref b102), .val (.int (own_srt (own_ref r0 kk) (own_ref r1 kk) (own_ref r2 kk) pl)), .val (.ref b108), .unset] [(.int (1 : Int32)), (.ref b108)])
        obtain ⟨cl154, Ar154, -, S154, M154, H154, -⟩ := (id V114)
        have hin154 : ¬ ((1 : Int32) < 0 ∨ cl154.slots.size ≤ ((1 : Int32)).toNatClampNeg) := inb_of S154 ⟨by decide, by decide⟩
        refine own_step (fun t k => X114.iaload hx (j := (1 : Int32)) (v := (.int (own_ref r1 kk))) (by rw [e114]; exact Ar154.1) (State.isArrayOf_alike hZ.alike Ar154.2.1) Ar154.2.2 hin154 (Has.at H154 hin154 rfl) (g := (mkF m 241 #[.val (.int p0), .val (.int p1), .val (.int p2), .val (.int p3), .val (.int kk), .val (.int oo), .val (.int (3 : Int32)), .val (.int pl), .val (.int r0), .val (.int r1), .val (.int r2), .val (.ref b102), .val (.int (own_srt (own_ref r0 kk) (own_ref r1 kk) (own_ref r2 kk) pl)), .val (.ref b108), .unset] [(.int (1 : Int32)), (.ref b108)])) rfl rfl (hb hby at_241) t k) ?_
        show own_Go p e below P T114 (mkF m 242 #[.val (.int p0), .val (.int p1), .val (.int p2), .val (.int p3), .val (.int kk), .val (.int oo), .val (.int (3 : Int32)), .val (.int pl), .val (.int r0), .val (.int r1), .val (.int r2), .val (.ref b102), .val (.int (own_srt (own_ref r0 kk) (own_ref r1 kk) (own_ref r2 kk) pl)), .val (.ref b108), .unset] [(.int (own_ref r1 kk))])
        refine own_step (fun _ k => XS.istore X114.here hx rfl (hb hby at_242) rfl (l' := #[.val (.int p0), .val (.int p1), .val (.int p2), .val (.int p3), .val (.int kk), .val (.int oo), .val (.int (3 : Int32)), .val (.int pl), .val (.int r0), .val (.int r1), .val (.int r2), .val (.ref b102), .val (.int (own_srt (own_ref r0 kk) (own_ref r1 kk) (own_ref r2 kk) pl)), .val (.ref b108), .val (.int (own_ref r1 kk))]) rfl k) ?_
        show own_Go p e below P T114 (mkF m 244 #[.val (.int p0), .val (.int p1), .val (.int p2), .val (.int p3), .val (.int kk), .val (.int oo), .val (.int (3 : Int32)), .val (.int pl), .val (.int r0), .val (.int r1), .val (.int r2), .val (.ref b102), .val (.int (own_srt (own_ref r0 kk) (own_ref r1 kk) (own_ref r2 kk) pl)), .val (.ref b108), .val (.int (own_ref r1 kk))] [])
        refine own_step (fun _ k => XS.aload X114.here hx rfl (hb hby at_244) rfl rfl k) ?_
        show own_Go p e below P T114 (mkF m 246 #[.val (.int p0), .val (.int p1), .val (.int p2), .val (.int p3), .val (.int kk), .val (.int oo), .val (.int (3 : Int32)), .val (.int pl), .val (.int r0), .val (.int r1), .val (.int r2), .val (.ref b102), .val (.int (own_srt (own_ref r0 kk) (own_ref r1 kk) (own_ref r2 kk) pl)), .val (.ref b108), .val (.int (own_ref r1 kk))] [(.ref b108)])
        refine own_step (fun _ k => XS.iconst X114.here hx rfl (hb hby at_246) k) ?_
        show own_Go p e below P T114 (mkF m 247 #[.val (.int p0), .val (.int p1), .val (.int p2), .val (.int p3), .val (.int kk), .val (.int oo), .val (.int (3 : Int32)), .val (.int pl), .val (.int r0), .val (.int r1), .val (.int r2), .val (.ref b102), .val (.int (own_srt (own_ref r0 kk) (own_ref r1 kk) (own_ref r2 kk) pl)), .val (.ref b108), .val (.int (own_ref r1 kk))] [(.int (1 : Int32)), (.ref b108)])
        refine own_step (fun _ k => XS.aload X114.here hx rfl (hb hby at_247) rfl rfl k) ?_
        show own_Go p e below P T114 (mkF m 249 #[.val (.int p0), .val (.int p1), .val (.int p2), .val (.int p3), .val (.int kk), .val (.int oo), .val (.int (3 : Int32)), .val (.int pl), .val (.int r0), .val (.int r1), .val (.int r2), .val (.ref b102), .val (.int (own_srt (own_ref r0 kk) (own_ref r1 kk) (own_ref r2 kk) pl)), .val (.ref b108), .val (.int (own_ref r1 kk))] [(.ref b108), (.int (1 : Int32)), (.ref b108)])
        refine own_step (fun _ k => XS.iconst X114.here hx rfl (hb hby at_249) k) ?_
        show own_Go p e below P T114 (mkF m 250 #[.val (.int p0), .val (.int p1), .val (.int p2), .val (.int p3), .val (.int kk), .val (.int oo), .val (.int (3 : Int32)), .val (.int pl), .val (.int r0), .val (.int r1), .val (.int r2), .val (.ref b102), .val (.int (own_srt (own_ref r0 kk) (own_ref r1 kk) (own_ref r2 kk) pl)), .val (.ref b108), .val (.int (own_ref r1 kk))] [(.int (2 : Int32)), (.ref b108), (.int (1 : Int32)), (.ref b108)])
        obtain ⟨cl155, Ar155, -, S155, M155, H155, -⟩ := (id V114)
        have hin155 : ¬ ((2 : Int32) < 0 ∨ cl155.slots.size ≤ ((2 : Int32)).toNatClampNeg) := inb_of S155 ⟨by decide, by decide⟩
        refine own_step (fun t k => X114.iaload hx (j := (2 : Int32)) (v := (.int (own_ref r2 kk))) (by rw [e114]; exact Ar155.1) (State.isArrayOf_alike hZ.alike Ar155.2.1) Ar155.2.2 hin155 (Has.at H155 hin155 rfl) (g := (mkF m 250 #[.val (.int p0), .val (.int p1), .val (.int p2), .val (.int p3), .val (.int kk), .val (.int oo), .val (.int (3 : Int32)), .val (.int pl), .val (.int r0), .val (.int r1), .val (.int r2), .val (.ref b102), .val (.int (own_srt (own_ref r0 kk) (own_ref r1 kk) (own_ref r2 kk) pl)), .val (.ref b108), .val (.int (own_ref r1 kk))] [(.int (2 : Int32)), (.ref b108), (.int (1 : Int32)), (.ref b108)])) rfl rfl (hb hby at_250) t k) ?_
        show own_Go p e below P T114 (mkF m 251 #[.val (.int p0), .val (.int p1), .val (.int p2), .val (.int p3), .val (.int kk), .val (.int oo), .val (.int (3 : Int32)), .val (.int pl), .val (.int r0), .val (.int r1), .val (.int r2), .val (.ref b102), .val (.int (own_srt (own_ref r0 kk) (own_ref r1 kk) (own_ref r2 kk) pl)), .val (.ref b108), .val (.int (own_ref r1 kk))] [(.int (own_ref r2 kk)), (.int (1 : Int32)), (.ref b108)])
        obtain ⟨cl156, Ar156, q156, S156, M156, H156, G156⟩ := (id V114)
        have hin156 : ¬ ((1 : Int32) < 0 ∨ cl156.slots.size ≤ ((1 : Int32)).toNatClampNeg) := inb_of S156 ⟨by decide, by decide⟩
        obtain ⟨T156, h156, X156, e156, W156, st156⟩ := stI X114 hx hZ e114 Ar156 (j := (1 : Int32)) hin156 (g := (mkF m 251 #[.val (.int p0), .val (.int p1), .val (.int p2), .val (.int p3), .val (.int kk), .val (.int oo), .val (.int (3 : Int32)), .val (.int pl), .val (.int r0), .val (.int r1), .val (.int r2), .val (.ref b102), .val (.int (own_srt (own_ref r0 kk) (own_ref r1 kk) (own_ref r2 kk) pl)), .val (.ref b108), .val (.int (own_ref r1 kk))] [(.int (own_ref r2 kk)), (.int (1 : Int32)), (.ref b108)])) rfl rfl (hb hby at_251)
        have V156 : Arv Z h156 b108 k108 .int (3 : Int32) [(.int (own_ref r0 kk)), (.int (own_ref r2 kk)), (.int (own_ref r2 kk))] (.int (0 : Int32)) := Arv.set Ar156 q156 S156 M156 H156 G156 rfl W156 1 rfl (Nat.le_of_ble_eq_true rfl)
        have N156 := Fr.snoc X156 N114 g_b108
        refine own_step st156 ?_
        show own_Go p e below P T156 (mkF m 252 #[.val (.int p0), .val (.int p1), .val (.int p2), .val (.int p3), .val (.int kk), .val (.int oo), .val (.int (3 : Int32)), .val (.int pl), .val (.int r0), .val (.int r1), .val (.int r2), .val (.ref b102), .val (.int (own_srt (own_ref r0 kk) (own_ref r1 kk) (own_ref r2 kk) pl)), .val (.ref b108), .val (.int (own_ref r1 kk))] [])
        refine own_step (fun _ k => XS.aload X156.here hx rfl (hb hby at_252) rfl rfl k) ?_
        show own_Go p e below P T156 (mkF m 254 #[.val (.int p0), .val (.int p1), .val (.int p2), .val (.int p3), .val (.int kk), .val (.int oo), .val (.int (3 : Int32)), .val (.int pl), .val (.int r0), .val (.int r1), .val (.int r2), .val (.ref b102), .val (.int (own_srt (own_ref r0 kk) (own_ref r1 kk) (own_ref r2 kk) pl)), .val (.ref b108), .val (.int (own_ref r1 kk))] [(.ref b108)])
        refine own_step (fun _ k => XS.iconst X156.here hx rfl (hb hby at_254) k) ?_
        show own_Go p e below P T156 (mkF m 255 #[.val (.int p0), .val (.int p1), .val (.int p2), .val (.int p3), .val (.int kk), .val (.int oo), .val (.int (3 : Int32)), .val (.int pl), .val (.int r0), .val (.int r1), .val (.int r2), .val (.ref b102), .val (.int (own_srt (own_ref r0 kk) (own_ref r1 kk) (own_ref r2 kk) pl)), .val (.ref b108), .val (.int (own_ref r1 kk))] [(.int (2 : Int32)), (.ref b108)])
        refine own_step (fun _ k => XS.iload X156.here hx rfl (hb hby at_255) rfl k) ?_
        show own_Go p e below P T156 (mkF m 257 #[.val (.int p0), .val (.int p1), .val (.int p2), .val (.int p3), .val (.int kk), .val (.int oo), .val (.int (3 : Int32)), .val (.int pl), .val (.int r0), .val (.int r1), .val (.int r2), .val (.ref b102), .val (.int (own_srt (own_ref r0 kk) (own_ref r1 kk) (own_ref r2 kk) pl)), .val (.ref b108), .val (.int (own_ref r1 kk))] [(.int (own_ref r1 kk)), (.int (2 : Int32)), (.ref b108)])
        obtain ⟨cl157, Ar157, q157, S157, M157, H157, G157⟩ := (id V156)
        have hin157 : ¬ ((2 : Int32) < 0 ∨ cl157.slots.size ≤ ((2 : Int32)).toNatClampNeg) := inb_of S157 ⟨by decide, by decide⟩
        obtain ⟨T157, h157, X157, e157, W157, st157⟩ := stI X156 hx hZ e156 Ar157 (j := (2 : Int32)) hin157 (g := (mkF m 257 #[.val (.int p0), .val (.int p1), .val (.int p2), .val (.int p3), .val (.int kk), .val (.int oo), .val (.int (3 : Int32)), .val (.int pl), .val (.int r0), .val (.int r1), .val (.int r2), .val (.ref b102), .val (.int (own_srt (own_ref r0 kk) (own_ref r1 kk) (own_ref r2 kk) pl)), .val (.ref b108), .val (.int (own_ref r1 kk))] [(.int (own_ref r1 kk)), (.int (2 : Int32)), (.ref b108)])) rfl rfl (hb hby at_257)
        have V157 : Arv Z h157 b108 k108 .int (3 : Int32) [(.int (own_ref r0 kk)), (.int (own_ref r2 kk)), (.int (own_ref r1 kk))] (.int (0 : Int32)) := Arv.set Ar157 q157 S157 M157 H157 G157 rfl W157 2 rfl (Nat.le_of_ble_eq_true rfl)
        have N157 := Fr.snoc X157 N156 g_b108
        refine own_step st157 ?_
        show own_Go p e below P T157 (mkF m 258 #[.val (.int p0), .val (.int p1), .val (.int p2), .val (.int p3), .val (.int kk), .val (.int oo), .val (.int (3 : Int32)), .val (.int pl), .val (.int r0), .val (.int r1), .val (.int r2), .val (.ref b102), .val (.int (own_srt (own_ref r0 kk) (own_ref r1 kk) (own_ref r2 kk) pl)), .val (.ref b108), .val (.int (own_ref r1 kk))] [])
        refine own_step (fun _ k => XS.aload X157.here hx rfl (hb hby at_258) rfl rfl k) ?_
        show own_Go p e below P T157 (mkF m 260 #[.val (.int p0), .val (.int p1), .val (.int p2), .val (.int p3), .val (.int kk), .val (.int oo), .val (.int (3 : Int32)), .val (.int pl), .val (.int r0), .val (.int r1), .val (.int r2), .val (.ref b102), .val (.int (own_srt (own_ref r0 kk) (own_ref r1 kk) (own_ref r2 kk) pl)), .val (.ref b108), .val (.int (own_ref r1 kk))] [(.ref b108)])
        refine own_step (fun _ k => XS.iconst X157.here hx rfl (hb hby at_260) k) ?_
        show own_Go p e below P T157 (mkF m 261 #[.val (.int p0), .val (.int p1), .val (.int p2), .val (.int p3), .val (.int kk), .val (.int oo), .val (.int (3 : Int32)), .val (.int pl), .val (.int r0), .val (.int r1), .val (.int r2), .val (.ref b102), .val (.int (own_srt (own_ref r0 kk) (own_ref r1 kk) (own_ref r2 kk) pl)), .val (.ref b108), .val (.int (own_ref r1 kk))] [(.int (0 : Int32)), (.ref b108)])
        obtain ⟨cl158, Ar158, -, S158, M158, H158, -⟩ := (id V157)
        have hin158 : ¬ ((0 : Int32) < 0 ∨ cl158.slots.size ≤ ((0 : Int32)).toNatClampNeg) := inb_of S158 ⟨by decide, by decide⟩
        refine own_step (fun t k => X157.iaload hx (j := (0 : Int32)) (v := (.int (own_ref r0 kk))) (by rw [e157]; exact Ar158.1) (State.isArrayOf_alike hZ.alike Ar158.2.1) Ar158.2.2 hin158 (Has.at H158 hin158 rfl) (g := (mkF m 261 #[.val (.int p0), .val (.int p1), .val (.int p2), .val (.int p3), .val (.int kk), .val (.int oo), .val (.int (3 : Int32)), .val (.int pl), .val (.int r0), .val (.int r1), .val (.int r2), .val (.ref b102), .val (.int (own_srt (own_ref r0 kk) (own_ref r1 kk) (own_ref r2 kk) pl)), .val (.ref b108), .val (.int (own_ref r1 kk))] [(.int (0 : Int32)), (.ref b108)])) rfl rfl (hb hby at_261) t k) ?_
        show own_Go p e below P T157 (mkF m 262 #[.val (.int p0), .val (.int p1), .val (.int p2), .val (.int p3), .val (.int kk), .val (.int oo), .val (.int (3 : Int32)), .val (.int pl), .val (.int r0), .val (.int r1), .val (.int r2), .val (.ref b102), .val (.int (own_srt (own_ref r0 kk) (own_ref r1 kk) (own_ref r2 kk) pl)), .val (.ref b108), .val (.int (own_ref r1 kk))] [(.int (own_ref r0 kk))])
        refine own_step (fun _ k => XS.aload X157.here hx rfl (hb hby at_262) rfl rfl k) ?_
        show own_Go p e below P T157 (mkF m 264 #[.val (.int p0), .val (.int p1), .val (.int p2), .val (.int p3), .val (.int kk), .val (.int oo), .val (.int (3 : Int32)), .val (.int pl), .val (.int r0), .val (.int r1), .val (.int r2), .val (.ref b102), .val (.int (own_srt (own_ref r0 kk) (own_ref r1 kk) (own_ref r2 kk) pl)), .val (.ref b108), .val (.int (own_ref r1 kk))] [(.ref b108), (.int (own_ref r0 kk))])
        refine own_step (fun _ k => XS.iconst X157.here hx rfl (hb hby at_264) k) ?_
        show own_Go p e below P T157 (mkF m 265 #[.val (.int p0), .val (.int p1), .val (.int p2), .val (.int p3), .val (.int kk), .val (.int oo), .val (.int (3 : Int32)), .val (.int pl), .val (.int r0), .val (.int r1), .val (.int r2), .val (.ref b102), .val (.int (own_srt (own_ref r0 kk) (own_ref r1 kk) (own_ref r2 kk) pl)), .val (.ref b108), .val (.int (own_ref r1 kk))] [(.int (1 : Int32)), (.ref b108), (.int (own_ref r0 kk))])
        obtain ⟨cl159, Ar159, -, S159, M159, H159, -⟩ := (id V157)
        have hin159 : ¬ ((1 : Int32) < 0 ∨ cl159.slots.size ≤ ((1 : Int32)).toNatClampNeg) := inb_of S159 ⟨by decide, by decide⟩
        refine own_step (fun t k => X157.iaload hx (j := (1 : Int32)) (v := (.int (own_ref r2 kk))) (by rw [e157]; exact Ar159.1) (State.isArrayOf_alike hZ.alike Ar159.2.1) Ar159.2.2 hin159 (Has.at H159 hin159 rfl) (g := (mkF m 265 #[.val (.int p0), .val (.int p1), .val (.int p2), .val (.int p3), .val (.int kk), .val (.int oo), .val (.int (3 : Int32)), .val (.int pl), .val (.int r0), .val (.int r1), .val (.int r2), .val (.ref b102), .val (.int (own_srt (own_ref r0 kk) (own_ref r1 kk) (own_ref r2 kk) pl)), .val (.ref b108), .val (.int (own_ref r1 kk))] [(.int (1 : Int32)), (.ref b108), (.int (own_ref r0 kk))])) rfl rfl (hb hby at_265) t k) ?_
        show own_Go p e below P T157 (mkF m 266 #[.val (.int p0), .val (.int p1), .val (.int p2), .val (.int p3), .val (.int kk), .val (.int oo), .val (.int (3 : Int32)), .val (.int pl), .val (.int r0), .val (.int r1), .val (.int r2), .val (.ref b102), .val (.int (own_srt (own_ref r0 kk) (own_ref r1 kk) (own_ref r2 kk) pl)), .val (.ref b108), .val (.int (own_ref r1 kk))] [(.int (own_ref r2 kk)), (.int (own_ref r0 kk))])
        by_cases hc160 : (own_ref r0 kk) < (own_ref r2 kk)
        · refine own_step (fun _ k => XS.icmpNo X157.here hx rfl (hb hby at_266) rfl (tlt hc160).2.1 k) ?_
          show own_Go p e below P T157 (mkF m 269 #[.val (.int p0), .val (.int p1), .val (.int p2), .val (.int p3), .val (.int kk), .val (.int oo), .val (.int (3 : Int32)), .val (.int pl), .val (.int r0), .val (.int r1), .val (.int r2), .val (.ref b102), .val (.int (own_srt (own_ref r0 kk) (own_ref r1 kk) (own_ref r2 kk) pl)), .val (.ref b108), .val (.int (own_ref r1 kk))] [])
          refine own_step (fun _ k => XS.aload X157.here hx rfl (hb hby at_269) rfl rfl k) ?_
          show own_Go p e below P T157 (mkF m 271 #[.val (.int p0), .val (.int p1), .val (.int p2), .val (.int p3), .val (.int kk), .val (.int oo), .val (.int (3 : Int32)), .val (.int pl), .val (.int r0), .val (.int r1), .val (.int r2), .val (.ref b102), .val (.int (own_srt (own_ref r0 kk) (own_ref r1 kk) (own_ref r2 kk) pl)), .val (.ref b108), .val (.int (own_ref r1 kk))] [(.ref b108)])
          refine own_step (fun _ k => XS.iconst X157.here hx rfl (hb hby at_271) k) ?_
          show own_Go p e below P T157 (mkF m 272 #[.val (.int p0), .val (.int p1), .val (.int p2), .val (.int p3), .val (.int kk), .val (.int oo), .val (.int (3 : Int32)), .val (.int pl), .val (.int r0), .val (.int r1), .val (.int r2), .val (.ref b102), .val (.int (own_srt (own_ref r0 kk) (own_ref r1 kk) (own_ref r2 kk) pl)), .val (.ref b108), .val (.int (own_ref r1 kk))] [(.int (0 : Int32)), (.ref b108)])
          obtain ⟨cl161, Ar161, -, S161, M161, H161, -⟩ := (id V157)
          have hin161 : ¬ ((0 : Int32) < 0 ∨ cl161.slots.size ≤ ((0 : Int32)).toNatClampNeg) := inb_of S161 ⟨by decide, by decide⟩
          refine own_step (fun t k => X157.iaload hx (j := (0 : Int32)) (v := (.int (own_ref r0 kk))) (by rw [e157]; exact Ar161.1) (State.isArrayOf_alike hZ.alike Ar161.2.1) Ar161.2.2 hin161 (Has.at H161 hin161 rfl) (g := (mkF m 272 #[.val (.int p0), .val (.int p1), .val (.int p2), .val (.int p3), .val (.int kk), .val (.int oo), .val (.int (3 : Int32)), .val (.int pl), .val (.int r0), .val (.int r1), .val (.int r2), .val (.ref b102), .val (.int (own_srt (own_ref r0 kk) (own_ref r1 kk) (own_ref r2 kk) pl)), .val (.ref b108), .val (.int (own_ref r1 kk))] [(.int (0 : Int32)), (.ref b108)])) rfl rfl (hb hby at_272) t k) ?_
          show own_Go p e below P T157 (mkF m 273 #[.val (.int p0), .val (.int p1), .val (.int p2), .val (.int p3), .val (.int kk), .val (.int oo), .val (.int (3 : Int32)), .val (.int pl), .val (.int r0), .val (.int r1), .val (.int r2), .val (.ref b102), .val (.int (own_srt (own_ref r0 kk) (own_ref r1 kk) (own_ref r2 kk) pl)), .val (.ref b108), .val (.int (own_ref r1 kk))] [(.int (own_ref r0 kk))])
          refine own_step (fun _ k => XS.istore X157.here hx rfl (hb hby at_273) rfl (l' := #[.val (.int p0), .val (.int p1), .val (.int p2), .val (.int p3), .val (.int kk), .val (.int oo), .val (.int (3 : Int32)), .val (.int pl), .val (.int r0), .val (.int r1), .val (.int r2), .val (.ref b102), .val (.int (own_srt (own_ref r0 kk) (own_ref r1 kk) (own_ref r2 kk) pl)), .val (.ref b108), .val (.int (own_ref r0 kk))]) rfl k) ?_
          show own_Go p e below P T157 (mkF m 275 #[.val (.int p0), .val (.int p1), .val (.int p2), .val (.int p3), .val (.int kk), .val (.int oo), .val (.int (3 : Int32)), .val (.int pl), .val (.int r0), .val (.int r1), .val (.int r2), .val (.ref b102), .val (.int (own_srt (own_ref r0 kk) (own_ref r1 kk) (own_ref r2 kk) pl)), .val (.ref b108), .val (.int (own_ref r0 kk))] [])
          refine own_step (fun _ k => XS.aload X157.here hx rfl (hb hby at_275) rfl rfl k) ?_
          show own_Go p e below P T157 (mkF m 277 #[.val (.int p0), .val (.int p1), .val (.int p2), .val (.int p3), .val (.int kk), .val (.int oo), .val (.int (3 : Int32)), .val (.int pl), .val (.int r0), .val (.int r1), .val (.int r2), .val (.ref b102), .val (.int (own_srt (own_ref r0 kk) (own_ref r1 kk) (own_ref r2 kk) pl)), .val (.ref b108), .val (.int (own_ref r0 kk))] [(.ref b108)])
          refine own_step (fun _ k => XS.iconst X157.here hx rfl (hb hby at_277) k) ?_
          show own_Go p e below P T157 (mkF m 278 #[.val (.int p0), .val (.int p1), .val (.int p2), .val (.int p3), .val (.int kk), .val (.int oo), .val (.int (3 : Int32)), .val (.int pl), .val (.int r0), .val (.int r1), .val (.int r2), .val (.ref b102), .val (.int (own_srt (own_ref r0 kk) (own_ref r1 kk) (own_ref r2 kk) pl)), .val (.ref b108), .val (.int (own_ref r0 kk))] [(.int (0 : Int32)), (.ref b108)])
          refine own_step (fun _ k => XS.aload X157.here hx rfl (hb hby at_278) rfl rfl k) ?_
          show own_Go p e below P T157 (mkF m 280 #[.val (.int p0), .val (.int p1), .val (.int p2), .val (.int p3), .val (.int kk), .val (.int oo), .val (.int (3 : Int32)), .val (.int pl), .val (.int r0), .val (.int r1), .val (.int r2), .val (.ref b102), .val (.int (own_srt (own_ref r0 kk) (own_ref r1 kk) (own_ref r2 kk) pl)), .val (.ref b108), .val (.int (own_ref r0 kk))] [(.ref b108), (.int (0 : Int32)), (.ref b108)])
          refine own_step (fun _ k => XS.iconst X157.here hx rfl (hb hby at_280) k) ?_
          show own_Go p e below P T157 (mkF m 281 #[.val (.int p0), .val (.int p1), .val (.int p2), .val (.int p3), .val (.int kk), .val (.int oo), .val (.int (3 : Int32)), .val (.int pl), .val (.int r0), .val (.int r1), .val (.int r2), .val (.ref b102), .val (.int (own_srt (own_ref r0 kk) (own_ref r1 kk) (own_ref r2 kk) pl)), .val (.ref b108), .val (.int (own_ref r0 kk))] [(.int (1 : Int32)), (.ref b108), (.int (0 : Int32)), (.ref b108)])
          obtain ⟨cl162, Ar162, -, S162, M162, H162, -⟩ := (id V157)
          have hin162 : ¬ ((1 : Int32) < 0 ∨ cl162.slots.size ≤ ((1 : Int32)).toNatClampNeg) := inb_of S162 ⟨by decide, by decide⟩
          refine own_step (fun t k => X157.iaload hx (j := (1 : Int32)) (v := (.int (own_ref r2 kk))) (by rw [e157]; exact Ar162.1) (State.isArrayOf_alike hZ.alike Ar162.2.1) Ar162.2.2 hin162 (Has.at H162 hin162 rfl) (g := (mkF m 281 #[.val (.int p0), .val (.int p1), .val (.int p2), .val (.int p3), .val (.int kk), .val (.int oo), .val (.int (3 : Int32)), .val (.int pl), .val (.int r0), .val (.int r1), .val (.int r2), .val (.ref b102), .val (.int (own_srt (own_ref r0 kk) (own_ref r1 kk) (own_ref r2 kk) pl)), .val (.ref b108), .val (.int (own_ref r0 kk))] [(.int (1 : Int32)), (.ref b108), (.int (0 : Int32)), (.ref b108)])) rfl rfl (hb hby at_281) t k) ?_
          show own_Go p e below P T157 (mkF m 282 #[.val (.int p0), .val (.int p1), .val (.int p2), .val (.int p3), .val (.int kk), .val (.int oo), .val (.int (3 : Int32)), .val (.int pl), .val (.int r0), .val (.int r1), .val (.int r2), .val (.ref b102), .val (.int (own_srt (own_ref r0 kk) (own_ref r1 kk) (own_ref r2 kk) pl)), .val (.ref b108), .val (.int (own_ref r0 kk))] [(.int (own_ref r2 kk)), (.int (0 : Int32)), (.ref b108)])
          obtain ⟨cl163, Ar163, q163, S163, M163, H163, G163⟩ := (id V157)
          have hin163 : ¬ ((0 : Int32) < 0 ∨ cl163.slots.size ≤ ((0 : Int32)).toNatClampNeg) := inb_of S163 ⟨by decide, by decide⟩
          obtain ⟨T163, h163, X163, e163, W163, st163⟩ := stI X157 hx hZ e157 Ar163 (j := (0 : Int32)) hin163 (g := (mkF m 282 #[.val (.int p0), .val (.int p1), .val (.int p2), .val (.int p3), .val (.int kk), .val (.int oo), .val (.int (3 : Int32)), .val (.int pl), .val (.int r0), .val (.int r1), .val (.int r2), .val (.ref b102), .val (.int (own_srt (own_ref r0 kk) (own_ref r1 kk) (own_ref r2 kk) pl)), .val (.ref b108), .val (.int (own_ref r0 kk))] [(.int (own_ref r2 kk)), (.int (0 : Int32)), (.ref b108)])) rfl rfl (hb hby at_282)
          have V163 : Arv Z h163 b108 k108 .int (3 : Int32) [(.int (own_ref r2 kk)), (.int (own_ref r2 kk)), (.int (own_ref r1 kk))] (.int (0 : Int32)) := Arv.set Ar163 q163 S163 M163 H163 G163 rfl W163 0 rfl (Nat.le_of_ble_eq_true rfl)
          have N163 := Fr.snoc X163 N157 g_b108
          refine own_step st163 ?_
          show own_Go p e below P T163 (mkF m 283 #[.val (.int p0), .val (.int p1), .val (.int p2), .val (.int p3), .val (.int kk), .val (.int oo), .val (.int (3 : Int32)), .val (.int pl), .val (.int r0), .val (.int r1), .val (.int r2), .val (.ref b102), .val (.int (own_srt (own_ref r0 kk) (own_ref r1 kk) (own_ref r2 kk) pl)), .val (.ref b108), .val (.int (own_ref r0 kk))] [])
          refine own_step (fun _ k => XS.aload X163.here hx rfl (hb hby at_283) rfl rfl k) ?_
          show own_Go p e below P T163 (mkF m 285 #[.val (.int p0), .val (.int p1), .val (.int p2), .val (.int p3), .val (.int kk), .val (.int oo), .val (.int (3 : Int32)), .val (.int pl), .val (.int r0), .val (.int r1), .val (.int r2), .val (.ref b102), .val (.int (own_srt (own_ref r0 kk) (own_ref r1 kk) (own_ref r2 kk) pl)), .val (.ref b108), .val (.int (own_ref r0 kk))] [(.ref b108)])
          refine own_step (fun _ k => XS.iconst X163.here hx rfl (hb hby at_285) k) ?_
          show own_Go p e below P T163 (mkF m 286 #[.val (.int p0), .val (.int p1), .val (.int p2), .val (.int p3), .val (.int kk), .val (.int oo), .val (.int (3 : Int32)), .val (.int pl), .val (.int r0), .val (.int r1), .val (.int r2), .val (.ref b102), .val (.int (own_srt (own_ref r0 kk) (own_ref r1 kk) (own_ref r2 kk) pl)), .val (.ref b108), .val (.int (own_ref r0 kk))] [(.int (1 : Int32)), (.ref b108)])
          refine own_step (fun _ k => XS.iload X163.here hx rfl (hb hby at_286) rfl k) ?_
          show own_Go p e below P T163 (mkF m 288 #[.val (.int p0), .val (.int p1), .val (.int p2), .val (.int p3), .val (.int kk), .val (.int oo), .val (.int (3 : Int32)), .val (.int pl), .val (.int r0), .val (.int r1), .val (.int r2), .val (.ref b102), .val (.int (own_srt (own_ref r0 kk) (own_ref r1 kk) (own_ref r2 kk) pl)), .val (.ref b108), .val (.int (own_ref r0 kk))] [(.int (own_ref r0 kk)), (.int (1 : Int32)), (.ref b108)])
          obtain ⟨cl164, Ar164, q164, S164, M164, H164, G164⟩ := (id V163)
          have hin164 : ¬ ((1 : Int32) < 0 ∨ cl164.slots.size ≤ ((1 : Int32)).toNatClampNeg) := inb_of S164 ⟨by decide, by decide⟩
          obtain ⟨T164, h164, X164, e164, W164, st164⟩ := stI X163 hx hZ e163 Ar164 (j := (1 : Int32)) hin164 (g := (mkF m 288 #[.val (.int p0), .val (.int p1), .val (.int p2), .val (.int p3), .val (.int kk), .val (.int oo), .val (.int (3 : Int32)), .val (.int pl), .val (.int r0), .val (.int r1), .val (.int r2), .val (.ref b102), .val (.int (own_srt (own_ref r0 kk) (own_ref r1 kk) (own_ref r2 kk) pl)), .val (.ref b108), .val (.int (own_ref r0 kk))] [(.int (own_ref r0 kk)), (.int (1 : Int32)), (.ref b108)])) rfl rfl (hb hby at_288)
          have V164 : Arv Z h164 b108 k108 .int (3 : Int32) [(.int (own_ref r2 kk)), (.int (own_ref r0 kk)), (.int (own_ref r1 kk))] (.int (0 : Int32)) := Arv.set Ar164 q164 S164 M164 H164 G164 rfl W164 1 rfl (Nat.le_of_ble_eq_true rfl)
          have N164 := Fr.snoc X164 N163 g_b108
          refine own_step st164 ?_
          show own_Go p e below P T164 (mkF m 289 #[.val (.int p0), .val (.int p1), .val (.int p2), .val (.int p3), .val (.int kk), .val (.int oo), .val (.int (3 : Int32)), .val (.int pl), .val (.int r0), .val (.int r1), .val (.int r2), .val (.ref b102), .val (.int (own_srt (own_ref r0 kk) (own_ref r1 kk) (own_ref r2 kk) pl)), .val (.ref b108), .val (.int (own_ref r0 kk))] [])
          have hpf := own_plf _ pi (by decide)
          rw [← hpi] at hpf
          refine own_step (fun _ k => XS.iload X164.here hx rfl (hb hby at_289) rfl k) ?_
          show own_Go p e below P T164 (mkF m 291 #[.val (.int p0), .val (.int p1), .val (.int p2), .val (.int p3), .val (.int kk), .val (.int oo), .val (.int (3 : Int32)), .val (.int pl), .val (.int r0), .val (.int r1), .val (.int r2), .val (.ref b102), .val (.int (own_srt (own_ref r0 kk) (own_ref r1 kk) (own_ref r2 kk) pl)), .val (.ref b108), .val (.int (own_ref r0 kk))] [(.int (own_srt (own_ref r0 kk) (own_ref r1 kk) (own_ref r2 kk) pl))])
          refine own_step (fun _ k => XS.aload X164.here hx rfl (hb hby at_291) rfl rfl k) ?_
          show own_Go p e below P T164 (mkF m 293 #[.val (.int p0), .val (.int p1), .val (.int p2), .val (.int p3), .val (.int kk), .val (.int oo), .val (.int (3 : Int32)), .val (.int pl), .val (.int r0), .val (.int r1), .val (.int r2), .val (.ref b102), .val (.int (own_srt (own_ref r0 kk) (own_ref r1 kk) (own_ref r2 kk) pl)), .val (.ref b108), .val (.int (own_ref r0 kk))] [(.ref b108), (.int (own_srt (own_ref r0 kk) (own_ref r1 kk) (own_ref r2 kk) pl))])
          refine own_step (fun _ k => XS.iload X164.here hx rfl (hb hby at_293) rfl k) ?_
          show own_Go p e below P T164 (mkF m 295 #[.val (.int p0), .val (.int p1), .val (.int p2), .val (.int p3), .val (.int kk), .val (.int oo), .val (.int (3 : Int32)), .val (.int pl), .val (.int r0), .val (.int r1), .val (.int r2), .val (.ref b102), .val (.int (own_srt (own_ref r0 kk) (own_ref r1 kk) (own_ref r2 kk) pl)), .val (.ref b108), .val (.int (own_ref r0 kk))] [(.int pl), (.ref b108), (.int (own_srt (own_ref r0 kk) (own_ref r1 kk) (own_ref r2 kk) pl))])
          obtain ⟨cl165, Ar165, -, S165, M165, H165, -⟩ := (id V164)
          have hin165 : ¬ (pl < 0 ∨ cl165.slots.size ≤ (pl).toNatClampNeg) := inb_of S165 ⟨hpf.1, hpf.2.1⟩
          refine own_step (fun t k => X164.iaload hx (j := pl) (v := (.int ([(own_ref r2 kk), (own_ref r0 kk), (own_ref r1 kk)].getD (pl).toNatClampNeg 0))) (by rw [e164]; exact Ar165.1) (State.isArrayOf_alike hZ.alike Ar165.2.1) Ar165.2.2 hin165 (Has.at H165 hin165 (own_gd [(own_ref r2 kk), (own_ref r0 kk), (own_ref r1 kk)] _)) (g := (mkF m 295 #[.val (.int p0), .val (.int p1), .val (.int p2), .val (.int p3), .val (.int kk), .val (.int oo), .val (.int (3 : Int32)), .val (.int pl), .val (.int r0), .val (.int r1), .val (.int r2), .val (.ref b102), .val (.int (own_srt (own_ref r0 kk) (own_ref r1 kk) (own_ref r2 kk) pl)), .val (.ref b108), .val (.int (own_ref r0 kk))] [(.int pl), (.ref b108), (.int (own_srt (own_ref r0 kk) (own_ref r1 kk) (own_ref r2 kk) pl))])) rfl rfl (hb hby at_295) t k) ?_
          show own_Go p e below P T164 (mkF m 296 #[.val (.int p0), .val (.int p1), .val (.int p2), .val (.int p3), .val (.int kk), .val (.int oo), .val (.int (3 : Int32)), .val (.int pl), .val (.int r0), .val (.int r1), .val (.int r2), .val (.ref b102), .val (.int (own_srt (own_ref r0 kk) (own_ref r1 kk) (own_ref r2 kk) pl)), .val (.ref b108), .val (.int (own_ref r0 kk))] [(.int ([(own_ref r2 kk), (own_ref r0 kk), (own_ref r1 kk)].getD (pl).toNatClampNeg 0)), (.int (own_srt (own_ref r0 kk) (own_ref r1 kk) (own_ref r2 kk) pl))])
          refine own_step (fun _ k => XS.icmpNo X164.here hx rfl (hb hby at_296) rfl (teq ((if_neg hc117).trans ((if_pos hc153).trans (if_pos hc160)))).2 k) ?_
          show own_Go p e below P T164 (mkF m 299 #[.val (.int p0), .val (.int p1), .val (.int p2), .val (.int p3), .val (.int kk), .val (.int oo), .val (.int (3 : Int32)), .val (.int pl), .val (.int r0), .val (.int r1), .val (.int r2), .val (.ref b102), .val (.int (own_srt (own_ref r0 kk) (own_ref r1 kk) (own_ref r2 kk) pl)), .val (.ref b108), .val (.int (own_ref r0 kk))] [])
          refine own_step (fun _ k => XS.iconst X164.here hx rfl (hb hby at_299) k) ?_
          show own_Go p e below P T164 (mkF m 300 #[.val (.int p0), .val (.int p1), .val (.int p2), .val (.int p3), .val (.int kk), .val (.int oo), .val (.int (3 : Int32)), .val (.int pl), .val (.int r0), .val (.int r1), .val (.int r2), .val (.ref b102), .val (.int (own_srt (own_ref r0 kk) (own_ref r1 kk) (own_ref r2 kk) pl)), .val (.ref b108), .val (.int (own_ref r0 kk))] [(.int (1 : Int32))])
          refine own_step (fun _ k => XS.goto X164.here hx rfl (pc0 := 300) (pc' := 304) rfl (hb hby at_300) (by decide) (by decide) k) ?_
          show own_Go p e below P T164 (mkF m 304 #[.val (.int p0), .val (.int p1), .val (.int p2), .val (.int p3), .val (.int kk), .val (.int oo), .val (.int (3 : Int32)), .val (.int pl), .val (.int r0), .val (.int r1), .val (.int r2), .val (.ref b102), .val (.int (own_srt (own_ref r0 kk) (own_ref r1 kk) (own_ref r2 kk) pl)), .val (.ref b108), .val (.int (own_ref r0 kk))] [(.int (1 : Int32))])
          obtain ⟨fs, hr, hrun, hended, hW, hsame⟩ := X164.leave (v := some (.int (1 : Int32))) (fun h => by rw [Bd.returns] at h; cases h)
          refine ⟨_, _, retN X164 hx (t := .boolean) Bd.returns (by simp) (hb hby at_304) hr, hrun, hended, hfin _ _ ⟨_, _, rfl, ?_, ⟨_, rfl⟩, hW, hsame.mono (by decide) (by decide)⟩⟩
          show Q0 Z p0 p1 p2 p3 h0 n0 (some (.int (1 : Int32))) T164.heap _
          rw [e164]
          exact ⟨rfl, N164⟩
        · refine own_step (fun _ k => XS.icmpYes X157.here hx rfl (pc0 := 266) (pc' := 289) rfl (hb hby at_266) rfl (flt hc160).2.1 (by decide) (by decide) k) ?_
          show own_Go p e below P T157 (mkF m 289 #[.val (.int p0), .val (.int p1), .val (.int p2), .val (.int p3), .val (.int kk), .val (.int oo), .val (.int (3 : Int32)), .val (.int pl), .val (.int r0), .val (.int r1), .val (.int r2), .val (.ref b102), .val (.int (own_srt (own_ref r0 kk) (own_ref r1 kk) (own_ref r2 kk) pl)), .val (.ref b108), .val (.int (own_ref r1 kk))] [])
          have hpf := own_plf _ pi (by decide)
          rw [← hpi] at hpf
          refine own_step (fun _ k => XS.iload X157.here hx rfl (hb hby at_289) rfl k) ?_
          show own_Go p e below P T157 (mkF m 291 #[.val (.int p0), .val (.int p1), .val (.int p2), .val (.int p3), .val (.int kk), .val (.int oo), .val (.int (3 : Int32)), .val (.int pl), .val (.int r0), .val (.int r1), .val (.int r2), .val (.ref b102), .val (.int (own_srt (own_ref r0 kk) (own_ref r1 kk) (own_ref r2 kk) pl)), .val (.ref b108), .val (.int (own_ref r1 kk))] [(.int (own_srt (own_ref r0 kk) (own_ref r1 kk) (own_ref r2 kk) pl))])
          refine own_step (fun _ k => XS.aload X157.here hx rfl (hb hby at_291) rfl rfl k) ?_
          show own_Go p e below P T157 (mkF m 293 #[.val (.int p0), .val (.int p1), .val (.int p2), .val (.int p3), .val (.int kk), .val (.int oo), .val (.int (3 : Int32)), .val (.int pl), .val (.int r0), .val (.int r1), .val (.int r2), .val (.ref b102), .val (.int (own_srt (own_ref r0 kk) (own_ref r1 kk) (own_ref r2 kk) pl)), .val (.ref b108), .val (.int (own_ref r1 kk))] [(.ref b108), (.int (own_srt (own_ref r0 kk) (own_ref r1 kk) (own_ref r2 kk) pl))])
          refine own_step (fun _ k => XS.iload X157.here hx rfl (hb hby at_293) rfl k) ?_
          show own_Go p e below P T157 (mkF m 295 #[.val (.int p0), .val (.int p1), .val (.int p2), .val (.int p3), .val (.int kk), .val (.int oo), .val (.int (3 : Int32)), .val (.int pl), .val (.int r0), .val (.int r1), .val (.int r2), .val (.ref b102), .val (.int (own_srt (own_ref r0 kk) (own_ref r1 kk) (own_ref r2 kk) pl)), .val (.ref b108), .val (.int (own_ref r1 kk))] [(.int pl), (.ref b108), (.int (own_srt (own_ref r0 kk) (own_ref r1 kk) (own_ref r2 kk) pl))])
          obtain ⟨cl167, Ar167, -, S167, M167, H167, -⟩ := (id V157)
          have hin167 : ¬ (pl < 0 ∨ cl167.slots.size ≤ (pl).toNatClampNeg) := inb_of S167 ⟨hpf.1, hpf.2.1⟩
          refine own_step (fun t k => X157.iaload hx (j := pl) (v := (.int ([(own_ref r0 kk), (own_ref r2 kk), (own_ref r1 kk)].getD (pl).toNatClampNeg 0))) (by rw [e157]; exact Ar167.1) (State.isArrayOf_alike hZ.alike Ar167.2.1) Ar167.2.2 hin167 (Has.at H167 hin167 (own_gd [(own_ref r0 kk), (own_ref r2 kk), (own_ref r1 kk)] _)) (g := (mkF m 295 #[.val (.int p0), .val (.int p1), .val (.int p2), .val (.int p3), .val (.int kk), .val (.int oo), .val (.int (3 : Int32)), .val (.int pl), .val (.int r0), .val (.int r1), .val (.int r2), .val (.ref b102), .val (.int (own_srt (own_ref r0 kk) (own_ref r1 kk) (own_ref r2 kk) pl)), .val (.ref b108), .val (.int (own_ref r1 kk))] [(.int pl), (.ref b108), (.int (own_srt (own_ref r0 kk) (own_ref r1 kk) (own_ref r2 kk) pl))])) rfl rfl (hb hby at_295) t k) ?_
          show own_Go p e below P T157 (mkF m 296 #[.val (.int p0), .val (.int p1), .val (.int p2), .val (.int p3), .val (.int kk), .val (.int oo), .val (.int (3 : Int32)), .val (.int pl), .val (.int r0), .val (.int r1), .val (.int r2), .val (.ref b102), .val (.int (own_srt (own_ref r0 kk) (own_ref r1 kk) (own_ref r2 kk) pl)), .val (.ref b108), .val (.int (own_ref r1 kk))] [(.int ([(own_ref r0 kk), (own_ref r2 kk), (own_ref r1 kk)].getD (pl).toNatClampNeg 0)), (.int (own_srt (own_ref r0 kk) (own_ref r1 kk) (own_ref r2 kk) pl))])
          refine own_step (fun _ k => XS.icmpNo X157.here hx rfl (hb hby at_296) rfl (teq ((if_neg hc117).trans ((if_pos hc153).trans (if_neg hc160)))).2 k) ?_
          show own_Go p e below P T157 (mkF m 299 #[.val (.int p0), .val (.int p1), .val (.int p2), .val (.int p3), .val (.int kk), .val (.int oo), .val (.int (3 : Int32)), .val (.int pl), .val (.int r0), .val (.int r1), .val (.int r2), .val (.ref b102), .val (.int (own_srt (own_ref r0 kk) (own_ref r1 kk) (own_ref r2 kk) pl)), .val (.ref b108), .val (.int (own_ref r1 kk))] [])
          refine own_step (fun _ k => XS.iconst X157.here hx rfl (hb hby at_299) k) ?_
          show own_Go p e below P T157 (mkF m 300 #[.val (.int p0), .val (.int p1), .val (.int p2), .val (.int p3), .val (.int kk), .val (.int oo), .val (.int (3 : Int32)), .val (.int pl), .val (.int r0), .val (.int r1), .val (.int r2), .val (.ref b102), .val (.int (own_srt (own_ref r0 kk) (own_ref r1 kk) (own_ref r2 kk) pl)), .val (.ref b108), .val (.int (own_ref r1 kk))] [(.int (1 : Int32))])
          refine own_step (fun _ k => XS.goto X157.here hx rfl (pc0 := 300) (pc' := 304) rfl (hb hby at_300) (by decide) (by decide) k) ?_
          show own_Go p e below P T157 (mkF m 304 #[.val (.int p0), .val (.int p1), .val (.int p2), .val (.int p3), .val (.int kk), .val (.int oo), .val (.int (3 : Int32)), .val (.int pl), .val (.int r0), .val (.int r1), .val (.int r2), .val (.ref b102), .val (.int (own_srt (own_ref r0 kk) (own_ref r1 kk) (own_ref r2 kk) pl)), .val (.ref b108), .val (.int (own_ref r1 kk))] [(.int (1 : Int32))])
          obtain ⟨fs, hr, hrun, hended, hW, hsame⟩ := X157.leave (v := some (.int (1 : Int32))) (fun h => by rw [Bd.returns] at h; cases h)
          refine ⟨_, _, retN X157 hx (t := .boolean) Bd.returns (by simp) (hb hby at_304) hr, hrun, hended, hfin _ _ ⟨_, _, rfl, ?_, ⟨_, rfl⟩, hW, hsame.mono (by decide) (by decide)⟩⟩
          show Q0 Z p0 p1 p2 p3 h0 n0 (some (.int (1 : Int32))) T157.heap _
          rw [e157]
          exact ⟨rfl, N157⟩
      · refine own_step (fun _ k => XS.icmpYes X114.here hx rfl (pc0 := 235) (pc' := 258) rfl (hb hby at_235) rfl (flt hc153).2.1 (by decide) (by decide) k) ?_
        show own_Go p e below P T114 (mkF m 258 #[.val (.int p0), .val (.int p1), .val (.int p2), .val (.int p3), .val (.int kk), .val (.int oo), .val (.int (3 : Int32)), .val (.int pl), .val (.int r0), .val (.int r1), .val (.int r2), .val (.ref b102), .val (.int (own_srt (own_ref r0 kk) (own_ref r1 kk) (own_ref r2 kk) pl)), .val (.ref b108), .unset] [])
        refine own_step (fun _ k => XS.aload X114.here hx rfl (hb hby at_258) rfl rfl k) ?_
        show own_Go p e below P T114 (mkF m 260 #[.val (.int p0), .val (.int p1), .val (.int p2), .val (.int p3), .val (.int kk), .val (.int oo), .val (.int (3 : Int32)), .val (.int pl), .val (.int r0), .val (.int r1), .val (.int r2), .val (.ref b102), .val (.int (own_srt (own_ref r0 kk) (own_ref r1 kk) (own_ref r2 kk) pl)), .val (.ref b108), .unset] [(.ref b108)])
        refine own_step (fun _ k => XS.iconst X114.here hx rfl (hb hby at_260) k) ?_
        show own_Go p e below P T114 (mkF m 261 #[.val (.int p0), .val (.int p1), .val (.int p2), .val (.int p3), .val (.int kk), .val (.int oo), .val (.int (3 : Int32)), .val (.int pl), .val (.int r0), .val (.int r1), .val (.int r2), .val (.ref b102), .val (.int (own_srt (own_ref r0 kk) (own_ref r1 kk) (own_ref r2 kk) pl)), .val (.ref b108), .unset] [(.int (0 : Int32)), (.ref b108)])
        obtain ⟨cl169, Ar169, -, S169, M169, H169, -⟩ := (id V114)
        have hin169 : ¬ ((0 : Int32) < 0 ∨ cl169.slots.size ≤ ((0 : Int32)).toNatClampNeg) := inb_of S169 ⟨by decide, by decide⟩
        refine own_step (fun t k => X114.iaload hx (j := (0 : Int32)) (v := (.int (own_ref r0 kk))) (by rw [e114]; exact Ar169.1) (State.isArrayOf_alike hZ.alike Ar169.2.1) Ar169.2.2 hin169 (Has.at H169 hin169 rfl) (g := (mkF m 261 #[.val (.int p0), .val (.int p1), .val (.int p2), .val (.int p3), .val (.int kk), .val (.int oo), .val (.int (3 : Int32)), .val (.int pl), .val (.int r0), .val (.int r1), .val (.int r2), .val (.ref b102), .val (.int (own_srt (own_ref r0 kk) (own_ref r1 kk) (own_ref r2 kk) pl)), .val (.ref b108), .unset] [(.int (0 : Int32)), (.ref b108)])) rfl rfl (hb hby at_261) t k) ?_
        show own_Go p e below P T114 (mkF m 262 #[.val (.int p0), .val (.int p1), .val (.int p2), .val (.int p3), .val (.int kk), .val (.int oo), .val (.int (3 : Int32)), .val (.int pl), .val (.int r0), .val (.int r1), .val (.int r2), .val (.ref b102), .val (.int (own_srt (own_ref r0 kk) (own_ref r1 kk) (own_ref r2 kk) pl)), .val (.ref b108), .unset] [(.int (own_ref r0 kk))])
        refine own_step (fun _ k => XS.aload X114.here hx rfl (hb hby at_262) rfl rfl k) ?_
        show own_Go p e below P T114 (mkF m 264 #[.val (.int p0), .val (.int p1), .val (.int p2), .val (.int p3), .val (.int kk), .val (.int oo), .val (.int (3 : Int32)), .val (.int pl), .val (.int r0), .val (.int r1), .val (.int r2), .val (.ref b102), .val (.int (own_srt (own_ref r0 kk) (own_ref r1 kk) (own_ref r2 kk) pl)), .val (.ref b108), .unset] [(.ref b108), (.int (own_ref r0 kk))])
        refine own_step (fun _ k => XS.iconst X114.here hx rfl (hb hby at_264) k) ?_
        show own_Go p e below P T114 (mkF m 265 #[.val (.int p0), .val (.int p1), .val (.int p2), .val (.int p3), .val (.int kk), .val (.int oo), .val (.int (3 : Int32)), .val (.int pl), .val (.int r0), .val (.int r1), .val (.int r2), .val (.ref b102), .val (.int (own_srt (own_ref r0 kk) (own_ref r1 kk) (own_ref r2 kk) pl)), .val (.ref b108), .unset] [(.int (1 : Int32)), (.ref b108), (.int (own_ref r0 kk))])
        obtain ⟨cl170, Ar170, -, S170, M170, H170, -⟩ := (id V114)
        have hin170 : ¬ ((1 : Int32) < 0 ∨ cl170.slots.size ≤ ((1 : Int32)).toNatClampNeg) := inb_of S170 ⟨by decide, by decide⟩
        refine own_step (fun t k => X114.iaload hx (j := (1 : Int32)) (v := (.int (own_ref r1 kk))) (by rw [e114]; exact Ar170.1) (State.isArrayOf_alike hZ.alike Ar170.2.1) Ar170.2.2 hin170 (Has.at H170 hin170 rfl) (g := (mkF m 265 #[.val (.int p0), .val (.int p1), .val (.int p2), .val (.int p3), .val (.int kk), .val (.int oo), .val (.int (3 : Int32)), .val (.int pl), .val (.int r0), .val (.int r1), .val (.int r2), .val (.ref b102), .val (.int (own_srt (own_ref r0 kk) (own_ref r1 kk) (own_ref r2 kk) pl)), .val (.ref b108), .unset] [(.int (1 : Int32)), (.ref b108), (.int (own_ref r0 kk))])) rfl rfl (hb hby at_265) t k) ?_
        show own_Go p e below P T114 (mkF m 266 #[.val (.int p0), .val (.int p1), .val (.int p2), .val (.int p3), .val (.int kk), .val (.int oo), .val (.int (3 : Int32)), .val (.int pl), .val (.int r0), .val (.int r1), .val (.int r2), .val (.ref b102), .val (.int (own_srt (own_ref r0 kk) (own_ref r1 kk) (own_ref r2 kk) pl)), .val (.ref b108), .unset] [(.int (own_ref r1 kk)), (.int (own_ref r0 kk))])
        refine own_step (fun _ k => XS.icmpYes X114.here hx rfl (pc0 := 266) (pc' := 289) rfl (hb hby at_266) rfl (flt hc117).2.1 (by decide) (by decide) k) ?_
        show own_Go p e below P T114 (mkF m 289 #[.val (.int p0), .val (.int p1), .val (.int p2), .val (.int p3), .val (.int kk), .val (.int oo), .val (.int (3 : Int32)), .val (.int pl), .val (.int r0), .val (.int r1), .val (.int r2), .val (.ref b102), .val (.int (own_srt (own_ref r0 kk) (own_ref r1 kk) (own_ref r2 kk) pl)), .val (.ref b108), .unset] [])
        have hpf := own_plf _ pi (by decide)
        rw [← hpi] at hpf
        refine own_step (fun _ k => XS.iload X114.here hx rfl (hb hby at_289) rfl k) ?_
        show own_Go p e below P T114 (mkF m 291 #[.val (.int p0), .val (.int p1), .val (.int p2), .val (.int p3), .val (.int kk), .val (.int oo), .val (.int (3 : Int32)), .val (.int pl), .val (.int r0), .val (.int r1), .val (.int r2), .val (.ref b102), .val (.int (own_srt (own_ref r0 kk) (own_ref r1 kk) (own_ref r2 kk) pl)), .val (.ref b108), .unset] [(.int (own_srt (own_ref r0 kk) (own_ref r1 kk) (own_ref r2 kk) pl))])
        refine own_step (fun _ k => XS.aload X114.here hx rfl (hb hby at_291) rfl rfl k) ?_
        show own_Go p e below P T114 (mkF m 293 #[.val (.int p0), .val (.int p1), .val (.int p2), .val (.int p3), .val (.int kk), .val (.int oo), .val (.int (3 : Int32)), .val (.int pl), .val (.int r0), .val (.int r1), .val (.int r2), .val (.ref b102), .val (.int (own_srt (own_ref r0 kk) (own_ref r1 kk) (own_ref r2 kk) pl)), .val (.ref b108), .unset] [(.ref b108), (.int (own_srt (own_ref r0 kk) (own_ref r1 kk) (own_ref r2 kk) pl))])
        refine own_step (fun _ k => XS.iload X114.here hx rfl (hb hby at_293) rfl k) ?_
        show own_Go p e below P T114 (mkF m 295 #[.val (.int p0), .val (.int p1), .val (.int p2), .val (.int p3), .val (.int kk), .val (.int oo), .val (.int (3 : Int32)), .val (.int pl), .val (.int r0), .val (.int r1), .val (.int r2), .val (.ref b102), .val (.int (own_srt (own_ref r0 kk) (own_ref r1 kk) (own_ref r2 kk) pl)), .val (.ref b108), .unset] [(.int pl), (.ref b108), (.int (own_srt (own_ref r0 kk) (own_ref r1 kk) (own_ref r2 kk) pl))])
        obtain ⟨cl171, Ar171, -, S171, M171, H171, -⟩ := (id V114)
        have hin171 : ¬ (pl < 0 ∨ cl171.slots.size ≤ (pl).toNatClampNeg) := inb_of S171 ⟨hpf.1, hpf.2.1⟩
        refine own_step (fun t k => X114.iaload hx (j := pl) (v := (.int ([(own_ref r0 kk), (own_ref r1 kk), (own_ref r2 kk)].getD (pl).toNatClampNeg 0))) (by rw [e114]; exact Ar171.1) (State.isArrayOf_alike hZ.alike Ar171.2.1) Ar171.2.2 hin171 (Has.at H171 hin171 (own_gd [(own_ref r0 kk), (own_ref r1 kk), (own_ref r2 kk)] _)) (g := (mkF m 295 #[.val (.int p0), .val (.int p1), .val (.int p2), .val (.int p3), .val (.int kk), .val (.int oo), .val (.int (3 : Int32)), .val (.int pl), .val (.int r0), .val (.int r1), .val (.int r2), .val (.ref b102), .val (.int (own_srt (own_ref r0 kk) (own_ref r1 kk) (own_ref r2 kk) pl)), .val (.ref b108), .unset] [(.int pl), (.ref b108), (.int (own_srt (own_ref r0 kk) (own_ref r1 kk) (own_ref r2 kk) pl))])) rfl rfl (hb hby at_295) t k) ?_
        show own_Go p e below P T114 (mkF m 296 #[.val (.int p0), .val (.int p1), .val (.int p2), .val (.int p3), .val (.int kk), .val (.int oo), .val (.int (3 : Int32)), .val (.int pl), .val (.int r0), .val (.int r1), .val (.int r2), .val (.ref b102), .val (.int (own_srt (own_ref r0 kk) (own_ref r1 kk) (own_ref r2 kk) pl)), .val (.ref b108), .unset] [(.int ([(own_ref r0 kk), (own_ref r1 kk), (own_ref r2 kk)].getD (pl).toNatClampNeg 0)), (.int (own_srt (own_ref r0 kk) (own_ref r1 kk) (own_ref r2 kk) pl))])
        refine own_step (fun _ k => XS.icmpNo X114.here hx rfl (hb hby at_296) rfl (teq ((if_neg hc117).trans ((if_neg hc153).trans (if_neg hc117)))).2 k) ?_
        show own_Go p e below P T114 (mkF m 299 #[.val (.int p0), .val (.int p1), .val (.int p2), .val (.int p3), .val (.int kk), .val (.int oo), .val (.int (3 : Int32)), .val (.int pl), .val (.int r0), .val (.int r1), .val (.int r2), .val (.ref b102), .val (.int (own_srt (own_ref r0 kk) (own_ref r1 kk) (own_ref r2 kk) pl)), .val (.ref b108), .unset] [])
        refine own_step (fun _ k => XS.iconst X114.here hx rfl (hb hby at_299) k) ?_
        show own_Go p e below P T114 (mkF m 300 #[.val (.int p0), .val (.int p1), .val (.int p2), .val (.int p3), .val (.int kk), .val (.int oo), .val (.int (3 : Int32)), .val (.int pl), .val (.int r0), .val (.int r1), .val (.int r2), .val (.ref b102), .val (.int (own_srt (own_ref r0 kk) (own_ref r1 kk) (own_ref r2 kk) pl)), .val (.ref b108), .unset] [(.int (1 : Int32))])
        refine own_step (fun _ k => XS.goto X114.here hx rfl (pc0 := 300) (pc' := 304) rfl (hb hby at_300) (by decide) (by decide) k) ?_
        show own_Go p e below P T114 (mkF m 304 #[.val (.int p0), .val (.int p1), .val (.int p2), .val (.int p3), .val (.int kk), .val (.int oo), .val (.int (3 : Int32)), .val (.int pl), .val (.int r0), .val (.int r1), .val (.int r2), .val (.ref b102), .val (.int (own_srt (own_ref r0 kk) (own_ref r1 kk) (own_ref r2 kk) pl)), .val (.ref b108), .unset] [(.int (1 : Int32))])
        obtain ⟨fs, hr, hrun, hended, hW, hsame⟩ := X114.leave (v := some (.int (1 : Int32))) (fun h => by rw [Bd.returns] at h; cases h)
        refine ⟨_, _, retN X114 hx (t := .boolean) Bd.returns (by simp) (hb hby at_304) hr, hrun, hended, hfin _ _ ⟨_, _, rfl, ?_, ⟨_, rfl⟩, hW, hsame.mono (by decide) (by decide)⟩⟩
        show Q0 Z p0 p1 p2 p3 h0 n0 (some (.int (1 : Int32))) T114.heap _
        rw [e114]
        exact ⟨rfl, N114⟩
set_option maxRecDepth 65536 in
set_option maxHeartbeats 40000000 in
theorem comes_1 {Post : Tables → Env → Array Value → State → Outcome → State → Prop} (hpost : ∀ tb e args s v u, (limb_1_1.after args s (.returned v) u = true ∧ limb_1_2.after args s (.returned v) u = true ∧ True) → FrameEnd s (.returned v) u (Jvm.fieldLocs frame_1_writes args s ++ Jvm.arrayLocs frame_1_arrays args s ++ Jvm.staticLocs frame_1_statics s) 16 128 → Post tb e args s (.returned v) u) :
    ArmFor flags0 classFile x code maxLocals ret World_1 tables_1 room_1 Calls_1 rest_1 Pre_1 Post := by
  intro l hfl _ _ p e ha hc hk s m args below hf hA hF happ hP
  obtain ⟨hcalls, hrest, hpre⟩ := hP
  obtain ⟨-, -, -, hnamed, -, -, -, hat⟩ := (Spec.applies_iff hf).mp happ
  obtain ⟨hg, hn⟩ := and_e (Cond.before_iff.mp (show (Jvm.Cond.and given_1 narrow_1).before args s = true from hpre))
  obtain ⟨hcnt, hg0⟩ := and_e hg
  obtain ⟨ga0, hg1⟩ := and_e hg0
  obtain ⟨ga1, hg2⟩ := and_e hg1
  obtain ⟨ga2, hg3⟩ := and_e hg2
  have ga3 := hg3
  obtain ⟨w0, w1, w2, w3, rfl⟩ : ∃ w0 w1 w2 w3 : Value, args = #[w0, w1, w2, w3] := by
    have hs : args.size = 4 := by simpa [Cond.value, given_1] using hcnt
    obtain ⟨L⟩ := args
    match L, hs with
    | [w0, w1, w2, w3], _ => exact ⟨w0, w1, w2, w3, rfl⟩
  have hw := fun d (hd : d ∈ tables_1) => atoms_spec (ws := Jvm.Cond.code x code maxLocals ret :: tables_1) hat d (List.mem_cons_of_mem _ hd)
  have hfit : Fit s := fun {y c} hc i hi => by
    obtain ⟨ha, rfl⟩ := Array.getElem?_eq_some_iff.mp hc
    have q := List.all_eq_true.mp ((Array.all_eq_true_iff_forall_mem.mp hF) _ (Array.getElem_mem ha)) i (List.mem_range.mpr hi)
    simpa [Array.getElem?_eq_getElem hi] using q
  obtain ⟨i0, ei0⟩ := is_v ga0
  obtain rfl : w0 = (.int i0) := Option.some.inj ei0
  obtain ⟨i1, ei1⟩ := is_v ga1
  obtain rfl : w1 = (.int i1) := Option.some.inj ei1
  obtain ⟨i2, ei2⟩ := is_v ga2
  obtain rfl : w2 = (.int i2) := Option.some.inj ei2
  obtain ⟨i3, ei3⟩ := is_v ga3
  obtain rfl : w3 = (.int i3) := Option.some.inj ei3
  obtain ⟨n, o, h1, h2, h3, _, L, rfl, ⟨rfl, N⟩, hq⟩ := rm0 l s _ hw tables_1 i0 i1 i2 i3  s.heap s.heap.size (Nat.le_refl _)  p e ha hc hk s m _ below hf ((Spec.applies_iff_loose hf).mp happ).1 ⟨rfl, State.Warmed39.refl s, rfl⟩ trivial
  refine ⟨n, _, h1, h2, h3, hpost _ _ _ _ _ _ ⟨Cond.after_iff.mpr rfl, Cond.after_iff.mpr (eq_i res_at (Term.int_eval (1)) rfl), trivial⟩ ⟨hq.1, hq.2.1, (hq.2.2.sift fun y hy => Or.inr (N y hy)).mono (by decide) (by decide)⟩⟩
theorem main_1_1 : Claimed_1_1 := comes_1 fun _ _ _ _ _ _ h hF => ⟨h.1, hF⟩
theorem main_1_2 : Claimed_1_2 := comes_1 fun _ _ _ _ _ _ h hF => ⟨h.2.1, hF⟩
end Jvm.Pilot.@@N@@
namespace Jvm.Pilot.@@N@@
open Jvm Jvm.ClassFile Sem Op Lib Jvm.Free Jvm.Stand Jvm.Pilot.@@N@@.Jvm.D
/-! MADE BY PROGRAM (witnessworld.py) out of the Statement's table words and the real class files: 15 classes; the members and pool entries that the words name. The judged class is class 1, her method 2. -/
namespace start1
open Jvm.ClassFile
def u (s : String) : CpInfo := .utf8 (stringToUtf16 s)
/-- a pool by its gaps: so many unusable entries, then the entry; so many at the end -/
def gap : Nat → List CpInfo → List CpInfo
  | 0, r => r
  | n + 1, r => .unusable :: gap n r
def poolList (es : List (Nat × CpInfo)) (last : Nat) : List CpInfo := es.foldr (fun e r => gap e.1 (e.2 :: r)) (gap last [])
def pool (es : List (Nat × CpInfo)) (last : Nat) : Array CpInfo := ⟨poolList es last⟩
def fileOf (pool : Array CpInfo) (this : Nat) (attrs : Array Attribute := #[]) (ms : Array MethodInfo := #[]) (fl : Nat := 33) (sup : Nat := 0) (ifs : Array Nat := #[]) (fds : Array FieldInfo := #[]) : ClassFile where
  minorVersion := 0
  majorVersion := 65
  constantPool := pool
  accessFlags := fl
  thisClass := this
  superClass := sup
  interfaces := ifs
  fields := fds
  methods := ms
  attributes := attrs
def plain (name : String) (sup : Option ClassId) : Class where
  name := name
  kind := .ordinary
  loader := none
  accessFlags := 33
  super := sup
  interfaces := #[]
  cf := none
  fields := #[]
  methods := #[]
  instanceTypes := #[]
  staticTypes := #[]
  resolved := #[]
  callSites := []
  init := .initialized
  statics := none
  mirror := none

def pool0 : Array CpInfo := pool [(5, u "<init>"), (0, u "()V"), (1, .class_ 10), (1, u "java/lang/Object")] 113

def k0c0 : Code := { maxStack := 0, maxLocals := 1, code := object_method_1_code, exceptionTable := #[], attributes := #[] }
def k0m0 : Method := { name := "<init>", desc := "()V", sig := { parameters := [], returnType := none }, accessFlags := 1, code := some k0c0 }
/-- java/lang/Object -/
def k0 : Class := { plain "java/lang/Object" none with
  accessFlags := 33
  interfaces := #[]
  cf := some (fileOf pool0 8 #[] #[{ accessFlags := 1, nameIndex := 5, descriptorIndex := 6, attributes := #[] }] 33 0 #[] #[])
  fields := #[]
  methods := #[k0m0]
  instanceTypes := #[]
  staticTypes := #[]
  resolved := Array.replicate 124 none
  statics := none }

def pool1 : Array CpInfo := pool [(2, .class_ 4), (1, u "java/lang/Object"), (0, u "<init>"), (0, u "()V"), (0, .integer 2147483647), (0, .class_ 9), (0, u "com/example/bron/bron/trec/ScoreHistogram"), (0, .methodref 8 11), (0, .nameAndType 5 12), (0, u "(DDI)V"), (0, .methodref 8 14), (0, .nameAndType 15 16), (0, u "add"), (0, u "(D)V"), (0, .methodref 8 18), (0, .nameAndType 19 20), (0, u "bucketAt"), (0, u "(I)I"), (0, .methodref 22 23), (0, .class_ 24), (0, .nameAndType 25 26), (0, u "com/example/bron/bron/trec/ScoreHistogramBucketAtPinLaw"), (0, u "ref"), (0, u "(II)I"), (3, u "law"), (0, u "(IIII)Z")] 4

def k1m0 : Method := { name := "<init>", desc := "()V", sig := { parameters := [], returnType := none }, accessFlags := 1, code := none }
def k1c1 : Code := { maxStack := 2, maxLocals := 2, code := method_2_code, exceptionTable := #[], attributes := #[] }
def k1m1 : Method := { name := "ref", desc := "(II)I", sig := { parameters := [.int, .int], returnType := some .int }, accessFlags := 10, code := some k1c1 }
def k1c2 : Code := { maxStack := 8, maxLocals := 15, code := code, exceptionTable := #[], attributes := #[] }
def k1m2 : Method := { name := "law", desc := "(IIII)Z", sig := { parameters := [.int, .int, .int, .int], returnType := some .boolean }, accessFlags := 9, code := some k1c2 }
/-- com/example/bron/bron/trec/ScoreHistogramBucketAtPinLaw -/
def k1 : Class := { plain "com/example/bron/bron/trec/ScoreHistogramBucketAtPinLaw" (some 0) with
  accessFlags := 49
  interfaces := #[]
  cf := some (fileOf pool1 22 #[] #[{ accessFlags := 1, nameIndex := 5, descriptorIndex := 6, attributes := #[] }, { accessFlags := 10, nameIndex := 25, descriptorIndex := 26, attributes := #[] }, { accessFlags := 9, nameIndex := 30, descriptorIndex := 31, attributes := #[] }] 49 2 #[] #[])
  fields := #[]
  methods := #[k1m0, k1m1, k1m2]
  instanceTypes := #[]
  staticTypes := #[]
  resolved := Array.replicate 36 none
  statics := none }

def pool2 : Array CpInfo := pool [(1, .methodref 2 3), (0, .class_ 4), (0, .nameAndType 5 6), (0, u "java/lang/Object"), (0, u "<init>"), (0, u "()V"), (0, .methodref 8 9), (0, .class_ 10), (0, .nameAndType 11 12), (0, u "java/lang/Double"), (0, u "isFinite"), (0, u "(D)Z"), (7, .class_ 21), (0, u "com/example/bron/bron/trec/ScoreHistogram"), (0, .methodref 23 24), (0, .class_ 25), (0, .nameAndType 26 27), (0, u "java/lang/Math"), (0, u "min"), (0, u "(II)I"), (0, .methodref 23 29), (0, .nameAndType 30 27), (0, u "max"), (0, .fieldref 20 32), (0, .nameAndType 33 34), (0, u "lowest"), (0, u "D"), (0, .fieldref 20 36), (0, .nameAndType 37 34), (0, u "scale"), (0, .fieldref 20 39), (0, .nameAndType 40 41), (0, u "counts"), (0, u "[I"), (0, .methodref 20 43), (0, .nameAndType 44 45), (0, u "bucket"), (0, u "(D)I"), (0, u "MOST_BUCKETS"), (0, u "I"), (2, u "SCORES_PER_BUCKET"), (1, u "(DDI)V"), (3, u "add"), (0, u "(D)V"), (0, u "bucketAt"), (0, u "(I)I")] 6

def k2c0 : Code := { maxStack := 7, maxLocals := 7, code := prog_23_method_1_code, exceptionTable := #[], attributes := #[] }
def k2m0 : Method := { name := "<init>", desc := "(DDI)V", sig := { parameters := [.double, .double, .int], returnType := none }, accessFlags := 1, code := some k2c0 }
def k2c1 : Code := { maxStack := 4, maxLocals := 3, code := prog_23_method_2_code, exceptionTable := #[], attributes := #[] }
def k2m1 : Method := { name := "add", desc := "(D)V", sig := { parameters := [.double], returnType := none }, accessFlags := 1, code := some k2c1 }
def k2c2 : Code := { maxStack := 6, maxLocals := 3, code := prog_23_method_3_code, exceptionTable := #[], attributes := #[] }
def k2m2 : Method := { name := "bucket", desc := "(D)I", sig := { parameters := [.double], returnType := some .int }, accessFlags := 1, code := some k2c2 }
def k2c3 : Code := { maxStack := 3, maxLocals := 4, code := prog_23_method_4_code, exceptionTable := #[], attributes := #[] }
def k2m3 : Method := { name := "bucketAt", desc := "(I)I", sig := { parameters := [.int], returnType := some .int }, accessFlags := 1, code := some k2c3 }
/-- com/example/bron/bron/trec/ScoreHistogram -/
def k2 : Class := { plain "com/example/bron/bron/trec/ScoreHistogram" (some 0) with
  accessFlags := 33
  interfaces := #[]
  cf := some (fileOf pool2 20 #[] #[{ accessFlags := 1, nameIndex := 5, descriptorIndex := 52, attributes := #[] }, { accessFlags := 1, nameIndex := 56, descriptorIndex := 57, attributes := #[] }, { accessFlags := 1, nameIndex := 44, descriptorIndex := 45, attributes := #[] }, { accessFlags := 1, nameIndex := 58, descriptorIndex := 59, attributes := #[] }] 33 2 #[] #[{ accessFlags := 26, nameIndex := 46, descriptorIndex := 47, attributes := #[] }, { accessFlags := 26, nameIndex := 50, descriptorIndex := 47, attributes := #[] }, { accessFlags := 18, nameIndex := 33, descriptorIndex := 34, attributes := #[] }, { accessFlags := 18, nameIndex := 37, descriptorIndex := 34, attributes := #[] }, { accessFlags := 18, nameIndex := 40, descriptorIndex := 41, attributes := #[] }])
  fields := #[{ name := "MOST_BUCKETS", type := .int, accessFlags := 26, slot := 0, constantValue := 0 }, { name := "SCORES_PER_BUCKET", type := .int, accessFlags := 26, slot := 1, constantValue := 0 }, { name := "lowest", type := .double, accessFlags := 18, slot := 0, constantValue := 0 }, { name := "scale", type := .double, accessFlags := 18, slot := 1, constantValue := 0 }, { name := "counts", type := (.array .int), accessFlags := 18, slot := 2, constantValue := 0 }]
  methods := #[k2m0, k2m1, k2m2, k2m3]
  instanceTypes := #[.double, .double, (.array .int)]
  staticTypes := #[.int, .int]
  resolved := Array.replicate 66 none
  statics := none }

def pool3 : Array CpInfo := pool [(1, .class_ 2), (0, u "java/io/Serializable"), (0, .class_ 4), (0, u "java/lang/Object")] 2

/-- java/io/Serializable -/
def k3 : Class := { plain "java/io/Serializable" (some 0) with
  accessFlags := 1537
  interfaces := #[]
  cf := some (fileOf pool3 1 #[] #[] 1537 3 #[] #[])
  fields := #[]
  methods := #[]
  instanceTypes := #[]
  staticTypes := #[]
  resolved := Array.replicate 7 none
  statics := none }

def pool4 : Array CpInfo := pool [(2, .class_ 4), (1, u "java/lang/Object"), (0, u "<init>"), (0, u "()V"), (1, .class_ 10), (1, u "java/lang/Number"), (2, .class_ 14), (0, u "java/io/Serializable"), (0, u "serialVersionUID"), (0, u "J")] 20

def k4m0 : Method := { name := "<init>", desc := "()V", sig := { parameters := [], returnType := none }, accessFlags := 1, code := none }
/-- java/lang/Number -/
def k4 : Class := { plain "java/lang/Number" (some 0) with
  accessFlags := 1057
  interfaces := #[3]
  cf := some (fileOf pool4 8 #[] #[{ accessFlags := 1, nameIndex := 5, descriptorIndex := 6, attributes := #[] }] 1057 2 #[13] #[{ accessFlags := 26, nameIndex := 15, descriptorIndex := 16, attributes := #[] }])
  fields := #[{ name := "serialVersionUID", type := .long, accessFlags := 26, slot := 0, constantValue := 0 }]
  methods := #[k4m0]
  instanceTypes := #[]
  staticTypes := #[.long]
  resolved := Array.replicate 37 none
  statics := none }

def pool5 : Array CpInfo := pool [(1, .class_ 2), (0, u "java/lang/Comparable"), (0, .class_ 4), (0, u "java/lang/Object")] 7

/-- java/lang/Comparable -/
def k5 : Class := { plain "java/lang/Comparable" (some 0) with
  accessFlags := 1537
  interfaces := #[]
  cf := some (fileOf pool5 1 #[] #[] 1537 3 #[] #[])
  fields := #[]
  methods := #[]
  instanceTypes := #[]
  staticTypes := #[]
  resolved := Array.replicate 12 none
  statics := none }

def pool6 : Array CpInfo := pool [(1, .class_ 2), (0, u "java/lang/constant/Constable"), (0, .class_ 4), (0, u "java/lang/Object")] 6

/-- java/lang/constant/Constable -/
def k6 : Class := { plain "java/lang/constant/Constable" (some 0) with
  accessFlags := 1537
  interfaces := #[]
  cf := some (fileOf pool6 1 #[] #[] 1537 3 #[] #[])
  fields := #[]
  methods := #[]
  instanceTypes := #[]
  staticTypes := #[]
  resolved := Array.replicate 11 none
  statics := none }

def pool7 : Array CpInfo := pool [(1, .class_ 2), (0, u "java/lang/constant/ConstantDesc"), (0, .class_ 4), (0, u "java/lang/Object")] 32

/-- java/lang/constant/ConstantDesc -/
def k7 : Class := { plain "java/lang/constant/ConstantDesc" (some 0) with
  accessFlags := 1537
  interfaces := #[]
  cf := some (fileOf pool7 1 #[] #[] 1537 3 #[] #[])
  fields := #[]
  methods := #[]
  instanceTypes := #[]
  staticTypes := #[]
  resolved := Array.replicate 37 none
  statics := none }

def pool8 : Array CpInfo := pool [(1, .class_ 2), (0, u "java/lang/Double"), (10, u "isFinite"), (0, u "(D)Z"), (8, .class_ 25), (1, u "java/lang/Math"), (12, .methodref 23 39), (0, .nameAndType 40 41), (0, u "abs"), (0, u "(D)D"), (69, .double 9218868437227405311), (2, .class_ 116), (1, u "java/lang/Number"), (3, u "value"), (0, u "D"), (51, u "TYPE"), (0, u "Ljava/lang/Class;"), (0, .class_ 176), (0, u "java/lang/Comparable"), (0, .class_ 178), (0, u "java/lang/constant/Constable"), (0, .class_ 180), (0, u "java/lang/constant/ConstantDesc"), (0, u "POSITIVE_INFINITY"), (3, u "NEGATIVE_INFINITY"), (2, u "NaN"), (2, u "MAX_VALUE"), (0, u "MIN_NORMAL"), (0, u "MIN_VALUE"), (2, u "SIZE"), (0, u "I"), (1, u "PRECISION"), (1, u "MAX_EXPONENT"), (1, u "MIN_EXPONENT"), (1, u "BYTES"), (3, u "serialVersionUID"), (0, u "J")] 79

def k8c0 : Code := { maxStack := 4, maxLocals := 2, code := jdk_117_method_8_code, exceptionTable := #[], attributes := #[] }
def k8m0 : Method := { name := "isFinite", desc := "(D)Z", sig := { parameters := [.double], returnType := some .boolean }, accessFlags := 9, code := some k8c0 }
/-- java/lang/Double -/
def k8 : Class := { plain "java/lang/Double" (some 4) with
  accessFlags := 49
  interfaces := #[5, 6, 7]
  cf := some (fileOf pool8 1 #[] #[{ accessFlags := 9, nameIndex := 13, descriptorIndex := 14, attributes := #[] }] 49 114 #[175, 177, 179] #[{ accessFlags := 25, nameIndex := 181, descriptorIndex := 121, attributes := #[] }, { accessFlags := 25, nameIndex := 185, descriptorIndex := 121, attributes := #[] }, { accessFlags := 25, nameIndex := 188, descriptorIndex := 121, attributes := #[] }, { accessFlags := 25, nameIndex := 191, descriptorIndex := 121, attributes := #[] }, { accessFlags := 25, nameIndex := 192, descriptorIndex := 121, attributes := #[] }, { accessFlags := 25, nameIndex := 193, descriptorIndex := 121, attributes := #[] }, { accessFlags := 25, nameIndex := 196, descriptorIndex := 197, attributes := #[] }, { accessFlags := 25, nameIndex := 199, descriptorIndex := 197, attributes := #[] }, { accessFlags := 25, nameIndex := 201, descriptorIndex := 197, attributes := #[] }, { accessFlags := 25, nameIndex := 203, descriptorIndex := 197, attributes := #[] }, { accessFlags := 25, nameIndex := 205, descriptorIndex := 197, attributes := #[] }, { accessFlags := 25, nameIndex := 173, descriptorIndex := 174, attributes := #[] }, { accessFlags := 18, nameIndex := 120, descriptorIndex := 121, attributes := #[] }, { accessFlags := 26, nameIndex := 209, descriptorIndex := 210, attributes := #[] }])
  fields := #[{ name := "POSITIVE_INFINITY", type := .double, accessFlags := 25, slot := 0, constantValue := 0 }, { name := "NEGATIVE_INFINITY", type := .double, accessFlags := 25, slot := 1, constantValue := 0 }, { name := "NaN", type := .double, accessFlags := 25, slot := 2, constantValue := 0 }, { name := "MAX_VALUE", type := .double, accessFlags := 25, slot := 3, constantValue := 0 }, { name := "MIN_NORMAL", type := .double, accessFlags := 25, slot := 4, constantValue := 0 }, { name := "MIN_VALUE", type := .double, accessFlags := 25, slot := 5, constantValue := 0 }, { name := "SIZE", type := .int, accessFlags := 25, slot := 6, constantValue := 0 }, { name := "PRECISION", type := .int, accessFlags := 25, slot := 7, constantValue := 0 }, { name := "MAX_EXPONENT", type := .int, accessFlags := 25, slot := 8, constantValue := 0 }, { name := "MIN_EXPONENT", type := .int, accessFlags := 25, slot := 9, constantValue := 0 }, { name := "BYTES", type := .int, accessFlags := 25, slot := 10, constantValue := 0 }, { name := "TYPE", type := (.object "java/lang/Class"), accessFlags := 25, slot := 11, constantValue := 0 }, { name := "value", type := .double, accessFlags := 18, slot := 0, constantValue := 0 }, { name := "serialVersionUID", type := .long, accessFlags := 26, slot := 12, constantValue := 0 }]
  methods := #[k8m0]
  instanceTypes := #[.double]
  staticTypes := #[.double, .double, .double, .double, .double, .double, .int, .int, .int, .int, .int, (.object "java/lang/Class"), .long]
  resolved := Array.replicate 290 none
  statics := none }

def pool9 : Array CpInfo := pool [(1, .class_ 2), (0, u "java/lang/Math"), (1, .class_ 6), (1, u "java/lang/Object"), (0, u "<init>"), (0, u "()V"), (5, u "(D)D"), (83, .class_ 100), (1, u "java/lang/Math$RandomNumberGeneratorHolder"), (23, u "abs"), (47, u "negativeZeroFloatBits"), (0, u "J"), (2, u "negativeZeroDoubleBits"), (21, u "max"), (2, u "min"), (43, u "$assertionsDisabled"), (0, u "Z"), (88, u "(II)I"), (2, u "twoToTheDoubleScaleDown"), (0, u "D"), (4, u "twoToTheDoubleScaleUp"), (9, u "E"), (3, u "PI"), (2, u "TAU"), (2, u "DEGREES_TO_RADIANS"), (0, u "RADIANS_TO_DEGREES")] 94

def k9m0 : Method := { name := "<init>", desc := "()V", sig := { parameters := [], returnType := none }, accessFlags := 2, code := none }
def k9c1 : Code := { maxStack := 4, maxLocals := 2, code := jdk_29_method_64_code, exceptionTable := #[], attributes := #[] }
def k9m1 : Method := { name := "abs", desc := "(D)D", sig := { parameters := [.double], returnType := some .double }, accessFlags := 9, code := some k9c1 }
def k9c2 : Code := { maxStack := 2, maxLocals := 2, code := jdk_29_method_65_code, exceptionTable := #[], attributes := #[] }
def k9m2 : Method := { name := "max", desc := "(II)I", sig := { parameters := [.int, .int], returnType := some .int }, accessFlags := 9, code := some k9c2 }
def k9c3 : Code := { maxStack := 2, maxLocals := 2, code := jdk_29_method_69_code, exceptionTable := #[], attributes := #[] }
def k9m3 : Method := { name := "min", desc := "(II)I", sig := { parameters := [.int, .int], returnType := some .int }, accessFlags := 9, code := some k9c3 }
/-- java/lang/Math -/
def k9 : Class := { plain "java/lang/Math" (some 0) with
  accessFlags := 49
  interfaces := #[]
  cf := some (fileOf pool9 1 #[.nestMembers #[98]] #[{ accessFlags := 2, nameIndex := 7, descriptorIndex := 8, attributes := #[] }, { accessFlags := 9, nameIndex := 124, descriptorIndex := 14, attributes := #[] }, { accessFlags := 9, nameIndex := 198, descriptorIndex := 335, attributes := #[] }, { accessFlags := 9, nameIndex := 201, descriptorIndex := 335, attributes := #[] }] 49 4 #[] #[{ accessFlags := 25, nameIndex := 354, descriptorIndex := 339, attributes := #[] }, { accessFlags := 25, nameIndex := 358, descriptorIndex := 339, attributes := #[] }, { accessFlags := 25, nameIndex := 361, descriptorIndex := 339, attributes := #[] }, { accessFlags := 26, nameIndex := 364, descriptorIndex := 339, attributes := #[] }, { accessFlags := 26, nameIndex := 365, descriptorIndex := 339, attributes := #[] }, { accessFlags := 26, nameIndex := 172, descriptorIndex := 173, attributes := #[] }, { accessFlags := 26, nameIndex := 176, descriptorIndex := 173, attributes := #[] }, { accessFlags := 8, nameIndex := 344, descriptorIndex := 339, attributes := #[] }, { accessFlags := 8, nameIndex := 338, descriptorIndex := 339, attributes := #[] }, { accessFlags := 4120, nameIndex := 245, descriptorIndex := 246, attributes := #[] }])
  fields := #[{ name := "E", type := .double, accessFlags := 25, slot := 0, constantValue := 0 }, { name := "PI", type := .double, accessFlags := 25, slot := 1, constantValue := 0 }, { name := "TAU", type := .double, accessFlags := 25, slot := 2, constantValue := 0 }, { name := "DEGREES_TO_RADIANS", type := .double, accessFlags := 26, slot := 3, constantValue := 0 }, { name := "RADIANS_TO_DEGREES", type := .double, accessFlags := 26, slot := 4, constantValue := 0 }, { name := "negativeZeroFloatBits", type := .long, accessFlags := 26, slot := 5, constantValue := 0 }, { name := "negativeZeroDoubleBits", type := .long, accessFlags := 26, slot := 6, constantValue := 0 }, { name := "twoToTheDoubleScaleUp", type := .double, accessFlags := 8, slot := 7, constantValue := 0 }, { name := "twoToTheDoubleScaleDown", type := .double, accessFlags := 8, slot := 8, constantValue := 0 }, { name := "$assertionsDisabled", type := .boolean, accessFlags := 4120, slot := 9, constantValue := 0 }]
  methods := #[k9m0, k9m1, k9m2, k9m3]
  instanceTypes := #[]
  staticTypes := #[.double, .double, .double, .double, .double, .long, .long, .double, .double, .boolean]
  resolved := Array.replicate 460 none
  statics := none }

def pool10 : Array CpInfo := pool [(1, u "java/lang/Cloneable"), (0, .class_ 1), (0, u "java/lang/Object"), (0, .class_ 3)] 3

/-- java/lang/Cloneable -/
def k10 : Class := { plain "java/lang/Cloneable" (some 0) with
  accessFlags := 1537
  interfaces := #[]
  cf := some (fileOf pool10 2 #[] #[] 1537 4 #[] #[])
  fields := #[]
  methods := #[]
  instanceTypes := #[]
  staticTypes := #[]
  resolved := Array.replicate 8 none
  statics := none }

/-- the primitive byte -/
def k11 : Class := { plain "byte" none with kind := .primitive 'B', accessFlags := 0x411 }
/-- [B -/
def k12 : Class := { plain "[B" (some 0) with kind := .array 11 .byte, interfaces := #[10, 3], accessFlags := 1041 }

/-- the primitive int -/
def k13 : Class := { plain "int" none with kind := .primitive 'I', accessFlags := 0x411 }
/-- [I -/
def k14 : Class := { plain "[I" (some 0) with kind := .array 13 .int, interfaces := #[10, 3], accessFlags := 1041 }

def heap : Heap := #[]
def classes : Array Class := #[k0, k1, k2, k3, k4, k5, k6, k7, k8, k9, k10, k11, k12, k13, k14]
def interned : List (Array UInt16 × Addr) := []
def slotsUsed : Nat := 0
def theMethod : MethodId := ⟨1, 2⟩
def args0 : Array Value := #[.int 5, .int 7, .int 4, .int 9]
def aboutOver (below : List Frame) : State where
  vm := { classes := classes, interned := interned.toArray }
  heap := heap
  slotsUsed := slotsUsed
  threads := #[{ frames := .invoking theMethod args0 :: below }]
def below0 : List Frame := [.native { method := ⟨0, 0⟩, args := #[] }]
def about1 : State := aboutOver below0
def p0 : Program := .bare "" "" ""
def e0 : Env := launch0.env 0 0 0
theorem w_frames : about1.frames = Frame.invoking theMethod args0 :: below0 := rfl
set_option maxRecDepth 65536 in
theorem w_args : argsFit about1.vm theMethod args0 = true := by decide +kernel
set_option maxRecDepth 65536 in
theorem w_heap : heapFits about1 = true := by decide +kernel
set_option maxRecDepth 65536 in
theorem w_runnable : about1.curStatus? = some .runnable := by decide +kernel
set_option maxRecDepth 65536 in
theorem w_alone : about1.alone = true := by decide +kernel
set_option maxRecDepth 65536 in
theorem w_named : about1.methodNamed? x = some theMethod := by decide +kernel
set_option maxRecDepth 65536 in
theorem w_hears : about1.hears theMethod below0 = true := by decide +kernel
set_option maxRecDepth 65536 in
theorem w_ripe : about1.ripe theMethod args0 below0 = true := by decide +kernel
theorem w_running : about1.status = .running := rfl
set_option maxRecDepth 65536 in
theorem w_room : about1.hasRoom e0.platform room_1 = true :=
  launch0.hasRoom_least _ room_1 (by decide +kernel) (by decide +kernel) (by decide +kernel) (by decide +kernel) (by decide +kernel) (by decide +kernel)
theorem allAtoms_all (ts : List Jvm.Cond) (a : Array Jvm.Value) (st : Jvm.State) : (allAtoms ts).before a st = ts.all (fun c => c.before a st) := by
  induction ts with
  | nil => rfl
  | cons c t ih =>
    show (Jvm.Cond.and c (allAtoms t)).before a st = _
    rw [Jvm.Cond.before_and, ih, List.all_cons]
def words1 : List Jvm.Cond := Jvm.Cond.code x code maxLocals ret :: tables_1
/-- a 'code' word, met by the world's own term for the bytes: nothing is compared byte by byte -/
theorem code_word {y : MethodName} {bytes : ByteArray} {mx : Nat} {rt : Option FieldType} {a : Array Value} {s : State} {m : MethodId} {meth : Method} {c : Code} (h1 : s.methodNamed? y = some m) (h2 : s.vm.method? m = some meth) (h3 : meth.code = some c) (h4 : c.code = bytes)
    (h5 : (c.maxLocals == mx && c.exceptionTable.isEmpty && decide (c.maxStack ≤ mostOperands) && decide (meth.sig.returnType = rt) && !meth.locks && decide (parseMethodDescriptor y.desc = some meth.sig)) = true) : (Jvm.Cond.code y bytes mx rt).before a s = true := by
  simp only [Bool.and_eq_true, beq_iff_eq, Bool.not_eq_true', decide_eq_true_eq] at h5
  obtain ⟨⟨⟨⟨⟨g1, g2⟩, g3⟩, g4⟩, g5⟩, g6⟩ := h5
  simp [Cond.before, Cond.holds, Cond.value, h1, h2, h3, h4, g1, g2, g3, g4, g5, g6]
def isCode : Jvm.Cond → Bool
  | .code _ _ _ _ => true
  | _ => false
theorem all_split {L : List Jvm.Cond} {P : Jvm.Cond → Bool} (h1 : L.all (fun c => isCode c || P c) = true) (h2 : ∀ c ∈ L.filter isCode, P c = true) : L.all P = true := by
  refine List.all_eq_true.mpr fun c hc => ?_
  have h := List.all_eq_true.mp h1 c hc
  rcases Bool.eq_false_or_eq_true (isCode c) with hi | hi
  · exact h2 c (List.mem_filter.mpr ⟨hc, hi⟩)
  · simpa [hi] using h
set_option maxRecDepth 65536 in
theorem w_c0 : (Jvm.Cond.code x code maxLocals ret).before args0 about1 = true := code_word (m := ⟨1, 2⟩) (meth := k1m2) (c := k1c2) (by decide +kernel) rfl rfl rfl (by decide +kernel)
set_option maxRecDepth 65536 in
theorem w_c1 : (Jvm.Cond.code ({ cls := "com/example/bron/bron/trec/ScoreHistogram", name := "<init>", desc := "(DDI)V" } : Jvm.MethodName) prog_23_method_1_code (7 : Nat) (Option.none : Option Jvm.ClassFile.FieldType)).before args0 about1 = true := code_word (m := ⟨2, 0⟩) (meth := k2m0) (c := k2c0) (by decide +kernel) rfl rfl rfl (by decide +kernel)
set_option maxRecDepth 65536 in
theorem w_c2 : (Jvm.Cond.code ({ cls := "java/lang/Object", name := "<init>", desc := "()V" } : Jvm.MethodName) object_method_1_code (1 : Nat) (Option.none : Option Jvm.ClassFile.FieldType)).before args0 about1 = true := code_word (m := ⟨0, 0⟩) (meth := k0m0) (c := k0c0) (by decide +kernel) rfl rfl rfl (by decide +kernel)
set_option maxRecDepth 65536 in
theorem w_c3 : (Jvm.Cond.code ({ cls := "java/lang/Double", name := "isFinite", desc := "(D)Z" } : Jvm.MethodName) jdk_117_method_8_code (2 : Nat) (Option.some Jvm.ClassFile.FieldType.boolean)).before args0 about1 = true := code_word (m := ⟨8, 0⟩) (meth := k8m0) (c := k8c0) (by decide +kernel) rfl rfl rfl (by decide +kernel)
set_option maxRecDepth 65536 in
theorem w_c4 : (Jvm.Cond.code ({ cls := "java/lang/Math", name := "abs", desc := "(D)D" } : Jvm.MethodName) jdk_29_method_64_code (2 : Nat) (Option.some Jvm.ClassFile.FieldType.double)).before args0 about1 = true := code_word (m := ⟨9, 1⟩) (meth := k9m1) (c := k9c1) (by decide +kernel) rfl rfl rfl (by decide +kernel)
set_option maxRecDepth 65536 in
theorem w_c5 : (Jvm.Cond.code ({ cls := "java/lang/Math", name := "min", desc := "(II)I" } : Jvm.MethodName) jdk_29_method_69_code (2 : Nat) (Option.some Jvm.ClassFile.FieldType.int)).before args0 about1 = true := code_word (m := ⟨9, 3⟩) (meth := k9m3) (c := k9c3) (by decide +kernel) rfl rfl rfl (by decide +kernel)
set_option maxRecDepth 65536 in
theorem w_c6 : (Jvm.Cond.code ({ cls := "java/lang/Math", name := "max", desc := "(II)I" } : Jvm.MethodName) jdk_29_method_65_code (2 : Nat) (Option.some Jvm.ClassFile.FieldType.int)).before args0 about1 = true := code_word (m := ⟨9, 2⟩) (meth := k9m2) (c := k9c2) (by decide +kernel) rfl rfl rfl (by decide +kernel)
set_option maxRecDepth 65536 in
theorem w_c7 : (Jvm.Cond.code ({ cls := "com/example/bron/bron/trec/ScoreHistogram", name := "add", desc := "(D)V" } : Jvm.MethodName) prog_23_method_2_code (3 : Nat) (Option.none : Option Jvm.ClassFile.FieldType)).before args0 about1 = true := code_word (m := ⟨2, 1⟩) (meth := k2m1) (c := k2c1) (by decide +kernel) rfl rfl rfl (by decide +kernel)
set_option maxRecDepth 65536 in
theorem w_c8 : (Jvm.Cond.code ({ cls := "com/example/bron/bron/trec/ScoreHistogram", name := "bucket", desc := "(D)I" } : Jvm.MethodName) prog_23_method_3_code (3 : Nat) (Option.some Jvm.ClassFile.FieldType.int)).before args0 about1 = true := code_word (m := ⟨2, 2⟩) (meth := k2m2) (c := k2c2) (by decide +kernel) rfl rfl rfl (by decide +kernel)
set_option maxRecDepth 65536 in
theorem w_c9 : (Jvm.Cond.code ({ cls := "com/example/bron/bron/trec/ScoreHistogram", name := "bucketAt", desc := "(I)I" } : Jvm.MethodName) prog_23_method_4_code (4 : Nat) (Option.some Jvm.ClassFile.FieldType.int)).before args0 about1 = true := code_word (m := ⟨2, 3⟩) (meth := k2m3) (c := k2c3) (by decide +kernel) rfl rfl rfl (by decide +kernel)
set_option maxRecDepth 65536 in
theorem w_c10 : (Jvm.Cond.code ({ cls := "com/example/bron/bron/trec/ScoreHistogramBucketAtPinLaw", name := "ref", desc := "(II)I" } : Jvm.MethodName) method_2_code (2 : Nat) (Option.some Jvm.ClassFile.FieldType.int)).before args0 about1 = true := code_word (m := ⟨1, 1⟩) (meth := k1m1) (c := k1c1) (by decide +kernel) rfl rfl rfl (by decide +kernel)
def codes1 : List Jvm.Cond := [Jvm.Cond.code x code maxLocals ret, Jvm.Cond.code ({ cls := "com/example/bron/bron/trec/ScoreHistogram", name := "<init>", desc := "(DDI)V" } : Jvm.MethodName) prog_23_method_1_code (7 : Nat) (Option.none : Option Jvm.ClassFile.FieldType), Jvm.Cond.code ({ cls := "java/lang/Object", name := "<init>", desc := "()V" } : Jvm.MethodName) object_method_1_code (1 : Nat) (Option.none : Option Jvm.ClassFile.FieldType), Jvm.Cond.code ({ cls := "java/lang/Double", name := "isFinite", desc := "(D)Z" } : Jvm.MethodName) jdk_117_method_8_code (2 : Nat) (Option.some Jvm.ClassFile.FieldType.boolean), Jvm.Cond.code ({ cls := "java/lang/Math", name := "abs", desc := "(D)D" } : Jvm.MethodName) jdk_29_method_64_code (2 : Nat) (Option.some Jvm.ClassFile.FieldType.double), Jvm.Cond.code ({ cls := "java/lang/Math", name := "min", desc := "(II)I" } : Jvm.MethodName) jdk_29_method_69_code (2 : Nat) (Option.some Jvm.ClassFile.FieldType.int), Jvm.Cond.code ({ cls := "java/lang/Math", name := "max", desc := "(II)I" } : Jvm.MethodName) jdk_29_method_65_code (2 : Nat) (Option.some Jvm.ClassFile.FieldType.int), Jvm.Cond.code ({ cls := "com/example/bron/bron/trec/ScoreHistogram", name := "add", desc := "(D)V" } : Jvm.MethodName) prog_23_method_2_code (3 : Nat) (Option.none : Option Jvm.ClassFile.FieldType), Jvm.Cond.code ({ cls := "com/example/bron/bron/trec/ScoreHistogram", name := "bucket", desc := "(D)I" } : Jvm.MethodName) prog_23_method_3_code (3 : Nat) (Option.some Jvm.ClassFile.FieldType.int), Jvm.Cond.code ({ cls := "com/example/bron/bron/trec/ScoreHistogram", name := "bucketAt", desc := "(I)I" } : Jvm.MethodName) prog_23_method_4_code (4 : Nat) (Option.some Jvm.ClassFile.FieldType.int), Jvm.Cond.code ({ cls := "com/example/bron/bron/trec/ScoreHistogramBucketAtPinLaw", name := "ref", desc := "(II)I" } : Jvm.MethodName) method_2_code (2 : Nat) (Option.some Jvm.ClassFile.FieldType.int)]
set_option maxRecDepth 65536 in
theorem codes_eq : words1.filter isCode = codes1 := rfl
theorem w_codes : ∀ c ∈ words1.filter isCode, c.before args0 about1 = true := by
  rw [codes_eq]
  intro c hc
  simp only [codes1, List.mem_cons, List.not_mem_nil, or_false] at hc
  rcases hc with rfl | rfl | rfl | rfl | rfl | rfl | rfl | rfl | rfl | rfl | rfl
  · exact w_c0
  · exact w_c1
  · exact w_c2
  · exact w_c3
  · exact w_c4
  · exact w_c5
  · exact w_c6
  · exact w_c7
  · exact w_c8
  · exact w_c9
  · exact w_c10
set_option maxRecDepth 65536 in
theorem w_t1 : (words1.take 24).all (fun c => isCode c || c.before args0 about1) = true := by decide +kernel
set_option maxRecDepth 65536 in
theorem w_t2 : ((words1.drop 24).take 24).all (fun c => isCode c || c.before args0 about1) = true := by decide +kernel
set_option maxRecDepth 65536 in
theorem w_t3 : ((words1.drop 24).drop 24).all (fun c => isCode c || c.before args0 about1) = true := by decide +kernel
theorem w_tables : (allAtoms (Jvm.Cond.code x code maxLocals ret :: tables_1)).before args0 about1 = true := by
  rw [allAtoms_all]
  show words1.all (fun c => c.before args0 about1) = true
  refine all_split ?_ w_codes
  rw [← List.take_append_drop 24 words1, List.all_append, w_t1, ← List.take_append_drop 24 (words1.drop 24), List.all_append, w_t2, w_t3]
  rfl
set_option maxRecDepth 65536 in
theorem w_case : (Jvm.Cond.and given_1 narrow_1).before args0 about1 = true := by decide +kernel
theorem w_applies : (headSpec (Jvm.Cond.code x code maxLocals ret :: tables_1) room_1).applies x e0.platform about1 = true :=
  (Spec.applies_iff w_frames).mpr ⟨w_running, w_runnable, w_alone, w_named, w_hears, w_ripe, w_room, w_tables⟩
theorem atStart : AtStart classFile x code maxLocals ret World_1 tables_1 room_1 Calls_1 rest_1 Pre_1 launch0 p0 e0 about1 theMethod args0 below0 :=
  ⟨lists_1, trivial, launch0.admits_env _ _ _, launch0.least_env, fairChoices_fair.cas, fairChoices_fair.clock, w_frames, w_args, w_heap, w_applies, trivial, trivial, w_case⟩
end start1
theorem witness_1 : WitnessClaimed_1 := ⟨start1.p0, start1.e0, start1.about1, start1.theMethod, start1.args0, start1.below0, start1.atStart⟩
end Jvm.Pilot.@@N@@
