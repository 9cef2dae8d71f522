import JvmDerived
import JvmDerived.Pilot.@@N@@Statement
import JvmDerived.Pilot.@@N@@Code
set_option linter.unusedVariables false
set_option linter.unusedSimpArgs false
/- laws to paste: Road.backV (cut by pick.py; bodies as the Statement names them) -/
namespace Jvm.Pilot.@@N@@
namespace StrChars
open Jvm Sem ClassFile Op Lib Jvm.Stand Jvm.Free.XT Jvm.Free.ALB Jvm.Free.JM Jvm.Free
open Jvm.Lib.Cold (StaticIs)
/-- a char array whose places are chars -/
def Ch (a : Addr) (A : Cell) (U : State) : Prop := Arr .char a A U ∧ Typed .char A
theorem Ch.mv {a : Addr} {A : Cell} {U U' : State} (h : Ch a A U) (hal : U.vm.Alike U'.vm) (hh : U'.heap = U.heap) : Ch a A U' := ⟨h.1.mv hal hh, h.2⟩
theorem Ch.keep {a : Addr} {A : Cell} {U U' : State} (h : Ch a A U) (hal : U.vm.Alike U'.vm) (hk : U'.heap[a]? = some A) : Ch a A U' := ⟨h.1.keep hal hk, h.2⟩
/-- what place i of a char[]'s cell holds -/
def cv (A : Cell) (i : Nat) : Int32 := match A.slots[i]? with | some (.int x) => x | _ => 0
theorem Ch.get {a : Addr} {A : Cell} {U : State} (h : Ch a A U) {i : Nat} (hi : i < A.slots.size) : A.slots[i]? = some (.int (cv A i)) := by
  have e := Array.getElem?_eq_getElem hi
  have f := h.2 i _ e
  unfold cv; rw [e]
  generalize A.slots[i] = v at f
  cases v <;> simp [fits] at f ⊢
/-- the byte that i2b leaves of a char -/
def lo8 (x : Int32) : Int32 := x.toInt8.toInt32
theorem fits_lo8 (y : Int32) : fits .byte (.int (lo8 y)) = true := by
  have h1 := y.toInt8.le_toInt
  have h2 := y.toInt8.toInt_lt
  simp only [lo8, fits, Bool.and_eq_true, decide_eq_true_eq, Int32.le_iff_toInt_le, Int8.toInt_toInt32, show (-128 : Int32).toInt = -128 from by decide, show (127 : Int32).toInt = 127 from by decide]
  omega
/-- A' is A but that each place j of lo .. hi - 1 holds f j -/
def Laid (A A' : Cell) (lo hi : Nat) (f : Nat → Value) : Prop := A'.cls = A.cls ∧ A'.vm = A.vm ∧ A'.slots.size = A.slots.size ∧ ∀ i, A'.slots[i]? = if lo ≤ i ∧ i < hi then some (f i) else A.slots[i]?
theorem Laid.zero (A : Cell) (lo : Nat) (f : Nat → Value) : Laid A A lo (lo + 0) f := ⟨rfl, rfl, rfl, fun i => by rw [if_neg (by omega)]⟩
theorem Laid.step {A Ak : Cell} {lo k : Nat} {f : Nat → Value} {v : Value} (h : Laid A Ak lo k f) (hlo : lo ≤ k) (hk : k < Ak.slots.size) (hv : v = f k) : Laid A (Ak.setSlot k v) lo (k + 1) f := by
  refine ⟨h.1, h.2.1, by simpa [Cell.setSlot] using h.2.2.1, fun i => ?_⟩
  by_cases e : k = i
  · subst e; rw [Cell.slots_setSlot_self v hk, if_pos (by omega), hv]
  · rw [Cell.slots_setSlot_ne v e, h.2.2.2 i]
    by_cases q : lo ≤ i ∧ i < k
    · rw [if_pos q, if_pos (by omega)]
    · rw [if_neg q, if_neg (by omega)]
def U16 : String := "java/lang/StringUTF16"
namespace Cmp5
def yN : MethodName := ⟨"java/lang/StringUTF16", "compress", "([CI[BII)I"⟩
abbrev yB : ByteArray := jdk_52_method_21_code
theorem d0 : decode yB 0 = .ok (.iconst 0, 1) := by decide +kernel
theorem d1 : decode yB 1 = .ok (.istore 5, 2) := by decide +kernel
theorem d3 : decode yB 3 = .ok (.iload 5, 2) := by decide +kernel
theorem d5 : decode yB 5 = .ok (.iload 4, 2) := by decide +kernel
theorem d7 : decode yB 7 = .ok (.if_icmp (.ge) 37, 3) := by decide +kernel
theorem d10 : decode yB 10 = .ok (.aload_n 0, 1) := by decide +kernel
theorem d11 : decode yB 11 = .ok (.iload_n 1, 1) := by decide +kernel
theorem d12 : decode yB 12 = .ok (.caload, 1) := by decide +kernel
theorem d13 : decode yB 13 = .ok (.istore 6, 2) := by decide +kernel
theorem d15 : decode yB 15 = .ok (.iload 6, 2) := by decide +kernel
theorem d17 : decode yB 17 = .ok (.sipush 255, 3) := by decide +kernel
theorem d20 : decode yB 20 = .ok (.if_icmp (.le) 6, 3) := by decide +kernel
theorem d26 : decode yB 26 = .ok (.aload_n 2, 1) := by decide +kernel
theorem d27 : decode yB 27 = .ok (.iload_n 3, 1) := by decide +kernel
theorem d28 : decode yB 28 = .ok (.iload 6, 2) := by decide +kernel
theorem d30 : decode yB 30 = .ok (.i2b, 1) := by decide +kernel
theorem d31 : decode yB 31 = .ok (.bastore, 1) := by decide +kernel
theorem d32 : decode yB 32 = .ok (.iinc 1 1, 3) := by decide +kernel
theorem d35 : decode yB 35 = .ok (.iinc 3 1, 3) := by decide +kernel
theorem d38 : decode yB 38 = .ok (.iinc 5 1, 3) := by decide +kernel
theorem d41 : decode yB 41 = .ok (.goto (-38), 3) := by decide +kernel
theorem d44 : decode yB 44 = .ok (.iload 4, 2) := by decide +kernel
theorem d46 : decode yB 46 = .ok (.ireturn, 1) := by decide +kernel
def site : List Cond := []
def tab : Cond := tabOf yN yB 7 (some .int) site
def P (b : Addr) (A : Cell) (d : Addr) (B : Cell) (o q len : Nat) (args : Array Value) (s : State) : Prop := args = #[.ref b, .int (Int32.ofNat o), .ref d, .int (Int32.ofNat q), .int (Int32.ofNat len)] ∧ Ch b A s ∧ Arr .byte d B s ∧ b ≠ d ∧ o + len ≤ A.slots.size ∧ q + len ≤ B.slots.size ∧ ∀ i, i < len → ¬ 255 < cv A (o + i)
def E (b : Addr) (A : Cell) (d : Addr) (B : Cell) (o q len : Nat) (r : Option Value) (s u : State) : Prop := r = some (.int (Int32.ofNat len)) ∧ ∃ B', Put d B' s u ∧ Laid B B' q (q + len) (fun j => Value.int (lo8 (cv A (o + (j - q)))))
/-- no char of the range above 255: len; the places written hold each char's low byte -/
theorem law (l : Launch) (b : Addr) (A : Cell) (d : Addr) (B : Cell) (o q len : Nat) : Law l yN 5 5 0 0 yB 7 (some .int) site (P b A d B o q len) (E b A d B o q len) (copyLocs d q len) 0 0 := by
  refine Law.of_walk (plainFor_of_name (by decide +kernel)) (by decide +kernel) (by decide +kernel) (by decide) (fun _ _ h => by rw [h.1]; rfl) (fun _ U U' hal hh h => ⟨h.1, h.2.1.mv hal hh, h.2.2.1.mv hal hh, h.2.2.2⟩) (fun r U U' V V' h1 hal h2 h => ⟨h.1, h.2.elim fun B' q => ⟨B', q.1.mv h1 h2, q.2⟩⟩) ?_
  intro p e s m args below meth c s₁ X0 hexec hbytes hml hret hlk hnm hown hh0 W hP
  obtain ⟨rfl, hA, hB, hne, l1, l2, hp⟩ := hP
  have c1 : Steps p.tables e below (s₁.setTop (entryFrame m #[.ref b, .int (Int32.ofNat o), .ref d, .int (Int32.ofNat q), .int (Int32.ofNat len)] 7)) (s₁.setTop (mkF m 0 #[.val (.ref b), .val (.int (Int32.ofNat o)), .val (.ref d), .val (.int (Int32.ofNat q)), .val (.int (Int32.ofNat len)), .unset, .unset] [])) := entry rfl
  have hA0 := hA.1.mv X0.warmed.alike hh0
  have hB0 := hB.mv X0.warmed.alike hh0
  have a31 := hA.1.2.2.2
  have c2 : Steps p.tables e below (s₁.setTop (entryFrame m #[.ref b, .int (Int32.ofNat o), .ref d, .int (Int32.ofNat q), .int (Int32.ofNat len)] 7)) (s₁.setTop (mkF m 3 #[.val (.ref b), .val (.int (Int32.ofNat o)), .val (.ref d), .val (.int (Int32.ofNat q)), .val (.int (Int32.ofNat len)), .val (.int 0), .unset] [])) := c1.trans (by
    refine iconstV X0.here hexec rfl 0 (hb hbytes d0) (by decide) ?_
    refine XS.istore X0.here hexec rfl (hb hbytes d1) rfl rfl ?_
    exact Steps.refl _)
  have loop : ∀ (r i : Nat), i + r = len → ∀ (z : Slot), (z = .unset ∨ ∃ w, z = .val w ∧ w.category = 1) → ∀ (Tl : State) (Bk : Cell), Stand p l e { frames := 0, locals := 0, cells := 0, slots := 0 } s m #[.ref b, .int (Int32.ofNat o), .ref d, .int (Int32.ofNat q), .int (Int32.ofNat len)] below meth c Tl ([] ++ copyLocs d q i) 0 0 → Put d Bk s₁ Tl → Laid B Bk q (q + i) (fun j => Value.int (lo8 (cv A (o + (j - q))))) →
      Steps p.tables e below (s₁.setTop (entryFrame m #[.ref b, .int (Int32.ofNat o), .ref d, .int (Int32.ofNat q), .int (Int32.ofNat len)] 7)) (Tl.setTop (mkF m 3 #[.val (.ref b), .val (.int (Int32.ofNat (o + i))), .val (.ref d), .val (.int (Int32.ofNat (q + i))), .val (.int (Int32.ofNat len)), .val (.int (Int32.ofNat i)), z] [])) → ∃ (T' : State) (B' : Cell) (z' : Slot), Stand p l e { frames := 0, locals := 0, cells := 0, slots := 0 } s m #[.ref b, .int (Int32.ofNat o), .ref d, .int (Int32.ofNat q), .int (Int32.ofNat len)] below meth c T' ([] ++ copyLocs d q len) 0 0 ∧ Put d B' s₁ T' ∧ Laid B B' q (q + len) (fun j => Value.int (lo8 (cv A (o + (j - q))))) ∧
      Steps p.tables e below (s₁.setTop (entryFrame m #[.ref b, .int (Int32.ofNat o), .ref d, .int (Int32.ofNat q), .int (Int32.ofNat len)] 7)) (T'.setTop (mkF m 3 #[.val (.ref b), .val (.int (Int32.ofNat (o + len))), .val (.ref d), .val (.int (Int32.ofNat (q + len))), .val (.int (Int32.ofNat len)), .val (.int (Int32.ofNat len)), z'] [])) := by
    intro r
    induction r with
    | zero =>
      intro i hi z hz Tl Bk Xl pl fl cl
      have hil : i = len := by omega
      rw [hil] at Xl fl cl
      exact ⟨Tl, Bk, z, Xl, pl, fl, cl⟩
    | succ r ih =>
      intro i hi z hz Tl Bk Xl pl fl cl
      have all := X0.warmed.alike.symm.trans Xl.warmed.alike
      have hAl := hA0.keep all (pl.other hne hA0.1)
      have hBk := hB0.like all pl.1 fl.1 fl.2.1 fl.2.2.1
      have hlt : q + i < Bk.slots.size := by rw [fl.2.2.1]; omega
      have c3 : Steps p.tables e below (s₁.setTop (entryFrame m #[.ref b, .int (Int32.ofNat o), .ref d, .int (Int32.ofNat q), .int (Int32.ofNat len)] 7)) (Tl.setTop (mkF m 12 #[.val (.ref b), .val (.int (Int32.ofNat (o + i))), .val (.ref d), .val (.int (Int32.ofNat (q + i))), .val (.int (Int32.ofNat len)), .val (.int (Int32.ofNat i)), z] [.int (Int32.ofNat (o + i)), .ref b])) := cl.trans (by
        refine XS.iload Xl.here hexec rfl (hb hbytes d3) rfl ?_
        refine XS.iload Xl.here hexec rfl (hb hbytes d5) rfl ?_
        refine XS.icmpNo Xl.here hexec rfl (hb hbytes d7) rfl (ii_ge_f (lt32 (by omega) (by omega))) ?_
        refine XS.aloadN Xl.here hexec rfl (hb hbytes d10) rfl rfl ?_
        refine XS.iloadN Xl.here hexec rfl (hb hbytes d11) rfl ?_
        exact Steps.refl _)
      have c4 : Steps p.tables e below (s₁.setTop (entryFrame m #[.ref b, .int (Int32.ofNat o), .ref d, .int (Int32.ofNat q), .int (Int32.ofNat len)] 7)) (Tl.setTop (mkF m 13 #[.val (.ref b), .val (.int (Int32.ofNat (o + i))), .val (.ref d), .val (.int (Int32.ofNat (q + i))), .val (.int (Int32.ofNat len)), .val (.int (Int32.ofNat i)), z] [.int (cv A (o + i))])) := c3.trans (by
        refine Xl.aget hexec hAl rfl (hA.get (i := o + i) (by omega)) rfl rfl (hb hbytes d12) ?_
        exact Steps.refl _)
      have c5 : Steps p.tables e below (s₁.setTop (entryFrame m #[.ref b, .int (Int32.ofNat o), .ref d, .int (Int32.ofNat q), .int (Int32.ofNat len)] 7)) (Tl.setTop (mkF m 15 #[.val (.ref b), .val (.int (Int32.ofNat (o + i))), .val (.ref d), .val (.int (Int32.ofNat (q + i))), .val (.int (Int32.ofNat len)), .val (.int (Int32.ofNat i)), .val (.int (cv A (o + i)))] [])) := c4.trans (by
        refine XS.istoreS Xl.here hexec rfl (hb hbytes d13) rfl rfl hz ?_
        exact Steps.refl _)
      have c6 : Steps p.tables e below (s₁.setTop (entryFrame m #[.ref b, .int (Int32.ofNat o), .ref d, .int (Int32.ofNat q), .int (Int32.ofNat len)] 7)) (Tl.setTop (mkF m 31 #[.val (.ref b), .val (.int (Int32.ofNat (o + i))), .val (.ref d), .val (.int (Int32.ofNat (q + i))), .val (.int (Int32.ofNat len)), .val (.int (Int32.ofNat i)), .val (.int (cv A (o + i)))] [.int (lo8 (cv A (o + i))), .int (Int32.ofNat (q + i)), .ref d])) := c5.trans (by
        refine XS.iload Xl.here hexec rfl (hb hbytes d15) rfl ?_
        refine sipushV Xl.here hexec rfl 255 (hb hbytes d17) (by decide) ?_
        refine XS.icmpYes Xl.here hexec rfl (pc0 := 20) rfl (hb hbytes d20) rfl (ii_le_t (hp i (by omega))) (by decide) rfl ?_
        refine XS.aloadN Xl.here hexec rfl (hb hbytes d26) rfl rfl ?_
        refine XS.iloadN Xl.here hexec rfl (hb hbytes d27) rfl ?_
        refine XS.iload Xl.here hexec rfl (hb hbytes d28) rfl ?_
        refine i2b Xl.here hexec rfl (hb hbytes d30) rfl ?_
        exact Steps.refl _)
      obtain ⟨T7, X7, p7, st7⟩ := Xl.aput hexec hBk rfl hlt rfl (fits_lo8 (cv A (o + i))) (g := (mkF m 31 #[.val (.ref b), .val (.int (Int32.ofNat (o + i))), .val (.ref d), .val (.int (Int32.ofNat (q + i))), .val (.int (Int32.ofNat len)), .val (.int (Int32.ofNat i)), .val (.int (cv A (o + i)))] [.int (lo8 (cv A (o + i))), .int (Int32.ofNat (q + i)), .ref d])) rfl (rest := []) rfl (hb hbytes d31)
      have c8 : Steps p.tables e below (s₁.setTop (entryFrame m #[.ref b, .int (Int32.ofNat o), .ref d, .int (Int32.ofNat q), .int (Int32.ofNat len)] 7)) (T7.setTop (mkF m 32 #[.val (.ref b), .val (.int (Int32.ofNat (o + i))), .val (.ref d), .val (.int (Int32.ofNat (q + i))), .val (.int (Int32.ofNat len)), .val (.int (Int32.ofNat i)), .val (.int (cv A (o + i)))] [])) := c6.trans (st7 _ (Steps.refl _))
      have c9 : Steps p.tables e below (s₁.setTop (entryFrame m #[.ref b, .int (Int32.ofNat o), .ref d, .int (Int32.ofNat q), .int (Int32.ofNat len)] 7)) (T7.setTop (mkF m 3 #[.val (.ref b), .val (.int (Int32.ofNat (o + i) + 1)), .val (.ref d), .val (.int (Int32.ofNat (q + i) + 1)), .val (.int (Int32.ofNat len)), .val (.int (Int32.ofNat i + 1)), .val (.int (cv A (o + i)))] [])) := c8.trans (by
        refine iincV X7.here hexec rfl 1 (hb hbytes d32) (by decide) rfl rfl ?_
        refine iincV X7.here hexec rfl 1 (hb hbytes d35) (by decide) rfl rfl ?_
        refine iincV X7.here hexec rfl 1 (hb hbytes d38) (by decide) rfl rfl ?_
        refine XS.goto X7.here hexec rfl (pc0 := 41) rfl (hb hbytes d41) (by decide) rfl ?_
        exact Steps.refl _)
      have c10 : Steps p.tables e below (s₁.setTop (entryFrame m #[.ref b, .int (Int32.ofNat o), .ref d, .int (Int32.ofNat q), .int (Int32.ofNat len)] 7)) (T7.setTop (mkF m 3 #[.val (.ref b), .val (.int (Int32.ofNat (o + (i + 1)))), .val (.ref d), .val (.int (Int32.ofNat (q + (i + 1)))), .val (.int (Int32.ofNat len)), .val (.int (Int32.ofNat (i + 1))), .val (.int (cv A (o + i)))] [])) := by
        have := c9
        rw [succ32, succ32, succ32] at this
        exact this
      exact ih (i + 1) (by omega) _ (Or.inr ⟨_, rfl, rfl⟩) T7 _ (by rw [copyLocs_step, ← List.append_assoc]; exact X7) (pl.trans p7) (fl.step (by omega) hlt (by simp)) c10
  obtain ⟨T9, B9, z9, X9, p9, f9, g9⟩ := loop len 0 (by omega) .unset (Or.inl rfl) s₁ B (by simpa [copyLocs] using X0) ⟨hB0.1, fun _ _ => rfl, rfl⟩ (Laid.zero _ _ _) c2
  have c11 : Steps p.tables e below (s₁.setTop (entryFrame m #[.ref b, .int (Int32.ofNat o), .ref d, .int (Int32.ofNat q), .int (Int32.ofNat len)] 7)) (T9.setTop (mkF m 46 #[.val (.ref b), .val (.int (Int32.ofNat (o + len))), .val (.ref d), .val (.int (Int32.ofNat (q + len))), .val (.int (Int32.ofNat len)), .val (.int (Int32.ofNat len)), z9] [.int (Int32.ofNat len)])) := g9.trans (by
    refine XS.iload X9.here hexec rfl (hb hbytes d3) rfl ?_
    refine XS.iload X9.here hexec rfl (hb hbytes d5) rfl ?_
    refine XS.icmpYes X9.here hexec rfl (pc0 := 7) rfl (hb hbytes d7) rfl (ii_ge_t (nlt32 (by omega) (Nat.le_refl _))) (by decide) rfl ?_
    refine XS.iload X9.here hexec rfl (hb hbytes d44) rfl ?_
    exact Steps.refl _)
  exact ⟨T9, some (.int (Int32.ofNat len)), _, _, _, X9, by simp, rfl, rfl, (fun h => by cases h), ⟨rfl, B9, p9.from hh0, f9⟩, fun fs hl => c11.trans (X9.ireturnOut hexec hret rfl (Or.inl rfl) (hb hbytes d46) hl)⟩
end Cmp5
namespace Cmp3
def yN : MethodName := ⟨"java/lang/StringUTF16", "compress", "([CII)[B"⟩
abbrev yB : ByteArray := jdk_52_method_16_code
theorem d0 : decode yB 0 = .ok (.iload_n 2, 1) := by decide +kernel
theorem d1 : decode yB 1 = .ok (.newarray .byte, 2) := by decide +kernel
theorem d3 : decode yB 3 = .ok (.astore_n 3, 1) := by decide +kernel
theorem d4 : decode yB 4 = .ok (.aload_n 0, 1) := by decide +kernel
theorem d5 : decode yB 5 = .ok (.iload_n 1, 1) := by decide +kernel
theorem d6 : decode yB 6 = .ok (.aload_n 3, 1) := by decide +kernel
theorem d7 : decode yB 7 = .ok (.iconst 0, 1) := by decide +kernel
theorem d8 : decode yB 8 = .ok (.iload_n 2, 1) := by decide +kernel
theorem d9 : decode yB 9 = .ok (.invokestatic 115, 3) := by decide +kernel
theorem d12 : decode yB 12 = .ok (.istore 4, 2) := by decide +kernel
theorem d14 : decode yB 14 = .ok (.iload 4, 2) := by decide +kernel
theorem d16 : decode yB 16 = .ok (.iload_n 2, 1) := by decide +kernel
theorem d17 : decode yB 17 = .ok (.if_icmp (.eq) 40, 3) := by decide +kernel
theorem d57 : decode yB 57 = .ok (.aload_n 3, 1) := by decide +kernel
theorem d58 : decode yB 58 = .ok (.areturn, 1) := by decide +kernel
def site : List Cond := [.arrayClass .byte, Cmp5.tab] ++ staticW U16 115 Cmp5.yN
def tab : Cond := tabOf yN yB 6 (some (.array .byte)) site
def P (b : Addr) (A : Cell) (o len : Nat) (args : Array Value) (s : State) : Prop := args = #[.ref b, .int (Int32.ofNat o), .int (Int32.ofNat len)] ∧ Ch b A s ∧ o + len ≤ A.slots.size ∧ len ≤ 536870912 ∧ ∀ i, i < len → ¬ 255 < cv A (o + i)
def E (b : Addr) (A : Cell) (o len : Nat) (r : Option Value) (s u : State) : Prop := NewArr .byte "[B" len (fun j => .int (lo8 (cv A (o + j)))) r s u ∧ u.heap.size = s.heap.size + 1
/-- no char of the range above 255: a new byte[] of their low bytes -/
theorem law (l : Launch) (b : Addr) (A : Cell) (o len : Nat) : Law l yN 3 3 1 18 yB 6 (some (.array .byte)) site (P b A o len) (E b A o len) [] 1 len := by
  refine Law.of_walk (plainFor_of_name (by decide +kernel)) (by decide +kernel) (by decide +kernel) (by decide) (fun _ _ h => by rw [h.1]; rfl) (fun _ U U' hal hh h => ⟨h.1, h.2.1.mv hal hh, h.2.2⟩) (fun r U U' V V' h1 hal h2 h => ⟨NewArr.mv r U U' V V' h1 hal h2 h.1, by rw [h1, h2]; exact h.2⟩) ?_
  intro p e s m args below meth c s₁ X0 hexec hbytes hml hret hlk hnm hown hh0 W hP
  obtain ⟨rfl, hA, l1, l2, hp⟩ := hP
  have a31 := hA.1.2.2.2
  have c1 : Steps p.tables e below (s₁.setTop (entryFrame m #[.ref b, .int (Int32.ofNat o), .int (Int32.ofNat len)] 6)) (s₁.setTop (mkF m 0 #[.val (.ref b), .val (.int (Int32.ofNat o)), .val (.int (Int32.ofNat len)), .unset, .unset, .unset] [])) := entry rfl
  have c2 : Steps p.tables e below (s₁.setTop (entryFrame m #[.ref b, .int (Int32.ofNat o), .int (Int32.ofNat len)] 6)) (s₁.setTop (mkF m 1 #[.val (.ref b), .val (.int (Int32.ofNat o)), .val (.int (Int32.ofNat len)), .unset, .unset, .unset] [.int (Int32.ofNat len)])) := c1.trans (by
    refine XS.iloadN X0.here hexec rfl (hb hbytes d0) rfl ?_
    exact Steps.refl _)
  obtain ⟨T3, B3, X3, ba3, bs3, bv3, bh3, bf3, st3⟩ := X0.anew hexec (atype := .byte) (wk W (.arrayClass .byte)) rfl (by show len * 1 ≤ _; omega) (by omega) (g := (mkF m 1 #[.val (.ref b), .val (.int (Int32.ofNat o)), .val (.int (Int32.ofNat len)), .unset, .unset, .unset] [.int (Int32.ofNat len)])) rfl (hb hbytes d1) (rest := []) rfl (Nat.le_refl _) (by show 0 + len ≤ len; omega)
  rw [hh0] at ba3 st3
  have kp3 : XT.Kept s T3 := (XT.Kept.of_eq hh0).push bh3
  have hA3 := hA.keep X3.warmed.alike (kp3 _ _ hA.1.1)
  have hne : b ≠ s.heap.size := hA.1.ne
  have c4 : Steps p.tables e below (s₁.setTop (entryFrame m #[.ref b, .int (Int32.ofNat o), .int (Int32.ofNat len)] 6)) (T3.setTop (mkF m 3 #[.val (.ref b), .val (.int (Int32.ofNat o)), .val (.int (Int32.ofNat len)), .unset, .unset, .unset] [.ref s.heap.size])) := c2.trans (st3 _ (Steps.refl _))
  have c5 : Steps p.tables e below (s₁.setTop (entryFrame m #[.ref b, .int (Int32.ofNat o), .int (Int32.ofNat len)] 6)) (T3.setTop (mkF m 9 #[.val (.ref b), .val (.int (Int32.ofNat o)), .val (.int (Int32.ofNat len)), .val (.ref s.heap.size), .unset, .unset] [.int (Int32.ofNat len), .int 0, .ref s.heap.size, .int (Int32.ofNat o), .ref b])) := c4.trans (by
    refine XS.astoreN X3.here hexec rfl (hb hbytes d3) rfl rfl rfl ?_
    refine XS.aloadN X3.here hexec rfl (hb hbytes d4) rfl rfl ?_
    refine XS.iloadN X3.here hexec rfl (hb hbytes d5) rfl ?_
    refine XS.aloadN X3.here hexec rfl (hb hbytes d6) rfl rfl ?_
    refine iconstV X3.here hexec rfl 0 (hb hbytes d7) (by decide) ?_
    refine XS.iloadN X3.here hexec rfl (hb hbytes d8) rfl ?_
    exact Steps.refl _)
  obtain ⟨v6, T6, X6, E6, g6⟩ := X3.callS hexec (Cmp5.law l b A s.heap.size B3 o 0 len) hown (wks W (staticW U16 115 Cmp5.yN)) (wk W Cmp5.tab) (W := 0) (Nat.le_of_ble_eq_true rfl) (Nat.le_of_ble_eq_true rfl) (Nat.le_refl _) (by show 0 + len + 0 ≤ len; omega) (g := (mkF m 9 #[.val (.ref b), .val (.int (Int32.ofNat o)), .val (.int (Int32.ofNat len)), .val (.ref s.heap.size), .unset, .unset] [.int (Int32.ofNat len), .int (Int32.ofNat 0), .ref s.heap.size, .int (Int32.ofNat o), .ref b])) rfl (by rw [hml]; rfl) c5 (argsL := [.ref b, .int (Int32.ofNat o), .ref s.heap.size, .int (Int32.ofNat 0), .int (Int32.ofNat len)]) (rest := []) rfl rfl (by show 2 * 0 + 0 ≤ _; decide) (hb hbytes d9) (⟨rfl, hA3, ba3, hne, l1, by rw [bs3]; simp, hp⟩)
  obtain ⟨rfl, B6, p6, f6⟩ := E6
  have c7 : Steps p.tables e below (s₁.setTop (entryFrame m #[.ref b, .int (Int32.ofNat o), .int (Int32.ofNat len)] 6)) (T6.setTop (mkF m 12 #[.val (.ref b), .val (.int (Int32.ofNat o)), .val (.int (Int32.ofNat len)), .val (.ref s.heap.size), .unset, .unset] [.int (Int32.ofNat len)])) := g6
  have c8 : Steps p.tables e below (s₁.setTop (entryFrame m #[.ref b, .int (Int32.ofNat o), .int (Int32.ofNat len)] 6)) (T6.setTop (mkF m 58 #[.val (.ref b), .val (.int (Int32.ofNat o)), .val (.int (Int32.ofNat len)), .val (.ref s.heap.size), .val (.int (Int32.ofNat len)), .unset] [.ref s.heap.size])) := c7.trans (by
    refine XS.istore X6.here hexec rfl (hb hbytes d12) rfl rfl ?_
    refine XS.iload X6.here hexec rfl (hb hbytes d14) rfl ?_
    refine XS.iloadN X6.here hexec rfl (hb hbytes d16) rfl ?_
    refine XS.icmpYes X6.here hexec rfl (pc0 := 17) rfl (hb hbytes d17) rfl (ii_eq_t rfl) (by decide) rfl ?_
    refine XS.aloadN X6.here hexec rfl (hb hbytes d57) rfl rfl ?_
    exact Steps.refl _)
  have X8 := X6.wide (L' := []) (cells' := 1) (slots' := len) (fun x hx hlt => by
    simp only [List.nil_append, copyLocs, List.mem_map, List.mem_range] at hx
    obtain ⟨i, -, rfl⟩ := hx
    exact absurd hlt (Nat.lt_irrefl _)) (Nat.le_refl _) (by omega)
  exact ⟨T6, some (.ref s.heap.size), _, _, _, X8, rfl, rfl, rfl, (fun h => by cases h), ⟨⟨rfl, B6, ba3.like (X3.warmed.alike.symm.trans X6.warmed.alike) p6.1 f6.1 f6.2.1 f6.2.2.1, f6.2.1.trans bv3, by rw [X6.warmed.alike.findClass, f6.1]; exact bf3, by rw [f6.2.2.1, bs3]; simp, fun j hj => by rw [f6.2.2.2 j, if_pos (by omega)]; rfl, kp3.put p6 (Nat.le_refl _)⟩, by rw [p6.2.2, bh3, hh0]; simp⟩, fun fs hl => c8.trans (X8.areturnOut hexec rfl hret rfl (hb hbytes d58) hl)⟩
end Cmp3
namespace CodL
def yN : MethodName := ⟨"java/lang/StringUTF16", "coderFromArrayLen", "([BI)B"⟩
abbrev yB : ByteArray := jdk_52_method_15_code
theorem d0 : decode yB 0 = .ok (.iload_n 1, 1) := by decide +kernel
theorem d1 : decode yB 1 = .ok (.aload_n 0, 1) := by decide +kernel
theorem d2 : decode yB 2 = .ok (.arraylength, 1) := by decide +kernel
theorem d3 : decode yB 3 = .ok (.isub, 1) := by decide +kernel
theorem d4 : decode yB 4 = .ok (.bipush 31, 2) := by decide +kernel
theorem d6 : decode yB 6 = .ok (.iushr, 1) := by decide +kernel
theorem d7 : decode yB 7 = .ok (.i2b, 1) := by decide +kernel
theorem d8 : decode yB 8 = .ok (.ireturn, 1) := by decide +kernel
def site : List Cond := []
def tab : Cond := tabOf yN yB 2 (some .byte) site
def P (d : Addr) (B : Cell) (args : Array Value) (s : State) : Prop := args = #[.ref d, .int (Int32.ofNat B.slots.size)] ∧ Arr .byte d B s
def E (r : Option Value) (s u : State) : Prop := XT.PureE (some (.int 0)) r s u
/-- an array as long as the number of chars: LATIN1 -/
theorem law (l : Launch) (d : Addr) (B : Cell) : Law l yN 2 2 0 0 yB 2 (some .byte) site (P d B) E [] 0 0 := by
  refine Law.of_walk (plainFor_of_name (by decide +kernel)) (by decide +kernel) (by decide +kernel) (by decide) (fun _ _ h => by rw [h.1]; rfl) (fun _ U U' hal hh h => ⟨h.1, h.2.mv hal hh⟩) (fun r U U' V V' h1 hal h2 h => XT.PureE.mv r U U' V V' h1 hal h2 h) ?_
  intro p e s m args below meth c s₁ X0 hexec hbytes hml hret hlk hnm hown hh0 W hP
  obtain ⟨rfl, hB⟩ := hP
  have hB0 := hB.mv X0.warmed.alike hh0
  have c1 : Steps p.tables e below (s₁.setTop (entryFrame m #[.ref d, .int (Int32.ofNat B.slots.size)] 2)) (s₁.setTop (mkF m 0 #[.val (.ref d), .val (.int (Int32.ofNat B.slots.size))] [])) := entry rfl
  have c2 : Steps p.tables e below (s₁.setTop (entryFrame m #[.ref d, .int (Int32.ofNat B.slots.size)] 2)) (s₁.setTop (mkF m 2 #[.val (.ref d), .val (.int (Int32.ofNat B.slots.size))] [.ref d, .int (Int32.ofNat B.slots.size)])) := c1.trans (by
    refine XS.iloadN X0.here hexec rfl (hb hbytes d0) rfl ?_
    refine XS.aloadN X0.here hexec rfl (hb hbytes d1) rfl rfl ?_
    exact Steps.refl _)
  have c3 : Steps p.tables e below (s₁.setTop (entryFrame m #[.ref d, .int (Int32.ofNat B.slots.size)] 2)) (s₁.setTop (mkF m 8 #[.val (.ref d), .val (.int (Int32.ofNat B.slots.size))] [.int (lo8 (ushr (Int32.ofNat B.slots.size - Int32.ofNat B.slots.size) 31))])) := c2.trans (by
    refine X0.alen hexec hB0 rfl rfl (hb hbytes d2) ?_
    refine XS.isub X0.here hexec rfl (hb hbytes d3) rfl ?_
    refine bipushV X0.here hexec rfl 31 (hb hbytes d4) (by decide) ?_
    refine iushr X0.here hexec rfl (hb hbytes d6) rfl ?_
    refine i2b X0.here hexec rfl (hb hbytes d7) rfl ?_
    exact Steps.refl _)
  have e0 : lo8 (ushr (Int32.ofNat B.slots.size - Int32.ofNat B.slots.size) 31) = 0 := by rw [Int32.sub_self]; decide
  rw [e0] at c3
  exact ⟨s₁, some (.int 0), _, _, _, X0, rfl, rfl, rfl, (fun h => by cases h), ⟨rfl, hh0⟩, fun fs hl => c3.trans (X0.ireturnOut hexec hret rfl (Or.inr (Or.inr (Or.inl rfl))) (hb hbytes d8) hl)⟩
end CodL
/-- the String at a is Latin-1 over a new byte[] (the heap's one new cell): the low bytes of the len chars of A from o on; every cell but a is kept -/
def Got (a : Addr) (D : Cell) (fV fC : Field) (A : Cell) (o len : Nat) (r : Option Value) (s u : State) : Prop := r = none ∧ ∃ D' V : Cell, Blank "java/lang/String" a D' u ∧ Same D D' [fV.slot, fC.slot] ∧ D'.slots[fV.slot]? = some (.ref s.heap.size) ∧ D'.slots[fC.slot]? = some (.int 0) ∧ Arr .byte s.heap.size V u ∧ V.vm = .none ∧ u.vm.findClass "[B" = some V.cls ∧ V.slots.size = len ∧ (∀ j, j < len → V.slots[j]? = some (.int (lo8 (cv A (o + j))))) ∧ (∀ (y : Addr) (c : Cell), y ≠ a → s.heap[y]? = some c → u.heap[y]? = some c) ∧ u.heap.size = s.heap.size + 1
theorem Got.mv {a : Addr} {D A : Cell} {fV fC : Field} {o len : Nat} : ∀ r (U U' V V' : State), U'.heap = U.heap → V.vm.Alike V'.vm → V'.heap = V.heap → Got a D fV fC A o len r U V → Got a D fV fC A o len r U' V' :=
  fun r U U' V V' h1 hal h2 ⟨e0, D', X, a1, a2, a3, a4, a5, a6, a7, a8, a9, a10, a11⟩ => ⟨e0, D', X, a1.mv hal h2, a2, by rw [h1]; exact a3, a4, by rw [h1]; exact a5.mv hal h2, a6, by rw [hal.findClass]; exact a7, a8, a9, by rw [h1, h2]; exact a10, by rw [h1, h2]; exact a11⟩
namespace New4
def yN : MethodName := ⟨"java/lang/String", "<init>", "([CIILjava/lang/Void;)V"⟩
abbrev yB : ByteArray := jdk_42_method_149_code
theorem d0 : decode yB 0 = .ok (.aload_n 0, 1) := by decide +kernel
theorem d1 : decode yB 1 = .ok (.invokespecial 1, 3) := by decide +kernel
theorem d4 : decode yB 4 = .ok (.iload_n 3, 1) := by decide +kernel
theorem d5 : decode yB 5 = .ok (.ifCond (.ne) 22, 3) := by decide +kernel
theorem d27 : decode yB 27 = .ok (.getstatic 38, 3) := by decide +kernel
theorem d30 : decode yB 30 = .ok (.ifCond (.eq) 28, 3) := by decide +kernel
theorem d33 : decode yB 33 = .ok (.aload_n 1, 1) := by decide +kernel
theorem d34 : decode yB 34 = .ok (.iload_n 2, 1) := by decide +kernel
theorem d35 : decode yB 35 = .ok (.iload_n 3, 1) := by decide +kernel
theorem d36 : decode yB 36 = .ok (.invokestatic 177, 3) := by decide +kernel
theorem d39 : decode yB 39 = .ok (.astore 5, 2) := by decide +kernel
theorem d41 : decode yB 41 = .ok (.aload_n 0, 1) := by decide +kernel
theorem d42 : decode yB 42 = .ok (.aload 5, 2) := by decide +kernel
theorem d44 : decode yB 44 = .ok (.iload_n 3, 1) := by decide +kernel
theorem d45 : decode yB 45 = .ok (.invokestatic 47, 3) := by decide +kernel
theorem d48 : decode yB 48 = .ok (.putfield 15, 3) := by decide +kernel
theorem d51 : decode yB 51 = .ok (.aload_n 0, 1) := by decide +kernel
theorem d52 : decode yB 52 = .ok (.aload 5, 2) := by decide +kernel
theorem d54 : decode yB 54 = .ok (.putfield 9, 3) := by decide +kernel
theorem d57 : decode yB 57 = .ok (.return_, 1) := by decide +kernel
def site : List Cond := [.fieldLink "java/lang/String" 38 "java/lang/String" "COMPACT_STRINGS" "Z", Cmp3.tab, CodL.tab, .laysFinal "java/lang/String" "java/lang/String" "value" "[B", .fieldLink "java/lang/String" 9 "java/lang/String" "value" "[B", .laysFinal "java/lang/String" "java/lang/String" "coder" "B", .fieldLink "java/lang/String" 15 "java/lang/String" "coder" "B"] ++ objW "java/lang/String" 1 ++ staticW "java/lang/String" 177 Cmp3.yN ++ staticW "java/lang/String" 47 CodL.yN
def tab : Cond := tabOf yN yB 6 none site
def P (a : Addr) (D : Cell) (fV fC : Field) (b : Addr) (A : Cell) (z : Int32) (o len : Nat) (args : Array Value) (s : State) : Prop := args = #[.ref a, .ref b, .int (Int32.ofNat o), .int (Int32.ofNat len), .null] ∧ Blank "java/lang/String" a D s ∧ Found "java/lang/String" "value" "[B" fV s ∧ Found "java/lang/String" "coder" "B" fC s ∧ Ch b A s ∧ StaticIs s "java/lang/String" "COMPACT_STRINGS" "Z" (.int z) ∧ ¬ z = 0 ∧ 0 < len ∧ o + len ≤ A.slots.size ∧ len ≤ 536870912 ∧ ∀ i, i < len → ¬ 255 < cv A (o + i)
def E (a : Addr) (D : Cell) (fV fC : Field) (A : Cell) (o len : Nat) (r : Option Value) (s u : State) : Prop := Got a D fV fC A o len r s u
/-- len > 0, no char of the range above 255: a Latin-1 String of their low bytes -/
theorem law (l : Launch) (a : Addr) (D : Cell) (fV fC : Field) (b : Addr) (A : Cell) (z : Int32) (o len : Nat) : Law l yN 5 4 2 35 yB 6 none site (P a D fV fC b A z o len) (E a D fV fC A o len) [⟨a, fC.slot⟩, ⟨a, fV.slot⟩] 1 len := by
  refine Law.of_walk (plainFor_of_name (by decide +kernel)) (by decide +kernel) (by decide +kernel) (by decide) (fun _ _ h => by rw [h.1]; rfl) (fun _ U U' hal hh h => ⟨h.1, h.2.1.mv hal hh, h.2.2.1.al hal, h.2.2.2.1.al hal, h.2.2.2.2.1.mv hal hh, h.2.2.2.2.2.1.there hal hh, h.2.2.2.2.2.2⟩) (fun r U U' V V' h1 hal h2 h => Got.mv r U U' V V' h1 hal h2 h) ?_
  intro p e s m args below meth c s₁ X0 hexec hbytes hml hret hlk hnm hown hh0 W hP
  obtain ⟨rfl, hB, f1, f2, hA, s1, hz, l0, l1, l2, hp⟩ := hP
  have a31 := hA.1.2.2.2
  have c1 : Steps p.tables e below (s₁.setTop (entryFrame m #[.ref a, .ref b, .int (Int32.ofNat o), .int (Int32.ofNat len), .null] 6)) (s₁.setTop (mkF m 0 #[.val (.ref a), .val (.ref b), .val (.int (Int32.ofNat o)), .val (.int (Int32.ofNat len)), .val .null, .unset] [])) := entry rfl
  have c2 : Steps p.tables e below (s₁.setTop (entryFrame m #[.ref a, .ref b, .int (Int32.ofNat o), .int (Int32.ofNat len), .null] 6)) (s₁.setTop (mkF m 1 #[.val (.ref a), .val (.ref b), .val (.int (Int32.ofNat o)), .val (.int (Int32.ofNat len)), .val .null, .unset] [.ref a])) := c1.trans (by
    refine XS.aloadN X0.here hexec rfl (hb hbytes d0) rfl rfl ?_
    exact Steps.refl _)
  obtain ⟨T3, X3, q3, st3⟩ := X0.oinit hexec hown (wks W (objW "java/lang/String" 1)) (g := (mkF m 1 #[.val (.ref a), .val (.ref b), .val (.int (Int32.ofNat o)), .val (.int (Int32.ofNat len)), .val .null, .unset] [.ref a])) rfl (by rw [hml]; rfl) (rest := []) rfl (hb hbytes d1) (W := 0) (by show 2 * 0 + 0 ≤ _; decide) (Nat.le_of_ble_eq_true rfl) (Nat.le_of_ble_eq_true rfl)
  have hh3 := q3.trans hh0
  have c4 : Steps p.tables e below (s₁.setTop (entryFrame m #[.ref a, .ref b, .int (Int32.ofNat o), .int (Int32.ofNat len), .null] 6)) (T3.setTop (mkF m 27 #[.val (.ref a), .val (.ref b), .val (.int (Int32.ofNat o)), .val (.int (Int32.ofNat len)), .val .null, .unset] [])) := (c2.trans (st3 _ (Steps.refl _))).trans (by
    refine XS.iloadN X3.here hexec rfl (hb hbytes d4) rfl ?_
    refine XS.ifYes X3.here hexec rfl (pc0 := 5) rfl (hb hbytes d5) rfl (i0_ne_t (nz32 (by omega) l0)) (by decide) rfl ?_
    exact Steps.refl _)
  obtain ⟨T5, X5, q5, st5⟩ := X3.sget hexec hown (wk W (.fieldLink "java/lang/String" 38 "java/lang/String" "COMPACT_STRINGS" "Z")) s1 (fun _ _ h => by rw [hh3]; exact h) (g := (mkF m 27 #[.val (.ref a), .val (.ref b), .val (.int (Int32.ofNat o)), .val (.int (Int32.ofNat len)), .val .null, .unset] [])) rfl (hb hbytes d27)
  have hh5 := q5.trans hh3
  have c6 : Steps p.tables e below (s₁.setTop (entryFrame m #[.ref a, .ref b, .int (Int32.ofNat o), .int (Int32.ofNat len), .null] 6)) (T5.setTop (mkF m 30 #[.val (.ref a), .val (.ref b), .val (.int (Int32.ofNat o)), .val (.int (Int32.ofNat len)), .val .null, .unset] [.int z])) := c4.trans (st5 _ (Steps.refl _))
  have c7 : Steps p.tables e below (s₁.setTop (entryFrame m #[.ref a, .ref b, .int (Int32.ofNat o), .int (Int32.ofNat len), .null] 6)) (T5.setTop (mkF m 36 #[.val (.ref a), .val (.ref b), .val (.int (Int32.ofNat o)), .val (.int (Int32.ofNat len)), .val .null, .unset] [.int (Int32.ofNat len), .int (Int32.ofNat o), .ref b])) := c6.trans (by
    refine XS.ifNo X5.here hexec rfl (hb hbytes d30) rfl (i0_eq_f hz) ?_
    refine XS.aloadN X5.here hexec rfl (hb hbytes d33) rfl rfl ?_
    refine XS.iloadN X5.here hexec rfl (hb hbytes d34) rfl ?_
    refine XS.iloadN X5.here hexec rfl (hb hbytes d35) rfl ?_
    exact Steps.refl _)
  obtain ⟨v8, T8, X8, E8, g8⟩ := X5.callS hexec (Cmp3.law l b A o len) hown (wks W (staticW "java/lang/String" 177 Cmp3.yN)) (wk W Cmp3.tab) (W := 0) (Nat.le_of_ble_eq_true rfl) (Nat.le_of_ble_eq_true rfl) (Nat.le_refl _) (by show 0 + len ≤ len; omega) (g := (mkF m 36 #[.val (.ref a), .val (.ref b), .val (.int (Int32.ofNat o)), .val (.int (Int32.ofNat len)), .val .null, .unset] [.int (Int32.ofNat len), .int (Int32.ofNat o), .ref b])) rfl (by rw [hml]; rfl) c7 (argsL := [.ref b, .int (Int32.ofNat o), .int (Int32.ofNat len)]) (rest := []) rfl rfl (by show 2 * 0 + 0 ≤ _; decide) (hb hbytes d36) (⟨rfl, hA.mv X5.warmed.alike hh5, l1, l2, hp⟩)
  obtain ⟨e8, z8⟩ := E8
  obtain ⟨rfl, N, n1, n2, n3, n4, n5, n6⟩ := NewArr.mv _ T5 s _ _ hh5.symm (Vm.Alike.refl _) rfl e8
  rw [hh5] at z8
  have hB1 := hB.keep X8.warmed.alike (n6 _ _ hB.1)
  have hne : s.heap.size ≠ a := (Nat.ne_of_lt (Array.getElem?_eq_some_iff.mp hB.1).1).symm
  have c9 : Steps p.tables e below (s₁.setTop (entryFrame m #[.ref a, .ref b, .int (Int32.ofNat o), .int (Int32.ofNat len), .null] 6)) (T8.setTop (mkF m 39 #[.val (.ref a), .val (.ref b), .val (.int (Int32.ofNat o)), .val (.int (Int32.ofNat len)), .val .null, .unset] [.ref s.heap.size])) := g8
  have c10 : Steps p.tables e below (s₁.setTop (entryFrame m #[.ref a, .ref b, .int (Int32.ofNat o), .int (Int32.ofNat len), .null] 6)) (T8.setTop (mkF m 45 #[.val (.ref a), .val (.ref b), .val (.int (Int32.ofNat o)), .val (.int (Int32.ofNat len)), .val .null, .val (.ref s.heap.size)] [.int (Int32.ofNat N.slots.size), .ref s.heap.size, .ref a])) := by
    have hc : Steps p.tables e below (s₁.setTop (entryFrame m #[.ref a, .ref b, .int (Int32.ofNat o), .int (Int32.ofNat len), .null] 6)) (T8.setTop (mkF m 45 #[.val (.ref a), .val (.ref b), .val (.int (Int32.ofNat o)), .val (.int (Int32.ofNat len)), .val .null, .val (.ref s.heap.size)] [.int (Int32.ofNat len), .ref s.heap.size, .ref a])) := c9.trans (by
      refine XS.astore X8.here hexec rfl (hb hbytes d39) rfl rfl rfl ?_
      refine XS.aloadN X8.here hexec rfl (hb hbytes d41) rfl rfl ?_
      refine XS.aload X8.here hexec rfl (hb hbytes d42) rfl rfl ?_
      refine XS.iloadN X8.here hexec rfl (hb hbytes d44) rfl ?_
      exact Steps.refl _)
    rw [n4]; exact hc
  obtain ⟨v11, T11, X11, E11, g11⟩ := X8.callS hexec (CodL.law l s.heap.size N) hown (wks W (staticW "java/lang/String" 47 CodL.yN)) (wk W CodL.tab) (W := 1) (Nat.le_of_ble_eq_true rfl) (Nat.le_of_ble_eq_true rfl) (Nat.le_refl _) (by show 0 + len + 0 ≤ len; omega) (g := (mkF m 45 #[.val (.ref a), .val (.ref b), .val (.int (Int32.ofNat o)), .val (.int (Int32.ofNat len)), .val .null, .val (.ref s.heap.size)] [.int (Int32.ofNat N.slots.size), .ref s.heap.size, .ref a])) rfl (by rw [hml]; rfl) c10 (argsL := [.ref s.heap.size, .int (Int32.ofNat N.slots.size)]) (rest := [.ref a]) rfl rfl (by show 2 * 0 + (1 + 0) ≤ _; decide) (hb hbytes d45) (⟨rfl, n1⟩)
  obtain ⟨rfl, q11⟩ := E11
  have hB11 := hB1.mv (X8.warmed.alike.symm.trans X11.warmed.alike) q11
  have c12 : Steps p.tables e below (s₁.setTop (entryFrame m #[.ref a, .ref b, .int (Int32.ofNat o), .int (Int32.ofNat len), .null] 6)) (T11.setTop (mkF m 48 #[.val (.ref a), .val (.ref b), .val (.int (Int32.ofNat o)), .val (.int (Int32.ofNat len)), .val .null, .val (.ref s.heap.size)] [.int 0, .ref a])) := g11
  obtain ⟨T13, X13, p13, bl13, sl13, st13⟩ := X11.finit hexec hown (wk W (.fieldLink "java/lang/String" 15 "java/lang/String" "coder" "B")) (Or.inr ⟨_, (wk W (.laysFinal "java/lang/String" "java/lang/String" "coder" "B"))⟩) (Or.inl ⟨rfl, hnm⟩) f2 (Or.inl rfl) hB11 (t := .byte) (by decide +kernel) rfl (g := (mkF m 48 #[.val (.ref a), .val (.ref b), .val (.int (Int32.ofNat o)), .val (.int (Int32.ofNat len)), .val .null, .val (.ref s.heap.size)] [.int 0, .ref a])) rfl (rest := []) rfl (hb hbytes d48)
  have c14 : Steps p.tables e below (s₁.setTop (entryFrame m #[.ref a, .ref b, .int (Int32.ofNat o), .int (Int32.ofNat len), .null] 6)) (T13.setTop (mkF m 54 #[.val (.ref a), .val (.ref b), .val (.int (Int32.ofNat o)), .val (.int (Int32.ofNat len)), .val .null, .val (.ref s.heap.size)] [.ref s.heap.size, .ref a])) := (c12.trans (st13 _ (Steps.refl _))).trans (by
    refine XS.aloadN X13.here hexec rfl (hb hbytes d51) rfl rfl ?_
    refine XS.aload X13.here hexec rfl (hb hbytes d52) rfl rfl ?_
    exact Steps.refl _)
  obtain ⟨T15, X15, p15, bl15, sl15, st15⟩ := X13.finit hexec hown (wk W (.fieldLink "java/lang/String" 9 "java/lang/String" "value" "[B")) (Or.inr ⟨_, (wk W (.laysFinal "java/lang/String" "java/lang/String" "value" "[B"))⟩) (Or.inl ⟨rfl, hnm⟩) f1 (Or.inl rfl) bl13 (t := (.array .byte)) (by decide +kernel) rfl (g := (mkF m 54 #[.val (.ref a), .val (.ref b), .val (.int (Int32.ofNat o)), .val (.int (Int32.ofNat len)), .val .null, .val (.ref s.heap.size)] [.ref s.heap.size, .ref a])) rfl (rest := []) rfl (hb hbytes d54)
  have c16 : Steps p.tables e below (s₁.setTop (entryFrame m #[.ref a, .ref b, .int (Int32.ofNat o), .int (Int32.ofNat len), .null] 6)) (T15.setTop (mkF m 57 #[.val (.ref a), .val (.ref b), .val (.int (Int32.ofNat o)), .val (.int (Int32.ofNat len)), .val .null, .val (.ref s.heap.size)] [])) := c14.trans (st15 _ (Steps.refl _))
  have ap := apart (Or.inr ⟨_, (wk W (.laysFinal "java/lang/String" "java/lang/String" "value" "[B"))⟩) (Or.inr ⟨_, (wk W (.laysFinal "java/lang/String" "java/lang/String" "coder" "B"))⟩) f1 f2 (t₁ := .array .byte) (t₂ := .byte) (by decide +kernel) (by decide +kernel) (by decide)
  have al := X8.warmed.alike.symm.trans X15.warmed.alike
  have n7 : T11.heap[s.heap.size]? = some N := by rw [q11]; exact n1.1
  exact ⟨T15, none, _, _, _, X15, by simp, rfl, by omega, (fun _ => rfl), ⟨rfl, _, N, bl15, ((Same.refl D _).set _ (by simp)).set _ (by simp), sl15, (Cell.slots_setSlot_ne _ ap).trans sl13, n1.keep al (p15.other hne (p13.other hne n7)), n2, by rw [al.findClass]; exact n3, n4, n5, fun y c h1 h2 => p15.other h1 (p13.other h1 (by rw [q11]; exact n6 y c h2)), by rw [p15.2.2, p13.2.2, q11]; exact z8⟩, fun fs hl => c16.trans (X15.returnOut hexec hret (hb hbytes d57) hl)⟩
end New4
namespace New1
def yN : MethodName := ⟨"java/lang/String", "<init>", "([C)V"⟩
abbrev yB : ByteArray := jdk_42_method_3_code
theorem d0 : decode yB 0 = .ok (.aload_n 0, 1) := by decide +kernel
theorem d1 : decode yB 1 = .ok (.aload_n 1, 1) := by decide +kernel
theorem d2 : decode yB 2 = .ok (.iconst 0, 1) := by decide +kernel
theorem d3 : decode yB 3 = .ok (.aload_n 1, 1) := by decide +kernel
theorem d4 : decode yB 4 = .ok (.arraylength, 1) := by decide +kernel
theorem d5 : decode yB 5 = .ok (.aconst_null, 1) := by decide +kernel
theorem d6 : decode yB 6 = .ok (.invokespecial 27, 3) := by decide +kernel
theorem d9 : decode yB 9 = .ok (.return_, 1) := by decide +kernel
def site : List Cond := [New4.tab] ++ initW "java/lang/String" 27 New4.yN
def tab : Cond := tabOf yN yB 2 none site
def P (a : Addr) (D : Cell) (fV fC : Field) (b : Addr) (A : Cell) (z : Int32) (args : Array Value) (s : State) : Prop := args = #[.ref a, .ref b] ∧ Blank "java/lang/String" a D s ∧ Found "java/lang/String" "value" "[B" fV s ∧ Found "java/lang/String" "coder" "B" fC s ∧ Ch b A s ∧ StaticIs s "java/lang/String" "COMPACT_STRINGS" "Z" (.int z) ∧ ¬ z = 0 ∧ 0 < A.slots.size ∧ A.slots.size ≤ 536870912 ∧ ∀ i, i < A.slots.size → ¬ 255 < cv A i
def E (a : Addr) (D : Cell) (fV fC : Field) (A : Cell) (r : Option Value) (s u : State) : Prop := Got a D fV fC A 0 A.slots.size r s u
/-- new String(chars), not empty, no char above 255: a Latin-1 String of their low bytes -/
theorem law (l : Launch) (a : Addr) (D : Cell) (fV fC : Field) (b : Addr) (A : Cell) (z : Int32) : Law l yN 2 1 3 52 yB 2 none site (P a D fV fC b A z) (E a D fV fC A) [⟨a, fC.slot⟩, ⟨a, fV.slot⟩] 1 A.slots.size := by
  refine Law.of_walk (plainFor_of_name (by decide +kernel)) (by decide +kernel) (by decide +kernel) (by decide) (fun _ _ h => by rw [h.1]; rfl) (fun _ U U' hal hh h => ⟨h.1, h.2.1.mv hal hh, h.2.2.1.al hal, h.2.2.2.1.al hal, h.2.2.2.2.1.mv hal hh, h.2.2.2.2.2.1.there hal hh, h.2.2.2.2.2.2⟩) (fun r U U' V V' h1 hal h2 h => Got.mv r U U' V V' h1 hal h2 h) ?_
  intro p e s m args below meth c s₁ X0 hexec hbytes hml hret hlk hnm hown hh0 W hP
  obtain ⟨rfl, hB, f1, f2, hA, s1, hz, l0, l2, hp⟩ := hP
  have c1 : Steps p.tables e below (s₁.setTop (entryFrame m #[.ref a, .ref b] 2)) (s₁.setTop (mkF m 0 #[.val (.ref a), .val (.ref b)] [])) := entry rfl
  have c2 : Steps p.tables e below (s₁.setTop (entryFrame m #[.ref a, .ref b] 2)) (s₁.setTop (mkF m 6 #[.val (.ref a), .val (.ref b)] [.null, .int (Int32.ofNat A.slots.size), .int 0, .ref b, .ref a])) := c1.trans (by
    refine XS.aloadN X0.here hexec rfl (hb hbytes d0) rfl rfl ?_
    refine XS.aloadN X0.here hexec rfl (hb hbytes d1) rfl rfl ?_
    refine iconstV X0.here hexec rfl 0 (hb hbytes d2) (by decide) ?_
    refine XS.aloadN X0.here hexec rfl (hb hbytes d3) rfl rfl ?_
    refine X0.alen hexec (hA.1.mv X0.warmed.alike hh0) rfl rfl (hb hbytes d4) ?_
    refine XS.aconstNull X0.here hexec rfl (hb hbytes d5) ?_
    exact Steps.refl _)
  obtain ⟨v3, T3, X3, E3, g3⟩ := X0.callN hexec (New4.law l a D fV fC b A z 0 A.slots.size) rfl hown (wks W (initW "java/lang/String" 27 New4.yN)) (W New4.tab (by simp only [site, List.mem_cons, List.mem_append, true_or, or_true])) (W := 0) (Nat.le_of_ble_eq_true rfl) (Nat.le_of_ble_eq_true rfl) (Nat.le_refl _) (by show 0 + A.slots.size ≤ A.slots.size; omega) (g := (mkF m 6 #[.val (.ref a), .val (.ref b)] [.null, .int (Int32.ofNat A.slots.size), .int (Int32.ofNat 0), .ref b, .ref a])) rfl (by rw [hml]; rfl) c2 (argsL := [.ref b, .int (Int32.ofNat 0), .int (Int32.ofNat A.slots.size), .null]) (rest := []) rfl rfl (by show 2 * 0 + 0 ≤ _; decide) (hb hbytes d6) (⟨rfl, hB.mv X0.warmed.alike hh0, f1.al X0.warmed.alike, f2.al X0.warmed.alike, hA.mv X0.warmed.alike hh0, s1.there X0.warmed.alike hh0, hz, l0, by omega, l2, fun i hi => by rw [Nat.zero_add]; exact hp i hi⟩)
  have e0 := Got.mv _ s₁ s _ _ hh0.symm (Vm.Alike.refl _) rfl E3
  obtain rfl := e0.1
  have c4 : Steps p.tables e below (s₁.setTop (entryFrame m #[.ref a, .ref b] 2)) (T3.setTop (mkF m 9 #[.val (.ref a), .val (.ref b)] [])) := g3
  exact ⟨T3, none, _, _, _, X3, by simp, rfl, by omega, (fun _ => rfl), e0, fun fs hl => c4.trans (X3.returnOut hexec hret (hb hbytes d9) hl)⟩
theorem pays {l : Launch} {R : Room} {p : Program} {e : Env} {below : List Frame} {s : State} {sargs : Array Value} {len W : Nat} (a : Addr) (D : Cell) (fV fC : Field) (b : Addr) (A : Cell) (z : Int32) (htab : tab.before sargs s = true) (hfr : 4 ≤ R.frames) (hlo : W + 65 ≤ R.locals) :
    Back l R p e below s sargs yN len W (fun A₁ a₁ => A₁.cells + 1 ≤ R.cells ∧ A₁.slots + A.slots.size ≤ R.slots ∧ P a D fV fC b A z a₁ A₁.U) (fun A₁ _ v₁ B₁ => E a D fV fC A v₁ A₁.U B₁.U ∧ B₁.locs = A₁.locs ++ [⟨a, fC.slot⟩, ⟨a, fV.slot⟩] ∧ B₁.cells = A₁.cells + 1 ∧ B₁.slots = A₁.slots + A.slots.size) :=
  (law l a D fV fC b A z).pays htab hfr (by omega)
end New1
end StrChars
namespace StrChars.Road
open Jvm Sem ClassFile Op Lib Jvm.Stand Jvm.Free Jvm.Free.XT
open Jvm.Lib.Cold (StaticIs)
abbrev ST : String := "java/lang/String"
/-- every table word that New1's law asks, flat -/
abbrev words : List Jvm.Cond := [.code New1.yN New1.yB 2 none, .initialized ST, .methodLink ST 27 New4.yN, .instanceMethod New4.yN,
  .code New4.yN New4.yB 6 none, .fieldLink ST 38 ST "COMPACT_STRINGS" "Z", .laysFinal ST ST "value" "[B", .fieldLink ST 9 ST "value" "[B", .laysFinal ST ST "coder" "B", .fieldLink ST 15 ST "coder" "B",
  .methodLink ST 1 Lib.objectInit, .instanceMethod Lib.objectInit, .code Lib.objectInit ⟨#[0xb1]⟩ 1 none, .methodLink ST 177 Cmp3.yN, .static Cmp3.yN, .methodLink ST 47 CodL.yN, .static CodL.yN,
  .code Cmp3.yN Cmp3.yB 6 (some (.array .byte)), .initialized U16, .arrayClass .byte, .methodLink U16 115 Cmp5.yN, .static Cmp5.yN, .code Cmp5.yN Cmp5.yB 7 (some .int), .code CodL.yN CodL.yB 2 (some .byte)]
theorem tab_of {a : Array Value} {s : State} (h : ∀ w ∈ words, w.before a s = true) : New1.tab.before a s = true := by
  have h5 : Cmp5.tab.before a s = true := unparts (wk h (.code Cmp5.yN Cmp5.yB 7 (some .int))) (wks h (.initialized Cmp5.yN.cls :: Cmp5.site))
  have hc : CodL.tab.before a s = true := unparts (wk h (.code CodL.yN CodL.yB 2 (some .byte))) (wks h (.initialized CodL.yN.cls :: CodL.site))
  have q5 : ∀ w ∈ Cmp5.tab :: words, w.before a s = true := fun w hw => (List.mem_cons.mp hw).elim (fun e => e ▸ h5) (h w)
  have h3 : Cmp3.tab.before a s = true := unparts (wk q5 (.code Cmp3.yN Cmp3.yB 6 (some (.array .byte)))) (wks q5 (.initialized Cmp3.yN.cls :: Cmp3.site))
  have q3 : ∀ w ∈ Cmp3.tab :: CodL.tab :: words, w.before a s = true := fun w hw => (List.mem_cons.mp hw).elim (fun e => e ▸ h3) fun hw => (List.mem_cons.mp hw).elim (fun e => e ▸ hc) (h w)
  have h4 : New4.tab.before a s = true := unparts (wk q3 (.code New4.yN New4.yB 6 none)) (wks q3 (.initialized New4.yN.cls :: New4.site))
  have q4 : ∀ w ∈ New4.tab :: words, w.before a s = true := fun w hw => (List.mem_cons.mp hw).elim (fun e => e ▸ h4) (h w)
  exact unparts (wk q4 (.code New1.yN New1.yB 2 none)) (wks q4 (.initialized New1.yN.cls :: New1.site))
/-- the words ride from the start Z to the walk's own state -/
theorem moved {Z s : State} {a0 args : Array Value} (hZ : Z.Warmed39 s.vm) (hw : ∀ d ∈ words, d.before a0 Z = true) : ∀ d ∈ words, d.before args s = true := fun d hd => by
  have q := hw d hd
  have t : ∀ d ∈ words, d = .arrayClass .byte ∨ (d.onTables && d.keepsFace) = true := by decide +kernel
  rcases t d hd with rfl | t
  · exact RoadKit.mvA hZ q
  · exact RoadKit.mv hZ q t
/-- WHAT COMES BACK, over the tables of the start Z: h the heap at the call, h' behind it -/
def Q (Z : State) (x : Addr) (A : Cell) (h : Heap) (v : Option Value) (h' : Heap) (L : List Loc) : Prop := v = none ∧ (∀ y ∈ L, y.base = x) ∧ RoadKit.Keep h h' [x] ∧ h'.size = h.size + 1 ∧ RoadKit.Exa Z h' x ST ∧ RoadKit.Fld Z h' x ST "value" "[B" (.ref h.size) ∧ RoadKit.Fld Z h' x ST "coder" "B" (.int 0) ∧
  (∃ V : Cell, RoadKit.Arr Z h' h.size V .byte ∧ V.vm = .none ∧ Z.vm.findClass "[B" = some V.cls ∧ V.slots.size = A.slots.size ∧ ∀ j, j < A.slots.size → V.slots[j]? = some (.int (lo8 (cv A j)))) ∧
  ∀ (O n d : String) (w : Value), RoadKit.Fld Z h x O n d w → RoadKit.slotOf Z O n d ≠ RoadKit.slotOf Z ST "value" "[B" → RoadKit.slotOf Z O n d ≠ RoadKit.slotOf Z ST "coder" "B" → RoadKit.Fld Z h' x O n d w
/-- **new String(chars) AT A CALL, IN THE ROAD'S FORM**: for specialBack behind newO: x the fresh String, b the char[] with the cell A -/
theorem back {p : Program} {l : Launch} {e : Env} {R : Room} {s : State} {args : Array Value} {below : List Frame} {len W : Nat} {Z : State} {a0 : Array Value} {h : Heap} (hZ : Z.Warmed39 s.vm) (hw : ∀ d ∈ words, d.before a0 Z = true) {kI : Nat} (wi : (Jvm.Cond.instantiable ST kI).before a0 Z = true)
    {x b : Addr} {A : Cell} {z : Int32} {v0 c0 : Value} (E : RoadKit.Exa Z h x ST) (V : RoadKit.Fld Z h x ST "value" "[B" v0) (C : RoadKit.Fld Z h x ST "coder" "B" c0) (K : RoadKit.Arr Z h b A .char) (hty : Typed .char A) (S : RoadKit.Sta Z h ST "COMPACT_STRINGS" "Z" (.int z)) (hz : ¬ z = 0)
    (l0 : 0 < A.slots.size) (l2 : A.slots.size ≤ 536870912) (hp : ∀ i, i < A.slots.size → ¬ 255 < cv A i) (hfr : 4 ≤ R.frames) (hlo : W + 65 ≤ R.locals) :
    Back l R p e below s args New1.yN len W (fun P a => a = #[.ref x, .ref b] ∧ P.U.heap = h ∧ P.cells + 1 ≤ R.cells ∧ P.slots + A.slots.size ≤ R.slots)
      (fun P _ v B => ∃ L, Q Z x A h v B.U.heap L ∧ B.locs = P.locs ++ L ∧ B.cells = P.cells + 1 ∧ B.slots = P.slots + A.slots.size) := by
  intro m meth c P g ig mk a X hg hsize hdg hW hn hp'
  obtain ⟨rfl, rfl, r1, r2⟩ := hp'
  have al : Z.vm.Alike P.U.vm := hZ.alike.trans X.warmed.alike
  obtain ⟨D, cfV, kV, iV, fV, hD, gV, stV, knV, obV, asV, slV⟩ := id V
  obtain ⟨D', cfC, kC, iC, fC, hD', gC, stC, -, -, asC, slC⟩ := id C
  cases hD.symm.trans hD'
  obtain ⟨D2, kD, e1, e2, e3, e4, e5⟩ := id E
  cases hD.symm.trans e1
  obtain ⟨c2, k2, i1, i2, i3, -⟩ := Cond.instantiable_spec wi
  cases e2.symm.trans i1
  cases e3.symm.trans i2
  obtain ⟨kU, u1, u2⟩ := al.2.2 _ _ e3
  have hB : Blank ST x D P.U := ⟨hD, ⟨knV, fun q hq => by rw [hq] at obV; cases obV⟩, by rw [al.findClass]; exact e2, kU, u1, by rw [u2]; exact i3, by rw [u2]; exact e5 i3⟩
  have F1 : Found ST "value" "[B" fV P.U := ⟨SBG.found_only al ⟨cfV, kV, iV, gV⟩, stV⟩
  have F2 : Found ST "coder" "B" fC P.U := ⟨SBG.found_only al ⟨cfC, kC, iC, gC⟩, stC⟩
  have hA : Ch b A P.U := ⟨⟨K.1, State.isArrayOf_alike al K.2.1, K.2.2, by omega⟩, hty⟩
  have hS : StaticIs P.U ST "COMPACT_STRINGS" "Z" (.int z) := by
    obtain ⟨cfS, iS, kS, fS, st, cS, t1, t2, t3, t4, t5, t6, t7⟩ := S
    exact StaticIs.there (s := { Z with heap := P.U.heap }) ⟨cfS, iS, kS, fS, st, cS, t1, t2, t3, t4, t5, (fun q => by rw [q] at t6; cases t6), t7⟩ al rfl
  obtain ⟨v, B, X', ⟨⟨hv, E', V', q1, q2, q3, q4, q5, q6, q7, q8, q9, q10, q11⟩, hl, hc, hs⟩, st⟩ := New1.pays x D fV fC b A z (tab_of (moved hZ hw)) hfr hlo m meth c P g ig mk _ X hg hsize hdg hW hn ⟨r1, r2, rfl, hB, F1, F2, hA, hS, hz, l0, l2, hp⟩
  have al' : Z.vm.Alike B.U.vm := hZ.alike.trans X'.warmed.alike
  have hsz : E'.slots.size = D.slots.size := by
    obtain ⟨-, -, -, kB, w1, w2, w3⟩ := q1
    obtain ⟨kB', y1, y2⟩ := al'.2.2 _ _ e3
    rw [q2.2.1] at w1
    cases w1.symm.trans y1
    rw [w3, e5 i3, y2]
  refine ⟨v, B, X', ⟨_, ⟨hv, ?_, ⟨by omega, fun y cy hy hn' => q10 y cy (by simpa using hn') hy, fun y cy hy => ?_⟩, q11, ⟨E', _, q1.1, by rw [q2.2.1]; exact e2, by rw [q2.2.1]; exact e3, by rw [q2.1]; exact obV, fun _ => by rw [hsz]; exact e5 i3⟩,
    ⟨E', cfV, kV, iV, fV, q1.1, gV, stV, by rw [q2.1]; exact knV, by rw [q2.1]; exact obV, by rw [q2.2.1]; exact asV, q3⟩, ⟨E', cfC, kC, iC, fC, q1.1, gC, stC, by rw [q2.1]; exact knV, by rw [q2.1]; exact obV, by rw [q2.2.1]; exact asC, q4⟩,
    ⟨V', ⟨q5.1, State.isArrayOf_alike al'.symm q5.2.1, q5.2.2.1⟩, q6, by rw [← al'.findClass]; exact q7, q8, fun j hj => by have := q9 j hj; rwa [Nat.zero_add] at this⟩, fun O n d w F n1 n2 => ?_⟩, hl, hc, hs⟩, st⟩
  · intro y hy
    simp only [List.mem_cons, List.not_mem_nil, or_false] at hy
    rcases hy with rfl | rfl <;> rfl
  · by_cases q : y = x
    · subst q
      cases hD.symm.trans hy
      exact ⟨E', q1.1, q2.2.1, q2.1, hsz⟩
    · exact ⟨cy, q10 y cy q hy, rfl, rfl, rfl⟩
  · obtain ⟨D3, cf, k, i, f, g1, g2, g3, g4, g5, g6, g7⟩ := F
    cases hD.symm.trans g1
    simp only [RoadKit.slotOf, g2, gV, gC, Option.map_some, Option.getD_some] at n1 n2
    exact ⟨E', cf, k, i, f, q1.1, g2, g3, by rw [q2.1]; exact g4, by rw [q2.1]; exact g5, by rw [q2.2.1]; exact g6, by rw [q2.2.2 f.slot (by simp [n1, n2])]; exact g7⟩
end StrChars.Road
namespace StrChars.Road
open Jvm Sem ClassFile Op Lib Jvm.Stand Jvm.Free Jvm.Free.XT
/-- WHAT COMES BACK, the byte[] as a list of values -/
def QA (Z : State) (x : Addr) (zn : Int32) (cs : List Int32) (h : Heap) (v : Option Value) (h' : Heap) (L : List Loc) : Prop := v = none ∧ (∀ y ∈ L, y.base = x) ∧ RoadKit.Keep h h' [x] ∧ h'.size = h.size + 1 ∧ RoadKit.Exa Z h' x ST ∧ RoadKit.Fld Z h' x ST "value" "[B" (.ref h.size) ∧ RoadKit.Fld Z h' x ST "coder" "B" (.int 0) ∧
  (∃ kb, Z.vm.findClass "[B" = some kb ∧ RoadKit.Arv Z h' h.size kb .byte zn (cs.map fun c => .int (lo8 c)) (.int 0)) ∧
  ∀ (O n d : String) (w : Value), RoadKit.Fld Z h x O n d w → RoadKit.slotOf Z O n d ≠ RoadKit.slotOf Z ST "value" "[B" → RoadKit.slotOf Z O n d ≠ RoadKit.slotOf Z ST "coder" "B" → RoadKit.Fld Z h' x O n d w
/-- **new String(chars) AT A CALL, THE ARRAYS AS LISTS**: the char[] at b holds cs, not empty, no char above 255 -/
theorem backArv {p : Program} {l : Launch} {e : Env} {R : Room} {s : State} {args : Array Value} {below : List Frame} {len W : Nat} {Z : State} {a0 : Array Value} {h : Heap} (hZ : Z.Warmed39 s.vm) (hw : ∀ d ∈ words, d.before a0 Z = true) {kI : Nat} (wi : (Jvm.Cond.instantiable ST kI).before a0 Z = true)
    {x b : Addr} {k : ClassId} {zn z : Int32} {cs : List Int32} {dv v0 c0 : Value} (E : RoadKit.Exa Z h x ST) (V : RoadKit.Fld Z h x ST "value" "[B" v0) (C : RoadKit.Fld Z h x ST "coder" "B" c0) (K : RoadKit.Arv Z h b k .char zn (cs.map Value.int) dv) (S : RoadKit.Sta Z h ST "COMPACT_STRINGS" "Z" (.int z)) (hz : ¬ z = 0)
    (hlen : zn.toNatClampNeg = cs.length) (h0 : 0 < cs.length) (hbig : cs.length ≤ 536870912) (hall : ∀ c ∈ cs, ¬ 255 < c) (hfr : 4 ≤ R.frames) (hlo : W + 65 ≤ R.locals) :
    Back l R p e below s args New1.yN len W (fun P a => a = #[.ref x, .ref b] ∧ P.U.heap = h ∧ P.cells + 1 ≤ R.cells ∧ P.slots + cs.length ≤ R.slots)
      (fun P _ v B => ∃ L, QA Z x zn cs h v B.U.heap L ∧ B.locs = P.locs ++ L ∧ B.cells = P.cells + 1 ∧ B.slots = P.slots + cs.length) := by
  obtain ⟨A, K1, K2, K3, K4, K5, K6⟩ := K
  have e : A.slots.size = cs.length := K3.trans hlen
  have hat : ∀ (i : Nat) (hi : i < cs.length), A.slots[i]? = some (.int cs[i]) := fun i hi => by rw [K5 i (by omega)]; simp [List.getD_eq_getElem?_getD, hi]
  have hcv : ∀ (i : Nat) (hi : i < cs.length), cv A i = cs[i] := fun i hi => by unfold cv; rw [hat i hi]
  have hty : Typed .char A := fun i v hv => by
    have hi : i < A.slots.size := (Array.getElem?_eq_some_iff.mp hv).1
    have q := K5 i hi
    rw [hv] at q
    rw [Option.some.inj q]
    exact K6 i hi
  refine Back.mono (back hZ hw wi E V C K1 hty S hz (by omega) (by omega) (fun i hi => by rw [hcv i (by omega)]; exact hall _ (List.getElem_mem _)) hfr hlo) (fun P a hp => ⟨hp.1, hp.2.1, hp.2.2.1, by rw [e]; exact hp.2.2.2⟩) (fun P a v B hp hq => ?_)
  obtain ⟨L, ⟨q1, q2, q3, q4, q5, q6, q7, ⟨V', v1, v2, v3, v4, v5⟩, q9⟩, hl, hc, hs⟩ := hq
  refine ⟨L, ⟨q1, q2, q3, q4, q5, q6, q7, ⟨V'.cls, v3, V', v1, rfl, by rw [v4, e, hlen], K4, fun i hi => ?_, fun i hi => ?_⟩, q9⟩, hl, hc, by rw [hs, e]⟩
  · have hi' : i < cs.length := by omega
    rw [v5 i (by omega), hcv i hi']; simp [List.getD_eq_getElem?_getD, hi']
  · have hi' : i < cs.length := by omega
    simp only [List.getD_eq_getElem?_getD, List.getElem?_map, List.getElem?_eq_getElem hi', Option.map_some, Option.getD_some]
    exact fits_lo8 _
end StrChars.Road
namespace StrChars.Road
open Jvm Sem ClassFile Op Lib Jvm.Stand Jvm.Free Jvm.Free.XT
/-- WHAT COMES BACK, in the writer's own shape -/
def QV (Z : State) (x : Addr) (N : Int32) (bs : List Int32) (h : Heap) (n0 : Nat) (v : Option Value) (h' : Heap) (L : List Loc) : Prop := v = none ∧ RoadKit.Fr n0 L ∧ RoadKit.Keep h h' [x] ∧ RoadKit.Exa Z h' x ST ∧ RoadKit.Fld Z h' x ST "coder" "B" (.int 0) ∧
  ∃ (t : Addr) (kb : ClassId), n0 ≤ t ∧ h.size ≤ t ∧ ¬ t = x ∧ RoadKit.Fld Z h' x ST "value" "[B" (.ref t) ∧ RoadKit.Arv Z h' t kb .byte N (bs.map Value.int) (.int 0)
/-- **new String(chars) AT A CALL, FOR THE WRITER**: a char[] of n known ints, each 0 to 255 -/
theorem backV {p : Program} {l : Launch} {e : Env} {R : Room} {s : State} {args : Array Value} {below : List Frame} {len W : Nat} {Z : State} {a0 : Array Value} {h : Heap} (hZ : Z.Warmed39 s.vm) (hw : ∀ d ∈ words, d.before a0 Z = true) {kI : Nat} (wi : (Jvm.Cond.instantiable ST kI).before a0 Z = true)
    {x b : Addr} {kC : ClassId} {cs bs : List Int32} {d v0 c0 : Value} {z N : Int32} {n n0 : Nat} (hx0 : n0 ≤ x) (hh0 : n0 ≤ h.size) (E : RoadKit.Exa Z h x ST) (V : RoadKit.Fld Z h x ST "value" "[B" v0) (C : RoadKit.Fld Z h x ST "coder" "B" c0) (K : RoadKit.Arv Z h b kC .char N (cs.map Value.int) d) (S : RoadKit.Sta Z h ST "COMPACT_STRINGS" "Z" (.int z)) (hz : ¬ z = 0)
    (hn : cs.length = n) (hN : N = Int32.ofNat n) (l0 : 0 < n) (l2 : n ≤ 4000) (hp : ∀ c ∈ cs, ¬ c < 0 ∧ ¬ (255 : Int32) < c) (hb : bs = cs.map (fun c => c.toInt8.toInt32)) (hfr : 4 ≤ R.frames) (hlo : W + 65 ≤ R.locals) :
    Back l R p e below s args (⟨"java/lang/String", "<init>", "([C)V"⟩ : MethodName) len W (fun P a => a = #[.ref x, .ref b] ∧ P.U.heap = h ∧ P.cells + 1 ≤ R.cells ∧ P.slots + n ≤ R.slots)
      (fun P _ v B => ∃ L, QV Z x N bs h n0 v B.U.heap L ∧ B.locs = P.locs ++ L ∧ B.cells = P.cells + 1 ∧ B.slots = P.slots + n) := by
  subst hn hN hb
  refine Back.mono (backArv hZ hw wi E V C K S hz (n32 (by omega)) l0 (by omega) (fun c hc => (hp c hc).2) hfr hlo) (fun P a hp => hp) (fun P a v B hp hq => ?_)
  obtain ⟨L, ⟨q1, q2, q3, q4, q5, q6, q7, ⟨kb, v1, v2⟩, q9⟩, hl, hc, hs⟩ := hq
  exact ⟨L, ⟨q1, fun y hy => by rw [q2 y hy]; exact hx0, q3, q5, q7, h.size, kb, hh0, Nat.le_refl _, Nat.ne_of_gt E.lt, q6, by rw [List.map_map]; exact v2⟩, hl, hc, hs⟩
end StrChars.Road
end Jvm.Pilot.@@N@@
namespace Jvm.Pilot.@@N@@
open Jvm Jvm.ClassFile Sem Op Lib Jvm.Free Jvm.Stand Jvm.LawKit Jvm.RoadKit Bundle Jvm.Free.Fl Jvm.Pilot.@@N@@.Jvm.D
/-! the run stands at F in T, and comes to an end that P says -/
def own_Go (p : Program) (e : Env) (below : List Frame) (P : Outcome → State → Prop) (T : State) (F : JFrame) : Prop :=
  ∃ s₂ o, Steps p.tables e below (T.setTop F) s₂ ∧ s₂.status = .running ∧ Ended s₂ below o ∧ P o s₂
theorem own_step {p : Program} {e : Env} {below : List Frame} {P : Outcome → State → Prop} {T T' : State} {F F' : JFrame} (st : ∀ t, Steps p.tables e below (T'.setTop F') t → Steps p.tables e below (T.setTop F) t) (h : own_Go p e below P T' F') : own_Go p e below P T F := by
  obtain ⟨s₂, o, h1, h2⟩ := h
  exact ⟨s₂, o, st _ h1, h2⟩
theorem own_cast {p : Program} {e : Env} {below : List Frame} {P : Outcome → State → Prop} {T : State} {F F' : JFrame} (q : F = F') (h : own_Go p e below P T F') : own_Go p e below P T F := q ▸ h
theorem own_all {p : Program} {e : Env} {below : List Frame} {Q : Outcome → State → Prop} {T : State} {F : JFrame} (h : ∀ P : Outcome → State → Prop, (∀ o U, Q o U → P o U) → own_Go p e below P T F) : own_Go p e below Q T F := h Q fun _ _ q => q
theorem own_eqi {t : Term} {n : Int32} {args : Array Value} {s : State} (h : (Jvm.Cond.eq t (.int n)).value args s none s [] = some true) : t.eval args s none [] s = some (.int n) := by
  obtain ⟨x, y, h1, h2, k1, k2⟩ := cmp_v (Or.inl h)
  cases (show some (Value.int n) = some y from h2)
  obtain ⟨z, rfl⟩ := k2
  have h3 : (Jvm.Cond.eq t (.int n)).value args s none s [] = some (decide (z = n)) := by simp [Jvm.Cond.value, h1, h2]
  rw [h1, gotT h3 h]
theorem own_static2 {args : Array Value} {s : State} {C n d K : String} (hx : (Jvm.Cond.exactly (Term.static C n d) K).value args s none s [] = some true) (hi : (Jvm.Cond.initializedFor C n d).before args s = true ∨ ((Jvm.Cond.initialized C).before args s = true ∧ (Jvm.Cond.laysStatic C n d).before args s = true)) : ∃ a, (Term.static C n d).eval args s none [] s = some (.ref a) ∧ Sta s s.heap C n d (.ref a) ∧ Exa s s.heap a K := by
  obtain ⟨a, c', cell, k, e1, -⟩ := Cond.exactly_spec (Cond.before_iff.mpr hx)
  exact ⟨a, e1, Sta.start e1 hi, Exa.start e1 hx⟩
theorem own_fld {t : Term} {args : Array Value} {s : State} {a : Addr} {C n d : String} {k : Int32} (ev : t.eval args s none [] s = some (.ref a)) (h : (Jvm.Cond.eq (Term.field t C n d) (.int k)).value args s none s [] = some true) : Fld s s.heap a C n d (.int k) :=
  Fld.start ((fld_at ev).symm.trans (own_eqi h))
theorem own_sta_keep {Z : State} {h h' : Heap} {ws : List Addr} {C n d : String} {v : Value} (F : Sta Z h C n d v) (K : Keep h h' ws) (q : ∀ x ∈ ws, ∀ cell : Cell, h[x]? = some cell → cell.vm.isStatics = false) : Sta Z h' C n d v := by
  obtain ⟨cf, i, k, f, st, cell, h1, h2, h3, h4, h5, h6, h7⟩ := F
  refine ⟨cf, i, k, f, st, cell, h1, h2, h3, h4, K.2.1 st cell h5 (fun hm => ?_), h6, h7⟩
  have := q st hm cell h5
  rw [h6] at this; cases this
theorem own_ldc {p : Program} {l : Launch} {e : Env} {R : Room} {s : State} {vm0 : Vm} {m : MethodId} {args : Array Value} {below : List Frame} {meth : Method} {c : Code} {T : State} {locs : List Loc} {cells slots : Nat} {Z : State} {a0 : Array Value} {h : Heap}
    (X : Stand p l e R (s.setVm vm0) m args below meth c T locs cells slots) (hx : p.tables.exec = Jvm.exec) (hZ : Z.Warmed39 vm0) {own text : String} {index : Nat} (hown : vm0.findClass own = some m.cls) (w : (Jvm.Cond.stringLink own index text).before a0 Z = true) (wS : ∀ a ∈ Bundle.stringAtoms, a.before a0 Z = true)
    (eT : T.heap = h) {k0 : Nat} (hS : s.Since vm0 k0) (hk : k0 ≤ h.size) {g : JFrame} (hg : g.method = m) (hd : decode c.code g.pc = .ok (.ldc index, 2)) {n : Nat} (hn : 4 * text.toList.length ≤ n) (hbig : n ≤ 536870912) (hc : cells + 2 ≤ R.cells) (hl : slots + (n + 4) ≤ R.slots) :
    ∃ (a : Addr) (T' : State) (h' : Heap) (k1 : Nat), Stand p l e R (s.setVm T'.vm) m args below meth c T' locs (cells + 2) (slots + (n + 4)) ∧ T'.heap = h' ∧ Ext h h' ∧ s.Since T'.vm k1 ∧ k1 ≤ h'.size ∧ Z.Warmed39 (s.setVm T'.vm).vm ∧ (s.setVm T'.vm).vm.findClass own = some m.cls ∧
      ∀ target, Steps p.tables e below (T'.setTop { g with pc := g.pc + 2, stack := .ref a :: g.stack }) target → Steps p.tables e below (T.setTop g) target := by
  obtain ⟨a, T', X', hS', -, hb, -, st⟩ := X.ldcStringCold hx (own := own) hown (mvS hZ w) (fun d hd => by
    have q := wS d hd
    simp only [Bundle.stringAtoms, List.mem_cons, List.not_mem_nil, or_false] at hd
    rcases hd with rfl | rfl | rfl | rfl | rfl | rfl | rfl
    · exact mv (s := s.setVm vm0) hZ q
    · exact mv (s := s.setVm vm0) hZ q
    · exact mvA (s := s.setVm vm0) hZ q
    all_goals exact mv (s := s.setVm vm0) hZ q) hg hd hn hbig hc hl
  subst eT
  have E := ext_of hb
  exact ⟨a, T', _, _, X', rfl, E, hS.trans hS' (Nat.le_trans hk E.1), Nat.le_refl _, State.Warmed39.trans (t := s.setVm vm0) hZ hS'.1, by rw [show (s.setVm T'.vm).vm = T'.vm from rfl, hS'.1.alike.findClass]; exact hown, st⟩
theorem own_wS {a0 : Array Value} {Z : State} (hw : ∀ d ∈ tables_1, d.before a0 Z = true) : ∀ a ∈ Bundle.stringAtoms, a.before a0 Z = true := fun d hd => by
  simp only [Bundle.stringAtoms, List.mem_cons, List.not_mem_nil, or_false] at hd
  rcases hd with rfl | rfl | rfl | rfl | rfl | rfl | rfl
  all_goals first | exact (hw _ (List.mem_of_getElem? (i := 11) rfl)) | exact (hw _ (List.mem_of_getElem? (i := 10) rfl)) | exact (hw _ (List.mem_of_getElem? (i := 27) rfl)) | exact (hw _ (List.mem_of_getElem? (i := 37) rfl)) | exact (hw _ (List.mem_of_getElem? (i := 35) rfl)) | exact (hw _ (List.mem_of_getElem? (i := 53) rfl)) | exact (hw _ (List.mem_of_getElem? (i := 54) rfl))
theorem own_isfin {x : UInt64} (h : Fin64 x) : ¬ (0 : Int32) < cmpValue (FP.dcmp (x &&& 0x7fffffffffffffff) (9218868437227405311 : UInt64)) .g := by
  intro hc
  have h1 := (fin64_iff x).mp h
  have e1 := FP.Core.mask_toNat x
  have n1 : FP.Core.val64 (x &&& 0x7fffffffffffffff) ≠ .nan := by rw [FP.Core.ne_nan, e1]; omega
  have n2 : FP.Core.val64 (9218868437227405311 : UInt64) ≠ .nan := by decide +kernel
  rw [cmpV_g] at hc
  rcases (FP.Core.cmpInt_g_gt _).mp hc with q | q
  · have k := (FP.Core.dcmp_gt_key n1 n2).mp q
    have e2 : FP.Core.dkey (9218868437227405311 : UInt64) = 9218868437227405311 := by decide +kernel
    rw [e2] at k
    unfold FP.Core.dkey at k
    rw [e1] at k
    split at k <;> omega
  · rcases (FP.Core.dcmp_none _ _).mp q with r | r
    · exact n1 r
    · exact n2 r
theorem own_nm {x : UInt64} (h : Fin64 x) : NoNaN64 (x &&& 0x7fffffffffffffff) := (abs_fin h).noNaN

/-! lower bounds of positive doubles -/
section Lo
open Jvm.FP.Core
/-- a positive double of at least 2^-k -/
def own_lo (k : Nat) (x : UInt64) : Prop := ∃ c q, val64 x = .fin false c q ∧ 2 ^ (1074 - k) ≤ c * 2 ^ (q + 1074).toNat
theorem own_lo_q {x : UInt64} {c : Nat} {q : Int} {s : Bool} (h : val64 x = .fin s c q) : -1074 ≤ q ∧ q ≤ 971 := by
  have f := val64_fits x
  rw [h] at f
  have h1 := f.2.1; have h2 := f.2.2.1
  rw [qmin_b64] at h1; rw [show b64.qmax = 971 by decide] at h2
  exact ⟨h1, h2⟩
theorem own_lo_zmag {s : Bool} {c : Nat} {q : Int} : zmag b64 (.fin s c q) = c * 2 ^ (q + 1074).toNat := by
  show c * 2 ^ (q - b64.qmin).toNat = _
  rw [qmin_b64, show q - -1074 = q + 1074 by omega]
theorem own_lo_pos {k : Nat} {x : UInt64} (h : own_lo k x) : (0 : Int32) < cmpValue (FP.dcmp x FP.dconst0) .g := by
  obtain ⟨c, q, h1, h2⟩ := h
  have n1 : val64 x ≠ .nan := by rw [h1]; exact Datum.noConfusion
  have n2 : val64 FP.dconst0 ≠ .nan := by decide +kernel
  have e : FP.dcmp x FP.dconst0 = some (compare (zval b64 (val64 x)) (zval b64 (val64 FP.dconst0))) := dcmp_zval n1 n2
  have e0 : zval b64 (val64 FP.dconst0) = 0 := by decide +kernel
  have e1 : zval b64 (val64 x) = ((c * 2 ^ (q + 1074).toNat : Nat) : Int) := by
    rw [h1]
    show ((zmag b64 (.fin false c q) : Nat) : Int) = _
    rw [own_lo_zmag]
  have hp := Nat.two_pow_pos (1074 - k)
  rw [e, e0, e1, (FP.Core.compare_gt_iff _ _).mpr (by omega)]; decide
theorem own_lo_V {k : Nat} (hk : k ≤ 1000) : FP.Core.fits b64 (.fin false (2 ^ 52) (-(k : Int) - 52)) ∧ zmag b64 (.fin false (2 ^ 52) (-(k : Int) - 52)) = 2 ^ (1074 - k) := by
  refine ⟨⟨by decide, by rw [qmin_b64]; omega, by rw [show b64.qmax = 971 by decide]; omega, Or.inr (by decide)⟩, ?_⟩
  rw [own_lo_zmag, ← Nat.pow_add]
  congr 1; omega
theorem own_lo_mul {k j : Nat} {a b : UInt64} (ha : own_lo k a) (hb : own_lo j b) (hk : k + j ≤ 1000) (hf : Fin64 (FP.dmul a b)) : own_lo (k + j) (FP.dmul a b) := by
  obtain ⟨c, q, a1, a2⟩ := ha
  obtain ⟨d, r, b1, b2⟩ := hb
  obtain ⟨qa, -⟩ := own_lo_q a1
  obtain ⟨qb, -⟩ := own_lo_q b1
  obtain ⟨v1, v2⟩ := own_lo_V hk
  have e : val64 (FP.dmul a b) = roundRatio b64 false (c * d) 1 (q + r) := by
    have := val64_dmul a b
    rw [a1, b1] at this
    exact this
  have g := zmag_roundRatio_ge (s := false) (A := c * d) (B := 1) (e := q + r) (e0 := -2148) good_b64 (by decide) v1 (by rw [qmin_b64]; decide) (by omega) (by
    rw [v2, qmin_b64, Nat.mul_one]
    show 2 ^ (1074 - (k + j)) * 2 ^ 1074 ≤ c * d * 2 ^ (q + r - -2148).toNat
    have e1 : (q + r - -2148).toNat = (q + 1074).toNat + (r + 1074).toNat := by omega
    have e2 : c * d * 2 ^ (q + r - -2148).toNat = (c * 2 ^ (q + 1074).toNat) * (d * 2 ^ (r + 1074).toNat) := by rw [e1, Nat.pow_add]; ac_rfl
    rw [e2, ← Nat.pow_add, show 1074 - (k + j) + 1074 = (1074 - k) + (1074 - j) by omega, Nat.pow_add]
    exact Nat.mul_le_mul a2 b2)
  obtain ⟨s, c', q', hv⟩ := fin64_core.mp hf
  rw [v2, ← e, hv, own_lo_zmag] at g
  rcases roundRatio_cases b64 false (c * d) 1 (q + r) with ⟨c2, q2, h⟩ | h
  · have hh := e.symm.trans hv
    rw [h] at hh
    obtain ⟨rfl, -, -⟩ := Datum.fin.inj hh
    exact ⟨c', q', hv, g⟩
  · have hh := e.symm.trans hv
    rw [h] at hh; cases hh
theorem own_lo_div {k j : Nat} {a b : UInt64} (ha : own_lo k a) {n : Int} (hb : DInt n b) (hn : 1 ≤ n) (hn2 : n ≤ 2 ^ j) (hk : k + j ≤ 1000) (hf : Fin64 (FP.ddiv a b)) : own_lo (k + j) (FP.ddiv a b) := by
  obtain ⟨c, q, a1, a2⟩ := ha
  have hz := DInt_zval hb
  have hbn := DInt_ne_nan hb
  have hbd : ∃ d r, val64 b = .fin false d r := by
    unfold DInt at hb
    cases hvb : val64 b with
    | nan => exact absurd hvb hbn
    | inf s => rw [hvb] at hb; exact hb.elim
    | fin s d r =>
      rw [hvb] at hb
      have := whole_sign hb (by omega)
      rw [decide_eq_false (by omega)] at this
      subst this; exact ⟨d, r, rfl⟩
  obtain ⟨d, r, b1⟩ := hbd
  have b2 : d * 2 ^ (r + 1074).toNat = n.natAbs * 2 ^ 1074 := by
    rw [b1] at hz
    have h1 : zval b64 (.fin false d r) = ((d * 2 ^ (r + 1074).toNat : Nat) : Int) := by
      show ((zmag b64 (.fin false d r) : Nat) : Int) = _
      rw [own_lo_zmag]
    rw [h1] at hz
    have h2 : n * (one64 : Int) = ((n.natAbs * 2 ^ 1074 : Nat) : Int) := by
      rw [Int.natCast_mul, show ((n.natAbs : Nat) : Int) = n by omega]; rfl
    rw [h2] at hz
    exact Int.ofNat.inj hz
  obtain ⟨qa, qa'⟩ := own_lo_q a1
  obtain ⟨qb, qb'⟩ := own_lo_q b1
  obtain ⟨v1, v2⟩ := own_lo_V hk
  have hd : 0 < d := by
    rcases Nat.eq_zero_or_pos d with h | h
    · subst h
      rw [Nat.zero_mul] at b2
      have := Nat.mul_pos (show 0 < n.natAbs by omega) (Nat.two_pow_pos 1074)
      omega
    · exact h
  have e : val64 (FP.ddiv a b) = roundRatio b64 false c d (q - r) := by
    have := val64_ddiv a b
    rw [a1, b1] at this
    rw [show FP.ddiv a b = FP.Core.ddiv a b from rfl, this]
    show (if d = 0 then _ else roundRatio b64 (false != false) c d (q - r)) = _
    rw [if_neg (by omega)]; rfl
  have g := zmag_roundRatio_ge (s := false) (A := c) (B := d) (e := q - r) (e0 := -2148) good_b64 hd v1 (by rw [qmin_b64]; decide) (by omega) (by
    rw [v2, qmin_b64]
    show 2 ^ (1074 - (k + j)) * 2 ^ 1074 * d ≤ c * 2 ^ (q - r - -2148).toNat
    refine Nat.le_of_mul_le_mul_right (c := 2 ^ (r + 1074).toNat) ?_ (Nat.two_pow_pos _)
    have e2 : c * 2 ^ (q - r - -2148).toNat * 2 ^ (r + 1074).toNat = (c * 2 ^ (q + 1074).toNat) * 2 ^ 2148 := by
      rw [Nat.mul_assoc, Nat.mul_assoc, ← Nat.pow_add, ← Nat.pow_add]; congr 2; omega
    have e3 : 2 ^ (1074 - (k + j)) * 2 ^ 1074 * d * 2 ^ (r + 1074).toNat = 2 ^ (1074 - (k + j)) * 2 ^ 1074 * (n.natAbs * 2 ^ 1074) := by
      rw [Nat.mul_assoc _ d, b2]
    have hn3 : n.natAbs ≤ 2 ^ j := by
      have : ((n.natAbs : Nat) : Int) ≤ ((2 ^ j : Nat) : Int) := by rw [show ((n.natAbs : Nat) : Int) = n by omega, Int.natCast_pow]; exact hn2
      exact Int.ofNat_le.mp this
    rw [e2, e3]
    have e4 : 2 ^ (1074 - (k + j)) * 2 ^ 1074 * (n.natAbs * 2 ^ 1074) ≤ 2 ^ (1074 - (k + j)) * 2 ^ 1074 * (2 ^ j * 2 ^ 1074) := Nat.mul_le_mul_left _ (Nat.mul_le_mul_right _ hn3)
    refine Nat.le_trans e4 ?_
    rw [← Nat.pow_add, ← Nat.pow_add, ← Nat.pow_add, show 1074 - (k + j) + 1074 + (j + 1074) = (1074 - k) + 2148 by omega, Nat.pow_add]
    exact Nat.mul_le_mul_right _ a2)
  obtain ⟨s, c', q', hv⟩ := fin64_core.mp hf
  rw [v2, ← e, hv, own_lo_zmag] at g
  rcases roundRatio_cases b64 false c d (q - r) with ⟨c2, q2, h⟩ | h
  · have hh := e.symm.trans hv
    rw [h] at hh
    obtain ⟨rfl, -, -⟩ := Datum.fin.inj hh
    exact ⟨c', q', hv, g⟩
  · have hh := e.symm.trans hv
    rw [h] at hh; cases hh
theorem own_lo_int {n : Int} {b : UInt64} (hb : DInt n b) (hn : 1 ≤ n) : own_lo 0 b := by
  have hz := DInt_zval hb
  have hbn := DInt_ne_nan hb
  unfold DInt at hb
  cases hvb : val64 b with
  | nan => exact absurd hvb hbn
  | inf s => rw [hvb] at hb; exact hb.elim
  | fin s d r =>
    rw [hvb] at hb hz
    have := whole_sign hb (by omega)
    rw [decide_eq_false (by omega)] at this
    subst this
    refine ⟨d, r, hvb, ?_⟩
    have h1 : zval b64 (.fin false d r) = ((d * 2 ^ (r + 1074).toNat : Nat) : Int) := by
      show ((zmag b64 (.fin false d r) : Nat) : Int) = _
      rw [own_lo_zmag]
    rw [h1] at hz
    have h2 : ((2 ^ 1074 : Nat) : Int) ≤ n * (one64 : Int) := by
      have : (1 : Int) * (one64 : Int) ≤ n * (one64 : Int) := Int.mul_le_mul_of_nonneg_right hn (Int.natCast_nonneg _)
      rw [Int.one_mul] at this; exact this
    rw [← hz] at h2
    exact Int.ofNat_le.mp h2
end Lo

/-! the doubles of Component.nonAssociating -/
section Na
open Jvm.FP.Core (DInt val64)
/-- a double that holds a whole number from 1 to 65536 -/
def own_pd (x : UInt64) : Prop := Mag64 1088 x ∧ Big64 1023 x ∧ ∃ n : Int, DInt n x ∧ 1 ≤ n ∧ n ≤ 65536
theorem own_onep (p : Int32) : own_pd (FP.dadd FP.dconst1 (FP.i2d (p &&& (65535 : Int32)))) := by
  have e := c_mask p 65535 16 (by decide) (by decide)
  have h1 : FP.i2d (p &&& (65535 : Int32)) = FP.l2d (p &&& (65535 : Int32)).toInt64 := i2d_w _
  have h2 : FP.dconst1 = FP.l2d 1 := by decide +kernel
  generalize (p &&& (65535 : Int32)) = z at *
  have hz : z.toInt64.toInt = z.toInt := Int32.toInt_toInt64 z
  have hr : 0 ≤ z.toInt ∧ z.toInt < 65536 := by omega
  have h3 : FP.dadd (FP.l2d 1) (FP.l2d z.toInt64) = FP.l2d (1 + z.toInt64) := dadd_w (by unfold B53; decide) (by unfold B53; omega)
  have h4 : (1 + z.toInt64).toInt = 1 + z.toInt := by
    rw [Int64.toInt_add, hz, show (1 : Int64).toInt = 1 from rfl]
    exact Int.bmod_eq_of_le (by omega) (by omega)
  rw [h1, h2, h3]
  refine ⟨l2d_mag _, l2d_big (fun q => ?_), (1 + z.toInt64).toInt, FP.Core.l2d_int (by rw [h4]; omega), by rw [h4]; omega, by rw [h4]; omega⟩
  rw [q] at h4
  have : (0 : Int64).toInt = 0 := rfl
  omega
theorem own_mulI {k j i : Nat} {a b : UInt64} (ha : own_lo k a) (hb : own_lo j b) (hi : k + j = i) (hk : i ≤ 1000) (hf : Fin64 (FP.dmul a b)) : own_lo i (FP.dmul a b) := by subst hi; exact own_lo_mul ha hb hk hf
theorem own_pd_fin {x : UInt64} (h : own_pd x) : Fin64 x := h.1.fin (by decide)
theorem own_pd_lo {x : UInt64} (h : own_pd x) : own_lo 0 x := by obtain ⟨-, -, n, h1, h2, -⟩ := h; exact own_lo_int h1 h2
theorem own_pd_pos {x : UInt64} (h : own_pd x) : (0 : Int32) < cmpValue (FP.dcmp x FP.dconst0) .g := own_lo_pos (own_pd_lo h)
def own_G : UInt64 := 4590655622382989064
def own_OA : UInt64 := 4601372414992739279
def own_OB : UInt64 := 4590907490610611004
theorem own_Gm : Mag64 1020 own_G := by unfold Mag64; decide +kernel
theorem own_OAm : Mag64 1022 own_OA := by unfold Mag64; decide +kernel
theorem own_OBm : Mag64 1020 own_OB := by unfold Mag64; decide +kernel
theorem own_lo_of {x : UInt64} {c : Nat} {q : Int} {k : Nat} (h : val64 x = .fin false c q) (h2 : decide (2 ^ (1074 - k) ≤ c * 2 ^ (q + 1074).toNat) = true) : own_lo k x := ⟨c, q, h, of_decide_eq_true h2⟩
theorem own_Gl : own_lo 4 own_G := own_lo_of (c := 2 ^ 52 + 4590655622382989064 % 2 ^ 52) (q := -56) (by decide +kernel) (by decide +kernel)
theorem own_OAl : own_lo 2 own_OA := own_lo_of (c := 2 ^ 52 + 4601372414992739279 % 2 ^ 52) (q := -54) (by decide +kernel) (by decide +kernel)
theorem own_OBl : own_lo 4 own_OB := own_lo_of (c := 2 ^ 52 + 4590907490610611004 % 2 ^ 52) (q := -56) (by decide +kernel) (by decide +kernel)
theorem own_rtc {x : UInt64} (h : own_pd x) : Mag64 1086 (FP.dmul own_G x) ∧ own_lo 4 (FP.dmul own_G x) := by
  have m := dmul_mag own_Gm h.1 (by decide) (by decide)
  exact ⟨m.mono (by decide), own_mulI own_Gl (own_pd_lo h) (by decide) (by decide) (m.fin (by decide))⟩
theorem own_OAr {r : UInt64} (h : Mag64 1086 r ∧ own_lo 4 r) : Mag64 1086 (FP.dmul own_OA r) ∧ own_lo 6 (FP.dmul own_OA r) := by
  have m := dmul_mag own_OAm h.1 (by decide) (by decide)
  exact ⟨m.mono (by decide), own_mulI own_OAl h.2 (by decide) (by decide) (m.fin (by decide))⟩
theorem own_OArr {u r : UInt64} (hu : Mag64 1086 u ∧ own_lo 6 u) (h : Mag64 1086 r ∧ own_lo 4 r) : Mag64 1150 (FP.dmul u r) ∧ own_lo 10 (FP.dmul u r) := by
  have m := dmul_mag hu.1 h.1 (by decide) (by decide)
  exact ⟨m.mono (by decide), own_mulI hu.2 h.2 (by decide) (by decide) (m.fin (by decide))⟩
theorem own_a0 {u x : UInt64} {k : Nat} (hu : Mag64 1150 u ∧ own_lo k u) (hk : k ≤ 100) (hx : own_pd x) : Mag64 1151 (FP.ddiv u x) ∧ own_lo (k + 16) (FP.ddiv u x) := by
  have m := ddiv_mag hu.1 hx.2.1 (by decide) (by decide)
  obtain ⟨n, h1, h2, h3⟩ := hx.2.2
  exact ⟨m.mono (by decide), own_lo_div hu.2 h1 h2 (by rw [show (2 : Int) ^ 16 = 65536 by decide]; exact h3) (by omega) (m.fin (by decide))⟩
theorem own_OBr {r : UInt64} (h : Mag64 1086 r ∧ own_lo 4 r) : Mag64 1150 (FP.dmul own_OB r) ∧ own_lo 8 (FP.dmul own_OB r) := by
  have m := dmul_mag own_OBm h.1 (by decide) (by decide)
  exact ⟨m.mono (by decide), own_mulI own_OBl h.2 (by decide) (by decide) (m.fin (by decide))⟩
def own_c48 : UInt64 := 4602318531202457272
def own_c157 : UInt64 := 4609767484986128073
def own_c176 : UInt64 := 4595509088565873082
theorem own_c1a (w : Int32) : Mag64 1058 (FP.dmul own_c157 (FP.i2d w)) := (dmul_mag (Ka := 1024) (by unfold Mag64; decide +kernel) (i2d_mag w) (by decide) (by decide)).mono (by decide)
theorem own_c1b (w : Int32) : Mag64 1060 (FP.dadd own_c48 (FP.dmul own_c157 (FP.i2d w))) := (dadd_mag (by unfold Mag64; decide +kernel) (own_c1a w) (by decide)).mono (by decide)
theorem own_c1c (w : Int32) : Mag64 1055 (FP.dmul own_c176 (FP.i2d w)) := (dmul_mag (Ka := 1021) (by unfold Mag64; decide +kernel) (i2d_mag w) (by decide) (by decide)).mono (by decide)
theorem own_c1d (w : Int32) : Mag64 1089 (FP.dmul (FP.dmul own_c176 (FP.i2d w)) (FP.i2d w)) := (dmul_mag (own_c1c w) (i2d_mag w) (by decide) (by decide)).mono (by decide)
theorem own_c1e (w : Int32) : Mag64 1091 (FP.dsub (FP.dadd own_c48 (FP.dmul own_c157 (FP.i2d w))) (FP.dmul (FP.dmul own_c176 (FP.i2d w)) (FP.i2d w))) := (dsub_mag ((own_c1b w).mono (by decide)) (own_c1d w) (by decide)).mono (by decide)
theorem own_nn {K : Nat} {x : UInt64} (h : Mag64 K x) (hK : K ≤ 2047) : NoNaN64 x := Fin64.noNaN (h.fin hK)
/-! Fraction.waterInteraction -/
def own_wk (c : Int32) : UInt64 := if c < 10 then (if c = 6 then 4586242481972595550 else FP.dadd (FP.dmul 13806523248043144249 (FP.i2d c)) 4596067534919667024) else 13812972402709538800
theorem own_wk1 (c : Int32) : Mag64 1056 (FP.dmul 13806523248043144249 (FP.i2d c)) := (dmul_mag (Ka := 1021) (by unfold Mag64; decide +kernel) (i2d_mag c) (by decide) (by decide)).mono (by decide)
theorem own_wk2 (c : Int32) : Mag64 1058 (FP.dadd (FP.dmul 13806523248043144249 (FP.i2d c)) 4596067534919667024) := (dadd_mag (own_wk1 c) (by unfold Mag64; decide +kernel) (by decide)).mono (by decide)
def own_tl (c : Int32) : Bool := decide (NoNaN64 (FP.ddiv (FP.i2d (1915 - 260 * c)) 4666723172467343360)) && decide (NoNaN64 (FP.dsub (own_wk c) (FP.ddiv (FP.i2d (1915 - 260 * c)) 4666723172467343360))) && decide (cmpValue (FP.dcmp (FP.dsub (own_wk c) (FP.ddiv (FP.i2d (1915 - 260 * c)) 4666723172467343360)) 4427486594234968593) .g < 0) && decide (0 < cmpValue (FP.dcmp (FP.dsub (own_wk c) (FP.ddiv (FP.i2d (1915 - 260 * c)) 4666723172467343360)) 13650858631089744401) .l)
theorem own_tail {c : Int32} (h1 : ¬ c < 1) (h2 : c < 10) (h3 : ¬ c = 6) : own_tl c = true := by
  have q : ∃ k : Fin 9, c = Int32.ofNat (k.val + 1) := by
    rw [Int32.lt_iff_toInt_lt] at h1 h2
    rw [show (1 : Int32).toInt = 1 from rfl] at h1
    rw [show (10 : Int32).toInt = 10 from rfl] at h2
    refine ⟨⟨c.toInt.toNat - 1, by omega⟩, Int32.toInt_inj.mp ?_⟩
    show c.toInt = (Int32.ofNat (c.toInt.toNat - 1 + 1)).toInt
    rw [Int32.toInt_ofNat_of_lt (by omega)]; omega
  obtain ⟨k, rfl⟩ := q
  exact (show ∀ k : Fin 9, ¬ Int32.ofNat (k.val + 1) = 6 → own_tl (Int32.ofNat (k.val + 1)) = true by decide +kernel) k h3
theorem own_tail4 {c : Int32} (h1 : ¬ c < 1) (h2 : c < 10) (h3 : ¬ c = 6) : NoNaN64 (FP.ddiv (FP.i2d (1915 - 260 * c)) 4666723172467343360) ∧ NoNaN64 (FP.dsub (own_wk c) (FP.ddiv (FP.i2d (1915 - 260 * c)) 4666723172467343360)) ∧ cmpValue (FP.dcmp (FP.dsub (own_wk c) (FP.ddiv (FP.i2d (1915 - 260 * c)) 4666723172467343360)) 4427486594234968593) .g < 0 ∧ 0 < cmpValue (FP.dcmp (FP.dsub (own_wk c) (FP.ddiv (FP.i2d (1915 - 260 * c)) 4666723172467343360)) 13650858631089744401) .l := by
  have h := own_tail h1 h2 h3
  unfold own_tl at h
  simp only [Bool.and_eq_true, decide_eq_true_eq] at h
  exact ⟨h.1.1.1, h.1.1.2, h.1.2, h.2⟩
/-! the carbon number -/
theorem own_cn1 (p : Int32) : ¬ ((1 : Int32) + (p &&& (2147483647 : Int32)) % (12 : Int32)) < (1 : Int32) := by
  have e := c_mask p 2147483647 31 (by decide) (by decide)
  generalize (p &&& (2147483647 : Int32)) = z at *
  have h1 : (z % (12 : Int32)).toInt = z.toInt.tmod 12 := Int32.toInt_mod z 12
  have h2 : 0 ≤ z.toInt.tmod 12 := Int.tmod_nonneg _ (by omega)
  have h3 : z.toInt.tmod 12 < 12 := Int.tmod_lt_of_pos _ (by decide)
  have h4 := c_iadd 1 (z % (12 : Int32))
  have h5 := rng32 (1 + z % (12 : Int32))
  rw [show (1 : Int32).toInt = 1 from rfl] at h4
  rw [Int32.lt_iff_toInt_lt, show (1 : Int32).toInt = 1 from rfl]
  omega
theorem own_cn2 (z : Int32) : ¬ (if (1 : Int32) < z then z else (1 : Int32)) < (1 : Int32) := by
  split
  · rename_i h; rw [Int32.lt_iff_toInt_lt] at h ⊢; omega
  · decide
/-! the char -/
theorem own_k16 (p : Int32) : ∃ k : Fin 16, p &&& (15 : Int32) = Int32.ofNat k.val := by
  have e := c_mask p 15 4 (by decide) (by decide)
  generalize (p &&& (15 : Int32)) = z at *
  refine ⟨⟨z.toInt.toNat, by omega⟩, Int32.toInt_inj.mp ?_⟩
  show z.toInt = (Int32.ofNat z.toInt.toNat).toInt
  rw [Int32.toInt_ofNat_of_lt (by omega)]; omega
end Na

theorem ef_9 (m : MethodId) (x0 : Addr) : entryFrame m #[(.ref x0)] 1 = mkF m 0 #[.val (.ref x0)] [] := by first | (simp [entryFrame, mkF, argsToLocals, Value.category]; done) | rfl
theorem pn_java_lang_Record : plainName "java/lang/Record" = true := by first | (simp [plainName, overriddenIn]; done) | decide +kernel
theorem d9_0 : decode jdk_30_method_1_code 0 = .ok (.aload_n 0, 1) := by decide +kernel
theorem d9_1 : decode jdk_30_method_1_code 1 = .ok (.invokespecial 1, 3) := by decide +kernel
theorem d9_4 : decode jdk_30_method_1_code 4 = .ok (.return_, 1) := by decide +kernel
def Q9 (Z : State) (ob : Addr) (h0 : Heap) (n0 : Nat) (v : Option Value) (h : Heap) (L : List Loc) : Prop := v = none ∧ Fr n0 L ∧ h = h0
set_option maxRecDepth 65536 in
set_option maxHeartbeats 40000000 in
theorem rm9 (l : Launch) (Z : State) (a0 : Array Value) (hw : ∀ d ∈ tables_1, d.before a0 Z = true) (ws : List Jvm.Cond) (ob : Addr) (h0 : Heap) (n0 : Nat) (Z0 : n0 ≤ h0.size) :
    MetFree l (⟨"java/lang/Record", "<init>", "()V"⟩ : MethodName) (head1 (Jvm.Cond.code (⟨"java/lang/Record", "<init>", "()V"⟩ : MethodName) jdk_30_method_1_code 1 none :: ws) ({ frames := 1, cells := 0, slots := 0, locals := 12 } : Room)) (fun a U => a = #[(.ref ob)] ∧ Z.Warmed39 U.vm ∧ U.heap = h0) (fun _ _ _ _ _ => True) (fun _ U o U' => ∃ v L, o = .returned v ∧ Q9 Z ob h0 n0 v U'.heap L ∧ FrameEnd U o U' L ({ frames := 1, cells := 0, slots := 0, locals := 12 } : Room).cells ({ frames := 1, cells := 0, slots := 0, locals := 12 } : Room).slots) := by
  refine MetFree.of_bodySF (plainFor_of_name pn_java_lang_Record) hisR ?_
  intro p e s m args below meth c s₁ Bd hml0 hP hK
  obtain ⟨rfl, hZ, hh⟩ := hP
  have hx := Bd.exec
  have hby := Bd.bytes
  have hml : c.maxLocals = 1 := hml0
  have hown : s.vm.findClass "java/lang/Record" = some m.cls := findClass_of_methodNamed Bd.named
  have hnm := (name_of_methodNamed Bd.named Bd.method).1
  have X0 : Stand p l e ({ frames := 1, cells := 0, slots := 0, locals := 12 } : Room) s m #[(.ref ob)] below meth c s₁ [] 0 0 := Stand.of_body Bd
  have e0 : s₁.heap = h0 := by rw [← hh, Bd.state]; rfl
  have N0 := Fr.nil n0
  refine own_all ?_
  intro P hfin
  refine own_cast (ef_9 m ob) ?_
  show own_Go p e below P s₁ (mkF m 0 #[.val (.ref ob)] [])
  refine own_step (fun _ k => XS.aloadN X0.here hx rfl (hb hby d9_0) rfl rfl k) ?_
  show own_Go p e below P s₁ (mkF m 1 #[.val (.ref ob)] [(.ref ob)])
  obtain ⟨T1, X1, e1, st1⟩ := initO X0 hx hZ hown (hw _ (List.mem_of_getElem? (i := 47) rfl)) (hw _ (List.mem_of_getElem? (i := 20) rfl)) (hw _ (List.mem_of_getElem? (i := 21) rfl)) e0 (g := (mkF m 1 #[.val (.ref ob)] [(.ref ob)])) rfl (by rw [hml]; rfl) rfl (hb hby d9_1) (by decide) (W := 0) (by show 2 * 0 + _ ≤ _; exact Nat.le_of_eq rfl) (by decide)
  refine own_step st1 ?_
  show own_Go p e below P T1 (mkF m 4 #[.val (.ref ob)] [])
  obtain ⟨fs, hr, hrun, hended, hW, hsame⟩ := X1.leave (v := none) (fun _ => rfl)
  refine ⟨_, _, X1.returnOut hx Bd.returns (hb hby d9_4) hr, hrun, hended, hfin _ _ ⟨_, _, rfl, ?_, ⟨_, rfl⟩, hW, hsame.mono (by decide) (by decide)⟩⟩
  show Q9 Z ob h0 n0 none T1.heap _
  rw [e1]
  exact ⟨rfl, N0, rfl⟩
theorem own_arr_keep {Z : State} {h h' : Heap} {a : Addr} {c : Cell} {ty : FieldType} {ws : List Addr} (A : Arr Z h a c ty) (K : Keep h h' ws) (q : a ∉ ws) : Arr Z h' a c ty := ⟨K.2.1 a c A.1 q, A.2⟩
theorem own_nz {t : Term} {args : Array Value} {s : State} {cc k : Int32} (e : t.eval args s none [] s = some (.int cc)) (h : (Jvm.Cond.eq t (.int k)).value args s none s [] = some (!true)) : ¬ (cc = k) := by
  have h3 : (Jvm.Cond.eq t (.int k)).value args s none s [] = some (decide (cc = k)) := by simp [Jvm.Cond.value, e, show (Term.int k).eval args s none [] s = some (.int k) from rfl]
  exact gotF h3 h
/-- a char that is no blank by its code -/
def own_ch (ch : Int32) : Prop := (ch &&& (255 : Int32)).toUInt32.toUInt16.toUInt32.toInt32 = ch ∧ ch.toUInt32.toUInt16.toUInt32.toInt32 = ch ∧ ¬ (ch = (32 : Int32)) ∧ ¬ (ch = (9 : Int32))
theorem ef_23 (m : MethodId) (x0 : Addr) : entryFrame m #[(.ref x0)] 1 = mkF m 0 #[.val (.ref x0)] [] := by first | (simp [entryFrame, mkF, argsToLocals, Value.category]; done) | rfl
theorem pn_java_lang_String : plainName "java/lang/String" = true := by first | (simp [plainName, overriddenIn]; done) | decide +kernel
theorem d23_0 : decode jdk_42_method_152_code 0 = .ok (.getstatic 38, 3) := by decide +kernel
theorem d23_3 : decode jdk_42_method_152_code 3 = .ok (.ifCond .eq 10, 3) := by decide +kernel
theorem d23_6 : decode jdk_42_method_152_code 6 = .ok (.aload_n 0, 1) := by decide +kernel
theorem d23_7 : decode jdk_42_method_152_code 7 = .ok (.getfield 15, 3) := by decide +kernel
theorem d23_10 : decode jdk_42_method_152_code 10 = .ok (.goto 4, 3) := by decide +kernel
theorem d23_14 : decode jdk_42_method_152_code 14 = .ok (.ireturn, 1) := by decide +kernel
def Q23 (Z : State) (sa : Addr) (sv : Addr) (kb : ClassId) (ch : Int32) (cc : Int32) (ci : Addr) (ta : Addr) (tc : Cell) (pv : Int32) (h0 : Heap) (n0 : Nat) (v : Option Value) (h : Heap) (L : List Loc) : Prop := v = some (.int (0 : Int32)) ∧ Fr n0 L ∧ h = h0
set_option maxRecDepth 65536 in
set_option maxHeartbeats 40000000 in
theorem rm23 (l : Launch) (Z : State) (a0 : Array Value) (hw : ∀ d ∈ tables_1, d.before a0 Z = true) (ws : List Jvm.Cond) (sa : Addr) (sv : Addr) (kb : ClassId) (ch : Int32) (cc : Int32) (ci : Addr) (ta : Addr) (tc : Cell) (pv : Int32) (h0 : Heap) (n0 : Nat) (Z0 : n0 ≤ h0.size) (F_coder_sa : Fld Z h0 sa "java/lang/String" "coder" "B" (.int (0 : Int32))) (F_value_sa : Fld Z h0 sa "java/lang/String" "value" "[B" (.ref sv)) (E_sa : Exa Z h0 sa "java/lang/String") (V_sv : Arv Z h0 sv kb .byte (1 : Int32) [(.int ch)] (.int (0 : Int32))) (S_cs : Sta Z h0 "java/lang/String" "COMPACT_STRINGS" "Z" (.int cc)) (hcc : ¬ (cc = (0 : Int32))) (S_ci : Sta Z h0 "java/lang/CharacterDataLatin1" "instance" "Ljava/lang/CharacterDataLatin1;" (.ref ci)) (E_ci : Exa Z h0 ci "java/lang/CharacterDataLatin1") (S_ta : Sta Z h0 "java/lang/CharacterDataLatin1" "A" "[I" (.ref ta)) (A_ta : Arr Z h0 ta tc .int) (hti : ¬ (ch < 0 ∨ tc.slots.size ≤ (ch).toNatClampNeg)) (htv : tc.slots[(ch).toNatClampNeg]? = some (.int pv)) (hpw : ¬ ((pv &&& (28672 : Int32)) = (16384 : Int32))) (hch : own_ch ch) :
    MetFree l (⟨"java/lang/String", "coder", "()B"⟩ : MethodName) (head1 (Jvm.Cond.code (⟨"java/lang/String", "coder", "()B"⟩ : MethodName) jdk_42_method_152_code 1 (some .byte) :: ws) ({ frames := 0, cells := 0, slots := 0, locals := 0 } : Room)) (fun a U => a = #[(.ref sa)] ∧ Z.Warmed39 U.vm ∧ U.heap = h0) (fun _ _ _ _ _ => True) (fun _ U o U' => ∃ v L, o = .returned v ∧ Q23 Z sa sv kb ch cc ci ta tc pv h0 n0 v U'.heap L ∧ FrameEnd U o U' L ({ frames := 0, cells := 0, slots := 0, locals := 0 } : Room).cells ({ frames := 0, cells := 0, slots := 0, locals := 0 } : Room).slots) := by
  refine MetFree.of_bodySF (plainFor_of_name pn_java_lang_String) hisR ?_
  intro p e s m args below meth c s₁ Bd hml0 hP hK
  obtain ⟨rfl, hZ, hh⟩ := hP
  have hx := Bd.exec
  have hby := Bd.bytes
  have hml : c.maxLocals = 1 := hml0
  have hown : s.vm.findClass "java/lang/String" = some m.cls := findClass_of_methodNamed Bd.named
  have hnm := (name_of_methodNamed Bd.named Bd.method).1
  have X0 : Stand p l e ({ frames := 0, cells := 0, slots := 0, locals := 0 } : Room) s m #[(.ref sa)] below meth c s₁ [] 0 0 := Stand.of_body Bd
  have e0 : s₁.heap = h0 := by rw [← hh, Bd.state]; rfl
  have N0 := Fr.nil n0
  refine own_all ?_
  intro P hfin
  refine own_cast (ef_23 m sa) ?_
  show own_Go p e below P s₁ (mkF m 0 #[.val (.ref sa)] [])
  obtain ⟨T1, X1, e1, st1⟩ := getS2 X0 hx hZ hown (host := "") (Or.inl (hw _ (List.mem_of_getElem? (i := 22) rfl))) Via.refl e0 S_cs (g := (mkF m 0 #[.val (.ref sa)] [])) rfl (hb hby d23_0)
  refine own_step st1 ?_
  show own_Go p e below P T1 (mkF m 3 #[.val (.ref sa)] [(.int cc)])
  refine own_step (fun _ k => XS.ifNo X1.here hx rfl (hb hby d23_3) rfl ((if0 _ _).trans (feq hcc).1) k) ?_
  show own_Go p e below P T1 (mkF m 6 #[.val (.ref sa)] [])
  refine own_step (fun _ k => XS.aloadN X1.here hx rfl (hb hby d23_6) rfl rfl k) ?_
  show own_Go p e below P T1 (mkF m 7 #[.val (.ref sa)] [(.ref sa)])
  obtain ⟨T2, X2, e2, st2⟩ := getF X1 hx hZ hown (host := "") (Or.inl (hw _ (List.mem_of_getElem? (i := 34) rfl))) Via.refl e1 F_coder_sa (g := (mkF m 7 #[.val (.ref sa)] [(.ref sa)])) rfl rfl (hb hby d23_7)
  refine own_step st2 ?_
  show own_Go p e below P T2 (mkF m 10 #[.val (.ref sa)] [(.int (0 : Int32))])
  refine own_step (fun _ k => XS.goto X2.here hx rfl (pc0 := 10) (pc' := 14) rfl (hb hby d23_10) (by decide) (by decide) k) ?_
  show own_Go p e below P T2 (mkF m 14 #[.val (.ref sa)] [(.int (0 : Int32))])
  obtain ⟨fs, hr, hrun, hended, hW, hsame⟩ := X2.leave (v := some (.int (0 : Int32))) (fun h => by rw [Bd.returns] at h; cases h)
  refine ⟨_, _, retN X2 hx (t := .byte) Bd.returns (by simp) (hb hby d23_14) hr, hrun, hended, hfin _ _ ⟨_, _, rfl, ?_, ⟨_, rfl⟩, hW, hsame.mono (by decide) (by decide)⟩⟩
  show Q23 Z sa sv kb ch cc ci ta tc pv h0 n0 (some (.int (0 : Int32))) T2.heap _
  rw [e2]
  exact ⟨rfl, N0, rfl⟩
theorem ef_22 (m : MethodId) (x0 : Addr) : entryFrame m #[(.ref x0)] 1 = mkF m 0 #[.val (.ref x0)] [] := by first | (simp [entryFrame, mkF, argsToLocals, Value.category]; done) | rfl
theorem d22_0 : decode jdk_42_method_54_code 0 = .ok (.aload_n 0, 1) := by decide +kernel
theorem d22_1 : decode jdk_42_method_54_code 1 = .ok (.getfield 9, 3) := by decide +kernel
theorem d22_4 : decode jdk_42_method_54_code 4 = .ok (.arraylength, 1) := by decide +kernel
theorem d22_5 : decode jdk_42_method_54_code 5 = .ok (.aload_n 0, 1) := by decide +kernel
theorem pd____B : parseMethodDescriptor "()B" = some ⟨[], some .byte⟩ := by decide +kernel
theorem d22_6 : decode jdk_42_method_54_code 6 = .ok (.invokevirtual 335, 3) := by decide +kernel
theorem d22_9 : decode jdk_42_method_54_code 9 = .ok (.ishr, 1) := by decide +kernel
theorem d22_10 : decode jdk_42_method_54_code 10 = .ok (.ireturn, 1) := by decide +kernel
def Q22 (Z : State) (sa : Addr) (sv : Addr) (kb : ClassId) (ch : Int32) (cc : Int32) (ci : Addr) (ta : Addr) (tc : Cell) (pv : Int32) (h0 : Heap) (n0 : Nat) (v : Option Value) (h : Heap) (L : List Loc) : Prop := v = some (.int (1 : Int32)) ∧ Fr n0 L ∧ h = h0
set_option maxRecDepth 65536 in
set_option maxHeartbeats 40000000 in
theorem rm22 (l : Launch) (Z : State) (a0 : Array Value) (hw : ∀ d ∈ tables_1, d.before a0 Z = true) (ws : List Jvm.Cond) (sa : Addr) (sv : Addr) (kb : ClassId) (ch : Int32) (cc : Int32) (ci : Addr) (ta : Addr) (tc : Cell) (pv : Int32) (h0 : Heap) (n0 : Nat) (Z0 : n0 ≤ h0.size) (F_coder_sa : Fld Z h0 sa "java/lang/String" "coder" "B" (.int (0 : Int32))) (F_value_sa : Fld Z h0 sa "java/lang/String" "value" "[B" (.ref sv)) (E_sa : Exa Z h0 sa "java/lang/String") (V_sv : Arv Z h0 sv kb .byte (1 : Int32) [(.int ch)] (.int (0 : Int32))) (S_cs : Sta Z h0 "java/lang/String" "COMPACT_STRINGS" "Z" (.int cc)) (hcc : ¬ (cc = (0 : Int32))) (S_ci : Sta Z h0 "java/lang/CharacterDataLatin1" "instance" "Ljava/lang/CharacterDataLatin1;" (.ref ci)) (E_ci : Exa Z h0 ci "java/lang/CharacterDataLatin1") (S_ta : Sta Z h0 "java/lang/CharacterDataLatin1" "A" "[I" (.ref ta)) (A_ta : Arr Z h0 ta tc .int) (hti : ¬ (ch < 0 ∨ tc.slots.size ≤ (ch).toNatClampNeg)) (htv : tc.slots[(ch).toNatClampNeg]? = some (.int pv)) (hpw : ¬ ((pv &&& (28672 : Int32)) = (16384 : Int32))) (hch : own_ch ch) :
    MetFree l (⟨"java/lang/String", "length", "()I"⟩ : MethodName) (head1 (Jvm.Cond.code (⟨"java/lang/String", "length", "()I"⟩ : MethodName) jdk_42_method_54_code 1 (some .int) :: ws) ({ frames := 1, cells := 0, slots := 0, locals := 13 } : Room)) (fun a U => a = #[(.ref sa)] ∧ Z.Warmed39 U.vm ∧ U.heap = h0) (fun _ _ _ _ _ => True) (fun _ U o U' => ∃ v L, o = .returned v ∧ Q22 Z sa sv kb ch cc ci ta tc pv h0 n0 v U'.heap L ∧ FrameEnd U o U' L ({ frames := 1, cells := 0, slots := 0, locals := 13 } : Room).cells ({ frames := 1, cells := 0, slots := 0, locals := 13 } : Room).slots) := by
  refine MetFree.of_bodySF (plainFor_of_name pn_java_lang_String) hisR ?_
  intro p e s m args below meth c s₁ Bd hml0 hP hK
  obtain ⟨rfl, hZ, hh⟩ := hP
  have hx := Bd.exec
  have hby := Bd.bytes
  have hml : c.maxLocals = 1 := hml0
  have hown : s.vm.findClass "java/lang/String" = some m.cls := findClass_of_methodNamed Bd.named
  have hnm := (name_of_methodNamed Bd.named Bd.method).1
  have X0 : Stand p l e ({ frames := 1, cells := 0, slots := 0, locals := 13 } : Room) s m #[(.ref sa)] below meth c s₁ [] 0 0 := Stand.of_body Bd
  have e0 : s₁.heap = h0 := by rw [← hh, Bd.state]; rfl
  have N0 := Fr.nil n0
  refine own_all ?_
  intro P hfin
  refine own_cast (ef_22 m sa) ?_
  show own_Go p e below P s₁ (mkF m 0 #[.val (.ref sa)] [])
  refine own_step (fun _ k => XS.aloadN X0.here hx rfl (hb hby d22_0) rfl rfl k) ?_
  show own_Go p e below P s₁ (mkF m 1 #[.val (.ref sa)] [(.ref sa)])
  obtain ⟨T1, X1, e1, st1⟩ := getF X0 hx hZ hown (host := "") (Or.inl (hw _ (List.mem_of_getElem? (i := 36) rfl))) Via.refl e0 F_value_sa (g := (mkF m 1 #[.val (.ref sa)] [(.ref sa)])) rfl rfl (hb hby d22_1)
  refine own_step st1 ?_
  show own_Go p e below P T1 (mkF m 4 #[.val (.ref sa)] [(.ref sv)])
  obtain ⟨cl2, Ar2, -, S2, M2, -, -⟩ := (id V_sv)
  refine own_step (fun t k => X1.arraylength hx (by rw [e1]; exact Ar2.1) (State.isArrayOf_alike hZ.alike Ar2.2.1) (g := (mkF m 4 #[.val (.ref sa)] [(.ref sv)])) rfl rfl (hb hby d22_4) t k) ?_
  rw [len_of S2 M2]
  show own_Go p e below P T1 (mkF m 5 #[.val (.ref sa)] [(.int (1 : Int32))])
  refine own_step (fun _ k => XS.aloadN X1.here hx rfl (hb hby d22_5) rfl rfl k) ?_
  show own_Go p e below P T1 (mkF m 6 #[.val (.ref sa)] [(.ref sa), (.int (1 : Int32))])
  obtain ⟨cq3, kq3, q3a, q3b, q3c⟩ := isOf hZ e1 E_sa
  obtain ⟨_, _, ⟨T3, L3, k3, n3⟩, -, X3, ⟨Lc3, hQ3, l3, y3, z3⟩, st3⟩ := X1.virtualBack hx (y := (⟨"java/lang/String", "coder", "()B"⟩ : MethodName)) (z := (⟨"java/lang/String", "coder", "()B"⟩ : MethodName)) hown (mvT hZ (hw _ (List.mem_of_getElem? (i := 122) rfl))) (mvT hZ (hw _ (List.mem_of_getElem? (i := 123) rfl))) (notFace_of_selects (args := #[]) (mvT hZ (hw _ (List.mem_of_getElem? (i := 125) rfl)))) (mvT hZ (hw _ (List.mem_of_getElem? (i := 125) rfl))) (mvT hZ (hw _ (List.mem_of_getElem? (i := 124) rfl))) (by decide) (backOf (W := 1) (rm23 l Z a0 hw [] sa sv kb ch cc ci ta tc pv h0 n0 Z0 F_coder_sa F_value_sa E_sa V_sv S_cs hcc S_ci E_ci S_ta A_ta hti htv hpw hch) hZ (hw _ (List.mem_of_getElem? (i := 126) rfl)) (hw _ (List.mem_of_getElem? (i := 11) rfl)) (by decide) (by decide)) q3a q3c (g := (mkF m 6 #[.val (.ref sa)] [(.ref sa), (.int (1 : Int32))])) rfl (by rw [hml]; rfl) (Steps.refl _) (argsL := []) (rest := [(.int (1 : Int32))]) (lenOf pd____B rfl) rfl (by show 2 * 0 + _ ≤ _; exact Nat.le_of_eq rfl) (hb hby d22_6) (fun _ _ => ⟨rfl, e1, (by decide : 0 + 0 ≤ _), (by decide : 0 + 0 ≤ _)⟩)
  dsimp only [Pt.U, Pt.locs, Pt.cells, Pt.slots] at X3 l3 y3 z3 st3 hQ3
  subst l3 y3 z3
  obtain ⟨rfl, N3q, e3⟩ := hQ3
  have N3 := Fr.app N0 N3q
  refine own_step (fun _ k => st3.trans k) ?_
  show own_Go p e below P T3 (mkF m 9 #[.val (.ref sa)] [(.int (0 : Int32)), (.int (1 : Int32))])
  refine own_step (fun _ k => XS.ishr X3.here hx rfl (hb hby d22_9) rfl k) ?_
  show own_Go p e below P T3 (mkF m 10 #[.val (.ref sa)] [(.int (1 : Int32))])
  obtain ⟨fs, hr, hrun, hended, hW, hsame⟩ := X3.leave (v := some (.int (1 : Int32))) (fun h => by rw [Bd.returns] at h; cases h)
  refine ⟨_, _, retOut X3 hx (t := .int) Bd.returns rfl (Or.inl ⟨rfl, Or.inl rfl, _, rfl⟩) (hb hby d22_10) hr, hrun, hended, hfin _ _ ⟨_, _, rfl, ?_, ⟨_, rfl⟩, hW, hsame.mono (by decide) (by decide)⟩⟩
  show Q22 Z sa sv kb ch cc ci ta tc pv h0 n0 (some (.int (1 : Int32))) T3.heap _
  rw [e3]
  exact ⟨rfl, N3, rfl⟩
theorem ef_17 (m : MethodId) (x0 : Addr) : entryFrame m #[(.ref x0)] 1 = mkF m 0 #[.val (.ref x0)] [] := by first | (simp [entryFrame, mkF, argsToLocals, Value.category]; done) | rfl
theorem d17_0 : decode jdk_42_method_154_code 0 = .ok (.getstatic 38, 3) := by decide +kernel
theorem d17_3 : decode jdk_42_method_154_code 3 = .ok (.ifCond .eq 14, 3) := by decide +kernel
theorem d17_6 : decode jdk_42_method_154_code 6 = .ok (.aload_n 0, 1) := by decide +kernel
theorem d17_7 : decode jdk_42_method_154_code 7 = .ok (.getfield 15, 3) := by decide +kernel
theorem d17_10 : decode jdk_42_method_154_code 10 = .ok (.ifCond .ne 7, 3) := by decide +kernel
theorem d17_13 : decode jdk_42_method_154_code 13 = .ok (.iconst 1, 1) := by decide +kernel
theorem d17_14 : decode jdk_42_method_154_code 14 = .ok (.goto 4, 3) := by decide +kernel
theorem d17_18 : decode jdk_42_method_154_code 18 = .ok (.ireturn, 1) := by decide +kernel
def Q17 (Z : State) (sa : Addr) (sv : Addr) (kb : ClassId) (ch : Int32) (cc : Int32) (ci : Addr) (ta : Addr) (tc : Cell) (pv : Int32) (h0 : Heap) (n0 : Nat) (v : Option Value) (h : Heap) (L : List Loc) : Prop := v = some (.int (1 : Int32)) ∧ Fr n0 L ∧ h = h0
set_option maxRecDepth 65536 in
set_option maxHeartbeats 40000000 in
theorem rm17 (l : Launch) (Z : State) (a0 : Array Value) (hw : ∀ d ∈ tables_1, d.before a0 Z = true) (ws : List Jvm.Cond) (sa : Addr) (sv : Addr) (kb : ClassId) (ch : Int32) (cc : Int32) (ci : Addr) (ta : Addr) (tc : Cell) (pv : Int32) (h0 : Heap) (n0 : Nat) (Z0 : n0 ≤ h0.size) (F_coder_sa : Fld Z h0 sa "java/lang/String" "coder" "B" (.int (0 : Int32))) (F_value_sa : Fld Z h0 sa "java/lang/String" "value" "[B" (.ref sv)) (E_sa : Exa Z h0 sa "java/lang/String") (V_sv : Arv Z h0 sv kb .byte (1 : Int32) [(.int ch)] (.int (0 : Int32))) (S_cs : Sta Z h0 "java/lang/String" "COMPACT_STRINGS" "Z" (.int cc)) (hcc : ¬ (cc = (0 : Int32))) (S_ci : Sta Z h0 "java/lang/CharacterDataLatin1" "instance" "Ljava/lang/CharacterDataLatin1;" (.ref ci)) (E_ci : Exa Z h0 ci "java/lang/CharacterDataLatin1") (S_ta : Sta Z h0 "java/lang/CharacterDataLatin1" "A" "[I" (.ref ta)) (A_ta : Arr Z h0 ta tc .int) (hti : ¬ (ch < 0 ∨ tc.slots.size ≤ (ch).toNatClampNeg)) (htv : tc.slots[(ch).toNatClampNeg]? = some (.int pv)) (hpw : ¬ ((pv &&& (28672 : Int32)) = (16384 : Int32))) (hch : own_ch ch) :
    MetFree l (⟨"java/lang/String", "isLatin1", "()Z"⟩ : MethodName) (head1 (Jvm.Cond.code (⟨"java/lang/String", "isLatin1", "()Z"⟩ : MethodName) jdk_42_method_154_code 1 (some .boolean) :: ws) ({ frames := 0, cells := 0, slots := 0, locals := 0 } : Room)) (fun a U => a = #[(.ref sa)] ∧ Z.Warmed39 U.vm ∧ U.heap = h0) (fun _ _ _ _ _ => True) (fun _ U o U' => ∃ v L, o = .returned v ∧ Q17 Z sa sv kb ch cc ci ta tc pv h0 n0 v U'.heap L ∧ FrameEnd U o U' L ({ frames := 0, cells := 0, slots := 0, locals := 0 } : Room).cells ({ frames := 0, cells := 0, slots := 0, locals := 0 } : Room).slots) := by
  refine MetFree.of_bodySF (plainFor_of_name pn_java_lang_String) hisR ?_
  intro p e s m args below meth c s₁ Bd hml0 hP hK
  obtain ⟨rfl, hZ, hh⟩ := hP
  have hx := Bd.exec
  have hby := Bd.bytes
  have hml : c.maxLocals = 1 := hml0
  have hown : s.vm.findClass "java/lang/String" = some m.cls := findClass_of_methodNamed Bd.named
  have hnm := (name_of_methodNamed Bd.named Bd.method).1
  have X0 : Stand p l e ({ frames := 0, cells := 0, slots := 0, locals := 0 } : Room) s m #[(.ref sa)] below meth c s₁ [] 0 0 := Stand.of_body Bd
  have e0 : s₁.heap = h0 := by rw [← hh, Bd.state]; rfl
  have N0 := Fr.nil n0
  refine own_all ?_
  intro P hfin
  refine own_cast (ef_17 m sa) ?_
  show own_Go p e below P s₁ (mkF m 0 #[.val (.ref sa)] [])
  obtain ⟨T1, X1, e1, st1⟩ := getS2 X0 hx hZ hown (host := "") (Or.inl (hw _ (List.mem_of_getElem? (i := 22) rfl))) Via.refl e0 S_cs (g := (mkF m 0 #[.val (.ref sa)] [])) rfl (hb hby d17_0)
  refine own_step st1 ?_
  show own_Go p e below P T1 (mkF m 3 #[.val (.ref sa)] [(.int cc)])
  refine own_step (fun _ k => XS.ifNo X1.here hx rfl (hb hby d17_3) rfl ((if0 _ _).trans (feq hcc).1) k) ?_
  show own_Go p e below P T1 (mkF m 6 #[.val (.ref sa)] [])
  refine own_step (fun _ k => XS.aloadN X1.here hx rfl (hb hby d17_6) rfl rfl k) ?_
  show own_Go p e below P T1 (mkF m 7 #[.val (.ref sa)] [(.ref sa)])
  obtain ⟨T2, X2, e2, st2⟩ := getF X1 hx hZ hown (host := "") (Or.inl (hw _ (List.mem_of_getElem? (i := 34) rfl))) Via.refl e1 F_coder_sa (g := (mkF m 7 #[.val (.ref sa)] [(.ref sa)])) rfl rfl (hb hby d17_7)
  refine own_step st2 ?_
  show own_Go p e below P T2 (mkF m 10 #[.val (.ref sa)] [(.int (0 : Int32))])
  refine own_step (fun _ k => XS.ifNo X2.here hx rfl (hb hby d17_10) rfl ((if0 _ _).trans (teq (rfl : (0 : Int32) = (0 : Int32))).2) k) ?_
  show own_Go p e below P T2 (mkF m 13 #[.val (.ref sa)] [])
  refine own_step (fun _ k => XS.iconst X2.here hx rfl (hb hby d17_13) k) ?_
  show own_Go p e below P T2 (mkF m 14 #[.val (.ref sa)] [(.int (1 : Int32))])
  refine own_step (fun _ k => XS.goto X2.here hx rfl (pc0 := 14) (pc' := 18) rfl (hb hby d17_14) (by decide) (by decide) k) ?_
  show own_Go p e below P T2 (mkF m 18 #[.val (.ref sa)] [(.int (1 : Int32))])
  obtain ⟨fs, hr, hrun, hended, hW, hsame⟩ := X2.leave (v := some (.int (1 : Int32))) (fun h => by rw [Bd.returns] at h; cases h)
  refine ⟨_, _, retN X2 hx (t := .boolean) Bd.returns (by simp) (hb hby d17_18) hr, hrun, hended, hfin _ _ ⟨_, _, rfl, ?_, ⟨_, rfl⟩, hW, hsame.mono (by decide) (by decide)⟩⟩
  show Q17 Z sa sv kb ch cc ci ta tc pv h0 n0 (some (.int (1 : Int32))) T2.heap _
  rw [e2]
  exact ⟨rfl, N0, rfl⟩
theorem ef_19 (m : MethodId) (x0 : Addr) (x1 : Int32) : entryFrame m #[(.ref x0), (.int x1)] 2 = mkF m 0 #[.val (.ref x0), .val (.int x1)] [] := by first | (simp [entryFrame, mkF, argsToLocals, Value.category]; done) | rfl
theorem pn_java_lang_StringLatin1 : plainName "java/lang/StringLatin1" = true := by first | (simp [plainName, overriddenIn]; done) | decide +kernel
theorem d19_0 : decode jdk_43_method_44_code 0 = .ok (.aload_n 0, 1) := by decide +kernel
theorem d19_1 : decode jdk_43_method_44_code 1 = .ok (.iload_n 1, 1) := by decide +kernel
theorem d19_2 : decode jdk_43_method_44_code 2 = .ok (.baload, 1) := by decide +kernel
theorem d19_3 : decode jdk_43_method_44_code 3 = .ok (.sipush 255, 3) := by decide +kernel
theorem d19_6 : decode jdk_43_method_44_code 6 = .ok (.iand, 1) := by decide +kernel
theorem d19_7 : decode jdk_43_method_44_code 7 = .ok (.i2c, 1) := by decide +kernel
theorem d19_8 : decode jdk_43_method_44_code 8 = .ok (.ireturn, 1) := by decide +kernel
def Q19 (Z : State) (sa : Addr) (sv : Addr) (kb : ClassId) (ch : Int32) (cc : Int32) (ci : Addr) (ta : Addr) (tc : Cell) (pv : Int32) (h0 : Heap) (n0 : Nat) (v : Option Value) (h : Heap) (L : List Loc) : Prop := v = some (.int ch) ∧ Fr n0 L ∧ h = h0
set_option maxRecDepth 65536 in
set_option maxHeartbeats 40000000 in
theorem rm19 (l : Launch) (Z : State) (a0 : Array Value) (hw : ∀ d ∈ tables_1, d.before a0 Z = true) (ws : List Jvm.Cond) (sa : Addr) (sv : Addr) (kb : ClassId) (ch : Int32) (cc : Int32) (ci : Addr) (ta : Addr) (tc : Cell) (pv : Int32) (h0 : Heap) (n0 : Nat) (Z0 : n0 ≤ h0.size) (F_coder_sa : Fld Z h0 sa "java/lang/String" "coder" "B" (.int (0 : Int32))) (F_value_sa : Fld Z h0 sa "java/lang/String" "value" "[B" (.ref sv)) (E_sa : Exa Z h0 sa "java/lang/String") (V_sv : Arv Z h0 sv kb .byte (1 : Int32) [(.int ch)] (.int (0 : Int32))) (S_cs : Sta Z h0 "java/lang/String" "COMPACT_STRINGS" "Z" (.int cc)) (hcc : ¬ (cc = (0 : Int32))) (S_ci : Sta Z h0 "java/lang/CharacterDataLatin1" "instance" "Ljava/lang/CharacterDataLatin1;" (.ref ci)) (E_ci : Exa Z h0 ci "java/lang/CharacterDataLatin1") (S_ta : Sta Z h0 "java/lang/CharacterDataLatin1" "A" "[I" (.ref ta)) (A_ta : Arr Z h0 ta tc .int) (hti : ¬ (ch < 0 ∨ tc.slots.size ≤ (ch).toNatClampNeg)) (htv : tc.slots[(ch).toNatClampNeg]? = some (.int pv)) (hpw : ¬ ((pv &&& (28672 : Int32)) = (16384 : Int32))) (hch : own_ch ch) :
    MetFree l (⟨"java/lang/StringLatin1", "getChar", "([BI)C"⟩ : MethodName) (head1 (Jvm.Cond.code (⟨"java/lang/StringLatin1", "getChar", "([BI)C"⟩ : MethodName) jdk_43_method_44_code 2 (some .char) :: ws) ({ frames := 0, cells := 0, slots := 0, locals := 0 } : Room)) (fun a U => a = #[(.ref sv), (.int (0 : Int32))] ∧ Z.Warmed39 U.vm ∧ U.heap = h0) (fun _ _ _ _ _ => True) (fun _ U o U' => ∃ v L, o = .returned v ∧ Q19 Z sa sv kb ch cc ci ta tc pv h0 n0 v U'.heap L ∧ FrameEnd U o U' L ({ frames := 0, cells := 0, slots := 0, locals := 0 } : Room).cells ({ frames := 0, cells := 0, slots := 0, locals := 0 } : Room).slots) := by
  refine MetFree.of_bodySF (plainFor_of_name pn_java_lang_StringLatin1) hisR ?_
  intro p e s m args below meth c s₁ Bd hml0 hP hK
  obtain ⟨rfl, hZ, hh⟩ := hP
  have hx := Bd.exec
  have hby := Bd.bytes
  have hml : c.maxLocals = 2 := hml0
  have hown : s.vm.findClass "java/lang/StringLatin1" = some m.cls := findClass_of_methodNamed Bd.named
  have hnm := (name_of_methodNamed Bd.named Bd.method).1
  have X0 : Stand p l e ({ frames := 0, cells := 0, slots := 0, locals := 0 } : Room) s m #[(.ref sv), (.int (0 : Int32))] below meth c s₁ [] 0 0 := Stand.of_body Bd
  have e0 : s₁.heap = h0 := by rw [← hh, Bd.state]; rfl
  have N0 := Fr.nil n0
  refine own_all ?_
  intro P hfin
  refine own_cast (ef_19 m sv (0 : Int32)) ?_
  show own_Go p e below P s₁ (mkF m 0 #[.val (.ref sv), .val (.int (0 : Int32))] [])
  refine own_step (fun _ k => XS.aloadN X0.here hx rfl (hb hby d19_0) rfl rfl k) ?_
  show own_Go p e below P s₁ (mkF m 1 #[.val (.ref sv), .val (.int (0 : Int32))] [(.ref sv)])
  refine own_step (fun _ k => XS.iloadN X0.here hx rfl (hb hby d19_1) rfl k) ?_
  show own_Go p e below P s₁ (mkF m 2 #[.val (.ref sv), .val (.int (0 : Int32))] [(.int (0 : Int32)), (.ref sv)])
  obtain ⟨cl1, Ar1, -, S1, M1, H1, -⟩ := (id V_sv)
  have hin1 : ¬ ((0 : Int32) < 0 ∨ cl1.slots.size ≤ ((0 : Int32)).toNatClampNeg) := inb_of S1 ⟨by decide, by decide⟩
  refine own_step (fun t k => X0.baloadBytes hx (j := (0 : Int32)) (v := (.int ch)) (by rw [e0]; exact Ar1.1) (State.isArrayOf_alike hZ.alike Ar1.2.1) Ar1.2.2 hin1 (Has.at H1 hin1 rfl) (g := (mkF m 2 #[.val (.ref sv), .val (.int (0 : Int32))] [(.int (0 : Int32)), (.ref sv)])) rfl rfl (hb hby d19_2) t k) ?_
  show own_Go p e below P s₁ (mkF m 3 #[.val (.ref sv), .val (.int (0 : Int32))] [(.int ch)])
  refine own_step (fun _ k => XS.sipush X0.here hx rfl (hb hby d19_3) k) ?_
  show own_Go p e below P s₁ (mkF m 6 #[.val (.ref sv), .val (.int (0 : Int32))] [(.int (255 : Int32)), (.int ch)])
  refine own_step (fun _ k => XS.iand X0.here hx rfl (hb hby d19_6) rfl k) ?_
  show own_Go p e below P s₁ (mkF m 7 #[.val (.ref sv), .val (.int (0 : Int32))] [(.int (ch &&& (255 : Int32)))])
  refine own_step (fun _ k => XS.i2c X0.here hx rfl (hb hby d19_7) rfl k) ?_
  show own_Go p e below P s₁ (mkF m 8 #[.val (.ref sv), .val (.int (0 : Int32))] [(.int (ch &&& (255 : Int32)).toUInt32.toUInt16.toUInt32.toInt32)])
  rw [hch.1]
  show own_Go p e below P s₁ (mkF m 8 #[.val (.ref sv), .val (.int (0 : Int32))] [(.int ch)])
  obtain ⟨fs, hr, hrun, hended, hW, hsame⟩ := X0.leave (v := some (.int (nar .char ch))) (fun h => by rw [Bd.returns] at h; cases h)
  refine ⟨_, _, retN X0 hx (t := .char) Bd.returns (by simp) (hb hby d19_8) hr, hrun, hended, hfin _ _ ⟨_, _, rfl, ?_, ⟨_, rfl⟩, hW, hsame.mono (by decide) (by decide)⟩⟩
  show Q19 Z sa sv kb ch cc ci ta tc pv h0 n0 (some (.int (nar .char ch))) s₁.heap _
  rw [e0]
  exact ⟨congrArg (fun z => some (Value.int z)) hch.2.1, N0, rfl⟩
theorem ef_21 (m : MethodId) (x0 : Addr) (x1 : Int32) : entryFrame m #[(.ref x0), (.int x1)] 4 = mkF m 0 #[.val (.ref x0), .val (.int x1), .unset, .unset] [] := by first | (simp [entryFrame, mkF, argsToLocals, Value.category]; done) | rfl
theorem pn_java_lang_CharacterDataLatin1 : plainName "java/lang/CharacterDataLatin1" = true := by first | (simp [plainName, overriddenIn]; done) | decide +kernel
theorem d21_0 : decode jdk_116_method_1_code 0 = .ok (.iload_n 1, 1) := by decide +kernel
theorem d21_1 : decode jdk_116_method_1_code 1 = .ok (.i2c, 1) := by decide +kernel
theorem d21_2 : decode jdk_116_method_1_code 2 = .ok (.istore_n 2, 1) := by decide +kernel
theorem d21_3 : decode jdk_116_method_1_code 3 = .ok (.getstatic 1, 3) := by decide +kernel
theorem d21_6 : decode jdk_116_method_1_code 6 = .ok (.iload_n 2, 1) := by decide +kernel
theorem d21_7 : decode jdk_116_method_1_code 7 = .ok (.iaload, 1) := by decide +kernel
theorem d21_8 : decode jdk_116_method_1_code 8 = .ok (.istore_n 3, 1) := by decide +kernel
theorem d21_9 : decode jdk_116_method_1_code 9 = .ok (.iload_n 3, 1) := by decide +kernel
theorem d21_10 : decode jdk_116_method_1_code 10 = .ok (.ireturn, 1) := by decide +kernel
def Q21 (Z : State) (sa : Addr) (sv : Addr) (kb : ClassId) (ch : Int32) (cc : Int32) (ci : Addr) (ta : Addr) (tc : Cell) (pv : Int32) (h0 : Heap) (n0 : Nat) (v : Option Value) (h : Heap) (L : List Loc) : Prop := v = some (.int pv) ∧ Fr n0 L ∧ h = h0
set_option maxRecDepth 65536 in
set_option maxHeartbeats 40000000 in
theorem rm21 (l : Launch) (Z : State) (a0 : Array Value) (hw : ∀ d ∈ tables_1, d.before a0 Z = true) (ws : List Jvm.Cond) (sa : Addr) (sv : Addr) (kb : ClassId) (ch : Int32) (cc : Int32) (ci : Addr) (ta : Addr) (tc : Cell) (pv : Int32) (h0 : Heap) (n0 : Nat) (Z0 : n0 ≤ h0.size) (F_coder_sa : Fld Z h0 sa "java/lang/String" "coder" "B" (.int (0 : Int32))) (F_value_sa : Fld Z h0 sa "java/lang/String" "value" "[B" (.ref sv)) (E_sa : Exa Z h0 sa "java/lang/String") (V_sv : Arv Z h0 sv kb .byte (1 : Int32) [(.int ch)] (.int (0 : Int32))) (S_cs : Sta Z h0 "java/lang/String" "COMPACT_STRINGS" "Z" (.int cc)) (hcc : ¬ (cc = (0 : Int32))) (S_ci : Sta Z h0 "java/lang/CharacterDataLatin1" "instance" "Ljava/lang/CharacterDataLatin1;" (.ref ci)) (E_ci : Exa Z h0 ci "java/lang/CharacterDataLatin1") (S_ta : Sta Z h0 "java/lang/CharacterDataLatin1" "A" "[I" (.ref ta)) (A_ta : Arr Z h0 ta tc .int) (hti : ¬ (ch < 0 ∨ tc.slots.size ≤ (ch).toNatClampNeg)) (htv : tc.slots[(ch).toNatClampNeg]? = some (.int pv)) (hpw : ¬ ((pv &&& (28672 : Int32)) = (16384 : Int32))) (hch : own_ch ch) :
    MetFree l (⟨"java/lang/CharacterDataLatin1", "getProperties", "(I)I"⟩ : MethodName) (head1 (Jvm.Cond.code (⟨"java/lang/CharacterDataLatin1", "getProperties", "(I)I"⟩ : MethodName) jdk_116_method_1_code 4 (some .int) :: ws) ({ frames := 0, cells := 0, slots := 0, locals := 0 } : Room)) (fun a U => a = #[(.ref ci), (.int ch)] ∧ Z.Warmed39 U.vm ∧ U.heap = h0) (fun _ _ _ _ _ => True) (fun _ U o U' => ∃ v L, o = .returned v ∧ Q21 Z sa sv kb ch cc ci ta tc pv h0 n0 v U'.heap L ∧ FrameEnd U o U' L ({ frames := 0, cells := 0, slots := 0, locals := 0 } : Room).cells ({ frames := 0, cells := 0, slots := 0, locals := 0 } : Room).slots) := by
  refine MetFree.of_bodySF (plainFor_of_name pn_java_lang_CharacterDataLatin1) hisR ?_
  intro p e s m args below meth c s₁ Bd hml0 hP hK
  obtain ⟨rfl, hZ, hh⟩ := hP
  have hx := Bd.exec
  have hby := Bd.bytes
  have hml : c.maxLocals = 4 := hml0
  have hown : s.vm.findClass "java/lang/CharacterDataLatin1" = some m.cls := findClass_of_methodNamed Bd.named
  have hnm := (name_of_methodNamed Bd.named Bd.method).1
  have X0 : Stand p l e ({ frames := 0, cells := 0, slots := 0, locals := 0 } : Room) s m #[(.ref ci), (.int ch)] below meth c s₁ [] 0 0 := Stand.of_body Bd
  have e0 : s₁.heap = h0 := by rw [← hh, Bd.state]; rfl
  have N0 := Fr.nil n0
  refine own_all ?_
  intro P hfin
  refine own_cast (ef_21 m ci ch) ?_
  show own_Go p e below P s₁ (mkF m 0 #[.val (.ref ci), .val (.int ch), .unset, .unset] [])
  refine own_step (fun _ k => XS.iloadN X0.here hx rfl (hb hby d21_0) rfl k) ?_
  show own_Go p e below P s₁ (mkF m 1 #[.val (.ref ci), .val (.int ch), .unset, .unset] [(.int ch)])
  refine own_step (fun _ k => XS.i2c X0.here hx rfl (hb hby d21_1) rfl k) ?_
  show own_Go p e below P s₁ (mkF m 2 #[.val (.ref ci), .val (.int ch), .unset, .unset] [(.int ch.toUInt32.toUInt16.toUInt32.toInt32)])
  refine own_step (fun _ k => XS.istoreN X0.here hx rfl (hb hby d21_2) rfl (l' := #[.val (.ref ci), .val (.int ch), .val (.int ch.toUInt32.toUInt16.toUInt32.toInt32), .unset]) rfl k) ?_
  show own_Go p e below P s₁ (mkF m 3 #[.val (.ref ci), .val (.int ch), .val (.int ch.toUInt32.toUInt16.toUInt32.toInt32), .unset] [])
  rw [hch.2.1]
  show own_Go p e below P s₁ (mkF m 3 #[.val (.ref ci), .val (.int ch), .val (.int ch), .unset] [])
  obtain ⟨T1, X1, e1, st1⟩ := getS2 X0 hx hZ hown (host := "") (Or.inl (hw _ (List.mem_of_getElem? (i := 116) rfl))) Via.refl e0 S_ta (g := (mkF m 3 #[.val (.ref ci), .val (.int ch), .val (.int ch), .unset] [])) rfl (hb hby d21_3)
  refine own_step st1 ?_
  show own_Go p e below P T1 (mkF m 6 #[.val (.ref ci), .val (.int ch), .val (.int ch), .unset] [(.ref ta)])
  refine own_step (fun _ k => XS.iloadN X1.here hx rfl (hb hby d21_6) rfl k) ?_
  show own_Go p e below P T1 (mkF m 7 #[.val (.ref ci), .val (.int ch), .val (.int ch), .unset] [(.int ch), (.ref ta)])
  refine own_step (fun t k => X1.iaload hx (j := ch) (v := (.int pv)) (by rw [e1]; exact A_ta.1) (State.isArrayOf_alike hZ.alike A_ta.2.1) A_ta.2.2 hti htv (g := (mkF m 7 #[.val (.ref ci), .val (.int ch), .val (.int ch), .unset] [(.int ch), (.ref ta)])) rfl rfl (hb hby d21_7) t k) ?_
  show own_Go p e below P T1 (mkF m 8 #[.val (.ref ci), .val (.int ch), .val (.int ch), .unset] [(.int pv)])
  refine own_step (fun _ k => XS.istoreN X1.here hx rfl (hb hby d21_8) rfl (l' := #[.val (.ref ci), .val (.int ch), .val (.int ch), .val (.int pv)]) rfl k) ?_
  show own_Go p e below P T1 (mkF m 9 #[.val (.ref ci), .val (.int ch), .val (.int ch), .val (.int pv)] [])
  refine own_step (fun _ k => XS.iloadN X1.here hx rfl (hb hby d21_9) rfl k) ?_
  show own_Go p e below P T1 (mkF m 10 #[.val (.ref ci), .val (.int ch), .val (.int ch), .val (.int pv)] [(.int pv)])
  obtain ⟨fs, hr, hrun, hended, hW, hsame⟩ := X1.leave (v := some (.int pv)) (fun h => by rw [Bd.returns] at h; cases h)
  refine ⟨_, _, retOut X1 hx (t := .int) Bd.returns rfl (Or.inl ⟨rfl, Or.inl rfl, _, rfl⟩) (hb hby d21_10) hr, hrun, hended, hfin _ _ ⟨_, _, rfl, ?_, ⟨_, rfl⟩, hW, hsame.mono (by decide) (by decide)⟩⟩
  show Q21 Z sa sv kb ch cc ci ta tc pv h0 n0 (some (.int pv)) T1.heap _
  rw [e1]
  exact ⟨rfl, N0, rfl⟩
theorem ef_20 (m : MethodId) (x0 : Addr) (x1 : Int32) : entryFrame m #[(.ref x0), (.int x1)] 3 = mkF m 0 #[.val (.ref x0), .val (.int x1), .unset] [] := by first | (simp [entryFrame, mkF, argsToLocals, Value.category]; done) | rfl
theorem d20_0 : decode jdk_116_method_26_code 0 = .ok (.aload_n 0, 1) := by decide +kernel
theorem d20_1 : decode jdk_116_method_26_code 1 = .ok (.iload_n 1, 1) := by decide +kernel
theorem pd__I__I : parseMethodDescriptor "(I)I" = some ⟨[.int], some .int⟩ := by decide +kernel
theorem d20_2 : decode jdk_116_method_26_code 2 = .ok (.invokevirtual 15, 3) := by decide +kernel
theorem d20_5 : decode jdk_116_method_26_code 5 = .ok (.istore_n 2, 1) := by decide +kernel
theorem d20_6 : decode jdk_116_method_26_code 6 = .ok (.iload_n 2, 1) := by decide +kernel
theorem d20_7 : decode jdk_116_method_26_code 7 = .ok (.sipush 28672, 3) := by decide +kernel
theorem d20_10 : decode jdk_116_method_26_code 10 = .ok (.iand, 1) := by decide +kernel
theorem d20_11 : decode jdk_116_method_26_code 11 = .ok (.sipush 16384, 3) := by decide +kernel
theorem d20_14 : decode jdk_116_method_26_code 14 = .ok (.if_icmp .ne 7, 3) := by decide +kernel
theorem d20_21 : decode jdk_116_method_26_code 21 = .ok (.iconst 0, 1) := by decide +kernel
theorem d20_22 : decode jdk_116_method_26_code 22 = .ok (.ireturn, 1) := by decide +kernel
def Q20 (Z : State) (sa : Addr) (sv : Addr) (kb : ClassId) (ch : Int32) (cc : Int32) (ci : Addr) (ta : Addr) (tc : Cell) (pv : Int32) (h0 : Heap) (n0 : Nat) (v : Option Value) (h : Heap) (L : List Loc) : Prop := v = some (.int (0 : Int32)) ∧ Fr n0 L ∧ h = h0
set_option maxRecDepth 65536 in
set_option maxHeartbeats 40000000 in
theorem rm20 (l : Launch) (Z : State) (a0 : Array Value) (hw : ∀ d ∈ tables_1, d.before a0 Z = true) (ws : List Jvm.Cond) (sa : Addr) (sv : Addr) (kb : ClassId) (ch : Int32) (cc : Int32) (ci : Addr) (ta : Addr) (tc : Cell) (pv : Int32) (h0 : Heap) (n0 : Nat) (Z0 : n0 ≤ h0.size) (F_coder_sa : Fld Z h0 sa "java/lang/String" "coder" "B" (.int (0 : Int32))) (F_value_sa : Fld Z h0 sa "java/lang/String" "value" "[B" (.ref sv)) (E_sa : Exa Z h0 sa "java/lang/String") (V_sv : Arv Z h0 sv kb .byte (1 : Int32) [(.int ch)] (.int (0 : Int32))) (S_cs : Sta Z h0 "java/lang/String" "COMPACT_STRINGS" "Z" (.int cc)) (hcc : ¬ (cc = (0 : Int32))) (S_ci : Sta Z h0 "java/lang/CharacterDataLatin1" "instance" "Ljava/lang/CharacterDataLatin1;" (.ref ci)) (E_ci : Exa Z h0 ci "java/lang/CharacterDataLatin1") (S_ta : Sta Z h0 "java/lang/CharacterDataLatin1" "A" "[I" (.ref ta)) (A_ta : Arr Z h0 ta tc .int) (hti : ¬ (ch < 0 ∨ tc.slots.size ≤ (ch).toNatClampNeg)) (htv : tc.slots[(ch).toNatClampNeg]? = some (.int pv)) (hpw : ¬ ((pv &&& (28672 : Int32)) = (16384 : Int32))) (hch : own_ch ch) :
    MetFree l (⟨"java/lang/CharacterDataLatin1", "isWhitespace", "(I)Z"⟩ : MethodName) (head1 (Jvm.Cond.code (⟨"java/lang/CharacterDataLatin1", "isWhitespace", "(I)Z"⟩ : MethodName) jdk_116_method_26_code 3 (some .boolean) :: ws) ({ frames := 1, cells := 0, slots := 0, locals := 15 } : Room)) (fun a U => a = #[(.ref ci), (.int ch)] ∧ Z.Warmed39 U.vm ∧ U.heap = h0) (fun _ _ _ _ _ => True) (fun _ U o U' => ∃ v L, o = .returned v ∧ Q20 Z sa sv kb ch cc ci ta tc pv h0 n0 v U'.heap L ∧ FrameEnd U o U' L ({ frames := 1, cells := 0, slots := 0, locals := 15 } : Room).cells ({ frames := 1, cells := 0, slots := 0, locals := 15 } : Room).slots) := by
  refine MetFree.of_bodySF (plainFor_of_name pn_java_lang_CharacterDataLatin1) hisR ?_
  intro p e s m args below meth c s₁ Bd hml0 hP hK
  obtain ⟨rfl, hZ, hh⟩ := hP
  have hx := Bd.exec
  have hby := Bd.bytes
  have hml : c.maxLocals = 3 := hml0
  have hown : s.vm.findClass "java/lang/CharacterDataLatin1" = some m.cls := findClass_of_methodNamed Bd.named
  have hnm := (name_of_methodNamed Bd.named Bd.method).1
  have X0 : Stand p l e ({ frames := 1, cells := 0, slots := 0, locals := 15 } : Room) s m #[(.ref ci), (.int ch)] below meth c s₁ [] 0 0 := Stand.of_body Bd
  have e0 : s₁.heap = h0 := by rw [← hh, Bd.state]; rfl
  have N0 := Fr.nil n0
  refine own_all ?_
  intro P hfin
  refine own_cast (ef_20 m ci ch) ?_
  show own_Go p e below P s₁ (mkF m 0 #[.val (.ref ci), .val (.int ch), .unset] [])
  refine own_step (fun _ k => XS.aloadN X0.here hx rfl (hb hby d20_0) rfl rfl k) ?_
  show own_Go p e below P s₁ (mkF m 1 #[.val (.ref ci), .val (.int ch), .unset] [(.ref ci)])
  refine own_step (fun _ k => XS.iloadN X0.here hx rfl (hb hby d20_1) rfl k) ?_
  show own_Go p e below P s₁ (mkF m 2 #[.val (.ref ci), .val (.int ch), .unset] [(.int ch), (.ref ci)])
  obtain ⟨cq1, kq1, q1a, q1b, q1c⟩ := isOf hZ e0 E_ci
  obtain ⟨_, _, ⟨T1, L1, k1, n1⟩, -, X1, ⟨Lc1, hQ1, l1, y1, z1⟩, st1⟩ := X0.virtualBack hx (y := (⟨"java/lang/CharacterDataLatin1", "getProperties", "(I)I"⟩ : MethodName)) (z := (⟨"java/lang/CharacterDataLatin1", "getProperties", "(I)I"⟩ : MethodName)) hown (mvT hZ (hw _ (List.mem_of_getElem? (i := 111) rfl))) (mvT hZ (hw _ (List.mem_of_getElem? (i := 112) rfl))) (notFace_of_selects (args := #[]) (mvT hZ (hw _ (List.mem_of_getElem? (i := 114) rfl)))) (mvT hZ (hw _ (List.mem_of_getElem? (i := 114) rfl))) (mvT hZ (hw _ (List.mem_of_getElem? (i := 113) rfl))) (by decide) (backOf (W := 0) (rm21 l Z a0 hw [] sa sv kb ch cc ci ta tc pv h0 n0 Z0 F_coder_sa F_value_sa E_sa V_sv S_cs hcc S_ci E_ci S_ta A_ta hti htv hpw hch) hZ (hw _ (List.mem_of_getElem? (i := 115) rfl)) (hw _ (List.mem_of_getElem? (i := 105) rfl)) (by decide) (by decide)) q1a q1c (g := (mkF m 2 #[.val (.ref ci), .val (.int ch), .unset] [(.int ch), (.ref ci)])) rfl (by rw [hml]; rfl) (Steps.refl _) (argsL := [(.int ch)]) (rest := []) (lenOf pd__I__I rfl) rfl (by show 2 * 0 + _ ≤ _; exact Nat.le_of_eq rfl) (hb hby d20_2) (fun _ _ => ⟨rfl, e0, (by decide : 0 + 0 ≤ _), (by decide : 0 + 0 ≤ _)⟩)
  dsimp only [Pt.U, Pt.locs, Pt.cells, Pt.slots] at X1 l1 y1 z1 st1 hQ1
  subst l1 y1 z1
  obtain ⟨rfl, N1q, e1⟩ := hQ1
  have N1 := Fr.app N0 N1q
  refine own_step (fun _ k => st1.trans k) ?_
  show own_Go p e below P T1 (mkF m 5 #[.val (.ref ci), .val (.int ch), .unset] [(.int pv)])
  refine own_step (fun _ k => XS.istoreN X1.here hx rfl (hb hby d20_5) rfl (l' := #[.val (.ref ci), .val (.int ch), .val (.int pv)]) rfl k) ?_
  show own_Go p e below P T1 (mkF m 6 #[.val (.ref ci), .val (.int ch), .val (.int pv)] [])
  refine own_step (fun _ k => XS.iloadN X1.here hx rfl (hb hby d20_6) rfl k) ?_
  show own_Go p e below P T1 (mkF m 7 #[.val (.ref ci), .val (.int ch), .val (.int pv)] [(.int pv)])
  refine own_step (fun _ k => XS.sipush X1.here hx rfl (hb hby d20_7) k) ?_
  show own_Go p e below P T1 (mkF m 10 #[.val (.ref ci), .val (.int ch), .val (.int pv)] [(.int (28672 : Int32)), (.int pv)])
  refine own_step (fun _ k => XS.iand X1.here hx rfl (hb hby d20_10) rfl k) ?_
  show own_Go p e below P T1 (mkF m 11 #[.val (.ref ci), .val (.int ch), .val (.int pv)] [(.int (pv &&& (28672 : Int32)))])
  refine own_step (fun _ k => XS.sipush X1.here hx rfl (hb hby d20_11) k) ?_
  show own_Go p e below P T1 (mkF m 14 #[.val (.ref ci), .val (.int ch), .val (.int pv)] [(.int (16384 : Int32)), (.int (pv &&& (28672 : Int32)))])
  refine own_step (fun _ k => XS.icmpYes X1.here hx rfl (pc0 := 14) (pc' := 21) rfl (hb hby d20_14) rfl (feq hpw).2 (by decide) (by decide) k) ?_
  show own_Go p e below P T1 (mkF m 21 #[.val (.ref ci), .val (.int ch), .val (.int pv)] [])
  refine own_step (fun _ k => XS.iconst X1.here hx rfl (hb hby d20_21) k) ?_
  show own_Go p e below P T1 (mkF m 22 #[.val (.ref ci), .val (.int ch), .val (.int pv)] [(.int (0 : Int32))])
  obtain ⟨fs, hr, hrun, hended, hW, hsame⟩ := X1.leave (v := some (.int (0 : Int32))) (fun h => by rw [Bd.returns] at h; cases h)
  refine ⟨_, _, retN X1 hx (t := .boolean) Bd.returns (by simp) (hb hby d20_22) hr, hrun, hended, hfin _ _ ⟨_, _, rfl, ?_, ⟨_, rfl⟩, hW, hsame.mono (by decide) (by decide)⟩⟩
  show Q20 Z sa sv kb ch cc ci ta tc pv h0 n0 (some (.int (0 : Int32))) T1.heap _
  rw [e1]
  exact ⟨rfl, N1, rfl⟩
theorem ef_18 (m : MethodId) (x0 : Addr) : entryFrame m #[(.ref x0)] 4 = mkF m 0 #[.val (.ref x0), .unset, .unset, .unset] [] := by first | (simp [entryFrame, mkF, argsToLocals, Value.category]; done) | rfl
theorem d18_0 : decode jdk_43_method_37_code 0 = .ok (.aload_n 0, 1) := by decide +kernel
theorem d18_1 : decode jdk_43_method_37_code 1 = .ok (.arraylength, 1) := by decide +kernel
theorem d18_2 : decode jdk_43_method_37_code 2 = .ok (.istore_n 1, 1) := by decide +kernel
theorem d18_3 : decode jdk_43_method_37_code 3 = .ok (.iconst 0, 1) := by decide +kernel
theorem d18_4 : decode jdk_43_method_37_code 4 = .ok (.istore_n 2, 1) := by decide +kernel
theorem d18_5 : decode jdk_43_method_37_code 5 = .ok (.iload_n 2, 1) := by decide +kernel
theorem d18_6 : decode jdk_43_method_37_code 6 = .ok (.iload_n 1, 1) := by decide +kernel
theorem d18_7 : decode jdk_43_method_37_code 7 = .ok (.if_icmp .ge 40, 3) := by decide +kernel
theorem d18_10 : decode jdk_43_method_37_code 10 = .ok (.aload_n 0, 1) := by decide +kernel
theorem d18_11 : decode jdk_43_method_37_code 11 = .ok (.iload_n 2, 1) := by decide +kernel
theorem pd__ABI__C : parseMethodDescriptor "([BI)C" = some ⟨[(.array .byte), .int], some .char⟩ := by decide +kernel
theorem d18_12 : decode jdk_43_method_37_code 12 = .ok (.invokestatic 50, 3) := by decide +kernel
theorem d18_15 : decode jdk_43_method_37_code 15 = .ok (.istore_n 3, 1) := by decide +kernel
theorem d18_16 : decode jdk_43_method_37_code 16 = .ok (.iload_n 3, 1) := by decide +kernel
theorem d18_17 : decode jdk_43_method_37_code 17 = .ok (.bipush 32, 2) := by decide +kernel
theorem d18_19 : decode jdk_43_method_37_code 19 = .ok (.if_icmp .eq 22, 3) := by decide +kernel
theorem d18_22 : decode jdk_43_method_37_code 22 = .ok (.iload_n 3, 1) := by decide +kernel
theorem d18_23 : decode jdk_43_method_37_code 23 = .ok (.bipush 9, 2) := by decide +kernel
theorem d18_25 : decode jdk_43_method_37_code 25 = .ok (.if_icmp .eq 16, 3) := by decide +kernel
theorem d18_28 : decode jdk_43_method_37_code 28 = .ok (.getstatic 66, 3) := by decide +kernel
theorem d18_31 : decode jdk_43_method_37_code 31 = .ok (.iload_n 3, 1) := by decide +kernel
theorem pd__I__Z : parseMethodDescriptor "(I)Z" = some ⟨[.int], some .boolean⟩ := by decide +kernel
theorem d18_32 : decode jdk_43_method_37_code 32 = .ok (.invokevirtual 211, 3) := by decide +kernel
theorem d18_35 : decode jdk_43_method_37_code 35 = .ok (.ifCond .ne 6, 3) := by decide +kernel
theorem d18_38 : decode jdk_43_method_37_code 38 = .ok (.goto 9, 3) := by decide +kernel
theorem d18_47 : decode jdk_43_method_37_code 47 = .ok (.iload_n 2, 1) := by decide +kernel
theorem d18_48 : decode jdk_43_method_37_code 48 = .ok (.ireturn, 1) := by decide +kernel
def Q18 (Z : State) (sa : Addr) (sv : Addr) (kb : ClassId) (ch : Int32) (cc : Int32) (ci : Addr) (ta : Addr) (tc : Cell) (pv : Int32) (h0 : Heap) (n0 : Nat) (v : Option Value) (h : Heap) (L : List Loc) : Prop := v = some (.int (0 : Int32)) ∧ Fr n0 L ∧ h = h0
set_option maxRecDepth 65536 in
set_option maxHeartbeats 40000000 in
theorem rm18 (l : Launch) (Z : State) (a0 : Array Value) (hw : ∀ d ∈ tables_1, d.before a0 Z = true) (ws : List Jvm.Cond) (sa : Addr) (sv : Addr) (kb : ClassId) (ch : Int32) (cc : Int32) (ci : Addr) (ta : Addr) (tc : Cell) (pv : Int32) (h0 : Heap) (n0 : Nat) (Z0 : n0 ≤ h0.size) (F_coder_sa : Fld Z h0 sa "java/lang/String" "coder" "B" (.int (0 : Int32))) (F_value_sa : Fld Z h0 sa "java/lang/String" "value" "[B" (.ref sv)) (E_sa : Exa Z h0 sa "java/lang/String") (V_sv : Arv Z h0 sv kb .byte (1 : Int32) [(.int ch)] (.int (0 : Int32))) (S_cs : Sta Z h0 "java/lang/String" "COMPACT_STRINGS" "Z" (.int cc)) (hcc : ¬ (cc = (0 : Int32))) (S_ci : Sta Z h0 "java/lang/CharacterDataLatin1" "instance" "Ljava/lang/CharacterDataLatin1;" (.ref ci)) (E_ci : Exa Z h0 ci "java/lang/CharacterDataLatin1") (S_ta : Sta Z h0 "java/lang/CharacterDataLatin1" "A" "[I" (.ref ta)) (A_ta : Arr Z h0 ta tc .int) (hti : ¬ (ch < 0 ∨ tc.slots.size ≤ (ch).toNatClampNeg)) (htv : tc.slots[(ch).toNatClampNeg]? = some (.int pv)) (hpw : ¬ ((pv &&& (28672 : Int32)) = (16384 : Int32))) (hch : own_ch ch) :
    MetFree l (⟨"java/lang/StringLatin1", "indexOfNonWhitespace", "([B)I"⟩ : MethodName) (head1 (Jvm.Cond.code (⟨"java/lang/StringLatin1", "indexOfNonWhitespace", "([B)I"⟩ : MethodName) jdk_43_method_37_code 4 (some .int) :: ws) ({ frames := 2, cells := 0, slots := 0, locals := 29 } : Room)) (fun a U => a = #[(.ref sv)] ∧ Z.Warmed39 U.vm ∧ U.heap = h0) (fun _ _ _ _ _ => True) (fun _ U o U' => ∃ v L, o = .returned v ∧ Q18 Z sa sv kb ch cc ci ta tc pv h0 n0 v U'.heap L ∧ FrameEnd U o U' L ({ frames := 2, cells := 0, slots := 0, locals := 29 } : Room).cells ({ frames := 2, cells := 0, slots := 0, locals := 29 } : Room).slots) := by
  refine MetFree.of_bodySF (plainFor_of_name pn_java_lang_StringLatin1) hisR ?_
  intro p e s m args below meth c s₁ Bd hml0 hP hK
  obtain ⟨rfl, hZ, hh⟩ := hP
  have hx := Bd.exec
  have hby := Bd.bytes
  have hml : c.maxLocals = 4 := hml0
  have hown : s.vm.findClass "java/lang/StringLatin1" = some m.cls := findClass_of_methodNamed Bd.named
  have hnm := (name_of_methodNamed Bd.named Bd.method).1
  have X0 : Stand p l e ({ frames := 2, cells := 0, slots := 0, locals := 29 } : Room) s m #[(.ref sv)] below meth c s₁ [] 0 0 := Stand.of_body Bd
  have e0 : s₁.heap = h0 := by rw [← hh, Bd.state]; rfl
  have N0 := Fr.nil n0
  refine own_all ?_
  intro P hfin
  refine own_cast (ef_18 m sv) ?_
  show own_Go p e below P s₁ (mkF m 0 #[.val (.ref sv), .unset, .unset, .unset] [])
  refine own_step (fun _ k => XS.aloadN X0.here hx rfl (hb hby d18_0) rfl rfl k) ?_
  show own_Go p e below P s₁ (mkF m 1 #[.val (.ref sv), .unset, .unset, .unset] [(.ref sv)])
  obtain ⟨cl1, Ar1, -, S1, M1, -, -⟩ := (id V_sv)
  refine own_step (fun t k => X0.arraylength hx (by rw [e0]; exact Ar1.1) (State.isArrayOf_alike hZ.alike Ar1.2.1) (g := (mkF m 1 #[.val (.ref sv), .unset, .unset, .unset] [(.ref sv)])) rfl rfl (hb hby d18_1) t k) ?_
  rw [len_of S1 M1]
  show own_Go p e below P s₁ (mkF m 2 #[.val (.ref sv), .unset, .unset, .unset] [(.int (1 : Int32))])
  refine own_step (fun _ k => XS.istoreN X0.here hx rfl (hb hby d18_2) rfl (l' := #[.val (.ref sv), .val (.int (1 : Int32)), .unset, .unset]) rfl k) ?_
  show own_Go p e below P s₁ (mkF m 3 #[.val (.ref sv), .val (.int (1 : Int32)), .unset, .unset] [])
  refine own_step (fun _ k => XS.iconst X0.here hx rfl (hb hby d18_3) k) ?_
  show own_Go p e below P s₁ (mkF m 4 #[.val (.ref sv), .val (.int (1 : Int32)), .unset, .unset] [(.int (0 : Int32))])
  refine own_step (fun _ k => XS.istoreN X0.here hx rfl (hb hby d18_4) rfl (l' := #[.val (.ref sv), .val (.int (1 : Int32)), .val (.int (0 : Int32)), .unset]) rfl k) ?_
  show own_Go p e below P s₁ (mkF m 5 #[.val (.ref sv), .val (.int (1 : Int32)), .val (.int (0 : Int32)), .unset] [])
  refine own_step (fun _ k => XS.iloadN X0.here hx rfl (hb hby d18_5) rfl k) ?_
  show own_Go p e below P s₁ (mkF m 6 #[.val (.ref sv), .val (.int (1 : Int32)), .val (.int (0 : Int32)), .unset] [(.int (0 : Int32))])
  refine own_step (fun _ k => XS.iloadN X0.here hx rfl (hb hby d18_6) rfl k) ?_
  show own_Go p e below P s₁ (mkF m 7 #[.val (.ref sv), .val (.int (1 : Int32)), .val (.int (0 : Int32)), .unset] [(.int (1 : Int32)), (.int (0 : Int32))])
  refine own_step (fun _ k => XS.icmpNo X0.here hx rfl (hb hby d18_7) rfl (tlt (by decide : (0 : Int32) < (1 : Int32))).2.1 k) ?_
  show own_Go p e below P s₁ (mkF m 10 #[.val (.ref sv), .val (.int (1 : Int32)), .val (.int (0 : Int32)), .unset] [])
  refine own_step (fun _ k => XS.aloadN X0.here hx rfl (hb hby d18_10) rfl rfl k) ?_
  show own_Go p e below P s₁ (mkF m 11 #[.val (.ref sv), .val (.int (1 : Int32)), .val (.int (0 : Int32)), .unset] [(.ref sv)])
  refine own_step (fun _ k => XS.iloadN X0.here hx rfl (hb hby d18_11) rfl k) ?_
  show own_Go p e below P s₁ (mkF m 12 #[.val (.ref sv), .val (.int (1 : Int32)), .val (.int (0 : Int32)), .unset] [(.int (0 : Int32)), (.ref sv)])
  obtain ⟨_, _, ⟨T2, L2, k2, n2⟩, -, X2, ⟨Lc2, hQ2, l2, y2, z2⟩, st2⟩ := Jvm.LawKit.callS X0 hx (y := (⟨"java/lang/StringLatin1", "getChar", "([BI)C"⟩ : MethodName)) hown (mvT hZ (hw _ (List.mem_of_getElem? (i := 101) rfl))) (mvT hZ (hw _ (List.mem_of_getElem? (i := 102) rfl))) (mvT hZ (hw _ (List.mem_of_getElem? (i := 99) rfl))) (mvT hZ (hw _ (List.mem_of_getElem? (i := 103) rfl))) (by decide) (backOf (W := 0) (rm19 l Z a0 hw [] sa sv kb ch cc ci ta tc pv h0 n0 Z0 F_coder_sa F_value_sa E_sa V_sv S_cs hcc S_ci E_ci S_ta A_ta hti htv hpw hch) hZ (hw _ (List.mem_of_getElem? (i := 103) rfl)) (hw _ (List.mem_of_getElem? (i := 99) rfl)) (by decide) (by decide)) (g := (mkF m 12 #[.val (.ref sv), .val (.int (1 : Int32)), .val (.int (0 : Int32)), .unset] [(.int (0 : Int32)), (.ref sv)])) rfl (by rw [hml]; rfl) (argsL := [(.ref sv), (.int (0 : Int32))]) (rest := []) (lenOf pd__ABI__C rfl) rfl (by show 2 * 0 + _ ≤ _; exact Nat.le_of_eq rfl) (hb hby d18_12) (fun _ _ => ⟨rfl, e0, (by decide : 0 + 0 ≤ _), (by decide : 0 + 0 ≤ _)⟩)
  dsimp only [Pt.U, Pt.locs, Pt.cells, Pt.slots] at X2 l2 y2 z2 st2 hQ2
  subst l2 y2 z2
  obtain ⟨rfl, N2q, e2⟩ := hQ2
  have N2 := Fr.app N0 N2q
  refine own_step st2 ?_
  show own_Go p e below P T2 (mkF m 15 #[.val (.ref sv), .val (.int (1 : Int32)), .val (.int (0 : Int32)), .unset] [(.int ch)])
  refine own_step (fun _ k => XS.istoreN X2.here hx rfl (hb hby d18_15) rfl (l' := #[.val (.ref sv), .val (.int (1 : Int32)), .val (.int (0 : Int32)), .val (.int ch)]) rfl k) ?_
  show own_Go p e below P T2 (mkF m 16 #[.val (.ref sv), .val (.int (1 : Int32)), .val (.int (0 : Int32)), .val (.int ch)] [])
  refine own_step (fun _ k => XS.iloadN X2.here hx rfl (hb hby d18_16) rfl k) ?_
  show own_Go p e below P T2 (mkF m 17 #[.val (.ref sv), .val (.int (1 : Int32)), .val (.int (0 : Int32)), .val (.int ch)] [(.int ch)])
  refine own_step (fun _ k => XS.bipush X2.here hx rfl (hb hby d18_17) k) ?_
  show own_Go p e below P T2 (mkF m 19 #[.val (.ref sv), .val (.int (1 : Int32)), .val (.int (0 : Int32)), .val (.int ch)] [(.int (32 : Int32)), (.int ch)])
  refine own_step (fun _ k => XS.icmpNo X2.here hx rfl (hb hby d18_19) rfl (feq hch.2.2.1).1 k) ?_
  show own_Go p e below P T2 (mkF m 22 #[.val (.ref sv), .val (.int (1 : Int32)), .val (.int (0 : Int32)), .val (.int ch)] [])
  refine own_step (fun _ k => XS.iloadN X2.here hx rfl (hb hby d18_22) rfl k) ?_
  show own_Go p e below P T2 (mkF m 23 #[.val (.ref sv), .val (.int (1 : Int32)), .val (.int (0 : Int32)), .val (.int ch)] [(.int ch)])
  refine own_step (fun _ k => XS.bipush X2.here hx rfl (hb hby d18_23) k) ?_
  show own_Go p e below P T2 (mkF m 25 #[.val (.ref sv), .val (.int (1 : Int32)), .val (.int (0 : Int32)), .val (.int ch)] [(.int (9 : Int32)), (.int ch)])
  refine own_step (fun _ k => XS.icmpNo X2.here hx rfl (hb hby d18_25) rfl (feq hch.2.2.2).1 k) ?_
  show own_Go p e below P T2 (mkF m 28 #[.val (.ref sv), .val (.int (1 : Int32)), .val (.int (0 : Int32)), .val (.int ch)] [])
  obtain ⟨T3, X3, e3, st3⟩ := getS2 X2 hx hZ hown (host := "") (Or.inl (hw _ (List.mem_of_getElem? (i := 104) rfl))) Via.refl e2 S_ci (g := (mkF m 28 #[.val (.ref sv), .val (.int (1 : Int32)), .val (.int (0 : Int32)), .val (.int ch)] [])) rfl (hb hby d18_28)
  refine own_step st3 ?_
  show own_Go p e below P T3 (mkF m 31 #[.val (.ref sv), .val (.int (1 : Int32)), .val (.int (0 : Int32)), .val (.int ch)] [(.ref ci)])
  refine own_step (fun _ k => XS.iloadN X3.here hx rfl (hb hby d18_31) rfl k) ?_
  show own_Go p e below P T3 (mkF m 32 #[.val (.ref sv), .val (.int (1 : Int32)), .val (.int (0 : Int32)), .val (.int ch)] [(.int ch), (.ref ci)])
  obtain ⟨cq4, kq4, q4a, q4b, q4c⟩ := isOf hZ e3 E_ci
  obtain ⟨_, _, ⟨T4, L4, k4, n4⟩, -, X4, ⟨Lc4, hQ4, l4, y4, z4⟩, st4⟩ := X3.virtualBack hx (y := (⟨"java/lang/CharacterDataLatin1", "isWhitespace", "(I)Z"⟩ : MethodName)) (z := (⟨"java/lang/CharacterDataLatin1", "isWhitespace", "(I)Z"⟩ : MethodName)) hown (mvT hZ (hw _ (List.mem_of_getElem? (i := 106) rfl))) (mvT hZ (hw _ (List.mem_of_getElem? (i := 107) rfl))) (notFace_of_selects (args := #[]) (mvT hZ (hw _ (List.mem_of_getElem? (i := 109) rfl)))) (mvT hZ (hw _ (List.mem_of_getElem? (i := 109) rfl))) (mvT hZ (hw _ (List.mem_of_getElem? (i := 108) rfl))) (by decide) (backOf (W := 0) (rm20 l Z a0 hw [] sa sv kb ch cc ci ta tc pv h0 n0 Z0 F_coder_sa F_value_sa E_sa V_sv S_cs hcc S_ci E_ci S_ta A_ta hti htv hpw hch) hZ (hw _ (List.mem_of_getElem? (i := 110) rfl)) (hw _ (List.mem_of_getElem? (i := 105) rfl)) (by decide) (by decide)) q4a q4c (g := (mkF m 32 #[.val (.ref sv), .val (.int (1 : Int32)), .val (.int (0 : Int32)), .val (.int ch)] [(.int ch), (.ref ci)])) rfl (by rw [hml]; rfl) (Steps.refl _) (argsL := [(.int ch)]) (rest := []) (lenOf pd__I__Z rfl) rfl (by show 2 * 0 + _ ≤ _; exact Nat.le_of_eq rfl) (hb hby d18_32) (fun _ _ => ⟨rfl, e3, (by decide : 0 + 0 ≤ _), (by decide : 0 + 0 ≤ _)⟩)
  dsimp only [Pt.U, Pt.locs, Pt.cells, Pt.slots] at X4 l4 y4 z4 st4 hQ4
  subst l4 y4 z4
  obtain ⟨rfl, N4q, e4⟩ := hQ4
  have N4 := Fr.app N2 N4q
  refine own_step (fun _ k => st4.trans k) ?_
  show own_Go p e below P T4 (mkF m 35 #[.val (.ref sv), .val (.int (1 : Int32)), .val (.int (0 : Int32)), .val (.int ch)] [(.int (0 : Int32))])
  refine own_step (fun _ k => XS.ifNo X4.here hx rfl (hb hby d18_35) rfl ((if0 _ _).trans (teq (rfl : (0 : Int32) = (0 : Int32))).2) k) ?_
  show own_Go p e below P T4 (mkF m 38 #[.val (.ref sv), .val (.int (1 : Int32)), .val (.int (0 : Int32)), .val (.int ch)] [])
  refine own_step (fun _ k => XS.goto X4.here hx rfl (pc0 := 38) (pc' := 47) rfl (hb hby d18_38) (by decide) (by decide) k) ?_
  show own_Go p e below P T4 (mkF m 47 #[.val (.ref sv), .val (.int (1 : Int32)), .val (.int (0 : Int32)), .val (.int ch)] [])
  refine own_step (fun _ k => XS.iloadN X4.here hx rfl (hb hby d18_47) rfl k) ?_
  show own_Go p e below P T4 (mkF m 48 #[.val (.ref sv), .val (.int (1 : Int32)), .val (.int (0 : Int32)), .val (.int ch)] [(.int (0 : Int32))])
  obtain ⟨fs, hr, hrun, hended, hW, hsame⟩ := X4.leave (v := some (.int (0 : Int32))) (fun h => by rw [Bd.returns] at h; cases h)
  refine ⟨_, _, retOut X4 hx (t := .int) Bd.returns rfl (Or.inl ⟨rfl, Or.inl rfl, _, rfl⟩) (hb hby d18_48) hr, hrun, hended, hfin _ _ ⟨_, _, rfl, ?_, ⟨_, rfl⟩, hW, hsame.mono (by decide) (by decide)⟩⟩
  show Q18 Z sa sv kb ch cc ci ta tc pv h0 n0 (some (.int (0 : Int32))) T4.heap _
  rw [e4]
  exact ⟨rfl, N4, rfl⟩
theorem ef_16 (m : MethodId) (x0 : Addr) : entryFrame m #[(.ref x0)] 1 = mkF m 0 #[.val (.ref x0)] [] := by first | (simp [entryFrame, mkF, argsToLocals, Value.category]; done) | rfl
theorem d16_0 : decode jdk_42_method_120_code 0 = .ok (.aload_n 0, 1) := by decide +kernel
theorem pd____Z : parseMethodDescriptor "()Z" = some ⟨[], some .boolean⟩ := by decide +kernel
theorem d16_1 : decode jdk_42_method_120_code 1 = .ok (.invokevirtual 492, 3) := by decide +kernel
theorem d16_4 : decode jdk_42_method_120_code 4 = .ok (.ifCond .eq 13, 3) := by decide +kernel
theorem d16_7 : decode jdk_42_method_120_code 7 = .ok (.aload_n 0, 1) := by decide +kernel
theorem d16_8 : decode jdk_42_method_120_code 8 = .ok (.getfield 9, 3) := by decide +kernel
theorem pd__AB__I : parseMethodDescriptor "([B)I" = some ⟨[(.array .byte)], some .int⟩ := by decide +kernel
theorem d16_11 : decode jdk_42_method_120_code 11 = .ok (.invokestatic 924, 3) := by decide +kernel
theorem d16_14 : decode jdk_42_method_120_code 14 = .ok (.goto 10, 3) := by decide +kernel
theorem d16_24 : decode jdk_42_method_120_code 24 = .ok (.ireturn, 1) := by decide +kernel
def Q16 (Z : State) (sa : Addr) (sv : Addr) (kb : ClassId) (ch : Int32) (cc : Int32) (ci : Addr) (ta : Addr) (tc : Cell) (pv : Int32) (h0 : Heap) (n0 : Nat) (v : Option Value) (h : Heap) (L : List Loc) : Prop := v = some (.int (0 : Int32)) ∧ Fr n0 L ∧ h = h0
set_option maxRecDepth 65536 in
set_option maxHeartbeats 40000000 in
theorem rm16 (l : Launch) (Z : State) (a0 : Array Value) (hw : ∀ d ∈ tables_1, d.before a0 Z = true) (ws : List Jvm.Cond) (sa : Addr) (sv : Addr) (kb : ClassId) (ch : Int32) (cc : Int32) (ci : Addr) (ta : Addr) (tc : Cell) (pv : Int32) (h0 : Heap) (n0 : Nat) (Z0 : n0 ≤ h0.size) (F_coder_sa : Fld Z h0 sa "java/lang/String" "coder" "B" (.int (0 : Int32))) (F_value_sa : Fld Z h0 sa "java/lang/String" "value" "[B" (.ref sv)) (E_sa : Exa Z h0 sa "java/lang/String") (V_sv : Arv Z h0 sv kb .byte (1 : Int32) [(.int ch)] (.int (0 : Int32))) (S_cs : Sta Z h0 "java/lang/String" "COMPACT_STRINGS" "Z" (.int cc)) (hcc : ¬ (cc = (0 : Int32))) (S_ci : Sta Z h0 "java/lang/CharacterDataLatin1" "instance" "Ljava/lang/CharacterDataLatin1;" (.ref ci)) (E_ci : Exa Z h0 ci "java/lang/CharacterDataLatin1") (S_ta : Sta Z h0 "java/lang/CharacterDataLatin1" "A" "[I" (.ref ta)) (A_ta : Arr Z h0 ta tc .int) (hti : ¬ (ch < 0 ∨ tc.slots.size ≤ (ch).toNatClampNeg)) (htv : tc.slots[(ch).toNatClampNeg]? = some (.int pv)) (hpw : ¬ ((pv &&& (28672 : Int32)) = (16384 : Int32))) (hch : own_ch ch) :
    MetFree l (⟨"java/lang/String", "indexOfNonWhitespace", "()I"⟩ : MethodName) (head1 (Jvm.Cond.code (⟨"java/lang/String", "indexOfNonWhitespace", "()I"⟩ : MethodName) jdk_42_method_120_code 1 (some .int) :: ws) ({ frames := 3, cells := 0, slots := 0, locals := 44 } : Room)) (fun a U => a = #[(.ref sa)] ∧ Z.Warmed39 U.vm ∧ U.heap = h0) (fun _ _ _ _ _ => True) (fun _ U o U' => ∃ v L, o = .returned v ∧ Q16 Z sa sv kb ch cc ci ta tc pv h0 n0 v U'.heap L ∧ FrameEnd U o U' L ({ frames := 3, cells := 0, slots := 0, locals := 44 } : Room).cells ({ frames := 3, cells := 0, slots := 0, locals := 44 } : Room).slots) := by
  refine MetFree.of_bodySF (plainFor_of_name pn_java_lang_String) hisR ?_
  intro p e s m args below meth c s₁ Bd hml0 hP hK
  obtain ⟨rfl, hZ, hh⟩ := hP
  have hx := Bd.exec
  have hby := Bd.bytes
  have hml : c.maxLocals = 1 := hml0
  have hown : s.vm.findClass "java/lang/String" = some m.cls := findClass_of_methodNamed Bd.named
  have hnm := (name_of_methodNamed Bd.named Bd.method).1
  have X0 : Stand p l e ({ frames := 3, cells := 0, slots := 0, locals := 44 } : Room) s m #[(.ref sa)] below meth c s₁ [] 0 0 := Stand.of_body Bd
  have e0 : s₁.heap = h0 := by rw [← hh, Bd.state]; rfl
  have N0 := Fr.nil n0
  refine own_all ?_
  intro P hfin
  refine own_cast (ef_16 m sa) ?_
  show own_Go p e below P s₁ (mkF m 0 #[.val (.ref sa)] [])
  refine own_step (fun _ k => XS.aloadN X0.here hx rfl (hb hby d16_0) rfl rfl k) ?_
  show own_Go p e below P s₁ (mkF m 1 #[.val (.ref sa)] [(.ref sa)])
  obtain ⟨cq1, kq1, q1a, q1b, q1c⟩ := isOf hZ e0 E_sa
  obtain ⟨_, _, ⟨T1, L1, k1, n1⟩, -, X1, ⟨Lc1, hQ1, l1, y1, z1⟩, st1⟩ := X0.virtualBack hx (y := (⟨"java/lang/String", "isLatin1", "()Z"⟩ : MethodName)) (z := (⟨"java/lang/String", "isLatin1", "()Z"⟩ : MethodName)) hown (mvT hZ (hw _ (List.mem_of_getElem? (i := 92) rfl))) (mvT hZ (hw _ (List.mem_of_getElem? (i := 93) rfl))) (notFace_of_selects (args := #[]) (mvT hZ (hw _ (List.mem_of_getElem? (i := 95) rfl)))) (mvT hZ (hw _ (List.mem_of_getElem? (i := 95) rfl))) (mvT hZ (hw _ (List.mem_of_getElem? (i := 94) rfl))) (by decide) (backOf (W := 0) (rm17 l Z a0 hw [] sa sv kb ch cc ci ta tc pv h0 n0 Z0 F_coder_sa F_value_sa E_sa V_sv S_cs hcc S_ci E_ci S_ta A_ta hti htv hpw hch) hZ (hw _ (List.mem_of_getElem? (i := 96) rfl)) (hw _ (List.mem_of_getElem? (i := 11) rfl)) (by decide) (by decide)) q1a q1c (g := (mkF m 1 #[.val (.ref sa)] [(.ref sa)])) rfl (by rw [hml]; rfl) (Steps.refl _) (argsL := []) (rest := []) (lenOf pd____Z rfl) rfl (by show 2 * 0 + _ ≤ _; exact Nat.le_of_eq rfl) (hb hby d16_1) (fun _ _ => ⟨rfl, e0, (by decide : 0 + 0 ≤ _), (by decide : 0 + 0 ≤ _)⟩)
  dsimp only [Pt.U, Pt.locs, Pt.cells, Pt.slots] at X1 l1 y1 z1 st1 hQ1
  subst l1 y1 z1
  obtain ⟨rfl, N1q, e1⟩ := hQ1
  have N1 := Fr.app N0 N1q
  refine own_step (fun _ k => st1.trans k) ?_
  show own_Go p e below P T1 (mkF m 4 #[.val (.ref sa)] [(.int (1 : Int32))])
  refine own_step (fun _ k => XS.ifNo X1.here hx rfl (hb hby d16_4) rfl ((if0 _ _).trans (feq (by decide : ¬ ((1 : Int32) = (0 : Int32)))).1) k) ?_
  show own_Go p e below P T1 (mkF m 7 #[.val (.ref sa)] [])
  refine own_step (fun _ k => XS.aloadN X1.here hx rfl (hb hby d16_7) rfl rfl k) ?_
  show own_Go p e below P T1 (mkF m 8 #[.val (.ref sa)] [(.ref sa)])
  obtain ⟨T2, X2, e2, st2⟩ := getF X1 hx hZ hown (host := "") (Or.inl (hw _ (List.mem_of_getElem? (i := 36) rfl))) Via.refl e1 F_value_sa (g := (mkF m 8 #[.val (.ref sa)] [(.ref sa)])) rfl rfl (hb hby d16_8)
  refine own_step st2 ?_
  show own_Go p e below P T2 (mkF m 11 #[.val (.ref sa)] [(.ref sv)])
  obtain ⟨_, _, ⟨T3, L3, k3, n3⟩, -, X3, ⟨Lc3, hQ3, l3, y3, z3⟩, st3⟩ := Jvm.LawKit.callS X2 hx (y := (⟨"java/lang/StringLatin1", "indexOfNonWhitespace", "([B)I"⟩ : MethodName)) hown (mvT hZ (hw _ (List.mem_of_getElem? (i := 97) rfl))) (mvT hZ (hw _ (List.mem_of_getElem? (i := 98) rfl))) (mvT hZ (hw _ (List.mem_of_getElem? (i := 99) rfl))) (mvT hZ (hw _ (List.mem_of_getElem? (i := 100) rfl))) (by decide) (backOf (W := 0) (rm18 l Z a0 hw [] sa sv kb ch cc ci ta tc pv h0 n0 Z0 F_coder_sa F_value_sa E_sa V_sv S_cs hcc S_ci E_ci S_ta A_ta hti htv hpw hch) hZ (hw _ (List.mem_of_getElem? (i := 100) rfl)) (hw _ (List.mem_of_getElem? (i := 99) rfl)) (by decide) (by decide)) (g := (mkF m 11 #[.val (.ref sa)] [(.ref sv)])) rfl (by rw [hml]; rfl) (argsL := [(.ref sv)]) (rest := []) (lenOf pd__AB__I rfl) rfl (by show 2 * 0 + _ ≤ _; exact Nat.le_of_eq rfl) (hb hby d16_11) (fun _ _ => ⟨rfl, e2, (by decide : 0 + 0 ≤ _), (by decide : 0 + 0 ≤ _)⟩)
  dsimp only [Pt.U, Pt.locs, Pt.cells, Pt.slots] at X3 l3 y3 z3 st3 hQ3
  subst l3 y3 z3
  obtain ⟨rfl, N3q, e3⟩ := hQ3
  have N3 := Fr.app N1 N3q
  refine own_step st3 ?_
  show own_Go p e below P T3 (mkF m 14 #[.val (.ref sa)] [(.int (0 : Int32))])
  refine own_step (fun _ k => XS.goto X3.here hx rfl (pc0 := 14) (pc' := 24) rfl (hb hby d16_14) (by decide) (by decide) k) ?_
  show own_Go p e below P T3 (mkF m 24 #[.val (.ref sa)] [(.int (0 : Int32))])
  obtain ⟨fs, hr, hrun, hended, hW, hsame⟩ := X3.leave (v := some (.int (0 : Int32))) (fun h => by rw [Bd.returns] at h; cases h)
  refine ⟨_, _, retOut X3 hx (t := .int) Bd.returns rfl (Or.inl ⟨rfl, Or.inl rfl, _, rfl⟩) (hb hby d16_24) hr, hrun, hended, hfin _ _ ⟨_, _, rfl, ?_, ⟨_, rfl⟩, hW, hsame.mono (by decide) (by decide)⟩⟩
  show Q16 Z sa sv kb ch cc ci ta tc pv h0 n0 (some (.int (0 : Int32))) T3.heap _
  rw [e3]
  exact ⟨rfl, N3, rfl⟩
theorem ef_15 (m : MethodId) (x0 : Addr) : entryFrame m #[(.ref x0)] 1 = mkF m 0 #[.val (.ref x0)] [] := by first | (simp [entryFrame, mkF, argsToLocals, Value.category]; done) | rfl
theorem d15_0 : decode jdk_42_method_117_code 0 = .ok (.aload_n 0, 1) := by decide +kernel
theorem pd____I : parseMethodDescriptor "()I" = some ⟨[], some .int⟩ := by decide +kernel
theorem d15_1 : decode jdk_42_method_117_code 1 = .ok (.invokevirtual 876, 3) := by decide +kernel
theorem d15_4 : decode jdk_42_method_117_code 4 = .ok (.aload_n 0, 1) := by decide +kernel
theorem d15_5 : decode jdk_42_method_117_code 5 = .ok (.invokevirtual 505, 3) := by decide +kernel
theorem d15_8 : decode jdk_42_method_117_code 8 = .ok (.if_icmp .ne 7, 3) := by decide +kernel
theorem d15_15 : decode jdk_42_method_117_code 15 = .ok (.iconst 0, 1) := by decide +kernel
theorem d15_16 : decode jdk_42_method_117_code 16 = .ok (.ireturn, 1) := by decide +kernel
def Q15 (Z : State) (sa : Addr) (sv : Addr) (kb : ClassId) (ch : Int32) (cc : Int32) (ci : Addr) (ta : Addr) (tc : Cell) (pv : Int32) (h0 : Heap) (n0 : Nat) (v : Option Value) (h : Heap) (L : List Loc) : Prop := v = some (.int (0 : Int32)) ∧ Fr n0 L ∧ h = h0
set_option maxRecDepth 65536 in
set_option maxHeartbeats 40000000 in
theorem rm15 (l : Launch) (Z : State) (a0 : Array Value) (hw : ∀ d ∈ tables_1, d.before a0 Z = true) (ws : List Jvm.Cond) (sa : Addr) (sv : Addr) (kb : ClassId) (ch : Int32) (cc : Int32) (ci : Addr) (ta : Addr) (tc : Cell) (pv : Int32) (h0 : Heap) (n0 : Nat) (Z0 : n0 ≤ h0.size) (F_coder_sa : Fld Z h0 sa "java/lang/String" "coder" "B" (.int (0 : Int32))) (F_value_sa : Fld Z h0 sa "java/lang/String" "value" "[B" (.ref sv)) (E_sa : Exa Z h0 sa "java/lang/String") (V_sv : Arv Z h0 sv kb .byte (1 : Int32) [(.int ch)] (.int (0 : Int32))) (S_cs : Sta Z h0 "java/lang/String" "COMPACT_STRINGS" "Z" (.int cc)) (hcc : ¬ (cc = (0 : Int32))) (S_ci : Sta Z h0 "java/lang/CharacterDataLatin1" "instance" "Ljava/lang/CharacterDataLatin1;" (.ref ci)) (E_ci : Exa Z h0 ci "java/lang/CharacterDataLatin1") (S_ta : Sta Z h0 "java/lang/CharacterDataLatin1" "A" "[I" (.ref ta)) (A_ta : Arr Z h0 ta tc .int) (hti : ¬ (ch < 0 ∨ tc.slots.size ≤ (ch).toNatClampNeg)) (htv : tc.slots[(ch).toNatClampNeg]? = some (.int pv)) (hpw : ¬ ((pv &&& (28672 : Int32)) = (16384 : Int32))) (hch : own_ch ch) :
    MetFree l (⟨"java/lang/String", "isBlank", "()Z"⟩ : MethodName) (head1 (Jvm.Cond.code (⟨"java/lang/String", "isBlank", "()Z"⟩ : MethodName) jdk_42_method_117_code 1 (some .boolean) :: ws) ({ frames := 4, cells := 0, slots := 0, locals := 56 } : Room)) (fun a U => a = #[(.ref sa)] ∧ Z.Warmed39 U.vm ∧ U.heap = h0) (fun _ _ _ _ _ => True) (fun _ U o U' => ∃ v L, o = .returned v ∧ Q15 Z sa sv kb ch cc ci ta tc pv h0 n0 v U'.heap L ∧ FrameEnd U o U' L ({ frames := 4, cells := 0, slots := 0, locals := 56 } : Room).cells ({ frames := 4, cells := 0, slots := 0, locals := 56 } : Room).slots) := by
  refine MetFree.of_bodySF (plainFor_of_name pn_java_lang_String) hisR ?_
  intro p e s m args below meth c s₁ Bd hml0 hP hK
  obtain ⟨rfl, hZ, hh⟩ := hP
  have hx := Bd.exec
  have hby := Bd.bytes
  have hml : c.maxLocals = 1 := hml0
  have hown : s.vm.findClass "java/lang/String" = some m.cls := findClass_of_methodNamed Bd.named
  have hnm := (name_of_methodNamed Bd.named Bd.method).1
  have X0 : Stand p l e ({ frames := 4, cells := 0, slots := 0, locals := 56 } : Room) s m #[(.ref sa)] below meth c s₁ [] 0 0 := Stand.of_body Bd
  have e0 : s₁.heap = h0 := by rw [← hh, Bd.state]; rfl
  have N0 := Fr.nil n0
  refine own_all ?_
  intro P hfin
  refine own_cast (ef_15 m sa) ?_
  show own_Go p e below P s₁ (mkF m 0 #[.val (.ref sa)] [])
  refine own_step (fun _ k => XS.aloadN X0.here hx rfl (hb hby d15_0) rfl rfl k) ?_
  show own_Go p e below P s₁ (mkF m 1 #[.val (.ref sa)] [(.ref sa)])
  obtain ⟨cq1, q1, q1'⟩ := E_sa.cell
  obtain ⟨_, _, ⟨T1, L1, k1, n1⟩, -, X1, ⟨Lc1, hQ1, l1, y1, z1⟩, st1⟩ := X0.privateBack hx (y := (⟨"java/lang/String", "indexOfNonWhitespace", "()I"⟩ : MethodName)) hown (mvT hZ (hw _ (List.mem_of_getElem? (i := 87) rfl))) (mvT hZ (hw _ (List.mem_of_getElem? (i := 88) rfl))) (mvT hZ (hw _ (List.mem_of_getElem? (i := 90) rfl))) (Cond.privateMethod_at (mvP hZ (hw _ (List.mem_of_getElem? (i := 89) rfl)) (args := #[]))) (mvT hZ (hw _ (List.mem_of_getElem? (i := 91) rfl))) (by decide) (backOf (W := 0) (rm16 l Z a0 hw [] sa sv kb ch cc ci ta tc pv h0 n0 Z0 F_coder_sa F_value_sa E_sa V_sv S_cs hcc S_ci E_ci S_ta A_ta hti htv hpw hch) hZ (hw _ (List.mem_of_getElem? (i := 91) rfl)) (hw _ (List.mem_of_getElem? (i := 11) rfl)) (by decide) (by decide)) (g := (mkF m 1 #[.val (.ref sa)] [(.ref sa)])) rfl (by rw [hml]; rfl) (Steps.refl _) (a := sa) (by rw [e0]; exact q1) q1' (argsL := []) (rest := []) (lenOf pd____I rfl) rfl (by show 2 * 0 + _ ≤ _; exact Nat.le_of_eq rfl) (hb hby d15_1) (fun _ _ => ⟨rfl, e0, (by decide : 0 + 0 ≤ _), (by decide : 0 + 0 ≤ _)⟩)
  dsimp only [Pt.U, Pt.locs, Pt.cells, Pt.slots] at X1 l1 y1 z1 st1 hQ1
  subst l1 y1 z1
  obtain ⟨rfl, N1q, e1⟩ := hQ1
  have N1 := Fr.app N0 N1q
  refine own_step (fun _ k => st1.trans k) ?_
  show own_Go p e below P T1 (mkF m 4 #[.val (.ref sa)] [(.int (0 : Int32))])
  refine own_step (fun _ k => XS.aloadN X1.here hx rfl (hb hby d15_4) rfl rfl k) ?_
  show own_Go p e below P T1 (mkF m 5 #[.val (.ref sa)] [(.ref sa), (.int (0 : Int32))])
  obtain ⟨cq2, kq2, q2a, q2b, q2c⟩ := isOf hZ e1 E_sa
  obtain ⟨_, _, ⟨T2, L2, k2, n2⟩, -, X2, ⟨Lc2, hQ2, l2, y2, z2⟩, st2⟩ := X1.virtualBack hx (y := (⟨"java/lang/String", "length", "()I"⟩ : MethodName)) (z := (⟨"java/lang/String", "length", "()I"⟩ : MethodName)) hown (mvT hZ (hw _ (List.mem_of_getElem? (i := 117) rfl))) (mvT hZ (hw _ (List.mem_of_getElem? (i := 118) rfl))) (notFace_of_selects (args := #[]) (mvT hZ (hw _ (List.mem_of_getElem? (i := 120) rfl)))) (mvT hZ (hw _ (List.mem_of_getElem? (i := 120) rfl))) (mvT hZ (hw _ (List.mem_of_getElem? (i := 119) rfl))) (by decide) (backOf (W := 1) (rm22 l Z a0 hw [] sa sv kb ch cc ci ta tc pv h0 n0 Z0 F_coder_sa F_value_sa E_sa V_sv S_cs hcc S_ci E_ci S_ta A_ta hti htv hpw hch) hZ (hw _ (List.mem_of_getElem? (i := 121) rfl)) (hw _ (List.mem_of_getElem? (i := 11) rfl)) (by decide) (by decide)) q2a q2c (g := (mkF m 5 #[.val (.ref sa)] [(.ref sa), (.int (0 : Int32))])) rfl (by rw [hml]; rfl) (Steps.refl _) (argsL := []) (rest := [(.int (0 : Int32))]) (lenOf pd____I rfl) rfl (by show 2 * 0 + _ ≤ _; exact Nat.le_of_eq rfl) (hb hby d15_5) (fun _ _ => ⟨rfl, e1, (by decide : 0 + 0 ≤ _), (by decide : 0 + 0 ≤ _)⟩)
  dsimp only [Pt.U, Pt.locs, Pt.cells, Pt.slots] at X2 l2 y2 z2 st2 hQ2
  subst l2 y2 z2
  obtain ⟨rfl, N2q, e2⟩ := hQ2
  have N2 := Fr.app N1 N2q
  refine own_step (fun _ k => st2.trans k) ?_
  show own_Go p e below P T2 (mkF m 8 #[.val (.ref sa)] [(.int (1 : Int32)), (.int (0 : Int32))])
  refine own_step (fun _ k => XS.icmpYes X2.here hx rfl (pc0 := 8) (pc' := 15) rfl (hb hby d15_8) rfl (feq (by decide : ¬ ((0 : Int32) = (1 : Int32)))).2 (by decide) (by decide) k) ?_
  show own_Go p e below P T2 (mkF m 15 #[.val (.ref sa)] [])
  refine own_step (fun _ k => XS.iconst X2.here hx rfl (hb hby d15_15) k) ?_
  show own_Go p e below P T2 (mkF m 16 #[.val (.ref sa)] [(.int (0 : Int32))])
  obtain ⟨fs, hr, hrun, hended, hW, hsame⟩ := X2.leave (v := some (.int (0 : Int32))) (fun h => by rw [Bd.returns] at h; cases h)
  refine ⟨_, _, retN X2 hx (t := .boolean) Bd.returns (by simp) (hb hby d15_16) hr, hrun, hended, hfin _ _ ⟨_, _, rfl, ?_, ⟨_, rfl⟩, hW, hsame.mono (by decide) (by decide)⟩⟩
  show Q15 Z sa sv kb ch cc ci ta tc pv h0 n0 (some (.int (0 : Int32))) T2.heap _
  rw [e2]
  exact ⟨rfl, N2, rfl⟩
theorem ef_12 (m : MethodId) (x0 : UInt64) : entryFrame m #[(.double x0)] 2 = mkF m 0 #[.val (.double x0), .second] [] := by first | (simp [entryFrame, mkF, argsToLocals, Value.category]; done) | rfl
theorem pn_java_lang_Double : plainName "java/lang/Double" = true := by first | (simp [plainName, overriddenIn]; done) | decide +kernel
theorem d12_0 : decode jdk_117_method_8_code 0 = .ok (.dload_n 0, 1) := by decide +kernel
theorem pd__D__D : parseMethodDescriptor "(D)D" = some ⟨[.double], some .double⟩ := by decide +kernel
theorem d12_1 : decode jdk_117_method_8_code 1 = .ok (.invokestatic 38, 3) := by decide +kernel
theorem d12_4 : decode jdk_117_method_8_code 4 = .ok (.ldc2_w 111, 3) := by decide +kernel
theorem d12_7 : decode jdk_117_method_8_code 7 = .ok (.dcmp .g, 1) := by decide +kernel
theorem d12_8 : decode jdk_117_method_8_code 8 = .ok (.ifCond .gt 7, 3) := by decide +kernel
theorem d12_11 : decode jdk_117_method_8_code 11 = .ok (.iconst 1, 1) := by decide +kernel
theorem d12_12 : decode jdk_117_method_8_code 12 = .ok (.goto 4, 3) := by decide +kernel
theorem d12_16 : decode jdk_117_method_8_code 16 = .ok (.ireturn, 1) := by decide +kernel
def Q12 (Z : State) (x0 : UInt64) (h0 : Heap) (n0 : Nat) (v : Option Value) (h : Heap) (L : List Loc) : Prop := v = some (.int (1 : Int32)) ∧ Fr n0 L ∧ h = h0
set_option maxRecDepth 65536 in
set_option maxHeartbeats 40000000 in
theorem rm12 (l : Launch) (Z : State) (a0 : Array Value) (hw : ∀ d ∈ tables_1, d.before a0 Z = true) (ws : List Jvm.Cond) (x0 : UInt64) (h0 : Heap) (n0 : Nat) (Z0 : n0 ≤ h0.size) (hf : Fin64 x0) :
    MetFree l (⟨"java/lang/Double", "isFinite", "(D)Z"⟩ : MethodName) (head1 (Jvm.Cond.code (⟨"java/lang/Double", "isFinite", "(D)Z"⟩ : MethodName) jdk_117_method_8_code 2 (some .boolean) :: ws) ({ frames := 1, cells := 0, slots := 0, locals := 13 } : Room)) (fun a U => a = #[(.double x0)] ∧ Z.Warmed39 U.vm ∧ U.heap = h0) (fun _ _ _ _ _ => True) (fun _ U o U' => ∃ v L, o = .returned v ∧ Q12 Z x0 h0 n0 v U'.heap L ∧ FrameEnd U o U' L ({ frames := 1, cells := 0, slots := 0, locals := 13 } : Room).cells ({ frames := 1, cells := 0, slots := 0, locals := 13 } : Room).slots) := by
  refine MetFree.of_bodySF (plainFor_of_name pn_java_lang_Double) hisR ?_
  intro p e s m args below meth c s₁ Bd hml0 hP hK
  obtain ⟨rfl, hZ, hh⟩ := hP
  have hx := Bd.exec
  have hby := Bd.bytes
  have hml : c.maxLocals = 2 := hml0
  have hown : s.vm.findClass "java/lang/Double" = some m.cls := findClass_of_methodNamed Bd.named
  have hnm := (name_of_methodNamed Bd.named Bd.method).1
  have X0 : Stand p l e ({ frames := 1, cells := 0, slots := 0, locals := 13 } : Room) s m #[(.double x0)] below meth c s₁ [] 0 0 := Stand.of_body Bd
  have e0 : s₁.heap = h0 := by rw [← hh, Bd.state]; rfl
  have N0 := Fr.nil n0
  refine own_all ?_
  intro P hfin
  refine own_cast (ef_12 m x0) ?_
  show own_Go p e below P s₁ (mkF m 0 #[.val (.double x0), .second] [])
  refine own_step (fun _ k => XS.dloadN X0.here hx rfl (hb hby d12_0) rfl k) ?_
  show own_Go p e below P s₁ (mkF m 1 #[.val (.double x0), .second] [(.double x0)])
  obtain ⟨T1, X1, e1, st1⟩ := natS X0 hx hZ (y := (⟨"java/lang/Math", "abs", "(D)D"⟩ : MethodName)) hown (hw _ (List.mem_of_getElem? (i := 62) rfl)) (hw _ (List.mem_of_getElem? (i := 63) rfl)) (hw _ (List.mem_of_getElem? (i := 3) rfl)) (hw _ (List.mem_of_getElem? (i := 64) rfl)) (by decide) e0 (W := 0) (fun c4 => Jvm.Free.Fl.Abs.absD_pays x0 c4 (by decide) (by decide)) (g := (mkF m 1 #[.val (.double x0), .second] [(.double x0)])) rfl (by rw [hml]; rfl) (argsL := [(.double x0)]) (rest := []) (lenOf pd__D__D rfl) rfl (by show 2 * 0 + _ ≤ _; exact Nat.le_of_eq rfl) (hb hby d12_1) (by decide) (by decide) ⟨rfl, hf.noNaN⟩ rfl
  refine own_step st1 ?_
  show own_Go p e below P T1 (mkF m 4 #[.val (.double x0), .second] [(.double (x0 &&& 0x7fffffffffffffff))])
  refine own_step (fun t k => X1.ldc2DoubleC hx hown (mvT hZ (hw _ (List.mem_of_getElem? (i := 65) rfl))) (g := (mkF m 4 #[.val (.double x0), .second] [(.double (x0 &&& 0x7fffffffffffffff))])) rfl (hb hby d12_4) t k) ?_
  show own_Go p e below P T1 (mkF m 7 #[.val (.double x0), .second] [(.double (9218868437227405311 : UInt64)), (.double (x0 &&& 0x7fffffffffffffff))])
  refine own_step (fun _ k => XS.dcmpS X1.here hx rfl (hb hby d12_7) rfl rfl k) ?_
  show own_Go p e below P T1 (mkF m 8 #[.val (.double x0), .second] [(.int (cmpValue (FP.dcmp (x0 &&& 0x7fffffffffffffff) (9218868437227405311 : UInt64)) .g))])
  refine own_step (fun _ k => XS.ifNo X1.here hx rfl (hb hby d12_8) rfl ((if0 _ _).trans (flt (own_isfin hf)).2.2.1) k) ?_
  show own_Go p e below P T1 (mkF m 11 #[.val (.double x0), .second] [])
  refine own_step (fun _ k => XS.iconst X1.here hx rfl (hb hby d12_11) k) ?_
  show own_Go p e below P T1 (mkF m 12 #[.val (.double x0), .second] [(.int (1 : Int32))])
  refine own_step (fun _ k => XS.goto X1.here hx rfl (pc0 := 12) (pc' := 16) rfl (hb hby d12_12) (by decide) (by decide) k) ?_
  show own_Go p e below P T1 (mkF m 16 #[.val (.double x0), .second] [(.int (1 : Int32))])
  obtain ⟨fs, hr, hrun, hended, hW, hsame⟩ := X1.leave (v := some (.int (1 : Int32))) (fun h => by rw [Bd.returns] at h; cases h)
  refine ⟨_, _, retN X1 hx (t := .boolean) Bd.returns (by simp) (hb hby d12_16) hr, hrun, hended, hfin _ _ ⟨_, _, rfl, ?_, ⟨_, rfl⟩, hW, hsame.mono (by decide) (by decide)⟩⟩
  show Q12 Z x0 h0 n0 (some (.int (1 : Int32))) T1.heap _
  rw [e1]
  exact ⟨rfl, N0, rfl⟩
theorem ef_1 (m : MethodId) (x0 : Int32) (x1 : Int32) : entryFrame m #[(.int x0), (.int x1)] 2 = mkF m 0 #[.val (.int x0), .val (.int x1)] [] := by first | (simp [entryFrame, mkF, argsToLocals, Value.category]; done) | rfl
theorem d1_0 : decode jdk_29_method_65_code 0 = .ok (.iload_n 0, 1) := by decide +kernel
theorem d1_1 : decode jdk_29_method_65_code 1 = .ok (.iload_n 1, 1) := by decide +kernel
theorem d1_2 : decode jdk_29_method_65_code 2 = .ok (.if_icmp .lt 7, 3) := by decide +kernel
theorem d1_9 : decode jdk_29_method_65_code 9 = .ok (.iload_n 1, 1) := by decide +kernel
theorem d1_10 : decode jdk_29_method_65_code 10 = .ok (.ireturn, 1) := by decide +kernel
theorem d1_5 : decode jdk_29_method_65_code 5 = .ok (.iload_n 0, 1) := by decide +kernel
theorem d1_6 : decode jdk_29_method_65_code 6 = .ok (.goto 4, 3) := by decide +kernel
def Q1 (Z : State) (p0 : Int32) (p1 : Int32) (h0 : Heap) (n0 : Nat) (v : Option Value) (h : Heap) (L : List Loc) : Prop := v = some (.int (if p0 < p1 then p1 else p0)) ∧ Fr n0 L ∧ h = h0
set_option maxRecDepth 65536 in
set_option maxHeartbeats 40000000 in
theorem rm1 (l : Launch) (Z : State) (a0 : Array Value) (hw : ∀ d ∈ tables_1, d.before a0 Z = true) (ws : List Jvm.Cond) (p0 : Int32) (p1 : Int32) (h0 : Heap) (n0 : Nat) (Z0 : n0 ≤ h0.size) :
    MetFree l (⟨"java/lang/Math", "max", "(II)I"⟩ : MethodName) (head1 (Jvm.Cond.code (⟨"java/lang/Math", "max", "(II)I"⟩ : MethodName) jdk_29_method_65_code 2 (some .int) :: ws) ({ frames := 0, cells := 0, slots := 0, locals := 0 } : Room)) (fun a U => a = #[(.int p0), (.int p1)] ∧ Z.Warmed39 U.vm ∧ U.heap = h0) (fun _ _ _ _ _ => True) (fun _ U o U' => ∃ v L, o = .returned v ∧ Q1 Z p0 p1 h0 n0 v U'.heap L ∧ FrameEnd U o U' L ({ frames := 0, cells := 0, slots := 0, locals := 0 } : Room).cells ({ frames := 0, cells := 0, slots := 0, locals := 0 } : Room).slots) := by
  refine MetFree.of_bodySF (Jvm.Free.JP.mathPlain rfl (by decide +kernel)) hisR ?_
  intro p e s m args below meth c s₁ Bd hml0 hP hK
  obtain ⟨rfl, hZ, hh⟩ := hP
  have hx := Bd.exec
  have hby := Bd.bytes
  have hml : c.maxLocals = 2 := hml0
  have hown : s.vm.findClass "java/lang/Math" = some m.cls := findClass_of_methodNamed Bd.named
  have hnm := (name_of_methodNamed Bd.named Bd.method).1
  have X0 : Stand p l e ({ frames := 0, cells := 0, slots := 0, locals := 0 } : Room) s m #[(.int p0), (.int p1)] below meth c s₁ [] 0 0 := Stand.of_body Bd
  have e0 : s₁.heap = h0 := by rw [← hh, Bd.state]; rfl
  have N0 := Fr.nil n0
  refine own_all ?_
  intro P hfin
  refine own_cast (ef_1 m p0 p1) ?_
  show own_Go p e below P s₁ (mkF m 0 #[.val (.int p0), .val (.int p1)] [])
  refine own_step (fun _ k => XS.iloadN X0.here hx rfl (hb hby d1_0) rfl k) ?_
  show own_Go p e below P s₁ (mkF m 1 #[.val (.int p0), .val (.int p1)] [(.int p0)])
  refine own_step (fun _ k => XS.iloadN X0.here hx rfl (hb hby d1_1) rfl k) ?_
  show own_Go p e below P s₁ (mkF m 2 #[.val (.int p0), .val (.int p1)] [(.int p1), (.int p0)])
  by_cases hc1 : p0 < p1
  · refine own_step (fun _ k => XS.icmpYes X0.here hx rfl (pc0 := 2) (pc' := 9) rfl (hb hby d1_2) rfl (tlt hc1).1 (by decide) (by decide) k) ?_
    show own_Go p e below P s₁ (mkF m 9 #[.val (.int p0), .val (.int p1)] [])
    refine own_step (fun _ k => XS.iloadN X0.here hx rfl (hb hby d1_9) rfl k) ?_
    show own_Go p e below P s₁ (mkF m 10 #[.val (.int p0), .val (.int p1)] [(.int p1)])
    obtain ⟨fs, hr, hrun, hended, hW, hsame⟩ := X0.leave (v := some (.int p1)) (fun h => by rw [Bd.returns] at h; cases h)
    refine ⟨_, _, retOut X0 hx (t := .int) Bd.returns rfl (Or.inl ⟨rfl, Or.inl rfl, _, rfl⟩) (hb hby d1_10) hr, hrun, hended, hfin _ _ ⟨_, _, rfl, ?_, ⟨_, rfl⟩, hW, hsame.mono (by decide) (by decide)⟩⟩
    show Q1 Z p0 p1 h0 n0 (some (.int p1)) s₁.heap _
    rw [e0]
    exact ⟨(congrArg (fun z => some (Value.int z)) (if_pos hc1).symm), N0, rfl⟩
  · refine own_step (fun _ k => XS.icmpNo X0.here hx rfl (hb hby d1_2) rfl (flt hc1).1 k) ?_
    show own_Go p e below P s₁ (mkF m 5 #[.val (.int p0), .val (.int p1)] [])
    refine own_step (fun _ k => XS.iloadN X0.here hx rfl (hb hby d1_5) rfl k) ?_
    show own_Go p e below P s₁ (mkF m 6 #[.val (.int p0), .val (.int p1)] [(.int p0)])
    refine own_step (fun _ k => XS.goto X0.here hx rfl (pc0 := 6) (pc' := 10) rfl (hb hby d1_6) (by decide) (by decide) k) ?_
    show own_Go p e below P s₁ (mkF m 10 #[.val (.int p0), .val (.int p1)] [(.int p0)])
    obtain ⟨fs, hr, hrun, hended, hW, hsame⟩ := X0.leave (v := some (.int p0)) (fun h => by rw [Bd.returns] at h; cases h)
    refine ⟨_, _, retOut X0 hx (t := .int) Bd.returns rfl (Or.inl ⟨rfl, Or.inl rfl, _, rfl⟩) (hb hby d1_10) hr, hrun, hended, hfin _ _ ⟨_, _, rfl, ?_, ⟨_, rfl⟩, hW, hsame.mono (by decide) (by decide)⟩⟩
    show Q1 Z p0 p1 h0 n0 (some (.int p0)) s₁.heap _
    rw [e0]
    exact ⟨(congrArg (fun z => some (Value.int z)) (if_neg hc1).symm), N0, rfl⟩
theorem ef_11 (m : MethodId) (x0 : Addr) (x1 : Addr) (x2 : UInt64) : entryFrame m #[(.ref x0), (.ref x1), (.double x2)] 4 = mkF m 0 #[.val (.ref x0), .val (.ref x1), .val (.double x2), .second] [] := by first | (simp [entryFrame, mkF, argsToLocals, Value.category]; done) | rfl
theorem pn_com_example_brinequil_brinequil_model_Component : plainName "com/example/brinequil/brinequil/model/Component" = true := by first | (simp [plainName, overriddenIn]; done) | decide +kernel
theorem d11_0 : decode prog_24_method_4_code 0 = .ok (.dload_n 2, 1) := by decide +kernel
theorem pd__D__Z : parseMethodDescriptor "(D)Z" = some ⟨[.double], some .boolean⟩ := by decide +kernel
theorem d11_1 : decode prog_24_method_4_code 1 = .ok (.invokestatic 32, 3) := by decide +kernel
theorem d11_4 : decode prog_24_method_4_code 4 = .ok (.ifCond .eq 9, 3) := by decide +kernel
theorem d11_7 : decode prog_24_method_4_code 7 = .ok (.dload_n 2, 1) := by decide +kernel
theorem d11_8 : decode prog_24_method_4_code 8 = .ok (.dconst 0, 1) := by decide +kernel
theorem d11_9 : decode prog_24_method_4_code 9 = .ok (.dcmp .g, 1) := by decide +kernel
theorem d11_10 : decode prog_24_method_4_code 10 = .ok (.ifCond .gt 19, 3) := by decide +kernel
theorem d11_29 : decode prog_24_method_4_code 29 = .ok (.return_, 1) := by decide +kernel
def Q11 (Z : State) (s0 : Addr) (s1 : Addr) (x2 : UInt64) (h0 : Heap) (n0 : Nat) (v : Option Value) (h : Heap) (L : List Loc) : Prop := v = none ∧ Fr n0 L ∧ h = h0
set_option maxRecDepth 65536 in
set_option maxHeartbeats 40000000 in
theorem rm11 (l : Launch) (Z : State) (a0 : Array Value) (hw : ∀ d ∈ tables_1, d.before a0 Z = true) (ws : List Jvm.Cond) (s0 : Addr) (s1 : Addr) (x2 : UInt64) (h0 : Heap) (n0 : Nat) (Z0 : n0 ≤ h0.size) (hf : Fin64 x2) (hp : (0 : Int32) < (cmpValue (FP.dcmp x2 FP.dconst0) .g)) :
    MetFree l (⟨"com/example/brinequil/brinequil/model/Component", "requirePositive", "(Ljava/lang/String;Ljava/lang/String;D)V"⟩ : MethodName) (head1 (Jvm.Cond.code (⟨"com/example/brinequil/brinequil/model/Component", "requirePositive", "(Ljava/lang/String;Ljava/lang/String;D)V"⟩ : MethodName) prog_24_method_4_code 4 none :: ws) ({ frames := 2, cells := 0, slots := 0, locals := 26 } : Room)) (fun a U => a = #[(.ref s0), (.ref s1), (.double x2)] ∧ Z.Warmed39 U.vm ∧ U.heap = h0) (fun _ _ _ _ _ => True) (fun _ U o U' => ∃ v L, o = .returned v ∧ Q11 Z s0 s1 x2 h0 n0 v U'.heap L ∧ FrameEnd U o U' L ({ frames := 2, cells := 0, slots := 0, locals := 26 } : Room).cells ({ frames := 2, cells := 0, slots := 0, locals := 26 } : Room).slots) := by
  refine MetFree.of_bodySF (plainFor_of_name pn_com_example_brinequil_brinequil_model_Component) hisR ?_
  intro p e s m args below meth c s₁ Bd hml0 hP hK
  obtain ⟨rfl, hZ, hh⟩ := hP
  have hx := Bd.exec
  have hby := Bd.bytes
  have hml : c.maxLocals = 4 := hml0
  have hown : s.vm.findClass "com/example/brinequil/brinequil/model/Component" = some m.cls := findClass_of_methodNamed Bd.named
  have hnm := (name_of_methodNamed Bd.named Bd.method).1
  have X0 : Stand p l e ({ frames := 2, cells := 0, slots := 0, locals := 26 } : Room) s m #[(.ref s0), (.ref s1), (.double x2)] below meth c s₁ [] 0 0 := Stand.of_body Bd
  have e0 : s₁.heap = h0 := by rw [← hh, Bd.state]; rfl
  have N0 := Fr.nil n0
  refine own_all ?_
  intro P hfin
  refine own_cast (ef_11 m s0 s1 x2) ?_
  show own_Go p e below P s₁ (mkF m 0 #[.val (.ref s0), .val (.ref s1), .val (.double x2), .second] [])
  refine own_step (fun _ k => XS.dloadN X0.here hx rfl (hb hby d11_0) rfl k) ?_
  show own_Go p e below P s₁ (mkF m 1 #[.val (.ref s0), .val (.ref s1), .val (.double x2), .second] [(.double x2)])
  obtain ⟨_, _, ⟨T1, L1, k1, n1⟩, -, X1, ⟨Lc1, hQ1, l1, y1, z1⟩, st1⟩ := Jvm.LawKit.callS X0 hx (y := (⟨"java/lang/Double", "isFinite", "(D)Z"⟩ : MethodName)) hown (mvT hZ (hw _ (List.mem_of_getElem? (i := 58) rfl))) (mvT hZ (hw _ (List.mem_of_getElem? (i := 59) rfl))) (mvT hZ (hw _ (List.mem_of_getElem? (i := 60) rfl))) (mvT hZ (hw _ (List.mem_of_getElem? (i := 61) rfl))) (by decide) (backOf (W := 0) (rm12 l Z a0 hw [] x2 h0 n0 Z0 hf) hZ (hw _ (List.mem_of_getElem? (i := 61) rfl)) (hw _ (List.mem_of_getElem? (i := 60) rfl)) (by decide) (by decide)) (g := (mkF m 1 #[.val (.ref s0), .val (.ref s1), .val (.double x2), .second] [(.double x2)])) rfl (by rw [hml]; rfl) (argsL := [(.double x2)]) (rest := []) (lenOf pd__D__Z rfl) rfl (by show 2 * 0 + _ ≤ _; exact Nat.le_of_eq rfl) (hb hby d11_1) (fun _ _ => ⟨rfl, e0, (by decide : 0 + 0 ≤ _), (by decide : 0 + 0 ≤ _)⟩)
  dsimp only [Pt.U, Pt.locs, Pt.cells, Pt.slots] at X1 l1 y1 z1 st1 hQ1
  subst l1 y1 z1
  obtain ⟨rfl, N1q, e1⟩ := hQ1
  have N1 := Fr.app N0 N1q
  refine own_step st1 ?_
  show own_Go p e below P T1 (mkF m 4 #[.val (.ref s0), .val (.ref s1), .val (.double x2), .second] [(.int (1 : Int32))])
  refine own_step (fun _ k => XS.ifNo X1.here hx rfl (hb hby d11_4) rfl ((if0 _ _).trans (feq (by decide : ¬ ((1 : Int32) = (0 : Int32)))).1) k) ?_
  show own_Go p e below P T1 (mkF m 7 #[.val (.ref s0), .val (.ref s1), .val (.double x2), .second] [])
  refine own_step (fun _ k => XS.dloadN X1.here hx rfl (hb hby d11_7) rfl k) ?_
  show own_Go p e below P T1 (mkF m 8 #[.val (.ref s0), .val (.ref s1), .val (.double x2), .second] [(.double x2)])
  refine own_step (fun _ k => XS.dconst0 X1.here hx rfl (hb hby d11_8) rfl k) ?_
  show own_Go p e below P T1 (mkF m 9 #[.val (.ref s0), .val (.ref s1), .val (.double x2), .second] [(.double FP.dconst0), (.double x2)])
  refine own_step (fun _ k => XS.dcmpS X1.here hx rfl (hb hby d11_9) rfl rfl k) ?_
  show own_Go p e below P T1 (mkF m 10 #[.val (.ref s0), .val (.ref s1), .val (.double x2), .second] [(.int (cmpValue (FP.dcmp x2 FP.dconst0) .g))])
  refine own_step (fun _ k => XS.ifYes X1.here hx rfl (pc0 := 10) (pc' := 29) rfl (hb hby d11_10) rfl ((if0 _ _).trans (tlt hp).2.2.1) (by decide) (by decide) k) ?_
  show own_Go p e below P T1 (mkF m 29 #[.val (.ref s0), .val (.ref s1), .val (.double x2), .second] [])
  obtain ⟨fs, hr, hrun, hended, hW, hsame⟩ := X1.leave (v := none) (fun _ => rfl)
  refine ⟨_, _, X1.returnOut hx Bd.returns (hb hby d11_29) hr, hrun, hended, hfin _ _ ⟨_, _, rfl, ?_, ⟨_, rfl⟩, hW, hsame.mono (by decide) (by decide)⟩⟩
  show Q11 Z s0 s1 x2 h0 n0 none T1.heap _
  rw [e1]
  exact ⟨rfl, N1, rfl⟩
theorem own_d00 : cmpValue (FP.dcmp FP.dconst0 FP.dconst0) .l = (0 : Int32) := by decide +kernel
theorem ef_14 (m : MethodId) (x0 : Addr) (x1 : Addr) (x2 : UInt64) (x3 : UInt64) (x4 : UInt64) (x5 : UInt64) (x6 : UInt64) (x7 : UInt64) (x8 : Addr) : entryFrame m #[(.ref x0), (.ref x1), (.double x2), (.double x3), (.double x4), (.double x5), (.double x7), (.double x7), (.ref x8)] 15 = mkF m 0 #[.val (.ref x0), .val (.ref x1), .val (.double x2), .second, .val (.double x3), .second, .val (.double x4), .second, .val (.double x5), .second, .val (.double x7), .second, .val (.double x7), .second, .val (.ref x8)] [] := by first | (simp [entryFrame, mkF, argsToLocals, Value.category]; done) | rfl
theorem d14_0 : decode prog_24_method_1_code 0 = .ok (.aload_n 0, 1) := by decide +kernel
theorem pd____V : parseMethodDescriptor "()V" = some ⟨[], none⟩ := by decide +kernel
theorem d14_1 : decode prog_24_method_1_code 1 = .ok (.invokespecial 1, 3) := by decide +kernel
theorem d14_4 : decode prog_24_method_1_code 4 = .ok (.aload_n 1, 1) := by decide +kernel
theorem d14_5 : decode prog_24_method_1_code 5 = .ok (.ifnull 10, 3) := by decide +kernel
theorem d14_8 : decode prog_24_method_1_code 8 = .ok (.aload_n 1, 1) := by decide +kernel
theorem d14_9 : decode prog_24_method_1_code 9 = .ok (.invokevirtual 7, 3) := by decide +kernel
theorem d14_12 : decode prog_24_method_1_code 12 = .ok (.ifCond .eq 13, 3) := by decide +kernel
theorem d14_25 : decode prog_24_method_1_code 25 = .ok (.aload_n 1, 1) := by decide +kernel
theorem d14_26 : decode prog_24_method_1_code 26 = .ok (.ldc 20, 2) := by decide +kernel
theorem d14_28 : decode prog_24_method_1_code 28 = .ok (.dload_n 2, 1) := by decide +kernel
theorem pd__Ljava_lang_StringLjava_lang_StringD__V : parseMethodDescriptor "(Ljava/lang/String;Ljava/lang/String;D)V" = some ⟨[(.object "java/lang/String"), (.object "java/lang/String"), .double], none⟩ := by decide +kernel
theorem d14_29 : decode prog_24_method_1_code 29 = .ok (.invokestatic 22, 3) := by decide +kernel
theorem d14_32 : decode prog_24_method_1_code 32 = .ok (.aload_n 1, 1) := by decide +kernel
theorem d14_33 : decode prog_24_method_1_code 33 = .ok (.ldc 28, 2) := by decide +kernel
theorem d14_35 : decode prog_24_method_1_code 35 = .ok (.dload 4, 2) := by decide +kernel
theorem d14_37 : decode prog_24_method_1_code 37 = .ok (.invokestatic 22, 3) := by decide +kernel
theorem d14_40 : decode prog_24_method_1_code 40 = .ok (.aload_n 1, 1) := by decide +kernel
theorem d14_41 : decode prog_24_method_1_code 41 = .ok (.ldc 30, 2) := by decide +kernel
theorem d14_43 : decode prog_24_method_1_code 43 = .ok (.dload 6, 2) := by decide +kernel
theorem d14_45 : decode prog_24_method_1_code 45 = .ok (.invokestatic 22, 3) := by decide +kernel
theorem d14_48 : decode prog_24_method_1_code 48 = .ok (.dload 8, 2) := by decide +kernel
theorem d14_50 : decode prog_24_method_1_code 50 = .ok (.invokestatic 32, 3) := by decide +kernel
theorem d14_53 : decode prog_24_method_1_code 53 = .ok (.ifCond .ne 19, 3) := by decide +kernel
theorem d14_72 : decode prog_24_method_1_code 72 = .ok (.aload 14, 2) := by decide +kernel
theorem d14_74 : decode prog_24_method_1_code 74 = .ok (.ifnonnull 17, 3) := by decide +kernel
theorem d14_91 : decode prog_24_method_1_code 91 = .ok (.aload 14, 2) := by decide +kernel
theorem d14_93 : decode prog_24_method_1_code 93 = .ok (.getstatic 45, 3) := by decide +kernel
theorem d14_96 : decode prog_24_method_1_code 96 = .ok (.if_acmp .ne 35, 3) := by decide +kernel
theorem d14_99 : decode prog_24_method_1_code 99 = .ok (.dload 10, 2) := by decide +kernel
theorem d14_101 : decode prog_24_method_1_code 101 = .ok (.dconst 0, 1) := by decide +kernel
theorem d14_102 : decode prog_24_method_1_code 102 = .ok (.dcmp .l, 1) := by decide +kernel
theorem d14_103 : decode prog_24_method_1_code 103 = .ok (.ifCond .ne 10, 3) := by decide +kernel
theorem d14_106 : decode prog_24_method_1_code 106 = .ok (.dload 12, 2) := by decide +kernel
theorem d14_108 : decode prog_24_method_1_code 108 = .ok (.dconst 0, 1) := by decide +kernel
theorem d14_109 : decode prog_24_method_1_code 109 = .ok (.dcmp .l, 1) := by decide +kernel
theorem d14_110 : decode prog_24_method_1_code 110 = .ok (.ifCond .eq 37, 3) := by decide +kernel
theorem d14_147 : decode prog_24_method_1_code 147 = .ok (.aload_n 0, 1) := by decide +kernel
theorem d14_148 : decode prog_24_method_1_code 148 = .ok (.aload_n 1, 1) := by decide +kernel
theorem d14_149 : decode prog_24_method_1_code 149 = .ok (.putfield 58, 3) := by decide +kernel
theorem d14_152 : decode prog_24_method_1_code 152 = .ok (.aload_n 0, 1) := by decide +kernel
theorem d14_153 : decode prog_24_method_1_code 153 = .ok (.dload_n 2, 1) := by decide +kernel
theorem d14_154 : decode prog_24_method_1_code 154 = .ok (.putfield 62, 3) := by decide +kernel
theorem d14_157 : decode prog_24_method_1_code 157 = .ok (.aload_n 0, 1) := by decide +kernel
theorem d14_158 : decode prog_24_method_1_code 158 = .ok (.dload 4, 2) := by decide +kernel
theorem d14_160 : decode prog_24_method_1_code 160 = .ok (.putfield 66, 3) := by decide +kernel
theorem d14_163 : decode prog_24_method_1_code 163 = .ok (.aload_n 0, 1) := by decide +kernel
theorem d14_164 : decode prog_24_method_1_code 164 = .ok (.dload 6, 2) := by decide +kernel
theorem d14_166 : decode prog_24_method_1_code 166 = .ok (.putfield 68, 3) := by decide +kernel
theorem d14_169 : decode prog_24_method_1_code 169 = .ok (.aload_n 0, 1) := by decide +kernel
theorem d14_170 : decode prog_24_method_1_code 170 = .ok (.dload 8, 2) := by decide +kernel
theorem d14_172 : decode prog_24_method_1_code 172 = .ok (.putfield 70, 3) := by decide +kernel
theorem d14_175 : decode prog_24_method_1_code 175 = .ok (.aload_n 0, 1) := by decide +kernel
theorem d14_176 : decode prog_24_method_1_code 176 = .ok (.dload 10, 2) := by decide +kernel
theorem d14_178 : decode prog_24_method_1_code 178 = .ok (.putfield 73, 3) := by decide +kernel
theorem d14_181 : decode prog_24_method_1_code 181 = .ok (.aload_n 0, 1) := by decide +kernel
theorem d14_182 : decode prog_24_method_1_code 182 = .ok (.dload 12, 2) := by decide +kernel
theorem d14_184 : decode prog_24_method_1_code 184 = .ok (.putfield 76, 3) := by decide +kernel
theorem d14_187 : decode prog_24_method_1_code 187 = .ok (.aload_n 0, 1) := by decide +kernel
theorem d14_188 : decode prog_24_method_1_code 188 = .ok (.aload 14, 2) := by decide +kernel
theorem d14_190 : decode prog_24_method_1_code 190 = .ok (.putfield 79, 3) := by decide +kernel
theorem d14_193 : decode prog_24_method_1_code 193 = .ok (.return_, 1) := by decide +kernel
def Q14 (Z : State) (ob : Addr) (x2 : UInt64) (x3 : UInt64) (x4 : UInt64) (x5 : UInt64) (sa : Addr) (sv : Addr) (kb : ClassId) (ch : Int32) (cc : Int32) (ci : Addr) (ta : Addr) (tc : Cell) (pv : Int32) (an : Addr) (h0 : Heap) (n0 : Nat) (v : Option Value) (h : Heap) (L : List Loc) : Prop := v = none ∧ Fr n0 L ∧ Keep h0 h [ob]
set_option maxRecDepth 65536 in
set_option maxHeartbeats 40000000 in
theorem rm14 (l : Launch) (Z : State) (a0 : Array Value) (hw : ∀ d ∈ tables_1, d.before a0 Z = true) (ws : List Jvm.Cond) (ob : Addr) (x2 : UInt64) (x3 : UInt64) (x4 : UInt64) (x5 : UInt64) (sa : Addr) (sv : Addr) (kb : ClassId) (ch : Int32) (cc : Int32) (ci : Addr) (ta : Addr) (tc : Cell) (pv : Int32) (an : Addr) (h0 : Heap) (n0 : Nat) (Z0 : n0 ≤ h0.size) (F_coder_sa : Fld Z h0 sa "java/lang/String" "coder" "B" (.int (0 : Int32))) (F_value_sa : Fld Z h0 sa "java/lang/String" "value" "[B" (.ref sv)) (E_sa : Exa Z h0 sa "java/lang/String") (V_sv : Arv Z h0 sv kb .byte (1 : Int32) [(.int ch)] (.int (0 : Int32))) (S_cs : Sta Z h0 "java/lang/String" "COMPACT_STRINGS" "Z" (.int cc)) (hcc : ¬ (cc = (0 : Int32))) (S_ci : Sta Z h0 "java/lang/CharacterDataLatin1" "instance" "Ljava/lang/CharacterDataLatin1;" (.ref ci)) (E_ci : Exa Z h0 ci "java/lang/CharacterDataLatin1") (S_ta : Sta Z h0 "java/lang/CharacterDataLatin1" "A" "[I" (.ref ta)) (A_ta : Arr Z h0 ta tc .int) (hti : ¬ (ch < 0 ∨ tc.slots.size ≤ (ch).toNatClampNeg)) (htv : tc.slots[(ch).toNatClampNeg]? = some (.int pv)) (hpw : ¬ ((pv &&& (28672 : Int32)) = (16384 : Int32))) (hch : own_ch ch) (E_ob : Exa Z h0 ob "com/example/brinequil/brinequil/model/Component") (F_name_ob : Fld Z h0 ob "com/example/brinequil/brinequil/model/Component" "name" "Ljava/lang/String;" .null) (F_criticalTemperature_ob : Fld Z h0 ob "com/example/brinequil/brinequil/model/Component" "criticalTemperature" "D" (.double (0 : UInt64))) (F_a0_ob : Fld Z h0 ob "com/example/brinequil/brinequil/model/Component" "a0" "D" (.double (0 : UInt64))) (F_b_ob : Fld Z h0 ob "com/example/brinequil/brinequil/model/Component" "b" "D" (.double (0 : UInt64))) (F_c1_ob : Fld Z h0 ob "com/example/brinequil/brinequil/model/Component" "c1" "D" (.double (0 : UInt64))) (F_associationEnergy_ob : Fld Z h0 ob "com/example/brinequil/brinequil/model/Component" "associationEnergy" "D" (.double (0 : UInt64))) (F_associationVolume_ob : Fld Z h0 ob "com/example/brinequil/brinequil/model/Component" "associationVolume" "D" (.double (0 : UInt64))) (F_scheme_ob : Fld Z h0 ob "com/example/brinequil/brinequil/model/Component" "scheme" "Lcom/example/brinequil/brinequil/model/AssociationScheme;" .null) (g_ob : n0 ≤ ob) (S_NONE : Sta Z h0 "com/example/brinequil/brinequil/model/AssociationScheme" "NONE" "Lcom/example/brinequil/brinequil/model/AssociationScheme;" (.ref an)) (f_x2 : Fin64 x2) (f_x3 : Fin64 x3) (f_x4 : Fin64 x4) (f_x5 : Fin64 x5) (p_x2 : (0 : Int32) < (cmpValue (FP.dcmp x2 FP.dconst0) .g)) (p_x3 : (0 : Int32) < (cmpValue (FP.dcmp x3 FP.dconst0) .g)) (p_x4 : (0 : Int32) < (cmpValue (FP.dcmp x4 FP.dconst0) .g)) :
    MetFree l (⟨"com/example/brinequil/brinequil/model/Component", "<init>", "(Ljava/lang/String;DDDDDDLcom/example/brinequil/brinequil/model/AssociationScheme;)V"⟩ : MethodName) (head1 (Jvm.Cond.code (⟨"com/example/brinequil/brinequil/model/Component", "<init>", "(Ljava/lang/String;DDDDDDLcom/example/brinequil/brinequil/model/AssociationScheme;)V"⟩ : MethodName) prog_24_method_1_code 15 none :: ws) ({ frames := 5, cells := 6, slots := 32, locals := 68 } : Room)) (fun a U => a = #[(.ref ob), (.ref sa), (.double x2), (.double x3), (.double x4), (.double x5), (.double FP.dconst0), (.double FP.dconst0), (.ref an)] ∧ Z.Warmed39 U.vm ∧ U.heap = h0) (fun _ _ _ _ _ => True) (fun _ U o U' => ∃ v L, o = .returned v ∧ Q14 Z ob x2 x3 x4 x5 sa sv kb ch cc ci ta tc pv an h0 n0 v U'.heap L ∧ ReturnedEndW U o U' L ({ frames := 5, cells := 6, slots := 32, locals := 68 } : Room).cells ({ frames := 5, cells := 6, slots := 32, locals := 68 } : Room).slots) := by
  refine MetFree.of_bodySF (plainFor_of_name pn_com_example_brinequil_brinequil_model_Component) hisR ?_
  intro p e s m args below meth c s₁ Bd hml0 hP hK
  obtain ⟨rfl, hZ, hh⟩ := hP
  have hx := Bd.exec
  have hby := Bd.bytes
  have hml : c.maxLocals = 15 := hml0
  have hown : s.vm.findClass "com/example/brinequil/brinequil/model/Component" = some m.cls := findClass_of_methodNamed Bd.named
  have hnm := (name_of_methodNamed Bd.named Bd.method).1
  have hS0 : s.Since s.vm 0 := (State.WarmedH.refl s).since 0
  have hk0 : 0 ≤ h0.size := Nat.zero_le _
  have X0 : Stand p l e ({ frames := 5, cells := 6, slots := 32, locals := 68 } : Room) (s.setVm s.vm) m #[(.ref ob), (.ref sa), (.double x2), (.double x3), (.double x4), (.double x5), (.double FP.dconst0), (.double FP.dconst0), (.ref an)] below meth c s₁ [] 0 0 := Stand.of_body Bd
  have e0 : s₁.heap = h0 := by rw [← hh, Bd.state]; rfl
  have N0 := Fr.nil n0
  refine own_all ?_
  intro P hfin
  refine own_cast (ef_14 m ob sa x2 x3 x4 x5 FP.dconst0 FP.dconst0 an) ?_
  show own_Go p e below P s₁ (mkF m 0 #[.val (.ref ob), .val (.ref sa), .val (.double x2), .second, .val (.double x3), .second, .val (.double x4), .second, .val (.double x5), .second, .val (.double FP.dconst0), .second, .val (.double FP.dconst0), .second, .val (.ref an)] [])
  refine own_step (fun _ k => XS.aloadN X0.here hx rfl (hb hby d14_0) rfl rfl k) ?_
  show own_Go p e below P s₁ (mkF m 1 #[.val (.ref ob), .val (.ref sa), .val (.double x2), .second, .val (.double x3), .second, .val (.double x4), .second, .val (.double x5), .second, .val (.double FP.dconst0), .second, .val (.double FP.dconst0), .second, .val (.ref an)] [(.ref ob)])
  obtain ⟨_, _, ⟨T1, L1, k1, n1⟩, -, X1, ⟨Lc1, hQ1, l1, y1, z1⟩, st1⟩ := X0.specialBack hx (y := (⟨"java/lang/Record", "<init>", "()V"⟩ : MethodName)) rfl hown (mvT hZ (hw _ (List.mem_of_getElem? (i := 81) rfl))) (mvT hZ (hw _ (List.mem_of_getElem? (i := 43) rfl))) (mvT hZ (hw _ (List.mem_of_getElem? (i := 46) rfl))) (by decide) (backOf (W := 0) (rm9 l Z a0 hw [] ob h0 n0 Z0) hZ (hw _ (List.mem_of_getElem? (i := 46) rfl)) (hw _ (List.mem_of_getElem? (i := 45) rfl)) (by decide) (by decide)) (g := (mkF m 1 #[.val (.ref ob), .val (.ref sa), .val (.double x2), .second, .val (.double x3), .second, .val (.double x4), .second, .val (.double x5), .second, .val (.double FP.dconst0), .second, .val (.double FP.dconst0), .second, .val (.ref an)] [(.ref ob)])) rfl (by rw [hml]; rfl) (Steps.refl _) (a := ob) (argsL := []) (rest := []) (lenOf pd____V rfl) rfl (by show 2 * 0 + _ ≤ _; exact Nat.le_of_eq rfl) (hb hby d14_1) (fun _ _ => ⟨rfl, e0, (by decide : 0 + 0 ≤ _), (by decide : 0 + 0 ≤ _)⟩)
  dsimp only [Pt.U, Pt.locs, Pt.cells, Pt.slots] at X1 l1 y1 z1 st1 hQ1
  subst l1 y1 z1
  obtain ⟨rfl, N1q, e1⟩ := hQ1
  have N1 := Fr.app N0 N1q
  refine own_step (fun _ k => st1.trans k) ?_
  show own_Go p e below P T1 (mkF m 4 #[.val (.ref ob), .val (.ref sa), .val (.double x2), .second, .val (.double x3), .second, .val (.double x4), .second, .val (.double x5), .second, .val (.double FP.dconst0), .second, .val (.double FP.dconst0), .second, .val (.ref an)] [])
  refine own_step (fun _ k => XS.aloadN X1.here hx rfl (hb hby d14_4) rfl rfl k) ?_
  show own_Go p e below P T1 (mkF m 5 #[.val (.ref ob), .val (.ref sa), .val (.double x2), .second, .val (.double x3), .second, .val (.double x4), .second, .val (.double x5), .second, .val (.double FP.dconst0), .second, .val (.double FP.dconst0), .second, .val (.ref an)] [(.ref sa)])
  refine own_step (fun _ k => XS.ifnullNo X1.here hx rfl (hb hby d14_5) rfl k) ?_
  show own_Go p e below P T1 (mkF m 8 #[.val (.ref ob), .val (.ref sa), .val (.double x2), .second, .val (.double x3), .second, .val (.double x4), .second, .val (.double x5), .second, .val (.double FP.dconst0), .second, .val (.double FP.dconst0), .second, .val (.ref an)] [])
  refine own_step (fun _ k => XS.aloadN X1.here hx rfl (hb hby d14_8) rfl rfl k) ?_
  show own_Go p e below P T1 (mkF m 9 #[.val (.ref ob), .val (.ref sa), .val (.double x2), .second, .val (.double x3), .second, .val (.double x4), .second, .val (.double x5), .second, .val (.double FP.dconst0), .second, .val (.double FP.dconst0), .second, .val (.ref an)] [(.ref sa)])
  obtain ⟨cq2, kq2, q2a, q2b, q2c⟩ := isOf hZ e1 E_sa
  obtain ⟨_, _, ⟨T2, L2, k2, n2⟩, -, X2, ⟨Lc2, hQ2, l2, y2, z2⟩, st2⟩ := X1.virtualBack hx (y := (⟨"java/lang/String", "isBlank", "()Z"⟩ : MethodName)) (z := (⟨"java/lang/String", "isBlank", "()Z"⟩ : MethodName)) hown (mvT hZ (hw _ (List.mem_of_getElem? (i := 82) rfl))) (mvT hZ (hw _ (List.mem_of_getElem? (i := 83) rfl))) (notFace_of_selects (args := #[]) (mvT hZ (hw _ (List.mem_of_getElem? (i := 85) rfl)))) (mvT hZ (hw _ (List.mem_of_getElem? (i := 85) rfl))) (mvT hZ (hw _ (List.mem_of_getElem? (i := 84) rfl))) (by decide) (backOf (W := 0) (rm15 l Z a0 hw [] sa sv kb ch cc ci ta tc pv h0 n0 Z0 F_coder_sa F_value_sa E_sa V_sv S_cs hcc S_ci E_ci S_ta A_ta hti htv hpw hch) hZ (hw _ (List.mem_of_getElem? (i := 86) rfl)) (hw _ (List.mem_of_getElem? (i := 11) rfl)) (by decide) (by decide)) q2a q2c (g := (mkF m 9 #[.val (.ref ob), .val (.ref sa), .val (.double x2), .second, .val (.double x3), .second, .val (.double x4), .second, .val (.double x5), .second, .val (.double FP.dconst0), .second, .val (.double FP.dconst0), .second, .val (.ref an)] [(.ref sa)])) rfl (by rw [hml]; rfl) (Steps.refl _) (argsL := []) (rest := []) (lenOf pd____Z rfl) rfl (by show 2 * 0 + _ ≤ _; exact Nat.le_of_eq rfl) (hb hby d14_9) (fun _ _ => ⟨rfl, e1, (by decide : 0 + 0 ≤ _), (by decide : 0 + 0 ≤ _)⟩)
  dsimp only [Pt.U, Pt.locs, Pt.cells, Pt.slots] at X2 l2 y2 z2 st2 hQ2
  subst l2 y2 z2
  obtain ⟨rfl, N2q, e2⟩ := hQ2
  have N2 := Fr.app N1 N2q
  refine own_step (fun _ k => st2.trans k) ?_
  show own_Go p e below P T2 (mkF m 12 #[.val (.ref ob), .val (.ref sa), .val (.double x2), .second, .val (.double x3), .second, .val (.double x4), .second, .val (.double x5), .second, .val (.double FP.dconst0), .second, .val (.double FP.dconst0), .second, .val (.ref an)] [(.int (0 : Int32))])
  refine own_step (fun _ k => XS.ifYes X2.here hx rfl (pc0 := 12) (pc' := 25) rfl (hb hby d14_12) rfl ((if0 _ _).trans (teq (rfl : (0 : Int32) = (0 : Int32))).1) (by decide) (by decide) k) ?_
  show own_Go p e below P T2 (mkF m 25 #[.val (.ref ob), .val (.ref sa), .val (.double x2), .second, .val (.double x3), .second, .val (.double x4), .second, .val (.double x5), .second, .val (.double FP.dconst0), .second, .val (.double FP.dconst0), .second, .val (.ref an)] [])
  refine own_step (fun _ k => XS.aloadN X2.here hx rfl (hb hby d14_25) rfl rfl k) ?_
  show own_Go p e below P T2 (mkF m 26 #[.val (.ref ob), .val (.ref sa), .val (.double x2), .second, .val (.double x3), .second, .val (.double x4), .second, .val (.double x5), .second, .val (.double FP.dconst0), .second, .val (.double FP.dconst0), .second, .val (.ref an)] [(.ref sa)])
  obtain ⟨b3, T3, h3, kk3, X3, e3, E3, hS3, hk3, hZ3, hown3, st3⟩ := own_ldc X2 hx hZ hown (hw _ (List.mem_of_getElem? (i := 52) rfl)) (own_wS hw) e2 hS0 hk0 (g := (mkF m 26 #[.val (.ref ob), .val (.ref sa), .val (.double x2), .second, .val (.double x3), .second, .val (.double x4), .second, .val (.double x5), .second, .val (.double FP.dconst0), .second, .val (.double FP.dconst0), .second, .val (.ref an)] [(.ref sa)])) rfl (hb hby d14_26) (n := 8) (by decide) (by decide) (by decide) (by decide)
  refine own_step st3 ?_
  show own_Go p e below P T3 (mkF m 28 #[.val (.ref ob), .val (.ref sa), .val (.double x2), .second, .val (.double x3), .second, .val (.double x4), .second, .val (.double x5), .second, .val (.double FP.dconst0), .second, .val (.double FP.dconst0), .second, .val (.ref an)] [(.ref b3), (.ref sa)])
  refine own_step (fun _ k => XS.dloadN X3.here hx rfl (hb hby d14_28) rfl k) ?_
  show own_Go p e below P T3 (mkF m 29 #[.val (.ref ob), .val (.ref sa), .val (.double x2), .second, .val (.double x3), .second, .val (.double x4), .second, .val (.double x5), .second, .val (.double FP.dconst0), .second, .val (.double FP.dconst0), .second, .val (.ref an)] [(.double x2), (.ref b3), (.ref sa)])
  obtain ⟨_, _, ⟨T4, L4, k4, n4⟩, -, X4, ⟨Lc4, hQ4, l4, y4, z4⟩, st4⟩ := Jvm.LawKit.callS X3 hx (y := (⟨"com/example/brinequil/brinequil/model/Component", "requirePositive", "(Ljava/lang/String;Ljava/lang/String;D)V"⟩ : MethodName)) hown3 (mvT hZ3 (hw _ (List.mem_of_getElem? (i := 55) rfl))) (mvT hZ3 (hw _ (List.mem_of_getElem? (i := 56) rfl))) (mvT hZ3 (hw _ (List.mem_of_getElem? (i := 50) rfl))) (mvT hZ3 (hw _ (List.mem_of_getElem? (i := 57) rfl))) (by decide) (backOf (W := 0) (rm11 l Z a0 hw [] sa b3 x2 h3 n0 (Nat.le_trans Z0 E3.1) f_x2 p_x2) hZ3 (hw _ (List.mem_of_getElem? (i := 57) rfl)) (hw _ (List.mem_of_getElem? (i := 50) rfl)) (by decide) (by decide)) (g := (mkF m 29 #[.val (.ref ob), .val (.ref sa), .val (.double x2), .second, .val (.double x3), .second, .val (.double x4), .second, .val (.double x5), .second, .val (.double FP.dconst0), .second, .val (.double FP.dconst0), .second, .val (.ref an)] [(.double x2), (.ref b3), (.ref sa)])) rfl (by rw [hml]; rfl) (argsL := [(.ref sa), (.ref b3), (.double x2)]) (rest := []) (lenOf pd__Ljava_lang_StringLjava_lang_StringD__V rfl) rfl (by show 2 * 0 + _ ≤ _; exact Nat.le_of_eq rfl) (hb hby d14_29) (fun _ _ => ⟨rfl, e3, (by decide : 2 + 0 ≤ _), (by decide : 12 + 0 ≤ _)⟩)
  dsimp only [Pt.U, Pt.locs, Pt.cells, Pt.slots] at X4 l4 y4 z4 st4 hQ4
  subst l4 y4 z4
  obtain ⟨rfl, N4q, e4⟩ := hQ4
  have N4 := Fr.app N2 N4q
  refine own_step st4 ?_
  show own_Go p e below P T4 (mkF m 32 #[.val (.ref ob), .val (.ref sa), .val (.double x2), .second, .val (.double x3), .second, .val (.double x4), .second, .val (.double x5), .second, .val (.double FP.dconst0), .second, .val (.double FP.dconst0), .second, .val (.ref an)] [])
  refine own_step (fun _ k => XS.aloadN X4.here hx rfl (hb hby d14_32) rfl rfl k) ?_
  show own_Go p e below P T4 (mkF m 33 #[.val (.ref ob), .val (.ref sa), .val (.double x2), .second, .val (.double x3), .second, .val (.double x4), .second, .val (.double x5), .second, .val (.double FP.dconst0), .second, .val (.double FP.dconst0), .second, .val (.ref an)] [(.ref sa)])
  obtain ⟨b5, T5, h5, kk5, X5, e5, E5, hS5, hk5, hZ5, hown5, st5⟩ := own_ldc X4 hx hZ3 hown3 (hw _ (List.mem_of_getElem? (i := 127) rfl)) (own_wS hw) e4 hS3 hk3 (g := (mkF m 33 #[.val (.ref ob), .val (.ref sa), .val (.double x2), .second, .val (.double x3), .second, .val (.double x4), .second, .val (.double x5), .second, .val (.double FP.dconst0), .second, .val (.double FP.dconst0), .second, .val (.ref an)] [(.ref sa)])) rfl (hb hby d14_33) (n := 8) (by decide) (by decide) (by decide) (by decide)
  refine own_step st5 ?_
  show own_Go p e below P T5 (mkF m 35 #[.val (.ref ob), .val (.ref sa), .val (.double x2), .second, .val (.double x3), .second, .val (.double x4), .second, .val (.double x5), .second, .val (.double FP.dconst0), .second, .val (.double FP.dconst0), .second, .val (.ref an)] [(.ref b5), (.ref sa)])
  refine own_step (fun _ k => XS.dload X5.here hx rfl (hb hby d14_35) rfl k) ?_
  show own_Go p e below P T5 (mkF m 37 #[.val (.ref ob), .val (.ref sa), .val (.double x2), .second, .val (.double x3), .second, .val (.double x4), .second, .val (.double x5), .second, .val (.double FP.dconst0), .second, .val (.double FP.dconst0), .second, .val (.ref an)] [(.double x3), (.ref b5), (.ref sa)])
  obtain ⟨_, _, ⟨T6, L6, k6, n6⟩, -, X6, ⟨Lc6, hQ6, l6, y6, z6⟩, st6⟩ := Jvm.LawKit.callS X5 hx (y := (⟨"com/example/brinequil/brinequil/model/Component", "requirePositive", "(Ljava/lang/String;Ljava/lang/String;D)V"⟩ : MethodName)) hown5 (mvT hZ5 (hw _ (List.mem_of_getElem? (i := 55) rfl))) (mvT hZ5 (hw _ (List.mem_of_getElem? (i := 56) rfl))) (mvT hZ5 (hw _ (List.mem_of_getElem? (i := 50) rfl))) (mvT hZ5 (hw _ (List.mem_of_getElem? (i := 57) rfl))) (by decide) (backOf (W := 0) (rm11 l Z a0 hw [] sa b5 x3 h5 n0 (Nat.le_trans (Nat.le_trans Z0 E3.1) E5.1) f_x3 p_x3) hZ5 (hw _ (List.mem_of_getElem? (i := 57) rfl)) (hw _ (List.mem_of_getElem? (i := 50) rfl)) (by decide) (by decide)) (g := (mkF m 37 #[.val (.ref ob), .val (.ref sa), .val (.double x2), .second, .val (.double x3), .second, .val (.double x4), .second, .val (.double x5), .second, .val (.double FP.dconst0), .second, .val (.double FP.dconst0), .second, .val (.ref an)] [(.double x3), (.ref b5), (.ref sa)])) rfl (by rw [hml]; rfl) (argsL := [(.ref sa), (.ref b5), (.double x3)]) (rest := []) (lenOf pd__Ljava_lang_StringLjava_lang_StringD__V rfl) rfl (by show 2 * 0 + _ ≤ _; exact Nat.le_of_eq rfl) (hb hby d14_37) (fun _ _ => ⟨rfl, e5, (by decide : 4 + 0 ≤ _), (by decide : 24 + 0 ≤ _)⟩)
  dsimp only [Pt.U, Pt.locs, Pt.cells, Pt.slots] at X6 l6 y6 z6 st6 hQ6
  subst l6 y6 z6
  obtain ⟨rfl, N6q, e6⟩ := hQ6
  have N6 := Fr.app N4 N6q
  refine own_step st6 ?_
  show own_Go p e below P T6 (mkF m 40 #[.val (.ref ob), .val (.ref sa), .val (.double x2), .second, .val (.double x3), .second, .val (.double x4), .second, .val (.double x5), .second, .val (.double FP.dconst0), .second, .val (.double FP.dconst0), .second, .val (.ref an)] [])
  refine own_step (fun _ k => XS.aloadN X6.here hx rfl (hb hby d14_40) rfl rfl k) ?_
  show own_Go p e below P T6 (mkF m 41 #[.val (.ref ob), .val (.ref sa), .val (.double x2), .second, .val (.double x3), .second, .val (.double x4), .second, .val (.double x5), .second, .val (.double FP.dconst0), .second, .val (.double FP.dconst0), .second, .val (.ref an)] [(.ref sa)])
  obtain ⟨b7, T7, h7, kk7, X7, e7, E7, hS7, hk7, hZ7, hown7, st7⟩ := own_ldc X6 hx hZ5 hown5 (hw _ (List.mem_of_getElem? (i := 128) rfl)) (own_wS hw) e6 hS5 hk5 (g := (mkF m 41 #[.val (.ref ob), .val (.ref sa), .val (.double x2), .second, .val (.double x3), .second, .val (.double x4), .second, .val (.double x5), .second, .val (.double FP.dconst0), .second, .val (.double FP.dconst0), .second, .val (.ref an)] [(.ref sa)])) rfl (hb hby d14_41) (n := 4) (by decide) (by decide) (by decide) (by decide)
  refine own_step st7 ?_
  show own_Go p e below P T7 (mkF m 43 #[.val (.ref ob), .val (.ref sa), .val (.double x2), .second, .val (.double x3), .second, .val (.double x4), .second, .val (.double x5), .second, .val (.double FP.dconst0), .second, .val (.double FP.dconst0), .second, .val (.ref an)] [(.ref b7), (.ref sa)])
  refine own_step (fun _ k => XS.dload X7.here hx rfl (hb hby d14_43) rfl k) ?_
  show own_Go p e below P T7 (mkF m 45 #[.val (.ref ob), .val (.ref sa), .val (.double x2), .second, .val (.double x3), .second, .val (.double x4), .second, .val (.double x5), .second, .val (.double FP.dconst0), .second, .val (.double FP.dconst0), .second, .val (.ref an)] [(.double x4), (.ref b7), (.ref sa)])
  obtain ⟨_, _, ⟨T8, L8, k8, n8⟩, -, X8, ⟨Lc8, hQ8, l8, y8, z8⟩, st8⟩ := Jvm.LawKit.callS X7 hx (y := (⟨"com/example/brinequil/brinequil/model/Component", "requirePositive", "(Ljava/lang/String;Ljava/lang/String;D)V"⟩ : MethodName)) hown7 (mvT hZ7 (hw _ (List.mem_of_getElem? (i := 55) rfl))) (mvT hZ7 (hw _ (List.mem_of_getElem? (i := 56) rfl))) (mvT hZ7 (hw _ (List.mem_of_getElem? (i := 50) rfl))) (mvT hZ7 (hw _ (List.mem_of_getElem? (i := 57) rfl))) (by decide) (backOf (W := 0) (rm11 l Z a0 hw [] sa b7 x4 h7 n0 (Nat.le_trans (Nat.le_trans (Nat.le_trans Z0 E3.1) E5.1) E7.1) f_x4 p_x4) hZ7 (hw _ (List.mem_of_getElem? (i := 57) rfl)) (hw _ (List.mem_of_getElem? (i := 50) rfl)) (by decide) (by decide)) (g := (mkF m 45 #[.val (.ref ob), .val (.ref sa), .val (.double x2), .second, .val (.double x3), .second, .val (.double x4), .second, .val (.double x5), .second, .val (.double FP.dconst0), .second, .val (.double FP.dconst0), .second, .val (.ref an)] [(.double x4), (.ref b7), (.ref sa)])) rfl (by rw [hml]; rfl) (argsL := [(.ref sa), (.ref b7), (.double x4)]) (rest := []) (lenOf pd__Ljava_lang_StringLjava_lang_StringD__V rfl) rfl (by show 2 * 0 + _ ≤ _; exact Nat.le_of_eq rfl) (hb hby d14_45) (fun _ _ => ⟨rfl, e7, (by decide : 6 + 0 ≤ _), (by decide : 32 + 0 ≤ _)⟩)
  dsimp only [Pt.U, Pt.locs, Pt.cells, Pt.slots] at X8 l8 y8 z8 st8 hQ8
  subst l8 y8 z8
  obtain ⟨rfl, N8q, e8⟩ := hQ8
  have N8 := Fr.app N6 N8q
  refine own_step st8 ?_
  show own_Go p e below P T8 (mkF m 48 #[.val (.ref ob), .val (.ref sa), .val (.double x2), .second, .val (.double x3), .second, .val (.double x4), .second, .val (.double x5), .second, .val (.double FP.dconst0), .second, .val (.double FP.dconst0), .second, .val (.ref an)] [])
  refine own_step (fun _ k => XS.dload X8.here hx rfl (hb hby d14_48) rfl k) ?_
  show own_Go p e below P T8 (mkF m 50 #[.val (.ref ob), .val (.ref sa), .val (.double x2), .second, .val (.double x3), .second, .val (.double x4), .second, .val (.double x5), .second, .val (.double FP.dconst0), .second, .val (.double FP.dconst0), .second, .val (.ref an)] [(.double x5)])
  obtain ⟨_, _, ⟨T9, L9, k9, n9⟩, -, X9, ⟨Lc9, hQ9, l9, y9, z9⟩, st9⟩ := Jvm.LawKit.callS X8 hx (y := (⟨"java/lang/Double", "isFinite", "(D)Z"⟩ : MethodName)) hown7 (mvT hZ7 (hw _ (List.mem_of_getElem? (i := 58) rfl))) (mvT hZ7 (hw _ (List.mem_of_getElem? (i := 59) rfl))) (mvT hZ7 (hw _ (List.mem_of_getElem? (i := 60) rfl))) (mvT hZ7 (hw _ (List.mem_of_getElem? (i := 61) rfl))) (by decide) (backOf (W := 0) (rm12 l Z a0 hw [] x5 h7 n0 (Nat.le_trans (Nat.le_trans (Nat.le_trans Z0 E3.1) E5.1) E7.1) f_x5) hZ7 (hw _ (List.mem_of_getElem? (i := 61) rfl)) (hw _ (List.mem_of_getElem? (i := 60) rfl)) (by decide) (by decide)) (g := (mkF m 50 #[.val (.ref ob), .val (.ref sa), .val (.double x2), .second, .val (.double x3), .second, .val (.double x4), .second, .val (.double x5), .second, .val (.double FP.dconst0), .second, .val (.double FP.dconst0), .second, .val (.ref an)] [(.double x5)])) rfl (by rw [hml]; rfl) (argsL := [(.double x5)]) (rest := []) (lenOf pd__D__Z rfl) rfl (by show 2 * 0 + _ ≤ _; exact Nat.le_of_eq rfl) (hb hby d14_50) (fun _ _ => ⟨rfl, e8, (by decide : 6 + 0 ≤ _), (by decide : 32 + 0 ≤ _)⟩)
  dsimp only [Pt.U, Pt.locs, Pt.cells, Pt.slots] at X9 l9 y9 z9 st9 hQ9
  subst l9 y9 z9
  obtain ⟨rfl, N9q, e9⟩ := hQ9
  have N9 := Fr.app N8 N9q
  refine own_step st9 ?_
  show own_Go p e below P T9 (mkF m 53 #[.val (.ref ob), .val (.ref sa), .val (.double x2), .second, .val (.double x3), .second, .val (.double x4), .second, .val (.double x5), .second, .val (.double FP.dconst0), .second, .val (.double FP.dconst0), .second, .val (.ref an)] [(.int (1 : Int32))])
  refine own_step (fun _ k => XS.ifYes X9.here hx rfl (pc0 := 53) (pc' := 72) rfl (hb hby d14_53) rfl ((if0 _ _).trans (feq (by decide : ¬ ((1 : Int32) = (0 : Int32)))).2) (by decide) (by decide) k) ?_
  show own_Go p e below P T9 (mkF m 72 #[.val (.ref ob), .val (.ref sa), .val (.double x2), .second, .val (.double x3), .second, .val (.double x4), .second, .val (.double x5), .second, .val (.double FP.dconst0), .second, .val (.double FP.dconst0), .second, .val (.ref an)] [])
  refine own_step (fun _ k => XS.aload X9.here hx rfl (hb hby d14_72) rfl rfl k) ?_
  show own_Go p e below P T9 (mkF m 74 #[.val (.ref ob), .val (.ref sa), .val (.double x2), .second, .val (.double x3), .second, .val (.double x4), .second, .val (.double x5), .second, .val (.double FP.dconst0), .second, .val (.double FP.dconst0), .second, .val (.ref an)] [(.ref an)])
  refine own_step (fun _ k => XS.ifnonnullYes X9.here hx rfl (pc0 := 74) (pc' := 91) rfl (hb hby d14_74) rfl (by decide) (by decide) k) ?_
  show own_Go p e below P T9 (mkF m 91 #[.val (.ref ob), .val (.ref sa), .val (.double x2), .second, .val (.double x3), .second, .val (.double x4), .second, .val (.double x5), .second, .val (.double FP.dconst0), .second, .val (.double FP.dconst0), .second, .val (.ref an)] [])
  refine own_step (fun _ k => XS.aload X9.here hx rfl (hb hby d14_91) rfl rfl k) ?_
  show own_Go p e below P T9 (mkF m 93 #[.val (.ref ob), .val (.ref sa), .val (.double x2), .second, .val (.double x3), .second, .val (.double x4), .second, .val (.double x5), .second, .val (.double FP.dconst0), .second, .val (.double FP.dconst0), .second, .val (.ref an)] [(.ref an)])
  obtain ⟨T10, X10, e10, st10⟩ := getS2 X9 hx hZ7 hown7 (host := "") (Or.inl (hw _ (List.mem_of_getElem? (i := 75) rfl))) Via.refl e9 (((S_NONE.ext E3).ext E5).ext E7) (g := (mkF m 93 #[.val (.ref ob), .val (.ref sa), .val (.double x2), .second, .val (.double x3), .second, .val (.double x4), .second, .val (.double x5), .second, .val (.double FP.dconst0), .second, .val (.double FP.dconst0), .second, .val (.ref an)] [(.ref an)])) rfl (hb hby d14_93)
  refine own_step st10 ?_
  show own_Go p e below P T10 (mkF m 96 #[.val (.ref ob), .val (.ref sa), .val (.double x2), .second, .val (.double x3), .second, .val (.double x4), .second, .val (.double x5), .second, .val (.double FP.dconst0), .second, .val (.double FP.dconst0), .second, .val (.ref an)] [(.ref an), (.ref an)])
  refine own_step (fun _ k => Jvm.RoadKit.acmp (g := (mkF m 96 #[.val (.ref ob), .val (.ref sa), .val (.double x2), .second, .val (.double x3), .second, .val (.double x4), .second, .val (.double x5), .second, .val (.double FP.dconst0), .second, .val (.double FP.dconst0), .second, .val (.ref an)] [(.ref an), (.ref an)])) X10 hx rfl rfl rfl (pc0 := 96) (pc' := 99) (same := true) rfl (hb hby d14_96) rfl (decide_eq_true rfl) (by decide) (by decide) k) ?_
  show own_Go p e below P T10 (mkF m 99 #[.val (.ref ob), .val (.ref sa), .val (.double x2), .second, .val (.double x3), .second, .val (.double x4), .second, .val (.double x5), .second, .val (.double FP.dconst0), .second, .val (.double FP.dconst0), .second, .val (.ref an)] [])
  refine own_step (fun _ k => XS.dload X10.here hx rfl (hb hby d14_99) rfl k) ?_
  show own_Go p e below P T10 (mkF m 101 #[.val (.ref ob), .val (.ref sa), .val (.double x2), .second, .val (.double x3), .second, .val (.double x4), .second, .val (.double x5), .second, .val (.double FP.dconst0), .second, .val (.double FP.dconst0), .second, .val (.ref an)] [(.double FP.dconst0)])
  refine own_step (fun _ k => XS.dconst0 X10.here hx rfl (hb hby d14_101) rfl k) ?_
  show own_Go p e below P T10 (mkF m 102 #[.val (.ref ob), .val (.ref sa), .val (.double x2), .second, .val (.double x3), .second, .val (.double x4), .second, .val (.double x5), .second, .val (.double FP.dconst0), .second, .val (.double FP.dconst0), .second, .val (.ref an)] [(.double FP.dconst0), (.double FP.dconst0)])
  refine own_step (fun _ k => XS.dcmpS X10.here hx rfl (hb hby d14_102) rfl rfl k) ?_
  show own_Go p e below P T10 (mkF m 103 #[.val (.ref ob), .val (.ref sa), .val (.double x2), .second, .val (.double x3), .second, .val (.double x4), .second, .val (.double x5), .second, .val (.double FP.dconst0), .second, .val (.double FP.dconst0), .second, .val (.ref an)] [(.int (cmpValue (FP.dcmp FP.dconst0 FP.dconst0) .l))])
  refine own_step (fun _ k => XS.ifNo X10.here hx rfl (hb hby d14_103) rfl ((if0 _ _).trans (teq own_d00).2) k) ?_
  show own_Go p e below P T10 (mkF m 106 #[.val (.ref ob), .val (.ref sa), .val (.double x2), .second, .val (.double x3), .second, .val (.double x4), .second, .val (.double x5), .second, .val (.double FP.dconst0), .second, .val (.double FP.dconst0), .second, .val (.ref an)] [])
  refine own_step (fun _ k => XS.dload X10.here hx rfl (hb hby d14_106) rfl k) ?_
  show own_Go p e below P T10 (mkF m 108 #[.val (.ref ob), .val (.ref sa), .val (.double x2), .second, .val (.double x3), .second, .val (.double x4), .second, .val (.double x5), .second, .val (.double FP.dconst0), .second, .val (.double FP.dconst0), .second, .val (.ref an)] [(.double FP.dconst0)])
  refine own_step (fun _ k => XS.dconst0 X10.here hx rfl (hb hby d14_108) rfl k) ?_
  show own_Go p e below P T10 (mkF m 109 #[.val (.ref ob), .val (.ref sa), .val (.double x2), .second, .val (.double x3), .second, .val (.double x4), .second, .val (.double x5), .second, .val (.double FP.dconst0), .second, .val (.double FP.dconst0), .second, .val (.ref an)] [(.double FP.dconst0), (.double FP.dconst0)])
  refine own_step (fun _ k => XS.dcmpS X10.here hx rfl (hb hby d14_109) rfl rfl k) ?_
  show own_Go p e below P T10 (mkF m 110 #[.val (.ref ob), .val (.ref sa), .val (.double x2), .second, .val (.double x3), .second, .val (.double x4), .second, .val (.double x5), .second, .val (.double FP.dconst0), .second, .val (.double FP.dconst0), .second, .val (.ref an)] [(.int (cmpValue (FP.dcmp FP.dconst0 FP.dconst0) .l))])
  refine own_step (fun _ k => XS.ifYes X10.here hx rfl (pc0 := 110) (pc' := 147) rfl (hb hby d14_110) rfl ((if0 _ _).trans (teq own_d00).1) (by decide) (by decide) k) ?_
  show own_Go p e below P T10 (mkF m 147 #[.val (.ref ob), .val (.ref sa), .val (.double x2), .second, .val (.double x3), .second, .val (.double x4), .second, .val (.double x5), .second, .val (.double FP.dconst0), .second, .val (.double FP.dconst0), .second, .val (.ref an)] [])
  refine own_step (fun _ k => XS.aloadN X10.here hx rfl (hb hby d14_147) rfl rfl k) ?_
  show own_Go p e below P T10 (mkF m 148 #[.val (.ref ob), .val (.ref sa), .val (.double x2), .second, .val (.double x3), .second, .val (.double x4), .second, .val (.double x5), .second, .val (.double FP.dconst0), .second, .val (.double FP.dconst0), .second, .val (.ref an)] [(.ref ob)])
  refine own_step (fun _ k => XS.aloadN X10.here hx rfl (hb hby d14_148) rfl rfl k) ?_
  show own_Go p e below P T10 (mkF m 149 #[.val (.ref ob), .val (.ref sa), .val (.double x2), .second, .val (.double x3), .second, .val (.double x4), .second, .val (.double x5), .second, .val (.double FP.dconst0), .second, .val (.double FP.dconst0), .second, .val (.ref an)] [(.ref sa), (.ref ob)])
  obtain ⟨T11, h11, X11, e11, W11, st11⟩ := putF X10 hx hZ7 hown7 (host := "") (Or.inl (hw _ (List.mem_of_getElem? (i := 129) rfl))) Via.refl e10 (((F_name_ob.ext E3).ext E5).ext E7) (((E_ob.ext E3).ext E5).ext E7) (Or.inr ⟨(hw _ (List.mem_of_getElem? (i := 130) rfl)), rfl, hnm⟩) (hw _ (List.mem_of_getElem? (i := 74) rfl)) (ty := (.object "java/lang/String")) (by decide) rfl rfl (g := (mkF m 149 #[.val (.ref ob), .val (.ref sa), .val (.double x2), .second, .val (.double x3), .second, .val (.double x4), .second, .val (.double x5), .second, .val (.double FP.dconst0), .second, .val (.double FP.dconst0), .second, .val (.ref an)] [(.ref sa), (.ref ob)])) rfl rfl (hb hby d14_149)
  have Fw11 := (((F_name_ob.ext E3).ext E5).ext E7).same W11
  have N11 := Fr.snoc X11 N9 g_ob
  refine own_step st11 ?_
  show own_Go p e below P T11 (mkF m 152 #[.val (.ref ob), .val (.ref sa), .val (.double x2), .second, .val (.double x3), .second, .val (.double x4), .second, .val (.double x5), .second, .val (.double FP.dconst0), .second, .val (.double FP.dconst0), .second, .val (.ref an)] [])
  refine own_step (fun _ k => XS.aloadN X11.here hx rfl (hb hby d14_152) rfl rfl k) ?_
  show own_Go p e below P T11 (mkF m 153 #[.val (.ref ob), .val (.ref sa), .val (.double x2), .second, .val (.double x3), .second, .val (.double x4), .second, .val (.double x5), .second, .val (.double FP.dconst0), .second, .val (.double FP.dconst0), .second, .val (.ref an)] [(.ref ob)])
  refine own_step (fun _ k => XS.dloadN X11.here hx rfl (hb hby d14_153) rfl k) ?_
  show own_Go p e below P T11 (mkF m 154 #[.val (.ref ob), .val (.ref sa), .val (.double x2), .second, .val (.double x3), .second, .val (.double x4), .second, .val (.double x5), .second, .val (.double FP.dconst0), .second, .val (.double FP.dconst0), .second, .val (.ref an)] [(.double x2), (.ref ob)])
  obtain ⟨T12, h12, X12, e12, W12, st12⟩ := putF X11 hx hZ7 hown7 (host := "") (Or.inl (hw _ (List.mem_of_getElem? (i := 131) rfl))) Via.refl e11 ((((F_criticalTemperature_ob.ext E3).ext E5).ext E7).other W11 (Or.inr (slot_ne (Or.inr (hw _ (List.mem_of_getElem? (i := 132) rfl))) (Or.inr (hw _ (List.mem_of_getElem? (i := 130) rfl))) (by decide) (t := .double) (t' := (.object "java/lang/String")) (by decide) (by decide)))) ((((E_ob.ext E3).ext E5).ext E7).wr W11) (Or.inr ⟨(hw _ (List.mem_of_getElem? (i := 132) rfl)), rfl, hnm⟩) (hw _ (List.mem_of_getElem? (i := 74) rfl)) (ty := .double) (by decide) rfl rfl (g := (mkF m 154 #[.val (.ref ob), .val (.ref sa), .val (.double x2), .second, .val (.double x3), .second, .val (.double x4), .second, .val (.double x5), .second, .val (.double FP.dconst0), .second, .val (.double FP.dconst0), .second, .val (.ref an)] [(.double x2), (.ref ob)])) rfl rfl (hb hby d14_154)
  have Fw12 := ((((F_criticalTemperature_ob.ext E3).ext E5).ext E7).other W11 (Or.inr (slot_ne (Or.inr (hw _ (List.mem_of_getElem? (i := 132) rfl))) (Or.inr (hw _ (List.mem_of_getElem? (i := 130) rfl))) (by decide) (t := .double) (t' := (.object "java/lang/String")) (by decide) (by decide)))).same W12
  have N12 := Fr.snoc X12 N11 g_ob
  refine own_step st12 ?_
  show own_Go p e below P T12 (mkF m 157 #[.val (.ref ob), .val (.ref sa), .val (.double x2), .second, .val (.double x3), .second, .val (.double x4), .second, .val (.double x5), .second, .val (.double FP.dconst0), .second, .val (.double FP.dconst0), .second, .val (.ref an)] [])
  refine own_step (fun _ k => XS.aloadN X12.here hx rfl (hb hby d14_157) rfl rfl k) ?_
  show own_Go p e below P T12 (mkF m 158 #[.val (.ref ob), .val (.ref sa), .val (.double x2), .second, .val (.double x3), .second, .val (.double x4), .second, .val (.double x5), .second, .val (.double FP.dconst0), .second, .val (.double FP.dconst0), .second, .val (.ref an)] [(.ref ob)])
  refine own_step (fun _ k => XS.dload X12.here hx rfl (hb hby d14_158) rfl k) ?_
  show own_Go p e below P T12 (mkF m 160 #[.val (.ref ob), .val (.ref sa), .val (.double x2), .second, .val (.double x3), .second, .val (.double x4), .second, .val (.double x5), .second, .val (.double FP.dconst0), .second, .val (.double FP.dconst0), .second, .val (.ref an)] [(.double x3), (.ref ob)])
  obtain ⟨T13, h13, X13, e13, W13, st13⟩ := putF X12 hx hZ7 hown7 (host := "") (Or.inl (hw _ (List.mem_of_getElem? (i := 133) rfl))) Via.refl e12 (((((F_a0_ob.ext E3).ext E5).ext E7).other W11 (Or.inr (slot_ne (Or.inr (hw _ (List.mem_of_getElem? (i := 134) rfl))) (Or.inr (hw _ (List.mem_of_getElem? (i := 130) rfl))) (by decide) (t := .double) (t' := (.object "java/lang/String")) (by decide) (by decide)))).other W12 (Or.inr (slot_ne (Or.inr (hw _ (List.mem_of_getElem? (i := 134) rfl))) (Or.inr (hw _ (List.mem_of_getElem? (i := 132) rfl))) (by decide) (t := .double) (t' := .double) (by decide) (by decide)))) (((((E_ob.ext E3).ext E5).ext E7).wr W11).wr W12) (Or.inr ⟨(hw _ (List.mem_of_getElem? (i := 134) rfl)), rfl, hnm⟩) (hw _ (List.mem_of_getElem? (i := 74) rfl)) (ty := .double) (by decide) rfl rfl (g := (mkF m 160 #[.val (.ref ob), .val (.ref sa), .val (.double x2), .second, .val (.double x3), .second, .val (.double x4), .second, .val (.double x5), .second, .val (.double FP.dconst0), .second, .val (.double FP.dconst0), .second, .val (.ref an)] [(.double x3), (.ref ob)])) rfl rfl (hb hby d14_160)
  have Fw13 := (((((F_a0_ob.ext E3).ext E5).ext E7).other W11 (Or.inr (slot_ne (Or.inr (hw _ (List.mem_of_getElem? (i := 134) rfl))) (Or.inr (hw _ (List.mem_of_getElem? (i := 130) rfl))) (by decide) (t := .double) (t' := (.object "java/lang/String")) (by decide) (by decide)))).other W12 (Or.inr (slot_ne (Or.inr (hw _ (List.mem_of_getElem? (i := 134) rfl))) (Or.inr (hw _ (List.mem_of_getElem? (i := 132) rfl))) (by decide) (t := .double) (t' := .double) (by decide) (by decide)))).same W13
  have N13 := Fr.snoc X13 N12 g_ob
  refine own_step st13 ?_
  show own_Go p e below P T13 (mkF m 163 #[.val (.ref ob), .val (.ref sa), .val (.double x2), .second, .val (.double x3), .second, .val (.double x4), .second, .val (.double x5), .second, .val (.double FP.dconst0), .second, .val (.double FP.dconst0), .second, .val (.ref an)] [])
  refine own_step (fun _ k => XS.aloadN X13.here hx rfl (hb hby d14_163) rfl rfl k) ?_
  show own_Go p e below P T13 (mkF m 164 #[.val (.ref ob), .val (.ref sa), .val (.double x2), .second, .val (.double x3), .second, .val (.double x4), .second, .val (.double x5), .second, .val (.double FP.dconst0), .second, .val (.double FP.dconst0), .second, .val (.ref an)] [(.ref ob)])
  refine own_step (fun _ k => XS.dload X13.here hx rfl (hb hby d14_164) rfl k) ?_
  show own_Go p e below P T13 (mkF m 166 #[.val (.ref ob), .val (.ref sa), .val (.double x2), .second, .val (.double x3), .second, .val (.double x4), .second, .val (.double x5), .second, .val (.double FP.dconst0), .second, .val (.double FP.dconst0), .second, .val (.ref an)] [(.double x4), (.ref ob)])
  obtain ⟨T14, h14, X14, e14, W14, st14⟩ := putF X13 hx hZ7 hown7 (host := "") (Or.inl (hw _ (List.mem_of_getElem? (i := 135) rfl))) Via.refl e13 ((((((F_b_ob.ext E3).ext E5).ext E7).other W11 (Or.inr (slot_ne (Or.inr (hw _ (List.mem_of_getElem? (i := 136) rfl))) (Or.inr (hw _ (List.mem_of_getElem? (i := 130) rfl))) (by decide) (t := .double) (t' := (.object "java/lang/String")) (by decide) (by decide)))).other W12 (Or.inr (slot_ne (Or.inr (hw _ (List.mem_of_getElem? (i := 136) rfl))) (Or.inr (hw _ (List.mem_of_getElem? (i := 132) rfl))) (by decide) (t := .double) (t' := .double) (by decide) (by decide)))).other W13 (Or.inr (slot_ne (Or.inr (hw _ (List.mem_of_getElem? (i := 136) rfl))) (Or.inr (hw _ (List.mem_of_getElem? (i := 134) rfl))) (by decide) (t := .double) (t' := .double) (by decide) (by decide)))) ((((((E_ob.ext E3).ext E5).ext E7).wr W11).wr W12).wr W13) (Or.inr ⟨(hw _ (List.mem_of_getElem? (i := 136) rfl)), rfl, hnm⟩) (hw _ (List.mem_of_getElem? (i := 74) rfl)) (ty := .double) (by decide) rfl rfl (g := (mkF m 166 #[.val (.ref ob), .val (.ref sa), .val (.double x2), .second, .val (.double x3), .second, .val (.double x4), .second, .val (.double x5), .second, .val (.double FP.dconst0), .second, .val (.double FP.dconst0), .second, .val (.ref an)] [(.double x4), (.ref ob)])) rfl rfl (hb hby d14_166)
  have Fw14 := ((((((F_b_ob.ext E3).ext E5).ext E7).other W11 (Or.inr (slot_ne (Or.inr (hw _ (List.mem_of_getElem? (i := 136) rfl))) (Or.inr (hw _ (List.mem_of_getElem? (i := 130) rfl))) (by decide) (t := .double) (t' := (.object "java/lang/String")) (by decide) (by decide)))).other W12 (Or.inr (slot_ne (Or.inr (hw _ (List.mem_of_getElem? (i := 136) rfl))) (Or.inr (hw _ (List.mem_of_getElem? (i := 132) rfl))) (by decide) (t := .double) (t' := .double) (by decide) (by decide)))).other W13 (Or.inr (slot_ne (Or.inr (hw _ (List.mem_of_getElem? (i := 136) rfl))) (Or.inr (hw _ (List.mem_of_getElem? (i := 134) rfl))) (by decide) (t := .double) (t' := .double) (by decide) (by decide)))).same W14
  have N14 := Fr.snoc X14 N13 g_ob
  refine own_step st14 ?_
  show own_Go p e below P T14 (mkF m 169 #[.val (.ref ob), .val (.ref sa), .val (.double x2), .second, .val (.double x3), .second, .val (.double x4), .second, .val (.double x5), .second, .val (.double FP.dconst0), .second, .val (.double FP.dconst0), .second, .val (.ref an)] [])
  refine own_step (fun _ k => XS.aloadN X14.here hx rfl (hb hby d14_169) rfl rfl k) ?_
  show own_Go p e below P T14 (mkF m 170 #[.val (.ref ob), .val (.ref sa), .val (.double x2), .second, .val (.double x3), .second, .val (.double x4), .second, .val (.double x5), .second, .val (.double FP.dconst0), .second, .val (.double FP.dconst0), .second, .val (.ref an)] [(.ref ob)])
  refine own_step (fun _ k => XS.dload X14.here hx rfl (hb hby d14_170) rfl k) ?_
  show own_Go p e below P T14 (mkF m 172 #[.val (.ref ob), .val (.ref sa), .val (.double x2), .second, .val (.double x3), .second, .val (.double x4), .second, .val (.double x5), .second, .val (.double FP.dconst0), .second, .val (.double FP.dconst0), .second, .val (.ref an)] [(.double x5), (.ref ob)])
  obtain ⟨T15, h15, X15, e15, W15, st15⟩ := putF X14 hx hZ7 hown7 (host := "") (Or.inl (hw _ (List.mem_of_getElem? (i := 137) rfl))) Via.refl e14 (((((((F_c1_ob.ext E3).ext E5).ext E7).other W11 (Or.inr (slot_ne (Or.inr (hw _ (List.mem_of_getElem? (i := 138) rfl))) (Or.inr (hw _ (List.mem_of_getElem? (i := 130) rfl))) (by decide) (t := .double) (t' := (.object "java/lang/String")) (by decide) (by decide)))).other W12 (Or.inr (slot_ne (Or.inr (hw _ (List.mem_of_getElem? (i := 138) rfl))) (Or.inr (hw _ (List.mem_of_getElem? (i := 132) rfl))) (by decide) (t := .double) (t' := .double) (by decide) (by decide)))).other W13 (Or.inr (slot_ne (Or.inr (hw _ (List.mem_of_getElem? (i := 138) rfl))) (Or.inr (hw _ (List.mem_of_getElem? (i := 134) rfl))) (by decide) (t := .double) (t' := .double) (by decide) (by decide)))).other W14 (Or.inr (slot_ne (Or.inr (hw _ (List.mem_of_getElem? (i := 138) rfl))) (Or.inr (hw _ (List.mem_of_getElem? (i := 136) rfl))) (by decide) (t := .double) (t' := .double) (by decide) (by decide)))) (((((((E_ob.ext E3).ext E5).ext E7).wr W11).wr W12).wr W13).wr W14) (Or.inr ⟨(hw _ (List.mem_of_getElem? (i := 138) rfl)), rfl, hnm⟩) (hw _ (List.mem_of_getElem? (i := 74) rfl)) (ty := .double) (by decide) rfl rfl (g := (mkF m 172 #[.val (.ref ob), .val (.ref sa), .val (.double x2), .second, .val (.double x3), .second, .val (.double x4), .second, .val (.double x5), .second, .val (.double FP.dconst0), .second, .val (.double FP.dconst0), .second, .val (.ref an)] [(.double x5), (.ref ob)])) rfl rfl (hb hby d14_172)
  have Fw15 := (((((((F_c1_ob.ext E3).ext E5).ext E7).other W11 (Or.inr (slot_ne (Or.inr (hw _ (List.mem_of_getElem? (i := 138) rfl))) (Or.inr (hw _ (List.mem_of_getElem? (i := 130) rfl))) (by decide) (t := .double) (t' := (.object "java/lang/String")) (by decide) (by decide)))).other W12 (Or.inr (slot_ne (Or.inr (hw _ (List.mem_of_getElem? (i := 138) rfl))) (Or.inr (hw _ (List.mem_of_getElem? (i := 132) rfl))) (by decide) (t := .double) (t' := .double) (by decide) (by decide)))).other W13 (Or.inr (slot_ne (Or.inr (hw _ (List.mem_of_getElem? (i := 138) rfl))) (Or.inr (hw _ (List.mem_of_getElem? (i := 134) rfl))) (by decide) (t := .double) (t' := .double) (by decide) (by decide)))).other W14 (Or.inr (slot_ne (Or.inr (hw _ (List.mem_of_getElem? (i := 138) rfl))) (Or.inr (hw _ (List.mem_of_getElem? (i := 136) rfl))) (by decide) (t := .double) (t' := .double) (by decide) (by decide)))).same W15
  have N15 := Fr.snoc X15 N14 g_ob
  refine own_step st15 ?_
  show own_Go p e below P T15 (mkF m 175 #[.val (.ref ob), .val (.ref sa), .val (.double x2), .second, .val (.double x3), .second, .val (.double x4), .second, .val (.double x5), .second, .val (.double FP.dconst0), .second, .val (.double FP.dconst0), .second, .val (.ref an)] [])
  refine own_step (fun _ k => XS.aloadN X15.here hx rfl (hb hby d14_175) rfl rfl k) ?_
  show own_Go p e below P T15 (mkF m 176 #[.val (.ref ob), .val (.ref sa), .val (.double x2), .second, .val (.double x3), .second, .val (.double x4), .second, .val (.double x5), .second, .val (.double FP.dconst0), .second, .val (.double FP.dconst0), .second, .val (.ref an)] [(.ref ob)])
  refine own_step (fun _ k => XS.dload X15.here hx rfl (hb hby d14_176) rfl k) ?_
  show own_Go p e below P T15 (mkF m 178 #[.val (.ref ob), .val (.ref sa), .val (.double x2), .second, .val (.double x3), .second, .val (.double x4), .second, .val (.double x5), .second, .val (.double FP.dconst0), .second, .val (.double FP.dconst0), .second, .val (.ref an)] [(.double FP.dconst0), (.ref ob)])
  obtain ⟨T16, h16, X16, e16, W16, st16⟩ := putF X15 hx hZ7 hown7 (host := "") (Or.inl (hw _ (List.mem_of_getElem? (i := 139) rfl))) Via.refl e15 ((((((((F_associationEnergy_ob.ext E3).ext E5).ext E7).other W11 (Or.inr (slot_ne (Or.inr (hw _ (List.mem_of_getElem? (i := 140) rfl))) (Or.inr (hw _ (List.mem_of_getElem? (i := 130) rfl))) (by decide) (t := .double) (t' := (.object "java/lang/String")) (by decide) (by decide)))).other W12 (Or.inr (slot_ne (Or.inr (hw _ (List.mem_of_getElem? (i := 140) rfl))) (Or.inr (hw _ (List.mem_of_getElem? (i := 132) rfl))) (by decide) (t := .double) (t' := .double) (by decide) (by decide)))).other W13 (Or.inr (slot_ne (Or.inr (hw _ (List.mem_of_getElem? (i := 140) rfl))) (Or.inr (hw _ (List.mem_of_getElem? (i := 134) rfl))) (by decide) (t := .double) (t' := .double) (by decide) (by decide)))).other W14 (Or.inr (slot_ne (Or.inr (hw _ (List.mem_of_getElem? (i := 140) rfl))) (Or.inr (hw _ (List.mem_of_getElem? (i := 136) rfl))) (by decide) (t := .double) (t' := .double) (by decide) (by decide)))).other W15 (Or.inr (slot_ne (Or.inr (hw _ (List.mem_of_getElem? (i := 140) rfl))) (Or.inr (hw _ (List.mem_of_getElem? (i := 138) rfl))) (by decide) (t := .double) (t' := .double) (by decide) (by decide)))) ((((((((E_ob.ext E3).ext E5).ext E7).wr W11).wr W12).wr W13).wr W14).wr W15) (Or.inr ⟨(hw _ (List.mem_of_getElem? (i := 140) rfl)), rfl, hnm⟩) (hw _ (List.mem_of_getElem? (i := 74) rfl)) (ty := .double) (by decide) rfl rfl (g := (mkF m 178 #[.val (.ref ob), .val (.ref sa), .val (.double x2), .second, .val (.double x3), .second, .val (.double x4), .second, .val (.double x5), .second, .val (.double FP.dconst0), .second, .val (.double FP.dconst0), .second, .val (.ref an)] [(.double FP.dconst0), (.ref ob)])) rfl rfl (hb hby d14_178)
  have Fw16 := ((((((((F_associationEnergy_ob.ext E3).ext E5).ext E7).other W11 (Or.inr (slot_ne (Or.inr (hw _ (List.mem_of_getElem? (i := 140) rfl))) (Or.inr (hw _ (List.mem_of_getElem? (i := 130) rfl))) (by decide) (t := .double) (t' := (.object "java/lang/String")) (by decide) (by decide)))).other W12 (Or.inr (slot_ne (Or.inr (hw _ (List.mem_of_getElem? (i := 140) rfl))) (Or.inr (hw _ (List.mem_of_getElem? (i := 132) rfl))) (by decide) (t := .double) (t' := .double) (by decide) (by decide)))).other W13 (Or.inr (slot_ne (Or.inr (hw _ (List.mem_of_getElem? (i := 140) rfl))) (Or.inr (hw _ (List.mem_of_getElem? (i := 134) rfl))) (by decide) (t := .double) (t' := .double) (by decide) (by decide)))).other W14 (Or.inr (slot_ne (Or.inr (hw _ (List.mem_of_getElem? (i := 140) rfl))) (Or.inr (hw _ (List.mem_of_getElem? (i := 136) rfl))) (by decide) (t := .double) (t' := .double) (by decide) (by decide)))).other W15 (Or.inr (slot_ne (Or.inr (hw _ (List.mem_of_getElem? (i := 140) rfl))) (Or.inr (hw _ (List.mem_of_getElem? (i := 138) rfl))) (by decide) (t := .double) (t' := .double) (by decide) (by decide)))).same W16
  have N16 := Fr.snoc X16 N15 g_ob
  refine own_step st16 ?_
  show own_Go p e below P T16 (mkF m 181 #[.val (.ref ob), .val (.ref sa), .val (.double x2), .second, .val (.double x3), .second, .val (.double x4), .second, .val (.double x5), .second, .val (.double FP.dconst0), .second, .val (.double FP.dconst0), .second, .val (.ref an)] [])
  refine own_step (fun _ k => XS.aloadN X16.here hx rfl (hb hby d14_181) rfl rfl k) ?_
  show own_Go p e below P T16 (mkF m 182 #[.val (.ref ob), .val (.ref sa), .val (.double x2), .second, .val (.double x3), .second, .val (.double x4), .second, .val (.double x5), .second, .val (.double FP.dconst0), .second, .val (.double FP.dconst0), .second, .val (.ref an)] [(.ref ob)])
  refine own_step (fun _ k => XS.dload X16.here hx rfl (hb hby d14_182) rfl k) ?_
  show own_Go p e below P T16 (mkF m 184 #[.val (.ref ob), .val (.ref sa), .val (.double x2), .second, .val (.double x3), .second, .val (.double x4), .second, .val (.double x5), .second, .val (.double FP.dconst0), .second, .val (.double FP.dconst0), .second, .val (.ref an)] [(.double FP.dconst0), (.ref ob)])
  obtain ⟨T17, h17, X17, e17, W17, st17⟩ := putF X16 hx hZ7 hown7 (host := "") (Or.inl (hw _ (List.mem_of_getElem? (i := 141) rfl))) Via.refl e16 (((((((((F_associationVolume_ob.ext E3).ext E5).ext E7).other W11 (Or.inr (slot_ne (Or.inr (hw _ (List.mem_of_getElem? (i := 142) rfl))) (Or.inr (hw _ (List.mem_of_getElem? (i := 130) rfl))) (by decide) (t := .double) (t' := (.object "java/lang/String")) (by decide) (by decide)))).other W12 (Or.inr (slot_ne (Or.inr (hw _ (List.mem_of_getElem? (i := 142) rfl))) (Or.inr (hw _ (List.mem_of_getElem? (i := 132) rfl))) (by decide) (t := .double) (t' := .double) (by decide) (by decide)))).other W13 (Or.inr (slot_ne (Or.inr (hw _ (List.mem_of_getElem? (i := 142) rfl))) (Or.inr (hw _ (List.mem_of_getElem? (i := 134) rfl))) (by decide) (t := .double) (t' := .double) (by decide) (by decide)))).other W14 (Or.inr (slot_ne (Or.inr (hw _ (List.mem_of_getElem? (i := 142) rfl))) (Or.inr (hw _ (List.mem_of_getElem? (i := 136) rfl))) (by decide) (t := .double) (t' := .double) (by decide) (by decide)))).other W15 (Or.inr (slot_ne (Or.inr (hw _ (List.mem_of_getElem? (i := 142) rfl))) (Or.inr (hw _ (List.mem_of_getElem? (i := 138) rfl))) (by decide) (t := .double) (t' := .double) (by decide) (by decide)))).other W16 (Or.inr (slot_ne (Or.inr (hw _ (List.mem_of_getElem? (i := 142) rfl))) (Or.inr (hw _ (List.mem_of_getElem? (i := 140) rfl))) (by decide) (t := .double) (t' := .double) (by decide) (by decide)))) (((((((((E_ob.ext E3).ext E5).ext E7).wr W11).wr W12).wr W13).wr W14).wr W15).wr W16) (Or.inr ⟨(hw _ (List.mem_of_getElem? (i := 142) rfl)), rfl, hnm⟩) (hw _ (List.mem_of_getElem? (i := 74) rfl)) (ty := .double) (by decide) rfl rfl (g := (mkF m 184 #[.val (.ref ob), .val (.ref sa), .val (.double x2), .second, .val (.double x3), .second, .val (.double x4), .second, .val (.double x5), .second, .val (.double FP.dconst0), .second, .val (.double FP.dconst0), .second, .val (.ref an)] [(.double FP.dconst0), (.ref ob)])) rfl rfl (hb hby d14_184)
  have Fw17 := (((((((((F_associationVolume_ob.ext E3).ext E5).ext E7).other W11 (Or.inr (slot_ne (Or.inr (hw _ (List.mem_of_getElem? (i := 142) rfl))) (Or.inr (hw _ (List.mem_of_getElem? (i := 130) rfl))) (by decide) (t := .double) (t' := (.object "java/lang/String")) (by decide) (by decide)))).other W12 (Or.inr (slot_ne (Or.inr (hw _ (List.mem_of_getElem? (i := 142) rfl))) (Or.inr (hw _ (List.mem_of_getElem? (i := 132) rfl))) (by decide) (t := .double) (t' := .double) (by decide) (by decide)))).other W13 (Or.inr (slot_ne (Or.inr (hw _ (List.mem_of_getElem? (i := 142) rfl))) (Or.inr (hw _ (List.mem_of_getElem? (i := 134) rfl))) (by decide) (t := .double) (t' := .double) (by decide) (by decide)))).other W14 (Or.inr (slot_ne (Or.inr (hw _ (List.mem_of_getElem? (i := 142) rfl))) (Or.inr (hw _ (List.mem_of_getElem? (i := 136) rfl))) (by decide) (t := .double) (t' := .double) (by decide) (by decide)))).other W15 (Or.inr (slot_ne (Or.inr (hw _ (List.mem_of_getElem? (i := 142) rfl))) (Or.inr (hw _ (List.mem_of_getElem? (i := 138) rfl))) (by decide) (t := .double) (t' := .double) (by decide) (by decide)))).other W16 (Or.inr (slot_ne (Or.inr (hw _ (List.mem_of_getElem? (i := 142) rfl))) (Or.inr (hw _ (List.mem_of_getElem? (i := 140) rfl))) (by decide) (t := .double) (t' := .double) (by decide) (by decide)))).same W17
  have N17 := Fr.snoc X17 N16 g_ob
  refine own_step st17 ?_
  show own_Go p e below P T17 (mkF m 187 #[.val (.ref ob), .val (.ref sa), .val (.double x2), .second, .val (.double x3), .second, .val (.double x4), .second, .val (.double x5), .second, .val (.double FP.dconst0), .second, .val (.double FP.dconst0), .second, .val (.ref an)] [])
  refine own_step (fun _ k => XS.aloadN X17.here hx rfl (hb hby d14_187) rfl rfl k) ?_
  show own_Go p e below P T17 (mkF m 188 #[.val (.ref ob), .val (.ref sa), .val (.double x2), .second, .val (.double x3), .second, .val (.double x4), .second, .val (.double x5), .second, .val (.double FP.dconst0), .second, .val (.double FP.dconst0), .second, .val (.ref an)] [(.ref ob)])
  refine own_step (fun _ k => XS.aload X17.here hx rfl (hb hby d14_188) rfl rfl k) ?_
  show own_Go p e below P T17 (mkF m 190 #[.val (.ref ob), .val (.ref sa), .val (.double x2), .second, .val (.double x3), .second, .val (.double x4), .second, .val (.double x5), .second, .val (.double FP.dconst0), .second, .val (.double FP.dconst0), .second, .val (.ref an)] [(.ref an), (.ref ob)])
  obtain ⟨T18, h18, X18, e18, W18, st18⟩ := putF X17 hx hZ7 hown7 (host := "") (Or.inl (hw _ (List.mem_of_getElem? (i := 143) rfl))) Via.refl e17 ((((((((((F_scheme_ob.ext E3).ext E5).ext E7).other W11 (Or.inr (slot_ne (Or.inr (hw _ (List.mem_of_getElem? (i := 144) rfl))) (Or.inr (hw _ (List.mem_of_getElem? (i := 130) rfl))) (by decide) (t := (.object "com/example/brinequil/brinequil/model/AssociationScheme")) (t' := (.object "java/lang/String")) (by decide) (by decide)))).other W12 (Or.inr (slot_ne (Or.inr (hw _ (List.mem_of_getElem? (i := 144) rfl))) (Or.inr (hw _ (List.mem_of_getElem? (i := 132) rfl))) (by decide) (t := (.object "com/example/brinequil/brinequil/model/AssociationScheme")) (t' := .double) (by decide) (by decide)))).other W13 (Or.inr (slot_ne (Or.inr (hw _ (List.mem_of_getElem? (i := 144) rfl))) (Or.inr (hw _ (List.mem_of_getElem? (i := 134) rfl))) (by decide) (t := (.object "com/example/brinequil/brinequil/model/AssociationScheme")) (t' := .double) (by decide) (by decide)))).other W14 (Or.inr (slot_ne (Or.inr (hw _ (List.mem_of_getElem? (i := 144) rfl))) (Or.inr (hw _ (List.mem_of_getElem? (i := 136) rfl))) (by decide) (t := (.object "com/example/brinequil/brinequil/model/AssociationScheme")) (t' := .double) (by decide) (by decide)))).other W15 (Or.inr (slot_ne (Or.inr (hw _ (List.mem_of_getElem? (i := 144) rfl))) (Or.inr (hw _ (List.mem_of_getElem? (i := 138) rfl))) (by decide) (t := (.object "com/example/brinequil/brinequil/model/AssociationScheme")) (t' := .double) (by decide) (by decide)))).other W16 (Or.inr (slot_ne (Or.inr (hw _ (List.mem_of_getElem? (i := 144) rfl))) (Or.inr (hw _ (List.mem_of_getElem? (i := 140) rfl))) (by decide) (t := (.object "com/example/brinequil/brinequil/model/AssociationScheme")) (t' := .double) (by decide) (by decide)))).other W17 (Or.inr (slot_ne (Or.inr (hw _ (List.mem_of_getElem? (i := 144) rfl))) (Or.inr (hw _ (List.mem_of_getElem? (i := 142) rfl))) (by decide) (t := (.object "com/example/brinequil/brinequil/model/AssociationScheme")) (t' := .double) (by decide) (by decide)))) ((((((((((E_ob.ext E3).ext E5).ext E7).wr W11).wr W12).wr W13).wr W14).wr W15).wr W16).wr W17) (Or.inr ⟨(hw _ (List.mem_of_getElem? (i := 144) rfl)), rfl, hnm⟩) (hw _ (List.mem_of_getElem? (i := 74) rfl)) (ty := (.object "com/example/brinequil/brinequil/model/AssociationScheme")) (by decide) rfl rfl (g := (mkF m 190 #[.val (.ref ob), .val (.ref sa), .val (.double x2), .second, .val (.double x3), .second, .val (.double x4), .second, .val (.double x5), .second, .val (.double FP.dconst0), .second, .val (.double FP.dconst0), .second, .val (.ref an)] [(.ref an), (.ref ob)])) rfl rfl (hb hby d14_190)
  have Fw18 := ((((((((((F_scheme_ob.ext E3).ext E5).ext E7).other W11 (Or.inr (slot_ne (Or.inr (hw _ (List.mem_of_getElem? (i := 144) rfl))) (Or.inr (hw _ (List.mem_of_getElem? (i := 130) rfl))) (by decide) (t := (.object "com/example/brinequil/brinequil/model/AssociationScheme")) (t' := (.object "java/lang/String")) (by decide) (by decide)))).other W12 (Or.inr (slot_ne (Or.inr (hw _ (List.mem_of_getElem? (i := 144) rfl))) (Or.inr (hw _ (List.mem_of_getElem? (i := 132) rfl))) (by decide) (t := (.object "com/example/brinequil/brinequil/model/AssociationScheme")) (t' := .double) (by decide) (by decide)))).other W13 (Or.inr (slot_ne (Or.inr (hw _ (List.mem_of_getElem? (i := 144) rfl))) (Or.inr (hw _ (List.mem_of_getElem? (i := 134) rfl))) (by decide) (t := (.object "com/example/brinequil/brinequil/model/AssociationScheme")) (t' := .double) (by decide) (by decide)))).other W14 (Or.inr (slot_ne (Or.inr (hw _ (List.mem_of_getElem? (i := 144) rfl))) (Or.inr (hw _ (List.mem_of_getElem? (i := 136) rfl))) (by decide) (t := (.object "com/example/brinequil/brinequil/model/AssociationScheme")) (t' := .double) (by decide) (by decide)))).other W15 (Or.inr (slot_ne (Or.inr (hw _ (List.mem_of_getElem? (i := 144) rfl))) (Or.inr (hw _ (List.mem_of_getElem? (i := 138) rfl))) (by decide) (t := (.object "com/example/brinequil/brinequil/model/AssociationScheme")) (t' := .double) (by decide) (by decide)))).other W16 (Or.inr (slot_ne (Or.inr (hw _ (List.mem_of_getElem? (i := 144) rfl))) (Or.inr (hw _ (List.mem_of_getElem? (i := 140) rfl))) (by decide) (t := (.object "com/example/brinequil/brinequil/model/AssociationScheme")) (t' := .double) (by decide) (by decide)))).other W17 (Or.inr (slot_ne (Or.inr (hw _ (List.mem_of_getElem? (i := 144) rfl))) (Or.inr (hw _ (List.mem_of_getElem? (i := 142) rfl))) (by decide) (t := (.object "com/example/brinequil/brinequil/model/AssociationScheme")) (t' := .double) (by decide) (by decide)))).same W18
  have N18 := Fr.snoc X18 N17 g_ob
  refine own_step st18 ?_
  show own_Go p e below P T18 (mkF m 193 #[.val (.ref ob), .val (.ref sa), .val (.double x2), .second, .val (.double x3), .second, .val (.double x4), .second, .val (.double x5), .second, .val (.double FP.dconst0), .second, .val (.double FP.dconst0), .second, .val (.ref an)] [])
  obtain ⟨fs, hr, hrun, hended, hend⟩ := X18.leaveW hS7 (by rw [e18]; exact (Nat.le_trans (Nat.le_trans (Nat.le_trans (Nat.le_trans (Nat.le_trans (Nat.le_trans (Nat.le_trans (Nat.le_trans hk7 (Keep.of_wr W11).1) (Keep.of_wr W12).1) (Keep.of_wr W13).1) (Keep.of_wr W14).1) (Keep.of_wr W15).1) (Keep.of_wr W16).1) (Keep.of_wr W17).1) (Keep.of_wr W18).1)) (v := none) (fun _ => rfl)
  refine ⟨_, _, X18.returnOut hx Bd.returns (hb hby d14_193) hr, hrun, hended, hfin _ _ ⟨_, _, rfl, ?_, hend.1, hend.2.1, hend.2.2.1, hend.2.2.2.mono (by decide) (by decide)⟩⟩
  show Q14 Z ob x2 x3 x4 x5 sa sv kb ch cc ci ta tc pv an h0 n0 none T18.heap _
  rw [e18]
  exact ⟨rfl, N18, ((((((((((((Keep.refl h0 [ob]).ext E3).ext E5).ext E7).wr W11 (Or.inl (List.mem_of_getElem? (i := 0) rfl))).wr W12 (Or.inl (List.mem_of_getElem? (i := 0) rfl))).wr W13 (Or.inl (List.mem_of_getElem? (i := 0) rfl))).wr W14 (Or.inl (List.mem_of_getElem? (i := 0) rfl))).wr W15 (Or.inl (List.mem_of_getElem? (i := 0) rfl))).wr W16 (Or.inl (List.mem_of_getElem? (i := 0) rfl))).wr W17 (Or.inl (List.mem_of_getElem? (i := 0) rfl))).wr W18 (Or.inl (List.mem_of_getElem? (i := 0) rfl)))⟩
theorem ef_10 (m : MethodId) (x0 : Addr) (x1 : UInt64) (x2 : UInt64) (x3 : UInt64) : entryFrame m #[(.ref x0), (.double x1), (.double x2), (.double x3)] 15 = mkF m 0 #[.val (.ref x0), .val (.double x1), .second, .val (.double x2), .second, .val (.double x3), .second, .unset, .unset, .unset, .unset, .unset, .unset, .unset, .unset] [] := by first | (simp [entryFrame, mkF, argsToLocals, Value.category]; done) | rfl
theorem d10_0 : decode prog_24_method_2_code 0 = .ok (.aload_n 0, 1) := by decide +kernel
theorem d10_1 : decode prog_24_method_2_code 1 = .ok (.ldc 20, 2) := by decide +kernel
theorem d10_3 : decode prog_24_method_2_code 3 = .ok (.dload_n 1, 1) := by decide +kernel
theorem d10_4 : decode prog_24_method_2_code 4 = .ok (.invokestatic 22, 3) := by decide +kernel
theorem d10_7 : decode prog_24_method_2_code 7 = .ok (.aload_n 0, 1) := by decide +kernel
theorem d10_8 : decode prog_24_method_2_code 8 = .ok (.ldc 82, 2) := by decide +kernel
theorem d10_10 : decode prog_24_method_2_code 10 = .ok (.dload_n 3, 1) := by decide +kernel
theorem d10_11 : decode prog_24_method_2_code 11 = .ok (.invokestatic 22, 3) := by decide +kernel
theorem d10_14 : decode prog_24_method_2_code 14 = .ok (.dload 5, 2) := by decide +kernel
theorem d10_16 : decode prog_24_method_2_code 16 = .ok (.invokestatic 32, 3) := by decide +kernel
theorem d10_19 : decode prog_24_method_2_code 19 = .ok (.ifCond .ne 19, 3) := by decide +kernel
theorem d10_38 : decode prog_24_method_2_code 38 = .ok (.ldc2_w 87, 3) := by decide +kernel
theorem d10_41 : decode prog_24_method_2_code 41 = .ok (.dload_n 1, 1) := by decide +kernel
theorem d10_42 : decode prog_24_method_2_code 42 = .ok (.dmul, 1) := by decide +kernel
theorem d10_43 : decode prog_24_method_2_code 43 = .ok (.dstore 7, 2) := by decide +kernel
theorem d10_45 : decode prog_24_method_2_code 45 = .ok (.ldc2_w 89, 3) := by decide +kernel
theorem d10_48 : decode prog_24_method_2_code 48 = .ok (.dload 7, 2) := by decide +kernel
theorem d10_50 : decode prog_24_method_2_code 50 = .ok (.dmul, 1) := by decide +kernel
theorem d10_51 : decode prog_24_method_2_code 51 = .ok (.dload 7, 2) := by decide +kernel
theorem d10_53 : decode prog_24_method_2_code 53 = .ok (.dmul, 1) := by decide +kernel
theorem d10_54 : decode prog_24_method_2_code 54 = .ok (.dload_n 3, 1) := by decide +kernel
theorem d10_55 : decode prog_24_method_2_code 55 = .ok (.ddiv, 1) := by decide +kernel
theorem d10_56 : decode prog_24_method_2_code 56 = .ok (.dstore 9, 2) := by decide +kernel
theorem d10_58 : decode prog_24_method_2_code 58 = .ok (.ldc2_w 91, 3) := by decide +kernel
theorem d10_61 : decode prog_24_method_2_code 61 = .ok (.dload 7, 2) := by decide +kernel
theorem d10_63 : decode prog_24_method_2_code 63 = .ok (.dmul, 1) := by decide +kernel
theorem d10_64 : decode prog_24_method_2_code 64 = .ok (.dload_n 3, 1) := by decide +kernel
theorem d10_65 : decode prog_24_method_2_code 65 = .ok (.ddiv, 1) := by decide +kernel
theorem d10_66 : decode prog_24_method_2_code 66 = .ok (.dstore 11, 2) := by decide +kernel
theorem d10_68 : decode prog_24_method_2_code 68 = .ok (.ldc2_w 93, 3) := by decide +kernel
theorem d10_71 : decode prog_24_method_2_code 71 = .ok (.ldc2_w 95, 3) := by decide +kernel
theorem d10_74 : decode prog_24_method_2_code 74 = .ok (.dload 5, 2) := by decide +kernel
theorem d10_76 : decode prog_24_method_2_code 76 = .ok (.dmul, 1) := by decide +kernel
theorem d10_77 : decode prog_24_method_2_code 77 = .ok (.dadd, 1) := by decide +kernel
theorem d10_78 : decode prog_24_method_2_code 78 = .ok (.ldc2_w 97, 3) := by decide +kernel
theorem d10_81 : decode prog_24_method_2_code 81 = .ok (.dload 5, 2) := by decide +kernel
theorem d10_83 : decode prog_24_method_2_code 83 = .ok (.dmul, 1) := by decide +kernel
theorem d10_84 : decode prog_24_method_2_code 84 = .ok (.dload 5, 2) := by decide +kernel
theorem d10_86 : decode prog_24_method_2_code 86 = .ok (.dmul, 1) := by decide +kernel
theorem d10_87 : decode prog_24_method_2_code 87 = .ok (.dsub, 1) := by decide +kernel
theorem d10_88 : decode prog_24_method_2_code 88 = .ok (.dstore 13, 2) := by decide +kernel
theorem d10_90 : decode prog_24_method_2_code 90 = .ok (.new 23, 3) := by decide +kernel
theorem d10_93 : decode prog_24_method_2_code 93 = .ok (.dup, 1) := by decide +kernel
theorem d10_94 : decode prog_24_method_2_code 94 = .ok (.aload_n 0, 1) := by decide +kernel
theorem d10_95 : decode prog_24_method_2_code 95 = .ok (.dload_n 1, 1) := by decide +kernel
theorem d10_96 : decode prog_24_method_2_code 96 = .ok (.dload 9, 2) := by decide +kernel
theorem d10_98 : decode prog_24_method_2_code 98 = .ok (.dload 11, 2) := by decide +kernel
theorem d10_100 : decode prog_24_method_2_code 100 = .ok (.dload 13, 2) := by decide +kernel
theorem d10_102 : decode prog_24_method_2_code 102 = .ok (.dconst 0, 1) := by decide +kernel
theorem d10_103 : decode prog_24_method_2_code 103 = .ok (.dconst 0, 1) := by decide +kernel
theorem d10_104 : decode prog_24_method_2_code 104 = .ok (.getstatic 45, 3) := by decide +kernel
theorem pd__Ljava_lang_StringDDDDDDLcom_example_brinequil_brinequil_model_AssociationScheme__V : parseMethodDescriptor "(Ljava/lang/String;DDDDDDLcom/example/brinequil/brinequil/model/AssociationScheme;)V" = some ⟨[(.object "java/lang/String"), .double, .double, .double, .double, .double, .double, (.object "com/example/brinequil/brinequil/model/AssociationScheme")], none⟩ := by decide +kernel
theorem d10_107 : decode prog_24_method_2_code 107 = .ok (.invokespecial 99, 3) := by decide +kernel
theorem d10_110 : decode prog_24_method_2_code 110 = .ok (.areturn, 1) := by decide +kernel
def Q10 (Z : State) (x1 : UInt64) (x2 : UInt64) (sa : Addr) (sv : Addr) (kb : ClassId) (ch : Int32) (cc : Int32) (ci : Addr) (ta : Addr) (tc : Cell) (pv : Int32) (an : Addr) (w4 : Int32) (h0 : Heap) (n0 : Nat) (v : Option Value) (h : Heap) (L : List Loc) : Prop := (∃ r, v = some (.ref r)) ∧ Fr n0 L ∧ Keep h0 h []
set_option maxRecDepth 65536 in
set_option maxHeartbeats 40000000 in
theorem rm10 (l : Launch) (Z : State) (a0 : Array Value) (hw : ∀ d ∈ tables_1, d.before a0 Z = true) (ws : List Jvm.Cond) (x1 : UInt64) (x2 : UInt64) (sa : Addr) (sv : Addr) (kb : ClassId) (ch : Int32) (cc : Int32) (ci : Addr) (ta : Addr) (tc : Cell) (pv : Int32) (an : Addr) (w4 : Int32) (h0 : Heap) (n0 : Nat) (Z0 : n0 ≤ h0.size) (F_coder_sa : Fld Z h0 sa "java/lang/String" "coder" "B" (.int (0 : Int32))) (F_value_sa : Fld Z h0 sa "java/lang/String" "value" "[B" (.ref sv)) (E_sa : Exa Z h0 sa "java/lang/String") (V_sv : Arv Z h0 sv kb .byte (1 : Int32) [(.int ch)] (.int (0 : Int32))) (S_cs : Sta Z h0 "java/lang/String" "COMPACT_STRINGS" "Z" (.int cc)) (hcc : ¬ (cc = (0 : Int32))) (S_ci : Sta Z h0 "java/lang/CharacterDataLatin1" "instance" "Ljava/lang/CharacterDataLatin1;" (.ref ci)) (E_ci : Exa Z h0 ci "java/lang/CharacterDataLatin1") (S_ta : Sta Z h0 "java/lang/CharacterDataLatin1" "A" "[I" (.ref ta)) (A_ta : Arr Z h0 ta tc .int) (hti : ¬ (ch < 0 ∨ tc.slots.size ≤ (ch).toNatClampNeg)) (htv : tc.slots[(ch).toNatClampNeg]? = some (.int pv)) (hpw : ¬ ((pv &&& (28672 : Int32)) = (16384 : Int32))) (hch : own_ch ch) (S_NONE : Sta Z h0 "com/example/brinequil/brinequil/model/AssociationScheme" "NONE" "Lcom/example/brinequil/brinequil/model/AssociationScheme;" (.ref an)) (hT : own_pd x1) (hP : own_pd x2) :
    MetFree l (⟨"com/example/brinequil/brinequil/model/Component", "nonAssociating", "(Ljava/lang/String;DDD)Lcom/example/brinequil/brinequil/model/Component;"⟩ : MethodName) (head1 (Jvm.Cond.code (⟨"com/example/brinequil/brinequil/model/Component", "nonAssociating", "(Ljava/lang/String;DDD)Lcom/example/brinequil/brinequil/model/Component;"⟩ : MethodName) prog_24_method_2_code 15 (some (.object "com/example/brinequil/brinequil/model/Component")) :: ws) ({ frames := 6, cells := 11, slots := 64, locals := 95 } : Room)) (fun a U => a = #[(.ref sa), (.double x1), (.double x2), (.double (FP.i2d w4))] ∧ Z.Warmed39 U.vm ∧ U.heap = h0) (fun _ _ _ _ _ => True) (fun _ U o U' => ∃ v L, o = .returned v ∧ Q10 Z x1 x2 sa sv kb ch cc ci ta tc pv an w4 h0 n0 v U'.heap L ∧ ReturnedEndW U o U' L ({ frames := 6, cells := 11, slots := 64, locals := 95 } : Room).cells ({ frames := 6, cells := 11, slots := 64, locals := 95 } : Room).slots) := by
  refine MetFree.of_bodySF (plainFor_of_name pn_com_example_brinequil_brinequil_model_Component) hisR ?_
  intro p e s m args below meth c s₁ Bd hml0 hP hK
  obtain ⟨rfl, hZ, hh⟩ := hP
  have hx := Bd.exec
  have hby := Bd.bytes
  have hml : c.maxLocals = 15 := hml0
  have hown : s.vm.findClass "com/example/brinequil/brinequil/model/Component" = some m.cls := findClass_of_methodNamed Bd.named
  have hnm := (name_of_methodNamed Bd.named Bd.method).1
  have hS0 : s.Since s.vm 0 := (State.WarmedH.refl s).since 0
  have hk0 : 0 ≤ h0.size := Nat.zero_le _
  have X0 : Stand p l e ({ frames := 6, cells := 11, slots := 64, locals := 95 } : Room) (s.setVm s.vm) m #[(.ref sa), (.double x1), (.double x2), (.double (FP.i2d w4))] below meth c s₁ [] 0 0 := Stand.of_body Bd
  have e0 : s₁.heap = h0 := by rw [← hh, Bd.state]; rfl
  have N0 := Fr.nil n0
  refine own_all ?_
  intro P hfin
  refine own_cast (ef_10 m sa x1 x2 (FP.i2d w4)) ?_
  show own_Go p e below P s₁ (mkF m 0 #[.val (.ref sa), .val (.double x1), .second, .val (.double x2), .second, .val (.double (FP.i2d w4)), .second, .unset, .unset, .unset, .unset, .unset, .unset, .unset, .unset] [])
  refine own_step (fun _ k => XS.aloadN X0.here hx rfl (hb hby d10_0) rfl rfl k) ?_
  show own_Go p e below P s₁ (mkF m 1 #[.val (.ref sa), .val (.double x1), .second, .val (.double x2), .second, .val (.double (FP.i2d w4)), .second, .unset, .unset, .unset, .unset, .unset, .unset, .unset, .unset] [(.ref sa)])
  obtain ⟨b1, T1, h1, kk1, X1, e1, E1, hS1, hk1, hZ1, hown1, st1⟩ := own_ldc X0 hx hZ hown (hw _ (List.mem_of_getElem? (i := 52) rfl)) (own_wS hw) e0 hS0 hk0 (g := (mkF m 1 #[.val (.ref sa), .val (.double x1), .second, .val (.double x2), .second, .val (.double (FP.i2d w4)), .second, .unset, .unset, .unset, .unset, .unset, .unset, .unset, .unset] [(.ref sa)])) rfl (hb hby d10_1) (n := 8) (by decide) (by decide) (by decide) (by decide)
  refine own_step st1 ?_
  show own_Go p e below P T1 (mkF m 3 #[.val (.ref sa), .val (.double x1), .second, .val (.double x2), .second, .val (.double (FP.i2d w4)), .second, .unset, .unset, .unset, .unset, .unset, .unset, .unset, .unset] [(.ref b1), (.ref sa)])
  refine own_step (fun _ k => XS.dloadN X1.here hx rfl (hb hby d10_3) rfl k) ?_
  show own_Go p e below P T1 (mkF m 4 #[.val (.ref sa), .val (.double x1), .second, .val (.double x2), .second, .val (.double (FP.i2d w4)), .second, .unset, .unset, .unset, .unset, .unset, .unset, .unset, .unset] [(.double x1), (.ref b1), (.ref sa)])
  obtain ⟨_, _, ⟨T2, L2, k2, n2⟩, -, X2, ⟨Lc2, hQ2, l2, y2, z2⟩, st2⟩ := Jvm.LawKit.callS X1 hx (y := (⟨"com/example/brinequil/brinequil/model/Component", "requirePositive", "(Ljava/lang/String;Ljava/lang/String;D)V"⟩ : MethodName)) hown1 (mvT hZ1 (hw _ (List.mem_of_getElem? (i := 55) rfl))) (mvT hZ1 (hw _ (List.mem_of_getElem? (i := 56) rfl))) (mvT hZ1 (hw _ (List.mem_of_getElem? (i := 50) rfl))) (mvT hZ1 (hw _ (List.mem_of_getElem? (i := 57) rfl))) (by decide) (backOf (W := 0) (rm11 l Z a0 hw [] sa b1 x1 h1 n0 (Nat.le_trans Z0 E1.1) (own_pd_fin hT) (own_pd_pos hT)) hZ1 (hw _ (List.mem_of_getElem? (i := 57) rfl)) (hw _ (List.mem_of_getElem? (i := 50) rfl)) (by decide) (by decide)) (g := (mkF m 4 #[.val (.ref sa), .val (.double x1), .second, .val (.double x2), .second, .val (.double (FP.i2d w4)), .second, .unset, .unset, .unset, .unset, .unset, .unset, .unset, .unset] [(.double x1), (.ref b1), (.ref sa)])) rfl (by rw [hml]; rfl) (argsL := [(.ref sa), (.ref b1), (.double x1)]) (rest := []) (lenOf pd__Ljava_lang_StringLjava_lang_StringD__V rfl) rfl (by show 2 * 0 + _ ≤ _; exact Nat.le_of_eq rfl) (hb hby d10_4) (fun _ _ => ⟨rfl, e1, (by decide : 2 + 0 ≤ _), (by decide : 12 + 0 ≤ _)⟩)
  dsimp only [Pt.U, Pt.locs, Pt.cells, Pt.slots] at X2 l2 y2 z2 st2 hQ2
  subst l2 y2 z2
  obtain ⟨rfl, N2q, e2⟩ := hQ2
  have N2 := Fr.app N0 N2q
  refine own_step st2 ?_
  show own_Go p e below P T2 (mkF m 7 #[.val (.ref sa), .val (.double x1), .second, .val (.double x2), .second, .val (.double (FP.i2d w4)), .second, .unset, .unset, .unset, .unset, .unset, .unset, .unset, .unset] [])
  refine own_step (fun _ k => XS.aloadN X2.here hx rfl (hb hby d10_7) rfl rfl k) ?_
  show own_Go p e below P T2 (mkF m 8 #[.val (.ref sa), .val (.double x1), .second, .val (.double x2), .second, .val (.double (FP.i2d w4)), .second, .unset, .unset, .unset, .unset, .unset, .unset, .unset, .unset] [(.ref sa)])
  obtain ⟨b3, T3, h3, kk3, X3, e3, E3, hS3, hk3, hZ3, hown3, st3⟩ := own_ldc X2 hx hZ1 hown1 (hw _ (List.mem_of_getElem? (i := 66) rfl)) (own_wS hw) e2 hS1 hk1 (g := (mkF m 8 #[.val (.ref sa), .val (.double x1), .second, .val (.double x2), .second, .val (.double (FP.i2d w4)), .second, .unset, .unset, .unset, .unset, .unset, .unset, .unset, .unset] [(.ref sa)])) rfl (hb hby d10_8) (n := 8) (by decide) (by decide) (by decide) (by decide)
  refine own_step st3 ?_
  show own_Go p e below P T3 (mkF m 10 #[.val (.ref sa), .val (.double x1), .second, .val (.double x2), .second, .val (.double (FP.i2d w4)), .second, .unset, .unset, .unset, .unset, .unset, .unset, .unset, .unset] [(.ref b3), (.ref sa)])
  refine own_step (fun _ k => XS.dloadN X3.here hx rfl (hb hby d10_10) rfl k) ?_
  show own_Go p e below P T3 (mkF m 11 #[.val (.ref sa), .val (.double x1), .second, .val (.double x2), .second, .val (.double (FP.i2d w4)), .second, .unset, .unset, .unset, .unset, .unset, .unset, .unset, .unset] [(.double x2), (.ref b3), (.ref sa)])
  obtain ⟨_, _, ⟨T4, L4, k4, n4⟩, -, X4, ⟨Lc4, hQ4, l4, y4, z4⟩, st4⟩ := Jvm.LawKit.callS X3 hx (y := (⟨"com/example/brinequil/brinequil/model/Component", "requirePositive", "(Ljava/lang/String;Ljava/lang/String;D)V"⟩ : MethodName)) hown3 (mvT hZ3 (hw _ (List.mem_of_getElem? (i := 55) rfl))) (mvT hZ3 (hw _ (List.mem_of_getElem? (i := 56) rfl))) (mvT hZ3 (hw _ (List.mem_of_getElem? (i := 50) rfl))) (mvT hZ3 (hw _ (List.mem_of_getElem? (i := 57) rfl))) (by decide) (backOf (W := 0) (rm11 l Z a0 hw [] sa b3 x2 h3 n0 (Nat.le_trans (Nat.le_trans Z0 E1.1) E3.1) (own_pd_fin hP) (own_pd_pos hP)) hZ3 (hw _ (List.mem_of_getElem? (i := 57) rfl)) (hw _ (List.mem_of_getElem? (i := 50) rfl)) (by decide) (by decide)) (g := (mkF m 11 #[.val (.ref sa), .val (.double x1), .second, .val (.double x2), .second, .val (.double (FP.i2d w4)), .second, .unset, .unset, .unset, .unset, .unset, .unset, .unset, .unset] [(.double x2), (.ref b3), (.ref sa)])) rfl (by rw [hml]; rfl) (argsL := [(.ref sa), (.ref b3), (.double x2)]) (rest := []) (lenOf pd__Ljava_lang_StringLjava_lang_StringD__V rfl) rfl (by show 2 * 0 + _ ≤ _; exact Nat.le_of_eq rfl) (hb hby d10_11) (fun _ _ => ⟨rfl, e3, (by decide : 4 + 0 ≤ _), (by decide : 24 + 0 ≤ _)⟩)
  dsimp only [Pt.U, Pt.locs, Pt.cells, Pt.slots] at X4 l4 y4 z4 st4 hQ4
  subst l4 y4 z4
  obtain ⟨rfl, N4q, e4⟩ := hQ4
  have N4 := Fr.app N2 N4q
  refine own_step st4 ?_
  show own_Go p e below P T4 (mkF m 14 #[.val (.ref sa), .val (.double x1), .second, .val (.double x2), .second, .val (.double (FP.i2d w4)), .second, .unset, .unset, .unset, .unset, .unset, .unset, .unset, .unset] [])
  refine own_step (fun _ k => XS.dload X4.here hx rfl (hb hby d10_14) rfl k) ?_
  show own_Go p e below P T4 (mkF m 16 #[.val (.ref sa), .val (.double x1), .second, .val (.double x2), .second, .val (.double (FP.i2d w4)), .second, .unset, .unset, .unset, .unset, .unset, .unset, .unset, .unset] [(.double (FP.i2d w4))])
  obtain ⟨_, _, ⟨T5, L5, k5, n5⟩, -, X5, ⟨Lc5, hQ5, l5, y5, z5⟩, st5⟩ := Jvm.LawKit.callS X4 hx (y := (⟨"java/lang/Double", "isFinite", "(D)Z"⟩ : MethodName)) hown3 (mvT hZ3 (hw _ (List.mem_of_getElem? (i := 58) rfl))) (mvT hZ3 (hw _ (List.mem_of_getElem? (i := 59) rfl))) (mvT hZ3 (hw _ (List.mem_of_getElem? (i := 60) rfl))) (mvT hZ3 (hw _ (List.mem_of_getElem? (i := 61) rfl))) (by decide) (backOf (W := 0) (rm12 l Z a0 hw [] (FP.i2d w4) h3 n0 (Nat.le_trans (Nat.le_trans Z0 E1.1) E3.1) (i2d_fin _)) hZ3 (hw _ (List.mem_of_getElem? (i := 61) rfl)) (hw _ (List.mem_of_getElem? (i := 60) rfl)) (by decide) (by decide)) (g := (mkF m 16 #[.val (.ref sa), .val (.double x1), .second, .val (.double x2), .second, .val (.double (FP.i2d w4)), .second, .unset, .unset, .unset, .unset, .unset, .unset, .unset, .unset] [(.double (FP.i2d w4))])) rfl (by rw [hml]; rfl) (argsL := [(.double (FP.i2d w4))]) (rest := []) (lenOf pd__D__Z rfl) rfl (by show 2 * 0 + _ ≤ _; exact Nat.le_of_eq rfl) (hb hby d10_16) (fun _ _ => ⟨rfl, e4, (by decide : 4 + 0 ≤ _), (by decide : 24 + 0 ≤ _)⟩)
  dsimp only [Pt.U, Pt.locs, Pt.cells, Pt.slots] at X5 l5 y5 z5 st5 hQ5
  subst l5 y5 z5
  obtain ⟨rfl, N5q, e5⟩ := hQ5
  have N5 := Fr.app N4 N5q
  refine own_step st5 ?_
  show own_Go p e below P T5 (mkF m 19 #[.val (.ref sa), .val (.double x1), .second, .val (.double x2), .second, .val (.double (FP.i2d w4)), .second, .unset, .unset, .unset, .unset, .unset, .unset, .unset, .unset] [(.int (1 : Int32))])
  refine own_step (fun _ k => XS.ifYes X5.here hx rfl (pc0 := 19) (pc' := 38) rfl (hb hby d10_19) rfl ((if0 _ _).trans (feq (by decide : ¬ ((1 : Int32) = (0 : Int32)))).2) (by decide) (by decide) k) ?_
  show own_Go p e below P T5 (mkF m 38 #[.val (.ref sa), .val (.double x1), .second, .val (.double x2), .second, .val (.double (FP.i2d w4)), .second, .unset, .unset, .unset, .unset, .unset, .unset, .unset, .unset] [])
  refine own_step (fun t k => X5.ldc2DoubleC hx hown3 (mvT hZ3 (hw _ (List.mem_of_getElem? (i := 67) rfl))) (g := (mkF m 38 #[.val (.ref sa), .val (.double x1), .second, .val (.double x2), .second, .val (.double (FP.i2d w4)), .second, .unset, .unset, .unset, .unset, .unset, .unset, .unset, .unset] [])) rfl (hb hby d10_38) t k) ?_
  show own_Go p e below P T5 (mkF m 41 #[.val (.ref sa), .val (.double x1), .second, .val (.double x2), .second, .val (.double (FP.i2d w4)), .second, .unset, .unset, .unset, .unset, .unset, .unset, .unset, .unset] [(.double (4590655622382989064 : UInt64))])
  refine own_step (fun _ k => XS.dloadN X5.here hx rfl (hb hby d10_41) rfl k) ?_
  show own_Go p e below P T5 (mkF m 42 #[.val (.ref sa), .val (.double x1), .second, .val (.double x2), .second, .val (.double (FP.i2d w4)), .second, .unset, .unset, .unset, .unset, .unset, .unset, .unset, .unset] [(.double x1), (.double (4590655622382989064 : UInt64))])
  refine own_step (fun _ k => XS.dmulS X5.here hx rfl (hb hby d10_42) rfl (own_nn (own_rtc hT).1 (by decide)) rfl k) ?_
  show own_Go p e below P T5 (mkF m 43 #[.val (.ref sa), .val (.double x1), .second, .val (.double x2), .second, .val (.double (FP.i2d w4)), .second, .unset, .unset, .unset, .unset, .unset, .unset, .unset, .unset] [(.double (FP.dmul (4590655622382989064 : UInt64) x1))])
  have hR := own_rtc hT
  generalize hn_xr : (FP.dmul (4590655622382989064 : UInt64) x1) = xr
  rw [show FP.dmul own_G x1 = _ from hn_xr] at hR
  refine own_step (fun _ k => XS.dstore X5.here hx rfl (hb hby d10_43) rfl (l' := #[.val (.ref sa), .val (.double x1), .second, .val (.double x2), .second, .val (.double (FP.i2d w4)), .second, .val (.double xr), .second, .unset, .unset, .unset, .unset, .unset, .unset]) rfl k) ?_
  show own_Go p e below P T5 (mkF m 45 #[.val (.ref sa), .val (.double x1), .second, .val (.double x2), .second, .val (.double (FP.i2d w4)), .second, .val (.double xr), .second, .unset, .unset, .unset, .unset, .unset, .unset] [])
  refine own_step (fun t k => X5.ldc2DoubleC hx hown3 (mvT hZ3 (hw _ (List.mem_of_getElem? (i := 68) rfl))) (g := (mkF m 45 #[.val (.ref sa), .val (.double x1), .second, .val (.double x2), .second, .val (.double (FP.i2d w4)), .second, .val (.double xr), .second, .unset, .unset, .unset, .unset, .unset, .unset] [])) rfl (hb hby d10_45) t k) ?_
  show own_Go p e below P T5 (mkF m 48 #[.val (.ref sa), .val (.double x1), .second, .val (.double x2), .second, .val (.double (FP.i2d w4)), .second, .val (.double xr), .second, .unset, .unset, .unset, .unset, .unset, .unset] [(.double (4601372414992739279 : UInt64))])
  refine own_step (fun _ k => XS.dload X5.here hx rfl (hb hby d10_48) rfl k) ?_
  show own_Go p e below P T5 (mkF m 50 #[.val (.ref sa), .val (.double x1), .second, .val (.double x2), .second, .val (.double (FP.i2d w4)), .second, .val (.double xr), .second, .unset, .unset, .unset, .unset, .unset, .unset] [(.double xr), (.double (4601372414992739279 : UInt64))])
  refine own_step (fun _ k => XS.dmulS X5.here hx rfl (hb hby d10_50) rfl (own_nn (own_OAr hR).1 (by decide)) rfl k) ?_
  show own_Go p e below P T5 (mkF m 51 #[.val (.ref sa), .val (.double x1), .second, .val (.double x2), .second, .val (.double (FP.i2d w4)), .second, .val (.double xr), .second, .unset, .unset, .unset, .unset, .unset, .unset] [(.double (FP.dmul (4601372414992739279 : UInt64) xr))])
  have hU := own_OAr hR
  generalize hn_xu : (FP.dmul (4601372414992739279 : UInt64) xr) = xu
  rw [show FP.dmul own_OA xr = _ from hn_xu] at hU
  refine own_step (fun _ k => XS.dload X5.here hx rfl (hb hby d10_51) rfl k) ?_
  show own_Go p e below P T5 (mkF m 53 #[.val (.ref sa), .val (.double x1), .second, .val (.double x2), .second, .val (.double (FP.i2d w4)), .second, .val (.double xr), .second, .unset, .unset, .unset, .unset, .unset, .unset] [(.double xr), (.double xu)])
  refine own_step (fun _ k => XS.dmulS X5.here hx rfl (hb hby d10_53) rfl (own_nn (own_OArr hU hR).1 (by decide)) rfl k) ?_
  show own_Go p e below P T5 (mkF m 54 #[.val (.ref sa), .val (.double x1), .second, .val (.double x2), .second, .val (.double (FP.i2d w4)), .second, .val (.double xr), .second, .unset, .unset, .unset, .unset, .unset, .unset] [(.double (FP.dmul xu xr))])
  have hV := own_OArr hU hR
  generalize hn_xv : (FP.dmul xu xr) = xv
  rw [show (FP.dmul xu xr) = _ from hn_xv] at hV
  refine own_step (fun _ k => XS.dloadN X5.here hx rfl (hb hby d10_54) rfl k) ?_
  show own_Go p e below P T5 (mkF m 55 #[.val (.ref sa), .val (.double x1), .second, .val (.double x2), .second, .val (.double (FP.i2d w4)), .second, .val (.double xr), .second, .unset, .unset, .unset, .unset, .unset, .unset] [(.double x2), (.double xv)])
  refine own_step (fun _ k => XS.ddivS X5.here hx rfl (hb hby d10_55) rfl (own_nn (own_a0 hV (by decide) hP).1 (by decide)) rfl k) ?_
  show own_Go p e below P T5 (mkF m 56 #[.val (.ref sa), .val (.double x1), .second, .val (.double x2), .second, .val (.double (FP.i2d w4)), .second, .val (.double xr), .second, .unset, .unset, .unset, .unset, .unset, .unset] [(.double (FP.ddiv xv x2))])
  have hA := own_a0 hV (by decide) hP
  generalize hn_xa : (FP.ddiv xv x2) = xa
  rw [show (FP.ddiv xv x2) = _ from hn_xa] at hA
  refine own_step (fun _ k => XS.dstore X5.here hx rfl (hb hby d10_56) rfl (l' := #[.val (.ref sa), .val (.double x1), .second, .val (.double x2), .second, .val (.double (FP.i2d w4)), .second, .val (.double xr), .second, .val (.double xa), .second, .unset, .unset, .unset, .unset]) rfl k) ?_
  show own_Go p e below P T5 (mkF m 58 #[.val (.ref sa), .val (.double x1), .second, .val (.double x2), .second, .val (.double (FP.i2d w4)), .second, .val (.double xr), .second, .val (.double xa), .second, .unset, .unset, .unset, .unset] [])
  refine own_step (fun t k => X5.ldc2DoubleC hx hown3 (mvT hZ3 (hw _ (List.mem_of_getElem? (i := 69) rfl))) (g := (mkF m 58 #[.val (.ref sa), .val (.double x1), .second, .val (.double x2), .second, .val (.double (FP.i2d w4)), .second, .val (.double xr), .second, .val (.double xa), .second, .unset, .unset, .unset, .unset] [])) rfl (hb hby d10_58) t k) ?_
  show own_Go p e below P T5 (mkF m 61 #[.val (.ref sa), .val (.double x1), .second, .val (.double x2), .second, .val (.double (FP.i2d w4)), .second, .val (.double xr), .second, .val (.double xa), .second, .unset, .unset, .unset, .unset] [(.double (4590907490610611004 : UInt64))])
  refine own_step (fun _ k => XS.dload X5.here hx rfl (hb hby d10_61) rfl k) ?_
  show own_Go p e below P T5 (mkF m 63 #[.val (.ref sa), .val (.double x1), .second, .val (.double x2), .second, .val (.double (FP.i2d w4)), .second, .val (.double xr), .second, .val (.double xa), .second, .unset, .unset, .unset, .unset] [(.double xr), (.double (4590907490610611004 : UInt64))])
  refine own_step (fun _ k => XS.dmulS X5.here hx rfl (hb hby d10_63) rfl (own_nn (own_OBr hR).1 (by decide)) rfl k) ?_
  show own_Go p e below P T5 (mkF m 64 #[.val (.ref sa), .val (.double x1), .second, .val (.double x2), .second, .val (.double (FP.i2d w4)), .second, .val (.double xr), .second, .val (.double xa), .second, .unset, .unset, .unset, .unset] [(.double (FP.dmul (4590907490610611004 : UInt64) xr))])
  have hB := own_OBr hR
  generalize hn_xc : (FP.dmul (4590907490610611004 : UInt64) xr) = xc
  rw [show FP.dmul own_OB xr = _ from hn_xc] at hB
  refine own_step (fun _ k => XS.dloadN X5.here hx rfl (hb hby d10_64) rfl k) ?_
  show own_Go p e below P T5 (mkF m 65 #[.val (.ref sa), .val (.double x1), .second, .val (.double x2), .second, .val (.double (FP.i2d w4)), .second, .val (.double xr), .second, .val (.double xa), .second, .unset, .unset, .unset, .unset] [(.double x2), (.double xc)])
  refine own_step (fun _ k => XS.ddivS X5.here hx rfl (hb hby d10_65) rfl (own_nn (own_a0 hB (by decide) hP).1 (by decide)) rfl k) ?_
  show own_Go p e below P T5 (mkF m 66 #[.val (.ref sa), .val (.double x1), .second, .val (.double x2), .second, .val (.double (FP.i2d w4)), .second, .val (.double xr), .second, .val (.double xa), .second, .unset, .unset, .unset, .unset] [(.double (FP.ddiv xc x2))])
  have hBB := own_a0 hB (by decide) hP
  generalize hn_xb : (FP.ddiv xc x2) = xb
  rw [show (FP.ddiv xc x2) = _ from hn_xb] at hBB
  refine own_step (fun _ k => XS.dstore X5.here hx rfl (hb hby d10_66) rfl (l' := #[.val (.ref sa), .val (.double x1), .second, .val (.double x2), .second, .val (.double (FP.i2d w4)), .second, .val (.double xr), .second, .val (.double xa), .second, .val (.double xb), .second, .unset, .unset]) rfl k) ?_
  show own_Go p e below P T5 (mkF m 68 #[.val (.ref sa), .val (.double x1), .second, .val (.double x2), .second, .val (.double (FP.i2d w4)), .second, .val (.double xr), .second, .val (.double xa), .second, .val (.double xb), .second, .unset, .unset] [])
  refine own_step (fun t k => X5.ldc2DoubleC hx hown3 (mvT hZ3 (hw _ (List.mem_of_getElem? (i := 70) rfl))) (g := (mkF m 68 #[.val (.ref sa), .val (.double x1), .second, .val (.double x2), .second, .val (.double (FP.i2d w4)), .second, .val (.double xr), .second, .val (.double xa), .second, .val (.double xb), .second, .unset, .unset] [])) rfl (hb hby d10_68) t k) ?_
  show own_Go p e below P T5 (mkF m 71 #[.val (.ref sa), .val (.double x1), .second, .val (.double x2), .second, .val (.double (FP.i2d w4)), .second, .val (.double xr), .second, .val (.double xa), .second, .val (.double xb), .second, .unset, .unset] [(.double (4602318531202457272 : UInt64))])
  refine own_step (fun t k => X5.ldc2DoubleC hx hown3 (mvT hZ3 (hw _ (List.mem_of_getElem? (i := 71) rfl))) (g := (mkF m 71 #[.val (.ref sa), .val (.double x1), .second, .val (.double x2), .second, .val (.double (FP.i2d w4)), .second, .val (.double xr), .second, .val (.double xa), .second, .val (.double xb), .second, .unset, .unset] [(.double (4602318531202457272 : UInt64))])) rfl (hb hby d10_71) t k) ?_
  show own_Go p e below P T5 (mkF m 74 #[.val (.ref sa), .val (.double x1), .second, .val (.double x2), .second, .val (.double (FP.i2d w4)), .second, .val (.double xr), .second, .val (.double xa), .second, .val (.double xb), .second, .unset, .unset] [(.double (4609767484986128073 : UInt64)), (.double (4602318531202457272 : UInt64))])
  refine own_step (fun _ k => XS.dload X5.here hx rfl (hb hby d10_74) rfl k) ?_
  show own_Go p e below P T5 (mkF m 76 #[.val (.ref sa), .val (.double x1), .second, .val (.double x2), .second, .val (.double (FP.i2d w4)), .second, .val (.double xr), .second, .val (.double xa), .second, .val (.double xb), .second, .unset, .unset] [(.double (FP.i2d w4)), (.double (4609767484986128073 : UInt64)), (.double (4602318531202457272 : UInt64))])
  refine own_step (fun _ k => XS.dmulS X5.here hx rfl (hb hby d10_76) rfl (own_nn (own_c1a _) (by decide)) rfl k) ?_
  show own_Go p e below P T5 (mkF m 77 #[.val (.ref sa), .val (.double x1), .second, .val (.double x2), .second, .val (.double (FP.i2d w4)), .second, .val (.double xr), .second, .val (.double xa), .second, .val (.double xb), .second, .unset, .unset] [(.double (FP.dmul (4609767484986128073 : UInt64) (FP.i2d w4))), (.double (4602318531202457272 : UInt64))])
  refine own_step (fun _ k => XS.daddS X5.here hx rfl (hb hby d10_77) rfl (own_nn (own_c1b _) (by decide)) rfl k) ?_
  show own_Go p e below P T5 (mkF m 78 #[.val (.ref sa), .val (.double x1), .second, .val (.double x2), .second, .val (.double (FP.i2d w4)), .second, .val (.double xr), .second, .val (.double xa), .second, .val (.double xb), .second, .unset, .unset] [(.double (FP.dadd (4602318531202457272 : UInt64) (FP.dmul (4609767484986128073 : UInt64) (FP.i2d w4))))])
  refine own_step (fun t k => X5.ldc2DoubleC hx hown3 (mvT hZ3 (hw _ (List.mem_of_getElem? (i := 72) rfl))) (g := (mkF m 78 #[.val (.ref sa), .val (.double x1), .second, .val (.double x2), .second, .val (.double (FP.i2d w4)), .second, .val (.double xr), .second, .val (.double xa), .second, .val (.double xb), .second, .unset, .unset] [(.double (FP.dadd (4602318531202457272 : UInt64) (FP.dmul (4609767484986128073 : UInt64) (FP.i2d w4))))])) rfl (hb hby d10_78) t k) ?_
  show own_Go p e below P T5 (mkF m 81 #[.val (.ref sa), .val (.double x1), .second, .val (.double x2), .second, .val (.double (FP.i2d w4)), .second, .val (.double xr), .second, .val (.double xa), .second, .val (.double xb), .second, .unset, .unset] [(.double (4595509088565873082 : UInt64)), (.double (FP.dadd (4602318531202457272 : UInt64) (FP.dmul (4609767484986128073 : UInt64) (FP.i2d w4))))])
  refine own_step (fun _ k => XS.dload X5.here hx rfl (hb hby d10_81) rfl k) ?_
  show own_Go p e below P T5 (mkF m 83 #[.val (.ref sa), .val (.double x1), .second, .val (.double x2), .second, .val (.double (FP.i2d w4)), .second, .val (.double xr), .second, .val (.double xa), .second, .val (.double xb), .second, .unset, .unset] [(.double (FP.i2d w4)), (.double (4595509088565873082 : UInt64)), (.double (FP.dadd (4602318531202457272 : UInt64) (FP.dmul (4609767484986128073 : UInt64) (FP.i2d w4))))])
  refine own_step (fun _ k => XS.dmulS X5.here hx rfl (hb hby d10_83) rfl (own_nn (own_c1c _) (by decide)) rfl k) ?_
  show own_Go p e below P T5 (mkF m 84 #[.val (.ref sa), .val (.double x1), .second, .val (.double x2), .second, .val (.double (FP.i2d w4)), .second, .val (.double xr), .second, .val (.double xa), .second, .val (.double xb), .second, .unset, .unset] [(.double (FP.dmul (4595509088565873082 : UInt64) (FP.i2d w4))), (.double (FP.dadd (4602318531202457272 : UInt64) (FP.dmul (4609767484986128073 : UInt64) (FP.i2d w4))))])
  refine own_step (fun _ k => XS.dload X5.here hx rfl (hb hby d10_84) rfl k) ?_
  show own_Go p e below P T5 (mkF m 86 #[.val (.ref sa), .val (.double x1), .second, .val (.double x2), .second, .val (.double (FP.i2d w4)), .second, .val (.double xr), .second, .val (.double xa), .second, .val (.double xb), .second, .unset, .unset] [(.double (FP.i2d w4)), (.double (FP.dmul (4595509088565873082 : UInt64) (FP.i2d w4))), (.double (FP.dadd (4602318531202457272 : UInt64) (FP.dmul (4609767484986128073 : UInt64) (FP.i2d w4))))])
  refine own_step (fun _ k => XS.dmulS X5.here hx rfl (hb hby d10_86) rfl (own_nn (own_c1d _) (by decide)) rfl k) ?_
  show own_Go p e below P T5 (mkF m 87 #[.val (.ref sa), .val (.double x1), .second, .val (.double x2), .second, .val (.double (FP.i2d w4)), .second, .val (.double xr), .second, .val (.double xa), .second, .val (.double xb), .second, .unset, .unset] [(.double (FP.dmul (FP.dmul (4595509088565873082 : UInt64) (FP.i2d w4)) (FP.i2d w4))), (.double (FP.dadd (4602318531202457272 : UInt64) (FP.dmul (4609767484986128073 : UInt64) (FP.i2d w4))))])
  refine own_step (fun _ k => XS.dsubS X5.here hx rfl (hb hby d10_87) rfl (own_nn (own_c1e _) (by decide)) rfl k) ?_
  show own_Go p e below P T5 (mkF m 88 #[.val (.ref sa), .val (.double x1), .second, .val (.double x2), .second, .val (.double (FP.i2d w4)), .second, .val (.double xr), .second, .val (.double xa), .second, .val (.double xb), .second, .unset, .unset] [(.double (FP.dsub (FP.dadd (4602318531202457272 : UInt64) (FP.dmul (4609767484986128073 : UInt64) (FP.i2d w4))) (FP.dmul (FP.dmul (4595509088565873082 : UInt64) (FP.i2d w4)) (FP.i2d w4))))])
  have hE := own_c1e w4
  generalize hn_xe : (FP.dsub (FP.dadd (4602318531202457272 : UInt64) (FP.dmul (4609767484986128073 : UInt64) (FP.i2d w4))) (FP.dmul (FP.dmul (4595509088565873082 : UInt64) (FP.i2d w4)) (FP.i2d w4))) = xe
  rw [show FP.dsub (FP.dadd own_c48 (FP.dmul own_c157 (FP.i2d w4))) (FP.dmul (FP.dmul own_c176 (FP.i2d w4)) (FP.i2d w4)) = _ from hn_xe] at hE
  refine own_step (fun _ k => XS.dstore X5.here hx rfl (hb hby d10_88) rfl (l' := #[.val (.ref sa), .val (.double x1), .second, .val (.double x2), .second, .val (.double (FP.i2d w4)), .second, .val (.double xr), .second, .val (.double xa), .second, .val (.double xb), .second, .val (.double xe), .second]) rfl k) ?_
  show own_Go p e below P T5 (mkF m 90 #[.val (.ref sa), .val (.double x1), .second, .val (.double x2), .second, .val (.double (FP.i2d w4)), .second, .val (.double xr), .second, .val (.double xa), .second, .val (.double xb), .second, .val (.double xe), .second] [])
  obtain ⟨T6, h6, X6, e6, E6, A6, D6, -, st6⟩ := newO X5 hx hZ3 hown3 (hw _ (List.mem_of_getElem? (i := 73) rfl)) (hw _ (List.mem_of_getElem? (i := 74) rfl)) (hw _ (List.mem_of_getElem? (i := 50) rfl)) e5 (g := (mkF m 90 #[.val (.ref sa), .val (.double x1), .second, .val (.double x2), .second, .val (.double (FP.i2d w4)), .second, .val (.double xr), .second, .val (.double xa), .second, .val (.double xb), .second, .val (.double xe), .second] [])) rfl (hb hby d10_90) (by decide) (by decide)
  obtain ⟨b6, g6⟩ : ∃ z, z = h3.size := ⟨_, rfl⟩
  rw [← g6] at A6 D6 st6
  have g_b6 : n0 ≤ b6 := Nat.le_trans (Nat.le_trans (Nat.le_trans Z0 E1.1) E3.1) (Nat.le_of_eq g6.symm)
  have sz_b6 : h0.size ≤ b6 := Nat.le_trans (((Keep.refl h0 []).ext E1).ext E3).1 (Nat.le_of_eq g6.symm)
  have E_b6 := A6
  have F_name_b6 : Fld Z h6 b6 "com/example/brinequil/brinequil/model/Component" "name" "Ljava/lang/String;" .null := D6 (Or.inr (hw _ (List.mem_of_getElem? (i := 130) rfl))) (ty := (.object "java/lang/String")) (by decide)
  have F_criticalTemperature_b6 : Fld Z h6 b6 "com/example/brinequil/brinequil/model/Component" "criticalTemperature" "D" (.double (0 : UInt64)) := D6 (Or.inr (hw _ (List.mem_of_getElem? (i := 132) rfl))) (ty := .double) (by decide)
  have F_a0_b6 : Fld Z h6 b6 "com/example/brinequil/brinequil/model/Component" "a0" "D" (.double (0 : UInt64)) := D6 (Or.inr (hw _ (List.mem_of_getElem? (i := 134) rfl))) (ty := .double) (by decide)
  have F_b_b6 : Fld Z h6 b6 "com/example/brinequil/brinequil/model/Component" "b" "D" (.double (0 : UInt64)) := D6 (Or.inr (hw _ (List.mem_of_getElem? (i := 136) rfl))) (ty := .double) (by decide)
  have F_c1_b6 : Fld Z h6 b6 "com/example/brinequil/brinequil/model/Component" "c1" "D" (.double (0 : UInt64)) := D6 (Or.inr (hw _ (List.mem_of_getElem? (i := 138) rfl))) (ty := .double) (by decide)
  have F_associationEnergy_b6 : Fld Z h6 b6 "com/example/brinequil/brinequil/model/Component" "associationEnergy" "D" (.double (0 : UInt64)) := D6 (Or.inr (hw _ (List.mem_of_getElem? (i := 140) rfl))) (ty := .double) (by decide)
  have F_associationVolume_b6 : Fld Z h6 b6 "com/example/brinequil/brinequil/model/Component" "associationVolume" "D" (.double (0 : UInt64)) := D6 (Or.inr (hw _ (List.mem_of_getElem? (i := 142) rfl))) (ty := .double) (by decide)
  have F_scheme_b6 : Fld Z h6 b6 "com/example/brinequil/brinequil/model/Component" "scheme" "Lcom/example/brinequil/brinequil/model/AssociationScheme;" .null := D6 (Or.inr (hw _ (List.mem_of_getElem? (i := 144) rfl))) (ty := (.object "com/example/brinequil/brinequil/model/AssociationScheme")) (by decide)
  refine own_step st6 ?_
  show own_Go p e below P T6 (mkF m 93 #[.val (.ref sa), .val (.double x1), .second, .val (.double x2), .second, .val (.double (FP.i2d w4)), .second, .val (.double xr), .second, .val (.double xa), .second, .val (.double xb), .second, .val (.double xe), .second] [(.ref b6)])
  refine own_step (fun _ k => XS.dup X6.here hx rfl (hb hby d10_93) rfl rfl k) ?_
  show own_Go p e below P T6 (mkF m 94 #[.val (.ref sa), .val (.double x1), .second, .val (.double x2), .second, .val (.double (FP.i2d w4)), .second, .val (.double xr), .second, .val (.double xa), .second, .val (.double xb), .second, .val (.double xe), .second] [(.ref b6), (.ref b6)])
  refine own_step (fun _ k => XS.aloadN X6.here hx rfl (hb hby d10_94) rfl rfl k) ?_
  show own_Go p e below P T6 (mkF m 95 #[.val (.ref sa), .val (.double x1), .second, .val (.double x2), .second, .val (.double (FP.i2d w4)), .second, .val (.double xr), .second, .val (.double xa), .second, .val (.double xb), .second, .val (.double xe), .second] [(.ref sa), (.ref b6), (.ref b6)])
  refine own_step (fun _ k => XS.dloadN X6.here hx rfl (hb hby d10_95) rfl k) ?_
  show own_Go p e below P T6 (mkF m 96 #[.val (.ref sa), .val (.double x1), .second, .val (.double x2), .second, .val (.double (FP.i2d w4)), .second, .val (.double xr), .second, .val (.double xa), .second, .val (.double xb), .second, .val (.double xe), .second] [(.double x1), (.ref sa), (.ref b6), (.ref b6)])
  refine own_step (fun _ k => XS.dload X6.here hx rfl (hb hby d10_96) rfl k) ?_
  show own_Go p e below P T6 (mkF m 98 #[.val (.ref sa), .val (.double x1), .second, .val (.double x2), .second, .val (.double (FP.i2d w4)), .second, .val (.double xr), .second, .val (.double xa), .second, .val (.double xb), .second, .val (.double xe), .second] [(.double xa), (.double x1), (.ref sa), (.ref b6), (.ref b6)])
  refine own_step (fun _ k => XS.dload X6.here hx rfl (hb hby d10_98) rfl k) ?_
  show own_Go p e below P T6 (mkF m 100 #[.val (.ref sa), .val (.double x1), .second, .val (.double x2), .second, .val (.double (FP.i2d w4)), .second, .val (.double xr), .second, .val (.double xa), .second, .val (.double xb), .second, .val (.double xe), .second] [(.double xb), (.double xa), (.double x1), (.ref sa), (.ref b6), (.ref b6)])
  refine own_step (fun _ k => XS.dload X6.here hx rfl (hb hby d10_100) rfl k) ?_
  show own_Go p e below P T6 (mkF m 102 #[.val (.ref sa), .val (.double x1), .second, .val (.double x2), .second, .val (.double (FP.i2d w4)), .second, .val (.double xr), .second, .val (.double xa), .second, .val (.double xb), .second, .val (.double xe), .second] [(.double xe), (.double xb), (.double xa), (.double x1), (.ref sa), (.ref b6), (.ref b6)])
  refine own_step (fun _ k => XS.dconst0 X6.here hx rfl (hb hby d10_102) rfl k) ?_
  show own_Go p e below P T6 (mkF m 103 #[.val (.ref sa), .val (.double x1), .second, .val (.double x2), .second, .val (.double (FP.i2d w4)), .second, .val (.double xr), .second, .val (.double xa), .second, .val (.double xb), .second, .val (.double xe), .second] [(.double FP.dconst0), (.double xe), (.double xb), (.double xa), (.double x1), (.ref sa), (.ref b6), (.ref b6)])
  refine own_step (fun _ k => XS.dconst0 X6.here hx rfl (hb hby d10_103) rfl k) ?_
  show own_Go p e below P T6 (mkF m 104 #[.val (.ref sa), .val (.double x1), .second, .val (.double x2), .second, .val (.double (FP.i2d w4)), .second, .val (.double xr), .second, .val (.double xa), .second, .val (.double xb), .second, .val (.double xe), .second] [(.double FP.dconst0), (.double FP.dconst0), (.double xe), (.double xb), (.double xa), (.double x1), (.ref sa), (.ref b6), (.ref b6)])
  obtain ⟨T7, X7, e7, st7⟩ := getS2 X6 hx hZ3 hown3 (host := "") (Or.inl (hw _ (List.mem_of_getElem? (i := 75) rfl))) Via.refl e6 (((S_NONE.ext E1).ext E3).ext E6) (g := (mkF m 104 #[.val (.ref sa), .val (.double x1), .second, .val (.double x2), .second, .val (.double (FP.i2d w4)), .second, .val (.double xr), .second, .val (.double xa), .second, .val (.double xb), .second, .val (.double xe), .second] [(.double FP.dconst0), (.double FP.dconst0), (.double xe), (.double xb), (.double xa), (.double x1), (.ref sa), (.ref b6), (.ref b6)])) rfl (hb hby d10_104)
  refine own_step st7 ?_
  show own_Go p e below P T7 (mkF m 107 #[.val (.ref sa), .val (.double x1), .second, .val (.double x2), .second, .val (.double (FP.i2d w4)), .second, .val (.double xr), .second, .val (.double xa), .second, .val (.double xb), .second, .val (.double xe), .second] [(.ref an), (.double FP.dconst0), (.double FP.dconst0), (.double xe), (.double xb), (.double xa), (.double x1), (.ref sa), (.ref b6), (.ref b6)])
  obtain ⟨_, _, ⟨T8, L8, k8, n8⟩, -, X8r, hSr8, hgr8, ⟨Lc8, hQ8, l8, y8, z8⟩, st8⟩ := X7.specialBackS hx (y := (⟨"com/example/brinequil/brinequil/model/Component", "<init>", "(Ljava/lang/String;DDDDDDLcom/example/brinequil/brinequil/model/AssociationScheme;)V"⟩ : MethodName)) rfl hown3 (mvT hZ3 (hw _ (List.mem_of_getElem? (i := 78) rfl))) (mvT hZ3 (hw _ (List.mem_of_getElem? (i := 79) rfl))) (mvT hZ3 (hw _ (List.mem_of_getElem? (i := 80) rfl))) (by decide) (backOfS (W := 1) (rm14 l Z a0 hw [] b6 x1 xa xb xe sa sv kb ch cc ci ta tc pv an h6 n0 (Nat.le_trans (Nat.le_trans (Nat.le_trans Z0 E1.1) E3.1) E6.1) (((F_coder_sa.ext E1).ext E3).ext E6) (((F_value_sa.ext E1).ext E3).ext E6) (((E_sa.ext E1).ext E3).ext E6) (((V_sv.ext E1).ext E3).ext E6) (((S_cs.ext E1).ext E3).ext E6) hcc (((S_ci.ext E1).ext E3).ext E6) (((E_ci.ext E1).ext E3).ext E6) (((S_ta.ext E1).ext E3).ext E6) (((A_ta.ext E1).ext E3).ext E6) hti htv hpw hch E_b6 F_name_b6 F_criticalTemperature_b6 F_a0_b6 F_b_b6 F_c1_b6 F_associationEnergy_b6 F_associationVolume_b6 F_scheme_b6 g_b6 (((S_NONE.ext E1).ext E3).ext E6) (own_pd_fin hT) (hA.1.fin (by decide)) (hBB.1.fin (by decide)) (hE.fin (by decide)) (own_pd_pos hT) (own_lo_pos hA.2) (own_lo_pos hBB.2)) hZ3 (hw _ (List.mem_of_getElem? (i := 80) rfl)) (hw _ (List.mem_of_getElem? (i := 50) rfl)) (by decide) (by decide)) (g := (mkF m 107 #[.val (.ref sa), .val (.double x1), .second, .val (.double x2), .second, .val (.double (FP.i2d w4)), .second, .val (.double xr), .second, .val (.double xa), .second, .val (.double xb), .second, .val (.double xe), .second] [(.ref an), (.double FP.dconst0), (.double FP.dconst0), (.double xe), (.double xb), (.double xa), (.double x1), (.ref sa), (.ref b6), (.ref b6)])) rfl (by rw [hml]; rfl) (Steps.refl _) (a := b6) (argsL := [(.ref sa), (.double x1), (.double xa), (.double xb), (.double xe), (.double FP.dconst0), (.double FP.dconst0), (.ref an)]) (rest := [(.ref b6)]) (lenOf pd__Ljava_lang_StringDDDDDDLcom_example_brinequil_brinequil_model_AssociationScheme__V rfl) rfl (by show 2 * 0 + _ ≤ _; exact Nat.le_of_eq rfl) (hb hby d10_107) (fun _ _ => ⟨rfl, e7, (by decide : 5 + 6 ≤ _), (by decide : 32 + 32 ≤ _)⟩)
  dsimp only [Pt.U, Pt.locs, Pt.cells, Pt.slots] at X8r hSr8 hgr8 l8 y8 z8 st8 hQ8
  subst l8 y8 z8
  obtain ⟨X8, hS8, hZ8, hown8⟩ := rebS hS3 (by rw [e7]; exact (Nat.le_trans hk3 E6.1)) X8r hSr8 hgr8 hZ3 hown3
  have hk8 := Nat.le_refl T8.heap.size
  obtain ⟨rfl, N8q, K8⟩ := hQ8
  have N8 := Fr.app N5 N8q
  refine own_step (fun _ k => st8.trans k) ?_
  show own_Go p e below P T8 (mkF m 110 #[.val (.ref sa), .val (.double x1), .second, .val (.double x2), .second, .val (.double (FP.i2d w4)), .second, .val (.double xr), .second, .val (.double xa), .second, .val (.double xb), .second, .val (.double xe), .second] [(.ref b6)])
  obtain ⟨fs, hr, hrun, hended, hend⟩ := X8.leaveW hS8 hk8 (v := some (.ref b6)) (fun h => by rw [Bd.returns] at h; cases h)
  refine ⟨_, _, retOut X8 hx (t := (.object "com/example/brinequil/brinequil/model/Component")) Bd.returns rfl (Or.inr (Or.inr (Or.inr (Or.inr ⟨rfl, rfl, rfl⟩)))) (hb hby d10_110) hr, hrun, hended, hfin _ _ ⟨_, _, rfl, ?_, hend.1, hend.2.1, hend.2.2.1, hend.2.2.2.mono (by decide) (by decide)⟩⟩
  show Q10 Z x1 x2 sa sv kb ch cc ci ta tc pv an w4 h0 n0 (some (.ref b6)) T8.heap _
  exact ⟨⟨_, rfl⟩, N8, (((((Keep.refl h0 []).ext E1).ext E3).ext E6).trans K8 (allS (Or.inr sz_b6) all0))⟩
theorem ef_8 (m : MethodId) (x0 : Addr) (x1 : Addr) (x2 : UInt64) (x3 : UInt64) (x4 : UInt64) (x5 : Int32) : entryFrame m #[(.ref x0), (.ref x1), (.double x2), (.double x3), (.double x4), (.int x5)] 9 = mkF m 0 #[.val (.ref x0), .val (.ref x1), .val (.double x2), .second, .val (.double x3), .second, .val (.double x4), .second, .val (.int x5)] [] := by first | (simp [entryFrame, mkF, argsToLocals, Value.category]; done) | rfl
theorem pn_com_example_brinequil_brinequil_model_Fraction : plainName "com/example/brinequil/brinequil/model/Fraction" = true := by first | (simp [plainName, overriddenIn]; done) | decide +kernel
theorem d8_0 : decode prog_30_method_1_code 0 = .ok (.aload_n 0, 1) := by decide +kernel
theorem d8_1 : decode prog_30_method_1_code 1 = .ok (.invokespecial 1, 3) := by decide +kernel
theorem d8_4 : decode prog_30_method_1_code 4 = .ok (.aload_n 1, 1) := by decide +kernel
theorem d8_5 : decode prog_30_method_1_code 5 = .ok (.dload_n 2, 1) := by decide +kernel
theorem d8_6 : decode prog_30_method_1_code 6 = .ok (.dload 4, 2) := by decide +kernel
theorem d8_8 : decode prog_30_method_1_code 8 = .ok (.dload 6, 2) := by decide +kernel
theorem pd__Ljava_lang_StringDDD__Lcom_example_brinequil_brinequil_model_Component : parseMethodDescriptor "(Ljava/lang/String;DDD)Lcom/example/brinequil/brinequil/model/Component;" = some ⟨[(.object "java/lang/String"), .double, .double, .double], some (.object "com/example/brinequil/brinequil/model/Component")⟩ := by decide +kernel
theorem d8_10 : decode prog_30_method_1_code 10 = .ok (.invokestatic 7, 3) := by decide +kernel
theorem d8_13 : decode prog_30_method_1_code 13 = .ok (.pop, 1) := by decide +kernel
theorem d8_14 : decode prog_30_method_1_code 14 = .ok (.iload 8, 2) := by decide +kernel
theorem d8_16 : decode prog_30_method_1_code 16 = .ok (.iconst 1, 1) := by decide +kernel
theorem d8_17 : decode prog_30_method_1_code 17 = .ok (.if_icmp .ge 19, 3) := by decide +kernel
theorem d8_36 : decode prog_30_method_1_code 36 = .ok (.aload_n 0, 1) := by decide +kernel
theorem d8_37 : decode prog_30_method_1_code 37 = .ok (.aload_n 1, 1) := by decide +kernel
theorem d8_38 : decode prog_30_method_1_code 38 = .ok (.putfield 22, 3) := by decide +kernel
theorem d8_41 : decode prog_30_method_1_code 41 = .ok (.aload_n 0, 1) := by decide +kernel
theorem d8_42 : decode prog_30_method_1_code 42 = .ok (.dload_n 2, 1) := by decide +kernel
theorem d8_43 : decode prog_30_method_1_code 43 = .ok (.putfield 28, 3) := by decide +kernel
theorem d8_46 : decode prog_30_method_1_code 46 = .ok (.aload_n 0, 1) := by decide +kernel
theorem d8_47 : decode prog_30_method_1_code 47 = .ok (.dload 4, 2) := by decide +kernel
theorem d8_49 : decode prog_30_method_1_code 49 = .ok (.putfield 32, 3) := by decide +kernel
theorem d8_52 : decode prog_30_method_1_code 52 = .ok (.aload_n 0, 1) := by decide +kernel
theorem d8_53 : decode prog_30_method_1_code 53 = .ok (.dload 6, 2) := by decide +kernel
theorem d8_55 : decode prog_30_method_1_code 55 = .ok (.putfield 35, 3) := by decide +kernel
theorem d8_58 : decode prog_30_method_1_code 58 = .ok (.aload_n 0, 1) := by decide +kernel
theorem d8_59 : decode prog_30_method_1_code 59 = .ok (.iload 8, 2) := by decide +kernel
theorem d8_61 : decode prog_30_method_1_code 61 = .ok (.putfield 38, 3) := by decide +kernel
theorem d8_64 : decode prog_30_method_1_code 64 = .ok (.return_, 1) := by decide +kernel
def Q8 (Z : State) (ob : Addr) (x1 : UInt64) (x2 : UInt64) (cn : Int32) (sa : Addr) (sv : Addr) (kb : ClassId) (ch : Int32) (cc : Int32) (ci : Addr) (ta : Addr) (tc : Cell) (pv : Int32) (an : Addr) (w4 : Int32) (h0 : Heap) (n0 : Nat) (v : Option Value) (h : Heap) (L : List Loc) : Prop := v = none ∧ Fr n0 L ∧ Keep h0 h [ob] ∧ Exa Z h ob "com/example/brinequil/brinequil/model/Fraction" ∧ Fld Z h ob "com/example/brinequil/brinequil/model/Fraction" "carbonNumber" "I" (.int cn)
set_option maxRecDepth 65536 in
set_option maxHeartbeats 40000000 in
theorem rm8 (l : Launch) (Z : State) (a0 : Array Value) (hw : ∀ d ∈ tables_1, d.before a0 Z = true) (ws : List Jvm.Cond) (ob : Addr) (x1 : UInt64) (x2 : UInt64) (cn : Int32) (sa : Addr) (sv : Addr) (kb : ClassId) (ch : Int32) (cc : Int32) (ci : Addr) (ta : Addr) (tc : Cell) (pv : Int32) (an : Addr) (w4 : Int32) (h0 : Heap) (n0 : Nat) (Z0 : n0 ≤ h0.size) (F_coder_sa : Fld Z h0 sa "java/lang/String" "coder" "B" (.int (0 : Int32))) (F_value_sa : Fld Z h0 sa "java/lang/String" "value" "[B" (.ref sv)) (E_sa : Exa Z h0 sa "java/lang/String") (V_sv : Arv Z h0 sv kb .byte (1 : Int32) [(.int ch)] (.int (0 : Int32))) (S_cs : Sta Z h0 "java/lang/String" "COMPACT_STRINGS" "Z" (.int cc)) (hcc : ¬ (cc = (0 : Int32))) (S_ci : Sta Z h0 "java/lang/CharacterDataLatin1" "instance" "Ljava/lang/CharacterDataLatin1;" (.ref ci)) (E_ci : Exa Z h0 ci "java/lang/CharacterDataLatin1") (S_ta : Sta Z h0 "java/lang/CharacterDataLatin1" "A" "[I" (.ref ta)) (A_ta : Arr Z h0 ta tc .int) (hti : ¬ (ch < 0 ∨ tc.slots.size ≤ (ch).toNatClampNeg)) (htv : tc.slots[(ch).toNatClampNeg]? = some (.int pv)) (hpw : ¬ ((pv &&& (28672 : Int32)) = (16384 : Int32))) (hch : own_ch ch) (E_ob : Exa Z h0 ob "com/example/brinequil/brinequil/model/Fraction") (F_name_ob : Fld Z h0 ob "com/example/brinequil/brinequil/model/Fraction" "name" "Ljava/lang/String;" .null) (F_criticalTemperature_ob : Fld Z h0 ob "com/example/brinequil/brinequil/model/Fraction" "criticalTemperature" "D" (.double (0 : UInt64))) (F_criticalPressure_ob : Fld Z h0 ob "com/example/brinequil/brinequil/model/Fraction" "criticalPressure" "D" (.double (0 : UInt64))) (F_acentricFactor_ob : Fld Z h0 ob "com/example/brinequil/brinequil/model/Fraction" "acentricFactor" "D" (.double (0 : UInt64))) (F_carbonNumber_ob : Fld Z h0 ob "com/example/brinequil/brinequil/model/Fraction" "carbonNumber" "I" (.int (0 : Int32))) (g_ob : n0 ≤ ob) (S_NONE : Sta Z h0 "com/example/brinequil/brinequil/model/AssociationScheme" "NONE" "Lcom/example/brinequil/brinequil/model/AssociationScheme;" (.ref an)) (hT : own_pd x1) (hP : own_pd x2) (hcn : ¬ (cn < (1 : Int32))) :
    MetFree l (⟨"com/example/brinequil/brinequil/model/Fraction", "<init>", "(Ljava/lang/String;DDDI)V"⟩ : MethodName) (head1 (Jvm.Cond.code (⟨"com/example/brinequil/brinequil/model/Fraction", "<init>", "(Ljava/lang/String;DDDI)V"⟩ : MethodName) prog_30_method_1_code 9 none :: ws) ({ frames := 7, cells := 11, slots := 64, locals := 121 } : Room)) (fun a U => a = #[(.ref ob), (.ref sa), (.double x1), (.double x2), (.double (FP.i2d w4)), (.int cn)] ∧ Z.Warmed39 U.vm ∧ U.heap = h0) (fun _ _ _ _ _ => True) (fun _ U o U' => ∃ v L, o = .returned v ∧ Q8 Z ob x1 x2 cn sa sv kb ch cc ci ta tc pv an w4 h0 n0 v U'.heap L ∧ ReturnedEndW U o U' L ({ frames := 7, cells := 11, slots := 64, locals := 121 } : Room).cells ({ frames := 7, cells := 11, slots := 64, locals := 121 } : Room).slots) := by
  refine MetFree.of_bodySF (plainFor_of_name pn_com_example_brinequil_brinequil_model_Fraction) hisR ?_
  intro p e s m args below meth c s₁ Bd hml0 hP hK
  obtain ⟨rfl, hZ, hh⟩ := hP
  have hx := Bd.exec
  have hby := Bd.bytes
  have hml : c.maxLocals = 9 := hml0
  have hown : s.vm.findClass "com/example/brinequil/brinequil/model/Fraction" = some m.cls := findClass_of_methodNamed Bd.named
  have hnm := (name_of_methodNamed Bd.named Bd.method).1
  have hS0 : s.Since s.vm 0 := (State.WarmedH.refl s).since 0
  have hk0 : 0 ≤ h0.size := Nat.zero_le _
  have X0 : Stand p l e ({ frames := 7, cells := 11, slots := 64, locals := 121 } : Room) (s.setVm s.vm) m #[(.ref ob), (.ref sa), (.double x1), (.double x2), (.double (FP.i2d w4)), (.int cn)] below meth c s₁ [] 0 0 := Stand.of_body Bd
  have e0 : s₁.heap = h0 := by rw [← hh, Bd.state]; rfl
  have N0 := Fr.nil n0
  refine own_all ?_
  intro P hfin
  refine own_cast (ef_8 m ob sa x1 x2 (FP.i2d w4) cn) ?_
  show own_Go p e below P s₁ (mkF m 0 #[.val (.ref ob), .val (.ref sa), .val (.double x1), .second, .val (.double x2), .second, .val (.double (FP.i2d w4)), .second, .val (.int cn)] [])
  refine own_step (fun _ k => XS.aloadN X0.here hx rfl (hb hby d8_0) rfl rfl k) ?_
  show own_Go p e below P s₁ (mkF m 1 #[.val (.ref ob), .val (.ref sa), .val (.double x1), .second, .val (.double x2), .second, .val (.double (FP.i2d w4)), .second, .val (.int cn)] [(.ref ob)])
  obtain ⟨_, _, ⟨T1, L1, k1, n1⟩, -, X1, ⟨Lc1, hQ1, l1, y1, z1⟩, st1⟩ := X0.specialBack hx (y := (⟨"java/lang/Record", "<init>", "()V"⟩ : MethodName)) rfl hown (mvT hZ (hw _ (List.mem_of_getElem? (i := 42) rfl))) (mvT hZ (hw _ (List.mem_of_getElem? (i := 43) rfl))) (mvT hZ (hw _ (List.mem_of_getElem? (i := 46) rfl))) (by decide) (backOf (W := 0) (rm9 l Z a0 hw [] ob h0 n0 Z0) hZ (hw _ (List.mem_of_getElem? (i := 46) rfl)) (hw _ (List.mem_of_getElem? (i := 45) rfl)) (by decide) (by decide)) (g := (mkF m 1 #[.val (.ref ob), .val (.ref sa), .val (.double x1), .second, .val (.double x2), .second, .val (.double (FP.i2d w4)), .second, .val (.int cn)] [(.ref ob)])) rfl (by rw [hml]; rfl) (Steps.refl _) (a := ob) (argsL := []) (rest := []) (lenOf pd____V rfl) rfl (by show 2 * 0 + _ ≤ _; exact Nat.le_of_eq rfl) (hb hby d8_1) (fun _ _ => ⟨rfl, e0, (by decide : 0 + 0 ≤ _), (by decide : 0 + 0 ≤ _)⟩)
  dsimp only [Pt.U, Pt.locs, Pt.cells, Pt.slots] at X1 l1 y1 z1 st1 hQ1
  subst l1 y1 z1
  obtain ⟨rfl, N1q, e1⟩ := hQ1
  have N1 := Fr.app N0 N1q
  refine own_step (fun _ k => st1.trans k) ?_
  show own_Go p e below P T1 (mkF m 4 #[.val (.ref ob), .val (.ref sa), .val (.double x1), .second, .val (.double x2), .second, .val (.double (FP.i2d w4)), .second, .val (.int cn)] [])
  refine own_step (fun _ k => XS.aloadN X1.here hx rfl (hb hby d8_4) rfl rfl k) ?_
  show own_Go p e below P T1 (mkF m 5 #[.val (.ref ob), .val (.ref sa), .val (.double x1), .second, .val (.double x2), .second, .val (.double (FP.i2d w4)), .second, .val (.int cn)] [(.ref sa)])
  refine own_step (fun _ k => XS.dloadN X1.here hx rfl (hb hby d8_5) rfl k) ?_
  show own_Go p e below P T1 (mkF m 6 #[.val (.ref ob), .val (.ref sa), .val (.double x1), .second, .val (.double x2), .second, .val (.double (FP.i2d w4)), .second, .val (.int cn)] [(.double x1), (.ref sa)])
  refine own_step (fun _ k => XS.dload X1.here hx rfl (hb hby d8_6) rfl k) ?_
  show own_Go p e below P T1 (mkF m 8 #[.val (.ref ob), .val (.ref sa), .val (.double x1), .second, .val (.double x2), .second, .val (.double (FP.i2d w4)), .second, .val (.int cn)] [(.double x2), (.double x1), (.ref sa)])
  refine own_step (fun _ k => XS.dload X1.here hx rfl (hb hby d8_8) rfl k) ?_
  show own_Go p e below P T1 (mkF m 10 #[.val (.ref ob), .val (.ref sa), .val (.double x1), .second, .val (.double x2), .second, .val (.double (FP.i2d w4)), .second, .val (.int cn)] [(.double (FP.i2d w4)), (.double x2), (.double x1), (.ref sa)])
  obtain ⟨_, _, ⟨T2, L2, k2, n2⟩, -, X2r, hSr2, hgr2, ⟨Lc2, hQ2, l2, y2, z2⟩, st2⟩ := callSS X1 hx (y := (⟨"com/example/brinequil/brinequil/model/Component", "nonAssociating", "(Ljava/lang/String;DDD)Lcom/example/brinequil/brinequil/model/Component;"⟩ : MethodName)) hown (mvT hZ (hw _ (List.mem_of_getElem? (i := 48) rfl))) (mvT hZ (hw _ (List.mem_of_getElem? (i := 49) rfl))) (mvT hZ (hw _ (List.mem_of_getElem? (i := 50) rfl))) (mvT hZ (hw _ (List.mem_of_getElem? (i := 51) rfl))) (by decide) (backOfS (W := 0) (rm10 l Z a0 hw [] x1 x2 sa sv kb ch cc ci ta tc pv an w4 h0 n0 Z0 F_coder_sa F_value_sa E_sa V_sv S_cs hcc S_ci E_ci S_ta A_ta hti htv hpw hch S_NONE hT hP) hZ (hw _ (List.mem_of_getElem? (i := 51) rfl)) (hw _ (List.mem_of_getElem? (i := 50) rfl)) (by decide) (by decide)) (g := (mkF m 10 #[.val (.ref ob), .val (.ref sa), .val (.double x1), .second, .val (.double x2), .second, .val (.double (FP.i2d w4)), .second, .val (.int cn)] [(.double (FP.i2d w4)), (.double x2), (.double x1), (.ref sa)])) rfl (by rw [hml]; rfl) (argsL := [(.ref sa), (.double x1), (.double x2), (.double (FP.i2d w4))]) (rest := []) (lenOf pd__Ljava_lang_StringDDD__Lcom_example_brinequil_brinequil_model_Component rfl) rfl (by show 2 * 0 + _ ≤ _; exact Nat.le_of_eq rfl) (hb hby d8_10) (fun _ _ => ⟨rfl, e1, (by decide : 0 + 11 ≤ _), (by decide : 0 + 64 ≤ _)⟩)
  dsimp only [Pt.U, Pt.locs, Pt.cells, Pt.slots] at X2r hSr2 hgr2 l2 y2 z2 st2 hQ2
  subst l2 y2 z2
  obtain ⟨X2, hS2, hZ2, hown2⟩ := rebS hS0 (by rw [e1]; exact hk0) X2r hSr2 hgr2 hZ hown
  have hk2 := Nat.le_refl T2.heap.size
  obtain ⟨⟨r2, rfl⟩, N2q, K2⟩ := hQ2
  have N2 := Fr.app N1 N2q
  refine own_step (fun _ k => st2.trans k) ?_
  show own_Go p e below P T2 (mkF m 13 #[.val (.ref ob), .val (.ref sa), .val (.double x1), .second, .val (.double x2), .second, .val (.double (FP.i2d w4)), .second, .val (.int cn)] [(.ref r2)])
  refine own_step (fun _ k => XS.pop X2.here hx rfl (hb hby d8_13) rfl rfl k) ?_
  show own_Go p e below P T2 (mkF m 14 #[.val (.ref ob), .val (.ref sa), .val (.double x1), .second, .val (.double x2), .second, .val (.double (FP.i2d w4)), .second, .val (.int cn)] [])
  refine own_step (fun _ k => XS.iload X2.here hx rfl (hb hby d8_14) rfl k) ?_
  show own_Go p e below P T2 (mkF m 16 #[.val (.ref ob), .val (.ref sa), .val (.double x1), .second, .val (.double x2), .second, .val (.double (FP.i2d w4)), .second, .val (.int cn)] [(.int cn)])
  refine own_step (fun _ k => XS.iconst X2.here hx rfl (hb hby d8_16) k) ?_
  show own_Go p e below P T2 (mkF m 17 #[.val (.ref ob), .val (.ref sa), .val (.double x1), .second, .val (.double x2), .second, .val (.double (FP.i2d w4)), .second, .val (.int cn)] [(.int (1 : Int32)), (.int cn)])
  refine own_step (fun _ k => XS.icmpYes X2.here hx rfl (pc0 := 17) (pc' := 36) rfl (hb hby d8_17) rfl (flt hcn).2.1 (by decide) (by decide) k) ?_
  show own_Go p e below P T2 (mkF m 36 #[.val (.ref ob), .val (.ref sa), .val (.double x1), .second, .val (.double x2), .second, .val (.double (FP.i2d w4)), .second, .val (.int cn)] [])
  refine own_step (fun _ k => XS.aloadN X2.here hx rfl (hb hby d8_36) rfl rfl k) ?_
  show own_Go p e below P T2 (mkF m 37 #[.val (.ref ob), .val (.ref sa), .val (.double x1), .second, .val (.double x2), .second, .val (.double (FP.i2d w4)), .second, .val (.int cn)] [(.ref ob)])
  refine own_step (fun _ k => XS.aloadN X2.here hx rfl (hb hby d8_37) rfl rfl k) ?_
  show own_Go p e below P T2 (mkF m 38 #[.val (.ref ob), .val (.ref sa), .val (.double x1), .second, .val (.double x2), .second, .val (.double (FP.i2d w4)), .second, .val (.int cn)] [(.ref sa), (.ref ob)])
  obtain ⟨T3, h3, X3, e3, W3, st3⟩ := putF X2 hx hZ2 hown2 (host := "") (Or.inl (hw _ (List.mem_of_getElem? (i := 145) rfl))) Via.refl rfl (F_name_ob.keep K2 nin0) (E_ob.keep K2) (Or.inr ⟨(hw _ (List.mem_of_getElem? (i := 146) rfl)), rfl, hnm⟩) (hw _ (List.mem_of_getElem? (i := 7) rfl)) (ty := (.object "java/lang/String")) (by decide) rfl rfl (g := (mkF m 38 #[.val (.ref ob), .val (.ref sa), .val (.double x1), .second, .val (.double x2), .second, .val (.double (FP.i2d w4)), .second, .val (.int cn)] [(.ref sa), (.ref ob)])) rfl rfl (hb hby d8_38)
  have Fw3 := (F_name_ob.keep K2 nin0).same W3
  have N3 := Fr.snoc X3 N2 g_ob
  refine own_step st3 ?_
  show own_Go p e below P T3 (mkF m 41 #[.val (.ref ob), .val (.ref sa), .val (.double x1), .second, .val (.double x2), .second, .val (.double (FP.i2d w4)), .second, .val (.int cn)] [])
  refine own_step (fun _ k => XS.aloadN X3.here hx rfl (hb hby d8_41) rfl rfl k) ?_
  show own_Go p e below P T3 (mkF m 42 #[.val (.ref ob), .val (.ref sa), .val (.double x1), .second, .val (.double x2), .second, .val (.double (FP.i2d w4)), .second, .val (.int cn)] [(.ref ob)])
  refine own_step (fun _ k => XS.dloadN X3.here hx rfl (hb hby d8_42) rfl k) ?_
  show own_Go p e below P T3 (mkF m 43 #[.val (.ref ob), .val (.ref sa), .val (.double x1), .second, .val (.double x2), .second, .val (.double (FP.i2d w4)), .second, .val (.int cn)] [(.double x1), (.ref ob)])
  obtain ⟨T4, h4, X4, e4, W4, st4⟩ := putF X3 hx hZ2 hown2 (host := "") (Or.inl (hw _ (List.mem_of_getElem? (i := 147) rfl))) Via.refl e3 ((F_criticalTemperature_ob.keep K2 nin0).other W3 (Or.inr (slot_ne (Or.inr (hw _ (List.mem_of_getElem? (i := 148) rfl))) (Or.inr (hw _ (List.mem_of_getElem? (i := 146) rfl))) (by decide) (t := .double) (t' := (.object "java/lang/String")) (by decide) (by decide)))) ((E_ob.keep K2).wr W3) (Or.inr ⟨(hw _ (List.mem_of_getElem? (i := 148) rfl)), rfl, hnm⟩) (hw _ (List.mem_of_getElem? (i := 7) rfl)) (ty := .double) (by decide) rfl rfl (g := (mkF m 43 #[.val (.ref ob), .val (.ref sa), .val (.double x1), .second, .val (.double x2), .second, .val (.double (FP.i2d w4)), .second, .val (.int cn)] [(.double x1), (.ref ob)])) rfl rfl (hb hby d8_43)
  have Fw4 := ((F_criticalTemperature_ob.keep K2 nin0).other W3 (Or.inr (slot_ne (Or.inr (hw _ (List.mem_of_getElem? (i := 148) rfl))) (Or.inr (hw _ (List.mem_of_getElem? (i := 146) rfl))) (by decide) (t := .double) (t' := (.object "java/lang/String")) (by decide) (by decide)))).same W4
  have N4 := Fr.snoc X4 N3 g_ob
  refine own_step st4 ?_
  show own_Go p e below P T4 (mkF m 46 #[.val (.ref ob), .val (.ref sa), .val (.double x1), .second, .val (.double x2), .second, .val (.double (FP.i2d w4)), .second, .val (.int cn)] [])
  refine own_step (fun _ k => XS.aloadN X4.here hx rfl (hb hby d8_46) rfl rfl k) ?_
  show own_Go p e below P T4 (mkF m 47 #[.val (.ref ob), .val (.ref sa), .val (.double x1), .second, .val (.double x2), .second, .val (.double (FP.i2d w4)), .second, .val (.int cn)] [(.ref ob)])
  refine own_step (fun _ k => XS.dload X4.here hx rfl (hb hby d8_47) rfl k) ?_
  show own_Go p e below P T4 (mkF m 49 #[.val (.ref ob), .val (.ref sa), .val (.double x1), .second, .val (.double x2), .second, .val (.double (FP.i2d w4)), .second, .val (.int cn)] [(.double x2), (.ref ob)])
  obtain ⟨T5, h5, X5, e5, W5, st5⟩ := putF X4 hx hZ2 hown2 (host := "") (Or.inl (hw _ (List.mem_of_getElem? (i := 149) rfl))) Via.refl e4 (((F_criticalPressure_ob.keep K2 nin0).other W3 (Or.inr (slot_ne (Or.inr (hw _ (List.mem_of_getElem? (i := 150) rfl))) (Or.inr (hw _ (List.mem_of_getElem? (i := 146) rfl))) (by decide) (t := .double) (t' := (.object "java/lang/String")) (by decide) (by decide)))).other W4 (Or.inr (slot_ne (Or.inr (hw _ (List.mem_of_getElem? (i := 150) rfl))) (Or.inr (hw _ (List.mem_of_getElem? (i := 148) rfl))) (by decide) (t := .double) (t' := .double) (by decide) (by decide)))) (((E_ob.keep K2).wr W3).wr W4) (Or.inr ⟨(hw _ (List.mem_of_getElem? (i := 150) rfl)), rfl, hnm⟩) (hw _ (List.mem_of_getElem? (i := 7) rfl)) (ty := .double) (by decide) rfl rfl (g := (mkF m 49 #[.val (.ref ob), .val (.ref sa), .val (.double x1), .second, .val (.double x2), .second, .val (.double (FP.i2d w4)), .second, .val (.int cn)] [(.double x2), (.ref ob)])) rfl rfl (hb hby d8_49)
  have Fw5 := (((F_criticalPressure_ob.keep K2 nin0).other W3 (Or.inr (slot_ne (Or.inr (hw _ (List.mem_of_getElem? (i := 150) rfl))) (Or.inr (hw _ (List.mem_of_getElem? (i := 146) rfl))) (by decide) (t := .double) (t' := (.object "java/lang/String")) (by decide) (by decide)))).other W4 (Or.inr (slot_ne (Or.inr (hw _ (List.mem_of_getElem? (i := 150) rfl))) (Or.inr (hw _ (List.mem_of_getElem? (i := 148) rfl))) (by decide) (t := .double) (t' := .double) (by decide) (by decide)))).same W5
  have N5 := Fr.snoc X5 N4 g_ob
  refine own_step st5 ?_
  show own_Go p e below P T5 (mkF m 52 #[.val (.ref ob), .val (.ref sa), .val (.double x1), .second, .val (.double x2), .second, .val (.double (FP.i2d w4)), .second, .val (.int cn)] [])
  refine own_step (fun _ k => XS.aloadN X5.here hx rfl (hb hby d8_52) rfl rfl k) ?_
  show own_Go p e below P T5 (mkF m 53 #[.val (.ref ob), .val (.ref sa), .val (.double x1), .second, .val (.double x2), .second, .val (.double (FP.i2d w4)), .second, .val (.int cn)] [(.ref ob)])
  refine own_step (fun _ k => XS.dload X5.here hx rfl (hb hby d8_53) rfl k) ?_
  show own_Go p e below P T5 (mkF m 55 #[.val (.ref ob), .val (.ref sa), .val (.double x1), .second, .val (.double x2), .second, .val (.double (FP.i2d w4)), .second, .val (.int cn)] [(.double (FP.i2d w4)), (.ref ob)])
  obtain ⟨T6, h6, X6, e6, W6, st6⟩ := putF X5 hx hZ2 hown2 (host := "") (Or.inl (hw _ (List.mem_of_getElem? (i := 151) rfl))) Via.refl e5 ((((F_acentricFactor_ob.keep K2 nin0).other W3 (Or.inr (slot_ne (Or.inr (hw _ (List.mem_of_getElem? (i := 152) rfl))) (Or.inr (hw _ (List.mem_of_getElem? (i := 146) rfl))) (by decide) (t := .double) (t' := (.object "java/lang/String")) (by decide) (by decide)))).other W4 (Or.inr (slot_ne (Or.inr (hw _ (List.mem_of_getElem? (i := 152) rfl))) (Or.inr (hw _ (List.mem_of_getElem? (i := 148) rfl))) (by decide) (t := .double) (t' := .double) (by decide) (by decide)))).other W5 (Or.inr (slot_ne (Or.inr (hw _ (List.mem_of_getElem? (i := 152) rfl))) (Or.inr (hw _ (List.mem_of_getElem? (i := 150) rfl))) (by decide) (t := .double) (t' := .double) (by decide) (by decide)))) ((((E_ob.keep K2).wr W3).wr W4).wr W5) (Or.inr ⟨(hw _ (List.mem_of_getElem? (i := 152) rfl)), rfl, hnm⟩) (hw _ (List.mem_of_getElem? (i := 7) rfl)) (ty := .double) (by decide) rfl rfl (g := (mkF m 55 #[.val (.ref ob), .val (.ref sa), .val (.double x1), .second, .val (.double x2), .second, .val (.double (FP.i2d w4)), .second, .val (.int cn)] [(.double (FP.i2d w4)), (.ref ob)])) rfl rfl (hb hby d8_55)
  have Fw6 := ((((F_acentricFactor_ob.keep K2 nin0).other W3 (Or.inr (slot_ne (Or.inr (hw _ (List.mem_of_getElem? (i := 152) rfl))) (Or.inr (hw _ (List.mem_of_getElem? (i := 146) rfl))) (by decide) (t := .double) (t' := (.object "java/lang/String")) (by decide) (by decide)))).other W4 (Or.inr (slot_ne (Or.inr (hw _ (List.mem_of_getElem? (i := 152) rfl))) (Or.inr (hw _ (List.mem_of_getElem? (i := 148) rfl))) (by decide) (t := .double) (t' := .double) (by decide) (by decide)))).other W5 (Or.inr (slot_ne (Or.inr (hw _ (List.mem_of_getElem? (i := 152) rfl))) (Or.inr (hw _ (List.mem_of_getElem? (i := 150) rfl))) (by decide) (t := .double) (t' := .double) (by decide) (by decide)))).same W6
  have N6 := Fr.snoc X6 N5 g_ob
  refine own_step st6 ?_
  show own_Go p e below P T6 (mkF m 58 #[.val (.ref ob), .val (.ref sa), .val (.double x1), .second, .val (.double x2), .second, .val (.double (FP.i2d w4)), .second, .val (.int cn)] [])
  refine own_step (fun _ k => XS.aloadN X6.here hx rfl (hb hby d8_58) rfl rfl k) ?_
  show own_Go p e below P T6 (mkF m 59 #[.val (.ref ob), .val (.ref sa), .val (.double x1), .second, .val (.double x2), .second, .val (.double (FP.i2d w4)), .second, .val (.int cn)] [(.ref ob)])
  refine own_step (fun _ k => XS.iload X6.here hx rfl (hb hby d8_59) rfl k) ?_
  show own_Go p e below P T6 (mkF m 61 #[.val (.ref ob), .val (.ref sa), .val (.double x1), .second, .val (.double x2), .second, .val (.double (FP.i2d w4)), .second, .val (.int cn)] [(.int cn), (.ref ob)])
  obtain ⟨T7, h7, X7, e7, W7, st7⟩ := putF X6 hx hZ2 hown2 (host := "") (Or.inl (hw _ (List.mem_of_getElem? (i := 153) rfl))) Via.refl e6 (((((F_carbonNumber_ob.keep K2 nin0).other W3 (Or.inr (slot_ne (Or.inr (hw _ (List.mem_of_getElem? (i := 154) rfl))) (Or.inr (hw _ (List.mem_of_getElem? (i := 146) rfl))) (by decide) (t := .int) (t' := (.object "java/lang/String")) (by decide) (by decide)))).other W4 (Or.inr (slot_ne (Or.inr (hw _ (List.mem_of_getElem? (i := 154) rfl))) (Or.inr (hw _ (List.mem_of_getElem? (i := 148) rfl))) (by decide) (t := .int) (t' := .double) (by decide) (by decide)))).other W5 (Or.inr (slot_ne (Or.inr (hw _ (List.mem_of_getElem? (i := 154) rfl))) (Or.inr (hw _ (List.mem_of_getElem? (i := 150) rfl))) (by decide) (t := .int) (t' := .double) (by decide) (by decide)))).other W6 (Or.inr (slot_ne (Or.inr (hw _ (List.mem_of_getElem? (i := 154) rfl))) (Or.inr (hw _ (List.mem_of_getElem? (i := 152) rfl))) (by decide) (t := .int) (t' := .double) (by decide) (by decide)))) (((((E_ob.keep K2).wr W3).wr W4).wr W5).wr W6) (Or.inr ⟨(hw _ (List.mem_of_getElem? (i := 154) rfl)), rfl, hnm⟩) (hw _ (List.mem_of_getElem? (i := 7) rfl)) (ty := .int) (by decide) rfl rfl (g := (mkF m 61 #[.val (.ref ob), .val (.ref sa), .val (.double x1), .second, .val (.double x2), .second, .val (.double (FP.i2d w4)), .second, .val (.int cn)] [(.int cn), (.ref ob)])) rfl rfl (hb hby d8_61)
  have Fw7 := (((((F_carbonNumber_ob.keep K2 nin0).other W3 (Or.inr (slot_ne (Or.inr (hw _ (List.mem_of_getElem? (i := 154) rfl))) (Or.inr (hw _ (List.mem_of_getElem? (i := 146) rfl))) (by decide) (t := .int) (t' := (.object "java/lang/String")) (by decide) (by decide)))).other W4 (Or.inr (slot_ne (Or.inr (hw _ (List.mem_of_getElem? (i := 154) rfl))) (Or.inr (hw _ (List.mem_of_getElem? (i := 148) rfl))) (by decide) (t := .int) (t' := .double) (by decide) (by decide)))).other W5 (Or.inr (slot_ne (Or.inr (hw _ (List.mem_of_getElem? (i := 154) rfl))) (Or.inr (hw _ (List.mem_of_getElem? (i := 150) rfl))) (by decide) (t := .int) (t' := .double) (by decide) (by decide)))).other W6 (Or.inr (slot_ne (Or.inr (hw _ (List.mem_of_getElem? (i := 154) rfl))) (Or.inr (hw _ (List.mem_of_getElem? (i := 152) rfl))) (by decide) (t := .int) (t' := .double) (by decide) (by decide)))).same W7
  have N7 := Fr.snoc X7 N6 g_ob
  refine own_step st7 ?_
  show own_Go p e below P T7 (mkF m 64 #[.val (.ref ob), .val (.ref sa), .val (.double x1), .second, .val (.double x2), .second, .val (.double (FP.i2d w4)), .second, .val (.int cn)] [])
  obtain ⟨fs, hr, hrun, hended, hend⟩ := X7.leaveW hS2 (by rw [e7]; exact (Nat.le_trans (Nat.le_trans (Nat.le_trans (Nat.le_trans (Nat.le_trans hk2 (Keep.of_wr W3).1) (Keep.of_wr W4).1) (Keep.of_wr W5).1) (Keep.of_wr W6).1) (Keep.of_wr W7).1)) (v := none) (fun _ => rfl)
  refine ⟨_, _, X7.returnOut hx Bd.returns (hb hby d8_64) hr, hrun, hended, hfin _ _ ⟨_, _, rfl, ?_, hend.1, hend.2.1, hend.2.2.1, hend.2.2.2.mono (by decide) (by decide)⟩⟩
  show Q8 Z ob x1 x2 cn sa sv kb ch cc ci ta tc pv an w4 h0 n0 none T7.heap _
  rw [e7]
  exact ⟨rfl, N7, (((((((Keep.refl h0 [ob]).trans K2 all0).wr W3 (Or.inl (List.mem_of_getElem? (i := 0) rfl))).wr W4 (Or.inl (List.mem_of_getElem? (i := 0) rfl))).wr W5 (Or.inl (List.mem_of_getElem? (i := 0) rfl))).wr W6 (Or.inl (List.mem_of_getElem? (i := 0) rfl))).wr W7 (Or.inl (List.mem_of_getElem? (i := 0) rfl))), ((((((E_ob.keep K2).wr W3).wr W4).wr W5).wr W6).wr W7), Fw7⟩
theorem ef_24 (m : MethodId) (x0 : Addr) : entryFrame m #[(.ref x0)] 3 = mkF m 0 #[.val (.ref x0), .unset, .unset] [] := by first | (simp [entryFrame, mkF, argsToLocals, Value.category]; done) | rfl
theorem d24_0 : decode prog_30_method_3_code 0 = .ok (.aload_n 0, 1) := by decide +kernel
theorem d24_1 : decode prog_30_method_3_code 1 = .ok (.getfield 38, 3) := by decide +kernel
theorem d24_4 : decode prog_30_method_3_code 4 = .ok (.bipush 10, 2) := by decide +kernel
theorem d24_6 : decode prog_30_method_3_code 6 = .ok (.if_icmp .lt 10, 3) := by decide +kernel
theorem d24_16 : decode prog_30_method_3_code 16 = .ok (.aload_n 0, 1) := by decide +kernel
theorem d24_17 : decode prog_30_method_3_code 17 = .ok (.getfield 38, 3) := by decide +kernel
theorem d24_20 : decode prog_30_method_3_code 20 = .ok (.bipush 6, 2) := by decide +kernel
theorem d24_22 : decode prog_30_method_3_code 22 = .ok (.if_icmp .ne 10, 3) := by decide +kernel
theorem d24_25 : decode prog_30_method_3_code 25 = .ok (.ldc2_w 44, 3) := by decide +kernel
theorem d24_28 : decode prog_30_method_3_code 28 = .ok (.dstore_n 1, 1) := by decide +kernel
theorem d24_29 : decode prog_30_method_3_code 29 = .ok (.goto 17, 3) := by decide +kernel
theorem d24_46 : decode prog_30_method_3_code 46 = .ok (.dload_n 1, 1) := by decide +kernel
theorem d24_47 : decode prog_30_method_3_code 47 = .ok (.dreturn, 1) := by decide +kernel
theorem d24_32 : decode prog_30_method_3_code 32 = .ok (.ldc2_w 46, 3) := by decide +kernel
theorem d24_35 : decode prog_30_method_3_code 35 = .ok (.aload_n 0, 1) := by decide +kernel
theorem d24_36 : decode prog_30_method_3_code 36 = .ok (.getfield 38, 3) := by decide +kernel
theorem d24_39 : decode prog_30_method_3_code 39 = .ok (.i2d, 1) := by decide +kernel
theorem d24_40 : decode prog_30_method_3_code 40 = .ok (.dmul, 1) := by decide +kernel
theorem d24_41 : decode prog_30_method_3_code 41 = .ok (.ldc2_w 48, 3) := by decide +kernel
theorem d24_44 : decode prog_30_method_3_code 44 = .ok (.dadd, 1) := by decide +kernel
theorem d24_45 : decode prog_30_method_3_code 45 = .ok (.dstore_n 1, 1) := by decide +kernel
theorem d24_9 : decode prog_30_method_3_code 9 = .ok (.ldc2_w 42, 3) := by decide +kernel
theorem d24_12 : decode prog_30_method_3_code 12 = .ok (.dstore_n 1, 1) := by decide +kernel
theorem d24_13 : decode prog_30_method_3_code 13 = .ok (.goto 33, 3) := by decide +kernel
def Q24 (Z : State) (ob : Addr) (cn : Int32) (h0 : Heap) (n0 : Nat) (v : Option Value) (h : Heap) (L : List Loc) : Prop := v = some (.double (own_wk cn)) ∧ Fr n0 L ∧ h = h0
set_option maxRecDepth 65536 in
set_option maxHeartbeats 40000000 in
theorem rm24 (l : Launch) (Z : State) (a0 : Array Value) (hw : ∀ d ∈ tables_1, d.before a0 Z = true) (ws : List Jvm.Cond) (ob : Addr) (cn : Int32) (h0 : Heap) (n0 : Nat) (Z0 : n0 ≤ h0.size) (F_c : Fld Z h0 ob "com/example/brinequil/brinequil/model/Fraction" "carbonNumber" "I" (.int cn)) :
    MetFree l (⟨"com/example/brinequil/brinequil/model/Fraction", "waterInteraction", "()D"⟩ : MethodName) (head1 (Jvm.Cond.code (⟨"com/example/brinequil/brinequil/model/Fraction", "waterInteraction", "()D"⟩ : MethodName) prog_30_method_3_code 3 (some .double) :: ws) ({ frames := 0, cells := 0, slots := 0, locals := 0 } : Room)) (fun a U => a = #[(.ref ob)] ∧ Z.Warmed39 U.vm ∧ U.heap = h0) (fun _ _ _ _ _ => True) (fun _ U o U' => ∃ v L, o = .returned v ∧ Q24 Z ob cn h0 n0 v U'.heap L ∧ FrameEnd U o U' L ({ frames := 0, cells := 0, slots := 0, locals := 0 } : Room).cells ({ frames := 0, cells := 0, slots := 0, locals := 0 } : Room).slots) := by
  refine MetFree.of_bodySF (plainFor_of_name pn_com_example_brinequil_brinequil_model_Fraction) hisR ?_
  intro p e s m args below meth c s₁ Bd hml0 hP hK
  obtain ⟨rfl, hZ, hh⟩ := hP
  have hx := Bd.exec
  have hby := Bd.bytes
  have hml : c.maxLocals = 3 := hml0
  have hown : s.vm.findClass "com/example/brinequil/brinequil/model/Fraction" = some m.cls := findClass_of_methodNamed Bd.named
  have hnm := (name_of_methodNamed Bd.named Bd.method).1
  have X0 : Stand p l e ({ frames := 0, cells := 0, slots := 0, locals := 0 } : Room) s m #[(.ref ob)] below meth c s₁ [] 0 0 := Stand.of_body Bd
  have e0 : s₁.heap = h0 := by rw [← hh, Bd.state]; rfl
  have N0 := Fr.nil n0
  refine own_all ?_
  intro P hfin
  refine own_cast (ef_24 m ob) ?_
  show own_Go p e below P s₁ (mkF m 0 #[.val (.ref ob), .unset, .unset] [])
  refine own_step (fun _ k => XS.aloadN X0.here hx rfl (hb hby d24_0) rfl rfl k) ?_
  show own_Go p e below P s₁ (mkF m 1 #[.val (.ref ob), .unset, .unset] [(.ref ob)])
  obtain ⟨T1, X1, e1, st1⟩ := getF X0 hx hZ hown (host := "") (Or.inl (hw _ (List.mem_of_getElem? (i := 153) rfl))) Via.refl e0 F_c (g := (mkF m 1 #[.val (.ref ob), .unset, .unset] [(.ref ob)])) rfl rfl (hb hby d24_1)
  refine own_step st1 ?_
  show own_Go p e below P T1 (mkF m 4 #[.val (.ref ob), .unset, .unset] [(.int cn)])
  refine own_step (fun _ k => XS.bipush X1.here hx rfl (hb hby d24_4) k) ?_
  show own_Go p e below P T1 (mkF m 6 #[.val (.ref ob), .unset, .unset] [(.int (10 : Int32)), (.int cn)])
  by_cases hc2 : cn < (10 : Int32)
  · refine own_step (fun _ k => XS.icmpYes X1.here hx rfl (pc0 := 6) (pc' := 16) rfl (hb hby d24_6) rfl (tlt hc2).1 (by decide) (by decide) k) ?_
    show own_Go p e below P T1 (mkF m 16 #[.val (.ref ob), .unset, .unset] [])
    refine own_step (fun _ k => XS.aloadN X1.here hx rfl (hb hby d24_16) rfl rfl k) ?_
    show own_Go p e below P T1 (mkF m 17 #[.val (.ref ob), .unset, .unset] [(.ref ob)])
    obtain ⟨T3, X3, e3, st3⟩ := getF X1 hx hZ hown (host := "") (Or.inl (hw _ (List.mem_of_getElem? (i := 153) rfl))) Via.refl e1 F_c (g := (mkF m 17 #[.val (.ref ob), .unset, .unset] [(.ref ob)])) rfl rfl (hb hby d24_17)
    refine own_step st3 ?_
    show own_Go p e below P T3 (mkF m 20 #[.val (.ref ob), .unset, .unset] [(.int cn)])
    refine own_step (fun _ k => XS.bipush X3.here hx rfl (hb hby d24_20) k) ?_
    show own_Go p e below P T3 (mkF m 22 #[.val (.ref ob), .unset, .unset] [(.int (6 : Int32)), (.int cn)])
    by_cases hc4 : cn = (6 : Int32)
    · refine own_step (fun _ k => XS.icmpNo X3.here hx rfl (hb hby d24_22) rfl (teq hc4).2 k) ?_
      show own_Go p e below P T3 (mkF m 25 #[.val (.ref ob), .unset, .unset] [])
      refine own_step (fun t k => X3.ldc2DoubleC hx hown (mvT hZ (hw _ (List.mem_of_getElem? (i := 167) rfl))) (g := (mkF m 25 #[.val (.ref ob), .unset, .unset] [])) rfl (hb hby d24_25) t k) ?_
      show own_Go p e below P T3 (mkF m 28 #[.val (.ref ob), .unset, .unset] [(.double (4586242481972595550 : UInt64))])
      refine own_step (fun _ k => XS.dstoreN X3.here hx rfl (hb hby d24_28) rfl (l' := #[.val (.ref ob), .val (.double (4586242481972595550 : UInt64)), .second]) rfl k) ?_
      show own_Go p e below P T3 (mkF m 29 #[.val (.ref ob), .val (.double (4586242481972595550 : UInt64)), .second] [])
      refine own_step (fun _ k => XS.goto X3.here hx rfl (pc0 := 29) (pc' := 46) rfl (hb hby d24_29) (by decide) (by decide) k) ?_
      show own_Go p e below P T3 (mkF m 46 #[.val (.ref ob), .val (.double (4586242481972595550 : UInt64)), .second] [])
      refine own_step (fun _ k => XS.dloadN X3.here hx rfl (hb hby d24_46) rfl k) ?_
      show own_Go p e below P T3 (mkF m 47 #[.val (.ref ob), .val (.double (4586242481972595550 : UInt64)), .second] [(.double (4586242481972595550 : UInt64))])
      obtain ⟨fs, hr, hrun, hended, hW, hsame⟩ := X3.leave (v := some (.double (4586242481972595550 : UInt64))) (fun h => by rw [Bd.returns] at h; cases h)
      refine ⟨_, _, retOut X3 hx (t := .double) Bd.returns rfl (Or.inr (Or.inr (Or.inl ⟨rfl, rfl, _, rfl⟩))) (hb hby d24_47) hr, hrun, hended, hfin _ _ ⟨_, _, rfl, ?_, ⟨_, rfl⟩, hW, hsame.mono (by decide) (by decide)⟩⟩
      show Q24 Z ob cn h0 n0 (some (.double (4586242481972595550 : UInt64))) T3.heap _
      rw [e3]
      exact ⟨congrArg (fun z => some (Value.double z)) (show _ = own_wk cn from Eq.symm ((if_pos hc2).trans (if_pos hc4))), N0, rfl⟩
    · refine own_step (fun _ k => XS.icmpYes X3.here hx rfl (pc0 := 22) (pc' := 32) rfl (hb hby d24_22) rfl (feq hc4).2 (by decide) (by decide) k) ?_
      show own_Go p e below P T3 (mkF m 32 #[.val (.ref ob), .unset, .unset] [])
      refine own_step (fun t k => X3.ldc2DoubleC hx hown (mvT hZ (hw _ (List.mem_of_getElem? (i := 160) rfl))) (g := (mkF m 32 #[.val (.ref ob), .unset, .unset] [])) rfl (hb hby d24_32) t k) ?_
      show own_Go p e below P T3 (mkF m 35 #[.val (.ref ob), .unset, .unset] [(.double (13806523248043144249 : UInt64))])
      refine own_step (fun _ k => XS.aloadN X3.here hx rfl (hb hby d24_35) rfl rfl k) ?_
      show own_Go p e below P T3 (mkF m 36 #[.val (.ref ob), .unset, .unset] [(.ref ob), (.double (13806523248043144249 : UInt64))])
      obtain ⟨T6, X6, e6, st6⟩ := getF X3 hx hZ hown (host := "") (Or.inl (hw _ (List.mem_of_getElem? (i := 153) rfl))) Via.refl e3 F_c (g := (mkF m 36 #[.val (.ref ob), .unset, .unset] [(.ref ob), (.double (13806523248043144249 : UInt64))])) rfl rfl (hb hby d24_36)
      refine own_step st6 ?_
      show own_Go p e below P T6 (mkF m 39 #[.val (.ref ob), .unset, .unset] [(.int cn), (.double (13806523248043144249 : UInt64))])
      refine own_step (fun _ k => XS.i2dS X6.here hx rfl (hb hby d24_39) rfl rfl k) ?_
      show own_Go p e below P T6 (mkF m 40 #[.val (.ref ob), .unset, .unset] [(.double (FP.i2d cn)), (.double (13806523248043144249 : UInt64))])
      refine own_step (fun _ k => XS.dmulS X6.here hx rfl (hb hby d24_40) rfl (own_nn (own_wk1 cn) (by decide)) rfl k) ?_
      show own_Go p e below P T6 (mkF m 41 #[.val (.ref ob), .unset, .unset] [(.double (FP.dmul (13806523248043144249 : UInt64) (FP.i2d cn)))])
      refine own_step (fun t k => X6.ldc2DoubleC hx hown (mvT hZ (hw _ (List.mem_of_getElem? (i := 161) rfl))) (g := (mkF m 41 #[.val (.ref ob), .unset, .unset] [(.double (FP.dmul (13806523248043144249 : UInt64) (FP.i2d cn)))])) rfl (hb hby d24_41) t k) ?_
      show own_Go p e below P T6 (mkF m 44 #[.val (.ref ob), .unset, .unset] [(.double (4596067534919667024 : UInt64)), (.double (FP.dmul (13806523248043144249 : UInt64) (FP.i2d cn)))])
      refine own_step (fun _ k => XS.daddS X6.here hx rfl (hb hby d24_44) rfl (own_nn (own_wk2 cn) (by decide)) rfl k) ?_
      show own_Go p e below P T6 (mkF m 45 #[.val (.ref ob), .unset, .unset] [(.double (FP.dadd (FP.dmul (13806523248043144249 : UInt64) (FP.i2d cn)) (4596067534919667024 : UInt64)))])
      refine own_step (fun _ k => XS.dstoreN X6.here hx rfl (hb hby d24_45) rfl (l' := #[.val (.ref ob), .val (.double (FP.dadd (FP.dmul (13806523248043144249 : UInt64) (FP.i2d cn)) (4596067534919667024 : UInt64))), .second]) rfl k) ?_
      show own_Go p e below P T6 (mkF m 46 #[.val (.ref ob), .val (.double (FP.dadd (FP.dmul (13806523248043144249 : UInt64) (FP.i2d cn)) (4596067534919667024 : UInt64))), .second] [])
      refine own_step (fun _ k => XS.dloadN X6.here hx rfl (hb hby d24_46) rfl k) ?_
      show own_Go p e below P T6 (mkF m 47 #[.val (.ref ob), .val (.double (FP.dadd (FP.dmul (13806523248043144249 : UInt64) (FP.i2d cn)) (4596067534919667024 : UInt64))), .second] [(.double (FP.dadd (FP.dmul (13806523248043144249 : UInt64) (FP.i2d cn)) (4596067534919667024 : UInt64)))])
      obtain ⟨fs, hr, hrun, hended, hW, hsame⟩ := X6.leave (v := some (.double (FP.dadd (FP.dmul (13806523248043144249 : UInt64) (FP.i2d cn)) (4596067534919667024 : UInt64)))) (fun h => by rw [Bd.returns] at h; cases h)
      refine ⟨_, _, retOut X6 hx (t := .double) Bd.returns rfl (Or.inr (Or.inr (Or.inl ⟨rfl, rfl, _, rfl⟩))) (hb hby d24_47) hr, hrun, hended, hfin _ _ ⟨_, _, rfl, ?_, ⟨_, rfl⟩, hW, hsame.mono (by decide) (by decide)⟩⟩
      show Q24 Z ob cn h0 n0 (some (.double (FP.dadd (FP.dmul (13806523248043144249 : UInt64) (FP.i2d cn)) (4596067534919667024 : UInt64)))) T6.heap _
      rw [e6]
      exact ⟨congrArg (fun z => some (Value.double z)) (show _ = own_wk cn from Eq.symm ((if_pos hc2).trans (if_neg hc4))), N0, rfl⟩
  · refine own_step (fun _ k => XS.icmpNo X1.here hx rfl (hb hby d24_6) rfl (flt hc2).1 k) ?_
    show own_Go p e below P T1 (mkF m 9 #[.val (.ref ob), .unset, .unset] [])
    refine own_step (fun t k => X1.ldc2DoubleC hx hown (mvT hZ (hw _ (List.mem_of_getElem? (i := 165) rfl))) (g := (mkF m 9 #[.val (.ref ob), .unset, .unset] [])) rfl (hb hby d24_9) t k) ?_
    show own_Go p e below P T1 (mkF m 12 #[.val (.ref ob), .unset, .unset] [(.double (13812972402709538800 : UInt64))])
    refine own_step (fun _ k => XS.dstoreN X1.here hx rfl (hb hby d24_12) rfl (l' := #[.val (.ref ob), .val (.double (13812972402709538800 : UInt64)), .second]) rfl k) ?_
    show own_Go p e below P T1 (mkF m 13 #[.val (.ref ob), .val (.double (13812972402709538800 : UInt64)), .second] [])
    refine own_step (fun _ k => XS.goto X1.here hx rfl (pc0 := 13) (pc' := 46) rfl (hb hby d24_13) (by decide) (by decide) k) ?_
    show own_Go p e below P T1 (mkF m 46 #[.val (.ref ob), .val (.double (13812972402709538800 : UInt64)), .second] [])
    refine own_step (fun _ k => XS.dloadN X1.here hx rfl (hb hby d24_46) rfl k) ?_
    show own_Go p e below P T1 (mkF m 47 #[.val (.ref ob), .val (.double (13812972402709538800 : UInt64)), .second] [(.double (13812972402709538800 : UInt64))])
    obtain ⟨fs, hr, hrun, hended, hW, hsame⟩ := X1.leave (v := some (.double (13812972402709538800 : UInt64))) (fun h => by rw [Bd.returns] at h; cases h)
    refine ⟨_, _, retOut X1 hx (t := .double) Bd.returns rfl (Or.inr (Or.inr (Or.inl ⟨rfl, rfl, _, rfl⟩))) (hb hby d24_47) hr, hrun, hended, hfin _ _ ⟨_, _, rfl, ?_, ⟨_, rfl⟩, hW, hsame.mono (by decide) (by decide)⟩⟩
    show Q24 Z ob cn h0 n0 (some (.double (13812972402709538800 : UInt64))) T1.heap _
    rw [e1]
    exact ⟨congrArg (fun z => some (Value.double z)) (show _ = own_wk cn from Eq.symm (if_neg hc2)), N0, rfl⟩
theorem own_hcell : ∀ k : Fin 16, own_ch (65 + Int32.ofNat k.val) ∧ (65 + Int32.ofNat k.val).toInt8.toInt32 = 65 + Int32.ofNat k.val ∧ ¬ (65 + Int32.ofNat k.val) < 0 ∧ ¬ (255 : Int32) < (65 + Int32.ofNat k.val) := by unfold own_ch; decide
theorem own_hl : cmpValue (FP.dcmp 13812972402709538800 13812972402709538800) .l = (0 : Int32) := by decide +kernel
theorem own_h6 : cmpValue (FP.dcmp 4586242481972595550 4586242481972595550) .l = (0 : Int32) := by decide +kernel
theorem own_hws {a0 : Array Value} {Z : State} (hw : ∀ d ∈ tables_1, d.before a0 Z = true) : ∀ d ∈ StrChars.Road.words, d.before a0 Z = true := fun d hd => hw d ((by decide +kernel : ∀ d ∈ StrChars.Road.words, d ∈ tables_1) d hd)
theorem ef_0 (m : MethodId) (x0 : Int32) (x1 : Int32) (x2 : Int32) (x3 : Int32) (x4 : Int32) (x5 : Int32) : entryFrame m #[(.int x0), (.int x1), (.int x2), (.int x3), (.int x4), (.int x5)] maxLocals = mkF m 0 #[.val (.int x0), .val (.int x1), .val (.int x2), .val (.int x3), .val (.int x4), .val (.int x5), .unset, .unset, .unset, .unset, .unset, .unset, .unset, .unset, .unset] [] := by first | (simp [entryFrame, mkF, argsToLocals, Value.category, maxLocals]; done) | rfl
theorem pn_com_example_brinequil_brinequil_model_FractionWaterInteractionPinLaw : plainName "com/example/brinequil/brinequil/model/FractionWaterInteractionPinLaw" = true := by first | (simp [plainName, overriddenIn]; done) | decide +kernel
theorem pd__AC__V : parseMethodDescriptor "([C)V" = some ⟨[(.array .char)], none⟩ := by decide +kernel
theorem pd__Ljava_lang_StringDDDI__V : parseMethodDescriptor "(Ljava/lang/String;DDDI)V" = some ⟨[(.object "java/lang/String"), .double, .double, .double, .int], none⟩ := by decide +kernel
theorem pd____D : parseMethodDescriptor "()D" = some ⟨[], some .double⟩ := by decide +kernel
theorem pd__II__I : parseMethodDescriptor "(II)I" = some ⟨[.int, .int], some .int⟩ := by decide +kernel
def Q0 (Z : State) (p0 : Int32) (p1 : Int32) (p2 : Int32) (p3 : Int32) (p4 : Int32) (p5 : Int32) (cc : Int32) (ci : Addr) (ta : Addr) (tc : Cell) (an : Addr) (h0 : Heap) (n0 : Nat) (v : Option Value) (h : Heap) (L : List Loc) : Prop := v = some (.int 1) ∧ Fr n0 L
set_option maxRecDepth 65536 in
set_option maxHeartbeats 40000000 in
theorem rm0 (l : Launch) (Z : State) (a0 : Array Value) (hw : ∀ d ∈ tables_1, d.before a0 Z = true) (ws : List Jvm.Cond) (p0 : Int32) (p1 : Int32) (p2 : Int32) (p3 : Int32) (p4 : Int32) (p5 : Int32) (cc : Int32) (ci : Addr) (ta : Addr) (tc : Cell) (an : Addr) (h0 : Heap) (n0 : Nat) (Z0 : n0 ≤ h0.size) (S_cs : Sta Z h0 "java/lang/String" "COMPACT_STRINGS" "Z" (.int cc)) (hcc : ¬ (cc = (0 : Int32))) (S_ci : Sta Z h0 "java/lang/CharacterDataLatin1" "instance" "Ljava/lang/CharacterDataLatin1;" (.ref ci)) (E_ci : Exa Z h0 ci "java/lang/CharacterDataLatin1") (S_ta : Sta Z h0 "java/lang/CharacterDataLatin1" "A" "[I" (.ref ta)) (A_ta : Arr Z h0 ta tc .int) (HT : ∀ k : Fin 16, ¬ ((65 + Int32.ofNat k.val) < 0 ∨ tc.slots.size ≤ (65 + Int32.ofNat k.val).toNatClampNeg) ∧ tc.slots[(65 + Int32.ofNat k.val).toNatClampNeg]? = some (.int (8552417 : Int32))) (S_NONE : Sta Z h0 "com/example/brinequil/brinequil/model/AssociationScheme" "NONE" "Lcom/example/brinequil/brinequil/model/AssociationScheme;" (.ref an)) :
    MetFree l x (head1 (Jvm.Cond.code x code maxLocals ret :: ws) room_1) (fun a U => a = #[(.int p0), (.int p1), (.int p2), (.int p3), (.int p4), (.int p5)] ∧ Z = U ∧ U.heap = h0) (fun _ _ _ _ _ => True) (fun _ U o U' => ∃ v L, o = .returned v ∧ Q0 Z p0 p1 p2 p3 p4 p5 cc ci ta tc an h0 n0 v U'.heap L ∧ ReturnedEndW U o U' L room_1.cells room_1.slots) := by
  refine MetFree.of_bodySF (plainFor_of_name pn_com_example_brinequil_brinequil_model_FractionWaterInteractionPinLaw) hisR ?_
  intro p e s m args below meth c s₁ Bd hml0 hP hK
  obtain ⟨rfl, hZU, hh⟩ := hP
  have hZ : Z.Warmed39 s.vm := hZU ▸ State.Warmed39.refl Z
  have hx := Bd.exec
  have hby := Bd.bytes
  have hml : c.maxLocals = 15 := hml0
  have hown : s.vm.findClass "com/example/brinequil/brinequil/model/FractionWaterInteractionPinLaw" = some m.cls := findClass_of_methodNamed Bd.named
  have hnm := (name_of_methodNamed Bd.named Bd.method).1
  have hS0 : s.Since s.vm 0 := (State.WarmedH.refl s).since 0
  have hk0 : 0 ≤ h0.size := Nat.zero_le _
  have X0 : Stand p l e room_1 (s.setVm s.vm) m #[(.int p0), (.int p1), (.int p2), (.int p3), (.int p4), (.int p5)] below meth c s₁ [] 0 0 := Stand.of_body Bd
  have e0 : s₁.heap = h0 := by rw [← hh, Bd.state]; rfl
  have N0 := Fr.nil n0
  refine own_all ?_
  intro P hfin
  refine own_cast (ef_0 m p0 p1 p2 p3 p4 p5) ?_
  show own_Go p e below P s₁ (mkF m 0 #[.val (.int p0), .val (.int p1), .val (.int p2), .val (.int p3), .val (.int p4), .val (.int p5), .unset, .unset, .unset, .unset, .unset, .unset, .unset, .unset, .unset] [])
  refine own_step (fun _ k => XS.iloadN X0.here hx rfl (hb hby at_0) rfl k) ?_
  show own_Go p e below P s₁ (mkF m 1 #[.val (.int p0), .val (.int p1), .val (.int p2), .val (.int p3), .val (.int p4), .val (.int p5), .unset, .unset, .unset, .unset, .unset, .unset, .unset, .unset, .unset] [(.int p1)])
  refine own_step (fun _ k => XS.iconst X0.here hx rfl (hb hby at_1) k) ?_
  show own_Go p e below P s₁ (mkF m 2 #[.val (.int p0), .val (.int p1), .val (.int p2), .val (.int p3), .val (.int p4), .val (.int p5), .unset, .unset, .unset, .unset, .unset, .unset, .unset, .unset, .unset] [(.int (1 : Int32)), (.int p1)])
  refine own_step (fun _ k => XS.iand X0.here hx rfl (hb hby at_2) rfl k) ?_
  show own_Go p e below P s₁ (mkF m 3 #[.val (.int p0), .val (.int p1), .val (.int p2), .val (.int p3), .val (.int p4), .val (.int p5), .unset, .unset, .unset, .unset, .unset, .unset, .unset, .unset, .unset] [(.int (p1 &&& (1 : Int32)))])
  by_cases hc1 : (p1 &&& (1 : Int32)) = (0 : Int32)
  · refine own_step (fun _ k => XS.ifNo X0.here hx rfl (hb hby at_3) rfl ((if0 _ _).trans (teq hc1).2) k) ?_
    show own_Go p e below P s₁ (mkF m 6 #[.val (.int p0), .val (.int p1), .val (.int p2), .val (.int p3), .val (.int p4), .val (.int p5), .unset, .unset, .unset, .unset, .unset, .unset, .unset, .unset, .unset] [])
    refine own_step (fun _ k => XS.iconst X0.here hx rfl (hb hby at_6) k) ?_
    show own_Go p e below P s₁ (mkF m 7 #[.val (.int p0), .val (.int p1), .val (.int p2), .val (.int p3), .val (.int p4), .val (.int p5), .unset, .unset, .unset, .unset, .unset, .unset, .unset, .unset, .unset] [(.int (1 : Int32))])
    refine own_step (fun _ k => XS.iloadN X0.here hx rfl (hb hby at_7) rfl k) ?_
    show own_Go p e below P s₁ (mkF m 8 #[.val (.int p0), .val (.int p1), .val (.int p2), .val (.int p3), .val (.int p4), .val (.int p5), .unset, .unset, .unset, .unset, .unset, .unset, .unset, .unset, .unset] [(.int p0), (.int (1 : Int32))])
    refine own_step (fun t k => X0.ldcInt hx hown (mvT hZ (hw _ (List.mem_of_getElem? (i := 0) rfl))) (g := (mkF m 8 #[.val (.int p0), .val (.int p1), .val (.int p2), .val (.int p3), .val (.int p4), .val (.int p5), .unset, .unset, .unset, .unset, .unset, .unset, .unset, .unset, .unset] [(.int p0), (.int (1 : Int32))])) rfl (hb hby at_8) t k) ?_
    show own_Go p e below P s₁ (mkF m 10 #[.val (.int p0), .val (.int p1), .val (.int p2), .val (.int p3), .val (.int p4), .val (.int p5), .unset, .unset, .unset, .unset, .unset, .unset, .unset, .unset, .unset] [(.int (2147483647 : Int32)), (.int p0), (.int (1 : Int32))])
    refine own_step (fun _ k => XS.iand X0.here hx rfl (hb hby at_10) rfl k) ?_
    show own_Go p e below P s₁ (mkF m 11 #[.val (.int p0), .val (.int p1), .val (.int p2), .val (.int p3), .val (.int p4), .val (.int p5), .unset, .unset, .unset, .unset, .unset, .unset, .unset, .unset, .unset] [(.int (p0 &&& (2147483647 : Int32))), (.int (1 : Int32))])
    refine own_step (fun _ k => XS.bipush X0.here hx rfl (hb hby at_11) k) ?_
    show own_Go p e below P s₁ (mkF m 13 #[.val (.int p0), .val (.int p1), .val (.int p2), .val (.int p3), .val (.int p4), .val (.int p5), .unset, .unset, .unset, .unset, .unset, .unset, .unset, .unset, .unset] [(.int (12 : Int32)), (.int (p0 &&& (2147483647 : Int32))), (.int (1 : Int32))])
    refine own_step (fun _ k => iremM X0 hx rfl (hb hby at_13) rfl (by decide : ¬ ((12 : Int32) = (0 : Int32))) k) ?_
    show own_Go p e below P s₁ (mkF m 14 #[.val (.int p0), .val (.int p1), .val (.int p2), .val (.int p3), .val (.int p4), .val (.int p5), .unset, .unset, .unset, .unset, .unset, .unset, .unset, .unset, .unset] [(.int ((p0 &&& (2147483647 : Int32)) % (12 : Int32))), (.int (1 : Int32))])
    refine own_step (fun _ k => XS.iadd X0.here hx rfl (hb hby at_14) rfl k) ?_
    show own_Go p e below P s₁ (mkF m 15 #[.val (.int p0), .val (.int p1), .val (.int p2), .val (.int p3), .val (.int p4), .val (.int p5), .unset, .unset, .unset, .unset, .unset, .unset, .unset, .unset, .unset] [(.int ((1 : Int32) + ((p0 &&& (2147483647 : Int32)) % (12 : Int32))))])
    refine own_step (fun _ k => XS.istore X0.here hx rfl (hb hby at_15) rfl (l' := #[.val (.int p0), .val (.int p1), .val (.int p2), .val (.int p3), .val (.int p4), .val (.int p5), .val (.int ((1 : Int32) + ((p0 &&& (2147483647 : Int32)) % (12 : Int32)))), .unset, .unset, .unset, .unset, .unset, .unset, .unset, .unset]) rfl k) ?_
    show own_Go p e below P s₁ (mkF m 17 #[.val (.int p0), .val (.int p1), .val (.int p2), .val (.int p3), .val (.int p4), .val (.int p5), .val (.int ((1 : Int32) + ((p0 &&& (2147483647 : Int32)) % (12 : Int32)))), .unset, .unset, .unset, .unset, .unset, .unset, .unset, .unset] [])
    refine own_step (fun _ k => XS.goto X0.here hx rfl (pc0 := 17) (pc' := 30) rfl (hb hby at_17) (by decide) (by decide) k) ?_
    show own_Go p e below P s₁ (mkF m 30 #[.val (.int p0), .val (.int p1), .val (.int p2), .val (.int p3), .val (.int p4), .val (.int p5), .val (.int ((1 : Int32) + ((p0 &&& (2147483647 : Int32)) % (12 : Int32)))), .unset, .unset, .unset, .unset, .unset, .unset, .unset, .unset] [])
    have hcn : ¬ (((1 : Int32) + ((p0 &&& (2147483647 : Int32)) % (12 : Int32))) < (1 : Int32)) := (own_cn1 _)
    generalize hn_cn : ((1 : Int32) + ((p0 &&& (2147483647 : Int32)) % (12 : Int32))) = cn at hcn ⊢
    show own_Go p e below P s₁ (mkF m 30 #[.val (.int p0), .val (.int p1), .val (.int p2), .val (.int p3), .val (.int p4), .val (.int p5), .val (.int cn), .unset, .unset, .unset, .unset, .unset, .unset, .unset, .unset] [])
    refine own_step (fun _ k => XS.iconst X0.here hx rfl (hb hby at_30) k) ?_
    show own_Go p e below P s₁ (mkF m 31 #[.val (.int p0), .val (.int p1), .val (.int p2), .val (.int p3), .val (.int p4), .val (.int p5), .val (.int cn), .unset, .unset, .unset, .unset, .unset, .unset, .unset, .unset] [(.int (1 : Int32))])
    obtain ⟨T2, h2, k2, X2, e2, E2, A2, st2⟩ := newP X0 hx hZ (hw _ (List.mem_of_getElem? (i := 5) rfl)) e0 (g := (mkF m 31 #[.val (.int p0), .val (.int p1), .val (.int p2), .val (.int p3), .val (.int p4), .val (.int p5), .val (.int cn), .unset, .unset, .unset, .unset, .unset, .unset, .unset, .unset] [(.int (1 : Int32))])) rfl (hb hby at_31) rfl (by decide) (cap := 1) (by decide) (by decide) (by decide) (by decide)
    obtain ⟨b2, g2⟩ : ∃ z, z = h0.size := ⟨_, rfl⟩
    rw [← g2] at A2 st2
    have g_b2 : n0 ≤ b2 := Nat.le_trans Z0 (Nat.le_of_eq g2.symm)
    have sz_b2 : h0.size ≤ b2 := Nat.le_trans (Keep.refl h0 []).1 (Nat.le_of_eq g2.symm)
    have V_b2 : Arv Z h2 b2 k2 .char (1 : Int32) [(.int (0 : Int32))] (.int (0 : Int32)) := (Arv.new A2 (by decide)).pad (pad_rep [] (.int (0 : Int32)) 1)
    refine own_step st2 ?_
    show own_Go p e below P T2 (mkF m 33 #[.val (.int p0), .val (.int p1), .val (.int p2), .val (.int p3), .val (.int p4), .val (.int p5), .val (.int cn), .unset, .unset, .unset, .unset, .unset, .unset, .unset, .unset] [(.ref b2)])
    refine own_step (fun _ k => XS.dup X2.here hx rfl (hb hby at_33) rfl rfl k) ?_
    show own_Go p e below P T2 (mkF m 34 #[.val (.int p0), .val (.int p1), .val (.int p2), .val (.int p3), .val (.int p4), .val (.int p5), .val (.int cn), .unset, .unset, .unset, .unset, .unset, .unset, .unset, .unset] [(.ref b2), (.ref b2)])
    refine own_step (fun _ k => XS.iconst X2.here hx rfl (hb hby at_34) k) ?_
    show own_Go p e below P T2 (mkF m 35 #[.val (.int p0), .val (.int p1), .val (.int p2), .val (.int p3), .val (.int p4), .val (.int p5), .val (.int cn), .unset, .unset, .unset, .unset, .unset, .unset, .unset, .unset] [(.int (0 : Int32)), (.ref b2), (.ref b2)])
    refine own_step (fun _ k => XS.bipush X2.here hx rfl (hb hby at_35) k) ?_
    show own_Go p e below P T2 (mkF m 37 #[.val (.int p0), .val (.int p1), .val (.int p2), .val (.int p3), .val (.int p4), .val (.int p5), .val (.int cn), .unset, .unset, .unset, .unset, .unset, .unset, .unset, .unset] [(.int (65 : Int32)), (.int (0 : Int32)), (.ref b2), (.ref b2)])
    refine own_step (fun _ k => XS.iload X2.here hx rfl (hb hby at_37) rfl k) ?_
    show own_Go p e below P T2 (mkF m 39 #[.val (.int p0), .val (.int p1), .val (.int p2), .val (.int p3), .val (.int p4), .val (.int p5), .val (.int cn), .unset, .unset, .unset, .unset, .unset, .unset, .unset, .unset] [(.int p5), (.int (65 : Int32)), (.int (0 : Int32)), (.ref b2), (.ref b2)])
    refine own_step (fun _ k => XS.bipush X2.here hx rfl (hb hby at_39) k) ?_
    show own_Go p e below P T2 (mkF m 41 #[.val (.int p0), .val (.int p1), .val (.int p2), .val (.int p3), .val (.int p4), .val (.int p5), .val (.int cn), .unset, .unset, .unset, .unset, .unset, .unset, .unset, .unset] [(.int (15 : Int32)), (.int p5), (.int (65 : Int32)), (.int (0 : Int32)), (.ref b2), (.ref b2)])
    refine own_step (fun _ k => XS.iand X2.here hx rfl (hb hby at_41) rfl k) ?_
    show own_Go p e below P T2 (mkF m 42 #[.val (.int p0), .val (.int p1), .val (.int p2), .val (.int p3), .val (.int p4), .val (.int p5), .val (.int cn), .unset, .unset, .unset, .unset, .unset, .unset, .unset, .unset] [(.int (p5 &&& (15 : Int32))), (.int (65 : Int32)), (.int (0 : Int32)), (.ref b2), (.ref b2)])
    refine own_step (fun _ k => XS.iadd X2.here hx rfl (hb hby at_42) rfl k) ?_
    show own_Go p e below P T2 (mkF m 43 #[.val (.int p0), .val (.int p1), .val (.int p2), .val (.int p3), .val (.int p4), .val (.int p5), .val (.int cn), .unset, .unset, .unset, .unset, .unset, .unset, .unset, .unset] [(.int ((65 : Int32) + (p5 &&& (15 : Int32)))), (.int (0 : Int32)), (.ref b2), (.ref b2)])
    obtain ⟨kq, hkq⟩ := own_k16 p5
    obtain ⟨hch, hcb, hcl, hcu⟩ := own_hcell kq
    obtain ⟨hti, htv⟩ := HT kq
    rw [← hkq] at hch hcb hcl hcu hti htv
    generalize hn_ch : ((65 : Int32) + (p5 &&& (15 : Int32))) = ch at hch hcb hcl hcu hti htv ⊢
    show own_Go p e below P T2 (mkF m 43 #[.val (.int p0), .val (.int p1), .val (.int p2), .val (.int p3), .val (.int p4), .val (.int p5), .val (.int cn), .unset, .unset, .unset, .unset, .unset, .unset, .unset, .unset] [(.int ch), (.int (0 : Int32)), (.ref b2), (.ref b2)])
    refine own_step (fun _ k => XS.i2c X2.here hx rfl (hb hby at_43) rfl k) ?_
    show own_Go p e below P T2 (mkF m 44 #[.val (.int p0), .val (.int p1), .val (.int p2), .val (.int p3), .val (.int p4), .val (.int p5), .val (.int cn), .unset, .unset, .unset, .unset, .unset, .unset, .unset, .unset] [(.int ch.toUInt32.toUInt16.toUInt32.toInt32), (.int (0 : Int32)), (.ref b2), (.ref b2)])
    rw [hch.2.1]
    show own_Go p e below P T2 (mkF m 44 #[.val (.int p0), .val (.int p1), .val (.int p2), .val (.int p3), .val (.int p4), .val (.int p5), .val (.int cn), .unset, .unset, .unset, .unset, .unset, .unset, .unset, .unset] [(.int ch), (.int (0 : Int32)), (.ref b2), (.ref b2)])
    obtain ⟨cl3, Ar3, q3, S3, M3, H3, G3⟩ := (id V_b2)
    have hin3 : ¬ ((0 : Int32) < 0 ∨ cl3.slots.size ≤ ((0 : Int32)).toNatClampNeg) := inb_of S3 ⟨by decide, by decide⟩
    obtain ⟨T3, h3, X3, e3, W3, st3⟩ := stC X2 hx hZ e2 Ar3 (j := (0 : Int32)) hin3 (g := (mkF m 44 #[.val (.int p0), .val (.int p1), .val (.int p2), .val (.int p3), .val (.int p4), .val (.int p5), .val (.int cn), .unset, .unset, .unset, .unset, .unset, .unset, .unset, .unset] [(.int ch), (.int (0 : Int32)), (.ref b2), (.ref b2)])) rfl rfl (hb hby at_44)
    have V3 : Arv Z h3 b2 k2 .char (1 : Int32) [(.int (nar .char ch))] (.int (0 : Int32)) := Arv.set Ar3 q3 S3 M3 H3 G3 (fits_nar_char _) W3 0 rfl (Nat.le_of_ble_eq_true rfl)
    have N3 := Fr.snoc X3 N0 g_b2
    refine own_step st3 ?_
    show own_Go p e below P T3 (mkF m 45 #[.val (.int p0), .val (.int p1), .val (.int p2), .val (.int p3), .val (.int p4), .val (.int p5), .val (.int cn), .unset, .unset, .unset, .unset, .unset, .unset, .unset, .unset] [(.ref b2)])
    have V_ch : Arv Z h3 b2 k2 .char (1 : Int32) ([ch].map Value.int) (.int (0 : Int32)) := by
      have q := V3
      rw [show nar .char ch = ch from hch.2.1] at q
      exact q
    show own_Go p e below P T3 (mkF m 45 #[.val (.int p0), .val (.int p1), .val (.int p2), .val (.int p3), .val (.int p4), .val (.int p5), .val (.int cn), .unset, .unset, .unset, .unset, .unset, .unset, .unset, .unset] [(.ref b2)])
    refine own_step (fun _ k => XS.astore X3.here hx rfl (hb hby at_45) rfl rfl (l' := #[.val (.int p0), .val (.int p1), .val (.int p2), .val (.int p3), .val (.int p4), .val (.int p5), .val (.int cn), .val (.ref b2), .unset, .unset, .unset, .unset, .unset, .unset, .unset]) rfl k) ?_
    show own_Go p e below P T3 (mkF m 47 #[.val (.int p0), .val (.int p1), .val (.int p2), .val (.int p3), .val (.int p4), .val (.int p5), .val (.int cn), .val (.ref b2), .unset, .unset, .unset, .unset, .unset, .unset, .unset] [])
    obtain ⟨T4, h4, X4, e4, E4, A4, D4, -, st4⟩ := newO X3 hx hZ hown (hw _ (List.mem_of_getElem? (i := 6) rfl)) (hw _ (List.mem_of_getElem? (i := 7) rfl)) (hw _ (List.mem_of_getElem? (i := 8) rfl)) e3 (g := (mkF m 47 #[.val (.int p0), .val (.int p1), .val (.int p2), .val (.int p3), .val (.int p4), .val (.int p5), .val (.int cn), .val (.ref b2), .unset, .unset, .unset, .unset, .unset, .unset, .unset] [])) rfl (hb hby at_47) (by decide) (by decide)
    obtain ⟨b4, g4⟩ : ∃ z, z = h3.size := ⟨_, rfl⟩
    rw [← g4] at A4 D4 st4
    have g_b4 : n0 ≤ b4 := Nat.le_trans (Nat.le_trans (Nat.le_trans Z0 E2.1) (Keep.of_wr W3).1) (Nat.le_of_eq g4.symm)
    have sz_b4 : h0.size ≤ b4 := Nat.le_trans (((Keep.refl h0 []).ext E2).wr W3 (Or.inr sz_b2)).1 (Nat.le_of_eq g4.symm)
    have E_b4 := A4
    have F_name_b4 : Fld Z h4 b4 "com/example/brinequil/brinequil/model/Fraction" "name" "Ljava/lang/String;" .null := D4 (Or.inr (hw _ (List.mem_of_getElem? (i := 146) rfl))) (ty := (.object "java/lang/String")) (by decide)
    have F_criticalTemperature_b4 : Fld Z h4 b4 "com/example/brinequil/brinequil/model/Fraction" "criticalTemperature" "D" (.double (0 : UInt64)) := D4 (Or.inr (hw _ (List.mem_of_getElem? (i := 148) rfl))) (ty := .double) (by decide)
    have F_criticalPressure_b4 : Fld Z h4 b4 "com/example/brinequil/brinequil/model/Fraction" "criticalPressure" "D" (.double (0 : UInt64)) := D4 (Or.inr (hw _ (List.mem_of_getElem? (i := 150) rfl))) (ty := .double) (by decide)
    have F_acentricFactor_b4 : Fld Z h4 b4 "com/example/brinequil/brinequil/model/Fraction" "acentricFactor" "D" (.double (0 : UInt64)) := D4 (Or.inr (hw _ (List.mem_of_getElem? (i := 152) rfl))) (ty := .double) (by decide)
    have F_carbonNumber_b4 : Fld Z h4 b4 "com/example/brinequil/brinequil/model/Fraction" "carbonNumber" "I" (.int (0 : Int32)) := D4 (Or.inr (hw _ (List.mem_of_getElem? (i := 154) rfl))) (ty := .int) (by decide)
    refine own_step st4 ?_
    show own_Go p e below P T4 (mkF m 50 #[.val (.int p0), .val (.int p1), .val (.int p2), .val (.int p3), .val (.int p4), .val (.int p5), .val (.int cn), .val (.ref b2), .unset, .unset, .unset, .unset, .unset, .unset, .unset] [(.ref b4)])
    refine own_step (fun _ k => XS.dup X4.here hx rfl (hb hby at_50) rfl rfl k) ?_
    show own_Go p e below P T4 (mkF m 51 #[.val (.int p0), .val (.int p1), .val (.int p2), .val (.int p3), .val (.int p4), .val (.int p5), .val (.int cn), .val (.ref b2), .unset, .unset, .unset, .unset, .unset, .unset, .unset] [(.ref b4), (.ref b4)])
    obtain ⟨T5, h5, X5, e5, E5, A5, D5, -, st5⟩ := newO X4 hx hZ hown (hw _ (List.mem_of_getElem? (i := 9) rfl)) (hw _ (List.mem_of_getElem? (i := 10) rfl)) (hw _ (List.mem_of_getElem? (i := 11) rfl)) e4 (g := (mkF m 51 #[.val (.int p0), .val (.int p1), .val (.int p2), .val (.int p3), .val (.int p4), .val (.int p5), .val (.int cn), .val (.ref b2), .unset, .unset, .unset, .unset, .unset, .unset, .unset] [(.ref b4), (.ref b4)])) rfl (hb hby at_51) (by decide) (by decide)
    obtain ⟨b5, g5⟩ : ∃ z, z = h4.size := ⟨_, rfl⟩
    rw [← g5] at A5 D5 st5
    have g_b5 : n0 ≤ b5 := Nat.le_trans (Nat.le_trans (Nat.le_trans (Nat.le_trans Z0 E2.1) (Keep.of_wr W3).1) E4.1) (Nat.le_of_eq g5.symm)
    have sz_b5 : h0.size ≤ b5 := Nat.le_trans ((((Keep.refl h0 []).ext E2).wr W3 (Or.inr sz_b2)).ext E4).1 (Nat.le_of_eq g5.symm)
    have E_b5 := A5
    have F_coder_b5 : Fld Z h5 b5 "java/lang/String" "coder" "B" (.int (0 : Int32)) := D5 (Or.inr (hw _ (List.mem_of_getElem? (i := 35) rfl))) (ty := .byte) (by decide)
    have F_value_b5 : Fld Z h5 b5 "java/lang/String" "value" "[B" .null := D5 (Or.inr (hw _ (List.mem_of_getElem? (i := 37) rfl))) (ty := (.array .byte)) (by decide)
    refine own_step st5 ?_
    show own_Go p e below P T5 (mkF m 54 #[.val (.int p0), .val (.int p1), .val (.int p2), .val (.int p3), .val (.int p4), .val (.int p5), .val (.int cn), .val (.ref b2), .unset, .unset, .unset, .unset, .unset, .unset, .unset] [(.ref b5), (.ref b4), (.ref b4)])
    refine own_step (fun _ k => XS.dup X5.here hx rfl (hb hby at_54) rfl rfl k) ?_
    show own_Go p e below P T5 (mkF m 55 #[.val (.int p0), .val (.int p1), .val (.int p2), .val (.int p3), .val (.int p4), .val (.int p5), .val (.int cn), .val (.ref b2), .unset, .unset, .unset, .unset, .unset, .unset, .unset] [(.ref b5), (.ref b5), (.ref b4), (.ref b4)])
    refine own_step (fun _ k => XS.aload X5.here hx rfl (hb hby at_55) rfl rfl k) ?_
    show own_Go p e below P T5 (mkF m 57 #[.val (.int p0), .val (.int p1), .val (.int p2), .val (.int p3), .val (.int p4), .val (.int p5), .val (.int cn), .val (.ref b2), .unset, .unset, .unset, .unset, .unset, .unset, .unset] [(.ref b2), (.ref b5), (.ref b5), (.ref b4), (.ref b4)])
    obtain ⟨_, _, ⟨T6, L6, k6, n6⟩, -, X6, ⟨Lc6, hQ6, l6, y6, z6⟩, st6⟩ := X5.specialBack hx (y := (⟨"java/lang/String", "<init>", "([C)V"⟩ : MethodName)) rfl hown (mvT hZ (hw _ (List.mem_of_getElem? (i := 12) rfl))) (mvT hZ (hw _ (List.mem_of_getElem? (i := 13) rfl))) (mvT hZ (hw _ (List.mem_of_getElem? (i := 14) rfl))) (by decide) (StrChars.Road.backV (W := 3) hZ (own_hws hw) (kI := 4) (hw _ (List.mem_of_getElem? (i := 10) rfl)) (cs := [ch]) (bs := [ch]) (n := 1) g_b5 (Nat.le_trans (Nat.le_trans (Nat.le_trans (Nat.le_trans Z0 E2.1) (Keep.of_wr W3).1) E4.1) E5.1) E_b5 F_value_b5 F_coder_b5 ((V_ch.ext E4).ext E5) ((((S_cs.ext E2).wr W3).ext E4).ext E5) hcc rfl rfl (by decide) (by decide) (fun c hc => by rw [List.mem_singleton.mp hc]; exact ⟨hcl, hcu⟩) (congrArg (fun z => [z]) hcb.symm) (by decide) (by decide)) (g := (mkF m 57 #[.val (.int p0), .val (.int p1), .val (.int p2), .val (.int p3), .val (.int p4), .val (.int p5), .val (.int cn), .val (.ref b2), .unset, .unset, .unset, .unset, .unset, .unset, .unset] [(.ref b2), (.ref b5), (.ref b5), (.ref b4), (.ref b4)])) rfl (by rw [hml]; rfl) (Steps.refl _) (a := b5) (argsL := [(.ref b2)]) (rest := [(.ref b5), (.ref b4), (.ref b4)]) (lenOf pd__AC__V rfl) rfl (by show 2 * 0 + _ ≤ _; exact Nat.le_of_eq rfl) (hb hby at_57) (fun _ _ => ⟨rfl, e5, (by decide : 3 + 1 ≤ _), (by decide : 10 + 1 ≤ _)⟩)
    dsimp only [Pt.U, Pt.locs, Pt.cells, Pt.slots] at X6 l6 y6 z6 st6 hQ6
    subst l6 y6 z6
    obtain ⟨rfl, N6q, K6, E6_o, Fc6, sv6, kb6, gs6, hle6, hne6, Fv6, V6⟩ := hQ6
    have g_sv6 : n0 ≤ sv6 := Nat.le_trans (Nat.le_trans (Nat.le_trans (Nat.le_trans (Nat.le_trans Z0 E2.1) (Keep.of_wr W3).1) E4.1) E5.1) hle6
    have sz_sv6 : h0.size ≤ sv6 := Nat.le_trans (((((Keep.refl h0 []).ext E2).wr W3 (Or.inr sz_b2)).ext E4).ext E5).1 hle6
    have N6 := Fr.app N3 N6q
    refine own_step (fun _ k => st6.trans k) ?_
    show own_Go p e below P T6 (mkF m 60 #[.val (.int p0), .val (.int p1), .val (.int p2), .val (.int p3), .val (.int p4), .val (.int p5), .val (.int cn), .val (.ref b2), .unset, .unset, .unset, .unset, .unset, .unset, .unset] [(.ref b5), (.ref b4), (.ref b4)])
    refine own_step (fun _ k => XS.dconst1 X6.here hx rfl (hb hby at_60) rfl k) ?_
    show own_Go p e below P T6 (mkF m 61 #[.val (.int p0), .val (.int p1), .val (.int p2), .val (.int p3), .val (.int p4), .val (.int p5), .val (.int cn), .val (.ref b2), .unset, .unset, .unset, .unset, .unset, .unset, .unset] [(.double FP.dconst1), (.ref b5), (.ref b4), (.ref b4)])
    refine own_step (fun _ k => XS.iloadN X6.here hx rfl (hb hby at_61) rfl k) ?_
    show own_Go p e below P T6 (mkF m 62 #[.val (.int p0), .val (.int p1), .val (.int p2), .val (.int p3), .val (.int p4), .val (.int p5), .val (.int cn), .val (.ref b2), .unset, .unset, .unset, .unset, .unset, .unset, .unset] [(.int p2), (.double FP.dconst1), (.ref b5), (.ref b4), (.ref b4)])
    refine own_step (fun t k => X6.ldcInt hx hown (mvT hZ (hw _ (List.mem_of_getElem? (i := 38) rfl))) (g := (mkF m 62 #[.val (.int p0), .val (.int p1), .val (.int p2), .val (.int p3), .val (.int p4), .val (.int p5), .val (.int cn), .val (.ref b2), .unset, .unset, .unset, .unset, .unset, .unset, .unset] [(.int p2), (.double FP.dconst1), (.ref b5), (.ref b4), (.ref b4)])) rfl (hb hby at_62) t k) ?_
    show own_Go p e below P T6 (mkF m 64 #[.val (.int p0), .val (.int p1), .val (.int p2), .val (.int p3), .val (.int p4), .val (.int p5), .val (.int cn), .val (.ref b2), .unset, .unset, .unset, .unset, .unset, .unset, .unset] [(.int (65535 : Int32)), (.int p2), (.double FP.dconst1), (.ref b5), (.ref b4), (.ref b4)])
    refine own_step (fun _ k => XS.iand X6.here hx rfl (hb hby at_64) rfl k) ?_
    show own_Go p e below P T6 (mkF m 65 #[.val (.int p0), .val (.int p1), .val (.int p2), .val (.int p3), .val (.int p4), .val (.int p5), .val (.int cn), .val (.ref b2), .unset, .unset, .unset, .unset, .unset, .unset, .unset] [(.int (p2 &&& (65535 : Int32))), (.double FP.dconst1), (.ref b5), (.ref b4), (.ref b4)])
    refine own_step (fun _ k => XS.i2dS X6.here hx rfl (hb hby at_65) rfl rfl k) ?_
    show own_Go p e below P T6 (mkF m 66 #[.val (.int p0), .val (.int p1), .val (.int p2), .val (.int p3), .val (.int p4), .val (.int p5), .val (.int cn), .val (.ref b2), .unset, .unset, .unset, .unset, .unset, .unset, .unset] [(.double (FP.i2d (p2 &&& (65535 : Int32)))), (.double FP.dconst1), (.ref b5), (.ref b4), (.ref b4)])
    refine own_step (fun _ k => XS.daddS X6.here hx rfl (hb hby at_66) rfl (own_nn (own_onep _).1 (by decide)) rfl k) ?_
    show own_Go p e below P T6 (mkF m 67 #[.val (.int p0), .val (.int p1), .val (.int p2), .val (.int p3), .val (.int p4), .val (.int p5), .val (.int cn), .val (.ref b2), .unset, .unset, .unset, .unset, .unset, .unset, .unset] [(.double (FP.dadd FP.dconst1 (FP.i2d (p2 &&& (65535 : Int32))))), (.ref b5), (.ref b4), (.ref b4)])
    have pd_xT := own_onep p2
    generalize hn_xT : (FP.dadd FP.dconst1 (FP.i2d (p2 &&& (65535 : Int32)))) = xT
    rw [show (FP.dadd FP.dconst1 (FP.i2d (p2 &&& (65535 : Int32)))) = _ from hn_xT] at pd_xT
    refine own_step (fun _ k => XS.dconst1 X6.here hx rfl (hb hby at_67) rfl k) ?_
    show own_Go p e below P T6 (mkF m 68 #[.val (.int p0), .val (.int p1), .val (.int p2), .val (.int p3), .val (.int p4), .val (.int p5), .val (.int cn), .val (.ref b2), .unset, .unset, .unset, .unset, .unset, .unset, .unset] [(.double FP.dconst1), (.double xT), (.ref b5), (.ref b4), (.ref b4)])
    refine own_step (fun _ k => XS.iloadN X6.here hx rfl (hb hby at_68) rfl k) ?_
    show own_Go p e below P T6 (mkF m 69 #[.val (.int p0), .val (.int p1), .val (.int p2), .val (.int p3), .val (.int p4), .val (.int p5), .val (.int cn), .val (.ref b2), .unset, .unset, .unset, .unset, .unset, .unset, .unset] [(.int p3), (.double FP.dconst1), (.double xT), (.ref b5), (.ref b4), (.ref b4)])
    refine own_step (fun t k => X6.ldcInt hx hown (mvT hZ (hw _ (List.mem_of_getElem? (i := 38) rfl))) (g := (mkF m 69 #[.val (.int p0), .val (.int p1), .val (.int p2), .val (.int p3), .val (.int p4), .val (.int p5), .val (.int cn), .val (.ref b2), .unset, .unset, .unset, .unset, .unset, .unset, .unset] [(.int p3), (.double FP.dconst1), (.double xT), (.ref b5), (.ref b4), (.ref b4)])) rfl (hb hby at_69) t k) ?_
    show own_Go p e below P T6 (mkF m 71 #[.val (.int p0), .val (.int p1), .val (.int p2), .val (.int p3), .val (.int p4), .val (.int p5), .val (.int cn), .val (.ref b2), .unset, .unset, .unset, .unset, .unset, .unset, .unset] [(.int (65535 : Int32)), (.int p3), (.double FP.dconst1), (.double xT), (.ref b5), (.ref b4), (.ref b4)])
    refine own_step (fun _ k => XS.iand X6.here hx rfl (hb hby at_71) rfl k) ?_
    show own_Go p e below P T6 (mkF m 72 #[.val (.int p0), .val (.int p1), .val (.int p2), .val (.int p3), .val (.int p4), .val (.int p5), .val (.int cn), .val (.ref b2), .unset, .unset, .unset, .unset, .unset, .unset, .unset] [(.int (p3 &&& (65535 : Int32))), (.double FP.dconst1), (.double xT), (.ref b5), (.ref b4), (.ref b4)])
    refine own_step (fun _ k => XS.i2dS X6.here hx rfl (hb hby at_72) rfl rfl k) ?_
    show own_Go p e below P T6 (mkF m 73 #[.val (.int p0), .val (.int p1), .val (.int p2), .val (.int p3), .val (.int p4), .val (.int p5), .val (.int cn), .val (.ref b2), .unset, .unset, .unset, .unset, .unset, .unset, .unset] [(.double (FP.i2d (p3 &&& (65535 : Int32)))), (.double FP.dconst1), (.double xT), (.ref b5), (.ref b4), (.ref b4)])
    refine own_step (fun _ k => XS.daddS X6.here hx rfl (hb hby at_73) rfl (own_nn (own_onep _).1 (by decide)) rfl k) ?_
    show own_Go p e below P T6 (mkF m 74 #[.val (.int p0), .val (.int p1), .val (.int p2), .val (.int p3), .val (.int p4), .val (.int p5), .val (.int cn), .val (.ref b2), .unset, .unset, .unset, .unset, .unset, .unset, .unset] [(.double (FP.dadd FP.dconst1 (FP.i2d (p3 &&& (65535 : Int32))))), (.double xT), (.ref b5), (.ref b4), (.ref b4)])
    have pd_xP := own_onep p3
    generalize hn_xP : (FP.dadd FP.dconst1 (FP.i2d (p3 &&& (65535 : Int32)))) = xP
    rw [show (FP.dadd FP.dconst1 (FP.i2d (p3 &&& (65535 : Int32)))) = _ from hn_xP] at pd_xP
    refine own_step (fun _ k => XS.iload X6.here hx rfl (hb hby at_74) rfl k) ?_
    show own_Go p e below P T6 (mkF m 76 #[.val (.int p0), .val (.int p1), .val (.int p2), .val (.int p3), .val (.int p4), .val (.int p5), .val (.int cn), .val (.ref b2), .unset, .unset, .unset, .unset, .unset, .unset, .unset] [(.int p4), (.double xP), (.double xT), (.ref b5), (.ref b4), (.ref b4)])
    refine own_step (fun _ k => XS.i2dS X6.here hx rfl (hb hby at_76) rfl rfl k) ?_
    show own_Go p e below P T6 (mkF m 77 #[.val (.int p0), .val (.int p1), .val (.int p2), .val (.int p3), .val (.int p4), .val (.int p5), .val (.int cn), .val (.ref b2), .unset, .unset, .unset, .unset, .unset, .unset, .unset] [(.double (FP.i2d p4)), (.double xP), (.double xT), (.ref b5), (.ref b4), (.ref b4)])
    refine own_step (fun _ k => XS.iload X6.here hx rfl (hb hby at_77) rfl k) ?_
    show own_Go p e below P T6 (mkF m 79 #[.val (.int p0), .val (.int p1), .val (.int p2), .val (.int p3), .val (.int p4), .val (.int p5), .val (.int cn), .val (.ref b2), .unset, .unset, .unset, .unset, .unset, .unset, .unset] [(.int cn), (.double (FP.i2d p4)), (.double xP), (.double xT), (.ref b5), (.ref b4), (.ref b4)])
    obtain ⟨_, _, ⟨T7, L7, k7, n7⟩, -, X7r, hSr7, hgr7, ⟨Lc7, hQ7, l7, y7, z7⟩, st7⟩ := X6.specialBackS hx (y := (⟨"com/example/brinequil/brinequil/model/Fraction", "<init>", "(Ljava/lang/String;DDDI)V"⟩ : MethodName)) rfl hown (mvT hZ (hw _ (List.mem_of_getElem? (i := 39) rfl))) (mvT hZ (hw _ (List.mem_of_getElem? (i := 40) rfl))) (mvT hZ (hw _ (List.mem_of_getElem? (i := 41) rfl))) (by decide) (backOfS (W := 1) (rm8 l Z a0 hw [] b4 xT xP cn b5 sv6 kb6 ch cc ci ta tc (8552417 : Int32) an p4 T6.heap n0 (Nat.le_trans (Nat.le_trans (Nat.le_trans (Nat.le_trans (Nat.le_trans Z0 E2.1) (Keep.of_wr W3).1) E4.1) E5.1) K6.1) Fc6 Fv6 E6_o V6 (own_sta_keep ((((S_cs.ext E2).wr W3).ext E4).ext E5) K6 (allS (old_plain F_value_b5) all0)) hcc (own_sta_keep ((((S_ci.ext E2).wr W3).ext E4).ext E5) K6 (allS (old_plain F_value_b5) all0)) (((((E_ci.ext E2).wr W3).ext E4).ext E5).keep K6) (own_sta_keep ((((S_ta.ext E2).wr W3).ext E4).ext E5) K6 (allS (old_plain F_value_b5) all0)) (own_arr_keep ((((A_ta.ext E2).other W3 (Nat.ne_of_lt (Nat.lt_of_lt_of_le A_ta.lt (Nat.le_of_eq g2.symm)))).ext E4).ext E5) K6 (ninS (Nat.ne_of_lt (Nat.lt_of_lt_of_le (((A_ta.ext E2).other W3 (Nat.ne_of_lt (Nat.lt_of_lt_of_le A_ta.lt (Nat.le_of_eq g2.symm)))).ext E4).lt (Nat.le_of_eq g5.symm))) nin0)) hti htv (by decide) hch ((E_b4.ext E5).keep K6) ((F_name_b4.ext E5).keep K6 (ninS (Nat.ne_of_lt (Nat.lt_of_lt_of_le E_b4.lt (Nat.le_of_eq g5.symm))) nin0)) ((F_criticalTemperature_b4.ext E5).keep K6 (ninS (Nat.ne_of_lt (Nat.lt_of_lt_of_le E_b4.lt (Nat.le_of_eq g5.symm))) nin0)) ((F_criticalPressure_b4.ext E5).keep K6 (ninS (Nat.ne_of_lt (Nat.lt_of_lt_of_le E_b4.lt (Nat.le_of_eq g5.symm))) nin0)) ((F_acentricFactor_b4.ext E5).keep K6 (ninS (Nat.ne_of_lt (Nat.lt_of_lt_of_le E_b4.lt (Nat.le_of_eq g5.symm))) nin0)) ((F_carbonNumber_b4.ext E5).keep K6 (ninS (Nat.ne_of_lt (Nat.lt_of_lt_of_le E_b4.lt (Nat.le_of_eq g5.symm))) nin0)) g_b4 (own_sta_keep ((((S_NONE.ext E2).wr W3).ext E4).ext E5) K6 (allS (old_plain F_value_b5) all0)) pd_xT pd_xP hcn) hZ (hw _ (List.mem_of_getElem? (i := 41) rfl)) (hw _ (List.mem_of_getElem? (i := 8) rfl)) (by decide) (by decide)) (g := (mkF m 79 #[.val (.int p0), .val (.int p1), .val (.int p2), .val (.int p3), .val (.int p4), .val (.int p5), .val (.int cn), .val (.ref b2), .unset, .unset, .unset, .unset, .unset, .unset, .unset] [(.int cn), (.double (FP.i2d p4)), (.double xP), (.double xT), (.ref b5), (.ref b4), (.ref b4)])) rfl (by rw [hml]; rfl) (Steps.refl _) (a := b4) (argsL := [(.ref b5), (.double xT), (.double xP), (.double (FP.i2d p4)), (.int cn)]) (rest := [(.ref b4)]) (lenOf pd__Ljava_lang_StringDDDI__V rfl) rfl (by show 2 * 0 + _ ≤ _; exact Nat.le_of_eq rfl) (hb hby at_79) (fun _ _ => ⟨rfl, rfl, (by decide : 4 + 11 ≤ _), (by decide : 11 + 64 ≤ _)⟩)
    dsimp only [Pt.U, Pt.locs, Pt.cells, Pt.slots] at X7r hSr7 hgr7 l7 y7 z7 st7 hQ7
    subst l7 y7 z7
    obtain ⟨X7, hS7, hZ7, hown7⟩ := rebS hS0 (Nat.le_trans (Nat.le_trans (Nat.le_trans (Nat.le_trans (Nat.le_trans hk0 E2.1) (Keep.of_wr W3).1) E4.1) E5.1) K6.1) X7r hSr7 hgr7 hZ hown
    have hk7 := Nat.le_refl T7.heap.size
    obtain ⟨rfl, N7q, K7, E7_o, Fc7⟩ := hQ7
    have N7 := Fr.app N6 N7q
    refine own_step (fun _ k => st7.trans k) ?_
    show own_Go p e below P T7 (mkF m 82 #[.val (.int p0), .val (.int p1), .val (.int p2), .val (.int p3), .val (.int p4), .val (.int p5), .val (.int cn), .val (.ref b2), .unset, .unset, .unset, .unset, .unset, .unset, .unset] [(.ref b4)])
    refine own_step (fun _ k => XS.astore X7.here hx rfl (hb hby at_82) rfl rfl (l' := #[.val (.int p0), .val (.int p1), .val (.int p2), .val (.int p3), .val (.int p4), .val (.int p5), .val (.int cn), .val (.ref b2), .val (.ref b4), .unset, .unset, .unset, .unset, .unset, .unset]) rfl k) ?_
    show own_Go p e below P T7 (mkF m 84 #[.val (.int p0), .val (.int p1), .val (.int p2), .val (.int p3), .val (.int p4), .val (.int p5), .val (.int cn), .val (.ref b2), .val (.ref b4), .unset, .unset, .unset, .unset, .unset, .unset] [])
    refine own_step (fun _ k => XS.aload X7.here hx rfl (hb hby at_84) rfl rfl k) ?_
    show own_Go p e below P T7 (mkF m 86 #[.val (.int p0), .val (.int p1), .val (.int p2), .val (.int p3), .val (.int p4), .val (.int p5), .val (.int cn), .val (.ref b2), .val (.ref b4), .unset, .unset, .unset, .unset, .unset, .unset] [(.ref b4)])
    obtain ⟨cq8, kq8, q8a, q8b, q8c⟩ := isOf hZ7 rfl E7_o
    obtain ⟨_, _, ⟨T8, L8, k8, n8⟩, -, X8, ⟨Lc8, hQ8, l8, y8, z8⟩, st8⟩ := X7.virtualBack hx (y := (⟨"com/example/brinequil/brinequil/model/Fraction", "waterInteraction", "()D"⟩ : MethodName)) (z := (⟨"com/example/brinequil/brinequil/model/Fraction", "waterInteraction", "()D"⟩ : MethodName)) hown7 (mvT hZ7 (hw _ (List.mem_of_getElem? (i := 155) rfl))) (mvT hZ7 (hw _ (List.mem_of_getElem? (i := 156) rfl))) (notFace_of_selects (args := #[]) (mvT hZ7 (hw _ (List.mem_of_getElem? (i := 158) rfl)))) (mvT hZ7 (hw _ (List.mem_of_getElem? (i := 158) rfl))) (mvT hZ7 (hw _ (List.mem_of_getElem? (i := 157) rfl))) (by decide) (backOf (W := 0) (rm24 l Z a0 hw [] b4 cn T7.heap n0 (Nat.le_trans (Nat.le_trans (Nat.le_trans (Nat.le_trans (Nat.le_trans (Nat.le_trans Z0 E2.1) (Keep.of_wr W3).1) E4.1) E5.1) K6.1) K7.1) Fc7) hZ7 (hw _ (List.mem_of_getElem? (i := 159) rfl)) (hw _ (List.mem_of_getElem? (i := 8) rfl)) (by decide) (by decide)) q8a q8c (g := (mkF m 86 #[.val (.int p0), .val (.int p1), .val (.int p2), .val (.int p3), .val (.int p4), .val (.int p5), .val (.int cn), .val (.ref b2), .val (.ref b4), .unset, .unset, .unset, .unset, .unset, .unset] [(.ref b4)])) rfl (by rw [hml]; rfl) (Steps.refl _) (argsL := []) (rest := []) (lenOf pd____D rfl) rfl (by show 2 * 0 + _ ≤ _; exact Nat.le_of_eq rfl) (hb hby at_86) (fun _ _ => ⟨rfl, rfl, (by decide : 15 + 0 ≤ _), (by decide : 75 + 0 ≤ _)⟩)
    dsimp only [Pt.U, Pt.locs, Pt.cells, Pt.slots] at X8 l8 y8 z8 st8 hQ8
    subst l8 y8 z8
    obtain ⟨rfl, N8q, e8⟩ := hQ8
    have N8 := Fr.app N7 N8q
    refine own_step (fun _ k => st8.trans k) ?_
    show own_Go p e below P T8 (mkF m 89 #[.val (.int p0), .val (.int p1), .val (.int p2), .val (.int p3), .val (.int p4), .val (.int p5), .val (.int cn), .val (.ref b2), .val (.ref b4), .unset, .unset, .unset, .unset, .unset, .unset] [(.double (own_wk cn))])
    refine own_step (fun _ k => XS.dstore X8.here hx rfl (hb hby at_89) rfl (l' := #[.val (.int p0), .val (.int p1), .val (.int p2), .val (.int p3), .val (.int p4), .val (.int p5), .val (.int cn), .val (.ref b2), .val (.ref b4), .val (.double (own_wk cn)), .second, .unset, .unset, .unset, .unset]) rfl k) ?_
    show own_Go p e below P T8 (mkF m 91 #[.val (.int p0), .val (.int p1), .val (.int p2), .val (.int p3), .val (.int p4), .val (.int p5), .val (.int cn), .val (.ref b2), .val (.ref b4), .val (.double (own_wk cn)), .second, .unset, .unset, .unset, .unset] [])
    refine own_step (fun _ k => XS.iload X8.here hx rfl (hb hby at_91) rfl k) ?_
    show own_Go p e below P T8 (mkF m 93 #[.val (.int p0), .val (.int p1), .val (.int p2), .val (.int p3), .val (.int p4), .val (.int p5), .val (.int cn), .val (.ref b2), .val (.ref b4), .val (.double (own_wk cn)), .second, .unset, .unset, .unset, .unset] [(.int cn)])
    refine own_step (fun _ k => XS.bipush X8.here hx rfl (hb hby at_93) k) ?_
    show own_Go p e below P T8 (mkF m 95 #[.val (.int p0), .val (.int p1), .val (.int p2), .val (.int p3), .val (.int p4), .val (.int p5), .val (.int cn), .val (.ref b2), .val (.ref b4), .val (.double (own_wk cn)), .second, .unset, .unset, .unset, .unset] [(.int (10 : Int32)), (.int cn)])
    by_cases hc9 : cn < (10 : Int32)
    · refine own_step (fun _ k => XS.icmpYes X8.here hx rfl (pc0 := 95) (pc' := 113) rfl (hb hby at_95) rfl (tlt hc9).1 (by decide) (by decide) k) ?_
      show own_Go p e below P T8 (mkF m 113 #[.val (.int p0), .val (.int p1), .val (.int p2), .val (.int p3), .val (.int p4), .val (.int p5), .val (.int cn), .val (.ref b2), .val (.ref b4), .val (.double (own_wk cn)), .second, .unset, .unset, .unset, .unset] [])
      refine own_step (fun _ k => XS.iload X8.here hx rfl (hb hby at_113) rfl k) ?_
      show own_Go p e below P T8 (mkF m 115 #[.val (.int p0), .val (.int p1), .val (.int p2), .val (.int p3), .val (.int p4), .val (.int p5), .val (.int cn), .val (.ref b2), .val (.ref b4), .val (.double (own_wk cn)), .second, .unset, .unset, .unset, .unset] [(.int cn)])
      refine own_step (fun _ k => XS.bipush X8.here hx rfl (hb hby at_115) k) ?_
      show own_Go p e below P T8 (mkF m 117 #[.val (.int p0), .val (.int p1), .val (.int p2), .val (.int p3), .val (.int p4), .val (.int p5), .val (.int cn), .val (.ref b2), .val (.ref b4), .val (.double (own_wk cn)), .second, .unset, .unset, .unset, .unset] [(.int (6 : Int32)), (.int cn)])
      by_cases hc10 : cn = (6 : Int32)
      · refine own_step (fun _ k => XS.icmpNo X8.here hx rfl (hb hby at_117) rfl (teq hc10).2 k) ?_
        show own_Go p e below P T8 (mkF m 120 #[.val (.int p0), .val (.int p1), .val (.int p2), .val (.int p3), .val (.int p4), .val (.int p5), .val (.int cn), .val (.ref b2), .val (.ref b4), .val (.double (own_wk cn)), .second, .unset, .unset, .unset, .unset] [])
        rw [show own_wk cn = 4586242481972595550 from (if_pos hc9).trans (if_pos hc10)]
        show own_Go p e below P T8 (mkF m 120 #[.val (.int p0), .val (.int p1), .val (.int p2), .val (.int p3), .val (.int p4), .val (.int p5), .val (.int cn), .val (.ref b2), .val (.ref b4), .val (.double (4586242481972595550 : UInt64)), .second, .unset, .unset, .unset, .unset] [])
        refine own_step (fun _ k => XS.dload X8.here hx rfl (hb hby at_120) rfl k) ?_
        show own_Go p e below P T8 (mkF m 122 #[.val (.int p0), .val (.int p1), .val (.int p2), .val (.int p3), .val (.int p4), .val (.int p5), .val (.int cn), .val (.ref b2), .val (.ref b4), .val (.double (4586242481972595550 : UInt64)), .second, .unset, .unset, .unset, .unset] [(.double (4586242481972595550 : UInt64))])
        refine own_step (fun t k => X8.ldc2DoubleC hx hown7 (mvT hZ7 (hw _ (List.mem_of_getElem? (i := 168) rfl))) (g := (mkF m 122 #[.val (.int p0), .val (.int p1), .val (.int p2), .val (.int p3), .val (.int p4), .val (.int p5), .val (.int cn), .val (.ref b2), .val (.ref b4), .val (.double (4586242481972595550 : UInt64)), .second, .unset, .unset, .unset, .unset] [(.double (4586242481972595550 : UInt64))])) rfl (hb hby at_122) t k) ?_
        show own_Go p e below P T8 (mkF m 125 #[.val (.int p0), .val (.int p1), .val (.int p2), .val (.int p3), .val (.int p4), .val (.int p5), .val (.int cn), .val (.ref b2), .val (.ref b4), .val (.double (4586242481972595550 : UInt64)), .second, .unset, .unset, .unset, .unset] [(.double (4586242481972595550 : UInt64)), (.double (4586242481972595550 : UInt64))])
        refine own_step (fun _ k => XS.dcmpS X8.here hx rfl (hb hby at_125) rfl rfl k) ?_
        show own_Go p e below P T8 (mkF m 126 #[.val (.int p0), .val (.int p1), .val (.int p2), .val (.int p3), .val (.int p4), .val (.int p5), .val (.int cn), .val (.ref b2), .val (.ref b4), .val (.double (4586242481972595550 : UInt64)), .second, .unset, .unset, .unset, .unset] [(.int (cmpValue (FP.dcmp (4586242481972595550 : UInt64) (4586242481972595550 : UInt64)) .l))])
        refine own_step (fun _ k => XS.ifNo X8.here hx rfl (hb hby at_126) rfl ((if0 _ _).trans (teq own_h6).2) k) ?_
        show own_Go p e below P T8 (mkF m 129 #[.val (.int p0), .val (.int p1), .val (.int p2), .val (.int p3), .val (.int p4), .val (.int p5), .val (.int cn), .val (.ref b2), .val (.ref b4), .val (.double (4586242481972595550 : UInt64)), .second, .unset, .unset, .unset, .unset] [])
        refine own_step (fun _ k => XS.iconst X8.here hx rfl (hb hby at_129) k) ?_
        show own_Go p e below P T8 (mkF m 130 #[.val (.int p0), .val (.int p1), .val (.int p2), .val (.int p3), .val (.int p4), .val (.int p5), .val (.int cn), .val (.ref b2), .val (.ref b4), .val (.double (4586242481972595550 : UInt64)), .second, .unset, .unset, .unset, .unset] [(.int (1 : Int32))])
        refine own_step (fun _ k => XS.goto X8.here hx rfl (pc0 := 130) (pc' := 134) rfl (hb hby at_130) (by decide) (by decide) k) ?_
        show own_Go p e below P T8 (mkF m 134 #[.val (.int p0), .val (.int p1), .val (.int p2), .val (.int p3), .val (.int p4), .val (.int p5), .val (.int cn), .val (.ref b2), .val (.ref b4), .val (.double (4586242481972595550 : UInt64)), .second, .unset, .unset, .unset, .unset] [(.int (1 : Int32))])
        obtain ⟨fs, hr, hrun, hended, hend⟩ := X8.leaveW hS7 (by rw [e8]; exact hk7) (v := some (.int (1 : Int32))) (fun h => by rw [Bd.returns] at h; cases h)
        refine ⟨_, _, retN X8 hx (t := .boolean) Bd.returns (by simp) (hb hby at_134) hr, hrun, hended, hfin _ _ ⟨_, _, rfl, ?_, hend.1, hend.2.1, hend.2.2.1, hend.2.2.2.mono (by decide) (by decide)⟩⟩
        show Q0 Z p0 p1 p2 p3 p4 p5 cc ci ta tc an h0 n0 (some (.int (1 : Int32))) T8.heap _
        rw [e8]
        exact ⟨rfl, N8⟩
      · refine own_step (fun _ k => XS.icmpYes X8.here hx rfl (pc0 := 117) (pc' := 135) rfl (hb hby at_117) rfl (feq hc10).2 (by decide) (by decide) k) ?_
        show own_Go p e below P T8 (mkF m 135 #[.val (.int p0), .val (.int p1), .val (.int p2), .val (.int p3), .val (.int p4), .val (.int p5), .val (.int cn), .val (.ref b2), .val (.ref b4), .val (.double (own_wk cn)), .second, .unset, .unset, .unset, .unset] [])
        refine own_step (fun _ k => XS.sipush X8.here hx rfl (hb hby at_135) k) ?_
        show own_Go p e below P T8 (mkF m 138 #[.val (.int p0), .val (.int p1), .val (.int p2), .val (.int p3), .val (.int p4), .val (.int p5), .val (.int cn), .val (.ref b2), .val (.ref b4), .val (.double (own_wk cn)), .second, .unset, .unset, .unset, .unset] [(.int (1915 : Int32))])
        refine own_step (fun _ k => XS.sipush X8.here hx rfl (hb hby at_138) k) ?_
        show own_Go p e below P T8 (mkF m 141 #[.val (.int p0), .val (.int p1), .val (.int p2), .val (.int p3), .val (.int p4), .val (.int p5), .val (.int cn), .val (.ref b2), .val (.ref b4), .val (.double (own_wk cn)), .second, .unset, .unset, .unset, .unset] [(.int (260 : Int32)), (.int (1915 : Int32))])
        refine own_step (fun _ k => XS.iload X8.here hx rfl (hb hby at_141) rfl k) ?_
        show own_Go p e below P T8 (mkF m 143 #[.val (.int p0), .val (.int p1), .val (.int p2), .val (.int p3), .val (.int p4), .val (.int p5), .val (.int cn), .val (.ref b2), .val (.ref b4), .val (.double (own_wk cn)), .second, .unset, .unset, .unset, .unset] [(.int cn), (.int (260 : Int32)), (.int (1915 : Int32))])
        refine own_step (fun _ k => XS.imul X8.here hx rfl (hb hby at_143) rfl k) ?_
        show own_Go p e below P T8 (mkF m 144 #[.val (.int p0), .val (.int p1), .val (.int p2), .val (.int p3), .val (.int p4), .val (.int p5), .val (.int cn), .val (.ref b2), .val (.ref b4), .val (.double (own_wk cn)), .second, .unset, .unset, .unset, .unset] [(.int ((260 : Int32) * cn)), (.int (1915 : Int32))])
        refine own_step (fun _ k => XS.isub X8.here hx rfl (hb hby at_144) rfl k) ?_
        show own_Go p e below P T8 (mkF m 145 #[.val (.int p0), .val (.int p1), .val (.int p2), .val (.int p3), .val (.int p4), .val (.int p5), .val (.int cn), .val (.ref b2), .val (.ref b4), .val (.double (own_wk cn)), .second, .unset, .unset, .unset, .unset] [(.int ((1915 : Int32) - ((260 : Int32) * cn)))])
        refine own_step (fun _ k => XS.i2dS X8.here hx rfl (hb hby at_145) rfl rfl k) ?_
        show own_Go p e below P T8 (mkF m 146 #[.val (.int p0), .val (.int p1), .val (.int p2), .val (.int p3), .val (.int p4), .val (.int p5), .val (.int cn), .val (.ref b2), .val (.ref b4), .val (.double (own_wk cn)), .second, .unset, .unset, .unset, .unset] [(.double (FP.i2d ((1915 : Int32) - ((260 : Int32) * cn))))])
        refine own_step (fun t k => X8.ldc2DoubleC hx hown7 (mvT hZ7 (hw _ (List.mem_of_getElem? (i := 162) rfl))) (g := (mkF m 146 #[.val (.int p0), .val (.int p1), .val (.int p2), .val (.int p3), .val (.int p4), .val (.int p5), .val (.int cn), .val (.ref b2), .val (.ref b4), .val (.double (own_wk cn)), .second, .unset, .unset, .unset, .unset] [(.double (FP.i2d ((1915 : Int32) - ((260 : Int32) * cn))))])) rfl (hb hby at_146) t k) ?_
        show own_Go p e below P T8 (mkF m 149 #[.val (.int p0), .val (.int p1), .val (.int p2), .val (.int p3), .val (.int p4), .val (.int p5), .val (.int cn), .val (.ref b2), .val (.ref b4), .val (.double (own_wk cn)), .second, .unset, .unset, .unset, .unset] [(.double (4666723172467343360 : UInt64)), (.double (FP.i2d ((1915 : Int32) - ((260 : Int32) * cn))))])
        refine own_step (fun _ k => XS.ddivS X8.here hx rfl (hb hby at_149) rfl (own_tail4 hcn hc9 hc10).1 rfl k) ?_
        show own_Go p e below P T8 (mkF m 150 #[.val (.int p0), .val (.int p1), .val (.int p2), .val (.int p3), .val (.int p4), .val (.int p5), .val (.int cn), .val (.ref b2), .val (.ref b4), .val (.double (own_wk cn)), .second, .unset, .unset, .unset, .unset] [(.double (FP.ddiv (FP.i2d ((1915 : Int32) - ((260 : Int32) * cn))) (4666723172467343360 : UInt64)))])
        refine own_step (fun _ k => XS.dstore X8.here hx rfl (hb hby at_150) rfl (l' := #[.val (.int p0), .val (.int p1), .val (.int p2), .val (.int p3), .val (.int p4), .val (.int p5), .val (.int cn), .val (.ref b2), .val (.ref b4), .val (.double (own_wk cn)), .second, .val (.double (FP.ddiv (FP.i2d ((1915 : Int32) - ((260 : Int32) * cn))) (4666723172467343360 : UInt64))), .second, .unset, .unset]) rfl k) ?_
        show own_Go p e below P T8 (mkF m 152 #[.val (.int p0), .val (.int p1), .val (.int p2), .val (.int p3), .val (.int p4), .val (.int p5), .val (.int cn), .val (.ref b2), .val (.ref b4), .val (.double (own_wk cn)), .second, .val (.double (FP.ddiv (FP.i2d ((1915 : Int32) - ((260 : Int32) * cn))) (4666723172467343360 : UInt64))), .second, .unset, .unset] [])
        refine own_step (fun _ k => XS.dload X8.here hx rfl (hb hby at_152) rfl k) ?_
        show own_Go p e below P T8 (mkF m 154 #[.val (.int p0), .val (.int p1), .val (.int p2), .val (.int p3), .val (.int p4), .val (.int p5), .val (.int cn), .val (.ref b2), .val (.ref b4), .val (.double (own_wk cn)), .second, .val (.double (FP.ddiv (FP.i2d ((1915 : Int32) - ((260 : Int32) * cn))) (4666723172467343360 : UInt64))), .second, .unset, .unset] [(.double (own_wk cn))])
        refine own_step (fun _ k => XS.dload X8.here hx rfl (hb hby at_154) rfl k) ?_
        show own_Go p e below P T8 (mkF m 156 #[.val (.int p0), .val (.int p1), .val (.int p2), .val (.int p3), .val (.int p4), .val (.int p5), .val (.int cn), .val (.ref b2), .val (.ref b4), .val (.double (own_wk cn)), .second, .val (.double (FP.ddiv (FP.i2d ((1915 : Int32) - ((260 : Int32) * cn))) (4666723172467343360 : UInt64))), .second, .unset, .unset] [(.double (FP.ddiv (FP.i2d ((1915 : Int32) - ((260 : Int32) * cn))) (4666723172467343360 : UInt64))), (.double (own_wk cn))])
        refine own_step (fun _ k => XS.dsubS X8.here hx rfl (hb hby at_156) rfl (own_tail4 hcn hc9 hc10).2.1 rfl k) ?_
        show own_Go p e below P T8 (mkF m 157 #[.val (.int p0), .val (.int p1), .val (.int p2), .val (.int p3), .val (.int p4), .val (.int p5), .val (.int cn), .val (.ref b2), .val (.ref b4), .val (.double (own_wk cn)), .second, .val (.double (FP.ddiv (FP.i2d ((1915 : Int32) - ((260 : Int32) * cn))) (4666723172467343360 : UInt64))), .second, .unset, .unset] [(.double (FP.dsub (own_wk cn) (FP.ddiv (FP.i2d ((1915 : Int32) - ((260 : Int32) * cn))) (4666723172467343360 : UInt64))))])
        refine own_step (fun _ k => XS.dstore X8.here hx rfl (hb hby at_157) rfl (l' := #[.val (.int p0), .val (.int p1), .val (.int p2), .val (.int p3), .val (.int p4), .val (.int p5), .val (.int cn), .val (.ref b2), .val (.ref b4), .val (.double (own_wk cn)), .second, .val (.double (FP.ddiv (FP.i2d ((1915 : Int32) - ((260 : Int32) * cn))) (4666723172467343360 : UInt64))), .second, .val (.double (FP.dsub (own_wk cn) (FP.ddiv (FP.i2d ((1915 : Int32) - ((260 : Int32) * cn))) (4666723172467343360 : UInt64)))), .second]) rfl k) ?_
        show own_Go p e below P T8 (mkF m 159 #[.val (.int p0), .val (.int p1), .val (.int p2), .val (.int p3), .val (.int p4), .val (.int p5), .val (.int cn), .val (.ref b2), .val (.ref b4), .val (.double (own_wk cn)), .second, .val (.double (FP.ddiv (FP.i2d ((1915 : Int32) - ((260 : Int32) * cn))) (4666723172467343360 : UInt64))), .second, .val (.double (FP.dsub (own_wk cn) (FP.ddiv (FP.i2d ((1915 : Int32) - ((260 : Int32) * cn))) (4666723172467343360 : UInt64)))), .second] [])
        refine own_step (fun _ k => XS.dload X8.here hx rfl (hb hby at_159) rfl k) ?_
        show own_Go p e below P T8 (mkF m 161 #[.val (.int p0), .val (.int p1), .val (.int p2), .val (.int p3), .val (.int p4), .val (.int p5), .val (.int cn), .val (.ref b2), .val (.ref b4), .val (.double (own_wk cn)), .second, .val (.double (FP.ddiv (FP.i2d ((1915 : Int32) - ((260 : Int32) * cn))) (4666723172467343360 : UInt64))), .second, .val (.double (FP.dsub (own_wk cn) (FP.ddiv (FP.i2d ((1915 : Int32) - ((260 : Int32) * cn))) (4666723172467343360 : UInt64)))), .second] [(.double (FP.dsub (own_wk cn) (FP.ddiv (FP.i2d ((1915 : Int32) - ((260 : Int32) * cn))) (4666723172467343360 : UInt64))))])
        refine own_step (fun t k => X8.ldc2DoubleC hx hown7 (mvT hZ7 (hw _ (List.mem_of_getElem? (i := 163) rfl))) (g := (mkF m 161 #[.val (.int p0), .val (.int p1), .val (.int p2), .val (.int p3), .val (.int p4), .val (.int p5), .val (.int cn), .val (.ref b2), .val (.ref b4), .val (.double (own_wk cn)), .second, .val (.double (FP.ddiv (FP.i2d ((1915 : Int32) - ((260 : Int32) * cn))) (4666723172467343360 : UInt64))), .second, .val (.double (FP.dsub (own_wk cn) (FP.ddiv (FP.i2d ((1915 : Int32) - ((260 : Int32) * cn))) (4666723172467343360 : UInt64)))), .second] [(.double (FP.dsub (own_wk cn) (FP.ddiv (FP.i2d ((1915 : Int32) - ((260 : Int32) * cn))) (4666723172467343360 : UInt64))))])) rfl (hb hby at_161) t k) ?_
        show own_Go p e below P T8 (mkF m 164 #[.val (.int p0), .val (.int p1), .val (.int p2), .val (.int p3), .val (.int p4), .val (.int p5), .val (.int cn), .val (.ref b2), .val (.ref b4), .val (.double (own_wk cn)), .second, .val (.double (FP.ddiv (FP.i2d ((1915 : Int32) - ((260 : Int32) * cn))) (4666723172467343360 : UInt64))), .second, .val (.double (FP.dsub (own_wk cn) (FP.ddiv (FP.i2d ((1915 : Int32) - ((260 : Int32) * cn))) (4666723172467343360 : UInt64)))), .second] [(.double (4427486594234968593 : UInt64)), (.double (FP.dsub (own_wk cn) (FP.ddiv (FP.i2d ((1915 : Int32) - ((260 : Int32) * cn))) (4666723172467343360 : UInt64))))])
        refine own_step (fun _ k => XS.dcmpS X8.here hx rfl (hb hby at_164) rfl rfl k) ?_
        show own_Go p e below P T8 (mkF m 165 #[.val (.int p0), .val (.int p1), .val (.int p2), .val (.int p3), .val (.int p4), .val (.int p5), .val (.int cn), .val (.ref b2), .val (.ref b4), .val (.double (own_wk cn)), .second, .val (.double (FP.ddiv (FP.i2d ((1915 : Int32) - ((260 : Int32) * cn))) (4666723172467343360 : UInt64))), .second, .val (.double (FP.dsub (own_wk cn) (FP.ddiv (FP.i2d ((1915 : Int32) - ((260 : Int32) * cn))) (4666723172467343360 : UInt64)))), .second] [(.int (cmpValue (FP.dcmp (FP.dsub (own_wk cn) (FP.ddiv (FP.i2d ((1915 : Int32) - ((260 : Int32) * cn))) (4666723172467343360 : UInt64))) (4427486594234968593 : UInt64)) .g))])
        refine own_step (fun _ k => XS.ifNo X8.here hx rfl (hb hby at_165) rfl ((if0 _ _).trans (tlt (own_tail4 hcn hc9 hc10).2.2.1).2.1) k) ?_
        show own_Go p e below P T8 (mkF m 168 #[.val (.int p0), .val (.int p1), .val (.int p2), .val (.int p3), .val (.int p4), .val (.int p5), .val (.int cn), .val (.ref b2), .val (.ref b4), .val (.double (own_wk cn)), .second, .val (.double (FP.ddiv (FP.i2d ((1915 : Int32) - ((260 : Int32) * cn))) (4666723172467343360 : UInt64))), .second, .val (.double (FP.dsub (own_wk cn) (FP.ddiv (FP.i2d ((1915 : Int32) - ((260 : Int32) * cn))) (4666723172467343360 : UInt64)))), .second] [])
        refine own_step (fun _ k => XS.dload X8.here hx rfl (hb hby at_168) rfl k) ?_
        show own_Go p e below P T8 (mkF m 170 #[.val (.int p0), .val (.int p1), .val (.int p2), .val (.int p3), .val (.int p4), .val (.int p5), .val (.int cn), .val (.ref b2), .val (.ref b4), .val (.double (own_wk cn)), .second, .val (.double (FP.ddiv (FP.i2d ((1915 : Int32) - ((260 : Int32) * cn))) (4666723172467343360 : UInt64))), .second, .val (.double (FP.dsub (own_wk cn) (FP.ddiv (FP.i2d ((1915 : Int32) - ((260 : Int32) * cn))) (4666723172467343360 : UInt64)))), .second] [(.double (FP.dsub (own_wk cn) (FP.ddiv (FP.i2d ((1915 : Int32) - ((260 : Int32) * cn))) (4666723172467343360 : UInt64))))])
        refine own_step (fun t k => X8.ldc2DoubleC hx hown7 (mvT hZ7 (hw _ (List.mem_of_getElem? (i := 164) rfl))) (g := (mkF m 170 #[.val (.int p0), .val (.int p1), .val (.int p2), .val (.int p3), .val (.int p4), .val (.int p5), .val (.int cn), .val (.ref b2), .val (.ref b4), .val (.double (own_wk cn)), .second, .val (.double (FP.ddiv (FP.i2d ((1915 : Int32) - ((260 : Int32) * cn))) (4666723172467343360 : UInt64))), .second, .val (.double (FP.dsub (own_wk cn) (FP.ddiv (FP.i2d ((1915 : Int32) - ((260 : Int32) * cn))) (4666723172467343360 : UInt64)))), .second] [(.double (FP.dsub (own_wk cn) (FP.ddiv (FP.i2d ((1915 : Int32) - ((260 : Int32) * cn))) (4666723172467343360 : UInt64))))])) rfl (hb hby at_170) t k) ?_
        show own_Go p e below P T8 (mkF m 173 #[.val (.int p0), .val (.int p1), .val (.int p2), .val (.int p3), .val (.int p4), .val (.int p5), .val (.int cn), .val (.ref b2), .val (.ref b4), .val (.double (own_wk cn)), .second, .val (.double (FP.ddiv (FP.i2d ((1915 : Int32) - ((260 : Int32) * cn))) (4666723172467343360 : UInt64))), .second, .val (.double (FP.dsub (own_wk cn) (FP.ddiv (FP.i2d ((1915 : Int32) - ((260 : Int32) * cn))) (4666723172467343360 : UInt64)))), .second] [(.double (13650858631089744401 : UInt64)), (.double (FP.dsub (own_wk cn) (FP.ddiv (FP.i2d ((1915 : Int32) - ((260 : Int32) * cn))) (4666723172467343360 : UInt64))))])
        refine own_step (fun _ k => XS.dcmpS X8.here hx rfl (hb hby at_173) rfl rfl k) ?_
        show own_Go p e below P T8 (mkF m 174 #[.val (.int p0), .val (.int p1), .val (.int p2), .val (.int p3), .val (.int p4), .val (.int p5), .val (.int cn), .val (.ref b2), .val (.ref b4), .val (.double (own_wk cn)), .second, .val (.double (FP.ddiv (FP.i2d ((1915 : Int32) - ((260 : Int32) * cn))) (4666723172467343360 : UInt64))), .second, .val (.double (FP.dsub (own_wk cn) (FP.ddiv (FP.i2d ((1915 : Int32) - ((260 : Int32) * cn))) (4666723172467343360 : UInt64)))), .second] [(.int (cmpValue (FP.dcmp (FP.dsub (own_wk cn) (FP.ddiv (FP.i2d ((1915 : Int32) - ((260 : Int32) * cn))) (4666723172467343360 : UInt64))) (13650858631089744401 : UInt64)) .l))])
        refine own_step (fun _ k => XS.ifNo X8.here hx rfl (hb hby at_174) rfl ((if0 _ _).trans (tlt (own_tail4 hcn hc9 hc10).2.2.2).2.2.2) k) ?_
        show own_Go p e below P T8 (mkF m 177 #[.val (.int p0), .val (.int p1), .val (.int p2), .val (.int p3), .val (.int p4), .val (.int p5), .val (.int cn), .val (.ref b2), .val (.ref b4), .val (.double (own_wk cn)), .second, .val (.double (FP.ddiv (FP.i2d ((1915 : Int32) - ((260 : Int32) * cn))) (4666723172467343360 : UInt64))), .second, .val (.double (FP.dsub (own_wk cn) (FP.ddiv (FP.i2d ((1915 : Int32) - ((260 : Int32) * cn))) (4666723172467343360 : UInt64)))), .second] [])
        refine own_step (fun _ k => XS.iconst X8.here hx rfl (hb hby at_177) k) ?_
        show own_Go p e below P T8 (mkF m 178 #[.val (.int p0), .val (.int p1), .val (.int p2), .val (.int p3), .val (.int p4), .val (.int p5), .val (.int cn), .val (.ref b2), .val (.ref b4), .val (.double (own_wk cn)), .second, .val (.double (FP.ddiv (FP.i2d ((1915 : Int32) - ((260 : Int32) * cn))) (4666723172467343360 : UInt64))), .second, .val (.double (FP.dsub (own_wk cn) (FP.ddiv (FP.i2d ((1915 : Int32) - ((260 : Int32) * cn))) (4666723172467343360 : UInt64)))), .second] [(.int (1 : Int32))])
        refine own_step (fun _ k => XS.goto X8.here hx rfl (pc0 := 178) (pc' := 182) rfl (hb hby at_178) (by decide) (by decide) k) ?_
        show own_Go p e below P T8 (mkF m 182 #[.val (.int p0), .val (.int p1), .val (.int p2), .val (.int p3), .val (.int p4), .val (.int p5), .val (.int cn), .val (.ref b2), .val (.ref b4), .val (.double (own_wk cn)), .second, .val (.double (FP.ddiv (FP.i2d ((1915 : Int32) - ((260 : Int32) * cn))) (4666723172467343360 : UInt64))), .second, .val (.double (FP.dsub (own_wk cn) (FP.ddiv (FP.i2d ((1915 : Int32) - ((260 : Int32) * cn))) (4666723172467343360 : UInt64)))), .second] [(.int (1 : Int32))])
        obtain ⟨fs, hr, hrun, hended, hend⟩ := X8.leaveW hS7 (by rw [e8]; exact hk7) (v := some (.int (1 : Int32))) (fun h => by rw [Bd.returns] at h; cases h)
        refine ⟨_, _, retN X8 hx (t := .boolean) Bd.returns (by simp) (hb hby at_182) hr, hrun, hended, hfin _ _ ⟨_, _, rfl, ?_, hend.1, hend.2.1, hend.2.2.1, hend.2.2.2.mono (by decide) (by decide)⟩⟩
        show Q0 Z p0 p1 p2 p3 p4 p5 cc ci ta tc an h0 n0 (some (.int (1 : Int32))) T8.heap _
        rw [e8]
        exact ⟨rfl, N8⟩
    · refine own_step (fun _ k => XS.icmpNo X8.here hx rfl (hb hby at_95) rfl (flt hc9).1 k) ?_
      show own_Go p e below P T8 (mkF m 98 #[.val (.int p0), .val (.int p1), .val (.int p2), .val (.int p3), .val (.int p4), .val (.int p5), .val (.int cn), .val (.ref b2), .val (.ref b4), .val (.double (own_wk cn)), .second, .unset, .unset, .unset, .unset] [])
      rw [show own_wk cn = 13812972402709538800 from if_neg hc9]
      show own_Go p e below P T8 (mkF m 98 #[.val (.int p0), .val (.int p1), .val (.int p2), .val (.int p3), .val (.int p4), .val (.int p5), .val (.int cn), .val (.ref b2), .val (.ref b4), .val (.double (13812972402709538800 : UInt64)), .second, .unset, .unset, .unset, .unset] [])
      refine own_step (fun _ k => XS.dload X8.here hx rfl (hb hby at_98) rfl k) ?_
      show own_Go p e below P T8 (mkF m 100 #[.val (.int p0), .val (.int p1), .val (.int p2), .val (.int p3), .val (.int p4), .val (.int p5), .val (.int cn), .val (.ref b2), .val (.ref b4), .val (.double (13812972402709538800 : UInt64)), .second, .unset, .unset, .unset, .unset] [(.double (13812972402709538800 : UInt64))])
      refine own_step (fun t k => X8.ldc2DoubleC hx hown7 (mvT hZ7 (hw _ (List.mem_of_getElem? (i := 166) rfl))) (g := (mkF m 100 #[.val (.int p0), .val (.int p1), .val (.int p2), .val (.int p3), .val (.int p4), .val (.int p5), .val (.int cn), .val (.ref b2), .val (.ref b4), .val (.double (13812972402709538800 : UInt64)), .second, .unset, .unset, .unset, .unset] [(.double (13812972402709538800 : UInt64))])) rfl (hb hby at_100) t k) ?_
      show own_Go p e below P T8 (mkF m 103 #[.val (.int p0), .val (.int p1), .val (.int p2), .val (.int p3), .val (.int p4), .val (.int p5), .val (.int cn), .val (.ref b2), .val (.ref b4), .val (.double (13812972402709538800 : UInt64)), .second, .unset, .unset, .unset, .unset] [(.double (13812972402709538800 : UInt64)), (.double (13812972402709538800 : UInt64))])
      refine own_step (fun _ k => XS.dcmpS X8.here hx rfl (hb hby at_103) rfl rfl k) ?_
      show own_Go p e below P T8 (mkF m 104 #[.val (.int p0), .val (.int p1), .val (.int p2), .val (.int p3), .val (.int p4), .val (.int p5), .val (.int cn), .val (.ref b2), .val (.ref b4), .val (.double (13812972402709538800 : UInt64)), .second, .unset, .unset, .unset, .unset] [(.int (cmpValue (FP.dcmp (13812972402709538800 : UInt64) (13812972402709538800 : UInt64)) .l))])
      refine own_step (fun _ k => XS.ifNo X8.here hx rfl (hb hby at_104) rfl ((if0 _ _).trans (teq own_hl).2) k) ?_
      show own_Go p e below P T8 (mkF m 107 #[.val (.int p0), .val (.int p1), .val (.int p2), .val (.int p3), .val (.int p4), .val (.int p5), .val (.int cn), .val (.ref b2), .val (.ref b4), .val (.double (13812972402709538800 : UInt64)), .second, .unset, .unset, .unset, .unset] [])
      refine own_step (fun _ k => XS.iconst X8.here hx rfl (hb hby at_107) k) ?_
      show own_Go p e below P T8 (mkF m 108 #[.val (.int p0), .val (.int p1), .val (.int p2), .val (.int p3), .val (.int p4), .val (.int p5), .val (.int cn), .val (.ref b2), .val (.ref b4), .val (.double (13812972402709538800 : UInt64)), .second, .unset, .unset, .unset, .unset] [(.int (1 : Int32))])
      refine own_step (fun _ k => XS.goto X8.here hx rfl (pc0 := 108) (pc' := 112) rfl (hb hby at_108) (by decide) (by decide) k) ?_
      show own_Go p e below P T8 (mkF m 112 #[.val (.int p0), .val (.int p1), .val (.int p2), .val (.int p3), .val (.int p4), .val (.int p5), .val (.int cn), .val (.ref b2), .val (.ref b4), .val (.double (13812972402709538800 : UInt64)), .second, .unset, .unset, .unset, .unset] [(.int (1 : Int32))])
      obtain ⟨fs, hr, hrun, hended, hend⟩ := X8.leaveW hS7 (by rw [e8]; exact hk7) (v := some (.int (1 : Int32))) (fun h => by rw [Bd.returns] at h; cases h)
      refine ⟨_, _, retN X8 hx (t := .boolean) Bd.returns (by simp) (hb hby at_112) hr, hrun, hended, hfin _ _ ⟨_, _, rfl, ?_, hend.1, hend.2.1, hend.2.2.1, hend.2.2.2.mono (by decide) (by decide)⟩⟩
      show Q0 Z p0 p1 p2 p3 p4 p5 cc ci ta tc an h0 n0 (some (.int (1 : Int32))) T8.heap _
      rw [e8]
      exact ⟨rfl, N8⟩
  · refine own_step (fun _ k => XS.ifYes X0.here hx rfl (pc0 := 3) (pc' := 20) rfl (hb hby at_3) rfl ((if0 _ _).trans (feq hc1).2) (by decide) (by decide) k) ?_
    show own_Go p e below P s₁ (mkF m 20 #[.val (.int p0), .val (.int p1), .val (.int p2), .val (.int p3), .val (.int p4), .val (.int p5), .unset, .unset, .unset, .unset, .unset, .unset, .unset, .unset, .unset] [])
    refine own_step (fun _ k => XS.iconst X0.here hx rfl (hb hby at_20) k) ?_
    show own_Go p e below P s₁ (mkF m 21 #[.val (.int p0), .val (.int p1), .val (.int p2), .val (.int p3), .val (.int p4), .val (.int p5), .unset, .unset, .unset, .unset, .unset, .unset, .unset, .unset, .unset] [(.int (1 : Int32))])
    refine own_step (fun _ k => XS.iloadN X0.here hx rfl (hb hby at_21) rfl k) ?_
    show own_Go p e below P s₁ (mkF m 22 #[.val (.int p0), .val (.int p1), .val (.int p2), .val (.int p3), .val (.int p4), .val (.int p5), .unset, .unset, .unset, .unset, .unset, .unset, .unset, .unset, .unset] [(.int p0), (.int (1 : Int32))])
    refine own_step (fun t k => X0.ldcInt hx hown (mvT hZ (hw _ (List.mem_of_getElem? (i := 0) rfl))) (g := (mkF m 22 #[.val (.int p0), .val (.int p1), .val (.int p2), .val (.int p3), .val (.int p4), .val (.int p5), .unset, .unset, .unset, .unset, .unset, .unset, .unset, .unset, .unset] [(.int p0), (.int (1 : Int32))])) rfl (hb hby at_22) t k) ?_
    show own_Go p e below P s₁ (mkF m 24 #[.val (.int p0), .val (.int p1), .val (.int p2), .val (.int p3), .val (.int p4), .val (.int p5), .unset, .unset, .unset, .unset, .unset, .unset, .unset, .unset, .unset] [(.int (2147483647 : Int32)), (.int p0), (.int (1 : Int32))])
    refine own_step (fun _ k => XS.iand X0.here hx rfl (hb hby at_24) rfl k) ?_
    show own_Go p e below P s₁ (mkF m 25 #[.val (.int p0), .val (.int p1), .val (.int p2), .val (.int p3), .val (.int p4), .val (.int p5), .unset, .unset, .unset, .unset, .unset, .unset, .unset, .unset, .unset] [(.int (p0 &&& (2147483647 : Int32))), (.int (1 : Int32))])
    obtain ⟨_, _, ⟨T14, L14, k14, n14⟩, -, X14, ⟨Lc14, hQ14, l14, y14, z14⟩, st14⟩ := Jvm.LawKit.callS X0 hx (y := (⟨"java/lang/Math", "max", "(II)I"⟩ : MethodName)) hown (mvT hZ (hw _ (List.mem_of_getElem? (i := 1) rfl))) (mvT hZ (hw _ (List.mem_of_getElem? (i := 2) rfl))) (mvT hZ (hw _ (List.mem_of_getElem? (i := 3) rfl))) (mvT hZ (hw _ (List.mem_of_getElem? (i := 4) rfl))) (by decide) (backOf (W := 0) (rm1 l Z a0 hw [] (1 : Int32) (p0 &&& (2147483647 : Int32)) h0 n0 Z0) hZ (hw _ (List.mem_of_getElem? (i := 4) rfl)) (hw _ (List.mem_of_getElem? (i := 3) rfl)) (by decide) (by decide)) (g := (mkF m 25 #[.val (.int p0), .val (.int p1), .val (.int p2), .val (.int p3), .val (.int p4), .val (.int p5), .unset, .unset, .unset, .unset, .unset, .unset, .unset, .unset, .unset] [(.int (p0 &&& (2147483647 : Int32))), (.int (1 : Int32))])) rfl (by rw [hml]; rfl) (argsL := [(.int (1 : Int32)), (.int (p0 &&& (2147483647 : Int32)))]) (rest := []) (lenOf pd__II__I rfl) rfl (by show 2 * 0 + _ ≤ _; exact Nat.le_of_eq rfl) (hb hby at_25) (fun _ _ => ⟨rfl, e0, (by decide : 0 + 0 ≤ _), (by decide : 0 + 0 ≤ _)⟩)
    dsimp only [Pt.U, Pt.locs, Pt.cells, Pt.slots] at X14 l14 y14 z14 st14 hQ14
    subst l14 y14 z14
    obtain ⟨rfl, N14q, e14⟩ := hQ14
    have N14 := Fr.app N0 N14q
    refine own_step st14 ?_
    show own_Go p e below P T14 (mkF m 28 #[.val (.int p0), .val (.int p1), .val (.int p2), .val (.int p3), .val (.int p4), .val (.int p5), .unset, .unset, .unset, .unset, .unset, .unset, .unset, .unset, .unset] [(.int (if (1 : Int32) < (p0 &&& (2147483647 : Int32)) then (p0 &&& (2147483647 : Int32)) else (1 : Int32)))])
    refine own_step (fun _ k => XS.istore X14.here hx rfl (hb hby at_28) rfl (l' := #[.val (.int p0), .val (.int p1), .val (.int p2), .val (.int p3), .val (.int p4), .val (.int p5), .val (.int (if (1 : Int32) < (p0 &&& (2147483647 : Int32)) then (p0 &&& (2147483647 : Int32)) else (1 : Int32))), .unset, .unset, .unset, .unset, .unset, .unset, .unset, .unset]) rfl k) ?_
    show own_Go p e below P T14 (mkF m 30 #[.val (.int p0), .val (.int p1), .val (.int p2), .val (.int p3), .val (.int p4), .val (.int p5), .val (.int (if (1 : Int32) < (p0 &&& (2147483647 : Int32)) then (p0 &&& (2147483647 : Int32)) else (1 : Int32))), .unset, .unset, .unset, .unset, .unset, .unset, .unset, .unset] [])
    have hcn : ¬ ((if (1 : Int32) < (p0 &&& (2147483647 : Int32)) then (p0 &&& (2147483647 : Int32)) else (1 : Int32)) < (1 : Int32)) := (own_cn2 _)
    generalize hn_cn : (if (1 : Int32) < (p0 &&& (2147483647 : Int32)) then (p0 &&& (2147483647 : Int32)) else (1 : Int32)) = cn at hcn ⊢
    show own_Go p e below P T14 (mkF m 30 #[.val (.int p0), .val (.int p1), .val (.int p2), .val (.int p3), .val (.int p4), .val (.int p5), .val (.int cn), .unset, .unset, .unset, .unset, .unset, .unset, .unset, .unset] [])
    refine own_step (fun _ k => XS.iconst X14.here hx rfl (hb hby at_30) k) ?_
    show own_Go p e below P T14 (mkF m 31 #[.val (.int p0), .val (.int p1), .val (.int p2), .val (.int p3), .val (.int p4), .val (.int p5), .val (.int cn), .unset, .unset, .unset, .unset, .unset, .unset, .unset, .unset] [(.int (1 : Int32))])
    obtain ⟨T15, h15, k15, X15, e15, E15, A15, st15⟩ := newP X14 hx hZ (hw _ (List.mem_of_getElem? (i := 5) rfl)) e14 (g := (mkF m 31 #[.val (.int p0), .val (.int p1), .val (.int p2), .val (.int p3), .val (.int p4), .val (.int p5), .val (.int cn), .unset, .unset, .unset, .unset, .unset, .unset, .unset, .unset] [(.int (1 : Int32))])) rfl (hb hby at_31) rfl (by decide) (cap := 1) (by decide) (by decide) (by decide) (by decide)
    obtain ⟨b15, g15⟩ : ∃ z, z = h0.size := ⟨_, rfl⟩
    rw [← g15] at A15 st15
    have g_b15 : n0 ≤ b15 := Nat.le_trans Z0 (Nat.le_of_eq g15.symm)
    have sz_b15 : h0.size ≤ b15 := Nat.le_trans (Keep.refl h0 []).1 (Nat.le_of_eq g15.symm)
    have V_b15 : Arv Z h15 b15 k15 .char (1 : Int32) [(.int (0 : Int32))] (.int (0 : Int32)) := (Arv.new A15 (by decide)).pad (pad_rep [] (.int (0 : Int32)) 1)
    refine own_step st15 ?_
    show own_Go p e below P T15 (mkF m 33 #[.val (.int p0), .val (.int p1), .val (.int p2), .val (.int p3), .val (.int p4), .val (.int p5), .val (.int cn), .unset, .unset, .unset, .unset, .unset, .unset, .unset, .unset] [(.ref b15)])
    refine own_step (fun _ k => XS.dup X15.here hx rfl (hb hby at_33) rfl rfl k) ?_
    show own_Go p e below P T15 (mkF m 34 #[.val (.int p0), .val (.int p1), .val (.int p2), .val (.int p3), .val (.int p4), .val (.int p5), .val (.int cn), .unset, .unset, .unset, .unset, .unset, .unset, .unset, .unset] [(.ref b15), (.ref b15)])
    refine own_step (fun _ k => XS.iconst X15.here hx rfl (hb hby at_34) k) ?_
    show own_Go p e below P T15 (mkF m 35 #[.val (.int p0), .val (.int p1), .val (.int p2), .val (.int p3), .val (.int p4), .val (.int p5), .val (.int cn), .unset, .unset, .unset, .unset, .unset, .unset, .unset, .unset] [(.int (0 : Int32)), (.ref b15), (.ref b15)])
    refine own_step (fun _ k => XS.bipush X15.here hx rfl (hb hby at_35) k) ?_
    show own_Go p e below P T15 (mkF m 37 #[.val (.int p0), .val (.int p1), .val (.int p2), .val (.int p3), .val (.int p4), .val (.int p5), .val (.int cn), .unset, .unset, .unset, .unset, .unset, .unset, .unset, .unset] [(.int (65 : Int32)), (.int (0 : Int32)), (.ref b15), (.ref b15)])
    refine own_step (fun _ k => XS.iload X15.here hx rfl (hb hby at_37) rfl k) ?_
    show own_Go p e below P T15 (mkF m 39 #[.val (.int p0), .val (.int p1), .val (.int p2), .val (.int p3), .val (.int p4), .val (.int p5), .val (.int cn), .unset, .unset, .unset, .unset, .unset, .unset, .unset, .unset] [(.int p5), (.int (65 : Int32)), (.int (0 : Int32)), (.ref b15), (.ref b15)])
    refine own_step (fun _ k => XS.bipush X15.here hx rfl (hb hby at_39) k) ?_
    show own_Go p e below P T15 (mkF m 41 #[.val (.int p0), .val (.int p1), .val (.int p2), .val (.int p3), .val (.int p4), .val (.int p5), .val (.int cn), .unset, .unset, .unset, .unset, .unset, .unset, .unset, .unset] [(.int (15 : Int32)), (.int p5), (.int (65 : Int32)), (.int (0 : Int32)), (.ref b15), (.ref b15)])
    refine own_step (fun _ k => XS.iand X15.here hx rfl (hb hby at_41) rfl k) ?_
    show own_Go p e below P T15 (mkF m 42 #[.val (.int p0), .val (.int p1), .val (.int p2), .val (.int p3), .val (.int p4), .val (.int p5), .val (.int cn), .unset, .unset, .unset, .unset, .unset, .unset, .unset, .unset] [(.int (p5 &&& (15 : Int32))), (.int (65 : Int32)), (.int (0 : Int32)), (.ref b15), (.ref b15)])
    refine own_step (fun _ k => XS.iadd X15.here hx rfl (hb hby at_42) rfl k) ?_
    show own_Go p e below P T15 (mkF m 43 #[.val (.int p0), .val (.int p1), .val (.int p2), .val (.int p3), .val (.int p4), .val (.int p5), .val (.int cn), .unset, .unset, .unset, .unset, .unset, .unset, .unset, .unset] [(.int ((65 : Int32) + (p5 &&& (15 : Int32)))), (.int (0 : Int32)), (.ref b15), (.ref b15)])
    obtain ⟨kq, hkq⟩ := own_k16 p5
    obtain ⟨hch, hcb, hcl, hcu⟩ := own_hcell kq
    obtain ⟨hti, htv⟩ := HT kq
    rw [← hkq] at hch hcb hcl hcu hti htv
    generalize hn_ch : ((65 : Int32) + (p5 &&& (15 : Int32))) = ch at hch hcb hcl hcu hti htv ⊢
    show own_Go p e below P T15 (mkF m 43 #[.val (.int p0), .val (.int p1), .val (.int p2), .val (.int p3), .val (.int p4), .val (.int p5), .val (.int cn), .unset, .unset, .unset, .unset, .unset, .unset, .unset, .unset] [(.int ch), (.int (0 : Int32)), (.ref b15), (.ref b15)])
    refine own_step (fun _ k => XS.i2c X15.here hx rfl (hb hby at_43) rfl k) ?_
    show own_Go p e below P T15 (mkF m 44 #[.val (.int p0), .val (.int p1), .val (.int p2), .val (.int p3), .val (.int p4), .val (.int p5), .val (.int cn), .unset, .unset, .unset, .unset, .unset, .unset, .unset, .unset] [(.int ch.toUInt32.toUInt16.toUInt32.toInt32), (.int (0 : Int32)), (.ref b15), (.ref b15)])
    rw [hch.2.1]
    show own_Go p e below P T15 (mkF m 44 #[.val (.int p0), .val (.int p1), .val (.int p2), .val (.int p3), .val (.int p4), .val (.int p5), .val (.int cn), .unset, .unset, .unset, .unset, .unset, .unset, .unset, .unset] [(.int ch), (.int (0 : Int32)), (.ref b15), (.ref b15)])
    obtain ⟨cl16, Ar16, q16, S16, M16, H16, G16⟩ := (id V_b15)
    have hin16 : ¬ ((0 : Int32) < 0 ∨ cl16.slots.size ≤ ((0 : Int32)).toNatClampNeg) := inb_of S16 ⟨by decide, by decide⟩
    obtain ⟨T16, h16, X16, e16, W16, st16⟩ := stC X15 hx hZ e15 Ar16 (j := (0 : Int32)) hin16 (g := (mkF m 44 #[.val (.int p0), .val (.int p1), .val (.int p2), .val (.int p3), .val (.int p4), .val (.int p5), .val (.int cn), .unset, .unset, .unset, .unset, .unset, .unset, .unset, .unset] [(.int ch), (.int (0 : Int32)), (.ref b15), (.ref b15)])) rfl rfl (hb hby at_44)
    have V16 : Arv Z h16 b15 k15 .char (1 : Int32) [(.int (nar .char ch))] (.int (0 : Int32)) := Arv.set Ar16 q16 S16 M16 H16 G16 (fits_nar_char _) W16 0 rfl (Nat.le_of_ble_eq_true rfl)
    have N16 := Fr.snoc X16 N14 g_b15
    refine own_step st16 ?_
    show own_Go p e below P T16 (mkF m 45 #[.val (.int p0), .val (.int p1), .val (.int p2), .val (.int p3), .val (.int p4), .val (.int p5), .val (.int cn), .unset, .unset, .unset, .unset, .unset, .unset, .unset, .unset] [(.ref b15)])
    have V_ch : Arv Z h16 b15 k15 .char (1 : Int32) ([ch].map Value.int) (.int (0 : Int32)) := by
      have q := V16
      rw [show nar .char ch = ch from hch.2.1] at q
      exact q
    show own_Go p e below P T16 (mkF m 45 #[.val (.int p0), .val (.int p1), .val (.int p2), .val (.int p3), .val (.int p4), .val (.int p5), .val (.int cn), .unset, .unset, .unset, .unset, .unset, .unset, .unset, .unset] [(.ref b15)])
    refine own_step (fun _ k => XS.astore X16.here hx rfl (hb hby at_45) rfl rfl (l' := #[.val (.int p0), .val (.int p1), .val (.int p2), .val (.int p3), .val (.int p4), .val (.int p5), .val (.int cn), .val (.ref b15), .unset, .unset, .unset, .unset, .unset, .unset, .unset]) rfl k) ?_
    show own_Go p e below P T16 (mkF m 47 #[.val (.int p0), .val (.int p1), .val (.int p2), .val (.int p3), .val (.int p4), .val (.int p5), .val (.int cn), .val (.ref b15), .unset, .unset, .unset, .unset, .unset, .unset, .unset] [])
    obtain ⟨T17, h17, X17, e17, E17, A17, D17, -, st17⟩ := newO X16 hx hZ hown (hw _ (List.mem_of_getElem? (i := 6) rfl)) (hw _ (List.mem_of_getElem? (i := 7) rfl)) (hw _ (List.mem_of_getElem? (i := 8) rfl)) e16 (g := (mkF m 47 #[.val (.int p0), .val (.int p1), .val (.int p2), .val (.int p3), .val (.int p4), .val (.int p5), .val (.int cn), .val (.ref b15), .unset, .unset, .unset, .unset, .unset, .unset, .unset] [])) rfl (hb hby at_47) (by decide) (by decide)
    obtain ⟨b17, g17⟩ : ∃ z, z = h16.size := ⟨_, rfl⟩
    rw [← g17] at A17 D17 st17
    have g_b17 : n0 ≤ b17 := Nat.le_trans (Nat.le_trans (Nat.le_trans Z0 E15.1) (Keep.of_wr W16).1) (Nat.le_of_eq g17.symm)
    have sz_b17 : h0.size ≤ b17 := Nat.le_trans (((Keep.refl h0 []).ext E15).wr W16 (Or.inr sz_b15)).1 (Nat.le_of_eq g17.symm)
    have E_b17 := A17
    have F_name_b17 : Fld Z h17 b17 "com/example/brinequil/brinequil/model/Fraction" "name" "Ljava/lang/String;" .null := D17 (Or.inr (hw _ (List.mem_of_getElem? (i := 146) rfl))) (ty := (.object "java/lang/String")) (by decide)
    have F_criticalTemperature_b17 : Fld Z h17 b17 "com/example/brinequil/brinequil/model/Fraction" "criticalTemperature" "D" (.double (0 : UInt64)) := D17 (Or.inr (hw _ (List.mem_of_getElem? (i := 148) rfl))) (ty := .double) (by decide)
    have F_criticalPressure_b17 : Fld Z h17 b17 "com/example/brinequil/brinequil/model/Fraction" "criticalPressure" "D" (.double (0 : UInt64)) := D17 (Or.inr (hw _ (List.mem_of_getElem? (i := 150) rfl))) (ty := .double) (by decide)
    have F_acentricFactor_b17 : Fld Z h17 b17 "com/example/brinequil/brinequil/model/Fraction" "acentricFactor" "D" (.double (0 : UInt64)) := D17 (Or.inr (hw _ (List.mem_of_getElem? (i := 152) rfl))) (ty := .double) (by decide)
    have F_carbonNumber_b17 : Fld Z h17 b17 "com/example/brinequil/brinequil/model/Fraction" "carbonNumber" "I" (.int (0 : Int32)) := D17 (Or.inr (hw _ (List.mem_of_getElem? (i := 154) rfl))) (ty := .int) (by decide)
    refine own_step st17 ?_
    show own_Go p e below P T17 (mkF m 50 #[.val (.int p0), .val (.int p1), .val (.int p2), .val (.int p3), .val (.int p4), .val (.int p5), .val (.int cn), .val (.ref b15), .unset, .unset, .unset, .unset, .unset, .unset, .unset] [(.ref b17)])
    refine own_step (fun _ k => XS.dup X17.here hx rfl (hb hby at_50) rfl rfl k) ?_
    show own_Go p e below P T17 (mkF m 51 #[.val (.int p0), .val (.int p1), .val (.int p2), .val (.int p3), .val (.int p4), .val (.int p5), .val (.int cn), .val (.ref b15), .unset, .unset, .unset, .unset, .unset, .unset, .unset] [(.ref b17), (.ref b17)])
    obtain ⟨T18, h18, X18, e18, E18, A18, D18, -, st18⟩ := newO X17 hx hZ hown (hw _ (List.mem_of_getElem? (i := 9) rfl)) (hw _ (List.mem_of_getElem? (i := 10) rfl)) (hw _ (List.mem_of_getElem? (i := 11) rfl)) e17 (g := (mkF m 51 #[.val (.int p0), .val (.int p1), .val (.int p2), .val (.int p3), .val (.int p4), .val (.int p5), .val (.int cn), .val (.ref b15), .unset, .unset, .unset, .unset, .unset, .unset, .unset] [(.ref b17), (.ref b17)])) rfl (hb hby at_51) (by decide) (by decide)
    obtain ⟨b18, g18⟩ : ∃ z, z = h17.size := ⟨_, rfl⟩
    rw [← g18] at A18 D18 st18
    have g_b18 : n0 ≤ b18 := Nat.le_trans (Nat.le_trans (Nat.le_trans (Nat.le_trans Z0 E15.1) (Keep.of_wr W16).1) E17.1) (Nat.le_of_eq g18.symm)
    have sz_b18 : h0.size ≤ b18 := Nat.le_trans ((((Keep.refl h0 []).ext E15).wr W16 (Or.inr sz_b15)).ext E17).1 (Nat.le_of_eq g18.symm)
    have E_b18 := A18
    have F_coder_b18 : Fld Z h18 b18 "java/lang/String" "coder" "B" (.int (0 : Int32)) := D18 (Or.inr (hw _ (List.mem_of_getElem? (i := 35) rfl))) (ty := .byte) (by decide)
    have F_value_b18 : Fld Z h18 b18 "java/lang/String" "value" "[B" .null := D18 (Or.inr (hw _ (List.mem_of_getElem? (i := 37) rfl))) (ty := (.array .byte)) (by decide)
    refine own_step st18 ?_
    show own_Go p e below P T18 (mkF m 54 #[.val (.int p0), .val (.int p1), .val (.int p2), .val (.int p3), .val (.int p4), .val (.int p5), .val (.int cn), .val (.ref b15), .unset, .unset, .unset, .unset, .unset, .unset, .unset] [(.ref b18), (.ref b17), (.ref b17)])
    refine own_step (fun _ k => XS.dup X18.here hx rfl (hb hby at_54) rfl rfl k) ?_
    show own_Go p e below P T18 (mkF m 55 #[.val (.int p0), .val (.int p1), .val (.int p2), .val (.int p3), .val (.int p4), .val (.int p5), .val (.int cn), .val (.ref b15), .unset, .unset, .unset, .unset, .unset, .unset, .unset] [(.ref b18), (.ref b18), (.ref b17), (.ref b17)])
    refine own_step (fun _ k => XS.aload X18.here hx rfl (hb hby at_55) rfl rfl k) ?_
    show own_Go p e below P T18 (mkF m 57 #[.val (.int p0), .val (.int p1), .val (.int p2), .val (.int p3), .val (.int p4), .val (.int p5), .val (.int cn), .val (.ref b15), .unset, .unset, .unset, .unset, .unset, .unset, .unset] [(.ref b15), (.ref b18), (.ref b18), (.ref b17), (.ref b17)])
    obtain ⟨_, _, ⟨T19, L19, k19, n19⟩, -, X19, ⟨Lc19, hQ19, l19, y19, z19⟩, st19⟩ := X18.specialBack hx (y := (⟨"java/lang/String", "<init>", "([C)V"⟩ : MethodName)) rfl hown (mvT hZ (hw _ (List.mem_of_getElem? (i := 12) rfl))) (mvT hZ (hw _ (List.mem_of_getElem? (i := 13) rfl))) (mvT hZ (hw _ (List.mem_of_getElem? (i := 14) rfl))) (by decide) (StrChars.Road.backV (W := 3) hZ (own_hws hw) (kI := 4) (hw _ (List.mem_of_getElem? (i := 10) rfl)) (cs := [ch]) (bs := [ch]) (n := 1) g_b18 (Nat.le_trans (Nat.le_trans (Nat.le_trans (Nat.le_trans Z0 E15.1) (Keep.of_wr W16).1) E17.1) E18.1) E_b18 F_value_b18 F_coder_b18 ((V_ch.ext E17).ext E18) ((((S_cs.ext E15).wr W16).ext E17).ext E18) hcc rfl rfl (by decide) (by decide) (fun c hc => by rw [List.mem_singleton.mp hc]; exact ⟨hcl, hcu⟩) (congrArg (fun z => [z]) hcb.symm) (by decide) (by decide)) (g := (mkF m 57 #[.val (.int p0), .val (.int p1), .val (.int p2), .val (.int p3), .val (.int p4), .val (.int p5), .val (.int cn), .val (.ref b15), .unset, .unset, .unset, .unset, .unset, .unset, .unset] [(.ref b15), (.ref b18), (.ref b18), (.ref b17), (.ref b17)])) rfl (by rw [hml]; rfl) (Steps.refl _) (a := b18) (argsL := [(.ref b15)]) (rest := [(.ref b18), (.ref b17), (.ref b17)]) (lenOf pd__AC__V rfl) rfl (by show 2 * 0 + _ ≤ _; exact Nat.le_of_eq rfl) (hb hby at_57) (fun _ _ => ⟨rfl, e18, (by decide : 3 + 1 ≤ _), (by decide : 10 + 1 ≤ _)⟩)
    dsimp only [Pt.U, Pt.locs, Pt.cells, Pt.slots] at X19 l19 y19 z19 st19 hQ19
    subst l19 y19 z19
    obtain ⟨rfl, N19q, K19, E19_o, Fc19, sv19, kb19, gs19, hle19, hne19, Fv19, V19⟩ := hQ19
    have g_sv19 : n0 ≤ sv19 := Nat.le_trans (Nat.le_trans (Nat.le_trans (Nat.le_trans (Nat.le_trans Z0 E15.1) (Keep.of_wr W16).1) E17.1) E18.1) hle19
    have sz_sv19 : h0.size ≤ sv19 := Nat.le_trans (((((Keep.refl h0 []).ext E15).wr W16 (Or.inr sz_b15)).ext E17).ext E18).1 hle19
    have N19 := Fr.app N16 N19q
    refine own_step (fun _ k => st19.trans k) ?_
    show own_Go p e below P T19 (mkF m 60 #[.val (.int p0), .val (.int p1), .val (.int p2), .val (.int p3), .val (.int p4), .val (.int p5), .val (.int cn), .val (.ref b15), .unset, .unset, .unset, .unset, .unset, .unset, .unset] [(.ref b18), (.ref b17), (.ref b17)])
    refine own_step (fun _ k => XS.dconst1 X19.here hx rfl (hb hby at_60) rfl k) ?_
    show own_Go p e below P T19 (mkF m 61 #[.val (.int p0), .val (.int p1), .val (.int p2), .val (.int p3), .val (.int p4), .val (.int p5), .val (.int cn), .val (.ref b15), .unset, .unset, .unset, .unset, .unset, .unset, .unset] [(.double FP.dconst1), (.ref b18), (.ref b17), (.ref b17)])
    refine own_step (fun _ k => XS.iloadN X19.here hx rfl (hb hby at_61) rfl k) ?_
    show own_Go p e below P T19 (mkF m 62 #[.val (.int p0), .val (.int p1), .val (.int p2), .val (.int p3), .val (.int p4), .val (.int p5), .val (.int cn), .val (.ref b15), .unset, .unset, .unset, .unset, .unset, .unset, .unset] [(.int p2), (.double FP.dconst1), (.ref b18), (.ref b17), (.ref b17)])
    refine own_step (fun t k => X19.ldcInt hx hown (mvT hZ (hw _ (List.mem_of_getElem? (i := 38) rfl))) (g := (mkF m 62 #[.val (.int p0), .val (.int p1), .val (.int p2), .val (.int p3), .val (.int p4), .val (.int p5), .val (.int cn), .val (.ref b15), .unset, .unset, .unset, .unset, .unset, .unset, .unset] [(.int p2), (.double FP.dconst1), (.ref b18), (.ref b17), (.ref b17)])) rfl (hb hby at_62) t k) ?_
    show own_Go p e below P T19 (mkF m 64 #[.val (.int p0), .val (.int p1), .val (.int p2), .val (.int p3), .val (.int p4), .val (.int p5), .val (.int cn), .val (.ref b15), .unset, .unset, .unset, .unset, .unset, .unset, .unset] [(.int (65535 : Int32)), (.int p2), (.double FP.dconst1), (.ref b18), (.ref b17), (.ref b17)])
    refine own_step (fun _ k => XS.iand X19.here hx rfl (hb hby at_64) rfl k) ?_
    show own_Go p e below P T19 (mkF m 65 #[.val (.int p0), .val (.int p1), .val (.int p2), .val (.int p3), .val (.int p4), .val (.int p5), .val (.int cn), .val (.ref b15), .unset, .unset, .unset, .unset, .unset, .unset, .unset] [(.int (p2 &&& (65535 : Int32))), (.double FP.dconst1), (.ref b18), (.ref b17), (.ref b17)])
    refine own_step (fun _ k => XS.i2dS X19.here hx rfl (hb hby at_65) rfl rfl k) ?_
    show own_Go p e below P T19 (mkF m 66 #[.val (.int p0), .val (.int p1), .val (.int p2), .val (.int p3), .val (.int p4), .val (.int p5), .val (.int cn), .val (.ref b15), .unset, .unset, .unset, .unset, .unset, .unset, .unset] [(.double (FP.i2d (p2 &&& (65535 : Int32)))), (.double FP.dconst1), (.ref b18), (.ref b17), (.ref b17)])
    refine own_step (fun _ k => XS.daddS X19.here hx rfl (hb hby at_66) rfl (own_nn (own_onep _).1 (by decide)) rfl k) ?_
    show own_Go p e below P T19 (mkF m 67 #[.val (.int p0), .val (.int p1), .val (.int p2), .val (.int p3), .val (.int p4), .val (.int p5), .val (.int cn), .val (.ref b15), .unset, .unset, .unset, .unset, .unset, .unset, .unset] [(.double (FP.dadd FP.dconst1 (FP.i2d (p2 &&& (65535 : Int32))))), (.ref b18), (.ref b17), (.ref b17)])
    have pd_xT := own_onep p2
    generalize hn_xT : (FP.dadd FP.dconst1 (FP.i2d (p2 &&& (65535 : Int32)))) = xT
    rw [show (FP.dadd FP.dconst1 (FP.i2d (p2 &&& (65535 : Int32)))) = _ from hn_xT] at pd_xT
    refine own_step (fun _ k => XS.dconst1 X19.here hx rfl (hb hby at_67) rfl k) ?_
    show own_Go p e below P T19 (mkF m 68 #[.val (.int p0), .val (.int p1), .val (.int p2), .val (.int p3), .val (.int p4), .val (.int p5), .val (.int cn), .val (.ref b15), .unset, .unset, .unset, .unset, .unset, .unset, .unset] [(.double FP.dconst1), (.double xT), (.ref b18), (.ref b17), (.ref b17)])
    refine own_step (fun _ k => XS.iloadN X19.here hx rfl (hb hby at_68) rfl k) ?_
    show own_Go p e below P T19 (mkF m 69 #[.val (.int p0), .val (.int p1), .val (.int p2), .val (.int p3), .val (.int p4), .val (.int p5), .val (.int cn), .val (.ref b15), .unset, .unset, .unset, .unset, .unset, .unset, .unset] [(.int p3), (.double FP.dconst1), (.double xT), (.ref b18), (.ref b17), (.ref b17)])
    refine own_step (fun t k => X19.ldcInt hx hown (mvT hZ (hw _ (List.mem_of_getElem? (i := 38) rfl))) (g := (mkF m 69 #[.val (.int p0), .val (.int p1), .val (.int p2), .val (.int p3), .val (.int p4), .val (.int p5), .val (.int cn), .val (.ref b15), .unset, .unset, .unset, .unset, .unset, .unset, .unset] [(.int p3), (.double FP.dconst1), (.double xT), (.ref b18), (.ref b17), (.ref b17)])) rfl (hb hby at_69) t k) ?_
    show own_Go p e below P T19 (mkF m 71 #[.val (.int p0), .val (.int p1), .val (.int p2), .val (.int p3), .val (.int p4), .val (.int p5), .val (.int cn), .val (.ref b15), .unset, .unset, .unset, .unset, .unset, .unset, .unset] [(.int (65535 : Int32)), (.int p3), (.double FP.dconst1), (.double xT), (.ref b18), (.ref b17), (.ref b17)])
    refine own_step (fun _ k => XS.iand X19.here hx rfl (hb hby at_71) rfl k) ?_
    show own_Go p e below P T19 (mkF m 72 #[.val (.int p0), .val (.int p1), .val (.int p2), .val (.int p3), .val (.int p4), .val (.int p5), .val (.int cn), .val (.ref b15), .unset, .unset, .unset, .unset, .unset, .unset, .unset] [(.int (p3 &&& (65535 : Int32))), (.double FP.dconst1), (.double xT), (.ref b18), (.ref b17), (.ref b17)])
    refine own_step (fun _ k => XS.i2dS X19.here hx rfl (hb hby at_72) rfl rfl k) ?_
    show own_Go p e below P T19 (mkF m 73 #[.val (.int p0), .val (.int p1), .val (.int p2), .val (.int p3), .val (.int p4), .val (.int p5), .val (.int cn), .val (.ref b15), .unset, .unset, .unset, .unset, .unset, .unset, .unset] [(.double (FP.i2d (p3 &&& (65535 : Int32)))), (.double FP.dconst1), (.double xT), (.ref b18), (.ref b17), (.ref b17)])
    refine own_step (fun _ k => XS.daddS X19.here hx rfl (hb hby at_73) rfl (own_nn (own_onep _).1 (by decide)) rfl k) ?_
    show own_Go p e below P T19 (mkF m 74 #[.val (.int p0), .val (.int p1), .val (.int p2), .val (.int p3), .val (.int p4), .val (.int p5), .val (.int cn), .val (.ref b15), .unset, .unset, .unset, .unset, .unset, .unset, .unset] [(.double (FP.dadd FP.dconst1 (FP.i2d (p3 &&& (65535 : Int32))))), (.double xT), (.ref b18), (.ref b17), (.ref b17)])
    have pd_xP := own_onep p3
    generalize hn_xP : (FP.dadd FP.dconst1 (FP.i2d (p3 &&& (65535 : Int32)))) = xP
    rw [show (FP.dadd FP.dconst1 (FP.i2d (p3 &&& (65535 : Int32)))) = _ from hn_xP] at pd_xP
    refine own_step (fun _ k => XS.iload X19.here hx rfl (hb hby at_74) rfl k) ?_
    show own_Go p e below P T19 (mkF m 76 #[.val (.int p0), .val (.int p1), .val (.int p2), .val (.int p3), .val (.int p4), .val (.int p5), .val (.int cn), .val (.ref b15), .unset, .unset, .unset, .unset, .unset, .unset, .unset] [(.int p4), (.double xP), (.double xT), (.ref b18), (.ref b17), (.ref b17)])
    refine own_step (fun _ k => XS.i2dS X19.here hx rfl (hb hby at_76) rfl rfl k) ?_
    show own_Go p e below P T19 (mkF m 77 #[.val (.int p0), .val (.int p1), .val (.int p2), .val (.int p3), .val (.int p4), .val (.int p5), .val (.int cn), .val (.ref b15), .unset, .unset, .unset, .unset, .unset, .unset, .unset] [(.double (FP.i2d p4)), (.double xP), (.double xT), (.ref b18), (.ref b17), (.ref b17)])
    refine own_step (fun _ k => XS.iload X19.here hx rfl (hb hby at_77) rfl k) ?_
    show own_Go p e below P T19 (mkF m 79 #[.val (.int p0), .val (.int p1), .val (.int p2), .val (.int p3), .val (.int p4), .val (.int p5), .val (.int cn), .val (.ref b15), .unset, .unset, .unset, .unset, .unset, .unset, .unset] [(.int cn), (.double (FP.i2d p4)), (.double xP), (.double xT), (.ref b18), (.ref b17), (.ref b17)])
    obtain ⟨_, _, ⟨T20, L20, k20, n20⟩, -, X20r, hSr20, hgr20, ⟨Lc20, hQ20, l20, y20, z20⟩, st20⟩ := X19.specialBackS hx (y := (⟨"com/example/brinequil/brinequil/model/Fraction", "<init>", "(Ljava/lang/String;DDDI)V"⟩ : MethodName)) rfl hown (mvT hZ (hw _ (List.mem_of_getElem? (i := 39) rfl))) (mvT hZ (hw _ (List.mem_of_getElem? (i := 40) rfl))) (mvT hZ (hw _ (List.mem_of_getElem? (i := 41) rfl))) (by decide) (backOfS (W := 1) (rm8 l Z a0 hw [] b17 xT xP cn b18 sv19 kb19 ch cc ci ta tc (8552417 : Int32) an p4 T19.heap n0 (Nat.le_trans (Nat.le_trans (Nat.le_trans (Nat.le_trans (Nat.le_trans Z0 E15.1) (Keep.of_wr W16).1) E17.1) E18.1) K19.1) Fc19 Fv19 E19_o V19 (own_sta_keep ((((S_cs.ext E15).wr W16).ext E17).ext E18) K19 (allS (old_plain F_value_b18) all0)) hcc (own_sta_keep ((((S_ci.ext E15).wr W16).ext E17).ext E18) K19 (allS (old_plain F_value_b18) all0)) (((((E_ci.ext E15).wr W16).ext E17).ext E18).keep K19) (own_sta_keep ((((S_ta.ext E15).wr W16).ext E17).ext E18) K19 (allS (old_plain F_value_b18) all0)) (own_arr_keep ((((A_ta.ext E15).other W16 (Nat.ne_of_lt (Nat.lt_of_lt_of_le A_ta.lt (Nat.le_of_eq g15.symm)))).ext E17).ext E18) K19 (ninS (Nat.ne_of_lt (Nat.lt_of_lt_of_le (((A_ta.ext E15).other W16 (Nat.ne_of_lt (Nat.lt_of_lt_of_le A_ta.lt (Nat.le_of_eq g15.symm)))).ext E17).lt (Nat.le_of_eq g18.symm))) nin0)) hti htv (by decide) hch ((E_b17.ext E18).keep K19) ((F_name_b17.ext E18).keep K19 (ninS (Nat.ne_of_lt (Nat.lt_of_lt_of_le E_b17.lt (Nat.le_of_eq g18.symm))) nin0)) ((F_criticalTemperature_b17.ext E18).keep K19 (ninS (Nat.ne_of_lt (Nat.lt_of_lt_of_le E_b17.lt (Nat.le_of_eq g18.symm))) nin0)) ((F_criticalPressure_b17.ext E18).keep K19 (ninS (Nat.ne_of_lt (Nat.lt_of_lt_of_le E_b17.lt (Nat.le_of_eq g18.symm))) nin0)) ((F_acentricFactor_b17.ext E18).keep K19 (ninS (Nat.ne_of_lt (Nat.lt_of_lt_of_le E_b17.lt (Nat.le_of_eq g18.symm))) nin0)) ((F_carbonNumber_b17.ext E18).keep K19 (ninS (Nat.ne_of_lt (Nat.lt_of_lt_of_le E_b17.lt (Nat.le_of_eq g18.symm))) nin0)) g_b17 (own_sta_keep ((((S_NONE.ext E15).wr W16).ext E17).ext E18) K19 (allS (old_plain F_value_b18) all0)) pd_xT pd_xP hcn) hZ (hw _ (List.mem_of_getElem? (i := 41) rfl)) (hw _ (List.mem_of_getElem? (i := 8) rfl)) (by decide) (by decide)) (g := (mkF m 79 #[.val (.int p0), .val (.int p1), .val (.int p2), .val (.int p3), .val (.int p4), .val (.int p5), .val (.int cn), .val (.ref b15), .unset, .unset, .unset, .unset, .unset, .unset, .unset] [(.int cn), (.double (FP.i2d p4)), (.double xP), (.double xT), (.ref b18), (.ref b17), (.ref b17)])) rfl (by rw [hml]; rfl) (Steps.refl _) (a := b17) (argsL := [(.ref b18), (.double xT), (.double xP), (.double (FP.i2d p4)), (.int cn)]) (rest := [(.ref b17)]) (lenOf pd__Ljava_lang_StringDDDI__V rfl) rfl (by show 2 * 0 + _ ≤ _; exact Nat.le_of_eq rfl) (hb hby at_79) (fun _ _ => ⟨rfl, rfl, (by decide : 4 + 11 ≤ _), (by decide : 11 + 64 ≤ _)⟩)
    dsimp only [Pt.U, Pt.locs, Pt.cells, Pt.slots] at X20r hSr20 hgr20 l20 y20 z20 st20 hQ20
    subst l20 y20 z20
    obtain ⟨X20, hS20, hZ20, hown20⟩ := rebS hS0 (Nat.le_trans (Nat.le_trans (Nat.le_trans (Nat.le_trans (Nat.le_trans hk0 E15.1) (Keep.of_wr W16).1) E17.1) E18.1) K19.1) X20r hSr20 hgr20 hZ hown
    have hk20 := Nat.le_refl T20.heap.size
    obtain ⟨rfl, N20q, K20, E20_o, Fc20⟩ := hQ20
    have N20 := Fr.app N19 N20q
    refine own_step (fun _ k => st20.trans k) ?_
    show own_Go p e below P T20 (mkF m 82 #[.val (.int p0), .val (.int p1), .val (.int p2), .val (.int p3), .val (.int p4), .val (.int p5), .val (.int cn), .val (.ref b15), .unset, .unset, .unset, .unset, .unset, .unset, .unset] [(.ref b17)])
    refine own_step (fun _ k => XS.astore X20.here hx rfl (hb hby at_82) rfl rfl (l' := #[.val (.int p0), .val (.int p1), .val (.int p2), .val (.int p3), .val (.int p4), .val (.int p5), .val (.int cn), .val (.ref b15), .val (.ref b17), .unset, .unset, .unset, .unset, .unset, .unset]) rfl k) ?_
    show own_Go p e below P T20 (mkF m 84 #[.val (.int p0), .val (.int p1), .val (.int p2), .val (.int p3), .val (.int p4), .val (.int p5), .val (.int cn), .val (.ref b15), .val (.ref b17), .unset, .unset, .unset, .unset, .unset, .unset] [])
    refine own_step (fun _ k => XS.aload X20.here hx rfl (hb hby at_84) rfl rfl k) ?_
    show own_Go p e below P T20 (mkF m 86 #[.val (.int p0), .val (.int p1), .val (.int p2), .val (.int p3), .val (.int p4), .val (.int p5), .val (.int cn), .val (.ref b15), .val (.ref b17), .unset, .unset, .unset, .unset, .unset, .unset] [(.ref b17)])
    obtain ⟨cq21, kq21, q21a, q21b, q21c⟩ := isOf hZ20 rfl E20_o
    obtain ⟨_, _, ⟨T21, L21, k21, n21⟩, -, X21, ⟨Lc21, hQ21, l21, y21, z21⟩, st21⟩ := X20.virtualBack hx (y := (⟨"com/example/brinequil/brinequil/model/Fraction", "waterInteraction", "()D"⟩ : MethodName)) (z := (⟨"com/example/brinequil/brinequil/model/Fraction", "waterInteraction", "()D"⟩ : MethodName)) hown20 (mvT hZ20 (hw _ (List.mem_of_getElem? (i := 155) rfl))) (mvT hZ20 (hw _ (List.mem_of_getElem? (i := 156) rfl))) (notFace_of_selects (args := #[]) (mvT hZ20 (hw _ (List.mem_of_getElem? (i := 158) rfl)))) (mvT hZ20 (hw _ (List.mem_of_getElem? (i := 158) rfl))) (mvT hZ20 (hw _ (List.mem_of_getElem? (i := 157) rfl))) (by decide) (backOf (W := 0) (rm24 l Z a0 hw [] b17 cn T20.heap n0 (Nat.le_trans (Nat.le_trans (Nat.le_trans (Nat.le_trans (Nat.le_trans (Nat.le_trans Z0 E15.1) (Keep.of_wr W16).1) E17.1) E18.1) K19.1) K20.1) Fc20) hZ20 (hw _ (List.mem_of_getElem? (i := 159) rfl)) (hw _ (List.mem_of_getElem? (i := 8) rfl)) (by decide) (by decide)) q21a q21c (g := (mkF m 86 #[.val (.int p0), .val (.int p1), .val (.int p2), .val (.int p3), .val (.int p4), .val (.int p5), .val (.int cn), .val (.ref b15), .val (.ref b17), .unset, .unset, .unset, .unset, .unset, .unset] [(.ref b17)])) rfl (by rw [hml]; rfl) (Steps.refl _) (argsL := []) (rest := []) (lenOf pd____D rfl) rfl (by show 2 * 0 + _ ≤ _; exact Nat.le_of_eq rfl) (hb hby at_86) (fun _ _ => ⟨rfl, rfl, (by decide : 15 + 0 ≤ _), (by decide : 75 + 0 ≤ _)⟩)
    dsimp only [Pt.U, Pt.locs, Pt.cells, Pt.slots] at X21 l21 y21 z21 st21 hQ21
    subst l21 y21 z21
    obtain ⟨rfl, N21q, e21⟩ := hQ21
    have N21 := Fr.app N20 N21q
    refine own_step (fun _ k => st21.trans k) ?_
    show own_Go p e below P T21 (mkF m 89 #[.val (.int p0), .val (.int p1), .val (.int p2), .val (.int p3), .val (.int p4), .val (.int p5), .val (.int cn), .val (.ref b15), .val (.ref b17), .unset, .unset, .unset, .unset, .unset, .unset] [(.double (own_wk cn))])
    refine own_step (fun _ k => XS.dstore X21.here hx rfl (hb hby at_89) rfl (l' := #[.val (.int p0), .val (.int p1), .val (.int p2), .val (.int p3), .val (.int p4), .val (.int p5), .val (.int cn), .val (.ref b15), .val (.ref b17), .val (.double (own_wk cn)), .second, .unset, .unset, .unset, .unset]) rfl k) ?_
    show own_Go p e below P T21 (mkF m 91 #[.val (.int p0), .val (.int p1), .val (.int p2), .val (.int p3), .val (.int p4), .val (.int p5), .val (.int cn), .val (.ref b15), .val (.ref b17), .val (.double (own_wk cn)), .second, .unset, .unset, .unset, .unset] [])
    refine own_step (fun _ k => XS.iload X21.here hx rfl (hb hby at_91) rfl k) ?_
    show own_Go p e below P T21 (mkF m 93 #[.val (.int p0), .val (.int p1), .val (.int p2), .val (.int p3), .val (.int p4), .val (.int p5), .val (.int cn), .val (.ref b15), .val (.ref b17), .val (.double (own_wk cn)), .second, .unset, .unset, .unset, .unset] [(.int cn)])
    refine own_step (fun _ k => XS.bipush X21.here hx rfl (hb hby at_93) k) ?_
    show own_Go p e below P T21 (mkF m 95 #[.val (.int p0), .val (.int p1), .val (.int p2), .val (.int p3), .val (.int p4), .val (.int p5), .val (.int cn), .val (.ref b15), .val (.ref b17), .val (.double (own_wk cn)), .second, .unset, .unset, .unset, .unset] [(.int (10 : Int32)), (.int cn)])
    by_cases hc22 : cn < (10 : Int32)
    · refine own_step (fun _ k => XS.icmpYes X21.here hx rfl (pc0 := 95) (pc' := 113) rfl (hb hby at_95) rfl (tlt hc22).1 (by decide) (by decide) k) ?_
      show own_Go p e below P T21 (mkF m 113 #[.val (.int p0), .val (.int p1), .val (.int p2), .val (.int p3), .val (.int p4), .val (.int p5), .val (.int cn), .val (.ref b15), .val (.ref b17), .val (.double (own_wk cn)), .second, .unset, .unset, .unset, .unset] [])
      refine own_step (fun _ k => XS.iload X21.here hx rfl (hb hby at_113) rfl k) ?_
      show own_Go p e below P T21 (mkF m 115 #[.val (.int p0), .val (.int p1), .val (.int p2), .val (.int p3), .val (.int p4), .val (.int p5), .val (.int cn), .val (.ref b15), .val (.ref b17), .val (.double (own_wk cn)), .second, .unset, .unset, .unset, .unset] [(.int cn)])
      refine own_step (fun _ k => XS.bipush X21.here hx rfl (hb hby at_115) k) ?_
      show own_Go p e below P T21 (mkF m 117 #[.val (.int p0), .val (.int p1), .val (.int p2), .val (.int p3), .val (.int p4), .val (.int p5), .val (.int cn), .val (.ref b15), .val (.ref b17), .val (.double (own_wk cn)), .second, .unset, .unset, .unset, .unset] [(.int (6 : Int32)), (.int cn)])
      by_cases hc23 : cn = (6 : Int32)
      · refine own_step (fun _ k => XS.icmpNo X21.here hx rfl (hb hby at_117) rfl (teq hc23).2 k) ?_
        show own_Go p e below P T21 (mkF m 120 #[.val (.int p0), .val (.int p1), .val (.int p2), .val (.int p3), .val (.int p4), .val (.int p5), .val (.int cn), .val (.ref b15), .val (.ref b17), .val (.double (own_wk cn)), .second, .unset, .unset, .unset, .unset] [])
        rw [show own_wk cn = 4586242481972595550 from (if_pos hc22).trans (if_pos hc23)]
        show own_Go p e below P T21 (mkF m 120 #[.val (.int p0), .val (.int p1), .val (.int p2), .val (.int p3), .val (.int p4), .val (.int p5), .val (.int cn), .val (.ref b15), .val (.ref b17), .val (.double (4586242481972595550 : UInt64)), .second, .unset, .unset, .unset, .unset] [])
        refine own_step (fun _ k => XS.dload X21.here hx rfl (hb hby at_120) rfl k) ?_
        show own_Go p e below P T21 (mkF m 122 #[.val (.int p0), .val (.int p1), .val (.int p2), .val (.int p3), .val (.int p4), .val (.int p5), .val (.int cn), .val (.ref b15), .val (.ref b17), .val (.double (4586242481972595550 : UInt64)), .second, .unset, .unset, .unset, .unset] [(.double (4586242481972595550 : UInt64))])
        refine own_step (fun t k => X21.ldc2DoubleC hx hown20 (mvT hZ20 (hw _ (List.mem_of_getElem? (i := 168) rfl))) (g := (mkF m 122 #[.val (.int p0), .val (.int p1), .val (.int p2), .val (.int p3), .val (.int p4), .val (.int p5), .val (.int cn), .val (.ref b15), .val (.ref b17), .val (.double (4586242481972595550 : UInt64)), .second, .unset, .unset, .unset, .unset] [(.double (4586242481972595550 : UInt64))])) rfl (hb hby at_122) t k) ?_
        show own_Go p e below P T21 (mkF m 125 #[.val (.int p0), .val (.int p1), .val (.int p2), .val (.int p3), .val (.int p4), .val (.int p5), .val (.int cn), .val (.ref b15), .val (.ref b17), .val (.double (4586242481972595550 : UInt64)), .second, .unset, .unset, .unset, .unset] [(.double (4586242481972595550 : UInt64)), (.double (4586242481972595550 : UInt64))])
        refine own_step (fun _ k => XS.dcmpS X21.here hx rfl (hb hby at_125) rfl rfl k) ?_
        show own_Go p e below P T21 (mkF m 126 #[.val (.int p0), .val (.int p1), .val (.int p2), .val (.int p3), .val (.int p4), .val (.int p5), .val (.int cn), .val (.ref b15), .val (.ref b17), .val (.double (4586242481972595550 : UInt64)), .second, .unset, .unset, .unset, .unset] [(.int (cmpValue (FP.dcmp (4586242481972595550 : UInt64) (4586242481972595550 : UInt64)) .l))])
        refine own_step (fun _ k => XS.ifNo X21.here hx rfl (hb hby at_126) rfl ((if0 _ _).trans (teq own_h6).2) k) ?_
        show own_Go p e below P T21 (mkF m 129 #[.val (.int p0), .val (.int p1), .val (.int p2), .val (.int p3), .val (.int p4), .val (.int p5), .val (.int cn), .val (.ref b15), .val (.ref b17), .val (.double (4586242481972595550 : UInt64)), .second, .unset, .unset, .unset, .unset] [])
        refine own_step (fun _ k => XS.iconst X21.here hx rfl (hb hby at_129) k) ?_
        show own_Go p e below P T21 (mkF m 130 #[.val (.int p0), .val (.int p1), .val (.int p2), .val (.int p3), .val (.int p4), .val (.int p5), .val (.int cn), .val (.ref b15), .val (.ref b17), .val (.double (4586242481972595550 : UInt64)), .second, .unset, .unset, .unset, .unset] [(.int (1 : Int32))])
        refine own_step (fun _ k => XS.goto X21.here hx rfl (pc0 := 130) (pc' := 134) rfl (hb hby at_130) (by decide) (by decide) k) ?_
        show own_Go p e below P T21 (mkF m 134 #[.val (.int p0), .val (.int p1), .val (.int p2), .val (.int p3), .val (.int p4), .val (.int p5), .val (.int cn), .val (.ref b15), .val (.ref b17), .val (.double (4586242481972595550 : UInt64)), .second, .unset, .unset, .unset, .unset] [(.int (1 : Int32))])
        obtain ⟨fs, hr, hrun, hended, hend⟩ := X21.leaveW hS20 (by rw [e21]; exact hk20) (v := some (.int (1 : Int32))) (fun h => by rw [Bd.returns] at h; cases h)
        refine ⟨_, _, retN X21 hx (t := .boolean) Bd.returns (by simp) (hb hby at_134) hr, hrun, hended, hfin _ _ ⟨_, _, rfl, ?_, hend.1, hend.2.1, hend.2.2.1, hend.2.2.2.mono (by decide) (by decide)⟩⟩
        show Q0 Z p0 p1 p2 p3 p4 p5 cc ci ta tc an h0 n0 (some (.int (1 : Int32))) T21.heap _
        rw [e21]
        exact ⟨rfl, N21⟩
      · refine own_step (fun _ k => XS.icmpYes X21.here hx rfl (pc0 := 117) (pc' := 135) rfl (hb hby at_117) rfl (feq hc23).2 (by decide) (by decide) k) ?_
        show own_Go p e below P T21 (mkF m 135 #[.val (.int p0), .val (.int p1), .val (.int p2), .val (.int p3), .val (.int p4), .val (.int p5), .val (.int cn), .val (.ref b15), .val (.ref b17), .val (.double (own_wk cn)), .second, .unset, .unset, .unset, .unset] [])
        refine own_step (fun _ k => XS.sipush X21.here hx rfl (hb hby at_135) k) ?_
        show own_Go p e below P T21 (mkF m 138 #[.val (.int p0), .val (.int p1), .val (.int p2), .val (.int p3), .val (.int p4), .val (.int p5), .val (.int cn), .val (.ref b15), .val (.ref b17), .val (.double (own_wk cn)), .second, .unset, .unset, .unset, .unset] [(.int (1915 : Int32))])
        refine own_step (fun _ k => XS.sipush X21.here hx rfl (hb hby at_138) k) ?_
        show own_Go p e below P T21 (mkF m 141 #[.val (.int p0), .val (.int p1), .val (.int p2), .val (.int p3), .val (.int p4), .val (.int p5), .val (.int cn), .val (.ref b15), .val (.ref b17), .val (.double (own_wk cn)), .second, .unset, .unset, .unset, .unset] [(.int (260 : Int32)), (.int (1915 : Int32))])
        refine own_step (fun _ k => XS.iload X21.here hx rfl (hb hby at_141) rfl k) ?_
        show own_Go p e below P T21 (mkF m 143 #[.val (.int p0), .val (.int p1), .val (.int p2), .val (.int p3), .val (.int p4), .val (.int p5), .val (.int cn), .val (.ref b15), .val (.ref b17), .val (.double (own_wk cn)), .second, .unset, .unset, .unset, .unset] [(.int cn), (.int (260 : Int32)), (.int (1915 : Int32))])
        refine own_step (fun _ k => XS.imul X21.here hx rfl (hb hby at_143) rfl k) ?_
        show own_Go p e below P T21 (mkF m 144 #[.val (.int p0), .val (.int p1), .val (.int p2), .val (.int p3), .val (.int p4), .val (.int p5), .val (.int cn), .val (.ref b15), .val (.ref b17), .val (.double (own_wk cn)), .second, .unset, .unset, .unset, .unset] [(.int ((260 : Int32) * cn)), (.int (1915 : Int32))])
        refine own_step (fun _ k => XS.isub X21.here hx rfl (hb hby at_144) rfl k) ?_
        show own_Go p e below P T21 (mkF m 145 #[.val (.int p0), .val (.int p1), .val (.int p2), .val (.int p3), .val (.int p4), .val (.int p5), .val (.int cn), .val (.ref b15), .val (.ref b17), .val (.double (own_wk cn)), .second, .unset, .unset, .unset, .unset] [(.int ((1915 : Int32) - ((260 : Int32) * cn)))])
        refine own_step (fun _ k => XS.i2dS X21.here hx rfl (hb hby at_145) rfl rfl k) ?_
        show own_Go p e below P T21 (mkF m 146 #[.val (.int p0), .val (.int p1), .val (.int p2), .val (.int p3), .val (.int p4), .val (.int p5), .val (.int cn), .val (.ref b15), .val (.ref b17), .val (.double (own_wk cn)), .second, .unset, .unset, .unset, .unset] [(.double (FP.i2d ((1915 : Int32) - ((260 : Int32) * cn))))])
        refine own_step (fun t k => X21.ldc2DoubleC hx hown20 (mvT hZ20 (hw _ (List.mem_of_getElem? (i := 162) rfl))) (g := (mkF m 146 #[.val (.int p0), .val (.int p1), .val (.int p2), .val (.int p3), .val (.int p4), .val (.int p5), .val (.int cn), .val (.ref b15), .val (.ref b17), .val (.double (own_wk cn)), .second, .unset, .unset, .unset, .unset] [(.double (FP.i2d ((1915 : Int32) - ((260 : Int32) * cn))))])) rfl (hb hby at_146) t k) ?_
        show own_Go p e below P T21 (mkF m 149 #[.val (.int p0), .val (.int p1), .val (.int p2), .val (.int p3), .val (.int p4), .val (.int p5), .val (.int cn), .val (.ref b15), .val (.ref b17), .val (.double (own_wk cn)), .second, .unset, .unset, .unset, .unset] [(.double (4666723172467343360 : UInt64)), (.double (FP.i2d ((1915 : Int32) - ((260 : Int32) * cn))))])
        refine own_step (fun _ k => XS.ddivS X21.here hx rfl (hb hby at_149) rfl (own_tail4 hcn hc22 hc23).1 rfl k) ?_
        show own_Go p e below P T21 (mkF m 150 #[.val (.int p0), .val (.int p1), .val (.int p2), .val (.int p3), .val (.int p4), .val (.int p5), .val (.int cn), .val (.ref b15), .val (.ref b17), .val (.double (own_wk cn)), .second, .unset, .unset, .unset, .unset] [(.double (FP.ddiv (FP.i2d ((1915 : Int32) - ((260 : Int32) * cn))) (4666723172467343360 : UInt64)))])
        refine own_step (fun _ k => XS.dstore X21.here hx rfl (hb hby at_150) rfl (l' := #[.val (.int p0), .val (.int p1), .val (.int p2), .val (.int p3), .val (.int p4), .val (.int p5), .val (.int cn), .val (.ref b15), .val (.ref b17), .val (.double (own_wk cn)), .second, .val (.double (FP.ddiv (FP.i2d ((1915 : Int32) - ((260 : Int32) * cn))) (4666723172467343360 : UInt64))), .second, .unset, .unset]) rfl k) ?_
        show own_Go p e below P T21 (mkF m 152 #[.val (.int p0), .val (.int p1), .val (.int p2), .val (.int p3), .val (.int p4), .val (.int p5), .val (.int cn), .val (.ref b15), .val (.ref b17), .val (.double (own_wk cn)), .second, .val (.double (FP.ddiv (FP.i2d ((1915 : Int32) - ((260 : Int32) * cn))) (4666723172467343360 : UInt64))), .second, .unset, .unset] [])
        refine own_step (fun _ k => XS.dload X21.here hx rfl (hb hby at_152) rfl k) ?_
        show own_Go p e below P T21 (mkF m 154 #[.val (.int p0), .val (.int p1), .val (.int p2), .val (.int p3), .val (.int p4), .val (.int p5), .val (.int cn), .val (.ref b15), .val (.ref b17), .val (.double (own_wk cn)), .second, .val (.double (FP.ddiv (FP.i2d ((1915 : Int32) - ((260 : Int32) * cn))) (4666723172467343360 : UInt64))), .second, .unset, .unset] [(.double (own_wk cn))])
        refine own_step (fun _ k => XS.dload X21.here hx rfl (hb hby at_154) rfl k) ?_
        show own_Go p e below P T21 (mkF m 156 #[.val (.int p0), .val (.int p1), .val (.int p2), .val (.int p3), .val (.int p4), .val (.int p5), .val (.int cn), .val (.ref b15), .val (.ref b17), .val (.double (own_wk cn)), .second, .val (.double (FP.ddiv (FP.i2d ((1915 : Int32) - ((260 : Int32) * cn))) (4666723172467343360 : UInt64))), .second, .unset, .unset] [(.double (FP.ddiv (FP.i2d ((1915 : Int32) - ((260 : Int32) * cn))) (4666723172467343360 : UInt64))), (.double (own_wk cn))])
        refine own_step (fun _ k => XS.dsubS X21.here hx rfl (hb hby at_156) rfl (own_tail4 hcn hc22 hc23).2.1 rfl k) ?_
        show own_Go p e below P T21 (mkF m 157 #[.val (.int p0), .val (.int p1), .val (.int p2), .val (.int p3), .val (.int p4), .val (.int p5), .val (.int cn), .val (.ref b15), .val (.ref b17), .val (.double (own_wk cn)), .second, .val (.double (FP.ddiv (FP.i2d ((1915 : Int32) - ((260 : Int32) * cn))) (4666723172467343360 : UInt64))), .second, .unset, .unset] [(.double (FP.dsub (own_wk cn) (FP.ddiv (FP.i2d ((1915 : Int32) - ((260 : Int32) * cn))) (4666723172467343360 : UInt64))))])
        refine own_step (fun _ k => XS.dstore X21.here hx rfl (hb hby at_157) rfl (l' := #[.val (.int p0), .val (.int p1), .val (.int p2), .val (.int p3), .val (.int p4), .val (.int p5), .val (.int cn), .val (.ref b15), .val (.ref b17), .val (.double (own_wk cn)), .second, .val (.double (FP.ddiv (FP.i2d ((1915 : Int32) - ((260 : Int32) * cn))) (4666723172467343360 : UInt64))), .second, .val (.double (FP.dsub (own_wk cn) (FP.ddiv (FP.i2d ((1915 : Int32) - ((260 : Int32) * cn))) (4666723172467343360 : UInt64)))), .second]) rfl k) ?_
        show own_Go p e below P T21 (mkF m 159 #[.val (.int p0), .val (.int p1), .val (.int p2), .val (.int p3), .val (.int p4), .val (.int p5), .val (.int cn), .val (.ref b15), .val (.ref b17), .val (.double (own_wk cn)), .second, .val (.double (FP.ddiv (FP.i2d ((1915 : Int32) - ((260 : Int32) * cn))) (4666723172467343360 : UInt64))), .second, .val (.double (FP.dsub (own_wk cn) (FP.ddiv (FP.i2d ((1915 : Int32) - ((260 : Int32) * cn))) (4666723172467343360 : UInt64)))), .second] [])
        refine own_step (fun _ k => XS.dload X21.here hx rfl (hb hby at_159) rfl k) ?_
        show own_Go p e below P T21 (mkF m 161 #[.val (.int p0), .val (.int p1), .val (.int p2), .val (.int p3), .val (.int p4), .val (.int p5), .val (.int cn), .val (.ref b15), .val (.ref b17), .val (.double (own_wk cn)), .second, .val (.double (FP.ddiv (FP.i2d ((1915 : Int32) - ((260 : Int32) * cn))) (4666723172467343360 : UInt64))), .second, .val (.double (FP.dsub (own_wk cn) (FP.ddiv (FP.i2d ((1915 : Int32) - ((260 : Int32) * cn))) (4666723172467343360 : UInt64)))), .second] [(.double (FP.dsub (own_wk cn) (FP.ddiv (FP.i2d ((1915 : Int32) - ((260 : Int32) * cn))) (4666723172467343360 : UInt64))))])
        refine own_step (fun t k => X21.ldc2DoubleC hx hown20 (mvT hZ20 (hw _ (List.mem_of_getElem? (i := 163) rfl))) (g := (mkF m 161 #[.val (.int p0), .val (.int p1), .val (.int p2), .val (.int p3), .val (.int p4), .val (.int p5), .val (.int cn), .val (.ref b15), .val (.ref b17), .val (.double (own_wk cn)), .second, .val (.double (FP.ddiv (FP.i2d ((1915 : Int32) - ((260 : Int32) * cn))) (4666723172467343360 : UInt64))), .second, .val (.double (FP.dsub (own_wk cn) (FP.ddiv (FP.i2d ((1915 : Int32) - ((260 : Int32) * cn))) (4666723172467343360 : UInt64)))), .second] [(.double (FP.dsub (own_wk cn) (FP.ddiv (FP.i2d ((1915 : Int32) - ((260 : Int32) * cn))) (4666723172467343360 : UInt64))))])) rfl (hb hby at_161) t k) ?_
        show own_Go p e below P T21 (mkF m 164 #[.val (.int p0), .val (.int p1), .val (.int p2), .val (.int p3), .val (.int p4), .val (.int p5), .val (.int cn), .val (.ref b15), .val (.ref b17), .val (.double (own_wk cn)), .second, .val (.double (FP.ddiv (FP.i2d ((1915 : Int32) - ((260 : Int32) * cn))) (4666723172467343360 : UInt64))), .second, .val (.double (FP.dsub (own_wk cn) (FP.ddiv (FP.i2d ((1915 : Int32) - ((260 : Int32) * cn))) (4666723172467343360 : UInt64)))), .second] [(.double (4427486594234968593 : UInt64)), (.double (FP.dsub (own_wk cn) (FP.ddiv (FP.i2d ((1915 : Int32) - ((260 : Int32) * cn))) (4666723172467343360 : UInt64))))])
        refine own_step (fun _ k => XS.dcmpS X21.here hx rfl (hb hby at_164) rfl rfl k) ?_
        show own_Go p e below P T21 (mkF m 165 #[.val (.int p0), .val (.int p1), .val (.int p2), .val (.int p3), .val (.int p4), .val (.int p5), .val (.int cn), .val (.ref b15), .val (.ref b17), .val (.double (own_wk cn)), .second, .val (.double (FP.ddiv (FP.i2d ((1915 : Int32) - ((260 : Int32) * cn))) (4666723172467343360 : UInt64))), .second, .val (.double (FP.dsub (own_wk cn) (FP.ddiv (FP.i2d ((1915 : Int32) - ((260 : Int32) * cn))) (4666723172467343360 : UInt64)))), .second] [(.int (cmpValue (FP.dcmp (FP.dsub (own_wk cn) (FP.ddiv (FP.i2d ((1915 : Int32) - ((260 : Int32) * cn))) (4666723172467343360 : UInt64))) (4427486594234968593 : UInt64)) .g))])
        refine own_step (fun _ k => XS.ifNo X21.here hx rfl (hb hby at_165) rfl ((if0 _ _).trans (tlt (own_tail4 hcn hc22 hc23).2.2.1).2.1) k) ?_
        show own_Go p e below P T21 (mkF m 168 #[.val (.int p0), .val (.int p1), .val (.int p2), .val (.int p3), .val (.int p4), .val (.int p5), .val (.int cn), .val (.ref b15), .val (.ref b17), .val (.double (own_wk cn)), .second, .val (.double (FP.ddiv (FP.i2d ((1915 : Int32) - ((260 : Int32) * cn))) (4666723172467343360 : UInt64))), .second, .val (.double (FP.dsub (own_wk cn) (FP.ddiv (FP.i2d ((1915 : Int32) - ((260 : Int32) * cn))) (4666723172467343360 : UInt64)))), .second] [])
        refine own_step (fun _ k => XS.dload X21.here hx rfl (hb hby at_168) rfl k) ?_
        show own_Go p e below P T21 (mkF m 170 #[.val (.int p0), .val (.int p1), .val (.int p2), .val (.int p3), .val (.int p4), .val (.int p5), .val (.int cn), .val (.ref b15), .val (.ref b17), .val (.double (own_wk cn)), .second, .val (.double (FP.ddiv (FP.i2d ((1915 : Int32) - ((260 : Int32) * cn))) (4666723172467343360 : UInt64))), .second, .val (.double (FP.dsub (own_wk cn) (FP.ddiv (FP.i2d ((1915 : Int32) - ((260 : Int32) * cn))) (4666723172467343360 : UInt64)))), .second] [(.double (FP.dsub (own_wk cn) (FP.ddiv (FP.i2d ((1915 : Int32) - ((260 : Int32) * cn))) (4666723172467343360 : UInt64))))])
        refine own_step (fun t k => X21.ldc2DoubleC hx hown20 (mvT hZ20 (hw _ (List.mem_of_getElem? (i := 164) rfl))) (g := (mkF m 170 #[.val (.int p0), .val (.int p1), .val (.int p2), .val (.int p3), .val (.int p4), .val (.int p5), .val (.int cn), .val (.ref b15), .val (.ref b17), .val (.double (own_wk cn)), .second, .val (.double (FP.ddiv (FP.i2d ((1915 : Int32) - ((260 : Int32) * cn))) (4666723172467343360 : UInt64))), .second, .val (.double (FP.dsub (own_wk cn) (FP.ddiv (FP.i2d ((1915 : Int32) - ((260 : Int32) * cn))) (4666723172467343360 : UInt64)))), .second] [(.double (FP.dsub (own_wk cn) (FP.ddiv (FP.i2d ((1915 : Int32) - ((260 : Int32) * cn))) (4666723172467343360 : UInt64))))])) rfl (hb hby at_170) t k) ?_
        show own_Go p e below P T21 (mkF m 173 #[.val (.int p0), .val (.int p1), .val (.int p2), .val (.int p3), .val (.int p4), .val (.int p5), .val (.int cn), .val (.ref b15), .val (.ref b17), .val (.double (own_wk cn)), .second, .val (.double (FP.ddiv (FP.i2d ((1915 : Int32) - ((260 : Int32) * cn))) (4666723172467343360 : UInt64))), .second, .val (.double (FP.dsub (own_wk cn) (FP.ddiv (FP.i2d ((1915 : Int32) - ((260 : Int32) * cn))) (4666723172467343360 : UInt64)))), .second] [(.double (13650858631089744401 : UInt64)), (.double (FP.dsub (own_wk cn) (FP.ddiv (FP.i2d ((1915 : Int32) - ((260 : Int32) * cn))) (4666723172467343360 : UInt64))))])
        refine own_step (fun _ k => XS.dcmpS X21.here hx rfl (hb hby at_173) rfl rfl k) ?_
        show own_Go p e below P T21 (mkF m 174 #[.val (.int p0), .val (.int p1), .val (.int p2), .val (.int p3), .val (.int p4), .val (.int p5), .val (.int cn), .val (.ref b15), .val (.ref b17), .val (.double (own_wk cn)), .second, .val (.double (FP.ddiv (FP.i2d ((1915 : Int32) - ((260 : Int32) * cn))) (4666723172467343360 : UInt64))), .second, .val (.double (FP.dsub (own_wk cn) (FP.ddiv (FP.i2d ((1915 : Int32) - ((260 : Int32) * cn))) (4666723172467343360 : UInt64)))), .second] [(.int (cmpValue (FP.dcmp (FP.dsub (own_wk cn) (FP.ddiv (FP.i2d ((1915 : Int32) - ((260 : Int32) * cn))) (4666723172467343360 : UInt64))) (13650858631089744401 : UInt64)) .l))])
        refine own_step (fun _ k => XS.ifNo X21.here hx rfl (hb hby at_174) rfl ((if0 _ _).trans (tlt (own_tail4 hcn hc22 hc23).2.2.2).2.2.2) k) ?_
        show own_Go p e below P T21 (mkF m 177 #[.val (.int p0), .val (.int p1), .val (.int p2), .val (.int p3), .val (.int p4), .val (.int p5), .val (.int cn), .val (.ref b15), .val (.ref b17), .val (.double (own_wk cn)), .second, .val (.double (FP.ddiv (FP.i2d ((1915 : Int32) - ((260 : Int32) * cn))) (4666723172467343360 : UInt64))), .second, .val (.double (FP.dsub (own_wk cn) (FP.ddiv (FP.i2d ((1915 : Int32) - ((260 : Int32) * cn))) (4666723172467343360 : UInt64)))), .second] [])
        refine own_step (fun _ k => XS.iconst X21.here hx rfl (hb hby at_177) k) ?_
        show own_Go p e below P T21 (mkF m 178 #[.val (.int p0), .val (.int p1), .val (.int p2), .val (.int p3), .val (.int p4), .val (.int p5), .val (.int cn), .val (.ref b15), .val (.ref b17), .val (.double (own_wk cn)), .second, .val (.double (FP.ddiv (FP.i2d ((1915 : Int32) - ((260 : Int32) * cn))) (4666723172467343360 : UInt64))), .second, .val (.double (FP.dsub (own_wk cn) (FP.ddiv (FP.i2d ((1915 : Int32) - ((260 : Int32) * cn))) (4666723172467343360 : UInt64)))), .second] [(.int (1 : Int32))])
        refine own_step (fun _ k => XS.goto X21.here hx rfl (pc0 := 178) (pc' := 182) rfl (hb hby at_178) (by decide) (by decide) k) ?_
        show own_Go p e below P T21 (mkF m 182 #[.val (.int p0), .val (.int p1), .val (.int p2), .val (.int p3), .val (.int p4), .val (.int p5), .val (.int cn), .val (.ref b15), .val (.ref b17), .val (.double (own_wk cn)), .second, .val (.double (FP.ddiv (FP.i2d ((1915 : Int32) - ((260 : Int32) * cn))) (4666723172467343360 : UInt64))), .second, .val (.double (FP.dsub (own_wk cn) (FP.ddiv (FP.i2d ((1915 : Int32) - ((260 : Int32) * cn))) (4666723172467343360 : UInt64)))), .second] [(.int (1 : Int32))])
        obtain ⟨fs, hr, hrun, hended, hend⟩ := X21.leaveW hS20 (by rw [e21]; exact hk20) (v := some (.int (1 : Int32))) (fun h => by rw [Bd.returns] at h; cases h)
        refine ⟨_, _, retN X21 hx (t := .boolean) Bd.returns (by simp) (hb hby at_182) hr, hrun, hended, hfin _ _ ⟨_, _, rfl, ?_, hend.1, hend.2.1, hend.2.2.1, hend.2.2.2.mono (by decide) (by decide)⟩⟩
        show Q0 Z p0 p1 p2 p3 p4 p5 cc ci ta tc an h0 n0 (some (.int (1 : Int32))) T21.heap _
        rw [e21]
        exact ⟨rfl, N21⟩
    · refine own_step (fun _ k => XS.icmpNo X21.here hx rfl (hb hby at_95) rfl (flt hc22).1 k) ?_
      show own_Go p e below P T21 (mkF m 98 #[.val (.int p0), .val (.int p1), .val (.int p2), .val (.int p3), .val (.int p4), .val (.int p5), .val (.int cn), .val (.ref b15), .val (.ref b17), .val (.double (own_wk cn)), .second, .unset, .unset, .unset, .unset] [])
      rw [show own_wk cn = 13812972402709538800 from if_neg hc22]
      show own_Go p e below P T21 (mkF m 98 #[.val (.int p0), .val (.int p1), .val (.int p2), .val (.int p3), .val (.int p4), .val (.int p5), .val (.int cn), .val (.ref b15), .val (.ref b17), .val (.double (13812972402709538800 : UInt64)), .second, .unset, .unset, .unset, .unset] [])
      refine own_step (fun _ k => XS.dload X21.here hx rfl (hb hby at_98) rfl k) ?_
      show own_Go p e below P T21 (mkF m 100 #[.val (.int p0), .val (.int p1), .val (.int p2), .val (.int p3), .val (.int p4), .val (.int p5), .val (.int cn), .val (.ref b15), .val (.ref b17), .val (.double (13812972402709538800 : UInt64)), .second, .unset, .unset, .unset, .unset] [(.double (13812972402709538800 : UInt64))])
      refine own_step (fun t k => X21.ldc2DoubleC hx hown20 (mvT hZ20 (hw _ (List.mem_of_getElem? (i := 166) rfl))) (g := (mkF m 100 #[.val (.int p0), .val (.int p1), .val (.int p2), .val (.int p3), .val (.int p4), .val (.int p5), .val (.int cn), .val (.ref b15), .val (.ref b17), .val (.double (13812972402709538800 : UInt64)), .second, .unset, .unset, .unset, .unset] [(.double (13812972402709538800 : UInt64))])) rfl (hb hby at_100) t k) ?_
      show own_Go p e below P T21 (mkF m 103 #[.val (.int p0), .val (.int p1), .val (.int p2), .val (.int p3), .val (.int p4), .val (.int p5), .val (.int cn), .val (.ref b15), .val (.ref b17), .val (.double (13812972402709538800 : UInt64)), .second, .unset, .unset, .unset, .unset] [(.double (13812972402709538800 : UInt64)), (.double (13812972402709538800 : UInt64))])
      refine own_step (fun _ k => XS.dcmpS X21.here hx rfl (hb hby at_103) rfl rfl k) ?_
      show own_Go p e below P T21 (mkF m 104 #[.val (.int p0), .val (.int p1), .val (.int p2), .val (.int p3), .val (.int p4), .val (.int p5), .val (.int cn), .val (.ref b15), .val (.ref b17), .val (.double (13812972402709538800 : UInt64)), .second, .unset, .unset, .unset, .unset] [(.int (cmpValue (FP.dcmp (13812972402709538800 : UInt64) (13812972402709538800 : UInt64)) .l))])
      refine own_step (fun _ k => XS.ifNo X21.here hx rfl (hb hby at_104) rfl ((if0 _ _).trans (teq own_hl).2) k) ?_
      show own_Go p e below P T21 (mkF m 107 #[.val (.int p0), .val (.int p1), .val (.int p2), .val (.int p3), .val (.int p4), .val (.int p5), .val (.int cn), .val (.ref b15), .val (.ref b17), .val (.double (13812972402709538800 : UInt64)), .second, .unset, .unset, .unset, .unset] [])
      refine own_step (fun _ k => XS.iconst X21.here hx rfl (hb hby at_107) k) ?_
      show own_Go p e below P T21 (mkF m 108 #[.val (.int p0), .val (.int p1), .val (.int p2), .val (.int p3), .val (.int p4), .val (.int p5), .val (.int cn), .val (.ref b15), .val (.ref b17), .val (.double (13812972402709538800 : UInt64)), .second, .unset, .unset, .unset, .unset] [(.int (1 : Int32))])
      refine own_step (fun _ k => XS.goto X21.here hx rfl (pc0 := 108) (pc' := 112) rfl (hb hby at_108) (by decide) (by decide) k) ?_
      show own_Go p e below P T21 (mkF m 112 #[.val (.int p0), .val (.int p1), .val (.int p2), .val (.int p3), .val (.int p4), .val (.int p5), .val (.int cn), .val (.ref b15), .val (.ref b17), .val (.double (13812972402709538800 : UInt64)), .second, .unset, .unset, .unset, .unset] [(.int (1 : Int32))])
      obtain ⟨fs, hr, hrun, hended, hend⟩ := X21.leaveW hS20 (by rw [e21]; exact hk20) (v := some (.int (1 : Int32))) (fun h => by rw [Bd.returns] at h; cases h)
      refine ⟨_, _, retN X21 hx (t := .boolean) Bd.returns (by simp) (hb hby at_112) hr, hrun, hended, hfin _ _ ⟨_, _, rfl, ?_, hend.1, hend.2.1, hend.2.2.1, hend.2.2.2.mono (by decide) (by decide)⟩⟩
      show Q0 Z p0 p1 p2 p3 p4 p5 cc ci ta tc an h0 n0 (some (.int (1 : Int32))) T21.heap _
      rw [e21]
      exact ⟨rfl, N21⟩
set_option maxRecDepth 65536 in
set_option maxHeartbeats 40000000 in
theorem comes_1 {Post : Tables → Env → Array Value → State → Outcome → State → Prop} (hpost : ∀ tb e args s v u, (limb_1_1.after args s (.returned v) u = true ∧ limb_1_2.after args s (.returned v) u = true ∧ True) → ReturnedEndW s (.returned v) u (Jvm.fieldLocs frame_1_writes args s ++ Jvm.arrayLocs frame_1_arrays args s ++ Jvm.staticLocs frame_1_statics s) 32 4224 → Post tb e args s (.returned v) u) :
    ArmFor flags0 classFile x code maxLocals ret World_1 tables_1 room_1 Calls_1 rest_1 Pre_1 Post := by
  intro l hfl _ _ p e ha hc hk s m args below hf hA hF happ hP
  obtain ⟨hcalls, hrest, hpre⟩ := hP
  obtain ⟨-, -, -, hnamed, -, -, -, hat⟩ := (Spec.applies_iff hf).mp happ
  obtain ⟨hg, hn⟩ := and_e (Cond.before_iff.mp (show (Jvm.Cond.and given_1 narrow_1).before args s = true from hpre))
  obtain ⟨hcnt, hg0⟩ := and_e hg
  obtain ⟨ga0, hg1⟩ := and_e hg0
  obtain ⟨ga1, hg2⟩ := and_e hg1
  obtain ⟨ga2, hg3⟩ := and_e hg2
  obtain ⟨ga3, hg4⟩ := and_e hg3
  obtain ⟨ga4, hg5⟩ := and_e hg4
  have ga5 := hg5
  obtain ⟨w0, w1, w2, w3, w4, w5, rfl⟩ : ∃ w0 w1 w2 w3 w4 w5 : Value, args = #[w0, w1, w2, w3, w4, w5] := by
    have hs : args.size = 6 := by simpa [Cond.value, given_1] using hcnt
    obtain ⟨L⟩ := args
    match L, hs with
    | [w0, w1, w2, w3, w4, w5], _ => exact ⟨w0, w1, w2, w3, w4, w5, rfl⟩
  have hw := fun d (hd : d ∈ tables_1) => atoms_spec (ws := Jvm.Cond.code x code maxLocals ret :: tables_1) hat d (List.mem_cons_of_mem _ hd)
  have hfit : Fit s := fun {y c} hc i hi => by
    obtain ⟨ha, rfl⟩ := Array.getElem?_eq_some_iff.mp hc
    have q := List.all_eq_true.mp ((Array.all_eq_true_iff_forall_mem.mp hF) _ (Array.getElem_mem ha)) i (List.mem_range.mpr hi)
    simpa [Array.getElem?_eq_getElem hi] using q
  obtain ⟨hsets, hown0⟩ := atoms_of _ (rest_1_c_eq ▸ (show rest_1_c.before _ s = true from hrest))
  have hr0 := Cond.before_iff.mp hown0
  obtain ⟨i0, ei0⟩ := is_v ga0
  obtain rfl : w0 = (.int i0) := Option.some.inj ei0
  obtain ⟨i1, ei1⟩ := is_v ga1
  obtain rfl : w1 = (.int i1) := Option.some.inj ei1
  obtain ⟨i2, ei2⟩ := is_v ga2
  obtain rfl : w2 = (.int i2) := Option.some.inj ei2
  obtain ⟨i3, ei3⟩ := is_v ga3
  obtain rfl : w3 = (.int i3) := Option.some.inj ei3
  obtain ⟨i4, ei4⟩ := is_v ga4
  obtain rfl : w4 = (.int i4) := Option.some.inj ei4
  obtain ⟨i5, ei5⟩ := is_v ga5
  obtain rfl : w5 = (.int i5) := Option.some.inj ei5
  obtain ⟨cc, ecc⟩ := is_v (Cond.before_iff.mp (hsets _ (List.mem_of_getElem? (i := 1) rfl)))
  have S_cs := Sta.start ecc (Or.inl (hsets _ (List.mem_of_getElem? (i := 0) rfl)))
  have hcw : Jvm.Lit.compactW.before #[(.int i0), (.int i1), (.int i2), (.int i3), (.int i4), (.int i5)] s = true := (hsets _ (List.mem_of_getElem? (i := 2) rfl))
  have hcc : ¬ (cc = (0 : Int32)) := own_nz ecc (not_v (Cond.before_iff.mp hcw))
  obtain ⟨ci, -, S_ci, E_ci⟩ := own_static2 (Cond.before_iff.mp (hsets _ (List.mem_of_getElem? (i := 11) rfl))) (Or.inl (hsets _ (List.mem_of_getElem? (i := 10) rfl)))
  have hta := Cond.before_iff.mp (hsets _ (List.mem_of_getElem? (i := 14) rfl))
  obtain ⟨ta, eta⟩ := arr_v hta
  have S_ta := Sta.start eta (Or.inl (hsets _ (List.mem_of_getElem? (i := 13) rfl)))
  obtain ⟨tc, A_ta⟩ := Arr.start eta hta
  obtain ⟨hti65, htv65⟩ := elem_in (own_eqi (Cond.before_iff.mp (hsets _ (List.mem_of_getElem? (i := 82) rfl)))) eta rfl A_ta.1
  obtain ⟨hti66, htv66⟩ := elem_in (own_eqi (Cond.before_iff.mp (hsets _ (List.mem_of_getElem? (i := 83) rfl)))) eta rfl A_ta.1
  obtain ⟨hti67, htv67⟩ := elem_in (own_eqi (Cond.before_iff.mp (hsets _ (List.mem_of_getElem? (i := 84) rfl)))) eta rfl A_ta.1
  obtain ⟨hti68, htv68⟩ := elem_in (own_eqi (Cond.before_iff.mp (hsets _ (List.mem_of_getElem? (i := 85) rfl)))) eta rfl A_ta.1
  obtain ⟨hti69, htv69⟩ := elem_in (own_eqi (Cond.before_iff.mp (hsets _ (List.mem_of_getElem? (i := 86) rfl)))) eta rfl A_ta.1
  obtain ⟨hti70, htv70⟩ := elem_in (own_eqi (Cond.before_iff.mp (hsets _ (List.mem_of_getElem? (i := 87) rfl)))) eta rfl A_ta.1
  obtain ⟨hti71, htv71⟩ := elem_in (own_eqi (Cond.before_iff.mp (hsets _ (List.mem_of_getElem? (i := 88) rfl)))) eta rfl A_ta.1
  obtain ⟨hti72, htv72⟩ := elem_in (own_eqi (Cond.before_iff.mp (hsets _ (List.mem_of_getElem? (i := 89) rfl)))) eta rfl A_ta.1
  obtain ⟨hti73, htv73⟩ := elem_in (own_eqi (Cond.before_iff.mp (hsets _ (List.mem_of_getElem? (i := 90) rfl)))) eta rfl A_ta.1
  obtain ⟨hti74, htv74⟩ := elem_in (own_eqi (Cond.before_iff.mp (hsets _ (List.mem_of_getElem? (i := 91) rfl)))) eta rfl A_ta.1
  obtain ⟨hti75, htv75⟩ := elem_in (own_eqi (Cond.before_iff.mp (hsets _ (List.mem_of_getElem? (i := 92) rfl)))) eta rfl A_ta.1
  obtain ⟨hti76, htv76⟩ := elem_in (own_eqi (Cond.before_iff.mp (hsets _ (List.mem_of_getElem? (i := 93) rfl)))) eta rfl A_ta.1
  obtain ⟨hti77, htv77⟩ := elem_in (own_eqi (Cond.before_iff.mp (hsets _ (List.mem_of_getElem? (i := 94) rfl)))) eta rfl A_ta.1
  obtain ⟨hti78, htv78⟩ := elem_in (own_eqi (Cond.before_iff.mp (hsets _ (List.mem_of_getElem? (i := 95) rfl)))) eta rfl A_ta.1
  obtain ⟨hti79, htv79⟩ := elem_in (own_eqi (Cond.before_iff.mp (hsets _ (List.mem_of_getElem? (i := 96) rfl)))) eta rfl A_ta.1
  obtain ⟨hti80, htv80⟩ := elem_in (own_eqi (Cond.before_iff.mp (hsets _ (List.mem_of_getElem? (i := 97) rfl)))) eta rfl A_ta.1
  have HT : ∀ k : Fin 16, ¬ ((65 + Int32.ofNat k.val) < 0 ∨ tc.slots.size ≤ (65 + Int32.ofNat k.val).toNatClampNeg) ∧ tc.slots[(65 + Int32.ofNat k.val).toNatClampNeg]? = some (.int (8552417 : Int32)) := fun k => by
    obtain ⟨k, hk⟩ := k
    match k, hk with
    | 0, _ => exact ⟨hti65, htv65⟩
    | 1, _ => exact ⟨hti66, htv66⟩
    | 2, _ => exact ⟨hti67, htv67⟩
    | 3, _ => exact ⟨hti68, htv68⟩
    | 4, _ => exact ⟨hti69, htv69⟩
    | 5, _ => exact ⟨hti70, htv70⟩
    | 6, _ => exact ⟨hti71, htv71⟩
    | 7, _ => exact ⟨hti72, htv72⟩
    | 8, _ => exact ⟨hti73, htv73⟩
    | 9, _ => exact ⟨hti74, htv74⟩
    | 10, _ => exact ⟨hti75, htv75⟩
    | 11, _ => exact ⟨hti76, htv76⟩
    | 12, _ => exact ⟨hti77, htv77⟩
    | 13, _ => exact ⟨hti78, htv78⟩
    | 14, _ => exact ⟨hti79, htv79⟩
    | 15, _ => exact ⟨hti80, htv80⟩
    | n + 16, h => exact absurd h (by omega)
  obtain ⟨an, ev_NONE, S_NONE, E_NONE⟩ := own_static2 hn (Or.inr ⟨(hw _ (List.mem_of_getElem? (i := 76) rfl)), (hw _ (List.mem_of_getElem? (i := 77) rfl))⟩)
  obtain ⟨n, o, h1, h2, h3, _, L, rfl, ⟨rfl, N⟩, hq⟩ := rm0 l s _ hw tables_1 i0 i1 i2 i3 i4 i5 cc ci ta tc an s.heap s.heap.size (Nat.le_refl _) S_cs hcc S_ci E_ci S_ta A_ta HT S_NONE p e ha hc hk s m _ below hf ((Spec.applies_iff_loose hf).mp happ).1 ⟨rfl, rfl, rfl⟩ trivial
  refine ⟨n, _, h1, h2, h3, hpost _ _ _ _ _ _ ⟨Cond.after_iff.mpr rfl, Cond.after_iff.mpr (eq_i res_at (Term.int_eval (1)) rfl), trivial⟩ ⟨hq.1, hq.2.1, hq.2.2.1, (hq.2.2.2.sift fun y hy => Or.inr (N y hy)).mono (by decide) (by decide)⟩⟩
theorem main_1_1 : Claimed_1_1 := comes_1 fun _ _ _ _ _ _ h hF => ⟨h.1, hF⟩
theorem main_1_2 : Claimed_1_2 := comes_1 fun _ _ _ _ _ _ h hF => ⟨h.2.1, hF⟩
end Jvm.Pilot.@@N@@
namespace Jvm.Pilot.@@N@@
open Jvm Jvm.ClassFile Sem Op Lib Jvm.Free Jvm.Stand Jvm.Pilot.@@N@@.Jvm.D
/-! MADE BY PROGRAM (witnessworld.py) out of the Statement's table words and the real class files: 29 classes; the members and pool entries that the words name. The judged class is class 1, her method 1. -/
namespace start1
open Jvm.ClassFile
def u (s : String) : CpInfo := .utf8 (stringToUtf16 s)
/-- a pool by its gaps: so many unusable entries, then the entry; so many at the end -/
def gap : Nat → List CpInfo → List CpInfo
  | 0, r => r
  | n + 1, r => .unusable :: gap n r
def poolList (es : List (Nat × CpInfo)) (last : Nat) : List CpInfo := es.foldr (fun e r => gap e.1 (e.2 :: r)) (gap last [])
def pool (es : List (Nat × CpInfo)) (last : Nat) : Array CpInfo := ⟨poolList es last⟩
def fileOf (pool : Array CpInfo) (this : Nat) (attrs : Array Attribute := #[]) (ms : Array MethodInfo := #[]) (fl : Nat := 33) (sup : Nat := 0) (ifs : Array Nat := #[]) (fds : Array FieldInfo := #[]) : ClassFile where
  minorVersion := 0
  majorVersion := 65
  constantPool := pool
  accessFlags := fl
  thisClass := this
  superClass := sup
  interfaces := ifs
  fields := fds
  methods := ms
  attributes := attrs
def plain (name : String) (sup : Option ClassId) : Class where
  name := name
  kind := .ordinary
  loader := none
  accessFlags := 33
  super := sup
  interfaces := #[]
  cf := none
  fields := #[]
  methods := #[]
  instanceTypes := #[]
  staticTypes := #[]
  resolved := #[]
  callSites := []
  init := .initialized
  statics := none
  mirror := none

def pool0 : Array CpInfo := pool [(5, u "<init>"), (0, u "()V"), (1, .class_ 10), (1, u "java/lang/Object")] 113

def k0c0 : Code := { maxStack := 0, maxLocals := 1, code := object_method_1_code, exceptionTable := #[], attributes := #[] }
def k0m0 : Method := { name := "<init>", desc := "()V", sig := { parameters := [], returnType := none }, accessFlags := 1, code := some k0c0 }
/-- java/lang/Object -/
def k0 : Class := { plain "java/lang/Object" none with
  accessFlags := 33
  interfaces := #[]
  cf := some (fileOf pool0 8 #[] #[{ accessFlags := 1, nameIndex := 5, descriptorIndex := 6, attributes := #[] }] 33 0 #[] #[])
  fields := #[]
  methods := #[k0m0]
  instanceTypes := #[]
  staticTypes := #[]
  resolved := Array.replicate 124 none
  statics := none }

def pool1 : Array CpInfo := pool [(2, .class_ 4), (1, u "java/lang/Object"), (0, u "<init>"), (0, u "()V"), (0, .integer 2147483647), (0, .methodref 9 10), (0, .class_ 11), (0, .nameAndType 12 13), (0, u "java/lang/Math"), (0, u "max"), (0, u "(II)I"), (0, .class_ 15), (0, u "com/example/brinequil/brinequil/model/Fraction"), (0, .class_ 17), (0, u "java/lang/String"), (0, .methodref 16 19), (0, .nameAndType 5 20), (0, u "([C)V"), (0, .integer 65535), (0, .methodref 14 23), (0, .nameAndType 5 24), (0, u "(Ljava/lang/String;DDDI)V"), (0, .methodref 14 26), (0, .nameAndType 27 28), (0, u "waterInteraction"), (0, u "()D"), (0, .double 13812972402709538800), (1, .double 4586242481972595550), (1, .double 4666723172467343360), (1, .double 4427486594234968593), (1, .double 13650858631089744401), (1, .class_ 40), (0, u "com/example/brinequil/brinequil/model/FractionWaterInteractionPinLaw"), (2, u "law"), (0, u "(IIIIII)Z")] 5

def k1m0 : Method := { name := "<init>", desc := "()V", sig := { parameters := [], returnType := none }, accessFlags := 1, code := none }
def k1c1 : Code := { maxStack := 10, maxLocals := 15, code := code, exceptionTable := #[], attributes := #[] }
def k1m1 : Method := { name := "law", desc := "(IIIIII)Z", sig := { parameters := [.int, .int, .int, .int, .int, .int], returnType := some .boolean }, accessFlags := 9, code := some k1c1 }
/-- com/example/brinequil/brinequil/model/FractionWaterInteractionPinLaw -/
def k1 : Class := { plain "com/example/brinequil/brinequil/model/FractionWaterInteractionPinLaw" (some 0) with
  accessFlags := 49
  interfaces := #[]
  cf := some (fileOf pool1 39 #[] #[{ accessFlags := 1, nameIndex := 5, descriptorIndex := 6, attributes := #[] }, { accessFlags := 9, nameIndex := 43, descriptorIndex := 44, attributes := #[] }] 49 2 #[] #[])
  fields := #[]
  methods := #[k1m0, k1m1]
  instanceTypes := #[]
  staticTypes := #[]
  resolved := Array.replicate 50 none
  statics := none }

def pool2 : Array CpInfo := pool [(1, .class_ 2), (0, u "java/lang/Math"), (1, .class_ 6), (1, u "java/lang/Object"), (0, u "<init>"), (0, u "()V"), (5, u "(D)D"), (83, .class_ 100), (1, u "java/lang/Math$RandomNumberGeneratorHolder"), (23, u "abs"), (47, u "negativeZeroFloatBits"), (0, u "J"), (2, u "negativeZeroDoubleBits"), (21, u "max"), (46, u "$assertionsDisabled"), (0, u "Z"), (88, u "(II)I"), (2, u "twoToTheDoubleScaleDown"), (0, u "D"), (4, u "twoToTheDoubleScaleUp"), (9, u "E"), (3, u "PI"), (2, u "TAU"), (2, u "DEGREES_TO_RADIANS"), (0, u "RADIANS_TO_DEGREES")] 94

def k2m0 : Method := { name := "<init>", desc := "()V", sig := { parameters := [], returnType := none }, accessFlags := 2, code := none }
def k2c1 : Code := { maxStack := 4, maxLocals := 2, code := jdk_29_method_64_code, exceptionTable := #[], attributes := #[] }
def k2m1 : Method := { name := "abs", desc := "(D)D", sig := { parameters := [.double], returnType := some .double }, accessFlags := 9, code := some k2c1 }
def k2c2 : Code := { maxStack := 2, maxLocals := 2, code := jdk_29_method_65_code, exceptionTable := #[], attributes := #[] }
def k2m2 : Method := { name := "max", desc := "(II)I", sig := { parameters := [.int, .int], returnType := some .int }, accessFlags := 9, code := some k2c2 }
/-- java/lang/Math -/
def k2 : Class := { plain "java/lang/Math" (some 0) with
  accessFlags := 49
  interfaces := #[]
  cf := some (fileOf pool2 1 #[.nestMembers #[98]] #[{ accessFlags := 2, nameIndex := 7, descriptorIndex := 8, attributes := #[] }, { accessFlags := 9, nameIndex := 124, descriptorIndex := 14, attributes := #[] }, { accessFlags := 9, nameIndex := 198, descriptorIndex := 335, attributes := #[] }] 49 4 #[] #[{ accessFlags := 25, nameIndex := 354, descriptorIndex := 339, attributes := #[] }, { accessFlags := 25, nameIndex := 358, descriptorIndex := 339, attributes := #[] }, { accessFlags := 25, nameIndex := 361, descriptorIndex := 339, attributes := #[] }, { accessFlags := 26, nameIndex := 364, descriptorIndex := 339, attributes := #[] }, { accessFlags := 26, nameIndex := 365, descriptorIndex := 339, attributes := #[] }, { accessFlags := 26, nameIndex := 172, descriptorIndex := 173, attributes := #[] }, { accessFlags := 26, nameIndex := 176, descriptorIndex := 173, attributes := #[] }, { accessFlags := 8, nameIndex := 344, descriptorIndex := 339, attributes := #[] }, { accessFlags := 8, nameIndex := 338, descriptorIndex := 339, attributes := #[] }, { accessFlags := 4120, nameIndex := 245, descriptorIndex := 246, attributes := #[] }])
  fields := #[{ name := "E", type := .double, accessFlags := 25, slot := 0, constantValue := 0 }, { name := "PI", type := .double, accessFlags := 25, slot := 1, constantValue := 0 }, { name := "TAU", type := .double, accessFlags := 25, slot := 2, constantValue := 0 }, { name := "DEGREES_TO_RADIANS", type := .double, accessFlags := 26, slot := 3, constantValue := 0 }, { name := "RADIANS_TO_DEGREES", type := .double, accessFlags := 26, slot := 4, constantValue := 0 }, { name := "negativeZeroFloatBits", type := .long, accessFlags := 26, slot := 5, constantValue := 0 }, { name := "negativeZeroDoubleBits", type := .long, accessFlags := 26, slot := 6, constantValue := 0 }, { name := "twoToTheDoubleScaleUp", type := .double, accessFlags := 8, slot := 7, constantValue := 0 }, { name := "twoToTheDoubleScaleDown", type := .double, accessFlags := 8, slot := 8, constantValue := 0 }, { name := "$assertionsDisabled", type := .boolean, accessFlags := 4120, slot := 9, constantValue := 0 }]
  methods := #[k2m0, k2m1, k2m2]
  instanceTypes := #[]
  staticTypes := #[.double, .double, .double, .double, .double, .long, .long, .double, .double, .boolean]
  resolved := Array.replicate 460 none
  statics := none }

def pool3 : Array CpInfo := pool [(1, .methodref 2 3), (0, .class_ 4), (0, .nameAndType 5 6), (0, u "java/lang/Object"), (0, u "<init>"), (0, u "()V"), (0, .class_ 8), (0, u "java/lang/Record")] 13

def k3c0 : Code := { maxStack := 1, maxLocals := 1, code := jdk_30_method_1_code, exceptionTable := #[], attributes := #[] }
def k3m0 : Method := { name := "<init>", desc := "()V", sig := { parameters := [], returnType := none }, accessFlags := 4, code := some k3c0 }
/-- java/lang/Record -/
def k3 : Class := { plain "java/lang/Record" (some 0) with
  accessFlags := 1057
  interfaces := #[]
  cf := some (fileOf pool3 7 #[] #[{ accessFlags := 4, nameIndex := 5, descriptorIndex := 6, attributes := #[] }] 1057 2 #[] #[])
  fields := #[]
  methods := #[k3m0]
  instanceTypes := #[]
  staticTypes := #[]
  resolved := Array.replicate 22 none
  statics := none }

def pool4 : Array CpInfo := pool [(1, .methodref 2 3), (0, .class_ 4), (0, .nameAndType 5 6), (0, u "java/lang/Record"), (0, u "<init>"), (0, u "()V"), (0, .methodref 8 9), (0, .class_ 10), (0, .nameAndType 11 12), (0, u "com/example/brinequil/brinequil/model/Component"), (0, u "nonAssociating"), (0, u "(Ljava/lang/String;DDD)Lcom/example/brinequil/brinequil/model/Component;"), (9, .fieldref 23 24), (0, .class_ 25), (0, .nameAndType 26 27), (0, u "com/example/brinequil/brinequil/model/Fraction"), (0, u "name"), (0, u "Ljava/lang/String;"), (0, .fieldref 23 29), (0, .nameAndType 30 31), (0, u "criticalTemperature"), (0, u "D"), (0, .fieldref 23 33), (0, .nameAndType 34 31), (0, u "criticalPressure"), (0, .fieldref 23 36), (0, .nameAndType 37 31), (0, u "acentricFactor"), (0, .fieldref 23 39), (0, .nameAndType 40 41), (0, u "carbonNumber"), (0, u "I"), (0, .double 13812972402709538800), (1, .double 4586242481972595550), (1, .double 13806523248043144249), (1, .double 4596067534919667024), (13, u "HEAVY_WATER_INTERACTION"), (1, u "HEAVY_CARBON_NUMBER"), (1, u "C6_WATER_INTERACTION"), (0, u "(Ljava/lang/String;DDDI)V"), (8, u "waterInteraction"), (0, u "()D")] 35

def k4c0 : Code := { maxStack := 7, maxLocals := 9, code := prog_30_method_1_code, exceptionTable := #[], attributes := #[] }
def k4m0 : Method := { name := "<init>", desc := "(Ljava/lang/String;DDDI)V", sig := { parameters := [(.object "java/lang/String"), .double, .double, .double, .int], returnType := none }, accessFlags := 1, code := some k4c0 }
def k4c1 : Code := { maxStack := 4, maxLocals := 3, code := prog_30_method_3_code, exceptionTable := #[], attributes := #[] }
def k4m1 : Method := { name := "waterInteraction", desc := "()D", sig := { parameters := [], returnType := some .double }, accessFlags := 1, code := some k4c1 }
/-- com/example/brinequil/brinequil/model/Fraction -/
def k4 : Class := { plain "com/example/brinequil/brinequil/model/Fraction" (some 3) with
  accessFlags := 49
  interfaces := #[]
  cf := some (fileOf pool4 23 #[] #[{ accessFlags := 1, nameIndex := 5, descriptorIndex := 67, attributes := #[] }, { accessFlags := 1, nameIndex := 76, descriptorIndex := 77, attributes := #[] }] 49 2 #[] #[{ accessFlags := 18, nameIndex := 26, descriptorIndex := 27, attributes := #[] }, { accessFlags := 18, nameIndex := 30, descriptorIndex := 31, attributes := #[] }, { accessFlags := 18, nameIndex := 34, descriptorIndex := 31, attributes := #[] }, { accessFlags := 18, nameIndex := 37, descriptorIndex := 31, attributes := #[] }, { accessFlags := 18, nameIndex := 40, descriptorIndex := 41, attributes := #[] }, { accessFlags := 26, nameIndex := 62, descriptorIndex := 31, attributes := #[] }, { accessFlags := 26, nameIndex := 64, descriptorIndex := 41, attributes := #[] }, { accessFlags := 26, nameIndex := 66, descriptorIndex := 31, attributes := #[] }])
  fields := #[{ name := "name", type := (.object "java/lang/String"), accessFlags := 18, slot := 0, constantValue := 0 }, { name := "criticalTemperature", type := .double, accessFlags := 18, slot := 1, constantValue := 0 }, { name := "criticalPressure", type := .double, accessFlags := 18, slot := 2, constantValue := 0 }, { name := "acentricFactor", type := .double, accessFlags := 18, slot := 3, constantValue := 0 }, { name := "carbonNumber", type := .int, accessFlags := 18, slot := 4, constantValue := 0 }, { name := "HEAVY_WATER_INTERACTION", type := .double, accessFlags := 26, slot := 0, constantValue := 0 }, { name := "HEAVY_CARBON_NUMBER", type := .int, accessFlags := 26, slot := 1, constantValue := 0 }, { name := "C6_WATER_INTERACTION", type := .double, accessFlags := 26, slot := 2, constantValue := 0 }]
  methods := #[k4m0, k4m1]
  instanceTypes := #[(.object "java/lang/String"), .double, .double, .double, .int]
  staticTypes := #[.double, .int, .double]
  resolved := Array.replicate 113 none
  statics := none }

def pool5 : Array CpInfo := pool [(1, .class_ 2), (0, u "java/io/Serializable"), (0, .class_ 4), (0, u "java/lang/Object")] 2

/-- java/io/Serializable -/
def k5 : Class := { plain "java/io/Serializable" (some 0) with
  accessFlags := 1537
  interfaces := #[]
  cf := some (fileOf pool5 1 #[] #[] 1537 3 #[] #[])
  fields := #[]
  methods := #[]
  instanceTypes := #[]
  staticTypes := #[]
  resolved := Array.replicate 7 none
  statics := none }

def pool6 : Array CpInfo := pool [(1, .class_ 2), (0, u "java/lang/Comparable"), (0, .class_ 4), (0, u "java/lang/Object")] 7

/-- java/lang/Comparable -/
def k6 : Class := { plain "java/lang/Comparable" (some 0) with
  accessFlags := 1537
  interfaces := #[]
  cf := some (fileOf pool6 1 #[] #[] 1537 3 #[] #[])
  fields := #[]
  methods := #[]
  instanceTypes := #[]
  staticTypes := #[]
  resolved := Array.replicate 12 none
  statics := none }

def pool7 : Array CpInfo := pool [(2, .class_ 4), (1, u "java/lang/CharSequence"), (42, .class_ 48), (0, u "java/lang/CharSequence$1CodePointIterator"), (10, .class_ 60), (0, u "java/lang/CharSequence$1CharIterator"), (5, .class_ 67), (0, u "java/lang/Object")] 63

/-- java/lang/CharSequence -/
def k7 : Class := { plain "java/lang/CharSequence" (some 0) with
  accessFlags := 1537
  interfaces := #[]
  cf := some (fileOf pool7 2 #[.nestMembers #[47, 59]] #[] 1537 66 #[] #[])
  fields := #[]
  methods := #[]
  instanceTypes := #[]
  staticTypes := #[]
  resolved := Array.replicate 131 none
  statics := none }

def pool8 : Array CpInfo := pool [(1, .class_ 2), (0, u "java/lang/constant/Constable"), (0, .class_ 4), (0, u "java/lang/Object")] 6

/-- java/lang/constant/Constable -/
def k8 : Class := { plain "java/lang/constant/Constable" (some 0) with
  accessFlags := 1537
  interfaces := #[]
  cf := some (fileOf pool8 1 #[] #[] 1537 3 #[] #[])
  fields := #[]
  methods := #[]
  instanceTypes := #[]
  staticTypes := #[]
  resolved := Array.replicate 11 none
  statics := none }

def pool9 : Array CpInfo := pool [(1, .class_ 2), (0, u "java/lang/constant/ConstantDesc"), (0, .class_ 4), (0, u "java/lang/Object")] 32

/-- java/lang/constant/ConstantDesc -/
def k9 : Class := { plain "java/lang/constant/ConstantDesc" (some 0) with
  accessFlags := 1537
  interfaces := #[]
  cf := some (fileOf pool9 1 #[] #[] 1537 3 #[] #[])
  fields := #[]
  methods := #[]
  instanceTypes := #[]
  staticTypes := #[]
  resolved := Array.replicate 37 none
  statics := none }

def pool10 : Array CpInfo := pool [(1, .methodref 2 3), (0, .class_ 4), (0, .nameAndType 5 6), (0, u "java/lang/Object"), (0, u "<init>"), (0, u "()V"), (2, .fieldref 10 11), (0, .class_ 12), (0, .nameAndType 13 14), (0, u "java/lang/String"), (0, u "value"), (0, u "[B"), (0, .fieldref 10 16), (0, .nameAndType 17 18), (0, u "coder"), (0, u "B"), (2, u "hash"), (0, u "I"), (2, u "hashIsZero"), (0, u "Z"), (0, .methodref 10 28), (0, .nameAndType 5 29), (0, u "([CIILjava/lang/Void;)V"), (8, .fieldref 10 39), (0, .nameAndType 40 26), (0, u "COMPACT_STRINGS"), (1, .class_ 44), (1, u "java/lang/StringUTF16"), (0, u "compress"), (1, .methodref 42 48), (0, .nameAndType 49 50), (0, u "coderFromArrayLen"), (0, u "([BI)B"), (56, .class_ 109), (1, u "java/lang/StringLatin1"), (32, u "()Z"), (34, .methodref 42 178), (0, .nameAndType 45 179), (0, u "([CII)[B"), (154, u "()I"), (0, .methodref 10 336), (0, .nameAndType 17 337), (0, u "()B"), (154, .methodref 10 493), (0, .nameAndType 494 142), (0, u "isLatin1"), (10, .methodref 10 506), (0, .nameAndType 507 334), (0, u "length"), (67, .class_ 576), (0, u "java/lang/CharSequence"), (22, u "CASE_INSENSITIVE_ORDER"), (0, u "Ljava/util/Comparator;"), (30, u "([B)I"), (244, .methodref 10 877), (0, .nameAndType 878 334), (0, u "indexOfNonWhitespace"), (45, .methodref 107 925), (0, .nameAndType 878 631), (26, u "isBlank"), (57, u "([C)V"), (90, u "serialPersistentFields"), (0, u "[Ljava/io/ObjectStreamField;"), (0, .class_ 1104), (0, u "java/lang/String$CaseInsensitiveComparator"), (1, .class_ 1107), (0, u "java/io/Serializable"), (0, .class_ 1109), (0, u "java/lang/Comparable"), (0, .class_ 1111), (0, u "java/lang/constant/Constable"), (0, .class_ 1113), (0, u "java/lang/constant/ConstantDesc"), (2, u "serialVersionUID"), (0, u "J"), (3, u "REPL"), (0, u "C"), (2, u "LATIN1"), (1, u "UTF16")] 323

def k10m0 : Method := { name := "<init>", desc := "()V", sig := { parameters := [], returnType := none }, accessFlags := 1, code := none }
def k10c1 : Code := { maxStack := 5, maxLocals := 2, code := jdk_42_method_3_code, exceptionTable := #[], attributes := #[] }
def k10m1 : Method := { name := "<init>", desc := "([C)V", sig := { parameters := [(.array .char)], returnType := none }, accessFlags := 1, code := some k10c1 }
def k10c2 : Code := { maxStack := 2, maxLocals := 1, code := jdk_42_method_54_code, exceptionTable := #[], attributes := #[] }
def k10m2 : Method := { name := "length", desc := "()I", sig := { parameters := [], returnType := some .int }, accessFlags := 1, code := some k10c2 }
def k10c3 : Code := { maxStack := 2, maxLocals := 1, code := jdk_42_method_117_code, exceptionTable := #[], attributes := #[] }
def k10m3 : Method := { name := "isBlank", desc := "()Z", sig := { parameters := [], returnType := some .boolean }, accessFlags := 1, code := some k10c3 }
def k10c4 : Code := { maxStack := 1, maxLocals := 1, code := jdk_42_method_120_code, exceptionTable := #[], attributes := #[] }
def k10m4 : Method := { name := "indexOfNonWhitespace", desc := "()I", sig := { parameters := [], returnType := some .int }, accessFlags := 2, code := some k10c4 }
def k10c5 : Code := { maxStack := 4, maxLocals := 6, code := jdk_42_method_149_code, exceptionTable := #[], attributes := #[] }
def k10m5 : Method := { name := "<init>", desc := "([CIILjava/lang/Void;)V", sig := { parameters := [(.array .char), .int, .int, (.object "java/lang/Void")], returnType := none }, accessFlags := 2, code := some k10c5 }
def k10c6 : Code := { maxStack := 1, maxLocals := 1, code := jdk_42_method_152_code, exceptionTable := #[], attributes := #[] }
def k10m6 : Method := { name := "coder", desc := "()B", sig := { parameters := [], returnType := some .byte }, accessFlags := 0, code := some k10c6 }
def k10c7 : Code := { maxStack := 1, maxLocals := 1, code := jdk_42_method_154_code, exceptionTable := #[], attributes := #[] }
def k10m7 : Method := { name := "isLatin1", desc := "()Z", sig := { parameters := [], returnType := some .boolean }, accessFlags := 0, code := some k10c7 }
/-- java/lang/String -/
def k10 : Class := { plain "java/lang/String" (some 0) with
  accessFlags := 49
  interfaces := #[5, 6, 7, 8, 9]
  cf := some (fileOf pool10 10 #[.nestMembers #[1103]] #[{ accessFlags := 1, nameIndex := 5, descriptorIndex := 6, attributes := #[] }, { accessFlags := 1, nameIndex := 5, descriptorIndex := 1010, attributes := #[] }, { accessFlags := 1, nameIndex := 507, descriptorIndex := 334, attributes := #[] }, { accessFlags := 1, nameIndex := 952, descriptorIndex := 142, attributes := #[] }, { accessFlags := 2, nameIndex := 878, descriptorIndex := 334, attributes := #[] }, { accessFlags := 2, nameIndex := 5, descriptorIndex := 29, attributes := #[] }, { accessFlags := 0, nameIndex := 17, descriptorIndex := 337, attributes := #[] }, { accessFlags := 0, nameIndex := 494, descriptorIndex := 142, attributes := #[] }] 49 2 #[1106, 1108, 575, 1110, 1112] #[{ accessFlags := 18, nameIndex := 13, descriptorIndex := 14, attributes := #[] }, { accessFlags := 18, nameIndex := 17, descriptorIndex := 18, attributes := #[] }, { accessFlags := 2, nameIndex := 21, descriptorIndex := 22, attributes := #[] }, { accessFlags := 2, nameIndex := 25, descriptorIndex := 26, attributes := #[] }, { accessFlags := 26, nameIndex := 1116, descriptorIndex := 1117, attributes := #[] }, { accessFlags := 24, nameIndex := 40, descriptorIndex := 26, attributes := #[] }, { accessFlags := 26, nameIndex := 1101, descriptorIndex := 1102, attributes := #[] }, { accessFlags := 26, nameIndex := 1121, descriptorIndex := 1122, attributes := #[] }, { accessFlags := 25, nameIndex := 599, descriptorIndex := 600, attributes := #[] }, { accessFlags := 24, nameIndex := 1125, descriptorIndex := 18, attributes := #[] }, { accessFlags := 24, nameIndex := 1127, descriptorIndex := 18, attributes := #[] }])
  fields := #[{ name := "value", type := (.array .byte), accessFlags := 18, slot := 0, constantValue := 0 }, { name := "coder", type := .byte, accessFlags := 18, slot := 1, constantValue := 0 }, { name := "hash", type := .int, accessFlags := 2, slot := 2, constantValue := 0 }, { name := "hashIsZero", type := .boolean, accessFlags := 2, slot := 3, constantValue := 0 }, { name := "serialVersionUID", type := .long, accessFlags := 26, slot := 0, constantValue := 0 }, { name := "COMPACT_STRINGS", type := .boolean, accessFlags := 24, slot := 1, constantValue := 0 }, { name := "serialPersistentFields", type := (.array (.object "java/io/ObjectStreamField")), accessFlags := 26, slot := 2, constantValue := 0 }, { name := "REPL", type := .char, accessFlags := 26, slot := 3, constantValue := 0 }, { name := "CASE_INSENSITIVE_ORDER", type := (.object "java/util/Comparator"), accessFlags := 25, slot := 4, constantValue := 0 }, { name := "LATIN1", type := .byte, accessFlags := 24, slot := 5, constantValue := 0 }, { name := "UTF16", type := .byte, accessFlags := 24, slot := 6, constantValue := 0 }]
  methods := #[k10m0, k10m1, k10m2, k10m3, k10m4, k10m5, k10m6, k10m7]
  instanceTypes := #[(.array .byte), .byte, .int, .boolean]
  staticTypes := #[.long, .boolean, (.array (.object "java/io/ObjectStreamField")), .char, (.object "java/util/Comparator"), .byte, .byte]
  resolved := Array.replicate 1451 none
  statics := some 0 }

def pool11 : Array CpInfo := pool [(6, .class_ 8), (1, u "java/lang/Object"), (0, u "<init>"), (0, u "()V"), (1, .class_ 14), (1, u "java/lang/StringUTF16"), (31, u "$assertionsDisabled"), (0, u "Z"), (13, u "HI_BYTE_SHIFT"), (0, u "I"), (2, u "LO_BYTE_SHIFT"), (49, .methodref 12 116), (0, .nameAndType 117 118), (0, u "compress"), (0, u "([CI[BII)I"), (3, u "([CII)[B"), (138, u "coderFromArrayLen"), (0, u "([BI)B"), (106, .class_ 371), (1, u "java/lang/StringUTF16$LinesSpliterator"), (58, u "MAX_LENGTH"), (196, .class_ 628), (0, u "java/lang/StringUTF16$CodePointsSpliterator"), (0, .class_ 630), (0, u "java/lang/StringUTF16$CharsSpliterator")] 4

def k11m0 : Method := { name := "<init>", desc := "()V", sig := { parameters := [], returnType := none }, accessFlags := 0, code := none }
def k11c1 : Code := { maxStack := 2, maxLocals := 2, code := jdk_52_method_15_code, exceptionTable := #[], attributes := #[] }
def k11m1 : Method := { name := "coderFromArrayLen", desc := "([BI)B", sig := { parameters := [(.array .byte), .int], returnType := some .byte }, accessFlags := 8, code := some k11c1 }
def k11c2 : Code := { maxStack := 5, maxLocals := 6, code := jdk_52_method_16_code, exceptionTable := #[], attributes := #[] }
def k11m2 : Method := { name := "compress", desc := "([CII)[B", sig := { parameters := [(.array .char), .int, .int], returnType := some (.array .byte) }, accessFlags := 9, code := some k11c2 }
def k11c3 : Code := { maxStack := 3, maxLocals := 7, code := jdk_52_method_21_code, exceptionTable := #[], attributes := #[] }
def k11m3 : Method := { name := "compress", desc := "([CI[BII)I", sig := { parameters := [(.array .char), .int, (.array .byte), .int, .int], returnType := some .int }, accessFlags := 9, code := some k11c3 }
/-- java/lang/StringUTF16 -/
def k11 : Class := { plain "java/lang/StringUTF16" (some 0) with
  accessFlags := 48
  interfaces := #[]
  cf := some (fileOf pool11 12 #[.nestMembers #[627, 629, 369]] #[{ accessFlags := 0, nameIndex := 9, descriptorIndex := 10, attributes := #[] }, { accessFlags := 8, nameIndex := 261, descriptorIndex := 262, attributes := #[] }, { accessFlags := 9, nameIndex := 117, descriptorIndex := 122, attributes := #[] }, { accessFlags := 9, nameIndex := 117, descriptorIndex := 118, attributes := #[] }] 48 6 #[] #[{ accessFlags := 26, nameIndex := 61, descriptorIndex := 62, attributes := #[] }, { accessFlags := 26, nameIndex := 65, descriptorIndex := 62, attributes := #[] }, { accessFlags := 24, nameIndex := 430, descriptorIndex := 62, attributes := #[] }, { accessFlags := 4120, nameIndex := 46, descriptorIndex := 47, attributes := #[] }])
  fields := #[{ name := "HI_BYTE_SHIFT", type := .int, accessFlags := 26, slot := 0, constantValue := 0 }, { name := "LO_BYTE_SHIFT", type := .int, accessFlags := 26, slot := 1, constantValue := 0 }, { name := "MAX_LENGTH", type := .int, accessFlags := 24, slot := 2, constantValue := 0 }, { name := "$assertionsDisabled", type := .boolean, accessFlags := 4120, slot := 3, constantValue := 0 }]
  methods := #[k11m0, k11m1, k11m2, k11m3]
  instanceTypes := #[]
  staticTypes := #[.int, .int, .int, .boolean]
  resolved := Array.replicate 635 none
  statics := none }

def pool12 : Array CpInfo := pool [(1, .methodref 2 3), (0, .class_ 4), (0, .nameAndType 5 6), (0, u "java/lang/Record"), (0, u "<init>"), (0, u "()V"), (0, .methodref 8 9), (0, .class_ 10), (0, .nameAndType 11 12), (0, u "java/lang/String"), (0, u "isBlank"), (0, u "()Z"), (7, .string 21), (0, u "Tc"), (0, .methodref 23 24), (0, .class_ 25), (0, .nameAndType 26 27), (0, u "com/example/brinequil/brinequil/model/Component"), (0, u "requirePositive"), (0, u "(Ljava/lang/String;Ljava/lang/String;D)V"), (0, .string 29), (0, u "a0"), (0, .string 31), (0, u "b"), (0, .methodref 33 34), (0, .class_ 35), (0, .nameAndType 36 37), (0, u "java/lang/Double"), (0, u "isFinite"), (0, u "(D)Z"), (7, .fieldref 46 47), (0, .class_ 48), (0, .nameAndType 49 50), (0, u "com/example/brinequil/brinequil/model/AssociationScheme"), (0, u "NONE"), (0, u "Lcom/example/brinequil/brinequil/model/AssociationScheme;"), (7, .fieldref 23 59), (0, .nameAndType 60 61), (0, u "name"), (0, u "Ljava/lang/String;"), (0, .fieldref 23 63), (0, .nameAndType 64 65), (0, u "criticalTemperature"), (0, u "D"), (0, .fieldref 23 67), (0, .nameAndType 29 65), (0, .fieldref 23 69), (0, .nameAndType 31 65), (0, .fieldref 23 71), (0, .nameAndType 72 65), (0, u "c1"), (0, .fieldref 23 74), (0, .nameAndType 75 65), (0, u "associationEnergy"), (0, .fieldref 23 77), (0, .nameAndType 78 65), (0, u "associationVolume"), (0, .fieldref 23 80), (0, .nameAndType 81 50), (0, u "scheme"), (0, .string 83), (0, u "Pc"), (3, .double 4590655622382989064), (1, .double 4601372414992739279), (1, .double 4590907490610611004), (1, .double 4602318531202457272), (1, .double 4609767484986128073), (1, .double 4595509088565873082), (1, .methodref 23 100), (0, .nameAndType 5 101), (0, u "(Ljava/lang/String;DDDDDDLcom/example/brinequil/brinequil/model/AssociationScheme;)V"), (15, u "OMEGA_A"), (1, u "OMEGA_B"), (4, u "nonAssociating"), (0, u "(Ljava/lang/String;DDD)Lcom/example/brinequil/brinequil/model/Component;")] 49

def k12c0 : Code := { maxStack := 7, maxLocals := 15, code := prog_24_method_1_code, exceptionTable := #[], attributes := #[] }
def k12m0 : Method := { name := "<init>", desc := "(Ljava/lang/String;DDDDDDLcom/example/brinequil/brinequil/model/AssociationScheme;)V", sig := { parameters := [(.object "java/lang/String"), .double, .double, .double, .double, .double, .double, (.object "com/example/brinequil/brinequil/model/AssociationScheme")], returnType := none }, accessFlags := 1, code := some k12c0 }
def k12c1 : Code := { maxStack := 16, maxLocals := 15, code := prog_24_method_2_code, exceptionTable := #[], attributes := #[] }
def k12m1 : Method := { name := "nonAssociating", desc := "(Ljava/lang/String;DDD)Lcom/example/brinequil/brinequil/model/Component;", sig := { parameters := [(.object "java/lang/String"), .double, .double, .double], returnType := some (.object "com/example/brinequil/brinequil/model/Component") }, accessFlags := 9, code := some k12c1 }
def k12c2 : Code := { maxStack := 6, maxLocals := 4, code := prog_24_method_4_code, exceptionTable := #[], attributes := #[] }
def k12m2 : Method := { name := "requirePositive", desc := "(Ljava/lang/String;Ljava/lang/String;D)V", sig := { parameters := [(.object "java/lang/String"), (.object "java/lang/String"), .double], returnType := none }, accessFlags := 8, code := some k12c2 }
/-- com/example/brinequil/brinequil/model/Component -/
def k12 : Class := { plain "com/example/brinequil/brinequil/model/Component" (some 3) with
  accessFlags := 49
  interfaces := #[]
  cf := some (fileOf pool12 23 #[] #[{ accessFlags := 1, nameIndex := 5, descriptorIndex := 101, attributes := #[] }, { accessFlags := 9, nameIndex := 124, descriptorIndex := 125, attributes := #[] }, { accessFlags := 8, nameIndex := 26, descriptorIndex := 27, attributes := #[] }] 49 2 #[] #[{ accessFlags := 18, nameIndex := 60, descriptorIndex := 61, attributes := #[] }, { accessFlags := 18, nameIndex := 64, descriptorIndex := 65, attributes := #[] }, { accessFlags := 18, nameIndex := 29, descriptorIndex := 65, attributes := #[] }, { accessFlags := 18, nameIndex := 31, descriptorIndex := 65, attributes := #[] }, { accessFlags := 18, nameIndex := 72, descriptorIndex := 65, attributes := #[] }, { accessFlags := 18, nameIndex := 75, descriptorIndex := 65, attributes := #[] }, { accessFlags := 18, nameIndex := 78, descriptorIndex := 65, attributes := #[] }, { accessFlags := 18, nameIndex := 81, descriptorIndex := 50, attributes := #[] }, { accessFlags := 26, nameIndex := 117, descriptorIndex := 65, attributes := #[] }, { accessFlags := 26, nameIndex := 119, descriptorIndex := 65, attributes := #[] }])
  fields := #[{ name := "name", type := (.object "java/lang/String"), accessFlags := 18, slot := 0, constantValue := 0 }, { name := "criticalTemperature", type := .double, accessFlags := 18, slot := 1, constantValue := 0 }, { name := "a0", type := .double, accessFlags := 18, slot := 2, constantValue := 0 }, { name := "b", type := .double, accessFlags := 18, slot := 3, constantValue := 0 }, { name := "c1", type := .double, accessFlags := 18, slot := 4, constantValue := 0 }, { name := "associationEnergy", type := .double, accessFlags := 18, slot := 5, constantValue := 0 }, { name := "associationVolume", type := .double, accessFlags := 18, slot := 6, constantValue := 0 }, { name := "scheme", type := (.object "com/example/brinequil/brinequil/model/AssociationScheme"), accessFlags := 18, slot := 7, constantValue := 0 }, { name := "OMEGA_A", type := .double, accessFlags := 26, slot := 0, constantValue := 0 }, { name := "OMEGA_B", type := .double, accessFlags := 26, slot := 1, constantValue := 0 }]
  methods := #[k12m0, k12m1, k12m2]
  instanceTypes := #[(.object "java/lang/String"), .double, .double, .double, .double, .double, .double, (.object "com/example/brinequil/brinequil/model/AssociationScheme")]
  staticTypes := #[.double, .double]
  resolved := Array.replicate 175 none
  statics := none }

def pool13 : Array CpInfo := pool [(2, .class_ 4), (1, u "java/lang/Object"), (0, u "<init>"), (0, u "()V"), (1, .class_ 10), (1, u "java/lang/Number"), (2, .class_ 14), (0, u "java/io/Serializable"), (0, u "serialVersionUID"), (0, u "J")] 20

def k13m0 : Method := { name := "<init>", desc := "()V", sig := { parameters := [], returnType := none }, accessFlags := 1, code := none }
/-- java/lang/Number -/
def k13 : Class := { plain "java/lang/Number" (some 0) with
  accessFlags := 1057
  interfaces := #[5]
  cf := some (fileOf pool13 8 #[] #[{ accessFlags := 1, nameIndex := 5, descriptorIndex := 6, attributes := #[] }] 1057 2 #[13] #[{ accessFlags := 26, nameIndex := 15, descriptorIndex := 16, attributes := #[] }])
  fields := #[{ name := "serialVersionUID", type := .long, accessFlags := 26, slot := 0, constantValue := 0 }]
  methods := #[k13m0]
  instanceTypes := #[]
  staticTypes := #[.long]
  resolved := Array.replicate 37 none
  statics := none }

def pool14 : Array CpInfo := pool [(1, .class_ 2), (0, u "java/lang/Double"), (10, u "isFinite"), (0, u "(D)Z"), (8, .class_ 25), (1, u "java/lang/Math"), (12, .methodref 23 39), (0, .nameAndType 40 41), (0, u "abs"), (0, u "(D)D"), (69, .double 9218868437227405311), (2, .class_ 116), (1, u "java/lang/Number"), (3, u "value"), (0, u "D"), (51, u "TYPE"), (0, u "Ljava/lang/Class;"), (0, .class_ 176), (0, u "java/lang/Comparable"), (0, .class_ 178), (0, u "java/lang/constant/Constable"), (0, .class_ 180), (0, u "java/lang/constant/ConstantDesc"), (0, u "POSITIVE_INFINITY"), (3, u "NEGATIVE_INFINITY"), (2, u "NaN"), (2, u "MAX_VALUE"), (0, u "MIN_NORMAL"), (0, u "MIN_VALUE"), (2, u "SIZE"), (0, u "I"), (1, u "PRECISION"), (1, u "MAX_EXPONENT"), (1, u "MIN_EXPONENT"), (1, u "BYTES"), (3, u "serialVersionUID"), (0, u "J")] 79

def k14c0 : Code := { maxStack := 4, maxLocals := 2, code := jdk_117_method_8_code, exceptionTable := #[], attributes := #[] }
def k14m0 : Method := { name := "isFinite", desc := "(D)Z", sig := { parameters := [.double], returnType := some .boolean }, accessFlags := 9, code := some k14c0 }
/-- java/lang/Double -/
def k14 : Class := { plain "java/lang/Double" (some 13) with
  accessFlags := 49
  interfaces := #[6, 8, 9]
  cf := some (fileOf pool14 1 #[] #[{ accessFlags := 9, nameIndex := 13, descriptorIndex := 14, attributes := #[] }] 49 114 #[175, 177, 179] #[{ accessFlags := 25, nameIndex := 181, descriptorIndex := 121, attributes := #[] }, { accessFlags := 25, nameIndex := 185, descriptorIndex := 121, attributes := #[] }, { accessFlags := 25, nameIndex := 188, descriptorIndex := 121, attributes := #[] }, { accessFlags := 25, nameIndex := 191, descriptorIndex := 121, attributes := #[] }, { accessFlags := 25, nameIndex := 192, descriptorIndex := 121, attributes := #[] }, { accessFlags := 25, nameIndex := 193, descriptorIndex := 121, attributes := #[] }, { accessFlags := 25, nameIndex := 196, descriptorIndex := 197, attributes := #[] }, { accessFlags := 25, nameIndex := 199, descriptorIndex := 197, attributes := #[] }, { accessFlags := 25, nameIndex := 201, descriptorIndex := 197, attributes := #[] }, { accessFlags := 25, nameIndex := 203, descriptorIndex := 197, attributes := #[] }, { accessFlags := 25, nameIndex := 205, descriptorIndex := 197, attributes := #[] }, { accessFlags := 25, nameIndex := 173, descriptorIndex := 174, attributes := #[] }, { accessFlags := 18, nameIndex := 120, descriptorIndex := 121, attributes := #[] }, { accessFlags := 26, nameIndex := 209, descriptorIndex := 210, attributes := #[] }])
  fields := #[{ name := "POSITIVE_INFINITY", type := .double, accessFlags := 25, slot := 0, constantValue := 0 }, { name := "NEGATIVE_INFINITY", type := .double, accessFlags := 25, slot := 1, constantValue := 0 }, { name := "NaN", type := .double, accessFlags := 25, slot := 2, constantValue := 0 }, { name := "MAX_VALUE", type := .double, accessFlags := 25, slot := 3, constantValue := 0 }, { name := "MIN_NORMAL", type := .double, accessFlags := 25, slot := 4, constantValue := 0 }, { name := "MIN_VALUE", type := .double, accessFlags := 25, slot := 5, constantValue := 0 }, { name := "SIZE", type := .int, accessFlags := 25, slot := 6, constantValue := 0 }, { name := "PRECISION", type := .int, accessFlags := 25, slot := 7, constantValue := 0 }, { name := "MAX_EXPONENT", type := .int, accessFlags := 25, slot := 8, constantValue := 0 }, { name := "MIN_EXPONENT", type := .int, accessFlags := 25, slot := 9, constantValue := 0 }, { name := "BYTES", type := .int, accessFlags := 25, slot := 10, constantValue := 0 }, { name := "TYPE", type := (.object "java/lang/Class"), accessFlags := 25, slot := 11, constantValue := 0 }, { name := "value", type := .double, accessFlags := 18, slot := 0, constantValue := 0 }, { name := "serialVersionUID", type := .long, accessFlags := 26, slot := 12, constantValue := 0 }]
  methods := #[k14m0]
  instanceTypes := #[.double]
  staticTypes := #[.double, .double, .double, .double, .double, .double, .int, .int, .int, .int, .int, (.object "java/lang/Class"), .long]
  resolved := Array.replicate 290 none
  statics := none }

def pool15 : Array CpInfo := pool [(2, .class_ 4), (1, u "java/lang/Enum"), (0, u "name"), (0, u "Ljava/lang/String;"), (2, u "ordinal"), (0, u "I"), (1, .class_ 14), (1, u "java/lang/Object"), (4, u "hash"), (86, .class_ 108), (1, u "java/lang/Enum$EnumDesc"), (2, .class_ 112), (0, u "java/lang/constant/Constable"), (0, .class_ 114), (0, u "java/lang/Comparable"), (0, .class_ 116), (0, u "java/io/Serializable")] 87

/-- java/lang/Enum -/
def k15 : Class := { plain "java/lang/Enum" (some 0) with
  accessFlags := 1057
  interfaces := #[8, 6, 5]
  cf := some (fileOf pool15 2 #[.nestMembers #[106]] #[] 1057 12 #[111, 113, 115] #[{ accessFlags := 18, nameIndex := 5, descriptorIndex := 6, attributes := #[] }, { accessFlags := 18, nameIndex := 9, descriptorIndex := 10, attributes := #[] }, { accessFlags := 2, nameIndex := 19, descriptorIndex := 10, attributes := #[] }])
  fields := #[{ name := "name", type := (.object "java/lang/String"), accessFlags := 18, slot := 0, constantValue := 0 }, { name := "ordinal", type := .int, accessFlags := 18, slot := 1, constantValue := 0 }, { name := "hash", type := .int, accessFlags := 2, slot := 2, constantValue := 0 }]
  methods := #[]
  instanceTypes := #[(.object "java/lang/String"), .int, .int]
  staticTypes := #[]
  resolved := Array.replicate 204 none
  statics := none }

def pool16 : Array CpInfo := pool [(1, .class_ 2), (0, u "com/example/brinequil/brinequil/model/AssociationScheme"), (2, u "NONE"), (0, u "Lcom/example/brinequil/brinequil/model/AssociationScheme;"), (2, u "TWO_B"), (2, u "FOUR_C"), (2, u "$VALUES"), (0, u "[Lcom/example/brinequil/brinequil/model/AssociationScheme;"), (6, .class_ 25), (1, u "java/lang/Enum"), (8, u "label"), (0, u "Ljava/lang/String;"), (2, u "donors"), (0, u "I"), (2, u "acceptors")] 31

/-- com/example/brinequil/brinequil/model/AssociationScheme -/
def k16 : Class := { plain "com/example/brinequil/brinequil/model/AssociationScheme" (some 15) with
  accessFlags := 16433
  interfaces := #[]
  cf := some (fileOf pool16 1 #[] #[] 16433 23 #[] #[{ accessFlags := 16409, nameIndex := 5, descriptorIndex := 6, attributes := #[] }, { accessFlags := 16409, nameIndex := 9, descriptorIndex := 6, attributes := #[] }, { accessFlags := 16409, nameIndex := 12, descriptorIndex := 6, attributes := #[] }, { accessFlags := 18, nameIndex := 34, descriptorIndex := 35, attributes := #[] }, { accessFlags := 18, nameIndex := 38, descriptorIndex := 39, attributes := #[] }, { accessFlags := 18, nameIndex := 42, descriptorIndex := 39, attributes := #[] }, { accessFlags := 4122, nameIndex := 15, descriptorIndex := 16, attributes := #[] }])
  fields := #[{ name := "NONE", type := (.object "com/example/brinequil/brinequil/model/AssociationScheme"), accessFlags := 16409, slot := 0, constantValue := 0 }, { name := "TWO_B", type := (.object "com/example/brinequil/brinequil/model/AssociationScheme"), accessFlags := 16409, slot := 1, constantValue := 0 }, { name := "FOUR_C", type := (.object "com/example/brinequil/brinequil/model/AssociationScheme"), accessFlags := 16409, slot := 2, constantValue := 0 }, { name := "label", type := (.object "java/lang/String"), accessFlags := 18, slot := 3, constantValue := 0 }, { name := "donors", type := .int, accessFlags := 18, slot := 4, constantValue := 0 }, { name := "acceptors", type := .int, accessFlags := 18, slot := 5, constantValue := 0 }, { name := "$VALUES", type := (.array (.object "com/example/brinequil/brinequil/model/AssociationScheme")), accessFlags := 4122, slot := 3, constantValue := 0 }]
  methods := #[]
  instanceTypes := #[(.object "java/lang/String"), .int, .int, (.object "java/lang/String"), .int, .int]
  staticTypes := #[(.object "com/example/brinequil/brinequil/model/AssociationScheme"), (.object "com/example/brinequil/brinequil/model/AssociationScheme"), (.object "com/example/brinequil/brinequil/model/AssociationScheme"), (.array (.object "com/example/brinequil/brinequil/model/AssociationScheme"))]
  resolved := Array.replicate 74 none
  statics := some 1 }

def pool17 : Array CpInfo := pool [(4, .class_ 6), (1, u "java/lang/Object"), (0, u "<init>"), (0, u "()V"), (5, .class_ 16), (1, u "java/lang/StringLatin1"), (33, .methodref 14 51), (0, .nameAndType 52 53), (0, u "getChar"), (0, u "([BI)C"), (3, u "([B)I"), (8, .fieldref 67 68), (0, .class_ 69), (0, .nameAndType 70 71), (0, u "java/lang/CharacterDataLatin1"), (0, u "instance"), (0, u "Ljava/lang/CharacterDataLatin1;"), (19, u "(I)Z"), (29, u "$assertionsDisabled"), (0, u "Z"), (88, .methodref 67 212), (0, .nameAndType 213 91), (0, u "isWhitespace"), (2, u "indexOfNonWhitespace"), (4, .class_ 223), (1, u "java/lang/StringLatin1$LinesSpliterator"), (166, .class_ 391), (0, u "java/lang/StringLatin1$CharsSpliterator")] 3

def k17m0 : Method := { name := "<init>", desc := "()V", sig := { parameters := [], returnType := none }, accessFlags := 0, code := none }
def k17c1 : Code := { maxStack := 2, maxLocals := 4, code := jdk_43_method_37_code, exceptionTable := #[], attributes := #[] }
def k17m1 : Method := { name := "indexOfNonWhitespace", desc := "([B)I", sig := { parameters := [(.array .byte)], returnType := some .int }, accessFlags := 9, code := some k17c1 }
def k17c2 : Code := { maxStack := 2, maxLocals := 2, code := jdk_43_method_44_code, exceptionTable := #[], attributes := #[] }
def k17m2 : Method := { name := "getChar", desc := "([BI)C", sig := { parameters := [(.array .byte), .int], returnType := some .char }, accessFlags := 9, code := some k17c2 }
/-- java/lang/StringLatin1 -/
def k17 : Class := { plain "java/lang/StringLatin1" (some 0) with
  accessFlags := 48
  interfaces := #[]
  cf := some (fileOf pool17 14 #[.nestMembers #[390, 221]] #[{ accessFlags := 0, nameIndex := 7, descriptorIndex := 8, attributes := #[] }, { accessFlags := 9, nameIndex := 216, descriptorIndex := 57, attributes := #[] }, { accessFlags := 9, nameIndex := 52, descriptorIndex := 53, attributes := #[] }] 48 4 #[] #[{ accessFlags := 4120, nameIndex := 121, descriptorIndex := 122, attributes := #[] }])
  fields := #[{ name := "$assertionsDisabled", type := .boolean, accessFlags := 4120, slot := 0, constantValue := 0 }]
  methods := #[k17m0, k17m1, k17m2]
  instanceTypes := #[]
  staticTypes := #[.boolean]
  resolved := Array.replicate 395 none
  statics := none }

def pool18 : Array CpInfo := pool [(2, .class_ 4), (1, u "java/lang/Object"), (0, u "<init>"), (0, u "()V"), (1, .class_ 10), (1, u "java/lang/CharacterData")] 75

def k18m0 : Method := { name := "<init>", desc := "()V", sig := { parameters := [], returnType := none }, accessFlags := 0, code := none }
/-- java/lang/CharacterData -/
def k18 : Class := { plain "java/lang/CharacterData" (some 0) with
  accessFlags := 1056
  interfaces := #[]
  cf := some (fileOf pool18 8 #[] #[{ accessFlags := 0, nameIndex := 5, descriptorIndex := 6, attributes := #[] }] 1056 2 #[] #[])
  fields := #[]
  methods := #[k18m0]
  instanceTypes := #[]
  staticTypes := #[]
  resolved := Array.replicate 86 none
  statics := none }

def pool19 : Array CpInfo := pool [(1, .fieldref 2 3), (0, .class_ 4), (0, .nameAndType 5 6), (0, u "java/lang/CharacterDataLatin1"), (0, u "A"), (0, u "[I"), (2, u "B"), (0, u "[C"), (3, u "(I)I"), (0, .methodref 2 16), (0, .nameAndType 17 14), (0, u "getProperties"), (3, u "(I)Z"), (5, u "DIGITS"), (0, u "[B"), (8, u "sharpsMap"), (1, .class_ 41), (1, u "java/lang/CharacterData"), (0, u "<init>"), (0, u "()V"), (3, u "instance"), (0, u "Ljava/lang/CharacterDataLatin1;"), (78, u "isWhitespace")] 13

def k19c0 : Code := { maxStack := 2, maxLocals := 4, code := jdk_116_method_1_code, exceptionTable := #[], attributes := #[] }
def k19m0 : Method := { name := "getProperties", desc := "(I)I", sig := { parameters := [.int], returnType := some .int }, accessFlags := 0, code := some k19c0 }
def k19c1 : Code := { maxStack := 2, maxLocals := 3, code := jdk_116_method_26_code, exceptionTable := #[], attributes := #[] }
def k19m1 : Method := { name := "isWhitespace", desc := "(I)Z", sig := { parameters := [.int], returnType := some .boolean }, accessFlags := 0, code := some k19c1 }
def k19m2 : Method := { name := "<init>", desc := "()V", sig := { parameters := [], returnType := none }, accessFlags := 2, code := none }
/-- java/lang/CharacterDataLatin1 -/
def k19 : Class := { plain "java/lang/CharacterDataLatin1" (some 18) with
  accessFlags := 32
  interfaces := #[]
  cf := some (fileOf pool19 2 #[] #[{ accessFlags := 0, nameIndex := 17, descriptorIndex := 14, attributes := #[] }, { accessFlags := 0, nameIndex := 127, descriptorIndex := 21, attributes := #[] }, { accessFlags := 2, nameIndex := 42, descriptorIndex := 43, attributes := #[] }] 32 39 #[] #[{ accessFlags := 26, nameIndex := 27, descriptorIndex := 28, attributes := #[] }, { accessFlags := 8, nameIndex := 37, descriptorIndex := 10, attributes := #[] }, { accessFlags := 24, nameIndex := 47, descriptorIndex := 48, attributes := #[] }, { accessFlags := 24, nameIndex := 5, descriptorIndex := 6, attributes := #[] }, { accessFlags := 24, nameIndex := 9, descriptorIndex := 10, attributes := #[] }])
  fields := #[{ name := "DIGITS", type := (.array .byte), accessFlags := 26, slot := 0, constantValue := 0 }, { name := "sharpsMap", type := (.array .char), accessFlags := 8, slot := 1, constantValue := 0 }, { name := "instance", type := (.object "java/lang/CharacterDataLatin1"), accessFlags := 24, slot := 2, constantValue := 0 }, { name := "A", type := (.array .int), accessFlags := 24, slot := 3, constantValue := 0 }, { name := "B", type := (.array .char), accessFlags := 24, slot := 4, constantValue := 0 }]
  methods := #[k19m0, k19m1, k19m2]
  instanceTypes := #[]
  staticTypes := #[(.array .byte), (.array .char), (.object "java/lang/CharacterDataLatin1"), (.array .int), (.array .char)]
  resolved := Array.replicate 141 none
  statics := some 2 }

def pool20 : Array CpInfo := pool [(2, .class_ 4), (1, u "java/lang/Object"), (0, u "<init>"), (0, u "()V"), (17, .class_ 26), (1, u "jdk/internal/util/Preconditions"), (28, .class_ 56), (0, u "jdk/internal/util/Preconditions$4"), (57, .class_ 115), (0, u "jdk/internal/util/Preconditions$1"), (7, u "SIOOBE_FORMATTER"), (0, u "Ljava/util/function/BiFunction;"), (0, .class_ 126), (0, u "jdk/internal/util/Preconditions$2"), (3, u "AIOOBE_FORMATTER"), (0, .class_ 132), (0, u "jdk/internal/util/Preconditions$3"), (3, u "IOOBE_FORMATTER")] 57

def k20m0 : Method := { name := "<init>", desc := "()V", sig := { parameters := [], returnType := none }, accessFlags := 1, code := none }
/-- jdk/internal/util/Preconditions -/
def k20 : Class := { plain "jdk/internal/util/Preconditions" (some 0) with
  accessFlags := 33
  interfaces := #[]
  cf := some (fileOf pool20 24 #[.nestMembers #[55, 131, 125, 114]] #[{ accessFlags := 1, nameIndex := 5, descriptorIndex := 6, attributes := #[] }] 33 2 #[] #[{ accessFlags := 25, nameIndex := 123, descriptorIndex := 124, attributes := #[] }, { accessFlags := 25, nameIndex := 130, descriptorIndex := 124, attributes := #[] }, { accessFlags := 25, nameIndex := 136, descriptorIndex := 124, attributes := #[] }])
  fields := #[{ name := "SIOOBE_FORMATTER", type := (.object "java/util/function/BiFunction"), accessFlags := 25, slot := 0, constantValue := 0 }, { name := "AIOOBE_FORMATTER", type := (.object "java/util/function/BiFunction"), accessFlags := 25, slot := 1, constantValue := 0 }, { name := "IOOBE_FORMATTER", type := (.object "java/util/function/BiFunction"), accessFlags := 25, slot := 2, constantValue := 0 }]
  methods := #[k20m0]
  instanceTypes := #[]
  staticTypes := #[(.object "java/util/function/BiFunction"), (.object "java/util/function/BiFunction"), (.object "java/util/function/BiFunction")]
  resolved := Array.replicate 194 none
  statics := some 3 }

def pool21 : Array CpInfo := pool [(9, u "<init>"), (6, .class_ 18), (1, u "java/lang/Object"), (0, u "()V"), (1, .class_ 23), (1, u "jdk/internal/util/ArraysSupport"), (0, u "LOG2_ARRAY_LONG_INDEX_SCALE"), (0, u "I"), (2, u "U"), (0, u "Ljdk/internal/misc/Unsafe;"), (8, u "BIG_ENDIAN"), (0, u "Z"), (8, u "LOG2_BYTE_BIT_SIZE"), (4, u "LOG2_ARRAY_INT_INDEX_SCALE"), (54, u "JLA"), (0, u "Ljdk/internal/access/JavaLangAccess;"), (11, u "LOG2_ARRAY_BOOLEAN_INDEX_SCALE"), (9, u "LOG2_ARRAY_BYTE_INDEX_SCALE"), (5, u "LOG2_ARRAY_CHAR_INDEX_SCALE"), (5, u "LOG2_ARRAY_SHORT_INDEX_SCALE"), (18, u "LOG2_ARRAY_FLOAT_INDEX_SCALE"), (24, u "LOG2_ARRAY_DOUBLE_INDEX_SCALE"), (89, u "T_BOOLEAN"), (2, u "T_CHAR"), (1, u "T_FLOAT"), (1, u "T_DOUBLE"), (1, u "T_BYTE"), (1, u "T_SHORT"), (1, u "T_INT"), (1, u "T_LONG"), (1, u "SOFT_MAX_ARRAY_LENGTH")] 83

def k21m0 : Method := { name := "<init>", desc := "()V", sig := { parameters := [], returnType := none }, accessFlags := 2, code := none }
/-- jdk/internal/util/ArraysSupport -/
def k21 : Class := { plain "jdk/internal/util/ArraysSupport" (some 0) with
  accessFlags := 33
  interfaces := #[]
  cf := some (fileOf pool21 21 #[] #[{ accessFlags := 2, nameIndex := 9, descriptorIndex := 19, attributes := #[] }] 33 16 #[] #[{ accessFlags := 24, nameIndex := 28, descriptorIndex := 29, attributes := #[] }, { accessFlags := 26, nameIndex := 38, descriptorIndex := 39, attributes := #[] }, { accessFlags := 25, nameIndex := 121, descriptorIndex := 25, attributes := #[] }, { accessFlags := 25, nameIndex := 131, descriptorIndex := 25, attributes := #[] }, { accessFlags := 25, nameIndex := 137, descriptorIndex := 25, attributes := #[] }, { accessFlags := 25, nameIndex := 143, descriptorIndex := 25, attributes := #[] }, { accessFlags := 25, nameIndex := 53, descriptorIndex := 25, attributes := #[] }, { accessFlags := 25, nameIndex := 24, descriptorIndex := 25, attributes := #[] }, { accessFlags := 25, nameIndex := 162, descriptorIndex := 25, attributes := #[] }, { accessFlags := 25, nameIndex := 187, descriptorIndex := 25, attributes := #[] }, { accessFlags := 26, nameIndex := 48, descriptorIndex := 25, attributes := #[] }, { accessFlags := 25, nameIndex := 277, descriptorIndex := 25, attributes := #[] }, { accessFlags := 25, nameIndex := 280, descriptorIndex := 25, attributes := #[] }, { accessFlags := 25, nameIndex := 282, descriptorIndex := 25, attributes := #[] }, { accessFlags := 25, nameIndex := 284, descriptorIndex := 25, attributes := #[] }, { accessFlags := 25, nameIndex := 286, descriptorIndex := 25, attributes := #[] }, { accessFlags := 25, nameIndex := 288, descriptorIndex := 25, attributes := #[] }, { accessFlags := 25, nameIndex := 290, descriptorIndex := 25, attributes := #[] }, { accessFlags := 25, nameIndex := 292, descriptorIndex := 25, attributes := #[] }, { accessFlags := 26, nameIndex := 108, descriptorIndex := 109, attributes := #[] }, { accessFlags := 25, nameIndex := 294, descriptorIndex := 25, attributes := #[] }])
  fields := #[{ name := "U", type := (.object "jdk/internal/misc/Unsafe"), accessFlags := 24, slot := 0, constantValue := 0 }, { name := "BIG_ENDIAN", type := .boolean, accessFlags := 26, slot := 1, constantValue := 0 }, { name := "LOG2_ARRAY_BOOLEAN_INDEX_SCALE", type := .int, accessFlags := 25, slot := 2, constantValue := 0 }, { name := "LOG2_ARRAY_BYTE_INDEX_SCALE", type := .int, accessFlags := 25, slot := 3, constantValue := 0 }, { name := "LOG2_ARRAY_CHAR_INDEX_SCALE", type := .int, accessFlags := 25, slot := 4, constantValue := 0 }, { name := "LOG2_ARRAY_SHORT_INDEX_SCALE", type := .int, accessFlags := 25, slot := 5, constantValue := 0 }, { name := "LOG2_ARRAY_INT_INDEX_SCALE", type := .int, accessFlags := 25, slot := 6, constantValue := 0 }, { name := "LOG2_ARRAY_LONG_INDEX_SCALE", type := .int, accessFlags := 25, slot := 7, constantValue := 0 }, { name := "LOG2_ARRAY_FLOAT_INDEX_SCALE", type := .int, accessFlags := 25, slot := 8, constantValue := 0 }, { name := "LOG2_ARRAY_DOUBLE_INDEX_SCALE", type := .int, accessFlags := 25, slot := 9, constantValue := 0 }, { name := "LOG2_BYTE_BIT_SIZE", type := .int, accessFlags := 26, slot := 10, constantValue := 0 }, { name := "T_BOOLEAN", type := .int, accessFlags := 25, slot := 11, constantValue := 0 }, { name := "T_CHAR", type := .int, accessFlags := 25, slot := 12, constantValue := 0 }, { name := "T_FLOAT", type := .int, accessFlags := 25, slot := 13, constantValue := 0 }, { name := "T_DOUBLE", type := .int, accessFlags := 25, slot := 14, constantValue := 0 }, { name := "T_BYTE", type := .int, accessFlags := 25, slot := 15, constantValue := 0 }, { name := "T_SHORT", type := .int, accessFlags := 25, slot := 16, constantValue := 0 }, { name := "T_INT", type := .int, accessFlags := 25, slot := 17, constantValue := 0 }, { name := "T_LONG", type := .int, accessFlags := 25, slot := 18, constantValue := 0 }, { name := "JLA", type := (.object "jdk/internal/access/JavaLangAccess"), accessFlags := 26, slot := 19, constantValue := 0 }, { name := "SOFT_MAX_ARRAY_LENGTH", type := .int, accessFlags := 25, slot := 20, constantValue := 0 }]
  methods := #[k21m0]
  instanceTypes := #[]
  staticTypes := #[(.object "jdk/internal/misc/Unsafe"), .boolean, .int, .int, .int, .int, .int, .int, .int, .int, .int, .int, .int, .int, .int, .int, .int, .int, .int, (.object "jdk/internal/access/JavaLangAccess"), .int]
  resolved := Array.replicate 378 none
  statics := none }

def pool22 : Array CpInfo := pool [(1, u "java/lang/Cloneable"), (0, .class_ 1), (0, u "java/lang/Object"), (0, .class_ 3)] 3

/-- java/lang/Cloneable -/
def k22 : Class := { plain "java/lang/Cloneable" (some 0) with
  accessFlags := 1537
  interfaces := #[]
  cf := some (fileOf pool22 2 #[] #[] 1537 4 #[] #[])
  fields := #[]
  methods := #[]
  instanceTypes := #[]
  staticTypes := #[]
  resolved := Array.replicate 8 none
  statics := none }

/-- the primitive byte -/
def k23 : Class := { plain "byte" none with kind := .primitive 'B', accessFlags := 0x411 }
/-- [B -/
def k24 : Class := { plain "[B" (some 0) with kind := .array 23 .byte, interfaces := #[22, 5], accessFlags := 1041 }

/-- the primitive char -/
def k25 : Class := { plain "char" none with kind := .primitive 'C', accessFlags := 0x411 }
/-- [C -/
def k26 : Class := { plain "[C" (some 0) with kind := .array 25 .char, interfaces := #[22, 5], accessFlags := 1041 }

/-- the primitive int -/
def k27 : Class := { plain "int" none with kind := .primitive 'I', accessFlags := 0x411 }
/-- [I -/
def k28 : Class := { plain "[I" (some 0) with kind := .array 27 .int, interfaces := #[22, 5], accessFlags := 1041 }

def heap : Heap := #[{ cls := 10, slots := #[.long 0, .int 1, .null, .int 0, .null, .int 0, .int 0], vm := .statics 10 },
  { cls := 16, slots := #[.ref 4, .null, .null, .null], vm := .statics 16 },
  { cls := 19, slots := #[.null, .null, .ref 5, .ref 6, .null], vm := .statics 19 },
  { cls := 20, slots := #[.null, .null, .null], vm := .statics 20 },
  { cls := 16, slots := #[.null, .int 0, .int 0, .null, .int 0, .int 0], vm := .none },
  { cls := 19, slots := #[], vm := .none },
  { cls := 28, slots := #[.int 1207963663, .int 1207963663, .int 1207963663, .int 1207963663, .int 1207963663, .int 1207963663, .int 1207963663, .int 1207963663, .int 1207963663, .int 1476411407, .int 1342193679, .int 1476411407, .int 1610629135, .int 1342193679, .int 1207963663, .int 1207963663, .int 1207963663, .int 1207963663, .int 1207963663, .int 1207963663, .int 1207963663, .int 1207963663, .int 1207963663, .int 1207963663, .int 1207963663, .int 1207963663, .int 1207963663, .int 1207963663, .int 1342193679, .int 1342193679, .int 1342193679, .int 1476411407, .int 1610629132, .int 1744830488, .int 1744830488, .int 671088664, .int 671113242, .int 671088664, .int 1744830488, .int 1744830488, .int (-402653163), .int (-402653162), .int 1744830488, .int 536870937, .int 939524120, .int 536870932, .int 939524120, .int 939524120, .int 402667017, .int 402667017, .int 402667017, .int 402667017, .int 402667017, .int 402667017, .int 402667017, .int 402667017, .int 402667017, .int 402667017, .int 939524120, .int 1744830488, .int (-402653159), .int 1744830489, .int (-402653159), .int 1744830488, .int 1744830488, .int 8552417, .int 8552417, .int 8552417, .int 8552417, .int 8552417, .int 8552417, .int 8552417, .int 8552417, .int 8552417, .int 8552417, .int 8552417, .int 8552417, .int 8552417, .int 8552417, .int 8552417, .int 8552417, .int 8552417, .int 8552417, .int 8552417, .int 8552417, .int 8552417, .int 8552417, .int 8552417, .int 8552417, .int 8552417, .int 8552417, .int (-402653163), .int 1744830488, .int (-402653162), .int 1744830491, .int 1744850967, .int 1744830491, .int 8486882, .int 8486882, .int 8486882, .int 8486882, .int 8486882, .int 8486882, .int 8486882, .int 8486882, .int 8486882, .int 8486882, .int 8486882, .int 8486882, .int 8486882, .int 8486882, .int 8486882, .int 8486882, .int 8486882, .int 8486882, .int 8486882, .int 8486882, .int 8486882, .int 8486882, .int 8486882, .int 8486882, .int 8486882, .int 8486882, .int (-402653163), .int 1744830489, .int (-402653162), .int 1744830489, .int 1207963663, .int 1207963663, .int 1207963663, .int 1207963663, .int 1207963663, .int 1207963663, .int 1342181391, .int 1207963663, .int 1207963663, .int 1207963663, .int 1207963663, .int 1207963663, .int 1207963663, .int 1207963663, .int 1207963663, .int 1207963663, .int 1207963663, .int 1207963663, .int 1207963663, .int 1207963663, .int 1207963663, .int 1207963663, .int 1207963663, .int 1207963663, .int 1207963663, .int 1207963663, .int 1207963663, .int 1207963663, .int 1207963663, .int 1207963663, .int 1207963663, .int 1207963663, .int 1207963663, .int 939524108, .int 1744830488, .int 671113242, .int 671113242, .int 671113242, .int 671113242, .int 1744830492, .int 1744830488, .int 1744830491, .int 1744830492, .int 28677, .int (-402653155), .int 1744830489, .int 1207963664, .int 1744830492, .int 1744830491, .int 671088668, .int 671088665, .int 402654731, .int 402654731, .int 1744830491, .int 134049794, .int 1744830488, .int 1744830488, .int 1744830491, .int 402654475, .int 28677, .int (-402653154), .int 1744832523, .int 1744832523, .int 1744832523, .int 1744830488, .int 8548353, .int 8548353, .int 8548353, .int 8548353, .int 8548353, .int 8548353, .int 8548353, .int 8548353, .int 8548353, .int 8548353, .int 8548353, .int 8548353, .int 8548353, .int 8548353, .int 8548353, .int 8548353, .int 8548353, .int 8548353, .int 8548353, .int 8548353, .int 8548353, .int 8548353, .int 8548353, .int 1744830489, .int 8548353, .int 8548353, .int 8548353, .int 8548353, .int 8548353, .int 8548353, .int 8548353, .int 134049794, .int 8482818, .int 8482818, .int 8482818, .int 8482818, .int 8482818, .int 8482818, .int 8482818, .int 8482818, .int 8482818, .int 8482818, .int 8482818, .int 8482818, .int 8482818, .int 8482818, .int 8482818, .int 8482818, .int 8482818, .int 8482818, .int 8482818, .int 8482818, .int 8482818, .int 8482818, .int 8482818, .int 1744830489, .int 8482818, .int 8482818, .int 8482818, .int 8482818, .int 8482818, .int 8482818, .int 8482818, .int 102592514], vm := .none }]
def classes : Array Class := #[k0, k1, k2, k3, k4, k5, k6, k7, k8, k9, k10, k11, k12, k13, k14, k15, k16, k17, k18, k19, k20, k21, k22, k23, k24, k25, k26, k27, k28]
def interned : List (Array UInt16 × Addr) := []
def slotsUsed : Nat := 281
def theMethod : MethodId := ⟨1, 1⟩
def args0 : Array Value := #[.int 5, .int 7, .int 4, .int 9, .int 9, .int 9]
def aboutOver (below : List Frame) : State where
  vm := { classes := classes, interned := interned.toArray }
  heap := heap
  slotsUsed := slotsUsed
  threads := #[{ frames := .invoking theMethod args0 :: below }]
def below0 : List Frame := [.native { method := ⟨0, 0⟩, args := #[] }]
def about1 : State := aboutOver below0
def p0 : Program := .bare "" "" ""
def e0 : Env := launch0.env 0 0 0
theorem w_frames : about1.frames = Frame.invoking theMethod args0 :: below0 := rfl
set_option maxRecDepth 65536 in
theorem w_args : argsFit about1.vm theMethod args0 = true := by decide +kernel
set_option maxRecDepth 65536 in
theorem w_heap : heapFits about1 = true := by decide +kernel
set_option maxRecDepth 65536 in
theorem w_runnable : about1.curStatus? = some .runnable := by decide +kernel
set_option maxRecDepth 65536 in
theorem w_alone : about1.alone = true := by decide +kernel
set_option maxRecDepth 65536 in
theorem w_named : about1.methodNamed? x = some theMethod := by decide +kernel
set_option maxRecDepth 65536 in
theorem w_hears : about1.hears theMethod below0 = true := by decide +kernel
set_option maxRecDepth 65536 in
theorem w_ripe : about1.ripe theMethod args0 below0 = true := by decide +kernel
theorem w_running : about1.status = .running := rfl
set_option maxRecDepth 65536 in
theorem w_room : about1.hasRoom e0.platform room_1 = true :=
  launch0.hasRoom_least _ room_1 (by decide +kernel) (by decide +kernel) (by decide +kernel) (by decide +kernel) (by decide +kernel) (by decide +kernel)
theorem allAtoms_all (ts : List Jvm.Cond) (a : Array Jvm.Value) (st : Jvm.State) : (allAtoms ts).before a st = ts.all (fun c => c.before a st) := by
  induction ts with
  | nil => rfl
  | cons c t ih =>
    show (Jvm.Cond.and c (allAtoms t)).before a st = _
    rw [Jvm.Cond.before_and, ih, List.all_cons]
def words1 : List Jvm.Cond := Jvm.Cond.code x code maxLocals ret :: tables_1
/-- a 'code' word, met by the world's own term for the bytes: nothing is compared byte by byte -/
theorem code_word {y : MethodName} {bytes : ByteArray} {mx : Nat} {rt : Option FieldType} {a : Array Value} {s : State} {m : MethodId} {meth : Method} {c : Code} (h1 : s.methodNamed? y = some m) (h2 : s.vm.method? m = some meth) (h3 : meth.code = some c) (h4 : c.code = bytes)
    (h5 : (c.maxLocals == mx && c.exceptionTable.isEmpty && decide (c.maxStack ≤ mostOperands) && decide (meth.sig.returnType = rt) && !meth.locks && decide (parseMethodDescriptor y.desc = some meth.sig)) = true) : (Jvm.Cond.code y bytes mx rt).before a s = true := by
  simp only [Bool.and_eq_true, beq_iff_eq, Bool.not_eq_true', decide_eq_true_eq] at h5
  obtain ⟨⟨⟨⟨⟨g1, g2⟩, g3⟩, g4⟩, g5⟩, g6⟩ := h5
  simp [Cond.before, Cond.holds, Cond.value, h1, h2, h3, h4, g1, g2, g3, g4, g5, g6]
def isCode : Jvm.Cond → Bool
  | .code _ _ _ _ => true
  | _ => false
theorem all_split {L : List Jvm.Cond} {P : Jvm.Cond → Bool} (h1 : L.all (fun c => isCode c || P c) = true) (h2 : ∀ c ∈ L.filter isCode, P c = true) : L.all P = true := by
  refine List.all_eq_true.mpr fun c hc => ?_
  have h := List.all_eq_true.mp h1 c hc
  rcases Bool.eq_false_or_eq_true (isCode c) with hi | hi
  · exact h2 c (List.mem_filter.mpr ⟨hc, hi⟩)
  · simpa [hi] using h
set_option maxRecDepth 65536 in
theorem w_c0 : (Jvm.Cond.code x code maxLocals ret).before args0 about1 = true := code_word (m := ⟨1, 1⟩) (meth := k1m1) (c := k1c1) (by decide +kernel) rfl rfl rfl (by decide +kernel)
set_option maxRecDepth 65536 in
theorem w_c1 : (Jvm.Cond.code ({ cls := "java/lang/Math", name := "max", desc := "(II)I" } : Jvm.MethodName) jdk_29_method_65_code (2 : Nat) (Option.some Jvm.ClassFile.FieldType.int)).before args0 about1 = true := code_word (m := ⟨2, 2⟩) (meth := k2m2) (c := k2c2) (by decide +kernel) rfl rfl rfl (by decide +kernel)
set_option maxRecDepth 65536 in
theorem w_c2 : (Jvm.Cond.code ({ cls := "java/lang/String", name := "<init>", desc := "([C)V" } : Jvm.MethodName) jdk_42_method_3_code (2 : Nat) (Option.none : Option Jvm.ClassFile.FieldType)).before args0 about1 = true := code_word (m := ⟨10, 1⟩) (meth := k10m1) (c := k10c1) (by decide +kernel) rfl rfl rfl (by decide +kernel)
set_option maxRecDepth 65536 in
theorem w_c3 : (Jvm.Cond.code ({ cls := "java/lang/String", name := "<init>", desc := "([CIILjava/lang/Void;)V" } : Jvm.MethodName) jdk_42_method_149_code (6 : Nat) (Option.none : Option Jvm.ClassFile.FieldType)).before args0 about1 = true := code_word (m := ⟨10, 5⟩) (meth := k10m5) (c := k10c5) (by decide +kernel) rfl rfl rfl (by decide +kernel)
set_option maxRecDepth 65536 in
theorem w_c4 : (Jvm.Cond.code ({ cls := "java/lang/Object", name := "<init>", desc := "()V" } : Jvm.MethodName) object_method_1_code (1 : Nat) (Option.none : Option Jvm.ClassFile.FieldType)).before args0 about1 = true := code_word (m := ⟨0, 0⟩) (meth := k0m0) (c := k0c0) (by decide +kernel) rfl rfl rfl (by decide +kernel)
set_option maxRecDepth 65536 in
theorem w_c5 : (Jvm.Cond.code ({ cls := "java/lang/StringUTF16", name := "compress", desc := "([CII)[B" } : Jvm.MethodName) jdk_52_method_16_code (6 : Nat) (Option.some (Jvm.ClassFile.FieldType.array Jvm.ClassFile.FieldType.byte))).before args0 about1 = true := code_word (m := ⟨11, 2⟩) (meth := k11m2) (c := k11c2) (by decide +kernel) rfl rfl rfl (by decide +kernel)
set_option maxRecDepth 65536 in
theorem w_c6 : (Jvm.Cond.code ({ cls := "java/lang/StringUTF16", name := "compress", desc := "([CI[BII)I" } : Jvm.MethodName) jdk_52_method_21_code (7 : Nat) (Option.some Jvm.ClassFile.FieldType.int)).before args0 about1 = true := code_word (m := ⟨11, 3⟩) (meth := k11m3) (c := k11c3) (by decide +kernel) rfl rfl rfl (by decide +kernel)
set_option maxRecDepth 65536 in
theorem w_c7 : (Jvm.Cond.code ({ cls := "java/lang/StringUTF16", name := "coderFromArrayLen", desc := "([BI)B" } : Jvm.MethodName) jdk_52_method_15_code (2 : Nat) (Option.some Jvm.ClassFile.FieldType.byte)).before args0 about1 = true := code_word (m := ⟨11, 1⟩) (meth := k11m1) (c := k11c1) (by decide +kernel) rfl rfl rfl (by decide +kernel)
set_option maxRecDepth 65536 in
theorem w_c8 : (Jvm.Cond.code ({ cls := "com/example/brinequil/brinequil/model/Fraction", name := "<init>", desc := "(Ljava/lang/String;DDDI)V" } : Jvm.MethodName) prog_30_method_1_code (9 : Nat) (Option.none : Option Jvm.ClassFile.FieldType)).before args0 about1 = true := code_word (m := ⟨4, 0⟩) (meth := k4m0) (c := k4c0) (by decide +kernel) rfl rfl rfl (by decide +kernel)
set_option maxRecDepth 65536 in
theorem w_c9 : (Jvm.Cond.code ({ cls := "java/lang/Record", name := "<init>", desc := "()V" } : Jvm.MethodName) jdk_30_method_1_code (1 : Nat) (Option.none : Option Jvm.ClassFile.FieldType)).before args0 about1 = true := code_word (m := ⟨3, 0⟩) (meth := k3m0) (c := k3c0) (by decide +kernel) rfl rfl rfl (by decide +kernel)
set_option maxRecDepth 65536 in
theorem w_c10 : (Jvm.Cond.code ({ cls := "com/example/brinequil/brinequil/model/Component", name := "nonAssociating", desc := "(Ljava/lang/String;DDD)Lcom/example/brinequil/brinequil/model/Component;" } : Jvm.MethodName) prog_24_method_2_code (15 : Nat) (Option.some (Jvm.ClassFile.FieldType.object "com/example/brinequil/brinequil/model/Component"))).before args0 about1 = true := code_word (m := ⟨12, 1⟩) (meth := k12m1) (c := k12c1) (by decide +kernel) rfl rfl rfl (by decide +kernel)
set_option maxRecDepth 65536 in
theorem w_c11 : (Jvm.Cond.code ({ cls := "com/example/brinequil/brinequil/model/Component", name := "requirePositive", desc := "(Ljava/lang/String;Ljava/lang/String;D)V" } : Jvm.MethodName) prog_24_method_4_code (4 : Nat) (Option.none : Option Jvm.ClassFile.FieldType)).before args0 about1 = true := code_word (m := ⟨12, 2⟩) (meth := k12m2) (c := k12c2) (by decide +kernel) rfl rfl rfl (by decide +kernel)
set_option maxRecDepth 65536 in
theorem w_c12 : (Jvm.Cond.code ({ cls := "java/lang/Double", name := "isFinite", desc := "(D)Z" } : Jvm.MethodName) jdk_117_method_8_code (2 : Nat) (Option.some Jvm.ClassFile.FieldType.boolean)).before args0 about1 = true := code_word (m := ⟨14, 0⟩) (meth := k14m0) (c := k14c0) (by decide +kernel) rfl rfl rfl (by decide +kernel)
set_option maxRecDepth 65536 in
theorem w_c13 : (Jvm.Cond.code ({ cls := "java/lang/Math", name := "abs", desc := "(D)D" } : Jvm.MethodName) jdk_29_method_64_code (2 : Nat) (Option.some Jvm.ClassFile.FieldType.double)).before args0 about1 = true := code_word (m := ⟨2, 1⟩) (meth := k2m1) (c := k2c1) (by decide +kernel) rfl rfl rfl (by decide +kernel)
set_option maxRecDepth 65536 in
theorem w_c14 : (Jvm.Cond.code ({ cls := "com/example/brinequil/brinequil/model/Component", name := "<init>", desc := "(Ljava/lang/String;DDDDDDLcom/example/brinequil/brinequil/model/AssociationScheme;)V" } : Jvm.MethodName) prog_24_method_1_code (15 : Nat) (Option.none : Option Jvm.ClassFile.FieldType)).before args0 about1 = true := code_word (m := ⟨12, 0⟩) (meth := k12m0) (c := k12c0) (by decide +kernel) rfl rfl rfl (by decide +kernel)
set_option maxRecDepth 65536 in
theorem w_c15 : (Jvm.Cond.code ({ cls := "java/lang/String", name := "isBlank", desc := "()Z" } : Jvm.MethodName) jdk_42_method_117_code (1 : Nat) (Option.some Jvm.ClassFile.FieldType.boolean)).before args0 about1 = true := code_word (m := ⟨10, 3⟩) (meth := k10m3) (c := k10c3) (by decide +kernel) rfl rfl rfl (by decide +kernel)
set_option maxRecDepth 65536 in
theorem w_c16 : (Jvm.Cond.code ({ cls := "java/lang/String", name := "indexOfNonWhitespace", desc := "()I" } : Jvm.MethodName) jdk_42_method_120_code (1 : Nat) (Option.some Jvm.ClassFile.FieldType.int)).before args0 about1 = true := code_word (m := ⟨10, 4⟩) (meth := k10m4) (c := k10c4) (by decide +kernel) rfl rfl rfl (by decide +kernel)
set_option maxRecDepth 65536 in
theorem w_c17 : (Jvm.Cond.code ({ cls := "java/lang/String", name := "isLatin1", desc := "()Z" } : Jvm.MethodName) jdk_42_method_154_code (1 : Nat) (Option.some Jvm.ClassFile.FieldType.boolean)).before args0 about1 = true := code_word (m := ⟨10, 7⟩) (meth := k10m7) (c := k10c7) (by decide +kernel) rfl rfl rfl (by decide +kernel)
set_option maxRecDepth 65536 in
theorem w_c18 : (Jvm.Cond.code ({ cls := "java/lang/StringLatin1", name := "indexOfNonWhitespace", desc := "([B)I" } : Jvm.MethodName) jdk_43_method_37_code (4 : Nat) (Option.some Jvm.ClassFile.FieldType.int)).before args0 about1 = true := code_word (m := ⟨17, 1⟩) (meth := k17m1) (c := k17c1) (by decide +kernel) rfl rfl rfl (by decide +kernel)
set_option maxRecDepth 65536 in
theorem w_c19 : (Jvm.Cond.code ({ cls := "java/lang/StringLatin1", name := "getChar", desc := "([BI)C" } : Jvm.MethodName) jdk_43_method_44_code (2 : Nat) (Option.some Jvm.ClassFile.FieldType.char)).before args0 about1 = true := code_word (m := ⟨17, 2⟩) (meth := k17m2) (c := k17c2) (by decide +kernel) rfl rfl rfl (by decide +kernel)
set_option maxRecDepth 65536 in
theorem w_c20 : (Jvm.Cond.code ({ cls := "java/lang/CharacterDataLatin1", name := "isWhitespace", desc := "(I)Z" } : Jvm.MethodName) jdk_116_method_26_code (3 : Nat) (Option.some Jvm.ClassFile.FieldType.boolean)).before args0 about1 = true := code_word (m := ⟨19, 1⟩) (meth := k19m1) (c := k19c1) (by decide +kernel) rfl rfl rfl (by decide +kernel)
set_option maxRecDepth 65536 in
theorem w_c21 : (Jvm.Cond.code ({ cls := "java/lang/CharacterDataLatin1", name := "getProperties", desc := "(I)I" } : Jvm.MethodName) jdk_116_method_1_code (4 : Nat) (Option.some Jvm.ClassFile.FieldType.int)).before args0 about1 = true := code_word (m := ⟨19, 0⟩) (meth := k19m0) (c := k19c0) (by decide +kernel) rfl rfl rfl (by decide +kernel)
set_option maxRecDepth 65536 in
theorem w_c22 : (Jvm.Cond.code ({ cls := "java/lang/String", name := "length", desc := "()I" } : Jvm.MethodName) jdk_42_method_54_code (1 : Nat) (Option.some Jvm.ClassFile.FieldType.int)).before args0 about1 = true := code_word (m := ⟨10, 2⟩) (meth := k10m2) (c := k10c2) (by decide +kernel) rfl rfl rfl (by decide +kernel)
set_option maxRecDepth 65536 in
theorem w_c23 : (Jvm.Cond.code ({ cls := "java/lang/String", name := "coder", desc := "()B" } : Jvm.MethodName) jdk_42_method_152_code (1 : Nat) (Option.some Jvm.ClassFile.FieldType.byte)).before args0 about1 = true := code_word (m := ⟨10, 6⟩) (meth := k10m6) (c := k10c6) (by decide +kernel) rfl rfl rfl (by decide +kernel)
set_option maxRecDepth 65536 in
theorem w_c24 : (Jvm.Cond.code ({ cls := "com/example/brinequil/brinequil/model/Fraction", name := "waterInteraction", desc := "()D" } : Jvm.MethodName) prog_30_method_3_code (3 : Nat) (Option.some Jvm.ClassFile.FieldType.double)).before args0 about1 = true := code_word (m := ⟨4, 1⟩) (meth := k4m1) (c := k4c1) (by decide +kernel) rfl rfl rfl (by decide +kernel)
def codes1 : List Jvm.Cond := [Jvm.Cond.code x code maxLocals ret, Jvm.Cond.code ({ cls := "java/lang/Math", name := "max", desc := "(II)I" } : Jvm.MethodName) jdk_29_method_65_code (2 : Nat) (Option.some Jvm.ClassFile.FieldType.int), Jvm.Cond.code ({ cls := "java/lang/String", name := "<init>", desc := "([C)V" } : Jvm.MethodName) jdk_42_method_3_code (2 : Nat) (Option.none : Option Jvm.ClassFile.FieldType), Jvm.Cond.code ({ cls := "java/lang/String", name := "<init>", desc := "([CIILjava/lang/Void;)V" } : Jvm.MethodName) jdk_42_method_149_code (6 : Nat) (Option.none : Option Jvm.ClassFile.FieldType), Jvm.Cond.code ({ cls := "java/lang/Object", name := "<init>", desc := "()V" } : Jvm.MethodName) object_method_1_code (1 : Nat) (Option.none : Option Jvm.ClassFile.FieldType), Jvm.Cond.code ({ cls := "java/lang/StringUTF16", name := "compress", desc := "([CII)[B" } : Jvm.MethodName) jdk_52_method_16_code (6 : Nat) (Option.some (Jvm.ClassFile.FieldType.array Jvm.ClassFile.FieldType.byte)), Jvm.Cond.code ({ cls := "java/lang/StringUTF16", name := "compress", desc := "([CI[BII)I" } : Jvm.MethodName) jdk_52_method_21_code (7 : Nat) (Option.some Jvm.ClassFile.FieldType.int), Jvm.Cond.code ({ cls := "java/lang/StringUTF16", name := "coderFromArrayLen", desc := "([BI)B" } : Jvm.MethodName) jdk_52_method_15_code (2 : Nat) (Option.some Jvm.ClassFile.FieldType.byte), Jvm.Cond.code ({ cls := "com/example/brinequil/brinequil/model/Fraction", name := "<init>", desc := "(Ljava/lang/String;DDDI)V" } : Jvm.MethodName) prog_30_method_1_code (9 : Nat) (Option.none : Option Jvm.ClassFile.FieldType), Jvm.Cond.code ({ cls := "java/lang/Record", name := "<init>", desc := "()V" } : Jvm.MethodName) jdk_30_method_1_code (1 : Nat) (Option.none : Option Jvm.ClassFile.FieldType), Jvm.Cond.code ({ cls := "com/example/brinequil/brinequil/model/Component", name := "nonAssociating", desc := "(Ljava/lang/String;DDD)Lcom/example/brinequil/brinequil/model/Component;" } : Jvm.MethodName) prog_24_method_2_code (15 : Nat) (Option.some (Jvm.ClassFile.FieldType.object "com/example/brinequil/brinequil/model/Component")), Jvm.Cond.code ({ cls := "com/example/brinequil/brinequil/model/Component", name := "requirePositive", desc := "(Ljava/lang/String;Ljava/lang/String;D)V" } : Jvm.MethodName) prog_24_method_4_code (4 : Nat) (Option.none : Option Jvm.ClassFile.FieldType), Jvm.Cond.code ({ cls := "java/lang/Double", name := "isFinite", desc := "(D)Z" } : Jvm.MethodName) jdk_117_method_8_code (2 : Nat) (Option.some Jvm.ClassFile.FieldType.boolean), Jvm.Cond.code ({ cls := "java/lang/Math", name := "abs", desc := "(D)D" } : Jvm.MethodName) jdk_29_method_64_code (2 : Nat) (Option.some Jvm.ClassFile.FieldType.double), Jvm.Cond.code ({ cls := "com/example/brinequil/brinequil/model/Component", name := "<init>", desc := "(Ljava/lang/String;DDDDDDLcom/example/brinequil/brinequil/model/AssociationScheme;)V" } : Jvm.MethodName) prog_24_method_1_code (15 : Nat) (Option.none : Option Jvm.ClassFile.FieldType), Jvm.Cond.code ({ cls := "java/lang/String", name := "isBlank", desc := "()Z" } : Jvm.MethodName) jdk_42_method_117_code (1 : Nat) (Option.some Jvm.ClassFile.FieldType.boolean), Jvm.Cond.code ({ cls := "java/lang/String", name := "indexOfNonWhitespace", desc := "()I" } : Jvm.MethodName) jdk_42_method_120_code (1 : Nat) (Option.some Jvm.ClassFile.FieldType.int), Jvm.Cond.code ({ cls := "java/lang/String", name := "isLatin1", desc := "()Z" } : Jvm.MethodName) jdk_42_method_154_code (1 : Nat) (Option.some Jvm.ClassFile.FieldType.boolean), Jvm.Cond.code ({ cls := "java/lang/StringLatin1", name := "indexOfNonWhitespace", desc := "([B)I" } : Jvm.MethodName) jdk_43_method_37_code (4 : Nat) (Option.some Jvm.ClassFile.FieldType.int), Jvm.Cond.code ({ cls := "java/lang/StringLatin1", name := "getChar", desc := "([BI)C" } : Jvm.MethodName) jdk_43_method_44_code (2 : Nat) (Option.some Jvm.ClassFile.FieldType.char), Jvm.Cond.code ({ cls := "java/lang/CharacterDataLatin1", name := "isWhitespace", desc := "(I)Z" } : Jvm.MethodName) jdk_116_method_26_code (3 : Nat) (Option.some Jvm.ClassFile.FieldType.boolean), Jvm.Cond.code ({ cls := "java/lang/CharacterDataLatin1", name := "getProperties", desc := "(I)I" } : Jvm.MethodName) jdk_116_method_1_code (4 : Nat) (Option.some Jvm.ClassFile.FieldType.int), Jvm.Cond.code ({ cls := "java/lang/String", name := "length", desc := "()I" } : Jvm.MethodName) jdk_42_method_54_code (1 : Nat) (Option.some Jvm.ClassFile.FieldType.int), Jvm.Cond.code ({ cls := "java/lang/String", name := "coder", desc := "()B" } : Jvm.MethodName) jdk_42_method_152_code (1 : Nat) (Option.some Jvm.ClassFile.FieldType.byte), Jvm.Cond.code ({ cls := "com/example/brinequil/brinequil/model/Fraction", name := "waterInteraction", desc := "()D" } : Jvm.MethodName) prog_30_method_3_code (3 : Nat) (Option.some Jvm.ClassFile.FieldType.double)]
set_option maxRecDepth 65536 in
theorem codes_eq : words1.filter isCode = codes1 := rfl
theorem w_codes : ∀ c ∈ words1.filter isCode, c.before args0 about1 = true := by
  rw [codes_eq]
  intro c hc
  simp only [codes1, List.mem_cons, List.not_mem_nil, or_false] at hc
  rcases hc with rfl | rfl | rfl | rfl | rfl | rfl | rfl | rfl | rfl | rfl | rfl | rfl | rfl | rfl | rfl | rfl | rfl | rfl | rfl | rfl | rfl | rfl | rfl | rfl | rfl
  · exact w_c0
  · exact w_c1
  · exact w_c2
  · exact w_c3
  · exact w_c4
  · exact w_c5
  · exact w_c6
  · exact w_c7
  · exact w_c8
  · exact w_c9
  · exact w_c10
  · exact w_c11
  · exact w_c12
  · exact w_c13
  · exact w_c14
  · exact w_c15
  · exact w_c16
  · exact w_c17
  · exact w_c18
  · exact w_c19
  · exact w_c20
  · exact w_c21
  · exact w_c22
  · exact w_c23
  · exact w_c24
set_option maxRecDepth 65536 in
theorem w_t1 : (words1.take 24).all (fun c => isCode c || c.before args0 about1) = true := by decide +kernel
set_option maxRecDepth 65536 in
theorem w_t2 : ((words1.drop 24).take 24).all (fun c => isCode c || c.before args0 about1) = true := by decide +kernel
set_option maxRecDepth 65536 in
theorem w_t3 : (((words1.drop 24).drop 24).take 24).all (fun c => isCode c || c.before args0 about1) = true := by decide +kernel
set_option maxRecDepth 65536 in
theorem w_t4 : ((((words1.drop 24).drop 24).drop 24).take 24).all (fun c => isCode c || c.before args0 about1) = true := by decide +kernel
set_option maxRecDepth 65536 in
theorem w_t5 : (((((words1.drop 24).drop 24).drop 24).drop 24).take 24).all (fun c => isCode c || c.before args0 about1) = true := by decide +kernel
set_option maxRecDepth 65536 in
theorem w_t6 : ((((((words1.drop 24).drop 24).drop 24).drop 24).drop 24).take 24).all (fun c => isCode c || c.before args0 about1) = true := by decide +kernel
set_option maxRecDepth 65536 in
theorem w_t7 : (((((((words1.drop 24).drop 24).drop 24).drop 24).drop 24).drop 24).take 24).all (fun c => isCode c || c.before args0 about1) = true := by decide +kernel
set_option maxRecDepth 65536 in
theorem w_t8 : (((((((words1.drop 24).drop 24).drop 24).drop 24).drop 24).drop 24).drop 24).all (fun c => isCode c || c.before args0 about1) = true := by decide +kernel
theorem w_tables : (allAtoms (Jvm.Cond.code x code maxLocals ret :: tables_1)).before args0 about1 = true := by
  rw [allAtoms_all]
  show words1.all (fun c => c.before args0 about1) = true
  refine all_split ?_ w_codes
  rw [← List.take_append_drop 24 words1, List.all_append, w_t1, ← List.take_append_drop 24 (words1.drop 24), List.all_append, w_t2, ← List.take_append_drop 24 ((words1.drop 24).drop 24), List.all_append, w_t3, ← List.take_append_drop 24 (((words1.drop 24).drop 24).drop 24), List.all_append, w_t4, ← List.take_append_drop 24 ((((words1.drop 24).drop 24).drop 24).drop 24), List.all_append, w_t5, ← List.take_append_drop 24 (((((words1.drop 24).drop 24).drop 24).drop 24).drop 24), List.all_append, w_t6, ← List.take_append_drop 24 ((((((words1.drop 24).drop 24).drop 24).drop 24).drop 24).drop 24), List.all_append, w_t7, w_t8]
  rfl
set_option maxRecDepth 65536 in
theorem w_rest : rest_1_c.before args0 about1 = true := by decide +kernel
set_option maxRecDepth 65536 in
theorem w_case : (Jvm.Cond.and given_1 narrow_1).before args0 about1 = true := by decide +kernel
theorem w_applies : (headSpec (Jvm.Cond.code x code maxLocals ret :: tables_1) room_1).applies x e0.platform about1 = true :=
  (Spec.applies_iff w_frames).mpr ⟨w_running, w_runnable, w_alone, w_named, w_hears, w_ripe, w_room, w_tables⟩
theorem atStart : AtStart classFile x code maxLocals ret World_1 tables_1 room_1 Calls_1 rest_1 Pre_1 launch0 p0 e0 about1 theMethod args0 below0 :=
  ⟨lists_1, trivial, launch0.admits_env _ _ _, launch0.least_env, fairChoices_fair.cas, fairChoices_fair.clock, w_frames, w_args, w_heap, w_applies, trivial, w_rest, w_case⟩
end start1
theorem witness_1 : WitnessClaimed_1 := ⟨start1.p0, start1.e0, start1.about1, start1.theMethod, start1.args0, start1.below0, start1.atStart⟩
end Jvm.Pilot.@@N@@
