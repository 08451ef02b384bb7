/-
  Plain facts by which the text of an amount reads back as that amount, and the contract of parseCanonicalDollars at such a text.
-/
import Derived.Test.Qxb6617147aDoorLawB
import Derived.Test.Qxb6617147aDoorParse
namespace Go.Proofs.Qxb6617147aDoor
open Go Go.RowKit

theorem fr_last : ∀ k f, f < 10 ^ k → f ≠ 0 → ((fr k f).getD ((fr k f).length - 1) 0).toNat ≠ 48
  | 0, f, hf, h0 => by simp at hf; omega
  | k + 1, f, hf, h0 => by
    have hT : 0 < 10 ^ k := Nat.pow_pos (by omega)
    rw [Nat.pow_succ] at hf
    have hd : f / 10 ^ k < 10 := (Nat.div_lt_iff_lt_mul hT).2 (by omega)
    rw [fr, if_neg h0]
    by_cases hm : f % 10 ^ k = 0
    · rw [hm, fr_zero]
      simp only [List.length_cons, List.length_nil, Nat.zero_add, Nat.sub_self, List.getD_cons_zero]
      rw [digit_toNat (by omega)]
      have : f / 10 ^ k ≠ 0 := by
        intro e
        have := Nat.div_add_mod f (10 ^ k)
        rw [e, hm] at this
        omega
      omega
    · have ih := fr_last k (f % 10 ^ k) (Nat.mod_lt _ hT) hm
      have hpos : 1 ≤ (fr k (f % 10 ^ k)).length := by
        cases k with
        | zero => simp [Nat.mod_one] at hm
        | succ k => exact fr_pos (by omega) hm
      rw [List.length_cons, Nat.add_sub_cancel, show (fr k (f % 10 ^ k)).length = ((fr k (f % 10 ^ k)).length - 1) + 1 by omega, List.getD_cons_succ]
      exact ih

theorem step_digit (q e : Nat) : q / 10 ^ e = q / 10 ^ (e + 1) * 10 + q / 10 ^ e % 10 := by
  rw [Nat.pow_succ, ← Nat.div_div_eq_div_mul]; omega

theorem nDigits_le13 {q : Nat} (hq : q ≤ 9223372036854) : Lib.nDigits q ≤ 13 := by
  rcases Nat.lt_or_ge 13 (Lib.nDigits q) with h | h
  · have h2 := pow_le_nDigits q (by omega)
    have h3 : 10 ^ 13 ≤ 10 ^ (Lib.nDigits q - 1) := Nat.pow_le_pow_right (by omega) (by omega)
    omega
  · exact h

theorem lead_digit {q r : Nat} (h : 1 < Lib.nDigits q) : (xt (textQ q r) 0 == 48) = false := by
  rw [xt_int q r 0 (by omega)]
  have h2 := pow_le_nDigits q h
  have h1 := Lib.lt_pow_nDigits q
  have hT : 0 < 10 ^ (Lib.nDigits q - 1) := Nat.pow_pos (by omega)
  have h3 : 1 ≤ q / 10 ^ (Lib.nDigits q - 1) := (Nat.le_div_iff_mul_le hT).2 (by omega)
  have h4 : q / 10 ^ (Lib.nDigits q - 1) < 10 := (Nat.div_lt_iff_lt_mul hT).2 (by
    have e : 10 ^ Lib.nDigits q = 10 ^ (Lib.nDigits q - 1) * 10 := by
      rw [← Nat.pow_succ]; congr 1; omega
    omega)
  rw [Nat.sub_zero, Nat.mod_eq_of_lt h4, beq_eq_false_iff_ne]
  omega

/-- parseCanonicalDollars at the text of an amount, wherever it lies. -/
theorem parse_text (q r : Nat) (hq : q ≤ 9223372036854) (hr : r < 1000000) (g o cap : Nat) (w : World)
    (hcell : ∀ j, j < (textQ q r).length → w.cell? ⟨g, o + j, none⟩ = some (.int .u8 (xt (textQ q r) j))) :
    Calls Tryd.prog 7 #[.slice (some ⟨g, o, none⟩) (textQ q r).length cap] w fun e w' => e = .returned (.tuple #[.int .u64 ((q * 1000000 + r : Nat) : Int), .bool true]) ∧ w = w' := by
  have hl := textQ_length q r
  have hp := Lib.nDigits_pos q
  have hV : ∀ k, k < Lib.nDigits q → q / 10 ^ (Lib.nDigits q - (k + 1)) = q / 10 ^ (Lib.nDigits q - k) * 10 + q / 10 ^ (Lib.nDigits q - 1 - k) % 10 := fun k hk => by
    have := step_digit q (Lib.nDigits q - 1 - k)
    rw [show Lib.nDigits q - 1 - k + 1 = Lib.nDigits q - k by omega] at this
    rw [show Lib.nDigits q - (k + 1) = Lib.nDigits q - 1 - k by omega]
    exact this
  have hV0 : q / 10 ^ (Lib.nDigits q - 0) = 0 := by
    rw [Nat.sub_zero]; exact Nat.div_eq_of_lt (Lib.lt_pow_nDigits q)
  have hVp : q / 10 ^ (Lib.nDigits q - Lib.nDigits q) = q := by
    rw [Nat.sub_self, Nat.pow_zero, Nat.div_one]
  have hx : ∀ k, k < Lib.nDigits q → xt (textQ q r) k = 48 + ((q / 10 ^ (Lib.nDigits q - 1 - k) % 10 : Nat) : Int) := fun k hk => by
    rw [xt_int q r k hk]; omega
  by_cases h0 : r = 0
  · rw [if_pos h0] at hl
    rw [hl] at hcell ⊢
    subst h0
    simp only [Nat.add_zero]
    exact parse_int g o _ cap q (xt (textQ q 0)) (fun k => q / 10 ^ (Lib.nDigits q - k)) (fun k => q / 10 ^ (Lib.nDigits q - 1 - k) % 10) w hp (nDigits_le13 hq) lead_digit hV0 hV hVp (fun k => Nat.le_trans (Nat.div_le_self _ _) hq) (fun k => by omega) hx hcell
  · rw [if_neg h0] at hl
    rw [hl] at hcell ⊢
    have hla1 := fr_pos (k := 6) (by omega) h0
    have hla6 := fr_length 6 r
    refine parse_frac g o _ (fr 6 r).length cap q r (xt (textQ q r)) (fun k => q / 10 ^ (Lib.nDigits q - k)) (fun k => q / 10 ^ (Lib.nDigits q - 1 - k) % 10) (fun k => r / 10 ^ (6 - k)) (fun k => if k < 6 then r / 10 ^ (6 - 1 - k) % 10 else 0) w hp (nDigits_le13 hq) lead_digit hV0 hV hVp (fun k => Nat.le_trans (Nat.div_le_self _ _) hq) (fun k => by omega) hx (xt_dot q r h0) hla1 hla6 ?_ ?_ ?_ ?_ ?_ ?_ ?_ ?_ hcell
    · show r / 10 ^ 6 = 0
      omega
    · intro k hk
      have := step_digit r (5 - k)
      rw [show 5 - k + 1 = 6 - k by omega] at this
      show r / 10 ^ (6 - (k + 1)) = r / 10 ^ (6 - k) * 10 + (if k < 6 then r / 10 ^ (6 - 1 - k) % 10 else 0)
      rw [if_pos hk, show 6 - (k + 1) = 5 - k by omega, show 6 - 1 - k = 5 - k by omega]
      exact this
    · show r / 10 ^ 0 = r
      simp
    · intro k
      exact Nat.le_trans (Nat.div_le_self _ _) (by omega)
    · intro k
      show (if k < 6 then r / 10 ^ (6 - 1 - k) % 10 else 0) ≤ 9
      split <;> omega
    · intro k hk
      rw [xt_frac q r k h0]
      have := fr_digit 6 r k (by omega) (by omega)
      rw [if_pos hk] at this
      show (((fr 6 r).getD k 0).toNat : Int) = 48 + ((if k < 6 then r / 10 ^ (6 - 1 - k) % 10 else 0 : Nat) : Int)
      rw [if_pos (by omega), this]
      omega
    · intro k hk
      show (if k < 6 then r / 10 ^ (6 - 1 - k) % 10 else 0) = 0
      by_cases h6 : k < 6
      · have := fr_digit 6 r k (by omega) h6
        rw [if_neg (by omega)] at this
        rw [if_pos h6]; omega
      · rw [if_neg h6]
    · have hl := fr_last 6 r (by omega) h0
      have hx2 := xt_frac q r ((fr 6 r).length - 1) h0
      rw [show Lib.nDigits q + 1 + ((fr 6 r).length - 1) = Lib.nDigits q + (fr 6 r).length by omega] at hx2
      rw [hx2, beq_eq_false_iff_ne]
      omega
end Go.Proofs.Qxb6617147aDoor
