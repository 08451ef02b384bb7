/-
  Plain law: the texts of two amounts, as rows of numbers, and how they compare. No Go in sight.
-/
import Derived.Test.Qxb6617147aDoorLawA
namespace Go.Proofs.Qxb6617147aDoor
open Go

theorem getD_left {α : Type} (l l' : List α) (d : α) (j : Nat) (h : j < l.length) : (l ++ l').getD j d = l.getD j d := by
  rw [List.getD_eq_getElem?_getD, List.getD_eq_getElem?_getD, List.getElem?_append_left h]
theorem getD_right {α : Type} (l l' : List α) (d : α) (j : Nat) (h : l.length ≤ j) : (l ++ l').getD j d = l'.getD (j - l.length) d := by
  rw [List.getD_eq_getElem?_getD, List.getD_eq_getElem?_getD, List.getElem?_append_right h]

/-- A text as a row of numbers. -/
def xt (l : List UInt8) : Nat → Int := fun j => ((l.getD j 0).toNat : Int)

theorem pow_le_nDigits (u : Nat) : 1 < Lib.nDigits u → 10 ^ (Lib.nDigits u - 1) ≤ u := by
  induction u using Nat.strongRecOn with
  | _ u ih =>
    intro h1
    by_cases h : u < 10
    · rw [Lib.nDigits_small h] at h1; omega
    · rw [Lib.nDigits_big h]
      rw [Nat.add_sub_cancel]
      by_cases h2 : 1 < Lib.nDigits (u / 10)
      · have := ih (u / 10) (by omega) h2
        obtain ⟨d, hd⟩ : ∃ d, Lib.nDigits (u / 10) = d + 1 := ⟨Lib.nDigits (u / 10) - 1, by omega⟩
        rw [hd] at this ⊢
        rw [Nat.add_sub_cancel] at this
        rw [Nat.pow_succ]; omega
      · have := Lib.nDigits_pos (u / 10)
        rw [show Lib.nDigits (u / 10) = 1 by omega]; omega

theorem nDigits_lt {a b : Nat} (h : Lib.nDigits a < Lib.nDigits b) : a < b := by
  have h1 := Lib.lt_pow_nDigits a
  have h0 := Lib.nDigits_pos a
  have h2 := pow_le_nDigits b (by omega)
  have h3 : 10 ^ Lib.nDigits a ≤ 10 ^ (Lib.nDigits b - 1) := Nat.pow_le_pow_right (by omega) (by omega)
  omega

theorem digits_at (q j : Nat) (h : j < Lib.nDigits q) : ((Lib.decDigits q).getD j 0).toNat = 48 + q / 10 ^ (Lib.nDigits q - 1 - j) % 10 := by
  rw [Lib.decDigits_eq]
  simp only [List.getD_eq_getElem?_getD, List.getElem?_map, List.getElem?_range h, Option.map_some, Option.getD_some]
  unfold Lib.dg
  exact digit_toNat (by omega)

theorem textQ_length (q r : Nat) : (textQ q r).length = if r = 0 then Lib.nDigits q else Lib.nDigits q + 1 + (fr 6 r).length := by
  unfold textQ
  split <;> simp [Lib.decDigits_length]
  omega

theorem xt_int (q r j : Nat) (h : j < Lib.nDigits q) : xt (textQ q r) j = ((48 + q / 10 ^ (Lib.nDigits q - 1 - j) % 10 : Nat) : Int) := by
  unfold xt textQ
  rw [getD_left _ _ _ _ (by rw [Lib.decDigits_length]; exact h), digits_at q j h]

theorem xt_int_ne (q r j : Nat) (h : j < Lib.nDigits q) : (xt (textQ q r) j == 46) = false := by
  rw [xt_int q r j h]; simp; omega

theorem xt_dot (q r : Nat) (h : r ≠ 0) : xt (textQ q r) (Lib.nDigits q) = 46 := by
  unfold xt textQ
  rw [getD_right _ _ _ _ (by rw [Lib.decDigits_length]; exact Nat.le_refl _), Lib.decDigits_length, if_neg h]
  simp

theorem xt_frac (q r j : Nat) (h : r ≠ 0) : xt (textQ q r) (Lib.nDigits q + 1 + j) = (((fr 6 r).getD j 0).toNat : Int) := by
  unfold xt textQ
  rw [getD_right _ _ _ _ (by rw [Lib.decDigits_length]; omega), Lib.decDigits_length, if_neg h, show Lib.nDigits q + 1 + j - Lib.nDigits q = j + 1 by omega, List.getD_cons_succ]

/-- The length of the fraction. -/
def fl (r : Nat) : Nat := (fr 6 r).length

theorem pad_digit (q r j : Nat) (hr : r < 1000000) (hj : j < 6) : padf (xt (textQ q r)) (Lib.nDigits q + 1) (fl r) j = ((48 + r / 10 ^ (6 - 1 - j) % 10 : Nat) : Int) := by
  have hd := fr_digit 6 r j (by omega) hj
  unfold padf fl
  by_cases h : j < (fr 6 r).length
  · rw [if_pos h] at hd ⊢
    have h0 : r ≠ 0 := by intro e; subst e; rw [fr_zero] at h; simp at h
    rw [xt_frac q r j h0, hd]
  · rw [if_neg h] at hd ⊢
    omega

theorem pad_far (x : Nat → Int) (s len j : Nat) (h : len ≤ j) : padf x s len j = 48 := by
  unfold padf; rw [if_neg (by omega)]

theorem cmp_int (q1 r1 q2 r2 : Nat) (h : Lib.nDigits q1 = Lib.nDigits q2) : fd (xt (textQ q1 r1)) (xt (textQ q2 r2)) 0 (Lib.nDigits q1) = sgn q1 q2 := by
  rw [fd_digits q1 q2 (Lib.nDigits q1) (fun j hj => xt_int q1 r1 j hj) (fun j hj => by rw [h]; exact xt_int q2 r2 j (by omega)) _ 0 (by omega)]
  rw [Nat.mod_eq_of_lt (Lib.lt_pow_nDigits q1), Nat.mod_eq_of_lt (by rw [h]; exact Lib.lt_pow_nDigits q2)]

theorem cmp_frac (q1 r1 q2 r2 p : Nat) (h : Lib.nDigits q1 = p) (h' : Lib.nDigits q2 = p) (h1 : r1 < 1000000) (h2 : r2 < 1000000) :
    fd (padf (xt (textQ q1 r1)) (p + 1) (fl r1)) (padf (xt (textQ q2 r2)) (p + 1) (fl r2)) 0 (max (fl r1) (fl r2)) = sgn r1 r2 := by
  have l1 : fl r1 ≤ 6 := fr_length 6 r1
  have l2 : fl r2 ≤ 6 := fr_length 6 r2
  have e := fd_digits (x := padf (xt (textQ q1 r1)) (p + 1) (fl r1)) (y := padf (xt (textQ q2 r2)) (p + 1) (fl r2)) r1 r2 6 (fun j hj => by rw [← h]; exact pad_digit q1 r1 j h1 hj) (fun j hj => by rw [← h']; exact pad_digit q2 r2 j h2 hj) 6 0 (by omega)
  rw [Nat.mod_eq_of_lt (by omega), Nat.mod_eq_of_lt (by omega)] at e
  rw [← e]
  obtain ⟨s, hs⟩ : ∃ s, 6 = max (fl r1) (fl r2) + s := ⟨6 - max (fl r1) (fl r2), by omega⟩
  rw [hs]
  exact (fd_trunc s _ 0 (fun j hj => by rw [pad_far _ _ _ _ (by omega), pad_far _ _ _ _ (by omega)])).symm

theorem sgn_whole (m1 m2 : Nat) : (if sgn (m1 / 1000000) (m2 / 1000000) = 0 then sgn (m1 % 1000000) (m2 % 1000000) else sgn (m1 / 1000000) (m2 / 1000000)) = sgn m1 m2 := by
  unfold sgn
  by_cases h1 : m1 / 1000000 < m2 / 1000000
  · rw [if_pos h1, if_neg (by omega), if_pos (by omega)]
  · by_cases h2 : m2 / 1000000 < m1 / 1000000
    · rw [if_neg h1, if_pos h2, if_neg (by omega), if_neg (by omega), if_pos (by omega)]
    · rw [if_neg h1, if_neg h2, if_pos rfl]
      by_cases h3 : m1 < m2
      · rw [if_pos h3, if_pos (by omega)]
      · by_cases h4 : m2 < m1
        · rw [if_neg h3, if_pos h4, if_neg (by omega), if_pos (by omega)]
        · rw [if_neg h3, if_neg h4, if_neg (by omega), if_neg (by omega)]

end Go.Proofs.Qxb6617147aDoor
