/-
  Plain law: the two texts are ordered as the two amounts. No Go in sight.
-/
import Derived.Test.Qxb6617147aDoorText
namespace Go.Proofs.Qxb6617147aDoor
open Go

/-- The sign of a - b. -/
def sgn (a b : Nat) : Int := if a < b then -1 else if b < a then 1 else 0

theorem sgn_self (a : Nat) : sgn a a = 0 := by simp [sgn]

/-- Rows of decimal digits compare as the numbers. -/
theorem fd_digits {x y : Nat → Int} (u v n : Nat) (hx : ∀ j, j < n → x j = ((48 + u / 10 ^ (n - 1 - j) % 10 : Nat) : Int)) (hy : ∀ j, j < n → y j = ((48 + v / 10 ^ (n - 1 - j) % 10 : Nat) : Int)) :
    ∀ r k, k + r = n → fd x y k r = sgn (u % 10 ^ r) (v % 10 ^ r) := by
  intro r
  induction r with
  | zero => intro k _; simp [fd, sgn, Nat.mod_one]
  | succ r ih =>
    intro k hk
    have e : n - 1 - k = r := by omega
    have hxk := hx k (by omega)
    have hyk := hy k (by omega)
    rw [e] at hxk hyk
    have hT : 0 < 10 ^ r := Nat.pow_pos (by omega)
    have ha := Nat.mod_lt u hT
    have hb := Nat.mod_lt v hT
    rw [fd, ih (k + 1) (by omega), Nat.mod_pow_succ, Nat.mod_pow_succ]
    generalize u / 10 ^ r % 10 = du at hxk ⊢
    generalize v / 10 ^ r % 10 = dv at hyk ⊢
    generalize u % 10 ^ r = a at ha ⊢
    generalize v % 10 ^ r = b at hb ⊢
    generalize 10 ^ r = T at hT ha hb ⊢
    rcases Nat.lt_trichotomy du dv with h | h | h
    · have h1 : T * (du + 1) ≤ T * dv := Nat.mul_le_mul_left T h
      rw [Nat.mul_add, Nat.mul_one] at h1
      rw [if_pos (by omega), sgn, if_pos (by omega)]
    · subst h
      rw [if_neg (by omega), if_neg (by omega)]
      unfold sgn
      by_cases h1 : a < b
      · rw [if_pos h1, if_pos (by omega)]
      · by_cases h2 : b < a
        · rw [if_neg h1, if_pos h2, if_neg (by omega), if_pos (by omega)]
        · rw [if_neg h1, if_neg h2, if_neg (by omega), if_neg (by omega)]
    · have h1 : T * (dv + 1) ≤ T * du := Nat.mul_le_mul_left T h
      rw [Nat.mul_add, Nat.mul_one] at h1
      rw [if_neg (by omega), if_pos (by omega), sgn, if_neg (by omega), if_pos (by omega)]

theorem fd_same {x y : Nat → Int} : ∀ s k, (∀ j, k ≤ j → x j = y j) → fd x y k s = 0
  | 0, _, _ => rfl
  | s + 1, k, h => by
    have := h k (Nat.le_refl _)
    rw [fd, if_neg (by omega), if_neg (by omega), fd_same s (k + 1) (fun j hj => h j (by omega))]

theorem fd_trunc {x y : Nat → Int} (s : Nat) : ∀ r k, (∀ j, k + r ≤ j → x j = y j) → fd x y k (r + s) = fd x y k r
  | 0, k, h => by rw [Nat.zero_add, fd_same s k (fun j hj => h j (by omega)), fd]
  | r + 1, k, h => by
    rw [show r + 1 + s = (r + s) + 1 by omega, fd, fd, fd_trunc s r (k + 1) (fun j hj => h j (by omega))]

theorem digit_toNat {d : Nat} (h : d ≤ 9) : (UInt8.ofNat (48 + d)).toNat = 48 + d := by
  simp; omega

/-- The digits behind the point, zeros behind them: the digits of f at k places. -/
theorem fr_digit : ∀ k f j, f < 10 ^ k → j < k → (if j < (fr k f).length then ((fr k f).getD j 0).toNat else 48) = 48 + f / 10 ^ (k - 1 - j) % 10
  | 0, f, j, _, hj => by omega
  | k + 1, f, j, hf, hj => by
    rw [fr]
    by_cases h0 : f = 0
    · subst h0; simp
    · rw [if_neg h0]
      have hT : 0 < 10 ^ k := Nat.pow_pos (by omega)
      rw [Nat.pow_succ] at hf
      have hd : f / 10 ^ k < 10 := (Nat.div_lt_iff_lt_mul hT).2 (by omega)
      cases j with
      | zero =>
        rw [if_pos (by simp)]
        simp only [List.getD_cons_zero, Nat.add_sub_cancel, Nat.sub_zero]
        rw [digit_toNat (by omega), Nat.mod_eq_of_lt hd]
      | succ j =>
        have ih := fr_digit k (f % 10 ^ k) j (Nat.mod_lt _ hT) (by omega)
        simp only [List.length_cons, List.getD_cons_succ, Nat.add_lt_add_iff_right]
        rw [ih, show k + 1 - 1 - (j + 1) = k - 1 - j by omega]
        congr 1
        obtain ⟨e, he⟩ : ∃ e, k = (k - 1 - j) + 1 + e := ⟨j, by omega⟩
        generalize k - 1 - j = t at he ⊢
        subst he
        have h1 : f % 10 ^ (t + 1 + e) / 10 ^ t % 10 = f / 10 ^ t % 10 := by
          rw [show (10 : Nat) ^ (t + 1 + e) = 10 ^ t * (10 * 10 ^ e) by rw [Nat.pow_add, Nat.pow_succ, Nat.mul_assoc]]
          rw [Nat.mod_mul_right_div_self, Nat.mod_mul_right_mod]
        exact h1

theorem fr_pos {k f : Nat} (hk : 0 < k) (h : f ≠ 0) : 1 ≤ (fr k f).length := by
  cases k with
  | zero => omega
  | succ k => rw [fr, if_neg h]; simp

end Go.Proofs.Qxb6617147aDoor
