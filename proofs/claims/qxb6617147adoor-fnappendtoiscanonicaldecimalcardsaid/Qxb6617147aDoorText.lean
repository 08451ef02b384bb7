/-
  The decimal text of an amount, with no Go in sight: what '(Micros).AppendTo' adds.
-/
import Derived.Lib.ItoaNum
import Derived.Lib.Walk
import Derived.Lib.ItoaMem
namespace Go.Proofs.Qxb6617147aDoor
open Go

/-- The digits behind the point: f < 10 ^ k, the digits of f at k places with the zeros at its end left out. -/
def fr : Nat → Nat → List UInt8
  | 0, _ => []
  | k + 1, f => if f = 0 then [] else UInt8.ofNat (48 + f / 10 ^ k) :: fr k (f % 10 ^ k)

/-- The text of q dollars and r micro-dollars. -/
def textQ (q r : Nat) : List UInt8 := Lib.decDigits q ++ (if r = 0 then [] else 46 :: fr 6 r)
/-- The text of m micro-dollars. -/
def text (m : Nat) : List UInt8 := textQ (m / 1000000) (m % 1000000)

theorem fr_zero (k : Nat) : fr k 0 = [] := by cases k <;> simp [fr]
theorem fr_length (k f : Nat) : (fr k f).length ≤ k := by
  induction k generalizing f with
  | zero => simp [fr]
  | succ k ih =>
    rw [fr]
    split
    · simp
    · have := ih (f % 10 ^ k); simp; omega


/-- The first difference of two rows of numbers from k on, r places long: -1, 0 or 1. -/
def fd (x y : Nat → Int) : Nat → Nat → Int
  | _, 0 => 0
  | k, r + 1 => if x k < y k then -1 else if y k < x k then 1 else fd x y (k + 1) r
/-- A row from place s on, 'len' places long, and zeros ('0') behind. -/
def padf (x : Nat → Int) (s len : Nat) : Nat → Int := fun k => if k < len then x (s + k) else 48

theorem fd_lt {x y : Nat → Int} {k n : Nat} (hk : k < n) (h : x k < y k) : fd x y k (n - k) = -1 := by
  obtain ⟨r, hr⟩ : ∃ r, n - k = r + 1 := ⟨n - k - 1, by omega⟩
  rw [hr, fd, if_pos h]
theorem fd_gt {x y : Nat → Int} {k n : Nat} (hk : k < n) (h : y k < x k) : fd x y k (n - k) = 1 := by
  obtain ⟨r, hr⟩ : ∃ r, n - k = r + 1 := ⟨n - k - 1, by omega⟩
  rw [hr, fd, if_neg (by omega), if_pos h]
theorem fd_eq {x y : Nat → Int} {k n : Nat} (hk : k < n) (h1 : ¬ x k < y k) (h2 : ¬ y k < x k) : fd x y k (n - k) = fd x y (k + 1) (n - (k + 1)) := by
  obtain ⟨r, hr⟩ : ∃ r, n - k = r + 1 := ⟨n - k - 1, by omega⟩
  rw [hr, fd, if_neg h1, if_neg h2, show n - (k + 1) = r by omega]
theorem fd_end {x y : Nat → Int} {k n : Nat} (hk : n ≤ k) : fd x y k (n - k) = 0 := by
  rw [show n - k = 0 by omega, fd]

end Go.Proofs.Qxb6617147aDoor
