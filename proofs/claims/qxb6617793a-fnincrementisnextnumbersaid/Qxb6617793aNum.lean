/-
  Decimal numerals as lists of bytes: their value, plus one, their order. No Go in sight.
-/
import Derived.Test.Qxb6617793aInc
import Derived.Lib.Bytealg
namespace Go.Proofs.Qxb6617793a
open Go

def Dig (l : List UInt8) : Prop := ∀ c ∈ l, 48 ≤ c.toNat ∧ c.toNat ≤ 57
def Canon (l : List UInt8) : Prop := l ≠ [] ∧ Dig l ∧ (1 < l.length → l.head? ≠ some 48)
def val : List UInt8 → Nat
  | [] => 0
  | c :: l => (c.toNat - 48) * 10 ^ l.length + val l

theorem val_snoc (l : List UInt8) (c : UInt8) : val (l ++ [c]) = val l * 10 + (c.toNat - 48) := by
  induction l with
  | nil => simp [val]
  | cons d r ih =>
    rw [List.cons_append, val, val, ih, List.length_append, List.length_singleton, Nat.pow_succ, Nat.add_mul, Nat.mul_assoc]
    omega

theorem val_lt (l : List UInt8) (h : Dig l) : val l < 10 ^ l.length := by
  induction l with
  | nil => simp [val]
  | cons d r ih =>
    have hr := ih (fun c hc => h c (by simp [hc]))
    have hd := h d (by simp)
    rw [val, List.length_cons, Nat.pow_succ]
    have h1 : (d.toNat - 48) * 10 ^ r.length ≤ 9 * 10 ^ r.length := Nat.mul_le_mul_right _ (by omega)
    omega

theorem val_ge (l : List UInt8) (h : Dig l) (hn : l ≠ []) (h0 : l.head? ≠ some 48) : 10 ^ (l.length - 1) ≤ val l := by
  cases l with
  | nil => exact absurd rfl hn
  | cons d r =>
    have hd := h d (by simp)
    have hd48 : d.toNat ≠ 48 := fun e => h0 (by
      have : d = 48 := by rw [← UInt8.toNat_inj]; exact e
      simp [this])
    rw [val, List.length_cons, Nat.add_sub_cancel]
    have h1 : 1 * 10 ^ r.length ≤ (d.toNat - 48) * 10 ^ r.length := Nat.mul_le_mul_right _ (by omega)
    omega

/-- The order of two numerals of one length. -/
theorem cmp_val : ∀ (x y : List UInt8), Dig x → Dig y → x.length = y.length → Lib.compareBytes x y = if val x < val y then -1 else if val y < val x then 1 else 0
  | [], [], _, _, _ => by simp [Lib.compareBytes, val]
  | [], _ :: _, _, _, h => by simp at h
  | _ :: _, [], _, _, h => by simp at h
  | a :: x, b :: y, hx, hy, h => by
    have hl : x.length = y.length := by simpa using h
    have ha := hx a (by simp)
    have hb := hy b (by simp)
    have vx := val_lt x (fun c hc => hx c (by simp [hc]))
    have vy := val_lt y (fun c hc => hy c (by simp [hc]))
    have ih := cmp_val x y (fun c hc => hx c (by simp [hc])) (fun c hc => hy c (by simp [hc])) hl
    rw [Lib.compareBytes, ih, val, val, hl]
    rw [hl] at vx
    simp only [UInt8.lt_iff_toNat_lt]
    generalize 10 ^ y.length = T at *
    rcases Nat.lt_trichotomy a.toNat b.toNat with e | e | e
    · have h1 : ((a.toNat - 48) + 1) * T ≤ (b.toNat - 48) * T := Nat.mul_le_mul_right _ (by omega)
      rw [Nat.add_mul, Nat.one_mul] at h1
      rw [if_pos e, if_pos (by omega)]
    · rw [if_neg (by omega), if_neg (by omega), e]
      generalize (b.toNat - 48) * T = q
      by_cases h1 : val x < val y
      · rw [if_pos h1, if_pos (by omega)]
      · by_cases h2 : val y < val x
        · rw [if_neg h1, if_pos h2, if_neg (by omega), if_pos (by omega)]
        · rw [if_neg h1, if_neg h2, if_neg (by omega), if_neg (by omega)]
    · have h1 : ((b.toNat - 48) + 1) * T ≤ (a.toNat - 48) * T := Nat.mul_le_mul_right _ (by omega)
      rw [Nat.add_mul, Nat.one_mul] at h1
      rw [if_neg (by omega), if_pos e, if_neg (by omega), if_pos (by omega)]

/-- Length, then the bytes: the order of the numbers. -/
def cmpL (x y : List UInt8) : Int := if x.length < y.length then -1 else if y.length < x.length then 1 else Lib.compareBytes x y

theorem longer_val {x y : List UInt8} (hx : Canon x) (hy : Canon y) (h : x.length < y.length) : val x < val y := by
  have h1 := val_lt x hx.2.1
  have hx1 : 1 ≤ x.length := by
    cases x with
    | nil => exact absurd rfl hx.1
    | cons a b => simp
  have h2 := val_ge y hy.2.1 hy.1 (hy.2.2 (by omega))
  have h3 : 10 ^ x.length ≤ 10 ^ (y.length - 1) := Nat.pow_le_pow_right (by omega) (by omega)
  omega

theorem cmpL_val {x y : List UInt8} (hx : Canon x) (hy : Canon y) : cmpL x y = if val x < val y then -1 else if val y < val x then 1 else 0 := by
  unfold cmpL
  by_cases h1 : x.length < y.length
  · have := longer_val hx hy h1
    rw [if_pos h1, if_pos this]
  · by_cases h2 : y.length < x.length
    · have := longer_val hy hx h2
      rw [if_neg h1, if_pos h2, if_neg (by omega), if_pos this]
    · rw [if_neg h1, if_neg h2, cmp_val x y hx.2.1 hy.2.1 (by omega)]

theorem Dig_left {a b : List UInt8} (h : Dig (a ++ b)) : Dig a := fun c hc => h c (by simp [hc])

/-- What holds of plus one, by taking the last digit off. -/
theorem inc_facts : ∀ (n : Nat) (l : List UInt8), l.length = n → Dig l → val (inc l) = val l + 1 ∧ Dig (inc l) ∧ inc l ≠ [] ∧ (l.head? ≠ some 48 → (inc l).head? ≠ some 48)
  | 0, l, hl, _ => by
    have : l = [] := by simpa using hl
    subst this
    refine ⟨by simp [inc_nil, val], ?_, by simp [inc_nil], fun _ => by simp [inc_nil]⟩
    rw [inc_nil]
    intro c hc
    simp at hc; subst hc; decide
  | n + 1, l, hl, hd => by
    obtain ⟨r, c, rfl⟩ : ∃ r c, l = r ++ [c] := by
      have hne : l ≠ [] := by intro e; subst e; simp at hl
      exact ⟨l.dropLast, l.getLast hne, (List.dropLast_concat_getLast hne).symm⟩
    have hrl : r.length = n := by simpa using hl
    have hc := hd c (by simp)
    have hr := Dig_left hd
    by_cases h9 : c = 57
    · subst h9
      obtain ⟨i1, i2, i3, i4⟩ := inc_facts n r hrl hr
      rw [inc_snoc_nine]
      refine ⟨?_, ?_, by simp, ?_⟩
      · rw [val_snoc, val_snoc, i1]
        have e1 : (57 : UInt8).toNat = 57 := rfl
        have e2 : (48 : UInt8).toNat = 48 := rfl
        rw [e1, e2]; omega
      · intro d hdm
        rcases List.mem_append.1 hdm with h | h
        · exact i2 d h
        · simp at h; subst h; decide
      · intro hh
        have h5 : (inc r ++ [48]).head? = (inc r).head? := by
          cases hir : inc r with
          | nil => exact absurd hir i3
          | cons a b => simp
        rw [h5]
        by_cases hr0 : r = []
        · subst hr0; simp [inc_nil]
        · refine i4 ?_
          intro e
          apply hh
          cases r with
          | nil => exact absurd rfl hr0
          | cons a b => simpa using e
    · rw [inc_snoc_ne _ _ h9]
      have hc57 : c.toNat ≠ 57 := fun e => h9 (by rw [← UInt8.toNat_inj]; exact e)
      have hc1 : (c + 1).toNat = c.toNat + 1 := by
        have : (1 : UInt8).toNat = 1 := rfl
        rw [UInt8.toNat_add, this]; omega
      refine ⟨?_, ?_, by simp, ?_⟩
      · rw [val_snoc, val_snoc, hc1]; omega
      · intro d hdm
        rcases List.mem_append.1 hdm with h | h
        · exact hr d h
        · simp at h; subst h; rw [hc1]; omega
      · intro hh
        cases r with
        | nil =>
          simp only [List.nil_append, List.head?_cons, ne_eq, Option.some.injEq]
          intro e
          have := congrArg UInt8.toNat e
          rw [hc1] at this
          have e2 : (48 : UInt8).toNat = 48 := rfl
          omega
        | cons a b => simpa using hh

theorem inc_canon {l : List UInt8} (h : Canon l) : Canon (inc l) ∧ val (inc l) = val l + 1 := by
  obtain ⟨i1, i2, i3, i4⟩ := inc_facts l.length l rfl h.2.1
  refine ⟨⟨i3, i2, fun hl => ?_⟩, i1⟩
  by_cases h0 : l.head? = some 48
  · exfalso
    have hlen : ¬ 1 < l.length := fun h1 => h.2.2 h1 h0
    cases l with
    | nil => simp at h0
    | cons a b =>
      have hb : b = [] := by
        cases b with
        | nil => rfl
        | cons _ _ => simp at hlen
      subst hb
      have ha : a = 48 := by simpa using h0
      subst ha
      have : inc [48] = [49] := by decide
      rw [this] at hl
      simp at hl
  · exact i4 h0

/-- THE LAW, with no Go in sight. -/
theorem next_law {n m : List UInt8} (hn : Canon n) (hm : Canon m) :
    cmpL n (inc n) = -1 ∧ ((cmpL m (inc n) = -1 ∧ (cmpL m n = -1 ∨ cmpL m n = 0)) ∨ ((cmpL m (inc n) = 0 ∨ cmpL m (inc n) = 1) ∧ cmpL m n = 1)) := by
  obtain ⟨hc, hv⟩ := inc_canon hn
  rw [cmpL_val hn hc, cmpL_val hm hc, cmpL_val hm hn, hv]
  refine ⟨by rw [if_pos (by omega)], ?_⟩
  rcases Nat.lt_trichotomy (val m) (val n) with h | h | h
  · left
    rw [if_pos (by omega), if_pos h]
    exact ⟨rfl, .inl rfl⟩
  · left
    rw [if_pos (by omega), if_neg (by omega), if_neg (by omega)]
    exact ⟨rfl, .inr rfl⟩
  · right
    rw [if_neg (by omega : ¬ val m < val n + 1), if_neg (by omega : ¬ val m < val n), if_pos h]
    refine ⟨?_, rfl⟩
    by_cases h2 : val n + 1 < val m
    · right; rw [if_pos h2]
    · left; rw [if_neg h2]
end Go.Proofs.Qxb6617793a
