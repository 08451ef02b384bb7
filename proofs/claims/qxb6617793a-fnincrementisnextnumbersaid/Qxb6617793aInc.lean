/-
  'The decimal number plus one', on lists of bytes. No Go in sight.
-/
namespace Go.Proofs.Qxb6617793a

/-- Plus one, the last digit first. -/
def incR : List UInt8 → List UInt8
  | [] => [49]
  | c :: r => if c = 57 then 48 :: incR r else (c + 1) :: r
/-- Plus one. -/
def inc (l : List UInt8) : List UInt8 := (incR l.reverse).reverse

theorem inc_nil : inc [] = [49] := rfl
theorem inc_snoc_ne (l : List UInt8) (c : UInt8) (h : c ≠ 57) : inc (l ++ [c]) = l ++ [c + 1] := by
  simp [inc, incR, h]
theorem inc_snoc_nine (l : List UInt8) : inc (l ++ [57]) = inc l ++ [48] := by
  simp [inc, incR]

theorem incR_length (l : List UInt8) : (incR l).length ≤ l.length + 1 := by
  induction l with
  | nil => simp [incR]
  | cons c r ih => rw [incR]; split <;> simp <;> omega
theorem inc_length (l : List UInt8) : (inc l).length ≤ l.length + 1 := by
  have := incR_length l.reverse
  simpa [inc] using this

theorem incR_ne (l : List UInt8) : incR l ≠ l := by
  cases l with
  | nil => simp [incR]
  | cons c r =>
    rw [incR]
    split
    · rename_i h; subst h; simp
    · simp
theorem inc_ne (l : List UInt8) : inc l ≠ l := by
  intro h
  have h2 := congrArg List.reverse h
  rw [inc, List.reverse_reverse] at h2
  exact incR_ne _ h2

theorem incR_append_nines (b a : List UInt8) (h : ∀ c ∈ b, c = 57) : incR (b ++ a) = List.replicate b.length 48 ++ incR a := by
  induction b with
  | nil => simp
  | cons c r ih =>
    have hc : c = 57 := h c (by simp)
    subst hc
    rw [List.cons_append, incR, if_pos rfl, ih (fun d hd => h d (by simp [hd]))]
    simp [List.replicate_succ]
theorem incR_append_some (b a : List UInt8) (h : ∃ c ∈ b, c ≠ 57) : incR (b ++ a) = incR b ++ a := by
  induction b with
  | nil => simp at h
  | cons c r ih =>
    rw [List.cons_append, incR, incR]
    by_cases hc : c = 57
    · rw [if_pos hc, if_pos hc, ih ?_, List.cons_append]
      obtain ⟨d, hd, hd'⟩ := h
      rcases List.mem_cons.1 hd with e | e
      · exact absurd (e.trans hc) hd'
      · exact ⟨d, e, hd'⟩
    · rw [if_neg hc, if_neg hc, List.cons_append]

/-- All nines behind: the carry goes through. -/
theorem inc_append_nines (a b : List UInt8) (h : ∀ c ∈ b, c = 57) : inc (a ++ b) = inc a ++ List.replicate b.length 48 := by
  unfold inc
  rw [List.reverse_append, incR_append_nines _ _ (fun c hc => h c (by simpa using hc))]
  simp
/-- Another byte behind: the carry stops there. -/
theorem inc_append_some (a b : List UInt8) (h : ∃ c ∈ b, c ≠ 57) : inc (a ++ b) = a ++ inc b := by
  unfold inc
  rw [List.reverse_append, incR_append_some _ _ (by obtain ⟨c, hc, hn⟩ := h; exact ⟨c, by simpa using hc, hn⟩)]
  simp

/-! The loop of 'increment': behind the places k, k+1, .. there stand zeros. -/

def St (l : List UInt8) (k : Nat) : List UInt8 := l.take k ++ List.replicate (l.length - k) 48
def Ix (l : List UInt8) (k : Nat) : Prop := inc l = inc (l.take k) ++ List.replicate (l.length - k) 48

theorem St_length {l : List UInt8} {k : Nat} (h : k ≤ l.length) : (St l k).length = l.length := by
  simp [St]; omega
theorem St_full (l : List UInt8) : St l l.length = l := by simp [St]
theorem Ix_full (l : List UInt8) : Ix l l.length := by simp [Ix]
theorem take_snoc {l : List UInt8} {k : Nat} (h : k < l.length) : l.take (k + 1) = l.take k ++ [l.getD k 0] := by
  rw [List.take_succ_eq_append_getElem h, List.getD_eq_getElem?_getD, List.getElem?_eq_getElem h]; rfl
theorem St_succ {l : List UInt8} {k : Nat} (h : k < l.length) : St l (k + 1) = l.take k ++ (l.getD k 0 :: List.replicate (l.length - (k + 1)) 48) := by
  rw [St, take_snoc h]; simp
theorem take_len {l : List UInt8} {k : Nat} (h : k < l.length) : (l.take k).length = k := by simp; omega
theorem St_at {l : List UInt8} {k : Nat} (h : k < l.length) : (St l (k + 1)).getD k 0 = l.getD k 0 := by
  rw [St_succ h, List.getD_eq_getElem?_getD, List.getElem?_append_right (by rw [take_len h]; exact Nat.le_refl _), take_len h]; simp
theorem St_set {l : List UInt8} {k : Nat} (h : k < l.length) (d : UInt8) : (St l (k + 1)).set k d = l.take k ++ (d :: List.replicate (l.length - (k + 1)) 48) := by
  rw [St_succ h, List.set_append_right _ _ (by rw [take_len h]; exact Nat.le_refl _), take_len h]; simp
theorem St_set_zero {l : List UInt8} {k : Nat} (h : k < l.length) : (St l (k + 1)).set k 48 = St l k := by
  rw [St_set h, St, show l.length - k = (l.length - (k + 1)) + 1 by omega, List.replicate_succ]
theorem Ix_nine {l : List UInt8} {k : Nat} (h : k < l.length) (hi : Ix l (k + 1)) (h9 : l.getD k 0 = 57) : Ix l k := by
  unfold Ix at *
  rw [hi, take_snoc h, h9, inc_snoc_nine, show l.length - k = (l.length - (k + 1)) + 1 by omega, List.replicate_succ]
  simp
theorem Ix_stop {l : List UInt8} {k : Nat} (h : k < l.length) (hi : Ix l (k + 1)) (h9 : l.getD k 0 ≠ 57) : inc l = (St l (k + 1)).set k (l.getD k 0 + 1) := by
  unfold Ix at hi
  rw [hi, take_snoc h, inc_snoc_ne _ _ h9, St_set h]
  simp
theorem Ix_end {l : List UInt8} (hi : Ix l 0) : inc l = 49 :: St l 0 := by
  unfold Ix at hi
  rw [hi]; simp [St, inc_nil]
end Go.Proofs.Qxb6617793a
