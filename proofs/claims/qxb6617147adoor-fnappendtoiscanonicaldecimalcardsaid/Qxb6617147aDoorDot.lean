import Derived.Test.Qxb6617147aDoorChecked
import Derived.Test.Qxb6617147aDoorText
import Derived.Lib.Hide
import Derived.WalkKit
import Derived.WalkSpells
import Derived.Deep.QuietTactic
import Derived.BigQuiet
namespace Go.Proofs.Qxb6617147aDoor
open Go Go.RowKit

set_option maxHeartbeats 400000 in
/-- dotIndex: the first place p that holds a point, or the length. -/
theorem dot_any (b o n cap p : Nat) (x : Nat → Int) (w : World) (hn : n ≤ 100000) (hp : p ≤ n) (hno : ∀ j, j < p → (x j == 46) = false) (hat : p < n → x p = 46)
    (hcell : ∀ j, j < n → w.cell? ⟨b, o + j, none⟩ = some (.int .u8 (x j))) :
    Calls Tryd.prog 11 #[.slice (some ⟨b, o, none⟩) n cap] w fun e w' => e = .returned (.int .i64 p) ∧ w' = w := by
  go_enter Tryd.func11, Tryd.ntmps11
  go_wp2
  go_loop [3] (fun i => ∃ k : Nat, k ≤ p ∧ i = .int .i64 k) (fun i => n - (intOf i).toNat)
  case atStart => exact ⟨0, Nat.zero_le _, rfl⟩
  case round =>
    obtain ⟨k, hk, rfl⟩ := hrel
    by_cases hkp : k < p
    · have hc := hcell k (by omega)
      have hx := hno k hkp
      have hkn : k < n := by omega
      clear hcell hno hat
      go_wp2
      go_round
      case rel => exact ⟨k + 1, by omega, by go_num⟩
      case measure => simp [intOf]; omega
    · obtain rfl : k = p := by omega
      clear hno
      by_cases hkn : k < n
      · have hc := hcell k hkn
        rw [hat hkn] at hc
        clear hcell hat
        go_wp2
        go_ret
        exact ⟨rfl, rfl⟩
      · obtain rfl : k = n := by omega
        clear hcell hat
        go_wp2
        go_ret
        exact ⟨rfl, rfl⟩

theorem ret_int {k : IntKind} {a b : Int} (h : a = b) : Ending.returned (.int k a) = .returned (.int k b) := by rw [h]

set_option maxHeartbeats 400000 in
/-- compareDecimalTexts where the integer parts differ in length. -/
theorem cmp_lt (b o n cap p b' o' n' cap' p' : Nat) (x y : Nat → Int) (w : World) (hn : n ≤ 100000) (hp : p ≤ n) (hno : ∀ j, j < p → (x j == 46) = false) (hat : p < n → x p = 46)
    (hn' : n' ≤ 100000) (hp' : p' ≤ n') (hno' : ∀ j, j < p' → (y j == 46) = false) (hat' : p' < n' → y p' = 46)
    (hcell : ∀ j, j < n → w.cell? ⟨b, o + j, none⟩ = some (.int .u8 (x j))) (hcell' : ∀ j, j < n' → w.cell? ⟨b', o' + j, none⟩ = some (.int .u8 (y j))) (hpp : p < p' ∨ p' < p) :
    Calls Tryd.prog 8 #[.slice (some ⟨b, o, none⟩) n cap, .slice (some ⟨b', o', none⟩) n' cap'] w fun e w' => e = .returned (.int .i64 (if p < p' then -1 else 1)) ∧ w' = w := by
  have H1 := Lib.hid (dot_any b o n cap p x w hn hp hno hat hcell)
  have H2 := Lib.hid (dot_any b' o' n' cap' p' y w hn' hp' hno' hat' hcell')
  clear hno hat hno' hat' hcell hcell'
  rcases hpp with h | h
  · rw [if_pos h]
    go_enter Tryd.func8, Tryd.ntmps8
    go_wp2_with (go_at_call 11; refine H1.out.mono ?_; rintro e w' ⟨rfl, rfl⟩; refine Hid.out ?_)
    refine Lib.hid ?_
    go_wp2_with (go_at_call 11; refine H2.out.mono ?_; rintro e w' ⟨rfl, rfl⟩)
    go_ret
    exact ⟨rfl, rfl⟩
  · rw [if_neg (by omega)]
    go_enter Tryd.func8, Tryd.ntmps8
    go_wp2_with (go_at_call 11; refine H1.out.mono ?_; rintro e w' ⟨rfl, rfl⟩; refine Hid.out ?_)
    refine Lib.hid ?_
    go_wp2_with (go_at_call 11; refine H2.out.mono ?_; rintro e w' ⟨rfl, rfl⟩)
    go_ret
    exact ⟨rfl, rfl⟩
end Go.Proofs.Qxb6617147aDoor
