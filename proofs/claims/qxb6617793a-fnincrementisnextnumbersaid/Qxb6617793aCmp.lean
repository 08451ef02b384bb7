/-
  Contracts of ZZVersion and (Version).Compare.
-/
import Derived.Test.Qxb6617793aShelf
import Derived.Test.Qxb6617793aCalls
import Derived.Deep.QuietTactic
import Derived.BigQuiet
namespace Go.Proofs.Qxb6617793a
open Go Go.RowKit

set_option maxHeartbeats 400000 in
theorem zv_any (t a b c : ByteArray) (w : World) :
    Calls Try.prog 9 #[.string t, .string a, .string b, .string c] w fun e w' => e = .returned (.agg #[.string t, .string a, .string b, .string c]) ∧ w' = w.alloc (.cells #[.string t, .string a, .string b, .string c] 26) := by
  go_enter Try.func9, Try.ntmps9
  go_wp2
  exact bodyPost_ret (v := .agg #[.string t, .string a, .string b, .string c]) (by simp [results, Try.results9, go_sem]) rfl ⟨rfl, rfl⟩

/-- What Compare answers at two versions that differ in their first parts alone. -/
def cmpZ (x y : ByteArray) : Int := if x.size < y.size then -1 else if y.size < x.size then 1 else Lib.compareBytes x.data.toList y.data.toList
theorem ret_int {k : IntKind} {a b : Int} (h : a = b) : Ending.returned (.int k a) = .returned (.int k b) := by rw [h]
def z0 : ByteArray := ⟨#[48]⟩
theorem z0_size : z0.size = 1 := rfl
theorem z0_cmp : Lib.compareBytes z0.data.toList z0.data.toList = 0 := by decide

theorem dd2 (w : World) (a b : Nat) : ∃ nq, (w.drewN a).drewN b = w.drewN nq := ⟨_, World.drewN_drewN _ _ _⟩

set_option maxHeartbeats 1600000 in
theorem cmp_any (t x u y z : ByteArray) (hz : z = z0) (w : World) :
    Calls Try.prog 11 #[.agg #[.string t, .string x, .string z, .string z], .agg #[.string u, .string y, .string z, .string z]] w fun e w' => e = .returned (.int .i64 (cmpZ x y)) ∧ ∃ nq, w' = ((w.alloc (.cells #[.string t, .string x, .string z, .string z] 26)).alloc (.cells #[.string u, .string y, .string z, .string z] 26)).drewN nq := by
  have HZ := Lib.hid hz
  have hzs : z.size = 1 := by rw [hz]; rfl
  have hzc : Lib.compareBytes z.data.toList z.data.toList = 0 := by rw [hz]; exact z0_cmp
  clear hz
  go_enter Try.func11, Try.ntmps11
  go_wp2
  go_loopw [9] (fun i wr => ∃ k : Nat, k ≤ 3 ∧ i = .int .i64 k ∧ Hid (0 < k → cmpZ x y = 0) ∧ ∃ nq, wr = ((w.alloc (.cells #[.string t, .string x, .string z, .string z] 26)).alloc (.cells #[.string u, .string y, .string z, .string z] 26)).drewN nq) (fun i _ => 3 - (intOf i).toNat)
  case atStart => exact ⟨0, by omega, rfl, fun h => by omega, 0, rfl⟩
  case round =>
    obtain ⟨k, hk, rfl, HK, nq, rfl⟩ := hrel
    rcases (by omega : k = 0 ∨ k = 1 ∨ k = 2 ∨ k = 3) with rfl | rfl | rfl | rfl
    · by_cases h1 : x.size < y.size
      · have HE : Hid (cmpZ x y = -1) := by show cmpZ x y = -1; rw [cmpZ, if_pos h1]
        have hne : ((x.size : Int) != (y.size : Int)) = true := by simp; omega
        go_wp2
        go_quiet (fail)
        go_wp2
        go_ret
        refine ⟨ret_int HE.out.symm, by first | exact ⟨_, rfl⟩ | exact dd2 _ _ _⟩
      by_cases h2 : y.size < x.size
      · have HE : Hid (cmpZ x y = 1) := by show cmpZ x y = 1; rw [cmpZ, if_neg h1, if_pos h2]
        have hne : ((x.size : Int) != (y.size : Int)) = true := by simp; omega
        go_wp2
        go_quiet (fail)
        go_wp2
        go_ret
        refine ⟨ret_int HE.out.symm, by first | exact ⟨_, rfl⟩ | exact dd2 _ _ _⟩
      have HE : Hid (cmpZ x y = Lib.compareBytes x.data.toList y.data.toList) := by show cmpZ x y = _; rw [cmpZ, if_neg h1, if_neg h2]
      have hne : ((x.size : Int) != (y.size : Int)) = false := by simp; omega
      have HC := Lib.hid (Try.strings_Compare x y)
      by_cases h3 : Lib.compareBytes x.data.toList y.data.toList = 0
      · have HN : Hid (0 < 0 + 1 → cmpZ x y = 0) := fun _ => HE.out.trans h3
        have hC0 : ∀ w', Calls Try.prog 18 #[.string x, .string y] w' fun e w'' => e = .returned (.int .i64 0) ∧ w' = w'' := fun w' => (HC.out w').mono fun e w'' h => ⟨by rw [h.1, h3], h.2.symm⟩
        have HC0 := Lib.hid hC0
        clear HC hC0 h3 HE
        go_wp2
        go_quiet (fail)
        go_wp2_with (go_at_call 18; refine (HC0.out _).mono ?_; rintro e w' ⟨rfl, rfl⟩)
        go_roundw
        case rel => exact ⟨1, by omega, rfl, HN, by first | exact ⟨_, rfl⟩ | exact dd2 _ _ _⟩
        case measure => simp [intOf]
      · obtain ⟨c, hc⟩ : ∃ c, c = Lib.compareBytes x.data.toList y.data.toList := ⟨_, rfl⟩
        have hC0 : ∀ w', Calls Try.prog 18 #[.string x, .string y] w' fun e w'' => e = .returned (.int .i64 c) ∧ w' = w'' := fun w' => (HC.out w').mono fun e w'' h => ⟨by rw [h.1, hc], h.2.symm⟩
        have HC0 := Lib.hid hC0
        rw [← hc] at h3 HE
        have hcn : (c != 0) = true := by simp; exact h3
        clear HC hC0 h3 hc
        go_wp2
        go_quiet (fail)
        go_wp2_with (go_at_call 18; refine (HC0.out _).mono ?_; rintro e w' ⟨rfl, rfl⟩)
        go_ret
        exact ⟨ret_int HE.out.symm, by first | exact ⟨_, rfl⟩ | exact dd2 _ _ _⟩
    · have hC0 : ∀ w', Calls Try.prog 18 #[.string z, .string z] w' fun e w'' => e = .returned (.int .i64 0) ∧ w' = w'' := fun w' => (Try.strings_Compare z z w').mono fun e w'' h => ⟨by rw [h.1, hzc], h.2.symm⟩
      have HC0 := Lib.hid hC0
      have HN : Hid (0 < 1 + 1 → cmpZ x y = 0) := fun _ => HK.out (by omega)
      clear hC0 hzc
      go_wp2
      go_quiet (fail)
      go_wp2_with (go_at_call 18; refine (HC0.out _).mono ?_; rintro e w' ⟨rfl, rfl⟩)
      go_roundw
      case rel => exact ⟨2, by omega, rfl, HN, by first | exact ⟨_, rfl⟩ | exact dd2 _ _ _⟩
      case measure => simp [intOf]
    · have hC0 : ∀ w', Calls Try.prog 18 #[.string z, .string z] w' fun e w'' => e = .returned (.int .i64 0) ∧ w' = w'' := fun w' => (Try.strings_Compare z z w').mono fun e w'' h => ⟨by rw [h.1, hzc], h.2.symm⟩
      have HC0 := Lib.hid hC0
      have HN : Hid (0 < 2 + 1 → cmpZ x y = 0) := fun _ => HK.out (by omega)
      clear hC0 hzc
      go_wp2
      go_quiet (fail)
      go_wp2_with (go_at_call 18; refine (HC0.out _).mono ?_; rintro e w' ⟨rfl, rfl⟩)
      go_roundw
      case rel => exact ⟨3, by omega, rfl, HN, by first | exact ⟨_, rfl⟩ | exact dd2 _ _ _⟩
      case measure => simp [intOf]
    · go_wp2
      go_ret
      exact ⟨ret_int (HK.out (by omega)).symm, by first | exact ⟨_, rfl⟩ | exact dd2 _ _ _⟩
end Go.Proofs.Qxb6617793a
