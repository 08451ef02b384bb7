/-
  The walks of FnPeriodBeforeNextMonthCovers where both months lie in 1..12 and a next month exists: one theorem a way (where q lies against p and the month after p).
-/
import Derived.Test.Qxb6618495aCalls
import Derived.Deep.RegionHeld
namespace Go.Proofs.Qxb6618495a
open Go.ChangeShapes Go.WideShapes Go.ChangeAt Go.RowKit
set_option linter.unusedVariables false

set_option maxHeartbeats 1600000 in
theorem cMYA (a0 a1 a2 a3 : Int) (w : World) (h1 : 1 ≤ a1) (h1' : a1 ≤ 11) (h3 : 1 ≤ a3) (h3' : a3 ≤ 12) (hm : (a0 == 9223372036854775807) = false) (g0 : befB a0 a1 a0 (a1 + 1) = true) (g1 : befB a0 (a1 + 1) a0 a1 = false) (g2 : befB a2 a3 a0 (a1 + 1) = true) (g3 : befB a2 a3 a0 a1 = true) (g4 : befB a0 a1 a2 a3 = false) (g5 : befB a0 (a1 + 1) a2 a3 = false) (g6 : (a2 == a0) = false) :
    Calls Try.prog 4 #[.int .i64 a0, .int .i64 a1, .int .i64 a2, .int .i64 a3] w fun e w' => e = .returned (.bool true) ∧ Grown w w' := by
  go_enter Try.func4, Try.ntmps4
  go_wp2_with (first | (go_at_call 5; refine (zz_any _ _ _).mono ?_; rintro e w' ⟨rfl, rfl⟩) | (go_at_call 6; refine (bef_any _ _ _ _ _).mono ?_; rintro e w' ⟨rfl, rfl⟩))
  first
  | (go_region_held (fun w' => w'.cell? ⟨w.heap.size + 1, 0, none⟩ = some (.int .i64 (a0)) ∧ w'.cell? ⟨w.heap.size + 1, 1, none⟩ = some (.int .i64 (a1)) ∧ w'.cell? ⟨w.heap.size + 1 + 1 + 1, 0, none⟩ = some (.int .i64 (a0)) ∧ w'.cell? ⟨w.heap.size + 1 + 1 + 1, 1, none⟩ = some (.int .i64 (a1 + 1)) ∧ w'.cell? ⟨w.heap.size + 1 + 1 + 1 + 1 + 1, 0, none⟩ = some (.int .i64 (a2)) ∧ w'.cell? ⟨w.heap.size + 1 + 1 + 1 + 1 + 1, 1, none⟩ = some (.int .i64 (a3))) (first | (go_simp; done) | go_keep) (first | (go_at_call 6; refine (bef_any _ _ _ _ _).mono ?_; rintro e w' ⟨rfl, rfl⟩)))
  | fail
  rename_i hh
  clear hh
  go_wp2_with (first | (go_at_call 6; refine (bef_any _ _ _ _ _).mono ?_; rintro e w' ⟨rfl, rfl⟩))
  go_ret
  exact ⟨rfl, by repeat (first | with_reducible apply Grown.alloc | with_reducible apply Grown.drew | with_reducible exact Grown.refl _)⟩

set_option maxHeartbeats 1600000 in
theorem cMYB (a0 a1 a3 : Int) (w : World) (h1 : 1 ≤ a1) (h1' : a1 ≤ 11) (h3 : 1 ≤ a3) (h3' : a3 ≤ 12) (hm : (a0 == 9223372036854775807) = false) (g0 : befB a0 a1 a0 (a1 + 1) = true) (g1 : befB a0 (a1 + 1) a0 a1 = false) (g2 : befB a0 a3 a0 (a1 + 1) = true) (g3 : befB a0 a3 a0 a1 = true) (g4 : befB a0 a1 a0 a3 = false) (g5 : befB a0 (a1 + 1) a0 a3 = false) (g6 : (a3 == a1) = false) (g7 : (a3 == a1 + 1) = false) :
    Calls Try.prog 4 #[.int .i64 a0, .int .i64 a1, .int .i64 a0, .int .i64 a3] w fun e w' => e = .returned (.bool true) ∧ Grown w w' := by
  go_enter Try.func4, Try.ntmps4
  go_wp2_with (first | (go_at_call 5; refine (zz_any _ _ _).mono ?_; rintro e w' ⟨rfl, rfl⟩) | (go_at_call 6; refine (bef_any _ _ _ _ _).mono ?_; rintro e w' ⟨rfl, rfl⟩))
  first
  | (go_region_held (fun w' => w'.cell? ⟨w.heap.size + 1, 0, none⟩ = some (.int .i64 (a0)) ∧ w'.cell? ⟨w.heap.size + 1, 1, none⟩ = some (.int .i64 (a1)) ∧ w'.cell? ⟨w.heap.size + 1 + 1 + 1, 0, none⟩ = some (.int .i64 (a0)) ∧ w'.cell? ⟨w.heap.size + 1 + 1 + 1, 1, none⟩ = some (.int .i64 (a1 + 1)) ∧ w'.cell? ⟨w.heap.size + 1 + 1 + 1 + 1 + 1, 0, none⟩ = some (.int .i64 (a0)) ∧ w'.cell? ⟨w.heap.size + 1 + 1 + 1 + 1 + 1, 1, none⟩ = some (.int .i64 (a3))) (first | (go_simp; done) | go_keep) (first | (go_at_call 6; refine (bef_any _ _ _ _ _).mono ?_; rintro e w' ⟨rfl, rfl⟩)))
  | fail
  rename_i hh
  clear hh
  go_wp2_with (first | (go_at_call 6; refine (bef_any _ _ _ _ _).mono ?_; rintro e w' ⟨rfl, rfl⟩))
  go_ret
  exact ⟨rfl, by repeat (first | with_reducible apply Grown.alloc | with_reducible apply Grown.drew | with_reducible exact Grown.refl _)⟩

set_option maxHeartbeats 1600000 in
theorem cMYC (a0 a1 : Int) (w : World) (h1 : 1 ≤ a1) (h1' : a1 ≤ 11) (hm : (a0 == 9223372036854775807) = false) (g0 : befB a0 a1 a0 (a1 + 1) = true) (g1 : befB a0 (a1 + 1) a0 a1 = false) (g2 : befB a0 a1 a0 (a1 + 1) = true) (g3 : befB a0 a1 a0 a1 = false) (g4 : befB a0 a1 a0 a1 = false) (g5 : befB a0 (a1 + 1) a0 a1 = false) (g6 : (a1 == a1 + 1) = false) :
    Calls Try.prog 4 #[.int .i64 a0, .int .i64 a1, .int .i64 a0, .int .i64 a1] w fun e w' => e = .returned (.bool true) ∧ Grown w w' := by
  go_enter Try.func4, Try.ntmps4
  go_wp2_with (first | (go_at_call 5; refine (zz_any _ _ _).mono ?_; rintro e w' ⟨rfl, rfl⟩) | (go_at_call 6; refine (bef_any _ _ _ _ _).mono ?_; rintro e w' ⟨rfl, rfl⟩))
  first
  | (go_region_held (fun w' => w'.cell? ⟨w.heap.size + 1, 0, none⟩ = some (.int .i64 (a0)) ∧ w'.cell? ⟨w.heap.size + 1, 1, none⟩ = some (.int .i64 (a1)) ∧ w'.cell? ⟨w.heap.size + 1 + 1 + 1, 0, none⟩ = some (.int .i64 (a0)) ∧ w'.cell? ⟨w.heap.size + 1 + 1 + 1, 1, none⟩ = some (.int .i64 (a1 + 1)) ∧ w'.cell? ⟨w.heap.size + 1 + 1 + 1 + 1 + 1, 0, none⟩ = some (.int .i64 (a0)) ∧ w'.cell? ⟨w.heap.size + 1 + 1 + 1 + 1 + 1, 1, none⟩ = some (.int .i64 (a1))) (first | (go_simp; done) | go_keep) (first | (go_at_call 6; refine (bef_any _ _ _ _ _).mono ?_; rintro e w' ⟨rfl, rfl⟩)))
  | fail
  rename_i hh
  clear hh
  go_wp2_with (first | (go_at_call 6; refine (bef_any _ _ _ _ _).mono ?_; rintro e w' ⟨rfl, rfl⟩))
  go_ret
  exact ⟨rfl, by repeat (first | with_reducible apply Grown.alloc | with_reducible apply Grown.drew | with_reducible exact Grown.refl _)⟩

set_option maxHeartbeats 1600000 in
theorem cMYD (a0 a1 : Int) (w : World) (h1 : 1 ≤ a1) (h1' : a1 ≤ 11) (hm : (a0 == 9223372036854775807) = false) (g0 : befB a0 a1 a0 (a1 + 1) = true) (g1 : befB a0 (a1 + 1) a0 a1 = false) (g2 : befB a0 (a1 + 1) a0 (a1 + 1) = false) (g3 : befB a0 (a1 + 1) a0 a1 = false) (g4 : befB a0 a1 a0 (a1 + 1) = true) (g5 : (a1 + 1 == a1) = false) :
    Calls Try.prog 4 #[.int .i64 a0, .int .i64 a1, .int .i64 a0, .int .i64 (a1 + 1)] w fun e w' => e = .returned (.bool true) ∧ Grown w w' := by
  go_enter Try.func4, Try.ntmps4
  go_wp2_with (first | (go_at_call 5; refine (zz_any _ _ _).mono ?_; rintro e w' ⟨rfl, rfl⟩) | (go_at_call 6; refine (bef_any _ _ _ _ _).mono ?_; rintro e w' ⟨rfl, rfl⟩))
  first
  | (go_region_held (fun w' => w'.cell? ⟨w.heap.size + 1, 0, none⟩ = some (.int .i64 (a0)) ∧ w'.cell? ⟨w.heap.size + 1, 1, none⟩ = some (.int .i64 (a1)) ∧ w'.cell? ⟨w.heap.size + 1 + 1 + 1, 0, none⟩ = some (.int .i64 (a0)) ∧ w'.cell? ⟨w.heap.size + 1 + 1 + 1, 1, none⟩ = some (.int .i64 (a1 + 1)) ∧ w'.cell? ⟨w.heap.size + 1 + 1 + 1 + 1 + 1, 0, none⟩ = some (.int .i64 (a0)) ∧ w'.cell? ⟨w.heap.size + 1 + 1 + 1 + 1 + 1, 1, none⟩ = some (.int .i64 ((a1 + 1)))) (first | (go_simp; done) | go_keep) (first | (go_at_call 6; refine (bef_any _ _ _ _ _).mono ?_; rintro e w' ⟨rfl, rfl⟩)))
  | fail
  rename_i hh
  clear hh
  go_wp2_with (first | (go_at_call 6; refine (bef_any _ _ _ _ _).mono ?_; rintro e w' ⟨rfl, rfl⟩))
  go_ret
  exact ⟨rfl, by repeat (first | with_reducible apply Grown.alloc | with_reducible apply Grown.drew | with_reducible exact Grown.refl _)⟩

set_option maxHeartbeats 1600000 in
theorem cMYE (a0 a1 a3 : Int) (w : World) (h1 : 1 ≤ a1) (h1' : a1 ≤ 11) (h3 : 1 ≤ a3) (h3' : a3 ≤ 12) (hm : (a0 == 9223372036854775807) = false) (g0 : befB a0 a1 a0 (a1 + 1) = true) (g1 : befB a0 (a1 + 1) a0 a1 = false) (g2 : befB a0 a3 a0 (a1 + 1) = false) (g3 : befB a0 a3 a0 a1 = false) (g4 : befB a0 a1 a0 a3 = true) (g5 : befB a0 (a1 + 1) a0 a3 = true) (g6 : (a3 == a1) = false) (g7 : (a3 == a1 + 1) = false) :
    Calls Try.prog 4 #[.int .i64 a0, .int .i64 a1, .int .i64 a0, .int .i64 a3] w fun e w' => e = .returned (.bool true) ∧ Grown w w' := by
  go_enter Try.func4, Try.ntmps4
  go_wp2_with (first | (go_at_call 5; refine (zz_any _ _ _).mono ?_; rintro e w' ⟨rfl, rfl⟩) | (go_at_call 6; refine (bef_any _ _ _ _ _).mono ?_; rintro e w' ⟨rfl, rfl⟩))
  first
  | (go_region_held (fun w' => w'.cell? ⟨w.heap.size + 1, 0, none⟩ = some (.int .i64 (a0)) ∧ w'.cell? ⟨w.heap.size + 1, 1, none⟩ = some (.int .i64 (a1)) ∧ w'.cell? ⟨w.heap.size + 1 + 1 + 1, 0, none⟩ = some (.int .i64 (a0)) ∧ w'.cell? ⟨w.heap.size + 1 + 1 + 1, 1, none⟩ = some (.int .i64 (a1 + 1)) ∧ w'.cell? ⟨w.heap.size + 1 + 1 + 1 + 1 + 1, 0, none⟩ = some (.int .i64 (a0)) ∧ w'.cell? ⟨w.heap.size + 1 + 1 + 1 + 1 + 1, 1, none⟩ = some (.int .i64 (a3))) (first | (go_simp; done) | go_keep) (first | (go_at_call 6; refine (bef_any _ _ _ _ _).mono ?_; rintro e w' ⟨rfl, rfl⟩)))
  | fail
  rename_i hh
  clear hh
  go_wp2_with (first | (go_at_call 6; refine (bef_any _ _ _ _ _).mono ?_; rintro e w' ⟨rfl, rfl⟩))
  go_ret
  exact ⟨rfl, by repeat (first | with_reducible apply Grown.alloc | with_reducible apply Grown.drew | with_reducible exact Grown.refl _)⟩

set_option maxHeartbeats 1600000 in
theorem cMYF (a0 a1 a2 a3 : Int) (w : World) (h1 : 1 ≤ a1) (h1' : a1 ≤ 11) (h3 : 1 ≤ a3) (h3' : a3 ≤ 12) (hm : (a0 == 9223372036854775807) = false) (g0 : befB a0 a1 a0 (a1 + 1) = true) (g1 : befB a0 (a1 + 1) a0 a1 = false) (g2 : befB a2 a3 a0 (a1 + 1) = false) (g3 : befB a2 a3 a0 a1 = false) (g4 : befB a0 a1 a2 a3 = true) (g5 : befB a0 (a1 + 1) a2 a3 = true) (g6 : (a2 == a0) = false) :
    Calls Try.prog 4 #[.int .i64 a0, .int .i64 a1, .int .i64 a2, .int .i64 a3] w fun e w' => e = .returned (.bool true) ∧ Grown w w' := by
  go_enter Try.func4, Try.ntmps4
  go_wp2_with (first | (go_at_call 5; refine (zz_any _ _ _).mono ?_; rintro e w' ⟨rfl, rfl⟩) | (go_at_call 6; refine (bef_any _ _ _ _ _).mono ?_; rintro e w' ⟨rfl, rfl⟩))
  first
  | (go_region_held (fun w' => w'.cell? ⟨w.heap.size + 1, 0, none⟩ = some (.int .i64 (a0)) ∧ w'.cell? ⟨w.heap.size + 1, 1, none⟩ = some (.int .i64 (a1)) ∧ w'.cell? ⟨w.heap.size + 1 + 1 + 1, 0, none⟩ = some (.int .i64 (a0)) ∧ w'.cell? ⟨w.heap.size + 1 + 1 + 1, 1, none⟩ = some (.int .i64 (a1 + 1)) ∧ w'.cell? ⟨w.heap.size + 1 + 1 + 1 + 1 + 1, 0, none⟩ = some (.int .i64 (a2)) ∧ w'.cell? ⟨w.heap.size + 1 + 1 + 1 + 1 + 1, 1, none⟩ = some (.int .i64 (a3))) (first | (go_simp; done) | go_keep) (first | (go_at_call 6; refine (bef_any _ _ _ _ _).mono ?_; rintro e w' ⟨rfl, rfl⟩)))
  | fail
  rename_i hh
  clear hh
  go_wp2_with (first | (go_at_call 6; refine (bef_any _ _ _ _ _).mono ?_; rintro e w' ⟨rfl, rfl⟩))
  go_ret
  exact ⟨rfl, by repeat (first | with_reducible apply Grown.alloc | with_reducible apply Grown.drew | with_reducible exact Grown.refl _)⟩
end Go.Proofs.Qxb6618495a
