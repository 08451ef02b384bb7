/-
  The walks of FnPeriodBeforeNextMonthCovers where both months lie in 1..12 and a next month exists: one theorem a way (where q lies against p and the month after p).
-/
import Derived.Test.Qxb6618495aCalls
import Derived.Deep.RegionHeld
namespace Go.Proofs.Qxb6618495a
open Go.ChangeShapes Go.WideShapes Go.ChangeAt Go.RowKit
set_option linter.unusedVariables false

set_option maxHeartbeats 1600000 in
theorem c12A (a0 a2 a3 ny : Int) (w : World) (hw : wrap64 (a0 + 1) = ny) (h3 : 1 ≤ a3) (h3' : a3 ≤ 12) (hm : (a0 == 9223372036854775807) = false) (g0 : befB a0 12 ny 1 = true) (g1 : befB ny 1 a0 12 = false) (g2 : befB a2 a3 ny 1 = true) (g3 : befB a2 a3 a0 12 = true) (g4 : befB a0 12 a2 a3 = false) (g5 : befB ny 1 a2 a3 = false) (g6 : (a2 == a0) = false) (g7 : (a2 == ny) = false) :
    Calls Try.prog 4 #[.int .i64 a0, .int .i64 12, .int .i64 a2, .int .i64 a3] w fun e w' => e = .returned (.bool true) ∧ Grown w w' := by
  go_enter Try.func4, Try.ntmps4
  go_wp2_with (first | (go_at_call 5; refine (zz_any _ _ _).mono ?_; rintro e w' ⟨rfl, rfl⟩) | (go_at_call 6; refine (bef_any _ _ _ _ _).mono ?_; rintro e w' ⟨rfl, rfl⟩))
  first
  | (go_region_held (fun w' => w'.cell? ⟨w.heap.size + 1, 0, none⟩ = some (.int .i64 (a0)) ∧ w'.cell? ⟨w.heap.size + 1, 1, none⟩ = some (.int .i64 (12)) ∧ w'.cell? ⟨w.heap.size + 1 + 1 + 1, 0, none⟩ = some (.int .i64 (ny)) ∧ w'.cell? ⟨w.heap.size + 1 + 1 + 1, 1, none⟩ = some (.int .i64 (1)) ∧ w'.cell? ⟨w.heap.size + 1 + 1 + 1 + 1 + 1, 0, none⟩ = some (.int .i64 (a2)) ∧ w'.cell? ⟨w.heap.size + 1 + 1 + 1 + 1 + 1, 1, none⟩ = some (.int .i64 (a3))) (first | (go_simp; done) | go_keep) (first | (go_at_call 6; refine (bef_any _ _ _ _ _).mono ?_; rintro e w' ⟨rfl, rfl⟩)))
  | fail
  rename_i hh
  clear hh
  go_wp2_with (first | (go_at_call 6; refine (bef_any _ _ _ _ _).mono ?_; rintro e w' ⟨rfl, rfl⟩))
  go_ret
  exact ⟨rfl, by repeat (first | with_reducible apply Grown.alloc | with_reducible apply Grown.drew | with_reducible exact Grown.refl _)⟩

set_option maxHeartbeats 1600000 in
theorem c12B (a0 a3 ny : Int) (w : World) (hw : wrap64 (a0 + 1) = ny) (h3 : 1 ≤ a3) (h3' : a3 ≤ 12) (hm : (a0 == 9223372036854775807) = false) (g0 : befB a0 12 ny 1 = true) (g1 : befB ny 1 a0 12 = false) (g2 : befB a0 a3 ny 1 = true) (g3 : befB a0 a3 a0 12 = true) (g4 : befB a0 12 a0 a3 = false) (g5 : befB ny 1 a0 a3 = false) (g6 : (a3 == 12) = false) (g7 : (a0 == ny) = false) :
    Calls Try.prog 4 #[.int .i64 a0, .int .i64 12, .int .i64 a0, .int .i64 a3] w fun e w' => e = .returned (.bool true) ∧ Grown w w' := by
  go_enter Try.func4, Try.ntmps4
  go_wp2_with (first | (go_at_call 5; refine (zz_any _ _ _).mono ?_; rintro e w' ⟨rfl, rfl⟩) | (go_at_call 6; refine (bef_any _ _ _ _ _).mono ?_; rintro e w' ⟨rfl, rfl⟩))
  first
  | (go_region_held (fun w' => w'.cell? ⟨w.heap.size + 1, 0, none⟩ = some (.int .i64 (a0)) ∧ w'.cell? ⟨w.heap.size + 1, 1, none⟩ = some (.int .i64 (12)) ∧ w'.cell? ⟨w.heap.size + 1 + 1 + 1, 0, none⟩ = some (.int .i64 (ny)) ∧ w'.cell? ⟨w.heap.size + 1 + 1 + 1, 1, none⟩ = some (.int .i64 (1)) ∧ w'.cell? ⟨w.heap.size + 1 + 1 + 1 + 1 + 1, 0, none⟩ = some (.int .i64 (a0)) ∧ w'.cell? ⟨w.heap.size + 1 + 1 + 1 + 1 + 1, 1, none⟩ = some (.int .i64 (a3))) (first | (go_simp; done) | go_keep) (first | (go_at_call 6; refine (bef_any _ _ _ _ _).mono ?_; rintro e w' ⟨rfl, rfl⟩)))
  | fail
  rename_i hh
  clear hh
  go_wp2_with (first | (go_at_call 6; refine (bef_any _ _ _ _ _).mono ?_; rintro e w' ⟨rfl, rfl⟩))
  go_ret
  exact ⟨rfl, by repeat (first | with_reducible apply Grown.alloc | with_reducible apply Grown.drew | with_reducible exact Grown.refl _)⟩

set_option maxHeartbeats 1600000 in
theorem c12C (a0 ny : Int) (w : World) (hw : wrap64 (a0 + 1) = ny) (hm : (a0 == 9223372036854775807) = false) (g0 : befB a0 12 ny 1 = true) (g1 : befB ny 1 a0 12 = false) (g2 : befB a0 12 ny 1 = true) (g3 : befB a0 12 a0 12 = false) (g4 : befB a0 12 a0 12 = false) (g5 : befB ny 1 a0 12 = false) (g6 : (a0 == ny) = false) :
    Calls Try.prog 4 #[.int .i64 a0, .int .i64 12, .int .i64 a0, .int .i64 12] w fun e w' => e = .returned (.bool true) ∧ Grown w w' := by
  go_enter Try.func4, Try.ntmps4
  go_wp2_with (first | (go_at_call 5; refine (zz_any _ _ _).mono ?_; rintro e w' ⟨rfl, rfl⟩) | (go_at_call 6; refine (bef_any _ _ _ _ _).mono ?_; rintro e w' ⟨rfl, rfl⟩))
  first
  | (go_region_held (fun w' => w'.cell? ⟨w.heap.size + 1, 0, none⟩ = some (.int .i64 (a0)) ∧ w'.cell? ⟨w.heap.size + 1, 1, none⟩ = some (.int .i64 (12)) ∧ w'.cell? ⟨w.heap.size + 1 + 1 + 1, 0, none⟩ = some (.int .i64 (ny)) ∧ w'.cell? ⟨w.heap.size + 1 + 1 + 1, 1, none⟩ = some (.int .i64 (1)) ∧ w'.cell? ⟨w.heap.size + 1 + 1 + 1 + 1 + 1, 0, none⟩ = some (.int .i64 (a0)) ∧ w'.cell? ⟨w.heap.size + 1 + 1 + 1 + 1 + 1, 1, none⟩ = some (.int .i64 (12))) (first | (go_simp; done) | go_keep) (first | (go_at_call 6; refine (bef_any _ _ _ _ _).mono ?_; rintro e w' ⟨rfl, rfl⟩)))
  | fail
  rename_i hh
  clear hh
  go_wp2_with (first | (go_at_call 6; refine (bef_any _ _ _ _ _).mono ?_; rintro e w' ⟨rfl, rfl⟩))
  go_ret
  exact ⟨rfl, by repeat (first | with_reducible apply Grown.alloc | with_reducible apply Grown.drew | with_reducible exact Grown.refl _)⟩

set_option maxHeartbeats 1600000 in
theorem c12D (a0 ny : Int) (w : World) (hw : wrap64 (a0 + 1) = ny) (hm : (a0 == 9223372036854775807) = false) (g0 : befB a0 12 ny 1 = true) (g1 : befB ny 1 a0 12 = false) (g2 : befB ny 1 ny 1 = false) (g3 : befB ny 1 a0 12 = false) (g4 : befB a0 12 ny 1 = true) (g5 : (ny == a0) = false) :
    Calls Try.prog 4 #[.int .i64 a0, .int .i64 12, .int .i64 ny, .int .i64 1] w fun e w' => e = .returned (.bool true) ∧ Grown w w' := by
  go_enter Try.func4, Try.ntmps4
  go_wp2_with (first | (go_at_call 5; refine (zz_any _ _ _).mono ?_; rintro e w' ⟨rfl, rfl⟩) | (go_at_call 6; refine (bef_any _ _ _ _ _).mono ?_; rintro e w' ⟨rfl, rfl⟩))
  first
  | (go_region_held (fun w' => w'.cell? ⟨w.heap.size + 1, 0, none⟩ = some (.int .i64 (a0)) ∧ w'.cell? ⟨w.heap.size + 1, 1, none⟩ = some (.int .i64 (12)) ∧ w'.cell? ⟨w.heap.size + 1 + 1 + 1, 0, none⟩ = some (.int .i64 (ny)) ∧ w'.cell? ⟨w.heap.size + 1 + 1 + 1, 1, none⟩ = some (.int .i64 (1)) ∧ w'.cell? ⟨w.heap.size + 1 + 1 + 1 + 1 + 1, 0, none⟩ = some (.int .i64 (ny)) ∧ w'.cell? ⟨w.heap.size + 1 + 1 + 1 + 1 + 1, 1, none⟩ = some (.int .i64 (1))) (first | (go_simp; done) | go_keep) (first | (go_at_call 6; refine (bef_any _ _ _ _ _).mono ?_; rintro e w' ⟨rfl, rfl⟩)))
  | fail
  rename_i hh
  clear hh
  go_wp2_with (first | (go_at_call 6; refine (bef_any _ _ _ _ _).mono ?_; rintro e w' ⟨rfl, rfl⟩))
  go_ret
  exact ⟨rfl, by repeat (first | with_reducible apply Grown.alloc | with_reducible apply Grown.drew | with_reducible exact Grown.refl _)⟩

set_option maxHeartbeats 1600000 in
theorem c12E (a0 a3 ny : Int) (w : World) (hw : wrap64 (a0 + 1) = ny) (h3 : 1 ≤ a3) (h3' : a3 ≤ 12) (hm : (a0 == 9223372036854775807) = false) (g0 : befB a0 12 ny 1 = true) (g1 : befB ny 1 a0 12 = false) (g2 : befB ny a3 ny 1 = false) (g3 : befB ny a3 a0 12 = false) (g4 : befB a0 12 ny a3 = true) (g5 : befB ny 1 ny a3 = true) (g6 : (ny == a0) = false) (g7 : (a3 == 1) = false) :
    Calls Try.prog 4 #[.int .i64 a0, .int .i64 12, .int .i64 ny, .int .i64 a3] w fun e w' => e = .returned (.bool true) ∧ Grown w w' := by
  go_enter Try.func4, Try.ntmps4
  go_wp2_with (first | (go_at_call 5; refine (zz_any _ _ _).mono ?_; rintro e w' ⟨rfl, rfl⟩) | (go_at_call 6; refine (bef_any _ _ _ _ _).mono ?_; rintro e w' ⟨rfl, rfl⟩))
  first
  | (go_region_held (fun w' => w'.cell? ⟨w.heap.size + 1, 0, none⟩ = some (.int .i64 (a0)) ∧ w'.cell? ⟨w.heap.size + 1, 1, none⟩ = some (.int .i64 (12)) ∧ w'.cell? ⟨w.heap.size + 1 + 1 + 1, 0, none⟩ = some (.int .i64 (ny)) ∧ w'.cell? ⟨w.heap.size + 1 + 1 + 1, 1, none⟩ = some (.int .i64 (1)) ∧ w'.cell? ⟨w.heap.size + 1 + 1 + 1 + 1 + 1, 0, none⟩ = some (.int .i64 (ny)) ∧ w'.cell? ⟨w.heap.size + 1 + 1 + 1 + 1 + 1, 1, none⟩ = some (.int .i64 (a3))) (first | (go_simp; done) | go_keep) (first | (go_at_call 6; refine (bef_any _ _ _ _ _).mono ?_; rintro e w' ⟨rfl, rfl⟩)))
  | fail
  rename_i hh
  clear hh
  go_wp2_with (first | (go_at_call 6; refine (bef_any _ _ _ _ _).mono ?_; rintro e w' ⟨rfl, rfl⟩))
  go_ret
  exact ⟨rfl, by repeat (first | with_reducible apply Grown.alloc | with_reducible apply Grown.drew | with_reducible exact Grown.refl _)⟩

set_option maxHeartbeats 1600000 in
theorem c12F (a0 a2 a3 ny : Int) (w : World) (hw : wrap64 (a0 + 1) = ny) (h3 : 1 ≤ a3) (h3' : a3 ≤ 12) (hm : (a0 == 9223372036854775807) = false) (g0 : befB a0 12 ny 1 = true) (g1 : befB ny 1 a0 12 = false) (g2 : befB a2 a3 ny 1 = false) (g3 : befB a2 a3 a0 12 = false) (g4 : befB a0 12 a2 a3 = true) (g5 : befB ny 1 a2 a3 = true) (g6 : (a2 == a0) = false) (g7 : (a2 == ny) = false) :
    Calls Try.prog 4 #[.int .i64 a0, .int .i64 12, .int .i64 a2, .int .i64 a3] w fun e w' => e = .returned (.bool true) ∧ Grown w w' := by
  go_enter Try.func4, Try.ntmps4
  go_wp2_with (first | (go_at_call 5; refine (zz_any _ _ _).mono ?_; rintro e w' ⟨rfl, rfl⟩) | (go_at_call 6; refine (bef_any _ _ _ _ _).mono ?_; rintro e w' ⟨rfl, rfl⟩))
  first
  | (go_region_held (fun w' => w'.cell? ⟨w.heap.size + 1, 0, none⟩ = some (.int .i64 (a0)) ∧ w'.cell? ⟨w.heap.size + 1, 1, none⟩ = some (.int .i64 (12)) ∧ w'.cell? ⟨w.heap.size + 1 + 1 + 1, 0, none⟩ = some (.int .i64 (ny)) ∧ w'.cell? ⟨w.heap.size + 1 + 1 + 1, 1, none⟩ = some (.int .i64 (1)) ∧ w'.cell? ⟨w.heap.size + 1 + 1 + 1 + 1 + 1, 0, none⟩ = some (.int .i64 (a2)) ∧ w'.cell? ⟨w.heap.size + 1 + 1 + 1 + 1 + 1, 1, none⟩ = some (.int .i64 (a3))) (first | (go_simp; done) | go_keep) (first | (go_at_call 6; refine (bef_any _ _ _ _ _).mono ?_; rintro e w' ⟨rfl, rfl⟩)))
  | fail
  rename_i hh
  clear hh
  go_wp2_with (first | (go_at_call 6; refine (bef_any _ _ _ _ _).mono ?_; rintro e w' ⟨rfl, rfl⟩))
  go_ret
  exact ⟨rfl, by repeat (first | with_reducible apply Grown.alloc | with_reducible apply Grown.drew | with_reducible exact Grown.refl _)⟩
end Go.Proofs.Qxb6618495a
