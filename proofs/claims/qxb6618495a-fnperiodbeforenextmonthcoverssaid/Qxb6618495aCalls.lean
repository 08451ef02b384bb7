import Derived.Test.Qxb6618495aRows
import Derived.WalkKit
import Derived.ProofKit
import Derived.Below
namespace Go.Proofs.Qxb6618495a
open Go.ChangeShapes Go.WideShapes Go.ChangeAt Go.RowKit

theorem bcell {W w1 : World} (hb : Below W.heap.size W w1) : (∀ b o, b < W.heap.size → w1.cell? ⟨b, o, none⟩ = W.cell? ⟨b, o, none⟩) ∧ (∀ b o, b < W.heap.size → w1.frozen? ⟨b, o, none⟩ = W.frozen? ⟨b, o, none⟩) :=
  ⟨fun b o h => hb.cell (p := ⟨b, o, none⟩) h, fun b o h => hb.frozen (p := ⟨b, o, none⟩) h⟩

theorem ret_bool {a b : Bool} (h : a = b) : Ending.returned (.bool a) = .returned (.bool b) := by rw [h]

/-- Is the period (py, pm) before (qy, qm)? -/
def befB (py pm qy qm : Int) : Bool := decide (py < qy ∨ (py = qy ∧ pm < qm))

set_option maxHeartbeats 400000 in
theorem zz_any (y m : Int) (w : World) :
    Calls Try.prog 5 #[.int .i64 y, .int .i64 m] w fun e w' => e = .returned (.agg #[.int .i64 y, .int .i64 m]) ∧ w' = w.alloc (.cells #[.int .i64 y, .int .i64 m] 24) := by
  go_enter Try.func5, Try.ntmps5
  go_wp2
  exact bodyPost_ret (v := .agg #[.int .i64 y, .int .i64 m]) (by simp [results, Try.results5, go_sem]) rfl ⟨rfl, rfl⟩

set_option maxHeartbeats 400000 in
theorem bef_any (py pm qy qm : Int) (w : World) :
    Calls Try.prog 6 #[.agg #[.int .i64 py, .int .i64 pm], .agg #[.int .i64 qy, .int .i64 qm]] w fun e w' => e = .returned (.bool (befB py pm qy qm)) ∧ w' = (w.alloc (.cells #[.int .i64 py, .int .i64 pm] 24)).alloc (.cells #[.int .i64 qy, .int .i64 qm] 24) := by
  go_enter Try.func6, Try.ntmps6
  go_wp2
  all_goals
    go_ret
    refine ⟨ret_bool (b := befB py pm qy qm) ?_, by first | rfl | simp [*]⟩
    rw [Bool.eq_iff_iff]
    simp [befB]
    try omega
end Go.Proofs.Qxb6618495a
