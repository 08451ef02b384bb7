/-
  The proof of 'Rows.FnPeriodBeforeNextMonthCoversSaid'. The frame is the guide's shell at this function; the walk is this seat's own, out of the ways in Qxb6618495aCovA, CovX, CovY.
-/
import Derived.Test.Qxb6618495aRows
import Derived.Test.Qxb6618495aCovA
import Derived.Test.Qxb6618495aCovX
import Derived.Test.Qxb6618495aCovY
import Derived.WalkKit
import Derived.ProofKit
import Derived.OpenShut
import Derived.ShutString
namespace Go.Proofs.Qxb6618495a.fnPeriodBeforeNextMonthCovers
open Go.ChangeShapes Go.WideShapes Go.ChangeAt Go.RowKit
open Go.ChangeMaps (open_string shut_string)
set_option linter.unusedVariables false      -- a walk need not use every 'w<i>' (that an integer argument fits its kind)

theorem own : ownKnob Try.prog.godebug = none := by kernel_rfl


theorem out (a0 a1 a2 a3 : Int) (w : World) (hr : a1 < 1 ∨ 12 < a1 ∨ a3 < 1 ∨ 12 < a3) :
    Calls Try.prog 4 #[.int .i64 a0, .int .i64 a1, .int .i64 a2, .int .i64 a3] w fun e w' => e = .returned (.bool true) ∧ Grown w w' := by
  rcases (by omega : a1 < 1 ∨ (¬ a1 < 1 ∧ 12 < a1) ∨ (¬ a1 < 1 ∧ ¬ 12 < a1 ∧ a3 < 1) ∨ (¬ a1 < 1 ∧ ¬ 12 < a1 ∧ ¬ a3 < 1 ∧ 12 < a3)) with h | ⟨h, h'⟩ | ⟨h, h', h''⟩ | ⟨h, h', h'', h'''⟩
  all_goals
    clear hr
    go_enter Try.func4, Try.ntmps4
    go_wp2_with fail
    go_ret
    exact ⟨rfl, Grown.refl _⟩
theorem last (a2 a3 : Int) (w : World) (h3 : 1 ≤ a3) (h3' : a3 ≤ 12) :
    Calls Try.prog 4 #[.int .i64 9223372036854775807, .int .i64 12, .int .i64 a2, .int .i64 a3] w fun e w' => e = .returned (.bool true) ∧ Grown w w' := by
  go_enter Try.func4, Try.ntmps4
  go_wp2_with fail
  go_ret
  exact ⟨rfl, Grown.refl _⟩

/-! ### STEP 1: THE WALK: the Go text returns true. 'Grown w w'': the world has at most new blocks (Derived/RowKit3.lean). Part the cases AHEAD of 'go_enter' where a test parts the walk; take each callee by a contract of your own. -/
theorem walk (a0 : Int) (a1 : Int) (a2 : Int) (a3 : Int) (w0 : (Lit.int .i64 a0).wf = true) (w1 : (Lit.int .i64 a1).wf = true) (w2 : (Lit.int .i64 a2).wf = true) (w3 : (Lit.int .i64 a3).wf = true) (w : World) :
    Calls Try.prog 4 #[.int .i64 a0, .int .i64 a1, .int .i64 a2, .int .i64 a3] w fun e w' => e = .returned (.bool true) ∧ Grown w w' := by
  by_cases hr : a1 < 1 ∨ 12 < a1 ∨ a3 < 1 ∨ 12 < a3
  · exact out a0 a1 a2 a3 w hr
  by_cases hl : a0 = 9223372036854775807 ∧ a1 = 12
  · obtain ⟨rfl, rfl⟩ := hl
    exact last a2 a3 w (by omega) (by omega)
  have b0 : -9223372036854775808 ≤ a0 ∧ a0 ≤ 9223372036854775807 := by
    have hb := bounds_i64 w0
    omega
  by_cases h12 : a1 = 12
  · subst h12
    have hm : (a0 == 9223372036854775807) = false := by simp; omega
    have hw : wrap64 (a0 + 1) = a0 + 1 := by unfold wrap64; omega
    rcases (by omega : a2 < a0 ∨ (a2 = a0 ∧ a3 < 12) ∨ (a2 = a0 ∧ a3 = 12) ∨ (a2 = a0 + 1 ∧ a3 = 1) ∨ (a2 = a0 + 1 ∧ 1 < a3) ∨ a0 + 1 < a2) with h | ⟨rfl, h⟩ | ⟨rfl, rfl⟩ | ⟨rfl, rfl⟩ | ⟨rfl, h⟩ | h
    · apply c12A a0 a2 a3 (a0 + 1) w hw (by omega) (by omega) hm <;> (simp [befB]; try omega)
    · apply c12B a2 a3 (a2 + 1) w hw (by omega) (by omega) hm <;> (simp [befB]; try omega)
    · apply c12C a2 (a2 + 1) w hw hm <;> (simp [befB]; try omega)
    · apply c12D a0 (a0 + 1) w hw hm <;> (simp [befB]; try omega)
    · apply c12E a0 a3 (a0 + 1) w hw (by omega) (by omega) hm <;> (simp [befB]; try omega)
    · apply c12F a0 a2 a3 (a0 + 1) w hw (by omega) (by omega) hm <;> (simp [befB]; try omega)
  · cases hm : (a0 == 9223372036854775807)
    all_goals
      rcases (by omega : a2 < a0 ∨ (a2 = a0 ∧ a3 < a1) ∨ (a2 = a0 ∧ a3 = a1) ∨ (a2 = a0 ∧ a3 = a1 + 1) ∨ (a2 = a0 ∧ a1 + 1 < a3) ∨ a0 < a2) with h | ⟨rfl, h⟩ | ⟨rfl, rfl⟩ | ⟨rfl, rfl⟩ | ⟨rfl, h⟩ | h
    · apply cMYA a0 a1 a2 a3 w (by omega) (by omega) (by omega) (by omega) hm <;> (simp [befB]; try omega)
    · apply cMYB a2 a1 a3 w (by omega) (by omega) (by omega) (by omega) hm <;> (simp [befB]; try omega)
    · apply cMYC a2 a3 w (by omega) (by omega) hm <;> (simp [befB]; try omega)
    · apply cMYD a2 a1 w (by omega) (by omega) hm <;> (simp [befB]; try omega)
    · apply cMYE a2 a1 a3 w (by omega) (by omega) (by omega) (by omega) hm <;> (simp [befB]; try omega)
    · apply cMYF a0 a1 a2 a3 w (by omega) (by omega) (by omega) (by omega) hm <;> (simp [befB]; try omega)
    · apply cMXA a0 a1 a2 a3 w (by omega) (by omega) (by omega) (by omega) hm <;> (simp [befB]; try omega)
    · apply cMXB a2 a1 a3 w (by omega) (by omega) (by omega) (by omega) hm <;> (simp [befB]; try omega)
    · apply cMXC a2 a3 w (by omega) (by omega) hm <;> (simp [befB]; try omega)
    · apply cMXD a2 a1 w (by omega) (by omega) hm <;> (simp [befB]; try omega)
    · apply cMXE a2 a1 a3 w (by omega) (by omega) (by omega) (by omega) hm <;> (simp [befB]; try omega)
    · apply cMXF a0 a1 a2 a3 w (by omega) (by omega) (by omega) (by omega) hm <;> (simp [befB]; try omega)

/-! ### THE ROW's STEP: WRITTEN OUT: LEAVE IT -/
set_option maxRecDepth 100000 in
theorem lifted (os : Os) (started : os.Started) (H : Type) (enc : TypeId × Value → H) :
    ReturnsInHanded {} Try.checked os 4 .any (Rows.fnPeriodBeforeNextMonthCoversSpec.pre6 enc Try.prog Try.f4 Rows.fnPeriodBeforeNextMonthCoversRow.domain false) (Rows.fnPeriodBeforeNextMonthCoversSpec.post enc Try.prog Try.f4 false true false false) := by
  refine returnsInHanded_of_change (C := Try.checked) own started (by kernel_rfl) Try.func4
    (ChangeSpec.witness6 (enc := enc) (C := Try.checked) false ⟨#[], #[.int .i64 0, .int .i64 0, .int .i64 0, .int .i64 0], []⟩ 8 (by kernel_rfl) (by kernel_rfl) (by kernel_rfl) (by kernel_rfl)) ?_
  intro W base args ds gs before hval0 hW hcnd _
  have hval : ∀ (j : Nat) t v, Try.f4.params[j]? = some t → args[j]? = some v → Value.okWide Try.prog W .any base t v := hval0
  have hW' := hW
  obtain ⟨p, q, hA0, hV, rfl, hfz, hnd⟩ := hW
  have hA : DataW.TrodAll enc Try.prog W 0 (fun _ => true) true Try.f4.params.toList args.toList ds p := hA0
  rw [Try.params4] at hA hval
  obtain ⟨v0, vs0, d0, ds0, p0, q0, hargs, rfl, rfl, h0, r0⟩ := trodAll_cons hA
  obtain ⟨v1, vs1, d1, ds1, p1, q1, rfl, rfl, rfl, h1, r1⟩ := trodAll_cons r0
  obtain ⟨v2, vs2, d2, ds2, p2, q2, rfl, rfl, rfl, h2, r2⟩ := trodAll_cons r1
  obtain ⟨v3, vs3, d3, ds3, p3, q3, rfl, rfl, rfl, h3, r3⟩ := trodAll_cons r2
  obtain ⟨rfl, rfl, rfl⟩ := trodAll_nil r3
  obtain rfl : args = #[v0, v1, v2, v3] := by cases args; simp_all
  obtain ⟨rfl, rfl⟩ := trodVars_none hV
  obtain ⟨a0, rfl, rfl, rfl, w0⟩ := open_int Try.underlying3 (hval 0 3 v0 rfl rfl) h0
  obtain ⟨a1, rfl, rfl, rfl, w1⟩ := open_int Try.underlying3 (hval 1 3 v1 rfl rfl) h1
  obtain ⟨a2, rfl, rfl, rfl, w2⟩ := open_int Try.underlying3 (hval 2 3 v2 rfl rfl) h2
  obtain ⟨a3, rfl, rfl, rfl, w3⟩ := open_int Try.underlying3 (hval 3 3 v3 rfl rfl) h3
  clear hA0 hval0
  simp only [List.append_nil] at hW'
  refine (walk a0 a1 a2 a3 w0 w1 w2 w3 W).mono fun e W' ⟨he, hg⟩ => ?_
  subst he
  exact ⟨_, rfl, post_of_same (pa := []) (pv := []) hW' (fun _ _ _ => (trodAll_cons_mk (shut_bool Try.underlying4 _) trodAll_mk0)) (fun sp _ => (trodAll_cons_mk (shut_int Try.underlying3 w0) (trodAll_cons_mk (shut_int Try.underlying3 w1) (trodAll_cons_mk (shut_int Try.underlying3 w2) (trodAll_cons_mk (shut_int Try.underlying3 w3) trodAll_mk0))))) (fun _ _ => rfl) rfl
    (hg.frame _) hg.2.1 (ok_one (by kernel_rfl) rfl (okWide_bool_mk Try.underlying4 _))⟩

theorem over : Rows.fnPeriodBeforeNextMonthCoversRow.holds Try.pinned (OpenSpec.ofChange Rows.fnPeriodBeforeNextMonthCoversSpec) :=
  OpenClaim.holds_of_wide 4 Try.f4 rfl rfl rfl rfl rfl rfl rfl ⟨rfl, rfl, rfl, rfl, rfl⟩ rfl rfl rfl rfl rfl (by kernel_rfl) Try.func4 (by kernel_rfl)
    (of_decide_eq_true (by kernel_rfl)) (by unfold Func.isWrapper; first | (rw [if_pos (by decide +kernel)]; kernel_rfl) | (rw [if_neg (by decide +kernel)]; exact ⟨rfl, rfl⟩))
    (fun os started H enc _ => lifted os started H enc)

/-- ████ THE STATEMENT ████ -/
theorem proved : Rows.FnPeriodBeforeNextMonthCoversSaid :=
  over
#print axioms proved
end Go.Proofs.Qxb6618495a.fnPeriodBeforeNextMonthCovers
