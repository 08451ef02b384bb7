/-
  Contracts of space, ZZSpace, zzWhite, zzFirstNonWhite and the length test.
-/
import Derived.Test.Qxb6617942aChecked
import Derived.Lib.Hide
import Derived.Below
import Derived.WalkKit
import Derived.WalkSpells
import Derived.OwnWalk
import Derived.Deep.QuietTactic
import Derived.BigQuiet
namespace Go.Proofs.Qxb6617942a
open Go Go.RowKit

/-- JSON white space. -/
def wh (c : Int) : Bool := c == 32 || c == 9 || c == 10 || c == 13

theorem wh_true {c : Int} (h : wh c = true) : (c == 32) = true ∨ ((c == 32) = false ∧ (c == 9) = true) ∨ ((c == 32) = false ∧ (c == 9) = false ∧ (c == 10) = true) ∨ ((c == 32) = false ∧ (c == 9) = false ∧ (c == 10) = false ∧ (c == 13) = true) := by
  unfold wh at h
  cases h1 : (c == 32) <;> cases h2 : (c == 9) <;> cases h3 : (c == 10) <;> cases h4 : (c == 13) <;> simp_all
theorem wh_false {c : Int} (h : wh c = false) : (c == 32) = false ∧ (c == 9) = false ∧ (c == 10) = false ∧ (c == 13) = false := by
  unfold wh at h
  simp only [Bool.or_eq_false_iff] at h
  exact ⟨h.1.1.1, h.1.1.2, h.1.2, h.2⟩

/-- From p on, t is the first place whose byte is not white; the end where the rest is all white; p itself at or past the end. -/
def Stop (n : Nat) (x : Nat → Int) (p t : Nat) : Prop := p ≤ t ∧ (∀ j, p ≤ j → j < t → j < n ∧ wh (x j) = true) ∧ (t < n → wh (x t) = false)

set_option maxHeartbeats 400000 in
theorem zzb_yes (a : Option Addr) (n c : Nat) (m : Int) (w : World) (h : n ≤ 1048576) :
    Calls Try.prog 4 #[.slice a n c, .int .i64 m] w fun e w' => e = .returned (.bool true) ∧ w = w' := by
  go_enter Try.func4, Try.ntmps4
  go_wp2
  go_ret
  exact ⟨rfl, rfl⟩

set_option maxHeartbeats 400000 in
theorem zzb_no (a : Option Addr) (n c : Nat) (m : Int) (w : World) (h : 1048576 < n) :
    Calls Try.prog 4 #[.slice a n c, .int .i64 m] w fun e w' => e = .returned (.bool false) ∧ w = w' := by
  go_enter Try.func4, Try.ntmps4
  go_wp2
  go_ret
  exact ⟨rfl, rfl⟩

set_option maxHeartbeats 400000 in
theorem white_yes (c : Int) (w : World) (h : wh c = true) :
    Calls Try.prog 8 #[.int .u8 c] w fun e w' => e = .returned (.bool true) ∧ w = w' := by
  rcases wh_true h with h1 | ⟨h1, h2⟩ | ⟨h1, h2, h3⟩ | ⟨h1, h2, h3, h4⟩
  all_goals
    clear h
    go_enter Try.func8, Try.ntmps8
    go_wp2
    go_ret
    exact ⟨rfl, rfl⟩

set_option maxHeartbeats 400000 in
theorem white_no (c : Int) (w : World) (h : wh c = false) :
    Calls Try.prog 8 #[.int .u8 c] w fun e w' => e = .returned (.bool false) ∧ w = w' := by
  obtain ⟨h1, h2, h3, h4⟩ := wh_false h
  clear h
  go_enter Try.func8, Try.ntmps8
  go_wp2
  go_ret
  exact ⟨rfl, rfl⟩

set_option maxHeartbeats 1600000 in
/-- (*reader).space: block g holds the reader. -/
theorem space_any (g : Nat) (v : Option Addr) (b o n cap p t : Nat) (x : Nat → Int) (w : World) (hv : 0 < n → v = some ⟨b, o, none⟩) (hn : n ≤ 1048576) (hbg : 0 < n → b < g) (hst : Stop n x p t)
    (hc0 : w.cell? ⟨g, 0, none⟩ = some (.slice v n cap)) (hc1 : w.cell? ⟨g, 1, none⟩ = some (.int .i64 p)) (hf1 : w.frozen? ⟨g, 1, none⟩ = false)
    (hx : ∀ j, j < n → w.cell? ⟨b, o + j, none⟩ = some (.int .u8 (x j))) :
    Calls Try.prog 7 #[.pointer (some ⟨g, 0, none⟩)] w fun e w' => e = .returned (.tuple #[]) ∧ w'.cell? ⟨g, 1, none⟩ = some (.int .i64 t) ∧ Below g w w' := by
  have HV := Lib.hid hv
  have HG := Lib.hid hbg
  have HS := Lib.hid hst
  have HX := Lib.hid hx
  have H0 := Lib.hid (And.intro hc0 (And.intro hc1 hf1))
  clear hv hbg hst hx hc0 hc1 hf1
  go_enter Try.func7, Try.ntmps7
  go_wp2
  go_loopw [] (fun wr => ∃ k : Nat, p ≤ k ∧ k ≤ t ∧ Hid (wr.cell? ⟨g, 0, none⟩ = some (.slice v n cap) ∧ wr.cell? ⟨g, 1, none⟩ = some (.int .i64 k) ∧ wr.frozen? ⟨g, 1, none⟩ = false ∧ Below g w wr)) (fun wr => n - (intOf ((wr.cell? ⟨g, 1, none⟩).getD undef)).toNat)
  case atStart => exact ⟨p, Nat.le_refl _, HS.out.1, H0.out.1, H0.out.2.1, H0.out.2.2, Below.refl _ _⟩
  case round =>
    obtain ⟨k, hpk, hkt, HK⟩ := hrel
    obtain ⟨c0, c1, f1, hbl⟩ := HK.out
    have HBl := Lib.hid hbl
    clear hbl HK
    by_cases hkn : k < n
    · have hv := HV.out (by omega)
      subst hv
      have hbg := HG.out (by omega)
      have hck : wr.cell? ⟨b, o + k, none⟩ = some (.int .u8 (x k)) := (HBl.out.cell (p := ⟨b, o + k, none⟩) hbg).trans (HX.out k hkn)
      have hki : (k : Int) < (n : Int) := by omega
      by_cases hlt : k < t
      · have hw := (HS.out.2.1 k hpk hlt).2
        have HN : Hid ((wr.setCell ⟨g, 1, none⟩ (.int .i64 ((k : Int) + 1))).cell? ⟨g, 0, none⟩ = some (.slice (some ⟨b, o, none⟩) n cap) ∧ (wr.setCell ⟨g, 1, none⟩ (.int .i64 ((k : Int) + 1))).cell? ⟨g, 1, none⟩ = some (.int .i64 ((k : Int) + 1)) ∧ (wr.setCell ⟨g, 1, none⟩ (.int .i64 ((k : Int) + 1))).frozen? ⟨g, 1, none⟩ = false ∧ Below g w (wr.setCell ⟨g, 1, none⟩ (.int .i64 ((k : Int) + 1)))) :=
          ⟨by rw [World.cell?_setCell_other (h := by simp)]; exact c0, World.cell?_setCell_same _ _ _ c1, by rw [World.frozen?_setCell]; exact f1, HBl.out.setCell (p := ⟨g, 1, none⟩) (Nat.le_refl _) _⟩
        have HM : Hid (wr.cell? ⟨g, 1, none⟩ = some (.int .i64 k)) := c1
        rcases wh_true hw with h1 | ⟨h1, h2⟩ | ⟨h1, h2, h3⟩ | ⟨h1, h2, h3, h4⟩
        all_goals
          clear hw
          go_wp2
          go_quiet (fail)
          go_wp2
          go_quiet (fail)
          go_wp2
          go_roundw
          case rel => exact ⟨k + 1, by omega, by omega, HN.out.1, HN.out.2.1, HN.out.2.2.1, HN.out.2.2.2.trans ⟨rfl, rfl, rfl, Nat.le_refl _, fun _ _ => rfl⟩⟩
          case measure =>
            show n - (intOf (((wr.setCell ⟨g, 1, none⟩ (.int .i64 ((k : Int) + 1))).cell? ⟨g, 1, none⟩).getD undef)).toNat < _
            rw [HN.out.2.1, HM.out]
            simp [intOf]
            omega
      · obtain rfl : k = t := by omega
        obtain ⟨h1, h2, h3, h4⟩ := wh_false (HS.out.2.2 hkn)
        go_wp2
        go_quiet (fail)
        go_wp2
        go_quiet (fail)
        go_wp2
        first | go_end0 | refine bodyPost_ret (results_none rfl _ _ _) rfl ?_
        exact ⟨rfl, c1, HBl.out.trans ⟨rfl, rfl, rfl, Nat.le_refl _, fun _ _ => rfl⟩⟩
    · have hkt' : k = t := by
        rcases Nat.lt_or_ge k t with h | h
        · exact absurd (HS.out.2.1 k hpk h).1 hkn
        · omega
      subst hkt'
      go_wp2
      go_quiet (fail)
      go_wp2
      first | go_end0 | refine bodyPost_ret (results_none rfl _ _ _) rfl ?_
      exact ⟨rfl, c1, HBl.out.trans ⟨rfl, rfl, rfl, Nat.le_refl _, fun _ _ => rfl⟩⟩

set_option maxHeartbeats 800000 in
theorem zsp_any (v : Option Addr) (b o n cap p t : Nat) (x : Nat → Int) (w : World) (hv : 0 < n → v = some ⟨b, o, none⟩) (hn : n ≤ 1048576) (hst : Stop n x p t)
    (hx : ∀ j, j < n → w.cell? ⟨b, o + j, none⟩ = some (.int .u8 (x j))) :
    Calls Try.prog 5 #[.slice v n cap, .int .i64 p] w fun e w' => e = .returned (.int .i64 t) ∧ Below w.heap.size w w' := by
  have hb : 0 < n → b < w.heap.size := fun h => World.block_lt_of_cell? w _ (hx 0 h)
  have hsp : ∀ W, Below w.heap.size w W → W.cell? ⟨w.heap.size, 0, none⟩ = some (.slice v n cap) → W.cell? ⟨w.heap.size, 1, none⟩ = some (.int .i64 p) → W.frozen? ⟨w.heap.size, 1, none⟩ = false →
      Calls Try.prog 7 #[.pointer (some ⟨w.heap.size, 0, none⟩)] W fun e w' => e = .returned (.tuple #[]) ∧ w'.cell? ⟨w.heap.size, 1, none⟩ = some (.int .i64 t) ∧ Below w.heap.size W w' := fun W hW c0 c1 f1 =>
    space_any w.heap.size v b o n cap p t x W hv hn hb hst c0 c1 f1 (fun j hj => (hW.cell (p := ⟨b, o + j, none⟩) (hb (by omega))).trans (hx j hj))
  have H := Lib.hid hsp
  clear hsp hb hx hst hv
  go_enter Try.func5, Try.ntmps5
  go_wp2_with fail
  have ha : Below w.heap.size w (w.alloc (Obj.cells #[Value.slice v n cap, Value.int .i64 p, Value.slice none 0 0, Value.map none, Value.slice none 0 0] 29)) := (Below.refl _ _).alloc (Nat.le_refl _) _
  refine (H.out _ ha (by simp) (by simp) (by simp)).mono ?_
  rintro e w' ⟨rfl, hc, hb⟩
  have HB := Lib.hid (ha.trans hb)
  clear hb ha H
  go_wp2
  go_ret
  exact ⟨rfl, HB.out⟩

set_option maxHeartbeats 800000 in
/-- zzFirstNonWhite. -/
theorem fnw_any (v : Option Addr) (b o n cap p t : Nat) (x : Nat → Int) (w : World) (hv : 0 < n → v = some ⟨b, o, none⟩) (hn : n ≤ 1048576) (hst : Stop n x p t)
    (hx : ∀ j, j < n → w.cell? ⟨b, o + j, none⟩ = some (.int .u8 (x j))) :
    Calls Try.prog 6 #[.slice v n cap, .int .i64 p] w fun e w' => e = .returned (.int .i64 t) ∧ w = w' := by
  by_cases hpn : n ≤ p
  · obtain rfl : p = t := by
      have h1 := hst.1
      rcases Nat.lt_or_ge p t with h | h
      · have := (hst.2.1 p (Nat.le_refl _) h).1; omega
      · omega
    clear hst hx hv
    go_enter Try.func6, Try.ntmps6
    go_wp2
    go_ret
    exact ⟨rfl, rfl⟩
  · have hv' := hv (by omega)
    subst hv'
    have htn : t ≤ n := by
      rcases Nat.lt_or_ge n t with h | h
      · have := (hst.2.1 (t - 1) (by omega) (by omega)).1; omega
      · exact h
    have HS := Lib.hid hst
    have HX := Lib.hid hx
    clear hst hx hv
    go_enter Try.func6, Try.ntmps6
    go_wp2
    go_loop [5, 6] (fun q i => ∃ k m : Nat, p ≤ k ∧ k ≤ n ∧ m ≤ n ∧ i = .int .i64 ((k : Int) - 1) ∧ q = .int .i64 m ∧ Hid (k ≤ t → m = t)) (fun _ i => (intOf i + 1).toNat)
    case atStart => exact ⟨n, n, by omega, Nat.le_refl _, Nat.le_refl _, rfl, rfl, fun h => by omega⟩
    case round =>
      obtain ⟨k, m, hpk, hkn, hmn, rfl, rfl, HM⟩ := hrel
      by_cases hkp : k = p
      · subst hkp
        obtain rfl : m = t := HM.out HS.out.1
        go_wp2
        go_ret
        exact ⟨rfl, rfl⟩
      · obtain ⟨k, rfl⟩ : ∃ k', k = k' + 1 := ⟨k - 1, by omega⟩
        have ei : (((k + 1 : Nat) : Int) - 1) = (k : Int) := by omega
        rw [ei]
        clear ei
        have hck := HX.out k (by omega)
        have hki : (k : Int) < (n : Int) := by omega
        have hpi : (p : Int) ≤ (k : Int) := by omega
        cases hw : wh (x k) with
        | true =>
          have HM2 : Hid (k ≤ t → m = t) := fun h => HM.out (by
            rcases Nat.lt_or_ge k t with h1 | h1
            · omega
            · have e : k = t := by omega
              subst e
              have := HS.out.2.2 (by omega)
              rw [hw] at this; cases this)
          have HW := Lib.hid hw
          clear hw
          go_wp2_with (go_at_call 8; refine (white_yes _ _ HW.out).mono ?_; rintro e w' ⟨rfl, rfl⟩)
          go_round
          case rel => exact ⟨k, m, by omega, by omega, hmn, by go_num, rfl, HM2⟩
          case measure => simp [intOf]
        | false =>
          have HM2 : Hid (k ≤ t → k = t) := fun h => by
            rcases Nat.lt_or_ge k t with h1 | h1
            · have := (HS.out.2.1 k (by omega) h1).2
              rw [hw] at this; cases this
            · omega
          have HW := Lib.hid hw
          clear hw
          go_wp2_with (go_at_call 8; refine (white_no _ _ HW.out).mono ?_; rintro e w' ⟨rfl, rfl⟩)
          go_round
          case rel => exact ⟨k, k, by omega, by omega, by omega, by go_num, rfl, HM2⟩
          case measure => simp [intOf]
end Go.Proofs.Qxb6617942a
