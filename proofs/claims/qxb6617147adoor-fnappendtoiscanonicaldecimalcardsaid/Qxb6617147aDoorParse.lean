/-
  parseCanonicalDollars at a canonical text.
-/
import Derived.Test.Qxb6617147aDoorDot
namespace Go.Proofs.Qxb6617147aDoor
open Go Go.RowKit

set_option maxHeartbeats 400000 in
theorem dig_yes (c : Int) (w : World) (h1 : 48 ≤ c) (h2 : c ≤ 57) :
    Calls Tryd.prog 10 #[.int .u8 c] w fun e w' => e = .returned (.bool true) ∧ w = w' := by
  go_enter Tryd.func10, Tryd.ntmps10
  go_wp2
  go_ret
  exact ⟨rfl, rfl⟩

set_option maxHeartbeats 400000 in
theorem dig_dot (w : World) :
    Calls Tryd.prog 10 #[.int .u8 46] w fun e w' => e = .returned (.bool false) ∧ w = w' := by
  go_enter Tryd.func10, Tryd.ntmps10
  go_wp2
  go_ret
  exact ⟨rfl, rfl⟩

set_option maxHeartbeats 1600000 in
set_option linter.unusedVariables false in
theorem parse_int (g o p cap q : Nat) (x : Nat → Int) (V D : Nat → Nat) (w : World) (hp : 1 ≤ p) (hp13 : p ≤ 13) (hz : 1 < p → (x 0 == 48) = false)
    (hV0 : V 0 = 0) (hV : ∀ k, k < p → V (k + 1) = V k * 10 + D k) (hVp : V p = q) (hVb : ∀ k, V k ≤ 9223372036854) (hD : ∀ k, D k ≤ 9) (hx : ∀ k, k < p → x k = 48 + (D k : Int))
    (hcell : ∀ j, j < p → w.cell? ⟨g, o + j, none⟩ = some (.int .u8 (x j))) :
    Calls Tryd.prog 7 #[.slice (some ⟨g, o, none⟩) p cap] w fun e w' => e = .returned (.tuple #[.int .u64 ((q * 1000000 : Nat) : Int), .bool true]) ∧ w = w' := by
  have HX := Lib.hid hx
  have HC := Lib.hid hcell
  have HV := Lib.hid hV
  have HVb := Lib.hid hVb
  have HD := Lib.hid hD
  have HV0 := Lib.hid hV0
  have HVp := Lib.hid hVp
  clear hx hcell hV hVb hD hV0 hVp
  go_enter Tryd.func7, Tryd.ntmps7
  go_wp2
  go_loop [4, 5] (fun i v => ∃ k : Nat, k ≤ p ∧ i = .int .i64 k ∧ v = .int .u64 (V k)) (fun i _ => p - (intOf i).toNat)
  case atStart => exact ⟨0, Nat.zero_le _, rfl, by rw [HV0.out]; rfl⟩
  case round =>
    obtain ⟨k, hk, rfl, rfl⟩ := hrel
    have hb := HVb.out k
    by_cases hkp : k < p
    · have hc := HC.out k hkp
      have hx1 := HX.out k hkp
      have hd := HD.out k
      have h48 : 48 ≤ x k := by omega
      have h57 : x k ≤ 57 := by omega
      have HS : Hid (((V (k + 1) : Nat) : Int) = (V k : Int) * 10 + (x k - 48)) := by
        have := HV.out k hkp
        show ((V (k + 1) : Nat) : Int) = _
        omega
      clear hx1 hd
      go_wp2_with (go_at_call 10; refine (dig_yes _ _ h48 h57).mono ?_; rintro e w' ⟨rfl, rfl⟩)
      go_round
      case rel => exact ⟨k + 1, by omega, by go_num, by rw [HS.out]⟩
      case measure => simp [intOf]; omega
    · obtain rfl : k = p := by omega
      have e := HVp.out
      clear HVp
      subst e
      by_cases h1 : 1 < k
      · have hz0 := hz h1
        have hc : w.cell? ⟨g, o, none⟩ = some (.int .u8 (x 0)) := by simpa using HC.out 0 (by omega)
        clear hz
        go_wp2
        go_ret2
        exact ⟨by simp, rfl⟩
      · clear hz
        go_wp2
        go_ret2
        exact ⟨by simp, rfl⟩

set_option maxHeartbeats 1600000 in
set_option linter.unusedVariables false in
theorem parse_frac (g o p la cap q r : Nat) (x : Nat → Int) (V D F E : Nat → Nat) (w : World) (hp : 1 ≤ p) (hp13 : p ≤ 13) (hz : 1 < p → (x 0 == 48) = false)
    (hV0 : V 0 = 0) (hV : ∀ k, k < p → V (k + 1) = V k * 10 + D k) (hVp : V p = q) (hVb : ∀ k, V k ≤ 9223372036854) (hD : ∀ k, D k ≤ 9) (hx : ∀ k, k < p → x k = 48 + (D k : Int))
    (hdot : x p = 46) (hla : 1 ≤ la) (hla6 : la ≤ 6)
    (hF0 : F 0 = 0) (hF : ∀ k, k < 6 → F (k + 1) = F k * 10 + E k) (hF6 : F 6 = r) (hFb : ∀ k, F k ≤ 1000000) (hE : ∀ k, E k ≤ 9) (hEx : ∀ k, k < la → x (p + 1 + k) = 48 + (E k : Int)) (hE0 : ∀ k, la ≤ k → E k = 0)
    (hlast : (x (p + la) == 48) = false)
    (hcell : ∀ j, j < p + 1 + la → w.cell? ⟨g, o + j, none⟩ = some (.int .u8 (x j))) :
    Calls Tryd.prog 7 #[.slice (some ⟨g, o, none⟩) (p + 1 + la) cap] w fun e w' => e = .returned (.tuple #[.int .u64 ((q * 1000000 + r : Nat) : Int), .bool true]) ∧ w = w' := by
  have HX := Lib.hid hx
  have HC := Lib.hid hcell
  have HV := Lib.hid hV
  have HVb := Lib.hid hVb
  have HD := Lib.hid hD
  have HV0 := Lib.hid hV0
  have HVp := Lib.hid hVp
  have HDot := Lib.hid hdot
  have HF0 := Lib.hid hF0
  have HF := Lib.hid hF
  have HF6 := Lib.hid hF6
  have HFb := Lib.hid hFb
  have HE := Lib.hid hE
  have HEx := Lib.hid hEx
  have HE0 := Lib.hid hE0
  have HLast := Lib.hid hlast
  have HZ := Lib.hid hz
  clear hx hcell hV hVb hD hV0 hVp hdot hF0 hF hF6 hFb hE hEx hE0 hlast hz
  go_enter Tryd.func7, Tryd.ntmps7
  go_wp2
  go_loop [4, 5] (fun i v => ∃ k : Nat, k ≤ p ∧ i = .int .i64 k ∧ v = .int .u64 (V k)) (fun i _ => p - (intOf i).toNat)
  case atStart => exact ⟨0, Nat.zero_le _, rfl, by rw [HV0.out]; rfl⟩
  case round =>
    obtain ⟨k, hk, rfl, rfl⟩ := hrel
    have hb := HVb.out k
    by_cases hkp : k < p
    · have hc := HC.out k (by omega)
      have hx1 := HX.out k hkp
      have hd := HD.out k
      have h48 : 48 ≤ x k := by omega
      have h57 : x k ≤ 57 := by omega
      have HS : Hid (((V (k + 1) : Nat) : Int) = (V k : Int) * 10 + (x k - 48)) := by
        have := HV.out k hkp
        show ((V (k + 1) : Nat) : Int) = _
        omega
      clear hx1 hd
      go_wp2_with (go_at_call 10; refine (dig_yes _ _ h48 h57).mono ?_; rintro e w' ⟨rfl, rfl⟩)
      go_round
      case rel => exact ⟨k + 1, by omega, by go_num, by rw [HS.out]⟩
      case measure => simp [intOf]; omega
    · obtain rfl : k = p := by omega
      have e := HVp.out
      clear HVp
      subst e
      have hck := HC.out k (by omega)
      rw [HDot.out] at hck
      have hz0 : (decide (1 < (k : Int)) && (x 0 == 48)) = false := by
        by_cases h1 : 1 < k
        · rw [HZ.out h1, Bool.and_false]
        · have : decide (1 < (k : Int)) = false := by simp; omega
          rw [this, Bool.false_and]
      have hc0 : w.cell? ⟨g, o, none⟩ = some (.int .u8 (x 0)) := by simpa using HC.out 0 (by omega)
      clear HX HV HVb HD HV0
      by_cases h1 : 1 < k
      all_goals
        first | (have hz1 := HZ.out h1) | skip
        clear hz0 HZ
        go_wp2_with (go_at_call 10; refine (dig_dot _).mono ?_; rintro e w' ⟨rfl, rfl⟩)
        go_loop [4, 6, 7] (fun i f n => ∃ t : Nat, t ≤ la ∧ i = .int .i64 ((k + 1 + t : Nat) : Int) ∧ f = .int .u64 (F t) ∧ n = .int .i64 t) (fun _ _ n => la - (intOf n).toNat)
        case atStart => exact ⟨0, Nat.zero_le _, by go_num, by rw [HF0.out]; rfl, rfl⟩
        case round =>
          obtain ⟨t, ht, rfl, rfl, rfl⟩ := hrel
          have hfb := HFb.out t
          by_cases htl : t < la
          · have hct := HC.out (k + 1 + t) (by omega)
            have hx1 := HEx.out t htl
            have hd := HE.out t
            have h48 : 48 ≤ x (k + 1 + t) := by omega
            have h57 : x (k + 1 + t) ≤ 57 := by omega
            have HS : Hid (((F (t + 1) : Nat) : Int) = (F t : Int) * 10 + (x (k + 1 + t) - 48)) := by
              have := HF.out t (by omega)
              show ((F (t + 1) : Nat) : Int) = _
              omega
            clear hx1 hd
            go_wp2_with (go_at_call 10; refine (dig_yes _ _ h48 h57).mono ?_; rintro e w' ⟨rfl, rfl⟩)
            go_round
            case rel => exact ⟨t + 1, by omega, by go_num, by rw [HS.out], by go_num⟩
            case measure => simp [intOf]; omega
          · obtain rfl : t = la := by omega
            have hcl := HC.out (k + t) (by omega)
            have hl := HLast.out
            have hidx : ((k + 1 + t : Nat) : Int) - 1 = ((k + t : Nat) : Int) := by omega
            go_wp2
            clear hcl hl hidx HC HLast HEx HF0
            go_loop [6, 7] (fun f n => ∃ u : Nat, t ≤ u ∧ u ≤ 6 ∧ f = .int .u64 (F u) ∧ n = .int .i64 u) (fun _ n => 6 - (intOf n).toNat)
            case atStart => exact ⟨t, Nat.le_refl _, hla6, rfl, rfl⟩
            case round =>
              obtain ⟨u, hu, hu6, rfl, rfl⟩ := hrel
              have hfu := HFb.out u
              by_cases hlt : u < 6
              · have HS : Hid (((F (u + 1) : Nat) : Int) = (F u : Int) * 10) := by
                  have h1 := HF.out u hlt
                  have h2 := HE0.out u hu
                  show ((F (u + 1) : Nat) : Int) = _
                  omega
                go_wp2
                go_round
                case rel => exact ⟨u + 1, by omega, by omega, by rw [HS.out], by go_num⟩
                case measure => simp [intOf]; omega
              · obtain rfl : u = 6 := by omega
                have e6 := HF6.out
                clear HF6
                subst e6
                go_wp2
                go_ret2
                exact ⟨by simp, rfl⟩
end Go.Proofs.Qxb6617147aDoor
