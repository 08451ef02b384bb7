import Derived.Test.Qxb6617147aDoorDot
namespace Go.Proofs.Qxb6617147aDoor
open Go Go.RowKit
theorem dd2 (w : World) (a b : Nat) : ∃ nq, (w.drewN a).drewN b = w.drewN nq := ⟨_, World.drewN_drewN _ _ _⟩
theorem dd3 (w : World) (a b c : Nat) : ∃ nq, ((w.drewN a).drewN b).drewN c = w.drewN nq := ⟨_, by rw [World.drewN_drewN, World.drewN_drewN]⟩

set_option maxHeartbeats 1600000 in
set_option linter.unusedVariables false in
theorem cmp_eq11 (b o p ca b' o' cb la lb : Nat) (x y : Nat → Int) (w : World) (hn : (p + 1 + la) ≤ 100000) (hno : ∀ j, j < p → (x j == 46) = false) (hat : x p = 46)
    (hn' : (p + 1 + lb) ≤ 100000) (hno' : ∀ j, j < p → (y j == 46) = false) (hat' : y p = 46) (hcm : (p + 1 + ca) ≤ maxLen) (hcm' : (p + 1 + cb) ≤ maxLen) (hla : 1 ≤ la) (hlca : la ≤ ca) (hlb : 1 ≤ lb) (hlcb : lb ≤ cb)
    (hcell : ∀ j, j < (p + 1 + la) → w.cell? ⟨b, o + j, none⟩ = some (.int .u8 (x j))) (hcell' : ∀ j, j < (p + 1 + lb) → w.cell? ⟨b', o' + j, none⟩ = some (.int .u8 (y j)))
    (R : Int) (hR : R = if fd x y 0 p = 0 then fd (padf x (p + 1) la) (padf y (p + 1) lb) 0 (max la lb) else fd x y 0 p) :
    Calls Tryd.prog 8 #[.slice (some ⟨b, o, none⟩) (p + 1 + la) (p + 1 + ca), .slice (some ⟨b', o', none⟩) (p + 1 + lb) (p + 1 + cb)] w fun e w' => e = .returned (.int .i64 R) ∧ ∃ nq, w' = w.drewN nq := by
  have HR0 := Lib.hid hR
  clear hR
  unfold maxLen at hcm hcm'
  have H1 := Lib.hid (dot_any b o (p + 1 + la) (p + 1 + ca) p x w hn (by omega) hno (fun h => by first | exact hat | omega) hcell)
  have H2 := Lib.hid (dot_any b' o' (p + 1 + lb) (p + 1 + cb) p y w hn' (by omega) hno' (fun h => by first | exact hat' | omega) hcell')
  clear hno hno' hat hat'
  have HC := Lib.hid hcell
  have HC' := Lib.hid hcell'
  clear hcell hcell'
  go_enter Tryd.func8, Tryd.ntmps8
  go_wp2_with (go_at_call 11; refine H1.out.mono ?_; rintro e w' ⟨rfl, hww⟩; obtain rfl := hww.symm; refine Hid.out ?_)
  refine Lib.hid ?_
  go_wp2_with (go_at_call 11; refine H2.out.mono ?_; rintro e w' ⟨rfl, hww⟩; obtain rfl := hww.symm)
  clear H1 H2
  go_loopw [7] (fun i wr => ∃ k : Nat, k ≤ p ∧ i = .int .i64 k ∧ Hid (fd x y 0 p = fd x y k (p - k)) ∧ ∃ nq, wr = w.drewN nq) (fun i _ => p - (intOf i).toNat)
  case atStart => exact ⟨0, Nat.zero_le _, rfl, rfl, 0, rfl⟩
  case round =>
    obtain ⟨k, hk, rfl, HF, nq, rfl⟩ := hrel
    by_cases hkp : k < p
    · have hc := HC.out k (by omega)
      have hc' := HC'.out k (by omega)
      have hkn : (k : Int) < (((p + 1 + la) : Nat) : Int) := by omega
      have hkn' : (k : Int) < (((p + 1 + lb) : Nat) : Int) := by omega
      by_cases hlt : x k < y k
      · have HE : Hid (fd x y 0 p = -1) := HF.out.trans (fd_lt hkp hlt)
        go_wp2
        go_quiet (fail)
        go_wp2
        go_ret
        refine ⟨ret_int ?_, by first | exact ⟨_, rfl⟩ | exact dd2 _ _ _ | exact dd3 _ _ _ _⟩
        rw [HR0.out, HE.out]; rfl
      · by_cases hgt : y k < x k
        · have HE : Hid (fd x y 0 p = 1) := HF.out.trans (fd_gt hkp hgt)
          go_wp2
          go_quiet (fail)
          go_wp2
          go_quiet (fail)
          go_wp2
          go_ret
          refine ⟨ret_int ?_, by first | exact ⟨_, rfl⟩ | exact dd2 _ _ _ | exact dd3 _ _ _ _⟩
          rw [HR0.out, HE.out]; rfl
        · have HE : Hid (fd x y 0 p = fd x y (k + 1) (p - (k + 1))) := HF.out.trans (fd_eq hkp hlt hgt)
          go_wp2
          go_quiet (fail)
          go_wp2
          go_quiet (fail)
          go_wp2
          go_roundw
          case rel => exact ⟨k + 1, by omega, by go_num, HE, by first | exact ⟨_, rfl⟩ | exact dd2 _ _ _ | exact dd3 _ _ _ _⟩
          case measure => simp [intOf]; omega
    · obtain rfl : k = p := by omega
      have HE : Hid (fd x y 0 k = 0) := HF.out.trans (fd_end (by omega))
      clear HF hk hkp
      have HR : Hid (R = fd (padf x (k + 1) la) (padf y (k + 1) lb) 0 (max la lb)) := by have := HR0.out; rw [HE.out, if_pos rfl] at this; exact this
      clear HR0
      have P0 : ∀ j, j < 0 → False := fun j h => by omega
      have HX : Hid (∀ j, (j < la → (padf x (k + 1) la) j = x (k + 1 + j) ∧ w.cell? ⟨b, o + (k + 1) + j, none⟩ = some (.int .u8 ((padf x (k + 1) la) j))) ∧ (¬ j < la → (padf x (k + 1) la) j = 48)) := fun j =>
        ⟨fun h => ⟨by rw [padf, if_pos h], by rw [padf, if_pos h, Nat.add_assoc]; exact HC.out _ (by omega)⟩, fun h => by rw [padf, if_neg h]⟩
      have HY : Hid (∀ j, (j < lb → (padf y (k + 1) lb) j = y (k + 1 + j) ∧ w.cell? ⟨b', o' + (k + 1) + j, none⟩ = some (.int .u8 ((padf y (k + 1) lb) j))) ∧ (¬ j < lb → (padf y (k + 1) lb) j = 48)) := fun j =>
        ⟨fun h => ⟨by rw [padf, if_pos h], by rw [padf, if_pos h, Nat.add_assoc]; exact HC'.out _ (by omega)⟩, fun h => by rw [padf, if_neg h]⟩
      clear HC HC' HE P0
      obtain ⟨X, eX⟩ : ∃ X, X = (padf x (k + 1) la) := ⟨_, rfl⟩
      obtain ⟨Y, eY⟩ : ∃ Y, Y = (padf y (k + 1) lb) := ⟨_, rfl⟩
      rw [← eX] at HX HR
      rw [← eY] at HY HR
      clear eX eY
      by_cases hmx : la < lb
      · rw [Nat.max_eq_right (by omega)] at HR
        go_wp2
        go_loopw [11] (fun i wr => ∃ j : Nat, j ≤ lb ∧ i = .int .i64 j ∧ Hid (R = fd X Y j (lb - j)) ∧ ∃ nq, wr = w.drewN nq) (fun i _ => lb - (intOf i).toNat)
        case atStart => exact ⟨0, Nat.zero_le _, rfl, HR.out, _, rfl⟩
        case round =>
          obtain ⟨j, hj, rfl, HF, nq', rfl⟩ := hrel
          clear HR
          by_cases hjn : j < lb
          · by_cases ja : j < la
            · by_cases jb : j < lb
              · have hxc := ((HX.out j).1 ja).2
                have hkx : (j : Int) < (la : Int) := by omega
                have hyc := ((HY.out j).1 jb).2
                have hky : (j : Int) < (lb : Int) := by omega
                clear HX HY
                by_cases hlt : X j < Y j
                · have HE : Hid (R = -1) := HF.out.trans (fd_lt hjn (by omega))
                  clear HF
                  go_wp2
                  go_ret
                  exact ⟨ret_int HE.out.symm, by first | exact ⟨_, rfl⟩ | exact dd2 _ _ _ | exact dd3 _ _ _ _⟩
                · by_cases hgt : Y j < X j
                  · have HE : Hid (R = 1) := HF.out.trans (fd_gt hjn (by omega))
                    clear HF
                    go_wp2
                    go_ret
                    exact ⟨ret_int HE.out.symm, by first | exact ⟨_, rfl⟩ | exact dd2 _ _ _ | exact dd3 _ _ _ _⟩
                  · have HE : Hid (R = fd X Y (j + 1) (lb - (j + 1))) := HF.out.trans (fd_eq hjn (by omega) (by omega))
                    clear HF
                    go_wp2
                    go_roundw
                    case rel => exact ⟨j + 1, by omega, by go_num, HE, by first | exact ⟨_, rfl⟩ | exact dd2 _ _ _ | exact dd3 _ _ _ _⟩
                    case measure => simp [intOf]; omega
              · omega
            · by_cases jb : j < lb
              · have ex := (HX.out j).2 ja
                have hyc := ((HY.out j).1 jb).2
                have hky : (j : Int) < (lb : Int) := by omega
                clear HX HY
                by_cases hlt : 48 < Y j
                · have HE : Hid (R = -1) := HF.out.trans (fd_lt hjn (by omega))
                  clear HF ex
                  go_wp2
                  go_ret
                  exact ⟨ret_int HE.out.symm, by first | exact ⟨_, rfl⟩ | exact dd2 _ _ _ | exact dd3 _ _ _ _⟩
                · by_cases hgt : Y j < 48
                  · have HE : Hid (R = 1) := HF.out.trans (fd_gt hjn (by omega))
                    clear HF ex
                    go_wp2
                    go_ret
                    exact ⟨ret_int HE.out.symm, by first | exact ⟨_, rfl⟩ | exact dd2 _ _ _ | exact dd3 _ _ _ _⟩
                  · have HE : Hid (R = fd X Y (j + 1) (lb - (j + 1))) := HF.out.trans (fd_eq hjn (by omega) (by omega))
                    clear HF ex
                    go_wp2
                    go_roundw
                    case rel => exact ⟨j + 1, by omega, by go_num, HE, by first | exact ⟨_, rfl⟩ | exact dd2 _ _ _ | exact dd3 _ _ _ _⟩
                    case measure => simp [intOf]; omega
              · omega
          · have HE : Hid (R = 0) := HF.out.trans (fd_end (by omega))
            clear HF HX HY
            go_wp2
            go_ret
            exact ⟨ret_int HE.out.symm, by first | exact ⟨_, rfl⟩ | exact dd2 _ _ _ | exact dd3 _ _ _ _⟩
      · rw [Nat.max_eq_left (by omega)] at HR
        go_wp2
        go_loopw [11] (fun i wr => ∃ j : Nat, j ≤ la ∧ i = .int .i64 j ∧ Hid (R = fd X Y j (la - j)) ∧ ∃ nq, wr = w.drewN nq) (fun i _ => la - (intOf i).toNat)
        case atStart => exact ⟨0, Nat.zero_le _, rfl, HR.out, _, rfl⟩
        case round =>
          obtain ⟨j, hj, rfl, HF, nq', rfl⟩ := hrel
          clear HR
          by_cases hjn : j < la
          · by_cases ja : j < la
            · by_cases jb : j < lb
              · have hxc := ((HX.out j).1 ja).2
                have hkx : (j : Int) < (la : Int) := by omega
                have hyc := ((HY.out j).1 jb).2
                have hky : (j : Int) < (lb : Int) := by omega
                clear HX HY
                by_cases hlt : X j < Y j
                · have HE : Hid (R = -1) := HF.out.trans (fd_lt hjn (by omega))
                  clear HF
                  go_wp2
                  go_ret
                  exact ⟨ret_int HE.out.symm, by first | exact ⟨_, rfl⟩ | exact dd2 _ _ _ | exact dd3 _ _ _ _⟩
                · by_cases hgt : Y j < X j
                  · have HE : Hid (R = 1) := HF.out.trans (fd_gt hjn (by omega))
                    clear HF
                    go_wp2
                    go_ret
                    exact ⟨ret_int HE.out.symm, by first | exact ⟨_, rfl⟩ | exact dd2 _ _ _ | exact dd3 _ _ _ _⟩
                  · have HE : Hid (R = fd X Y (j + 1) (la - (j + 1))) := HF.out.trans (fd_eq hjn (by omega) (by omega))
                    clear HF
                    go_wp2
                    go_roundw
                    case rel => exact ⟨j + 1, by omega, by go_num, HE, by first | exact ⟨_, rfl⟩ | exact dd2 _ _ _ | exact dd3 _ _ _ _⟩
                    case measure => simp [intOf]; omega
              · have hxc := ((HX.out j).1 ja).2
                have hkx : (j : Int) < (la : Int) := by omega
                have ey := (HY.out j).2 jb
                clear HX HY
                by_cases hlt : X j < 48
                · have HE : Hid (R = -1) := HF.out.trans (fd_lt hjn (by omega))
                  clear HF ey
                  go_wp2
                  go_ret
                  exact ⟨ret_int HE.out.symm, by first | exact ⟨_, rfl⟩ | exact dd2 _ _ _ | exact dd3 _ _ _ _⟩
                · by_cases hgt : 48 < X j
                  · have HE : Hid (R = 1) := HF.out.trans (fd_gt hjn (by omega))
                    clear HF ey
                    go_wp2
                    go_ret
                    exact ⟨ret_int HE.out.symm, by first | exact ⟨_, rfl⟩ | exact dd2 _ _ _ | exact dd3 _ _ _ _⟩
                  · have HE : Hid (R = fd X Y (j + 1) (la - (j + 1))) := HF.out.trans (fd_eq hjn (by omega) (by omega))
                    clear HF ey
                    go_wp2
                    go_roundw
                    case rel => exact ⟨j + 1, by omega, by go_num, HE, by first | exact ⟨_, rfl⟩ | exact dd2 _ _ _ | exact dd3 _ _ _ _⟩
                    case measure => simp [intOf]; omega
            · by_cases jb : j < lb
              · omega
              · omega
          · have HE : Hid (R = 0) := HF.out.trans (fd_end (by omega))
            clear HF HX HY
            go_wp2
            go_ret
            exact ⟨ret_int HE.out.symm, by first | exact ⟨_, rfl⟩ | exact dd2 _ _ _ | exact dd3 _ _ _ _⟩

set_option maxHeartbeats 1600000 in
set_option linter.unusedVariables false in
theorem cmp_eq10 (b o p ca b' o' cb la : Nat) (x y : Nat → Int) (w : World) (hn : (p + 1 + la) ≤ 100000) (hno : ∀ j, j < p → (x j == 46) = false) (hat : x p = 46)
    (hn' : p ≤ 100000) (hno' : ∀ j, j < p → (y j == 46) = false) (hcm : (p + 1 + ca) ≤ maxLen) (hcm' : cb ≤ maxLen) (hla : 1 ≤ la) (hlca : la ≤ ca) (hpcb : p ≤ cb)
    (hcell : ∀ j, j < (p + 1 + la) → w.cell? ⟨b, o + j, none⟩ = some (.int .u8 (x j))) (hcell' : ∀ j, j < p → w.cell? ⟨b', o' + j, none⟩ = some (.int .u8 (y j)))
    (R : Int) (hR : R = if fd x y 0 p = 0 then fd (padf x (p + 1) la) (padf y (p + 1) 0) 0 la else fd x y 0 p) :
    Calls Tryd.prog 8 #[.slice (some ⟨b, o, none⟩) (p + 1 + la) (p + 1 + ca), .slice (some ⟨b', o', none⟩) p cb] w fun e w' => e = .returned (.int .i64 R) ∧ ∃ nq, w' = w.drewN nq := by
  have HR0 := Lib.hid hR
  clear hR
  unfold maxLen at hcm hcm'
  have H1 := Lib.hid (dot_any b o (p + 1 + la) (p + 1 + ca) p x w hn (by omega) hno (fun h => by first | exact hat | omega) hcell)
  have H2 := Lib.hid (dot_any b' o' p cb p y w hn' (by omega) hno' (fun h => by first | exact hat' | omega) hcell')
  clear hno hno' hat
  have HC := Lib.hid hcell
  have HC' := Lib.hid hcell'
  clear hcell hcell'
  go_enter Tryd.func8, Tryd.ntmps8
  go_wp2_with (go_at_call 11; refine H1.out.mono ?_; rintro e w' ⟨rfl, hww⟩; obtain rfl := hww.symm; refine Hid.out ?_)
  refine Lib.hid ?_
  go_wp2_with (go_at_call 11; refine H2.out.mono ?_; rintro e w' ⟨rfl, hww⟩; obtain rfl := hww.symm)
  clear H1 H2
  go_loopw [7] (fun i wr => ∃ k : Nat, k ≤ p ∧ i = .int .i64 k ∧ Hid (fd x y 0 p = fd x y k (p - k)) ∧ ∃ nq, wr = w.drewN nq) (fun i _ => p - (intOf i).toNat)
  case atStart => exact ⟨0, Nat.zero_le _, rfl, rfl, 0, rfl⟩
  case round =>
    obtain ⟨k, hk, rfl, HF, nq, rfl⟩ := hrel
    by_cases hkp : k < p
    · have hc := HC.out k (by omega)
      have hc' := HC'.out k (by omega)
      have hkn : (k : Int) < (((p + 1 + la) : Nat) : Int) := by omega
      have hkn' : (k : Int) < ((p : Nat) : Int) := by omega
      by_cases hlt : x k < y k
      · have HE : Hid (fd x y 0 p = -1) := HF.out.trans (fd_lt hkp hlt)
        go_wp2
        go_quiet (fail)
        go_wp2
        go_ret
        refine ⟨ret_int ?_, by first | exact ⟨_, rfl⟩ | exact dd2 _ _ _ | exact dd3 _ _ _ _⟩
        rw [HR0.out, HE.out]; rfl
      · by_cases hgt : y k < x k
        · have HE : Hid (fd x y 0 p = 1) := HF.out.trans (fd_gt hkp hgt)
          go_wp2
          go_quiet (fail)
          go_wp2
          go_quiet (fail)
          go_wp2
          go_ret
          refine ⟨ret_int ?_, by first | exact ⟨_, rfl⟩ | exact dd2 _ _ _ | exact dd3 _ _ _ _⟩
          rw [HR0.out, HE.out]; rfl
        · have HE : Hid (fd x y 0 p = fd x y (k + 1) (p - (k + 1))) := HF.out.trans (fd_eq hkp hlt hgt)
          go_wp2
          go_quiet (fail)
          go_wp2
          go_quiet (fail)
          go_wp2
          go_roundw
          case rel => exact ⟨k + 1, by omega, by go_num, HE, by first | exact ⟨_, rfl⟩ | exact dd2 _ _ _ | exact dd3 _ _ _ _⟩
          case measure => simp [intOf]; omega
    · obtain rfl : k = p := by omega
      have HE : Hid (fd x y 0 k = 0) := HF.out.trans (fd_end (by omega))
      clear HF hk hkp
      have HR : Hid (R = fd (padf x (k + 1) la) (padf y (k + 1) 0) 0 la) := by have := HR0.out; rw [HE.out, if_pos rfl] at this; exact this
      clear HR0
      have P0 : ∀ j, j < 0 → False := fun j h => by omega
      have HX : Hid (∀ j, (j < la → (padf x (k + 1) la) j = x (k + 1 + j) ∧ w.cell? ⟨b, o + (k + 1) + j, none⟩ = some (.int .u8 ((padf x (k + 1) la) j))) ∧ (¬ j < la → (padf x (k + 1) la) j = 48)) := fun j =>
        ⟨fun h => ⟨by rw [padf, if_pos h], by rw [padf, if_pos h, Nat.add_assoc]; exact HC.out _ (by omega)⟩, fun h => by rw [padf, if_neg h]⟩
      have HY : Hid (∀ j, (j < 0 → (padf y (k + 1) 0) j = y (k + 1 + j) ∧ w.cell? ⟨b', o' + (k + 1) + j, none⟩ = some (.int .u8 ((padf y (k + 1) 0) j))) ∧ (¬ j < 0 → (padf y (k + 1) 0) j = 48)) := fun j =>
        ⟨fun h => ⟨by rw [padf, if_pos h], by rw [padf, if_pos h, Nat.add_assoc]; exact HC'.out _ (by omega)⟩, fun h => by rw [padf, if_neg h]⟩
      clear HC HC' HE P0
      obtain ⟨X, eX⟩ : ∃ X, X = (padf x (k + 1) la) := ⟨_, rfl⟩
      obtain ⟨Y, eY⟩ : ∃ Y, Y = (padf y (k + 1) 0) := ⟨_, rfl⟩
      rw [← eX] at HX HR
      rw [← eY] at HY HR
      clear eX eY
      go_wp2
      go_loopw [11] (fun i wr => ∃ j : Nat, j ≤ la ∧ i = .int .i64 j ∧ Hid (R = fd X Y j (la - j)) ∧ ∃ nq, wr = w.drewN nq) (fun i _ => la - (intOf i).toNat)
      case atStart => exact ⟨0, Nat.zero_le _, rfl, HR.out, _, rfl⟩
      case round =>
        obtain ⟨j, hj, rfl, HF, nq', rfl⟩ := hrel
        clear HR
        by_cases hjn : j < la
        · by_cases ja : j < la
          · by_cases jb : j < 0
            · omega
            · have hxc := ((HX.out j).1 ja).2
              have hkx : (j : Int) < (la : Int) := by omega
              have ey := (HY.out j).2 jb
              clear HX HY
              by_cases hlt : X j < 48
              · have HE : Hid (R = -1) := HF.out.trans (fd_lt hjn (by omega))
                clear HF ey
                go_wp2
                go_ret
                exact ⟨ret_int HE.out.symm, by first | exact ⟨_, rfl⟩ | exact dd2 _ _ _ | exact dd3 _ _ _ _⟩
              · by_cases hgt : 48 < X j
                · have HE : Hid (R = 1) := HF.out.trans (fd_gt hjn (by omega))
                  clear HF ey
                  go_wp2
                  go_ret
                  exact ⟨ret_int HE.out.symm, by first | exact ⟨_, rfl⟩ | exact dd2 _ _ _ | exact dd3 _ _ _ _⟩
                · have HE : Hid (R = fd X Y (j + 1) (la - (j + 1))) := HF.out.trans (fd_eq hjn (by omega) (by omega))
                  clear HF ey
                  go_wp2
                  go_roundw
                  case rel => exact ⟨j + 1, by omega, by go_num, HE, by first | exact ⟨_, rfl⟩ | exact dd2 _ _ _ | exact dd3 _ _ _ _⟩
                  case measure => simp [intOf]; omega
          · by_cases jb : j < 0
            · omega
            · omega
        · have HE : Hid (R = 0) := HF.out.trans (fd_end (by omega))
          clear HF HX HY
          go_wp2
          go_ret
          exact ⟨ret_int HE.out.symm, by first | exact ⟨_, rfl⟩ | exact dd2 _ _ _ | exact dd3 _ _ _ _⟩

set_option maxHeartbeats 1600000 in
set_option linter.unusedVariables false in
theorem cmp_eq01 (b o p ca b' o' cb lb : Nat) (x y : Nat → Int) (w : World) (hn : p ≤ 100000) (hno : ∀ j, j < p → (x j == 46) = false)
    (hn' : (p + 1 + lb) ≤ 100000) (hno' : ∀ j, j < p → (y j == 46) = false) (hat' : y p = 46) (hcm : ca ≤ maxLen) (hcm' : (p + 1 + cb) ≤ maxLen) (hpca : p ≤ ca) (hlb : 1 ≤ lb) (hlcb : lb ≤ cb)
    (hcell : ∀ j, j < p → w.cell? ⟨b, o + j, none⟩ = some (.int .u8 (x j))) (hcell' : ∀ j, j < (p + 1 + lb) → w.cell? ⟨b', o' + j, none⟩ = some (.int .u8 (y j)))
    (R : Int) (hR : R = if fd x y 0 p = 0 then fd (padf x (p + 1) 0) (padf y (p + 1) lb) 0 lb else fd x y 0 p) :
    Calls Tryd.prog 8 #[.slice (some ⟨b, o, none⟩) p ca, .slice (some ⟨b', o', none⟩) (p + 1 + lb) (p + 1 + cb)] w fun e w' => e = .returned (.int .i64 R) ∧ ∃ nq, w' = w.drewN nq := by
  have HR0 := Lib.hid hR
  clear hR
  unfold maxLen at hcm hcm'
  have H1 := Lib.hid (dot_any b o p ca p x w hn (by omega) hno (fun h => by first | exact hat | omega) hcell)
  have H2 := Lib.hid (dot_any b' o' (p + 1 + lb) (p + 1 + cb) p y w hn' (by omega) hno' (fun h => by first | exact hat' | omega) hcell')
  clear hno hno' hat'
  have HC := Lib.hid hcell
  have HC' := Lib.hid hcell'
  clear hcell hcell'
  go_enter Tryd.func8, Tryd.ntmps8
  go_wp2_with (go_at_call 11; refine H1.out.mono ?_; rintro e w' ⟨rfl, hww⟩; obtain rfl := hww.symm; refine Hid.out ?_)
  refine Lib.hid ?_
  go_wp2_with (go_at_call 11; refine H2.out.mono ?_; rintro e w' ⟨rfl, hww⟩; obtain rfl := hww.symm)
  clear H1 H2
  go_loopw [7] (fun i wr => ∃ k : Nat, k ≤ p ∧ i = .int .i64 k ∧ Hid (fd x y 0 p = fd x y k (p - k)) ∧ ∃ nq, wr = w.drewN nq) (fun i _ => p - (intOf i).toNat)
  case atStart => exact ⟨0, Nat.zero_le _, rfl, rfl, 0, rfl⟩
  case round =>
    obtain ⟨k, hk, rfl, HF, nq, rfl⟩ := hrel
    by_cases hkp : k < p
    · have hc := HC.out k (by omega)
      have hc' := HC'.out k (by omega)
      have hkn : (k : Int) < ((p : Nat) : Int) := by omega
      have hkn' : (k : Int) < (((p + 1 + lb) : Nat) : Int) := by omega
      by_cases hlt : x k < y k
      · have HE : Hid (fd x y 0 p = -1) := HF.out.trans (fd_lt hkp hlt)
        go_wp2
        go_quiet (fail)
        go_wp2
        go_ret
        refine ⟨ret_int ?_, by first | exact ⟨_, rfl⟩ | exact dd2 _ _ _ | exact dd3 _ _ _ _⟩
        rw [HR0.out, HE.out]; rfl
      · by_cases hgt : y k < x k
        · have HE : Hid (fd x y 0 p = 1) := HF.out.trans (fd_gt hkp hgt)
          go_wp2
          go_quiet (fail)
          go_wp2
          go_quiet (fail)
          go_wp2
          go_ret
          refine ⟨ret_int ?_, by first | exact ⟨_, rfl⟩ | exact dd2 _ _ _ | exact dd3 _ _ _ _⟩
          rw [HR0.out, HE.out]; rfl
        · have HE : Hid (fd x y 0 p = fd x y (k + 1) (p - (k + 1))) := HF.out.trans (fd_eq hkp hlt hgt)
          go_wp2
          go_quiet (fail)
          go_wp2
          go_quiet (fail)
          go_wp2
          go_roundw
          case rel => exact ⟨k + 1, by omega, by go_num, HE, by first | exact ⟨_, rfl⟩ | exact dd2 _ _ _ | exact dd3 _ _ _ _⟩
          case measure => simp [intOf]; omega
    · obtain rfl : k = p := by omega
      have HE : Hid (fd x y 0 k = 0) := HF.out.trans (fd_end (by omega))
      clear HF hk hkp
      have HR : Hid (R = fd (padf x (k + 1) 0) (padf y (k + 1) lb) 0 lb) := by have := HR0.out; rw [HE.out, if_pos rfl] at this; exact this
      clear HR0
      have P0 : ∀ j, j < 0 → False := fun j h => by omega
      have HX : Hid (∀ j, (j < 0 → (padf x (k + 1) 0) j = x (k + 1 + j) ∧ w.cell? ⟨b, o + (k + 1) + j, none⟩ = some (.int .u8 ((padf x (k + 1) 0) j))) ∧ (¬ j < 0 → (padf x (k + 1) 0) j = 48)) := fun j =>
        ⟨fun h => ⟨by rw [padf, if_pos h], by rw [padf, if_pos h, Nat.add_assoc]; exact HC.out _ (by omega)⟩, fun h => by rw [padf, if_neg h]⟩
      have HY : Hid (∀ j, (j < lb → (padf y (k + 1) lb) j = y (k + 1 + j) ∧ w.cell? ⟨b', o' + (k + 1) + j, none⟩ = some (.int .u8 ((padf y (k + 1) lb) j))) ∧ (¬ j < lb → (padf y (k + 1) lb) j = 48)) := fun j =>
        ⟨fun h => ⟨by rw [padf, if_pos h], by rw [padf, if_pos h, Nat.add_assoc]; exact HC'.out _ (by omega)⟩, fun h => by rw [padf, if_neg h]⟩
      clear HC HC' HE P0
      obtain ⟨X, eX⟩ : ∃ X, X = (padf x (k + 1) 0) := ⟨_, rfl⟩
      obtain ⟨Y, eY⟩ : ∃ Y, Y = (padf y (k + 1) lb) := ⟨_, rfl⟩
      rw [← eX] at HX HR
      rw [← eY] at HY HR
      clear eX eY
      go_wp2
      go_loopw [11] (fun i wr => ∃ j : Nat, j ≤ lb ∧ i = .int .i64 j ∧ Hid (R = fd X Y j (lb - j)) ∧ ∃ nq, wr = w.drewN nq) (fun i _ => lb - (intOf i).toNat)
      case atStart => exact ⟨0, Nat.zero_le _, rfl, HR.out, _, rfl⟩
      case round =>
        obtain ⟨j, hj, rfl, HF, nq', rfl⟩ := hrel
        clear HR
        by_cases hjn : j < lb
        · by_cases ja : j < 0
          · by_cases jb : j < lb
            · omega
            · omega
          · by_cases jb : j < lb
            · have ex := (HX.out j).2 ja
              have hyc := ((HY.out j).1 jb).2
              have hky : (j : Int) < (lb : Int) := by omega
              clear HX HY
              by_cases hlt : 48 < Y j
              · have HE : Hid (R = -1) := HF.out.trans (fd_lt hjn (by omega))
                clear HF ex
                go_wp2
                go_ret
                exact ⟨ret_int HE.out.symm, by first | exact ⟨_, rfl⟩ | exact dd2 _ _ _ | exact dd3 _ _ _ _⟩
              · by_cases hgt : Y j < 48
                · have HE : Hid (R = 1) := HF.out.trans (fd_gt hjn (by omega))
                  clear HF ex
                  go_wp2
                  go_ret
                  exact ⟨ret_int HE.out.symm, by first | exact ⟨_, rfl⟩ | exact dd2 _ _ _ | exact dd3 _ _ _ _⟩
                · have HE : Hid (R = fd X Y (j + 1) (lb - (j + 1))) := HF.out.trans (fd_eq hjn (by omega) (by omega))
                  clear HF ex
                  go_wp2
                  go_roundw
                  case rel => exact ⟨j + 1, by omega, by go_num, HE, by first | exact ⟨_, rfl⟩ | exact dd2 _ _ _ | exact dd3 _ _ _ _⟩
                  case measure => simp [intOf]; omega
            · omega
        · have HE : Hid (R = 0) := HF.out.trans (fd_end (by omega))
          clear HF HX HY
          go_wp2
          go_ret
          exact ⟨ret_int HE.out.symm, by first | exact ⟨_, rfl⟩ | exact dd2 _ _ _ | exact dd3 _ _ _ _⟩

set_option maxHeartbeats 1600000 in
set_option linter.unusedVariables false in
theorem cmp_eq00 (b o p ca b' o' cb : Nat) (x y : Nat → Int) (w : World) (hn : p ≤ 100000) (hno : ∀ j, j < p → (x j == 46) = false)
    (hn' : p ≤ 100000) (hno' : ∀ j, j < p → (y j == 46) = false) (hcm : ca ≤ maxLen) (hcm' : cb ≤ maxLen) (hpca : p ≤ ca) (hpcb : p ≤ cb)
    (hcell : ∀ j, j < p → w.cell? ⟨b, o + j, none⟩ = some (.int .u8 (x j))) (hcell' : ∀ j, j < p → w.cell? ⟨b', o' + j, none⟩ = some (.int .u8 (y j)))
    (R : Int) (hR : R = if fd x y 0 p = 0 then fd (padf x (p + 1) 0) (padf y (p + 1) 0) 0 0 else fd x y 0 p) :
    Calls Tryd.prog 8 #[.slice (some ⟨b, o, none⟩) p ca, .slice (some ⟨b', o', none⟩) p cb] w fun e w' => e = .returned (.int .i64 R) ∧ ∃ nq, w' = w.drewN nq := by
  have HR0 := Lib.hid hR
  clear hR
  unfold maxLen at hcm hcm'
  have H1 := Lib.hid (dot_any b o p ca p x w hn (by omega) hno (fun h => by first | exact hat | omega) hcell)
  have H2 := Lib.hid (dot_any b' o' p cb p y w hn' (by omega) hno' (fun h => by first | exact hat' | omega) hcell')
  clear hno hno'
  have HC := Lib.hid hcell
  have HC' := Lib.hid hcell'
  clear hcell hcell'
  go_enter Tryd.func8, Tryd.ntmps8
  go_wp2_with (go_at_call 11; refine H1.out.mono ?_; rintro e w' ⟨rfl, hww⟩; obtain rfl := hww.symm; refine Hid.out ?_)
  refine Lib.hid ?_
  go_wp2_with (go_at_call 11; refine H2.out.mono ?_; rintro e w' ⟨rfl, hww⟩; obtain rfl := hww.symm)
  clear H1 H2
  go_loopw [7] (fun i wr => ∃ k : Nat, k ≤ p ∧ i = .int .i64 k ∧ Hid (fd x y 0 p = fd x y k (p - k)) ∧ ∃ nq, wr = w.drewN nq) (fun i _ => p - (intOf i).toNat)
  case atStart => exact ⟨0, Nat.zero_le _, rfl, rfl, 0, rfl⟩
  case round =>
    obtain ⟨k, hk, rfl, HF, nq, rfl⟩ := hrel
    by_cases hkp : k < p
    · have hc := HC.out k (by omega)
      have hc' := HC'.out k (by omega)
      have hkn : (k : Int) < ((p : Nat) : Int) := by omega
      have hkn' : (k : Int) < ((p : Nat) : Int) := by omega
      by_cases hlt : x k < y k
      · have HE : Hid (fd x y 0 p = -1) := HF.out.trans (fd_lt hkp hlt)
        go_wp2
        go_quiet (fail)
        go_wp2
        go_ret
        refine ⟨ret_int ?_, by first | exact ⟨_, rfl⟩ | exact dd2 _ _ _ | exact dd3 _ _ _ _⟩
        rw [HR0.out, HE.out]; rfl
      · by_cases hgt : y k < x k
        · have HE : Hid (fd x y 0 p = 1) := HF.out.trans (fd_gt hkp hgt)
          go_wp2
          go_quiet (fail)
          go_wp2
          go_quiet (fail)
          go_wp2
          go_ret
          refine ⟨ret_int ?_, by first | exact ⟨_, rfl⟩ | exact dd2 _ _ _ | exact dd3 _ _ _ _⟩
          rw [HR0.out, HE.out]; rfl
        · have HE : Hid (fd x y 0 p = fd x y (k + 1) (p - (k + 1))) := HF.out.trans (fd_eq hkp hlt hgt)
          go_wp2
          go_quiet (fail)
          go_wp2
          go_quiet (fail)
          go_wp2
          go_roundw
          case rel => exact ⟨k + 1, by omega, by go_num, HE, by first | exact ⟨_, rfl⟩ | exact dd2 _ _ _ | exact dd3 _ _ _ _⟩
          case measure => simp [intOf]; omega
    · obtain rfl : k = p := by omega
      have HE : Hid (fd x y 0 k = 0) := HF.out.trans (fd_end (by omega))
      clear HF hk hkp
      have HR : Hid (R = fd (padf x (k + 1) 0) (padf y (k + 1) 0) 0 0) := by have := HR0.out; rw [HE.out, if_pos rfl] at this; exact this
      clear HR0
      have P0 : ∀ j, j < 0 → False := fun j h => by omega
      have HX : Hid (∀ j, (j < 0 → (padf x (k + 1) 0) j = x (k + 1 + j) ∧ w.cell? ⟨b, o + (k + 1) + j, none⟩ = some (.int .u8 ((padf x (k + 1) 0) j))) ∧ (¬ j < 0 → (padf x (k + 1) 0) j = 48)) := fun j =>
        ⟨fun h => ⟨by rw [padf, if_pos h], by rw [padf, if_pos h, Nat.add_assoc]; exact HC.out _ (by omega)⟩, fun h => by rw [padf, if_neg h]⟩
      have HY : Hid (∀ j, (j < 0 → (padf y (k + 1) 0) j = y (k + 1 + j) ∧ w.cell? ⟨b', o' + (k + 1) + j, none⟩ = some (.int .u8 ((padf y (k + 1) 0) j))) ∧ (¬ j < 0 → (padf y (k + 1) 0) j = 48)) := fun j =>
        ⟨fun h => ⟨by rw [padf, if_pos h], by rw [padf, if_pos h, Nat.add_assoc]; exact HC'.out _ (by omega)⟩, fun h => by rw [padf, if_neg h]⟩
      clear HC HC' HE P0
      obtain ⟨X, eX⟩ : ∃ X, X = (padf x (k + 1) 0) := ⟨_, rfl⟩
      obtain ⟨Y, eY⟩ : ∃ Y, Y = (padf y (k + 1) 0) := ⟨_, rfl⟩
      rw [← eX] at HX HR
      rw [← eY] at HY HR
      clear eX eY
      go_wp2
      go_loopw [11] (fun i wr => ∃ j : Nat, j ≤ 0 ∧ i = .int .i64 j ∧ Hid (R = fd X Y j (0 - j)) ∧ ∃ nq, wr = w.drewN nq) (fun i _ => 0 - (intOf i).toNat)
      case atStart => exact ⟨0, Nat.zero_le _, rfl, HR.out, _, rfl⟩
      case round =>
        obtain ⟨j, hj, rfl, HF, nq', rfl⟩ := hrel
        clear HR
        by_cases hjn : j < 0
        · exact absurd hjn (Nat.not_lt_zero _)
        · have HE : Hid (R = 0) := HF.out.trans (fd_end (by omega))
          clear HF HX HY
          go_wp2
          go_ret
          exact ⟨ret_int HE.out.symm, by first | exact ⟨_, rfl⟩ | exact dd2 _ _ _ | exact dd3 _ _ _ _⟩
end Go.Proofs.Qxb6617147aDoor
