/-
  The walk of FnAppendToIsCanonicalDecimal out of the contracts of AppendTo and parseCanonicalDollars.
-/
import Derived.Test.Qxb6617147aDoorApp
import Derived.Test.Qxb6617147aDoorLawC
import Derived.Test.Qxb6617147aDoorOrd
namespace Go.Proofs.Qxb6617147aDoor
open Go Go.RowKit

set_option maxHeartbeats 400000 in
theorem zzb_yes (a : Option Addr) (n c : Nat) (m : Int) (w : World) (h : n ≤ 1048576) :
    Calls Tryd.prog 5 #[.slice a n c, .int .i64 m] w fun e w' => e = .returned (.bool true) ∧ w = w' := by
  go_enter Tryd.func5, Tryd.ntmps5
  go_wp2
  go_ret
  exact ⟨rfl, rfl⟩

set_option maxHeartbeats 400000 in
theorem zzb_no (a : Option Addr) (n c : Nat) (m : Int) (w : World) (h : 1048576 < n) :
    Calls Tryd.prog 5 #[.slice a n c, .int .i64 m] w fun e w' => e = .returned (.bool false) ∧ w = w' := by
  go_enter Tryd.func5, Tryd.ntmps5
  go_wp2
  go_ret
  exact ⟨rfl, rfl⟩

set_option maxHeartbeats 400000 in
/-- Too long a slice, or a negative amount. -/
theorem can_out (a : Option Addr) (n c : Nat) (m : Int) (w : World) (h : 1048576 < n ∨ m < 0) :
    Calls Tryd.prog 3 #[.slice a n c, .int .i64 m] w fun e w' => e = .returned (.bool true) ∧ Below w.heap.size w w' := by
  by_cases hn : 1048576 < n
  · go_enter Tryd.func3, Tryd.ntmps3
    go_wp2_with (go_at_call 5; refine (zzb_no _ _ _ _ _ hn).mono ?_; rintro e w' ⟨rfl, rfl⟩)
    go_ret
    exact ⟨rfl, Below.refl _ _⟩
  · have hm : m < 0 := by omega
    have hn' : n ≤ 1048576 := by omega
    clear h
    go_enter Tryd.func3, Tryd.ntmps3
    go_wp2_with (go_at_call 5; refine (zzb_yes _ _ _ _ _ hn').mono ?_; rintro e w' ⟨rfl, rfl⟩)
    go_ret
    exact ⟨rfl, Below.refl _ _⟩

theorem parse_text' (m : Nat) (hm : m ≤ 9223372036854775807) (g o cap : Nat) (w : World)
    (hcell : ∀ j, j < (text m).length → w.cell? ⟨g, o + j, none⟩ = some (.int .u8 (xt (text m) j))) :
    Calls Tryd.prog 7 #[.slice (some ⟨g, o, none⟩) (text m).length cap] w fun e w' => e = .returned (.tuple #[.int .u64 (m : Int), .bool true]) ∧ w = w' := by
  have h := parse_text (m / 1000000) (m % 1000000) (by omega) (by omega) g o cap w hcell
  rw [show m / 1000000 * 1000000 + m % 1000000 = m by omega] at h
  exact h

set_option maxHeartbeats 1600000 in
/-- The nil slice. -/
theorem can_nil (m : Nat) (hm : m ≤ 9223372036854775807) (w : World) (htab : Lib.TabIs Tryd.prog w powName .u64 Lib.pow10Tab) :
    Calls Tryd.prog 3 #[.slice none 0 0, .int .i64 m] w fun e w' => e = .returned (.bool true) ∧ Below w.heap.size w w' := by
  have hT := Lib.tabBelow_of_tabIs htab
  have HA := Lib.hid (app_any w.heap.size 0 m hm (.slice none 0 0) [] w (World.ownsRow_nil _ _ _ _) (Nat.le_refl _) (by omega) hT)
  clear htab hT
  have hnil := fun w => run_neq_slice_nil_any (P := Tryd.prog) w 22 5 none 0 0 0 0 Tryd.underlying22
  go_enter Tryd.func3, Tryd.ntmps3
  go_wp2_with (first | (go_at_call 5; refine (zzb_yes _ _ _ _ _ (by omega)).mono ?_; rintro e w' ⟨rfl, rfl⟩) | (go_at_call 6; refine HA.out.mono ?_; rintro e w1 ⟨v1, rfl, hown1, hb1⟩; refine Hid.out ?_))
  refine Lib.hid ?_
  clear HA hnil
  rw [Nat.zero_add, List.nil_append] at hown1
  obtain ⟨g1, c1, rfl, hc1, hm1, hg1, hl1, hr1⟩ := row_cells hown1 (text_length_pos _ _)
  have HP := Lib.hid (parse_text' m hm g1 0 c1 w1 hr1)
  have HB1 := Lib.hid hb1
  have hpos : 0 < (text m).length := text_length_pos _ _
  have hle : (text m).length ≤ 28 := text_length_le _ _ (by omega)
  clear hr1 hown1 hb1
  unfold maxLen at hm1
  generalize (text m).length = tl at *
  go_wp2
  go_loop [9] (fun i => i = .int .i64 0) (fun _ => 0)
  case atStart => rfl
  case round =>
    subst hrel
    go_wp2_with (go_at_call 7; refine HP.out.mono ?_; rintro e w' ⟨rfl, rfl⟩)
    go_ret
    exact ⟨rfl, HB1.out⟩

/-- The copy loop's relation at round k: both new rows hold the first k bytes. -/
def Cp (w wr : World) (N M n k : Nat) (z : Nat → Int) : Prop :=
  ∃ xs ys, wr.ownsRow N 5 1 (.slice (some ⟨N, 0, none⟩) n n) n xs ∧ (∀ j, j < k → xs[j]? = some (Value.int .u8 (z j))) ∧
    wr.ownsRow M 5 1 (.slice (some ⟨M, 0, none⟩) n n) n ys ∧ (∀ j, j < k → ys[j]? = some (Value.int .u8 (z j))) ∧ Below N w wr

theorem set_upto {xs : List Value} {k n : Nat} {z : Nat → Int} (hl : xs.length = n) (hk : k < n) (h : ∀ j, j < k → xs[j]? = some (Value.int .u8 (z j))) :
    ∀ j, j < k + 1 → (xs.set k (Value.int .u8 (z k)))[j]? = some (Value.int .u8 (z j)) := by
  intro j hj
  by_cases e : j = k
  · subst e; rw [List.getElem?_set_self (by omega)]
  · rw [List.getElem?_set_ne (by omega)]; exact h j (by omega)

/-- One round: what the walk reads and finds unfrozen, and the relation behind the two stores. -/
theorem Cp.step {w wr : World} {N M n k b : Nat} {z : Nat → Int} (h : Cp w wr N M n k z) (hk : k < n) (hNM : N < M) (hN : N = w.heap.size) (hb : b < N) (o : Nat) (hc : w.cell? ⟨b, o + k, none⟩ = some (.int .u8 (z k))) :
    wr.cell? ⟨b, o + k, none⟩ = some (.int .u8 (z k)) ∧ (∃ u, wr.cell? ⟨N, k, none⟩ = some u) ∧ wr.frozen? ⟨N, k, none⟩ = false ∧
    (wr.setCell ⟨N, k, none⟩ (.int .u8 (z k))).cell? ⟨b, o + k, none⟩ = some (.int .u8 (z k)) ∧ (∃ u, (wr.setCell ⟨N, k, none⟩ (.int .u8 (z k))).cell? ⟨M, k, none⟩ = some u) ∧ (wr.setCell ⟨N, k, none⟩ (.int .u8 (z k))).frozen? ⟨M, k, none⟩ = false ∧
    Cp w ((wr.setCell ⟨N, k, none⟩ (.int .u8 (z k))).setCell ⟨M, k, none⟩ (.int .u8 (z k))) N M n (k + 1) z := by
  obtain ⟨xs, ys, h1, hx, h2, hy, hbl⟩ := h
  have lx : xs.length = n := by simpa using h1.1
  have ly : ys.length = n := by simpa using h2.1
  obtain ⟨s1, g1⟩ := h1.stored k (.int .u8 (z k))
  have h2' := h2.kept g1 (.inr (by simp [Value.ownBlock]; omega))
  obtain ⟨s2, g2⟩ := h2'.stored k (.int .u8 (z k))
  have s1' := s1.kept g2 (.inr (by simp [Value.ownBlock]; omega))
  have bl1 : Below N w (wr.setCell ⟨N, k, none⟩ (.int .u8 (z k))) := hbl.setCell (p := ⟨N, k, none⟩) (Nat.le_refl _) _
  have bl2 := bl1.setCell (p := ⟨M, k, none⟩) (Nat.le_of_lt hNM) (.int .u8 (z k))
  refine ⟨(hbl.cell (p := ⟨b, o + k, none⟩) hb).trans hc, ?_, h1.frozenAt k, (bl1.cell (p := ⟨b, o + k, none⟩) hb).trans hc, ?_, h2'.frozenAt k, ?_⟩
  · rw [h1.cellAt k (by omega)]
    exact ⟨_, List.getElem?_eq_getElem (by omega)⟩
  · rw [h2'.cellAt k (by omega)]
    exact ⟨_, List.getElem?_eq_getElem (by omega)⟩
  · exact ⟨_, _, s1', set_upto lx hk hx, s2, set_upto ly hk hy, bl2⟩

theorem range_of {xs : List Value} {n : Nat} {z : Nat → Int} (hl : xs.length = n) (h : ∀ j, j < n → xs[j]? = some (Value.int .u8 (z j))) : xs = (List.range n).map fun j => Value.int .u8 (z j) := by
  apply List.ext_getElem?
  intro j
  by_cases hj : j < n
  · rw [h j hj]; simp [hj]
  · rw [List.getElem?_eq_none (by omega), List.getElem?_eq_none (by simp; omega)]

/-- Behind the copy loop: AppendTo onto the second row, and what is then to be read. -/
theorem Cp.made {w wr : World} {N M n m : Nat} {z : Nat → Int} (h : Cp w wr N M n n z) (hm : m ≤ 9223372036854775807) (hNM : N < M) (hN : N = w.heap.size) (hn : n ≤ 1048576)
    (hT : Lib.TabBelow Tryd.prog w.heap.size w powName .u64 Lib.pow10Tab) :
    Calls Tryd.prog 6 #[.int .i64 m, .slice (some ⟨M, 0, none⟩) n n] wr fun e w' => ∃ g cap, e = .returned (.slice (some ⟨g, 0, none⟩) (n + (text m).length) cap) ∧ n + (text m).length ≤ cap ∧ cap ≤ maxLen ∧
      (∀ j, j < n → w'.cell? ⟨g, j, none⟩ = some (.int .u8 (z j))) ∧ (∀ j, j < n → w'.cell? ⟨N, j, none⟩ = some (.int .u8 (z j))) ∧
      (∀ j, j < (text m).length → w'.cell? ⟨g, n + j, none⟩ = some (.int .u8 (xt (text m) j))) ∧ Below w.heap.size w w' := by
  obtain ⟨xs, ys, h1, hx, h2, hy, hbl⟩ := h
  have lx : xs.length = n := by simpa using h1.1
  have ly : ys.length = n := by simpa using h2.1
  have hM := (h2.lt M rfl).2
  have hT2 : Lib.TabBelow Tryd.prog M wr powName .u64 Lib.pow10Tab := fun w' hb => hT w' (by rw [← hN]; exact hbl.trans (hb.mono (by omega)))
  refine (app_any M n m hm _ ys wr h2 (by omega) (by omega) hT2).mono ?_
  rintro e w3 ⟨v3, rfl, hown3, hb3⟩
  have hpos : 0 < (text m).length := text_length_pos _ _
  rcases hown3.2 with ⟨-, h0⟩ | ⟨g, cap, cur, rfl, hBg, -, hcap, hcm, -, -⟩
  · omega
  · refine ⟨g, cap, rfl, hcap, hcm, fun j hj => ?_, fun j hj => ?_, fun j hj => ?_, by rw [← hN]; exact hbl.trans (hb3.mono (by omega))⟩
    · rw [hown3.cellAt j (by omega), List.getElem?_append_left (by omega)]; exact hy j hj
    · rw [hb3.cell (p := ⟨N, j, none⟩) hNM, h1.cellAt j (by omega)]; exact hx j hj
    · rw [hown3.cellAt (n + j) (by omega), List.getElem?_append_right (by omega), show n + j - ys.length = j by omega]
      simp [Lib.byteCells, xt, hj, List.getD_eq_getElem?_getD]

set_option maxHeartbeats 1600000 in
theorem can_some (b off n cap : Nat) (z : Nat → Int) (m : Nat) (hm : m ≤ 9223372036854775807) (hn : n ≤ 1048576) (w : World) (htab : Lib.TabIs Tryd.prog w powName .u64 Lib.pow10Tab)
    (hcell : ∀ j, j < n → w.cell? ⟨b, off + j, none⟩ = some (.int .u8 (z j))) :
    Calls Tryd.prog 3 #[.slice (some ⟨b, off, none⟩) n cap, .int .i64 m] w fun e w' => e = .returned (.bool true) ∧ Below w.heap.size w w' := by
  obtain ⟨i0, hi, hz0, hz1, hz2⟩ := info_parts infoByte
  have HT := Lib.hid (Lib.tabBelow_of_tabIs htab)
  have HC := Lib.hid hcell
  clear htab hcell
  have hnil := fun w => run_neq_slice_nil_any (P := Tryd.prog) w 22 5 (some ⟨b, off, none⟩) n cap 0 0 Tryd.underlying22
  go_enter Tryd.func3, Tryd.ntmps3
  go_wp2_with (first | (go_at_call 5; refine (zzb_yes _ _ _ _ _ hn).mono ?_; rintro e w' ⟨rfl, rfl⟩) | (at_make; refine wpList_make_full _ rfl _ _ 22 rfl w.heap.size 5 i0 (.int .u8 0) 1 Tryd.underlying22 hi hz0 hz1 .i64 .i64 _ _ n rfl rfl (by rfl) (by rfl) (by rw [hz2]; omega) (by unfold maxLen; omega) (Nat.le_refl _) ?_; intro w1 hown1 hgrow1; refine Hid.out ?_))
  refine Lib.hid ?_
  clear hnil
  go_wp2_with (at_make; refine wpList_make_full _ rfl _ _ 22 rfl w1.heap.size 5 i0 (.int .u8 0) 1 Tryd.underlying22 hi hz0 hz1 .i64 .i64 _ _ n rfl rfl (by rfl) (by rfl) (by rw [hz2]; omega) (by unfold maxLen; omega) (Nat.le_refl _) ?_; intro w2 hown2 hgrow2; refine Hid.out ?_)
  refine Lib.hid ?_
  have hlt : w.heap.size < w1.heap.size := (hown1.lt _ rfl).2
  have HCp : Hid (Cp w w2 w.heap.size w1.heap.size n 0 z) :=
    ⟨_, _, hown1.kept hgrow2 (.inr (by simp [Value.ownBlock])), fun j hj => by omega, hown2, fun j hj => by omega,
      ((Below.refl _ _).grown hgrow1 (Nat.le_refl _) (fun k hk => by simp at hk)).grown hgrow2 (by omega) (fun k hk => by simp at hk)⟩
  have hsz : w1.heap.size ≤ w2.heap.size := hgrow2.size
  clear hown1 hown2 hgrow1 hgrow2
  go_wp2
  go_loopw [7] (fun i wr => ∃ k : Nat, k ≤ n ∧ i = .int .i64 k ∧ Hid (Cp w wr w.heap.size w1.heap.size n k z)) (fun i _ => n - (intOf i).toNat)
  case atStart => exact ⟨0, Nat.zero_le _, rfl, HCp⟩
  case round =>
    obtain ⟨k, hk, rfl, HR⟩ := hrel
    clear HCp
    by_cases hkn : k < n
    · have hc0 := HC.out k hkn
      have hb : b < w.heap.size := World.block_lt_of_cell? w _ hc0
      obtain ⟨c1, ⟨u1, c2⟩, c3, c4, ⟨u2, c5⟩, c6, HR2⟩ := HR.out.step hkn hlt rfl hb off hc0
      have HR3 := Lib.hid HR2
      clear HR HR2 hc0 hb
      have hki : (k : Int) < (n : Int) := by omega
      go_wp2
      go_roundw
      case rel => exact ⟨k + 1, by omega, by go_num, HR3⟩
      case measure => simp [intOf]; omega
    · obtain rfl : k = n := by omega
      have HA := Lib.hid (HR.out.made hm hlt rfl hn HT.out)
      clear HT HC HR
      go_wp2_with (go_at_call 6; refine HA.out.mono ?_; rintro e w3 ⟨g, c3, rfl, hc3, hcm3, hA, hP, hR, hb3⟩; refine Hid.out ?_)
      refine Lib.hid ?_
      have HP := Lib.hid (fun nq => parse_text' m hm g k (c3 - k) (w3.drewN nq) hR)
      have HB3 := Lib.hid hb3
      have HA3 := Lib.hid hA
      have HP3 := Lib.hid hP
      have hpos : 0 < (text m).length := text_length_pos _ _
      have hle : (text m).length ≤ 28 := text_length_le _ _ (by omega)
      clear hA hP hR hb3 HA
      unfold maxLen at hcm3
      generalize (text m).length = tl at *
      go_wp2
      go_loopw [9] (fun i wr => ∃ j : Nat, j ≤ k ∧ i = .int .i64 j ∧ ∃ nq, wr = w3.drewN nq) (fun i _ => k - (intOf i).toNat)
      case atStart => exact ⟨0, Nat.zero_le _, rfl, 0, rfl⟩
      case round =>
        obtain ⟨j, hj, rfl, nq, rfl⟩ := hrel
        by_cases hjk : j < k
        · have c1 := HA3.out j hjk
          have c2 := HP3.out j hjk
          have hj1 : (j : Int) < (k : Int) := by omega
          have hj2 : (j : Int) < ((k + tl : Nat) : Int) := by omega
          go_wp2
          go_quiet (fail)
          go_wp2
          go_roundw
          case rel => exact ⟨j + 1, by omega, by go_num, by first | exact ⟨_, rfl⟩ | exact dd2 _ _ _⟩
          case measure => simp [intOf]; omega
        · obtain rfl : j = k := by omega
          go_wp2_with (go_at_call 7; refine (HP.out nq).mono ?_; rintro e w' ⟨rfl, rfl⟩)
          go_ret
          exact ⟨rfl, HB3.out.trans ⟨rfl, rfl, rfl, Nat.le_refl _, fun _ _ => rfl⟩⟩

set_option maxHeartbeats 1600000 in
/-- A slice without an element that is not nil. -/
theorem can_zero (a : Addr) (n cap : Nat) (hn0 : n = 0) (z : Nat → Int) (m : Nat) (hm : m ≤ 9223372036854775807) (hn : n ≤ 1048576) (w : World) (htab : Lib.TabIs Tryd.prog w powName .u64 Lib.pow10Tab) :
    Calls Tryd.prog 3 #[.slice (some a) n cap, .int .i64 m] w fun e w' => e = .returned (.bool true) ∧ Below w.heap.size w w' := by
  obtain ⟨i0, hi, hz0, hz1, hz2⟩ := info_parts infoByte
  have HT := Lib.hid (Lib.tabBelow_of_tabIs htab)
  have H0 := Lib.hid hn0
  clear htab hn0
  have hnil := fun w => run_neq_slice_nil_any (P := Tryd.prog) w 22 5 (some a) n cap 0 0 Tryd.underlying22
  go_enter Tryd.func3, Tryd.ntmps3
  go_wp2_with (first | (go_at_call 5; refine (zzb_yes _ _ _ _ _ hn).mono ?_; rintro e w' ⟨rfl, rfl⟩) | (at_make; refine wpList_make_full _ rfl _ _ 22 rfl w.heap.size 5 i0 (.int .u8 0) 1 Tryd.underlying22 hi hz0 hz1 .i64 .i64 _ _ n rfl rfl (by rfl) (by rfl) (by rw [hz2]; omega) (by unfold maxLen; omega) (Nat.le_refl _) ?_; intro w1 hown1 hgrow1; refine Hid.out ?_))
  refine Lib.hid ?_
  clear hnil
  go_wp2_with (at_make; refine wpList_make_full _ rfl _ _ 22 rfl w1.heap.size 5 i0 (.int .u8 0) 1 Tryd.underlying22 hi hz0 hz1 .i64 .i64 _ _ n rfl rfl (by rfl) (by rfl) (by rw [hz2]; omega) (by unfold maxLen; omega) (Nat.le_refl _) ?_; intro w2 hown2 hgrow2; refine Hid.out ?_)
  refine Lib.hid ?_
  have hlt : w.heap.size < w1.heap.size := (hown1.lt _ rfl).2
  have HCp : Hid (Cp w w2 w.heap.size w1.heap.size n 0 z) :=
    ⟨_, _, hown1.kept hgrow2 (.inr (by simp [Value.ownBlock])), fun j hj => by omega, hown2, fun j hj => by omega,
      ((Below.refl _ _).grown hgrow1 (Nat.le_refl _) (fun k hk => by simp at hk)).grown hgrow2 (by omega) (fun k hk => by simp at hk)⟩
  have hsz : w1.heap.size ≤ w2.heap.size := hgrow2.size
  clear hown1 hown2 hgrow1 hgrow2
  go_wp2
  go_loopw [7] (fun i wr => ∃ k : Nat, k ≤ n ∧ i = .int .i64 k ∧ Hid (Cp w wr w.heap.size w1.heap.size n k z)) (fun i _ => n - (intOf i).toNat)
  case atStart => exact ⟨0, Nat.zero_le _, rfl, HCp⟩
  case round =>
    obtain ⟨k, hk, rfl, HR⟩ := hrel
    clear HCp
    by_cases hkn : k < n
    · exact absurd hkn (by have := H0.out; omega)
    · obtain rfl : k = n := by omega
      have HA := Lib.hid (HR.out.made hm hlt rfl hn HT.out)
      clear HT HR
      go_wp2_with (go_at_call 6; refine HA.out.mono ?_; rintro e w3 ⟨g, c3, rfl, hc3, hcm3, hA, hP, hR, hb3⟩; refine Hid.out ?_)
      refine Lib.hid ?_
      have HP := Lib.hid (fun nq => parse_text' m hm g k (c3 - k) (w3.drewN nq) hR)
      have HB3 := Lib.hid hb3
      have HA3 := Lib.hid hA
      have HP3 := Lib.hid hP
      have hpos : 0 < (text m).length := text_length_pos _ _
      have hle : (text m).length ≤ 28 := text_length_le _ _ (by omega)
      clear hA hP hR hb3 HA
      unfold maxLen at hcm3
      generalize (text m).length = tl at *
      go_wp2
      go_loopw [9] (fun i wr => ∃ j : Nat, j ≤ k ∧ i = .int .i64 j ∧ ∃ nq, wr = w3.drewN nq) (fun i _ => k - (intOf i).toNat)
      case atStart => exact ⟨0, Nat.zero_le _, rfl, 0, rfl⟩
      case round =>
        obtain ⟨j, hj, rfl, nq, rfl⟩ := hrel
        by_cases hjk : j < k
        · have c1 := HA3.out j hjk
          have c2 := HP3.out j hjk
          have hj1 : (j : Int) < (k : Int) := by omega
          have hj2 : (j : Int) < ((k + tl : Nat) : Int) := by omega
          go_wp2
          go_quiet (fail)
          go_wp2
          go_roundw
          case rel => exact ⟨j + 1, by omega, by go_num, by first | exact ⟨_, rfl⟩ | exact dd2 _ _ _⟩
          case measure => simp [intOf]; omega
        · obtain rfl : j = k := by omega
          go_wp2_with (go_at_call 7; refine (HP.out nq).mono ?_; rintro e w' ⟨rfl, rfl⟩)
          go_ret
          exact ⟨rfl, HB3.out.trans ⟨rfl, rfl, rfl, Nat.le_refl _, fun _ _ => rfl⟩⟩
end Go.Proofs.Qxb6617147aDoor
