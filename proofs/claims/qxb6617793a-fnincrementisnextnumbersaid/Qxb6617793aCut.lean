/-
  The walk of FnIncrementCarriesAcrossAnyCut.
-/
import Derived.Test.Qxb6617793aCalls
import Derived.Deep.RegionWith
import Derived.OwnWalk
namespace Go.Proofs.Qxb6617793a
open Go Go.RowKit

set_option maxHeartbeats 400000 in
theorem zzc_yes (a b : ByteArray) (w : World) (h : a.size + b.size ≤ 1048576) :
    Calls Try.prog 14 #[.string a, .string b] w fun e w' => e = .returned (.bool true) ∧ w = w' := by
  go_enter Try.func14, Try.ntmps14
  go_wp2
  go_ret
  exact ⟨rfl, rfl⟩

set_option maxHeartbeats 400000 in
theorem zzc_no (a b : ByteArray) (w : World) (ha : a.size ≤ maxLen) (hb : b.size ≤ maxLen) (h : 1048576 < a.size + b.size) :
    Calls Try.prog 14 #[.string a, .string b] w fun e w' => e = .returned (.bool false) ∧ w = w' := by
  unfold maxLen at ha hb
  by_cases h1 : 1048576 < a.size
  · go_enter Try.func14, Try.ntmps14
    go_wp2
    go_ret
    exact ⟨rfl, rfl⟩
  by_cases h2 : 1048576 < b.size
  · go_enter Try.func14, Try.ntmps14
    go_wp2
    go_ret
    exact ⟨rfl, rfl⟩
  go_enter Try.func14, Try.ntmps14
  go_wp2
  go_ret
  exact ⟨rfl, rfl⟩

theorem at_eq (s : ByteArray) (k : Nat) (h : k < s.size) : s.data.toList[k]? = some s[k] := by
  rw [List.getElem?_eq_getElem (by simpa using h)]; rfl

set_option maxHeartbeats 400000 in
theorem nines_yes (s : ByteArray) (w : World) (hs : s.size ≤ 1048576) (h9 : ∀ c ∈ s.data.toList, c = 57) :
    Calls Try.prog 15 #[.string s] w fun e w' => e = .returned (.bool true) ∧ w = w' := by
  have H9 := Lib.hid h9
  clear h9
  go_enter Try.func15, Try.ntmps15
  go_wp2
  go_loop [3] (fun i => ∃ k : Nat, k ≤ s.size ∧ i = .int .i64 k) (fun i => s.size - (intOf i).toNat)
  case atStart => exact ⟨0, Nat.zero_le _, rfl⟩
  case round =>
    obtain ⟨k, hk, rfl⟩ := hrel
    by_cases hlt : k < s.size
    · have hc : s[k] = 57 := H9.out _ (List.mem_of_getElem? (at_eq s k hlt))
      go_wp2
      go_round
      case rel => exact ⟨k + 1, by omega, by go_num⟩
      case measure => simp [intOf]; omega
    · go_wp2
      go_ret
      exact ⟨rfl, rfl⟩

set_option maxHeartbeats 400000 in
theorem nines_no (s : ByteArray) (w : World) (hs : s.size ≤ 1048576) (h9 : ∃ c ∈ s.data.toList, c ≠ 57) :
    Calls Try.prog 15 #[.string s] w fun e w' => e = .returned (.bool false) ∧ w = w' := by
  have H9 := Lib.hid h9
  clear h9
  go_enter Try.func15, Try.ntmps15
  go_wp2
  go_loop [3] (fun i => ∃ k : Nat, k ≤ s.size ∧ i = .int .i64 k ∧ Hid (∀ j, j < k → s.data.toList[j]? = some 57)) (fun i => s.size - (intOf i).toNat)
  case atStart => exact ⟨0, Nat.zero_le _, rfl, fun j hj => by omega⟩
  case round =>
    obtain ⟨k, hk, rfl, HJ⟩ := hrel
    by_cases hlt : k < s.size
    · have he := at_eq s k hlt
      by_cases hc : s[k] = 57
      · rw [hc] at he
        have HN : Hid (∀ j, j < k + 1 → s.data.toList[j]? = some 57) := fun j hj => by
          by_cases e : j = k
          · subst e; exact he
          · exact HJ.out j (by omega)
        clear he
        go_wp2
        go_round
        case rel => exact ⟨k + 1, by omega, by go_num, HN⟩
        case measure => simp [intOf]; omega
      · have hc' : ((s[k].toNat : Int) != 57) = true := by
          have : s[k].toNat ≠ 57 := fun h => hc (by rw [← UInt8.toNat_inj]; exact h)
          simp; omega
        clear he hc
        go_wp2
        go_ret
        exact ⟨rfl, rfl⟩
    · exfalso
      obtain ⟨c, hm, hc⟩ := H9.out
      obtain ⟨j, hj⟩ := List.getElem?_of_mem hm
      have hjl := (List.getElem?_eq_some_iff.1 hj).1
      have hjl' : j < s.size := by simpa using hjl
      rw [HJ.out j (by omega)] at hj
      exact hc (by simpa using hj.symm)

/-- The string of a list of bytes, under a name. -/
theorem str_of (l : List UInt8) : ∃ z : ByteArray, z.data.toList = l ∧ (⟨l.toArray⟩ : ByteArray) = z := ⟨⟨l.toArray⟩, rfl, rfl⟩
theorem eqB_true {x y : ByteArray} (h : x.data.toList = y.data.toList) : (x.toList == y.toList) = true := by
  rw [ByteArray.toList_eq, ByteArray.toList_eq, h]; simp
theorem eqB_false {x y : ByteArray} (h : x.data.toList ≠ y.data.toList) : (x.toList == y.toList) = false := by
  rw [ByteArray.toList_eq, ByteArray.toList_eq]; simpa using h
theorem sz (x : ByteArray) : x.size = x.data.toList.length := by simp

set_option maxHeartbeats 800000 in
theorem cut_no (a b : ByteArray) (w : World) (ha : a.size ≤ 524288) (hb : b.size ≤ 524288) (h9 : ∃ c ∈ b.data.toList, c ≠ 57) :
    Calls Try.prog 5 #[.string a, .string b] w fun e w' => e = .returned (.bool true) ∧ Below w.heap.size w w' := by
  have hsum : a.size + b.size ≤ 1048576 := by omega
  have hcat : (a ++ b).size ≤ 1048576 := by rw [ByteArray.size_append]; exact hsum
  have h1 := zinc_any (a ++ b) w hcat
  obtain ⟨z, hz, ez⟩ := str_of (inc (a ++ b).data.toList)
  rw [ez] at h1
  have H1 := Lib.hid h1
  have hne : (z.toList == (a ++ b).toList) = false := eqB_false (by rw [hz]; exact inc_ne _)
  obtain ⟨y, hy, ey⟩ := str_of (inc b.data.toList)
  have hys : y.size ≤ 524289 := by
    have := inc_length b.data.toList
    rw [sz, hy]
    have h2 := sz b
    omega
  have h2 : ∀ w', Calls Try.prog 13 #[.string b] w' fun e w'' => e = .returned (.string y) ∧ Below w'.heap.size w' w'' := fun w' => by
    have := zinc_any b w' (by omega)
    rw [ey] at this
    exact this
  have H2 := Lib.hid h2
  have heq : (z.toList == (a ++ y).toList) = true := eqB_true (by rw [hz, cat_data, cat_data, hy]; exact inc_append_some _ _ h9)
  have H9 := Lib.hid h9
  clear h9 hcat h1 h2 ez ey hz hy
  go_enter Try.func5, Try.ntmps5
  go_wp2_with (first | (go_at_call 14; refine (zzc_yes _ _ _ hsum).mono ?_; rintro e w' ⟨rfl, rfl⟩) | (go_at_call 13; refine H1.out.mono ?_; rintro e w1 ⟨rfl, hb1⟩; refine Hid.out ?_))
  refine Lib.hid ?_
  have HB1 := Lib.hid hb1
  clear hb1 H1
  go_wp2_with (first | (go_at_call 15; refine (nines_no _ _ (by omega) H9.out).mono ?_; rintro e w' ⟨rfl, rfl⟩) | (go_at_call 13; refine (H2.out _).mono ?_; rintro e w2 ⟨rfl, hb2⟩))
  go_ret
  exact ⟨rfl, HB1.out.trans (hb2.mono HB1.out.size)⟩

/-- k zeros ('0'), then what 'make' laid. -/
def Zr (n k : Nat) : List UInt8 := List.replicate k 48 ++ List.replicate (n - k) 0
theorem Zr_length {n k : Nat} (h : k ≤ n) : (Zr n k).length = n := by simp [Zr]; omega
theorem Zr_set {n k : Nat} (h : k < n) : (Zr n k).set k 48 = Zr n (k + 1) := by
  unfold Zr
  rw [List.set_append_right _ _ (by simp), List.length_replicate, Nat.sub_self, show n - k = (n - (k + 1)) + 1 by omega, List.replicate_succ, List.set_cons_zero, List.replicate_succ']
  simp
theorem Zr_full (n : Nat) : Zr n n = List.replicate n 48 := by simp [Zr]

theorem infoByte : (Try.prog.info? 5).map (fun i => (i.zero, i.size, i.bytes)) = some (some (.int .u8 0), 1, 1) := by kernel_rfl

theorem row_made {w : World} {base g n : Nat} (h : w.ownsRow base 5 1 (.slice (some ⟨g, 0, none⟩) n n) n (madeCells (Value.int .u8 0).cells (n * 1)).toList) : RowB w g (Zr n 0) := by
  intro j hj
  rw [Zr_length (Nat.zero_le _)] at hj
  refine ⟨?_, h.frozenAt j⟩
  rw [h.cellAt j (by omega), show (Value.int .u8 0).cells = #[Value.int .u8 0] from rfl, toList_madeCells_one]
  simp [Zr, hj, List.getD_eq_getElem?_getD]

theorem RowB.below {w w' : World} {g B : Nat} {l : List UInt8} (h : RowB w g l) (hb : Below B w w') (hg : g < B) : RowB w' g l := fun j hj => by
  obtain ⟨h1, h2⟩ := h j hj
  exact ⟨(hb.cell (p := ⟨g, j, none⟩) hg).trans h1, (hb.frozen (p := ⟨g, j, none⟩) hg).trans h2⟩

set_option maxHeartbeats 800000 in
theorem cut_yes (a b : ByteArray) (w : World) (ha : a.size ≤ 524288) (hb : b.size ≤ 524288) (h9 : ∀ c ∈ b.data.toList, c = 57) :
    Calls Try.prog 5 #[.string a, .string b] w fun e w' => e = .returned (.bool true) ∧ Below w.heap.size w w' := by
  have hsum : a.size + b.size ≤ 1048576 := by omega
  have hcat : (a ++ b).size ≤ 1048576 := by rw [ByteArray.size_append]; exact hsum
  have h1 := zinc_any (a ++ b) w hcat
  obtain ⟨z, hz, ez⟩ := str_of (inc (a ++ b).data.toList)
  rw [ez] at h1
  have H1 := Lib.hid h1
  have hne : (z.toList == (a ++ b).toList) = false := eqB_false (by rw [hz]; exact inc_ne _)
  obtain ⟨y, hy, ey⟩ := str_of (inc a.data.toList)
  obtain ⟨o, ho, eo⟩ := str_of (List.replicate b.size 48)
  have hys : y.size ≤ 524289 := by
    have := inc_length a.data.toList
    rw [sz, hy]
    have h2 := sz a
    omega
  have hos : o.size = b.size := by rw [sz, ho]; simp
  have h2 : ∀ w', Calls Try.prog 13 #[.string a] w' fun e w'' => e = .returned (.string y) ∧ Below w'.heap.size w' w'' := fun w' => by
    have := zinc_any a w' (by omega)
    rw [ey] at this
    exact this
  have H2 := Lib.hid h2
  have heq : (z.toList == (y ++ o).toList) = true := eqB_true (by rw [hz, cat_data, cat_data, hy, ho, sz]; exact inc_append_nines _ _ h9)
  have H9 := Lib.hid h9
  have HO := Lib.hid eo
  obtain ⟨i0, hi, hz0, hz1, hz2⟩ := info_parts infoByte
  clear h9 hcat h1 h2 ez ey hz hy ho eo
  go_enter Try.func5, Try.ntmps5
  go_wp2_with (first | (go_at_call 14; refine (zzc_yes _ _ _ hsum).mono ?_; rintro e w' ⟨rfl, rfl⟩) | (go_at_call 13; refine H1.out.mono ?_; rintro e w1 ⟨rfl, hb1⟩; refine Hid.out ?_))
  refine Lib.hid ?_
  have HB1 := Lib.hid hb1
  clear hb1 H1
  go_wp2_with (first | (go_at_call 15; refine (nines_yes _ _ (by omega) H9.out).mono ?_; rintro e w' ⟨rfl, rfl⟩) | (at_make; refine wpList_make_full _ rfl _ _ 32 rfl w1.heap.size 5 i0 (.int .u8 0) 1 Try.underlying32 hi hz0 hz1 .i64 .i64 _ _ b.size rfl rfl (by rfl) (by rfl) (by rw [hz2]; omega) (by unfold maxLen; omega) (Nat.le_refl _) ?_; intro w2 hown2 hgrow2; refine Hid.out ?_))
  refine Lib.hid ?_
  have HR0 := Lib.hid (row_made hown2)
  have hlt : w1.heap.size < w2.heap.size := (hown2.lt _ rfl).2
  have HB2 : Hid (Below w.heap.size w w2) := HB1.out.grown hgrow2 HB1.out.size (fun k hk => by simp at hk)
  have hws : w.heap.size ≤ w1.heap.size := HB1.out.size
  clear hown2 hgrow2 HB1 H9
  go_wp2
  go_loopw [7] (fun i wr => ∃ k : Nat, k ≤ b.size ∧ i = .int .i64 k ∧ w1.heap.size < wr.heap.size ∧ Hid (RowB wr w1.heap.size (Zr b.size k) ∧ Below w.heap.size w wr)) (fun i _ => b.size - (intOf i).toNat)
  case atStart => exact ⟨0, Nat.zero_le _, rfl, hlt, HR0.out, HB2.out⟩
  case round =>
    obtain ⟨k, hk, rfl, hwr, HK⟩ := hrel
    clear HR0 HB2
    by_cases hkb : k < b.size
    · obtain ⟨hR, hB⟩ := HK.out
      obtain ⟨hck, hfk⟩ := hR k (by rw [Zr_length hk]; exact hkb)
      have hR2 := hR.set (k := k) (by rw [Zr_length hk]; exact hkb) 48
      rw [Zr_set hkb] at hR2
      have HN : Hid (RowB (wr.setCell ⟨w1.heap.size, k, none⟩ (.int .u8 48)) w1.heap.size (Zr b.size (k + 1)) ∧ Below w.heap.size w (wr.setCell ⟨w1.heap.size, k, none⟩ (.int .u8 48))) :=
        ⟨hR2, hB.setCell (p := ⟨w1.heap.size, k, none⟩) hws _⟩
      have hki : (k : Int) < (b.size : Int) := by omega
      clear HK hR hB hR2
      go_wp2
      go_roundw
      case rel => exact ⟨k + 1, by omega, by go_num, by simpa using hwr, HN⟩
      case measure => simp [intOf]; omega
    · obtain rfl : k = b.size := by omega
      obtain ⟨hR, hB⟩ := HK.out
      have hcv : ∀ W, Below wr.heap.size wr W → (convert 32 9 (.slice (some ⟨w1.heap.size, 0, none⟩) b.size b.size)).run Try.prog W = .ok (.string o) W := fun W hW => by
        have h3 := (hR.below hW hwr).back (cap := b.size)
        rw [Zr_length (Nat.le_refl _), Zr_full, HO.out] at h3
        exact h3
      have HCV := Lib.hid hcv
      have hcv0 := hcv wr.drew ((Below.refl _ _).drew)
      have HB3 := Lib.hid hB
      clear HK hR hB hcv hlt
      go_wp2
      first
      | (go_region_with (go_at_call 13; refine (H2.out _).mono ?_; rintro e w4 ⟨rfl, hb4⟩; have hb5 : Below wr.heap.size wr w4 := ((Below.refl _ _).drew).trans hb4; have hcv4 := HCV.out w4 hb5))
      | fail
      all_goals
        go_wp2
        go_ret
        exact ⟨rfl, HB3.out.trans (hb5.mono HB3.out.size)⟩

set_option maxHeartbeats 400000 in
theorem cut_out (a b : ByteArray) (w : World) (ha : a.size ≤ maxLen) (hb : b.size ≤ maxLen) (h : 524288 < a.size ∨ 524288 < b.size) :
    Calls Try.prog 5 #[.string a, .string b] w fun e w' => e = .returned (.bool true) ∧ Below w.heap.size w w' := by
  by_cases hs : 1048576 < a.size + b.size
  · have H := Lib.hid (zzc_no a b w ha hb hs)
    clear ha hb h hs
    go_enter Try.func5, Try.ntmps5
    go_wp2_with (go_at_call 14; refine H.out.mono ?_; rintro e w' ⟨rfl, rfl⟩)
    go_ret
    exact ⟨rfl, Below.refl _ _⟩
  · have hsum : a.size + b.size ≤ 1048576 := by omega
    clear ha hb hs
    by_cases h1 : 524288 < a.size
    · clear h
      go_enter Try.func5, Try.ntmps5
      go_wp2_with (go_at_call 14; refine (zzc_yes _ _ _ hsum).mono ?_; rintro e w' ⟨rfl, rfl⟩)
      go_ret
      exact ⟨rfl, Below.refl _ _⟩
    · have h2 : 524288 < b.size := by omega
      clear h
      go_enter Try.func5, Try.ntmps5
      go_wp2_with (go_at_call 14; refine (zzc_yes _ _ _ hsum).mono ?_; rintro e w' ⟨rfl, rfl⟩)
      go_ret
      exact ⟨rfl, Below.refl _ _⟩

theorem cut_walk (a b : ByteArray) (w : World) (ha : a.size ≤ maxLen) (hb : b.size ≤ maxLen) :
    Calls Try.prog 5 #[.string a, .string b] w fun e w' => e = .returned (.bool true) ∧ Below w.heap.size w w' := by
  by_cases h : 524288 < a.size ∨ 524288 < b.size
  · exact cut_out a b w ha hb h
  · by_cases h9 : ∀ c ∈ b.data.toList, c = 57
    · exact cut_yes a b w (by omega) (by omega) h9
    · refine cut_no a b w (by omega) (by omega) ?_
      apply Classical.byContradiction
      intro hn
      exact h9 (fun c hc => Classical.byContradiction fun hne => hn ⟨c, hc, hne⟩)
end Go.Proofs.Qxb6617793a
