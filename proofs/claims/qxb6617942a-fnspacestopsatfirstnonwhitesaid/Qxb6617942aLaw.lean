/-
  The walk of FnSpaceStopsAtFirstNonWhite.
-/
import Derived.Test.Qxb6617942aCalls
import Derived.Laws.CopyOwn
namespace Go.Proofs.Qxb6617942a
open Go Go.RowKit

theorem stop_exists (n : Nat) (x : Nat → Int) : ∀ r p, n - p = r → ∃ t, Stop n x p t
  | 0, p, h => ⟨p, Nat.le_refl _, fun j h1 h2 => by omega, fun h1 => by omega⟩
  | r + 1, p, h => by
    cases hw : wh (x p) with
    | false => exact ⟨p, Nat.le_refl _, fun j h1 h2 => by omega, fun _ => hw⟩
    | true =>
      obtain ⟨t, h1, h2, h3⟩ := stop_exists n x r (p + 1) (by omega)
      refine ⟨t, by omega, fun j hj hjt => ?_, h3⟩
      by_cases e : j = p
      · subst e; exact ⟨by omega, hw⟩
      · exact h2 j (by omega) hjt
theorem stop_again {n : Nat} {x : Nat → Int} {p t : Nat} (h : Stop n x p t) : Stop n x t t := ⟨Nat.le_refl _, fun j h1 h2 => by omega, h.2.2⟩

theorem infoByte : (Try.prog.info? 5).map (fun i => (i.zero, i.size, i.bytes)) = some (some (.int .u8 0), 1, 1) := by kernel_rfl
theorem sizeByte : (Try.prog.info? 5).map (·.size) = some 1 := by kernel_rfl

set_option maxHeartbeats 400000 in
/-- Too long a slice, or a position below 0. -/
theorem law_out (a : Option Addr) (n c : Nat) (m : Int) (w : World) (h : 1048576 < n ∨ m < 0) :
    Calls Try.prog 3 #[.slice a n c, .int .i64 m] w fun e w' => e = .returned (.bool true) ∧ Below w.heap.size w w' := by
  by_cases hn : 1048576 < n
  · go_enter Try.func3, Try.ntmps3
    go_wp2_with (go_at_call 4; refine (zzb_no _ _ _ _ _ hn).mono ?_; rintro e w' ⟨rfl, rfl⟩)
    go_ret
    exact ⟨rfl, Below.refl _ _⟩
  · have hm : m < 0 := by omega
    have hn' : n ≤ 1048576 := by omega
    clear h
    go_enter Try.func3, Try.ntmps3
    go_wp2_with (go_at_call 4; refine (zzb_yes _ _ _ _ _ hn').mono ?_; rintro e w' ⟨rfl, rfl⟩)
    go_ret
    exact ⟨rfl, Below.refl _ _⟩

/-- The three calls behind the copy, at a text that lies in block N or is nil. -/
def Three (v : Option Addr) (N n cap p t : Nat) (w : World) : Prop :=
  (∀ W, Below w.heap.size w W → Calls Try.prog 5 #[.slice v n cap, .int .i64 p] W fun e w' => e = .returned (.int .i64 t) ∧ Below W.heap.size W w') ∧
  (∀ W, Below w.heap.size w W → Calls Try.prog 5 #[.slice v n cap, .int .i64 t] W fun e w' => e = .returned (.int .i64 t) ∧ Below W.heap.size W w') ∧
  (∀ W, Below w.heap.size w W → Calls Try.prog 6 #[.slice v n cap, .int .i64 p] W fun e w' => e = .returned (.int .i64 t) ∧ W = w') ∧ N = N

theorem three_of (v : Option Addr) (N n cap p t : Nat) (x : Nat → Int) (w : World) (hv : 0 < n → v = some ⟨N, 0, none⟩) (hn : n ≤ 1048576) (hst : Stop n x p t) (hN : 0 < n → N < w.heap.size)
    (hx : ∀ j, j < n → w.cell? ⟨N, 0 + j, none⟩ = some (.int .u8 (x j))) : Three v N n cap p t w := by
  have hx' : ∀ W, Below w.heap.size w W → ∀ j, j < n → W.cell? ⟨N, 0 + j, none⟩ = some (.int .u8 (x j)) := fun W hW j hj => (hW.cell (p := ⟨N, 0 + j, none⟩) (hN (by omega))).trans (hx j hj)
  exact ⟨fun W hW => zsp_any v N 0 n cap p t x W hv hn hst (hx' W hW), fun W hW => zsp_any v N 0 n cap t t x W hv hn (stop_again hst) (hx' W hW), fun W hW => fnw_any v N 0 n cap p t x W hv hn hst (hx' W hW), rfl⟩

set_option maxHeartbeats 800000 in
theorem law_nil (p : Nat) (w : World) :
    Calls Try.prog 3 #[.slice none 0 0, .int .i64 p] w fun e w' => e = .returned (.bool true) ∧ Below w.heap.size w w' := by
  obtain ⟨t, hst⟩ := stop_exists 0 (fun _ => 0) (0 - p) p rfl
  have h3 := three_of none 0 0 0 p t (fun _ => 0) w (fun h => by omega) (by omega) hst (fun h => by omega) (fun j hj => by omega)
  have H3 := Lib.hid h3
  clear h3 hst
  have hnil := fun w => run_neq_slice_nil_any (P := Try.prog) w 22 5 none 0 0 0 0 Try.underlying22
  go_enter Try.func3, Try.ntmps3
  go_wp2_with (first | (go_at_call 4; refine (zzb_yes _ _ _ _ _ (by omega)).mono ?_; rintro e w' ⟨rfl, rfl⟩) | (go_at_call 5; refine (H3.out.1 _ (Below.refl _ _)).mono ?_; rintro e w1 ⟨rfl, hb1⟩; refine Hid.out ?_))
  refine Lib.hid ?_
  have HB1 := Lib.hid hb1
  clear hb1 hnil
  go_wp2_with (go_at_call 5; refine (H3.out.2.1 _ HB1.out).mono ?_; rintro e w2 ⟨rfl, hb2⟩; refine Hid.out ?_)
  refine Lib.hid ?_
  have HB2 : Hid (Below w.heap.size w w2) := HB1.out.trans (hb2.mono HB1.out.size)
  clear hb2
  go_wp2_with (go_at_call 6; refine (H3.out.2.2.1 _ HB2.out).mono ?_; rintro e w' ⟨rfl, rfl⟩)
  go_ret
  exact ⟨rfl, HB2.out⟩

/-- The bytes as cells. -/
def cellsOf (n : Nat) (x : Nat → Int) : List Value := (List.range n).map fun j => Value.int .u8 (x j)
theorem cellsOf_length (n : Nat) (x : Nat → Int) : (cellsOf n x).length = n := by simp [cellsOf]
theorem cellsOf_at {n : Nat} {x : Nat → Int} {j : Nat} (h : j < n) : (cellsOf n x)[j]? = some (.int .u8 (x j)) := by simp [cellsOf, h]
theorem cellsOf_one (n : Nat) (x : Nat → Int) : ∀ v ∈ cellsOf n x, v.oneCell' = true := by
  intro v hv
  simp only [cellsOf, List.mem_map] at hv
  obtain ⟨j, -, rfl⟩ := hv
  rfl

set_option maxHeartbeats 1600000 in
theorem law_some (ad : Addr) (n cap p : Nat) (x : Nat → Int) (w : World) (hn : n ≤ 1048576) (hcell : ∀ j, j < n → w.cell? (ad.add j) = some (.int .u8 (x j))) :
    Calls Try.prog 3 #[.slice (some ad) n cap, .int .i64 p] w fun e w' => e = .returned (.bool true) ∧ Below w.heap.size w w' := by
  obtain ⟨i0, hi, hz0, hz1, hz2⟩ := info_parts infoByte
  obtain ⟨t, hst⟩ := stop_exists n x (n - p) p rfl
  have HS := Lib.hid hst
  have HC := Lib.hid hcell
  clear hst hcell
  have hnil := fun w => run_neq_slice_nil_any (P := Try.prog) w 22 5 (some ad) n cap 0 0 Try.underlying22
  go_enter Try.func3, Try.ntmps3
  go_wp2_with (first | (go_at_call 4; refine (zzb_yes _ _ _ _ _ hn).mono ?_; rintro e w' ⟨rfl, rfl⟩) | (at_make; refine wpList_make_full _ rfl _ _ 22 rfl w.heap.size 5 i0 (.int .u8 0) 1 Try.underlying22 hi hz0 hz1 .i64 .i64 _ _ n rfl rfl (by rfl) (by rfl) (by rw [hz2]; omega) (by unfold maxLen; omega) (Nat.le_refl _) ?_; intro w1 hown1 hgrow1; refine Hid.out ?_))
  refine Lib.hid ?_
  clear hnil
  have hlt : w.heap.size < w1.heap.size := (hown1.lt _ rfl).2
  obtain ⟨cur, hrow, hcl⟩ : ∃ cur : List Value, w1.heap[w.heap.size]? = some (.cells cur.toArray 5 (0, 0)) ∧ cur.length = n := by
    rcases hown1.2 with ⟨h, -⟩ | ⟨g', cap', c', h', -, hg, -, -, hsz, -⟩
    · simp at h
    · simp only [Value.slice.injEq, Option.some.injEq, Addr.mk.injEq, and_true, true_and] at h'
      obtain ⟨rfl, rfl⟩ := h'
      exact ⟨c'.toList, by simpa using hg, by simpa using hsz⟩
  have HB1 : Hid (Below w.heap.size w w1) := (Below.refl _ _).grown hgrow1 (Nat.le_refl _) (fun k hk => by simp at hk)
  have HC1 : Hid (∀ j v, (cellsOf n x)[j]? = some v → w1.cell? (ad.add j) = some v) := fun j v hj => by
    have hjn : j < n := by
      have := (List.getElem?_eq_some_iff.1 hj).1
      rwa [cellsOf_length] at this
    rw [cellsOf_at hjn] at hj
    have h0 := HC.out j hjn
    rw [← hj, hgrow1.cell h0 (by simp)]
  have HRow := Lib.hid hrow
  have HCl := Lib.hid hcl
  obtain ⟨cs, ecs⟩ : ∃ cs, cs = cellsOf n x := ⟨_, rfl⟩
  have hcsl : cs.length = n := by rw [ecs, cellsOf_length]
  have hone : ∀ v ∈ cs, v.oneCell' = true := by rw [ecs]; exact cellsOf_one n x
  rw [← ecs] at HC1
  have HCs := Lib.hid ecs
  have HOne := Lib.hid hone
  have HCsl := Lib.hid hcsl
  clear hown1 hgrow1 hrow hcl ecs hone hcsl HC
  go_wp2_with (refine wpList_copy_splice rfl (.tmp 22) (.tmp 23) 22 22 rfl 5 Try.underlying22 sizeByte _ _ _ _ _ _ rfl rfl w.heap.size 0 cur 5 HRow.out cs (by rw [HCsl.out]; simp) (fun _ => ⟨rfl, _, rfl, HC1.out⟩) (by rw [HCsl.out, HCl.out]; omega) HOne.out w.heap.size w HB1.out (Nat.le_refl _) ?_; intro w2 HG2 hB2; refine Hid.out ?_)
  refine Lib.hid ?_
  have hN2 : w.heap.size < w2.heap.size := by
    rcases Nat.lt_or_ge w.heap.size w2.heap.size with h | h
    · exact h
    · have := HG2.out
      rw [Array.getElem?_eq_none h] at this
      cases this
  have hx2 : ∀ j, j < n → w2.cell? ⟨w.heap.size, 0 + j, none⟩ = some (.int .u8 (x j)) := fun j hj => by
    rw [Nat.zero_add, cell_of_row w2 w.heap.size j _ 5 (0, 0) HG2.out]
    have hl : j < cs.length := by rw [HCsl.out]; exact hj
    simp only [splice, List.take_zero, List.nil_append, List.getElem?_toArray]
    rw [List.getElem?_append_left hl, HCs.out]
    exact cellsOf_at hj
  have H3 := Lib.hid (three_of (some ⟨w.heap.size, 0, none⟩) w.heap.size n n p t x w2 (fun _ => rfl) hn HS.out (fun _ => hN2) hx2)
  have HB2 := Lib.hid hB2
  clear hx2 hB2 hN2 HG2 HB1 HC1 HRow HCl HCs HOne HCsl HS hlt
  go_wp2_with (go_at_call 5; refine (H3.out.1 _ (Below.refl _ _)).mono ?_; rintro e w3 ⟨rfl, hb3⟩; refine Hid.out ?_)
  refine Lib.hid ?_
  have HB3 := Lib.hid hb3
  clear hb3
  go_wp2_with (go_at_call 5; refine (H3.out.2.1 _ HB3.out).mono ?_; rintro e w4 ⟨rfl, hb4⟩; refine Hid.out ?_)
  refine Lib.hid ?_
  have HB4 : Hid (Below w2.heap.size w2 w4) := HB3.out.trans (hb4.mono HB3.out.size)
  clear hb4
  go_wp2_with (go_at_call 6; refine (H3.out.2.2.1 _ HB4.out).mono ?_; rintro e w' ⟨rfl, rfl⟩)
  go_ret
  exact ⟨rfl, HB2.out.trans (HB4.out.mono HB2.out.size)⟩
end Go.Proofs.Qxb6617942a
