/-
  Contracts of increment, ZZincrement and the small callees.
-/
import Derived.Test.Qxb6617793aChecked
import Derived.Test.Qxb6617793aInc
import Derived.Lib.Hide
import Derived.Lib.ConvBytes
import Derived.Laws.IdiomStrings
import Derived.Below
import Derived.WalkKit
import Derived.WalkSpells
namespace Go.Proofs.Qxb6617793a
open Go Go.RowKit

/-- Block g holds the bytes l, and may be written. -/
def RowB (w : World) (g : Nat) (l : List UInt8) : Prop := ∀ j, j < l.length → w.cell? ⟨g, j, none⟩ = some (.int .u8 ((l.getD j 0).toNat : Int)) ∧ w.frozen? ⟨g, j, none⟩ = false

theorem RowB.set {w : World} {g k : Nat} {l : List UInt8} (h : RowB w g l) (hk : k < l.length) (c : UInt8) : RowB (w.setCell ⟨g, k, none⟩ (.int .u8 (c.toNat : Int))) g (l.set k c) := by
  intro j hj
  rw [List.length_set] at hj
  refine ⟨?_, by rw [World.frozen?_setCell]; exact (h j hj).2⟩
  by_cases e : j = k
  · subst e
    rw [World.cell?_setCell_same (h := (h j hj).1)]
    simp [List.getD_eq_getElem?_getD, List.getElem?_set_self hj]
  · rw [World.cell?_setCell_other (h := fun hh => e (by simpa using hh.symm)), (h j hj).1]
    simp only [List.getD_eq_getElem?_getD, List.getElem?_set_ne (fun h => e h.symm)]

theorem RowB.back {w : World} {g cap : Nat} {l : List UInt8} (h : RowB w g l) : (convert 32 9 (.slice (some ⟨g, 0, none⟩) l.length cap)).run Try.prog w = .ok (.string ⟨l.toArray⟩) w :=
  run_convert_bytes_back w 32 9 5 ⟨g, 0, none⟩ cap l Try.underlying32 Try.underlying5 Try.underlying9 (fun j hj => by
    have := (h j hj).1
    rw [List.getD_eq_getElem?_getD, List.getElem?_eq_getElem hj] at this
    by_cases e : j = 0
    · subst e; simpa [Addr.add] using this
    · simpa [Addr.add, e] using this)

theorem ret_str {a b : ByteArray} (h : a = b) : Ending.returned (.string a) = .returned (.string b) := by rw [h]
theorem cat_data (a b : ByteArray) : (a ++ b).data.toList = a.data.toList ++ b.data.toList := by simp
theorem bytes_ext {a b : ByteArray} (h : a.data.toList = b.data.toList) : a = b := by
  cases a; cases b; simp at h; simp [h]

theorem row_of_bytes (w : World) (s : ByteArray) : RowB (Lib.bytesWorld w 5 s) w.heap.size s.data.toList := by
  intro j hj
  have hj' : j < s.size := by simpa using hj
  refine ⟨Lib.bytesWorld_cell w 5 s j hj', ?_⟩
  unfold World.frozen?
  rw [Lib.bytesWorld_at_new]
  simp [Lib.bytesCells]
  omega

theorem below_bytes (w : World) (s : ByteArray) : Below w.heap.size w (Lib.bytesWorld w 5 s) :=
  ⟨rfl, rfl, rfl, by rw [Lib.bytesWorld_size]; omega, fun j hj => Lib.bytesWorld_at_old w 5 s j hj⟩

set_option maxHeartbeats 800000 in
theorem inc_any (s : ByteArray) (w : World) (hs : s.size ≤ 1048576) :
    Calls Try.prog 19 #[.string s] w fun e w' => e = .returned (.string ⟨(inc s.data.toList).toArray⟩) ∧ Below w.heap.size w w' := by
  have hconv := Lib.run_convert_string_bytes (P := Try.prog) w 9 32 5 s Try.underlying9 Try.underlying32 Try.underlying5
  have HR0 := Lib.hid (row_of_bytes w s)
  have HB0 := Lib.hid (below_bytes w s)
  have HL : Hid (s.data.toList.length = s.size) := by show _ = _; simp
  generalize Lib.bytesWorld w 5 s = w0 at *
  generalize grownCap w s.size 0 5 = cap at *
  go_enter Try.func19, Try.ntmps19
  go_wp2
  go_loopw [4] (fun i wr => ∃ k : Nat, k ≤ s.size ∧ i = .int .i64 ((k : Int) - 1) ∧ Hid (RowB wr w.heap.size (St s.data.toList k) ∧ Below w.heap.size w wr ∧ Ix s.data.toList k)) (fun i _ => (intOf i + 1).toNat)
  case atStart =>
    refine ⟨s.size, Nat.le_refl _, rfl, ?_, HB0.out, ?_⟩
    · rw [← HL.out, St_full]; exact HR0.out
    · rw [← HL.out]; exact Ix_full _
  case round =>
    obtain ⟨k, hk, rfl, HK⟩ := hrel
    clear HR0 HB0 hconv
    cases k with
    | zero =>
      obtain ⟨hR, hB, hI⟩ := HK.out
      have hcv := hR.back (cap := cap)
      rw [St_length (Nat.zero_le _), HL.out] at hcv
      have HI := Lib.hid (Ix_end hI)
      have HB := Lib.hid hB
      obtain ⟨z, hz, hzs⟩ : ∃ z : ByteArray, z.data.toList = St s.data.toList 0 ∧ z.size = s.size ∧ (⟨(St s.data.toList 0).toArray⟩ : ByteArray) = z :=
        ⟨⟨(St s.data.toList 0).toArray⟩, rfl, by rw [ByteArray.size, List.size_toArray, St_length (Nat.zero_le _), HL.out], rfl⟩
      rw [hzs.2] at hcv
      have hz1 := hzs.1
      have HZ := Lib.hid hz
      clear HK hR hB hI hz hzs
      go_wp2
      go_ret
      refine ⟨ret_str (bytes_ext ?_), HB.out⟩
      rw [cat_data, HZ.out, HI.out]
      rfl
    | succ k =>
      have ei : (((k + 1 : Nat) : Int) - 1) = (k : Int) := by omega
      rw [ei]
      clear ei
      obtain ⟨hR, hB, hI⟩ := HK.out
      have hlk : k < s.data.toList.length := by rw [HL.out]; omega
      obtain ⟨hck, hfk⟩ := hR k (by rw [St_length (by omega)]; exact hlk)
      rw [St_at hlk] at hck
      have hkn : (k : Int) < (s.size : Int) := by omega
      have hcl : ((s.data.toList.getD k 0).toNat : Int) ≤ 255 := by have := (s.data.toList.getD k 0).toNat_lt; omega
      by_cases h9 : s.data.toList.getD k 0 = 57
      · have hR2 := hR.set (k := k) (by rw [St_length (by omega)]; exact hlk) 48
        rw [St_set_zero hlk] at hR2
        have HN : Hid (RowB (wr.setCell ⟨w.heap.size, k, none⟩ (.int .u8 48)) w.heap.size (St s.data.toList k) ∧ Below w.heap.size w (wr.setCell ⟨w.heap.size, k, none⟩ (.int .u8 48)) ∧ Ix s.data.toList k) :=
          ⟨hR2, hB.setCell (p := ⟨w.heap.size, k, none⟩) (Nat.le_refl _) _, Ix_nine hlk hI h9⟩
        rw [h9] at hck
        have hck' : wr.cell? ⟨w.heap.size, k, none⟩ = some (.int .u8 57) := hck
        clear HK hR hB hI hlk hck hR2 h9 hcl
        go_wp2
        go_roundw
        case rel => exact ⟨k, by omega, by go_num, HN⟩
        case measure => simp [intOf]
      · have hR2 := hR.set (k := k) (by rw [St_length (by omega)]; exact hlk) (s.data.toList.getD k 0 + 1)
        have HI := Lib.hid (Ix_stop hlk hI h9)
        have HB := Lib.hid hB
        have hcv := hR2.back (cap := cap)
        rw [List.length_set, St_length (by omega), HL.out] at hcv
        generalize (St s.data.toList (k + 1)).set k (s.data.toList.getD k 0 + 1) = L2 at *
        generalize s.data.toList.getD k 0 = c at *
        have h9' : ((c.toNat : Int) != 57) = true := by
          have : c.toNat ≠ 57 := fun h => h9 (by rw [← UInt8.toNat_inj]; exact h)
          simp; omega
        clear HK hR hB hI hlk hR2
        have e1 : ((c + 1).toNat : Int) = ((c.toNat : Int) + 1) % 256 := by simp [UInt8.toNat_add]
        rw [e1] at hcv
        clear e1
        go_wp2
        go_ret
        refine ⟨ret_str (bytes_ext ?_), HB.out.setCell (p := ⟨w.heap.size, k, none⟩) (Nat.le_refl _) _⟩
        rw [HI.out]

set_option maxHeartbeats 400000 in
theorem zinc_any (s : ByteArray) (w : World) (hs : s.size ≤ 1048576) :
    Calls Try.prog 13 #[.string s] w fun e w' => e = .returned (.string ⟨(inc s.data.toList).toArray⟩) ∧ Below w.heap.size w w' := by
  have H := Lib.hid (inc_any s w hs)
  go_enter Try.func13, Try.ntmps13
  go_wp2_with (go_at_call 19; refine H.out.mono ?_; rintro e w' ⟨rfl, hb⟩)
  go_ret
  exact ⟨rfl, hb⟩
end Go.Proofs.Qxb6617793a
