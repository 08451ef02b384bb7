/-
  The walk of FnIncrementIsNextNumber.
-/
import Derived.Test.Qxb6617793aCut
import Derived.Test.Qxb6617793aCmp
import Derived.Test.Qxb6617793aNum
import Derived.Deep.RegionHeld
namespace Go.Proofs.Qxb6617793a
open Go Go.RowKit

theorem head_at (s : ByteArray) (h : 0 < s.size) : s.data.toList.head? = some s[0] := by
  rw [← at_eq s 0 h, List.head?_eq_getElem?]

theorem canon_size {s : ByteArray} (h : Canon s.data.toList) : 0 < s.size := by
  rw [sz]
  cases hs : s.data.toList with
  | nil => exact absurd hs h.1
  | cons a b => simp

set_option maxHeartbeats 400000 in
theorem canon_yes (s : ByteArray) (w : World) (hs : s.size ≤ 1048577) (h : Canon s.data.toList) :
    Calls Try.prog 8 #[.string s] w fun e w' => e = .returned (.bool true) ∧ w = w' := by
  have hpos := canon_size h
  have HD : Hid (∀ k (hk : k < s.size), 48 ≤ (s[k].toNat : Int) ∧ (s[k].toNat : Int) ≤ 57) := fun k hk => by
    have := h.2.1 _ (List.mem_of_getElem? (at_eq s k hk))
    omega
  have hlead : 1 < s.size → ((s[0].toNat : Int) == 48) = false := fun h1 => by
    have h2 := h.2.2 (by rw [← sz]; exact h1)
    rw [head_at s hpos] at h2
    have : s[0].toNat ≠ 48 := fun e => h2 (by
      have : s[0] = 48 := by rw [← UInt8.toNat_inj]; exact e
      rw [this])
    simp; omega
  have HL := Lib.hid hlead
  clear h hlead
  go_enter Try.func8, Try.ntmps8
  go_wp2
  go_loop [3] (fun i => ∃ k : Nat, k ≤ s.size ∧ i = .int .i64 k) (fun i => s.size - (intOf i).toNat)
  case atStart => exact ⟨0, Nat.zero_le _, rfl⟩
  case round =>
    obtain ⟨k, hk, rfl⟩ := hrel
    by_cases hlt : k < s.size
    · obtain ⟨d1, d2⟩ := HD.out k hlt
      go_wp2
      go_round
      case rel => exact ⟨k + 1, by omega, by go_num⟩
      case measure => simp [intOf]; omega
    · by_cases h1 : 1 < s.size
      · have hl := HL.out h1
        clear HL HD
        go_wp2
        go_ret
        exact ⟨rfl, rfl⟩
      · clear HL HD
        by_cases h0 : ((s[0].toNat : Int) == 48) = true
        · go_wp2
          go_ret
          exact ⟨rfl, rfl⟩
        · have h0' : ((s[0].toNat : Int) == 48) = false := by simpa using h0
          clear h0
          go_wp2
          go_ret
          exact ⟨rfl, rfl⟩

set_option maxHeartbeats 400000 in
theorem canon_no (s : ByteArray) (w : World) (hs : s.size ≤ 1048577) (h : ¬ Canon s.data.toList) :
    Calls Try.prog 8 #[.string s] w fun e w' => e = .returned (.bool false) ∧ w = w' := by
  by_cases hpos : 0 < s.size
  · have HN := Lib.hid h
    clear h
    go_enter Try.func8, Try.ntmps8
    go_wp2
    go_loop [3] (fun i => ∃ k : Nat, k ≤ s.size ∧ i = .int .i64 k ∧ Hid (∀ j (hj : j < s.size), j < k → 48 ≤ s[j].toNat ∧ s[j].toNat ≤ 57)) (fun i => s.size - (intOf i).toNat)
    case atStart => exact ⟨0, Nat.zero_le _, rfl, fun j _ hj => by omega⟩
    case round =>
      obtain ⟨k, hk, rfl, HJ⟩ := hrel
      by_cases hlt : k < s.size
      · by_cases d1 : (s[k].toNat : Int) < 48
        · go_wp2
          go_ret
          exact ⟨rfl, rfl⟩
        · by_cases d2 : 57 < (s[k].toNat : Int)
          · go_wp2
            go_ret
            exact ⟨rfl, rfl⟩
          · have HN2 : Hid (∀ j (hj : j < s.size), j < k + 1 → 48 ≤ s[j].toNat ∧ s[j].toNat ≤ 57) := fun j hj hjk => by
              by_cases e : j = k
              · subst e; omega
              · exact HJ.out j hj (by omega)
            go_wp2
            go_round
            case rel => exact ⟨k + 1, by omega, by go_num, HN2⟩
            case measure => simp [intOf]; omega
      · obtain rfl : k = s.size := by omega
        have hbad : 1 < s.size ∧ s[0].toNat = 48 := by
          apply Classical.byContradiction
          intro hn
          apply HN.out
          refine ⟨?_, ?_, ?_⟩
          · intro e
            have := sz s
            rw [e, List.length_nil] at this
            omega
          · intro c hc
            obtain ⟨j, hj⟩ := List.getElem?_of_mem hc
            have hjl := (List.getElem?_eq_some_iff.1 hj).1
            have hj' : j < s.size := by rw [sz]; exact hjl
            rw [at_eq s j hj'] at hj
            have := HJ.out j hj' hj'
            have e : s[j] = c := by simpa using hj
            rw [← e]; exact this
          · intro h1 h0
            rw [head_at s hpos] at h0
            apply hn
            refine ⟨by rw [sz]; exact h1, ?_⟩
            have : s[0] = 48 := by simpa using h0
            rw [this]; rfl
        obtain ⟨h1, h0⟩ := hbad
        have h0' : ((s[0].toNat : Int) == 48) = true := by simp; omega
        clear h0 HJ HN
        go_wp2
        go_ret
        exact ⟨rfl, rfl⟩
  · clear h
    go_enter Try.func8, Try.ntmps8
    go_wp2
    go_ret
    exact ⟨rfl, rfl⟩

set_option maxHeartbeats 400000 in
theorem zzn_yes (a b : ByteArray) (w : World) (h : a.size + b.size ≤ 1048576) :
    Calls Try.prog 12 #[.string a, .string b] w fun e w' => e = .returned (.bool true) ∧ w = w' := by
  go_enter Try.func12, Try.ntmps12
  go_wp2
  go_ret
  exact ⟨rfl, rfl⟩

set_option maxHeartbeats 400000 in
theorem zzn_no (a b : ByteArray) (w : World) (ha : a.size ≤ maxLen) (hb : b.size ≤ maxLen) (h : 1048576 < a.size + b.size) :
    Calls Try.prog 12 #[.string a, .string b] w fun e w' => e = .returned (.bool false) ∧ w = w' := by
  unfold maxLen at ha hb
  by_cases h1 : 1048576 < a.size
  · go_enter Try.func12, Try.ntmps12
    go_wp2
    go_ret
    exact ⟨rfl, rfl⟩
  by_cases h2 : 1048576 < b.size
  · go_enter Try.func12, Try.ntmps12
    go_wp2
    go_ret
    exact ⟨rfl, rfl⟩
  go_enter Try.func12, Try.ntmps12
  go_wp2
  go_ret
  exact ⟨rfl, rfl⟩

theorem cmpZ_eq (x y : ByteArray) : cmpZ x y = cmpL x.data.toList y.data.toList := by
  unfold cmpZ cmpL
  rw [sz, sz]

/-- 'Below', and B is no more than the heap's size: it goes along with each new block and each draw. -/
def BB (B : Nat) (a w : World) : Prop := Below B a w ∧ B ≤ w.heap.size
theorem BB.below {B : Nat} {a w : World} (h : BB B a w) : Below B a w := h.1
theorem BB.alloc {B : Nat} {a w : World} {o : Obj} (h : BB B a w) : BB B a (w.alloc o) := ⟨h.1.alloc h.2 o, by have := h.2; simp; omega⟩
theorem BB.drewN {B : Nat} {a w : World} {n : Nat} (h : BB B a w) : BB B a (w.drewN n) := ⟨h.1.trans ⟨rfl, rfl, rfl, Nat.le_refl _, fun _ _ => rfl⟩, h.2⟩
theorem BB.drew {B : Nat} {a w : World} (h : BB B a w) : BB B a w.drew := ⟨h.1.drew, h.2⟩

set_option maxHeartbeats 1600000 in
/-- The law's body, what Compare answers given. -/
theorem next_core (n m r z : ByteArray) (hz : z = z0) (w : World) (hn : n.size ≤ 524288) (hm : m.size ≤ 524288) (hr : r.size ≤ 524289)
    (cn : Canon n.data.toList) (cm : Canon m.data.toList) (cr : Canon r.data.toList) (hinc : r.data.toList = inc n.data.toList)
    (b1 b2 : Int) (e0 : cmpZ n r = -1) (e1 : cmpZ m r = b1) (e2 : cmpZ m n = b2) (hb : (b1 = -1 ∧ (b2 = -1 ∨ b2 = 0)) ∨ ((b1 = 0 ∨ b1 = 1) ∧ b2 = 1)) :
    Calls Try.prog 4 #[.string n, .string m] w fun e w' => e = .returned (.bool true) ∧ Below w.heap.size w w' := by
  have hsum : n.size + m.size ≤ 1048576 := by omega
  have h1 : Calls Try.prog 13 #[.string n] w fun e w' => e = .returned (.string r) ∧ Below w.heap.size w w' := by
    have := zinc_any n w (by omega)
    rw [← hinc] at this
    exact this
  have H1 := Lib.hid h1
  have CN := Lib.hid cn
  have CM := Lib.hid cm
  have CR := Lib.hid cr
  have HZ := Lib.hid hz
  clear h1 cn cm cr hinc
  have hconst : (⟨#[48]⟩ : ByteArray) = z := hz.symm
  clear hz
  go_enter Try.func4, Try.ntmps4
  go_wp2_with (first | (go_at_call 12; refine (zzn_yes _ _ _ hsum).mono ?_; rintro e w' ⟨rfl, rfl⟩) | (go_at_call_of 8 (Value.string n); refine (canon_yes _ _ (by omega) CN.out).mono ?_; rintro e w' ⟨rfl, rfl⟩) | (go_at_call_of 8 (Value.string m); refine (canon_yes _ _ (by omega) CM.out).mono ?_; rintro e w' ⟨rfl, rfl⟩) | (go_at_call 13; refine H1.out.mono ?_; rintro e w1 ⟨rfl, hb1⟩; refine Hid.out ?_))
  refine Lib.hid ?_
  have HB1 := Lib.hid hb1
  clear hb1 H1
  go_wp2_with (first | (go_at_call_of 8 (Value.string r); refine (canon_yes _ _ (by omega) CR.out).mono ?_; rintro e w' ⟨rfl, rfl⟩) | (go_at_call 9; refine (zv_any _ _ _ _ _).mono ?_; rintro e w' ⟨rfl, rfl⟩))
  clear hconst
  rcases hb with ⟨rfl, rfl | rfl⟩ | ⟨rfl | rfl, rfl⟩
  all_goals
    first
    | (go_region_held (fun w' => w'.cell? ⟨w1.heap.size + 1, 0, none⟩ = some (.string n) ∧ w'.cell? ⟨w1.heap.size + 1, 1, none⟩ = some (.string n) ∧ w'.cell? ⟨w1.heap.size + 1, 2, none⟩ = some (.string z) ∧ w'.cell? ⟨w1.heap.size + 1, 3, none⟩ = some (.string z) ∧ w'.cell? ⟨w1.heap.size + 1 + 1 + 1, 0, none⟩ = some (.string r) ∧ w'.cell? ⟨w1.heap.size + 1 + 1 + 1, 1, none⟩ = some (.string r) ∧ w'.cell? ⟨w1.heap.size + 1 + 1 + 1, 2, none⟩ = some (.string z) ∧ w'.cell? ⟨w1.heap.size + 1 + 1 + 1, 3, none⟩ = some (.string z) ∧ w'.cell? ⟨w1.heap.size + 1 + 1 + 1 + 1 + 1, 0, none⟩ = some (.string m) ∧ w'.cell? ⟨w1.heap.size + 1 + 1 + 1 + 1 + 1, 1, none⟩ = some (.string m) ∧ w'.cell? ⟨w1.heap.size + 1 + 1 + 1 + 1 + 1, 2, none⟩ = some (.string z) ∧ w'.cell? ⟨w1.heap.size + 1 + 1 + 1 + 1 + 1, 3, none⟩ = some (.string z)) (first | (go_simp; done) | go_keep) (first | (go_at_call 11; refine (cmp_any _ _ _ _ _ HZ.out _).mono ?_; rintro e w' ⟨rfl, nq, rfl⟩)))
    | fail
    rename_i hh
    clear hh
    go_wp2
    go_ret
    refine ⟨rfl, BB.below ?_⟩
    repeat (first | with_reducible apply BB.alloc | with_reducible apply BB.drewN | with_reducible apply BB.drew | exact ⟨HB1.out, HB1.out.size⟩)
set_option maxHeartbeats 800000 in
theorem next_out (n m : ByteArray) (w : World) (hn : n.size ≤ maxLen) (hm : m.size ≤ maxLen) (h : 524288 < n.size ∨ 524288 < m.size) :
    Calls Try.prog 4 #[.string n, .string m] w fun e w' => e = .returned (.bool true) ∧ Below w.heap.size w w' := by
  by_cases hs : 1048576 < n.size + m.size
  · have H := Lib.hid (zzn_no n m w hn hm hs)
    clear hn hm h hs
    go_enter Try.func4, Try.ntmps4
    go_wp2_with (go_at_call 12; refine H.out.mono ?_; rintro e w' ⟨rfl, rfl⟩)
    go_ret
    exact ⟨rfl, Below.refl _ _⟩
  · have hsum : n.size + m.size ≤ 1048576 := by omega
    clear hn hm hs
    by_cases h1 : 524288 < n.size
    · clear h
      go_enter Try.func4, Try.ntmps4
      go_wp2_with (go_at_call 12; refine (zzn_yes _ _ _ hsum).mono ?_; rintro e w' ⟨rfl, rfl⟩)
      go_ret
      exact ⟨rfl, Below.refl _ _⟩
    · have h2 : 524288 < m.size := by omega
      clear h
      go_enter Try.func4, Try.ntmps4
      go_wp2_with (go_at_call 12; refine (zzn_yes _ _ _ hsum).mono ?_; rintro e w' ⟨rfl, rfl⟩)
      go_ret
      exact ⟨rfl, Below.refl _ _⟩

set_option maxHeartbeats 800000 in
theorem next_bad (n m : ByteArray) (w : World) (hn : n.size ≤ 524288) (hm : m.size ≤ 524288) (h : ¬ Canon n.data.toList ∨ ¬ Canon m.data.toList) :
    Calls Try.prog 4 #[.string n, .string m] w fun e w' => e = .returned (.bool true) ∧ Below w.heap.size w w' := by
  have hsum : n.size + m.size ≤ 1048576 := by omega
  by_cases cn : Canon n.data.toList
  · have cm : ¬ Canon m.data.toList := h.resolve_left (fun k => k cn)
    have CN := Lib.hid (canon_yes n w (by omega) cn)
    have CM := Lib.hid (canon_no m w (by omega) cm)
    clear h cn cm
    go_enter Try.func4, Try.ntmps4
    go_wp2_with (first | (go_at_call 12; refine (zzn_yes _ _ _ hsum).mono ?_; rintro e w' ⟨rfl, rfl⟩; refine Hid.out ?_))
    refine Lib.hid ?_
    go_wp2_with (go_at_call 8; refine CN.out.mono ?_; rintro e w' ⟨rfl, rfl⟩; refine Hid.out ?_)
    refine Lib.hid ?_
    go_wp2_with (go_at_call 8; refine CM.out.mono ?_; rintro e w' ⟨rfl, rfl⟩)
    go_ret
    exact ⟨rfl, Below.refl _ _⟩
  · have CN := Lib.hid (canon_no n w (by omega) cn)
    clear h cn
    go_enter Try.func4, Try.ntmps4
    go_wp2_with (first | (go_at_call 12; refine (zzn_yes _ _ _ hsum).mono ?_; rintro e w' ⟨rfl, rfl⟩) | (go_at_call 8; refine CN.out.mono ?_; rintro e w' ⟨rfl, rfl⟩))
    go_ret
    exact ⟨rfl, Below.refl _ _⟩

theorem next_walk (n m : ByteArray) (w : World) (hn : n.size ≤ maxLen) (hm : m.size ≤ maxLen) :
    Calls Try.prog 4 #[.string n, .string m] w fun e w' => e = .returned (.bool true) ∧ Below w.heap.size w w' := by
  by_cases h : 524288 < n.size ∨ 524288 < m.size
  · exact next_out n m w hn hm h
  · by_cases hc : ¬ Canon n.data.toList ∨ ¬ Canon m.data.toList
    · exact next_bad n m w (by omega) (by omega) hc
    · have cn : Canon n.data.toList := Classical.byContradiction fun k => hc (.inl k)
      have cm : Canon m.data.toList := Classical.byContradiction fun k => hc (.inr k)
      obtain ⟨r, hr, -⟩ := str_of (inc n.data.toList)
      obtain ⟨cr, -⟩ := inc_canon cn
      obtain ⟨l0, l1⟩ := next_law cn cm
      refine next_core n m r z0 rfl w (by omega) (by omega) ?_ cn cm (by rw [hr]; exact cr) hr _ _ (by rw [cmpZ_eq, hr]; exact l0) rfl rfl ?_
      · have := inc_length n.data.toList
        have h2 := sz n
        rw [sz, hr]; omega
      · rw [cmpZ_eq, cmpZ_eq, hr]; exact l1
end Go.Proofs.Qxb6617793a
