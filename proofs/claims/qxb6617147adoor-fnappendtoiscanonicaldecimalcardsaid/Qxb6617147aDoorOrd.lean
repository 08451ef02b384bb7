/-
  The walk of FnAppendToOrdersAsNumbers out of the contracts of AppendTo and compareDecimalTexts.
-/
import Derived.Test.Qxb6617147aDoorApp
import Derived.Test.Qxb6617147aDoorCmp
import Derived.Test.Qxb6617147aDoorLawB
namespace Go.Proofs.Qxb6617147aDoor
open Go Go.RowKit

/-- What an owned row of bytes reads as. -/
theorem row_cells {w : World} {B : Nat} {v : Value} {l : List UInt8} (h : w.ownsRow B 5 1 v l.length (Lib.byteCells l)) (hl : 0 < l.length) :
    ∃ g cap, v = .slice (some ⟨g, 0, none⟩) l.length cap ∧ l.length ≤ cap ∧ cap ≤ maxLen ∧ B ≤ g ∧ g < w.heap.size ∧ ∀ j, j < l.length → w.cell? ⟨g, 0 + j, none⟩ = some (.int .u8 (xt l j)) := by
  rcases h.2 with ⟨-, h0⟩ | ⟨g, cap, cur, hv, hB, hh, hc, hm, -, -⟩
  · omega
  · subst hv
    refine ⟨g, cap, rfl, hc, hm, hB, ?_, fun j hj => ?_⟩
    · exact (h.lt g rfl).2
    · have hx : (Lib.byteCells l)[j]? = some (Value.int .u8 (xt l j)) := by
        simp [Lib.byteCells, xt, hj, List.getD_eq_getElem?_getD]
      have hc := h.cells (g := g) rfl j _ hx
      by_cases h0 : j = 0
      · subst h0; simpa [Addr.add] using hc
      · simpa [Addr.add, h0] using hc

theorem text_length_pos (q r : Nat) : 0 < (textQ q r).length := by
  have := Lib.nDigits_pos q
  rw [textQ_length]; split <;> omega
theorem text_length_le (q r : Nat) (hq : q ≤ 9223372036854) : (textQ q r).length ≤ 28 := by
  have := fr_length 6 r
  have h : Lib.nDigits q ≤ 21 := by
    rw [← Lib.decDigits_length, ← Lib.itoa_nonneg]
    exact Lib.itoa_length_le _ (by omega) (by omega)
  rw [textQ_length]; split <;> omega

/-- compareDecimalTexts at the texts of two amounts. -/
theorem cmp_text (m1 m2 : Nat) (h1 : m1 ≤ 9223372036854775807) (h2 : m2 ≤ 9223372036854775807) (g cap g' cap' : Nat) (w : World)
    (hc : (text m1).length ≤ cap) (hcm : cap ≤ maxLen) (hc' : (text m2).length ≤ cap') (hcm' : cap' ≤ maxLen)
    (hr : ∀ j, j < (text m1).length → w.cell? ⟨g, 0 + j, none⟩ = some (.int .u8 (xt (text m1) j)))
    (hr' : ∀ j, j < (text m2).length → w.cell? ⟨g', 0 + j, none⟩ = some (.int .u8 (xt (text m2) j))) :
    Calls Tryd.prog 8 #[.slice (some ⟨g, 0, none⟩) (text m1).length cap, .slice (some ⟨g', 0, none⟩) (text m2).length cap'] w fun e w' => e = .returned (.int .i64 (sgn m1 m2)) ∧ ∃ nq, w' = w.drewN nq := by
  have hw := sgn_whole m1 m2
  have q1 : m1 / 1000000 ≤ 9223372036854 := by omega
  have q2 : m2 / 1000000 ≤ 9223372036854 := by omega
  have r1 : m1 % 1000000 < 1000000 := by omega
  have r2 : m2 % 1000000 < 1000000 := by omega
  unfold text at *
  generalize m1 / 1000000 = qa at *
  generalize m2 / 1000000 = qb at *
  generalize m1 % 1000000 = ra at *
  generalize m2 % 1000000 = rb at *
  have la := text_length_le qa ra q1
  have lb := text_length_le qb rb q2
  have ea := textQ_length qa ra
  have eb := textQ_length qb rb
  by_cases hp : Lib.nDigits qa = Lib.nDigits qb
  · have hi := cmp_int qa ra qb rb hp
    have hf := cmp_frac qa ra qb rb (Lib.nDigits qa) rfl hp.symm r1 r2
    have hR : sgn m1 m2 = if fd (xt (textQ qa ra)) (xt (textQ qb rb)) 0 (Lib.nDigits qa) = 0 then fd (padf (xt (textQ qa ra)) (Lib.nDigits qa + 1) (fl ra)) (padf (xt (textQ qb rb)) (Lib.nDigits qa + 1) (fl rb)) 0 (max (fl ra) (fl rb)) else fd (xt (textQ qa ra)) (xt (textQ qb rb)) 0 (Lib.nDigits qa) := by
      rw [hi, hf, hw]
    have na : ∀ j, j < Lib.nDigits qa → (xt (textQ qa ra) j == 46) = false := fun j hj => xt_int_ne qa ra j hj
    have nb : ∀ j, j < Lib.nDigits qa → (xt (textQ qb rb) j == 46) = false := fun j hj => xt_int_ne qb rb j (by omega)
    have da : ra ≠ 0 → xt (textQ qa ra) (Lib.nDigits qa) = 46 := xt_dot qa ra
    have db : rb ≠ 0 → xt (textQ qb rb) (Lib.nDigits qa) = 46 := fun h => by rw [hp]; exact xt_dot qb rb h
    have fa0 : ra = 0 → fl ra = 0 := fun h => by rw [h]; rfl
    have fb0 : rb = 0 → fl rb = 0 := fun h => by rw [h]; rfl
    have fa1 : ra ≠ 0 → 1 ≤ fl ra := fun h => fr_pos (by omega) h
    have fb1 : rb ≠ 0 → 1 ≤ fl rb := fun h => fr_pos (by omega) h
    change _ = if ra = 0 then _ else Lib.nDigits qa + 1 + fl ra at ea
    change _ = if rb = 0 then _ else Lib.nDigits qb + 1 + fl rb at eb
    rw [← hp] at eb
    clear hi hf hw hp
    generalize xt (textQ qa ra) = x at *
    generalize xt (textQ qb rb) = y at *
    generalize (textQ qa ra).length = n1 at *
    generalize (textQ qb rb).length = n2 at *
    generalize Lib.nDigits qa = p at *
    generalize fl ra = fa at *
    generalize fl rb = fb at *
    generalize sgn m1 m2 = R at *
    by_cases ha : ra = 0 <;> by_cases hb : rb = 0
    · rw [if_pos ha] at ea
      rw [if_pos hb] at eb
      subst ea eb
      rw [fa0 ha, fb0 hb] at hR
      exact cmp_eq00 g 0 n2 cap g' 0 cap' x y w (by omega) na (by omega) nb hcm hcm' hc hc' hr hr' R hR
    · rw [if_pos ha] at ea
      rw [if_neg hb] at eb
      subst ea eb
      rw [fa0 ha, Nat.zero_max] at hR
      obtain ⟨cb, rfl⟩ : ∃ cb, cap' = n1 + 1 + cb := ⟨cap' - (n1 + 1), by omega⟩
      exact cmp_eq01 g 0 n1 cap g' 0 cb fb x y w (by omega) na (by omega) nb (db hb) hcm hcm' hc (fb1 hb) (by omega) hr hr' R hR
    · rw [if_neg ha] at ea
      rw [if_pos hb] at eb
      subst ea eb
      rw [fb0 hb, Nat.max_zero] at hR
      obtain ⟨ca, rfl⟩ : ∃ ca, cap = n2 + 1 + ca := ⟨cap - (n2 + 1), by omega⟩
      exact cmp_eq10 g 0 n2 ca g' 0 cap' fa x y w (by omega) na (da ha) (by omega) nb hcm hcm' (fa1 ha) (by omega) hc' hr hr' R hR
    · rw [if_neg ha] at ea
      rw [if_neg hb] at eb
      subst ea eb
      obtain ⟨ca, rfl⟩ : ∃ ca, cap = p + 1 + ca := ⟨cap - (p + 1), by omega⟩
      obtain ⟨cb, rfl⟩ : ∃ cb, cap' = p + 1 + cb := ⟨cap' - (p + 1), by omega⟩
      exact cmp_eq11 g 0 p ca g' 0 cb fa fb x y w (by omega) na (da ha) (by omega) nb (db hb) hcm hcm' (fa1 ha) (by omega) (fb1 hb) (by omega) hr hr' R hR
  · have hs : sgn m1 m2 = if Lib.nDigits qa < Lib.nDigits qb then -1 else 1 := by
      rw [← hw]
      by_cases h : Lib.nDigits qa < Lib.nDigits qb
      · have := nDigits_lt h
        rw [if_pos h]; unfold sgn; rw [if_pos this]; rfl
      · have := nDigits_lt (a := qb) (b := qa) (by omega)
        rw [if_neg h]; unfold sgn; rw [if_neg (by omega : ¬ qa < qb), if_pos this]; rfl
    rw [hs]
    refine (cmp_lt g 0 _ cap (Lib.nDigits qa) g' 0 _ cap' (Lib.nDigits qb) (xt (textQ qa ra)) (xt (textQ qb rb)) w (by omega) (by rw [ea]; split <;> omega) (fun j hj => xt_int_ne qa ra j hj) (fun h => xt_dot qa ra (fun e => by rw [ea, if_pos e] at h; omega)) (by omega) (by rw [eb]; split <;> omega) (fun j hj => xt_int_ne qb rb j hj) (fun h => xt_dot qb rb (fun e => by rw [eb, if_pos e] at h; omega)) hr hr' (by omega)).mono ?_
    rintro e w' ⟨he, hw'⟩
    exact ⟨he, 0, hw'⟩

set_option maxHeartbeats 1600000 in
/-- The law's walk: true, whatever the two amounts. -/
theorem ord_walk (a0 a1 : Int) (h0 : -9223372036854775808 ≤ a0 ∧ a0 ≤ 9223372036854775807) (h1 : -9223372036854775808 ≤ a1 ∧ a1 ≤ 9223372036854775807) (w : World)
    (htab : Lib.TabIs Tryd.prog w powName .u64 Lib.pow10Tab) :
    Calls Tryd.prog 4 #[.int .i64 a0, .int .i64 a1] w fun e w' => e = .returned (.bool true) ∧ Below w.heap.size w w' := by
  by_cases hn : a0 < 0
  · clear htab
    go_enter Tryd.func4, Tryd.ntmps4
    go_wp2_with fail
    go_ret
    exact ⟨rfl, Below.refl _ _⟩
  by_cases hn' : a1 < 0
  · clear htab
    go_enter Tryd.func4, Tryd.ntmps4
    go_wp2_with fail
    go_ret
    exact ⟨rfl, Below.refl _ _⟩
  obtain ⟨m1, rfl⟩ : ∃ m : Nat, a0 = m := ⟨a0.toNat, by omega⟩
  obtain ⟨m2, rfl⟩ : ∃ m : Nat, a1 = m := ⟨a1.toNat, by omega⟩
  have hT := Lib.tabBelow_of_tabIs htab
  have HA := Lib.hid (app_any w.heap.size 0 m1 (by omega) (.slice none 0 0) [] w (World.ownsRow_nil _ _ _ _) (Nat.le_refl _) (by omega) hT)
  clear htab
  rcases (by omega : m1 < m2 ∨ (¬ m1 < m2 ∧ ¬ m2 < m1) ∨ m2 < m1) with hlt | ⟨hle, hge⟩ | hgt
  all_goals
    go_enter Tryd.func4, Tryd.ntmps4
    go_wp2_with (go_at_call 6; refine HA.out.mono ?_; rintro e w1 ⟨v1, rfl, hown1, hb1⟩; refine Hid.out ?_)
    refine Lib.hid ?_
    clear HA
    rw [Nat.zero_add, List.nil_append] at hown1
    obtain ⟨g1, c1, rfl, hc1, hm1, hg1, hl1, hr1⟩ := row_cells hown1 (text_length_pos _ _)
    have HB := Lib.hid (app_any w1.heap.size 0 m2 (by omega) (.slice none 0 0) [] w1 (World.ownsRow_nil _ _ _ _) (Nat.le_refl _) (by omega) (Lib.tabBelow_of_tabIs (hT w1 hb1)))
    clear hT hown1
    have HR1 := Lib.hid hr1
    have HB1 := Lib.hid hb1
    clear hr1 hb1
    go_wp2_with (go_at_call 6; refine HB.out.mono ?_; rintro e w2 ⟨v2, rfl, hown2, hb2⟩; refine Hid.out ?_)
    refine Lib.hid ?_
    clear HB
    rw [Nat.zero_add, List.nil_append] at hown2
    obtain ⟨g2, c2, rfl, hc2, hm2, hg2, hl2, hr2⟩ := row_cells hown2 (text_length_pos _ _)
    have HC := Lib.hid (cmp_text _ _ (by omega) (by omega) g1 c1 g2 c2 w2 hc1 hm1 hc2 hm2 (fun j hj => (hb2.cell (p := ⟨g1, 0 + j, none⟩) hl1).trans (HR1.out j hj)) hr2)
    have hb3 : Below w.heap.size w w2 := HB1.out.trans (hb2.mono HB1.out.size)
    clear hr2 hown2 HR1 hc1 hm1 hg1 hl1 hc2 hm2 hg2 hl2 hb2 HB1
    have HB3 := Lib.hid hb3
    clear hb3
    first
    | (have hs : sgn m1 m2 = -1 := by unfold sgn; rw [if_pos hlt])
    | (have hs : sgn m1 m2 = 1 := by unfold sgn; rw [if_neg (by omega), if_pos hgt])
    | (have hs : sgn m1 m2 = 0 := by unfold sgn; rw [if_neg hle, if_neg hge])
    rw [hs] at HC
    clear hs
    go_wp2_with (go_at_call 8; refine HC.out.mono ?_; rintro e w3 ⟨rfl, nq, rfl⟩)
    go_ret
    exact ⟨rfl, HB3.out.trans ⟨rfl, rfl, rfl, Nat.le_refl _, fun _ _ => rfl⟩⟩
end Go.Proofs.Qxb6617147aDoor
