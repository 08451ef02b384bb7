import Derived.Test.Qxb6617147aDoorShelf
import Derived.Test.Qxb6617147aDoorText
import Derived.Lib.AppendIntMem
import Derived.Lib.ItoaLen
import Derived.Lib.Slices
import Derived.Lib.Hide
import Derived.Lib.BufferKept
import Derived.Lib.OwnKind
import Derived.OwnWalk
import Derived.WalkKit
import Derived.BigCall
namespace Go.Proofs.Qxb6617147aDoor
open Go Go.Shelf Go.RowKit

theorem infoByte : (Tryd.prog.info? 5).map (fun i => (i.zero, i.size, i.bytes)) = some (some (.int .u8 0), 1, 1) := by kernel_rfl


set_option maxHeartbeats 1600000 in
set_option maxRecDepth 100000 in
/-- AppendTo, the amount given as whole dollars q and micro-dollars r. -/
theorem app_parts (B n q r : Nat) (hq : q ≤ 9223372036854) (hr : r < 1000000) (m : Int) (h0 : 0 ≤ m) (h1 : m ≤ 9223372036854775807) (eq : m / 1000000 = (q : Int)) (er : m % 1000000 = (r : Int))
    (sv : Value) (xs : List Value) (w : World) (hown : w.ownsRow B 5 1 sv n xs) (hBw : B ≤ w.heap.size) (hlim : n + 64 ≤ 140737488355328)
    (htab : Lib.TabBelow Tryd.prog B w powName .u64 Lib.pow10Tab) :
    Calls Tryd.prog 6 #[.int .i64 m, sv] w fun e w' => ∃ v', e = .returned v' ∧ w'.ownsRow B 5 1 v' (n + (textQ q r).length) (xs ++ Lib.byteCells (textQ q r)) ∧ Below B w w' := by
  obtain ⟨i0, hi, hz0, hz1, hz2⟩ := info_parts infoByte
  have hit : Lib.itoa (q : Int) = Lib.decDigits q := Lib.itoa_nonneg q
  have hlen : (Lib.decDigits q).length ≤ 21 := by rw [← hit]; exact Lib.itoa_length_le _ (by omega) (by omega)
  have hc := Tryd.strconv_AppendInt_10 B n (q : Int) (by omega) (by omega) sv xs w hown hBw (by omega) htab
  rw [hit] at hc
  have HC := Lib.hid hc
  clear hc hit
  by_cases hr0 : r = 0
  · subst hr0
    have ht : textQ q 0 = Lib.decDigits q := by simp [textQ]
    rw [ht]
    clear ht
    go_enter Tryd.func6, Tryd.ntmps6
    go_wp2_with (go_at_call 9; refine HC.out.mono ?_; rintro e w1 ⟨v1, rfl, hown1, hb1, -⟩)
    go_ret
    exact ⟨v1, rfl, hown1, hb1⟩
  · have hrb : ((r : Int) == 0) = false := by simp; omega
    have HR := Lib.hid hr0
    clear hr0
    go_enter Tryd.func6, Tryd.ntmps6
    go_wp2_with (go_at_call 9; refine HC.out.mono ?_; rintro e w1 ⟨v1, rfl, hown1, hb1, -⟩; refine Hid.out ?_)
    refine Lib.hid ?_
    go_wp2_with (at_builtin; refine wpList_append_own _ rfl _ _ 22 rfl B 5 i0 (.int .u8 0) 1 1 Tryd.underlying22 hi hz0 hz1 hz2 rfl (by decide) _ _ _ rfl (hown1.alloc _) ⟨w1.heap.size, 0, none⟩ 1 1 [Value.int .u8 46] rfl rfl (by intro j u' hj; match j, hj with | 0, hj => simp at hj; subst hj; simp [Addr.add]) (by intro u' hu'; simp at hu'; subst hu'; rfl) (by unfold maxLen; omega) (by omega) (by have := hb1.size; simp; omega) ?_)
    intro v2 w2 hown2 hgrow _
    have hb2 : Below B w w2 := (hb1.alloc (by have := hb1.size; omega) _).grown hgrow (by have := hb1.size; simp; omega) (fun k hk => (hown1.lt k hk).1)
    clear hgrow hown1 hb1 HC
    go_wp2
    go_loopw [1, 5, 6] (fun b f u wr => ∃ (fn un : Nat) (pre : List UInt8), f = .int .i64 fn ∧ u = .int .i64 un ∧ un ≤ 100000 ∧ fn < 1000000 ∧ Hid (∃ k, k ≤ 6 ∧ fn < 10 ^ k ∧ un = 10 ^ k / 10 ∧ pre ++ fr k fn = textQ q r) ∧ pre.length ≤ 30 ∧ wr.ownsRow B 5 1 b (n + pre.length) (xs ++ Lib.byteCells pre) ∧ Below B w wr) (fun _ _ u _ => (intOf u).toNat)
    case atStart =>
      refine ⟨r, 100000, Lib.decDigits q ++ [46], rfl, rfl, by omega, hr, ⟨6, by omega, by omega, by decide, ?_⟩, by simp; omega, ?_, hb2⟩
      · simp [textQ, HR.out]
      · have e1 : n + (Lib.decDigits q ++ [46]).length = n + (Lib.decDigits q).length + 1 := by simp; omega
        have e2 : xs ++ Lib.byteCells (Lib.decDigits q ++ [46]) = xs ++ Lib.byteCells (Lib.decDigits q) ++ [Value.int .u8 46] := by simp [Lib.byteCells]
        rw [e1, e2]; simpa only [List.append_assoc] using hown2
    case round =>
      obtain ⟨fn, un, pre, rfl, rfl, hun, hfn, HK, hpl, hownr, hbr⟩ := hrel
      by_cases hf0 : fn = 0
      · subst hf0
        go_wp2
        go_ret
        obtain ⟨k, -, -, -, ht⟩ := HK.out
        rw [fr_zero, List.append_nil] at ht
        subst ht
        exact ⟨_, rfl, hownr, hbr⟩
      · obtain ⟨k, hk6, hfk, huk, ht⟩ := HK.out
        clear HK
        obtain ⟨k', rfl⟩ : ∃ k', k = k' + 1 := by
          cases k with
          | zero => simp at hfk; omega
          | succ k => exact ⟨k, rfl⟩
        have hpk : 10 ^ (k' + 1) / 10 = 10 ^ k' := by rw [Nat.pow_succ]; omega
        have hpos : 0 < 10 ^ k' := Nat.pow_pos (by omega)
        rw [hpk] at huk
        rw [Nat.pow_succ] at hfk
        rw [fr, if_neg hf0] at ht
        subst huk
        have hk5 : k' ≤ 5 := by omega
        have hd9 : fn / 10 ^ k' ≤ 9 := by
          have := (Nat.div_lt_iff_lt_mul hpos).2 (by omega : fn < 10 * 10 ^ k')
          omega
        have hml : fn % 10 ^ k' < 10 ^ k' := Nat.mod_lt _ hpos
        have hb10 : 10 ^ k' / 10 < 10 ^ k' := Nat.div_lt_self hpos (by omega)
        have HT : Hid (∃ k, k ≤ 6 ∧ fn % 10 ^ k' < 10 ^ k ∧ 10 ^ k' / 10 = 10 ^ k / 10 ∧ (pre ++ [UInt8.ofNat (48 + fn / 10 ^ k')]) ++ fr k (fn % 10 ^ k') = textQ q r) :=
          ⟨k', by omega, hml, rfl, by rw [← ht]; simp⟩
        have hlen2 : (textQ q r).length ≤ 28 := by
          have := fr_length 6 r
          unfold textQ
          split <;> simp <;> omega
        have hpl2 : (pre ++ [UInt8.ofNat (48 + fn / 10 ^ k')]).length ≤ 30 := by
          have := congrArg List.length ht
          simp at this ⊢; omega
        clear ht hfk hpk hk6 hk5
        obtain ⟨un, eun⟩ : ∃ un, un = 10 ^ k' := ⟨_, rfl⟩
        rw [← eun] at hpos hd9 hml hb10 HT hpl2 hun
        obtain ⟨d, ed⟩ : ∃ d, d = fn / un := ⟨_, rfl⟩
        obtain ⟨f', ef⟩ : ∃ f', f' = fn % un := ⟨_, rfl⟩
        obtain ⟨u', eu⟩ : ∃ u', u' = un / 10 := ⟨_, rfl⟩
        rw [← ed] at hd9 HT hpl2
        rw [← ef] at hml HT
        rw [← eu] at hb10 HT
        have zd : (fn : Int) / (un : Int) = (d : Int) := by rw [ed]; rfl
        have zf : (fn : Int) % (un : Int) = (f' : Int) := by rw [ef]; rfl
        have zu : (un : Int) / 10 = (u' : Int) := by rw [eu]; rfl
        clear ed ef eu
        rw [← eun]
        clear eun
        have hunp : (0 : Int) < (un : Int) := by omega
        have hne : ((fn : Int) == 0) = false := by simp; omega
        have hne' : ((fn : Int) != 0) = true := by simp; omega
        have hcell : Value.int .u8 (48 + (d : Int)) = Value.int .u8 ((UInt8.ofNat (48 + d)).toNat : Int) := by
          congr 1
          simp
          omega
        have HCell := Lib.hid hcell
        clear hcell
        go_wp2_with (at_builtin; refine wpList_append_own _ rfl _ _ 22 rfl B 5 i0 (.int .u8 0) 1 1 Tryd.underlying22 hi hz0 hz1 hz2 rfl (by decide) _ _ _ rfl (hownr.alloc _) ⟨wr.heap.size, 0, none⟩ 1 1 [Value.int .u8 (48 + (d : Int))] rfl rfl (by intro j u' hj; match j, hj with | 0, hj => simp at hj; subst hj; simp [Addr.add]) (by intro u' hu'; simp at hu'; subst hu'; rfl) (by unfold maxLen; omega) (by omega) (by have := hbr.size; simp; omega) ?_)
        intro v3 w3 hown3 hgrow _
        have hb3 : Below B w w3 := (hbr.alloc (by have := hbr.size; omega) _).grown hgrow (by have := hbr.size; simp; omega) (fun k hk => (hownr.lt k hk).1)
        clear hgrow hownr hbr
        go_wp2
        go_roundw
        case rel =>
          refine ⟨f', u', _, congrArg _ zf, by first | rfl | exact congrArg _ zu, by omega, by omega, HT, hpl2, ?_, hb3⟩
          have e1 : n + (pre ++ [UInt8.ofNat (48 + d)]).length = n + pre.length + 1 := by simp; omega
          have e2 : xs ++ Lib.byteCells (pre ++ [UInt8.ofNat (48 + d)]) = xs ++ Lib.byteCells pre ++ [Value.int .u8 (48 + (d : Int))] := by
            rw [HCell.out]; simp [Lib.byteCells]
          rw [e1, e2]; simpa only [List.append_assoc] using hown3
        case measure => simp [intOf]; omega

theorem app_any (B n m : Nat) (hm : m ≤ 9223372036854775807) (sv : Value) (xs : List Value) (w : World) (hown : w.ownsRow B 5 1 sv n xs) (hBw : B ≤ w.heap.size) (hlim : n + 64 ≤ 140737488355328)
    (htab : Lib.TabBelow Tryd.prog B w powName .u64 Lib.pow10Tab) :
    Calls Tryd.prog 6 #[.int .i64 m, sv] w fun e w' => ∃ v', e = .returned v' ∧ w'.ownsRow B 5 1 v' (n + (text m).length) (xs ++ Lib.byteCells (text m)) ∧ Below B w w' :=
  app_parts B n (m / 1000000) (m % 1000000) (by omega) (by omega) m (by omega) (by omega) (by omega) (by omega) sv xs w hown hBw hlim htab
end Go.Proofs.Qxb6617147aDoor
