/-
  DERIVED. The walk of FnComesBackWindowModel over its callees' contracts.
-/
import Derived.Test.Qxb6000563aModsMath
namespace Go.Proofs.Qxb6000563aMods
open Go.RowKit

/-- Was the id of call t let go of? -/
def bOf (f : Nat → Int) (n : Nat) (g : Nat → Int) : Nat → Bool := fun t => inD f n (g t)

theorem wsum_true {b : Nat → Bool} {lo c : Nat} (h : b (lo + c) = true) : wsum b lo (c + 1) = wsum b lo c + 1 := by
  show wsum b lo c + bn (b (lo + c)) = _
  rw [h]; rfl

theorem wsum_false {b : Nat → Bool} {lo c : Nat} (h : b (lo + c) = false) : wsum b lo (c + 1) = wsum b lo c := by
  show wsum b lo c + bn (b (lo + c)) = _
  rw [h]; rfl

set_option maxHeartbeats 800000 in
set_option maxRecDepth 100000 in
theorem walk_go (a0 a1 : Option Addr) (c0 c1 n m : Nat) (f g : Nat → Int) (w : World) (hn : n ≤ 4096) (hm : m ≤ 4096) (h0 : a0 = none → c0 = 0) (h1 : a1 = none → c1 = 0) (r0 : Row1 w a0 n f) (r1 : Row1 w a1 m g) :
    Calls Trym.prog 9 #[.slice a0 n c0, .slice a1 m c1] w fun e w' => e = .returned (.bool true) ∧ Below w.heap.size w w' := by
  have R0 := mkHid r0
  have R1 := mkHid r1
  have H0 := mkHid h0
  have H1 := mkHid h1
  clear r0 r1 h0 h1
  go_enter Trym.func9, Trym.ntmps9
  go_wp2_with fail
  refine (zz_yes a0 a1 n c0 m c1 w (by omega)).mono ?_
  rintro e w1 ⟨rfl, hw⟩
  rw [hw]
  clear hw w1
  go_wp2_with fail
  refine (clone_any a0 c0 n f w (by omega) H0.out R0.out).mono ?_
  rintro e w1 ⟨d, dc, rfl, hd, hb1⟩
  go_wp2_with fail
  refine (clone_any a1 c1 m g w1 (by omega) H1.out (R1.out.below hb1)).mono ?_
  rintro e w2 ⟨i, ic, rfl, hi, hb2⟩
  have hbw : Below w.heap.size w w2 := hb1.trans (hb2.mono hb1.size)
  have RD := mkHid (hd.below hb2)
  have RI := mkHid hi
  clear hd hi hb1 hb2 R0 R1 H0 H1
  go_wp2_with fail
  refine (new_any d dc n _).mono ?_
  rintro e w3 ⟨rfl, hc, hb3⟩
  have hbl : Below w2.heap.size w2 w3 := ((Below.refl w2.heap.size w2).alloc (Nat.le_refl _) _).trans (hb3.mono (by simp))
  have hBl : w2.heap.size ≤ (w2.alloc (.cells #[.bool false, .bool false, .bool false, .bool false, .bool false, .bool false] 37)).heap.size + 1 := by simp; omega
  generalize (w2.alloc (.cells #[.bool false, .bool false, .bool false, .bool false, .bool false, .bool false] 37)).heap.size + 1 = B at hc hBl ⊢
  have HC := mkHid hc
  clear hc hb3
  go_wp2
  go_loopw [7] (fun i wr => ∃ K : Nat, K ≤ m ∧ i = .int .i64 K ∧ Cache wr B (.slice d n dc) (ringAt (bOf f n g) K) (K % 6) ∧ Below w2.heap.size w2 wr) (fun i _ => m - (intOf i).toNat)
  case atStart => exact ⟨0, by omega, rfl, HC.out.congr (fun s hs => (ring_start _ hs).symm) rfl, hbl⟩
  case round =>
    obtain ⟨K, hK, rfl, hc, hb⟩ := hrel
    clear HC
    by_cases hlt : K < m
    · obtain ⟨bi, oi, hx, hcell⟩ := RI.out.at (k := K) hlt
      subst hx
      have ci := cell_below hb hcell
      have HC := mkHid hc
      clear hcell hc
      go_wp2_with fail
      refine (zzback_any B d dc n f (ringAt (bOf f n g) K) (g K) (K % 6) wr (by omega) (by omega) (RD.out.below hb) HC.out).mono ?_
      rintro e w4 ⟨rfl, hc2, hb4'⟩
      have hb4 : Below w2.heap.size w2 w4 := hb.trans (hb4'.mono hBl)
      have hcc : Cache w4 B (.slice d n dc) (ringAt (bOf f n g) (K + 1)) ((K + 1) % 6) := hc2.congr (fun s hs => ring_step (bOf f n g) K hs) (by omega)
      have HC2 := mkHid hcc
      have hg : (inD f n (g K) && decide (6 < 2 * cnt6 (upd (ringAt (bOf f n g) K) (K % 6) (inD f n (g K))))) = (bOf f n g K && decide (6 < 2 * wsum (bOf f n g) (K - 5) (K + 1 - (K - 5)))) := by
        rw [← ring_window (bOf f n g) K]; rfl
      generalize (inD f n (g K) && decide (6 < 2 * cnt6 (upd (ringAt (bOf f n g) K) (K % 6) (inD f n (g K))))) = G at hg ⊢
      have HG := mkHid hg
      clear hc2 hb4' hb HC hcc hg ci
      obtain ⟨lo, HLO⟩ : ∃ lo, Hid (lo = K - 5) := ⟨_, rfl⟩
      by_cases h5 : K < 5
      · have h5' : (K : Int) - 5 < 0 := by omega
        go_wp2
        have hd : lo ≤ K := by have := HLO.out; omega
        go_loop [10, 11] (fun t j => ∃ c : Nat, c ≤ K + 1 - lo ∧ t = .int .i64 (wsum (bOf f n g) lo c) ∧ j = .int .i64 (lo + c : Nat)) (fun _ j => K + 1 - (intOf j).toNat)
        case atStart => exact ⟨0, by omega, rfl, congrArg (Value.int .i64) (by have := HLO.out; omega)⟩
        case round =>
          obtain ⟨c, hc, rfl, rfl⟩ := hrel
          have hws := wsum_le (bOf f n g) lo c
          by_cases hlt2 : lo + c ≤ K
          · obtain ⟨bi, oi, hx, hcell⟩ := RI.out.at (k := lo + c) (by omega)
            cases hx
            have ci := cell_below hb4 hcell
            have hle : ((lo + c : Nat) : Int) ≤ (K : Int) := by omega
            clear hcell
            go_wp2_with fail
            refine (contains_any d dc n f (g (lo + c)) w4 (by omega) (RD.out.below hb4)).mono ?_
            rintro e w5 ⟨rfl, hw⟩
            rw [hw]
            clear hw w5
            obtain ⟨y, HY⟩ : ∃ y, Hid (bOf f n g (lo + c) = y) := ⟨_, rfl⟩
            rw [show inD f n (g (lo + c)) = y from HY.out]
            cases y with
            | true =>
              go_wp2
              go_round
              case rel => exact ⟨c + 1, by omega, by rw [wsum_true HY.out]; go_num, by go_num⟩
              case measure => simp [intOf]; omega
            | false =>
              go_wp2
              go_round
              case rel => exact ⟨c + 1, by omega, by rw [wsum_false HY.out], by go_num⟩
              case measure => simp [intOf]; omega
          · obtain rfl : c = K + 1 - lo := by omega
            obtain ⟨bi, oi, hx, hcell⟩ := RI.out.at (k := K) hlt
            cases hx
            have ci := cell_below hb4 hcell
            have hle : ¬ ((lo + (K + 1 - lo) : Nat) : Int) ≤ (K : Int) := by omega
            clear hcell
            have hG := HG.out
            rw [← HLO.out] at hG
            generalize wsum (bOf f n g) lo (K + 1 - lo) = N at hws hG ⊢
            replace hG := mkHid hG
            go_wp2_with fail
            refine (contains_any d dc n f (g K) w4 (by omega) (RD.out.below hb4)).mono ?_
            rintro e w5 ⟨rfl, hw⟩
            rw [hw]
            clear hw w5
            obtain ⟨y, HY⟩ : ∃ y, Hid (bOf f n g K = y) := ⟨_, rfl⟩
            rw [show inD f n (g K) = y from HY.out]
            have hG2 := hG.out
            rw [HY.out] at hG2
            cases y with
            | true =>
              rw [Bool.true_and] at hG2
              by_cases h6 : 6 < 2 * N
              · have hg1 : G = true := by rw [hG2]; exact decide_eq_true h6
                have h6' : (6 : Int) < 2 * (N : Int) := by omega
                clear hG2 HG hG
                subst hg1
                go_wp2
                go_roundw
                case rel => exact ⟨K + 1, by omega, by go_num, HC2.out, hb4⟩
                case measure => simp [intOf]; omega
              · have hg1 : G = false := by rw [hG2]; exact decide_eq_false h6
                have h6' : ¬ (6 : Int) < 2 * (N : Int) := by omega
                clear hG2 HG hG
                subst hg1
                go_wp2
                go_roundw
                case rel => exact ⟨K + 1, by omega, by go_num, HC2.out, hb4⟩
                case measure => simp [intOf]; omega
            | false =>
              rw [Bool.false_and] at hG2
              clear HG hG
              subst hG2
              go_wp2
              go_roundw
              case rel => exact ⟨K + 1, by omega, by go_num, HC2.out, hb4⟩
              case measure => simp [intOf]; omega
      · have h5' : ¬ (K : Int) - 5 < 0 := by omega
        go_wp2
        have hd : lo ≤ K := by have := HLO.out; omega
        go_loop [10, 11] (fun t j => ∃ c : Nat, c ≤ K + 1 - lo ∧ t = .int .i64 (wsum (bOf f n g) lo c) ∧ j = .int .i64 (lo + c : Nat)) (fun _ j => K + 1 - (intOf j).toNat)
        case atStart => exact ⟨0, by omega, rfl, congrArg (Value.int .i64) (by have := HLO.out; omega)⟩
        case round =>
          obtain ⟨c, hc, rfl, rfl⟩ := hrel
          have hws := wsum_le (bOf f n g) lo c
          by_cases hlt2 : lo + c ≤ K
          · obtain ⟨bi, oi, hx, hcell⟩ := RI.out.at (k := lo + c) (by omega)
            cases hx
            have ci := cell_below hb4 hcell
            have hle : ((lo + c : Nat) : Int) ≤ (K : Int) := by omega
            clear hcell
            go_wp2_with fail
            refine (contains_any d dc n f (g (lo + c)) w4 (by omega) (RD.out.below hb4)).mono ?_
            rintro e w5 ⟨rfl, hw⟩
            rw [hw]
            clear hw w5
            obtain ⟨y, HY⟩ : ∃ y, Hid (bOf f n g (lo + c) = y) := ⟨_, rfl⟩
            rw [show inD f n (g (lo + c)) = y from HY.out]
            cases y with
            | true =>
              go_wp2
              go_round
              case rel => exact ⟨c + 1, by omega, by rw [wsum_true HY.out]; go_num, by go_num⟩
              case measure => simp [intOf]; omega
            | false =>
              go_wp2
              go_round
              case rel => exact ⟨c + 1, by omega, by rw [wsum_false HY.out], by go_num⟩
              case measure => simp [intOf]; omega
          · obtain rfl : c = K + 1 - lo := by omega
            obtain ⟨bi, oi, hx, hcell⟩ := RI.out.at (k := K) hlt
            cases hx
            have ci := cell_below hb4 hcell
            have hle : ¬ ((lo + (K + 1 - lo) : Nat) : Int) ≤ (K : Int) := by omega
            clear hcell
            have hG := HG.out
            rw [← HLO.out] at hG
            generalize wsum (bOf f n g) lo (K + 1 - lo) = N at hws hG ⊢
            replace hG := mkHid hG
            go_wp2_with fail
            refine (contains_any d dc n f (g K) w4 (by omega) (RD.out.below hb4)).mono ?_
            rintro e w5 ⟨rfl, hw⟩
            rw [hw]
            clear hw w5
            obtain ⟨y, HY⟩ : ∃ y, Hid (bOf f n g K = y) := ⟨_, rfl⟩
            rw [show inD f n (g K) = y from HY.out]
            have hG2 := hG.out
            rw [HY.out] at hG2
            cases y with
            | true =>
              rw [Bool.true_and] at hG2
              by_cases h6 : 6 < 2 * N
              · have hg1 : G = true := by rw [hG2]; exact decide_eq_true h6
                have h6' : (6 : Int) < 2 * (N : Int) := by omega
                clear hG2 HG hG
                subst hg1
                go_wp2
                go_roundw
                case rel => exact ⟨K + 1, by omega, by go_num, HC2.out, hb4⟩
                case measure => simp [intOf]; omega
              · have hg1 : G = false := by rw [hG2]; exact decide_eq_false h6
                have h6' : ¬ (6 : Int) < 2 * (N : Int) := by omega
                clear hG2 HG hG
                subst hg1
                go_wp2
                go_roundw
                case rel => exact ⟨K + 1, by omega, by go_num, HC2.out, hb4⟩
                case measure => simp [intOf]; omega
            | false =>
              rw [Bool.false_and] at hG2
              clear HG hG
              subst hG2
              go_wp2
              go_roundw
              case rel => exact ⟨K + 1, by omega, by go_num, HC2.out, hb4⟩
              case measure => simp [intOf]; omega
    · go_wp2
      go_ret
      exact ⟨rfl, hbw.trans (hb.mono hbw.size)⟩

/-- The lengths together are too great. -/
theorem walk_long (a0 a1 : Option Addr) (c0 c1 n m : Nat) (w : World) (hn : n ≤ maxLen) (hm : m ≤ maxLen) (h : ¬ n + m ≤ 1048576) :
    Calls Trym.prog 9 #[.slice a0 n c0, .slice a1 m c1] w fun e w' => e = .returned (.bool true) ∧ Below w.heap.size w w' := by
  go_enter Trym.func9, Trym.ntmps9
  go_wp2_with fail
  refine (zz_no a0 a1 n c0 m c1 w hn hm h).mono ?_
  rintro e w1 ⟨rfl, hw⟩
  rw [hw]
  clear hw w1
  go_wp2
  go_ret
  exact ⟨rfl, Below.refl _ _⟩

/-- One of the two is longer than 4096. -/
theorem walk_mid (a0 a1 : Option Addr) (c0 c1 n m : Nat) (w : World) (h : n + m ≤ 1048576) (h2 : ¬ (n ≤ 4096 ∧ m ≤ 4096)) :
    Calls Trym.prog 9 #[.slice a0 n c0, .slice a1 m c1] w fun e w' => e = .returned (.bool true) ∧ Below w.heap.size w w' := by
  by_cases h3 : n ≤ 4096
  · have h4 : ¬ m ≤ 4096 := fun h => h2 ⟨h3, h⟩
    clear h2
    go_enter Trym.func9, Trym.ntmps9
    go_wp2_with fail
    refine (zz_yes a0 a1 n c0 m c1 w h).mono ?_
    rintro e w1 ⟨rfl, hw⟩
    rw [hw]
    clear hw w1
    go_wp2
    go_ret
    exact ⟨rfl, Below.refl _ _⟩
  · clear h2
    go_enter Trym.func9, Trym.ntmps9
    go_wp2_with fail
    refine (zz_yes a0 a1 n c0 m c1 w h).mono ?_
    rintro e w1 ⟨rfl, hw⟩
    rw [hw]
    clear hw w1
    go_wp2
    go_ret
    exact ⟨rfl, Below.refl _ _⟩

theorem walk_any (a0 a1 : Option Addr) (c0 c1 n m : Nat) (f g : Nat → Int) (w : World) (hn : n ≤ maxLen) (hm : m ≤ maxLen) (h0 : a0 = none → c0 = 0) (h1 : a1 = none → c1 = 0) (r0 : Row1 w a0 n f) (r1 : Row1 w a1 m g) :
    Calls Trym.prog 9 #[.slice a0 n c0, .slice a1 m c1] w fun e w' => e = .returned (.bool true) ∧ Below w.heap.size w w' := by
  by_cases h : n + m ≤ 1048576
  · by_cases h2 : n ≤ 4096 ∧ m ≤ 4096
    · exact walk_go a0 a1 c0 c1 n m f g w h2.1 h2.2 h0 h1 r0 r1
    · exact walk_mid a0 a1 c0 c1 n m w h h2
  · exact walk_long a0 a1 c0 c1 n m w hn hm h

end Go.Proofs.Qxb6000563aMods
