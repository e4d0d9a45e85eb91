import Derived.Test.Qxb6000465aModsMerge
namespace Go.Proofs.Qxb6000465aMods
open Go.RowKit

theorem row3_at {w : World} {a : Option Addr} {P : List T3} (h : Row3 w a P) {k : Nat} (hk : k < P.length) : ∃ b off, a = some ⟨b, off, none⟩ ∧ w.cell? ⟨b, off + k * 3, none⟩ = some (.int .i64 (pid P k)) ∧
    w.cell? ⟨b, off + k * 3 + 1, none⟩ = some (.int .i64 (pfr P k)) ∧ w.cell? ⟨b, off + k * 3 + 2, none⟩ = some (.int .i64 (pln P k)) := by
  rcases h with h0 | ⟨b, off, rfl, h⟩
  · omega
  · exact ⟨b, off, rfl, h k hk⟩

theorem row4_at {w : World} {a : Option Addr} {C : List T4} (h : Row4 w a C) {k : Nat} (hk : k < C.length) : ∃ b off, a = some ⟨b, off, none⟩ ∧ w.cell? ⟨b, off + k * 4, none⟩ = some (.int .i64 (cid C k)) ∧
    w.cell? ⟨b, off + k * 4 + 1, none⟩ = some (.int .i64 (cfr C k)) ∧ w.cell? ⟨b, off + k * 4 + 2, none⟩ = some (.int .i64 (cln C k)) ∧ w.cell? ⟨b, off + k * 4 + 3, none⟩ = some (.bool (crm C k)) := by
  rcases h with h0 | ⟨b, off, rfl, h⟩
  · omega
  · exact ⟨b, off, rfl, h k hk⟩

theorem filled_cells3 {w : World} {b : Nat} {t : TypeId} {n : Nat} {S : List T3} (h : Filled w b t (n * 3) (n * 3) (cell3 S)) : ∀ k, k < n → w.cell? ⟨b, 0 + k * 3, none⟩ = some (.int .i64 (pid S k)) ∧
      w.cell? ⟨b, 0 + k * 3 + 1, none⟩ = some (.int .i64 (pfr S k)) ∧ w.cell? ⟨b, 0 + k * 3 + 2, none⟩ = some (.int .i64 (pln S k)) := by
  intro k hk
  refine ⟨?_, ?_, ?_⟩
  · rw [Nat.zero_add, h.cell (by omega), cell3_0]
  · rw [Nat.zero_add, h.cell (by omega), cell3_1]
  · rw [Nat.zero_add, h.cell (by omega), cell3_2]

theorem filled_cells4 {w : World} {b : Nat} {t : TypeId} {n : Nat} {C : List T4} (h : Filled w b t (n * 4) (n * 4) (cell4 C)) : ∀ k, k < n → w.cell? ⟨b, 0 + k * 4, none⟩ = some (.int .i64 (cid C k)) ∧
      w.cell? ⟨b, 0 + k * 4 + 1, none⟩ = some (.int .i64 (cfr C k)) ∧ w.cell? ⟨b, 0 + k * 4 + 2, none⟩ = some (.int .i64 (cln C k)) ∧ w.cell? ⟨b, 0 + k * 4 + 3, none⟩ = some (.bool (crm C k)) := by
  intro k hk
  refine ⟨?_, ?_, ?_, ?_⟩
  · rw [Nat.zero_add, h.cell (by omega), cell4_0]
  · rw [Nat.zero_add, h.cell (by omega), cell4_1]
  · rw [Nat.zero_add, h.cell (by omega), cell4_2]
  · rw [Nat.zero_add, h.cell (by omega), cell4_3]

set_option maxHeartbeats 800000 in
set_option maxRecDepth 100000 in
theorem zzmerge_any (a a' : Option Addr) (c c' : Nat) (S : List T3) (C : List T4) (w : World) (n m : Nat) (hn : n = S.length) (hm : m = C.length) (hN : n ≤ 1048576) (hM : m ≤ 1048576) (hS : SI S) (hC : ND C)
    (hr : Row3 w a S) (hr' : Row4 w a' C) :
    Calls Trym.prog 27 #[.slice a n c, .slice a' m c'] w (MergeGives S C w) := by
  have Hn := mkHid hn
  have Hm := mkHid hm
  have HS := mkHid hS
  have HC := mkHid hC
  have Hr := mkHid hr
  have Hr' := mkHid hr'
  clear hn hm hS hC hr hr'
  obtain ⟨i0, hi, hz0, hz1, hz2⟩ := info_parts info62
  obtain ⟨i1, hi1, hy0, hy1, hy2⟩ := info_parts info67
  obtain ⟨i2, hi2, hx0, hx1, hx2⟩ := info_parts info50
  go_enter Trym.func27, Trym.ntmps27
  go_wp2_with (at_make; refine wpList_make_full _ rfl _ _ 60 rfl w.heap.size 62 i0 _ 3 Trym.underlying60 hi hz0 hz1 _ _ _ _ n rfl rfl rfl rfl ?b2 ?b3 (Nat.le_refl _) ?_)
  case b2 => rw [hz2]; omega
  case b3 => unfold maxLen; omega
  intro w0 hown0 hgrow0
  go_wp2
  have hf0 := Filled.start (b := w.heap.size) hown0 rfl (cell3 S)
  have hb0 : Below w.heap.size w w0 := (Below.refl _ _).grown hgrow0 (Nat.le_refl _) (fun k h => by cases h)
  clear hown0 hgrow0
  go_loopw [6] (fun i wr => ∃ k : Nat, k ≤ n ∧ i = .int .i64 k ∧ Filled wr w.heap.size 62 (n * 3) (k * 3) (cell3 S) ∧ Below w.heap.size w wr) (fun i _ => n - (intOf i).toNat)
  case atStart => exact ⟨0, by omega, rfl, hf0, hb0⟩
  case round =>
    obtain ⟨k, hk, rfl, hf, hb⟩ := hrel
    by_cases hlt : k < n
    · obtain ⟨b, off, hx, hc⟩ := row3_at Hr.out (k := k) (by have := Hn.out; omega)
      subst hx
      have c1 := cell_below hb hc.1
      have c2 := cell_below hb hc.2.1
      have c3 := cell_below hb hc.2.2
      obtain ⟨o1, d1⟩ := hf.old (j := k * 3) (by omega)
      obtain ⟨o2, d2⟩ := hf.old (j := k * 3 + 1) (by omega)
      obtain ⟨o3, d3⟩ := hf.old (j := k * 3 + 2) (by omega)
      have f1 := hf.frozen (k * 3)
      have f2 := hf.frozen (k * 3 + 1)
      have f3 := hf.frozen (k * 3 + 2)
      clear hc hf0
      go_wp2
      go_region
      go_wp2
      go_roundw
      case rel => exact ⟨k + 1, by omega, by go_num, hf.push3 (by omega), (below_set3 hb (Nat.le_refl _) _ _ _ _ _ _).drew⟩
      case measure => simp [intOf]; omega
    · obtain rfl : k = n := by omega
      obtain ⟨w1, hw1⟩ : ∃ w1 : World, w1 = wr := ⟨_, rfl⟩
      subst hw1
      clear hf0 hb0
      go_wp2_with (at_make; refine wpList_make_full _ rfl _ _ 63 rfl w1.heap.size 67 i1 _ 4 Trym.underlying63 hi1 hy0 hy1 _ _ _ _ m rfl rfl rfl rfl ?b2 ?b3 (Nat.le_refl _) ?_)
      case b2 => rw [hy2]; omega
      case b3 => unfold maxLen; omega
      intro w2 hown2 hgrow2
      go_wp2
      have hg0 := Filled.start (b := w1.heap.size) hown2 rfl (cell4 C)
      have hb2 : Below w1.heap.size w1 w2 := (Below.refl _ _).grown hgrow2 (Nat.le_refl _) (fun k h => by cases h)
      clear hown2 hgrow2
      go_loopw [8] (fun i wr => ∃ k : Nat, k ≤ m ∧ i = .int .i64 k ∧ Filled wr w1.heap.size 67 (m * 4) (k * 4) (cell4 C) ∧ Below w1.heap.size w1 wr) (fun i _ => m - (intOf i).toNat)
      case atStart => exact ⟨0, by omega, rfl, hg0, hb2⟩
      case round =>
        obtain ⟨q, hq, rfl, hg, hbq⟩ := hrel
        by_cases hlt2 : q < m
        · obtain ⟨b, off, hx, hc⟩ := row4_at Hr'.out (k := q) (by have := Hm.out; omega)
          subst hx
          have hbw : Below w.heap.size w wr := hb.trans (hbq.mono hb.size)
          have c1 := cell_below hbw hc.1
          have c2 := cell_below hbw hc.2.1
          have c3 := cell_below hbw hc.2.2.1
          have c4 := cell_below hbw hc.2.2.2
          clear hc hg0
          go_wp2
          have hlt3 := hg.lt
          have key : Filled (wr.alloc (.cells #[.int .i64 (cid C q), .int .i64 (cfr C q), .int .i64 (cln C q)] 50)) w1.heap.size 67 (m * 4) (q * 4) (cell4 C) ∧ Below w1.heap.size w1 (wr.alloc (.cells #[.int .i64 (cid C q), .int .i64 (cfr C q), .int .i64 (cln C q)] 50)) ∧
              (wr.alloc (.cells #[.int .i64 (cid C q), .int .i64 (cfr C q), .int .i64 (cln C q)] 50)).cell? ⟨wr.heap.size, 0, none⟩ = some (.int .i64 (cid C q)) ∧
              (wr.alloc (.cells #[.int .i64 (cid C q), .int .i64 (cfr C q), .int .i64 (cln C q)] 50)).cell? ⟨wr.heap.size, 1, none⟩ = some (.int .i64 (cfr C q)) ∧
              (wr.alloc (.cells #[.int .i64 (cid C q), .int .i64 (cfr C q), .int .i64 (cln C q)] 50)).cell? ⟨wr.heap.size, 2, none⟩ = some (.int .i64 (cln C q)) ∧
              (wr.alloc (.cells #[.int .i64 (cid C q), .int .i64 (cfr C q), .int .i64 (cln C q)] 50)).cell? ⟨b, off + q * 4 + 3, none⟩ = some (.bool (crm C q)) :=
            ⟨hg.alloc _, hbq.alloc hbq.size _, by simp, by simp, by simp, cell_below ((Below.refl _ _).alloc (Nat.le_refl _) _) c4⟩
          generalize (wr.alloc (.cells #[.int .i64 (cid C q), .int .i64 (cfr C q), .int .i64 (cln C q)] 50)) = wy at key ⊢
          clear hg c1 c2 c3 c4 hbq hbw
          obtain ⟨hg, hbq, p1, p2, p3, c4⟩ := key
          obtain ⟨o1, d1⟩ := hg.old (j := q * 4) (by omega)
          obtain ⟨o2, d2⟩ := hg.old (j := q * 4 + 1) (by omega)
          obtain ⟨o3, d3⟩ := hg.old (j := q * 4 + 2) (by omega)
          obtain ⟨o4, d4⟩ := hg.old (j := q * 4 + 3) (by omega)
          have f1 := hg.frozen (q * 4)
          have f2 := hg.frozen (q * 4 + 1)
          have f3 := hg.frozen (q * 4 + 2)
          have f4 := hg.frozen (q * 4 + 3)
          go_region
          go_wp2
          go_roundw
          case rel => exact ⟨q + 1, by omega, by go_num, hg.push4 (by omega), (below_set4 hbq (Nat.le_refl _) _ _ _ _ _ _ _ _).drew⟩
          case measure => simp [intOf]; omega
        · obtain rfl : q = m := by omega
          obtain ⟨w3, hw3⟩ : ∃ w3 : World, w3 = wr := ⟨_, rfl⟩
          subst hw3
          have hfs : Filled w3 w.heap.size 62 (k * 3) (k * 3) (cell3 S) := hf.below hbq hf.lt
          have hb3 : Below w.heap.size w w3 := hb.trans (hbq.mono hb.size)
          have g1 := mkHid hfs
          have g2 := mkHid hg
          clear hf hg hbq hb hfs hg0
          go_wp2_with fail
          refine (merge_at w.heap.size 0 w1.heap.size 0 k q S C w3 k q Hn.out Hm.out (Nat.le_refl _) (Nat.le_refl _) hN hM HS.out HC.out (filled_cells3 g1.out) (filled_cells4 g2.out)).mono ?_
          rintro e w4 ⟨K, hK, a2, c2, rfl, ha2, hr2, hb4⟩
          have hKl : K.length ≤ 2097152 := by have := hK.len; have := Hn.out; have := Hm.out; omega
          have HK := mkHid hK
          have Hr2 := mkHid hr2
          have hb5 : Below w.heap.size w w4 := hb3.trans (hb4.mono hb3.size)
          clear hK hr2 hb4 hb3 g1 g2 ha2
          obtain ⟨r, HR⟩ : ∃ r, Hid (r = K.length) := ⟨_, rfl⟩
          have hrr : r ≤ 2097152 := by have := HR.out; omega
          rw [← HR.out]
          go_wp2_with (at_make; refine wpList_make_full _ rfl _ _ 40 rfl w4.heap.size 50 i2 _ 3 Trym.underlying40 hi2 hx0 hx1 _ _ _ _ r rfl rfl rfl rfl ?b2 ?b3 (Nat.le_refl _) ?_)
          case b2 => rw [hx2]; omega
          case b3 => unfold maxLen; omega
          intro w5 hown5 hgrow5
          go_wp2
          have hh0 := Filled.start (b := w4.heap.size) hown5 rfl (cell3 K)
          have hb6 : Below w4.heap.size w4 w5 := (Below.refl _ _).grown hgrow5 (Nat.le_refl _) (fun k h => by cases h)
          clear hown5 hgrow5
          go_loopw [12] (fun i wr => ∃ k : Nat, k ≤ r ∧ i = .int .i64 k ∧ Filled wr w4.heap.size 50 (r * 3) (k * 3) (cell3 K) ∧ Below w4.heap.size w4 wr) (fun i _ => r - (intOf i).toNat)
          case atStart => exact ⟨0, by omega, rfl, hh0, hb6⟩
          case round =>
            obtain ⟨t, ht, rfl, hf, hb⟩ := hrel
            by_cases hlt4 : t < r
            · obtain ⟨b, off, hx, hc⟩ := row3_at Hr2.out (k := t) (by have := HR.out; omega)
              subst hx
              have c1 := cell_below hb hc.1
              have c2 := cell_below hb hc.2.1
              have c3 := cell_below hb hc.2.2
              obtain ⟨o1, d1⟩ := hf.old (j := t * 3) (by omega)
              obtain ⟨o2, d2⟩ := hf.old (j := t * 3 + 1) (by omega)
              obtain ⟨o3, d3⟩ := hf.old (j := t * 3 + 2) (by omega)
              have f1 := hf.frozen (t * 3)
              have f2 := hf.frozen (t * 3 + 1)
              have f3 := hf.frozen (t * 3 + 2)
              clear hc hh0
              go_wp2
              go_region
              go_wp2
              go_roundw
              case rel => exact ⟨t + 1, by omega, by go_num, hf.push3 (by omega), (below_set3 hb (Nat.le_refl _) _ _ _ _ _ _).drew⟩
              case measure => simp [intOf]; omega
            · obtain rfl : t = r := by omega
              clear hh0 hb6
              go_wp2
              go_ret
              have e := HR.out
              subst e
              exact ⟨K, HK.out, _, _, rfl, fun h => (by cases h), hf.row3, hb5.trans (hb.mono hb5.size)⟩
end Go.Proofs.Qxb6000465aMods
