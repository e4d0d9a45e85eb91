import Derived.Test.Qxb6000465aModsZZ
namespace Go.Proofs.Qxb6000465aMods
open Go.RowKit

set_option maxHeartbeats 800000 in
set_option maxRecDepth 100000 in
theorem law_any (a a' : Option Addr) (c c' : Nat) (S : List T3) (C : List T4) (w : World) (n m : Nat) (hn : n = S.length) (hm : m = C.length) (hN : n ≤ maxLen) (hM : m ≤ maxLen) (ha : a = none → c = 0) (ha' : a' = none → c' = 0)
    (hr : Row3 w a S) (hr' : Row4 w a' C) :
    Calls Trym.prog 8 #[.slice a n c, .slice a' m c'] w fun e w' => e = .returned (.bool true) ∧ Below w.heap.size w w' := by
  have Hn := mkHid hn
  have Hm := mkHid hm
  have Ha := mkHid ha
  have Ha' := mkHid ha'
  have Hr := mkHid hr
  have Hr' := mkHid hr'
  clear hn hm hr hr' ha ha'
  unfold maxLen at hN hM
  by_cases h1 : n + m ≤ 1048576
  · have h2 : n ≤ 1048576 := by omega
    have h3 : m ≤ 1048576 := by omega
    by_cases h4 : 24 * n + 32 * m ≤ 1048576
    · go_enter Trym.func8, Trym.ntmps8
      go_wp2_with fail
      refine (zz_yes a a' n c m c' _ h1).mono ?_
      rintro e w1 ⟨rfl, hw⟩
      rw [hw]
      clear hw w1
      go_wp2_with fail
      rw [Hn.out]
      refine (si_any a c S _ (by have := Hn.out; omega) Hr.out).mono ?_
      rintro e w1 ⟨⟨r, rfl, hS⟩, hb1⟩
      rw [← Hn.out]
      cases r with
      | false =>
        clear hS
        go_wp2
        go_ret
        exact ⟨rfl, hb1⟩
      | true =>
        have HS := mkHid (hS rfl)
        clear hS
        go_wp2_with fail
        rw [Hm.out]
        refine (nd_any a' c' C _ (by have := Hm.out; omega) (Hr'.out.below hb1)).mono ?_
        rintro e w2 ⟨⟨r, rfl, hC⟩, hb2⟩
        rw [← Hm.out]
        have hb3 : Below w.heap.size w w2 := hb1.trans (hb2.mono hb1.size)
        clear hb1 hb2
        cases r with
        | false =>
          clear hC
          go_wp2
          go_ret
          exact ⟨rfl, hb3⟩
        | true =>
          have HC := mkHid (hC rfl)
          clear hC
          go_wp2_with fail
          rw [Hn.out]
          refine (clone_any a c S _ (by have := Hn.out; omega) Ha.out (Hr.out.below hb3)).mono ?_
          rintro e w3 ⟨b, d, rfl, hbd, hrow3, hb4⟩
          have Hb := mkHid hbd
          have hb5 : Below w.heap.size w w3 := hb3.trans (hb4.mono hb3.size)
          clear hbd hb3 hb4
          rw [← Hn.out]
          go_wp2_with fail
          rw [Hm.out]
          refine (cloneC_any a' c' C _ (by have := Hm.out; omega) Ha'.out (Hr'.out.below hb5)).mono ?_
          rintro e w4 ⟨b', d', rfl, hbd', hrow4, hb6⟩
          have Hb' := mkHid hbd'
          have hb7 : Below w.heap.size w w4 := hb5.trans (hb6.mono hb5.size)
          have Row3' := mkHid (hrow3.below hb6)
          have Row4' := mkHid hrow4
          clear hbd' hb5 hb6 hrow3 hrow4 Hr Hr' Ha Ha'
          rw [← Hm.out]
          go_wp2_with fail
          rw [Hn.out]
          refine (toS_any b d S _ (by have := Hn.out; omega) Hb.out Row3'.out).mono ?_
          rintro e w5 ⟨x, y, rfl, hxy, hrow5, hb8⟩
          rw [← Hn.out]
          go_wp2_with fail
          rw [Hm.out]
          refine (toSC_any b' d' C _ (by have := Hm.out; omega) Hb'.out (Row4'.out.below hb8)).mono ?_
          rintro e w6 ⟨x', y', rfl, hxy', hrow6, hb9⟩
          have hb10 : Below w4.heap.size w4 w6 := hb8.trans (hb9.mono hb8.size)
          have Row5 := mkHid (hrow5.below hb9)
          have Row6 := mkHid hrow6
          clear hxy hxy' hrow5 hrow6 hb8 hb9
          rw [← Hm.out]
          go_wp2_with fail
          refine (zzmerge_any x x' y y' S C _ n m Hn.out Hm.out h2 h3 HS.out HC.out Row5.out Row6.out).mono ?_
          rintro e w7 ⟨K, hK, z, u, rfl, hzu, hrow7, hb11⟩
          have hb12 : Below w4.heap.size w4 w7 := hb10.trans (hb11.mono hb10.size)
          have hb13 : Below w.heap.size w w7 := hb7.trans (hb12.mono hb7.size)
          have R3 := mkHid (Row3'.out.below hb12)
          have R4 := mkHid (Row4'.out.below hb12)
          have R7 := mkHid hrow7
          have HK := mkHid hK
          have hKl : K.length ≤ 2097152 := by have := hK.len; have := Hn.out; have := Hm.out; omega
          clear hzu hK hrow7 hb7 hb10 hb11 hb12 Row3' Row4' Row5 Row6
          go_wp2_with fail
          refine (out_si_any z u K _ (by omega) HK.out.si R7.out).mono ?_
          rintro e w8 ⟨rfl, hb14⟩
          have R3' := mkHid (R3.out.below hb14)
          have R4' := mkHid (R4.out.below hb14)
          have R7' := mkHid (R7.out.below hb14)
          have hb15 : Below w.heap.size w w8 := hb13.trans (hb14.mono hb13.size)
          clear hb13 hb14 R3 R4 R7
          clear Hb Hb'
          go_wp2
          go_loopw [6] (fun i wr => ∃ k : Nat, k ≤ n ∧ i = .int .i64 k ∧ Below w8.heap.size w8 wr) (fun i _ => n - (intOf i).toNat)
          case atStart => exact ⟨0, by omega, rfl, Below.refl _ _⟩
          case round =>
            obtain ⟨k, hk, rfl, hb⟩ := hrel
            by_cases hlt : k < n
            · obtain ⟨bb, off, hx, hc⟩ := row3_at R3'.out (k := k) (by have := Hn.out; omega)
              subst hx
              have c1 := cell_below hb hc.1
              have c2 := cell_below hb hc.2.1
              have c3 := cell_below hb hc.2.2
              clear hc
              go_wp2_with fail
              have key : Below w8.heap.size w8 (wr.alloc (.cells #[.int .i64 (pid S k), .int .i64 (pfr S k), .int .i64 (pln S k)] 47)) ∧
                  (wr.alloc (.cells #[.int .i64 (pid S k), .int .i64 (pfr S k), .int .i64 (pln S k)] 47)).cell? ⟨wr.heap.size, 0, none⟩ = some (.int .i64 (pid S k)) ∧
                  (wr.alloc (.cells #[.int .i64 (pid S k), .int .i64 (pfr S k), .int .i64 (pln S k)] 47)).cell? ⟨wr.heap.size, 1, none⟩ = some (.int .i64 (pfr S k)) ∧
                  (wr.alloc (.cells #[.int .i64 (pid S k), .int .i64 (pfr S k), .int .i64 (pln S k)] 47)).cell? ⟨wr.heap.size, 2, none⟩ = some (.int .i64 (pln S k)) :=
                ⟨hb.alloc hb.size _, by simp, by simp, by simp⟩
              generalize (wr.alloc (.cells #[.int .i64 (pid S k), .int .i64 (pfr S k), .int .i64 (pln S k)] 47)) = wy at key ⊢
              clear hb c1 c2 c3
              obtain ⟨hb, p1, p2, p3⟩ := key
              rw [Hm.out]
              refine (last_any b' d' C (pid S k) wy (by have := Hm.out; omega) HC.out (R4'.out.below hb)).mono ?_
              rintro e w9 ⟨⟨i9, r, rfl, hch⟩, hw⟩
              rw [hw, ← Hm.out]
              clear hw w9
              cases r with
              | true =>
                clear hch
                go_wp2
                go_roundw
                case rel => exact ⟨k + 1, by omega, by go_num, hb⟩
                case measure => simp [intOf]; omega
              | false =>
                have hkept := HK.out.kept (k := k) (by have := Hn.out; omega) (fun h => by have := hch.2 h; cases this)
                clear hch
                obtain ⟨⟨q0, hq0, hq1⟩, hsame⟩ := hkept
                have HQ := mkHid hq1
                have HS2 := mkHid hsame
                clear hq1 hsame
                go_wp2_with fail
                refine (out_any z u K (pid S k) wy (by omega) HK.out.si (R7'.out.below hb)).mono ?_
                rintro e w9 ⟨hidx, hw⟩
                rw [hw]
                clear hw w9
                rcases hidx with ⟨rfl, hno⟩ | ⟨t, rfl, ht, hpt⟩
                · exact absurd HQ.out (hno q0 hq0)
                · obtain ⟨e1, e2⟩ := HS2.out t ht hpt
                  obtain ⟨bz, oz, hz, hcz⟩ := row3_at R7'.out (k := t) ht
                  subst hz
                  have z2 := cell_below hb hcz.2.1
                  have z3 := cell_below hb hcz.2.2
                  have n1 : (pfr K t != pfr S k) = false := by simpa using e1
                  have n2 : (pln K t != pln S k) = false := by simpa using e2
                  clear hcz hpt e1 e2
                  go_wp2
                  go_quiet (fail)
                  go_wp2
                  go_roundw
                  case rel => exact ⟨k + 1, by omega, by go_num, below_drewN hb _⟩
                  case measure => simp [intOf]; omega
            · obtain ⟨w9, hw9⟩ : ∃ w9 : World, w9 = wr := ⟨_, rfl⟩
              subst hw9
              have hbk := mkHid hb
              clear hb
              go_wp2
              go_loopw [12] (fun i wr => ∃ k : Nat, k ≤ m ∧ i = .int .i64 k ∧ Below w8.heap.size w8 wr) (fun i _ => m - (intOf i).toNat)
              case atStart => exact ⟨0, by omega, rfl, hbk.out⟩
              case round =>
                obtain ⟨q, hq, rfl, hb⟩ := hrel
                by_cases hlt2 : q < m
                · obtain ⟨bb, off, hx, hc⟩ : ∃ bb off, b' = some ⟨bb, off, none⟩ ∧ ∀ k, k < C.length → w8.cell? ⟨bb, off + k * 4, none⟩ = some (.int .i64 (cid C k)) ∧
                      w8.cell? ⟨bb, off + k * 4 + 1, none⟩ = some (.int .i64 (cfr C k)) ∧ w8.cell? ⟨bb, off + k * 4 + 2, none⟩ = some (.int .i64 (cln C k)) ∧ w8.cell? ⟨bb, off + k * 4 + 3, none⟩ = some (.bool (crm C k)) := by
                    rcases R4'.out with h0 | h0
                    · have := Hm.out; omega
                    · exact h0
                  subst hx
                  have hcq := hc q (by have := Hm.out; omega)
                  have HCC := mkHid hc
                  clear hc
                  have c1 := cell_below hb hcq.1
                  have c2 := cell_below hb hcq.2.1
                  have c3 := cell_below hb hcq.2.2.1
                  have c4 := cell_below hb hcq.2.2.2
                  clear hcq
                  go_wp2
                  have key : Below w8.heap.size w8 (wr.alloc (.cells #[.int .i64 (cid C q), .int .i64 (cfr C q), .int .i64 (cln C q), .bool (crm C q)] 52)) ∧
                      (wr.alloc (.cells #[.int .i64 (cid C q), .int .i64 (cfr C q), .int .i64 (cln C q), .bool (crm C q)] 52)).cell? ⟨wr.heap.size, 0, none⟩ = some (.int .i64 (cid C q)) ∧
                      (wr.alloc (.cells #[.int .i64 (cid C q), .int .i64 (cfr C q), .int .i64 (cln C q), .bool (crm C q)] 52)).cell? ⟨wr.heap.size, 1, none⟩ = some (.int .i64 (cfr C q)) ∧
                      (wr.alloc (.cells #[.int .i64 (cid C q), .int .i64 (cfr C q), .int .i64 (cln C q), .bool (crm C q)] 52)).cell? ⟨wr.heap.size, 2, none⟩ = some (.int .i64 (cln C q)) ∧
                      (wr.alloc (.cells #[.int .i64 (cid C q), .int .i64 (cfr C q), .int .i64 (cln C q), .bool (crm C q)] 52)).cell? ⟨wr.heap.size, 3, none⟩ = some (.bool (crm C q)) :=
                    ⟨hb.alloc hb.size _, by simp, by simp, by simp, by simp⟩
                  generalize (wr.alloc (.cells #[.int .i64 (cid C q), .int .i64 (cfr C q), .int .i64 (cln C q), .bool (crm C q)] 52)) = wy at key ⊢
                  clear hb c1 c2 c3 c4
                  obtain ⟨hb, p1, p2, p3, p4⟩ := key
                  by_cases hl : q + 1 < m
                  · have cn := cell_below hb (HCC.out (q + 1) (by have := Hm.out; omega)).1
                    have hli : (q : Int) + 1 < (m : Int) := by omega
                    by_cases he : cid C (q + 1) = cid C q
                    · have he' : (cid C (q + 1) == cid C q) = true := by simpa using he
                      clear he
                      go_wp2
                      go_quiet (fail)
                      go_wp2
                      go_roundw
                      case rel => exact ⟨q + 1, by omega, by go_num, below_drewN hb _⟩
                      case measure => simp [intOf]; omega
                    · have he' : (cid C (q + 1) == cid C q) = false := by simpa using he
                      have He : Hid (q + 1 < C.length → cid C (q + 1) ≠ cid C q) := fun _ => he
                      clear he
                      go_wp2
                      go_quiet (fail)
                      have key2 : Below w8.heap.size w8 (wy.drewN nq) ∧ (wy.drewN nq).cell? ⟨wr.heap.size, 0, none⟩ = some (.int .i64 (cid C q)) ∧
                          (wy.drewN nq).cell? ⟨wr.heap.size, 1, none⟩ = some (.int .i64 (cfr C q)) ∧ (wy.drewN nq).cell? ⟨wr.heap.size, 2, none⟩ = some (.int .i64 (cln C q)) ∧ (wy.drewN nq).cell? ⟨wr.heap.size, 3, none⟩ = some (.bool (crm C q)) :=
                        ⟨below_drewN hb _, p1, p2, p3, p4⟩
                      generalize wy.drewN nq = wv at key2 ⊢
                      clear hb p1 p2 p3 p4
                      obtain ⟨hb, p1, p2, p3, p4⟩ := key2
                      go_wp2_with fail
                      refine (out_any z u K (cid C q) wv (by omega) HK.out.si (R7'.out.below hb)).mono ?_
                      rintro e w9 ⟨hidx, hw⟩
                      rw [hw]
                      clear hw w9
                      by_cases hrm : crm C q = true
                      · have hrem := HK.out.removed HC.out (k := q) (by have := Hm.out; omega) He.out hrm
                        rcases hidx with ⟨rfl, hno⟩ | ⟨t, rfl, ht, hpt⟩
                        · clear hno hrem
                          go_wp2
                          go_roundw
                          case rel => exact ⟨q + 1, by omega, by go_num, hb⟩
                          case measure => simp [intOf]; omega
                        · exact absurd hpt (hrem t ht)
                      · have hrm2 : crm C q = false := by simpa using hrm
                        clear hrm
                        obtain ⟨⟨q0, hq0, hq1⟩, hsame⟩ := HK.out.added HC.out (k := q) (by have := Hm.out; omega) He.out hrm2
                        rcases hidx with ⟨rfl, hno⟩ | ⟨t, rfl, ht, hpt⟩
                        · exact absurd hq1 (hno q0 hq0)
                        · obtain ⟨e1, e2⟩ := hsame t ht hpt
                          obtain ⟨bz, oz, hz, hcz⟩ := row3_at R7'.out (k := t) ht
                          subst hz
                          have z2 := cell_below hb hcz.2.1
                          have z3 := cell_below hb hcz.2.2
                          have n1 : (pfr K t != cfr C q) = false := by simpa using e1
                          have n2 : (pln K t != cln C q) = false := by simpa using e2
                          clear hcz hpt e1 e2 hq1 hsame
                          go_wp2
                          go_quiet (fail)
                          go_wp2
                          go_roundw
                          case rel => exact ⟨q + 1, by omega, by go_num, below_drewN hb _⟩
                          case measure => simp [intOf]; omega
                  · have hli : decide ((q : Int) + 1 < (m : Int)) = false := decide_eq_false (by omega)
                    have He : Hid (q + 1 < C.length → cid C (q + 1) ≠ cid C q) := fun h => absurd h (by have := Hm.out; omega)
                    go_wp2
                    go_quiet (fail)
                    have key2 : Below w8.heap.size w8 (wy.drewN nq) ∧ (wy.drewN nq).cell? ⟨wr.heap.size, 0, none⟩ = some (.int .i64 (cid C q)) ∧
                        (wy.drewN nq).cell? ⟨wr.heap.size, 1, none⟩ = some (.int .i64 (cfr C q)) ∧ (wy.drewN nq).cell? ⟨wr.heap.size, 2, none⟩ = some (.int .i64 (cln C q)) ∧ (wy.drewN nq).cell? ⟨wr.heap.size, 3, none⟩ = some (.bool (crm C q)) :=
                      ⟨below_drewN hb _, p1, p2, p3, p4⟩
                    generalize wy.drewN nq = wv at key2 ⊢
                    clear hb p1 p2 p3 p4
                    obtain ⟨hb, p1, p2, p3, p4⟩ := key2
                    go_wp2_with fail
                    refine (out_any z u K (cid C q) wv (by omega) HK.out.si (R7'.out.below hb)).mono ?_
                    rintro e w9 ⟨hidx, hw⟩
                    rw [hw]
                    clear hw w9
                    by_cases hrm : crm C q = true
                    · have hrem := HK.out.removed HC.out (k := q) (by have := Hm.out; omega) He.out hrm
                      rcases hidx with ⟨rfl, hno⟩ | ⟨t, rfl, ht, hpt⟩
                      · clear hno hrem
                        go_wp2
                        go_roundw
                        case rel => exact ⟨q + 1, by omega, by go_num, hb⟩
                        case measure => simp [intOf]; omega
                      · exact absurd hpt (hrem t ht)
                    · have hrm2 : crm C q = false := by simpa using hrm
                      clear hrm
                      obtain ⟨⟨q0, hq0, hq1⟩, hsame⟩ := HK.out.added HC.out (k := q) (by have := Hm.out; omega) He.out hrm2
                      rcases hidx with ⟨rfl, hno⟩ | ⟨t, rfl, ht, hpt⟩
                      · exact absurd hq1 (hno q0 hq0)
                      · obtain ⟨e1, e2⟩ := hsame t ht hpt
                        obtain ⟨bz, oz, hz, hcz⟩ := row3_at R7'.out (k := t) ht
                        subst hz
                        have z2 := cell_below hb hcz.2.1
                        have z3 := cell_below hb hcz.2.2
                        have n1 : (pfr K t != cfr C q) = false := by simpa using e1
                        have n2 : (pln K t != cln C q) = false := by simpa using e2
                        clear hcz hpt e1 e2 hq1 hsame
                        go_wp2
                        go_quiet (fail)
                        go_wp2
                        go_roundw
                        case rel => exact ⟨q + 1, by omega, by go_num, below_drewN hb _⟩
                        case measure => simp [intOf]; omega
                · obtain ⟨w10, hw10⟩ : ∃ w10 : World, w10 = wr := ⟨_, rfl⟩
                  subst hw10
                  have hbk2 := mkHid hb
                  clear hb hbk
                  go_wp2
                  go_loopw [16] (fun i wr => ∃ k : Nat, k ≤ K.length ∧ i = .int .i64 k ∧ Below w8.heap.size w8 wr) (fun i _ => K.length - (intOf i).toNat)
                  case atStart => exact ⟨0, by omega, rfl, hbk2.out⟩
                  case round =>
                    obtain ⟨t, ht, rfl, hb⟩ := hrel
                    by_cases hlt3 : t < K.length
                    · obtain ⟨bz, oz, hz, hcz⟩ := row3_at R7'.out (k := t) hlt3
                      subst hz
                      have z1 := cell_below hb hcz.1
                      clear hcz
                      go_wp2_with fail
                      rw [Hm.out]
                      refine (last_any b' d' C (pid K t) wr (by have := Hm.out; omega) HC.out (R4'.out.below hb)).mono ?_
                      rintro e w11 ⟨⟨i9, r, rfl, hch⟩, hw⟩
                      rw [hw, ← Hm.out]
                      clear hw w11
                      have Hch := mkHid hch
                      clear hch
                      go_wp2_with fail
                      rw [Hn.out]
                      refine (stored_any b d S (pid K t) wr (by have := Hn.out; omega) HS.out (R3'.out.below hb)).mono ?_
                      rintro e w11 ⟨hidx, hw⟩
                      rw [hw, ← Hn.out]
                      clear hw w11
                      cases r with
                      | true =>
                        rcases hidx with ⟨rfl, hno⟩ | ⟨t2, rfl, ht2, hpt2⟩
                        · clear hno
                          go_wp2
                          go_roundw
                          case rel => exact ⟨t + 1, by omega, by go_num, hb⟩
                          case measure => simp [intOf]; omega
                        · clear hpt2
                          go_wp2
                          go_roundw
                          case rel => exact ⟨t + 1, by omega, by go_num, hb⟩
                          case measure => simp [intOf]; omega
                      | false =>
                        rcases hidx with ⟨rfl, hno⟩ | ⟨t2, rfl, ht2, hpt2⟩
                        · exfalso
                          rcases HK.out.only hlt3 with h0 | ⟨t2, ht2, hpt2⟩
                          · have := Hch.out.2 h0; cases this
                          · exact hno t2 ht2 hpt2
                        · clear hpt2
                          go_wp2
                          go_roundw
                          case rel => exact ⟨t + 1, by omega, by go_num, hb⟩
                          case measure => simp [intOf]; omega
                    · go_wp2
                      go_ret
                      exact ⟨rfl, hb15.trans (hb.mono hb15.size)⟩
    · go_enter Trym.func8, Trym.ntmps8
      go_wp2_with fail
      refine (zz_yes a a' n c m c' _ h1).mono ?_
      rintro e w1 ⟨rfl, hw⟩
      rw [hw]
      clear hw w1
      go_wp2
      go_ret
      exact ⟨rfl, Below.refl _ _⟩
  · go_enter Trym.func8, Trym.ntmps8
    go_wp2_with fail
    refine (zz_no a a' n c m c' _ (by unfold maxLen; omega) (by unfold maxLen; omega) h1).mono ?_
    rintro e w1 ⟨rfl, hw⟩
    rw [hw]
    clear hw w1
    go_wp2
    go_ret
    exact ⟨rfl, Below.refl _ _⟩

end Go.Proofs.Qxb6000465aMods
