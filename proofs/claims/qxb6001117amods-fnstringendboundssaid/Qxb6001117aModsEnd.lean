import Derived.Test.Qxb6001117aModsBase
namespace Go.Proofs.Qxb6001117aMods
open Go.RowKit

/-- Where the string may end. -/
def EndOk (D : Nat → Int) (n off : Nat) (e : Ending) : Prop := ∃ r : Nat, e = .returned (.int .i64 r) ∧ off < r ∧ r ≤ n ∧ (r < n → off + 2 ≤ r ∧ ∃ k, r = k + 1 ∧ D k = D off)

theorem new3 (w : World) (q : Int) : ∀ i, i < 3 → (w.alloc (.cells #[.int .u8 q, .int .u8 q, .int .u8 q] 5)).cell? ⟨w.heap.size, 0 + i, none⟩ = some (.int .u8 ([q, q, q].getD i 0)) := by
  intro i hi
  match i, hi with
  | 0, _ => simp
  | 1, _ => simp
  | 2, _ => simp

set_option maxHeartbeats 400000 in
set_option maxRecDepth 100000 in
theorem end_at (b o n c off : Nat) (D : Nat → Int) (w : World) (hn : n ≤ 1048576) (hnc : n ≤ c) (ho : off < n) (hD : ∀ k, 0 ≤ D k ∧ D k < 256) (hc : ∀ i, i < n → w.cell? ⟨b, o + i, none⟩ = some (.int .u8 (D i))) :
    Calls Trym.prog 21 #[.slice (some ⟨b, o, none⟩) n c, .int .i64 off] w fun e w' => EndOk D n off e ∧ Below w.heap.size w w' := by
  have HD := mkHid hD
  have HC := mkHid hc
  have c0 := hc off ho
  clear hD hc
  go_enter Trym.func21, Trym.ntmps21
  go_wp2_with fail
  have key : Hid (∀ i, i < n → (w.alloc (.cells #[.int .u8 (D off), .int .u8 (D off), .int .u8 (D off)] 5)).cell? ⟨b, o + i, none⟩ = some (.int .u8 (D i))) ∧ Hid (∀ i, i < 3 → (w.alloc (.cells #[.int .u8 (D off), .int .u8 (D off), .int .u8 (D off)] 5)).cell? ⟨w.heap.size, 0 + i, none⟩ = some (.int .u8 ([D off, D off, D off].getD i 0))) ∧
      Below w.heap.size w (w.alloc (.cells #[.int .u8 (D off), .int .u8 (D off), .int .u8 (D off)] 5)) :=
    ⟨fun i hi => cell_below ((Below.refl _ _).alloc (Nat.le_refl _) _) (HC.out i hi), new3 w _, (Below.refl _ _).alloc (Nat.le_refl _) _⟩
  generalize (w.alloc (.cells #[.int .u8 (D off), .int .u8 (D off), .int .u8 (D off)] 5)) = w1 at key ⊢
  clear HC c0
  obtain ⟨HC, HQ, hb⟩ := key
  refine (prefix3 b (o + off) (n - off) (c - off) w.heap.size (fun k => D (off + k)) (D off) w1 (by omega) (by omega) (fun k => HD.out _) (HD.out _) (fun i hi => by rw [Nat.add_assoc]; exact HC.out _ (by omega)) HQ.out).mono ?_
  rintro e w2 ⟨⟨r, rfl, hr⟩, hw⟩
  rw [hw]
  clear hw hr w2
  cases r with
  | false =>
    go_wp2
    go_loop [8] (fun i => ∃ k : Nat, off < k ∧ k ≤ n + 1 ∧ i = .int .i64 k) (fun i => n + 1 - (intOf i).toNat)
    case atStart => exact ⟨off + 1, by omega, by omega, by go_num⟩
    case round =>
      obtain ⟨k, hk1, hk2, rfl⟩ := hrel
      by_cases hlt : k < n
      · have ck := HC.out k hlt
        by_cases hq : D k = D off
        · have hq' : (D k == D off) = true := by simpa using hq
          have Hq := mkHid hq
          clear hq
          go_wp2
          go_ret
          exact ⟨⟨k + 1, by go_num, by omega, by omega, fun _ => ⟨by omega, k, rfl, Hq.out⟩⟩, hb⟩
        · have hq' : (D k == D off) = false := by simpa using hq
          clear hq
          go_wp2
          all_goals
            go_round
            case rel => first | exact ⟨k + 1, by omega, by omega, by go_num⟩ | exact ⟨k + 2, by omega, by omega, by go_num⟩
            case measure => simp [intOf]; omega
      · go_wp2
        go_ret
        exact ⟨⟨n, rfl, by omega, by omega, fun h => absurd h (by omega)⟩, hb⟩
  | true =>
    go_wp2
    go_loop [9] (fun i => ∃ k : Nat, off + 3 ≤ k ∧ k ≤ n + 2 ∧ i = .int .i64 k) (fun i => n + 2 - (intOf i).toNat)
    case atStart => exact ⟨off + 3, by omega, by omega, by go_num⟩
    case round =>
      obtain ⟨k, hk1, hk2, rfl⟩ := hrel
      by_cases hlt : k < n
      · have ck := HC.out k hlt
        go_wp2_with fail
        refine (prefix3 b (o + k) (n - k) (c - k) w.heap.size (fun t => D (k + t)) (D off) w1 (by omega) (by omega) (fun t => HD.out _) (HD.out _) (fun i hi => by rw [Nat.add_assoc]; exact HC.out _ (by omega)) HQ.out).mono ?_
        rintro e w2 ⟨⟨r, rfl, hr⟩, hw⟩
        rw [hw]
        clear hw w2
        cases r with
        | true =>
          obtain ⟨h3, hq⟩ := hr rfl
          have Hq := mkHid hq
          clear hq hr
          have h3' : k + 3 ≤ n := by omega
          go_wp2
          go_loop [10, 11] (fun e t => ∃ x y : Nat, k + 3 ≤ x ∧ x ≤ n ∧ y ≤ 2 ∧ e = .int .i64 x ∧ t = .int .i64 y ∧ Hid (∃ z, x = z + 1 ∧ D z = D off)) (fun _ t => 2 - (intOf t).toNat)
          case atStart => exact ⟨k + 3, 0, by omega, by omega, by omega, by go_num, rfl, k + 2, rfl, Hq.out⟩
          case round =>
            obtain ⟨x, y, hx1, hx2, hy, rfl, rfl, hz⟩ := hrel
            by_cases hy2 : y < 2
            · by_cases hxn : x < n
              · have cx := HC.out x hxn
                by_cases hqx : D x = D off
                · have hq' : (D x == D off) = true := by simpa using hqx
                  have Hqx := mkHid hqx
                  clear hqx
                  go_wp2
                  go_round
                  case rel => exact ⟨x + 1, y + 1, by omega, by omega, by omega, by go_num, by go_num, x, rfl, Hqx.out⟩
                  case measure => simp [intOf]; omega
                · have hq' : (D x == D off) = false := by simpa using hqx
                  clear hqx
                  go_wp2
                  go_ret
                  exact ⟨⟨x, rfl, by omega, hx2, fun _ => ⟨by omega, hz.out⟩⟩, hb⟩
              · go_wp2
                go_ret
                exact ⟨⟨x, rfl, by omega, hx2, fun _ => ⟨by omega, hz.out⟩⟩, hb⟩
            · go_wp2
              go_ret
              exact ⟨⟨x, rfl, by omega, hx2, fun _ => ⟨by omega, hz.out⟩⟩, hb⟩
        | false =>
          clear hr
          go_wp2
          all_goals
            go_round
            case rel => first | exact ⟨k + 1, by omega, by omega, by go_num⟩ | exact ⟨k + 2, by omega, by omega, by go_num⟩
            case measure => simp [intOf]; omega
      · go_wp2
        go_ret
        exact ⟨⟨n, rfl, by omega, by omega, fun h => absurd h (by omega)⟩, hb⟩
end Go.Proofs.Qxb6001117aMods
