import Derived.Test.Qxb6000465aModsBase
namespace Go.Proofs.Qxb6000465aMods
open Go.RowKit

def SI (P : List T3) : Prop := ∀ i j, i < j → j < P.length → pid P i < pid P j
def ND (C : List T4) : Prop := ∀ i j, i ≤ j → j < C.length → cid C i ≤ cid C j

theorem SI_of_step {P : List T3} (h : ∀ j, j + 1 < P.length → pid P j < pid P (j + 1)) : SI P := by
  intro i j hij
  induction j with
  | zero => omega
  | succ m ih =>
    intro hm
    rcases Nat.lt_or_eq_of_le (Nat.lt_succ_iff.1 hij) with h1 | rfl
    · have := ih h1 (by omega); have := h m hm; omega
    · exact h _ hm

theorem ND_of_step {C : List T4} (h : ∀ j, j + 1 < C.length → cid C j ≤ cid C (j + 1)) : ND C := by
  intro i j hij
  induction j with
  | zero => intro _; obtain rfl : i = 0 := by omega
            omega
  | succ m ih =>
    intro hm
    rcases Nat.lt_or_eq_of_le hij with h1 | rfl
    · have := ih (by omega) (by omega); have := h m hm; omega
    · omega

/-- zzBytes: the two lengths together are at most 2^20. -/
theorem zz_yes (a a' : Option Addr) (n c n' c' : Nat) (w : World) (h : n + n' ≤ 1048576) :
    Calls Trym.prog 22 #[.slice a n c, .slice a' n' c'] w fun e w' => e = .returned (.bool true) ∧ w' = w := by
  have h1 : n ≤ 1048576 := by omega
  have h2 : n' ≤ 1048576 := by omega
  go_enter Trym.func22, Trym.ntmps22
  go_wp2
  go_ret
  exact ⟨rfl, rfl⟩

theorem zz_no (a a' : Option Addr) (n c n' c' : Nat) (w : World) (hn : n ≤ maxLen) (hn' : n' ≤ maxLen) (h : ¬ n + n' ≤ 1048576) :
    Calls Trym.prog 22 #[.slice a n c, .slice a' n' c'] w fun e w' => e = .returned (.bool false) ∧ w' = w := by
  unfold maxLen at hn hn'
  by_cases h1 : n ≤ 1048576
  · by_cases h2 : n' ≤ 1048576
    · go_enter Trym.func22, Trym.ntmps22
      go_wp2
      go_ret
      exact ⟨rfl, rfl⟩
    · go_enter Trym.func22, Trym.ntmps22
      go_wp2
      go_ret
      exact ⟨rfl, rfl⟩
  · go_enter Trym.func22, Trym.ntmps22
    go_wp2
    go_ret
    exact ⟨rfl, rfl⟩

set_option maxHeartbeats 400000 in
theorem si_at (b off c : Nat) (P : List T3) (w : World) (n : Nat) (hn : n = P.length) (hP : n ≤ 1048576)
    (hc : ∀ k, k < n → w.cell? ⟨b, off + k * 3, none⟩ = some (.int .i64 (pid P k))) :
    Calls Trym.prog 23 #[.slice (some ⟨b, off, none⟩) n c] w fun e w' => (∃ r, e = .returned (.bool r) ∧ (r = true → SI P)) ∧ Below w.heap.size w w' := by
  have Hn : Hid (n = P.length) := hn
  clear hn
  go_enter Trym.func23, Trym.ntmps23
  go_wp2
  go_loopw [3] (fun i wr => ∃ k : Nat, 1 ≤ k ∧ k ≤ n + 1 ∧ i = .int .i64 k ∧ (∀ j, j + 1 < k → pid P j < pid P (j+1)) ∧ Below w.heap.size w wr) (fun i _ => n + 1 - (intOf i).toNat)
  case atStart => exact ⟨1, by omega, by omega, rfl, fun j hj => absurd hj (by omega), Below.refl _ _⟩
  case round =>
    obtain ⟨k, hk1, hk2, rfl, hinc, hb⟩ := hrel
    by_cases hlt : k < n
    · obtain ⟨m, rfl⟩ : ∃ m, k = m + 1 := ⟨k - 1, by omega⟩
      have c1 := cell_below hb (hc m (by omega))
      have c2 := cell_below hb (hc (m+1) (by omega))
      clear hc
      have Hinc : Hid (∀ j, j + 1 < m + 1 → pid P j < pid P (j+1)) := hinc
      clear hinc
      go_wp2
      go_quiet (fail)
      go_wp2
      · go_ret
        exact ⟨⟨false, rfl, fun h => by cases h⟩, below_drewN hb _⟩
      · have hx : pid P m < pid P (m + 1) := by assumption
        go_roundw
        case rel => exact ⟨m + 2, by omega, by omega, by go_num, fun j hj => (by rcases Nat.lt_or_eq_of_le (Nat.lt_succ_iff.1 hj) with h | h; exact Hinc.out j h; obtain rfl : j = m := by omega
                                                                                 exact hx), below_drewN hb _⟩
        case measure => simp [intOf]; omega
    · have Hinc : Hid (∀ j, j + 1 < k → pid P j < pid P (j+1)) := hinc
      clear hinc hc
      go_wp2
      go_ret
      exact ⟨⟨true, rfl, fun _ => SI_of_step fun j hj => Hinc.out j (by have := Hn.out; omega)⟩, hb⟩

/-- n = 0: whatever address. -/
theorem si_nil (a : Option Addr) (c : Nat) (w : World) :
    Calls Trym.prog 23 #[.slice a 0 c] w fun e w' => e = .returned (.bool true) ∧ w' = w := by
  go_enter Trym.func23, Trym.ntmps23
  go_wp2
  go_loop [3] (fun i => i = .int .i64 1) (fun _ => 0)
  case atStart => rfl
  case round =>
    subst hrel
    go_wp2
    go_ret
    exact ⟨rfl, rfl⟩

theorem si_any (a : Option Addr) (c : Nat) (P : List T3) (w : World) (hP : P.length ≤ 1048576) (hr : Row3 w a P) :
    Calls Trym.prog 23 #[.slice a P.length c] w fun e w' => (∃ r, e = .returned (.bool r) ∧ (r = true → SI P)) ∧ Below w.heap.size w w' := by
  rcases hr with h0 | ⟨b, off, rfl, hc⟩
  · rw [h0]
    refine (si_nil a c w).mono ?_
    rintro e w' ⟨rfl, rfl⟩
    exact ⟨⟨true, rfl, fun _ i j _ hj => absurd hj (by omega)⟩, Below.refl _ _⟩
  · exact si_at b off c P w _ rfl hP fun k hk => (hc k hk).1

set_option maxHeartbeats 400000 in
theorem nd_at (b off c : Nat) (P : List T4) (w : World) (n : Nat) (hn : n = P.length) (hP : n ≤ 1048576)
    (hc : ∀ k, k < n → w.cell? ⟨b, off + k * 4, none⟩ = some (.int .i64 (cid P k))) :
    Calls Trym.prog 24 #[.slice (some ⟨b, off, none⟩) n c] w fun e w' => (∃ r, e = .returned (.bool r) ∧ (r = true → ND P)) ∧ Below w.heap.size w w' := by
  have Hn : Hid (n = P.length) := hn
  clear hn
  go_enter Trym.func24, Trym.ntmps24
  go_wp2
  go_loopw [3] (fun i wr => ∃ k : Nat, 1 ≤ k ∧ k ≤ n + 1 ∧ i = .int .i64 k ∧ (∀ j, j + 1 < k → cid P j ≤ cid P (j+1)) ∧ Below w.heap.size w wr) (fun i _ => n + 1 - (intOf i).toNat)
  case atStart => exact ⟨1, by omega, by omega, rfl, fun j hj => absurd hj (by omega), Below.refl _ _⟩
  case round =>
    obtain ⟨k, hk1, hk2, rfl, hinc, hb⟩ := hrel
    by_cases hlt : k < n
    · obtain ⟨m, rfl⟩ : ∃ m, k = m + 1 := ⟨k - 1, by omega⟩
      have c1 := cell_below hb (hc m (by omega))
      have c2 := cell_below hb (hc (m+1) (by omega))
      clear hc
      have Hinc : Hid (∀ j, j + 1 < m + 1 → cid P j ≤ cid P (j+1)) := hinc
      clear hinc
      go_wp2
      go_quiet (fail)
      go_wp2
      · go_ret
        exact ⟨⟨false, rfl, fun h => by cases h⟩, below_drewN hb _⟩
      · have hx : cid P m ≤ cid P (m + 1) := by assumption
        go_roundw
        case rel => exact ⟨m + 2, by omega, by omega, by go_num, fun j hj => (by rcases Nat.lt_or_eq_of_le (Nat.lt_succ_iff.1 hj) with h | h; exact Hinc.out j h; obtain rfl : j = m := by omega
                                                                                 exact hx), below_drewN hb _⟩
        case measure => simp [intOf]; omega
    · have Hinc : Hid (∀ j, j + 1 < k → cid P j ≤ cid P (j+1)) := hinc
      clear hinc hc
      go_wp2
      go_ret
      exact ⟨⟨true, rfl, fun _ => ND_of_step fun j hj => Hinc.out j (by have := Hn.out; omega)⟩, hb⟩

theorem nd_nil (a : Option Addr) (c : Nat) (w : World) :
    Calls Trym.prog 24 #[.slice a 0 c] w fun e w' => e = .returned (.bool true) ∧ w' = w := by
  go_enter Trym.func24, Trym.ntmps24
  go_wp2
  go_loop [3] (fun i => i = .int .i64 1) (fun _ => 0)
  case atStart => rfl
  case round =>
    subst hrel
    go_wp2
    go_ret
    exact ⟨rfl, rfl⟩

theorem nd_any (a : Option Addr) (c : Nat) (P : List T4) (w : World) (hP : P.length ≤ 1048576) (hr : Row4 w a P) :
    Calls Trym.prog 24 #[.slice a P.length c] w fun e w' => (∃ r, e = .returned (.bool r) ∧ (r = true → ND P)) ∧ Below w.heap.size w w' := by
  rcases hr with h0 | ⟨b, off, rfl, hc⟩
  · rw [h0]
    refine (nd_nil a c w).mono ?_
    rintro e w' ⟨rfl, rfl⟩
    exact ⟨⟨true, rfl, fun _ i j h1 hj => absurd hj (by omega)⟩, Below.refl _ _⟩
  · exact nd_at b off c P w _ rfl hP fun k hk => (hc k hk).1

/-- The store's rows: in order, so it says yes. -/
theorem out_si_at (b off c : Nat) (P : List T3) (w : World) (n : Nat) (hP : n ≤ 4194304) (hs : ∀ j, j + 1 < n → pid P j < pid P (j + 1))
    (hc : ∀ k, k < n → w.cell? ⟨b, off + k * 3, none⟩ = some (.int .i64 (pid P k))) :
    Calls Trym.prog 30 #[.slice (some ⟨b, off, none⟩) n c] w fun e w' => e = .returned (.bool true) ∧ Below w.heap.size w w' := by
  go_enter Trym.func30, Trym.ntmps30
  go_wp2
  go_loopw [3] (fun i wr => ∃ k : Nat, 1 ≤ k ∧ k ≤ n + 1 ∧ i = .int .i64 k ∧ Below w.heap.size w wr) (fun i _ => n + 1 - (intOf i).toNat)
  case atStart => exact ⟨1, by omega, by omega, rfl, Below.refl _ _⟩
  case round =>
    obtain ⟨k, hk1, hk2, rfl, hb⟩ := hrel
    by_cases hlt : k < n
    · obtain ⟨m, rfl⟩ : ∃ m, k = m + 1 := ⟨k - 1, by omega⟩
      have c1 := cell_below hb (hc m (by omega))
      have c2 := cell_below hb (hc (m+1) (by omega))
      have hx := hs m hlt
      clear hc hs
      go_wp2
      go_quiet (fail)
      go_wp2
      go_roundw
      case rel => exact ⟨m + 2, by omega, by omega, by go_num, below_drewN hb _⟩
      case measure => simp [intOf]; omega
    · clear hc hs
      go_wp2
      go_ret
      exact ⟨rfl, hb⟩

theorem out_si_nil (a : Option Addr) (c : Nat) (w : World) :
    Calls Trym.prog 30 #[.slice a 0 c] w fun e w' => e = .returned (.bool true) ∧ w' = w := by
  go_enter Trym.func30, Trym.ntmps30
  go_wp2
  go_loop [3] (fun i => i = .int .i64 1) (fun _ => 0)
  case atStart => rfl
  case round =>
    subst hrel
    go_wp2
    go_ret
    exact ⟨rfl, rfl⟩

theorem out_si_any (a : Option Addr) (c : Nat) (P : List T3) (w : World) (hP : P.length ≤ 4194304) (hs : SI P) (hr : Row3 w a P) :
    Calls Trym.prog 30 #[.slice a P.length c] w fun e w' => e = .returned (.bool true) ∧ Below w.heap.size w w' := by
  rcases hr with h0 | ⟨b, off, rfl, hc⟩
  · rw [h0]
    refine (out_si_nil a c w).mono ?_
    rintro e w' ⟨rfl, rfl⟩
    exact ⟨rfl, Below.refl _ _⟩
  · exact out_si_at b off c P w _ hP (fun j hj => hs j (j+1) (by omega) hj) fun k hk => (hc k hk).1

end Go.Proofs.Qxb6000465aMods
