import Derived.Test.Qxb6000465aModsWalks1
namespace Go.Proofs.Qxb6000465aMods
open Go.RowKit

/-- What lastChangeOf answers: some number, and whether the changes hold the id. -/
def LastOk (C : List T4) (x : Int) (e : Ending) : Prop :=
  ∃ (i : Int) (r : Bool), e = .returned (.tuple #[.int .i64 i, .bool r]) ∧ (r = true ↔ ∃ k, k < C.length ∧ cid C k = x)

/-- What outIndex and storedIndex answer. -/
def IndexOk (P : List T3) (x : Int) (e : Ending) : Prop :=
  (e = .returned (.tuple #[.int .i64 0, .bool false]) ∧ ∀ k, k < P.length → pid P k ≠ x) ∨
  ∃ k : Nat, e = .returned (.tuple #[.int .i64 k, .bool true]) ∧ k < P.length ∧ pid P k = x

set_option maxHeartbeats 400000 in
theorem last_at (b off c : Nat) (C : List T4) (x : Int) (w : World) (n : Nat) (hP : n ≤ 1048576) (hn : n = C.length) (hs : ND C)
    (hc : ∀ k, k < n → w.cell? ⟨b, off + k * 4, none⟩ = some (.int .i64 (cid C k))) :
    Calls Trym.prog 31 #[.slice (some ⟨b, off, none⟩) n c, .int .i64 x] w fun e w' => LastOk C x e ∧ w' = w := by
  have Hn : Hid (n = C.length) := hn
  have Hs : Hid (ND C) := hs
  clear hn hs
  go_enter Trym.func31, Trym.ntmps31
  go_wp2
  go_loop [6, 7] (fun lo hi => ∃ l h : Nat, l ≤ h ∧ h ≤ n ∧ lo = .int .i64 l ∧ hi = .int .i64 h ∧ (∀ j, j < l → cid C j ≤ x) ∧ (∀ j, h ≤ j → j < n → x < cid C j)) (fun lo hi => (intOf hi).toNat - (intOf lo).toNat)
  case atStart => exact ⟨0, n, by omega, by omega, rfl, rfl, fun j hj => absurd hj (by omega), fun j h1 h2 => absurd h2 (by omega)⟩
  case round =>
    obtain ⟨l, h, hlh, hhn, rfl, rfl, hlo, hhi⟩ := hrel
    have Hlo : Hid (∀ j, j < l → cid C j ≤ x) := hlo
    have Hhi : Hid (∀ j, h ≤ j → j < n → x < cid C j) := hhi
    clear hlo hhi
    by_cases hlt : l < h
    · have c1 := hc (l + (h - l) / 2) (by omega)
      clear hc
      go_wp2
      · have hx : cid C (l + (h - l) / 2) ≤ x := by assumption
        go_round
        case rel => exact ⟨l + (h - l) / 2 + 1, h, by omega, hhn, by go_num, rfl, fun j hj => Int.le_trans (Hs.out j _ (by omega) (by have := Hn.out; omega)) hx, Hhi.out⟩
        case measure => simp [intOf]; omega
      · have hx : x < cid C (l + (h - l) / 2) := by assumption
        go_round
        case rel => exact ⟨l, l + (h - l) / 2, by omega, by omega, rfl, by go_num, Hlo.out, fun j h1 h2 => Int.lt_of_lt_of_le hx (Hs.out _ j (by omega) (by have := Hn.out; omega))⟩
        case measure => simp [intOf]; omega
    · obtain rfl : l = h := by omega
      by_cases h0 : 0 < l
      · have c1 := hc (l - 1) (by omega)
        obtain ⟨m, rfl⟩ : ∃ m, l = m + 1 := ⟨l - 1, by omega⟩
        simp only [Nat.add_sub_cancel] at c1
        clear hc
        by_cases he : cid C m = x
        · have he' : (cid C m == x) = true := by simpa using he
          have He : Hid (cid C m = x) := he
          clear he
          go_wp2
          go_ret2
          exact ⟨⟨_, true, rfl, ⟨fun _ => ⟨m, by have := Hn.out; omega, He.out⟩, fun _ => rfl⟩⟩, rfl⟩
        · have he' : (cid C m == x) = false := by simpa using he
          have He : Hid (¬ cid C m = x) := he
          clear he
          go_wp2
          go_ret2
          refine ⟨⟨_, false, rfl, ⟨fun h => (by cases h), fun ⟨k, hk, hk2⟩ => ?_⟩⟩, rfl⟩
          exfalso
          by_cases hkm : k ≤ m
          · have h1 := Hs.out k m hkm (by have := Hn.out; omega)
            have h2 := Hlo.out m (by omega)
            exact He.out (by omega)
          · have := Hhi.out k (by omega) (by have := Hn.out; omega)
            omega
      · obtain rfl : l = 0 := by omega
        clear hc
        go_wp2
        go_ret2
        refine ⟨⟨_, false, rfl, ⟨fun h => (by cases h), fun ⟨k, hk, hk2⟩ => ?_⟩⟩, rfl⟩
        have := Hhi.out k (by omega) (by have := Hn.out; omega)
        omega

theorem last_nil (a : Option Addr) (c : Nat) (x : Int) (w : World) :
    Calls Trym.prog 31 #[.slice a 0 c, .int .i64 x] w fun e w' => e = .returned (.tuple #[.int .i64 0, .bool false]) ∧ w' = w := by
  go_enter Trym.func31, Trym.ntmps31
  go_wp2
  go_loop [6, 7] (fun lo hi => lo = .int .i64 0 ∧ hi = .int .i64 0) (fun _ _ => 0)
  case atStart => exact ⟨rfl, rfl⟩
  case round =>
    obtain ⟨rfl, rfl⟩ := hrel
    go_wp2
    go_ret2
    exact ⟨rfl, rfl⟩

theorem last_any (a : Option Addr) (c : Nat) (C : List T4) (x : Int) (w : World) (hP : C.length ≤ 1048576) (hs : ND C) (hr : Row4 w a C) :
    Calls Trym.prog 31 #[.slice a C.length c, .int .i64 x] w fun e w' => LastOk C x e ∧ w' = w := by
  rcases hr with h0 | ⟨b, off, rfl, hc⟩
  · rw [h0]
    refine (last_nil a c x w).mono ?_
    rintro e w' ⟨rfl, rfl⟩
    exact ⟨⟨0, false, rfl, ⟨fun h => (by cases h), fun ⟨k, hk, _⟩ => absurd hk (by omega)⟩⟩, rfl⟩
  · exact last_at b off c C x w _ hP rfl hs fun k hk => (hc k hk).1

set_option maxHeartbeats 400000 in
theorem out_at (b off c : Nat) (P : List T3) (x : Int) (w : World) (n : Nat) (hP : n ≤ 4194304) (hn : n = P.length) (hs : SI P)
    (hc : ∀ k, k < n → w.cell? ⟨b, off + k * 3, none⟩ = some (.int .i64 (pid P k))) :
    Calls Trym.prog 32 #[.slice (some ⟨b, off, none⟩) n c, .int .i64 x] w fun e w' => IndexOk P x e ∧ w' = w := by
  have Hn : Hid (n = P.length) := hn
  have Hs : Hid (SI P) := hs
  clear hn hs
  go_enter Trym.func32, Trym.ntmps32
  go_wp2
  go_loop [6, 7] (fun lo hi => ∃ l h : Nat, l ≤ h ∧ h ≤ n ∧ lo = .int .i64 l ∧ hi = .int .i64 h ∧ (∀ j, j < l → pid P j < x) ∧ (∀ j, h ≤ j → j < n → x ≤ pid P j)) (fun lo hi => (intOf hi).toNat - (intOf lo).toNat)
  case atStart => exact ⟨0, n, by omega, by omega, rfl, rfl, fun j hj => absurd hj (by omega), fun j h1 h2 => absurd h2 (by omega)⟩
  case round =>
    obtain ⟨l, h, hlh, hhn, rfl, rfl, hlo, hhi⟩ := hrel
    have Hlo : Hid (∀ j, j < l → pid P j < x) := hlo
    have Hhi : Hid (∀ j, h ≤ j → j < n → x ≤ pid P j) := hhi
    clear hlo hhi
    by_cases hlt : l < h
    · have c1 := hc (l + (h - l) / 2) (by omega)
      clear hc
      go_wp2
      · have hx : pid P (l + (h - l) / 2) < x := by assumption
        go_round
        case rel =>
          refine ⟨l + (h - l) / 2 + 1, h, by omega, hhn, by go_num, rfl, fun j hj => ?_, Hhi.out⟩
          rcases Nat.lt_or_eq_of_le (Nat.lt_succ_iff.1 hj) with h1 | rfl
          · exact Int.lt_trans (Hs.out j _ h1 (by have := Hn.out; omega)) hx
          · exact hx
        case measure => simp [intOf]; omega
      · have hx : x ≤ pid P (l + (h - l) / 2) := by assumption
        go_round
        case rel =>
          refine ⟨l, l + (h - l) / 2, by omega, by omega, rfl, by go_num, Hlo.out, fun j h1 h2 => ?_⟩
          rcases Nat.lt_or_eq_of_le h1 with h3 | rfl
          · exact Int.le_trans hx (Int.le_of_lt (Hs.out _ j h3 (by have := Hn.out; omega)))
          · exact hx
        case measure => simp [intOf]; omega
    · obtain rfl : l = h := by omega
      by_cases h0 : l < n
      · have c1 := hc l (by omega)
        clear hc
        by_cases he : pid P l = x
        · have he' : (pid P l == x) = true := by simpa using he
          have He : Hid (pid P l = x) := he
          clear he
          go_wp2
          go_ret2
          exact ⟨.inr ⟨l, rfl, by have := Hn.out; omega, He.out⟩, rfl⟩
        · have he' : (pid P l == x) = false := by simpa using he
          have He : Hid (¬ pid P l = x) := he
          clear he
          go_wp2
          go_ret2
          refine ⟨.inl ⟨rfl, fun k hk hk2 => ?_⟩, rfl⟩
          by_cases hkm : k < l
          · have h1 := Hlo.out k hkm
            omega
          · have h3 := Hhi.out l (by omega) h0
            rcases Nat.lt_or_eq_of_le (Nat.not_lt.1 hkm) with h4 | rfl
            · have := Hs.out l k h4 hk
              omega
            · exact He.out hk2
      · clear hc
        go_wp2
        go_ret2
        refine ⟨.inl ⟨rfl, fun k hk hk2 => ?_⟩, rfl⟩
        have h1 := Hlo.out k (by have := Hn.out; omega)
        omega

theorem out_nil (a : Option Addr) (c : Nat) (x : Int) (w : World) :
    Calls Trym.prog 32 #[.slice a 0 c, .int .i64 x] w fun e w' => e = .returned (.tuple #[.int .i64 0, .bool false]) ∧ w' = w := by
  go_enter Trym.func32, Trym.ntmps32
  go_wp2
  go_loop [6, 7] (fun lo hi => lo = .int .i64 0 ∧ hi = .int .i64 0) (fun _ _ => 0)
  case atStart => exact ⟨rfl, rfl⟩
  case round =>
    obtain ⟨rfl, rfl⟩ := hrel
    go_wp2
    go_ret2
    exact ⟨rfl, rfl⟩

theorem out_any (a : Option Addr) (c : Nat) (P : List T3) (x : Int) (w : World) (hP : P.length ≤ 4194304) (hs : SI P) (hr : Row3 w a P) :
    Calls Trym.prog 32 #[.slice a P.length c, .int .i64 x] w fun e w' => IndexOk P x e ∧ w' = w := by
  rcases hr with h0 | ⟨b, off, rfl, hc⟩
  · rw [h0]
    refine (out_nil a c x w).mono ?_
    rintro e w' ⟨rfl, rfl⟩
    exact ⟨.inl ⟨rfl, fun k hk => absurd hk (by omega)⟩, rfl⟩
  · exact out_at b off c P x w _ hP rfl hs fun k hk => (hc k hk).1

set_option maxHeartbeats 400000 in
theorem stored_at (b off c : Nat) (P : List T3) (x : Int) (w : World) (n : Nat) (hP : n ≤ 4194304) (hn : n = P.length) (hs : SI P)
    (hc : ∀ k, k < n → w.cell? ⟨b, off + k * 3, none⟩ = some (.int .i64 (pid P k))) :
    Calls Trym.prog 33 #[.slice (some ⟨b, off, none⟩) n c, .int .i64 x] w fun e w' => IndexOk P x e ∧ w' = w := by
  have Hn : Hid (n = P.length) := hn
  have Hs : Hid (SI P) := hs
  clear hn hs
  go_enter Trym.func33, Trym.ntmps33
  go_wp2
  go_loop [6, 7] (fun lo hi => ∃ l h : Nat, l ≤ h ∧ h ≤ n ∧ lo = .int .i64 l ∧ hi = .int .i64 h ∧ (∀ j, j < l → pid P j < x) ∧ (∀ j, h ≤ j → j < n → x ≤ pid P j)) (fun lo hi => (intOf hi).toNat - (intOf lo).toNat)
  case atStart => exact ⟨0, n, by omega, by omega, rfl, rfl, fun j hj => absurd hj (by omega), fun j h1 h2 => absurd h2 (by omega)⟩
  case round =>
    obtain ⟨l, h, hlh, hhn, rfl, rfl, hlo, hhi⟩ := hrel
    have Hlo : Hid (∀ j, j < l → pid P j < x) := hlo
    have Hhi : Hid (∀ j, h ≤ j → j < n → x ≤ pid P j) := hhi
    clear hlo hhi
    by_cases hlt : l < h
    · have c1 := hc (l + (h - l) / 2) (by omega)
      clear hc
      go_wp2
      · have hx : pid P (l + (h - l) / 2) < x := by assumption
        go_round
        case rel =>
          refine ⟨l + (h - l) / 2 + 1, h, by omega, hhn, by go_num, rfl, fun j hj => ?_, Hhi.out⟩
          rcases Nat.lt_or_eq_of_le (Nat.lt_succ_iff.1 hj) with h1 | rfl
          · exact Int.lt_trans (Hs.out j _ h1 (by have := Hn.out; omega)) hx
          · exact hx
        case measure => simp [intOf]; omega
      · have hx : x ≤ pid P (l + (h - l) / 2) := by assumption
        go_round
        case rel =>
          refine ⟨l, l + (h - l) / 2, by omega, by omega, rfl, by go_num, Hlo.out, fun j h1 h2 => ?_⟩
          rcases Nat.lt_or_eq_of_le h1 with h3 | rfl
          · exact Int.le_trans hx (Int.le_of_lt (Hs.out _ j h3 (by have := Hn.out; omega)))
          · exact hx
        case measure => simp [intOf]; omega
    · obtain rfl : l = h := by omega
      by_cases h0 : l < n
      · have c1 := hc l (by omega)
        clear hc
        by_cases he : pid P l = x
        · have he' : (pid P l == x) = true := by simpa using he
          have He : Hid (pid P l = x) := he
          clear he
          go_wp2
          go_ret2
          exact ⟨.inr ⟨l, rfl, by have := Hn.out; omega, He.out⟩, rfl⟩
        · have he' : (pid P l == x) = false := by simpa using he
          have He : Hid (¬ pid P l = x) := he
          clear he
          go_wp2
          go_ret2
          refine ⟨.inl ⟨rfl, fun k hk hk2 => ?_⟩, rfl⟩
          by_cases hkm : k < l
          · have h1 := Hlo.out k hkm
            omega
          · have h3 := Hhi.out l (by omega) h0
            rcases Nat.lt_or_eq_of_le (Nat.not_lt.1 hkm) with h4 | rfl
            · have := Hs.out l k h4 hk
              omega
            · exact He.out hk2
      · clear hc
        go_wp2
        go_ret2
        refine ⟨.inl ⟨rfl, fun k hk hk2 => ?_⟩, rfl⟩
        have h1 := Hlo.out k (by have := Hn.out; omega)
        omega

theorem stored_nil (a : Option Addr) (c : Nat) (x : Int) (w : World) :
    Calls Trym.prog 33 #[.slice a 0 c, .int .i64 x] w fun e w' => e = .returned (.tuple #[.int .i64 0, .bool false]) ∧ w' = w := by
  go_enter Trym.func33, Trym.ntmps33
  go_wp2
  go_loop [6, 7] (fun lo hi => lo = .int .i64 0 ∧ hi = .int .i64 0) (fun _ _ => 0)
  case atStart => exact ⟨rfl, rfl⟩
  case round =>
    obtain ⟨rfl, rfl⟩ := hrel
    go_wp2
    go_ret2
    exact ⟨rfl, rfl⟩

theorem stored_any (a : Option Addr) (c : Nat) (P : List T3) (x : Int) (w : World) (hP : P.length ≤ 4194304) (hs : SI P) (hr : Row3 w a P) :
    Calls Trym.prog 33 #[.slice a P.length c, .int .i64 x] w fun e w' => IndexOk P x e ∧ w' = w := by
  rcases hr with h0 | ⟨b, off, rfl, hc⟩
  · rw [h0]
    refine (stored_nil a c x w).mono ?_
    rintro e w' ⟨rfl, rfl⟩
    exact ⟨.inl ⟨rfl, fun k hk => absurd hk (by omega)⟩, rfl⟩
  · exact stored_at b off c P x w _ hP rfl hs fun k hk => (hc k hk).1

end Go.Proofs.Qxb6000465aMods
