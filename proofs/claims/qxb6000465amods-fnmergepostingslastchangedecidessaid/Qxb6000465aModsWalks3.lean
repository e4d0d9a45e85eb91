import Derived.Test.Qxb6000465aModsMem
namespace Go.Proofs.Qxb6000465aMods
open Go.RowKit

/-- A slice of the postings P is handed back; nothing old has turned. -/
def Gives3 (P : List T3) (w : World) (e : Ending) (w' : World) : Prop := ∃ a c, e = .returned (.slice a P.length c) ∧ (a = none → c = 0) ∧ Row3 w' a P ∧ Below w.heap.size w w'
def Gives4 (C : List T4) (w : World) (e : Ending) (w' : World) : Prop := ∃ a c, e = .returned (.slice a C.length c) ∧ (a = none → c = 0) ∧ Row4 w' a C ∧ Below w.heap.size w w'

set_option maxHeartbeats 400000 in
theorem clone_at (x : Addr) (c : Nat) (P : List T3) (w : World) (n : Nat) (hn : n = P.length) (hP : n ≤ 1048576) (hr : Row3 w (some x) P) :
    Calls Trym.prog 25 #[.slice (some x) n c] w (Gives3 P w) := by
  have Hn : Hid (n = P.length) := hn
  have Hr : Hid (Row3 w (some x) P) := hr
  clear hn hr
  obtain ⟨i0, hi, hz0, hz1, hz2⟩ := info_parts info47
  have q33 : ∀ (w : World) (a : Option Addr) (n c n' c' : Nat), (binOp .eql 33 (.slice a n c) (.slice none n' c')).run Trym.prog w = .ok (.bool a.isNone) w := fun w a n c n' c' => Lib.run_eql_slice_nil w _ _ a n c n' c' Trym.underlying33
  go_enter Trym.func25, Trym.ntmps25
  go_wp2_with (at_make; refine wpList_make_full _ rfl _ _ 33 rfl w.heap.size 47 i0 _ 3 Trym.underlying33 hi hz0 hz1 _ _ _ _ n rfl rfl rfl rfl ?b2 ?b3 (Nat.le_refl _) ?_)
  case b2 => rw [hz2]; omega
  case b3 => unfold maxLen; omega
  intro w0 hown0 hgrow0
  go_wp2
  have hf0 := Filled.start (b := w.heap.size) hown0 rfl (cell3 P)
  have hb0 : Below w.heap.size w w0 := (Below.refl _ _).grown hgrow0 (Nat.le_refl _) (fun k h => by cases h)
  clear hown0 hgrow0
  go_loopw [4] (fun i wr => ∃ k : Nat, k ≤ n ∧ i = .int .i64 k ∧ Filled wr w.heap.size 47 (n * 3) (k * 3) (cell3 P) ∧ Below w.heap.size w wr) (fun i _ => n - (intOf i).toNat)
  case atStart => exact ⟨0, by omega, rfl, hf0, hb0⟩
  case round =>
    obtain ⟨k, hk, rfl, hf, hb⟩ := hrel
    by_cases hlt : k < n
    · obtain ⟨b, off, hx, hc⟩ : ∃ b off, x = ⟨b, off, none⟩ ∧ (w.cell? ⟨b, off + k * 3, none⟩ = some (.int .i64 (pid P k)) ∧
          w.cell? ⟨b, off + k * 3 + 1, none⟩ = some (.int .i64 (pfr P k)) ∧ w.cell? ⟨b, off + k * 3 + 2, none⟩ = some (.int .i64 (pln P k))) := by
        rcases Hr.out with h0 | ⟨b, off, hx, hc⟩
        · have := Hn.out; omega
        · exact ⟨b, off, Option.some.inj hx, hc k (by have := Hn.out; omega)⟩
      subst hx
      have c1 := cell_below hb hc.1
      have c2 := cell_below hb hc.2.1
      have c3 := cell_below hb hc.2.2
      obtain ⟨o1, d1⟩ := hf.old (j := k * 3) (by omega)
      obtain ⟨o2, d2⟩ := hf.old (j := k * 3 + 1) (by omega)
      obtain ⟨o3, d3⟩ := hf.old (j := k * 3 + 2) (by omega)
      have f1 := hf.frozen (k * 3)
      have f2 := hf.frozen (k * 3 + 1)
      have f3 := hf.frozen (k * 3 + 2)
      clear hc hf0
      go_wp2
      go_roundw
      case rel => exact ⟨k + 1, by omega, by go_num, hf.push3 (by omega), below_set3 hb (Nat.le_refl _) _ _ _ _ _ _⟩
      case measure => simp [intOf]; omega
    · obtain rfl : k = n := by omega
      go_wp2
      go_ret
      have e := Hn.out
      subst e
      exact ⟨_, _, rfl, fun h => (by cases h), hf.row3, hb⟩

theorem clone_nil (w : World) : Calls Trym.prog 25 #[.slice none 0 0] w fun e w' => e = .returned (.slice none 0 0) ∧ w' = w := by
  have q33 : ∀ (w : World) (a : Option Addr) (n c n' c' : Nat), (binOp .eql 33 (.slice a n c) (.slice none n' c')).run Trym.prog w = .ok (.bool a.isNone) w := fun w a n c n' c' => Lib.run_eql_slice_nil w _ _ a n c n' c' Trym.underlying33
  go_enter Trym.func25, Trym.ntmps25
  go_wp2
  go_ret
  exact ⟨rfl, rfl⟩

theorem clone_any (a : Option Addr) (c : Nat) (P : List T3) (w : World) (hP : P.length ≤ 1048576) (ha : a = none → c = 0) (hr : Row3 w a P) :
    Calls Trym.prog 25 #[.slice a P.length c] w (Gives3 P w) := by
  cases a with
  | some x => exact clone_at x c P w _ rfl hP hr
  | none =>
    have h0 : P.length = 0 := by rcases hr with h | ⟨b, off, h, _⟩; exact h; cases h
    rw [h0, ha rfl]
    refine (clone_nil w).mono ?_
    rintro e w' ⟨rfl, rfl⟩
    exact ⟨none, 0, by rw [h0], fun _ => rfl, hr, Below.refl _ _⟩

set_option maxHeartbeats 400000 in
theorem cloneC_at (x : Addr) (c : Nat) (P : List T4) (w : World) (n : Nat) (hn : n = P.length) (hP : n ≤ 1048576) (hr : Row4 w (some x) P) :
    Calls Trym.prog 26 #[.slice (some x) n c] w (Gives4 P w) := by
  have Hn : Hid (n = P.length) := hn
  have Hr : Hid (Row4 w (some x) P) := hr
  clear hn hr
  obtain ⟨i0, hi, hz0, hz1, hz2⟩ := info_parts info52
  have q34 : ∀ (w : World) (a : Option Addr) (n c n' c' : Nat), (binOp .eql 34 (.slice a n c) (.slice none n' c')).run Trym.prog w = .ok (.bool a.isNone) w := fun w a n c n' c' => Lib.run_eql_slice_nil w _ _ a n c n' c' Trym.underlying34
  go_enter Trym.func26, Trym.ntmps26
  go_wp2_with (at_make; refine wpList_make_full _ rfl _ _ 34 rfl w.heap.size 52 i0 _ 4 Trym.underlying34 hi hz0 hz1 _ _ _ _ n rfl rfl rfl rfl ?b2 ?b3 (Nat.le_refl _) ?_)
  case b2 => rw [hz2]; omega
  case b3 => unfold maxLen; omega
  intro w0 hown0 hgrow0
  go_wp2
  have hf0 := Filled.start (b := w.heap.size) hown0 rfl (cell4 P)
  have hb0 : Below w.heap.size w w0 := (Below.refl _ _).grown hgrow0 (Nat.le_refl _) (fun k h => by cases h)
  clear hown0 hgrow0
  go_loopw [4] (fun i wr => ∃ k : Nat, k ≤ n ∧ i = .int .i64 k ∧ Filled wr w.heap.size 52 (n * 4) (k * 4) (cell4 P) ∧ Below w.heap.size w wr) (fun i _ => n - (intOf i).toNat)
  case atStart => exact ⟨0, by omega, rfl, hf0, hb0⟩
  case round =>
    obtain ⟨k, hk, rfl, hf, hb⟩ := hrel
    by_cases hlt : k < n
    · obtain ⟨b, off, hx, hc⟩ : ∃ b off, x = ⟨b, off, none⟩ ∧ (w.cell? ⟨b, off + k * 4, none⟩ = some (.int .i64 (cid P k)) ∧
          w.cell? ⟨b, off + k * 4 + 1, none⟩ = some (.int .i64 (cfr P k)) ∧ w.cell? ⟨b, off + k * 4 + 2, none⟩ = some (.int .i64 (cln P k)) ∧ w.cell? ⟨b, off + k * 4 + 3, none⟩ = some (.bool (crm P k))) := by
        rcases Hr.out with h0 | ⟨b, off, hx, hc⟩
        · have := Hn.out; omega
        · exact ⟨b, off, Option.some.inj hx, hc k (by have := Hn.out; omega)⟩
      subst hx
      have c1 := cell_below hb hc.1
      have c2 := cell_below hb hc.2.1
      have c3 := cell_below hb hc.2.2.1
      have c4 := cell_below hb hc.2.2.2
      obtain ⟨o1, d1⟩ := hf.old (j := k * 4) (by omega)
      obtain ⟨o2, d2⟩ := hf.old (j := k * 4 + 1) (by omega)
      obtain ⟨o3, d3⟩ := hf.old (j := k * 4 + 2) (by omega)
      obtain ⟨o4, d4⟩ := hf.old (j := k * 4 + 3) (by omega)
      have f1 := hf.frozen (k * 4)
      have f2 := hf.frozen (k * 4 + 1)
      have f3 := hf.frozen (k * 4 + 2)
      have f4 := hf.frozen (k * 4 + 3)
      clear hc hf0
      go_wp2
      go_roundw
      case rel => exact ⟨k + 1, by omega, by go_num, hf.push4 (by omega), below_set4 hb (Nat.le_refl _) _ _ _ _ _ _ _ _⟩
      case measure => simp [intOf]; omega
    · obtain rfl : k = n := by omega
      go_wp2
      go_ret
      have e := Hn.out
      subst e
      exact ⟨_, _, rfl, fun h => (by cases h), hf.row4, hb⟩

theorem cloneC_nil (w : World) : Calls Trym.prog 26 #[.slice none 0 0] w fun e w' => e = .returned (.slice none 0 0) ∧ w' = w := by
  have q34 : ∀ (w : World) (a : Option Addr) (n c n' c' : Nat), (binOp .eql 34 (.slice a n c) (.slice none n' c')).run Trym.prog w = .ok (.bool a.isNone) w := fun w a n c n' c' => Lib.run_eql_slice_nil w _ _ a n c n' c' Trym.underlying34
  go_enter Trym.func26, Trym.ntmps26
  go_wp2
  go_ret
  exact ⟨rfl, rfl⟩

theorem cloneC_any (a : Option Addr) (c : Nat) (P : List T4) (w : World) (hP : P.length ≤ 1048576) (ha : a = none → c = 0) (hr : Row4 w a P) :
    Calls Trym.prog 26 #[.slice a P.length c] w (Gives4 P w) := by
  cases a with
  | some x => exact cloneC_at x c P w _ rfl hP hr
  | none =>
    have h0 : P.length = 0 := by rcases hr with h | ⟨b, off, h, _⟩; exact h; cases h
    rw [h0, ha rfl]
    refine (cloneC_nil w).mono ?_
    rintro e w' ⟨rfl, rfl⟩
    exact ⟨none, 0, by rw [h0], fun _ => rfl, hr, Below.refl _ _⟩

end Go.Proofs.Qxb6000465aMods
