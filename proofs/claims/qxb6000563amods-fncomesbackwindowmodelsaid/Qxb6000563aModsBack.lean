/-
  DERIVED. comesBack walked: at each of the six places of the ring; ZZComesBack hands its answer on.
-/
import Derived.Test.Qxb6000563aModsBase
namespace Go.Proofs.Qxb6000563aMods
open Go.RowKit

def upd (A : Nat → Bool) (r : Nat) (x : Bool) : Nat → Bool := fun s => if s = r then x else A s
def bn (x : Bool) : Nat := if x then 1 else 0
def cnt6 (A : Nat → Bool) : Nat := bn (A 0) + bn (A 1) + bn (A 2) + bn (A 3) + bn (A 4) + bn (A 5)

theorem Cache.cells {w : World} {B : Nat} {dv : Value} {A : Nat → Bool} {nx : Nat} (h : Cache w B dv A nx) :
    w.cell? ⟨B, 2, none⟩ = some dv ∧ w.cell? ⟨B, 3, none⟩ = some (.bool (A 0)) ∧ w.cell? ⟨B, 4, none⟩ = some (.bool (A 1)) ∧ w.cell? ⟨B, 5, none⟩ = some (.bool (A 2)) ∧ w.cell? ⟨B, 6, none⟩ = some (.bool (A 3)) ∧
    w.cell? ⟨B, 7, none⟩ = some (.bool (A 4)) ∧ w.cell? ⟨B, 8, none⟩ = some (.bool (A 5)) ∧ w.cell? ⟨B, 9, none⟩ = some (.int .i64 nx) := by
  unfold Cache at h
  refine ⟨?_, ?_, ?_, ?_, ?_, ?_, ?_, ?_⟩ <;> simp [World.cell?, h]

theorem Cache.frozen {w : World} {B : Nat} {dv : Value} {A : Nat → Bool} {nx : Nat} (h : Cache w B dv A nx) (j : Nat) : w.frozen? ⟨B, j, none⟩ = false := by
  unfold Cache at h
  simp [World.frozen?, h]

/-- How many of the first k are true. -/
def pre (l : List Bool) (k : Nat) : Nat := ((l.take k).map bn).sum

theorem pre_le (l : List Bool) (k : Nat) : pre l k ≤ k := by
  unfold pre
  induction l generalizing k with
  | nil => simp
  | cons x l ih =>
    cases k with
    | zero => simp
    | succ k =>
      have := ih k
      have hb : bn x ≤ 1 := by unfold bn; split <;> omega
      simp only [List.take_succ_cons, List.map_cons, List.sum_cons]
      omega

theorem six {k : Nat} (h : k ≤ 6) : k = 0 ∨ k = 1 ∨ k = 2 ∨ k = 3 ∨ k = 4 ∨ k = 5 ∨ k = 6 := by omega

/-- What comesBack answers and leaves. -/
def BackOk (x : Bool) (A : Nat → Bool) (r B : Nat) (dv : Value) (w : World) (e : Ending) (w' : World) : Prop :=
  e = .returned (.bool (x && decide (6 < 2 * cnt6 (upd A r x)))) ∧ Cache w' B dv (upd A r x) ((r + 1) % 6) ∧ Below B w w'

theorem pre_step (l : List Bool) (k : Nat) {y : Bool} (hy : y = true) (h : l[k]? = some y) : pre l (k + 1) = pre l k + 1 := by
  unfold pre
  subst hy
  rw [List.take_add_one, h]
  simp [bn]

theorem pre_skip (l : List Bool) (k : Nat) {y : Bool} (hy : y = false) (h : l[k]? = some y) : pre l (k + 1) = pre l k := by
  unfold pre
  subst hy
  rw [List.take_add_one, h]
  simp [bn]

theorem below_two (w : World) (B i j : Nat) (x y : Value) : Below B w (((w.setCell ⟨B, i, none⟩ x).setCell ⟨B, j, none⟩ y).drew) :=
  (((Below.refl B w).setCell (p := ⟨B, i, none⟩) (Nat.le_refl _) x).setCell (p := ⟨B, j, none⟩) (Nat.le_refl _) y).drew

theorem idx0 (y0 y1 y2 y3 y4 y5 : Bool) (w : World) : (Instr.index 37 (.agg #[.bool y0, .bool y1, .bool y2, .bool y3, .bool y4, .bool y5]) (.int .i64 0)).run Trym.prog w = .ok (.bool y0) w := by kernel_rfl
theorem idx1 (y0 y1 y2 y3 y4 y5 : Bool) (w : World) : (Instr.index 37 (.agg #[.bool y0, .bool y1, .bool y2, .bool y3, .bool y4, .bool y5]) (.int .i64 1)).run Trym.prog w = .ok (.bool y1) w := by kernel_rfl
theorem idx2 (y0 y1 y2 y3 y4 y5 : Bool) (w : World) : (Instr.index 37 (.agg #[.bool y0, .bool y1, .bool y2, .bool y3, .bool y4, .bool y5]) (.int .i64 2)).run Trym.prog w = .ok (.bool y2) w := by kernel_rfl
theorem idx3 (y0 y1 y2 y3 y4 y5 : Bool) (w : World) : (Instr.index 37 (.agg #[.bool y0, .bool y1, .bool y2, .bool y3, .bool y4, .bool y5]) (.int .i64 3)).run Trym.prog w = .ok (.bool y3) w := by kernel_rfl
theorem idx4 (y0 y1 y2 y3 y4 y5 : Bool) (w : World) : (Instr.index 37 (.agg #[.bool y0, .bool y1, .bool y2, .bool y3, .bool y4, .bool y5]) (.int .i64 4)).run Trym.prog w = .ok (.bool y4) w := by kernel_rfl
theorem idx5 (y0 y1 y2 y3 y4 y5 : Bool) (w : World) : (Instr.index 37 (.agg #[.bool y0, .bool y1, .bool y2, .bool y3, .bool y4, .bool y5]) (.int .i64 5)).run Trym.prog w = .ok (.bool y5) w := by kernel_rfl

theorem back_end {m k : Nat} (h : m = k) : Ending.returned (.bool (decide ((6 : Int) < 2 * (m : Int)))) = .returned (.bool (true && decide (6 < 2 * k))) := by
  subst h
  have : decide ((6 : Int) < 2 * (m : Int)) = decide (6 < 2 * m) := decide_eq_decide.2 (by omega)
  rw [this, Bool.true_and]

theorem Cache.store0 {w : World} {B : Nat} {dv : Value} {A : Nat → Bool} (h : Cache w B dv A 0) (x : Bool) :
    Cache (((w.setCell ⟨B, 3, none⟩ (.bool x)).setCell ⟨B, 9, none⟩ (.int .i64 1)).drew) B dv (upd A 0 x) 1 := by
  unfold Cache at h ⊢
  show ((w.setCell ⟨B, 3, none⟩ (.bool x)).setCell ⟨B, 9, none⟩ (.int .i64 1)).heap[B]? = _
  simp [World.setCell, Array.getElem?_modify, h, upd]

set_option maxHeartbeats 800000 in
theorem back0 (B : Nat) (a : Option Addr) (c n : Nat) (f : Nat → Int) (A : Nat → Bool) (id : Int) (x : Bool) (w : World) (hN : n ≤ 1048576) (hr : Row1 w a n f) (hx : inD f n id = x) (hc : Cache w B (.slice a n c) A 0) :
    Calls Trym.prog 32 #[.pointer (some ⟨B, 0, none⟩), .int .i64 id] w (BackOk x A 0 B (.slice a n c) w) := by
  obtain ⟨c2, c3, c4, c5, c6, c7, c8, c9⟩ := hc.cells
  have fz := hc.frozen
  have e0 := slices_contains a c n f id w hN hr
  rw [hx] at e0
  have E := mkHid e0
  have HC := mkHid hc
  clear hr hc hx e0
  go_enter Trym.func32, Trym.ntmps32
  go_wp2_with fail
  refine E.out.mono ?_
  rintro e w1 ⟨rfl, hw⟩
  rw [hw]
  clear hw w1
  go_wp2
  go_region
  go_wp2
  have key : Cache (((w.setCell ⟨B, 3, none⟩ (.bool x)).setCell ⟨B, 9, none⟩ (.int .i64 1)).drew) B (.slice a n c) (upd A 0 x) 1 ∧ Below B w (((w.setCell ⟨B, 3, none⟩ (.bool x)).setCell ⟨B, 9, none⟩ (.int .i64 1)).drew) :=
    ⟨HC.out.store0 x, below_two w B _ _ _ _⟩
  generalize (((w.setCell ⟨B, 3, none⟩ (.bool x)).setCell ⟨B, 9, none⟩ (.int .i64 1)).drew) = w2 at key ⊢
  obtain ⟨hc2, hb⟩ := key
  have HC2 := mkHid hc2
  clear hc2 c2 c3 c4 c5 c6 c7 c8 c9 fz HC E
  have HP := mkHid (show pre [x, A 1, A 2, A 3, A 4, A 5] 6 = cnt6 (upd A 0 x) by simp [pre, cnt6, upd, Nat.add_assoc])
  generalize A 1 = y1 at HP ⊢
  generalize A 2 = y2 at HP ⊢
  generalize A 3 = y3 at HP ⊢
  generalize A 4 = y4 at HP ⊢
  generalize A 5 = y5 at HP ⊢
  go_loop [6, 37] (fun t i => ∃ k : Nat, k ≤ 6 ∧ i = .int .i64 k ∧ t = .int .i64 (pre [x, y1, y2, y3, y4, y5] k)) (fun _ i => 6 - (intOf i).toNat)
  case atStart => exact ⟨0, by omega, rfl, rfl⟩
  case round =>
    obtain ⟨k, hk, rfl, rfl⟩ := hrel
    have hp := pre_le [x, y1, y2, y3, y4, y5] k
    rcases six hk with rfl | rfl | rfl | rfl | rfl | rfl | rfl
    · cases x with
      | true =>
        have hi := fun w => idx0 true y1 y2 y3 y4 y5 w
        have hs := mkHid (pre_step [true, y1, y2, y3, y4, y5] 0 rfl rfl)
        go_wp2
        go_round
        case rel => exact ⟨1, by omega, rfl, by rw [hs.out]; go_num⟩
        case measure => simp [intOf]
      | false =>
        have hi := fun w => idx0 false y1 y2 y3 y4 y5 w
        have hs := mkHid (pre_skip [false, y1, y2, y3, y4, y5] 0 rfl rfl)
        go_wp2
        go_round
        case rel => exact ⟨1, by omega, rfl, by rw [hs.out]⟩
        case measure => simp [intOf]
    · cases y1 with
      | true =>
        have hi := fun w => idx1 x true y2 y3 y4 y5 w
        have hs := mkHid (pre_step [x, true, y2, y3, y4, y5] 1 rfl rfl)
        go_wp2
        go_round
        case rel => exact ⟨2, by omega, rfl, by rw [hs.out]; go_num⟩
        case measure => simp [intOf]
      | false =>
        have hi := fun w => idx1 x false y2 y3 y4 y5 w
        have hs := mkHid (pre_skip [x, false, y2, y3, y4, y5] 1 rfl rfl)
        go_wp2
        go_round
        case rel => exact ⟨2, by omega, rfl, by rw [hs.out]⟩
        case measure => simp [intOf]
    · cases y2 with
      | true =>
        have hi := fun w => idx2 x y1 true y3 y4 y5 w
        have hs := mkHid (pre_step [x, y1, true, y3, y4, y5] 2 rfl rfl)
        go_wp2
        go_round
        case rel => exact ⟨3, by omega, rfl, by rw [hs.out]; go_num⟩
        case measure => simp [intOf]
      | false =>
        have hi := fun w => idx2 x y1 false y3 y4 y5 w
        have hs := mkHid (pre_skip [x, y1, false, y3, y4, y5] 2 rfl rfl)
        go_wp2
        go_round
        case rel => exact ⟨3, by omega, rfl, by rw [hs.out]⟩
        case measure => simp [intOf]
    · cases y3 with
      | true =>
        have hi := fun w => idx3 x y1 y2 true y4 y5 w
        have hs := mkHid (pre_step [x, y1, y2, true, y4, y5] 3 rfl rfl)
        go_wp2
        go_round
        case rel => exact ⟨4, by omega, rfl, by rw [hs.out]; go_num⟩
        case measure => simp [intOf]
      | false =>
        have hi := fun w => idx3 x y1 y2 false y4 y5 w
        have hs := mkHid (pre_skip [x, y1, y2, false, y4, y5] 3 rfl rfl)
        go_wp2
        go_round
        case rel => exact ⟨4, by omega, rfl, by rw [hs.out]⟩
        case measure => simp [intOf]
    · cases y4 with
      | true =>
        have hi := fun w => idx4 x y1 y2 y3 true y5 w
        have hs := mkHid (pre_step [x, y1, y2, y3, true, y5] 4 rfl rfl)
        go_wp2
        go_round
        case rel => exact ⟨5, by omega, rfl, by rw [hs.out]; go_num⟩
        case measure => simp [intOf]
      | false =>
        have hi := fun w => idx4 x y1 y2 y3 false y5 w
        have hs := mkHid (pre_skip [x, y1, y2, y3, false, y5] 4 rfl rfl)
        go_wp2
        go_round
        case rel => exact ⟨5, by omega, rfl, by rw [hs.out]⟩
        case measure => simp [intOf]
    · cases y5 with
      | true =>
        have hi := fun w => idx5 x y1 y2 y3 y4 true w
        have hs := mkHid (pre_step [x, y1, y2, y3, y4, true] 5 rfl rfl)
        go_wp2
        go_round
        case rel => exact ⟨6, by omega, rfl, by rw [hs.out]; go_num⟩
        case measure => simp [intOf]
      | false =>
        have hi := fun w => idx5 x y1 y2 y3 y4 false w
        have hs := mkHid (pre_skip [x, y1, y2, y3, y4, false] 5 rfl rfl)
        go_wp2
        go_round
        case rel => exact ⟨6, by omega, rfl, by rw [hs.out]⟩
        case measure => simp [intOf]
    · generalize pre [x, y1, y2, y3, y4, y5] 6 = C6 at hp HP ⊢
      cases x with
      | true =>
        go_wp2
        go_ret
        exact ⟨back_end HP.out, HC2.out, hb⟩
      | false =>
        go_wp2
        go_ret
        exact ⟨rfl, HC2.out, hb⟩

theorem Cache.store1 {w : World} {B : Nat} {dv : Value} {A : Nat → Bool} (h : Cache w B dv A 1) (x : Bool) :
    Cache (((w.setCell ⟨B, 4, none⟩ (.bool x)).setCell ⟨B, 9, none⟩ (.int .i64 2)).drew) B dv (upd A 1 x) 2 := by
  unfold Cache at h ⊢
  show ((w.setCell ⟨B, 4, none⟩ (.bool x)).setCell ⟨B, 9, none⟩ (.int .i64 2)).heap[B]? = _
  simp [World.setCell, Array.getElem?_modify, h, upd]

set_option maxHeartbeats 800000 in
theorem back1 (B : Nat) (a : Option Addr) (c n : Nat) (f : Nat → Int) (A : Nat → Bool) (id : Int) (x : Bool) (w : World) (hN : n ≤ 1048576) (hr : Row1 w a n f) (hx : inD f n id = x) (hc : Cache w B (.slice a n c) A 1) :
    Calls Trym.prog 32 #[.pointer (some ⟨B, 0, none⟩), .int .i64 id] w (BackOk x A 1 B (.slice a n c) w) := by
  obtain ⟨c2, c3, c4, c5, c6, c7, c8, c9⟩ := hc.cells
  have fz := hc.frozen
  have e0 := slices_contains a c n f id w hN hr
  rw [hx] at e0
  have E := mkHid e0
  have HC := mkHid hc
  clear hr hc hx e0
  go_enter Trym.func32, Trym.ntmps32
  go_wp2_with fail
  refine E.out.mono ?_
  rintro e w1 ⟨rfl, hw⟩
  rw [hw]
  clear hw w1
  go_wp2
  go_region
  go_wp2
  have key : Cache (((w.setCell ⟨B, 4, none⟩ (.bool x)).setCell ⟨B, 9, none⟩ (.int .i64 2)).drew) B (.slice a n c) (upd A 1 x) 2 ∧ Below B w (((w.setCell ⟨B, 4, none⟩ (.bool x)).setCell ⟨B, 9, none⟩ (.int .i64 2)).drew) :=
    ⟨HC.out.store1 x, below_two w B _ _ _ _⟩
  generalize (((w.setCell ⟨B, 4, none⟩ (.bool x)).setCell ⟨B, 9, none⟩ (.int .i64 2)).drew) = w2 at key ⊢
  obtain ⟨hc2, hb⟩ := key
  have HC2 := mkHid hc2
  clear hc2 c2 c3 c4 c5 c6 c7 c8 c9 fz HC E
  have HP := mkHid (show pre [A 0, x, A 2, A 3, A 4, A 5] 6 = cnt6 (upd A 1 x) by simp [pre, cnt6, upd, Nat.add_assoc])
  generalize A 0 = y0 at HP ⊢
  generalize A 2 = y2 at HP ⊢
  generalize A 3 = y3 at HP ⊢
  generalize A 4 = y4 at HP ⊢
  generalize A 5 = y5 at HP ⊢
  go_loop [6, 37] (fun t i => ∃ k : Nat, k ≤ 6 ∧ i = .int .i64 k ∧ t = .int .i64 (pre [y0, x, y2, y3, y4, y5] k)) (fun _ i => 6 - (intOf i).toNat)
  case atStart => exact ⟨0, by omega, rfl, rfl⟩
  case round =>
    obtain ⟨k, hk, rfl, rfl⟩ := hrel
    have hp := pre_le [y0, x, y2, y3, y4, y5] k
    rcases six hk with rfl | rfl | rfl | rfl | rfl | rfl | rfl
    · cases y0 with
      | true =>
        have hi := fun w => idx0 true x y2 y3 y4 y5 w
        have hs := mkHid (pre_step [true, x, y2, y3, y4, y5] 0 rfl rfl)
        go_wp2
        go_round
        case rel => exact ⟨1, by omega, rfl, by rw [hs.out]; go_num⟩
        case measure => simp [intOf]
      | false =>
        have hi := fun w => idx0 false x y2 y3 y4 y5 w
        have hs := mkHid (pre_skip [false, x, y2, y3, y4, y5] 0 rfl rfl)
        go_wp2
        go_round
        case rel => exact ⟨1, by omega, rfl, by rw [hs.out]⟩
        case measure => simp [intOf]
    · cases x with
      | true =>
        have hi := fun w => idx1 y0 true y2 y3 y4 y5 w
        have hs := mkHid (pre_step [y0, true, y2, y3, y4, y5] 1 rfl rfl)
        go_wp2
        go_round
        case rel => exact ⟨2, by omega, rfl, by rw [hs.out]; go_num⟩
        case measure => simp [intOf]
      | false =>
        have hi := fun w => idx1 y0 false y2 y3 y4 y5 w
        have hs := mkHid (pre_skip [y0, false, y2, y3, y4, y5] 1 rfl rfl)
        go_wp2
        go_round
        case rel => exact ⟨2, by omega, rfl, by rw [hs.out]⟩
        case measure => simp [intOf]
    · cases y2 with
      | true =>
        have hi := fun w => idx2 y0 x true y3 y4 y5 w
        have hs := mkHid (pre_step [y0, x, true, y3, y4, y5] 2 rfl rfl)
        go_wp2
        go_round
        case rel => exact ⟨3, by omega, rfl, by rw [hs.out]; go_num⟩
        case measure => simp [intOf]
      | false =>
        have hi := fun w => idx2 y0 x false y3 y4 y5 w
        have hs := mkHid (pre_skip [y0, x, false, y3, y4, y5] 2 rfl rfl)
        go_wp2
        go_round
        case rel => exact ⟨3, by omega, rfl, by rw [hs.out]⟩
        case measure => simp [intOf]
    · cases y3 with
      | true =>
        have hi := fun w => idx3 y0 x y2 true y4 y5 w
        have hs := mkHid (pre_step [y0, x, y2, true, y4, y5] 3 rfl rfl)
        go_wp2
        go_round
        case rel => exact ⟨4, by omega, rfl, by rw [hs.out]; go_num⟩
        case measure => simp [intOf]
      | false =>
        have hi := fun w => idx3 y0 x y2 false y4 y5 w
        have hs := mkHid (pre_skip [y0, x, y2, false, y4, y5] 3 rfl rfl)
        go_wp2
        go_round
        case rel => exact ⟨4, by omega, rfl, by rw [hs.out]⟩
        case measure => simp [intOf]
    · cases y4 with
      | true =>
        have hi := fun w => idx4 y0 x y2 y3 true y5 w
        have hs := mkHid (pre_step [y0, x, y2, y3, true, y5] 4 rfl rfl)
        go_wp2
        go_round
        case rel => exact ⟨5, by omega, rfl, by rw [hs.out]; go_num⟩
        case measure => simp [intOf]
      | false =>
        have hi := fun w => idx4 y0 x y2 y3 false y5 w
        have hs := mkHid (pre_skip [y0, x, y2, y3, false, y5] 4 rfl rfl)
        go_wp2
        go_round
        case rel => exact ⟨5, by omega, rfl, by rw [hs.out]⟩
        case measure => simp [intOf]
    · cases y5 with
      | true =>
        have hi := fun w => idx5 y0 x y2 y3 y4 true w
        have hs := mkHid (pre_step [y0, x, y2, y3, y4, true] 5 rfl rfl)
        go_wp2
        go_round
        case rel => exact ⟨6, by omega, rfl, by rw [hs.out]; go_num⟩
        case measure => simp [intOf]
      | false =>
        have hi := fun w => idx5 y0 x y2 y3 y4 false w
        have hs := mkHid (pre_skip [y0, x, y2, y3, y4, false] 5 rfl rfl)
        go_wp2
        go_round
        case rel => exact ⟨6, by omega, rfl, by rw [hs.out]⟩
        case measure => simp [intOf]
    · generalize pre [y0, x, y2, y3, y4, y5] 6 = C6 at hp HP ⊢
      cases x with
      | true =>
        go_wp2
        go_ret
        exact ⟨back_end HP.out, HC2.out, hb⟩
      | false =>
        go_wp2
        go_ret
        exact ⟨rfl, HC2.out, hb⟩

theorem Cache.store2 {w : World} {B : Nat} {dv : Value} {A : Nat → Bool} (h : Cache w B dv A 2) (x : Bool) :
    Cache (((w.setCell ⟨B, 5, none⟩ (.bool x)).setCell ⟨B, 9, none⟩ (.int .i64 3)).drew) B dv (upd A 2 x) 3 := by
  unfold Cache at h ⊢
  show ((w.setCell ⟨B, 5, none⟩ (.bool x)).setCell ⟨B, 9, none⟩ (.int .i64 3)).heap[B]? = _
  simp [World.setCell, Array.getElem?_modify, h, upd]

set_option maxHeartbeats 800000 in
theorem back2 (B : Nat) (a : Option Addr) (c n : Nat) (f : Nat → Int) (A : Nat → Bool) (id : Int) (x : Bool) (w : World) (hN : n ≤ 1048576) (hr : Row1 w a n f) (hx : inD f n id = x) (hc : Cache w B (.slice a n c) A 2) :
    Calls Trym.prog 32 #[.pointer (some ⟨B, 0, none⟩), .int .i64 id] w (BackOk x A 2 B (.slice a n c) w) := by
  obtain ⟨c2, c3, c4, c5, c6, c7, c8, c9⟩ := hc.cells
  have fz := hc.frozen
  have e0 := slices_contains a c n f id w hN hr
  rw [hx] at e0
  have E := mkHid e0
  have HC := mkHid hc
  clear hr hc hx e0
  go_enter Trym.func32, Trym.ntmps32
  go_wp2_with fail
  refine E.out.mono ?_
  rintro e w1 ⟨rfl, hw⟩
  rw [hw]
  clear hw w1
  go_wp2
  go_region
  go_wp2
  have key : Cache (((w.setCell ⟨B, 5, none⟩ (.bool x)).setCell ⟨B, 9, none⟩ (.int .i64 3)).drew) B (.slice a n c) (upd A 2 x) 3 ∧ Below B w (((w.setCell ⟨B, 5, none⟩ (.bool x)).setCell ⟨B, 9, none⟩ (.int .i64 3)).drew) :=
    ⟨HC.out.store2 x, below_two w B _ _ _ _⟩
  generalize (((w.setCell ⟨B, 5, none⟩ (.bool x)).setCell ⟨B, 9, none⟩ (.int .i64 3)).drew) = w2 at key ⊢
  obtain ⟨hc2, hb⟩ := key
  have HC2 := mkHid hc2
  clear hc2 c2 c3 c4 c5 c6 c7 c8 c9 fz HC E
  have HP := mkHid (show pre [A 0, A 1, x, A 3, A 4, A 5] 6 = cnt6 (upd A 2 x) by simp [pre, cnt6, upd, Nat.add_assoc])
  generalize A 0 = y0 at HP ⊢
  generalize A 1 = y1 at HP ⊢
  generalize A 3 = y3 at HP ⊢
  generalize A 4 = y4 at HP ⊢
  generalize A 5 = y5 at HP ⊢
  go_loop [6, 37] (fun t i => ∃ k : Nat, k ≤ 6 ∧ i = .int .i64 k ∧ t = .int .i64 (pre [y0, y1, x, y3, y4, y5] k)) (fun _ i => 6 - (intOf i).toNat)
  case atStart => exact ⟨0, by omega, rfl, rfl⟩
  case round =>
    obtain ⟨k, hk, rfl, rfl⟩ := hrel
    have hp := pre_le [y0, y1, x, y3, y4, y5] k
    rcases six hk with rfl | rfl | rfl | rfl | rfl | rfl | rfl
    · cases y0 with
      | true =>
        have hi := fun w => idx0 true y1 x y3 y4 y5 w
        have hs := mkHid (pre_step [true, y1, x, y3, y4, y5] 0 rfl rfl)
        go_wp2
        go_round
        case rel => exact ⟨1, by omega, rfl, by rw [hs.out]; go_num⟩
        case measure => simp [intOf]
      | false =>
        have hi := fun w => idx0 false y1 x y3 y4 y5 w
        have hs := mkHid (pre_skip [false, y1, x, y3, y4, y5] 0 rfl rfl)
        go_wp2
        go_round
        case rel => exact ⟨1, by omega, rfl, by rw [hs.out]⟩
        case measure => simp [intOf]
    · cases y1 with
      | true =>
        have hi := fun w => idx1 y0 true x y3 y4 y5 w
        have hs := mkHid (pre_step [y0, true, x, y3, y4, y5] 1 rfl rfl)
        go_wp2
        go_round
        case rel => exact ⟨2, by omega, rfl, by rw [hs.out]; go_num⟩
        case measure => simp [intOf]
      | false =>
        have hi := fun w => idx1 y0 false x y3 y4 y5 w
        have hs := mkHid (pre_skip [y0, false, x, y3, y4, y5] 1 rfl rfl)
        go_wp2
        go_round
        case rel => exact ⟨2, by omega, rfl, by rw [hs.out]⟩
        case measure => simp [intOf]
    · cases x with
      | true =>
        have hi := fun w => idx2 y0 y1 true y3 y4 y5 w
        have hs := mkHid (pre_step [y0, y1, true, y3, y4, y5] 2 rfl rfl)
        go_wp2
        go_round
        case rel => exact ⟨3, by omega, rfl, by rw [hs.out]; go_num⟩
        case measure => simp [intOf]
      | false =>
        have hi := fun w => idx2 y0 y1 false y3 y4 y5 w
        have hs := mkHid (pre_skip [y0, y1, false, y3, y4, y5] 2 rfl rfl)
        go_wp2
        go_round
        case rel => exact ⟨3, by omega, rfl, by rw [hs.out]⟩
        case measure => simp [intOf]
    · cases y3 with
      | true =>
        have hi := fun w => idx3 y0 y1 x true y4 y5 w
        have hs := mkHid (pre_step [y0, y1, x, true, y4, y5] 3 rfl rfl)
        go_wp2
        go_round
        case rel => exact ⟨4, by omega, rfl, by rw [hs.out]; go_num⟩
        case measure => simp [intOf]
      | false =>
        have hi := fun w => idx3 y0 y1 x false y4 y5 w
        have hs := mkHid (pre_skip [y0, y1, x, false, y4, y5] 3 rfl rfl)
        go_wp2
        go_round
        case rel => exact ⟨4, by omega, rfl, by rw [hs.out]⟩
        case measure => simp [intOf]
    · cases y4 with
      | true =>
        have hi := fun w => idx4 y0 y1 x y3 true y5 w
        have hs := mkHid (pre_step [y0, y1, x, y3, true, y5] 4 rfl rfl)
        go_wp2
        go_round
        case rel => exact ⟨5, by omega, rfl, by rw [hs.out]; go_num⟩
        case measure => simp [intOf]
      | false =>
        have hi := fun w => idx4 y0 y1 x y3 false y5 w
        have hs := mkHid (pre_skip [y0, y1, x, y3, false, y5] 4 rfl rfl)
        go_wp2
        go_round
        case rel => exact ⟨5, by omega, rfl, by rw [hs.out]⟩
        case measure => simp [intOf]
    · cases y5 with
      | true =>
        have hi := fun w => idx5 y0 y1 x y3 y4 true w
        have hs := mkHid (pre_step [y0, y1, x, y3, y4, true] 5 rfl rfl)
        go_wp2
        go_round
        case rel => exact ⟨6, by omega, rfl, by rw [hs.out]; go_num⟩
        case measure => simp [intOf]
      | false =>
        have hi := fun w => idx5 y0 y1 x y3 y4 false w
        have hs := mkHid (pre_skip [y0, y1, x, y3, y4, false] 5 rfl rfl)
        go_wp2
        go_round
        case rel => exact ⟨6, by omega, rfl, by rw [hs.out]⟩
        case measure => simp [intOf]
    · generalize pre [y0, y1, x, y3, y4, y5] 6 = C6 at hp HP ⊢
      cases x with
      | true =>
        go_wp2
        go_ret
        exact ⟨back_end HP.out, HC2.out, hb⟩
      | false =>
        go_wp2
        go_ret
        exact ⟨rfl, HC2.out, hb⟩

theorem Cache.store3 {w : World} {B : Nat} {dv : Value} {A : Nat → Bool} (h : Cache w B dv A 3) (x : Bool) :
    Cache (((w.setCell ⟨B, 6, none⟩ (.bool x)).setCell ⟨B, 9, none⟩ (.int .i64 4)).drew) B dv (upd A 3 x) 4 := by
  unfold Cache at h ⊢
  show ((w.setCell ⟨B, 6, none⟩ (.bool x)).setCell ⟨B, 9, none⟩ (.int .i64 4)).heap[B]? = _
  simp [World.setCell, Array.getElem?_modify, h, upd]

set_option maxHeartbeats 800000 in
theorem back3 (B : Nat) (a : Option Addr) (c n : Nat) (f : Nat → Int) (A : Nat → Bool) (id : Int) (x : Bool) (w : World) (hN : n ≤ 1048576) (hr : Row1 w a n f) (hx : inD f n id = x) (hc : Cache w B (.slice a n c) A 3) :
    Calls Trym.prog 32 #[.pointer (some ⟨B, 0, none⟩), .int .i64 id] w (BackOk x A 3 B (.slice a n c) w) := by
  obtain ⟨c2, c3, c4, c5, c6, c7, c8, c9⟩ := hc.cells
  have fz := hc.frozen
  have e0 := slices_contains a c n f id w hN hr
  rw [hx] at e0
  have E := mkHid e0
  have HC := mkHid hc
  clear hr hc hx e0
  go_enter Trym.func32, Trym.ntmps32
  go_wp2_with fail
  refine E.out.mono ?_
  rintro e w1 ⟨rfl, hw⟩
  rw [hw]
  clear hw w1
  go_wp2
  go_region
  go_wp2
  have key : Cache (((w.setCell ⟨B, 6, none⟩ (.bool x)).setCell ⟨B, 9, none⟩ (.int .i64 4)).drew) B (.slice a n c) (upd A 3 x) 4 ∧ Below B w (((w.setCell ⟨B, 6, none⟩ (.bool x)).setCell ⟨B, 9, none⟩ (.int .i64 4)).drew) :=
    ⟨HC.out.store3 x, below_two w B _ _ _ _⟩
  generalize (((w.setCell ⟨B, 6, none⟩ (.bool x)).setCell ⟨B, 9, none⟩ (.int .i64 4)).drew) = w2 at key ⊢
  obtain ⟨hc2, hb⟩ := key
  have HC2 := mkHid hc2
  clear hc2 c2 c3 c4 c5 c6 c7 c8 c9 fz HC E
  have HP := mkHid (show pre [A 0, A 1, A 2, x, A 4, A 5] 6 = cnt6 (upd A 3 x) by simp [pre, cnt6, upd, Nat.add_assoc])
  generalize A 0 = y0 at HP ⊢
  generalize A 1 = y1 at HP ⊢
  generalize A 2 = y2 at HP ⊢
  generalize A 4 = y4 at HP ⊢
  generalize A 5 = y5 at HP ⊢
  go_loop [6, 37] (fun t i => ∃ k : Nat, k ≤ 6 ∧ i = .int .i64 k ∧ t = .int .i64 (pre [y0, y1, y2, x, y4, y5] k)) (fun _ i => 6 - (intOf i).toNat)
  case atStart => exact ⟨0, by omega, rfl, rfl⟩
  case round =>
    obtain ⟨k, hk, rfl, rfl⟩ := hrel
    have hp := pre_le [y0, y1, y2, x, y4, y5] k
    rcases six hk with rfl | rfl | rfl | rfl | rfl | rfl | rfl
    · cases y0 with
      | true =>
        have hi := fun w => idx0 true y1 y2 x y4 y5 w
        have hs := mkHid (pre_step [true, y1, y2, x, y4, y5] 0 rfl rfl)
        go_wp2
        go_round
        case rel => exact ⟨1, by omega, rfl, by rw [hs.out]; go_num⟩
        case measure => simp [intOf]
      | false =>
        have hi := fun w => idx0 false y1 y2 x y4 y5 w
        have hs := mkHid (pre_skip [false, y1, y2, x, y4, y5] 0 rfl rfl)
        go_wp2
        go_round
        case rel => exact ⟨1, by omega, rfl, by rw [hs.out]⟩
        case measure => simp [intOf]
    · cases y1 with
      | true =>
        have hi := fun w => idx1 y0 true y2 x y4 y5 w
        have hs := mkHid (pre_step [y0, true, y2, x, y4, y5] 1 rfl rfl)
        go_wp2
        go_round
        case rel => exact ⟨2, by omega, rfl, by rw [hs.out]; go_num⟩
        case measure => simp [intOf]
      | false =>
        have hi := fun w => idx1 y0 false y2 x y4 y5 w
        have hs := mkHid (pre_skip [y0, false, y2, x, y4, y5] 1 rfl rfl)
        go_wp2
        go_round
        case rel => exact ⟨2, by omega, rfl, by rw [hs.out]⟩
        case measure => simp [intOf]
    · cases y2 with
      | true =>
        have hi := fun w => idx2 y0 y1 true x y4 y5 w
        have hs := mkHid (pre_step [y0, y1, true, x, y4, y5] 2 rfl rfl)
        go_wp2
        go_round
        case rel => exact ⟨3, by omega, rfl, by rw [hs.out]; go_num⟩
        case measure => simp [intOf]
      | false =>
        have hi := fun w => idx2 y0 y1 false x y4 y5 w
        have hs := mkHid (pre_skip [y0, y1, false, x, y4, y5] 2 rfl rfl)
        go_wp2
        go_round
        case rel => exact ⟨3, by omega, rfl, by rw [hs.out]⟩
        case measure => simp [intOf]
    · cases x with
      | true =>
        have hi := fun w => idx3 y0 y1 y2 true y4 y5 w
        have hs := mkHid (pre_step [y0, y1, y2, true, y4, y5] 3 rfl rfl)
        go_wp2
        go_round
        case rel => exact ⟨4, by omega, rfl, by rw [hs.out]; go_num⟩
        case measure => simp [intOf]
      | false =>
        have hi := fun w => idx3 y0 y1 y2 false y4 y5 w
        have hs := mkHid (pre_skip [y0, y1, y2, false, y4, y5] 3 rfl rfl)
        go_wp2
        go_round
        case rel => exact ⟨4, by omega, rfl, by rw [hs.out]⟩
        case measure => simp [intOf]
    · cases y4 with
      | true =>
        have hi := fun w => idx4 y0 y1 y2 x true y5 w
        have hs := mkHid (pre_step [y0, y1, y2, x, true, y5] 4 rfl rfl)
        go_wp2
        go_round
        case rel => exact ⟨5, by omega, rfl, by rw [hs.out]; go_num⟩
        case measure => simp [intOf]
      | false =>
        have hi := fun w => idx4 y0 y1 y2 x false y5 w
        have hs := mkHid (pre_skip [y0, y1, y2, x, false, y5] 4 rfl rfl)
        go_wp2
        go_round
        case rel => exact ⟨5, by omega, rfl, by rw [hs.out]⟩
        case measure => simp [intOf]
    · cases y5 with
      | true =>
        have hi := fun w => idx5 y0 y1 y2 x y4 true w
        have hs := mkHid (pre_step [y0, y1, y2, x, y4, true] 5 rfl rfl)
        go_wp2
        go_round
        case rel => exact ⟨6, by omega, rfl, by rw [hs.out]; go_num⟩
        case measure => simp [intOf]
      | false =>
        have hi := fun w => idx5 y0 y1 y2 x y4 false w
        have hs := mkHid (pre_skip [y0, y1, y2, x, y4, false] 5 rfl rfl)
        go_wp2
        go_round
        case rel => exact ⟨6, by omega, rfl, by rw [hs.out]⟩
        case measure => simp [intOf]
    · generalize pre [y0, y1, y2, x, y4, y5] 6 = C6 at hp HP ⊢
      cases x with
      | true =>
        go_wp2
        go_ret
        exact ⟨back_end HP.out, HC2.out, hb⟩
      | false =>
        go_wp2
        go_ret
        exact ⟨rfl, HC2.out, hb⟩

theorem Cache.store4 {w : World} {B : Nat} {dv : Value} {A : Nat → Bool} (h : Cache w B dv A 4) (x : Bool) :
    Cache (((w.setCell ⟨B, 7, none⟩ (.bool x)).setCell ⟨B, 9, none⟩ (.int .i64 5)).drew) B dv (upd A 4 x) 5 := by
  unfold Cache at h ⊢
  show ((w.setCell ⟨B, 7, none⟩ (.bool x)).setCell ⟨B, 9, none⟩ (.int .i64 5)).heap[B]? = _
  simp [World.setCell, Array.getElem?_modify, h, upd]

set_option maxHeartbeats 800000 in
theorem back4 (B : Nat) (a : Option Addr) (c n : Nat) (f : Nat → Int) (A : Nat → Bool) (id : Int) (x : Bool) (w : World) (hN : n ≤ 1048576) (hr : Row1 w a n f) (hx : inD f n id = x) (hc : Cache w B (.slice a n c) A 4) :
    Calls Trym.prog 32 #[.pointer (some ⟨B, 0, none⟩), .int .i64 id] w (BackOk x A 4 B (.slice a n c) w) := by
  obtain ⟨c2, c3, c4, c5, c6, c7, c8, c9⟩ := hc.cells
  have fz := hc.frozen
  have e0 := slices_contains a c n f id w hN hr
  rw [hx] at e0
  have E := mkHid e0
  have HC := mkHid hc
  clear hr hc hx e0
  go_enter Trym.func32, Trym.ntmps32
  go_wp2_with fail
  refine E.out.mono ?_
  rintro e w1 ⟨rfl, hw⟩
  rw [hw]
  clear hw w1
  go_wp2
  go_region
  go_wp2
  have key : Cache (((w.setCell ⟨B, 7, none⟩ (.bool x)).setCell ⟨B, 9, none⟩ (.int .i64 5)).drew) B (.slice a n c) (upd A 4 x) 5 ∧ Below B w (((w.setCell ⟨B, 7, none⟩ (.bool x)).setCell ⟨B, 9, none⟩ (.int .i64 5)).drew) :=
    ⟨HC.out.store4 x, below_two w B _ _ _ _⟩
  generalize (((w.setCell ⟨B, 7, none⟩ (.bool x)).setCell ⟨B, 9, none⟩ (.int .i64 5)).drew) = w2 at key ⊢
  obtain ⟨hc2, hb⟩ := key
  have HC2 := mkHid hc2
  clear hc2 c2 c3 c4 c5 c6 c7 c8 c9 fz HC E
  have HP := mkHid (show pre [A 0, A 1, A 2, A 3, x, A 5] 6 = cnt6 (upd A 4 x) by simp [pre, cnt6, upd, Nat.add_assoc])
  generalize A 0 = y0 at HP ⊢
  generalize A 1 = y1 at HP ⊢
  generalize A 2 = y2 at HP ⊢
  generalize A 3 = y3 at HP ⊢
  generalize A 5 = y5 at HP ⊢
  go_loop [6, 37] (fun t i => ∃ k : Nat, k ≤ 6 ∧ i = .int .i64 k ∧ t = .int .i64 (pre [y0, y1, y2, y3, x, y5] k)) (fun _ i => 6 - (intOf i).toNat)
  case atStart => exact ⟨0, by omega, rfl, rfl⟩
  case round =>
    obtain ⟨k, hk, rfl, rfl⟩ := hrel
    have hp := pre_le [y0, y1, y2, y3, x, y5] k
    rcases six hk with rfl | rfl | rfl | rfl | rfl | rfl | rfl
    · cases y0 with
      | true =>
        have hi := fun w => idx0 true y1 y2 y3 x y5 w
        have hs := mkHid (pre_step [true, y1, y2, y3, x, y5] 0 rfl rfl)
        go_wp2
        go_round
        case rel => exact ⟨1, by omega, rfl, by rw [hs.out]; go_num⟩
        case measure => simp [intOf]
      | false =>
        have hi := fun w => idx0 false y1 y2 y3 x y5 w
        have hs := mkHid (pre_skip [false, y1, y2, y3, x, y5] 0 rfl rfl)
        go_wp2
        go_round
        case rel => exact ⟨1, by omega, rfl, by rw [hs.out]⟩
        case measure => simp [intOf]
    · cases y1 with
      | true =>
        have hi := fun w => idx1 y0 true y2 y3 x y5 w
        have hs := mkHid (pre_step [y0, true, y2, y3, x, y5] 1 rfl rfl)
        go_wp2
        go_round
        case rel => exact ⟨2, by omega, rfl, by rw [hs.out]; go_num⟩
        case measure => simp [intOf]
      | false =>
        have hi := fun w => idx1 y0 false y2 y3 x y5 w
        have hs := mkHid (pre_skip [y0, false, y2, y3, x, y5] 1 rfl rfl)
        go_wp2
        go_round
        case rel => exact ⟨2, by omega, rfl, by rw [hs.out]⟩
        case measure => simp [intOf]
    · cases y2 with
      | true =>
        have hi := fun w => idx2 y0 y1 true y3 x y5 w
        have hs := mkHid (pre_step [y0, y1, true, y3, x, y5] 2 rfl rfl)
        go_wp2
        go_round
        case rel => exact ⟨3, by omega, rfl, by rw [hs.out]; go_num⟩
        case measure => simp [intOf]
      | false =>
        have hi := fun w => idx2 y0 y1 false y3 x y5 w
        have hs := mkHid (pre_skip [y0, y1, false, y3, x, y5] 2 rfl rfl)
        go_wp2
        go_round
        case rel => exact ⟨3, by omega, rfl, by rw [hs.out]⟩
        case measure => simp [intOf]
    · cases y3 with
      | true =>
        have hi := fun w => idx3 y0 y1 y2 true x y5 w
        have hs := mkHid (pre_step [y0, y1, y2, true, x, y5] 3 rfl rfl)
        go_wp2
        go_round
        case rel => exact ⟨4, by omega, rfl, by rw [hs.out]; go_num⟩
        case measure => simp [intOf]
      | false =>
        have hi := fun w => idx3 y0 y1 y2 false x y5 w
        have hs := mkHid (pre_skip [y0, y1, y2, false, x, y5] 3 rfl rfl)
        go_wp2
        go_round
        case rel => exact ⟨4, by omega, rfl, by rw [hs.out]⟩
        case measure => simp [intOf]
    · cases x with
      | true =>
        have hi := fun w => idx4 y0 y1 y2 y3 true y5 w
        have hs := mkHid (pre_step [y0, y1, y2, y3, true, y5] 4 rfl rfl)
        go_wp2
        go_round
        case rel => exact ⟨5, by omega, rfl, by rw [hs.out]; go_num⟩
        case measure => simp [intOf]
      | false =>
        have hi := fun w => idx4 y0 y1 y2 y3 false y5 w
        have hs := mkHid (pre_skip [y0, y1, y2, y3, false, y5] 4 rfl rfl)
        go_wp2
        go_round
        case rel => exact ⟨5, by omega, rfl, by rw [hs.out]⟩
        case measure => simp [intOf]
    · cases y5 with
      | true =>
        have hi := fun w => idx5 y0 y1 y2 y3 x true w
        have hs := mkHid (pre_step [y0, y1, y2, y3, x, true] 5 rfl rfl)
        go_wp2
        go_round
        case rel => exact ⟨6, by omega, rfl, by rw [hs.out]; go_num⟩
        case measure => simp [intOf]
      | false =>
        have hi := fun w => idx5 y0 y1 y2 y3 x false w
        have hs := mkHid (pre_skip [y0, y1, y2, y3, x, false] 5 rfl rfl)
        go_wp2
        go_round
        case rel => exact ⟨6, by omega, rfl, by rw [hs.out]⟩
        case measure => simp [intOf]
    · generalize pre [y0, y1, y2, y3, x, y5] 6 = C6 at hp HP ⊢
      cases x with
      | true =>
        go_wp2
        go_ret
        exact ⟨back_end HP.out, HC2.out, hb⟩
      | false =>
        go_wp2
        go_ret
        exact ⟨rfl, HC2.out, hb⟩

theorem Cache.store5 {w : World} {B : Nat} {dv : Value} {A : Nat → Bool} (h : Cache w B dv A 5) (x : Bool) :
    Cache (((w.setCell ⟨B, 8, none⟩ (.bool x)).setCell ⟨B, 9, none⟩ (.int .i64 0)).drew) B dv (upd A 5 x) 0 := by
  unfold Cache at h ⊢
  show ((w.setCell ⟨B, 8, none⟩ (.bool x)).setCell ⟨B, 9, none⟩ (.int .i64 0)).heap[B]? = _
  simp [World.setCell, Array.getElem?_modify, h, upd]

set_option maxHeartbeats 800000 in
theorem back5 (B : Nat) (a : Option Addr) (c n : Nat) (f : Nat → Int) (A : Nat → Bool) (id : Int) (x : Bool) (w : World) (hN : n ≤ 1048576) (hr : Row1 w a n f) (hx : inD f n id = x) (hc : Cache w B (.slice a n c) A 5) :
    Calls Trym.prog 32 #[.pointer (some ⟨B, 0, none⟩), .int .i64 id] w (BackOk x A 5 B (.slice a n c) w) := by
  obtain ⟨c2, c3, c4, c5, c6, c7, c8, c9⟩ := hc.cells
  have fz := hc.frozen
  have e0 := slices_contains a c n f id w hN hr
  rw [hx] at e0
  have E := mkHid e0
  have HC := mkHid hc
  clear hr hc hx e0
  go_enter Trym.func32, Trym.ntmps32
  go_wp2_with fail
  refine E.out.mono ?_
  rintro e w1 ⟨rfl, hw⟩
  rw [hw]
  clear hw w1
  go_wp2
  go_region
  go_wp2
  have key : Cache (((w.setCell ⟨B, 8, none⟩ (.bool x)).setCell ⟨B, 9, none⟩ (.int .i64 0)).drew) B (.slice a n c) (upd A 5 x) 0 ∧ Below B w (((w.setCell ⟨B, 8, none⟩ (.bool x)).setCell ⟨B, 9, none⟩ (.int .i64 0)).drew) :=
    ⟨HC.out.store5 x, below_two w B _ _ _ _⟩
  generalize (((w.setCell ⟨B, 8, none⟩ (.bool x)).setCell ⟨B, 9, none⟩ (.int .i64 0)).drew) = w2 at key ⊢
  obtain ⟨hc2, hb⟩ := key
  have HC2 := mkHid hc2
  clear hc2 c2 c3 c4 c5 c6 c7 c8 c9 fz HC E
  have HP := mkHid (show pre [A 0, A 1, A 2, A 3, A 4, x] 6 = cnt6 (upd A 5 x) by simp [pre, cnt6, upd, Nat.add_assoc])
  generalize A 0 = y0 at HP ⊢
  generalize A 1 = y1 at HP ⊢
  generalize A 2 = y2 at HP ⊢
  generalize A 3 = y3 at HP ⊢
  generalize A 4 = y4 at HP ⊢
  go_loop [6, 37] (fun t i => ∃ k : Nat, k ≤ 6 ∧ i = .int .i64 k ∧ t = .int .i64 (pre [y0, y1, y2, y3, y4, x] k)) (fun _ i => 6 - (intOf i).toNat)
  case atStart => exact ⟨0, by omega, rfl, rfl⟩
  case round =>
    obtain ⟨k, hk, rfl, rfl⟩ := hrel
    have hp := pre_le [y0, y1, y2, y3, y4, x] k
    rcases six hk with rfl | rfl | rfl | rfl | rfl | rfl | rfl
    · cases y0 with
      | true =>
        have hi := fun w => idx0 true y1 y2 y3 y4 x w
        have hs := mkHid (pre_step [true, y1, y2, y3, y4, x] 0 rfl rfl)
        go_wp2
        go_round
        case rel => exact ⟨1, by omega, rfl, by rw [hs.out]; go_num⟩
        case measure => simp [intOf]
      | false =>
        have hi := fun w => idx0 false y1 y2 y3 y4 x w
        have hs := mkHid (pre_skip [false, y1, y2, y3, y4, x] 0 rfl rfl)
        go_wp2
        go_round
        case rel => exact ⟨1, by omega, rfl, by rw [hs.out]⟩
        case measure => simp [intOf]
    · cases y1 with
      | true =>
        have hi := fun w => idx1 y0 true y2 y3 y4 x w
        have hs := mkHid (pre_step [y0, true, y2, y3, y4, x] 1 rfl rfl)
        go_wp2
        go_round
        case rel => exact ⟨2, by omega, rfl, by rw [hs.out]; go_num⟩
        case measure => simp [intOf]
      | false =>
        have hi := fun w => idx1 y0 false y2 y3 y4 x w
        have hs := mkHid (pre_skip [y0, false, y2, y3, y4, x] 1 rfl rfl)
        go_wp2
        go_round
        case rel => exact ⟨2, by omega, rfl, by rw [hs.out]⟩
        case measure => simp [intOf]
    · cases y2 with
      | true =>
        have hi := fun w => idx2 y0 y1 true y3 y4 x w
        have hs := mkHid (pre_step [y0, y1, true, y3, y4, x] 2 rfl rfl)
        go_wp2
        go_round
        case rel => exact ⟨3, by omega, rfl, by rw [hs.out]; go_num⟩
        case measure => simp [intOf]
      | false =>
        have hi := fun w => idx2 y0 y1 false y3 y4 x w
        have hs := mkHid (pre_skip [y0, y1, false, y3, y4, x] 2 rfl rfl)
        go_wp2
        go_round
        case rel => exact ⟨3, by omega, rfl, by rw [hs.out]⟩
        case measure => simp [intOf]
    · cases y3 with
      | true =>
        have hi := fun w => idx3 y0 y1 y2 true y4 x w
        have hs := mkHid (pre_step [y0, y1, y2, true, y4, x] 3 rfl rfl)
        go_wp2
        go_round
        case rel => exact ⟨4, by omega, rfl, by rw [hs.out]; go_num⟩
        case measure => simp [intOf]
      | false =>
        have hi := fun w => idx3 y0 y1 y2 false y4 x w
        have hs := mkHid (pre_skip [y0, y1, y2, false, y4, x] 3 rfl rfl)
        go_wp2
        go_round
        case rel => exact ⟨4, by omega, rfl, by rw [hs.out]⟩
        case measure => simp [intOf]
    · cases y4 with
      | true =>
        have hi := fun w => idx4 y0 y1 y2 y3 true x w
        have hs := mkHid (pre_step [y0, y1, y2, y3, true, x] 4 rfl rfl)
        go_wp2
        go_round
        case rel => exact ⟨5, by omega, rfl, by rw [hs.out]; go_num⟩
        case measure => simp [intOf]
      | false =>
        have hi := fun w => idx4 y0 y1 y2 y3 false x w
        have hs := mkHid (pre_skip [y0, y1, y2, y3, false, x] 4 rfl rfl)
        go_wp2
        go_round
        case rel => exact ⟨5, by omega, rfl, by rw [hs.out]⟩
        case measure => simp [intOf]
    · cases x with
      | true =>
        have hi := fun w => idx5 y0 y1 y2 y3 y4 true w
        have hs := mkHid (pre_step [y0, y1, y2, y3, y4, true] 5 rfl rfl)
        go_wp2
        go_round
        case rel => exact ⟨6, by omega, rfl, by rw [hs.out]; go_num⟩
        case measure => simp [intOf]
      | false =>
        have hi := fun w => idx5 y0 y1 y2 y3 y4 false w
        have hs := mkHid (pre_skip [y0, y1, y2, y3, y4, false] 5 rfl rfl)
        go_wp2
        go_round
        case rel => exact ⟨6, by omega, rfl, by rw [hs.out]⟩
        case measure => simp [intOf]
    · generalize pre [y0, y1, y2, y3, y4, x] 6 = C6 at hp HP ⊢
      cases x with
      | true =>
        go_wp2
        go_ret
        exact ⟨back_end HP.out, HC2.out, hb⟩
      | false =>
        go_wp2
        go_ret
        exact ⟨rfl, HC2.out, hb⟩

theorem back_any (B : Nat) (a : Option Addr) (c n : Nat) (f : Nat → Int) (A : Nat → Bool) (id : Int) (r : Nat) (w : World) (hN : n ≤ 1048576) (hr6 : r < 6) (hr : Row1 w a n f) (hc : Cache w B (.slice a n c) A r) :
    Calls Trym.prog 32 #[.pointer (some ⟨B, 0, none⟩), .int .i64 id] w (BackOk (inD f n id) A r B (.slice a n c) w) := by
  match r, hr6, hc with
  | 0, _, hc => exact back0 B a c n f A id _ w hN hr rfl hc
  | 1, _, hc => exact back1 B a c n f A id _ w hN hr rfl hc
  | 2, _, hc => exact back2 B a c n f A id _ w hN hr rfl hc
  | 3, _, hc => exact back3 B a c n f A id _ w hN hr rfl hc
  | 4, _, hc => exact back4 B a c n f A id _ w hN hr rfl hc
  | 5, _, hc => exact back5 B a c n f A id _ w hN hr rfl hc

theorem zzback_any (B : Nat) (a : Option Addr) (c n : Nat) (f : Nat → Int) (A : Nat → Bool) (id : Int) (r : Nat) (w : World) (hN : n ≤ 1048576) (hr6 : r < 6) (hr : Row1 w a n f) (hc : Cache w B (.slice a n c) A r) :
    Calls Trym.prog 25 #[.pointer (some ⟨B, 0, none⟩), .int .i64 id] w (BackOk (inD f n id) A r B (.slice a n c) w) := by
  have E := mkHid (back_any B a c n f A id r w hN hr6 hr hc)
  clear hr hc
  go_enter Trym.func25, Trym.ntmps25
  go_wp2_with fail
  refine E.out.mono ?_
  rintro e w1 ⟨rfl, hc, hb⟩
  have HC := mkHid hc
  clear hc
  go_wp2
  go_ret
  exact ⟨rfl, HC.out, hb⟩

end Go.Proofs.Qxb6000563aMods
