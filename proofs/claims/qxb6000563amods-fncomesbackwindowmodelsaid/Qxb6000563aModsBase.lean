/-
  DERIVED. The small callees of FnComesBackWindowModel: zzBytes, cloneInt64, containsInt64, slices.Index and slices.Contains at int64, ZZNewPackCache.
-/
import Derived.Test.Qxb6000563aModsRows
import Derived.WalkKit
import Derived.WalkSpells
import Derived.WalkLawsBesides
import Derived.Deep.QuietTactic
import Derived.BigQuiet
namespace Go.Proofs.Qxb6000563aMods
open Go.RowKit

theorem mkHid {p : Prop} (h : p) : Hid p := h

theorem cell_below {w w' : World} (hb : Below w.heap.size w w') {a : Addr} {v : Value} (h : w.cell? a = some v) : w'.cell? a = some v :=
  (hb.cell (World.block_lt_of_cell? w a h)).trans h

/-- n numbers lie behind the slice's address. -/
def Row1 (w : World) (a : Option Addr) (n : Nat) (f : Nat → Int) : Prop :=
  n = 0 ∨ ∃ b off, a = some ⟨b, off, none⟩ ∧ ∀ k, k < n → w.cell? ⟨b, off + k, none⟩ = some (.int .i64 (f k))

theorem Row1.below {w w' : World} {a : Option Addr} {n : Nat} {f : Nat → Int} (h : Row1 w a n f) (hb : Below w.heap.size w w') : Row1 w' a n f := by
  rcases h with h | ⟨b, off, rfl, h⟩
  · exact .inl h
  · exact .inr ⟨b, off, rfl, fun k hk => cell_below hb (h k hk)⟩

theorem Row1.at {w : World} {a : Option Addr} {n : Nat} {f : Nat → Int} (h : Row1 w a n f) {k : Nat} (hk : k < n) : ∃ b off, a = some ⟨b, off, none⟩ ∧ w.cell? ⟨b, off + k, none⟩ = some (.int .i64 (f k)) := by
  rcases h with h | ⟨b, off, rfl, h⟩
  · omega
  · exact ⟨b, off, rfl, h k hk⟩

/-- Is x among the first n? -/
def inD (f : Nat → Int) (n : Nat) (x : Int) : Bool := (List.range n).any fun k => f k == x

theorem inD_true {f : Nat → Int} {n : Nat} {x : Int} {k : Nat} (hk : k < n) (h : f k = x) : inD f n x = true := by
  unfold inD
  rw [List.any_eq_true]
  exact ⟨k, List.mem_range.2 hk, by simpa using h⟩

theorem inD_false {f : Nat → Int} {n : Nat} {x : Int} (h : ∀ k, k < n → f k ≠ x) : inD f n x = false := by
  unfold inD
  rw [List.any_eq_false]
  intro k hk
  simpa using h k (List.mem_range.1 hk)

/-- Block b is a row of n cells of type t, none frozen; its first m cells hold f. -/
def Filled (w : World) (b : Nat) (t : TypeId) (n m : Nat) (f : Nat → Value) : Prop :=
  ∃ cur : Array Value, w.heap[b]? = some (.cells cur t (0, 0)) ∧ cur.size = n ∧ ∀ j, j < m → cur[j]? = some (f j)

section
variable {w : World} {b : Nat} {t : TypeId} {n m : Nat} {f : Nat → Value}

theorem Filled.start {base : Nat} {e : TypeId} {size n : Nat} {v : Value} {b : Nat} {xs : List Value} (h : w.ownsRow base e size v n xs) (hv : v = .slice (some ⟨b, 0, none⟩) n n) (f : Nat → Value) :
    Filled w b e (n * size) 0 f := by
  rcases h.2 with ⟨h1, _⟩ | ⟨g, cap, cur, h1, _, hg, _, _, hs, _⟩
  · rw [hv] at h1; cases h1
  · rw [hv] at h1; cases h1
    exact ⟨cur, hg, hs, fun j hj => absurd hj (by omega)⟩

theorem Filled.cell (h : Filled w b t n m f) {j : Nat} (hj : j < m) : w.cell? ⟨b, j, none⟩ = some (f j) := by
  obtain ⟨cur, hg, _, hf⟩ := h
  simp [World.cell?, hg, hf j hj]

theorem Filled.old (h : Filled w b t n m f) {j : Nat} (hj : j < n) : ∃ v, w.cell? ⟨b, j, none⟩ = some v := by
  obtain ⟨cur, hg, hs, hf⟩ := h
  exact ⟨cur[j]'(by omega), by simp [World.cell?, hg, hs, hj]⟩

theorem Filled.frozen (h : Filled w b t n m f) (j : Nat) : w.frozen? ⟨b, j, none⟩ = false := by
  obtain ⟨cur, hg, hs, hf⟩ := h
  simp [World.frozen?, hg]

/-- The next cell is stored. -/
theorem Filled.push (h : Filled w b t n m f) (hm : m < n) {v : Value} (hv : f m = v) : Filled (w.setCell ⟨b, m, none⟩ v) b t n (m + 1) f := by
  obtain ⟨c, hb, hn, hc⟩ := h
  refine ⟨c.setIfInBounds m v, ?_, by simpa using hn, fun j hj => ?_⟩
  · simp [World.setCell, Array.getElem?_modify, hb]
  · rw [Array.getElem?_setIfInBounds]
    by_cases e : m = j
    · subst e
      simp [hn, hm, hv]
    · rw [if_neg e]
      exact hc j (by omega)
end

theorem info2 : (Trym.prog.info? 2).map (fun i => (i.zero, i.size, i.bytes)) = some (some (.int .i64 0), 1, 8) := by kernel_rfl

theorem zz_yes (a a' : Option Addr) (n c n' c' : Nat) (w : World) (h : n + n' ≤ 1048576) :
    Calls Trym.prog 22 #[.slice a n c, .slice a' n' c'] w fun e w' => e = .returned (.bool true) ∧ w' = w := by
  have h1 : n ≤ 1048576 := by omega
  have h2 : n' ≤ 1048576 := by omega
  go_enter Trym.func22, Trym.ntmps22
  go_wp2
  go_ret
  exact ⟨rfl, rfl⟩

theorem zz_no (a a' : Option Addr) (n c n' c' : Nat) (w : World) (hn : n ≤ maxLen) (hn' : n' ≤ maxLen) (h : ¬ n + n' ≤ 1048576) :
    Calls Trym.prog 22 #[.slice a n c, .slice a' n' c'] w fun e w' => e = .returned (.bool false) ∧ w' = w := by
  unfold maxLen at hn hn'
  by_cases h1 : n ≤ 1048576
  · by_cases h2 : n' ≤ 1048576
    · go_enter Trym.func22, Trym.ntmps22
      go_wp2
      go_ret
      exact ⟨rfl, rfl⟩
    · go_enter Trym.func22, Trym.ntmps22
      go_wp2
      go_ret
      exact ⟨rfl, rfl⟩
  · go_enter Trym.func22, Trym.ntmps22
    go_wp2
    go_ret
    exact ⟨rfl, rfl⟩

/-- A slice of the same n numbers is handed back; nothing old has turned. -/
def Gives1 (n : Nat) (f : Nat → Int) (w : World) (e : Ending) (w' : World) : Prop := ∃ a c, e = .returned (.slice a n c) ∧ Row1 w' a n f ∧ Below w.heap.size w w'

theorem Filled.row1 {w : World} {b : Nat} {t : TypeId} {m n : Nat} {f : Nat → Int} (h : Filled w b t m n (fun k => .int .i64 (f k))) : Row1 w (some ⟨b, 0, none⟩) n f :=
  .inr ⟨b, 0, rfl, fun k hk => by rw [Nat.zero_add]; exact h.cell hk⟩

set_option maxHeartbeats 400000 in
theorem clone_at (x : Addr) (c n : Nat) (f : Nat → Int) (w : World) (hN : n ≤ 1048576) (hr : Row1 w (some x) n f) :
    Calls Trym.prog 23 #[.slice (some x) n c] w (Gives1 n f w) := by
  have Hr := mkHid hr
  clear hr
  obtain ⟨i0, hi, hz0, hz1, hz2⟩ := info_parts info2
  have q34 : ∀ (w : World) (a : Option Addr) (n c n' c' : Nat), (binOp .eql 34 (.slice a n c) (.slice none n' c')).run Trym.prog w = .ok (.bool a.isNone) w := fun w a n c n' c' => Lib.run_eql_slice_nil w _ _ a n c n' c' Trym.underlying34
  go_enter Trym.func23, Trym.ntmps23
  go_wp2_with (at_make; refine wpList_make_full _ rfl _ _ 34 rfl w.heap.size 2 i0 _ 1 Trym.underlying34 hi hz0 hz1 _ _ _ _ n rfl rfl rfl rfl ?b2 ?b3 (Nat.le_refl _) ?_)
  case b2 => rw [hz2]; omega
  case b3 => unfold maxLen; omega
  intro w0 hown0 hgrow0
  go_wp2
  have hf0 : Filled w0 w.heap.size 2 n 0 (fun k => .int .i64 (f k)) := by
    have := Filled.start (b := w.heap.size) hown0 rfl (fun k => .int .i64 (f k))
    rwa [Nat.mul_one] at this
  have hb0 : Below w.heap.size w w0 := (Below.refl _ _).grown hgrow0 (Nat.le_refl _) (fun k h => by cases h)
  clear hown0 hgrow0
  go_loopw [4] (fun i wr => ∃ k : Nat, k ≤ n ∧ i = .int .i64 k ∧ Filled wr w.heap.size 2 n k (fun k => .int .i64 (f k)) ∧ Below w.heap.size w wr) (fun i _ => n - (intOf i).toNat)
  case atStart => exact ⟨0, by omega, rfl, hf0, hb0⟩
  case round =>
    obtain ⟨k, hk, rfl, hf, hb⟩ := hrel
    by_cases hlt : k < n
    · obtain ⟨b, off, hx, hc⟩ := Hr.out.at hlt
      obtain rfl := Option.some.inj hx
      have c1 := cell_below hb hc
      obtain ⟨o1, d1⟩ := hf.old (j := k) (by omega)
      have f1 := hf.frozen k
      clear hc hf0 hx
      go_wp2
      go_roundw
      case rel => exact ⟨k + 1, by omega, by go_num, hf.push (by omega) rfl, hb.setCell (Nat.le_refl _) _⟩
      case measure => simp [intOf]; omega
    · obtain rfl : k = n := by omega
      clear hf0
      go_wp2
      go_ret
      exact ⟨_, _, rfl, hf.row1, hb⟩

theorem clone_nil (w : World) : Calls Trym.prog 23 #[.slice none 0 0] w fun e w' => e = .returned (.slice none 0 0) ∧ w' = w := by
  have q34 : ∀ (w : World) (a : Option Addr) (n c n' c' : Nat), (binOp .eql 34 (.slice a n c) (.slice none n' c')).run Trym.prog w = .ok (.bool a.isNone) w := fun w a n c n' c' => Lib.run_eql_slice_nil w _ _ a n c n' c' Trym.underlying34
  go_enter Trym.func23, Trym.ntmps23
  go_wp2
  go_ret
  exact ⟨rfl, rfl⟩

theorem clone_any (a : Option Addr) (c n : Nat) (f : Nat → Int) (w : World) (hN : n ≤ 1048576) (ha : a = none → c = 0) (hr : Row1 w a n f) :
    Calls Trym.prog 23 #[.slice a n c] w (Gives1 n f w) := by
  cases a with
  | some x => exact clone_at x c n f w hN hr
  | none =>
    have h0 : n = 0 := by rcases hr with h | ⟨b, off, h, _⟩; exact h; cases h
    subst h0
    rw [ha rfl]
    refine (clone_nil w).mono ?_
    rintro e w' ⟨rfl, rfl⟩
    exact ⟨none, 0, rfl, hr, Below.refl _ _⟩

theorem contains_any (a : Option Addr) (c n : Nat) (f : Nat → Int) (x : Int) (w : World) (hN : n ≤ 1048576) (hr : Row1 w a n f) :
    Calls Trym.prog 26 #[.slice a n c, .int .i64 x] w fun e w' => e = .returned (.bool (inD f n x)) ∧ w' = w := by
  have Hr := mkHid hr
  clear hr
  go_enter Trym.func26, Trym.ntmps26
  go_wp2
  go_loop [5] (fun i => ∃ k : Nat, k ≤ n ∧ i = .int .i64 k ∧ Hid (∀ j, j < k → f j ≠ x)) (fun i => n - (intOf i).toNat)
  case atStart => exact ⟨0, Nat.zero_le _, rfl, fun j hj => absurd hj (by omega)⟩
  case round =>
    obtain ⟨k, hk, rfl, hno⟩ := hrel
    by_cases hlt : k < n
    · obtain ⟨b, off, hx, hc⟩ := Hr.out.at hlt
      subst hx
      by_cases he : f k = x
      · have he' : (f k == x) = true := by simpa using he
        have HI := mkHid (inD_true hlt he)
        clear he
        go_wp2
        go_ret
        exact ⟨by rw [HI.out]; rfl, rfl⟩
      · have he' : (f k == x) = false := by simpa using he
        have HE := mkHid he
        clear he
        go_wp2
        go_round
        case rel =>
          refine ⟨k + 1, by omega, by go_num, fun j hj => ?_⟩
          by_cases hjk : j < k
          · exact hno.out j hjk
          · obtain rfl : j = k := by omega
            exact HE.out
        case measure => simp [intOf]; omega
    · have HI := mkHid (inD_false (n := n) (fun j hj => hno.out j (by omega)))
      go_wp2
      go_ret
      exact ⟨by rw [HI.out]; rfl, rfl⟩

/-- slices.Index: not negative exactly where the number is among them. -/
def IdxOk (f : Nat → Int) (n : Nat) (x : Int) (e : Ending) : Prop := (e = .returned (.int .i64 (-1)) ∧ inD f n x = false) ∨ ∃ k : Nat, e = .returned (.int .i64 k) ∧ inD f n x = true

theorem index_any (a : Option Addr) (c n : Nat) (f : Nat → Int) (x : Int) (w : World) (hN : n ≤ 1048576) (hr : Row1 w a n f) :
    Calls Trym.prog 38 #[.slice a n c, .int .i64 x] w fun e w' => IdxOk f n x e ∧ w' = w := by
  have Hr := mkHid hr
  clear hr
  go_enter Trym.func38, Trym.ntmps38
  go_wp2
  go_loop [8] (fun i => ∃ k : Nat, k ≤ n ∧ i = .int .i64 k ∧ Hid (∀ j, j < k → f j ≠ x)) (fun i => n - (intOf i).toNat)
  case atStart => exact ⟨0, Nat.zero_le _, rfl, fun j hj => absurd hj (by omega)⟩
  case round =>
    obtain ⟨k, hk, rfl, hno⟩ := hrel
    by_cases hlt : k < n
    · obtain ⟨b, off, hx, hc⟩ := Hr.out.at hlt
      subst hx
      by_cases he : f k = x
      · have he' : (x == f k) = true := by simpa using he.symm
        have HI := mkHid (inD_true hlt he)
        clear he
        go_wp2
        go_ret
        exact ⟨.inr ⟨k, rfl, HI.out⟩, rfl⟩
      · have he' : (x == f k) = false := by simpa using fun h : x = f k => he h.symm
        have HE := mkHid he
        clear he
        go_wp2
        go_round
        case rel =>
          refine ⟨k + 1, by omega, by go_num, fun j hj => ?_⟩
          by_cases hjk : j < k
          · exact hno.out j hjk
          · obtain rfl : j = k := by omega
            exact HE.out
        case measure => simp [intOf]; omega
    · have HI := mkHid (inD_false (n := n) (fun j hj => hno.out j (by omega)))
      go_wp2
      go_ret
      exact ⟨.inl ⟨rfl, HI.out⟩, rfl⟩

theorem slices_contains (a : Option Addr) (c n : Nat) (f : Nat → Int) (x : Int) (w : World) (hN : n ≤ 1048576) (hr : Row1 w a n f) :
    Calls Trym.prog 35 #[.slice a n c, .int .i64 x] w fun e w' => e = .returned (.bool (inD f n x)) ∧ w' = w := by
  have E := mkHid (index_any a c n f x w hN hr)
  clear hr
  go_enter Trym.func35, Trym.ntmps35
  go_wp2_with fail
  refine E.out.mono ?_
  rintro e w1 ⟨hi, hw⟩
  rw [hw]
  clear hw w1
  rcases hi with ⟨rfl, hi⟩ | ⟨k, rfl, hi⟩
  · have HI := mkHid hi
    clear hi
    go_wp2
    go_ret
    exact ⟨by rw [HI.out]; rfl, rfl⟩
  · have HI := mkHid hi
    have hk : (0 : Int) ≤ (k : Int) := by omega
    clear hi
    go_wp2
    go_ret
    exact ⟨by rw [HI.out]; rfl, rfl⟩

/-- The cache at block B: the slice 'dropped', the ring A of six bools, the place of the next. -/
def Cache (w : World) (B : Nat) (dv : Value) (A : Nat → Bool) (nx : Nat) : Prop :=
  w.heap[B]? = some (.cells #[.slice none 0 0, .int .i64 0, dv, .bool (A 0), .bool (A 1), .bool (A 2), .bool (A 3), .bool (A 4), .bool (A 5), .int .i64 nx, .int .i64 0, .int .i64 0] 50 (0, 0))

theorem new_any (a : Option Addr) (c n : Nat) (w : World) :
    Calls Trym.prog 24 #[.slice a n c, .agg #[.bool false, .bool false, .bool false, .bool false, .bool false, .bool false], .int .i64 0] w fun e w' =>
      e = .returned (.pointer (some ⟨w.heap.size + 1, 0, none⟩)) ∧ Cache w' (w.heap.size + 1) (.slice a n c) (fun _ => false) 0 ∧ Below w.heap.size w w' := by
  go_enter Trym.func24, Trym.ntmps24
  go_wp2
  go_ret
  refine ⟨rfl, ?_, ((Below.refl _ _).alloc (Nat.le_refl _) _).alloc (by simp) _⟩
  unfold Cache
  have := heap_alloc_new (w.alloc (.cells #[.bool false, .bool false, .bool false, .bool false, .bool false, .bool false] 37)) (.cells #[.slice none 0 0, .int .i64 0, .slice a n c, .bool false, .bool false, .bool false, .bool false, .bool false, .bool false, .int .i64 0, .int .i64 0, .int .i64 0] 50)
  simpa using this

end Go.Proofs.Qxb6000563aMods
