/-
  DERIVED. A row of cells that the call itself fills, cell by cell (Filled); the cells of a list of postings and of changes by their index.
-/
import Derived.Test.Qxb6000465aModsWalks2
namespace Go.Proofs.Qxb6000465aMods
open Go.RowKit

theorem info47 : (Trym.prog.info? 47).map (fun i => (i.zero, i.size, i.bytes)) = some (some (.agg #[.int .i64 0, .int .i64 0, .int .i64 0]), 3, 24) := by kernel_rfl
theorem info52 : (Trym.prog.info? 52).map (fun i => (i.zero, i.size, i.bytes)) = some (some (.agg #[.int .i64 0, .int .i64 0, .int .i64 0, .bool false]), 4, 32) := by kernel_rfl
theorem info50 : (Trym.prog.info? 50).map (fun i => (i.zero, i.size, i.bytes)) = some (some (.agg #[.int .i64 0, .int .i64 0, .int .i64 0]), 3, 24) := by kernel_rfl
theorem info62 : (Trym.prog.info? 62).map (fun i => (i.zero, i.size, i.bytes)) = some (some (.agg #[.int .i64 0, .int .i64 0, .int .i64 0]), 3, 24) := by kernel_rfl
theorem info65 : (Trym.prog.info? 65).map (fun i => (i.zero, i.size, i.bytes)) = some (some (.agg #[.int .i64 0, .int .i64 0, .int .i64 0, .bool false]), 4, 32) := by kernel_rfl
theorem info67 : (Trym.prog.info? 67).map (fun i => (i.zero, i.size, i.bytes)) = some (some (.agg #[.int .i64 0, .int .i64 0, .int .i64 0, .bool false]), 4, 32) := by kernel_rfl

/-- Block b is a row of n cells of type t, none frozen; its first m cells hold f. -/
def Filled (w : World) (b : Nat) (t : TypeId) (n m : Nat) (f : Nat → Value) : Prop :=
  ∃ cur : Array Value, w.heap[b]? = some (.cells cur t (0, 0)) ∧ cur.size = n ∧ ∀ j, j < m → cur[j]? = some (f j)

def cell3 (P : List T3) (j : Nat) : Value :=
  if j % 3 = 0 then .int .i64 (pid P (j / 3)) else if j % 3 = 1 then .int .i64 (pfr P (j / 3)) else .int .i64 (pln P (j / 3))

theorem cell3_0 (P : List T3) (k : Nat) : cell3 P (k * 3) = .int .i64 (pid P k) := by
  unfold cell3; rw [if_pos (by omega), show k * 3 / 3 = k by omega]
theorem cell3_1 (P : List T3) (k : Nat) : cell3 P (k * 3 + 1) = .int .i64 (pfr P k) := by
  unfold cell3; rw [if_neg (by omega), if_pos (by omega), show (k * 3 + 1) / 3 = k by omega]
theorem cell3_2 (P : List T3) (k : Nat) : cell3 P (k * 3 + 2) = .int .i64 (pln P k) := by
  unfold cell3; rw [if_neg (by omega), if_neg (by omega), show (k * 3 + 2) / 3 = k by omega]

def cell4 (C : List T4) (j : Nat) : Value :=
  if j % 4 = 0 then .int .i64 (cid C (j / 4)) else if j % 4 = 1 then .int .i64 (cfr C (j / 4)) else if j % 4 = 2 then .int .i64 (cln C (j / 4)) else .bool (crm C (j / 4))

theorem cell4_0 (C : List T4) (k : Nat) : cell4 C (k * 4) = .int .i64 (cid C k) := by
  unfold cell4; rw [if_pos (by omega), show k * 4 / 4 = k by omega]
theorem cell4_1 (C : List T4) (k : Nat) : cell4 C (k * 4 + 1) = .int .i64 (cfr C k) := by
  unfold cell4; rw [if_neg (by omega), if_pos (by omega), show (k * 4 + 1) / 4 = k by omega]
theorem cell4_2 (C : List T4) (k : Nat) : cell4 C (k * 4 + 2) = .int .i64 (cln C k) := by
  unfold cell4; rw [if_neg (by omega), if_neg (by omega), if_pos (by omega), show (k * 4 + 2) / 4 = k by omega]
theorem cell4_3 (C : List T4) (k : Nat) : cell4 C (k * 4 + 3) = .bool (crm C k) := by
  unfold cell4; rw [if_neg (by omega), if_neg (by omega), if_neg (by omega), show (k * 4 + 3) / 4 = k by omega]

section
variable {w : World} {b : Nat} {t : TypeId} {n m : Nat} {f : Nat → Value}

theorem Filled.start {base : Nat} {e : TypeId} {size n : Nat} {v : Value} {b : Nat} {xs : List Value} (h : w.ownsRow base e size v n xs) (hv : v = .slice (some ⟨b, 0, none⟩) n n) (f : Nat → Value) :
    Filled w b e (n * size) 0 f := by
  rcases h.2 with ⟨h1, _⟩ | ⟨g, cap, cur, h1, _, hg, _, _, hs, _⟩
  · rw [hv] at h1; cases h1
  · rw [hv] at h1; cases h1
    exact ⟨cur, hg, hs, fun j hj => absurd hj (by omega)⟩

theorem Filled.cell (h : Filled w b t n m f) {j : Nat} (hj : j < m) : w.cell? ⟨b, j, none⟩ = some (f j) := by
  obtain ⟨cur, hg, _, hf⟩ := h
  simp [World.cell?, hg, hf j hj]

theorem Filled.old (h : Filled w b t n m f) {j : Nat} (hj : j < n) : ∃ v, w.cell? ⟨b, j, none⟩ = some v := by
  obtain ⟨cur, hg, hs, hf⟩ := h
  exact ⟨cur[j]'(by omega), by simp [World.cell?, hg, hs, hj]⟩

theorem Filled.frozen (h : Filled w b t n m f) (j : Nat) : w.frozen? ⟨b, j, none⟩ = false := by
  obtain ⟨cur, hg, hs, hf⟩ := h
  simp [World.frozen?, hg]

theorem Filled.of_block {w' : World} (h : Filled w b t n m f) (e : w'.heap[b]? = w.heap[b]?) : Filled w' b t n m f := by
  obtain ⟨cur, hg, hs, hf⟩ := h
  exact ⟨cur, e.trans hg, hs, hf⟩

theorem Filled.lt (h : Filled w b t n m f) : b < w.heap.size := by
  obtain ⟨cur, hg, _⟩ := h
  exact (Array.getElem?_eq_some_iff.1 hg).1

theorem Filled.below {w' : World} {B : Nat} (h : Filled w b t n m f) (hb : Below B w w') (hB : b < B) : Filled w' b t n m f := h.of_block (hb.block b hB)

theorem Filled.alloc (h : Filled w b t n m f) (o : Obj) : Filled (w.alloc o) b t n m f := h.of_block (Below.heap_alloc _ _ _ h.lt)

theorem Filled.setOther (h : Filled w b t n m f) {a : Addr} (ha : b ≠ a.block) (v : Value) : Filled (w.setCell a v) b t n m f := h.of_block (Below.heap_setCell _ _ _ _ ha)

theorem Filled.drewN (h : Filled w b t n m f) (q : Nat) : Filled (w.drewN q) b t n m f := h
theorem Filled.drew (h : Filled w b t n m f) : Filled w.drew b t n m f := h

/-- The next cell is stored. -/
theorem Filled.push (h : Filled w b t n m f) (hm : m < n) {v : Value} (hv : f m = v) : Filled (w.setCell ⟨b, m, none⟩ v) b t n (m + 1) f := by
  obtain ⟨c, hb, hn, hc⟩ := h
  refine ⟨c.setIfInBounds m v, ?_, by simpa using hn, fun j hj => ?_⟩
  · simp [World.setCell, Array.getElem?_modify, hb]
  · rw [Array.getElem?_setIfInBounds]
    by_cases e : m = j
    · subst e
      simp [hn, hm, hv]
    · rw [if_neg e]
      exact hc j (by omega)

theorem Filled.row3 {P : List T3} (h : Filled w b t n (P.length * 3) (cell3 P)) : Row3 w (some ⟨b, 0, none⟩) P :=
  .inr ⟨b, 0, rfl, fun k hk => by
    refine ⟨?_, ?_, ?_⟩
    · rw [Nat.zero_add, h.cell (by omega), cell3_0]
    · rw [Nat.zero_add, h.cell (by omega), cell3_1]
    · rw [Nat.zero_add, h.cell (by omega), cell3_2]⟩

theorem Filled.row4 {C : List T4} (h : Filled w b t n (C.length * 4) (cell4 C)) : Row4 w (some ⟨b, 0, none⟩) C :=
  .inr ⟨b, 0, rfl, fun k hk => by
    refine ⟨?_, ?_, ?_, ?_⟩
    · rw [Nat.zero_add, h.cell (by omega), cell4_0]
    · rw [Nat.zero_add, h.cell (by omega), cell4_1]
    · rw [Nat.zero_add, h.cell (by omega), cell4_2]
    · rw [Nat.zero_add, h.cell (by omega), cell4_3]⟩

/-- One posting more. -/
theorem Filled.push3 {P : List T3} {k : Nat} (h : Filled w b t n (k * 3) (cell3 P)) (hk : k * 3 + 2 < n) :
    Filled (((w.setCell ⟨b, k * 3, none⟩ (.int .i64 (pid P k))).setCell ⟨b, k * 3 + 1, none⟩ (.int .i64 (pfr P k))).setCell ⟨b, k * 3 + 2, none⟩ (.int .i64 (pln P k))) b t n ((k + 1) * 3) (cell3 P) := by
  have h3 := ((h.push (by omega) (cell3_0 P k)).push (by omega) (cell3_1 P k)).push (by omega) (cell3_2 P k)
  rwa [show (k + 1) * 3 = k * 3 + 1 + 1 + 1 by omega]

/-- One change more. -/
theorem Filled.push4 {C : List T4} {k : Nat} (h : Filled w b t n (k * 4) (cell4 C)) (hk : k * 4 + 3 < n) :
    Filled ((((w.setCell ⟨b, k * 4, none⟩ (.int .i64 (cid C k))).setCell ⟨b, k * 4 + 1, none⟩ (.int .i64 (cfr C k))).setCell ⟨b, k * 4 + 2, none⟩ (.int .i64 (cln C k))).setCell ⟨b, k * 4 + 3, none⟩ (.bool (crm C k))) b t n ((k + 1) * 4) (cell4 C) := by
  have h3 := (((h.push (by omega) (cell4_0 C k)).push (by omega) (cell4_1 C k)).push (by omega) (cell4_2 C k)).push (by omega) (cell4_3 C k)
  rwa [show (k + 1) * 4 = k * 4 + 1 + 1 + 1 + 1 by omega]

theorem below_set3 {B : Nat} {w0 : World} (h : Below B w0 w) (hB : B ≤ b) (i j k : Nat) (x y z : Value) : Below B w0 (((w.setCell ⟨b, i, none⟩ x).setCell ⟨b, j, none⟩ y).setCell ⟨b, k, none⟩ z) :=
  ((h.setCell hB x).setCell hB y).setCell hB z

theorem below_set4 {B : Nat} {w0 : World} (h : Below B w0 w) (hB : B ≤ b) (i j k l : Nat) (x y z u : Value) : Below B w0 ((((w.setCell ⟨b, i, none⟩ x).setCell ⟨b, j, none⟩ y).setCell ⟨b, k, none⟩ z).setCell ⟨b, l, none⟩ u) :=
  (((h.setCell hB x).setCell hB y).setCell hB z).setCell hB u
end

end Go.Proofs.Qxb6000465aMods
