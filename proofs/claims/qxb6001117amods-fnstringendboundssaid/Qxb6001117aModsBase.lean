/-
  DERIVED. The small callees of FnStringEndBounds: zzBytes, zzb1IsQuote, zzb1Clone, bytes.Equal and bytes.HasPrefix at three bytes.
-/
import Derived.Test.Qxb6001117aModsRows
import Derived.WalkKit
import Derived.WalkSpells
import Derived.WalkLawsBesides
import Derived.Deep.QuietTactic
import Derived.BigQuiet
namespace Go.Proofs.Qxb6001117aMods
open Go.RowKit

theorem mkHid {p : Prop} (h : p) : Hid p := h

theorem cell_below {w w' : World} (hb : Below w.heap.size w w') {a : Addr} {v : Value} (h : w.cell? a = some v) : w'.cell? a = some v :=
  (hb.cell (World.block_lt_of_cell? w a h)).trans h

/-- Block b is a row of n cells of type t, none frozen; its first m cells hold f. -/
def Filled (w : World) (b : Nat) (t : TypeId) (n m : Nat) (f : Nat → Value) : Prop :=
  ∃ cur : Array Value, w.heap[b]? = some (.cells cur t (0, 0)) ∧ cur.size = n ∧ ∀ j, j < m → cur[j]? = some (f j)

section
variable {w : World} {b : Nat} {t : TypeId} {n m : Nat} {f : Nat → Value}

theorem Filled.start {base : Nat} {e : TypeId} {size n : Nat} {v : Value} {b : Nat} {xs : List Value} (h : w.ownsRow base e size v n xs) (hv : v = .slice (some ⟨b, 0, none⟩) n n) (f : Nat → Value) :
    Filled w b e (n * size) 0 f := by
  rcases h.2 with ⟨h1, _⟩ | ⟨g, cap, cur, h1, _, hg, _, _, hs, _⟩
  · rw [hv] at h1; cases h1
  · rw [hv] at h1; cases h1
    exact ⟨cur, hg, hs, fun j hj => absurd hj (by omega)⟩

theorem Filled.cell (h : Filled w b t n m f) {j : Nat} (hj : j < m) : w.cell? ⟨b, j, none⟩ = some (f j) := by
  obtain ⟨cur, hg, _, hf⟩ := h
  simp [World.cell?, hg, hf j hj]

theorem Filled.old (h : Filled w b t n m f) {j : Nat} (hj : j < n) : ∃ v, w.cell? ⟨b, j, none⟩ = some v := by
  obtain ⟨cur, hg, hs, hf⟩ := h
  exact ⟨cur[j]'(by omega), by simp [World.cell?, hg, hs, hj]⟩

theorem Filled.frozen (h : Filled w b t n m f) (j : Nat) : w.frozen? ⟨b, j, none⟩ = false := by
  obtain ⟨cur, hg, hs, hf⟩ := h
  simp [World.frozen?, hg]

/-- The next cell is stored. -/
theorem Filled.push (h : Filled w b t n m f) (hm : m < n) {v : Value} (hv : f m = v) : Filled (w.setCell ⟨b, m, none⟩ v) b t n (m + 1) f := by
  obtain ⟨c, hb, hn, hc⟩ := h
  refine ⟨c.setIfInBounds m v, ?_, by simpa using hn, fun j hj => ?_⟩
  · simp [World.setCell, Array.getElem?_modify, hb]
  · rw [Array.getElem?_setIfInBounds]
    by_cases e : m = j
    · subst e
      simp [hn, hm, hv]
    · rw [if_neg e]
      exact hc j (by omega)
end

theorem info5 : (Trym.prog.info? 5).map (fun i => (i.zero, i.size, i.bytes)) = some (some (.int .u8 0), 1, 1) := by kernel_rfl

theorem zz_yes (a : Option Addr) (n c : Nat) (off : Int) (w : World) (h : n ≤ 1048576) :
    Calls Trym.prog 9 #[.slice a n c, .int .i64 off] w fun e w' => e = .returned (.bool true) ∧ w' = w := by
  go_enter Trym.func9, Trym.ntmps9
  go_wp2
  go_ret
  exact ⟨rfl, rfl⟩

theorem zz_no (a : Option Addr) (n c : Nat) (off : Int) (w : World) (hn : n ≤ maxLen) (h : ¬ n ≤ 1048576) :
    Calls Trym.prog 9 #[.slice a n c, .int .i64 off] w fun e w' => e = .returned (.bool false) ∧ w' = w := by
  unfold maxLen at hn
  go_enter Trym.func9, Trym.ntmps9
  go_wp2
  go_ret
  exact ⟨rfl, rfl⟩

def SomeBool (e : Ending) : Prop := ∃ r : Bool, e = .returned (.bool r)

theorem quote_any (x : Int) (w : World) : Calls Trym.prog 10 #[.int .u8 x] w fun e w' => SomeBool e ∧ w' = w := by
  by_cases h : x = 34
  · have h' : (x == 34) = true := by simpa using h
    clear h
    go_enter Trym.func10, Trym.ntmps10
    go_wp2
    go_ret
    exact ⟨⟨_, rfl⟩, rfl⟩
  · have h' : (x == 34) = false := by simpa using h
    clear h
    go_enter Trym.func10, Trym.ntmps10
    go_wp2
    go_ret
    exact ⟨⟨_, rfl⟩, rfl⟩

set_option maxHeartbeats 400000 in
theorem clone_at (b off c n : Nat) (D : Nat → Int) (w : World) (hN : n ≤ 1048576) (hc : ∀ k, k < n → w.cell? ⟨b, off + k, none⟩ = some (.int .u8 (D k))) :
    Calls Trym.prog 11 #[.slice (some ⟨b, off, none⟩) n c] w fun e w' => e = .returned (.slice (some ⟨w.heap.size, 0, none⟩) n n) ∧ Filled w' w.heap.size 5 n n (fun k => .int .u8 (D k)) ∧ Below w.heap.size w w' := by
  obtain ⟨i0, hi, hz0, hz1, hz2⟩ := info_parts info5
  have q22 : ∀ (w : World) (a : Option Addr) (n c n' c' : Nat), (binOp .eql 22 (.slice a n c) (.slice none n' c')).run Trym.prog w = .ok (.bool a.isNone) w := fun w a n c n' c' => Lib.run_eql_slice_nil w _ _ a n c n' c' Trym.underlying22
  go_enter Trym.func11, Trym.ntmps11
  go_wp2_with (at_make; refine wpList_make_full _ rfl _ _ 22 rfl w.heap.size 5 i0 _ 1 Trym.underlying22 hi hz0 hz1 _ _ _ _ n rfl rfl rfl rfl ?b2 ?b3 (Nat.le_refl _) ?_)
  case b2 => rw [hz2]; omega
  case b3 => unfold maxLen; omega
  intro w0 hown0 hgrow0
  go_wp2
  have hf0 : Filled w0 w.heap.size 5 n 0 (fun k => .int .u8 (D k)) := by
    have := Filled.start (b := w.heap.size) hown0 rfl (fun k => .int .u8 (D k))
    rwa [Nat.mul_one] at this
  have hb0 : Below w.heap.size w w0 := (Below.refl _ _).grown hgrow0 (Nat.le_refl _) (fun k h => by cases h)
  clear hown0 hgrow0
  go_loopw [4] (fun i wr => ∃ k : Nat, k ≤ n ∧ i = .int .i64 k ∧ Filled wr w.heap.size 5 n k (fun k => .int .u8 (D k)) ∧ Below w.heap.size w wr) (fun i _ => n - (intOf i).toNat)
  case atStart => exact ⟨0, by omega, rfl, hf0, hb0⟩
  case round =>
    obtain ⟨k, hk, rfl, hf, hb⟩ := hrel
    by_cases hlt : k < n
    · have c1 := cell_below hb (hc k hlt)
      obtain ⟨o1, d1⟩ := hf.old (j := k) (by omega)
      have f1 := hf.frozen k
      clear hc hf0
      go_wp2
      go_roundw
      case rel => exact ⟨k + 1, by omega, by go_num, hf.push (by omega) rfl, hb.setCell (Nat.le_refl _) _⟩
      case measure => simp [intOf]; omega
    · obtain rfl : k = n := by omega
      clear hc hf0
      go_wp2
      go_ret
      exact ⟨rfl, hf, hb⟩

/-- What an equality of three bytes says of the last. -/
def EqOk (x y : Int) (e : Ending) : Prop := ∃ r : Bool, e = .returned (.bool r) ∧ (r = true → x = y)

theorem strOf3 (x0 x1 x2 y0 y1 y2 : Int) (hx : 0 ≤ x2 ∧ x2 < 256) (hy : 0 ≤ y2 ∧ y2 < 256) (h : (strOfNums [x0, x1, x2]).data.toList = (strOfNums [y0, y1, y2]).data.toList) : x2 = y2 := by
  rw [strOfNums_data, strOfNums_data] at h
  simp only [List.map_cons, List.map_nil, List.cons.injEq, and_true] at h
  have h2 := congrArg UInt8.toNat h.2.2
  simp only [UInt8.toNat_ofNat'] at h2
  omega

theorem equal3 (b1 o1 c1 b2 o2 c2 : Nat) (x0 x1 x2 y0 y1 y2 : Int) (w : World) (hx : 0 ≤ x2 ∧ x2 < 256) (hy : 0 ≤ y2 ∧ y2 < 256)
    (h1 : ∀ i, i < 3 → w.cell? ⟨b1, o1 + i, none⟩ = some (.int .u8 ([x0, x1, x2].getD i 0))) (h2 : ∀ i, i < 3 → w.cell? ⟨b2, o2 + i, none⟩ = some (.int .u8 ([y0, y1, y2].getD i 0))) :
    Calls Trym.prog 25 #[.slice (some ⟨b1, o1, none⟩) 3 c1, .slice (some ⟨b2, o2, none⟩) 3 c2] w fun e w' => EqOk x2 y2 e ∧ w' = w := by
  have k1 := run_convert_bytes_arg (P := Trym.prog) w 22 5 Trym.underlying22 Trym.underlying5 b1 o1 3 c1 [x0, x1, x2] rfl h1 9 Trym.underlying9
  have k2 := run_convert_bytes_arg (P := Trym.prog) w 22 5 Trym.underlying22 Trym.underlying5 b2 o2 3 c2 [y0, y1, y2] rfl h2 9 Trym.underlying9
  have Hs := mkHid (strOf3 x0 x1 x2 y0 y1 y2 hx hy)
  generalize strOfNums [x0, x1, x2] = s1 at *
  generalize strOfNums [y0, y1, y2] = s2 at *
  clear h1 h2 hx hy
  go_enter Trym.func25, Trym.ntmps25
  go_wp2
  go_ret
  exact ⟨⟨_, rfl, fun h => Hs.out (by rw [← ByteArray.toList_eq, ← ByteArray.toList_eq]; simpa using h)⟩, rfl⟩

/-- What HasPrefix at three equal bytes says where it says yes. -/
def PreOk (n : Nat) (x q : Int) (e : Ending) : Prop := ∃ r : Bool, e = .returned (.bool r) ∧ (r = true → 3 ≤ n ∧ x = q)

theorem prefix3 (b1 o1 n c1 b2 : Nat) (D : Nat → Int) (q : Int) (w : World) (hn : n ≤ 1048576) (hc : n ≤ c1) (hD : ∀ k, 0 ≤ D k ∧ D k < 256) (hq : 0 ≤ q ∧ q < 256)
    (h1 : ∀ i, i < n → w.cell? ⟨b1, o1 + i, none⟩ = some (.int .u8 (D i))) (h2 : ∀ i, i < 3 → w.cell? ⟨b2, 0 + i, none⟩ = some (.int .u8 ([q, q, q].getD i 0))) :
    Calls Trym.prog 23 #[.slice (some ⟨b1, o1, none⟩) n c1, .slice (some ⟨b2, 0, none⟩) 3 3] w fun e w' => PreOk n (D 2) q e ∧ w' = w := by
  by_cases h3 : 3 ≤ n
  · have e3 := equal3 b1 o1 c1 b2 0 3 (D 0) (D 1) (D 2) q q q w (hD 2) hq
      (fun i hi => by
        rw [h1 i (by omega)]
        match i, hi with
        | 0, _ => rfl
        | 1, _ => rfl
        | 2, _ => rfl) h2
    have E := mkHid e3
    have h3' : (3 : Int) ≤ (n : Int) := by omega
    clear e3 h1 h2 hD hq
    go_enter Trym.func23, Trym.ntmps23
    go_wp2_with fail
    refine E.out.mono ?_
    rintro e w' ⟨⟨r, rfl, hr⟩, hw⟩
    rw [hw]
    clear hw
    have HR := mkHid hr
    clear hr
    go_wp2
    go_ret
    exact ⟨⟨r, by cases r <;> rfl, fun h => ⟨h3, HR.out h⟩⟩, rfl⟩
  · clear h1 h2 hD hq
    go_enter Trym.func23, Trym.ntmps23
    go_wp2
    go_ret
    exact ⟨⟨false, rfl, fun h => by cases h⟩, rfl⟩

end Go.Proofs.Qxb6001117aMods
