/-
  DERIVED. The walks of FnDecidesPlaceholdersAndVerdict and of its callees.
-/
import Derived.Test.Qxb6001549aModsRows
import Derived.WalkKit
import Derived.WalkSpells
import Derived.WalkLawsBesides
import Derived.Deep.QuietTactic
import Derived.BigQuiet
namespace Go.Proofs.Qxb6001549aMods
open Go.RowKit

theorem mkHid {p : Prop} (h : p) : Hid p := h

def cnt (l : List UInt8) (c : Int) : Int := (l.filter fun x => (x.toNat : Int) == c).length
theorem cnt_le (l : List UInt8) (c : Int) : 0 ≤ cnt l c ∧ cnt l c ≤ l.length := by
  unfold cnt; exact ⟨by omega, by have := List.length_filter_le (fun x : UInt8 => (x.toNat : Int) == c) l; omega⟩
theorem take_snoc (s : ByteArray) (k : Nat) (h : k < s.size) : s.data.toList.take (k + 1) = s.data.toList.take k ++ [s[k]] := by
  rw [List.take_succ_eq_append_getElem (by simpa using h)]; rfl
theorem cnt_snoc (l : List UInt8) (x : UInt8) (c : Int) : cnt (l ++ [x]) c = cnt l c + if (x.toNat : Int) = c then 1 else 0 := by
  unfold cnt
  rw [List.filter_append]
  by_cases h : (x.toNat : Int) = c <;> simp [h]

set_option maxHeartbeats 400000 in
theorem count_any (s : ByteArray) (c : Int) (w : World) (hs : s.size ≤ 1048576) :
    Calls Trym.prog 16 #[.string s, .int .u8 c] w fun e w' => e = .returned (.int .i64 (cnt s.data.toList c)) ∧ w' = w := by
  go_enter Trym.func16, Trym.ntmps16
  go_wp2
  go_loop [5, 6] (fun n i => ∃ k : Nat, k ≤ s.size ∧ i = .int .i64 k ∧ n = .int .i64 (cnt (s.data.toList.take k) c)) (fun _ i => s.size - (intOf i).toNat)
  case atStart => exact ⟨0, Nat.zero_le _, rfl, rfl⟩
  case round =>
    obtain ⟨k, hk, rfl, rfl⟩ := hrel
    have hd := cnt_le (s.data.toList.take k) c
    have hl : (s.data.toList.take k).length ≤ k := List.length_take_le _ _
    by_cases hlt : k < s.size
    · have HS : Hid (cnt (s.data.toList.take (k + 1)) c = cnt (s.data.toList.take k) c + if (s[k].toNat : Int) = c then 1 else 0) := by rw [take_snoc s k hlt]; exact cnt_snoc _ _ _
      by_cases he : (s[k].toNat : Int) = c
      · have he' : ((s[k].toNat : Int) == c) = true := by simpa using he
        have HE := mkHid he
        clear he
        go_wp2
        go_round
        case rel => exact ⟨k + 1, by omega, by go_num, by rw [HS.out, if_pos HE.out]⟩
        case measure => simp [intOf]; omega
      · have he' : ((s[k].toNat : Int) == c) = false := by simpa using he
        have HE := mkHid he
        clear he
        go_wp2
        go_round
        case rel => exact ⟨k + 1, by omega, by go_num, by rw [HS.out, if_neg HE.out]; go_num⟩
        case measure => simp [intOf]; omega
    · go_wp2
      go_ret
      exact ⟨by rw [List.take_of_length_le (by simp; omega)]; rfl, rfl⟩

/-- What 'decides' answers: a condition with two question marks, of a length that tells multi from single, and the verdict. -/
def DecOk (base : Nat) (multi : Bool) (v : Int) (e : Ending) : Prop :=
  ∃ s : ByteArray, e = .returned (.tuple #[.string s, .int .i64 v]) ∧ cnt s.data.toList 63 = 2 ∧ s.size = base + if multi then 42 else 0

def baseOf (op : ByteArray) : Nat := if (op.toList == [43]) = true ∨ (op.toList == [45]) = true then 23 else 29
def verdictOf (op : ByteArray) : Int := if (op.toList == [43]) = true then 1 else 0

theorem decides_any (op name value : ByteArray) (multi : Bool) (w : World) :
    Calls Trym.prog 18 #[.agg #[.string op, .string name, .string value], .bool multi] w fun e w' => DecOk (baseOf op) multi (verdictOf op) e ∧ w' = w.alloc (.cells #[.string op, .string name, .string value] 35) := by
  by_cases h1 : (op.toList == [43]) = true
  · have hb : baseOf op = 23 := by unfold baseOf; rw [if_pos (.inl h1)]
    have hv : verdictOf op = 1 := by unfold verdictOf; rw [if_pos h1]
    rw [hb, hv]
    clear hb hv
    cases multi with
    | true =>
      go_enter Trym.func18, Trym.ntmps18
      go_wp2
      go_ret2
      exact ⟨⟨_, rfl, by decide +kernel, by decide +kernel⟩, rfl⟩
    | false =>
      go_enter Trym.func18, Trym.ntmps18
      go_wp2
      go_ret2
      exact ⟨⟨_, rfl, by decide +kernel, by decide +kernel⟩, rfl⟩
  · have h1' : (op.toList == [43]) = false := by simpa using h1
    by_cases h2 : (op.toList == [45]) = true
    · have hb : baseOf op = 23 := by unfold baseOf; rw [if_pos (.inr h2)]
      have hv : verdictOf op = 0 := by unfold verdictOf; rw [if_neg h1]
      rw [hb, hv]
      clear hb hv h1
      cases multi with
      | true =>
        go_enter Trym.func18, Trym.ntmps18
        go_wp2
        go_ret2
        exact ⟨⟨_, rfl, by decide +kernel, by decide +kernel⟩, rfl⟩
      | false =>
        go_enter Trym.func18, Trym.ntmps18
        go_wp2
        go_ret2
        exact ⟨⟨_, rfl, by decide +kernel, by decide +kernel⟩, rfl⟩
    · have h2' : (op.toList == [45]) = false := by simpa using h2
      have hb : baseOf op = 29 := by unfold baseOf; rw [if_neg (by simp [h1, h2])]
      have hv : verdictOf op = 0 := by unfold verdictOf; rw [if_neg h1]
      rw [hb, hv]
      clear hb hv h1 h2
      cases multi with
      | true =>
        go_enter Trym.func18, Trym.ntmps18
        go_wp2
        go_ret2
        exact ⟨⟨_, rfl, by decide +kernel, by decide +kernel⟩, rfl⟩
      | false =>
        go_enter Trym.func18, Trym.ntmps18
        go_wp2
        go_ret2
        exact ⟨⟨_, rfl, by decide +kernel, by decide +kernel⟩, rfl⟩

theorem zzdecides_any (op name value : ByteArray) (multi : Bool) (w : World) :
    Calls Trym.prog 14 #[.string op, .string name, .string value, .bool multi] w fun e w' => DecOk (baseOf op) multi (verdictOf op) e ∧ w' = w.alloc (.cells #[.string op, .string name, .string value] 35) := by
  go_enter Trym.func14, Trym.ntmps14
  go_wp2_with fail
  refine (decides_any op name value multi w).mono ?_
  rintro e w1 ⟨⟨s, rfl, h1, h2⟩, hw⟩
  rw [hw]
  clear hw w1
  have H1 := mkHid h1
  have H2 := mkHid h2
  clear h1 h2
  go_wp2
  go_ret2
  exact ⟨⟨s, rfl, H1.out, H2.out⟩, rfl⟩

theorem zz_yes (op name value : ByteArray) (multi : Bool) (w : World) (h : op.size + name.size + value.size ≤ 1048576) :
    Calls Trym.prog 15 #[.string op, .string name, .string value, .bool multi] w fun e w' => e = .returned (.bool true) ∧ w' = w := by
  have h1 : op.size ≤ 1048576 := by omega
  have h2 : name.size ≤ 1048576 := by omega
  have h3 : value.size ≤ 1048576 := by omega
  have h4 : op.size + name.size ≤ 1048576 := by omega
  go_enter Trym.func15, Trym.ntmps15
  go_wp2
  go_ret
  exact ⟨rfl, rfl⟩

theorem zz_no (op name value : ByteArray) (multi : Bool) (w : World) (w0 : op.size ≤ maxLen) (w1 : name.size ≤ maxLen) (w2 : value.size ≤ maxLen) (h : ¬ op.size + name.size + value.size ≤ 1048576) :
    Calls Trym.prog 15 #[.string op, .string name, .string value, .bool multi] w fun e w' => e = .returned (.bool false) ∧ w' = w := by
  unfold maxLen at w0 w1 w2
  by_cases h1 : op.size ≤ 1048576
  · by_cases h2 : name.size ≤ 1048576
    · by_cases h4 : op.size + name.size ≤ 1048576
      · by_cases h3 : value.size ≤ 1048576
        · go_enter Trym.func15, Trym.ntmps15
          go_wp2
          go_ret
          exact ⟨rfl, rfl⟩
        · go_enter Trym.func15, Trym.ntmps15
          go_wp2
          go_ret
          exact ⟨rfl, rfl⟩
      · go_enter Trym.func15, Trym.ntmps15
        go_wp2
        go_ret
        exact ⟨rfl, rfl⟩
    · go_enter Trym.func15, Trym.ntmps15
      go_wp2
      go_ret
      exact ⟨rfl, rfl⟩
  · go_enter Trym.func15, Trym.ntmps15
    go_wp2
    go_ret
    exact ⟨rfl, rfl⟩

/-- Two strings of other lengths are other strings. -/
theorem ne_of_size {s t : ByteArray} (h : s.size ≠ t.size) : (s.toList == t.toList) = false := by
  rw [beq_eq_false_iff_ne]
  intro e
  rw [ByteArray.toList_eq, ByteArray.toList_eq] at e
  exact h (by have := congrArg List.length e; simpa using this)

set_option maxHeartbeats 800000 in
theorem walk_go (op name value : ByteArray) (multi : Bool) (w : World) (h : op.size + name.size + value.size ≤ 1048576) :
    Calls Trym.prog 7 #[.string op, .string name, .string value, .bool multi] w fun e w' => e = .returned (.bool true) ∧ Grown w w' := by
  have hop : (op.toList == [43]) = true ∨ (op.toList == [43]) = false := by cases (op.toList == [43]) <;> simp
  have hb1 : baseOf op ≤ 29 := by unfold baseOf; split <;> omega
  go_enter Trym.func7, Trym.ntmps7
  go_wp2_with fail
  refine (zz_yes op name value multi w h).mono ?_
  rintro e w1 ⟨rfl, hw⟩
  rw [hw]
  clear hw w1
  go_wp2_with fail
  refine (zzdecides_any op name value multi w).mono ?_
  rintro e w1 ⟨⟨s, rfl, hs1, hs2⟩, hw⟩
  rw [hw]
  clear hw w1
  have Hs1 := mkHid hs1
  have Hs2 := mkHid hs2
  clear hs1 hs2
  go_wp2_with fail
  refine (zzdecides_any op name value (!multi) _).mono ?_
  rintro e w1 ⟨⟨t, rfl, ht1, ht2⟩, hw⟩
  rw [hw]
  clear hw w1
  have Ht1 := mkHid ht1
  have hst : (s.toList == t.toList) = false := ne_of_size (by have := Hs2.out; cases multi <;> simp_all)
  have hsz : s.size ≤ 1048576 := by have := Hs2.out; have h4 : (if multi = true then 42 else 0) ≤ 42 := by split <;> omega
                                    omega
  have htz : t.size ≤ 1048576 := by have h4 : (if (!multi) = true then 42 else 0) ≤ 42 := by split <;> omega
                                    omega
  clear ht1 ht2 Hs2
  rcases hop with hop | hop
  · have hv : verdictOf op = 1 := by unfold verdictOf; rw [if_pos hop]
    rw [hv]
    clear hv
    go_wp2_with fail
    refine (count_any s 63 _ hsz).mono ?_
    rintro e w1 ⟨rfl, hw⟩
    rw [hw, Hs1.out]
    clear hw w1
    go_wp2_with fail
    refine (count_any t 63 _ htz).mono ?_
    rintro e w1 ⟨rfl, hw⟩
    rw [hw, Ht1.out]
    clear hw w1
    go_wp2
    go_ret
    exact ⟨rfl, ((Grown.refl _).alloc _ _).alloc _ _⟩
  · have hv : verdictOf op = 0 := by unfold verdictOf; rw [if_neg (by simp [hop])]
    rw [hv]
    clear hv
    go_wp2_with fail
    refine (count_any s 63 _ hsz).mono ?_
    rintro e w1 ⟨rfl, hw⟩
    rw [hw, Hs1.out]
    clear hw w1
    go_wp2_with fail
    refine (count_any t 63 _ htz).mono ?_
    rintro e w1 ⟨rfl, hw⟩
    rw [hw, Ht1.out]
    clear hw w1
    go_wp2
    go_ret
    exact ⟨rfl, ((Grown.refl _).alloc _ _).alloc _ _⟩

theorem walk_long (op name value : ByteArray) (multi : Bool) (w : World) (w0 : op.size ≤ maxLen) (w1 : name.size ≤ maxLen) (w2 : value.size ≤ maxLen) (h : ¬ op.size + name.size + value.size ≤ 1048576) :
    Calls Trym.prog 7 #[.string op, .string name, .string value, .bool multi] w fun e w' => e = .returned (.bool true) ∧ Grown w w' := by
  go_enter Trym.func7, Trym.ntmps7
  go_wp2_with fail
  refine (zz_no op name value multi w w0 w1 w2 h).mono ?_
  rintro e w1 ⟨rfl, hw⟩
  rw [hw]
  clear hw w1
  go_wp2
  go_ret
  exact ⟨rfl, Grown.refl _⟩

end Go.Proofs.Qxb6001549aMods
