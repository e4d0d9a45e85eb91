/-
  DERIVED. 'Rows.FnStringEndBoundsSaid' PROVED: the guide's shell, its hole filled by 'walk' over the callees' contracts (Base, End).
-/
import Derived.Test.Qxb6001117aModsEnd
import Derived.WalkKit
import Derived.ProofKit
import Derived.OpenShut
import Derived.ShutString
import Derived.ChangeOld
import Derived.Below
namespace Go.Proofs.Qxb6001117aMods.fnStringEndBounds
open Go.ChangeShapes Go.WideShapes Go.ChangeAt Go.RowKit
open Go.ChangeMaps (open_string shut_string)
set_option linter.unusedVariables false

theorem own : ownKnob Trym.prog.godebug = none := by kernel_rfl
theorem laidOut : laidOutB Trym.prog = true := by kernel_rfl

/-- WHAT THE WALK IS TOLD OF A SLICE OF INTEGERS THAT CAME IN: it is nil; or it leads to a row of 'cap' cells, the numbers 'zs' (the first 'len' are its elements, the rest its spare room), each fitting its kind. -/
def IsRow (k : IntKind) (w : World) (a : Option Addr) (len cap : Nat) (zs : List Int) : Prop :=
  (a = none ∧ len = 0 ∧ cap = 0 ∧ zs = []) ∨
  ∃ x, a = some x ∧ len ≤ cap ∧ cap ≤ maxLen ∧ zs.length = cap ∧ (∀ i, i < zs.length → w.cell? (x.add i) = some (.int k (zs.getD i 0))) ∧ ∀ n ∈ zs, (Lit.int k n).wf = true

def byteAt (zs : List Int) (k : Nat) : Int := zs.getD k 0

theorem byteAt_range {zs : List Int} (h : ∀ n ∈ zs, (Lit.int .u8 n).wf = true) (k : Nat) : 0 ≤ byteAt zs k ∧ byteAt zs k < 256 := by
  unfold byteAt
  rw [List.getD_eq_getElem?_getD]
  by_cases hk : k < zs.length
  · have := bounds_u8 (h _ (List.getElem_mem hk))
    rw [List.getElem?_eq_getElem hk, Option.getD_some]
    omega
  · rw [List.getElem?_eq_none (by omega), Option.getD_none]
    omega

/-- ZZStringEnd hands stringEnd's answer on. -/
theorem zz_end (b n c off : Nat) (D : Nat → Int) (w : World) (hn : n ≤ 1048576) (hnc : n ≤ c) (ho : off < n) (hD : ∀ k, 0 ≤ D k ∧ D k < 256) (hc : ∀ i, i < n → w.cell? ⟨b, 0 + i, none⟩ = some (.int .u8 (D i))) :
    Calls Trym.prog 12 #[.slice (some ⟨b, 0, none⟩) n c, .int .i64 off] w fun e w' => EndOk D n off e ∧ Below w.heap.size w w' := by
  have E := mkHid (end_at b 0 n c off D w hn hnc ho hD hc)
  clear hD hc
  go_enter Trym.func12, Trym.ntmps12
  go_wp2_with fail
  refine E.out.mono ?_
  rintro e w1 ⟨⟨r, rfl, hr⟩, hb⟩
  have HR := mkHid hr
  clear hr
  go_wp2
  go_ret
  exact ⟨⟨r, rfl, HR.out⟩, hb⟩

set_option maxHeartbeats 800000 in
theorem walk_at (b o n c off : Nat) (D : Nat → Int) (w : World) (hn : n ≤ 1048576) (hnc : n ≤ c) (ho : off < n) (hD : ∀ k, 0 ≤ D k ∧ D k < 256) (hc : ∀ i, i < n → w.cell? ⟨b, o + i, none⟩ = some (.int .u8 (D i))) :
    Calls Trym.prog 3 #[.slice (some ⟨b, o, none⟩) n c, .int .i64 off] w fun e w' => e = .returned (.bool true) ∧ Below w.heap.size w w' := by
  have HD := mkHid hD
  have HC := mkHid hc
  have c0 := hc off ho
  clear hD hc
  go_enter Trym.func3, Trym.ntmps3
  go_wp2_with fail
  refine (zz_yes _ n c off w hn).mono ?_
  rintro e w1 ⟨rfl, hw⟩
  rw [hw]
  clear hw w1
  go_wp2_with fail
  refine (quote_any (D off) w).mono ?_
  rintro e w1 ⟨⟨r, rfl⟩, hw⟩
  rw [hw]
  clear hw w1
  cases r with
  | false =>
    go_wp2
    go_ret
    exact ⟨rfl, Below.refl _ _⟩
  | true =>
    go_wp2_with fail
    refine (clone_at b o c n D w hn HC.out).mono ?_
    rintro e w1 ⟨rfl, hf, hb⟩
    have HF := mkHid hf
    have d0 := hf.cell ho
    clear hf c0 HC
    go_wp2_with fail
    refine (zz_end w.heap.size n n off D w1 hn (Nat.le_refl _) ho HD.out (fun i hi => by rw [Nat.zero_add]; exact HF.out.cell hi)).mono ?_
    rintro e w2 ⟨⟨r, rfl, h1, h2, h3⟩, hb2⟩
    have hb3 : Below w.heap.size w w2 := hb.trans (hb2.mono hb.size)
    by_cases hr : r < n
    · obtain ⟨h4, k, rfl, hk⟩ := h3 hr
      have dk := cell_below hb2 (HF.out.cell (show k < n by omega))
      have hne : (D k != D off) = false := by simpa using hk
      clear h3 hk d0 hb hb2
      go_wp2
      go_ret
      exact ⟨rfl, hb3⟩
    · clear h3 d0 hb hb2
      go_wp2
      go_ret
      exact ⟨rfl, hb3⟩

/-- The length is too great. -/
theorem walk_long (a0 : Option Addr) (len0 cap0 : Nat) (a1 : Int) (w : World) (hm : len0 ≤ maxLen) (h : ¬ len0 ≤ 1048576) :
    Calls Trym.prog 3 #[.slice a0 len0 cap0, .int .i64 a1] w fun e w' => e = .returned (.bool true) ∧ Below w.heap.size w w' := by
  go_enter Trym.func3, Trym.ntmps3
  go_wp2_with fail
  refine (zz_no _ len0 cap0 a1 w hm h).mono ?_
  rintro e w1 ⟨rfl, hw⟩
  rw [hw]
  clear hw w1
  go_wp2
  go_ret
  exact ⟨rfl, Below.refl _ _⟩

/-- The offset lies outside. -/
theorem walk_out (a0 : Option Addr) (len0 cap0 : Nat) (a1 : Int) (w : World) (h : len0 ≤ 1048576) (ho : ¬ (0 ≤ a1 ∧ a1 < len0)) :
    Calls Trym.prog 3 #[.slice a0 len0 cap0, .int .i64 a1] w fun e w' => e = .returned (.bool true) ∧ Below w.heap.size w w' := by
  by_cases h0 : a1 < 0
  · clear ho
    go_enter Trym.func3, Trym.ntmps3
    go_wp2_with fail
    refine (zz_yes _ len0 cap0 a1 w h).mono ?_
    rintro e w1 ⟨rfl, hw⟩
    rw [hw]
    clear hw w1
    go_wp2
    go_ret
    exact ⟨rfl, Below.refl _ _⟩
  · have h1 : (len0 : Int) ≤ a1 := by omega
    clear ho
    go_enter Trym.func3, Trym.ntmps3
    go_wp2_with fail
    refine (zz_yes _ len0 cap0 a1 w h).mono ?_
    rintro e w1 ⟨rfl, hw⟩
    rw [hw]
    clear hw w1
    go_wp2
    go_ret
    exact ⟨rfl, Below.refl _ _⟩

theorem walk (a0 : Option Addr) (len0 cap0 : Nat) (z0 : List Int) (a1 : Int) (w : World) (w0 : IsRow .u8 w a0 len0 cap0 z0) (w1 : (Lit.int .i64 a1).wf = true) :
    Calls Trym.prog 3 #[.slice a0 len0 cap0, .int .i64 a1] w fun e w' => e = .returned (.bool true) ∧ Below w.heap.size w w' := by
  rcases w0 with ⟨rfl, rfl, rfl, rfl⟩ | ⟨x, rfl, hl, hm, hz, hcell, hwz⟩
  · exact walk_out none 0 0 a1 w (by omega) (by omega)
  · by_cases h : len0 ≤ 1048576
    · by_cases ho : 0 ≤ a1 ∧ a1 < len0
      · obtain ⟨off, rfl⟩ := Int.eq_ofNat_of_zero_le ho.1
        obtain ⟨b, o, spot⟩ := x
        have hspot : spot = none := by simpa [Addr.add] using World.cell?_spot (hcell 0 (by omega))
        subst hspot
        exact walk_at b o len0 cap0 off (byteAt z0) w h hl (by omega) (byteAt_range hwz) (fun i hi => by rw [← add_plain]; exact hcell i (by omega))
      · exact walk_out _ len0 cap0 a1 w h ho
    · exact walk_long _ len0 cap0 a1 w (Nat.le_trans hl hm) h

/-! ### THE ROW's STEP: WRITTEN OUT: LEAVE IT -/
set_option maxRecDepth 100000 in
theorem lifted (os : Os) (started : os.Started) (H : Type) (enc : TypeId × Value → H) :
    ReturnsInHanded {} Trym.checked os 3 .any (Rows.fnStringEndBoundsSpec.pre6 enc Trym.prog Trym.f3 Rows.fnStringEndBoundsRow.domain false) (Rows.fnStringEndBoundsSpec.post enc Trym.prog Trym.f3 false true false false) := by
  refine returnsInHanded_of_change (C := Trym.checked) own started (by kernel_rfl) Trym.func3
    (ChangeSpec.witness6 (enc := enc) (C := Trym.checked) false ⟨#[], #[.slice none 0 0, .int .i64 0], []⟩ 8 (by kernel_rfl) (by kernel_rfl) (by kernel_rfl) (by kernel_rfl)) ?_
  intro W base args ds gs before hval0 hW hcnd _
  have hval : ∀ (j : Nat) t v, Trym.f3.params[j]? = some t → args[j]? = some v → Value.okWide Trym.prog W .any base t v := hval0
  have hW' := hW
  obtain ⟨p, q, hA0, hV, rfl, hfz, hnd⟩ := hW
  have hA : DataW.TrodAll enc Trym.prog W 0 (fun _ => true) true Trym.f3.params.toList args.toList ds p := hA0
  rw [Trym.params3] at hA hval
  obtain ⟨v0, vs0, d0, ds0, p0, q0, hargs, rfl, rfl, h0, r0⟩ := trodAll_cons hA
  obtain ⟨v1, vs1, d1, ds1, p1, q1, rfl, rfl, rfl, h1, r1⟩ := trodAll_cons r0
  obtain ⟨rfl, rfl, rfl⟩ := trodAll_nil r1
  obtain rfl : args = #[v0, v1] := by cases args; simp_all
  obtain ⟨rfl, rfl⟩ := trodVars_none hV
  obtain ⟨a0, len0, cap0, rfl⟩ := okWide_slice Trym.underlying22 (hval 0 22 v0 rfl rfl)
  have k0 := h0
  have lt0 : ∀ x ∈ p0, x.block < W.heap.size := by obtain ⟨m, hm⟩ := k0; exact DataW.trod_lt m _ _ _ hm
  obtain ⟨z0, w0⟩ : ∃ zs, IsRow .u8 W a0 len0 cap0 zs := by
    obtain ⟨fuel, hf⟩ := h0
    rcases open_ints Trym.underlying22 Trym.underlying5 (by kernel_rfl) hf with ⟨hcs, _⟩ | ⟨x, l, c, zs, hcs, _, hl, hm, hz, _, hcell, hwz⟩
    · simp [Value.cells] at hcs
      obtain ⟨rfl, rfl, rfl⟩ := hcs
      exact ⟨[], .inl ⟨rfl, rfl, rfl, rfl⟩⟩
    · simp [Value.cells] at hcs
      obtain ⟨rfl, rfl, rfl⟩ := hcs
      exact ⟨zs, .inr ⟨_, rfl, hl, hm, by simpa using hz, hcell, hwz⟩⟩
  obtain ⟨a1, rfl, rfl, rfl, w1⟩ := open_int Trym.underlying3 (hval 1 3 v1 rfl rfl) h1
  clear hA0 hval0
  refine (walk a0 len0 cap0 z0 a1 W w0 w1).mono fun e W' ⟨he, bel⟩ => ?_
  subst he
  exact ⟨_, rfl, _, _, _, [], _, [], hW', trodAll_mk1 (shut_bool Trym.underlying4 _), (trodAll_cons_mk (Below.trod laidOut (by kernel_rfl) (of_decide_eq_true (by kernel_rfl)) k0 bel lt0) (trodAll_cons_mk (shut_int Trym.underlying3 w1) trodAll_mk0)), rfl, bel.frame _, fun h => by cases h⟩

theorem over : Rows.fnStringEndBoundsRow.holds Trym.pinned (OpenSpec.ofChange Rows.fnStringEndBoundsSpec) :=
  OpenClaim.holds_of_wide 3 Trym.f3 rfl rfl rfl rfl rfl rfl rfl ⟨rfl, rfl, rfl, rfl, rfl⟩ rfl rfl rfl rfl rfl (by kernel_rfl) Trym.func3 (by kernel_rfl)
    (of_decide_eq_true (by kernel_rfl)) (by unfold Func.isWrapper; first | (rw [if_pos (by decide +kernel)]; kernel_rfl) | (rw [if_neg (by decide +kernel)]; exact ⟨rfl, rfl⟩))
    (fun os started H enc _ => lifted os started H enc)

/-- THE STATEMENT -/
theorem proved : Rows.FnStringEndBoundsSaid := over
end Go.Proofs.Qxb6001117aMods.fnStringEndBounds

namespace Go.Proofs.Qxb6001117aMods
/-- THE STATEMENT, by the name that the claim gives. -/
theorem fnStringEndBounds_proved : Rows.FnStringEndBoundsSaid := fnStringEndBounds.proved
end Go.Proofs.Qxb6001117aMods
