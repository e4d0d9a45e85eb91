/-
  DERIVED. 'Rows.FnMergePostingsLastChangeDecidesSaid' PROVED: the row's frame (after the guide's shell for slices of integers, turned to two slices of structs) round the walk 'law_any'.
-/
import Derived.Test.Qxb6000465aModsLaw
import Derived.ProofKit
import Derived.OpenShut
import Derived.ShutString
import Derived.ChangeOld
import Derived.Deep.Slices
namespace Go.Proofs.Qxb6000465aMods
open Go.ChangeShapes Go.WideShapes Go.ChangeAt Go.RowKit
set_option linter.unusedVariables false

theorem own : ownKnob Trym.prog.godebug = none := by kernel_rfl
theorem laidOut : laidOutB Trym.prog = true := by kernel_rfl
theorem Trym.cells47 : Trym.prog.cellsOf 47 = 3 := by kernel_rfl
theorem Trym.cells52 : Trym.prog.cellsOf 52 = 4 := by kernel_rfl
theorem Trym.cells2 : Trym.prog.cellsOf 2 = 1 := by kernel_rfl
theorem Trym.cells3 : Trym.prog.cellsOf 3 = 1 := by kernel_rfl
theorem Trym.cells4 : Trym.prog.cellsOf 4 = 1 := by kernel_rfl

section
variable {H : Type} {enc : TypeId × Value → H} {w : World}

theorem open_posting {n : Nat} {a : Addr} {cs : List Value} {x : DataW H × List MemPlace} (hc : w.cells? 0 a 3 = some cs) (h : DataW.trod enc Trym.prog w 0 (fun _ => true) true n 47 cs = some x) :
    ∃ q : Int × Int × Int, w.cell? a = some (.int .i64 q.1) ∧ w.cell? (a.add 1) = some (.int .i64 q.2.1) ∧ w.cell? (a.add 2) = some (.int .i64 q.2.2) := by
  obtain ⟨_, hlen, hcell⟩ := World.cells?_some hc
  obtain ⟨xs, k, hk, hxy, _, hxl, hf⟩ := DataW.trod_struct Trym.underlying47 h
  match xs, hxl, cs, hlen with
  | [y0, y1, y2], _, [v0, v1, v2], _ =>
    have g0 := hf 0 _ rfl
    have g1 := hf 1 _ rfl
    have g2 := hf 2 _ rfl
    simp [Trym.cells2, Trym.cells3] at g0 g1 g2
    obtain ⟨n0, e0, _⟩ := DataW.trod_int Trym.underlying2 g0
    obtain ⟨n1, e1, _⟩ := DataW.trod_int Trym.underlying3 g1
    obtain ⟨n2, e2, _⟩ := DataW.trod_int Trym.underlying3 g2
    have e0' : v0 = .int .i64 n0 := by simpa using e0
    have e1' : v1 = .int .i64 n1 := by simpa using e1
    have e2' : v2 = .int .i64 n2 := by simpa using e2
    subst e0' e1' e2'
    have c0 := hcell 0 (by omega)
    have c1 := hcell 1 (by omega)
    have c2 := hcell 2 (by omega)
    exact ⟨(n0, n1, n2), by simpa [Addr.add] using c0, by simpa using c1, by simpa using c2⟩

theorem open_change {n : Nat} {a : Addr} {cs : List Value} {x : DataW H × List MemPlace} (hc : w.cells? 0 a 4 = some cs) (h : DataW.trod enc Trym.prog w 0 (fun _ => true) true n 52 cs = some x) :
    ∃ q : Int × Int × Int × Bool, w.cell? a = some (.int .i64 q.1) ∧ w.cell? (a.add 1) = some (.int .i64 q.2.1) ∧ w.cell? (a.add 2) = some (.int .i64 q.2.2.1) ∧ w.cell? (a.add 3) = some (.bool q.2.2.2) := by
  obtain ⟨_, hlen, hcell⟩ := World.cells?_some hc
  obtain ⟨xs, k, hk, hxy, _, hxl, hf⟩ := DataW.trod_struct Trym.underlying52 h
  match xs, hxl, cs, hlen with
  | [y0, y1, y2, y3], _, [v0, v1, v2, v3], _ =>
    have g0 := hf 0 _ rfl
    have g1 := hf 1 _ rfl
    have g2 := hf 2 _ rfl
    have g3 := hf 3 _ rfl
    simp [Trym.cells2, Trym.cells3, Trym.cells4] at g0 g1 g2 g3
    obtain ⟨n0, e0, _⟩ := DataW.trod_int Trym.underlying2 g0
    obtain ⟨n1, e1, _⟩ := DataW.trod_int Trym.underlying3 g1
    obtain ⟨n2, e2, _⟩ := DataW.trod_int Trym.underlying3 g2
    obtain ⟨n3, e3, _⟩ := DataW.trod_bool Trym.underlying4 g3
    have e0' : v0 = .int .i64 n0 := by simpa using e0
    have e1' : v1 = .int .i64 n1 := by simpa using e1
    have e2' : v2 = .int .i64 n2 := by simpa using e2
    have e3' : v3 = .bool n3 := by simpa using e3
    subst e0' e1' e2' e3'
    have c0 := hcell 0 (by omega)
    have c1 := hcell 1 (by omega)
    have c2 := hcell 2 (by omega)
    have c3 := hcell 3 (by omega)
    exact ⟨(n0, n1, n2, n3), by simpa [Addr.add] using c0, by simpa using c1, by simpa using c2, by simpa using c3⟩

theorem open_row3 {fuel : Nat} {a : Option Addr} {len cap : Nat} {x : DataW H × List MemPlace} (h : DataW.trod enc Trym.prog w 0 (fun _ => true) true fuel 33 [.slice a len cap] = some x) :
    len ≤ maxLen ∧ (a = none → cap = 0) ∧ ∃ S : List T3, len = S.length ∧ Row3 w a S := by
  rcases Deep.open_slice Trym.underlying33 h with ⟨hcs, _⟩ | ⟨b, l, c, m, n, D, Pl, hcs, _, hl, hm, hmm, _, hx⟩
  · simp at hcs
    obtain ⟨rfl, rfl, rfl⟩ := hcs
    exact ⟨by unfold maxLen; omega, fun _ => rfl, [], rfl, .inl rfl⟩
  · simp at hcs
    obtain ⟨rfl, rfl, rfl⟩ := hcs
    simp only [if_true] at hmm
    subst hmm
    rw [Trym.cells47] at hx
    obtain ⟨f, hf⟩ := Deep.choose_lt (α := Int × Int × Int) (n := m) (p := fun i q => w.cell? (b.add (i * 3)) = some (.int .i64 q.1) ∧ w.cell? ((b.add (i * 3)).add 1) = some (.int .i64 q.2.1) ∧ w.cell? ((b.add (i * 3)).add 2) = some (.int .i64 q.2.2))
      (fun i hi => by obtain ⟨cs', h1, h2⟩ := hx i hi; exact open_posting h1 h2)
    refine ⟨by unfold maxLen at hm ⊢; omega, fun h => (by cases h), (List.range len).map fun i => ⟨(f i).1, (f i).2.1, (f i).2.2⟩, by simp, ?_⟩
    by_cases h0 : len = 0
    · exact .inl (by simp [h0])
    · obtain ⟨b, off, spot⟩ := b
      have hspot : spot = none := by simpa [Addr.add] using World.cell?_spot (hf 0 (by omega)).1
      subst hspot
      refine .inr ⟨b, off, rfl, fun k hk => ?_⟩
      have hk' : k < len := by simpa using hk
      obtain ⟨c0, c1, c2⟩ := hf k (by omega)
      rw [Deep.add_add, add_plain] at c1 c2
      rw [add_plain] at c0
      have hp : pat ((List.range len).map fun i => (⟨(f i).1, (f i).2.1, (f i).2.2⟩ : T3)) k = ⟨(f k).1, (f k).2.1, (f k).2.2⟩ := by
        unfold pat; simp [hk']
      unfold pid pfr pln
      rw [hp]
      exact ⟨c0, by rw [Nat.add_assoc]; exact c1, by rw [Nat.add_assoc]; exact c2⟩

theorem open_row4 {fuel : Nat} {a : Option Addr} {len cap : Nat} {x : DataW H × List MemPlace} (h : DataW.trod enc Trym.prog w 0 (fun _ => true) true fuel 34 [.slice a len cap] = some x) :
    len ≤ maxLen ∧ (a = none → cap = 0) ∧ ∃ C : List T4, len = C.length ∧ Row4 w a C := by
  rcases Deep.open_slice Trym.underlying34 h with ⟨hcs, _⟩ | ⟨b, l, c, m, n, D, Pl, hcs, _, hl, hm, hmm, _, hx⟩
  · simp at hcs
    obtain ⟨rfl, rfl, rfl⟩ := hcs
    exact ⟨by unfold maxLen; omega, fun _ => rfl, [], rfl, .inl rfl⟩
  · simp at hcs
    obtain ⟨rfl, rfl, rfl⟩ := hcs
    simp only [if_true] at hmm
    subst hmm
    rw [Trym.cells52] at hx
    obtain ⟨f, hf⟩ := Deep.choose_lt (α := Int × Int × Int × Bool) (n := m) (p := fun i q => w.cell? (b.add (i * 4)) = some (.int .i64 q.1) ∧ w.cell? ((b.add (i * 4)).add 1) = some (.int .i64 q.2.1) ∧ w.cell? ((b.add (i * 4)).add 2) = some (.int .i64 q.2.2.1) ∧ w.cell? ((b.add (i * 4)).add 3) = some (.bool q.2.2.2))
      (fun i hi => by obtain ⟨cs', h1, h2⟩ := hx i hi; exact open_change h1 h2)
    refine ⟨by unfold maxLen at hm ⊢; omega, fun h => (by cases h), (List.range len).map fun i => ⟨(f i).1, (f i).2.1, (f i).2.2.1, (f i).2.2.2⟩, by simp, ?_⟩
    by_cases h0 : len = 0
    · exact .inl (by simp [h0])
    · obtain ⟨b, off, spot⟩ := b
      have hspot : spot = none := by simpa [Addr.add] using World.cell?_spot (hf 0 (by omega)).1
      subst hspot
      refine .inr ⟨b, off, rfl, fun k hk => ?_⟩
      have hk' : k < len := by simpa using hk
      obtain ⟨c0, c1, c2, c3⟩ := hf k (by omega)
      rw [Deep.add_add, add_plain] at c1 c2 c3
      rw [add_plain] at c0
      have hp : cat ((List.range len).map fun i => (⟨(f i).1, (f i).2.1, (f i).2.2.1, (f i).2.2.2⟩ : T4)) k = ⟨(f k).1, (f k).2.1, (f k).2.2.1, (f k).2.2.2⟩ := by
        unfold cat; simp [hk']
      unfold cid cfr cln crm
      rw [hp]
      exact ⟨c0, by rw [Nat.add_assoc]; exact c1, by rw [Nat.add_assoc]; exact c2, by rw [Nat.add_assoc]; exact c3⟩
end

set_option maxRecDepth 100000 in
theorem lifted (os : Os) (started : os.Started) (H : Type) (enc : TypeId × Value → H) :
    ReturnsInHanded {} Trym.checked os 8 .any (Rows.fnMergePostingsLastChangeDecidesSpec.pre6 enc Trym.prog Trym.f8 Rows.fnMergePostingsLastChangeDecidesRow.domain false) (Rows.fnMergePostingsLastChangeDecidesSpec.post enc Trym.prog Trym.f8 false true false false) := by
  refine returnsInHanded_of_change (C := Trym.checked) own started (by kernel_rfl) Trym.func8
    (ChangeSpec.witness6 (enc := enc) (C := Trym.checked) false ⟨#[], #[.slice none 0 0, .slice none 0 0], []⟩ 8 (by kernel_rfl) (by kernel_rfl) (by kernel_rfl) (by kernel_rfl)) ?_
  intro W base args ds gs before hval0 hW hcnd _
  have hval : ∀ (j : Nat) t v, Trym.f8.params[j]? = some t → args[j]? = some v → Value.okWide Trym.prog W .any base t v := hval0
  have hW' := hW
  obtain ⟨p, q, hA0, hV, rfl, hfz, hnd⟩ := hW
  have hA : DataW.TrodAll enc Trym.prog W 0 (fun _ => true) true Trym.f8.params.toList args.toList ds p := hA0
  rw [Trym.params8] at hA hval
  obtain ⟨v0, vs0, d0, ds0, p0, q0, hargs, rfl, rfl, h0, r0⟩ := trodAll_cons hA
  obtain ⟨v1, vs1, d1, ds1, p1, q1, rfl, rfl, rfl, h1, r1⟩ := trodAll_cons r0
  obtain ⟨rfl, rfl, rfl⟩ := trodAll_nil r1
  obtain rfl : args = #[v0, v1] := by cases args; simp_all
  obtain ⟨rfl, rfl⟩ := trodVars_none hV
  obtain ⟨a0, len0, cap0, rfl⟩ := okWide_slice Trym.underlying33 (hval 0 33 v0 rfl rfl)
  obtain ⟨a1, len1, cap1, rfl⟩ := okWide_slice Trym.underlying34 (hval 1 34 v1 rfl rfl)
  have k0 := h0
  have k1 := h1
  have lt0 : ∀ x ∈ p0, x.block < W.heap.size := by obtain ⟨m, hm⟩ := k0; exact DataW.trod_lt m _ _ _ hm
  have lt1 : ∀ x ∈ p1, x.block < W.heap.size := by obtain ⟨m, hm⟩ := k1; exact DataW.trod_lt m _ _ _ hm
  obtain ⟨l0, n0, S, e0, w0⟩ : len0 ≤ maxLen ∧ (a0 = none → cap0 = 0) ∧ ∃ S : List T3, len0 = S.length ∧ Row3 W a0 S := by
    obtain ⟨fuel, hf⟩ := h0
    exact open_row3 (by simpa [Value.cells] using hf)
  obtain ⟨l1, n1, C, e1, w1⟩ : len1 ≤ maxLen ∧ (a1 = none → cap1 = 0) ∧ ∃ C : List T4, len1 = C.length ∧ Row4 W a1 C := by
    obtain ⟨fuel, hf⟩ := h1
    exact open_row4 (by simpa [Value.cells] using hf)
  clear hA0 hval0
  refine (law_any a0 a1 cap0 cap1 S C W len0 len1 e0 e1 l0 l1 n0 n1 w0 w1).mono fun e W' ⟨he, bel⟩ => ?_
  subst he
  exact ⟨_, rfl, _, _, _, [], _, [], hW', trodAll_mk1 (shut_bool Trym.underlying4 _), (trodAll_cons_mk (Below.trod laidOut (by kernel_rfl) (of_decide_eq_true (by kernel_rfl)) k0 bel lt0) (trodAll_cons_mk (Below.trod laidOut (by kernel_rfl) (of_decide_eq_true (by kernel_rfl)) k1 bel lt1) trodAll_mk0)), rfl, bel.frame _, fun h => by cases h⟩

theorem over : Rows.fnMergePostingsLastChangeDecidesRow.holds Trym.pinned (OpenSpec.ofChange Rows.fnMergePostingsLastChangeDecidesSpec) :=
  OpenClaim.holds_of_wide 8 Trym.f8 rfl rfl rfl rfl rfl rfl rfl ⟨rfl, rfl, rfl, rfl, rfl⟩ rfl rfl rfl rfl rfl (by kernel_rfl) Trym.func8 (by kernel_rfl)
    (of_decide_eq_true (by kernel_rfl)) (by unfold Func.isWrapper; first | (rw [if_pos (by decide +kernel)]; kernel_rfl) | (rw [if_neg (by decide +kernel)]; exact ⟨rfl, rfl⟩))
    (fun os started H enc _ => lifted os started H enc)

/-- THE STATEMENT -/
theorem fnMergePostingsLastChangeDecides_proved : Rows.FnMergePostingsLastChangeDecidesSaid := over

end Go.Proofs.Qxb6000465aMods
