import Derived.Test.Qxb6000465aModsWalks4
import Derived.Test.Qxb6000465aModsMath
import Derived.Deep.RegionLaw
namespace Go.Proofs.Qxb6000465aMods
open Go.RowKit

theorem mkHid {p : Prop} (h : p) : Hid p := h

def cells3 (K : List T3) : List Value := K.flatMap fun x => [.int .i64 x.id, .int .i64 x.fr, .int .i64 x.ln]
def sliceLen : Value → Nat | .slice _ n _ => n | _ => 0

theorem cells3_snoc (K : List T3) (x : T3) : cells3 (K ++ [x]) = cells3 K ++ [.int .i64 x.id, .int .i64 x.fr, .int .i64 x.ln] := by simp [cells3]

/-- append to a slice of the call's own, as one step of a region that draws. -/
theorem step_append_own {P : Program} {ops : Array Oper} {o : Oper} {a : Act} {w : World} {K : Act → World → Prop} {Q : Exit → Act → World → Prop} {E : Prop}
    (hg : o.guard = none) (s x : Operand) (t : TypeId) (hop : o.op = Op.call { callee := Callee.builtin Builtin.append, args := #[s, x], argTypes := #[t, t] })
    (base : Nat) (e : TypeId) (i : TypeInfo) (z : Value) (size bytes : Nat) (h1 : P.underlying t = some (.slice e)) (h2 : P.info? e = some i) (h3 : i.zero = some z) (h4 : i.size = size) (h5 : i.bytes = bytes) (h6 : z.cells.size = size) (h7 : 0 < size)
    (v : Value) (n : Nat) (xs : List Value) (hs : a.eval s = v) (hown : w.ownsRow base e size v n xs)
    (ad : Addr) (m c : Nat) (news : List Value) (hx : a.eval x = .slice (some ad) m c) (hn : news.length = m * size) (hc : ∀ j u, news[j]? = some u → w.cell? (ad.add j) = some u) (h1c : ∀ u ∈ news, u.oneCell' = true)
    (b1 : n + m ≤ maxLen) (b2 : (n + m) * bytes ≤ 140737488355328) (b3 : base ≤ w.heap.size)
    (hK : ∀ v' w', w'.ownsRow base e size v' (n + m) (xs ++ news) → w.grownBy w' v.ownBlock → K (a.put o.dst v') w') :
    if Region.wanted o (yielded ops a.tmps) = true then Oper.wp P o a w K Q else E := by
  have hw : Region.wanted o (yielded ops a.tmps) = true := by simp [Region.wanted, hg]
  rw [if_pos hw]
  obtain ⟨v', w', hrun, r1, r2, _⟩ := run_append_own (P := P) w base t o.type e i z size bytes h1 h2 h3 h4 h5 h6 h7 v n xs hown ad m c news hn hc h1c b1 b2 b3
  unfold Oper.wp
  simp [execOp, hop, resolve, invoke, builtin, hs, hx, hrun, Result.andThen]
  exact hK v' w' r1 r2

theorem one3 (x y z : Int) : ∀ u ∈ [Value.int .i64 x, .int .i64 y, .int .i64 z], u.oneCell' = true := by
  intro u hu
  simp at hu
  rcases hu with rfl | rfl | rfl <;> rfl

theorem cell_three_new (w : World) (e : TypeId) (x y z : Value) : ∀ j u, [x, y, z][j]? = some u → (w.alloc (.cells #[x, y, z] e)).cell? ((⟨w.heap.size, 0, none⟩ : Addr).add j) = some u := by
  intro j u hj
  match j, hj with
  | 0, hj => simp at hj; subst hj; simp [Addr.add]
  | 1, hj => simp at hj; subst hj; simp [Addr.add]
  | 2, hj => simp at hj; subst hj; simp [Addr.add]

def MRel (S : List T3) (C : List T4) (w : World) (bs os bc oc : Nat) (s c v : Value) (wr : World) : Prop :=
  ∃ (i j ns ms : Nat) (K : List T3) (sa ca : Option Addr) (sc cc : Nat),
    i + ns = S.length ∧ j + ms = C.length ∧ s = .slice sa ns sc ∧ ns ≤ sc ∧ (0 < ns → sa = some ⟨bs, os + i * 3, none⟩) ∧ c = .slice ca ms cc ∧ ms ≤ cc ∧ (0 < ms → ca = some ⟨bc, oc + j * 4, none⟩) ∧
    Inv S C i j K ∧ wr.ownsRow w.heap.size 62 3 v K.length (cells3 K) ∧ Below w.heap.size w wr


theorem grown_below {w wr w' : World} {v : Value} {n : Nat} {xs : List Value} (o : Obj) (q : Nat) (hb : Below w.heap.size w wr) (hown : wr.ownsRow w.heap.size 62 3 v n xs) (hg : ((wr.drewN q).alloc o).grownBy w' v.ownBlock) : Below w.heap.size w w' :=
  Below.grown ((below_drewN hb q).alloc hb.size o) hg (by have := hb.size; simp; omega) (fun k hk => (hown.lt k hk).1)

/-- A stored posting has been appended. -/
theorem MRel.stored {S : List T3} {C : List T4} {w wr w' : World} {bs os bc oc i j ns ms : Nat} {K : List T3} {sa ca : Option Addr} {sc cc q : Nat} {v v' : Value} (o : Obj)
    (hS : SI S) (hC : ND C) (hin : i + (ns + 1) = S.length) (hjm : j + ms = C.length) (hnsc : ns + 1 ≤ sc) (hsa : 0 < ns → sa = some ⟨bs, os + (i + 1) * 3, none⟩) (hmcc : ms ≤ cc) (hca : 0 < ms → ca = some ⟨bc, oc + j * 4, none⟩)
    (hinv : Inv S C i j K) (hown : wr.ownsRow w.heap.size 62 3 v K.length (cells3 K)) (hb : Below w.heap.size w wr) (hlt : 0 < ms → pid S i < cid C j)
    (hown' : w'.ownsRow w.heap.size 62 3 v' (K.length + 1) (cells3 K ++ [.int .i64 (pid S i), .int .i64 (pfr S i), .int .i64 (pln S i)])) (hg : ((wr.drewN q).alloc o).grownBy w' v.ownBlock) :
    MRel S C w bs os bc oc (.slice sa ns (sc - 1)) (.slice ca ms cc) v' w' := by
  refine ⟨i + 1, j, ns, ms, K ++ [pat S i], sa, ca, sc - 1, cc, by omega, hjm, rfl, by omega, hsa, rfl, hmcc, hca, hinv.stored hS hC (by omega) (fun h => hlt (by omega)), ?_, grown_below o q hb hown hg⟩
  rw [cells3_snoc, List.length_append, List.length_singleton]
  exact hown'


def lastCells (C : List T4) (t : Nat) : Obj := .cells #[.int .i64 (cid C t), .int .i64 (cfr C t), .int .i64 (cln C t), .bool (crm C t)] 67

theorem grown_of_below {w w' : World} (h : Below w.heap.size w w') : w.grownBy w' none := ⟨h.os, h.tape, h.output, h.size, fun k hk _ => h.block k hk⟩

theorem ownsRow_below {w w' : World} {base : Nat} {e : TypeId} {size : Nat} {v : Value} {n : Nat} {xs : List Value} (h : w.ownsRow base e size v n xs) (hb : Below w.heap.size w w') : w'.ownsRow base e size v n xs :=
  h.kept (grown_of_below hb) (by cases hv : v.ownBlock <;> simp)

/-- The inner loop: p changes of one id are taken, r are left; the variable 'last' (block B) holds change q. -/
def NRel (C : List T4) (wq : World) (bc oc j ms : Nat) (c : Value) (wx : World) : Prop :=
  ∃ (p r q : Nat) (ca : Option Addr) (cc : Nat), p + r = ms + 1 ∧ c = .slice ca r cc ∧ r ≤ cc ∧ (0 < r → ca = some ⟨bc, oc + (j + p) * 4, none⟩) ∧ (∀ u, j ≤ u → u < j + p → cid C u = cid C j) ∧
    wx.heap[wq.heap.size]? = some (lastCells C q) ∧ ((p = 0 ∧ q = j) ∨ (0 < p ∧ q + 1 = j + p)) ∧ Below wq.heap.size wq wx

theorem lastCells_cell {w : World} {C : List T4} {b t : Nat} (h : w.heap[b]? = some (lastCells C t)) :
    w.cell? ⟨b, 0, none⟩ = some (.int .i64 (cid C t)) ∧ w.cell? ⟨b, 1, none⟩ = some (.int .i64 (cfr C t)) ∧ w.cell? ⟨b, 2, none⟩ = some (.int .i64 (cln C t)) ∧ w.cell? ⟨b, 3, none⟩ = some (.bool (crm C t)) := by
  refine ⟨?_, ?_, ?_, ?_⟩ <;> simp [World.cell?, h, lastCells]

theorem lastCells_frozen {w : World} {C : List T4} {b t : Nat} (h : w.heap[b]? = some (lastCells C t)) (j : Nat) : w.frozen? ⟨b, j, none⟩ = false := by
  simp [World.frozen?, h, lastCells]

theorem lastCells_set {w : World} {C : List T4} {b t : Nat} (h : w.heap[b]? = some (lastCells C t)) (u : Nat) :
    ((((w.setCell ⟨b, 0, none⟩ (.int .i64 (cid C u))).setCell ⟨b, 1, none⟩ (.int .i64 (cfr C u))).setCell ⟨b, 2, none⟩ (.int .i64 (cln C u))).setCell ⟨b, 3, none⟩ (.bool (crm C u))).heap[b]? = some (lastCells C u) := by
  simp [World.setCell, Array.getElem?_modify, h, lastCells]

theorem NRel.step {C : List T4} {wq wr : World} {bc oc j ms p r q cc k : Nat} {ca2 : Option Addr} (hpr : p + (r + 1) = ms + 1) (hrc : r + 1 ≤ cc) (hca : 0 < r → ca2 = some ⟨bc, oc + (j + (p + 1)) * 4, none⟩)
    (hsame : ∀ u, j ≤ u → u < j + p → cid C u = cid C j) (hlast : wr.heap[wq.heap.size]? = some (lastCells C q)) (hq : (p = 0 ∧ q = j) ∨ (0 < p ∧ q + 1 = j + p)) (hbx : Below wq.heap.size wq wr) (he : cid C (j + p) = cid C q) :
    NRel C wq bc oc j ms (.slice ca2 r (cc - 1)) (((((wr.drewN k).setCell ⟨wq.heap.size, 0, none⟩ (.int .i64 (cid C (j + p)))).setCell ⟨wq.heap.size, 1, none⟩ (.int .i64 (cfr C (j + p)))).setCell ⟨wq.heap.size, 2, none⟩ (.int .i64 (cln C (j + p)))).setCell ⟨wq.heap.size, 3, none⟩ (.bool (crm C (j + p)))) := by
  refine ⟨p + 1, r, j + p, ca2, cc - 1, by omega, rfl, by omega, hca, fun u h1 h2 => ?_, lastCells_set (w := wr.drewN k) hlast _, .inr ⟨by omega, by omega⟩, below_set4 (below_drewN hbx k) (Nat.le_refl _) _ _ _ _ _ _ _ _⟩
  by_cases hu : u < j + p
  · exact hsame u h1 hu
  · obtain rfl : u = j + p := by omega
    rcases hq with ⟨h3, h4⟩ | ⟨h3, h4⟩
    · rw [he, h4]
    · rw [he]; exact hsame q (by omega) (by omega)

theorem MRel.less {C : List T4} {j ms p r q a b : Nat} {c1 c2 c3 c4 : Option Addr} {d1 d2 d3 d4 : Nat} (hpr : p + r = ms + 1) (hq : (p = 0 ∧ q = j) ∨ (0 < p ∧ q + 1 = j + p)) (hend : 0 < r → cid C (j + p) ≠ cid C q) (hab : a ≤ b) :
    sliceLen (.slice c1 a d1) + sliceLen (.slice c2 r d2) < sliceLen (.slice c3 b d3) + sliceLen (.slice c4 (ms + 1) d4) := by
  simp only [sliceLen]
  rcases hq with ⟨h3, h4⟩ | h3
  · subst h3; subst h4
    exact absurd rfl (hend (by omega))
  · omega

theorem MRel.changes {S : List T3} {C : List T4} {w wz : World} {bs os bc oc i j ns ms p r q i1 ns1 sc1 cc1 : Nat} {K : List T3} {sa1 ca1 : Option Addr} {v : Value}
    (hS : SI S) (hC : ND C) (hin : i + ns = S.length) (hjm : j + (ms + 1) = C.length) (hpr : p + r = ms + 1) (hsame : ∀ u, j ≤ u → u < j + p → cid C u = cid C j) (hq : (p = 0 ∧ q = j) ∨ (0 < p ∧ q + 1 = j + p))
    (hend : 0 < r → cid C (j + p) ≠ cid C q) (hle : 0 < ns → cid C j ≤ pid S i) (hi1 : (i1 = i + 1 ∧ 0 < ns ∧ pid S i = cid C q) ∨ (i1 = i ∧ (0 < ns → pid S i ≠ cid C q))) (hin1 : i1 + ns1 = S.length)
    (hns1 : ns1 ≤ sc1) (hsa1 : 0 < ns1 → sa1 = some ⟨bs, os + i1 * 3, none⟩) (hrc : r ≤ cc1) (hca1 : 0 < r → ca1 = some ⟨bc, oc + (j + p) * 4, none⟩) (hinv : Inv S C i j K) (hb : Below w.heap.size w wz)
    (hown : (crm C q = true ∧ wz.ownsRow w.heap.size 62 3 v K.length (cells3 K)) ∨ (crm C q = false ∧ wz.ownsRow w.heap.size 62 3 v (K.length + 1) (cells3 K ++ [.int .i64 (cid C q), .int .i64 (cfr C q), .int .i64 (cln C q)]))) :
    MRel S C w bs os bc oc (.slice sa1 ns1 sc1) (.slice ca1 r cc1) v wz := by
  obtain ⟨hp0, hp⟩ : 0 < p ∧ q + 1 = j + p := by
    rcases hq with ⟨h3, h4⟩ | h3
    · subst h3; subst h4
      exact absurd rfl (hend (by omega))
    · exact h3
  have hcq : cid C q = cid C j := hsame q (by omega) (by omega)
  have hq1 : j + p - 1 = q := by omega
  have hI := hinv.changes hS hC (j1 := j + p) (i1 := i1) (by omega) (by omega) hsame (fun h => by rw [← hcq]; exact hend (by omega)) (fun h => hle (by omega))
    (by rcases hi1 with ⟨a, b, c⟩ | ⟨a, b⟩
        · exact .inl ⟨a, by omega, by omega⟩
        · exact .inr ⟨a, fun h => by rw [← hcq]; exact b (by omega)⟩)
  rw [hq1] at hI
  refine ⟨i1, j + p, ns1, r, _, sa1, ca1, sc1, cc1, hin1, by omega, rfl, hns1, hsa1, rfl, hrc, hca1, hI, ?_, hb⟩
  rcases hown with ⟨h1, h2⟩ | ⟨h1, h2⟩
  · rw [if_pos h1]; exact h2
  · rw [if_neg (by simp [h1]), cells3_snoc, List.length_append, List.length_singleton]; exact h2

/-- A merge of S and C is handed back, in new memory; nothing old has turned. -/
def MergeGives (S : List T3) (C : List T4) (w : World) (e : Ending) (w' : World) : Prop := ∃ K, MergeOk S C K ∧ Gives3 K w e w'

theorem cells3_get (K : List T3) : ∀ k, k < K.length → (cells3 K)[k * 3]? = some (.int .i64 (pid K k)) ∧ (cells3 K)[k * 3 + 1]? = some (.int .i64 (pfr K k)) ∧ (cells3 K)[k * 3 + 2]? = some (.int .i64 (pln K k)) := by
  induction K with
  | nil => intro k hk; simp at hk
  | cons x K ih =>
    intro k hk
    have e : cells3 (x :: K) = .int .i64 x.id :: .int .i64 x.fr :: .int .i64 x.ln :: cells3 K := by simp [cells3]
    cases k with
    | zero => rw [e]; exact ⟨rfl, rfl, rfl⟩
    | succ k =>
      have h := ih k (by simpa using hk)
      rw [e, show (k + 1) * 3 = k * 3 + 1 + 1 + 1 by omega]
      exact h

theorem own_row3 {w : World} {base : Nat} {v : Value} {K : List T3} (h : w.ownsRow base 62 3 v K.length (cells3 K)) : ∃ a c, v = .slice a K.length c ∧ (a = none → c = 0) ∧ Row3 w a K := by
  rcases h.2 with ⟨h1, h2⟩ | ⟨g, cap, cur, h1, _⟩
  · exact ⟨none, 0, by rw [h1, h2], fun _ => rfl, .inl h2⟩
  · refine ⟨_, cap, h1, fun h => (by cases h), .inr ⟨g, 0, rfl, fun k hk => ?_⟩⟩
    have hc := h.cells (g := g) (by rw [h1]; rfl)
    obtain ⟨c1, c2, c3⟩ := cells3_get K k hk
    have hadd : ∀ j, (⟨g, 0, none⟩ : Addr).add j = ⟨g, j, none⟩ := fun j => by unfold Addr.add; split <;> simp_all
    refine ⟨?_, ?_, ?_⟩
    · have := hc _ _ c1; rw [hadd] at this; simpa using this
    · have := hc _ _ c2; rw [hadd] at this; simpa using this
    · have := hc _ _ c3; rw [hadd] at this; simpa using this

set_option maxHeartbeats 400000 in
set_option maxRecDepth 100000 in
theorem merge_at (bs os bc oc ds dc : Nat) (S : List T3) (C : List T4) (w : World) (n m : Nat) (hn : n = S.length) (hm : m = C.length) (hdn : n ≤ ds) (hdm : m ≤ dc) (hN : n ≤ 1048576) (hM : m ≤ 1048576) (hS : SI S) (hC : ND C)
    (hcs : ∀ k, k < n → w.cell? ⟨bs, os + k * 3, none⟩ = some (.int .i64 (pid S k)) ∧
      w.cell? ⟨bs, os + k * 3 + 1, none⟩ = some (.int .i64 (pfr S k)) ∧ w.cell? ⟨bs, os + k * 3 + 2, none⟩ = some (.int .i64 (pln S k)))
    (hcc : ∀ k, k < m → w.cell? ⟨bc, oc + k * 4, none⟩ = some (.int .i64 (cid C k)) ∧
      w.cell? ⟨bc, oc + k * 4 + 1, none⟩ = some (.int .i64 (cfr C k)) ∧ w.cell? ⟨bc, oc + k * 4 + 2, none⟩ = some (.int .i64 (cln C k)) ∧ w.cell? ⟨bc, oc + k * 4 + 3, none⟩ = some (.bool (crm C k))) :
    Calls Trym.prog 39 #[.slice (some ⟨bs, os, none⟩) n ds, .slice (some ⟨bc, oc, none⟩) m dc] w (MergeGives S C w) := by
  have Hn : Hid (n = S.length) := hn
  have Hm : Hid (m = C.length) := hm
  have HS : Hid (SI S) := hS
  have HC : Hid (ND C) := hC
  clear hn hm hS hC
  obtain ⟨i0, hi, hz0, hz1, hz2⟩ := info_parts info62
  go_enter Trym.func39, Trym.ntmps39
  go_wp2
  go_loopw [0, 1, 5] (fun s c v wr => MRel S C w bs os bc oc s c v wr) (fun s c _ _ => sliceLen s + sliceLen c)
  case atStart => exact ⟨0, 0, n, m, [], _, _, ds, dc, by have := Hn.out; omega, by have := Hm.out; omega, rfl, hdn, fun _ => by simp, rfl, hdm, fun _ => by simp, Inv.start S C, World.ownsRow_nil _ _ _ _, Below.refl _ _⟩
  case round =>
    obtain ⟨i, j, ns, ms, K, sa, ca, sc, cc, hin, hjm, rfl, hnsc, hsa, rfl, hmcc, hca, hinv, hown, hb⟩ := hrel
    have Hin : Hid (i + ns = S.length) := hin
    have Hjm : Hid (j + ms = C.length) := hjm
    have Hinv : Hid (Inv S C i j K) := hinv
    have Hown : Hid (wr.ownsRow w.heap.size 62 3 u5 K.length (cells3 K)) := hown
    have hns : ns ≤ 1048576 := by have := Hn.out; omega
    have hms : ms ≤ 1048576 := by have := Hm.out; omega
    have hKl : K.length ≤ 2097152 := by have := hinv.len; have := Hn.out; have := Hm.out; omega
    clear hin hjm hinv hown
    by_cases h0 : 0 < ns
    · obtain ⟨ns, rfl⟩ : ∃ q, ns = q + 1 := ⟨ns - 1, by omega⟩
      have hsa' := hsa h0
      subst hsa'
      have g := hcs i (by have := Hin.out; have := Hn.out; omega)
      have s1 := cell_below hb g.1
      have s2 := cell_below hb g.2.1
      have s3 := cell_below hb g.2.2
      clear g
      by_cases h1 : 0 < ms
      · obtain ⟨ms, rfl⟩ : ∃ q, ms = q + 1 := ⟨ms - 1, by omega⟩
        have hca' := hca h1
        subst hca'
        have g := hcc j (by have := Hjm.out; have := Hm.out; omega)
        have t1 := cell_below hb g.1
        have t2 := cell_below hb g.2.1
        have t3 := cell_below hb g.2.2.1
        have t4 := cell_below hb g.2.2.2
        clear g
        by_cases h2 : pid S i < cid C j
        · clear hcs hcc t2 t3 t4
          go_wp2
          go_quiet (fail)
          go_wp2
          have hbs : w.heap.size ≤ wr.heap.size := hb.size
          have h1s : (1 : Int) ≤ (ns : Int) + 1 := by omega
          go_region_law (refine step_append_own rfl (.tmp 35) (.tmp 39) 60 rfl w.heap.size 62 i0 _ 3 24 Trym.underlying60 hi hz0 hz1 hz2 rfl (by decide) u5 K.length (cells3 K) rfl (Hown.out.alloc _) ⟨wr.heap.size, 0, none⟩ 1 1 [.int .i64 (pid S i), .int .i64 (pfr S i), .int .i64 (pln S i)] rfl rfl (cell_three_new _ _ _ _ _) (one3 _ _ _) (by unfold maxLen; omega) (by omega) (by simp; omega) ?_; intro v' w' hown' hgrow'; replace hown' := mkHid hown'; replace hgrow' := mkHid hgrow')
          simp only [Act.put, List.getElem_toArray, List.getElem_cons_succ, List.getElem_cons_zero, List.setIfInBounds_toArray, List.set_cons_succ, List.set_cons_zero]
          have hsa2 : 0 < ns → (if sc = 1 then some (⟨bs, os + i * 3, none⟩ : Addr) else some ⟨bs, os + i * 3 + 3, none⟩) = some ⟨bs, os + (i + 1) * 3, none⟩ := fun h => by
            rw [if_neg (by omega), show os + (i + 1) * 3 = os + i * 3 + 3 by omega]
          generalize (if sc = 1 then some (⟨bs, os + i * 3, none⟩ : Addr) else some ⟨bs, os + i * 3 + 3, none⟩) = sa2 at hsa2 ⊢
          replace hsa2 := mkHid hsa2
          go_wp2
          go_roundw
          case rel => exact MRel.stored _ HS.out HC.out Hin.out Hjm.out hnsc hsa2.out hmcc (fun _ => rfl) Hinv.out Hown.out hb (fun _ => h2) hown'.out hgrow'.out
          case measure => simp [sliceLen]
        · have hle : cid C j ≤ pid S i := by omega
          have e1 : ((ms : Int) + 1 == 0) = false := by rw [beq_eq_false_iff_ne]; omega
          have e2 : decide (pid S i < cid C j) = false := by simpa using hle
          have HC4 := mkHid hcc
          clear hcs h2 hsa hca hcc
          go_wp2
          go_quiet (fail)
          have key : Below w.heap.size w (wr.drewN nq) ∧ Hid ((wr.drewN nq).ownsRow w.heap.size 62 3 u5 K.length (cells3 K)) ∧ (wr.drewN nq).cell? ⟨bs, os + i * 3, none⟩ = some (.int .i64 (pid S i)) ∧
              (wr.drewN nq).cell? ⟨bc, oc + j * 4, none⟩ = some (.int .i64 (cid C j)) ∧ (wr.drewN nq).cell? ⟨bc, oc + j * 4 + 1, none⟩ = some (.int .i64 (cfr C j)) ∧
              (wr.drewN nq).cell? ⟨bc, oc + j * 4 + 2, none⟩ = some (.int .i64 (cln C j)) ∧ (wr.drewN nq).cell? ⟨bc, oc + j * 4 + 3, none⟩ = some (.bool (crm C j)) := ⟨below_drewN hb _, Hown, s1, t1, t2, t3, t4⟩
          generalize wr.drewN nq = wq at key ⊢
          clear Hown s1 s2 s3 t1 t2 t3 t4 hb
          obtain ⟨hb, Hown, s1, t1, t2, t3, t4⟩ := key
          go_wp2
          go_loopw [1] (fun c wx => NRel C wq bc oc j ms c wx) (fun c _ => sliceLen c)
          case atStart => exact ⟨0, ms + 1, j, _, cc, by omega, rfl, hmcc, fun _ => rfl, fun u h1 h2 => absurd h2 (by omega), heap_alloc_new wq _, .inl ⟨rfl, rfl⟩, (Below.refl _ _).alloc (Nat.le_refl _) _⟩
          case round =>
            obtain ⟨p, r, q, ca, cc, hpr, rfl, hrc, hca, hsame, hlast, hq, hbx⟩ := hrel
            have Hpr := mkHid hpr
            have Hsame := mkHid hsame
            have Hlast := mkHid hlast
            have Hq := mkHid hq
            obtain ⟨l1, l2, l3, l4⟩ := lastCells_cell hlast
            have hfz := lastCells_frozen hlast
            have hr0 : r ≤ 1048576 := by omega
            clear hpr hsame hlast hq t1 t2 t3 t4
            by_cases hr : 0 < r
            · obtain ⟨r, rfl⟩ : ∃ z, r = z + 1 := ⟨r - 1, by omega⟩
              have hca' := hca hr
              subst hca'
              have g := HC4.out (j + p) (by have := Hjm.out; have := Hm.out; have := Hpr.out; omega)
              have hbb : Below w.heap.size w wr := hb.trans (hbx.mono hb.size)
              have t1 := cell_below hbb g.1
              have t2 := cell_below hbb g.2.1
              have t3 := cell_below hbb g.2.2.1
              have t4 := cell_below hbb g.2.2.2
              clear g hca
              by_cases he : cid C (j + p) = cid C q
              · have he' : (cid C (j + p) == cid C q) = true := by simpa using he
                have He := mkHid he
                clear he
                go_wp2
                go_quiet (fail)
                go_wp2
                have h1r : (1 : Int) ≤ (r : Int) + 1 := by omega
                go_region
                have hca2 : 0 < r → (if cc = 1 then some (⟨bc, oc + (j + p) * 4, none⟩ : Addr) else some ⟨bc, oc + (j + p) * 4 + 4, none⟩) = some ⟨bc, oc + (j + (p + 1)) * 4, none⟩ := fun h => by
                  rw [if_neg (by omega), show oc + (j + (p + 1)) * 4 = oc + (j + p) * 4 + 4 by omega]
                generalize (if cc = 1 then some (⟨bc, oc + (j + p) * 4, none⟩ : Addr) else some ⟨bc, oc + (j + p) * 4 + 4, none⟩) = ca2 at hca2 ⊢
                replace hca2 := mkHid hca2
                go_wp2
                go_roundw
                case rel => exact NRel.step Hpr.out hrc hca2.out Hsame.out Hlast.out Hq.out hbx He.out
                case measure => simp [sliceLen]
              · have he' : (cid C (j + p) == cid C q) = false := by simpa using he
                have Hend : Hid (0 < r + 1 → cid C (j + p) ≠ cid C q) := fun _ => he
                clear he
                go_wp2
                go_quiet (fail)
                go_wp2
                have key : Below w.heap.size w (wr.drewN nq) ∧ Hid ((wr.drewN nq).ownsRow w.heap.size 62 3 u5 K.length (cells3 K)) ∧ (wr.drewN nq).cell? ⟨wq.heap.size, 0, none⟩ = some (.int .i64 (cid C q)) ∧ (wr.drewN nq).cell? ⟨wq.heap.size, 1, none⟩ = some (.int .i64 (cfr C q)) ∧ (wr.drewN nq).cell? ⟨wq.heap.size, 2, none⟩ = some (.int .i64 (cln C q)) ∧ (wr.drewN nq).cell? ⟨wq.heap.size, 3, none⟩ = some (.bool (crm C q)) ∧ (wr.drewN nq).cell? ⟨bs, os + i * 3, none⟩ = some (.int .i64 (pid S i)) :=
                  ⟨below_drewN (hb.trans (hbx.mono hb.size)) _, ownsRow_below Hown.out (below_drewN hbx _), l1, l2, l3, l4, cell_below hbx s1⟩
                generalize wr.drewN nq = wz at key ⊢
                clear Hown l1 l2 l3 l4 s1 hfz
                obtain ⟨hbz, Hown, l1, l2, l3, l4, s1⟩ := key
                by_cases h8 : pid S i = cid C q
                · have h8' : (pid S i == cid C q) = true := by simpa using h8
                  have H8 := mkHid h8
                  clear h8
                  go_quiet (fail)
                  have key : Below w.heap.size w (wz.drewN nq) ∧ Hid ((wz.drewN nq).ownsRow w.heap.size 62 3 u5 K.length (cells3 K)) ∧ (wz.drewN nq).cell? ⟨wq.heap.size, 0, none⟩ = some (.int .i64 (cid C q)) ∧ (wz.drewN nq).cell? ⟨wq.heap.size, 1, none⟩ = some (.int .i64 (cfr C q)) ∧ (wz.drewN nq).cell? ⟨wq.heap.size, 2, none⟩ = some (.int .i64 (cln C q)) ∧ (wz.drewN nq).cell? ⟨wq.heap.size, 3, none⟩ = some (.bool (crm C q)) :=
                    ⟨below_drewN hbz _, Hown, l1, l2, l3, l4⟩
                  generalize wz.drewN nq = wy at key ⊢
                  clear Hown l1 l2 l3 l4 hbz
                  obtain ⟨hbz, Hown, l1, l2, l3, l4⟩ := key
                  have h1s : (1 : Int) ≤ (ns : Int) + 1 := by omega
                  have hsa2 : 0 < ns → (if sc = 1 then some (⟨bs, os + i * 3, none⟩ : Addr) else some ⟨bs, os + i * 3 + 3, none⟩) = some ⟨bs, os + (i + 1) * 3, none⟩ := fun h => by rw [if_neg (by omega), show os + (i + 1) * 3 = os + i * 3 + 3 by omega]
                  replace hsa2 := mkHid hsa2
                  by_cases hrm : crm C q = true
                  · have Hrm := mkHid hrm
                    go_wp2
                    all_goals
                      go_roundw
                      case rel => exact MRel.changes HS.out HC.out Hin.out Hjm.out Hpr.out Hsame.out Hq.out Hend.out (fun _ => hle) (.inl ⟨rfl, by omega, H8.out⟩) (by have := Hin.out; omega) (by omega) hsa2.out hrc (fun _ => rfl) Hinv.out hbz (.inl ⟨Hrm.out, Hown.out⟩)
                      case measure => exact MRel.less Hpr.out Hq.out Hend.out (by omega)
                  · have Hrm : Hid (crm C q = false) := mkHid (by simpa using hrm)
                    have hrm2 : crm C q = false := Hrm.out
                    clear hrm
                    have hbs : w.heap.size ≤ wy.heap.size := hbz.size
                    go_wp2_with (at_builtin; refine wpList_append_own _ rfl (.tmp 83) (.tmp 86) 60 rfl w.heap.size 62 i0 _ 3 24 Trym.underlying60 hi hz0 hz1 hz2 rfl (by decide) u5 K.length (cells3 K) rfl (Hown.out.alloc _) ⟨wy.heap.size, 0, none⟩ 1 1 [.int .i64 (cid C q), .int .i64 (cfr C q), .int .i64 (cln C q)] rfl rfl (cell_three_new _ _ _ _ _) (one3 _ _ _) (by unfold maxLen; omega) (by omega) (by simp; omega) ?_; intro v' w' hown' hgrow' _; replace hown' := mkHid hown'; replace hgrow' := mkHid hgrow')
                    all_goals
                      go_roundw
                      case rel => exact MRel.changes HS.out HC.out Hin.out Hjm.out Hpr.out Hsame.out Hq.out Hend.out (fun _ => hle) (.inl ⟨rfl, by omega, H8.out⟩) (by have := Hin.out; omega) (by omega) hsa2.out hrc (fun _ => rfl) Hinv.out (grown_below _ 0 hbz Hown.out hgrow'.out) (.inr ⟨Hrm.out, hown'.out⟩)
                      case measure => exact MRel.less Hpr.out Hq.out Hend.out (by omega)
                · have h8' : (pid S i == cid C q) = false := by simpa using h8
                  have H8 := mkHid h8
                  clear h8
                  go_quiet (fail)
                  have key : Below w.heap.size w (wz.drewN nq) ∧ Hid ((wz.drewN nq).ownsRow w.heap.size 62 3 u5 K.length (cells3 K)) ∧ (wz.drewN nq).cell? ⟨wq.heap.size, 0, none⟩ = some (.int .i64 (cid C q)) ∧ (wz.drewN nq).cell? ⟨wq.heap.size, 1, none⟩ = some (.int .i64 (cfr C q)) ∧ (wz.drewN nq).cell? ⟨wq.heap.size, 2, none⟩ = some (.int .i64 (cln C q)) ∧ (wz.drewN nq).cell? ⟨wq.heap.size, 3, none⟩ = some (.bool (crm C q)) :=
                    ⟨below_drewN hbz _, Hown, l1, l2, l3, l4⟩
                  generalize wz.drewN nq = wy at key ⊢
                  clear Hown l1 l2 l3 l4 hbz
                  obtain ⟨hbz, Hown, l1, l2, l3, l4⟩ := key
                  by_cases hrm : crm C q = true
                  · have Hrm := mkHid hrm
                    go_wp2
                    go_roundw
                    case rel => exact MRel.changes HS.out HC.out Hin.out Hjm.out Hpr.out Hsame.out Hq.out Hend.out (fun _ => hle) (.inr ⟨rfl, fun _ => H8.out⟩) (by have := Hin.out; omega) hnsc (fun _ => rfl) hrc (fun _ => rfl) Hinv.out hbz (.inl ⟨Hrm.out, Hown.out⟩)
                    case measure => exact MRel.less Hpr.out Hq.out Hend.out (by omega)
                  · have Hrm : Hid (crm C q = false) := mkHid (by simpa using hrm)
                    have hrm2 : crm C q = false := Hrm.out
                    clear hrm
                    have hbs : w.heap.size ≤ wy.heap.size := hbz.size
                    go_wp2_with (at_builtin; refine wpList_append_own _ rfl (.tmp 83) (.tmp 86) 60 rfl w.heap.size 62 i0 _ 3 24 Trym.underlying60 hi hz0 hz1 hz2 rfl (by decide) u5 K.length (cells3 K) rfl (Hown.out.alloc _) ⟨wy.heap.size, 0, none⟩ 1 1 [.int .i64 (cid C q), .int .i64 (cfr C q), .int .i64 (cln C q)] rfl rfl (cell_three_new _ _ _ _ _) (one3 _ _ _) (by unfold maxLen; omega) (by omega) (by simp; omega) ?_; intro v' w' hown' hgrow' _; replace hown' := mkHid hown'; replace hgrow' := mkHid hgrow')
                    go_roundw
                    case rel => exact MRel.changes HS.out HC.out Hin.out Hjm.out Hpr.out Hsame.out Hq.out Hend.out (fun _ => hle) (.inr ⟨rfl, fun _ => H8.out⟩) (by have := Hin.out; omega) hnsc (fun _ => rfl) hrc (fun _ => rfl) Hinv.out (grown_below _ 0 hbz Hown.out hgrow'.out) (.inr ⟨Hrm.out, hown'.out⟩)
                    case measure => exact MRel.less Hpr.out Hq.out Hend.out (by omega)
            · obtain rfl : r = 0 := by omega
              have Hend : Hid (0 < 0 → cid C (j + p) ≠ cid C q) := fun h => absurd h (by omega)
              clear hca
              go_wp2
              go_quiet (fail)
              go_wp2
              have key : Below w.heap.size w (wr.drewN nq) ∧ Hid ((wr.drewN nq).ownsRow w.heap.size 62 3 u5 K.length (cells3 K)) ∧ (wr.drewN nq).cell? ⟨wq.heap.size, 0, none⟩ = some (.int .i64 (cid C q)) ∧ (wr.drewN nq).cell? ⟨wq.heap.size, 1, none⟩ = some (.int .i64 (cfr C q)) ∧ (wr.drewN nq).cell? ⟨wq.heap.size, 2, none⟩ = some (.int .i64 (cln C q)) ∧ (wr.drewN nq).cell? ⟨wq.heap.size, 3, none⟩ = some (.bool (crm C q)) ∧ (wr.drewN nq).cell? ⟨bs, os + i * 3, none⟩ = some (.int .i64 (pid S i)) :=
                ⟨below_drewN (hb.trans (hbx.mono hb.size)) _, ownsRow_below Hown.out (below_drewN hbx _), l1, l2, l3, l4, cell_below hbx s1⟩
              generalize wr.drewN nq = wz at key ⊢
              clear Hown l1 l2 l3 l4 s1 hfz
              obtain ⟨hbz, Hown, l1, l2, l3, l4, s1⟩ := key
              by_cases h8 : pid S i = cid C q
              · have h8' : (pid S i == cid C q) = true := by simpa using h8
                have H8 := mkHid h8
                clear h8
                go_quiet (fail)
                have key : Below w.heap.size w (wz.drewN nq) ∧ Hid ((wz.drewN nq).ownsRow w.heap.size 62 3 u5 K.length (cells3 K)) ∧ (wz.drewN nq).cell? ⟨wq.heap.size, 0, none⟩ = some (.int .i64 (cid C q)) ∧ (wz.drewN nq).cell? ⟨wq.heap.size, 1, none⟩ = some (.int .i64 (cfr C q)) ∧ (wz.drewN nq).cell? ⟨wq.heap.size, 2, none⟩ = some (.int .i64 (cln C q)) ∧ (wz.drewN nq).cell? ⟨wq.heap.size, 3, none⟩ = some (.bool (crm C q)) :=
                  ⟨below_drewN hbz _, Hown, l1, l2, l3, l4⟩
                generalize wz.drewN nq = wy at key ⊢
                clear Hown l1 l2 l3 l4 hbz
                obtain ⟨hbz, Hown, l1, l2, l3, l4⟩ := key
                have h1s : (1 : Int) ≤ (ns : Int) + 1 := by omega
                have hsa2 : 0 < ns → (if sc = 1 then some (⟨bs, os + i * 3, none⟩ : Addr) else some ⟨bs, os + i * 3 + 3, none⟩) = some ⟨bs, os + (i + 1) * 3, none⟩ := fun h => by rw [if_neg (by omega), show os + (i + 1) * 3 = os + i * 3 + 3 by omega]
                replace hsa2 := mkHid hsa2
                by_cases hrm : crm C q = true
                · have Hrm := mkHid hrm
                  go_wp2
                  all_goals
                    go_roundw
                    case rel => exact MRel.changes HS.out HC.out Hin.out Hjm.out Hpr.out Hsame.out Hq.out Hend.out (fun _ => hle) (.inl ⟨rfl, by omega, H8.out⟩) (by have := Hin.out; omega) (by omega) hsa2.out hrc (fun h => absurd h (by omega)) Hinv.out hbz (.inl ⟨Hrm.out, Hown.out⟩)
                    case measure => exact MRel.less Hpr.out Hq.out Hend.out (by omega)
                · have Hrm : Hid (crm C q = false) := mkHid (by simpa using hrm)
                  have hrm2 : crm C q = false := Hrm.out
                  clear hrm
                  have hbs : w.heap.size ≤ wy.heap.size := hbz.size
                  go_wp2_with (at_builtin; refine wpList_append_own _ rfl (.tmp 83) (.tmp 86) 60 rfl w.heap.size 62 i0 _ 3 24 Trym.underlying60 hi hz0 hz1 hz2 rfl (by decide) u5 K.length (cells3 K) rfl (Hown.out.alloc _) ⟨wy.heap.size, 0, none⟩ 1 1 [.int .i64 (cid C q), .int .i64 (cfr C q), .int .i64 (cln C q)] rfl rfl (cell_three_new _ _ _ _ _) (one3 _ _ _) (by unfold maxLen; omega) (by omega) (by simp; omega) ?_; intro v' w' hown' hgrow' _; replace hown' := mkHid hown'; replace hgrow' := mkHid hgrow')
                  all_goals
                    go_roundw
                    case rel => exact MRel.changes HS.out HC.out Hin.out Hjm.out Hpr.out Hsame.out Hq.out Hend.out (fun _ => hle) (.inl ⟨rfl, by omega, H8.out⟩) (by have := Hin.out; omega) (by omega) hsa2.out hrc (fun h => absurd h (by omega)) Hinv.out (grown_below _ 0 hbz Hown.out hgrow'.out) (.inr ⟨Hrm.out, hown'.out⟩)
                    case measure => exact MRel.less Hpr.out Hq.out Hend.out (by omega)
              · have h8' : (pid S i == cid C q) = false := by simpa using h8
                have H8 := mkHid h8
                clear h8
                go_quiet (fail)
                have key : Below w.heap.size w (wz.drewN nq) ∧ Hid ((wz.drewN nq).ownsRow w.heap.size 62 3 u5 K.length (cells3 K)) ∧ (wz.drewN nq).cell? ⟨wq.heap.size, 0, none⟩ = some (.int .i64 (cid C q)) ∧ (wz.drewN nq).cell? ⟨wq.heap.size, 1, none⟩ = some (.int .i64 (cfr C q)) ∧ (wz.drewN nq).cell? ⟨wq.heap.size, 2, none⟩ = some (.int .i64 (cln C q)) ∧ (wz.drewN nq).cell? ⟨wq.heap.size, 3, none⟩ = some (.bool (crm C q)) :=
                  ⟨below_drewN hbz _, Hown, l1, l2, l3, l4⟩
                generalize wz.drewN nq = wy at key ⊢
                clear Hown l1 l2 l3 l4 hbz
                obtain ⟨hbz, Hown, l1, l2, l3, l4⟩ := key
                by_cases hrm : crm C q = true
                · have Hrm := mkHid hrm
                  go_wp2
                  go_roundw
                  case rel => exact MRel.changes HS.out HC.out Hin.out Hjm.out Hpr.out Hsame.out Hq.out Hend.out (fun _ => hle) (.inr ⟨rfl, fun _ => H8.out⟩) (by have := Hin.out; omega) hnsc (fun _ => rfl) hrc (fun h => absurd h (by omega)) Hinv.out hbz (.inl ⟨Hrm.out, Hown.out⟩)
                  case measure => exact MRel.less Hpr.out Hq.out Hend.out (by omega)
                · have Hrm : Hid (crm C q = false) := mkHid (by simpa using hrm)
                  have hrm2 : crm C q = false := Hrm.out
                  clear hrm
                  have hbs : w.heap.size ≤ wy.heap.size := hbz.size
                  go_wp2_with (at_builtin; refine wpList_append_own _ rfl (.tmp 83) (.tmp 86) 60 rfl w.heap.size 62 i0 _ 3 24 Trym.underlying60 hi hz0 hz1 hz2 rfl (by decide) u5 K.length (cells3 K) rfl (Hown.out.alloc _) ⟨wy.heap.size, 0, none⟩ 1 1 [.int .i64 (cid C q), .int .i64 (cfr C q), .int .i64 (cln C q)] rfl rfl (cell_three_new _ _ _ _ _) (one3 _ _ _) (by unfold maxLen; omega) (by omega) (by simp; omega) ?_; intro v' w' hown' hgrow' _; replace hown' := mkHid hown'; replace hgrow' := mkHid hgrow')
                  go_roundw
                  case rel => exact MRel.changes HS.out HC.out Hin.out Hjm.out Hpr.out Hsame.out Hq.out Hend.out (fun _ => hle) (.inr ⟨rfl, fun _ => H8.out⟩) (by have := Hin.out; omega) hnsc (fun _ => rfl) hrc (fun h => absurd h (by omega)) Hinv.out (grown_below _ 0 hbz Hown.out hgrow'.out) (.inr ⟨Hrm.out, hown'.out⟩)
                  case measure => exact MRel.less Hpr.out Hq.out Hend.out (by omega)
      · obtain rfl : ms = 0 := by omega
        clear hcs hcc hca
        go_wp2
        go_quiet (fail)
        go_wp2
        have hbs : w.heap.size ≤ wr.heap.size := hb.size
        have h1s : (1 : Int) ≤ (ns : Int) + 1 := by omega
        go_region_law (refine step_append_own rfl (.tmp 35) (.tmp 39) 60 rfl w.heap.size 62 i0 _ 3 24 Trym.underlying60 hi hz0 hz1 hz2 rfl (by decide) u5 K.length (cells3 K) rfl (Hown.out.alloc _) ⟨wr.heap.size, 0, none⟩ 1 1 [.int .i64 (pid S i), .int .i64 (pfr S i), .int .i64 (pln S i)] rfl rfl (cell_three_new _ _ _ _ _) (one3 _ _ _) (by unfold maxLen; omega) (by omega) (by simp; omega) ?_; intro v' w' hown' hgrow'; replace hown' := mkHid hown'; replace hgrow' := mkHid hgrow')
        simp only [Act.put, List.getElem_toArray, List.getElem_cons_succ, List.getElem_cons_zero, List.setIfInBounds_toArray, List.set_cons_succ, List.set_cons_zero]
        have hsa2 : 0 < ns → (if sc = 1 then some (⟨bs, os + i * 3, none⟩ : Addr) else some ⟨bs, os + i * 3 + 3, none⟩) = some ⟨bs, os + (i + 1) * 3, none⟩ := fun h => by
          rw [if_neg (by omega), show os + (i + 1) * 3 = os + i * 3 + 3 by omega]
        generalize (if sc = 1 then some (⟨bs, os + i * 3, none⟩ : Addr) else some ⟨bs, os + i * 3 + 3, none⟩) = sa2 at hsa2 ⊢
        replace hsa2 := mkHid hsa2
        go_wp2
        go_roundw
        case rel => exact MRel.stored _ HS.out HC.out Hin.out Hjm.out hnsc hsa2.out (Nat.zero_le _) (fun h => absurd h (by omega)) Hinv.out Hown.out hb (fun h => absurd h (by omega)) hown'.out hgrow'.out
        case measure => simp [sliceLen]
    · obtain rfl : ns = 0 := by omega
      by_cases h1 : 0 < ms
      · obtain ⟨ms, rfl⟩ : ∃ q, ms = q + 1 := ⟨ms - 1, by omega⟩
        have hca' := hca h1
        subst hca'
        have g := hcc j (by have := Hjm.out; have := Hm.out; omega)
        have t1 := cell_below hb g.1
        have t2 := cell_below hb g.2.1
        have t3 := cell_below hb g.2.2.1
        have t4 := cell_below hb g.2.2.2
        clear g
        have e1 : ((ms : Int) + 1 == 0) = false := by rw [beq_eq_false_iff_ne]; omega
        have HC4 := mkHid hcc
        clear hcs hsa hca hcc
        go_wp2
        go_quiet (fail)
        have key : Below w.heap.size w (wr.drewN nq) ∧ Hid ((wr.drewN nq).ownsRow w.heap.size 62 3 u5 K.length (cells3 K)) ∧
            (wr.drewN nq).cell? ⟨bc, oc + j * 4, none⟩ = some (.int .i64 (cid C j)) ∧ (wr.drewN nq).cell? ⟨bc, oc + j * 4 + 1, none⟩ = some (.int .i64 (cfr C j)) ∧
            (wr.drewN nq).cell? ⟨bc, oc + j * 4 + 2, none⟩ = some (.int .i64 (cln C j)) ∧ (wr.drewN nq).cell? ⟨bc, oc + j * 4 + 3, none⟩ = some (.bool (crm C j)) := ⟨below_drewN hb _, Hown, t1, t2, t3, t4⟩
        generalize wr.drewN nq = wq at key ⊢
        clear Hown t1 t2 t3 t4 hb
        obtain ⟨hb, Hown, t1, t2, t3, t4⟩ := key
        go_wp2
        go_loopw [1] (fun c wx => NRel C wq bc oc j ms c wx) (fun c _ => sliceLen c)
        case atStart => exact ⟨0, ms + 1, j, _, cc, by omega, rfl, hmcc, fun _ => rfl, fun u h1 h2 => absurd h2 (by omega), heap_alloc_new wq _, .inl ⟨rfl, rfl⟩, (Below.refl _ _).alloc (Nat.le_refl _) _⟩
        case round =>
          obtain ⟨p, r, q, ca, cc, hpr, rfl, hrc, hca, hsame, hlast, hq, hbx⟩ := hrel
          have Hpr := mkHid hpr
          have Hsame := mkHid hsame
          have Hlast := mkHid hlast
          have Hq := mkHid hq
          obtain ⟨l1, l2, l3, l4⟩ := lastCells_cell hlast
          have hfz := lastCells_frozen hlast
          have hr0 : r ≤ 1048576 := by omega
          clear hpr hsame hlast hq t1 t2 t3 t4
          by_cases hr : 0 < r
          · obtain ⟨r, rfl⟩ : ∃ z, r = z + 1 := ⟨r - 1, by omega⟩
            have hca' := hca hr
            subst hca'
            have g := HC4.out (j + p) (by have := Hjm.out; have := Hm.out; have := Hpr.out; omega)
            have hbb : Below w.heap.size w wr := hb.trans (hbx.mono hb.size)
            have t1 := cell_below hbb g.1
            have t2 := cell_below hbb g.2.1
            have t3 := cell_below hbb g.2.2.1
            have t4 := cell_below hbb g.2.2.2
            clear g hca
            by_cases he : cid C (j + p) = cid C q
            · have he' : (cid C (j + p) == cid C q) = true := by simpa using he
              have He := mkHid he
              clear he
              go_wp2
              go_quiet (fail)
              go_wp2
              have h1r : (1 : Int) ≤ (r : Int) + 1 := by omega
              go_region
              have hca2 : 0 < r → (if cc = 1 then some (⟨bc, oc + (j + p) * 4, none⟩ : Addr) else some ⟨bc, oc + (j + p) * 4 + 4, none⟩) = some ⟨bc, oc + (j + (p + 1)) * 4, none⟩ := fun h => by
                rw [if_neg (by omega), show oc + (j + (p + 1)) * 4 = oc + (j + p) * 4 + 4 by omega]
              generalize (if cc = 1 then some (⟨bc, oc + (j + p) * 4, none⟩ : Addr) else some ⟨bc, oc + (j + p) * 4 + 4, none⟩) = ca2 at hca2 ⊢
              replace hca2 := mkHid hca2
              go_wp2
              go_roundw
              case rel => exact NRel.step Hpr.out hrc hca2.out Hsame.out Hlast.out Hq.out hbx He.out
              case measure => simp [sliceLen]
            · have he' : (cid C (j + p) == cid C q) = false := by simpa using he
              have Hend : Hid (0 < r + 1 → cid C (j + p) ≠ cid C q) := fun _ => he
              clear he
              go_wp2
              go_quiet (fail)
              go_wp2
              have key : Below w.heap.size w (wr.drewN nq) ∧ Hid ((wr.drewN nq).ownsRow w.heap.size 62 3 u5 K.length (cells3 K)) ∧ (wr.drewN nq).cell? ⟨wq.heap.size, 0, none⟩ = some (.int .i64 (cid C q)) ∧ (wr.drewN nq).cell? ⟨wq.heap.size, 1, none⟩ = some (.int .i64 (cfr C q)) ∧ (wr.drewN nq).cell? ⟨wq.heap.size, 2, none⟩ = some (.int .i64 (cln C q)) ∧ (wr.drewN nq).cell? ⟨wq.heap.size, 3, none⟩ = some (.bool (crm C q)) :=
                ⟨below_drewN (hb.trans (hbx.mono hb.size)) _, ownsRow_below Hown.out (below_drewN hbx _), l1, l2, l3, l4⟩
              generalize wr.drewN nq = wz at key ⊢
              clear Hown l1 l2 l3 l4 hfz
              obtain ⟨hbz, Hown, l1, l2, l3, l4⟩ := key
              go_quiet (fail)
              have key : Below w.heap.size w (wz.drewN nq) ∧ Hid ((wz.drewN nq).ownsRow w.heap.size 62 3 u5 K.length (cells3 K)) ∧ (wz.drewN nq).cell? ⟨wq.heap.size, 0, none⟩ = some (.int .i64 (cid C q)) ∧ (wz.drewN nq).cell? ⟨wq.heap.size, 1, none⟩ = some (.int .i64 (cfr C q)) ∧ (wz.drewN nq).cell? ⟨wq.heap.size, 2, none⟩ = some (.int .i64 (cln C q)) ∧ (wz.drewN nq).cell? ⟨wq.heap.size, 3, none⟩ = some (.bool (crm C q)) :=
                ⟨below_drewN hbz _, Hown, l1, l2, l3, l4⟩
              generalize wz.drewN nq = wy at key ⊢
              clear Hown l1 l2 l3 l4 hbz
              obtain ⟨hbz, Hown, l1, l2, l3, l4⟩ := key
              by_cases hrm : crm C q = true
              · have Hrm := mkHid hrm
                go_wp2
                go_roundw
                case rel => exact MRel.changes HS.out HC.out Hin.out Hjm.out Hpr.out Hsame.out Hq.out Hend.out (fun h => absurd h (by omega)) (.inr ⟨rfl, fun h => absurd h (by omega)⟩) (by have := Hin.out; omega) hnsc (fun h => absurd h (by omega)) hrc (fun _ => rfl) Hinv.out hbz (.inl ⟨Hrm.out, Hown.out⟩)
                case measure => exact MRel.less Hpr.out Hq.out Hend.out (by omega)
              · have Hrm : Hid (crm C q = false) := mkHid (by simpa using hrm)
                have hrm2 : crm C q = false := Hrm.out
                clear hrm
                have hbs : w.heap.size ≤ wy.heap.size := hbz.size
                go_wp2_with (at_builtin; refine wpList_append_own _ rfl (.tmp 83) (.tmp 86) 60 rfl w.heap.size 62 i0 _ 3 24 Trym.underlying60 hi hz0 hz1 hz2 rfl (by decide) u5 K.length (cells3 K) rfl (Hown.out.alloc _) ⟨wy.heap.size, 0, none⟩ 1 1 [.int .i64 (cid C q), .int .i64 (cfr C q), .int .i64 (cln C q)] rfl rfl (cell_three_new _ _ _ _ _) (one3 _ _ _) (by unfold maxLen; omega) (by omega) (by simp; omega) ?_; intro v' w' hown' hgrow' _; replace hown' := mkHid hown'; replace hgrow' := mkHid hgrow')
                go_roundw
                case rel => exact MRel.changes HS.out HC.out Hin.out Hjm.out Hpr.out Hsame.out Hq.out Hend.out (fun h => absurd h (by omega)) (.inr ⟨rfl, fun h => absurd h (by omega)⟩) (by have := Hin.out; omega) hnsc (fun h => absurd h (by omega)) hrc (fun _ => rfl) Hinv.out (grown_below _ 0 hbz Hown.out hgrow'.out) (.inr ⟨Hrm.out, hown'.out⟩)
                case measure => exact MRel.less Hpr.out Hq.out Hend.out (by omega)
          · obtain rfl : r = 0 := by omega
            have Hend : Hid (0 < 0 → cid C (j + p) ≠ cid C q) := fun h => absurd h (by omega)
            clear hca
            go_wp2
            go_quiet (fail)
            go_wp2
            have key : Below w.heap.size w (wr.drewN nq) ∧ Hid ((wr.drewN nq).ownsRow w.heap.size 62 3 u5 K.length (cells3 K)) ∧ (wr.drewN nq).cell? ⟨wq.heap.size, 0, none⟩ = some (.int .i64 (cid C q)) ∧ (wr.drewN nq).cell? ⟨wq.heap.size, 1, none⟩ = some (.int .i64 (cfr C q)) ∧ (wr.drewN nq).cell? ⟨wq.heap.size, 2, none⟩ = some (.int .i64 (cln C q)) ∧ (wr.drewN nq).cell? ⟨wq.heap.size, 3, none⟩ = some (.bool (crm C q)) :=
              ⟨below_drewN (hb.trans (hbx.mono hb.size)) _, ownsRow_below Hown.out (below_drewN hbx _), l1, l2, l3, l4⟩
            generalize wr.drewN nq = wz at key ⊢
            clear Hown l1 l2 l3 l4 hfz
            obtain ⟨hbz, Hown, l1, l2, l3, l4⟩ := key
            go_quiet (fail)
            have key : Below w.heap.size w (wz.drewN nq) ∧ Hid ((wz.drewN nq).ownsRow w.heap.size 62 3 u5 K.length (cells3 K)) ∧ (wz.drewN nq).cell? ⟨wq.heap.size, 0, none⟩ = some (.int .i64 (cid C q)) ∧ (wz.drewN nq).cell? ⟨wq.heap.size, 1, none⟩ = some (.int .i64 (cfr C q)) ∧ (wz.drewN nq).cell? ⟨wq.heap.size, 2, none⟩ = some (.int .i64 (cln C q)) ∧ (wz.drewN nq).cell? ⟨wq.heap.size, 3, none⟩ = some (.bool (crm C q)) :=
              ⟨below_drewN hbz _, Hown, l1, l2, l3, l4⟩
            generalize wz.drewN nq = wy at key ⊢
            clear Hown l1 l2 l3 l4 hbz
            obtain ⟨hbz, Hown, l1, l2, l3, l4⟩ := key
            by_cases hrm : crm C q = true
            · have Hrm := mkHid hrm
              go_wp2
              go_roundw
              case rel => exact MRel.changes HS.out HC.out Hin.out Hjm.out Hpr.out Hsame.out Hq.out Hend.out (fun h => absurd h (by omega)) (.inr ⟨rfl, fun h => absurd h (by omega)⟩) (by have := Hin.out; omega) hnsc (fun h => absurd h (by omega)) hrc (fun h => absurd h (by omega)) Hinv.out hbz (.inl ⟨Hrm.out, Hown.out⟩)
              case measure => exact MRel.less Hpr.out Hq.out Hend.out (by omega)
            · have Hrm : Hid (crm C q = false) := mkHid (by simpa using hrm)
              have hrm2 : crm C q = false := Hrm.out
              clear hrm
              have hbs : w.heap.size ≤ wy.heap.size := hbz.size
              go_wp2_with (at_builtin; refine wpList_append_own _ rfl (.tmp 83) (.tmp 86) 60 rfl w.heap.size 62 i0 _ 3 24 Trym.underlying60 hi hz0 hz1 hz2 rfl (by decide) u5 K.length (cells3 K) rfl (Hown.out.alloc _) ⟨wy.heap.size, 0, none⟩ 1 1 [.int .i64 (cid C q), .int .i64 (cfr C q), .int .i64 (cln C q)] rfl rfl (cell_three_new _ _ _ _ _) (one3 _ _ _) (by unfold maxLen; omega) (by omega) (by simp; omega) ?_; intro v' w' hown' hgrow' _; replace hown' := mkHid hown'; replace hgrow' := mkHid hgrow')
              go_roundw
              case rel => exact MRel.changes HS.out HC.out Hin.out Hjm.out Hpr.out Hsame.out Hq.out Hend.out (fun h => absurd h (by omega)) (.inr ⟨rfl, fun h => absurd h (by omega)⟩) (by have := Hin.out; omega) hnsc (fun h => absurd h (by omega)) hrc (fun h => absurd h (by omega)) Hinv.out (grown_below _ 0 hbz Hown.out hgrow'.out) (.inr ⟨Hrm.out, hown'.out⟩)
              case measure => exact MRel.less Hpr.out Hq.out Hend.out (by omega)
      · obtain rfl : ms = 0 := by omega
        clear hcs hcc hca hsa
        go_wp2
        go_ret
        obtain ⟨a, c, rfl, h1, h2⟩ := own_row3 Hown.out
        exact ⟨K, Hinv.out.done (by have := Hin.out; omega) (by have := Hjm.out; omega), a, c, rfl, h1, h2, hb⟩
end Go.Proofs.Qxb6000465aMods
