/-
  DERIVED. THE PLAIN LAW: what the merge has gathered when i stored postings and j changes are done (Inv), each step of it, and what its end says (MergeOk). No Go here.
-/
import Derived.Test.Qxb6000465aModsWalks1
namespace Go.Proofs.Qxb6000465aMods

theorem pat_mem {K : List T3} {q : Nat} (h : q < K.length) : pat K q ∈ K := by
  unfold pat
  rw [List.getElem?_eq_getElem h]
  exact List.getElem_mem h

theorem mem_pat {K : List T3} {x : T3} (h : x ∈ K) : ∃ q, q < K.length ∧ pat K q = x := by
  obtain ⟨q, hq, rfl⟩ := List.mem_iff_getElem.1 h
  exact ⟨q, hq, by unfold pat; rw [List.getElem?_eq_getElem hq]; rfl⟩

theorem pat_append_left {K L : List T3} {q : Nat} (h : q < K.length) : pat (K ++ L) q = pat K q := by
  unfold pat
  rw [List.getElem?_append_left h]

theorem pat_snoc {K : List T3} {x : T3} : pat (K ++ [x]) K.length = x := by
  unfold pat
  simp

theorem pat_snoc_id {K : List T3} {x : T3} : pid (K ++ [x]) K.length = x.id := by
  unfold pid
  rw [pat_snoc]

theorem SI_snoc {K : List T3} {x : T3} (hK : SI K) (hx : ∀ y ∈ K, y.id < x.id) : SI (K ++ [x]) := by
  intro i j hij hj
  rw [List.length_append, List.length_singleton] at hj
  by_cases hjK : j < K.length
  · have := hK i j hij hjK
    unfold pid at this ⊢
    rw [pat_append_left hjK, pat_append_left (by omega)]
    exact this
  · obtain rfl : j = K.length := by omega
    rw [pat_snoc_id]
    unfold pid
    rw [pat_append_left hij]
    exact hx _ (pat_mem hij)

def post (C : List T4) (u : Nat) : T3 := ⟨cid C u, cfr C u, cln C u⟩

/-- What K holds: of the first i stored postings those whose id no change names; of the first j changes each that is the last of its id and adds. -/
def Holds (S : List T3) (C : List T4) (i j : Nat) (x : T3) : Prop :=
  (∃ t, t < i ∧ x = pat S t ∧ ∀ u, u < C.length → cid C u ≠ x.id) ∨ (∃ u, u < j ∧ x = post C u ∧ crm C u = false ∧ ∀ v, u < v → v < C.length → cid C v ≠ cid C u)

structure Inv (S : List T3) (C : List T4) (i j : Nat) (K : List T3) : Prop where
  hi : i ≤ S.length
  hj : j ≤ C.length
  si : SI K
  ltS : ∀ x ∈ K, ∀ t, i ≤ t → t < S.length → x.id < pid S t
  ltC : ∀ x ∈ K, ∀ u, j ≤ u → u < C.length → x.id < cid C u
  sc : ∀ t, t < i → ∀ u, j ≤ u → u < C.length → pid S t < cid C u
  cs : ∀ u, u < j → ∀ t, i ≤ t → t < S.length → cid C u < pid S t
  cc : ∀ u, u < j → ∀ v, j ≤ v → v < C.length → cid C u < cid C v
  mem : ∀ x, x ∈ K ↔ Holds S C i j x
  len : K.length ≤ i + j

theorem Inv.start (S : List T3) (C : List T4) : Inv S C 0 0 [] where
  hi := Nat.zero_le _
  hj := Nat.zero_le _
  si := fun i j _ hj => by simp at hj
  ltS := fun x hx => by cases hx
  ltC := fun x hx => by cases hx
  sc := fun t ht => by omega
  cs := fun u hu => by omega
  cc := fun u hu => by omega
  mem := fun x => ⟨fun h => (by cases h), fun h => (by rcases h with ⟨t, ht, _⟩ | ⟨u, hu, _⟩ <;> omega)⟩
  len := Nat.zero_le _

section
variable {S : List T3} {C : List T4} {i j : Nat} {K : List T3}

/-- A stored posting ahead of every change that is left. -/
theorem Inv.stored (h : Inv S C i j K) (hS : SI S) (hC : ND C) (hlt : i < S.length) (hc : j < C.length → pid S i < cid C j) : Inv S C (i + 1) j (K ++ [pat S i]) := by
  have hcu : ∀ u, j ≤ u → u < C.length → pid S i < cid C u := fun u h1 h2 => Int.lt_of_lt_of_le (hc (by omega)) (hC j u h1 h2)
  refine ⟨by omega, h.hj, SI_snoc h.si fun y hy => h.ltS y hy i (Nat.le_refl _) hlt, ?_, ?_, ?_, ?_, h.cc, ?_, ?_⟩
  · intro x hx t h1 h2
    rcases List.mem_append.1 hx with hx | hx
    · exact h.ltS x hx t (by omega) h2
    · obtain rfl := List.mem_singleton.1 hx
      exact hS i t (by omega) h2
  · intro x hx u h1 h2
    rcases List.mem_append.1 hx with hx | hx
    · exact h.ltC x hx u h1 h2
    · obtain rfl := List.mem_singleton.1 hx
      exact hcu u h1 h2
  · intro t ht u h1 h2
    rcases Nat.lt_or_eq_of_le (Nat.lt_succ_iff.1 ht) with h3 | rfl
    · exact h.sc t h3 u h1 h2
    · exact hcu u h1 h2
  · intro u hu t h1 h2
    exact h.cs u hu t (by omega) h2
  · intro x
    rw [List.mem_append, List.mem_singleton, h.mem x]
    constructor
    · rintro ((⟨t, ht, hx, hn⟩ | hr) | rfl)
      · exact .inl ⟨t, by omega, hx, hn⟩
      · exact .inr hr
      · refine .inl ⟨i, by omega, rfl, fun u hu he => ?_⟩
        by_cases huj : u < j
        · have := h.cs u huj i (Nat.le_refl _) hlt
          unfold pid at this; omega
        · have := hcu u (by omega) hu
          unfold pid at this; omega
    · rintro (⟨t, ht, hx, hn⟩ | hr)
      · rcases Nat.lt_or_eq_of_le (Nat.lt_succ_iff.1 ht) with h3 | rfl
        · exact .inl (.inl ⟨t, h3, hx, hn⟩)
        · exact .inr hx
      · exact .inl (.inr hr)
  · have := h.len
    simp only [List.length_append, List.length_singleton]
    omega

/-- The changes j .. j1 - 1 name one id, the next another; what is stored under that id (if anything) is at i. -/
theorem Inv.changes (h : Inv S C i j K) (hS : SI S) (hC : ND C) {j1 i1 : Nat} (hj1 : j < j1) (hj2 : j1 ≤ C.length) (hsame : ∀ u, j ≤ u → u < j1 → cid C u = cid C j) (hend : j1 < C.length → cid C j1 ≠ cid C j)
    (hle : i < S.length → cid C j ≤ pid S i) (hi1 : (i1 = i + 1 ∧ i < S.length ∧ pid S i = cid C j) ∨ (i1 = i ∧ (i < S.length → pid S i ≠ cid C j))) :
    Inv S C i1 j1 (if crm C (j1 - 1) then K else K ++ [post C (j1 - 1)]) := by
  have hii : i ≤ i1 ∧ i1 ≤ S.length := by have := h.hi; rcases hi1 with h1 | h1 <;> omega
  have hgt : ∀ v, j1 ≤ v → v < C.length → cid C j < cid C v := fun v h1 h2 => by
    have a1 := hC j j1 (by omega) (by omega)
    have a2 := hC j1 v h1 h2
    have a3 := hend (by omega)
    omega
  have hst : ∀ t, i1 ≤ t → t < S.length → cid C j < pid S t := fun t h1 h2 => by
    rcases hi1 with ⟨e1, e2, e3⟩ | ⟨e1, e2⟩
    · have := hS i t (by omega) h2
      omega
    · have a1 := hle (by omega)
      have a2 := e2 (by omega)
      rcases Nat.lt_or_eq_of_le (show i ≤ t by omega) with h3 | rfl
      · have := hS i t h3 h2
        omega
      · omega
  have hpid : (post C (j1 - 1)).id = cid C j := hsame (j1 - 1) (by omega) (by omega)
  have hKlt : ∀ y ∈ K, y.id < (post C (j1 - 1)).id := fun y hy => by rw [hpid]; exact h.ltC y hy j (Nat.le_refl _) (by omega)
  have hsub : ∀ x, x ∈ (if crm C (j1 - 1) then K else K ++ [post C (j1 - 1)]) ↔ x ∈ K ∨ (crm C (j1 - 1) = false ∧ x = post C (j1 - 1)) := by
    intro x
    cases hr : crm C (j1 - 1) with
    | true => simp
    | false => simp
  refine ⟨hii.2, hj2, ?_, ?_, ?_, ?_, ?_, ?_, ?_, ?_⟩
  · split
    · exact h.si
    · exact SI_snoc h.si hKlt
  · intro x hx t h1 h2
    rcases (hsub x).1 hx with hx | ⟨_, rfl⟩
    · exact h.ltS x hx t (by omega) h2
    · rw [hpid]; exact hst t h1 h2
  · intro x hx u h1 h2
    rcases (hsub x).1 hx with hx | ⟨_, rfl⟩
    · exact h.ltC x hx u (by omega) h2
    · rw [hpid]; exact hgt u h1 h2
  · intro t ht u h1 h2
    by_cases hti : t < i
    · exact h.sc t hti u (by omega) h2
    · rcases hi1 with ⟨e1, e2, e3⟩ | ⟨e1, e2⟩
      · obtain rfl : t = i := by omega
        rw [e3]; exact hgt u h1 h2
      · omega
  · intro u hu t h1 h2
    by_cases huj : u < j
    · exact h.cs u huj t (by omega) h2
    · rw [hsame u (by omega) hu]; exact hst t h1 h2
  · intro u hu v h1 h2
    by_cases huj : u < j
    · exact h.cc u huj v (by omega) h2
    · rw [hsame u (by omega) hu]; exact hgt v h1 h2
  · intro x
    rw [hsub x, h.mem x]
    constructor
    · rintro ((⟨t, ht, hx, hn⟩ | ⟨u, hu, hr⟩) | ⟨hr, rfl⟩)
      · exact .inl ⟨t, by omega, hx, hn⟩
      · exact .inr ⟨u, by omega, hr⟩
      · refine .inr ⟨j1 - 1, by omega, rfl, hr, fun v h1 h2 he => ?_⟩
        have a1 := hgt v (by omega) h2
        have a2 := hsame (j1 - 1) (by omega) (by omega)
        omega
    · rintro (⟨t, ht, hx, hn⟩ | ⟨u, hu, hx, hr, hl⟩)
      · by_cases hti : t < i
        · exact .inl (.inl ⟨t, hti, hx, hn⟩)
        · rcases hi1 with ⟨e1, e2, e3⟩ | ⟨e1, e2⟩
          · obtain rfl : t = i := by omega
            exact absurd (by rw [hx]; exact e3.symm) (hn j (by omega))
          · omega
      · by_cases huj : u < j
        · exact .inl (.inr ⟨u, huj, hx, hr, hl⟩)
        · by_cases hu1 : u = j1 - 1
          · subst hu1
            exact .inr ⟨hr, hx⟩
          · have a1 := hl (j1 - 1) (by omega) (by omega)
            have a2 := hsame u (by omega) hu
            have a3 := hsame (j1 - 1) (by omega) (by omega)
            exact absurd (a3.trans a2.symm) a1
  · have := h.len
    split
    · omega
    · simp only [List.length_append, List.length_singleton]
      omega
end

/-- What the merge gives. -/
structure MergeOk (S : List T3) (C : List T4) (K : List T3) : Prop where
  si : SI K
  len : K.length ≤ S.length + C.length
  mem : ∀ x, x ∈ K ↔ Holds S C S.length C.length x

theorem Inv.done {S : List T3} {C : List T4} {i j : Nat} {K : List T3} (h : Inv S C i j K) (hi : i = S.length) (hj : j = C.length) : MergeOk S C K := by
  subst hi; subst hj; exact ⟨h.si, h.len, h.mem⟩

theorem SI.inj {K : List T3} (h : SI K) {p q : Nat} (hp : p < K.length) (hq : q < K.length) (e : pid K p = pid K q) : p = q := by
  rcases Nat.lt_trichotomy p q with h1 | h1 | h1
  · have := h p q h1 hq; omega
  · exact h1
  · have := h q p h1 hp; omega

section
variable {S : List T3} {C : List T4} {K : List T3}

/-- Loop 1: a stored posting that no change names is found, unaltered. -/
theorem MergeOk.kept (h : MergeOk S C K) {k : Nat} (hk : k < S.length) (hn : ¬ ∃ u, u < C.length ∧ cid C u = pid S k) :
    (∃ q, q < K.length ∧ pid K q = pid S k) ∧ ∀ q, q < K.length → pid K q = pid S k → pfr K q = pfr S k ∧ pln K q = pln S k := by
  have hm : pat S k ∈ K := (h.mem _).2 (.inl ⟨k, hk, rfl, fun u hu he => hn ⟨u, hu, he⟩⟩)
  obtain ⟨p, hp, hpe⟩ := mem_pat hm
  have hpid : pid K p = pid S k := by unfold pid; rw [hpe]
  refine ⟨⟨p, hp, hpid⟩, fun q hq he => ?_⟩
  obtain rfl := h.si.inj hp hq (hpid.trans he.symm)
  unfold pfr pln
  rw [hpe]
  exact ⟨rfl, rfl⟩

theorem last_of_next {k : Nat} (hC : ND C) (hnext : k + 1 < C.length → cid C (k + 1) ≠ cid C k) : ∀ v, k < v → v < C.length → cid C v ≠ cid C k := by
  intro v h1 h2
  have a1 := hnext (by omega)
  have a2 := hC k (k + 1) (by omega) (by omega)
  have a3 := hC (k + 1) v (by omega) h2
  omega

/-- Loop 2: the last change of an id, one that removes: no such id. -/
theorem MergeOk.removed (h : MergeOk S C K) (hC : ND C) {k : Nat} (hk : k < C.length) (hnext : k + 1 < C.length → cid C (k + 1) ≠ cid C k) (hr : crm C k = true) :
    ∀ q, q < K.length → pid K q ≠ cid C k := by
  intro q hq he
  have hl := last_of_next hC hnext
  rcases (h.mem _).1 (pat_mem hq) with ⟨t, ht, hx, hn⟩ | ⟨u, hu, hx, hru, hlu⟩
  · exact hn k hk he.symm
  · have hcu : cid C u = cid C k := by
      have : pid K q = cid C u := by unfold pid; rw [hx]; rfl
      omega
    rcases Nat.lt_trichotomy u k with h1 | h1 | h1
    · exact hlu k h1 hk hcu.symm
    · subst h1; rw [hr] at hru; cases hru
    · exact hl u h1 hu hcu

/-- Loop 2: the last change of an id, one that adds: its posting is found. -/
theorem MergeOk.added (h : MergeOk S C K) (hC : ND C) {k : Nat} (hk : k < C.length) (hnext : k + 1 < C.length → cid C (k + 1) ≠ cid C k) (hr : crm C k = false) :
    (∃ q, q < K.length ∧ pid K q = cid C k) ∧ ∀ q, q < K.length → pid K q = cid C k → pfr K q = cfr C k ∧ pln K q = cln C k := by
  have hm : post C k ∈ K := (h.mem _).2 (.inr ⟨k, hk, rfl, hr, last_of_next hC hnext⟩)
  obtain ⟨p, hp, hpe⟩ := mem_pat hm
  have hpid : pid K p = cid C k := by unfold pid; rw [hpe]; rfl
  refine ⟨⟨p, hp, hpid⟩, fun q hq he => ?_⟩
  obtain rfl := h.si.inj hp hq (hpid.trans he.symm)
  unfold pfr pln
  rw [hpe]
  exact ⟨rfl, rfl⟩

/-- Loop 3: nothing else. -/
theorem MergeOk.only (h : MergeOk S C K) {q : Nat} (hq : q < K.length) : (∃ u, u < C.length ∧ cid C u = pid K q) ∨ (∃ t, t < S.length ∧ pid S t = pid K q) := by
  rcases (h.mem _).1 (pat_mem hq) with ⟨t, ht, hx, _⟩ | ⟨u, hu, hx, _⟩
  · exact .inr ⟨t, ht, by unfold pid; rw [hx]⟩
  · refine .inl ⟨u, hu, ?_⟩
    unfold pid; rw [hx]; rfl
end

end Go.Proofs.Qxb6000465aMods
