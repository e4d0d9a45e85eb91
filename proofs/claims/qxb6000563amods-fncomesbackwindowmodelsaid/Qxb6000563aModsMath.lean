/-
  DERIVED. THE PLAIN LAW: the ring of six bools against the window of the last six calls. No Go here.
-/
import Derived.Test.Qxb6000563aModsBack
namespace Go.Proofs.Qxb6000563aMods

/-- The answer at call t; false before the first. -/
def bI (b : Nat → Bool) (t : Int) : Bool := if t < 0 then false else b t.toNat

theorem bI_nat (b : Nat → Bool) (n : Nat) {t : Int} (h : t = n) : bI b t = b n := by
  subst h
  unfold bI
  rw [if_neg (by omega), Int.toNat_natCast]

theorem bI_neg (b : Nat → Bool) {t : Int} (h : t < 0) : bI b t = false := by
  unfold bI
  rw [if_pos h]

/-- What the ring holds at place s when M calls are done. -/
def ringAt (b : Nat → Bool) (M s : Nat) : Bool := bI b ((M : Int) - ((M % 6 : Nat) : Int) + (s : Int) - if s < M % 6 then 0 else 6)

theorem ring_at (b : Nat → Bool) (M r s d : Nat) (hM : M % 6 = r) (hd : d = if s < r then r - s else r + 6 - s) (hs : s < 6) : ringAt b M s = bI b ((M : Int) - (d : Int)) := by
  unfold ringAt
  rw [hM]
  congr 1
  subst hd
  split <;> omega

theorem ring_start (b : Nat → Bool) {s : Nat} (hs : s < 6) : ringAt b 0 s = false := by
  unfold ringAt
  rw [bI_neg]
  simp
  omega

theorem ring_step (b : Nat → Bool) (K : Nat) {s : Nat} (hs : s < 6) : upd (ringAt b K) (K % 6) (b K) s = ringAt b (K + 1) s := by
  unfold upd
  by_cases h : s = K % 6
  · rw [if_pos h]
    unfold ringAt
    rw [bI_nat b K]
    split <;> omega
  · rw [if_neg h]
    unfold ringAt
    congr 1
    have hk : (K + 1) % 6 = if K % 6 = 5 then 0 else K % 6 + 1 := by split <;> omega
    rw [hk]
    split <;> split <;> split <;> omega

theorem cnt_ring (b : Nat → Bool) (M : Nat) : cnt6 (ringAt b M) = bn (bI b ((M : Int) - (1 : Nat))) + bn (bI b ((M : Int) - (2 : Nat))) + bn (bI b ((M : Int) - (3 : Nat))) + bn (bI b ((M : Int) - (4 : Nat))) + bn (bI b ((M : Int) - (5 : Nat))) + bn (bI b ((M : Int) - (6 : Nat))) := by
  unfold cnt6
  have h6 : M % 6 = 0 ∨ M % 6 = 1 ∨ M % 6 = 2 ∨ M % 6 = 3 ∨ M % 6 = 4 ∨ M % 6 = 5 := by omega
  rcases h6 with h | h | h | h | h | h
  · rw [ring_at b M 0 0 6 h rfl (by omega), ring_at b M 0 1 5 h rfl (by omega), ring_at b M 0 2 4 h rfl (by omega), ring_at b M 0 3 3 h rfl (by omega), ring_at b M 0 4 2 h rfl (by omega), ring_at b M 0 5 1 h rfl (by omega)]; omega
  · rw [ring_at b M 1 0 1 h rfl (by omega), ring_at b M 1 1 6 h rfl (by omega), ring_at b M 1 2 5 h rfl (by omega), ring_at b M 1 3 4 h rfl (by omega), ring_at b M 1 4 3 h rfl (by omega), ring_at b M 1 5 2 h rfl (by omega)]; omega
  · rw [ring_at b M 2 0 2 h rfl (by omega), ring_at b M 2 1 1 h rfl (by omega), ring_at b M 2 2 6 h rfl (by omega), ring_at b M 2 3 5 h rfl (by omega), ring_at b M 2 4 4 h rfl (by omega), ring_at b M 2 5 3 h rfl (by omega)]; omega
  · rw [ring_at b M 3 0 3 h rfl (by omega), ring_at b M 3 1 2 h rfl (by omega), ring_at b M 3 2 1 h rfl (by omega), ring_at b M 3 3 6 h rfl (by omega), ring_at b M 3 4 5 h rfl (by omega), ring_at b M 3 5 4 h rfl (by omega)]; omega
  · rw [ring_at b M 4 0 4 h rfl (by omega), ring_at b M 4 1 3 h rfl (by omega), ring_at b M 4 2 2 h rfl (by omega), ring_at b M 4 3 1 h rfl (by omega), ring_at b M 4 4 6 h rfl (by omega), ring_at b M 4 5 5 h rfl (by omega)]; omega
  · rw [ring_at b M 5 0 5 h rfl (by omega), ring_at b M 5 1 4 h rfl (by omega), ring_at b M 5 2 3 h rfl (by omega), ring_at b M 5 3 2 h rfl (by omega), ring_at b M 5 4 1 h rfl (by omega), ring_at b M 5 5 6 h rfl (by omega)]; omega

/-- How many of the c calls from lo on. -/
def wsum (b : Nat → Bool) (lo : Nat) : Nat → Nat
  | 0 => 0
  | c + 1 => wsum b lo c + bn (b (lo + c))

theorem wsum_le (b : Nat → Bool) (lo c : Nat) : wsum b lo c ≤ c := by
  induction c with
  | zero => exact Nat.le_refl _
  | succ c ih =>
    have : bn (b (lo + c)) ≤ 1 := by unfold bn; split <;> omega
    unfold wsum
    omega

/-- THE LAW: the ring counts the window. -/
theorem ring_window (b : Nat → Bool) (K : Nat) : cnt6 (upd (ringAt b K) (K % 6) (b K)) = wsum b (K - 5) (K + 1 - (K - 5)) := by
  have e : cnt6 (upd (ringAt b K) (K % 6) (b K)) = cnt6 (ringAt b (K + 1)) := by
    unfold cnt6
    rw [ring_step b K (by omega), ring_step b K (by omega), ring_step b K (by omega), ring_step b K (by omega), ring_step b K (by omega), ring_step b K (by omega)]
  rw [e, cnt_ring]
  by_cases h : 5 ≤ K
  · obtain ⟨m, rfl⟩ : ∃ m, K = m + 5 := ⟨K - 5, by omega⟩
    rw [show m + 5 + 1 - (m + 5 - 5) = 6 by omega, show m + 5 - 5 = m by omega]
    simp only [wsum]
    rw [bI_nat b (m + 5) (by omega), bI_nat b (m + 4) (by omega), bI_nat b (m + 3) (by omega), bI_nat b (m + 2) (by omega), bI_nat b (m + 1) (by omega), bI_nat b (m + 0) (by omega)]
    omega
  · have h5 : K = 0 ∨ K = 1 ∨ K = 2 ∨ K = 3 ∨ K = 4 := by omega
    rcases h5 with rfl | rfl | rfl | rfl | rfl
    · rw [bI_nat b 0 (by omega), bI_neg b (t := ((0 + 1 : Nat) : Int) - (2 : Nat)) (by omega), bI_neg b (t := ((0 + 1 : Nat) : Int) - (3 : Nat)) (by omega), bI_neg b (t := ((0 + 1 : Nat) : Int) - (4 : Nat)) (by omega), bI_neg b (t := ((0 + 1 : Nat) : Int) - (5 : Nat)) (by omega), bI_neg b (t := ((0 + 1 : Nat) : Int) - (6 : Nat)) (by omega)]
      simp [wsum, bn]
    · rw [bI_nat b 1 (by omega), bI_nat b 0 (by omega), bI_neg b (t := ((1 + 1 : Nat) : Int) - (3 : Nat)) (by omega), bI_neg b (t := ((1 + 1 : Nat) : Int) - (4 : Nat)) (by omega), bI_neg b (t := ((1 + 1 : Nat) : Int) - (5 : Nat)) (by omega), bI_neg b (t := ((1 + 1 : Nat) : Int) - (6 : Nat)) (by omega)]
      simp [wsum, bn]; omega
    · rw [bI_nat b 2 (by omega), bI_nat b 1 (by omega), bI_nat b 0 (by omega), bI_neg b (t := ((2 + 1 : Nat) : Int) - (4 : Nat)) (by omega), bI_neg b (t := ((2 + 1 : Nat) : Int) - (5 : Nat)) (by omega), bI_neg b (t := ((2 + 1 : Nat) : Int) - (6 : Nat)) (by omega)]
      simp [wsum, bn]; omega
    · rw [bI_nat b 3 (by omega), bI_nat b 2 (by omega), bI_nat b 1 (by omega), bI_nat b 0 (by omega), bI_neg b (t := ((3 + 1 : Nat) : Int) - (5 : Nat)) (by omega), bI_neg b (t := ((3 + 1 : Nat) : Int) - (6 : Nat)) (by omega)]
      simp [wsum, bn]; omega
    · rw [bI_nat b 4 (by omega), bI_nat b 3 (by omega), bI_nat b 2 (by omega), bI_nat b 1 (by omega), bI_nat b 0 (by omega), bI_neg b (t := ((4 + 1 : Nat) : Int) - (6 : Nat)) (by omega)]
      simp [wsum, bn]; omega

theorem Cache.congr {w : World} {B : Nat} {dv : Value} {A A' : Nat → Bool} {nx nx' : Nat} (h : Cache w B dv A nx) (e : ∀ s, s < 6 → A s = A' s) (en : nx = nx') : Cache w B dv A' nx' := by
  subst en
  unfold Cache at h ⊢
  rw [h, e 0 (by omega), e 1 (by omega), e 2 (by omega), e 3 (by omega), e 4 (by omega), e 5 (by omega)]

end Go.Proofs.Qxb6000563aMods
