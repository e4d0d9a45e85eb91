/-
  DERIVED. The shared words for the walks of FnMergePostingsLastChangeDecides: postings and changes as plain records; a slice of them in memory.
-/
import Derived.Test.Qxb6000465aModsRows
import Derived.WalkKit
import Derived.WalkSpells
import Derived.WalkLawsBesides
import Derived.Deep.QuietTactic
import Derived.BigQuiet
namespace Go.Proofs.Qxb6000465aMods
open Go.RowKit

structure T3 where
  id : Int
  fr : Int
  ln : Int

structure T4 where
  id : Int
  fr : Int
  ln : Int
  rm : Bool

def pat (P : List T3) (k : Nat) : T3 := (P[k]?).getD ⟨0, 0, 0⟩
def cat (C : List T4) (k : Nat) : T4 := (C[k]?).getD ⟨0, 0, 0, false⟩
def pid (P : List T3) (k : Nat) : Int := (pat P k).id
def pfr (P : List T3) (k : Nat) : Int := (pat P k).fr
def pln (P : List T3) (k : Nat) : Int := (pat P k).ln
def cid (C : List T4) (k : Nat) : Int := (cat C k).id
def cfr (C : List T4) (k : Nat) : Int := (cat C k).fr
def cln (C : List T4) (k : Nat) : Int := (cat C k).ln
def crm (C : List T4) (k : Nat) : Bool := (cat C k).rm

/-- The three cells of each posting lie behind the slice's address. -/
def Row3 (w : World) (a : Option Addr) (P : List T3) : Prop :=
  P.length = 0 ∨ ∃ b off, a = some ⟨b, off, none⟩ ∧ ∀ k, k < P.length → w.cell? ⟨b, off + k * 3, none⟩ = some (.int .i64 (pid P k)) ∧
    w.cell? ⟨b, off + k * 3 + 1, none⟩ = some (.int .i64 (pfr P k)) ∧ w.cell? ⟨b, off + k * 3 + 2, none⟩ = some (.int .i64 (pln P k))

/-- The four cells of each change lie behind the slice's address. -/
def Row4 (w : World) (a : Option Addr) (C : List T4) : Prop :=
  C.length = 0 ∨ ∃ b off, a = some ⟨b, off, none⟩ ∧ ∀ k, k < C.length → w.cell? ⟨b, off + k * 4, none⟩ = some (.int .i64 (cid C k)) ∧
    w.cell? ⟨b, off + k * 4 + 1, none⟩ = some (.int .i64 (cfr C k)) ∧ w.cell? ⟨b, off + k * 4 + 2, none⟩ = some (.int .i64 (cln C k)) ∧
    w.cell? ⟨b, off + k * 4 + 3, none⟩ = some (.bool (crm C k))

theorem cell_below {w w' : World} (hb : Below w.heap.size w w') {a : Addr} {v : Value} (h : w.cell? a = some v) : w'.cell? a = some v :=
  (hb.cell (World.block_lt_of_cell? w a h)).trans h

theorem Row3.below {w w' : World} {a : Option Addr} {P : List T3} (h : Row3 w a P) (hb : Below w.heap.size w w') : Row3 w' a P := by
  rcases h with h | ⟨b, off, rfl, h⟩
  · exact .inl h
  · exact .inr ⟨b, off, rfl, fun k hk => ⟨cell_below hb (h k hk).1, cell_below hb (h k hk).2.1, cell_below hb (h k hk).2.2⟩⟩

theorem Row4.below {w w' : World} {a : Option Addr} {C : List T4} (h : Row4 w a C) (hb : Below w.heap.size w w') : Row4 w' a C := by
  rcases h with h | ⟨b, off, rfl, h⟩
  · exact .inl h
  · exact .inr ⟨b, off, rfl, fun k hk => ⟨cell_below hb (h k hk).1, cell_below hb (h k hk).2.1, cell_below hb (h k hk).2.2.1, cell_below hb (h k hk).2.2.2⟩⟩

end Go.Proofs.Qxb6000465aMods
