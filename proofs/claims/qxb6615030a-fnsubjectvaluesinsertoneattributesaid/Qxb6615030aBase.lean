/-
  Rows of cells behind slice values, read by index; plain facts.
-/
import Derived.Test.Qxb6615030aRows
import Derived.WalkKit
import Derived.ProofKit
import Derived.Below
import Derived.WalkSpells
import Derived.WalkSmall
import Derived.WalkLawsBesides
namespace Go.Proofs.Qxb6615030a
open Go.ChangeShapes Go.WideShapes Go.ChangeAt Go.RowKit

/-- A slice value '.slice a n cap' whose first n cells hold 'f 0', 'f 1', .. -/
structure Row (w : World) (a : Option Addr) (n cap : Nat) (f : Nat → Value) : Prop where
  le : n ≤ cap
  cell : ∀ i, i < n → ∃ b off, a = some ⟨b, off, none⟩ ∧ w.cell? ⟨b, off + i, none⟩ = some (f i)

theorem Row.below {w w' : World} {a : Option Addr} {n cap : Nat} {f : Nat → Value} (h : Row w a n cap f) {B : Nat} (hB : w.heap.size ≤ B) (hb : Below B w w') : Row w' a n cap f := by
  refine ⟨h.le, fun i hi => ?_⟩
  obtain ⟨b, off, ha, hc⟩ := h.cell i hi
  refine ⟨b, off, ha, ?_⟩
  rw [hb.cell (p := ⟨b, off + i, none⟩) (by have := World.block_lt_of_cell? w _ hc; simp at this ⊢; omega)]
  exact hc

theorem Row.drew {w : World} {a : Option Addr} {n cap : Nat} {f : Nat → Value} (h : Row w a n cap f) : Row w.drew a n cap f := ⟨h.le, h.cell⟩

theorem Row.congr {w : World} {a : Option Addr} {n cap : Nat} {f g : Nat → Value} (h : Row w a n cap f) (e : ∀ i, i < n → f i = g i) : Row w a n cap g :=
  ⟨h.le, fun i hi => by obtain ⟨b, off, ha, hc⟩ := h.cell i hi; exact ⟨b, off, ha, by rw [hc, e i hi]⟩⟩

theorem Row.at {w : World} {b off : Nat} {n cap : Nat} {f : Nat → Value} (h : Row w (some ⟨b, off, none⟩) n cap f) (i : Nat) (hi : i < n) : w.cell? ⟨b, off + i, none⟩ = some (f i) := by
  obtain ⟨b', off', ha, hc⟩ := h.cell i hi
  simp at ha
  obtain ⟨rfl, rfl⟩ := ha
  exact hc

theorem Row.some {w : World} {a : Option Addr} {n cap : Nat} {f : Nat → Value} (h : Row w a n cap f) (hn : 0 < n) : ∃ b off, a = some ⟨b, off, none⟩ := by
  obtain ⟨b, off, ha, _⟩ := h.cell 0 hn
  exact ⟨b, off, ha⟩

/-- What is owned stays owned where no block that was there turns. -/
theorem ownsRow_below {w w' : World} {base : Nat} {e : TypeId} {size : Nat} {v : Value} {n : Nat} {xs : List Value} (h : w.ownsRow base e size v n xs) {B : Nat} (hB : w.heap.size ≤ B) (hb : Below B w w') : w'.ownsRow base e size v n xs := by
  obtain ⟨h1, h2⟩ := h
  refine ⟨h1, ?_⟩
  rcases h2 with h2 | ⟨g, cap, cur, hv, hg, hh, r⟩
  · exact Or.inl h2
  · exact Or.inr ⟨g, cap, cur, hv, hg, by rw [hb.block g (by have := (Array.getElem?_eq_some_iff.1 hh).1; omega)]; exact hh, r⟩

theorem ret_bool {a b : Bool} (h : a = b) : Ending.returned (.bool a) = .returned (.bool b) := by rw [h]

end Go.Proofs.Qxb6615030a
