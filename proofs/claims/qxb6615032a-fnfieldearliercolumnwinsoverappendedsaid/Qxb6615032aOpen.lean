/-
  From a reading of an argument to a row.
-/
import Derived.Test.Qxb6615032aBase
import Derived.OpenShut
import Derived.ShutString
import Derived.ChangeOld
import Derived.Deep.Matrix
import Derived.Deep.Grids
import Derived.Deep.Strs
namespace Go.Proofs.Qxb6615032a
open Go.ChangeShapes Go.WideShapes Go.ChangeAt Go.RowKit

theorem row_of_add {w : World} {x : Addr} {n cap : Nat} {f : Nat → Value} (hl : n ≤ cap) (h : ∀ i, i < n → w.cell? (x.add i) = some (f i)) : Row w (some x) n cap f := by
  refine ⟨hl, fun i hi => ?_⟩
  obtain ⟨b, off, spot⟩ := x
  have hspot : spot = none := by simpa [Addr.add] using World.cell?_spot (h 0 (by omega))
  subst hspot
  exact ⟨b, off, rfl, by rw [← add_plain]; exact h i hi⟩

section
variable {H : Type} {enc : TypeId × Value → H} {P : Program} {w : World} {base : Nat} {held : Bool}

theorem open_row_ints {t e : TypeId} {fuel : Nat} {a : Option Addr} {n cap : Nat} {x : DataW H × List MemPlace} (ht : P.underlying t = some (.slice e)) (he : P.underlying e = some (.int .i64)) (hc : P.cellsOf e = 1)
    (h : DataW.trod enc P w base (fun _ => true) held fuel t (Value.slice a n cap).cells.toList = some x) : ∃ y : Nat → Int, Row w a n cap (fun i => .int .i64 (y i)) := by
  rcases open_ints ht he hc h with ⟨hcs, _⟩ | ⟨x, l, c, zs, hcs, _, hl, _, hz, _, hcell, _⟩
  · simp [Value.cells] at hcs
    obtain ⟨rfl, rfl, rfl⟩ := hcs
    exact ⟨fun _ => 0, Nat.le_refl _, fun i hi => by omega⟩
  · simp [Value.cells] at hcs
    obtain ⟨rfl, rfl, rfl⟩ := hcs
    simp only [if_true] at hz
    exact ⟨fun i => zs.getD i 0, row_of_add hl fun i hi => hcell i (by omega)⟩

theorem open_row_strs {t e : TypeId} {fuel : Nat} {a : Option Addr} {n cap : Nat} {x : DataW H × List MemPlace} (ht : P.underlying t = some (.slice e)) (he : P.underlying e = some .string) (hc : P.cellsOf e = 1)
    (h : DataW.trod enc P w base (fun _ => true) held fuel t (Value.slice a n cap).cells.toList = some x) : ∃ V : Nat → ByteArray, Row w a n cap (fun i => .string (V i)) := by
  rcases Go.Deep.open_strs ht he hc h with ⟨hcs, _⟩ | ⟨x, l, c, m, S, hcs, _, hl, _, hz, _, hcell⟩
  · simp [Value.cells] at hcs
    obtain ⟨rfl, rfl, rfl⟩ := hcs
    exact ⟨fun _ => ByteArray.empty, Nat.le_refl _, fun i hi => by omega⟩
  · simp [Value.cells] at hcs
    obtain ⟨rfl, rfl, rfl⟩ := hcs
    simp only [if_true] at hz
    exact ⟨S, row_of_add hl fun i hi => (hcell i (by omega)).1⟩

theorem open_row_bools {t e : TypeId} {fuel : Nat} {a : Option Addr} {n cap : Nat} {x : DataW H × List MemPlace} (ht : P.underlying t = some (.slice e)) (he : P.underlying e = some .bool) (hc : P.cellsOf e = 1)
    (h : DataW.trod enc P w base (fun _ => true) held fuel t (Value.slice a n cap).cells.toList = some x) : ∃ B : Nat → Bool, Row w a n cap (fun i => .bool (B i)) := by
  rcases Go.Deep.open_bools ht he hc h with ⟨hcs, _⟩ | ⟨x, l, c, B, hcs, _, hl, _, _, hcell⟩
  · simp [Value.cells] at hcs
    obtain ⟨rfl, rfl, rfl⟩ := hcs
    exact ⟨fun _ => false, Nat.le_refl _, fun i hi => by omega⟩
  · simp [Value.cells] at hcs
    obtain ⟨rfl, rfl, rfl⟩ := hcs
    exact ⟨B, row_of_add hl fun i hi => hcell i (by omega)⟩

theorem open_row_rows {t e q : TypeId} {fuel : Nat} {a : Option Addr} {n cap : Nat} {x : DataW H × List MemPlace} (ht : P.underlying t = some (.slice e)) (he : P.underlying e = some (.slice q)) (hq : P.underlying q = some (.int .u8))
    (ce : P.cellsOf e = 1) (cq : P.cellsOf q = 1)
    (h : DataW.trod enc P w base (fun _ => true) held fuel t (Value.slice a n cap).cells.toList = some x) :
    ∃ (A : Nat → Option Addr) (L C : Nat → Nat) (Z : Nat → Nat → Int), Row w a n cap (fun i => .slice (A i) (L i) (C i)) ∧ ∀ i, i < n → Row w (A i) (L i) (C i) (fun j => .int .u8 (Z i j)) := by
  rcases Go.Deep.open_int_rows ht he hq ce cq h with ⟨hcs, _⟩ | ⟨x, l, c, A, L, C, Z, hcs, _, hl, _, _, hcell⟩
  · simp [Value.cells] at hcs
    obtain ⟨rfl, rfl, rfl⟩ := hcs
    exact ⟨fun _ => none, fun _ => 0, fun _ => 0, fun _ _ => 0, ⟨Nat.le_refl _, fun i hi => by omega⟩, fun i hi => by omega⟩
  · simp [Value.cells] at hcs
    obtain ⟨rfl, rfl, rfl⟩ := hcs
    refine ⟨A, L, C, fun i j => (Z i).getD j 0, row_of_add hl fun i hi => (hcell i (by omega)).1, fun i hi => ?_⟩
    obtain ⟨_, h1, _, _, _, h5, h6⟩ := hcell i (by omega)
    cases hA : A i with
    | none => have := h5 hA; exact ⟨h1, fun j hj => by omega⟩
    | some a' => exact row_of_add h1 fun j hj => (h6 a' hA).2 j (by omega)
end
end Go.Proofs.Qxb6615032a
