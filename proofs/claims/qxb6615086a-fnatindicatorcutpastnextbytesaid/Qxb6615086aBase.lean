/-
  Rows of cells behind slice values, read by index; plain facts.
-/
import Derived.Test.Qxb6615086aRows
import Derived.WalkKit
import Derived.ProofKit
import Derived.Below
import Derived.WalkSpells
import Derived.WalkSmall
import Derived.WalkLawsBesides
import Derived.Laws.CopyOwn
import Derived.Deep.OwnRows
import Derived.Deep.QuietTactic
import Derived.BigQuiet
import Derived.Deep.CutRange
import Derived.Deep.DeepCutAuto
import Derived.Deep.RegionHeld3
namespace Go.Proofs.Qxb6615086a
open Go.ChangeShapes Go.WideShapes Go.ChangeAt Go.RowKit

/-- A slice value '.slice a n cap' whose first n cells hold 'f 0', 'f 1', .. -/
structure Row (w : World) (a : Option Addr) (n cap : Nat) (f : Nat → Value) : Prop where
  le : n ≤ cap
  cell : ∀ i, i < n → ∃ b off, a = some ⟨b, off, none⟩ ∧ w.cell? ⟨b, off + i, none⟩ = some (f i)

theorem Row.below {w w' : World} {a : Option Addr} {n cap : Nat} {f : Nat → Value} (h : Row w a n cap f) {B : Nat} (hB : w.heap.size ≤ B) (hb : Below B w w') : Row w' a n cap f := by
  refine ⟨h.le, fun i hi => ?_⟩
  obtain ⟨b, off, ha, hc⟩ := h.cell i hi
  refine ⟨b, off, ha, ?_⟩
  rw [hb.cell (p := ⟨b, off + i, none⟩) (by have := World.block_lt_of_cell? w _ hc; simp at this ⊢; omega)]
  exact hc

theorem Row.drew {w : World} {a : Option Addr} {n cap : Nat} {f : Nat → Value} (h : Row w a n cap f) : Row w.drew a n cap f := ⟨h.le, h.cell⟩

theorem Row.drewN {w : World} {a : Option Addr} {n cap : Nat} {f : Nat → Value} (h : Row w a n cap f) (m : Nat) : Row (w.drewN m) a n cap f := ⟨h.le, h.cell⟩

theorem Row.congr {w : World} {a : Option Addr} {n cap : Nat} {f g : Nat → Value} (h : Row w a n cap f) (e : ∀ i, i < n → f i = g i) : Row w a n cap g :=
  ⟨h.le, fun i hi => by obtain ⟨b, off, ha, hc⟩ := h.cell i hi; exact ⟨b, off, ha, by rw [hc, e i hi]⟩⟩

theorem Row.at {w : World} {b off : Nat} {n cap : Nat} {f : Nat → Value} (h : Row w (some ⟨b, off, none⟩) n cap f) (i : Nat) (hi : i < n) : w.cell? ⟨b, off + i, none⟩ = some (f i) := by
  obtain ⟨b', off', ha, hc⟩ := h.cell i hi
  simp at ha
  obtain ⟨rfl, rfl⟩ := ha
  exact hc

theorem Row.some {w : World} {a : Option Addr} {n cap : Nat} {f : Nat → Value} (h : Row w a n cap f) (hn : 0 < n) : ∃ b off, a = some ⟨b, off, none⟩ := by
  obtain ⟨b, off, ha, _⟩ := h.cell 0 hn
  exact ⟨b, off, ha⟩

/-- What is owned stays owned where no block that was there turns. -/
theorem ownsRow_below {w w' : World} {base : Nat} {e : TypeId} {size : Nat} {v : Value} {n : Nat} {xs : List Value} (h : w.ownsRow base e size v n xs) {B : Nat} (hB : w.heap.size ≤ B) (hb : Below B w w') : w'.ownsRow base e size v n xs := by
  obtain ⟨h1, h2⟩ := h
  refine ⟨h1, ?_⟩
  rcases h2 with h2 | ⟨g, cap, cur, hv, hg, hh, r⟩
  · exact Or.inl h2
  · exact Or.inr ⟨g, cap, cur, hv, hg, by rw [hb.block g (by have := (Array.getElem?_eq_some_iff.1 hh).1; omega)]; exact hh, r⟩

theorem ret_bool {a b : Bool} (h : a = b) : Ending.returned (.bool a) = .returned (.bool b) := by rw [h]

theorem wpList_copy_row {P : Program} {w : World} {ops : Array Oper} {rest : List Oper} {o : Oper} {a : Act} {Q : Exit → Act → World → Prop} (hgd : o.guard = none) (d s : Operand) (dT sT : TypeId)
    (ho : o.op = .call { callee := .builtin .copy, args := #[d, s], argTypes := #[dT, sT] }) (elem : TypeId) (hu : P.underlying dT = some (.slice elem)) (hsz : (P.info? elem).map (·.size) = some 1)
    (g n c c' : Nat) (sp : Option Addr) (hd : a.eval d = .slice (some ⟨g, 0, none⟩) n c') (hs : a.eval s = .slice sp n c) (t : TypeId) (z : Nat → Value) (hg : w.rowIs g t n z) (f : Nat → Value) (hrow : Row w sp n c f) (hc' : n ≤ c')
    (h1 : ∀ i, i < n → (f i).oneCell' = true) (B : Nat) (w0 : World) (hb : Below B w0 w) (hBg : B ≤ g)
    (h : ∀ w', Row w' (some ⟨g, 0, none⟩) n c' f → Below B w0 w' → wpList P ops Q rest (a.put o.dst (goInt n)) w') : wpList P ops Q (o :: rest) a w := by
  obtain ⟨cur, hh, hcs, _⟩ := hg
  have hlen : ((List.range n).map f).length = n := by simp
  refine wpList_copy_splice hgd d s dT sT ho elem hu hsz (some ⟨g, 0, none⟩) sp n c' n c hd hs g 0 cur.toList t (by simpa using hh) ((List.range n).map f) (by simp) ?_ (by simp [hcs]) ?_ B w0 hb hBg ?_
  · intro h0
    rw [hlen] at h0
    refine ⟨rfl, ?_⟩
    obtain ⟨b, off, rfl⟩ := hrow.some h0
    refine ⟨_, rfl, fun j v hj => ?_⟩
    have hjn : j < n := by
      have := (List.getElem?_eq_some_iff.1 hj).1
      simpa using this
    have e := hrow.at j hjn
    have ev : v = f j := by
      simp [hjn] at hj
      exact hj.symm
    rw [ev, ← e]
    by_cases hj0 : j = 0 <;> simp [Addr.add, hj0]
  · intro v hv
    obtain ⟨i, hi, rfl⟩ := List.mem_map.1 hv
    exact h1 i (List.mem_range.1 hi)
  · intro w' hh' hb'
    have hl : (goInt ((List.range n).map f).length) = goInt n := by rw [hlen]
    rw [hl]
    refine h w' ⟨hc', fun i hi => ⟨g, 0, rfl, ?_⟩⟩ hb'
    have := hh'.out
    rw [cell_of_row w' g (0 + i) _ t (0, 0) this]
    simp only [splice, List.take_zero, List.nil_append, Nat.zero_add, List.getElem?_toArray]
    rw [List.getElem?_append_left (by simpa using hi)]
    simp [hi]

/-- The code behind the first k statements. -/
def dropS : Nat → Code → Code
  | 0, c => c
  | k + 1, .seq _ b => dropS k b
  | _ + 1, c => c

end Go.Proofs.Qxb6615086a
