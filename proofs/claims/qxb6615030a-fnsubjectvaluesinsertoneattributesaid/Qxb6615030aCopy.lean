/-
  'copy' of a whole slice into a row that was just made; cuts of a slice; by rows.
-/
import Derived.Test.Qxb6615030aBase
import Derived.Laws.CopyOwn
import Derived.Deep.OwnRows
namespace Go.Proofs.Qxb6615030a
open Go.ChangeShapes Go.WideShapes Go.ChangeAt Go.RowKit

theorem wpList_copy_row {P : Program} {w : World} {ops : Array Oper} {rest : List Oper} {o : Oper} {a : Act} {Q : Exit → Act → World → Prop} (hgd : o.guard = none) (d s : Operand) (dT sT : TypeId)
    (ho : o.op = .call { callee := .builtin .copy, args := #[d, s], argTypes := #[dT, sT] }) (elem : TypeId) (hu : P.underlying dT = some (.slice elem)) (hsz : (P.info? elem).map (·.size) = some 1)
    (g n c c' : Nat) (sp : Option Addr) (hd : a.eval d = .slice (some ⟨g, 0, none⟩) n c') (hs : a.eval s = .slice sp n c) (t : TypeId) (z : Nat → Value) (hg : w.rowIs g t n z) (f : Nat → Value) (hrow : Row w sp n c f) (hc' : n ≤ c')
    (h1 : ∀ i, i < n → (f i).oneCell' = true) (B : Nat) (w0 : World) (hb : Below B w0 w) (hBg : B ≤ g)
    (h : ∀ w', Row w' (some ⟨g, 0, none⟩) n c' f → Below B w0 w' → wpList P ops Q rest (a.put o.dst (goInt n)) w') : wpList P ops Q (o :: rest) a w := by
  obtain ⟨cur, hh, hcs, _⟩ := hg
  have hlen : ((List.range n).map f).length = n := by simp
  refine wpList_copy_splice hgd d s dT sT ho elem hu hsz (some ⟨g, 0, none⟩) sp n c' n c hd hs g 0 cur.toList t (by simpa using hh) ((List.range n).map f) (by simp) ?_ (by simp [hcs]) ?_ B w0 hb hBg ?_
  · intro h0
    rw [hlen] at h0
    refine ⟨rfl, ?_⟩
    obtain ⟨b, off, rfl⟩ := hrow.some h0
    refine ⟨_, rfl, fun j v hj => ?_⟩
    have hjn : j < n := by
      have := (List.getElem?_eq_some_iff.1 hj).1
      simpa using this
    have e := hrow.at j hjn
    have ev : v = f j := by
      simp [hjn] at hj
      exact hj.symm
    rw [ev, ← e]
    by_cases hj0 : j = 0 <;> simp [Addr.add, hj0]
  · intro v hv
    obtain ⟨i, hi, rfl⟩ := List.mem_map.1 hv
    exact h1 i (List.mem_range.1 hi)
  · intro w' hh' hb'
    have hl : (goInt ((List.range n).map f).length) = goInt n := by rw [hlen]
    rw [hl]
    refine h w' ⟨hc', fun i hi => ⟨g, 0, rfl, ?_⟩⟩ hb'
    have := hh'.out
    rw [cell_of_row w' g (0 + i) _ t (0, 0) this]
    simp only [splice, List.take_zero, List.nil_append, Nat.zero_add, List.getElem?_toArray]
    rw [List.getElem?_append_left (by simpa using hi)]
    simp [hi]

/-- 'x[:k]' -/
theorem cut_left {P : Program} (t e : TypeId) (ht : P.underlying t = some (.slice e)) (hsz : (P.info? e).map (·.size) = some 1) {w : World} {a : Option Addr} {n c : Nat} {f : Nat → Value} (hr : Row w a n c f) (k : Nat) (hk : k ≤ n) :
    ∃ a' c', (∀ wx, (Instr.slice t (.slice a n c) none (some (.int .i64 (k : Int))) none).run P wx = .ok (.slice a' k c') wx) ∧ Row w a' k c' f := by
  have hle := hr.le
  obtain ⟨i, hi, hz⟩ := Option.map_eq_some_iff.1 hsz
  refine ⟨(if c = 0 then a else a.map (·.add (0 * 1))), c, fun wx => ?_, ⟨by omega, fun i hi => ?_⟩⟩
  · have hkc : k ≤ c := by omega
    simp [Instr.slice, run_underlying ht, Instr.sliceBounds, Instr.sliceBound, asIntOf, hkc, sizeOf, typeInfo, hi]
  · obtain ⟨b, off, rfl, hc⟩ := hr.cell i (by omega)
    refine ⟨b, off, ?_, hc⟩
    split <;> simp [Addr.add]

/-- 'x[k:]' -/
theorem cut_right {P : Program} (t e : TypeId) (ht : P.underlying t = some (.slice e)) (hsz : (P.info? e).map (·.size) = some 1) {w : World} {a : Option Addr} {n c : Nat} {f : Nat → Value} (hr : Row w a n c f) (k : Nat) (hk : k ≤ n) :
    ∃ a' c', (∀ wx, (Instr.slice t (.slice a n c) (some (.int .i64 (k : Int))) none none).run P wx = .ok (.slice a' (n - k) c') wx) ∧ Row w a' (n - k) c' (fun i => f (k + i)) := by
  have hle := hr.le
  obtain ⟨i, hi, hz⟩ := Option.map_eq_some_iff.1 hsz
  refine ⟨(if c = k then a else a.map (·.add (k * 1))), c - k, fun wx => ?_, ⟨by omega, fun i hi => ?_⟩⟩
  · have hkc : k ≤ n := by omega
    simp [Instr.slice, run_underlying ht, Instr.sliceBounds, Instr.sliceBound, asIntOf, hkc, sizeOf, typeInfo, hi, hz]
  · obtain ⟨b, off, rfl, hc⟩ := hr.cell (k + i) (by omega)
    refine ⟨b, off + k, ?_, by rw [Nat.add_assoc]; exact hc⟩
    rw [if_neg (by omega)]
    simp [Addr.add]

end Go.Proofs.Qxb6615030a
