import Derived.Test.Qxb6615030aSv
import Derived.Deep.OwnRows
import Derived.Laws.IdiomStrings
namespace Go.Proofs.Qxb6615030a
open Go.ChangeShapes Go.WideShapes Go.ChangeAt Go.RowKit

theorem Try.info62 : (Try.prog.info? 62).map (fun i => (i.zero, i.size, i.bytes)) = some (some (.agg #[.slice none 0 0, .nilIface]), 2, 40) := by kernel_rfl

/-- What attribute i counts for. -/
def strOfB (b : Bool) (s : ByteArray) : ByteArray := if b then s else ByteArray.empty

theorem made2 (w : World) (z0 z1 : Value) (n : Nat) (t : TypeId) : (w.alloc (.cells (madeCells #[z0, z1] n) t)).rowIs w.heap.size t n (fun i => if i % 2 = 0 then z0 else z1) := by
  refine ⟨_, Go.Deep.blk_alloc_new _ _, size_madeCells _ _, fun i hi => ?_⟩
  rcases Nat.mod_two_eq_zero_or_one i with h | h <;> simp [madeCells, hi, h]

/-- What lies in the attributes' row behind k rounds: two cells an attribute. -/
def Laid (A : Nat → Option Addr) (L C : Nat → Nat) (V : Nat → ByteArray) (B : Nat → Bool) (k : Nat) (f : Nat → Value) : Prop :=
  ∀ j, j < k → f (j * 2) = .slice (A j) (L j) (C j) ∧ (f (j * 2 + 1) = .iface 9 (.string (strOfB (B j) (V j))) ∨ ∃ x l c, f (j * 2 + 1) = .iface 39 (.slice x l c) ∧ strOfB (B j) (V j) = ByteArray.empty)

theorem laid_step {A : Nat → Option Addr} {L C : Nat → Nat} {V : Nat → ByteArray} {B : Nat → Bool} {k : Nat} {f : Nat → Value} (h : Laid A L C V B k f) (v : Value)
    (hv : v = .iface 9 (.string (strOfB (B k) (V k))) ∨ ∃ x l c, v = .iface 39 (.slice x l c) ∧ strOfB (B k) (V k) = ByteArray.empty) :
    Laid A L C V B (k + 1) (fun j => if j = k * 2 + 1 then v else (fun j => if j = k * 2 then .slice (A k) (L k) (C k) else f j) j) := by
  intro j hj
  dsimp only
  by_cases e : j = k
  · subst e
    refine ⟨by rw [if_neg (by omega), if_pos rfl], ?_⟩
    rw [if_pos rfl]
    exact hv
  · have := h j (by omega)
    refine ⟨by rw [if_neg (by omega), if_neg (by omega)]; exact this.1, ?_⟩
    rw [if_neg (by omega), if_neg (by omega)]
    exact this.2

/-- What append built, as a row of strings. -/
theorem row_of_owned {w : World} {base : Nat} {v : Value} {R : List ByteArray} (h : w.ownsRow base 9 1 v R.length (R.map Value.string)) :
    ∃ a c, v = .slice a R.length c ∧ Row w a R.length c (fun i => .string (R.getD i ByteArray.empty)) := by
  rcases h.2 with ⟨rfl, hn⟩ | ⟨g, cap, cur, rfl, _, hg, hle, _⟩
  · exact ⟨none, 0, by rw [hn], by omega, fun i hi => by omega⟩
  · refine ⟨_, _, rfl, hle, fun i hi => ⟨g, 0, rfl, ?_⟩⟩
    rw [Nat.zero_add, h.cellAt i (by omega)]
    simp [hi]

set_option maxRecDepth 100000 in
theorem zz_any (w : World) (a : Option Addr) (n ca : Nat) (av : Option Addr) (cv : Nat) (ab : Option Addr) (cb : Nat) (ao : Option Addr) (no co : Nat) (y : Nat → Int) (A : Nat → Option Addr) (L C : Nat → Nat) (Z : Nat → Nat → Int)
    (V : Nat → ByteArray) (B : Nat → Bool)
    (hn : n ≤ 1048576) (hno : no ≤ 1048576) (hL : ∀ i, i < n → L i ≤ 1048576)
    (rt : Row w a n ca (fun i => .slice (A i) (L i) (C i))) (rv : Row w av n cv (fun i => .string (V i))) (rs : Row w ab n cb (fun i => .bool (B i))) (ro : Row w ao no co (fun i => .int .i64 (y i)))
    (hrow : ∀ i, i < n → Row w (A i) (L i) (C i) (fun j => .int .i64 (Z i j))) :
    Calls Try.prog 10 #[.slice a n ca, .slice av n cv, .slice ab n cb, .slice ao no co] w fun e w' => ∃ a' c', e = .returned (.slice a' (svN (fun i => sameB (L i) (Z i) no y) (fun i => strOfB (B i) (V i)) n).length c') ∧
      Row w' a' (svN (fun i => sameB (L i) (Z i) no y) (fun i => strOfB (B i) (V i)) n).length c' (fun i => .string ((svN (fun i => sameB (L i) (Z i) no y) (fun i => strOfB (B i) (V i)) n).getD i ByteArray.empty)) ∧ Below w.heap.size w w' := by
  obtain ⟨i0, hi, hz0, hz1, hz2⟩ := info_parts Try.info62
  have hmk := fun wx => run_make (P := Try.prog) wx 43 62 i0 (.agg #[.slice none 0 0, .nilIface]) Try.underlying43 hi hz0 .i64 .i64 n n (by omega) (by omega) (by rw [hz2]; omega) (by omega)
  rw [hz1] at hmk
  have hcv := fun (s : ByteArray) wx => run_bytes_of_string (P := Try.prog) wx 9 39 5 s Try.underlying9 Try.underlying39 Try.underlying5
  go_enter Try.func10, Try.ntmps10
  go_wp2_with fail
  go_loopw [16] (fun i wr => ∃ (k : Nat) (f : Nat → Value), k ≤ n ∧ i = .int .i64 k ∧ wr.rowIs w.heap.size 62 (n * 2) f ∧ Laid A L C V B k f ∧ Below w.heap.size w wr) (fun i _ => n - (intOf i).toNat)
  case atStart => exact ⟨0, _, Nat.zero_le _, rfl, made2 _ _ _ _ _, (fun j hj => by omega), Below.alloc (Below.refl _ _) (Nat.le_refl _) _⟩
  case round =>
    obtain ⟨k, f, hk, rfl, hrow1, hlaid, hbel⟩ := hrel
    by_cases hlt : k < n
    · obtain ⟨ba, oa, rfl⟩ := rt.some (by omega)
      obtain ⟨bv, ov, rfl⟩ := rv.some (by omega)
      obtain ⟨bb, ob, rfl⟩ := rs.some (by omega)
      have c1 := (rt.below (Nat.le_refl _) hbel).at k hlt
      have c2 := (rv.below (Nat.le_refl _) hbel).at k hlt
      have c3 := (rs.below (Nat.le_refl _) hbel).at k hlt
      have n1 : ba < w.heap.size := World.block_lt_of_cell? w _ (rt.at k hlt)
      have n2 : bv < w.heap.size := World.block_lt_of_cell? w _ (rv.at k hlt)
      have n3 : bb < w.heap.size := World.block_lt_of_cell? w _ (rs.at k hlt)
      have d0 := hrow1.cell (i := k * 2) (by omega)
      have d1 := hrow1.cell (i := k * 2 + 1) (by omega)
      have f0 := hrow1.frozen (k * 2)
      have f1 := hrow1.frozen (k * 2 + 1)
      have hg := hrow1.lt
      clear rt rv rs ro hrow hL
      by_cases hB : B k = true
      · rw [hB] at c3
        have HB : Hid (B k = true) := hB
        clear hB
        go_wp2_with fail
        go_roundw
        case rel => exact ⟨k + 1, _, by omega, by go_num, (hrow1.set _ _).set _ _, laid_step hlaid _ (.inl (by rw [HB.out]; rfl)), (hbel.setCell (Nat.le_refl _) _).setCell (Nat.le_refl _) _⟩
        case measure => simp [intOf]; omega
      · have hB' : B k = false := by simpa using hB
        rw [hB'] at c3
        have HB : Hid (B k = false) := hB'
        clear hB hB'
        go_wp2_with fail
        go_roundw
        case rel => exact ⟨k + 1, _, by omega, by go_num, (((hrow1.set _ _).set _ _).alloc _).drew, laid_step hlaid _ (.inr ⟨_, _, _, rfl, by rw [HB.out]; rfl⟩), (((hbel.setCell (Nat.le_refl _) _).setCell (Nat.le_refl _) _).alloc (by simp; omega) _).drew⟩
        case measure => simp [intOf]; omega
    · have hkn : k = n := by omega
      subst hkn
      have hsz := hrow1.lt
      go_wp2_with fail
      refine (subject_values_any _ wr.heap.size (some ⟨w.heap.size, 0, none⟩) k k ao no co y A L C Z (fun i => f (i * 2 + 1)) (fun i => strOfB (B i) (V i)) hn hno hL ?_ ?_ (Nat.le_refl _) ?_ ?_ ?_).mono ?_
      · simp
      · exact ro.below (Nat.le_refl _) (hbel.alloc (by omega) _)
      · intro i hi'
        refine ⟨w.heap.size, 0, rfl, ?_, ?_⟩
        · rw [Nat.zero_add, (hrow1.alloc _).cell (by omega), (hlaid i hi').1]
        · rw [Nat.zero_add, (hrow1.alloc _).cell (by omega)]
      · intro i hi'
        exact (hrow i hi').below (Nat.le_refl _) (hbel.alloc (by omega) _)
      · intro i hi'
        exact (hlaid i hi').2
      rintro e w1 ⟨v, rfl, hown, hb1⟩
      obtain ⟨a', c', rfl, hr⟩ := row_of_owned hown
      have hbf : Below w.heap.size w w1 := (hbel.alloc (by omega) _).trans (hb1.mono (by simp; omega))
      clear hown hb1 hrow1 hlaid
      go_wp2_with fail
      go_ret
      exact ⟨a', c', rfl, hr, hbf⟩
end Go.Proofs.Qxb6615030a
