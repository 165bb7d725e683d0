/-
  The law's walk.
-/
import Derived.Test.Qxb6615086aInd
namespace Go.Proofs.Qxb6615086a
open Go.ChangeShapes Go.WideShapes Go.ChangeAt Go.RowKit

/-- 'x[:k]' -/
theorem cut_left {P : Program} (t e : TypeId) (ht : P.underlying t = some (.slice e)) (hsz : (P.info? e).map (·.size) = some 1) {w : World} {a : Option Addr} {n c : Nat} {f : Nat → Value} (hr : Row w a n c f) (k : Nat) (hk : k ≤ n) :
    ∃ a' c', (∀ wx, (Instr.slice t (.slice a n c) none (some (.int .i64 (k : Int))) none).run P wx = .ok (.slice a' k c') wx) ∧ Row w a' k c' f := by
  have hle := hr.le
  obtain ⟨i, hi, hz⟩ := Option.map_eq_some_iff.1 hsz
  refine ⟨(if c = 0 then a else a.map (·.add (0 * 1))), c, fun wx => ?_, ⟨by omega, fun i hi => ?_⟩⟩
  · have hkc : k ≤ c := by omega
    simp [Instr.slice, run_underlying ht, Instr.sliceBounds, Instr.sliceBound, asIntOf, hkc, sizeOf, typeInfo, hi]
  · obtain ⟨b, off, rfl, hc⟩ := hr.cell i (by omega)
    refine ⟨b, off, ?_, hc⟩
    split <;> simp [Addr.add]

theorem Try.info5 : (Try.prog.info? 5).map (fun i => (i.zero, i.size, i.bytes)) = some (some (.int .u8 0), 1, 1) := by kernel_rfl
theorem Try.size5 : (Try.prog.info? 5).map (·.size) = some 1 := by kernel_rfl

theorem bytes_yes (w : World) (a : Option Addr) (n c : Nat) (p x k : Int) (h : n ≤ 1048576) : Calls Try.prog 5 #[.slice a n c, .int .i64 p, .int .u8 x, .int .i64 k] w fun e w' => e = .returned (.bool true) ∧ w' = w := by
  go_enter Try.func5, Try.ntmps5
  go_wp2
  go_ret
  exact ⟨rfl, rfl⟩
theorem bytes_no (w : World) (a : Option Addr) (n c : Nat) (p x k : Int) (h : 1048576 < n) : Calls Try.prog 5 #[.slice a n c, .int .i64 p, .int .u8 x, .int .i64 k] w fun e w' => e = .returned (.bool false) ∧ w' = w := by
  go_enter Try.func5, Try.ntmps5
  go_wp2
  go_ret
  exact ⟨rfl, rfl⟩

/-- Some Boolean; nothing turned. -/
def AnyBool (w : World) (e : Ending) (w' : World) : Prop := ∃ r : Bool, e = .returned (.bool r) ∧ w = w'
theorem AnyBool.mk' {w : World} {e : Ending} (r : Bool) (h : e = .returned (.bool r)) : AnyBool w e w := ⟨r, h, rfl⟩

theorem is_ind (w : World) (x : Int) : Calls Try.prog 6 #[.int .u8 x] w (AnyBool w) := by
  by_cases h1 : x = 45
  · subst h1
    go_enter Try.func6, Try.ntmps6
    go_wp2
    go_ret
    exact .mk' true rfl
  by_cases h2 : x = 63
  · subst h2
    go_enter Try.func6, Try.ntmps6
    go_wp2
    go_ret
    exact .mk' true rfl
  by_cases h3 : x = 58
  · subst h3
    go_enter Try.func6, Try.ntmps6
    go_wp2
    go_ret
    exact .mk' true rfl
  have g1 : (x == 45) = false := by rw [beq_eq_false_iff_ne]; exact h1
  have g2 : (x == 63) = false := by rw [beq_eq_false_iff_ne]; exact h2
  have g3 : (x == 58) = false := by rw [beq_eq_false_iff_ne]; exact h3
  clear h1 h2 h3
  go_enter Try.func6, Try.ntmps6
  go_wp2
  go_ret
  exact .mk' false rfl

/-- The cut right behind p: just the byte's own answer. -/
theorem ind_end (F : Nat → Int) (p : Nat) (ch : Int) : indB F (p + 1) p ch = decide (F p = ch) := by simp [indB]
theorem ind_miss (F : Nat → Int) (n p : Nat) (ch : Int) (h : ¬ F p = ch) : indB F n p ch = false := by simp [indB, h]
/-- A cut further on changes nothing. -/
theorem ind_cut (F : Nat → Int) (n k p : Nat) (ch : Int) (h1 : ¬ k = p + 1) (h2 : ¬ n = p + 1) : indB F k p ch = indB F n p ch := by
  have e1 : ¬ p + 1 = k := fun h => h1 h.symm
  have e2 : ¬ p + 1 = n := fun h => h2 h.symm
  simp [indB, e1, e2]

set_option maxRecDepth 100000 in
set_option maxHeartbeats 1000000 in
theorem law (w : World) (a : Option Addr) (n c : Nat) (p ch k : Int) (F : Nat → Int) (r : Row w a n c (fun i => .int .u8 (F i))) :
    Calls Try.prog 3 #[.slice a n c, .int .i64 p, .int .u8 ch, .int .i64 k] w fun e w' => e = .returned (.bool true) ∧ Below w.heap.size w w' := by
  by_cases hn : n ≤ 1048576
  rotate_left
  · go_enter Try.func3, Try.ntmps3
    go_wp2_with fail
    refine (bytes_no _ a n c p ch k (by omega)).mono ?_
    rintro e w1 ⟨rfl, hw⟩
    subst hw
    go_wp2_with fail
    go_ret
    exact ⟨rfl, Below.refl _ _⟩
  go_enter Try.func3, Try.ntmps3
  go_wp2_with fail
  refine (bytes_yes _ a n c p ch k hn).mono ?_
  rintro e w1 ⟨rfl, hw⟩
  subst hw
  go_wp2_with fail
  refine (is_ind _ ch).mono ?_
  rintro e w2 ⟨b0, rfl, rfl⟩
  cases b0
  · go_wp2_with fail
    go_ret
    exact ⟨rfl, Below.refl _ _⟩
  by_cases h1 : p < 0
  · have d1 : decide (p < 0) = true := decide_eq_true h1
    go_wp2_with fail
    go_ret
    exact ⟨rfl, Below.refl _ _⟩
  have d1 : decide (p < 0) = false := decide_eq_false h1
  by_cases h2 : (n : Int) ≤ p
  · have d2 : decide ((n : Int) ≤ p) = true := decide_eq_true h2
    go_wp2_with fail
    go_ret
    exact ⟨rfl, Below.refl _ _⟩
  have d2 : decide ((n : Int) ≤ p) = false := decide_eq_false h2
  by_cases h3 : k ≤ p
  · have d3 : decide (k ≤ p) = true := decide_eq_true h3
    go_wp2_with fail
    go_ret
    exact ⟨rfl, Below.refl _ _⟩
  have d3 : decide (k ≤ p) = false := decide_eq_false h3
  by_cases h4 : (n : Int) < k
  · have d4 : decide ((n : Int) < k) = true := decide_eq_true h4
    go_wp2_with fail
    go_ret
    exact ⟨rfl, Below.refl _ _⟩
  have d4 : decide ((n : Int) < k) = false := decide_eq_false h4
  obtain ⟨q, rfl⟩ : ∃ q : Nat, p = (q : Int) := ⟨p.toNat, by omega⟩
  obtain ⟨m, rfl⟩ : ∃ m : Nat, k = (m : Int) := ⟨k.toNat, by omega⟩
  have hq : q < n := by omega
  have hqm : q < m := by omega
  have hmn : m ≤ n := by omega
  obtain ⟨b, off, rfl⟩ := r.some (by omega)
  have hn22 := fun wx => run_neq_slice_nil_any (P := Try.prog) wx 22 5 (some ⟨b, off, none⟩) n c 0 0 Try.underlying22
  have hmk := run_make_row' (P := Try.prog) 22 5 (.int .u8 0) 1 Try.underlying22 Try.info5 rfl .i64 .i64 n (by omega) (by omega)
  go_wp2_with (first | (refine wpList_copy_row rfl (.tmp 46) (.tmp 47) 22 22 rfl 5 Try.underlying22 Try.size5 w1.heap.size n c n (some ⟨b, off, none⟩) rfl rfl 5 _ (World.rowIs_made _ _ _ _) (fun i => .int .u8 (F i)) ?_ (Nat.le_refl _) ?_ w1.heap.size w1 ?_ (Nat.le_refl _) ?_))
  · exact r.below (Nat.le_refl _) (Below.alloc (Below.refl _ _) (Nat.le_refl _) _)
  · exact fun _ _ => rfl
  · exact Below.alloc (Below.refl _ _) (Nat.le_refl _) _
  intro w2 r2 hb2
  clear hn22 hmk r d1 d2 d3 d4 h1 h2 h3 h4
  go_wp2_with (go_at_call 8; go_in)
  refine (zzind_any _ w2.heap.size w1.heap.size 0 n n F q ch hq hn (by simp) (by simp) ?_).mono ?_
  · exact r2.below (Nat.le_refl _) (Below.alloc (Below.refl _ _) (Nat.le_refl _) _)
  rintro e w3 ⟨rfl, hb3⟩
  have hb03 : Below w1.heap.size w1 w3 := (hb2.alloc hb2.size _).trans (hb3.mono (by have := hb2.size; simp; omega))
  have r3 : Row w3 (some ⟨w1.heap.size, 0, none⟩) n n (fun i => .int .u8 (F i)) := r2.below (Nat.le_refl _) ((Below.alloc (Below.refl _ _) (Nat.le_refl _) _).trans (hb3.mono (by simp)))
  clear hb2 hb3 r2
  obtain ⟨x1, y1, hs1, rx1⟩ := cut_left 22 5 Try.underlying22 Try.size5 r3 m hmn
  obtain ⟨b1, o1, rfl⟩ := rx1.some (by omega)
  generalize hwh : indB F n q ch = wh
  have HWH : Hid (indB F n q ch = wh) := hwh
  clear hwh
  go_wp2_with (go_at_call 8; go_in)
  refine (zzind_any _ w3.heap.size b1 o1 m y1 F q ch hqm (by omega) (by simp) (by simp) ?_).mono ?_
  · exact rx1.below (Nat.le_refl _) (Below.alloc (Below.refl _ _) (Nat.le_refl _) _)
  rintro e w4 ⟨rfl, hb4⟩
  have hb04 : Below w1.heap.size w1 w4 := (hb03.alloc hb03.size _).trans (hb4.mono (by have := hb03.size; simp; omega))
  have c4 := (r3.below (Nat.le_refl _) ((Below.alloc (Below.refl _ _) (Nat.le_refl _) _).trans (hb4.mono (by simp)))).at q hq
  rw [Nat.zero_add] at c4
  clear hb03 hb4 r3 rx1 hs1
  by_cases hk : m = q + 1
  · subst hk
    have g : (((q + 1 : Nat) : Int) == (q : Int) + 1) = true := by rw [beq_iff_eq]; omega
    rw [ind_end]
    by_cases hf : F q = ch
    · have hd : decide (F q = ch) = true := decide_eq_true hf
      have hg : (F q == ch) = true := by rw [beq_iff_eq]; exact hf
      rw [hd]
      clear hd hf
      go_wp2_with fail
      go_ret
      exact ⟨rfl, hb04⟩
    · have hd : decide (F q = ch) = false := decide_eq_false hf
      have hg : (F q == ch) = false := by rw [beq_eq_false_iff_ne]; exact hf
      have hw0 : wh = false := by rw [← HWH.out]; exact ind_miss F n q ch hf
      rw [hd]
      subst hw0
      clear hd hf
      go_wp2_with fail
      go_ret
      exact ⟨rfl, hb04⟩
  · have g : ((m : Int) == (q : Int) + 1) = false := by rw [beq_eq_false_iff_ne]; omega
    rw [ind_cut F n m q ch hk (by omega), HWH.out]
    clear hk
    cases wh
    · go_wp2_with fail
      go_ret
      exact ⟨rfl, hb04⟩
    · go_wp2_with fail
      go_ret
      exact ⟨rfl, hb04⟩
end Go.Proofs.Qxb6615086a
