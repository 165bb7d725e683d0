/-
  'slices.Equal' at asn1.ObjectIdentifier, '(asn1.ObjectIdentifier).Equal', the law's own 'zzSameInts': one Boolean, 'sameB'.
-/
import Derived.Test.Qxb6615030aBase
import Derived.Deep.QuietTactic
import Derived.BigQuiet
namespace Go.Proofs.Qxb6615030a
open Go.ChangeShapes Go.WideShapes Go.ChangeAt Go.RowKit

/-- Are the first n of x the first m of y? -/
def sameB (n : Nat) (x : Nat → Int) (m : Nat) (y : Nat → Int) : Bool := decide (n = m ∧ ∀ i, i < n → x i = y i)

theorem sameB_len {n m : Nat} {x y : Nat → Int} (h : ¬ n = m) : sameB n x m y = false := by simp [sameB, h]
theorem sameB_at {n : Nat} {x y : Nat → Int} (k : Nat) (hk : k < n) (h : ¬ x k = y k) : sameB n x n y = false := by
  unfold sameB
  rw [decide_eq_false_iff_not]
  exact fun hh => h (hh.2 k hk)
theorem sameB_all {n : Nat} {x y : Nat → Int} (h : ∀ i, i < n → x i = y i) : sameB n x n y = true := by
  unfold sameB
  rw [decide_eq_true_iff]
  exact ⟨rfl, h⟩

theorem equal_any (w : World) (a b : Option Addr) (n m c d : Nat) (x y : Nat → Int) (hn : n ≤ 1048576) (hm : m ≤ 1048576)
    (ra : Row w a n c (fun i => .int .i64 (x i))) (rb : Row w b m d (fun i => .int .i64 (y i))) :
    Calls Try.prog 17 #[.slice a n c, .slice b m d] w fun e w' => e = .returned (.bool (sameB n x m y)) ∧ Below w.heap.size w w' := by
  by_cases hnm : n = m
  · subst hnm
    go_enter Try.func17, Try.ntmps17
    go_wp2
    go_loopw [13] (fun i wr => ∃ k : Nat, k ≤ n ∧ i = .int .i64 k ∧ (∀ j, j < k → x j = y j) ∧ Below w.heap.size w wr) (fun i _ => n - (intOf i).toNat)
    case atStart => exact ⟨0, Nat.zero_le _, rfl, by omega, Below.refl _ _⟩
    case round =>
      obtain ⟨k, hk, rfl, hpre, hbel⟩ := hrel
      have HP : Hid (∀ j, j < k → x j = y j) := hpre
      clear hpre
      by_cases hlt : k < n
      · obtain ⟨ba, oa, rfl⟩ := ra.some (by omega)
        obtain ⟨bb, ob, rfl⟩ := rb.some (by omega)
        have ca := (ra.below (Nat.le_refl _) hbel).at k hlt
        have cb := (rb.below (Nat.le_refl _) hbel).at k hlt
        by_cases hxy : x k = y k
        · have HXY : Hid (x k = y k) := hxy
          rw [hxy] at ca
          clear hxy
          go_wp2
          go_quiet (fail)
          go_wp2
          go_roundw
          case rel => exact ⟨k + 1, by omega, by go_num, fun j hj => by by_cases e : j = k; (subst e; exact HXY.out); exact HP.out j (by omega), below_drewN hbel _⟩
          case measure => simp [intOf]; omega
        · have hne : (x k != y k) = true := by simpa using hxy
          have hs := sameB_at k hlt hxy
          go_wp2
          go_quiet (fail)
          go_wp2
          go_ret
          exact ⟨by rw [hs]; rfl, below_drewN hbel _⟩
      · have hs : sameB n x n y = true := sameB_all fun i hi => HP.out i (by omega)
        go_wp2
        go_ret
        exact ⟨by rw [hs]; rfl, hbel⟩
  · have hs : sameB n x m y = false := sameB_len hnm
    have hI : ((n : Int) != (m : Int)) = true := by rw [bne_iff_ne]; omega
    go_enter Try.func17, Try.ntmps17
    go_wp2
    go_ret
    exact ⟨by rw [hs]; rfl, Below.refl _ _⟩

theorem oid_equal_any (w : World) (a b : Option Addr) (n m c d : Nat) (x y : Nat → Int) (hn : n ≤ 1048576) (hm : m ≤ 1048576)
    (ra : Row w a n c (fun i => .int .i64 (x i))) (rb : Row w b m d (fun i => .int .i64 (y i))) :
    Calls Try.prog 16 #[.slice a n c, .slice b m d] w fun e w' => e = .returned (.bool (sameB n x m y)) ∧ Below w.heap.size w w' := by
  go_enter Try.func16, Try.ntmps16
  go_wp2_with (go_at_call 17; refine (equal_any _ a b n m c d x y hn hm ra rb).mono ?_; rintro e w' ⟨rfl, hb⟩)
  go_ret
  exact ⟨rfl, hb⟩

theorem same_ints_any (w : World) (a b : Option Addr) (n m c d : Nat) (x y : Nat → Int) (hn : n ≤ 1048576) (hm : m ≤ 1048576)
    (ra : Row w a n c (fun i => .int .i64 (x i))) (rb : Row w b m d (fun i => .int .i64 (y i))) :
    Calls Try.prog 11 #[.slice a n c, .slice b m d] w fun e w' => e = .returned (.bool (sameB n x m y)) ∧ Below w.heap.size w w' := by
  by_cases hnm : n = m
  · subst hnm
    go_enter Try.func11, Try.ntmps11
    go_wp2
    go_loopw [5] (fun i wr => ∃ k : Nat, k ≤ n ∧ i = .int .i64 k ∧ (∀ j, j < k → x j = y j) ∧ Below w.heap.size w wr) (fun i _ => n - (intOf i).toNat)
    case atStart => exact ⟨0, Nat.zero_le _, rfl, by omega, Below.refl _ _⟩
    case round =>
      obtain ⟨k, hk, rfl, hpre, hbel⟩ := hrel
      have HP : Hid (∀ j, j < k → x j = y j) := hpre
      clear hpre
      by_cases hlt : k < n
      · obtain ⟨ba, oa, rfl⟩ := ra.some (by omega)
        obtain ⟨bb, ob, rfl⟩ := rb.some (by omega)
        have ca := (ra.below (Nat.le_refl _) hbel).at k hlt
        have cb := (rb.below (Nat.le_refl _) hbel).at k hlt
        by_cases hxy : x k = y k
        · have HXY : Hid (x k = y k) := hxy
          rw [hxy] at ca
          clear hxy
          go_wp2
          go_quiet (fail)
          go_wp2
          go_roundw
          case rel => exact ⟨k + 1, by omega, by go_num, fun j hj => by by_cases e : j = k; (subst e; exact HXY.out); exact HP.out j (by omega), below_drewN hbel _⟩
          case measure => simp [intOf]; omega
        · have hne : (x k != y k) = true := by simpa using hxy
          have hs := sameB_at k hlt hxy
          go_wp2
          go_quiet (fail)
          go_wp2
          go_ret
          exact ⟨by rw [hs]; rfl, below_drewN hbel _⟩
      · have hs : sameB n x n y = true := sameB_all fun i hi => HP.out i (by omega)
        go_wp2
        go_ret
        exact ⟨by rw [hs]; rfl, hbel⟩
  · have hs : sameB n x m y = false := sameB_len hnm
    have hI : ((n : Int) != (m : Int)) = true := by rw [bne_iff_ne]; omega
    go_enter Try.func11, Try.ntmps11
    go_wp2
    go_ret
    exact ⟨by rw [hs]; rfl, Below.refl _ _⟩

end Go.Proofs.Qxb6615030a
