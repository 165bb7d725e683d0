/-
  at, peek, isBlankOrBreak, atIndicator.
-/
import Derived.Test.Qxb6615086aBase
namespace Go.Proofs.Qxb6615086a
open Go.ChangeShapes Go.WideShapes Go.ChangeAt Go.RowKit

theorem at_any (w : World) (b off n c : Nat) (F : Nat → Int) (p : Nat) (hp : p < n) (_hn : n ≤ 1048576) (r : Row w (some ⟨b, off, none⟩) n c (fun i => .int .u8 (F i))) :
    Calls Try.prog 16 #[.slice (some ⟨b, off, none⟩) n c, .int .i64 p] w fun e w' => e = .returned (.int .u8 (F p)) ∧ w' = w := by
  have h1 := r.at p hp
  go_enter Try.func16, Try.ntmps16
  go_wp2
  go_ret
  exact ⟨rfl, rfl⟩

theorem peek_any (w : World) (pb : Nat) (b off n c : Nat) (F : Nat → Int) (p : Nat) (hp : p < n) (hn : n ≤ 1048576) (c1 : w.cell? ⟨pb, 1, none⟩ = some (.slice (some ⟨b, off, none⟩) n c)) (c2 : w.cell? ⟨pb, 2, none⟩ = some (.int .i64 p))
    (r : Row w (some ⟨b, off, none⟩) n c (fun i => .int .u8 (F i))) :
    Calls Try.prog 14 #[.pointer (some ⟨pb, 0, none⟩)] w fun e w' => e = .returned (.int .u8 (F p)) ∧ ∃ m, w' = w.drewN m := by
  go_enter Try.func14, Try.ntmps14
  go_wp2
  go_quiet ((go_at_call 16; exact Calls.quiet_of_same (at_any _ b off n c F p hp hn (r.drewN _))))
  go_wp2
  go_ret
  exact ⟨rfl, _, rfl⟩

/-- A blank or a line break. -/
def bbB (x : Int) : Bool := decide (x = 32 ∨ x = 9 ∨ x = 10 ∨ x = 13)

theorem bb_any (w : World) (x : Int) : Calls Try.prog 15 #[.int .u8 x] w fun e w' => e = .returned (.bool (bbB x)) ∧ w' = w := by
  by_cases h1 : x = 32
  · subst h1
    go_enter Try.func15, Try.ntmps15
    go_wp2
    go_ret
    exact ⟨rfl, rfl⟩
  by_cases h2 : x = 9
  · subst h2
    go_enter Try.func15, Try.ntmps15
    go_wp2
    go_ret
    exact ⟨rfl, rfl⟩
  by_cases h3 : x = 10
  · subst h3
    go_enter Try.func15, Try.ntmps15
    go_wp2
    go_ret
    exact ⟨rfl, rfl⟩
  by_cases h4 : x = 13
  · subst h4
    go_enter Try.func15, Try.ntmps15
    go_wp2
    go_ret
    exact ⟨rfl, rfl⟩
  have hb : bbB x = false := by unfold bbB; rw [decide_eq_false_iff_not]; omega
  have g1 : (x == 32) = false := by rw [beq_eq_false_iff_ne]; exact h1
  have g2 : (x == 9) = false := by rw [beq_eq_false_iff_ne]; exact h2
  have g3 : (x == 10) = false := by rw [beq_eq_false_iff_ne]; exact h3
  have g4 : (x == 13) = false := by rw [beq_eq_false_iff_ne]; exact h4
  rw [hb]
  clear hb h1 h2 h3 h4
  go_enter Try.func15, Try.ntmps15
  go_wp2
  go_ret
  exact ⟨rfl, rfl⟩

/-- What atIndicator answers: the byte at p is ch, and the text ends behind it or a blank or a break follows. -/
def indB (F : Nat → Int) (n p : Nat) (ch : Int) : Bool := decide (F p = ch) && (decide (p + 1 = n) || bbB (F (p + 1)))

theorem ind_any (w : World) (pb : Nat) (b off n c : Nat) (F : Nat → Int) (p : Nat) (ch : Int) (hp : p < n) (hn : n ≤ 1048576) (c1 : w.cell? ⟨pb, 1, none⟩ = some (.slice (some ⟨b, off, none⟩) n c)) (c2 : w.cell? ⟨pb, 2, none⟩ = some (.int .i64 p))
    (r : Row w (some ⟨b, off, none⟩) n c (fun i => .int .u8 (F i))) :
    Calls Try.prog 13 #[.pointer (some ⟨pb, 0, none⟩), .int .u8 ch] w fun e w' => e = .returned (.bool (indB F n p ch)) ∧ ∃ m, w' = w.drewN m := by
  have HPK : Hid (∀ m, Calls Try.prog 14 #[.pointer (some ⟨pb, 0, none⟩)] (w.drewN m) fun e w' => e = .returned (.int .u8 (F p)) ∧ ∃ k, w' = (w.drewN m).drewN k) := fun m => peek_any (w.drewN m) pb b off n c F p hp hn c1 c2 (r.drewN m)
  by_cases h1 : F p = ch
  rotate_left
  · have hi : indB F n p ch = false := by simp [indB, h1]
    have g1 : (F p == ch) = false := by rw [beq_eq_false_iff_ne]; exact h1
    rw [hi]
    clear h1 hi
    go_enter Try.func13, Try.ntmps13
    go_wp2
    go_quiet ((go_at_call 14; exact Calls.quiet_of (HPK.out _)))
    go_wp2
    go_ret
    exact ⟨rfl, _, rfl⟩
  have g1 : (F p == ch) = true := by rw [beq_iff_eq]; exact h1
  by_cases h2 : p + 1 = n
  · have hi : indB F n p ch = true := by simp [indB, h1, h2]
    have g2 : ((p : Int) + 1 == (n : Int)) = true := by rw [beq_iff_eq]; omega
    rw [hi]
    clear h1 hi h2
    go_enter Try.func13, Try.ntmps13
    go_wp2
    go_quiet ((go_at_call 14; exact Calls.quiet_of (HPK.out _)))
    go_wp2
    go_ret
    exact ⟨rfl, _, rfl⟩
  · have hi : indB F n p ch = bbB (F (p + 1)) := by simp [indB, h1, h2]
    have g2 : ((p : Int) + 1 == (n : Int)) = false := by rw [beq_eq_false_iff_ne]; omega
    have hc := r.at (p + 1) (by omega)
    have hl1 : (p : Int) + 1 < (n : Int) := by omega
    have hl0 : (0 : Int) ≤ (p : Int) + 1 := by omega
    rw [hi]
    clear h1 hi h2
    go_enter Try.func13, Try.ntmps13
    go_wp2
    go_quiet ((first | (go_at_call 14; exact Calls.quiet_of (HPK.out _)) | (go_at_call 15; exact Calls.quiet_of_same (bb_any _ _))))
    go_wp2
    go_ret
    exact ⟨rfl, _, rfl⟩

theorem zzind_any (w : World) (pb : Nat) (b off n c : Nat) (F : Nat → Int) (p : Nat) (ch : Int) (hp : p < n) (hn : n ≤ 1048576) (c1 : w.cell? ⟨pb, 1, none⟩ = some (.slice (some ⟨b, off, none⟩) n c)) (c2 : w.cell? ⟨pb, 2, none⟩ = some (.int .i64 p))
    (r : Row w (some ⟨b, off, none⟩) n c (fun i => .int .u8 (F i))) :
    Calls Try.prog 7 #[.pointer (some ⟨pb, 0, none⟩), .int .u8 ch] w fun e w' => e = .returned (.bool (indB F n p ch)) ∧ Below w.heap.size w w' := by
  go_enter Try.func7, Try.ntmps7
  go_wp2_with fail
  refine (ind_any _ pb b off n c F p ch hp hn c1 c2 r).mono ?_
  rintro e w1 ⟨rfl, m, rfl⟩
  go_wp2_with fail
  go_ret
  exact ⟨rfl, below_drewN (Below.refl _ _) _⟩

end Go.Proofs.Qxb6615086a
