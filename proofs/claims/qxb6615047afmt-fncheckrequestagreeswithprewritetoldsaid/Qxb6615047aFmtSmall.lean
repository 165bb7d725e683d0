/-
  CheckKey, checkTS, checkTxn, CheckRequest.Validate.
-/
import Derived.Test.Qxb6615047aFmtErr
import Derived.Deep.RegionHeld3
namespace Go.Proofs.Qxb6615047aFmt
open Go.RowKit Go.Extern.Stop Go.Stop Go.Extern

theorem key_ok (w : World) (a : Option Addr) (n c : Nat) (h1 : 1 ≤ n) (h2 : n ≤ 4096) : Calls Tryf.prog 10 #[.slice a n c] w fun e w' => e = .returned .nilIface ∧ w' = w := by
  have hI : ((n : Int) == 0) = false := by rw [beq_eq_false_iff_ne]; omega
  go_enter Tryf.func10, Tryf.ntmps10
  go_wp2
  go_ret
  exact ⟨rfl, rfl⟩

theorem key_bad (F : Interp) (w : World) (hF : F.answers w.tape) (a : Option Addr) (n c : Nat) (h : n = 0 ∨ 4096 < n) (hm : n ≤ 1048576) : Calls Tryf.prog 10 #[.slice a n c] w (NewErr w) := by
  rcases h with rfl | h
  · go_enter Tryf.func10, Tryf.ntmps10
    go_wp2
    go_ret
    exact ⟨_, _, rfl, by (simp; rfl), (Below.refl _ _).alloc (Nat.le_refl _) _⟩
  · have hI : ((n : Int) == 0) = false := by rw [beq_eq_false_iff_ne]; omega
    go_enter Tryf.func10, Tryf.ntmps10
    go_wp2_with fail
    refine (errorf_B F n 4096 w.heap.size _ (by exact hF) (by simp) (by simp)).mono ?_
    rintro e w1 ⟨b, s, rfl, hc, hb⟩
    have hb2 : Below w.heap.size w w1 := (Below.alloc (Below.refl _ _) (Nat.le_refl _) _).trans (hb.mono (by simp))
    go_wp2_with fail
    go_ret
    exact ⟨b, s, rfl, hc, hb2⟩

theorem ts_ok (w : World) (nm : ByteArray) (t : Int) (h1 : 1 ≤ t) (h2 : t < 9007199254740992) : Calls Tryf.prog 9 #[.string nm, .int .u64 t] w fun e w' => e = .returned .nilIface ∧ w' = w := by
  have hI : (t == 0) = false := by rw [beq_eq_false_iff_ne]; omega
  go_enter Tryf.func9, Tryf.ntmps9
  go_wp2
  go_ret
  exact ⟨rfl, rfl⟩

theorem ts_bad (F : Interp) (w : World) (hF : F.answers w.tape) (nm : ByteArray) (t : Int) (h : t = 0 ∨ 9007199254740992 ≤ t) : Calls Tryf.prog 9 #[.string nm, .int .u64 t] w (SomeErr w) := by
  rcases h with rfl | h
  · go_enter Tryf.func9, Tryf.ntmps9
    go_wp2_with fail
    refine (errorf_A F nm 0 w.heap.size _ (by exact hF) (by simp) (by simp)).mono ?_
    rintro e w1 ⟨b, s, rfl, hc, hb⟩
    have hb2 : Below w.heap.size w w1 := (Below.alloc (Below.refl _ _) (Nat.le_refl _) _).trans (hb.mono (by simp))
    go_wp2_with fail
    go_ret
    exact ⟨_, _, rfl, hb2⟩
  · have hI : (t == 0) = false := by rw [beq_eq_false_iff_ne]; omega
    have hd : decide (9007199254740992 ≤ t) = true := decide_eq_true h
    go_enter Tryf.func9, Tryf.ntmps9
    go_wp2_with fail
    refine (errorf_A F nm t w.heap.size _ (by exact hF) (by simp) (by simp)).mono ?_
    rintro e w1 ⟨b, s, rfl, hc, hb⟩
    have hb2 : Below w.heap.size w w1 := (Below.alloc (Below.refl _ _) (Nat.le_refl _) _).trans (hb.mono (by simp))
    go_wp2_with fail
    go_ret
    exact ⟨_, _, rfl, hb2⟩

theorem txn_ok (w : World) (a : Option Addr) (n c : Nat) (t : Int) (h1 : 1 ≤ n) (h2 : n ≤ 4096) (h3 : 1 ≤ t) (h4 : t < 9007199254740992) : Calls Tryf.prog 8 #[.slice a n c, .int .u64 t] w fun e w' => e = .returned .nilIface ∧ w' = w := by
  go_enter Tryf.func8, Tryf.ntmps8
  go_wp2_with fail
  refine (key_ok _ a n c h1 h2).mono ?_
  rintro e w1 ⟨rfl, rfl⟩
  go_wp2_with fail
  refine (ts_ok _ _ t h3 h4).mono ?_
  rintro e w1 ⟨rfl, rfl⟩
  go_wp2_with fail
  go_ret
  exact ⟨rfl, rfl⟩

theorem txn_bad (F : Interp) (w : World) (hF : F.answers w.tape) (a : Option Addr) (n c : Nat) (t : Int) (hm : n ≤ 1048576) (h : (n = 0 ∨ 4096 < n) ∨ ((1 ≤ n ∧ n ≤ 4096) ∧ (t = 0 ∨ 9007199254740992 ≤ t))) : Calls Tryf.prog 8 #[.slice a n c, .int .u64 t] w (SomeErr w) := by
  rcases h with h | ⟨⟨h1, h2⟩, h⟩
  · go_enter Tryf.func8, Tryf.ntmps8
    go_wp2_with fail
    refine (key_bad F _ (by exact hF) a n c h hm).mono ?_
    rintro e w1 ⟨b, s, rfl, hc, hb⟩
    have hF1 : F.answers w1.tape := by rw [hb.tape]; exact hF
    go_wp2_with fail
    refine (errorf_C F b s w1.heap.size _ (by exact hF1) (by simp) ?_).mono ?_
    · exact (Below.alloc (Below.refl w1.heap.size w1) (Nat.le_refl _) _).cell (World.block_lt_of_cell? w1 _ hc) |>.trans hc
    rintro e w2 ⟨t2, v2, rfl, hb2⟩
    have hb3 : Below w.heap.size w w2 := (hb.alloc hb.size _).trans (hb2.mono (by have := hb.size; simp; omega))
    go_wp2_with fail
    go_ret
    exact ⟨_, _, rfl, hb3⟩
  · go_enter Tryf.func8, Tryf.ntmps8
    go_wp2_with fail
    refine (key_ok _ a n c h1 h2).mono ?_
    rintro e w1 ⟨rfl, rfl⟩
    go_wp2_with fail
    refine (ts_bad F _ (by exact hF) _ t h).mono ?_
    rintro e w1 ⟨t2, v2, rfl, hb⟩
    go_wp2_with fail
    go_ret
    exact ⟨_, _, rfl, hb⟩
end Go.Proofs.Qxb6615047aFmt
