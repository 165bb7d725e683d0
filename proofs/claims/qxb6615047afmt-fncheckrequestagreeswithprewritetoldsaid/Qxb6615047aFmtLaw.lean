/-
  The law's walk.
-/
import Derived.Test.Qxb6615047aFmtVal
import Derived.Test.Qxb6615047aFmtPre
namespace Go.Proofs.Qxb6615047aFmt
open Go.RowKit Go.Extern.Stop Go.Stop Go.Extern

theorem bytes_yes (w : World) (a : Option Addr) (n c : Nat) (t : Int) (h : n ≤ 1048576) : Calls Tryf.prog 4 #[.slice a n c, .int .u64 t] w fun e w' => e = .returned (.bool true) ∧ w' = w := by
  go_enter Tryf.func4, Tryf.ntmps4
  go_wp2
  go_ret
  exact ⟨rfl, rfl⟩
theorem bytes_no (w : World) (a : Option Addr) (n c : Nat) (t : Int) (h : 1048576 < n) : Calls Tryf.prog 4 #[.slice a n c, .int .u64 t] w fun e w' => e = .returned (.bool false) ∧ w' = w := by
  go_enter Tryf.func4, Tryf.ntmps4
  go_wp2
  go_ret
  exact ⟨rfl, rfl⟩

set_option maxRecDepth 100000 in
theorem law_ok (w : World) (a : Option Addr) (n c : Nat) (t : Int) (s : ByteArray) (h1 : 1 ≤ n) (h2 : n ≤ 4096) (h3 : 1 ≤ t) (h4 : t < 9007199254740992)
    (hcv : ∀ wx, Below w.heap.size w wx → (convert 22 9 (.slice a n c)).run Tryf.prog wx = .ok (.string s) wx) :
    Calls Tryf.prog 3 #[.slice a n c, .int .u64 t] w fun e w' => e = .returned (.bool true) ∧ Below w.heap.size w w' := by
  have HCV : Hid (∀ wx, Below w.heap.size w wx → (convert 22 9 (.slice a n c)).run Tryf.prog wx = .ok (.string s) wx) := hcv
  clear hcv
  go_enter Tryf.func3, Tryf.ntmps3
  go_wp2_with fail
  refine (bytes_yes _ a n c t (by omega)).mono ?_
  rintro e w1 ⟨rfl, hw⟩
  subst hw
  go_wp2_with fail
  refine (check_ok _ w1.heap.size a n c t h1 h2 h3 h4 (by simp) (by simp)).mono ?_
  rintro e w2 ⟨rfl, hb⟩
  have hb1 : Below w1.heap.size w1 w2 := (Below.alloc (Below.refl _ _) (Nat.le_refl _) _).trans (hb.mono (by simp))
  clear hb
  go_wp2_with (go_at_call 6; go_in)
  have hb2 : Below w1.heap.size w1 (((w2.alloc (Obj.cells #[] 5)).alloc (Obj.cells #[Value.string ⟨#[112, 117, 116]⟩, Value.slice a n c, Value.slice (some ⟨w2.heap.size, 0, none⟩) 0 0] 33)).alloc (Obj.cells #[Value.int IntKind.u64 t, Value.slice a n c, Value.int IntKind.u64 1000, Value.slice (some ⟨w2.heap.size + 1, 0, none⟩) 1 1, Value.int IntKind.u64 0, Value.string ⟨#[]⟩, Value.bool false] 39)) :=
    ((hb1.alloc hb1.size _).alloc (by have := hb1.size; simp; omega) _).alloc (by have := hb1.size; simp; omega) _
  refine (pre_ok _ (w2.heap.size + 1 + 1) (w2.heap.size + 1) a n c (some ⟨w2.heap.size, 0, none⟩) 0 t s h1 h2 h3 h4 (by go_simp) (by go_simp) (by go_simp) (by go_simp) (by go_simp) (by go_simp) (by go_simp) (by go_simp) (by go_simp) (by go_simp) ?_).mono ?_
  · exact fun wx hx => HCV.out wx (hb2.trans (hx.mono hb2.size))
  rintro e w3 ⟨rfl, hb3⟩
  have hb4 : Below w1.heap.size w1 w3 := hb2.trans (hb3.mono hb2.size)
  clear hb1 hb2 hb3 HCV
  have d1 : decide ((1 : Int) ≤ (n : Int)) = true := decide_eq_true (by omega)
  have d2 : decide ((n : Int) ≤ 4096) = true := decide_eq_true (by omega)
  have d3 : decide ((1 : Int) ≤ t) = true := decide_eq_true (by omega)
  have d4 : decide (t < 9007199254740992) = true := decide_eq_true (by omega)
  go_wp2_with fail
  go_ret
  exact ⟨rfl, hb4⟩

set_option maxRecDepth 100000 in
theorem law_bad (F : Interp) (w : World) (hF : F.answers w.tape) (a : Option Addr) (n c : Nat) (t : Int) (t0 : 0 ≤ t) (hm : n ≤ 1048576) (h : ¬ (1 ≤ n ∧ n ≤ 4096 ∧ 1 ≤ t ∧ t < 9007199254740992)) :
    Calls Tryf.prog 3 #[.slice a n c, .int .u64 t] w fun e w' => e = .returned (.bool true) ∧ Below w.heap.size w w' := by
  have H1 : Hid ((n = 0 ∨ 4096 < n) ∨ ((1 ≤ n ∧ n ≤ 4096) ∧ (t = 0 ∨ 9007199254740992 ≤ t))) := by show _ ∨ _; omega
  have H2 : Hid ((t = 0 ∨ 9007199254740992 ≤ t) ∨ ((1 ≤ t ∧ t < 9007199254740992) ∧ (n = 0 ∨ 4096 < n))) := by show _ ∨ _; omega
  clear h
  go_enter Tryf.func3, Tryf.ntmps3
  go_wp2_with fail
  refine (bytes_yes _ a n c t (by omega)).mono ?_
  rintro e w1 ⟨rfl, hw⟩
  subst hw
  go_wp2_with fail
  refine (check_bad F _ (by exact hF) w1.heap.size a n c t hm H1.out (by simp) (by simp)).mono ?_
  rintro e w2 ⟨te, ve, rfl, hb⟩
  have hb1 : Below w1.heap.size w1 w2 := (Below.alloc (Below.refl _ _) (Nat.le_refl _) _).trans (hb.mono (by simp))
  have hF2 : F.answers w2.tape := by rw [hb1.tape]; exact hF
  clear hb
  go_wp2_with (go_at_call 6; go_in)
  have hb2 : Below w1.heap.size w1 (((w2.alloc (Obj.cells #[] 5)).alloc (Obj.cells #[Value.string ⟨#[112, 117, 116]⟩, Value.slice a n c, Value.slice (some ⟨w2.heap.size, 0, none⟩) 0 0] 33)).alloc (Obj.cells #[Value.int IntKind.u64 t, Value.slice a n c, Value.int IntKind.u64 1000, Value.slice (some ⟨w2.heap.size + 1, 0, none⟩) 1 1, Value.int IntKind.u64 0, Value.string ⟨#[]⟩, Value.bool false] 39)) :=
    ((hb1.alloc hb1.size _).alloc (by have := hb1.size; simp; omega) _).alloc (by have := hb1.size; simp; omega) _
  refine (pre_bad F _ (by exact hF2) (w2.heap.size + 1 + 1) a n c t hm H2.out (by go_simp) (by go_simp)).mono ?_
  rintro e w3 ⟨tf, vf, rfl, hb3⟩
  have hb4 : Below w1.heap.size w1 w3 := hb2.trans (hb3.mono hb2.size)
  clear hb1 hb2 hb3 hF hF2
  rcases H1.out with (h | h) | ⟨⟨h1, h2⟩, h | h⟩
  · have d1 : decide ((1 : Int) ≤ (n : Int)) = false := decide_eq_false (by omega)
    clear h H1 H2
    go_wp2_with fail
    go_ret
    exact ⟨rfl, hb4⟩
  · have d1 : decide ((1 : Int) ≤ (n : Int)) = true := decide_eq_true (by omega)
    have d2 : decide ((n : Int) ≤ 4096) = false := decide_eq_false (by omega)
    go_wp2_with fail
    go_ret
    exact ⟨rfl, hb4⟩
  · have d1 : decide ((1 : Int) ≤ (n : Int)) = true := decide_eq_true (by omega)
    have d2 : decide ((n : Int) ≤ 4096) = true := decide_eq_true (by omega)
    have d3 : decide ((1 : Int) ≤ t) = false := decide_eq_false (by omega)
    clear h H1 H2
    go_wp2_with fail
    go_ret
    exact ⟨rfl, hb4⟩
  · have d1 : decide ((1 : Int) ≤ (n : Int)) = true := decide_eq_true (by omega)
    have d2 : decide ((n : Int) ≤ 4096) = true := decide_eq_true (by omega)
    have d3 : decide ((1 : Int) ≤ t) = true := decide_eq_true (by omega)
    have d4 : decide (t < 9007199254740992) = false := decide_eq_false (by omega)
    go_wp2_with fail
    go_ret
    exact ⟨rfl, hb4⟩

theorem law_big (w : World) (a : Option Addr) (n c : Nat) (t : Int) (h : 1048576 < n) :
    Calls Tryf.prog 3 #[.slice a n c, .int .u64 t] w fun e w' => e = .returned (.bool true) ∧ Below w.heap.size w w' := by
  go_enter Tryf.func3, Tryf.ntmps3
  go_wp2_with fail
  refine (bytes_no _ a n c t h).mono ?_
  rintro e w1 ⟨rfl, hw⟩
  subst hw
  go_wp2_with fail
  go_ret
  exact ⟨rfl, Below.refl _ _⟩
end Go.Proofs.Qxb6615047aFmt
