/-
  CheckRequest.Validate; the plainest prewrite's Validate.
-/
import Derived.Test.Qxb6615047aFmtSmall
namespace Go.Proofs.Qxb6615047aFmt
open Go.RowKit Go.Extern.Stop Go.Stop Go.Extern

theorem check_ok (w : World) (pb : Nat) (a : Option Addr) (n c : Nat) (t : Int) (h1 : 1 ≤ n) (h2 : n ≤ 4096) (h3 : 1 ≤ t) (h4 : t < 9007199254740992)
    (c0 : w.cell? ⟨pb, 0, none⟩ = some (.slice a n c)) (c1 : w.cell? ⟨pb, 1, none⟩ = some (.int .u64 t)) :
    Calls Tryf.prog 5 #[.pointer (some ⟨pb, 0, none⟩)] w fun e w' => e = .returned .nilIface ∧ Below w.heap.size w w' := by
  go_enter Tryf.func5, Tryf.ntmps5
  go_wp2_with fail
  go_region_held3 (fun wx => wx.cell? ⟨pb, 0, none⟩ = some (.slice a n c) ∧ wx.cell? ⟨pb, 1, none⟩ = some (.int .u64 t)) (go_keep) ((go_at_call 8; refine (txn_ok _ a n c t h1 h2 h3 h4).mono ?_; rintro e w1 ⟨rfl, rfl⟩))
  go_wp2_with fail
  go_ret
  exact ⟨rfl, (Below.refl _ _).drew⟩

theorem check_bad (F : Interp) (w : World) (hF : F.answers w.tape) (pb : Nat) (a : Option Addr) (n c : Nat) (t : Int) (hm : n ≤ 1048576) (h : (n = 0 ∨ 4096 < n) ∨ ((1 ≤ n ∧ n ≤ 4096) ∧ (t = 0 ∨ 9007199254740992 ≤ t)))
    (c0 : w.cell? ⟨pb, 0, none⟩ = some (.slice a n c)) (c1 : w.cell? ⟨pb, 1, none⟩ = some (.int .u64 t)) :
    Calls Tryf.prog 5 #[.pointer (some ⟨pb, 0, none⟩)] w (SomeErr w) := by
  have HH : Hid ((n = 0 ∨ 4096 < n) ∨ ((1 ≤ n ∧ n ≤ 4096) ∧ (t = 0 ∨ 9007199254740992 ≤ t))) := h
  clear h
  have hpb : pb < w.heap.size := World.block_lt_of_cell? w _ c0
  go_enter Tryf.func5, Tryf.ntmps5
  go_wp2_with fail
  go_region_held3 (fun wx => wx.cell? ⟨pb, 0, none⟩ = some (.slice a n c) ∧ wx.cell? ⟨pb, 1, none⟩ = some (.int .u64 t)) (first | go_keep | exact ⟨(hb1.cell hpb).trans c0, (hb1.cell hpb).trans c1⟩) ((go_at_call 8; refine (txn_bad F _ (by exact hF) a n c t hm HH.out).mono ?_; rintro e w1 ⟨t2, v2, rfl, hb1⟩))
  go_wp2_with fail
  go_ret
  exact ⟨_, _, rfl, (Below.refl _ _).drew.trans hb1⟩
end Go.Proofs.Qxb6615047aFmt
