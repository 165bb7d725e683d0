/-
  The plainest prewrite's Validate.
-/
import Derived.Test.Qxb6615047aFmtMap
import Derived.LoopN
namespace Go.Proofs.Qxb6615047aFmt
open Go.RowKit Go.Extern.Stop Go.Stop Go.Extern
open Go.ChangeMaps (setBlock)

theorem below_setBlock {B r : Nat} {w W : World} (h : Below B w W) (hr : B ≤ r) (o : Obj) : Below B w (setBlock W r o) :=
  h.trans ⟨rfl, rfl, rfl, by simp [setBlock], fun k hk => by simp [setBlock, show ¬ r = k by omega]⟩

theorem ttl_ok (w : World) : Calls Tryf.prog 12 #[.int .u64 1000] w fun e w' => e = .returned .nilIface ∧ w' = w := by
  go_enter Tryf.func12, Tryf.ntmps12
  go_wp2
  go_ret
  exact ⟨rfl, rfl⟩

theorem value_ok (w : World) (v : Option Addr) (c : Nat) : Calls Tryf.prog 17 #[.slice v 0 c] w fun e w' => e = .returned .nilIface ∧ w' = w := by
  go_enter Tryf.func17, Tryf.ntmps17
  go_wp2
  go_ret
  exact ⟨rfl, rfl⟩

theorem mut_ok (w : World) (mb : Nat) (a : Option Addr) (n c : Nat) (v : Option Addr) (cv : Nat) (h1 : 1 ≤ n) (h2 : n ≤ 4096)
    (m0 : w.cell? ⟨mb, 0, none⟩ = some (.string ⟨#[112, 117, 116]⟩)) (m1 : w.cell? ⟨mb, 1, none⟩ = some (.slice a n c)) (m2 : w.cell? ⟨mb, 2, none⟩ = some (.slice v 0 cv)) :
    Calls Tryf.prog 13 #[.pointer (some ⟨mb, 0, none⟩)] w fun e w' => e = .returned .nilIface ∧ w' = w := by
  go_enter Tryf.func13, Tryf.ntmps13
  go_wp2_with fail
  refine (key_ok _ a n c h1 h2).mono ?_
  rintro e w1 ⟨rfl, rfl⟩
  go_wp2_with fail
  refine (value_ok _ v cv).mono ?_
  rintro e w2 ⟨rfl, rfl⟩
  go_wp2_with fail
  go_ret
  exact ⟨rfl, rfl⟩

set_option maxRecDepth 100000 in
theorem pre_ok (w : World) (pb mb : Nat) (a : Option Addr) (n c : Nat) (v : Option Addr) (cv : Nat) (t : Int) (s : ByteArray) (h1 : 1 ≤ n) (h2 : n ≤ 4096) (h3 : 1 ≤ t) (h4 : t < 9007199254740992)
    (p0 : w.cell? ⟨pb, 0, none⟩ = some (.int .u64 t)) (p1 : w.cell? ⟨pb, 1, none⟩ = some (.slice a n c)) (p2 : w.cell? ⟨pb, 2, none⟩ = some (.int .u64 1000)) (p3 : w.cell? ⟨pb, 3, none⟩ = some (.slice (some ⟨mb, 0, none⟩) 1 1))
    (p4 : w.cell? ⟨pb, 4, none⟩ = some (.int .u64 0)) (p5 : w.cell? ⟨pb, 5, none⟩ = some (.string ⟨#[]⟩)) (p6 : w.cell? ⟨pb, 6, none⟩ = some (.bool false))
    (m0 : w.cell? ⟨mb, 0, none⟩ = some (.string ⟨#[112, 117, 116]⟩)) (m1 : w.cell? ⟨mb, 1, none⟩ = some (.slice a n c)) (m2 : w.cell? ⟨mb, 2, none⟩ = some (.slice v 0 cv))
    (hcv : ∀ wx, Below w.heap.size w wx → (convert 22 9 (.slice a n c)).run Tryf.prog wx = .ok (.string s) wx) :
    Calls Tryf.prog 7 #[.pointer (some ⟨pb, 0, none⟩)] w fun e w' => e = .returned .nilIface ∧ Below w.heap.size w w' := by
  have HCV : Hid (∀ wx, Below w.heap.size w wx → (convert 22 9 (.slice a n c)).run Tryf.prog wx = .ok (.string s) wx) := hcv
  clear hcv
  have hpb : pb < w.heap.size := World.block_lt_of_cell? w _ p0
  have hmb : mb < w.heap.size := World.block_lt_of_cell? w _ m0
  have hmk := map_make
  go_enter Tryf.func7, Tryf.ntmps7
  go_wp2_with fail
  refine (ts_ok _ _ t h3 h4).mono ?_
  rintro e w1 ⟨rfl, rfl⟩
  go_wp2_with fail
  refine (key_ok _ a n c h1 h2).mono ?_
  rintro e w1 ⟨rfl, rfl⟩
  go_wp2_with fail
  refine (ttl_ok _).mono ?_
  rintro e w1 ⟨rfl, rfl⟩
  go_wp2_with fail
  clear hmk
  refine wp_loop_rounds 2 ?_
  rw [rounds_succ]
  go_wp2_with fail
  have f0 : ((w1.alloc (Obj.map #[] 0)).alloc (Obj.cells #[Value.string ⟨#[112, 117, 116]⟩, Value.slice a n c, Value.slice v 0 cv] 33)).heap[w1.heap.size]? = some (.map #[] 0) := by
    rw [Below.heap_alloc _ _ _ (by simp)]
    exact heap_alloc_new w1 _
  have f1 : ((w1.alloc (Obj.map #[] 0)).alloc (Obj.cells #[Value.string ⟨#[112, 117, 116]⟩, Value.slice a n c, Value.slice v 0 cv] 33)).cell? ⟨w1.heap.size + 1, 0, none⟩ = some (.string ⟨#[112, 117, 116]⟩) := by simp
  have f2 : ((w1.alloc (Obj.map #[] 0)).alloc (Obj.cells #[Value.string ⟨#[112, 117, 116]⟩, Value.slice a n c, Value.slice v 0 cv] 33)).cell? ⟨w1.heap.size + 1, 1, none⟩ = some (.slice a n c) := by simp
  have f3 : ((w1.alloc (Obj.map #[] 0)).alloc (Obj.cells #[Value.string ⟨#[112, 117, 116]⟩, Value.slice a n c, Value.slice v 0 cv] 33)).cell? ⟨w1.heap.size + 1, 2, none⟩ = some (.slice v 0 cv) := by simp
  have hb1 : Below w1.heap.size w1 ((w1.alloc (Obj.map #[] 0)).alloc (Obj.cells #[Value.string ⟨#[112, 117, 116]⟩, Value.slice a n c, Value.slice v 0 cv] 33)) := ((Below.refl _ _).alloc (Nat.le_refl _) _).alloc (by simp) _
  generalize (w1.alloc (Obj.map #[] 0)).alloc (Obj.cells #[Value.string ⟨#[112, 117, 116]⟩, Value.slice a n c, Value.slice v 0 cv] 33) = W2 at *
  refine (mut_ok W2 (w1.heap.size + 1) a n c v cv h1 h2 f1 f2 f3).mono ?_
  rintro e w2 ⟨rfl, h⟩
  subst h
  have k1 := HCV.out _ hb1
  have k2 := map_ask _ w1.heap.size s f0
  have k3 := map_put _ w1.heap.size s f0
  have hb2 := below_setBlock hb1 (Nat.le_refl _) (.map #[{ key := .string s, val := .bool true, born := 0 }] 1)
  have g4 : (setBlock w2 w1.heap.size (.map #[{ key := .string s, val := .bool true, born := 0 }] 1)).cell? ⟨pb, 4, none⟩ = some (.int .u64 0) := (hb2.cell (by exact hpb)).trans p4
  have g5 : (setBlock w2 w1.heap.size (.map #[{ key := .string s, val := .bool true, born := 0 }] 1)).cell? ⟨pb, 5, none⟩ = some (.string ⟨#[]⟩) := (hb2.cell (by exact hpb)).trans p5
  have g6 : (setBlock w2 w1.heap.size (.map #[{ key := .string s, val := .bool true, born := 0 }] 1)).cell? ⟨pb, 6, none⟩ = some (.bool false) := (hb2.cell (by exact hpb)).trans p6
  clear p0 p1 p2 p3 p4 p5 p6 m0 m1 m2 f1 f3 hb1
  go_wp2_with fail
  rw [rounds_succ]
  go_wp2_with fail
  go_ret
  exact ⟨rfl, hb2⟩

set_option maxRecDepth 100000 in
theorem pre_bad (F : Interp) (w : World) (hF : F.answers w.tape) (pb : Nat) (a : Option Addr) (n c : Nat) (t : Int) (hm : n ≤ 1048576) (h : (t = 0 ∨ 9007199254740992 ≤ t) ∨ ((1 ≤ t ∧ t < 9007199254740992) ∧ (n = 0 ∨ 4096 < n)))
    (p0 : w.cell? ⟨pb, 0, none⟩ = some (.int .u64 t)) (p1 : w.cell? ⟨pb, 1, none⟩ = some (.slice a n c)) :
    Calls Tryf.prog 7 #[.pointer (some ⟨pb, 0, none⟩)] w (SomeErr w) := by
  have hpb : pb < w.heap.size := World.block_lt_of_cell? w _ p0
  rcases h with h | ⟨⟨h3, h4⟩, h⟩
  · have HH : Hid (t = 0 ∨ 9007199254740992 ≤ t) := h
    clear h
    go_enter Tryf.func7, Tryf.ntmps7
    go_wp2_with fail
    refine (ts_bad F _ (by exact hF) _ t HH.out).mono ?_
    rintro e w1 ⟨t2, v2, rfl, hb⟩
    go_wp2_with fail
    go_ret
    exact ⟨_, _, rfl, hb⟩
  · have HH : Hid (n = 0 ∨ 4096 < n) := h
    clear h
    go_enter Tryf.func7, Tryf.ntmps7
    go_wp2_with fail
    refine (ts_ok _ _ t h3 h4).mono ?_
    rintro e w1 ⟨rfl, hw⟩
    subst hw
    go_wp2_with fail
    refine (key_bad F _ (by exact hF) a n c HH.out hm).mono ?_
    rintro e w2 ⟨b, s, rfl, hc, hb⟩
    have hF1 : F.answers w2.tape := by rw [hb.tape]; exact hF
    go_wp2_with fail
    refine (errorf_C F b s w2.heap.size _ (by exact hF1) (by simp) ?_).mono ?_
    · exact (Below.alloc (Below.refl w2.heap.size w2) (Nat.le_refl _) _).cell (World.block_lt_of_cell? w2 _ hc) |>.trans hc
    rintro e w3 ⟨t2, v2, rfl, hb2⟩
    have hb3 := (hb.alloc hb.size _).trans (hb2.mono (by have := hb.size; simp; omega))
    go_wp2_with fail
    go_ret
    exact ⟨_, _, rfl, hb3⟩
end Go.Proofs.Qxb6615047aFmt
