import Derived.Test.Qxb6615030aEq
namespace Go.Proofs.Qxb6615030a
open Go.ChangeShapes Go.WideShapes Go.ChangeAt Go.RowKit

theorem Try.info9 : (Try.prog.info? 9).map (fun i => (i.zero, i.size, i.bytes)) = some (some (.string ByteArray.empty), 1, 16) := by kernel_rfl
theorem Try.cells62 : Try.prog.cellsOf 62 = 2 := by kernel_rfl

theorem assert_hit (s : ByteArray) (w : World) : (Instr.typeAssert (.iface 9 (.string s)) 20 9 true).run Try.prog w = .ok (.tuple #[.string s, .bool true]) w := by kernel_rfl
theorem assert_miss (x : Option Addr) (l c : Nat) (w : World) : (Instr.typeAssert (.iface 39 (.slice x l c)) 20 9 true).run Try.prog w = .ok (.tuple #[.string ByteArray.empty, .bool false]) w := by kernel_rfl

/-- The strings of the first k attributes that match. -/
def svN (M : Nat → Bool) (S : Nat → ByteArray) (k : Nat) : List ByteArray := ((List.range k).filter M).map S
theorem svN_hit {M : Nat → Bool} {S : Nat → ByteArray} {k : Nat} (h : M k = true) : svN M S (k + 1) = svN M S k ++ [S k] := by
  simp [svN, List.range_succ, List.filter_append, h]
theorem svN_miss {M : Nat → Bool} {S : Nat → ByteArray} {k : Nat} (h : M k = false) : svN M S (k + 1) = svN M S k := by
  simp [svN, List.range_succ, List.filter_append, h]
theorem svN_le (M : Nat → Bool) (S : Nat → ByteArray) (k : Nat) : (svN M S k).length ≤ k := by
  simp only [svN, List.length_map]
  exact Nat.le_trans (List.length_filter_le _ _) (by simp)

set_option maxRecDepth 100000 in
theorem subject_values_any (w : World) (pb : Nat) (a : Option Addr) (n cap : Nat) (ao : Option Addr) (no co : Nat) (y : Nat → Int) (A : Nat → Option Addr) (L C : Nat → Nat) (Z : Nat → Nat → Int) (V : Nat → Value) (S : Nat → ByteArray)
    (hn : n ≤ 1048576) (hno : no ≤ 1048576) (hL : ∀ i, i < n → L i ≤ 1048576)
    (hreq : w.cell? ⟨pb, 19, none⟩ = some (.slice a n cap)) (ro : Row w ao no co (fun i => .int .i64 (y i))) (hna : n ≤ cap)
    (hty : ∀ i, i < n → ∃ b off, a = some ⟨b, off, none⟩ ∧ w.cell? ⟨b, off + i * 2, none⟩ = some (.slice (A i) (L i) (C i)) ∧ w.cell? ⟨b, off + i * 2 + 1, none⟩ = some (V i))
    (hrow : ∀ i, i < n → Row w (A i) (L i) (C i) (fun j => .int .i64 (Z i j)))
    (hV : ∀ i, i < n → (V i = .iface 9 (.string (S i))) ∨ (∃ x l c, V i = .iface 39 (.slice x l c) ∧ S i = ByteArray.empty)) :
    Calls Try.prog 14 #[.pointer (some ⟨pb, 0, none⟩), .slice ao no co] w fun e w' => ∃ v, e = .returned v ∧
      w'.ownsRow w.heap.size 9 1 v (svN (fun i => sameB (L i) (Z i) no y) S n).length ((svN (fun i => sameB (L i) (Z i) no y) S n).map Value.string) ∧ Below w.heap.size w w' := by
  generalize hM : (fun i => sameB (L i) (Z i) no y) = M
  have HM : Hid ((fun i => sameB (L i) (Z i) no y) = M) := hM
  clear hM
  obtain ⟨i0, hi, hz0, hz1, hz2⟩ := info_parts Try.info9
  have hta := assert_hit
  have htm := assert_miss
  go_enter Try.func14, Try.ntmps14
  go_wp2_with fail
  go_loopw [5, 16] (fun v i wr => ∃ k : Nat, k ≤ n ∧ i = .int .i64 k ∧ wr.ownsRow w.heap.size 9 1 v (svN M S k).length ((svN M S k).map Value.string) ∧ Below w.heap.size w wr) (fun _ i _ => n - (intOf i).toNat)
  case atStart => exact ⟨0, Nat.zero_le _, rfl, World.ownsRow_nil _ _ _ _, Below.refl _ _⟩
  case round =>
    obtain ⟨k, hk, rfl, hown, hbel⟩ := hrel
    by_cases hlt : k < n
    · obtain ⟨b, off, rfl, c0, c1⟩ := hty k hlt
      have rk := hrow k hlt
      have lk := hL k hlt
      have vk := hV k hlt
      have mk : sameB (L k) (Z k) no y = M k := congrFun HM.out k
      have g0 : wr.cell? ⟨b, off + k * 2, none⟩ = some (.slice (A k) (L k) (C k)) := (hbel.cell (by exact World.block_lt_of_cell? w _ c0)).trans c0
      have g1 : wr.cell? ⟨b, off + k * 2 + 1, none⟩ = some (V k) := (hbel.cell (by exact World.block_lt_of_cell? w _ c1)).trans c1
      have hb0 : b < wr.heap.size := World.block_lt_of_cell? wr _ g0
      clear hty hrow hL hV c0 c1 hreq
      have rk' := rk.below (Nat.le_refl _) hbel
      have ro' := ro.below (Nat.le_refl _) hbel
      have MK : Hid (sameB (L k) (Z k) no y = M k) := mk
      clear mk rk ro
      rcases vk with hv | ⟨x, l, c, hv, hS⟩
      · rw [hv] at g1
        clear hv
        go_wp2_with fail
        refine (oid_equal_any _ (A k) ao (L k) no (C k) co (Z k) y lk hno ?_ ?_).mono ?_
        · exact rk'.below (Nat.le_refl _) (Below.alloc (Below.refl _ _) (Nat.le_refl _) _)
        · exact ro'.below (Nat.le_refl _) (Below.alloc (Below.refl _ _) (Nat.le_refl _) _)
        rintro e w1 ⟨rfl, hb1⟩
        rw [MK.out]
        have hcl : w1.cell? ⟨wr.heap.size, 1, none⟩ = some (.iface 9 (.string (S k))) := by
          rw [hb1.cell (by simp)]; simp
        have hbl1 : Below wr.heap.size wr w1 := (Below.alloc (Below.refl _ _) (Nat.le_refl _) _).trans (hb1.mono (by simp))
        have hown1 := ownsRow_below hown (Nat.le_refl _) hbl1
        have hbelw1 : Below w.heap.size w w1 := hbel.trans (hbl1.mono hbel.size)
        have hsz := svN_le M S k
        clear rk' ro' MK hb1 hbl1 hown hbel g0 g1
        rcases Bool.eq_false_or_eq_true (M k) with hM | hM
        · rw [hM]
          have HK : Hid (M k = true) := hM
          clear hM
          go_wp2_with (first | (at_builtin; refine wpList_append_own _ rfl _ _ 28 rfl w.heap.size 9 i0 (.string ByteArray.empty) 1 16 Try.underlying28 hi hz0 hz1 hz2 rfl (by decide) _ _ _ rfl (hown1.alloc _) ⟨w1.heap.size, 0, none⟩ 1 1 [.string (S k)] rfl rfl ?c1 ?c2 ?c3 ?c4 ?c5 ?_))
          case c1 =>
            intro j u hj
            match j, hj with
            | 0, hj => simp at hj; subst hj; simp [Addr.add]
          case c2 => intro u hu; simp at hu; subst hu; rfl
          case c3 => unfold maxLen; omega
          case c4 => omega
          case c5 => have := hbelw1.size; simp; omega
          · intro v' w2 hown' hgrow _
            go_wp2
            have hb2 : Below w.heap.size w w2 := (hbelw1.alloc hbelw1.size _).grown hgrow (by have := hbelw1.size; simp; omega) (fun q hq => (hown1.lt q hq).1)
            go_roundw
            case rel => exact ⟨k + 1, by omega, by go_num, by rw [svN_hit HK.out]; simpa using hown', hb2⟩
            case measure => simp [intOf]; omega
        · rw [hM]
          have HK : Hid (M k = false) := hM
          clear hM
          go_wp2_with fail
          go_roundw
          case rel => exact ⟨k + 1, by omega, by go_num, by rw [svN_miss HK.out]; exact hown1, hbelw1⟩
          case measure => simp [intOf]; omega
      · rw [hv] at g1
        have HS : Hid (S k = ByteArray.empty) := hS
        clear hS
        clear hv
        go_wp2_with fail
        refine (oid_equal_any _ (A k) ao (L k) no (C k) co (Z k) y lk hno ?_ ?_).mono ?_
        · exact rk'.below (Nat.le_refl _) (Below.alloc (Below.refl _ _) (Nat.le_refl _) _)
        · exact ro'.below (Nat.le_refl _) (Below.alloc (Below.refl _ _) (Nat.le_refl _) _)
        rintro e w1 ⟨rfl, hb1⟩
        rw [MK.out]
        have hcl : w1.cell? ⟨wr.heap.size, 1, none⟩ = some (.iface 39 (.slice x l c)) := by
          rw [hb1.cell (by simp)]; simp
        have hbl1 : Below wr.heap.size wr w1 := (Below.alloc (Below.refl _ _) (Nat.le_refl _) _).trans (hb1.mono (by simp))
        have hown1 := ownsRow_below hown (Nat.le_refl _) hbl1
        have hbelw1 : Below w.heap.size w w1 := hbel.trans (hbl1.mono hbel.size)
        have hsz := svN_le M S k
        clear rk' ro' MK hb1 hbl1 hown hbel g0 g1
        rcases Bool.eq_false_or_eq_true (M k) with hM | hM
        · rw [hM]
          have HK : Hid (M k = true) := hM
          clear hM
          go_wp2_with (first | (at_builtin; refine wpList_append_own _ rfl _ _ 28 rfl w.heap.size 9 i0 (.string ByteArray.empty) 1 16 Try.underlying28 hi hz0 hz1 hz2 rfl (by decide) _ _ _ rfl (hown1.alloc _) ⟨w1.heap.size, 0, none⟩ 1 1 [.string ByteArray.empty] rfl rfl ?c1 ?c2 ?c3 ?c4 ?c5 ?_))
          case c1 =>
            intro j u hj
            match j, hj with
            | 0, hj => simp at hj; subst hj; simp [Addr.add]
          case c2 => intro u hu; simp at hu; subst hu; rfl
          case c3 => unfold maxLen; omega
          case c4 => omega
          case c5 => have := hbelw1.size; simp; omega
          · intro v' w2 hown' hgrow _
            go_wp2
            have hb2 : Below w.heap.size w w2 := (hbelw1.alloc hbelw1.size _).grown hgrow (by have := hbelw1.size; simp; omega) (fun q hq => (hown1.lt q hq).1)
            go_roundw
            case rel => exact ⟨k + 1, by omega, by go_num, by rw [svN_hit HK.out, HS.out]; simpa using hown', hb2⟩
            case measure => simp [intOf]; omega
        · rw [hM]
          have HK : Hid (M k = false) := hM
          clear hM
          go_wp2_with fail
          go_roundw
          case rel => exact ⟨k + 1, by omega, by go_num, by rw [svN_miss HK.out]; exact hown1, hbelw1⟩
          case measure => simp [intOf]; omega
    · have hkn : k = n := by omega
      subst hkn
      go_wp2_with fail
      go_ret
      exact ⟨_, rfl, hown, hbel⟩
end Go.Proofs.Qxb6615030a
