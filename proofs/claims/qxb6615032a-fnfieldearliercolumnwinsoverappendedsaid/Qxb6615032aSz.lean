/-
  The size guards: zzBytes.., zzAddNames, zzAddFields.
-/
import Derived.Test.Qxb6615032aBase
namespace Go.Proofs.Qxb6615032a
open Go.ChangeShapes Go.WideShapes Go.ChangeAt Go.RowKit

def Small (nn na nf : Nat) (file name extra : ByteArray) (V : Nat → ByteArray) (L : Nat → Nat) : Prop :=
  nn ≤ 1048576 ∧ na ≤ 1048576 ∧ nf ≤ 1048576 ∧ file.size ≤ 1048576 ∧ name.size ≤ 1048576 ∧ extra.size ≤ 1048576 ∧ (∀ i, i < nn → (V i).size ≤ 1048576) ∧ ∀ i, i < nf → L i ≤ 1048576

set_option maxRecDepth 100000 in
theorem bytes_any (w : World) (file : ByteArray) (line : Int) (an : Option Addr) (nn cn : Nat) (aa : Option Addr) (na ca : Nat) (member : Int) (af : Option Addr) (nf cf : Nat) (name extra : ByteArray) (extraAt : Int) (V : Nat → ByteArray) (A : Nat → Option Addr) (L C : Nat → Nat)
    (hf : file.size ≤ maxLen) (hn : name.size ≤ maxLen) (he : extra.size ≤ maxLen)
    (rn : Row w an nn cn (fun i => .string (V i))) (rf : Row w af nf cf (fun i => .slice (A i) (L i) (C i))) :
    Calls Try.prog 7 #[.string file, .int .i64 line, .slice an nn cn, .slice aa na ca, .int .i64 member, .slice af nf cf, .string name, .string extra, .int .i64 extraAt] w (Guarded (Small nn na nf file name extra V L) w) := by
  unfold maxLen at hf hn he
  by_cases h1 : file.size ≤ 1048576
  rotate_left
  · go_enter Try.func7, Try.ntmps7
    go_wp2
    go_ret
    exact .no rfl
  by_cases h2 : nn ≤ 1048576
  rotate_left
  · go_enter Try.func7, Try.ntmps7
    go_wp2
    go_ret
    exact .no rfl
  by_cases h3 : file.size + nn ≤ 1048576
  rotate_left
  · go_enter Try.func7, Try.ntmps7
    go_wp2
    go_ret
    exact .no rfl
  go_enter Try.func7, Try.ntmps7
  go_wp2
  go_loop [19, 20] (fun z i => ∃ (k : Nat) (q : Int), k ≤ nn ∧ i = .int .i64 k ∧ z = .int .i64 q ∧ 0 ≤ q ∧ q ≤ 1048576 ∧ ∀ j, j < k → (V j).size ≤ 1048576) (fun _ i => nn - (intOf i).toNat)
  case atStart => exact ⟨0, _, Nat.zero_le _, rfl, rfl, by omega, by omega, by omega⟩
  case round =>
    obtain ⟨k, q, hk, rfl, rfl, q0, q1, hl⟩ := hrel
    have HL : Hid (∀ j, j < k → (V j).size ≤ 1048576) := hl
    clear hl
    by_cases hlt : k < nn
    · obtain ⟨ba, oa, rfl⟩ := rn.some (by omega)
      have c1 := rn.at k hlt
      go_wp2
      all_goals first
        | (go_ret
           exact .no rfl)
        | (go_round
           case rel => exact ⟨k + 1, _, by omega, by go_num, rfl, by omega, by omega, fun j hj => by by_cases e : j = k; (subst e; omega); exact HL.out j (by omega)⟩
           case measure => simp [intOf]; omega)
    · have hkn : nn = k := by omega
      subst hkn
      by_cases h4 : na ≤ 1048576
      rotate_left
      · go_wp2
        go_ret
        exact .no rfl
      by_cases h5 : q + na ≤ 1048576
      rotate_left
      · go_wp2
        go_ret
        exact .no rfl
      by_cases h6 : nf ≤ 1048576
      rotate_left
      · go_wp2
        go_ret
        exact .no rfl
      by_cases h7 : q + na + nf ≤ 1048576
      rotate_left
      · go_wp2
        go_ret
        exact .no rfl
      go_wp2
      go_loop [19, 21] (fun z i => ∃ (j : Nat) (p : Int), j ≤ nf ∧ i = .int .i64 j ∧ z = .int .i64 p ∧ 0 ≤ p ∧ p ≤ 1048576 ∧ ∀ m, m < j → L m ≤ 1048576) (fun _ i => nf - (intOf i).toNat)
      case atStart => exact ⟨0, _, Nat.zero_le _, rfl, rfl, by omega, by omega, by omega⟩
      case round =>
        obtain ⟨j, p, hj, rfl, rfl, p0, p1, hm⟩ := hrel
        have HM : Hid (∀ m, m < j → L m ≤ 1048576) := hm
        clear hm
        by_cases hlt : j < nf
        · obtain ⟨bv, ov, rfl⟩ := rf.some (by omega)
          have c2 := rf.at j hlt
          go_wp2
          all_goals first
            | (go_ret
               exact .no rfl)
            | (go_round
               case rel => exact ⟨j + 1, _, by omega, by go_num, rfl, by omega, by omega, fun m hm => by by_cases e : m = j; (subst e; omega); exact HM.out m (by omega)⟩
               case measure => simp [intOf]; omega)
        · have hjn : nf = j := by omega
          subst hjn
          go_wp2
          all_goals first
            | (go_ret
               exact .no rfl)
            | (go_ret
               exact .yes rfl ⟨by omega, by omega, by omega, by omega, by omega, by omega, HL.out, HM.out⟩)

/-- A count that is not negative; nothing turned. -/
def Counted (w : World) (e : Ending) (w' : World) : Prop := ∃ r : Int, e = .returned (.int .i64 r) ∧ 0 ≤ r ∧ w = w'
theorem Counted.mk' {w : World} {e : Ending} (r : Int) (h : e = .returned (.int .i64 r)) (h0 : 0 ≤ r) : Counted w e w := ⟨r, h, h0, rfl⟩

theorem add_names (w : World) (t : Int) (an : Option Addr) (nn cn : Nat) (V : Nat → ByteArray) (t0 : 0 ≤ t) (t1 : t ≤ 1048576) (hn : nn ≤ 1048576) (hV : ∀ i, i < nn → (V i).size ≤ 1048576) (rn : Row w an nn cn (fun i => .string (V i))) :
    Calls Try.prog 8 #[.int .i64 t, .slice an nn cn] w (Counted w) := by
  have HV : Hid (∀ i, i < nn → (V i).size ≤ 1048576) := hV
  clear hV
  go_enter Try.func8, Try.ntmps8
  go_wp2
  go_loop [0, 5] (fun z i => ∃ (k : Nat) (q : Int), k ≤ nn ∧ i = .int .i64 k ∧ z = .int .i64 q ∧ 0 ≤ q ∧ q ≤ 1048576) (fun _ i => nn - (intOf i).toNat)
  case atStart => exact ⟨0, _, Nat.zero_le _, rfl, rfl, t0, t1⟩
  case round =>
    obtain ⟨k, q, hk, rfl, rfl, q0, q1⟩ := hrel
    by_cases hlt : k < nn
    · obtain ⟨ba, oa, rfl⟩ := rn.some (by omega)
      have c1 := rn.at k hlt
      have b1 := HV.out k hlt
      go_wp2
      all_goals first
        | (go_ret
           exact .mk' _ rfl (by omega))
        | (go_round
           case rel => exact ⟨k + 1, _, by omega, by go_num, rfl, by omega, by omega⟩
           case measure => simp [intOf]; omega)
    · go_wp2
      go_ret
      exact .mk' _ rfl q0

theorem add_fields (w : World) (t : Int) (af : Option Addr) (nf cf : Nat) (A : Nat → Option Addr) (L C : Nat → Nat) (t0 : 0 ≤ t) (t1 : t ≤ 1048576) (hn : nf ≤ 1048576) (hL : ∀ i, i < nf → L i ≤ 1048576) (rf : Row w af nf cf (fun i => .slice (A i) (L i) (C i))) :
    Calls Try.prog 9 #[.int .i64 t, .slice af nf cf] w (Counted w) := by
  have HV : Hid (∀ i, i < nf → L i ≤ 1048576) := hL
  clear hL
  go_enter Try.func9, Try.ntmps9
  go_wp2
  go_loop [0, 5] (fun z i => ∃ (k : Nat) (q : Int), k ≤ nf ∧ i = .int .i64 k ∧ z = .int .i64 q ∧ 0 ≤ q ∧ q ≤ 1048576) (fun _ i => nf - (intOf i).toNat)
  case atStart => exact ⟨0, _, Nat.zero_le _, rfl, rfl, t0, t1⟩
  case round =>
    obtain ⟨k, q, hk, rfl, rfl, q0, q1⟩ := hrel
    by_cases hlt : k < nf
    · obtain ⟨ba, oa, rfl⟩ := rf.some (by omega)
      have c1 := rf.at k hlt
      have b1 := HV.out k hlt
      go_wp2
      all_goals first
        | (go_ret
           exact .mk' _ rfl (by omega))
        | (go_round
           case rel => exact ⟨k + 1, _, by omega, by go_num, rfl, by omega, by omega⟩
           case measure => simp [intOf]; omega)
    · go_wp2
      go_ret
      exact .mk' _ rfl q0

end Go.Proofs.Qxb6615032a
