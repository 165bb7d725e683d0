/-
  The two size guards: 'true' is answered only where the lengths are small.
-/
import Derived.Test.Qxb6615030aEq
namespace Go.Proofs.Qxb6615030a
open Go.ChangeShapes Go.WideShapes Go.ChangeAt Go.RowKit

def Small (nt nv nb no : Nat) (L : Nat → Nat) : Prop := nt ≤ 1048576 ∧ nv ≤ 1048576 ∧ nb ≤ 1048576 ∧ no ≤ 1048576 ∧ ∀ i, i < nt → L i ≤ 1048576

/-- What a guard leaves: some Boolean, under which 'X' holds; nothing turned. -/
def Guarded (X : Prop) (w : World) (e : Ending) (w' : World) : Prop := ∃ r : Bool, e = .returned (.bool r) ∧ (r = true → X) ∧ w = w'
theorem Guarded.no {X : Prop} {w : World} {e : Ending} (h : e = .returned (.bool false)) : Guarded X w e w := ⟨false, h, by simp, rfl⟩
theorem Guarded.yes {X : Prop} {w : World} {e : Ending} (h : e = .returned (.bool true)) (x : X) : Guarded X w e w := ⟨true, h, fun _ => x, rfl⟩

set_option maxRecDepth 100000 in
theorem bytes_any (w : World) (a : Option Addr) (nt ca : Nat) (av : Option Addr) (nv cv : Nat) (ab : Option Addr) (nb cb : Nat) (ao : Option Addr) (no co : Nat) (cut : Int) (A : Nat → Option Addr) (L C : Nat → Nat) (V : Nat → ByteArray)
    (rt : Row w a nt ca (fun i => .slice (A i) (L i) (C i))) (rv : Row w av nv cv (fun i => .string (V i))) :
    Calls Try.prog 8 #[.slice a nt ca, .slice av nv cv, .slice ab nb cb, .slice ao no co, .int .i64 cut] w (Guarded (Small nt nv nb no L) w) := by
  by_cases h1 : nt ≤ 1048576
  rotate_left
  · go_enter Try.func8, Try.ntmps8
    go_wp2
    go_ret
    exact .no rfl
  go_enter Try.func8, Try.ntmps8
  go_wp2
  go_loop [11, 12] (fun z i => ∃ (k : Nat) (q : Int), k ≤ nt ∧ i = .int .i64 k ∧ z = .int .i64 q ∧ 0 ≤ q ∧ q ≤ 1048576 ∧ ∀ j, j < k → L j ≤ 1048576) (fun _ i => nt - (intOf i).toNat)
  case atStart => exact ⟨0, nt, Nat.zero_le _, rfl, rfl, by omega, by omega, by omega⟩
  case round =>
    obtain ⟨k, q, hk, rfl, rfl, q0, q1, hl⟩ := hrel
    have HL : Hid (∀ j, j < k → L j ≤ 1048576) := hl
    clear hl
    by_cases hlt : k < nt
    · obtain ⟨ba, oa, rfl⟩ := rt.some (by omega)
      have c1 := rt.at k hlt
      go_wp2
      all_goals first
        | (go_ret
           exact .no rfl)
        | (go_round
           case rel => exact ⟨k + 1, _, by omega, by go_num, rfl, by omega, by omega, fun j hj => by by_cases e : j = k; (subst e; omega); exact HL.out j (by omega)⟩
           case measure => simp [intOf]; omega)
    · have hkn : k = nt := by omega
      subst hkn
      by_cases h2 : nv ≤ 1048576
      rotate_left
      · go_wp2
        go_ret
        exact .no rfl
      by_cases h3 : q + nv ≤ 1048576
      rotate_left
      · go_wp2
        go_ret
        exact .no rfl
      go_wp2
      go_loop [11, 13] (fun z i => ∃ (j : Nat) (p : Int), j ≤ nv ∧ i = .int .i64 j ∧ z = .int .i64 p ∧ 0 ≤ p ∧ p ≤ 1048576) (fun _ i => nv - (intOf i).toNat)
      case atStart => exact ⟨0, _, Nat.zero_le _, rfl, rfl, by omega, by omega⟩
      case round =>
        obtain ⟨j, p, hj, rfl, rfl, p0, p1⟩ := hrel
        by_cases hlt : j < nv
        · obtain ⟨bv, ov, rfl⟩ := rv.some (by omega)
          have c2 := rv.at j hlt
          go_wp2
          all_goals first
            | (go_ret
               exact .no rfl)
            | (go_round
               case rel => exact ⟨j + 1, _, by omega, by go_num, rfl, by omega, by omega⟩
               case measure => simp [intOf]; omega)
        · go_wp2
          all_goals first
            | (go_ret
               exact .no rfl)
            | (go_ret
               exact .yes rfl ⟨by omega, by omega, by omega, by omega, HL.out⟩)
set_option maxRecDepth 100000 in
theorem bytes2_any (w : World) (a : Option Addr) (nt ca : Nat) (av : Option Addr) (nv cv : Nat) (ab : Option Addr) (nb cb : Nat) (ao : Option Addr) (no co : Nat) (pos : Int) (val : ByteArray) (vb : Bool) (A : Nat → Option Addr) (L C : Nat → Nat) (V : Nat → ByteArray)
    (rt : Row w a nt ca (fun i => .slice (A i) (L i) (C i))) (rv : Row w av nv cv (fun i => .string (V i))) (hval : val.size ≤ maxLen) :
    Calls Try.prog 12 #[.slice a nt ca, .slice av nv cv, .slice ab nb cb, .slice ao no co, .int .i64 pos, .string val, .bool vb] w (Guarded (Small nt nv nb no L ∧ val.size ≤ 1048576) w) := by
  unfold maxLen at hval
  by_cases h1 : nt ≤ 1048576
  rotate_left
  · go_enter Try.func12, Try.ntmps12
    go_wp2
    go_ret
    exact .no rfl
  go_enter Try.func12, Try.ntmps12
  go_wp2
  go_loop [15, 16] (fun z i => ∃ (k : Nat) (q : Int), k ≤ nt ∧ i = .int .i64 k ∧ z = .int .i64 q ∧ 0 ≤ q ∧ q ≤ 1048576 ∧ ∀ j, j < k → L j ≤ 1048576) (fun _ i => nt - (intOf i).toNat)
  case atStart => exact ⟨0, nt, Nat.zero_le _, rfl, rfl, by omega, by omega, by omega⟩
  case round =>
    obtain ⟨k, q, hk, rfl, rfl, q0, q1, hl⟩ := hrel
    have HL : Hid (∀ j, j < k → L j ≤ 1048576) := hl
    clear hl
    by_cases hlt : k < nt
    · obtain ⟨ba, oa, rfl⟩ := rt.some (by omega)
      have c1 := rt.at k hlt
      go_wp2
      all_goals first
        | (go_ret
           exact .no rfl)
        | (go_round
           case rel => exact ⟨k + 1, _, by omega, by go_num, rfl, by omega, by omega, fun j hj => by by_cases e : j = k; (subst e; omega); exact HL.out j (by omega)⟩
           case measure => simp [intOf]; omega)
    · have hkn : k = nt := by omega
      subst hkn
      by_cases h2 : nv ≤ 1048576
      rotate_left
      · go_wp2
        go_ret
        exact .no rfl
      by_cases h3 : q + nv ≤ 1048576
      rotate_left
      · go_wp2
        go_ret
        exact .no rfl
      go_wp2
      go_loop [15, 17] (fun z i => ∃ (j : Nat) (p : Int), j ≤ nv ∧ i = .int .i64 j ∧ z = .int .i64 p ∧ 0 ≤ p ∧ p ≤ 1048576) (fun _ i => nv - (intOf i).toNat)
      case atStart => exact ⟨0, _, Nat.zero_le _, rfl, rfl, by omega, by omega⟩
      case round =>
        obtain ⟨j, p, hj, rfl, rfl, p0, p1⟩ := hrel
        by_cases hlt : j < nv
        · obtain ⟨bv, ov, rfl⟩ := rv.some (by omega)
          have c2 := rv.at j hlt
          go_wp2
          all_goals first
            | (go_ret
               exact .no rfl)
            | (go_round
               case rel => exact ⟨j + 1, _, by omega, by go_num, rfl, by omega, by omega⟩
               case measure => simp [intOf]; omega)
        · go_wp2
          all_goals first
            | (go_ret
               exact .no rfl)
            | (go_ret
               exact .yes rfl ⟨⟨by omega, by omega, by omega, by omega, HL.out⟩, by omega⟩)

set_option maxRecDepth 100000 in
theorem attrs_any (w : World) (a : Option Addr) (nt ca : Nat) (av : Option Addr) (nv cv : Nat) (ab : Option Addr) (nb cb : Nat) (ao : Option Addr) (no co : Nat) (A : Nat → Option Addr) (L C : Nat → Nat) (V : Nat → ByteArray)
    (rt : Row w a nt ca (fun i => .slice (A i) (L i) (C i))) (rv : Row w av nv cv (fun i => .string (V i))) :
    Calls Try.prog 9 #[.slice a nt ca, .slice av nv cv, .slice ab nb cb, .slice ao no co] w (Guarded (nt ≤ 4096) w) := by
  by_cases h1 : nt ≤ 4096
  rotate_left
  · have g1 : decide ((4096 : Int) < (nt : Int)) = true := decide_eq_true (by omega)
    go_enter Try.func9, Try.ntmps9
    go_wp2
    go_ret
    exact .no rfl
  have g1 : decide ((4096 : Int) < (nt : Int)) = false := decide_eq_false (by omega)
  by_cases h2 : nv ≤ 4096
  rotate_left
  · have g2 : decide ((4096 : Int) < (nv : Int)) = true := decide_eq_true (by omega)
    go_enter Try.func9, Try.ntmps9
    go_wp2
    go_ret
    exact .no rfl
  have g2 : decide ((4096 : Int) < (nv : Int)) = false := decide_eq_false (by omega)
  by_cases h3 : nb ≤ 4096
  rotate_left
  · have g3 : decide ((4096 : Int) < (nb : Int)) = true := decide_eq_true (by omega)
    go_enter Try.func9, Try.ntmps9
    go_wp2
    go_ret
    exact .no rfl
  have g3 : decide ((4096 : Int) < (nb : Int)) = false := decide_eq_false (by omega)
  by_cases h4 : no ≤ 65536
  rotate_left
  · have g4 : decide ((65536 : Int) < (no : Int)) = true := decide_eq_true (by omega)
    go_enter Try.func9, Try.ntmps9
    go_wp2
    go_ret
    exact .no rfl
  have g4 : decide ((65536 : Int) < (no : Int)) = false := decide_eq_false (by omega)
  go_enter Try.func9, Try.ntmps9
  go_wp2
  go_loop [9, 10] (fun z i => ∃ (k : Nat) (q : Int), k ≤ nt ∧ i = .int .i64 k ∧ z = .int .i64 q ∧ 0 ≤ q ∧ q ≤ 1048576) (fun _ i => nt - (intOf i).toNat)
  case atStart => exact ⟨0, _, Nat.zero_le _, rfl, rfl, by omega, by omega⟩
  case round =>
    obtain ⟨k, q, hk, rfl, rfl, q0, q1⟩ := hrel
    by_cases hlt : k < nt
    · obtain ⟨ba, oa, rfl⟩ := rt.some (by omega)
      have c1 := rt.at k hlt
      go_wp2
      all_goals first
        | (go_ret
           exact .no rfl)
        | (go_round
           case rel => exact ⟨k + 1, _, by omega, by go_num, rfl, by omega, by omega⟩
           case measure => simp [intOf]; omega)
    · have hkn : k = nt := by omega
      subst hkn
      go_wp2
      go_loop [9, 11] (fun z i => ∃ (j : Nat) (p : Int), j ≤ nv ∧ i = .int .i64 j ∧ z = .int .i64 p ∧ 0 ≤ p ∧ p ≤ 1048576) (fun _ i => nv - (intOf i).toNat)
      case atStart => exact ⟨0, _, Nat.zero_le _, rfl, rfl, by omega, by omega⟩
      case round =>
        obtain ⟨j, p, hj, rfl, rfl, p0, p1⟩ := hrel
        by_cases hlt : j < nv
        · obtain ⟨bv, ov, rfl⟩ := rv.some (by omega)
          have c2 := rv.at j hlt
          go_wp2
          all_goals first
            | (go_ret
               exact .no rfl)
            | (go_round
               case rel => exact ⟨j + 1, _, by omega, by go_num, rfl, by omega, by omega⟩
               case measure => simp [intOf]; omega)
        · go_wp2
          go_ret
          exact .yes rfl trivial
end Go.Proofs.Qxb6615030a
