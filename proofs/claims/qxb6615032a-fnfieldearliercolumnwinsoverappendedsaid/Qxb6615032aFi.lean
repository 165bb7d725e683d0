/-
  zzFirstIndex and (*columns).place: the first index of a name.
-/
import Derived.Test.Qxb6615032aBase
import Derived.Lib.Strings
namespace Go.Proofs.Qxb6615032a
open Go.ChangeShapes Go.WideShapes Go.ChangeAt Go.RowKit

/-- k is the first place of s among V. -/
def FirstAt (V : Nat → ByteArray) (s : ByteArray) (k : Nat) : Prop := V k = s ∧ ∀ j, j < k → ¬ V j = s

/-- What zzFirstIndex leaves. -/
def Found (n : Nat) (V : Nat → ByteArray) (s : ByteArray) (w : World) (e : Ending) (w' : World) : Prop :=
  w = w' ∧ ((∃ k : Nat, k < n ∧ FirstAt V s k ∧ e = .returned (.int .i64 k)) ∨ ((∀ j, j < n → ¬ V j = s) ∧ e = .returned (.int .i64 (-1))))

theorem bytes_ne {a b : ByteArray} (h : ¬ a = b) : (a.toList == b.toList) = false := by
  rw [beq_eq_false_iff_ne]
  intro e
  apply h
  rw [Lib.toList_data, Lib.toList_data] at e
  cases a
  cases b
  simp at e
  rw [e]

theorem first_index (w : World) (an : Option Addr) (n cn : Nat) (V : Nat → ByteArray) (s : ByteArray) (hn : n ≤ 1048576) (rn : Row w an n cn (fun i => .string (V i))) :
    Calls Try.prog 10 #[.slice an n cn, .string s] w (Found n V s w) := by
  go_enter Try.func10, Try.ntmps10
  go_wp2
  go_loop [5] (fun i => ∃ k : Nat, k ≤ n ∧ i = .int .i64 k ∧ ∀ j, j < k → ¬ V j = s) (fun i => n - (intOf i).toNat)
  case atStart => exact ⟨0, Nat.zero_le _, rfl, by omega⟩
  case round =>
    obtain ⟨k, hk, rfl, hpre⟩ := hrel
    have HP : Hid (∀ j, j < k → ¬ V j = s) := hpre
    clear hpre
    by_cases hlt : k < n
    · obtain ⟨ba, oa, rfl⟩ := rn.some (by omega)
      have c1 := rn.at k hlt
      by_cases hs : V k = s
      · have HS : Hid (V k = s) := hs
        rw [hs] at c1
        clear hs
        go_wp2
        go_ret
        exact ⟨rfl, .inl ⟨k, hlt, ⟨HS.out, HP.out⟩, rfl⟩⟩
      · have HS : Hid (¬ V k = s) := hs
        have hne := bytes_ne hs
        clear hs
        go_wp2
        go_round
        case rel => exact ⟨k + 1, by omega, by go_num, fun j hj => by by_cases e : j = k; (subst e; exact HS.out); exact HP.out j (by omega)⟩
        case measure => simp [intOf]; omega
    · go_wp2
      go_ret
      exact ⟨rfl, .inr ⟨fun j hj => HP.out j (by omega), rfl⟩⟩

/-- '(c *columns).place(name)' where the name is there: the struct lies at ⟨pb, 0⟩: names, at, member. -/
theorem place_at (w : World) (pb : Nat) (an : Option Addr) (n cn : Nat) (aa : Option Addr) (na ca : Nat) (V : Nat → ByteArray) (At : Nat → Int) (s : ByteArray) (k : Nat) (hk : k < n) (hka : k < na) (hf : FirstAt V s k) (hn : n ≤ 1048576) (hna : na ≤ 1048576)
    (c0 : w.cell? ⟨pb, 0, none⟩ = some (.slice an n cn)) (c1 : w.cell? ⟨pb, 1, none⟩ = some (.slice aa na ca)) (rn : Row w an n cn (fun i => .string (V i))) (ra : Row w aa na ca (fun i => .int .i64 (At i))) :
    Calls Try.prog 30 #[.pointer (some ⟨pb, 0, none⟩), .string s] w fun e w' => e = .returned (.int .i64 (At k)) ∧ w' = w := by
  obtain ⟨ba, oa, rfl⟩ := rn.some (by omega)
  obtain ⟨bb, ob, rfl⟩ := ra.some (by omega)
  have HF : Hid (FirstAt V s k) := hf
  clear hf
  go_enter Try.func30, Try.ntmps30
  go_wp2
  go_loop [12] (fun i => ∃ m : Nat, m ≤ k ∧ i = .int .i64 m) (fun i => n - (intOf i).toNat)
  case atStart => exact ⟨0, Nat.zero_le _, rfl⟩
  case round =>
    obtain ⟨m, hm, rfl⟩ := hrel
    have d1 := rn.at m (by omega)
    by_cases hlt : m < k
    · have hne := bytes_ne (HF.out.2 m hlt)
      go_wp2
      go_round
      case rel => exact ⟨m + 1, by omega, by go_num⟩
      case measure => simp [intOf]; omega
    · have hmk : k = m := by omega
      subst hmk
      rw [HF.out.1] at d1
      have d2 := ra.at k hka
      go_wp2
      go_ret
      exact ⟨rfl, rfl⟩

end Go.Proofs.Qxb6615032a
