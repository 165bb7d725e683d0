/-
  The walk of the second law.
-/
import Derived.Test.Qxb6615030aC2
import Derived.Test.Qxb6615030aSz
namespace Go.Proofs.Qxb6615030a
open Go.ChangeShapes Go.WideShapes Go.ChangeAt Go.RowKit

set_option maxRecDepth 100000 in
set_option maxHeartbeats 4000000 in
theorem law2 (w : World) (a : Option Addr) (nt ca : Nat) (av : Option Addr) (nv cv : Nat) (ab : Option Addr) (nb cb : Nat) (ao : Option Addr) (no co : Nat) (pos : Int) (val : ByteArray) (vb : Bool) (A : Nat → Option Addr) (L C : Nat → Nat) (Z : Nat → Nat → Int) (V : Nat → ByteArray) (B : Nat → Bool) (y : Nat → Int)
    (hval : val.size ≤ maxLen)
    (rt : Row w a nt ca (fun i => .slice (A i) (L i) (C i))) (rv : Row w av nv cv (fun i => .string (V i))) (rs : Row w ab nb cb (fun i => .bool (B i))) (ro : Row w ao no co (fun i => .int .i64 (y i)))
    (hrow : ∀ i, i < nt → Row w (A i) (L i) (C i) (fun j => .int .i64 (Z i j))) :
    Calls Try.prog 6 #[.slice a nt ca, .slice av nv cv, .slice ab nb cb, .slice ao no co, .int .i64 pos, .string val, .bool vb] w fun e w' => e = .returned (.bool true) ∧ Below w.heap.size w w' := by
  go_enter Try.func6, Try.ntmps6
  go_wp2_with fail
  refine (bytes2_any _ a nt ca av nv cv ab nb cb ao no co pos val vb A L C V rt rv hval).mono ?_
  rintro e w' ⟨r, rfl, hr, rfl⟩
  cases r
  · go_wp2_with fail
    go_ret
    exact ⟨rfl, Below.refl _ _⟩
  obtain ⟨⟨h1, h2, h3, h4, hL⟩, h5⟩ := hr rfl
  clear hr
  by_cases hv6 : (65536 : Int) < (val.size : Int)
  · have hd6 : decide ((65536 : Int) < (val.size : Int)) = true := decide_eq_true hv6
    go_wp2_with fail
    go_ret
    exact ⟨rfl, Below.refl _ _⟩
  have hd6 : decide ((65536 : Int) < (val.size : Int)) = false := decide_eq_false hv6
  go_wp2_with fail
  refine (attrs_any _ a nt ca av nv cv ab nb cb ao no co A L C V rt rv).mono ?_
  rintro e w' ⟨r, rfl, hr, rfl⟩
  cases r
  · go_wp2_with fail
    go_ret
    exact ⟨rfl, Below.refl _ _⟩
  have h6 := hr rfl
  clear hr hd6 hv6
  by_cases hv : nt = nv
  rotate_left
  · have hI : ((nv : Int) != (nt : Int)) = true := by rw [bne_iff_ne]; omega
    go_wp2_with fail
    go_ret
    exact ⟨rfl, Below.refl _ _⟩
  subst hv
  by_cases hb : nt = nb
  rotate_left
  · have hI : ((nb : Int) != (nt : Int)) = true := by rw [bne_iff_ne]; omega
    go_wp2_with fail
    go_ret
    exact ⟨rfl, Below.refl _ _⟩
  subst hb
  by_cases hc0 : pos < 0
  · have hd : decide (pos < 0) = true := decide_eq_true hc0
    go_wp2_with fail
    go_ret
    exact ⟨rfl, Below.refl _ _⟩
  have hd0 : decide (pos < 0) = false := decide_eq_false hc0
  by_cases hc1 : (nt : Int) < pos
  · have hd : decide ((nt : Int) < pos) = true := decide_eq_true hc1
    go_wp2_with fail
    go_ret
    exact ⟨rfl, Below.refl _ _⟩
  have hd1 : decide ((nt : Int) < pos) = false := decide_eq_false hc1
  go_upto_if 70 with fail
  go_cut [] from 70 to 70 (fun wd => wd = w)
  case first =>
    go_wp2_with fail
    go_meet
    case rel => rfl
  case rest =>
  subst hcut
  rename_i hK
  obtain ⟨q, rfl⟩ : ∃ q : Nat, pos = (q : Int) := ⟨pos.toNat, by omega⟩
  exact hK _ _ (cop2 wc a nt ca av cv ab cb ao no co q val vb A L C Z V B y h1 h4 hL h6 (by omega) rt rv rs ro hrow _ _ _ _ _ _ _ _ _ _ _ _ _ _ _ _ _ _ _ _ _ _ _ _ _ _ _ _ _ _ _ _ _ _ _ _ _ _ _ _ _ _ _ _ _ _ _ _ _ _ _ _ _ _ _ _ _ _ _ _ _ _ _ _ _ _ _ _ _ _ _ _ _ _ _ _ _ _ _ _ _ _ _ _ _ _ _ _ _ _ _ _ _ _ _ _ _ _ _ _ _ _ _ _ _ _ _ _ _ _ _ _ _ _ _ _ _ _ _ _ _ _ _ _ _ _ _ _ _ _ _ _ _ _ _ _ _ _ _ _ _ _ _ _ _ _ _ _ _ _ _ _ _ _ _ _ _ _ _ _ _ _ _ _ _ _ _ _ _ _ _ _ _ _ _ _ _ _ _ _ _ _ _ _ _ _ _ _ _ _ _ _ _ _ _ _ _ _ _ _ _ _ _ _ _ _ _ _ _ _ _ _ _ _ _ _ _ _ _ _ _ _ _ _ _ _ _ _ _ _ _ _ _ _ _ _ _ _ _ _ _ _ _ _ _ _ _)
end Go.Proofs.Qxb6615030a
