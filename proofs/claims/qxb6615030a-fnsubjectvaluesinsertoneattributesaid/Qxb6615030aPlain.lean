/-
  The plain law: the values of a list of attributes, cut anywhere; what stands at each place.
-/
import Derived.Test.Qxb6615030aSv
namespace Go.Proofs.Qxb6615030a

theorem svN_append (M : Nat → Bool) (S : Nat → ByteArray) (q k : Nat) : svN M S (q + k) = svN M S q ++ svN (fun i => M (q + i)) (fun i => S (q + i)) k := by
  induction k with
  | zero => simp [svN]
  | succ k ih =>
    rw [← Nat.add_assoc]
    cases h : M (q + k)
    · rw [svN_miss h, svN_miss (M := fun i => M (q + i)) (k := k) h, ih]
    · rw [svN_hit h, svN_hit (M := fun i => M (q + i)) (k := k) h, ih, List.append_assoc]

theorem svN_split (M : Nat → Bool) (S : Nat → ByteArray) {q n : Nat} (h : q ≤ n) : svN M S n = svN M S q ++ svN (fun i => M (q + i)) (fun i => S (q + i)) (n - q) := by
  rw [← svN_append, Nat.add_sub_cancel' h]

theorem getD_left (X Y : List ByteArray) (i : Nat) (h : i < X.length) : X.getD i ByteArray.empty = (X ++ Y).getD i ByteArray.empty := by
  simp [List.getD, List.getElem?_append_left h]
theorem getD_right (X Y : List ByteArray) (i : Nat) : Y.getD i ByteArray.empty = (X ++ Y).getD (X.length + i) ByteArray.empty := by
  simp [List.getD, List.getElem?_append_right]

theorem svN_at (M : Nat → Bool) (S : Nat → ByteArray) (n i : Nat) (hi : i < n) (hM : M i = true) :
    (svN M S (i + 1)).length = (svN M S i).length + 1 ∧ (svN M S i).length < (svN M S n).length ∧ (svN M S n).getD (svN M S i).length ByteArray.empty = S i := by
  have e1 := svN_hit (S := S) hM
  have e2 := svN_split M S (q := i + 1) (n := n) hi
  refine ⟨by rw [e1]; simp, by rw [e2, e1]; simp, ?_⟩
  rw [e2, e1, List.append_assoc]
  simp [List.getD]

end Go.Proofs.Qxb6615030a
