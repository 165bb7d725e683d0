/-
  The plain law of the insertion.
-/
import Derived.Test.Qxb6615030aPlain
import Derived.Test.Qxb6615030aZz
namespace Go.Proofs.Qxb6615030a

/-- f with x put in at pos. -/
def ins {α : Type} (pos : Nat) (f : Nat → α) (x : α) (i : Nat) : α := if i < pos then f i else if i = pos then x else f (i - 1)
theorem ins_lt {α : Type} {pos : Nat} {f : Nat → α} {x : α} {i : Nat} (h : i < pos) : ins pos f x i = f i := by simp [ins, h]
theorem ins_at {α : Type} {pos : Nat} {f : Nat → α} {x : α} : ins pos f x pos = x := by simp [ins]
theorem ins_gt {α : Type} {pos : Nat} {f : Nat → α} {x : α} {i : Nat} (h : pos ≤ i) : ins pos f x (i + 1) = f i := by
  unfold ins
  rw [if_neg (by omega), if_neg (by omega)]
  rfl

theorem svN_congr {M M' : Nat → Bool} {S S' : Nat → ByteArray} {n : Nat} (h : ∀ i, i < n → M i = M' i ∧ S i = S' i) : svN M S n = svN M' S' n := by
  induction n with
  | zero => rfl
  | succ n ih =>
    have ih' := ih fun i hi => h i (by omega)
    obtain ⟨h1, h2⟩ := h n (by omega)
    cases hM : M n
    · rw [svN_miss hM, svN_miss (h1 ▸ hM), ih']
    · rw [svN_hit hM, svN_hit (h1 ▸ hM), ih', h2]

theorem sameB_self (n : Nat) (y : Nat → Int) : sameB n y n y = true := sameB_all fun _ _ => rfl

section
variable (L : Nat → Nat) (Z : Nat → Nat → Int) (V : Nat → ByteArray) (B : Nat → Bool) (no : Nat) (y : Nat → Int) (val : ByteArray) (vb : Bool) (pos nt : Nat)

theorem svN_ins (hp : pos ≤ nt) :
    svN (fun i => sameB (ins pos L no i) (ins pos Z y i) no y) (fun i => strOfB (ins pos B vb i) (ins pos V val i)) (nt + 1) =
      svN (fun i => sameB (L i) (Z i) no y) (fun i => strOfB (B i) (V i)) pos ++ strOfB vb val :: svN (fun i => sameB (L (pos + i)) (Z (pos + i)) no y) (fun i => strOfB (B (pos + i)) (V (pos + i))) (nt - pos) := by
  have e : nt + 1 = (pos + 1) + (nt - pos) := by omega
  rw [e, svN_append, svN_hit (k := pos) (by simp only [ins_at]; exact sameB_self no y)]
  rw [svN_congr (n := pos) (M' := fun i => sameB (L i) (Z i) no y) (S' := fun i => strOfB (B i) (V i)) (fun i hi => by simp only [ins_lt hi]; exact ⟨trivial, trivial⟩)]
  rw [svN_congr (n := nt - pos) (M' := fun i => sameB (L (pos + i)) (Z (pos + i)) no y) (S' := fun i => strOfB (B (pos + i)) (V (pos + i)))
    (fun i _ => by
      have e1 : pos + 1 + i = pos + i + 1 := by omega
      rw [e1]
      simp only [ins_gt (show pos ≤ pos + i by omega)]
      exact ⟨trivial, trivial⟩)]
  simp only [ins_at, List.append_assoc, List.singleton_append]

end

/-- The three facts on the list with one element put in. -/
theorem put_in (X Y : List ByteArray) (s : ByteArray) :
    (X ++ s :: Y).length = (X ++ Y).length + 1 ∧ (∀ i, i < X.length → (X ++ Y).getD i ByteArray.empty = (X ++ s :: Y).getD i ByteArray.empty) ∧ (X ++ s :: Y).getD X.length ByteArray.empty = s ∧
    ∀ i, X.length ≤ i → i < (X ++ Y).length → (X ++ Y).getD i ByteArray.empty = (X ++ s :: Y).getD (i + 1) ByteArray.empty := by
  refine ⟨by simp; omega, fun i hi => ?_, by simp [List.getD], fun i h1 h2 => ?_⟩
  · simp [List.getD, List.getElem?_append_left hi]
  · obtain ⟨k, rfl⟩ : ∃ k, i = X.length + k := ⟨i - X.length, by omega⟩
    have e : X.length + k + 1 = X.length + (k + 1) := by omega
    rw [e]
    simp [List.getD, List.getElem?_append_right]
end Go.Proofs.Qxb6615030a
