/-
  fmt.Errorf at the three formats that the road can come to: an error that is not nil; nothing old has turned.
-/
import Derived.Test.Qxb6615047aFmtFacts
namespace Go.Proofs.Qxb6615047aFmt
open Go.RowKit Go.Extern.Stop Go.Stop Go.Extern
attribute [local go_sem] call16 fguard fmtA fmtAr fmtB fmtBr fmtC fmtCr op9_115w op3_100w op23_100w ptr50 elem50 isError50 ptr48 elem48 isError48

/-- A new *errors.errorString, with its text. -/
def NewErr (w : World) (e : Ending) (w' : World) : Prop := ∃ a s, e = .returned (.iface 50 (.pointer (some a))) ∧ w'.cell? a = some (.string s) ∧ Below w.heap.size w w'
/-- Some error that is not nil. -/
def SomeErr (w : World) (e : Ending) (w' : World) : Prop := ∃ t v, e = .returned (.iface t v) ∧ Below w.heap.size w w'

theorem errorf_A (F : Interp) (nm : ByteArray) (n : Int) (blk : Nat) (w : World) (hF : F.answers w.tape)
    (hc0 : w.cell? ⟨blk, 0, none⟩ = some (.iface 9 (.string nm))) (hc1 : w.cell? ⟨blk, 1, none⟩ = some (.iface 23 (.int .u64 n))) :
    Calls Tryf.prog 11 #[.string ⟨#[37, 115, 32, 37, 100, 32, 105, 115, 32, 110, 111, 116, 32, 49, 32, 116, 111, 32, 50, 94, 53, 51, 45, 49]⟩, .slice (some ⟨blk, 0, none⟩) 2 2] w (NewErr w) := by
  have hF' := answers_open hF
  go_enter Tryf.func11, Tryf.ntmps11
  go_wp2
  go_ret
  exact ⟨_, _, rfl, by (simp; rfl), ((Below.refl _ _).alloc (Nat.le_refl _) _).drew⟩

theorem errorf_B (F : Interp) (x y : Int) (blk : Nat) (w : World) (hF : F.answers w.tape)
    (hc0 : w.cell? ⟨blk, 0, none⟩ = some (.iface 3 (.int .i64 x))) (hc1 : w.cell? ⟨blk, 1, none⟩ = some (.iface 3 (.int .i64 y))) :
    Calls Tryf.prog 11 #[.string ⟨#[107, 101, 121, 32, 111, 102, 32, 37, 100, 32, 98, 121, 116, 101, 115, 32, 105, 115, 32, 108, 111, 110, 103, 101, 114, 32, 116, 104, 97, 110, 32, 37, 100]⟩, .slice (some ⟨blk, 0, none⟩) 2 2] w (NewErr w) := by
  have hF' := answers_open hF
  go_enter Tryf.func11, Tryf.ntmps11
  go_wp2
  go_ret
  exact ⟨_, _, rfl, by (simp; rfl), ((Below.refl _ _).alloc (Nat.le_refl _) _).drew⟩

theorem errorf_C (F : Interp) (a : Addr) (s : ByteArray) (blk : Nat) (w : World) (hF : F.answers w.tape)
    (hc0 : w.cell? ⟨blk, 0, none⟩ = some (.iface 50 (.pointer (some a)))) (hs : w.cell? a = some (.string s)) :
    Calls Tryf.prog 11 #[.string ⟨#[112, 114, 105, 109, 97, 114, 121, 58, 32, 37, 119]⟩, .slice (some ⟨blk, 0, none⟩) 1 1] w (SomeErr w) := by
  have hF' := answers_open hF
  have hop := fun name => opPlain50 name a s w hs
  go_enter Tryf.func11, Tryf.ntmps11
  go_wp2
  go_ret
  exact ⟨_, _, rfl, ((Below.refl _ _).alloc (Nat.le_refl _) _).drew⟩
end Go.Proofs.Qxb6615047aFmt
