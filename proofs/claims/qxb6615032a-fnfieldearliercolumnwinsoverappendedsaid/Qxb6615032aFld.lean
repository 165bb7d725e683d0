/-
  '(row).field' and ZZfield where the name is there and its place is in the row.
-/
import Derived.Test.Qxb6615032aFi
namespace Go.Proofs.Qxb6615032a
open Go.ChangeShapes Go.WideShapes Go.ChangeAt Go.RowKit

set_option maxRecDepth 100000 in
theorem field_at (w : World) (file : ByteArray) (line : Int) (pb : Nat) (an : Option Addr) (n cn : Nat) (aa : Option Addr) (na ca : Nat) (af : Option Addr) (nf cf : Nat) (V : Nat → ByteArray) (At : Nat → Int) (A : Nat → Option Addr) (L C : Nat → Nat) (X : Nat → Nat → Int) (s : ByteArray) (k p : Nat)
    (hk : k < n) (hka : k < na) (hf : FirstAt V s k) (hp : At k = (p : Int)) (hpf : p < nf) (hn : n ≤ 1048576) (hna : na ≤ 1048576) (hnf : nf ≤ 1048576)
    (c0 : w.cell? ⟨pb, 0, none⟩ = some (.slice an n cn)) (c1 : w.cell? ⟨pb, 1, none⟩ = some (.slice aa na ca)) (rn : Row w an n cn (fun i => .string (V i))) (ra : Row w aa na ca (fun i => .int .i64 (At i)))
    (rf : Row w af nf cf (fun i => .slice (A i) (L i) (C i))) (rx : ∀ i, i < nf → Row w (A i) (L i) (C i) (fun j => .int .u8 (X i j))) :
    Calls Try.prog 27 #[.agg #[.string file, .int .i64 line, .pointer (some ⟨pb, 0, none⟩), .slice af nf cf], .string s] w fun e w' => e = .returned (.string (strOfNums ((List.range (L p)).map (X p)))) ∧ Below w.heap.size w w' := by
  generalize hT : strOfNums ((List.range (L p)).map (X p)) = T
  have HT : Hid (strOfNums ((List.range (L p)).map (X p)) = T) := hT
  clear hT
  obtain ⟨bf, of, rfl⟩ := rf.some (by omega)
  have hpb : pb < w.heap.size := World.block_lt_of_cell? w _ c0
  have d1 := rf.at p hpf
  have hbf : bf < w.heap.size := World.block_lt_of_cell? w _ d1
  have HR : Hid (Row w (A p) (L p) (C p) (fun j => .int .u8 (X p j))) := rx p hpf
  have HF : Hid (FirstAt V s k) := hf
  have HP : Hid (At k = (p : Int)) := hp
  have hp0 : (0 : Int) ≤ (p : Int) := by omega
  have hp1 : (p : Int) < (nf : Int) := by omega
  clear rx hf hp
  go_enter Try.func27, Try.ntmps27
  go_wp2_with fail
  generalize hW1 : w.alloc (Obj.cells #[Value.string file, Value.int IntKind.i64 line, Value.pointer (some ⟨pb, 0, none⟩), Value.slice (some ⟨bf, of, none⟩) nf cf] 52) = W1
  have hb1 : Below w.heap.size w W1 := by rw [← hW1]; exact Below.alloc (Below.refl _ _) (Nat.le_refl _) _
  have e3 : W1.cell? ⟨w.heap.size, 3, none⟩ = some (.slice (some ⟨bf, of, none⟩) nf cf) := by rw [← hW1]; simp
  have e2 : W1.cell? ⟨w.heap.size, 2, none⟩ = some (.pointer (some ⟨pb, 0, none⟩)) := by rw [← hW1]; simp
  have e1 := (rf.below (Nat.le_refl _) hb1).at p hpf
  have p0 : W1.cell? ⟨pb, 0, none⟩ = some (.slice an n cn) := (hb1.cell (by exact hpb)).trans c0
  have p1 : W1.cell? ⟨pb, 1, none⟩ = some (.slice aa na ca) := (hb1.cell (by exact hpb)).trans c1
  have rn1 := rn.below (Nat.le_refl _) hb1
  have ra1 := ra.below (Nat.le_refl _) hb1
  have hcv : ∀ nq, (convert 29 9 (.slice (A p) (L p) (C p))).run Try.prog (W1.drewN nq) = .ok (.string T) (W1.drewN nq) := fun nq => by
    rw [← HT.out]
    exact conv_row (P := Try.prog) (w := W1.drewN nq) (src := 29) (dst := 9) (e := 5) Try.underlying29 Try.underlying5 Try.underlying9 ((HR.out.below (Nat.le_refl _) hb1).drewN nq)
  have hpl : ∀ nq, Calls Try.prog 30 #[.pointer (some ⟨pb, 0, none⟩), .string s] (W1.drewN nq) fun e w' => e = .returned (.int .i64 (p : Int)) ∧ w' = W1.drewN nq := fun nq => by
    rw [← HP.out]
    exact place_at (W1.drewN nq) pb an n cn aa na ca V At s k hk hka HF.out hn hna p0 p1 (rn1.drewN nq) (ra1.drewN nq)
  have HPL := hpl
  clear hW1 rf c0 c1 rn ra d1 rn1 ra1 p0 p1 hpl
  have HQ : Hid (∀ nq, Calls Try.prog 30 #[.pointer (some ⟨pb, 0, none⟩), .string s] (W1.drewN nq) fun e w' => e = .returned (.int .i64 (p : Int)) ∧ w' = W1.drewN nq) := HPL
  clear HPL
  go_quiet ((go_at_call 30; exact Calls.quiet_of_same (HQ.out _)))
  go_wp2
  go_ret
  exact ⟨rfl, below_drewN hb1 _⟩

set_option maxRecDepth 100000 in
theorem zzfield_at (w : World) (file : ByteArray) (line : Int) (an : Option Addr) (n cn : Nat) (aa : Option Addr) (na ca : Nat) (member : Int) (af : Option Addr) (nf cf : Nat) (V : Nat → ByteArray) (At : Nat → Int) (A : Nat → Option Addr) (L C : Nat → Nat) (X : Nat → Nat → Int) (s : ByteArray) (k p : Nat)
    (hk : k < n) (hka : k < na) (hf : FirstAt V s k) (hp : At k = (p : Int)) (hpf : p < nf) (hn : n ≤ 1048576) (hna : na ≤ 1048576) (hnf : nf ≤ 1048576)
    (rn : Row w an n cn (fun i => .string (V i))) (ra : Row w aa na ca (fun i => .int .i64 (At i)))
    (rf : Row w af nf cf (fun i => .slice (A i) (L i) (C i))) (rx : ∀ i, i < nf → Row w (A i) (L i) (C i) (fun j => .int .u8 (X i j))) :
    Calls Try.prog 11 #[.string file, .int .i64 line, .slice an n cn, .slice aa na ca, .int .i64 member, .slice af nf cf, .string s] w fun e w' => e = .returned (.string (strOfNums ((List.range (L p)).map (X p)))) ∧ Below w.heap.size w w' := by
  have HX : Hid (∀ i, i < nf → Row w (A i) (L i) (C i) (fun j => .int .u8 (X i j))) := rx
  have HP : Hid (FirstAt V s k ∧ At k = (p : Int)) := ⟨hf, hp⟩
  clear rx hf hp
  go_enter Try.func11, Try.ntmps11
  go_wp2_with fail
  refine (field_at _ file line w.heap.size an n cn aa na ca af nf cf V At A L C X s k p hk hka HP.out.1 HP.out.2 hpf hn hna hnf ?_ ?_ ?_ ?_ ?_ ?_).mono ?_
  · simp
  · simp
  · exact rn.below (Nat.le_refl _) (Below.alloc (Below.refl _ _) (Nat.le_refl _) _)
  · exact ra.below (Nat.le_refl _) (Below.alloc (Below.refl _ _) (Nat.le_refl _) _)
  · exact rf.below (Nat.le_refl _) (Below.alloc (Below.refl _ _) (Nat.le_refl _) _)
  · exact fun i hi => (HX.out i hi).below (Nat.le_refl _) (Below.alloc (Below.refl _ _) (Nat.le_refl _) _)
  rintro e w1 ⟨rfl, hb1⟩
  have hb2 : Below w.heap.size w w1 := (Below.alloc (Below.refl _ _) (Nat.le_refl _) _).trans (hb1.mono (by simp))
  clear hb1
  go_wp2_with fail
  go_ret
  exact ⟨rfl, hb2⟩
end Go.Proofs.Qxb6615032a
