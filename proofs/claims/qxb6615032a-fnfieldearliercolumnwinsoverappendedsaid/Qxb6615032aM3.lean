/-
  The law: the two slices with one column appended, made and filled.
-/
import Derived.Test.Qxb6615032aT3
namespace Go.Proofs.Qxb6615032a
open Go.ChangeShapes Go.WideShapes Go.ChangeAt Go.RowKit

theorem Try.info9 : (Try.prog.info? 9).map (fun i => (i.zero, i.size, i.bytes)) = some (some (.string ByteArray.empty), 1, 16) := by kernel_rfl
theorem Try.info3 : (Try.prog.info? 3).map (fun i => (i.zero, i.size, i.bytes)) = some (some (.int .i64 0), 1, 8) := by kernel_rfl

/-- The first k cells are filled. -/
def Filled (k : Nat) (f g : Nat → Value) : Prop := ∀ j, j < k → f j = g j
theorem Filled.step {k : Nat} {f g : Nat → Value} (h : Filled k f g) {v : Value} (hv : v = g k) : Filled (k + 1) (fun j => if j = k then v else f j) g := by
  intro j hj
  dsimp only
  by_cases e : j = k
  · rw [if_pos e, e, hv]
  · rw [if_neg e]
    exact h j (by omega)

/-- f below n, x from n on. -/
def snoc {α : Type} (n : Nat) (f : Nat → α) (x : α) (i : Nat) : α := if i < n then f i else x
theorem snoc_lt {α : Type} {n : Nat} {f : Nat → α} {x : α} {i : Nat} (h : i < n) : snoc n f x i = f i := by simp [snoc, h]
theorem snoc_at {α : Type} {n : Nat} {f : Nat → α} {x : α} : snoc n f x n = x := by simp [snoc]

theorem row_of_is {w : World} {g t n : Nat} {f h : Nat → Value} (r : w.rowIs g t n f) (hf : Filled n f h) : Row w (some ⟨g, 0, none⟩) n n h :=
  ⟨Nat.le_refl _, fun i hi => ⟨g, 0, rfl, by rw [Nat.zero_add, r.cell hi, hf i hi]⟩⟩

set_option maxRecDepth 100000 in
set_option maxHeartbeats 1000000 in
theorem mid3 (w0 w : World) (file : ByteArray) (line : Int) (an : Option Addr) (n cn : Nat) (aa : Option Addr) (ca : Nat) (member : Int) (af : Option Addr) (nf cf : Nat) (name extra : ByteArray) (xat : Int) (V : Nat → ByteArray) (At : Nat → Int) (A : Nat → Option Addr) (L C : Nat → Nat) (X : Nat → Nat → Int)
    (k p : Nat)
    (hk : k < n) (hfa : FirstAt V name k) (hp : At k = (p : Int)) (hpf : p < nf) (hn : n + 1 ≤ 1048576) (hnf : nf ≤ 1048576)
    (rn : Row w an n cn (fun i => .string (V i))) (ra : Row w aa n ca (fun i => .int .i64 (At i)))
    (rf : Row w af nf cf (fun i => .slice (A i) (L i) (C i))) (rx : ∀ i, i < nf → Row w (A i) (L i) (C i) (fun j => .int .u8 (X i j)))
    (hb : Below w0.heap.size w0 w)
    (u9 u10 u11 u12 u13 u14 u15 u16 u17 u18 u19 u20 u21 u22 u24 u25 u26 u27 u28 u29 u30 u31 u32 u33 u34 u35 u36 u37 u38 u39 u40 u41 u42 u43 u44 u45 u46 u47 u48 u49 u50 u51 u52 u53 u54 u55 u56 u57 u58 u59 u60 u61 u62 u63 u64 u65 u66 u67 u68 u69 u70 u71 u72 u73 u74 u75 u76 u77 u78 u79 u80 u81 u82 u83 u84 u85 u86 u87 u88 u89 u90 u91 u92 u93 u94 u95 u96 u97 u98 u99 u100 u101 u102 u103 u104 u105 u106 u107 u108 u109 u110 u111 u112 u113 u114 u115 u116 u117 u118 u119 u120 u121 u122 u123 u124 u125 u126 u127 u128 u129 u130 u131 u132 u133 u134 u135 u136 u137 u138 u139 u140 u141 u142 u143 u144 u145 u146 u147 u148 u149 u150 u151 u152 u153 u154 u155 u156 u157 u158 u159 u160 u161 u162 u163 u164 u165 u166 u167 u168 u169 u170 u171 u172 u173 u174 u175 u176 u177 u178 u179 u180 u181 u182 u183 u184 u185 u186 u187 u188 u189 u190 u191 u192 u193 u194 u195 u196 u197 u198 u199 u200 u201 u202 u203 u204 u205 u206 u207 u208 u209 u210 u211 u212 u213 u214 u215 u216 u217 u218 u219 u220 u221 u222 u223 u224 u225 u226 u227 u228 u229 u230 u231 : Value) :
    Code.wp Try.prog (dropS 21 (Try.f3.body.getD .skip)) (bodyPost Try.prog Try.f3 fun e w' => e = .returned (.bool true) ∧ Below w0.heap.size w0 w') ⟨#[.string file, .int .i64 line, .slice an n cn, .slice aa n ca, .int .i64 member, .slice af nf cf, .string name, .string extra, .int .i64 xat, u9, u10, u11, u12, u13, u14, u15, u16, u17, u18, u19, u20, u21, u22, .int .i64 p, u24, u25, u26, u27, u28, u29, u30, u31, u32, u33, u34, u35, u36, u37, u38, u39, u40, u41, u42, u43, u44, u45, u46, u47, u48, u49, u50, u51, u52, u53, u54, u55, u56, u57, u58, u59, u60, u61, u62, u63, u64, u65, u66, u67, u68, u69, u70, u71, u72, u73, u74, u75, u76, u77, u78, u79, u80, u81, u82, u83, u84, u85, u86, u87, u88, u89, u90, u91, u92, u93, u94, u95, u96, u97, u98, u99, u100, u101, u102, u103, u104, u105, u106, u107, u108, u109, u110, u111, u112, u113, u114, u115, u116, u117, u118, u119, u120, u121, u122, u123, u124, u125, u126, u127, u128, u129, u130, u131, u132, u133, u134, u135, u136, u137, u138, u139, u140, u141, u142, u143, u144, u145, u146, u147, u148, u149, u150, u151, u152, u153, u154, u155, u156, u157, u158, u159, u160, u161, u162, u163, u164, u165, u166, u167, u168, u169, u170, u171, u172, u173, u174, u175, u176, u177, u178, u179, u180, u181, u182, u183, u184, u185, u186, u187, u188, u189, u190, u191, u192, u193, u194, u195, u196, u197, u198, u199, u200, u201, u202, u203, u204, u205, u206, u207, u208, u209, u210, u211, u212, u213, u214, u215, u216, u217, u218, u219, u220, u221, u222, u223, u224, u225, u226, u227, u228, u229, u230, u231], []⟩ w := by
  have HX : Hid (∀ i, i < nf → Row w (A i) (L i) (C i) (fun j => .int .u8 (X i j))) := rx
  have HP : Hid (FirstAt V name k ∧ At k = (p : Int)) := ⟨hfa, hp⟩
  have hcv := conv_row (P := Try.prog) (w := w) (src := 29) (dst := 9) (e := 5) Try.underlying29 Try.underlying5 Try.underlying9 (rx p hpf)
  clear rx hfa hp
  have e1 : ((n + 1 : Nat) : Int) = (n : Int) + 1 := by omega
  have hm22 := run_make_row' (P := Try.prog) 22 9 (.string ByteArray.empty) 16 Try.underlying22 Try.info9 rfl .i64 .i64 (n + 1) (by omega) (by omega)
  have hm23 := run_make_row' (P := Try.prog) 23 3 (.int .i64 0) 8 Try.underlying23 Try.info3 rfl .i64 .i64 (n + 1) (by omega) (by omega)
  rw [e1] at hm22 hm23
  have hp0 : (0 : Int) ≤ (p : Int) := by omega
  have hp1 : (p : Int) < (nf : Int) := by omega
  obtain ⟨bf, of, rfl⟩ := rf.some (by omega)
  obtain ⟨bn, on, rfl⟩ := rn.some (by omega)
  obtain ⟨ba, oa, rfl⟩ := ra.some (by omega)
  have d1 := rf.at p hpf
  generalize hT : strOfNums ((List.range (L p)).map (X p)) = T at *
  have HT : Hid (strOfNums ((List.range (L p)).map (X p)) = T) := hT
  clear hT e1
  have r1 := World.rowIs_made w (.string ByteArray.empty) (n + 1) 9
  have r2 := World.rowIs_made (w.alloc (.cells (madeCells #[Value.string ByteArray.empty] (n + 1)) 9)) (.int .i64 0) (n + 1) 3
  conv => arg 2; whnf
  go_wp2_with fail
  clear hm22 hm23 hcv d1
  go_loopw [27] (fun i wr => ∃ (m : Nat) (f1 f2 : Nat → Value), m ≤ n ∧ i = .int .i64 m ∧ wr.rowIs w.heap.size 9 (n + 1) f1 ∧ wr.rowIs (w.heap.size + 1) 3 (n + 1) f2 ∧ Filled m f1 (fun j => .string (snoc n V extra j)) ∧ Filled m f2 (fun j => .int .i64 (snoc n At xat j)) ∧ Below w.heap.size w wr) (fun i _ => n - (intOf i).toNat)
  case atStart => exact ⟨0, _, _, Nat.zero_le _, rfl, r1.alloc _, by simpa using r2, (fun j hj => by omega), (fun j hj => by omega), ((Below.refl _ _).alloc (Nat.le_refl _) _).alloc (by simp) _⟩
  case round =>
    obtain ⟨m, f1, f2, hm, rfl, q1, q2, l1, l2, hbel⟩ := hrel
    have HL : Hid (Filled m f1 (fun j => .string (snoc n V extra j)) ∧ Filled m f2 (fun j => .int .i64 (snoc n At xat j))) := ⟨l1, l2⟩
    clear l1 l2
    have z1 := q1.lt
    have z2 := q2.lt
    by_cases hlt : m < n
    · have c1 := (rn.below (Nat.le_refl _) hbel).at m hlt
      have c2 := (ra.below (Nat.le_refl _) hbel).at m hlt
      have n1 : bn < w.heap.size := World.block_lt_of_cell? w _ (rn.at m hlt)
      have n2 : ba < w.heap.size := World.block_lt_of_cell? w _ (ra.at m hlt)
      have k1 := q1.cell (i := m) (by omega)
      have k2 := q2.cell (i := m) (by omega)
      have g1 := q1.frozen m
      have g2 := q2.frozen m
      clear rf r1 r2
      go_wp2_with fail
      go_roundw
      case rel => exact ⟨m + 1, _, _, by omega, by go_num, (q1.set _ _).setOther (by simp) _, (q2.setOther (by simp) _).set _ _, HL.out.1.step (by rw [snoc_lt hlt]), HL.out.2.step (by rw [snoc_lt hlt]), (hbel.setCell (by simp) _).setCell (by simp) _⟩
      case measure => simp [intOf]; omega
    · have hmn : n = m := by omega
      subst hmn
      have k1 := q1.cell (i := n) (by omega)
      have g1 := q1.frozen n
      go_upto_region 47 with fail
      have s1 := q1.set n (.string extra)
      have s2 := q2.setOther (a := ⟨w.heap.size, n, none⟩) (by simp) (.string extra)
      have L1 : Hid (Filled (n + 1) (fun j => if j = n then .string extra else f1 j) (fun j => .string (snoc n V extra j))) := HL.out.1.step (by rw [snoc_at])
      have hb1 := hbel.setCell (p := ⟨w.heap.size, n, none⟩) (Nat.le_refl _) (.string extra)
      have k2 := s2.cell (i := n) (by omega)
      have g2 := s2.frozen n
      go_cut [] from 175 to 179 (fun wd => ∃ f1 f2, wd.rowIs w.heap.size 9 (n + 1) f1 ∧ wd.rowIs (w.heap.size + 1) 3 (n + 1) f2 ∧ Filled (n + 1) f1 (fun j => .string (snoc n V extra j)) ∧ Filled (n + 1) f2 (fun j => .int .i64 (snoc n At xat j)) ∧ Below w.heap.size w wd)
      case first =>
        go_wp2_with fail
        go_meet
        case rel => exact ⟨_, _, s1.setOther (by simp) _, s2.set _ _, L1.out, HL.out.2.step (by rw [snoc_at]), hb1.setCell (by simp) _⟩
      case rest =>
      obtain ⟨h1, h2, t1, t2, l1, l2, hbd⟩ := hcut
      rename_i hK
      rw [← HT.out]
      exact hK _ _ (tail3 w0 wc file line (some ⟨bn, on, none⟩) n cn (some ⟨ba, oa, none⟩) ca member (some ⟨bf, of, none⟩) nf cf name extra xat V At A L C X (some ⟨w.heap.size, 0, none⟩) (some ⟨w.heap.size + 1, 0, none⟩) (n + 1) (n + 1) (snoc n V extra) (snoc n At xat) k p hk HP.out.1 HP.out.2 hpf hn hnf
        (rn.below (Nat.le_refl _) hbd) (ra.below (Nat.le_refl _) hbd) (rf.below (Nat.le_refl _) hbd) (fun i hi => (HX.out i hi).below (Nat.le_refl _) hbd) (row_of_is t1 l1) (row_of_is t2 l2) (fun i hi => snoc_lt hi) (fun i hi => snoc_lt hi) snoc_at snoc_at (hb.trans (hbd.mono hb.size)) _ _ _ _ _ _ _ _ _ _ _ _ _ _ _ _ _ _ _ _ _ _ _ _ _ _ _ _ _ _ _ _ _ _ _ _ _ _ _ _ _ _ _ _ _ _ _ _ _ _ _ _ _ _ _ _ _ _ _ _ _ _ _ _ _ _ _ _ _ _ _ _ _ _ _ _ _ _ _ _ _ _ _ _ _ _ _ _ _ _ _ _ _ _ _ _ _ _ _ _ _ _ _ _ _ _ _ _ _ _ _ _ _ _ _ _ _ _ _ _ _ _ _ _ _ _ _ _ _ _ _ _ _ _ _ _ _ _ _ _ _ _ _ _ _ _ _ _ _ _ _ _ _ _ _ _ _ _ _ _ _ _ _ _ _ _ _ _ _ _ _ _ _ _ _ _ _ _ _ _ _ _ _ _ _ _ _ _ _ _ _ _ _ _ _ _ _ _ _ _ _ _ _ _ _ _ _ _ _ _ _ _ _ _ _ _ _ _ _ _)
end Go.Proofs.Qxb6615032a
