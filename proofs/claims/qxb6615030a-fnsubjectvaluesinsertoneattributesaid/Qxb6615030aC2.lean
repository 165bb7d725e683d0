/-
  The second law: its three copies and its first call.
-/
import Derived.Test.Qxb6615030aM2
import Derived.Test.Qxb6615030aSz
import Derived.Test.Qxb6615030aPlain2
namespace Go.Proofs.Qxb6615030a
open Go.ChangeShapes Go.WideShapes Go.ChangeAt Go.RowKit

theorem Try.size9 : (Try.prog.info? 9).map (·.size) = some 1 := by kernel_rfl
theorem Try.size4 : (Try.prog.info? 4).map (·.size) = some 1 := by kernel_rfl
theorem Try.size3 : (Try.prog.info? 3).map (·.size) = some 1 := by kernel_rfl

set_option maxRecDepth 100000 in
set_option maxHeartbeats 4000000 in
theorem cop2 (w : World) (a : Option Addr) (nt ca : Nat) (av : Option Addr) (cv : Nat) (ab : Option Addr) (cb : Nat) (ao : Option Addr) (no co : Nat) (q : Nat) (val : ByteArray) (vb : Bool) (A : Nat → Option Addr) (L C : Nat → Nat) (Z : Nat → Nat → Int) (V : Nat → ByteArray) (B : Nat → Bool) (y : Nat → Int)
    (h1 : nt ≤ 1048576) (h4 : no ≤ 1048576) (hL : ∀ i, i < nt → L i ≤ 1048576) (h6 : nt ≤ 4096) (hq : q ≤ nt)
    (rt : Row w a nt ca (fun i => .slice (A i) (L i) (C i))) (rv : Row w av nt cv (fun i => .string (V i))) (rs : Row w ab nt cb (fun i => .bool (B i))) (ro : Row w ao no co (fun i => .int .i64 (y i)))
    (hrow : ∀ i, i < nt → Row w (A i) (L i) (C i) (fun j => .int .i64 (Z i j)))
    (u7 u8 u9 u10 u11 u12 u13 u14 u15 u16 u17 u18 u19 u20 u21 u22 u23 u24 u25 u26 u27 u28 u29 u30 u31 u32 u33 u34 u35 u36 u37 u38 u39 u40 u41 u42 u43 u44 u45 u46 u47 u48 u49 u50 u51 u52 u53 u54 u55 u56 u57 u58 u59 u60 u61 u62 u63 u64 u65 u66 u67 u68 u69 u70 u71 u72 u73 u74 u75 u76 u77 u78 u79 u80 u81 u82 u83 u84 u85 u86 u87 u88 u89 u90 u91 u92 u93 u94 u95 u96 u97 u98 u99 u100 u101 u102 u103 u104 u105 u106 u107 u108 u109 u110 u111 u112 u113 u114 u115 u116 u117 u118 u119 u120 u121 u122 u123 u124 u125 u126 u127 u128 u129 u130 u131 u132 u133 u134 u135 u136 u137 u138 u139 u140 u141 u142 u143 u144 u145 u146 u147 u148 u149 u150 u151 u152 u153 u154 u155 u156 u157 u158 u159 u160 u161 u162 u163 u164 u165 u166 u167 u168 u169 u170 u171 u172 u173 u174 u175 u176 u177 u178 u179 u180 u181 u182 u183 u184 u185 u186 u187 u188 u189 u190 u191 u192 u193 u194 u195 u196 u197 u198 u199 u200 u201 u202 u203 u204 u205 u206 u207 u208 u209 u210 u211 u212 u213 u214 u215 u216 u217 u218 u219 u220 u221 u222 u223 u224 u225 u226 u227 u228 u229 u230 u231 u232 u233 u234 u235 u236 u237 u238 u239 u240 u241 u242 u243 u244 u245 u246 u247 u248 u249 u250 u251 u252 u253 : Value) :
    Code.wp Try.prog (dropS 5 (Try.f6.body.getD .skip)) (bodyPost Try.prog Try.f6 fun e w' => e = .returned (.bool true) ∧ Below w.heap.size w w') ⟨#[.slice a nt ca, .slice av nt cv, .slice ab nt cb, .slice ao no co, .int .i64 q, .string val, .bool vb, u7, u8, u9, u10, u11, u12, u13, u14, u15, u16, u17, u18, u19, u20, u21, u22, u23, u24, u25, u26, u27, u28, u29, u30, u31, u32, u33, u34, u35, u36, u37, u38, u39, u40, u41, u42, u43, u44, u45, u46, u47, u48, u49, u50, u51, u52, u53, u54, u55, u56, u57, u58, u59, u60, u61, u62, u63, u64, u65, u66, u67, u68, u69, u70, u71, u72, u73, u74, u75, u76, u77, u78, u79, u80, u81, u82, u83, u84, u85, u86, u87, u88, u89, u90, u91, u92, u93, u94, u95, u96, u97, u98, u99, u100, u101, u102, u103, u104, u105, u106, u107, u108, u109, u110, u111, u112, u113, u114, u115, u116, u117, u118, u119, u120, u121, u122, u123, u124, u125, u126, u127, u128, u129, u130, u131, u132, u133, u134, u135, u136, u137, u138, u139, u140, u141, u142, u143, u144, u145, u146, u147, u148, u149, u150, u151, u152, u153, u154, u155, u156, u157, u158, u159, u160, u161, u162, u163, u164, u165, u166, u167, u168, u169, u170, u171, u172, u173, u174, u175, u176, u177, u178, u179, u180, u181, u182, u183, u184, u185, u186, u187, u188, u189, u190, u191, u192, u193, u194, u195, u196, u197, u198, u199, u200, u201, u202, u203, u204, u205, u206, u207, u208, u209, u210, u211, u212, u213, u214, u215, u216, u217, u218, u219, u220, u221, u222, u223, u224, u225, u226, u227, u228, u229, u230, u231, u232, u233, u234, u235, u236, u237, u238, u239, u240, u241, u242, u243, u244, u245, u246, u247, u248, u249, u250, u251, u252, u253], []⟩ w := by
  conv => arg 2; whnf
  have hn28 := fun wx => run_neq_slice_nil_any (P := Try.prog) wx 28 9 av nt cv 0 0 Try.underlying28
  have hmk28 := run_make_row' (P := Try.prog) 28 9 (.string ByteArray.empty) 16 Try.underlying28 Try.info9 rfl .i64 .i64 nt (by omega) (by omega)
  go_upto_if 72 with fail
  go_cut [1] from 71 to 79 (fun s wd => ∃ av' cv', s = .slice av' nt cv' ∧ Row wd av' nt cv' (fun i => .string (V i)) ∧ Below w.heap.size w wd)
  case first =>
    cases av with
    | none =>
      go_wp2_with fail
      go_meet
      case rel => exact ⟨none, cv, rfl, rv, Below.refl _ _⟩
    | some ad =>
      go_wp2_with (first | (refine wpList_copy_row rfl (.tmp 76) (.tmp 77) 28 28 rfl 9 Try.underlying28 Try.size9 w.heap.size nt cv nt (some ad) rfl rfl 9 _ (World.rowIs_made _ _ _ _) (fun i => .string (V i)) ?_ (Nat.le_refl _) ?_ w.heap.size w ?_ (Nat.le_refl _) ?_))
      · exact rv.below (Nat.le_refl _) (Below.alloc (Below.refl _ _) (Nat.le_refl _) _)
      · exact fun _ _ => rfl
      · exact Below.alloc (Below.refl _ _) (Nat.le_refl _) _
      · intro wy hr1 hb1
        go_wp2_with fail
        go_meet
        case rel => exact ⟨_, _, rfl, hr1, hb1⟩
  clear hn28 hmk28
  obtain ⟨av1, cv1, rfl, rv1, hb1⟩ := hcut
  obtain ⟨w1, hw1⟩ : ∃ x, x = wc := ⟨_, rfl⟩
  subst hw1
  have rs1 := rs.below (Nat.le_refl _) hb1
  have rt1 := rt.below (Nat.le_refl _) hb1
  have ro1 := ro.below (Nat.le_refl _) hb1
  have hrow1 := fun i hi => (hrow i hi).below (Nat.le_refl _) hb1
  clear rs rt ro hrow rv
  have hn29 := fun wx => run_neq_slice_nil_any (P := Try.prog) wx 29 4 ab nt cb 0 0 Try.underlying29
  have hmk29 := run_make_row' (P := Try.prog) 29 4 (.bool false) 1 Try.underlying29 Try.info4 rfl .i64 .i64 nt (by omega) (by omega)
  go_upto_if 81 with fail
  go_cut [2] from 80 to 88 (fun s wd => ∃ av' cv', s = .slice av' nt cv' ∧ Row wd av' nt cv' (fun i => .bool (B i)) ∧ Below w1.heap.size w1 wd)
  case first =>
    cases ab with
    | none =>
      go_wp2_with fail
      go_meet
      case rel => exact ⟨none, cb, rfl, rs1, Below.refl _ _⟩
    | some ad =>
      go_wp2_with (first | (refine wpList_copy_row rfl (.tmp 85) (.tmp 86) 29 29 rfl 4 Try.underlying29 Try.size4 w1.heap.size nt cb nt (some ad) rfl rfl 4 _ (World.rowIs_made _ _ _ _) (fun i => .bool (B i)) ?_ (Nat.le_refl _) ?_ w1.heap.size w1 ?_ (Nat.le_refl _) ?_))
      · exact rs1.below (Nat.le_refl _) (Below.alloc (Below.refl _ _) (Nat.le_refl _) _)
      · exact fun _ _ => rfl
      · exact Below.alloc (Below.refl _ _) (Nat.le_refl _) _
      · intro wy hr1 hb1
        go_wp2_with fail
        go_meet
        case rel => exact ⟨_, _, rfl, hr1, hb1⟩
  clear hn29 hmk29
  obtain ⟨ab1, cb1, rfl, rs2, hb2⟩ := hcut
  obtain ⟨w2, hw2⟩ : ∃ x, x = wc := ⟨_, rfl⟩
  subst hw2
  have rv2 := rv1.below (Nat.le_refl _) hb2
  have rt2 := rt1.below (Nat.le_refl _) hb2
  have ro2 := ro1.below (Nat.le_refl _) hb2
  have hrow2 := fun i hi => (hrow1 i hi).below (Nat.le_refl _) hb2
  have hb02 : Below w.heap.size w w2 := hb1.trans (hb2.mono hb1.size)
  clear rs1 rt1 ro1 hrow1 rv1 hb1 hb2
  have hn30 := fun wx => run_neq_slice_nil_any (P := Try.prog) wx 30 3 ao no co 0 0 Try.underlying30
  have hmk30 := run_make_row' (P := Try.prog) 30 3 (.int .i64 0) 8 Try.underlying30 Try.info3 rfl .i64 .i64 no (by omega) (by omega)
  go_upto_if 90 with fail
  go_cut [3] from 89 to 97 (fun s wd => ∃ av' cv', s = .slice av' no cv' ∧ Row wd av' no cv' (fun i => .int .i64 (y i)) ∧ Below w2.heap.size w2 wd)
  case first =>
    cases ao with
    | none =>
      go_wp2_with fail
      go_meet
      case rel => exact ⟨none, co, rfl, ro2, Below.refl _ _⟩
    | some ad =>
      go_wp2_with (first | (refine wpList_copy_row rfl (.tmp 94) (.tmp 95) 30 30 rfl 3 Try.underlying30 Try.size3 w2.heap.size no co no (some ad) rfl rfl 3 _ (World.rowIs_made _ _ _ _) (fun i => .int .i64 (y i)) ?_ (Nat.le_refl _) ?_ w2.heap.size w2 ?_ (Nat.le_refl _) ?_))
      · exact ro2.below (Nat.le_refl _) (Below.alloc (Below.refl _ _) (Nat.le_refl _) _)
      · exact fun _ _ => rfl
      · exact Below.alloc (Below.refl _ _) (Nat.le_refl _) _
      · intro wy hr1 hb1
        go_wp2_with fail
        go_meet
        case rel => exact ⟨_, _, rfl, hr1, hb1⟩
  clear hn30 hmk30
  obtain ⟨ao1, co1, rfl, ro3, hb3⟩ := hcut
  obtain ⟨w3, hw3⟩ : ∃ x, x = wc := ⟨_, rfl⟩
  subst hw3
  have rv3 := rv2.below (Nat.le_refl _) hb3
  have rt3 := rt2.below (Nat.le_refl _) hb3
  have rs3 := rs2.below (Nat.le_refl _) hb3
  have hrow3 := fun i hi => (hrow2 i hi).below (Nat.le_refl _) hb3
  have hb03 : Below w.heap.size w w3 := hb02.trans (hb3.mono hb02.size)
  clear rs2 rt2 ro2 hrow2 rv2 hb02 hb3
  go_upto_region 21 with fail
  go_cut [18] from 98 to 102 (fun s wd => ∃ ax cx, s = .slice ax (svN (fun i => sameB (L i) (Z i) no y) (fun i => strOfB (B i) (V i)) nt).length cx ∧ Row wd ax (svN (fun i => sameB (L i) (Z i) no y) (fun i => strOfB (B i) (V i)) nt).length cx (fun i => .string ((svN (fun i => sameB (L i) (Z i) no y) (fun i => strOfB (B i) (V i)) nt).getD i ByteArray.empty)) ∧ Below w3.heap.size w3 wd)
  case first =>
    go_wp2_with fail
    refine (zz_any _ a nt ca av1 cv1 ab1 cb1 ao1 no co1 y A L C Z V B h1 h4 hL rt3 rv3 rs3 ro3 hrow3).mono ?_
    rintro e w4 ⟨aw, cw, rfl, rw4, hb4⟩
    go_wp2_with fail
    go_meet
    case rel => exact ⟨aw, cw, rfl, rw4, hb4⟩
  case rest =>
  obtain ⟨ax, cx, rfl, rx, hb4⟩ := hcut
  rename_i hK
  have hnW := svN_le (fun i => sameB (L i) (Z i) no y) (fun i => strOfB (B i) (V i)) nt
  have hsp := svN_split (fun i => sameB (L i) (Z i) no y) (fun i => strOfB (B i) (V i)) hq
  have hin := svN_ins L Z V B no y val vb q nt hq
  obtain ⟨p1, p2, p3, p4⟩ := put_in (svN (fun i => sameB (L i) (Z i) no y) (fun i => strOfB (B i) (V i)) q) (svN (fun i => sameB (L (q + i)) (Z (q + i)) no y) (fun i => strOfB (B (q + i)) (V (q + i))) (nt - q)) (strOfB vb val)
  rw [← hsp, ← hin] at p1 p2 p4
  rw [← hin] at p3
  refine hK _ _ (mid2 w wc a nt ca av1 cv1 ab1 cb1 ao1 no co1 q val vb A L C Z V B y (ins q A ao1) (ins q L no) (ins q C co1) (ins q Z y) (ins q V val) (ins q B vb) ax _ cx _ h1 (by omega) h4 hL (by omega) hq
    (rt3.below (Nat.le_refl _) hb4) (rv3.below (Nat.le_refl _) hb4) (rs3.below (Nat.le_refl _) hb4) (ro3.below (Nat.le_refl _) hb4) (fun i hi => (hrow3 i hi).below (Nat.le_refl _) hb4)
    (fun i hi => by simp only [ins_lt hi]; exact ⟨trivial, trivial, trivial⟩) (by simp only [ins_at]; exact ⟨trivial, trivial, trivial⟩) (fun i h _ => by simp only [ins_gt h]; exact ⟨trivial, trivial, trivial⟩)
    ?_ ?_ rx _ rfl p1 (fun i => (svN (fun i => sameB (L i) (Z i) no y) (fun i => strOfB (B i) (V i)) i).length) rfl (fun i hi h => (svN_at _ _ nt i hi h).1) (fun i hi h => congrArg List.length (svN_miss h)) rfl ?_ p2 p3 p4 (hb03.trans (hb4.mono hb03.size)) _ _ _ _ _ _ _ _ _ _ _ _ _ _ _ _ _ _ _ _ _ _ _ _ _ _ _ _ _ _ _ _ _ _ _ _ _ _ _ _ _ _ _ _ _ _ _ _ _ _ _ _ _ _ _ _ _ _ _ _ _ _ _ _ _ _ _ _ _ _ _ _ _ _ _ _ _ _ _ _ _ _ _ _ _ _ _ _ _ _ _ _ _ _ _ _ _ _ _ _ _ _ _ _ _ _ _ _ _ _ _ _ _ _ _ _ _ _ _ _ _ _ _ _ _ _ _ _ _ _ _ _ _ _ _ _ _ _ _ _ _ _ _ _ _ _ _ _ _ _ _ _ _ _ _ _ _ _ _ _ _ _ _ _ _ _ _ _ _ _ _ _ _ _ _ _ _ _ _ _ _ _ _ _ _ _ _ _ _ _ _ _ _ _ _ _ _ _ _ _ _ _ _ _ _ _ _ _ _ _ _ _ _ _ _ _ _ _ _ _ _ _ _ _ _ _ _ _ _ _ _ _ _ _ _ _ _ _ _ _ _ _ _ _ _ _)
  · intro i hi
    by_cases c1 : i < q
    · simp only [ins_lt c1]
      exact (hrow3 i (by omega)).below (Nat.le_refl _) hb4
    · by_cases c2 : i = q
      · subst c2
        simp only [ins_at]
        exact ro3.below (Nat.le_refl _) hb4
      · obtain ⟨j, rfl⟩ : ∃ j, i = j + 1 := ⟨i - 1, by omega⟩
        simp only [ins_gt (show q ≤ j by omega)]
        exact (hrow3 j (by omega)).below (Nat.le_refl _) hb4
  · intro i hi
    by_cases c1 : i < q
    · simp only [ins_lt c1]
      exact hL i (by omega)
    · by_cases c2 : i = q
      · subst c2
        simp only [ins_at]
        exact h4
      · obtain ⟨j, rfl⟩ : ∃ j, i = j + 1 := ⟨i - 1, by omega⟩
        simp only [ins_gt (show q ≤ j by omega)]
        exact hL j (by omega)
  · intro i hi
    rw [svN_split (fun i => sameB (L i) (Z i) no y) (fun i => strOfB (B i) (V i)) hi, List.length_append]
    omega
end Go.Proofs.Qxb6615030a
