/-
  The law: its copies, its reckoning of sizes, its first index.
-/
import Derived.Test.Qxb6615032aM3
import Derived.Test.Qxb6615032aSz
namespace Go.Proofs.Qxb6615032a
open Go.ChangeShapes Go.WideShapes Go.ChangeAt Go.RowKit

theorem Try.size9 : (Try.prog.info? 9).map (·.size) = some 1 := by kernel_rfl
theorem Try.size3 : (Try.prog.info? 3).map (·.size) = some 1 := by kernel_rfl

set_option maxRecDepth 100000 in
set_option maxHeartbeats 2000000 in
theorem cop3 (w : World) (file : ByteArray) (line : Int) (an : Option Addr) (nn cn : Nat) (aa : Option Addr) (na ca : Nat) (member : Int) (af : Option Addr) (nf cf : Nat) (name extra : ByteArray) (xat : Int) (V : Nat → ByteArray) (At : Nat → Int) (A : Nat → Option Addr) (L C : Nat → Nat) (X : Nat → Nat → Int)
    (h1 : nn ≤ 65536) (h2 : na ≤ 65536) (h3 : nf ≤ 65536) (h4 : file.size ≤ 1048576) (h5 : name.size ≤ 1048576) (h6 : extra.size ≤ 1048576) (hV : ∀ i, i < nn → (V i).size ≤ 1048576) (hL : ∀ i, i < nf → L i ≤ 1048576)
    (rn : Row w an nn cn (fun i => .string (V i))) (ra : Row w aa na ca (fun i => .int .i64 (At i)))
    (rf : Row w af nf cf (fun i => .slice (A i) (L i) (C i))) (rx : ∀ i, i < nf → Row w (A i) (L i) (C i) (fun j => .int .u8 (X i j)))
    (u9 u10 u11 u12 u13 u14 u15 u16 u17 u18 u19 u20 u21 u22 u23 u24 u25 u26 u27 u28 u29 u30 u31 u32 u33 u34 u35 u36 u37 u38 u39 u40 u41 u42 u43 u44 u45 u46 u47 u48 u49 u50 u51 u52 u53 u54 u55 u56 u57 u58 u59 u60 u61 u62 u63 u64 u65 u66 u67 u68 u69 u70 u71 u72 u73 u74 u75 u76 u77 u78 u79 u80 u81 u82 u83 u84 u85 u86 u87 u88 u89 u90 u91 u92 u93 u94 u95 u96 u97 u98 u99 u100 u101 u102 u103 u104 u105 u106 u107 u108 u109 u110 u111 u112 u113 u114 u115 u116 u117 u118 u119 u120 u121 u122 u123 u124 u125 u126 u127 u128 u129 u130 u131 u132 u133 u134 u135 u136 u137 u138 u139 u140 u141 u142 u143 u144 u145 u146 u147 u148 u149 u150 u151 u152 u153 u154 u155 u156 u157 u158 u159 u160 u161 u162 u163 u164 u165 u166 u167 u168 u169 u170 u171 u172 u173 u174 u175 u176 u177 u178 u179 u180 u181 u182 u183 u184 u185 u186 u187 u188 u189 u190 u191 u192 u193 u194 u195 u196 u197 u198 u199 u200 u201 u202 u203 u204 u205 u206 u207 u208 u209 u210 u211 u212 u213 u214 u215 u216 u217 u218 u219 u220 u221 u222 u223 u224 u225 u226 u227 u228 u229 u230 u231 : Value) :
    Code.wp Try.prog (dropS 4 (Try.f3.body.getD .skip)) (bodyPost Try.prog Try.f3 fun e w' => e = .returned (.bool true) ∧ Below w.heap.size w w') ⟨#[.string file, .int .i64 line, .slice an nn cn, .slice aa na ca, .int .i64 member, .slice af nf cf, .string name, .string extra, .int .i64 xat, u9, u10, u11, u12, u13, u14, u15, u16, u17, u18, u19, u20, u21, u22, u23, u24, u25, u26, u27, u28, u29, u30, u31, u32, u33, u34, u35, u36, u37, u38, u39, u40, u41, u42, u43, u44, u45, u46, u47, u48, u49, u50, u51, u52, u53, u54, u55, u56, u57, u58, u59, u60, u61, u62, u63, u64, u65, u66, u67, u68, u69, u70, u71, u72, u73, u74, u75, u76, u77, u78, u79, u80, u81, u82, u83, u84, u85, u86, u87, u88, u89, u90, u91, u92, u93, u94, u95, u96, u97, u98, u99, u100, u101, u102, u103, u104, u105, u106, u107, u108, u109, u110, u111, u112, u113, u114, u115, u116, u117, u118, u119, u120, u121, u122, u123, u124, u125, u126, u127, u128, u129, u130, u131, u132, u133, u134, u135, u136, u137, u138, u139, u140, u141, u142, u143, u144, u145, u146, u147, u148, u149, u150, u151, u152, u153, u154, u155, u156, u157, u158, u159, u160, u161, u162, u163, u164, u165, u166, u167, u168, u169, u170, u171, u172, u173, u174, u175, u176, u177, u178, u179, u180, u181, u182, u183, u184, u185, u186, u187, u188, u189, u190, u191, u192, u193, u194, u195, u196, u197, u198, u199, u200, u201, u202, u203, u204, u205, u206, u207, u208, u209, u210, u211, u212, u213, u214, u215, u216, u217, u218, u219, u220, u221, u222, u223, u224, u225, u226, u227, u228, u229, u230, u231], []⟩ w := by
  have HV : Hid (∀ i, i < nn → (V i).size ≤ 1048576) := hV
  have HL : Hid (∀ i, i < nf → L i ≤ 1048576) := hL
  clear hV hL
  conv => arg 2; whnf
  have hn22 := fun wx => run_neq_slice_nil_any (P := Try.prog) wx 22 9 an nn cn 0 0 Try.underlying22
  have hmk22 := run_make_row' (P := Try.prog) 22 9 (.string ByteArray.empty) 16 Try.underlying22 Try.info9 rfl .i64 .i64 nn (by omega) (by omega)
  go_upto_if 68 with fail
  go_cut [2] from 67 to 75 (fun s wd => ∃ av' cv', s = .slice av' nn cv' ∧ Row wd av' nn cv' (fun i => .string (V i)) ∧ Below w.heap.size w wd)
  case first =>
    cases an with
    | none =>
      go_wp2_with fail
      go_meet
      case rel => exact ⟨none, cn, rfl, rn, Below.refl _ _⟩
    | some ad =>
      go_wp2_with (first | (refine wpList_copy_row rfl (.tmp 72) (.tmp 73) 22 22 rfl 9 Try.underlying22 Try.size9 w.heap.size nn cn nn (some ad) rfl rfl 9 _ (World.rowIs_made _ _ _ _) (fun i => .string (V i)) ?_ (Nat.le_refl _) ?_ w.heap.size w ?_ (Nat.le_refl _) ?_))
      · exact rn.below (Nat.le_refl _) (Below.alloc (Below.refl _ _) (Nat.le_refl _) _)
      · exact fun _ _ => rfl
      · exact Below.alloc (Below.refl _ _) (Nat.le_refl _) _
      · intro wy hr1 hb1
        go_wp2_with fail
        go_meet
        case rel => exact ⟨_, _, rfl, hr1, hb1⟩
  clear hn22 hmk22
  obtain ⟨an1, cn1, rfl, rn1, hb1⟩ := hcut
  obtain ⟨w1, hw1⟩ : ∃ x, x = wc := ⟨_, rfl⟩
  subst hw1
  have ra1 := ra.below (Nat.le_refl _) hb1
  have rf1 := rf.below (Nat.le_refl _) hb1
  have rx1 := fun i hi => (rx i hi).below (Nat.le_refl _) hb1
  clear rn ra rf rx
  have hn23 := fun wx => run_neq_slice_nil_any (P := Try.prog) wx 23 3 aa na ca 0 0 Try.underlying23
  have hmk23 := run_make_row' (P := Try.prog) 23 3 (.int .i64 0) 8 Try.underlying23 Try.info3 rfl .i64 .i64 na (by omega) (by omega)
  go_upto_if 77 with fail
  go_cut [3] from 76 to 84 (fun s wd => ∃ av' cv', s = .slice av' na cv' ∧ Row wd av' na cv' (fun i => .int .i64 (At i)) ∧ Below w1.heap.size w1 wd)
  case first =>
    cases aa with
    | none =>
      go_wp2_with fail
      go_meet
      case rel => exact ⟨none, ca, rfl, ra1, Below.refl _ _⟩
    | some ad =>
      go_wp2_with (first | (refine wpList_copy_row rfl (.tmp 81) (.tmp 82) 23 23 rfl 3 Try.underlying23 Try.size3 w1.heap.size na ca na (some ad) rfl rfl 3 _ (World.rowIs_made _ _ _ _) (fun i => .int .i64 (At i)) ?_ (Nat.le_refl _) ?_ w1.heap.size w1 ?_ (Nat.le_refl _) ?_))
      · exact ra1.below (Nat.le_refl _) (Below.alloc (Below.refl _ _) (Nat.le_refl _) _)
      · exact fun _ _ => rfl
      · exact Below.alloc (Below.refl _ _) (Nat.le_refl _) _
      · intro wy hr1 hb1
        go_wp2_with fail
        go_meet
        case rel => exact ⟨_, _, rfl, hr1, hb1⟩
  clear hn23 hmk23
  obtain ⟨aa1, ca1, rfl, ra2, hb2⟩ := hcut
  obtain ⟨w2, hw2⟩ : ∃ x, x = wc := ⟨_, rfl⟩
  subst hw2
  have rn2 := rn1.below (Nat.le_refl _) hb2
  have rf2 := rf1.below (Nat.le_refl _) hb2
  have HX : Hid (∀ i, i < nf → Row w2 (A i) (L i) (C i) (fun j => .int .u8 (X i j))) := fun i hi => (rx1 i hi).below (Nat.le_refl _) hb2
  have hb02 : Below w.heap.size w w2 := hb1.trans (hb2.mono hb1.size)
  clear rn1 ra1 rf1 rx1 hb1 hb2
  by_cases t1 : file.size + name.size ≤ 1048576
  rotate_left
  · go_wp2_with fail
    go_ret
    exact ⟨rfl, hb02⟩
  by_cases t2 : file.size + name.size + extra.size ≤ 1048576
  rotate_left
  · go_wp2_with fail
    go_ret
    exact ⟨rfl, hb02⟩
  by_cases t3 : file.size + name.size + extra.size + 8 * na ≤ 1048576
  rotate_left
  · go_wp2_with fail
    go_ret
    exact ⟨rfl, hb02⟩
  go_wp2_with fail
  refine (add_names _ _ an1 nn cn1 V (by omega) (by omega) (by omega) HV.out rn2).mono ?_
  rintro e w3 ⟨r, rfl, r0, rfl⟩
  by_cases t4 : r ≤ 1048576
  rotate_left
  · go_wp2_with fail
    go_ret
    exact ⟨rfl, hb02⟩
  go_wp2_with fail
  refine (add_fields _ r af nf cf A L C (by omega) (by omega) (by omega) HL.out rf2).mono ?_
  rintro e w3 ⟨q, rfl, q0, rfl⟩
  by_cases t5 : q ≤ 1048576
  rotate_left
  · go_wp2_with fail
    go_ret
    exact ⟨rfl, hb02⟩
  by_cases t6 : nn = na
  rotate_left
  · have hI : ((na : Int) != (nn : Int)) = true := by rw [bne_iff_ne]; omega
    go_wp2_with fail
    go_ret
    exact ⟨rfl, hb02⟩
  subst t6
  go_wp2_with fail
  refine (first_index _ an1 nn cn1 V name (by omega) rn2).mono ?_
  rintro e w3 ⟨rfl, ⟨k, hk, hfa, rfl⟩ | ⟨_, rfl⟩⟩
  rotate_left
  · go_wp2_with fail
    go_ret
    exact ⟨rfl, hb02⟩
  have HF : Hid (FirstAt V name k) := hfa
  clear hfa
  obtain ⟨ba, oa, rfl⟩ := ra2.some (by omega)
  have d1 := ra2.at k hk
  obtain ⟨p, hp⟩ : ∃ p, At k = p := ⟨_, rfl⟩
  have HP : Hid (At k = p) := hp
  rw [hp] at d1
  clear hp
  by_cases t7 : p < 0
  · have hd : decide (p < 0) = true := decide_eq_true t7
    go_wp2_with fail
    go_ret
    exact ⟨rfl, hb02⟩
  have hd7 : decide (p < 0) = false := decide_eq_false t7
  by_cases t8 : (nf : Int) ≤ p
  · have hd : decide ((nf : Int) ≤ p) = true := decide_eq_true t8
    go_wp2_with fail
    go_ret
    exact ⟨rfl, hb02⟩
  have hd8 : decide ((nf : Int) ≤ p) = false := decide_eq_false t8
  go_upto_if 136 with fail
  go_cut [] from 136 to 136 (fun wd => wd = w2)
  case first =>
    go_wp2_with fail
    go_meet
    case rel => rfl
  case rest =>
  subst hcut
  rename_i hK
  obtain ⟨p', rfl⟩ : ∃ p' : Nat, p = (p' : Int) := ⟨p.toNat, by omega⟩
  exact hK _ _ (mid3 w wc file line an1 nn cn1 (some ⟨ba, oa, none⟩) ca1 member af nf cf name extra xat V At A L C X k p' hk HF.out HP.out (by omega) (by omega) (by omega) rn2 ra2 rf2 HX.out hb02 _ _ _ _ _ _ _ _ _ _ _ _ _ _ _ _ _ _ _ _ _ _ _ _ _ _ _ _ _ _ _ _ _ _ _ _ _ _ _ _ _ _ _ _ _ _ _ _ _ _ _ _ _ _ _ _ _ _ _ _ _ _ _ _ _ _ _ _ _ _ _ _ _ _ _ _ _ _ _ _ _ _ _ _ _ _ _ _ _ _ _ _ _ _ _ _ _ _ _ _ _ _ _ _ _ _ _ _ _ _ _ _ _ _ _ _ _ _ _ _ _ _ _ _ _ _ _ _ _ _ _ _ _ _ _ _ _ _ _ _ _ _ _ _ _ _ _ _ _ _ _ _ _ _ _ _ _ _ _ _ _ _ _ _ _ _ _ _ _ _ _ _ _ _ _ _ _ _ _ _ _ _ _ _ _ _ _ _ _ _ _ _ _ _ _ _ _ _ _ _ _ _ _ _ _ _ _ _ _ _ _ _ _ _ _ _ _ _ _ _ _ _)

set_option maxRecDepth 100000 in
theorem law3 (w : World) (file : ByteArray) (line : Int) (an : Option Addr) (nn cn : Nat) (aa : Option Addr) (na ca : Nat) (member : Int) (af : Option Addr) (nf cf : Nat) (name extra : ByteArray) (xat : Int) (V : Nat → ByteArray) (At : Nat → Int) (A : Nat → Option Addr) (L C : Nat → Nat) (X : Nat → Nat → Int)
    (hf : file.size ≤ maxLen) (hn : name.size ≤ maxLen) (he : extra.size ≤ maxLen)
    (rn : Row w an nn cn (fun i => .string (V i))) (ra : Row w aa na ca (fun i => .int .i64 (At i)))
    (rf : Row w af nf cf (fun i => .slice (A i) (L i) (C i))) (rx : ∀ i, i < nf → Row w (A i) (L i) (C i) (fun j => .int .u8 (X i j))) :
    Calls Try.prog 3 #[.string file, .int .i64 line, .slice an nn cn, .slice aa na ca, .int .i64 member, .slice af nf cf, .string name, .string extra, .int .i64 xat] w fun e w' => e = .returned (.bool true) ∧ Below w.heap.size w w' := by
  have HX : Hid (∀ i, i < nf → Row w (A i) (L i) (C i) (fun j => .int .u8 (X i j))) := rx
  clear rx
  go_enter Try.func3, Try.ntmps3
  go_wp2_with fail
  refine (bytes_any _ file line an nn cn aa na ca member af nf cf name extra xat V A L C hf hn he rn rf).mono ?_
  rintro e w' ⟨r, rfl, hr, rfl⟩
  cases r
  · go_wp2_with fail
    go_ret
    exact ⟨rfl, Below.refl _ _⟩
  obtain ⟨s1, s2, s3, s4, s5, s6, hV, hL⟩ := hr rfl
  have HV : Hid (∀ i, i < nn → (V i).size ≤ 1048576) := hV
  have HL : Hid (∀ i, i < nf → L i ≤ 1048576) := hL
  clear hr hV hL hf hn he
  have g4 : decide ((1048576 : Int) < (file.size : Int)) = false := decide_eq_false (by omega)
  have g5 : decide ((1048576 : Int) < (name.size : Int)) = false := decide_eq_false (by omega)
  have g6 : decide ((1048576 : Int) < (extra.size : Int)) = false := decide_eq_false (by omega)
  by_cases t1 : (65536 : Int) < (nn : Int)
  · have g1 : decide ((65536 : Int) < (nn : Int)) = true := decide_eq_true t1
    go_wp2_with fail
    go_ret
    exact ⟨rfl, Below.refl _ _⟩
  have g1 : decide ((65536 : Int) < (nn : Int)) = false := decide_eq_false t1
  by_cases t2 : (65536 : Int) < (na : Int)
  · have g2 : decide ((65536 : Int) < (na : Int)) = true := decide_eq_true t2
    go_wp2_with fail
    go_ret
    exact ⟨rfl, Below.refl _ _⟩
  have g2 : decide ((65536 : Int) < (na : Int)) = false := decide_eq_false t2
  by_cases t3 : (65536 : Int) < (nf : Int)
  · have g3 : decide ((65536 : Int) < (nf : Int)) = true := decide_eq_true t3
    go_wp2_with fail
    go_ret
    exact ⟨rfl, Below.refl _ _⟩
  have g3 : decide ((65536 : Int) < (nf : Int)) = false := decide_eq_false t3
  go_upto_if 66 with fail
  go_cut [] from 66 to 66 (fun wd => wd = w)
  case first =>
    go_wp2_with fail
    go_meet
    case rel => rfl
  case rest =>
  subst hcut
  rename_i hK
  exact hK _ _ (cop3 wc file line an nn cn aa na ca member af nf cf name extra xat V At A L C X (by omega) (by omega) (by omega) s4 s5 s6 HV.out HL.out rn ra rf HX.out _ _ _ _ _ _ _ _ _ _ _ _ _ _ _ _ _ _ _ _ _ _ _ _ _ _ _ _ _ _ _ _ _ _ _ _ _ _ _ _ _ _ _ _ _ _ _ _ _ _ _ _ _ _ _ _ _ _ _ _ _ _ _ _ _ _ _ _ _ _ _ _ _ _ _ _ _ _ _ _ _ _ _ _ _ _ _ _ _ _ _ _ _ _ _ _ _ _ _ _ _ _ _ _ _ _ _ _ _ _ _ _ _ _ _ _ _ _ _ _ _ _ _ _ _ _ _ _ _ _ _ _ _ _ _ _ _ _ _ _ _ _ _ _ _ _ _ _ _ _ _ _ _ _ _ _ _ _ _ _ _ _ _ _ _ _ _ _ _ _ _ _ _ _ _ _ _ _ _ _ _ _ _ _ _ _ _ _ _ _ _ _ _ _ _ _ _ _ _ _ _ _ _ _ _ _ _ _ _ _ _ _ _ _ _ _ _ _ _ _ _ _ _)
end Go.Proofs.Qxb6615032a
