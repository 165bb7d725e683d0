/-
  The law behind its two new slices.
-/
import Derived.Test.Qxb6615032aFld
namespace Go.Proofs.Qxb6615032a
open Go.ChangeShapes Go.WideShapes Go.ChangeAt Go.RowKit

set_option maxRecDepth 100000 in
set_option maxHeartbeats 1000000 in
theorem tail3 (w0 w : World) (file : ByteArray) (line : Int) (an : Option Addr) (n cn : Nat) (aa : Option Addr) (ca : Nat) (member : Int) (af : Option Addr) (nf cf : Nat) (name extra : ByteArray) (xat : Int) (V : Nat → ByteArray) (At : Nat → Int) (A : Nat → Option Addr) (L C : Nat → Nat) (X : Nat → Nat → Int)
    (a2 b2 : Option Addr) (c2 d2 : Nat) (V2 : Nat → ByteArray) (At2 : Nat → Int) (k p : Nat)
    (hk : k < n) (hfa : FirstAt V name k) (hp : At k = (p : Int)) (hpf : p < nf) (hn : n + 1 ≤ 1048576) (hnf : nf ≤ 1048576)
    (rn : Row w an n cn (fun i => .string (V i))) (ra : Row w aa n ca (fun i => .int .i64 (At i)))
    (rf : Row w af nf cf (fun i => .slice (A i) (L i) (C i))) (rx : ∀ i, i < nf → Row w (A i) (L i) (C i) (fun j => .int .u8 (X i j)))
    (rn2 : Row w a2 (n + 1) c2 (fun i => .string (V2 i))) (ra2 : Row w b2 (n + 1) d2 (fun i => .int .i64 (At2 i)))
    (hV2 : ∀ i, i < n → V2 i = V i) (hA2 : ∀ i, i < n → At2 i = At i) (hVn : V2 n = extra) (hAn : At2 n = xat)
    (hb : Below w0.heap.size w0 w)
    (u9 u10 u11 u12 u13 u14 u15 u16 u17 u18 u19 u20 u21 u22 u23 u27 u28 u29 u30 u31 u32 u33 u34 u35 u36 u37 u38 u39 u40 u41 u42 u43 u44 u45 u46 u47 u48 u49 u50 u51 u52 u53 u54 u55 u56 u57 u58 u59 u60 u61 u62 u63 u64 u65 u66 u67 u68 u69 u70 u71 u72 u73 u74 u75 u76 u77 u78 u79 u80 u81 u82 u83 u84 u85 u86 u87 u88 u89 u90 u91 u92 u93 u94 u95 u96 u97 u98 u99 u100 u101 u102 u103 u104 u105 u106 u107 u108 u109 u110 u111 u112 u113 u114 u115 u116 u117 u118 u119 u120 u121 u122 u123 u124 u125 u126 u127 u128 u129 u130 u131 u132 u133 u134 u135 u136 u137 u138 u139 u140 u141 u142 u143 u144 u145 u146 u147 u148 u149 u150 u151 u152 u153 u154 u155 u156 u157 u158 u159 u160 u161 u162 u163 u164 u165 u166 u167 u168 u169 u170 u171 u172 u173 u174 u175 u176 u177 u178 u179 u180 u181 u182 u183 u184 u185 u186 u187 u188 u189 u190 u191 u192 u193 u194 u195 u196 u197 u198 u199 u200 u201 u202 u203 u204 u205 u206 u207 u208 u209 u210 u211 u212 u213 u214 u215 u216 u217 u218 u219 u220 u221 u222 u223 u224 u225 u226 u227 u228 u229 u230 u231 : Value) :
    Code.wp Try.prog (dropS 27 (Try.f3.body.getD .skip)) (bodyPost Try.prog Try.f3 fun e w' => e = .returned (.bool true) ∧ Below w0.heap.size w0 w') ⟨#[.string file, .int .i64 line, .slice an n cn, .slice aa n ca, .int .i64 member, .slice af nf cf, .string name, .string extra, .int .i64 xat, u9, u10, u11, u12, u13, u14, u15, u16, u17, u18, u19, u20, u21, u22, u23, .string (strOfNums ((List.range (L p)).map (X p))), .slice a2 (n + 1) c2, .slice b2 (n + 1) d2, u27, u28, u29, u30, u31, u32, u33, u34, u35, u36, u37, u38, u39, u40, u41, u42, u43, u44, u45, u46, u47, u48, u49, u50, u51, u52, u53, u54, u55, u56, u57, u58, u59, u60, u61, u62, u63, u64, u65, u66, u67, u68, u69, u70, u71, u72, u73, u74, u75, u76, u77, u78, u79, u80, u81, u82, u83, u84, u85, u86, u87, u88, u89, u90, u91, u92, u93, u94, u95, u96, u97, u98, u99, u100, u101, u102, u103, u104, u105, u106, u107, u108, u109, u110, u111, u112, u113, u114, u115, u116, u117, u118, u119, u120, u121, u122, u123, u124, u125, u126, u127, u128, u129, u130, u131, u132, u133, u134, u135, u136, u137, u138, u139, u140, u141, u142, u143, u144, u145, u146, u147, u148, u149, u150, u151, u152, u153, u154, u155, u156, u157, u158, u159, u160, u161, u162, u163, u164, u165, u166, u167, u168, u169, u170, u171, u172, u173, u174, u175, u176, u177, u178, u179, u180, u181, u182, u183, u184, u185, u186, u187, u188, u189, u190, u191, u192, u193, u194, u195, u196, u197, u198, u199, u200, u201, u202, u203, u204, u205, u206, u207, u208, u209, u210, u211, u212, u213, u214, u215, u216, u217, u218, u219, u220, u221, u222, u223, u224, u225, u226, u227, u228, u229, u230, u231], []⟩ w := by
  have HX : Hid (∀ i, i < nf → Row w (A i) (L i) (C i) (fun j => .int .u8 (X i j))) := rx
  have HP : Hid (FirstAt V name k ∧ At k = (p : Int)) := ⟨hfa, hp⟩
  have HQ : Hid (FirstAt V2 name k ∧ At2 k = (p : Int)) := ⟨⟨(hV2 k hk).trans hfa.1, fun j hj => by rw [hV2 j (by omega)]; exact hfa.2 j hj⟩, (hA2 k hk).trans hp⟩
  have HE : Hid ((∀ j, j < n → ¬ V j = extra) → FirstAt V2 extra n) := fun h => ⟨hVn, fun j hj => by rw [hV2 j hj]; exact h j hj⟩
  have HN : Hid (At2 n = xat) := hAn
  clear rx hfa hp hV2 hA2 hVn hAn
  generalize hT : strOfNums ((List.range (L p)).map (X p)) = T
  have HT : Hid (strOfNums ((List.range (L p)).map (X p)) = T) := hT
  clear hT
  conv => arg 2; whnf
  go_wp2_with fail
  refine (zzfield_at _ file line an n cn aa n ca member af nf cf V At A L C X name k p hk hk HP.out.1 HP.out.2 hpf (by omega) (by omega) hnf rn ra rf HX.out).mono ?_
  rw [HT.out]
  rintro e w1 ⟨rfl, hb1⟩
  have hb01 : Below w0.heap.size w0 w1 := hb.trans (hb1.mono hb.size)
  have rn1 := rn.below (Nat.le_refl _) hb1
  have rf1 := rf.below (Nat.le_refl _) hb1
  have rn21 := rn2.below (Nat.le_refl _) hb1
  have ra21 := ra2.below (Nat.le_refl _) hb1
  have HX1 : Hid (∀ i, i < nf → Row w1 (A i) (L i) (C i) (fun j => .int .u8 (X i j))) := fun i hi => (HX.out i hi).below (Nat.le_refl _) hb1
  clear rn ra rf rn2 ra2 HX hb hb1 HP
  go_wp2_with fail
  refine (zzfield_at _ file line a2 (n + 1) c2 b2 (n + 1) d2 member af nf cf V2 At2 A L C X name k p (by omega) (by omega) HQ.out.1 HQ.out.2 hpf hn hn hnf rn21 ra21 rf1 HX1.out).mono ?_
  rw [HT.out]
  rintro e w2 ⟨rfl, hb2⟩
  have hb02 : Below w0.heap.size w0 w2 := hb01.trans (hb2.mono hb01.size)
  have rn2 := rn1.below (Nat.le_refl _) hb2
  have rf2 := rf1.below (Nat.le_refl _) hb2
  have rn22 := rn21.below (Nat.le_refl _) hb2
  have ra22 := ra21.below (Nat.le_refl _) hb2
  have HX2 : Hid (∀ i, i < nf → Row w2 (A i) (L i) (C i) (fun j => .int .u8 (X i j))) := fun i hi => (HX1.out i hi).below (Nat.le_refl _) hb2
  clear rn1 rf1 rn21 ra21 HX1 hb01 hb2 HQ
  go_wp2_with fail
  refine (first_index _ an n cn V extra (by omega) rn2).mono ?_
  rintro e w3 ⟨rfl, ⟨k2, hk2, _, rfl⟩ | ⟨hno, rfl⟩⟩
  · have hd : decide ((k2 : Int) < 0) = false := decide_eq_false (by omega)
    go_wp2_with fail
    go_ret
    exact ⟨rfl, hb02⟩
  by_cases hx0 : 0 ≤ xat
  rotate_left
  · have hd : decide ((0 : Int) ≤ xat) = false := decide_eq_false hx0
    go_wp2_with fail
    go_ret
    exact ⟨rfl, hb02⟩
  by_cases hx1 : xat < (nf : Int)
  rotate_left
  · have hd : decide (xat < (nf : Int)) = false := decide_eq_false hx1
    have hd0 : decide ((0 : Int) ≤ xat) = true := decide_eq_true hx0
    go_wp2_with fail
    go_ret
    exact ⟨rfl, hb02⟩
  obtain ⟨p2, rfl⟩ : ∃ p2 : Nat, xat = (p2 : Int) := ⟨xat.toNat, by omega⟩
  have hp2 : p2 < nf := by omega
  have HF2 : Hid (FirstAt V2 extra n) := HE.out hno
  clear hno HE HT
  obtain ⟨bf, of, rfl⟩ := rf2.some (by omega)
  generalize hT2 : strOfNums ((List.range (L p2)).map (X p2)) = T2
  have HT2 : Hid (strOfNums ((List.range (L p2)).map (X p2)) = T2) := hT2
  have HS : Hid (∀ wx, Below w2.heap.size w2 wx → wx.cell? ⟨bf, of + p2, none⟩ = some (.slice (A p2) (L p2) (C p2)) ∧ (convert 29 9 (.slice (A p2) (L p2) (C p2))).run Try.prog wx = .ok (.string T2) wx) := fun wx hbx => by
    refine ⟨(rf2.below (Nat.le_refl _) hbx).at p2 hp2, ?_⟩
    rw [← hT2]
    exact conv_row (P := Try.prog) (w := wx) (src := 29) (dst := 9) (e := 5) Try.underlying29 Try.underlying5 Try.underlying9 ((HX2.out p2 hp2).below (Nat.le_refl _) hbx)
  clear hT2
  have hq0 : (0 : Int) ≤ (p2 : Int) := by omega
  have hq1 : (p2 : Int) < (nf : Int) := by omega
  go_wp2_with fail
  go_region_held3 (fun wx => wx.cell? ⟨bf, of + p2, none⟩ = some (.slice (A p2) (L p2) (C p2)) ∧ (convert 29 9 (.slice (A p2) (L p2) (C p2))).run Try.prog wx = .ok (.string T2) wx) (first | exact HS.out _ (Below.refl _ _) | exact HS.out _ (Below.refl _ _).drew | exact HS.out _ ((Below.refl _ _).drew.trans hb3)) ((go_at_call 11; refine (zzfield_at w2.drew file line a2 (n + 1) c2 b2 (n + 1) d2 member (some ⟨bf, of, none⟩) nf cf V2 At2 A L C X extra n p2 (by omega) (by omega) HF2.out HN.out hp2 hn hn hnf rn22.drew ra22.drew rf2.drew (fun i hi => (HX2.out i hi).drew)).mono ?_; rw [HT2.out]; rintro e w4 ⟨rfl, hb3⟩))
  go_wp2_with fail
  go_ret
  exact ⟨rfl, hb02.trans (((Below.refl _ _).drew.trans hb3).mono hb02.size)⟩
end Go.Proofs.Qxb6615032a
