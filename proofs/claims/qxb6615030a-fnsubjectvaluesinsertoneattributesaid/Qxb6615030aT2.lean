/-
  The second law behind its two calls: the count, the comparisons.
-/
import Derived.Test.Qxb6615030aT1
namespace Go.Proofs.Qxb6615030a
open Go.ChangeShapes Go.WideShapes Go.ChangeAt Go.RowKit

set_option maxRecDepth 100000 in
set_option maxHeartbeats 1000000 in
theorem tail2 (w0 w : World) (a : Option Addr) (nt ca : Nat) (ao : Option Addr) (no co : Nat) (pos : Nat) (val : ByteArray) (vb : Bool) (A : Nat → Option Addr) (L C : Nat → Nat) (Z : Nat → Nat → Int) (y : Nat → Int)
    (ax ay : Option Addr) (tot cx cy : Nat) (FB FA : Nat → ByteArray) (h1 : nt ≤ 1048576) (h4 : no ≤ 1048576) (hL : ∀ i, i < nt → L i ≤ 1048576) (htot : tot ≤ 1048576) (hpos : pos ≤ nt)
    (rt : Row w a nt ca (fun i => .slice (A i) (L i) (C i))) (ro : Row w ao no co (fun i => .int .i64 (y i)))
    (hrow : ∀ i, i < nt → Row w (A i) (L i) (C i) (fun j => .int .i64 (Z i j)))
    (rx : Row w ax tot cx (fun i => .string (FB i))) (ry : Row w ay (tot + 1) cy (fun i => .string (FA i)))
    (cnt : Nat → Nat) (hc0 : cnt 0 = 0) (hhit : ∀ i, i < nt → sameB (L i) (Z i) no y = true → cnt (i + 1) = cnt i + 1) (hmiss : ∀ i, i < nt → sameB (L i) (Z i) no y = false → cnt (i + 1) = cnt i) (hcn : cnt nt = tot) (hcb : ∀ i, i ≤ nt → cnt i ≤ tot)
    (hlo : ∀ i, i < cnt pos → FB i = FA i) (hmid : FA (cnt pos) = strOfB vb val) (hhi : ∀ i, cnt pos ≤ i → i < tot → FB i = FA (i + 1))
    (hb : Below w0.heap.size w0 w)
    (u1 u2 u7 u8 u9 u10 u11 u12 u13 u14 u15 u16 u17 u19 u20 u21 u22 u23 u25 u26 u27 u28 u29 u30 u31 u32 u33 u34 u35 u36 u37 u38 u39 u40 u41 u42 u43 u44 u45 u46 u47 u48 u49 u50 u51 u52 u53 u54 u55 u56 u57 u58 u59 u60 u61 u62 u63 u64 u65 u66 u67 u68 u69 u70 u71 u72 u73 u74 u75 u76 u77 u78 u79 u80 u81 u82 u83 u84 u85 u86 u87 u88 u89 u90 u91 u92 u93 u94 u95 u96 u97 u98 u99 u100 u101 u102 u103 u104 u105 u106 u107 u108 u109 u110 u111 u112 u113 u114 u115 u116 u117 u118 u119 u120 u121 u122 u123 u124 u125 u126 u127 u128 u129 u130 u131 u132 u133 u134 u135 u136 u137 u138 u139 u140 u141 u142 u143 u144 u145 u146 u147 u148 u149 u150 u151 u152 u153 u154 u155 u156 u157 u158 u159 u160 u161 u162 u163 u164 u165 u166 u167 u168 u169 u170 u171 u172 u173 u174 u175 u176 u177 u178 u179 u180 u181 u182 u183 u184 u185 u186 u187 u188 u189 u190 u191 u192 u193 u194 u195 u196 u197 u198 u199 u200 u201 u202 u203 u204 u205 u206 u207 u208 u209 u210 u211 u212 u213 u214 u215 u216 u217 u218 u219 u220 u221 u222 u223 u224 u225 u226 u227 u228 u229 u230 u231 u232 u233 u234 u235 u236 u237 u238 u239 u240 u241 u242 u243 u244 u245 u246 u247 u248 u249 u250 u251 u252 u253 : Value) :
    Code.wp Try.prog (dropS 18 (Try.f6.body.getD .skip)) (bodyPost Try.prog Try.f6 fun e w' => e = .returned (.bool true) ∧ Below w0.heap.size w0 w') ⟨#[.slice a nt ca, u1, u2, .slice ao no co, .int .i64 pos, .string val, .bool vb, u7, u8, u9, u10, u11, u12, u13, u14, u15, u16, u17, .slice ax tot cx, u19, u20, u21, u22, u23, .slice ay (tot + 1) cy, u25, u26, u27, u28, u29, u30, u31, u32, u33, u34, u35, u36, u37, u38, u39, u40, u41, u42, u43, u44, u45, u46, u47, u48, u49, u50, u51, u52, u53, u54, u55, u56, u57, u58, u59, u60, u61, u62, u63, u64, u65, u66, u67, u68, u69, u70, u71, u72, u73, u74, u75, u76, u77, u78, u79, u80, u81, u82, u83, u84, u85, u86, u87, u88, u89, u90, u91, u92, u93, u94, u95, u96, u97, u98, u99, u100, u101, u102, u103, u104, u105, u106, u107, u108, u109, u110, u111, u112, u113, u114, u115, u116, u117, u118, u119, u120, u121, u122, u123, u124, u125, u126, u127, u128, u129, u130, u131, u132, u133, u134, u135, u136, u137, u138, u139, u140, u141, u142, u143, u144, u145, u146, u147, u148, u149, u150, u151, u152, u153, u154, u155, u156, u157, u158, u159, u160, u161, u162, u163, u164, u165, u166, u167, u168, u169, u170, u171, u172, u173, u174, u175, u176, u177, u178, u179, u180, u181, u182, u183, u184, u185, u186, u187, u188, u189, u190, u191, u192, u193, u194, u195, u196, u197, u198, u199, u200, u201, u202, u203, u204, u205, u206, u207, u208, u209, u210, u211, u212, u213, u214, u215, u216, u217, u218, u219, u220, u221, u222, u223, u224, u225, u226, u227, u228, u229, u230, u231, u232, u233, u234, u235, u236, u237, u238, u239, u240, u241, u242, u243, u244, u245, u246, u247, u248, u249, u250, u251, u252, u253], []⟩ w := by
  have HC : Hid (cnt 0 = 0 ∧ cnt nt = tot) := ⟨hc0, hcn⟩
  have HB : Hid (∀ i, i ≤ nt → cnt i ≤ tot) := hcb
  have HH : Hid (∀ i, i < nt → sameB (L i) (Z i) no y = true → cnt (i + 1) = cnt i + 1) := hhit
  have HM : Hid (∀ i, i < nt → sameB (L i) (Z i) no y = false → cnt (i + 1) = cnt i) := hmiss
  have HL : Hid (∀ i, i < nt → L i ≤ 1048576) := hL
  have HR : Hid (∀ i, i < nt → Row w (A i) (L i) (C i) (fun j => .int .i64 (Z i j))) := hrow
  have HLO : Hid (∀ i, i < cnt pos → FB i = FA i) := hlo
  have HMI : Hid (FA (cnt pos) = strOfB vb val) := hmid
  have HHI : Hid (∀ i, cnt pos ≤ i → i < tot → FB i = FA (i + 1)) := hhi
  clear hc0 hcn hhit hmiss hL hrow hlo hmid hhi hcb
  conv => arg 2; whnf
  go_wp2
  go_loopw [25, 26, 27] (fun t c i wx => ∃ m : Nat, m ≤ nt ∧ i = .int .i64 m ∧ t = .int .i64 (cnt m) ∧ c = .int .i64 (cnt (min m pos)) ∧ Below w.heap.size w wx) (fun _ _ i _ => nt - (intOf i).toNat)
  case atStart => exact ⟨0, Nat.zero_le _, rfl, by rw [HC.out.1]; rfl, by rw [Nat.zero_min, HC.out.1]; rfl, Below.refl _ _⟩
  case round =>
    obtain ⟨m, hm, rfl, rfl, rfl, hbel3⟩ := hrel
    have cb1 := HB.out m hm
    have cb2 := HB.out (min m pos) (by omega)
    by_cases hlt3 : m < nt
    · obtain ⟨bt, ot, rfl⟩ := rt.some (by omega)
      have d1 := (rt.below (Nat.le_refl _) hbel3).at m hlt3
      have rm := (HR.out m hlt3).below (Nat.le_refl _) hbel3
      have ro3 := ro.below (Nat.le_refl _) hbel3
      go_wp2_with fail
      refine (same_ints_any _ (A m) ao (L m) no (C m) co (Z m) y (HL.out m hlt3) h4 rm ro3).mono ?_
      rintro e wz ⟨rfl, hbz⟩
      have hbel4 : Below w.heap.size w wz := hbel3.trans (hbz.mono hbel3.size)
      clear rm ro3 d1 hbz
      rcases Bool.eq_false_or_eq_true (sameB (L m) (Z m) no y) with hM | hM
      · have HC1 : Hid (cnt (m + 1) = cnt m + 1) := HH.out m hlt3 hM
        rw [hM]
        clear hM
        by_cases hmp : m < pos
        · have HP1 : Hid (min m pos = m) := Nat.min_eq_left (by omega)
          have HP2 : Hid (min (m + 1) pos = m + 1) := Nat.min_eq_left (by omega)
          rw [HP1.out]
          rw [HP1.out] at cb2
          go_wp2_with fail
          go_roundw
          case rel => exact ⟨m + 1, by omega, by go_num, by rw [HC1.out]; go_num, by rw [HP2.out, HC1.out]; go_num, hbel4⟩
          case measure => simp [intOf]; omega
        · have HP1 : Hid (min m pos = pos) := Nat.min_eq_right (by omega)
          have HP2 : Hid (min (m + 1) pos = pos) := Nat.min_eq_right (by omega)
          rw [HP1.out]
          rw [HP1.out] at cb2
          go_wp2_with fail
          go_roundw
          case rel => exact ⟨m + 1, by omega, by go_num, by rw [HC1.out]; go_num, by rw [HP2.out], hbel4⟩
          case measure => simp [intOf]; omega
      · have HC1 : Hid (cnt (m + 1) = cnt m) := HM.out m hlt3 hM
        rw [hM]
        clear hM
        have HP : Hid (cnt (min (m + 1) pos) = cnt (min m pos)) := by
          by_cases hmp : m < pos
          · have e1 : min m pos = m := Nat.min_eq_left (by omega)
            have e2 : min (m + 1) pos = m + 1 := Nat.min_eq_left (by omega)
            show _ = _
            rw [e1, e2, HC1.out]
          · have e1 : min m pos = pos := Nat.min_eq_right (by omega)
            have e2 : min (m + 1) pos = pos := Nat.min_eq_right (by omega)
            show _ = _
            rw [e1, e2]
        go_wp2_with fail
        go_roundw
        case rel => exact ⟨m + 1, by omega, by go_num, by rw [HC1.out], by rw [HP.out], hbel4⟩
        case measure => simp [intOf]; omega
    · have hmn : m = nt := by omega
      subst hmn
      have HP : Hid (min m pos = pos) := Nat.min_eq_right hpos
      rw [HP.out, HC.out.2]
      rw [HP.out] at cb2
      generalize hcc : cnt pos = c at *
      clear cb1
      have f1 : ((tot : Int) != (tot : Int)) = false := by simp
      go_upto_if 205 with fail
      go_cut [28] (fun s wd => s = .string (strOfB vb val) ∧ Below w.heap.size w wd)
      case first =>
        cases vb
        · go_wp2_with fail
          go_meet
          case rel => exact ⟨rfl, hbel3⟩
        · go_wp2_with fail
          go_meet
          case rel => exact ⟨rfl, hbel3⟩
      case rest =>
      obtain ⟨rfl, hbel4⟩ := hcut
      go_wp2_with fail
      go_loopw [29] (fun i wx => ∃ j : Nat, j ≤ c ∧ i = .int .i64 j ∧ Below w.heap.size w wx) (fun i _ => c - (intOf i).toNat)
      case atStart => exact ⟨0, Nat.zero_le _, rfl, hbel4⟩
      case round =>
        obtain ⟨j, hj, rfl, hbel5⟩ := hrel
        by_cases hlt : j < c
        · obtain ⟨bx, ox, rfl⟩ := rx.some (by omega)
          obtain ⟨by', oy, rfl⟩ := ry.some (by omega)
          have ca1 := (rx.below (Nat.le_refl _) hbel5).at j (by omega)
          have cb1 := (ry.below (Nat.le_refl _) hbel5).at j (by omega)
          rw [HLO.out j hlt] at ca1
          clear rt ro
          go_wp2
          go_quiet (fail)
          go_wp2
          go_roundw
          case rel => exact ⟨j + 1, by omega, by go_num, below_drewN hbel5 _⟩
          case measure => simp [intOf]; omega
        · obtain ⟨by', oy, rfl⟩ := ry.some (by omega)
          have cb1 := (ry.below (Nat.le_refl _) hbel5).at c (by omega)
          rw [HMI.out] at cb1
          go_wp2_with fail
          go_loopw [30] (fun i wx => ∃ j : Nat, c ≤ j ∧ j ≤ tot ∧ i = .int .i64 j ∧ Below w.heap.size w wx) (fun i _ => tot - (intOf i).toNat)
          case atStart => exact ⟨c, Nat.le_refl _, cb2, rfl, hbel5⟩
          case round =>
            obtain ⟨m2, hj1, hj2, rfl, hbel6⟩ := hrel
            by_cases hlt5 : m2 < tot
            · obtain ⟨bx, ox, rfl⟩ := rx.some (by omega)
              have ca1 := (rx.below (Nat.le_refl _) hbel6).at m2 (by omega)
              have cb3 := (ry.below (Nat.le_refl _) hbel6).at (m2 + 1) (by omega)
              rw [HHI.out m2 hj1 hlt5] at ca1
              have hi1 : ((m2 : Int) + 1) < (tot : Int) + 1 := by omega
              clear rt ro cb1
              go_wp2
              go_quiet (fail)
              go_wp2
              go_roundw
              case rel => exact ⟨m2 + 1, by omega, by omega, by go_num, below_drewN hbel6 _⟩
              case measure => simp [intOf]; omega
            · go_wp2_with fail
              go_ret
              exact ⟨rfl, hb.trans (hbel6.mono hb.size)⟩
end Go.Proofs.Qxb6615030a
