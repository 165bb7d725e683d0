/-
  The first law behind its three calls: the lengths, the two comparisons, the count.
-/
import Derived.Test.Qxb6615030aZz
import Derived.Test.Qxb6615030aCopy
import Derived.Deep.DeepCutAuto
import Derived.Deep.RegionHeld3
namespace Go.Proofs.Qxb6615030a
open Go.ChangeShapes Go.WideShapes Go.ChangeAt Go.RowKit

/-- The code behind the first k statements. -/
def dropS : Nat → Code → Code
  | 0, c => c
  | k + 1, .seq _ b => dropS k b
  | _ + 1, c => c

set_option maxRecDepth 100000 in
theorem tail1 (w0 w : World) (a : Option Addr) (nt ca : Nat) (av : Option Addr) (cv : Nat) (ab : Option Addr) (cb : Nat) (ao : Option Addr) (no co : Nat) (q : Int) (A : Nat → Option Addr) (L C : Nat → Nat) (Z : Nat → Nat → Int) (V : Nat → ByteArray) (B : Nat → Bool) (y : Nat → Int)
    (aw al ar : Option Addr) (nw nl nr cw cl cr : Nat) (FW FX FY : Nat → ByteArray) (h1 : nt ≤ 1048576) (h4 : no ≤ 1048576) (hL : ∀ i, i < nt → L i ≤ 1048576) (hnw : nw ≤ 1048576)
    (rt : Row w a nt ca (fun i => .slice (A i) (L i) (C i))) (rv : Row w av nt cv (fun i => .string (V i))) (rs : Row w ab nt cb (fun i => .bool (B i))) (ro : Row w ao no co (fun i => .int .i64 (y i)))
    (hrow : ∀ i, i < nt → Row w (A i) (L i) (C i) (fun j => .int .i64 (Z i j)))
    (rw4 : Row w aw nw cw (fun i => .string (FW i))) (rl : Row w al nl cl (fun i => .string (FX i))) (rr : Row w ar nr cr (fun i => .string (FY i)))
    (hlen : nw = nl + nr) (hX : ∀ i, i < nl → FX i = FW i) (hY : ∀ i, i < nr → FY i = FW (nl + i))
    (cnt : Nat → Nat) (hc0 : cnt 0 = 0) (hhit : ∀ i, i < nt → sameB (L i) (Z i) no y = true → cnt (i + 1) = cnt i + 1 ∧ cnt i < nw ∧ FW (cnt i) = strOfB (B i) (V i)) (hmiss : ∀ i, i < nt → sameB (L i) (Z i) no y = false → cnt (i + 1) = cnt i) (hcn : cnt nt = nw)
    (hb : Below w0.heap.size w0 w)
    (u5 u6 u7 u8 u9 u10 u11 u12 u13 u17 u18 u19 u20 u21 u22 u23 u24 u25 u26 u27 u28 u29 u30 u31 u32 u33 u34 u35 u36 u37 u38 u39 u40 u41 u42 u43 u44 u45 u46 u47 u48 u49 u50 u51 u52 u53 u54 u55 u56 u57 u58 u59 u60 u61 u62 u63 u64 u65 u66 u67 u68 u69 u70 u71 u72 u73 u74 u75 u76 u77 u78 u79 u80 u81 u82 u83 u84 u85 u86 u87 u88 u89 u90 u91 u92 u93 u94 u95 u96 u97 u98 u99 u100 u101 u102 u103 u104 u105 u106 u107 u108 u109 u110 u111 u112 u113 u114 u115 u116 u117 u118 u119 u120 u121 u122 u123 u124 u125 u126 u127 u128 u129 u130 u131 u132 u133 u134 u135 u136 u137 u138 u139 u140 u141 u142 u143 u144 u145 u146 u147 u148 u149 u150 u151 u152 u153 u154 u155 u156 u157 u158 u159 u160 u161 u162 u163 u164 u165 u166 u167 u168 u169 u170 u171 u172 u173 u174 u175 u176 u177 u178 u179 u180 u181 u182 u183 u184 u185 : Value) :
    Code.wp Try.prog (dropS 11 (Try.f5.body.getD .skip)) (bodyPost Try.prog Try.f5 fun e w' => e = .returned (.bool true) ∧ Below w0.heap.size w0 w') ⟨#[.slice a nt ca, .slice av nt cv, .slice ab nt cb, .slice ao no co, .int .i64 q, u5, u6, u7, u8, u9, u10, u11, u12, u13, .slice aw nw cw, .slice al nl cl, .slice ar nr cr, u17, u18, u19, u20, u21, u22, u23, u24, u25, u26, u27, u28, u29, u30, u31, u32, u33, u34, u35, u36, u37, u38, u39, u40, u41, u42, u43, u44, u45, u46, u47, u48, u49, u50, u51, u52, u53, u54, u55, u56, u57, u58, u59, u60, u61, u62, u63, u64, u65, u66, u67, u68, u69, u70, u71, u72, u73, u74, u75, u76, u77, u78, u79, u80, u81, u82, u83, u84, u85, u86, u87, u88, u89, u90, u91, u92, u93, u94, u95, u96, u97, u98, u99, u100, u101, u102, u103, u104, u105, u106, u107, u108, u109, u110, u111, u112, u113, u114, u115, u116, u117, u118, u119, u120, u121, u122, u123, u124, u125, u126, u127, u128, u129, u130, u131, u132, u133, u134, u135, u136, u137, u138, u139, u140, u141, u142, u143, u144, u145, u146, u147, u148, u149, u150, u151, u152, u153, u154, u155, u156, u157, u158, u159, u160, u161, u162, u163, u164, u165, u166, u167, u168, u169, u170, u171, u172, u173, u174, u175, u176, u177, u178, u179, u180, u181, u182, u183, u184, u185], []⟩ w := by
  have hI : ((nw : Int) != (nl : Int) + (nr : Int)) = false := by rw [bne_eq_false_iff_eq]; omega
  have hb1 : nl ≤ 1048576 := by omega
  have hb2 : nr ≤ 1048576 := by omega
  have hb3 : nl + nr ≤ nw := by omega
  have HX : Hid (∀ i, i < nl → FX i = FW i) := hX
  have HY : Hid (∀ i, i < nr → FY i = FW (nl + i)) := hY
  have HC : Hid (cnt 0 = 0 ∧ cnt nt = nw) := ⟨hc0, hcn⟩
  have HH : Hid (∀ i, i < nt → sameB (L i) (Z i) no y = true → cnt (i + 1) = cnt i + 1 ∧ cnt i < nw ∧ FW (cnt i) = strOfB (B i) (V i)) := hhit
  have HM : Hid (∀ i, i < nt → sameB (L i) (Z i) no y = false → cnt (i + 1) = cnt i) := hmiss
  have HL : Hid (∀ i, i < nt → L i ≤ 1048576) := hL
  have HR : Hid (∀ i, i < nt → Row w (A i) (L i) (C i) (fun j => .int .i64 (Z i j))) := hrow
  clear hX hY hc0 hcn hhit hmiss hlen hL hrow
  conv => arg 2; whnf
  go_wp2
  go_loopw [17] (fun i wr => ∃ k : Nat, k ≤ nl ∧ i = .int .i64 k ∧ Below w.heap.size w wr) (fun i _ => nl - (intOf i).toNat)
  case atStart => exact ⟨0, Nat.zero_le _, rfl, Below.refl _ _⟩
  case round =>
    obtain ⟨k, hk, rfl, hbel⟩ := hrel
    by_cases hlt : k < nl
    · obtain ⟨bw, ow, rfl⟩ := rw4.some (by omega)
      obtain ⟨bl, ol, rfl⟩ := rl.some (by omega)
      have ca1 := (rw4.below (Nat.le_refl _) hbel).at k (by omega)
      have cb1 := (rl.below (Nat.le_refl _) hbel).at k hlt
      rw [HX.out k hlt] at cb1
      clear rt rv rs ro rr
      go_wp2
      go_quiet (fail)
      go_wp2
      go_roundw
      case rel => exact ⟨k + 1, by omega, by go_num, below_drewN hbel _⟩
      case measure => simp [intOf]; omega
    · go_wp2
      go_loopw [18] (fun i wx => ∃ j : Nat, j ≤ nr ∧ i = .int .i64 j ∧ Below w.heap.size w wx) (fun i _ => nr - (intOf i).toNat)
      case atStart => exact ⟨0, Nat.zero_le _, rfl, hbel⟩
      case round =>
        obtain ⟨j, hj, rfl, hbel2⟩ := hrel
        by_cases hlt2 : j < nr
        · obtain ⟨bw, ow, rfl⟩ := rw4.some (by omega)
          obtain ⟨bl, ol, rfl⟩ := rr.some (by omega)
          have ca1 := (rw4.below (Nat.le_refl _) hbel2).at (nl + j) (by omega)
          have cb1 := (rr.below (Nat.le_refl _) hbel2).at j hlt2
          rw [HY.out j hlt2] at cb1
          have hij : ((nl : Int) + (j : Int)) < (nw : Int) := by omega
          have hij0 : (0 : Int) ≤ ((nl : Int) + (j : Int)) := by omega
          clear rt rv rs ro rl
          go_wp2
          go_quiet (fail)
          go_wp2
          go_roundw
          case rel => exact ⟨j + 1, by omega, by go_num, below_drewN hbel2 _⟩
          case measure => simp [intOf]; omega
        · go_wp2
          go_loopw [19, 20] (fun c i wx => ∃ m : Nat, m ≤ nt ∧ i = .int .i64 m ∧ c = .int .i64 (cnt m) ∧ cnt m ≤ nw ∧ Below w.heap.size w wx) (fun _ i _ => nt - (intOf i).toNat)
          case atStart => exact ⟨0, Nat.zero_le _, rfl, by rw [HC.out.1]; rfl, by rw [HC.out.1]; omega, hbel2⟩
          case round =>
            obtain ⟨m, hm, rfl, rfl, hcm, hbel3⟩ := hrel
            by_cases hlt3 : m < nt
            · obtain ⟨bt, ot, rfl⟩ := rt.some (by omega)
              obtain ⟨bv, ov, rfl⟩ := rv.some (by omega)
              obtain ⟨bs, os, rfl⟩ := rs.some (by omega)
              have d1 := (rt.below (Nat.le_refl _) hbel3).at m hlt3
              have rm := (HR.out m hlt3).below (Nat.le_refl _) hbel3
              have ro3 := ro.below (Nat.le_refl _) hbel3
              go_wp2_with fail
              refine (same_ints_any _ (A m) ao (L m) no (C m) co (Z m) y (HL.out m hlt3) h4 rm ro3).mono ?_
              rintro e wz ⟨rfl, hbz⟩
              have hbel4 : Below w.heap.size w wz := hbel3.trans (hbz.mono hbel3.size)
              clear rm ro3 d1 hbz
              rcases Bool.eq_false_or_eq_true (sameB (L m) (Z m) no y) with hM | hM
              · obtain ⟨hc1, hc2, hc3⟩ := HH.out m hlt3 hM
                rw [hM]
                have HC1 : Hid (cnt (m + 1) = cnt m + 1) := hc1
                clear hc1 hM
                obtain ⟨bw, ow, rfl⟩ := rw4.some (by omega)
                have e1 := (rw4.below (Nat.le_refl _) hbel4).at (cnt m) hc2
                have e2 := (rv.below (Nat.le_refl _) hbel4).at m hlt3
                have e3 := (rs.below (Nat.le_refl _) hbel4).at m hlt3
                rw [hc3] at e1
                clear hc3
                rcases Bool.eq_false_or_eq_true (B m) with hB | hB
                · rw [hB] at e1 e3
                  simp only [strOfB, if_true] at e1
                  clear hB
                  go_wp2_with fail
                  go_roundw
                  case rel => exact ⟨m + 1, by omega, by go_num, by rw [HC1.out]; go_num, by rw [HC1.out]; omega, hbel4⟩
                  case measure => simp [intOf]; omega
                · rw [hB] at e1 e3
                  simp only [strOfB, Bool.false_eq_true, if_false] at e1
                  clear hB
                  go_wp2_with fail
                  go_roundw
                  case rel => exact ⟨m + 1, by omega, by go_num, by rw [HC1.out]; go_num, by rw [HC1.out]; omega, hbel4⟩
                  case measure => simp [intOf]; omega
              · have hc1 := HM.out m hlt3 hM
                rw [hM]
                have HC1 : Hid (cnt (m + 1) = cnt m) := hc1
                clear hc1 hM
                go_wp2_with fail
                go_roundw
                case rel => exact ⟨m + 1, by omega, by go_num, by rw [HC1.out], by rw [HC1.out]; omega, hbel4⟩
                case measure => simp [intOf]; omega
            · have hmn : m = nt := by omega
              subst hmn
              have hfin : ((cnt m : Int) == (nw : Int)) = true := by rw [HC.out.2]; simp
              go_wp2_with fail
              go_ret
              exact ⟨rfl, hb.trans (hbel3.mono hb.size)⟩
end Go.Proofs.Qxb6615030a
