import Derived.Test.Qxb6615030aZz
import Derived.Test.Qxb6615030aSz
import Derived.Test.Qxb6615030aCopy
import Derived.Test.Qxb6615030aT1
import Derived.Test.Qxb6615030aPlain
import Derived.Deep.DeepCutAuto
import Derived.Deep.RegionHeld3
namespace Go.Proofs.Qxb6615030a
open Go.ChangeShapes Go.WideShapes Go.ChangeAt Go.RowKit

theorem Try.info4 : (Try.prog.info? 4).map (fun i => (i.zero, i.size, i.bytes)) = some (some (.bool false), 1, 1) := by kernel_rfl
theorem Try.info3 : (Try.prog.info? 3).map (fun i => (i.zero, i.size, i.bytes)) = some (some (.int .i64 0), 1, 8) := by kernel_rfl
theorem Try.size9 : (Try.prog.info? 9).map (·.size) = some 1 := by kernel_rfl
theorem Try.size4 : (Try.prog.info? 4).map (·.size) = some 1 := by kernel_rfl
theorem Try.size3 : (Try.prog.info? 3).map (·.size) = some 1 := by kernel_rfl
theorem Try.size30 : (Try.prog.info? 30).map (·.size) = some 1 := by kernel_rfl

set_option maxRecDepth 100000 in
set_option maxHeartbeats 4000000 in
theorem law1 (w : World) (a : Option Addr) (nt ca : Nat) (av : Option Addr) (nv cv : Nat) (ab : Option Addr) (nb cb : Nat) (ao : Option Addr) (no co : Nat) (cut : Int) (A : Nat → Option Addr) (L C : Nat → Nat) (Z : Nat → Nat → Int) (V : Nat → ByteArray) (B : Nat → Bool) (y : Nat → Int)
    (rt : Row w a nt ca (fun i => .slice (A i) (L i) (C i))) (rv : Row w av nv cv (fun i => .string (V i))) (rs : Row w ab nb cb (fun i => .bool (B i))) (ro : Row w ao no co (fun i => .int .i64 (y i)))
    (hrow : ∀ i, i < nt → Row w (A i) (L i) (C i) (fun j => .int .i64 (Z i j))) :
    Calls Try.prog 5 #[.slice a nt ca, .slice av nv cv, .slice ab nb cb, .slice ao no co, .int .i64 cut] w fun e w' => e = .returned (.bool true) ∧ Below w.heap.size w w' := by
  go_enter Try.func5, Try.ntmps5
  go_wp2_with fail
  refine (bytes_any _ a nt ca av nv cv ab nb cb ao no co cut A L C V rt rv).mono ?_
  rintro e w' ⟨r, rfl, hr, rfl⟩
  cases r
  · go_wp2_with fail
    go_ret
    exact ⟨rfl, Below.refl _ _⟩
  obtain ⟨h1, h2, h3, h4, hL⟩ := hr rfl
  clear hr
  go_wp2_with fail
  refine (attrs_any _ a nt ca av nv cv ab nb cb ao no co A L C V rt rv).mono ?_
  rintro e w' ⟨r, rfl, _, rfl⟩
  cases r
  · go_wp2_with fail
    go_ret
    exact ⟨rfl, Below.refl _ _⟩
  by_cases hv : nt = nv
  rotate_left
  · have hI : ((nv : Int) != (nt : Int)) = true := by rw [bne_iff_ne]; omega
    go_wp2_with fail
    go_ret
    exact ⟨rfl, Below.refl _ _⟩
  subst hv
  by_cases hb : nt = nb
  rotate_left
  · have hI : ((nb : Int) != (nt : Int)) = true := by rw [bne_iff_ne]; omega
    go_wp2_with fail
    go_ret
    exact ⟨rfl, Below.refl _ _⟩
  subst hb
  by_cases hc0 : cut < 0
  · have hd : decide (cut < 0) = true := decide_eq_true hc0
    go_wp2_with fail
    go_ret
    exact ⟨rfl, Below.refl _ _⟩
  have hd0 : decide (cut < 0) = false := decide_eq_false hc0
  by_cases hc1 : (nt : Int) < cut
  · have hd : decide ((nt : Int) < cut) = true := decide_eq_true hc1
    go_wp2_with fail
    go_ret
    exact ⟨rfl, Below.refl _ _⟩
  have hd1 : decide ((nt : Int) < cut) = false := decide_eq_false hc1
  obtain ⟨q, rfl⟩ : ∃ q : Nat, cut = (q : Int) := ⟨cut.toNat, by omega⟩
  have hq : q ≤ nt := by omega
  have hq0 : (0 : Int) ≤ (q : Int) := by omega
  clear hd0 hd1 hc0 hc1
  have hn28 := fun wx => run_neq_slice_nil_any (P := Try.prog) wx 28 9 av nt cv 0 0 Try.underlying28
  have hmk28 := run_make_row' (P := Try.prog) 28 9 (.string ByteArray.empty) 16 Try.underlying28 Try.info9 rfl .i64 .i64 nt (by omega) (by omega)
  go_upto_if 56 with fail
  go_cut [1] from 47 to 63 (fun s wd => ∃ av' cv', s = .slice av' nt cv' ∧ Row wd av' nt cv' (fun i => .string (V i)) ∧ Below w.heap.size w wd)
  case first =>
    cases av with
    | none =>
      go_wp2_with fail
      go_meet
      case rel => exact ⟨none, cv, rfl, rv, Below.refl _ _⟩
    | some ad =>
      go_wp2_with (first | (refine wpList_copy_row rfl (.tmp 60) (.tmp 61) 28 28 rfl 9 Try.underlying28 Try.size9 w.heap.size nt cv nt (some ad) rfl rfl 9 _ (World.rowIs_made _ _ _ _) (fun i => .string (V i)) ?_ (Nat.le_refl _) ?_ w.heap.size w ?_ (Nat.le_refl _) ?_))
      · exact rv.below (Nat.le_refl _) (Below.alloc (Below.refl _ _) (Nat.le_refl _) _)
      · exact fun _ _ => rfl
      · exact Below.alloc (Below.refl _ _) (Nat.le_refl _) _
      · intro wy hr1 hb1
        go_wp2_with fail
        go_meet
        case rel => exact ⟨_, _, rfl, hr1, hb1⟩
  clear hn28 hmk28
  obtain ⟨av1, cv1, rfl, rv1, hb1⟩ := hcut
  obtain ⟨w1, hw1⟩ : ∃ x, x = wc := ⟨_, rfl⟩
  subst hw1
  have rs1 := rs.below (Nat.le_refl _) hb1
  have rt1 := rt.below (Nat.le_refl _) hb1
  have ro1 := ro.below (Nat.le_refl _) hb1
  have hrow1 := fun i hi => (hrow i hi).below (Nat.le_refl _) hb1
  clear rs rt ro hrow rv
  have hn29 := fun wx => run_neq_slice_nil_any (P := Try.prog) wx 29 4 ab nt cb 0 0 Try.underlying29
  have hmk29 := run_make_row' (P := Try.prog) 29 4 (.bool false) 1 Try.underlying29 Try.info4 rfl .i64 .i64 nt (by omega) (by omega)
  go_upto_if 65 with fail
  go_cut [2] from 64 to 72 (fun s wd => ∃ av' cv', s = .slice av' nt cv' ∧ Row wd av' nt cv' (fun i => .bool (B i)) ∧ Below w1.heap.size w1 wd)
  case first =>
    cases ab with
    | none =>
      go_wp2_with fail
      go_meet
      case rel => exact ⟨none, cb, rfl, rs1, Below.refl _ _⟩
    | some ad =>
      go_wp2_with (first | (refine wpList_copy_row rfl (.tmp 69) (.tmp 70) 29 29 rfl 4 Try.underlying29 Try.size4 w1.heap.size nt cb nt (some ad) rfl rfl 4 _ (World.rowIs_made _ _ _ _) (fun i => .bool (B i)) ?_ (Nat.le_refl _) ?_ w1.heap.size w1 ?_ (Nat.le_refl _) ?_))
      · exact rs1.below (Nat.le_refl _) (Below.alloc (Below.refl _ _) (Nat.le_refl _) _)
      · exact fun _ _ => rfl
      · exact Below.alloc (Below.refl _ _) (Nat.le_refl _) _
      · intro wy hr1 hb1
        go_wp2_with fail
        go_meet
        case rel => exact ⟨_, _, rfl, hr1, hb1⟩
  clear hn29 hmk29
  obtain ⟨ab1, cb1, rfl, rs2, hb2⟩ := hcut
  obtain ⟨w2, hw2⟩ : ∃ x, x = wc := ⟨_, rfl⟩
  subst hw2
  have rv2 := rv1.below (Nat.le_refl _) hb2
  have rt2 := rt1.below (Nat.le_refl _) hb2
  have ro2 := ro1.below (Nat.le_refl _) hb2
  have hrow2 := fun i hi => (hrow1 i hi).below (Nat.le_refl _) hb2
  have hb02 : Below w.heap.size w w2 := hb1.trans (hb2.mono hb1.size)
  clear rs1 rt1 ro1 hrow1 rv1 hb1 hb2
  have hn30 := fun wx => run_neq_slice_nil_any (P := Try.prog) wx 30 3 ao no co 0 0 Try.underlying30
  have hmk30 := run_make_row' (P := Try.prog) 30 3 (.int .i64 0) 8 Try.underlying30 Try.info3 rfl .i64 .i64 no (by omega) (by omega)
  go_upto_if 74 with fail
  go_cut [3] from 73 to 81 (fun s wd => ∃ av' cv', s = .slice av' no cv' ∧ Row wd av' no cv' (fun i => .int .i64 (y i)) ∧ Below w2.heap.size w2 wd)
  case first =>
    cases ao with
    | none =>
      go_wp2_with fail
      go_meet
      case rel => exact ⟨none, co, rfl, ro2, Below.refl _ _⟩
    | some ad =>
      go_wp2_with (first | (refine wpList_copy_row rfl (.tmp 78) (.tmp 79) 30 30 rfl 3 Try.underlying30 Try.size3 w2.heap.size no co no (some ad) rfl rfl 3 _ (World.rowIs_made _ _ _ _) (fun i => .int .i64 (y i)) ?_ (Nat.le_refl _) ?_ w2.heap.size w2 ?_ (Nat.le_refl _) ?_))
      · exact ro2.below (Nat.le_refl _) (Below.alloc (Below.refl _ _) (Nat.le_refl _) _)
      · exact fun _ _ => rfl
      · exact Below.alloc (Below.refl _ _) (Nat.le_refl _) _
      · intro wy hr1 hb1
        go_wp2_with fail
        go_meet
        case rel => exact ⟨_, _, rfl, hr1, hb1⟩
  clear hn30 hmk30
  obtain ⟨ao1, co1, rfl, ro3, hb3⟩ := hcut
  obtain ⟨w3, hw3⟩ : ∃ x, x = wc := ⟨_, rfl⟩
  subst hw3
  have rv3 := rv2.below (Nat.le_refl _) hb3
  have rt3 := rt2.below (Nat.le_refl _) hb3
  have rs3 := rs2.below (Nat.le_refl _) hb3
  have hrow3 := fun i hi => (hrow2 i hi).below (Nat.le_refl _) hb3
  have hb03 : Below w.heap.size w w3 := hb02.trans (hb3.mono hb02.size)
  clear rs2 rt2 ro2 hrow2 rv2 hb02 hb3
  go_wp2_with fail
  refine (zz_any _ a nt ca av1 cv1 ab1 cb1 ao1 no co1 y A L C Z V B h1 h4 hL rt3 rv3 rs3 ro3 hrow3).mono ?_
  rintro e w4 ⟨aw, cw, rfl, rw4, hb4⟩
  have rv4 := rv3.below (Nat.le_refl _) hb4
  have rt4 := rt3.below (Nat.le_refl _) hb4
  have rs4 := rs3.below (Nat.le_refl _) hb4
  have ro4 := ro3.below (Nat.le_refl _) hb4
  have hrow4 := fun i hi => (hrow3 i hi).below (Nat.le_refl _) hb4
  have hb04 : Below w.heap.size w w4 := hb03.trans (hb4.mono hb03.size)
  clear rs3 rt3 ro3 hrow3 rv3 hb03 hb4
  have hnW := svN_le (fun i => sameB (L i) (Z i) no y) (fun i => strOfB (B i) (V i)) nt
  have hX := fun i => getD_left (svN (fun i => sameB (L i) (Z i) no y) (fun i => strOfB (B i) (V i)) q) (svN (fun i => sameB (L (q + i)) (Z (q + i)) no y) (fun i => strOfB (B (q + i)) (V (q + i))) (nt - q)) i
  have hY := fun i => getD_right (svN (fun i => sameB (L i) (Z i) no y) (fun i => strOfB (B i) (V i)) q) (svN (fun i => sameB (L (q + i)) (Z (q + i)) no y) (fun i => strOfB (B (q + i)) (V (q + i))) (nt - q)) i
  have hsp := svN_split (fun i => sameB (L i) (Z i) no y) (fun i => strOfB (B i) (V i)) hq
  rw [← hsp] at hX hY
  have hlen : (svN (fun i => sameB (L i) (Z i) no y) (fun i => strOfB (B i) (V i)) nt).length = (svN (fun i => sameB (L i) (Z i) no y) (fun i => strOfB (B i) (V i)) q).length + (svN (fun i => sameB (L (q + i)) (Z (q + i)) no y) (fun i => strOfB (B (q + i)) (V (q + i))) (nt - q)).length := by rw [hsp]; simp
  have hhit := svN_at (fun i => sameB (L i) (Z i) no y) (fun i => strOfB (B i) (V i)) nt
  have hmiss := fun i (h : sameB (L i) (Z i) no y = false) => congrArg List.length (svN_miss (S := fun i => strOfB (B i) (V i)) (M := fun i => sameB (L i) (Z i) no y) (k := i) h)
  clear hsp
  obtain ⟨cnt, hcnt⟩ : ∃ cnt : Nat → Nat, cnt = fun i => (svN (fun i => sameB (L i) (Z i) no y) (fun i => strOfB (B i) (V i)) i).length := ⟨_, rfl⟩
  have hcn : cnt nt = (svN (fun i => sameB (L i) (Z i) no y) (fun i => strOfB (B i) (V i)) nt).length := by rw [hcnt]
  have hc0 : cnt 0 = 0 := by rw [hcnt]; rfl
  have hhit' : ∀ i, i < nt → sameB (L i) (Z i) no y = true → cnt (i + 1) = cnt i + 1 ∧ cnt i < (svN (fun i => sameB (L i) (Z i) no y) (fun i => strOfB (B i) (V i)) nt).length ∧ (svN (fun i => sameB (L i) (Z i) no y) (fun i => strOfB (B i) (V i)) nt).getD (cnt i) ByteArray.empty = strOfB (B i) (V i) := by
    rw [hcnt]; exact hhit
  have hmiss' : ∀ i, i < nt → sameB (L i) (Z i) no y = false → cnt (i + 1) = cnt i := by
    rw [hcnt]; exact fun i _ h => hmiss i h
  clear hhit hmiss hcnt
  generalize svN (fun i => sameB (L i) (Z i) no y) (fun i => strOfB (B i) (V i)) nt = W at *
  generalize hXd : svN (fun i => sameB (L i) (Z i) no y) (fun i => strOfB (B i) (V i)) q = X at *
  generalize hYd : svN (fun i => sameB (L (q + i)) (Z (q + i)) no y) (fun i => strOfB (B (q + i)) (V (q + i))) (nt - q) = Y at *
  have HF : Hid ((∀ i, i < X.length → X.getD i ByteArray.empty = W.getD i ByteArray.empty) ∧ (∀ i, Y.getD i ByteArray.empty = W.getD (X.length + i) ByteArray.empty) ∧ W.length = X.length + Y.length ∧ cnt nt = W.length ∧ cnt 0 = 0) := ⟨hX, hY, hlen, hcn, hc0⟩
  have HH : Hid (∀ i, i < nt → sameB (L i) (Z i) no y = true → cnt (i + 1) = cnt i + 1 ∧ cnt i < W.length ∧ W.getD (cnt i) ByteArray.empty = strOfB (B i) (V i)) := hhit'
  have HM : Hid (∀ i, i < nt → sameB (L i) (Z i) no y = false → cnt (i + 1) = cnt i) := hmiss'
  have HX : Hid (svN (fun i => sameB (L i) (Z i) no y) (fun i => strOfB (B i) (V i)) q = X) := hXd
  have HY : Hid (svN (fun i => sameB (L (q + i)) (Z (q + i)) no y) (fun i => strOfB (B (q + i)) (V (q + i))) (nt - q) = Y) := hYd
  clear hX hY hlen hcn hc0 hhit' hmiss' hXd hYd
  obtain ⟨x1, y1, hs1, rx1⟩ := cut_left 27 30 Try.underlying27 Try.size30 rt4 q hq
  obtain ⟨x2, y2, hs2, rx2⟩ := cut_left 28 9 Try.underlying28 Try.size9 rv4 q hq
  obtain ⟨x3, y3, hs3, rx3⟩ := cut_left 29 4 Try.underlying29 Try.size4 rs4 q hq
  go_wp2_with fail
  go_cut [15] from 87 to 97 (fun s wd => ∃ al cl, s = .slice al X.length cl ∧ Row wd al X.length cl (fun i => .string (X.getD i ByteArray.empty)) ∧ Below w4.heap.size w4 wd)
  case first =>
    go_region_held3 (fun _ => True) (trivial) ((go_at_call 10; refine (zz_any w4.drew x1 q y1 x2 y2 x3 y3 ao1 no co1 y A L C Z V B (by omega) h4 (fun i hi => hL i (by omega)) rx1.drew rx2.drew rx3.drew ro4.drew (fun i hi => (hrow4 i (by omega)).drew)).mono ?_; rw [HX.out]; rintro e w5 ⟨al, cl, rfl, rl5, hb5⟩))
    go_wp2_with fail
    go_meet
    case rel => exact ⟨al, cl, rfl, rl5, (Below.refl _ _).drew.trans hb5⟩
  case rest =>
  obtain ⟨al, cl, rfl, rl5, hb5⟩ := hcut
  obtain ⟨w5, hw5⟩ : ∃ x, x = wc := ⟨_, rfl⟩
  subst hw5
  have rv5 := rv4.below (Nat.le_refl _) hb5
  have rt5 := rt4.below (Nat.le_refl _) hb5
  have rs5 := rs4.below (Nat.le_refl _) hb5
  have ro5 := ro4.below (Nat.le_refl _) hb5
  have rw5 := rw4.below (Nat.le_refl _) hb5
  have hrow5 := fun i hi => (hrow4 i hi).below (Nat.le_refl _) hb5
  have hb05 : Below w.heap.size w w5 := hb04.trans (hb5.mono hb04.size)
  clear rs4 rt4 ro4 hrow4 rv4 hb04 hb5 rw4 hs1 hs2 hs3 rx1 rx2 rx3
  obtain ⟨x4, y4, hs1, rx1⟩ := cut_right 27 30 Try.underlying27 Try.size30 rt5 q hq
  obtain ⟨x5, y5, hs2, rx2⟩ := cut_right 28 9 Try.underlying28 Try.size9 rv5 q hq
  obtain ⟨x6, y6, hs3, rx3⟩ := cut_right 29 4 Try.underlying29 Try.size4 rs5 q hq
  go_wp2_with fail
  go_cut [16] from 98 to 108 (fun s wd => ∃ ar cr, s = .slice ar Y.length cr ∧ Row wd ar Y.length cr (fun i => .string (Y.getD i ByteArray.empty)) ∧ Below w5.heap.size w5 wd)
  case first =>
    go_region_held3 (fun _ => True) (trivial) ((go_at_call 10; refine (zz_any w5.drew x4 (nt - q) y4 x5 y5 x6 y6 ao1 no co1 y (fun i => A (q + i)) (fun i => L (q + i)) (fun i => C (q + i)) (fun i => Z (q + i)) (fun i => V (q + i)) (fun i => B (q + i)) (by omega) h4 (fun i hi => hL (q + i) (by omega)) rx1.drew rx2.drew rx3.drew ro5.drew (fun i hi => (hrow5 (q + i) (by omega)).drew)).mono ?_; rw [HY.out]; rintro e w6 ⟨ar, cr, rfl, rr6, hb6⟩))
    go_wp2_with fail
    go_meet
    case rel => exact ⟨ar, cr, rfl, rr6, (Below.refl _ _).drew.trans hb6⟩
  case rest =>
  obtain ⟨ar, cr, rfl, rr6, hb6⟩ := hcut
  rename_i hK
  refine hK _ _ (tail1 w wc a nt ca av1 cv1 ab1 cb1 ao1 no co1 q A L C Z V B y aw al ar W.length X.length Y.length cw cl cr (fun i => W.getD i ByteArray.empty) (fun i => X.getD i ByteArray.empty) (fun i => Y.getD i ByteArray.empty) h1 h4 hL ?_
    (rt5.below (Nat.le_refl _) hb6) (rv5.below (Nat.le_refl _) hb6) (rs5.below (Nat.le_refl _) hb6) (ro5.below (Nat.le_refl _) hb6) (fun i hi => (hrow5 i hi).below (Nat.le_refl _) hb6) (rw5.below (Nat.le_refl _) hb6) (rl5.below (Nat.le_refl _) hb6) rr6
    HF.out.2.2.1 HF.out.1 (fun i _ => HF.out.2.1 i) cnt HF.out.2.2.2.2 HH.out HM.out HF.out.2.2.2.1 (hb05.trans (hb6.mono hb05.size)) _ _ _ _ _ _ _ _ _ _ _ _ _ _ _ _ _ _ _ _ _ _ _ _ _ _ _ _ _ _ _ _ _ _ _ _ _ _ _ _ _ _ _ _ _ _ _ _ _ _ _ _ _ _ _ _ _ _ _ _ _ _ _ _ _ _ _ _ _ _ _ _ _ _ _ _ _ _ _ _ _ _ _ _ _ _ _ _ _ _ _ _ _ _ _ _ _ _ _ _ _ _ _ _ _ _ _ _ _ _ _ _ _ _ _ _ _ _ _ _ _ _ _ _ _ _ _ _ _ _ _ _ _ _ _ _ _ _ _ _ _ _ _ _ _ _ _ _ _ _ _ _ _ _ _ _ _ _ _ _ _ _ _ _ _ _ _ _ _ _ _ _ _ _ _ _ _ _)
  omega
end Go.Proofs.Qxb6615030a
