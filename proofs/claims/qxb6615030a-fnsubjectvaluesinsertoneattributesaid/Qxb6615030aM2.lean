/-
  The second law: the three slices with one attribute put in, built by append within the capacity; the second call.
-/
import Derived.Test.Qxb6615030aT2
namespace Go.Proofs.Qxb6615030a
open Go.ChangeShapes Go.WideShapes Go.ChangeAt Go.RowKit

/-- The cells of the first k elements. -/
def firsts (F : Nat → Value) (k : Nat) : List Value := (List.range k).map F
theorem firsts_succ (F : Nat → Value) (k : Nat) : firsts F (k + 1) = firsts F k ++ [F k] := by simp [firsts, List.range_succ]

theorem wpList_append_one {P : Program} {w : World} {ops : Array Oper} {rest : List Oper} {o : Oper} {a : Act} {Q : Exit → Act → World → Prop} (hgd : o.guard = none) (s x : Operand) (t : TypeId)
    (hop : o.op = Op.call { callee := Callee.builtin Builtin.append, args := #[s, x], argTypes := #[t, t] }) (base : Nat) (e : TypeId) (i : TypeInfo) (h1 : P.underlying t = some (.slice e)) (h2 : P.info? e = some i) (h4 : i.size = 1)
    (g k cap : Nat) (F : Nat → Value) (hs : a.eval s = .slice (some ⟨g, 0, none⟩) k cap) (hown : w.ownsRow base e 1 (.slice (some ⟨g, 0, none⟩) k cap) k (firsts F k)) (b : Nat) (hx : a.eval x = .slice (some ⟨b, 0, none⟩) 1 1)
    (hc : w.cell? ⟨b, 0, none⟩ = some (F k)) (h1c : (F k).oneCell' = true) (b1 : k + 1 ≤ cap)
    (hK : ∀ w', w'.ownsRow base e 1 (.slice (some ⟨g, 0, none⟩) (k + 1) cap) (k + 1) (firsts F (k + 1)) → w.grownBy w' (some g) → wpList P ops Q rest (a.put o.dst (.slice (some ⟨g, 0, none⟩) (k + 1) cap)) w') :
    wpList P ops Q (o :: rest) a w := by
  refine wpList_append_fits w hgd s x t hop base e i 1 h1 h2 h4 g k cap _ hs hown ⟨b, 0, none⟩ 1 1 [F k] hx rfl ?_ ?_ b1 ?_
  · intro j u hj
    match j, hj with
    | 0, hj => simp at hj; subst hj; simpa [Addr.add] using hc
  · intro u hu
    simp at hu
    subst hu
    exact h1c
  · intro w' ho hg
    refine hK w' ?_ hg
    rw [firsts_succ]
    exact ho

theorem row_of_own {w : World} {base e g n cap : Nat} {F : Nat → Value} (h : w.ownsRow base e 1 (.slice (some ⟨g, 0, none⟩) n cap) n (firsts F n)) (hle : n ≤ cap) : Row w (some ⟨g, 0, none⟩) n cap F := by
  refine ⟨hle, fun i hi => ⟨g, 0, rfl, ?_⟩⟩
  rw [Nat.zero_add, h.cellAt i (by omega)]
  simp [firsts, hi]

/-- The three rows that are being built, each in a block of its own. -/
structure Tri (w0 w : World) (g1 g2 g3 k1 k2 k3 cap : Nat) (F1 F2 F3 : Nat → Value) : Prop where
  o1 : w.ownsRow w0.heap.size 30 1 (.slice (some ⟨g1, 0, none⟩) k1 cap) k1 (firsts F1 k1)
  o2 : w.ownsRow w0.heap.size 9 1 (.slice (some ⟨g2, 0, none⟩) k2 cap) k2 (firsts F2 k2)
  o3 : w.ownsRow w0.heap.size 4 1 (.slice (some ⟨g3, 0, none⟩) k3 cap) k3 (firsts F3 k3)
  n12 : g1 ≠ g2
  n13 : g1 ≠ g3
  n23 : g2 ≠ g3
  bel : Below w0.heap.size w0 w

section
variable {w0 w w' : World} {g1 g2 g3 k1 k2 k3 cap : Nat} {F1 F2 F3 : Nat → Value}
theorem Tri.alloc (h : Tri w0 w g1 g2 g3 k1 k2 k3 cap F1 F2 F3) (o : Obj) : Tri w0 (w.alloc o) g1 g2 g3 k1 k2 k3 cap F1 F2 F3 :=
  ⟨h.o1.alloc _, h.o2.alloc _, h.o3.alloc _, h.n12, h.n13, h.n23, h.bel.alloc h.bel.size _⟩
theorem Tri.step1 (h : Tri w0 w g1 g2 g3 k1 k2 k3 cap F1 F2 F3) (ho : w'.ownsRow w0.heap.size 30 1 (.slice (some ⟨g1, 0, none⟩) (k1 + 1) cap) (k1 + 1) (firsts F1 (k1 + 1))) (hg : w.grownBy w' (some g1)) :
    Tri w0 w' g1 g2 g3 (k1 + 1) k2 k3 cap F1 F2 F3 :=
  ⟨ho, h.o2.kept hg (.inr (by simpa [Value.ownBlock] using h.n12.symm)), h.o3.kept hg (.inr (by simpa [Value.ownBlock] using h.n13.symm)), h.n12, h.n13, h.n23, h.bel.grown hg h.bel.size (fun q hq => by cases hq; exact (h.o1.lt g1 rfl).1)⟩
theorem Tri.step2 (h : Tri w0 w g1 g2 g3 k1 k2 k3 cap F1 F2 F3) (ho : w'.ownsRow w0.heap.size 9 1 (.slice (some ⟨g2, 0, none⟩) (k2 + 1) cap) (k2 + 1) (firsts F2 (k2 + 1))) (hg : w.grownBy w' (some g2)) :
    Tri w0 w' g1 g2 g3 k1 (k2 + 1) k3 cap F1 F2 F3 :=
  ⟨h.o1.kept hg (.inr (by simpa [Value.ownBlock] using h.n12)), ho, h.o3.kept hg (.inr (by simpa [Value.ownBlock] using h.n23.symm)), h.n12, h.n13, h.n23, h.bel.grown hg h.bel.size (fun q hq => by cases hq; exact (h.o2.lt g2 rfl).1)⟩
theorem Tri.step3 (h : Tri w0 w g1 g2 g3 k1 k2 k3 cap F1 F2 F3) (ho : w'.ownsRow w0.heap.size 4 1 (.slice (some ⟨g3, 0, none⟩) (k3 + 1) cap) (k3 + 1) (firsts F3 (k3 + 1))) (hg : w.grownBy w' (some g3)) :
    Tri w0 w' g1 g2 g3 k1 k2 (k3 + 1) cap F1 F2 F3 :=
  ⟨h.o1.kept hg (.inr (by simpa [Value.ownBlock] using h.n13)), h.o2.kept hg (.inr (by simpa [Value.ownBlock] using h.n23)), ho, h.n12, h.n13, h.n23, h.bel.grown hg h.bel.size (fun q hq => by cases hq; exact (h.o3.lt g3 rfl).1)⟩
end

theorem Try.info4 : (Try.prog.info? 4).map (fun i => (i.zero, i.size, i.bytes)) = some (some (.bool false), 1, 1) := by kernel_rfl
theorem Try.info3 : (Try.prog.info? 3).map (fun i => (i.zero, i.size, i.bytes)) = some (some (.int .i64 0), 1, 8) := by kernel_rfl
theorem Try.info30 : (Try.prog.info? 30).map (fun i => (i.zero, i.size, i.bytes)) = some (some (.slice none 0 0), 1, 24) := by kernel_rfl

/-- 'make([]T, 0, n+1)' -/
theorem make_room (t e : TypeId) (z : Value) (bytes : Nat) (ht : Try.prog.underlying t = some (.slice e)) (hinfo : (Try.prog.info? e).map (fun i => (i.zero, i.size, i.bytes)) = some (some z, 1, bytes)) (hz : z.cells = #[z]) (n : Nat) (hn : n ≤ 1048576) (hb : bytes ≤ 64) (w : World) :
    (Instr.makeSlice t (.int .i64 0) (.int .i64 ((n : Int) + 1))).run Try.prog w = .ok (.slice (some ⟨w.heap.size, 0, none⟩) 0 (n + 1)) (w.alloc (.cells (madeCells #[z] (n + 1)) e)) := by
  obtain ⟨i, hi, hz0, hz1, hz2⟩ := info_parts hinfo
  have hm : bytes * (n + 1) ≤ 64 * 1048577 := Nat.mul_le_mul hb (by omega)
  have hm' : (i.bytes : Int) * ((n : Int) + 1) ≤ 281474976710656 := by
    have h : ((bytes * (n + 1) : Nat) : Int) ≤ ((64 * 1048577 : Nat) : Int) := Int.ofNat_le.2 hm
    have e : ((n + 1 : Nat) : Int) = (n : Int) + 1 := by omega
    rw [Int.natCast_mul, e] at h
    rw [hz2]
    omega
  have hr := run_make (P := Try.prog) w t e i z ht hi hz0 .i64 .i64 0 ((n : Int) + 1) (by omega) (by omega) hm' (by omega)
  have e1 : ((n : Int) + 1).toNat = n + 1 := by omega
  rw [hr, e1, hz1, hz, Nat.mul_one]
  rfl

set_option maxRecDepth 100000 in
set_option maxHeartbeats 4000000 in
theorem mid2 (w0 w : World) (a : Option Addr) (nt ca : Nat) (av : Option Addr) (cv : Nat) (ab : Option Addr) (cb : Nat) (ao : Option Addr) (no co : Nat) (pos : Nat) (val : ByteArray) (vb : Bool) (A : Nat → Option Addr) (L C : Nat → Nat) (Z : Nat → Nat → Int) (V : Nat → ByteArray) (B : Nat → Bool) (y : Nat → Int)
    (A' : Nat → Option Addr) (L' C' : Nat → Nat) (Z' : Nat → Nat → Int) (V' : Nat → ByteArray) (B' : Nat → Bool)
    (ax : Option Addr) (tot cx : Nat) (FB : Nat → ByteArray) (h1 : nt ≤ 1048576) (h1' : nt + 1 ≤ 1048576) (h4 : no ≤ 1048576) (hL : ∀ i, i < nt → L i ≤ 1048576) (htot : tot ≤ 1048576) (hpos : pos ≤ nt)
    (rt : Row w a nt ca (fun i => .slice (A i) (L i) (C i))) (rv : Row w av nt cv (fun i => .string (V i))) (rs : Row w ab nt cb (fun i => .bool (B i))) (ro : Row w ao no co (fun i => .int .i64 (y i)))
    (hrow : ∀ i, i < nt → Row w (A i) (L i) (C i) (fun j => .int .i64 (Z i j)))
    (hlow : ∀ i, i < pos → Value.slice (A' i) (L' i) (C' i) = .slice (A i) (L i) (C i) ∧ V' i = V i ∧ B' i = B i) (hat : Value.slice (A' pos) (L' pos) (C' pos) = .slice ao no co ∧ V' pos = val ∧ B' pos = vb)
    (hhigh : ∀ i, pos ≤ i → i < nt → Value.slice (A' (i + 1)) (L' (i + 1)) (C' (i + 1)) = .slice (A i) (L i) (C i) ∧ V' (i + 1) = V i ∧ B' (i + 1) = B i)
    (hrow' : ∀ i, i < nt + 1 → Row w (A' i) (L' i) (C' i) (fun j => .int .i64 (Z' i j))) (hL' : ∀ i, i < nt + 1 → L' i ≤ 1048576)
    (rx : Row w ax tot cx (fun i => .string (FB i))) (W : List ByteArray) (hW : svN (fun i => sameB (L' i) (Z' i) no y) (fun i => strOfB (B' i) (V' i)) (nt + 1) = W) (hWl : W.length = tot + 1)
    (cnt : Nat → Nat) (hc0 : cnt 0 = 0) (hhit : ∀ i, i < nt → sameB (L i) (Z i) no y = true → cnt (i + 1) = cnt i + 1) (hmiss : ∀ i, i < nt → sameB (L i) (Z i) no y = false → cnt (i + 1) = cnt i) (hcn : cnt nt = tot) (hcb : ∀ i, i ≤ nt → cnt i ≤ tot)
    (hlo : ∀ i, i < cnt pos → FB i = W.getD i ByteArray.empty) (hmid : W.getD (cnt pos) ByteArray.empty = strOfB vb val) (hhi : ∀ i, cnt pos ≤ i → i < tot → FB i = W.getD (i + 1) ByteArray.empty)
    (hb : Below w0.heap.size w0 w)
    (u7 u8 u9 u10 u11 u12 u13 u14 u15 u16 u17 u19 u20 u21 u22 u23 u24 u25 u26 u27 u28 u29 u30 u31 u32 u33 u34 u35 u36 u37 u38 u39 u40 u41 u42 u43 u44 u45 u46 u47 u48 u49 u50 u51 u52 u53 u54 u55 u56 u57 u58 u59 u60 u61 u62 u63 u64 u65 u66 u67 u68 u69 u70 u71 u72 u73 u74 u75 u76 u77 u78 u79 u80 u81 u82 u83 u84 u85 u86 u87 u88 u89 u90 u91 u92 u93 u94 u95 u96 u97 u98 u99 u100 u101 u102 u103 u104 u105 u106 u107 u108 u109 u110 u111 u112 u113 u114 u115 u116 u117 u118 u119 u120 u121 u122 u123 u124 u125 u126 u127 u128 u129 u130 u131 u132 u133 u134 u135 u136 u137 u138 u139 u140 u141 u142 u143 u144 u145 u146 u147 u148 u149 u150 u151 u152 u153 u154 u155 u156 u157 u158 u159 u160 u161 u162 u163 u164 u165 u166 u167 u168 u169 u170 u171 u172 u173 u174 u175 u176 u177 u178 u179 u180 u181 u182 u183 u184 u185 u186 u187 u188 u189 u190 u191 u192 u193 u194 u195 u196 u197 u198 u199 u200 u201 u202 u203 u204 u205 u206 u207 u208 u209 u210 u211 u212 u213 u214 u215 u216 u217 u218 u219 u220 u221 u222 u223 u224 u225 u226 u227 u228 u229 u230 u231 u232 u233 u234 u235 u236 u237 u238 u239 u240 u241 u242 u243 u244 u245 u246 u247 u248 u249 u250 u251 u252 u253 : Value) :
    Code.wp Try.prog (dropS 9 (Try.f6.body.getD .skip)) (bodyPost Try.prog Try.f6 fun e w' => e = .returned (.bool true) ∧ Below w0.heap.size w0 w') ⟨#[.slice a nt ca, .slice av nt cv, .slice ab nt cb, .slice ao no co, .int .i64 pos, .string val, .bool vb, u7, u8, u9, u10, u11, u12, u13, u14, u15, u16, u17, .slice ax tot cx, u19, u20, u21, u22, u23, u24, u25, u26, u27, u28, u29, u30, u31, u32, u33, u34, u35, u36, u37, u38, u39, u40, u41, u42, u43, u44, u45, u46, u47, u48, u49, u50, u51, u52, u53, u54, u55, u56, u57, u58, u59, u60, u61, u62, u63, u64, u65, u66, u67, u68, u69, u70, u71, u72, u73, u74, u75, u76, u77, u78, u79, u80, u81, u82, u83, u84, u85, u86, u87, u88, u89, u90, u91, u92, u93, u94, u95, u96, u97, u98, u99, u100, u101, u102, u103, u104, u105, u106, u107, u108, u109, u110, u111, u112, u113, u114, u115, u116, u117, u118, u119, u120, u121, u122, u123, u124, u125, u126, u127, u128, u129, u130, u131, u132, u133, u134, u135, u136, u137, u138, u139, u140, u141, u142, u143, u144, u145, u146, u147, u148, u149, u150, u151, u152, u153, u154, u155, u156, u157, u158, u159, u160, u161, u162, u163, u164, u165, u166, u167, u168, u169, u170, u171, u172, u173, u174, u175, u176, u177, u178, u179, u180, u181, u182, u183, u184, u185, u186, u187, u188, u189, u190, u191, u192, u193, u194, u195, u196, u197, u198, u199, u200, u201, u202, u203, u204, u205, u206, u207, u208, u209, u210, u211, u212, u213, u214, u215, u216, u217, u218, u219, u220, u221, u222, u223, u224, u225, u226, u227, u228, u229, u230, u231, u232, u233, u234, u235, u236, u237, u238, u239, u240, u241, u242, u243, u244, u245, u246, u247, u248, u249, u250, u251, u252, u253], []⟩ w := by
  have HT : Hid ((∀ i, i < nt → sameB (L i) (Z i) no y = true → cnt (i + 1) = cnt i + 1) ∧ (∀ i, i < nt → sameB (L i) (Z i) no y = false → cnt (i + 1) = cnt i) ∧ cnt nt = tot ∧ (∀ i, i ≤ nt → cnt i ≤ tot) ∧ (∀ i, i < cnt pos → FB i = W.getD i ByteArray.empty) ∧ W.getD (cnt pos) ByteArray.empty = strOfB vb val ∧ (∀ i, cnt pos ≤ i → i < tot → FB i = W.getD (i + 1) ByteArray.empty) ∧ cnt 0 = 0) := ⟨hhit, hmiss, hcn, hcb, hlo, hmid, hhi, hc0⟩
  have HW : Hid (svN (fun i => sameB (L' i) (Z' i) no y) (fun i => strOfB (B' i) (V' i)) (nt + 1) = W ∧ W.length = tot + 1) := ⟨hW, hWl⟩
  have HL : Hid ((∀ i, i < nt → L i ≤ 1048576) ∧ ∀ i, i < nt + 1 → L' i ≤ 1048576) := ⟨hL, hL'⟩
  have HR : Hid ((∀ i, i < nt → Row w (A i) (L i) (C i) (fun j => .int .i64 (Z i j))) ∧ ∀ i, i < nt + 1 → Row w (A' i) (L' i) (C' i) (fun j => .int .i64 (Z' i j))) := ⟨hrow, hrow'⟩
  have H1 : Hid (∀ i, i < pos → Value.slice (A' i) (L' i) (C' i) = .slice (A i) (L i) (C i) ∧ V' i = V i ∧ B' i = B i) := hlow
  have H2 : Hid (Value.slice (A' pos) (L' pos) (C' pos) = .slice ao no co ∧ V' pos = val ∧ B' pos = vb) := hat
  have H3 : Hid (∀ i, pos ≤ i → i < nt → Value.slice (A' (i + 1)) (L' (i + 1)) (C' (i + 1)) = .slice (A i) (L i) (C i) ∧ V' (i + 1) = V i ∧ B' (i + 1) = B i) := hhigh
  clear hhit hmiss hcn hcb hlo hmid hhi hc0 hW hWl hL hL' hrow hrow' hlow hat hhigh
  obtain ⟨i30, hi30, _, hs30, _⟩ := info_parts Try.info30
  obtain ⟨i9, hi9, _, hs9, _⟩ := info_parts Try.info9
  obtain ⟨i4, hi4, _, hs4, _⟩ := info_parts Try.info4
  have hm27 := make_room 27 30 _ _ Try.underlying27 Try.info30 rfl nt h1 (by omega)
  have hm28 := make_room 28 9 _ _ Try.underlying28 Try.info9 rfl nt h1 (by omega)
  have hm29 := make_room 29 4 _ _ Try.underlying29 Try.info4 rfl nt h1 (by omega)
  conv => arg 2; whnf
  go_wp2_with fail
  clear hm27 hm28 hm29
  go_loopw [19, 20, 21, 22] (fun s1 s2 s3 i wr => ∃ k : Nat, k ≤ pos ∧ i = .int .i64 k ∧ s1 = .slice (some ⟨w.heap.size, 0, none⟩) k (nt + 1) ∧ s2 = .slice (some ⟨w.heap.size + 1, 0, none⟩) k (nt + 1) ∧ s3 = .slice (some ⟨w.heap.size + 1 + 1, 0, none⟩) k (nt + 1) ∧ Tri w wr w.heap.size (w.heap.size + 1) (w.heap.size + 1 + 1) k k k (nt + 1) (fun i => Value.slice (A' i) (L' i) (C' i)) (fun i => Value.string (V' i)) (fun i => Value.bool (B' i))) (fun _ _ _ i _ => pos - (intOf i).toNat)
  case atStart =>
    refine ⟨0, Nat.zero_le _, rfl, rfl, rfl, rfl, ?_⟩
    refine ⟨((World.ownsRow_made w _ (nt + 1) (Nat.le_refl _) (by unfold maxLen; omega) (by simp [size_madeCells])).alloc _).alloc _, ?_, ?_, by omega, by omega, by omega, (((Below.refl _ _).alloc (Nat.le_refl _) _).alloc (by simp) _).alloc (by simp; omega) _⟩
    · have := World.ownsRow_made (base := w.heap.size) (e := 9) (size := 1) (w.alloc (.cells (madeCells #[Value.slice none 0 0] (nt + 1)) 30)) (madeCells #[Value.string ByteArray.empty] (nt + 1)) (nt + 1) (by simp) (by unfold maxLen; omega) (by simp [size_madeCells])
      simpa [firsts] using this.alloc _
    · have := World.ownsRow_made (base := w.heap.size) (e := 4) (size := 1) ((w.alloc (.cells (madeCells #[Value.slice none 0 0] (nt + 1)) 30)).alloc (.cells (madeCells #[Value.string ByteArray.empty] (nt + 1)) 9)) (madeCells #[Value.bool false] (nt + 1)) (nt + 1) (by simp; omega) (by unfold maxLen; omega) (by simp [size_madeCells])
      simpa [firsts] using this
  case round =>
    obtain ⟨k, hk, rfl, rfl, rfl, rfl, tri⟩ := hrel
    by_cases hlt : k < pos
    · obtain ⟨bt, ot, rfl⟩ := rt.some (by omega)
      obtain ⟨bv, ov, rfl⟩ := rv.some (by omega)
      obtain ⟨bs, os, rfl⟩ := rs.some (by omega)
      have d1 := (rt.below (Nat.le_refl _) tri.bel).at k (by omega)
      go_wp2_with (first | (at_builtin; refine wpList_append_one rfl (.tmp 120) (.tmp 125) 27 rfl w.heap.size 30 i30 Try.underlying27 hi30 hs30 (w.heap.size) k (nt + 1) (fun i => Value.slice (A' i) (L' i) (C' i)) rfl ?_ _ rfl ?_ rfl ?_ ?_))
      · exact (tri.alloc _).o1
      · show _ = some (Value.slice _ _ _); rw [(H1.out k hlt).1]; simp
      · omega
      intro wr1 ho1 hg1
      have t1 := (tri.alloc _).step1 ho1 hg1
      clear ho1 hg1
      have d2 := (rv.below (Nat.le_refl _) t1.bel).at k (by omega)
      go_wp2_with (first | (at_builtin; refine wpList_append_one rfl (.tmp 127) (.tmp 132) 28 rfl w.heap.size 9 i9 Try.underlying28 hi9 hs9 (w.heap.size + 1) k (nt + 1) (fun i => Value.string (V' i)) rfl ?_ _ rfl ?_ rfl ?_ ?_))
      · exact (t1.alloc _).o2
      · show _ = some (_ : Value); simp only [(H1.out k hlt).2.1]; simp
      · omega
      intro wr2 ho2 hg2
      have t2 := (t1.alloc _).step2 ho2 hg2
      clear ho2 hg2
      have d3 := (rs.below (Nat.le_refl _) t2.bel).at k (by omega)
      go_wp2_with (first | (at_builtin; refine wpList_append_one rfl (.tmp 134) (.tmp 139) 29 rfl w.heap.size 4 i4 Try.underlying29 hi4 hs4 (w.heap.size + 1 + 1) k (nt + 1) (fun i => Value.bool (B' i)) rfl ?_ _ rfl ?_ rfl ?_ ?_))
      · exact (t2.alloc _).o3
      · show _ = some (_ : Value); simp only [(H1.out k hlt).2.2]; simp
      · omega
      intro wr3 ho3 hg3
      have t3 := (t2.alloc _).step3 ho3 hg3
      clear ho3 hg3
      go_wp2_with fail
      go_roundw
      case rel => exact ⟨k + 1, by omega, by go_num, rfl, rfl, rfl, t3⟩
      case measure => simp [intOf]; omega
    · have hkp : pos = k := by omega
      subst hkp
      go_wp2_with (first | (at_builtin; refine wpList_append_one rfl (.tmp 141) (.tmp 143) 27 rfl w.heap.size 30 i30 Try.underlying27 hi30 hs30 (w.heap.size) pos (nt + 1) (fun i => Value.slice (A' i) (L' i) (C' i)) rfl ?_ _ rfl ?_ rfl ?_ ?_))
      · exact (tri.alloc _).o1
      · show _ = some (Value.slice _ _ _); rw [H2.out.1]; simp
      · omega
      intro wr1 ho1 hg1
      have t1 := (tri.alloc _).step1 ho1 hg1
      clear ho1 hg1
      go_wp2_with (first | (at_builtin; refine wpList_append_one rfl (.tmp 145) (.tmp 147) 28 rfl w.heap.size 9 i9 Try.underlying28 hi9 hs9 (w.heap.size + 1) pos (nt + 1) (fun i => Value.string (V' i)) rfl ?_ _ rfl ?_ rfl ?_ ?_))
      · exact (t1.alloc _).o2
      · show _ = some (_ : Value); simp only [H2.out.2.1]; simp
      · omega
      intro wr2 ho2 hg2
      have t2 := (t1.alloc _).step2 ho2 hg2
      clear ho2 hg2
      go_wp2_with (first | (at_builtin; refine wpList_append_one rfl (.tmp 149) (.tmp 151) 29 rfl w.heap.size 4 i4 Try.underlying29 hi4 hs4 (w.heap.size + 1 + 1) pos (nt + 1) (fun i => Value.bool (B' i)) rfl ?_ _ rfl ?_ rfl ?_ ?_))
      · exact (t2.alloc _).o3
      · show _ = some (_ : Value); simp only [H2.out.2.2]; simp
      · omega
      intro wr3 ho3 hg3
      have t3 := (t2.alloc _).step3 ho3 hg3
      clear ho3 hg3
      go_wp2_with fail
      go_loopw [19, 20, 21, 23] (fun s1 s2 s3 i wr => ∃ k : Nat, pos ≤ k ∧ k ≤ nt ∧ i = .int .i64 k ∧ s1 = .slice (some ⟨w.heap.size, 0, none⟩) (k + 1) (nt + 1) ∧ s2 = .slice (some ⟨w.heap.size + 1, 0, none⟩) (k + 1) (nt + 1) ∧ s3 = .slice (some ⟨w.heap.size + 1 + 1, 0, none⟩) (k + 1) (nt + 1) ∧ Tri w wr w.heap.size (w.heap.size + 1) (w.heap.size + 1 + 1) (k + 1) (k + 1) (k + 1) (nt + 1) (fun i => Value.slice (A' i) (L' i) (C' i)) (fun i => Value.string (V' i)) (fun i => Value.bool (B' i))) (fun _ _ _ i _ => nt - (intOf i).toNat)
      case atStart => exact ⟨pos, Nat.le_refl _, hpos, rfl, rfl, rfl, rfl, t3⟩
      case round =>
      obtain ⟨m, hm1, hm2, rfl, rfl, rfl, rfl, tri2⟩ := hrel
      by_cases hlt2 : m < nt
      · obtain ⟨bt, ot, rfl⟩ := rt.some (by omega)
        obtain ⟨bv, ov, rfl⟩ := rv.some (by omega)
        obtain ⟨bs, os, rfl⟩ := rs.some (by omega)
        have d1 := (rt.below (Nat.le_refl _) tri2.bel).at m (by omega)
        clear tri t1 t2 t3
        go_wp2_with (first | (at_builtin; refine wpList_append_one rfl (.tmp 160) (.tmp 165) 27 rfl w.heap.size 30 i30 Try.underlying27 hi30 hs30 (w.heap.size) (m + 1) (nt + 1) (fun i => Value.slice (A' i) (L' i) (C' i)) rfl ?_ _ rfl ?_ rfl ?_ ?_))
        · exact (tri2.alloc _).o1
        · show _ = some (Value.slice _ _ _); rw [(H3.out m hm1 hlt2).1]; simp
        · omega
        intro wx1 ho1 hg1
        have q1 := (tri2.alloc _).step1 ho1 hg1
        clear ho1 hg1
        have d2 := (rv.below (Nat.le_refl _) q1.bel).at m (by omega)
        go_wp2_with (first | (at_builtin; refine wpList_append_one rfl (.tmp 167) (.tmp 172) 28 rfl w.heap.size 9 i9 Try.underlying28 hi9 hs9 (w.heap.size + 1) (m + 1) (nt + 1) (fun i => Value.string (V' i)) rfl ?_ _ rfl ?_ rfl ?_ ?_))
        · exact (q1.alloc _).o2
        · show _ = some (_ : Value); simp only [(H3.out m hm1 hlt2).2.1]; simp
        · omega
        intro wx2 ho2 hg2
        have q2 := (q1.alloc _).step2 ho2 hg2
        clear ho2 hg2
        have d3 := (rs.below (Nat.le_refl _) q2.bel).at m (by omega)
        go_wp2_with (first | (at_builtin; refine wpList_append_one rfl (.tmp 174) (.tmp 179) 29 rfl w.heap.size 4 i4 Try.underlying29 hi4 hs4 (w.heap.size + 1 + 1) (m + 1) (nt + 1) (fun i => Value.bool (B' i)) rfl ?_ _ rfl ?_ rfl ?_ ?_))
        · exact (q2.alloc _).o3
        · show _ = some (_ : Value); simp only [(H3.out m hm1 hlt2).2.2]; simp
        · omega
        intro wx3 ho3 hg3
        have q3 := (q2.alloc _).step3 ho3 hg3
        clear ho3 hg3
        go_wp2_with fail
        go_roundw
        case rel => exact ⟨m + 1, by omega, by omega, by go_num, rfl, rfl, rfl, q3⟩
        case measure => simp [intOf]; omega
      · have hmn : nt = m := by omega
        subst hmn
        clear tri t1 t2 t3
        have rt2 := row_of_own tri2.o1 (Nat.le_refl _)
        have rv2 := row_of_own tri2.o2 (Nat.le_refl _)
        have rs2 := row_of_own tri2.o3 (Nat.le_refl _)
        have ro2 := ro.below (Nat.le_refl _) tri2.bel
        have rt3 := rt.below (Nat.le_refl _) tri2.bel
        have rx2 := rx.below (Nat.le_refl _) tri2.bel
        have hrow2 := fun i hi => (HR.out.2 i hi).below (Nat.le_refl _) tri2.bel
        have hrow3 := fun i hi => (HR.out.1 i hi).below (Nat.le_refl _) tri2.bel
        have hb2 : Below w0.heap.size w0 wr := hb.trans (tri2.bel.mono hb.size)
        clear tri2 rt rv rs ro rx hb HR H1 H2 H3
        go_upto_region 40 with fail
        go_cut [24] (fun s wd => ∃ ay cy, s = .slice ay (tot + 1) cy ∧ Row wd ay (tot + 1) cy (fun i => .string (W.getD i ByteArray.empty)) ∧ Below wr.heap.size wr wd)
        case first =>
          go_wp2_with fail
          refine (zz_any _ _ (nt + 1) _ _ _ _ _ ao no co y A' L' C' Z' V' B' h1' h4 HL.out.2 rt2 rv2 rs2 ro2 hrow2).mono ?_
          rw [HW.out.1, HW.out.2]
          rintro e wz ⟨ay, cy, rfl, ry, hb3⟩
          go_wp2_with fail
          go_meet
          case rel => exact ⟨ay, cy, rfl, ry, hb3⟩
        case rest =>
        obtain ⟨ay, cy, rfl, ry, hb3⟩ := hcut
        rename_i hK
        exact hK _ _ (tail2 w0 wc a nt ca ao no co pos val vb A L C Z y ax ay tot cx cy FB (fun i => W.getD i ByteArray.empty) h1 h4 HL.out.1 htot hpos (rt3.below (Nat.le_refl _) hb3) (ro2.below (Nat.le_refl _) hb3) (fun i hi => (hrow3 i hi).below (Nat.le_refl _) hb3) (rx2.below (Nat.le_refl _) hb3) ry cnt
          HT.out.2.2.2.2.2.2.2 HT.out.1 HT.out.2.1 HT.out.2.2.1 HT.out.2.2.2.1 HT.out.2.2.2.2.1 HT.out.2.2.2.2.2.1 HT.out.2.2.2.2.2.2.1 (hb2.trans (hb3.mono hb2.size)) _ _ _ _ _ _ _ _ _ _ _ _ _ _ _ _ _ _ _ _ _ _ _ _ _ _ _ _ _ _ _ _ _ _ _ _ _ _ _ _ _ _ _ _ _ _ _ _ _ _ _ _ _ _ _ _ _ _ _ _ _ _ _ _ _ _ _ _ _ _ _ _ _ _ _ _ _ _ _ _ _ _ _ _ _ _ _ _ _ _ _ _ _ _ _ _ _ _ _ _ _ _ _ _ _ _ _ _ _ _ _ _ _ _ _ _ _ _ _ _ _ _ _ _ _ _ _ _ _ _ _ _ _ _ _ _ _ _ _ _ _ _ _ _ _ _ _ _ _ _ _ _ _ _ _ _ _ _ _ _ _ _ _ _ _ _ _ _ _ _ _ _ _ _ _ _ _ _ _ _ _ _ _ _ _ _ _ _ _ _ _ _ _ _ _ _ _ _ _ _ _ _ _ _ _ _ _ _ _ _ _ _ _ _ _ _ _ _ _ _ _ _ _ _ _ _ _ _ _ _ _ _ _ _ _ _ _ _ _ _ _ _ _ _ _ _ _)
end Go.Proofs.Qxb6615030a
