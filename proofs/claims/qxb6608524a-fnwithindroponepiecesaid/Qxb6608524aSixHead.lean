/-
  SEAT b6608524a: THE LAW 'FnWithinDropOnePiece': its head.
-/
import Derived.Test.Qxb6608524aSixMid
namespace Go.Proofs.Qxb6608524a
open Go.RowKit

set_option maxHeartbeats 8000000 in
set_option maxRecDepth 1000000 in
/-- From the sum of the lengths on. -/
theorem six_sum (n size count width i k : Int) (ba a1 a2 : Option Addr) (bn bc m1 m2 : Nat) (N : Nat → Nat) (F : Nat → Nat → Int) (X E : Nat → Int) (w wc : World) (hi1 : i ≤ 9223372036854775807) (hm1 : m1 ≤ 65536) (hm2 : m2 ≤ 65536) (hbn : bn ≤ 65536)
    (HN : Hid (∀ i, i < bn → N i ≤ 1048576)) (hnil : Hid (ba = none → bn = 0 ∧ bc = 0)) (HB : Hid (Blocks wc ba bn N F)) (HF : Hid (∀ a b, 0 ≤ F a b ∧ F a b ≤ 255))
    (HX : Hid (Ints wc a1 m1 X)) (HE : Hid (Ints wc a2 m2 E)) (hW : Below w.heap.size w wc) (c9 c10 c11 c12 c13 c14 c15 c16 c17 c18 c19 c20 c21 c22 c23 c24 c25 c26 c27 c28 c29 c30 c31 c32 c33 c34 c35 c36 c37 c38 c39 c40 c41 c42 c43 c44 c45 c46 c47 c48 c49 c50 c51 c52 c53 c54 c55 c56 c57 c58 c59 c60 c61 c62 c63 c64 c65 c66 c67 c68 c69 c70 c71 c72 c73 c74 c75 c76 c77 c78 c79 c80 c81 c82 c83 c84 c85 c86 c87 c88 c89 c90 c91 c92 c93 c94 c95 c96 c97 c98 c99 c100 c101 c102 c103 c104 c105 c106 c107 c108 c109 c110 c111 c112 c113 c114 c115 c116 c117 c118 c119 c120 c121 c122 c123 c124 c125 c126 c127 c128 c129 c130 c131 c132 c133 c134 c135 c136 c137 c138 c139 c140 c141 c142 c143 c144 c145 c146 c147 c148 c149 c150 c151 c152 c153 c154 c155 c156 c157 c158 c159 c160 c161 c162 c163 c164 c165 c166 c167 c168 c169 c170 c171 c172 c173 c174 c175 c176 c177 c178 c179 c180 c181 c182 c183 c184 c185 c186 c187 c188 c189 c190 c191 c192 c193 c194 c195 c196 c197 c198 c199 c200 c201 c202 c203 c204 c205 c206 c207 c208 c209 c210 c211 c212 c213 c214 c215 c216 c217 : Value) :
    Code.wp Try.prog (spine 5 (Try.f6.body.getD .skip)) (bodyPost Try.prog Try.f6 fun e w' => e = .returned (.bool true) ∧ Below w.heap.size w w') ⟨#[.int .i64 n, .int .i64 size, .int .i64 count, .int .i64 width, .slice ba bn bc, .slice a1 m1 m1, .slice a2 m2 m2, .int .i64 i, .int .i64 k, c9, c10, c11, c12, c13, c14, c15, c16, c17, c18, c19, c20, c21, c22, c23, c24, c25, c26, c27, c28, c29, c30, c31, c32, c33, c34, c35, c36, c37, c38, c39, c40, c41, c42, c43, c44, c45, c46, c47, c48, c49, c50, c51, c52, c53, c54, c55, c56, c57, c58, c59, c60, c61, c62, c63, c64, c65, c66, c67, c68, c69, c70, c71, c72, c73, c74, c75, c76, c77, c78, c79, c80, c81, c82, c83, c84, c85, c86, c87, c88, c89, c90, c91, c92, c93, c94, c95, c96, c97, c98, c99, c100, c101, c102, c103, c104, c105, c106, c107, c108, c109, c110, c111, c112, c113, c114, c115, c116, c117, c118, c119, c120, c121, c122, c123, c124, c125, c126, c127, c128, c129, c130, c131, c132, c133, c134, c135, c136, c137, c138, c139, c140, c141, c142, c143, c144, c145, c146, c147, c148, c149, c150, c151, c152, c153, c154, c155, c156, c157, c158, c159, c160, c161, c162, c163, c164, c165, c166, c167, c168, c169, c170, c171, c172, c173, c174, c175, c176, c177, c178, c179, c180, c181, c182, c183, c184, c185, c186, c187, c188, c189, c190, c191, c192, c193, c194, c195, c196, c197, c198, c199, c200, c201, c202, c203, c204, c205, c206, c207, c208, c209, c210, c211, c212, c213, c214, c215, c216, c217], []⟩ wc := by
  conv => arg 2; whnf
  dsimp only
  by_cases h1 : 8 * bn + 8 * m1 + 8 * m2 ≤ 1048576
  · have h1' : (8 : Int) * (bn : Int) + 8 * (m1 : Int) + 8 * (m2 : Int) ≤ 1048576 := by omega
    go_upto_block 0 with fail
    obtain ⟨z0, hz0⟩ : ∃ z0 : Int, 8 * (bn : Int) + 8 * (m1 : Int) + 8 * (m2 : Int) = z0 := ⟨_, rfl⟩
    try rw [hz0]
    go_cut [21, 22] from 87 (fun s21 s22 wx => wc = wx)
    case first =>
      go_wp2
      go_loopg [21, 22] bn (fun g s21 s22 wr => wc = wr ∧ ∃ (j : Nat) (z : Int), j ≤ bn ∧ g = bn - j ∧ s22 = .int .i64 j ∧ s21 = .int .i64 z ∧ 0 ≤ z ∧ z ≤ 1048576)
      case atStart => exact ⟨rfl, 0, _, Nat.zero_le _, rfl, rfl, rfl, by omega, by omega⟩
      case round =>
        obtain ⟨rfl, j, z, hj, rfl, rfl, rfl, hza, hzb⟩ := hrel
        clear hz0 h1 h1'
        by_cases hlt : j < bn
        · obtain ⟨b, o, ai, ci, rfl, c0, _, _⟩ := HB.out j hlt
          have hn := HN.out j hlt
          generalize N j = nj at *
          by_cases h3 : z + nj ≤ 1048576
          · go_wp2
            go_roundg (bn - (j + 1))
            case measure => omega
            case rel => exact ⟨rfl, j + 1, z + nj, by omega, rfl, by go_num, rfl, by omega, by omega⟩
          · go_wp2
            go_ret
            exact ⟨rfl, hW⟩
        · go_wp2
          go_meet
          case rel => rfl
    case rest =>
      subst hcut
      refine ‹∀ (a : Act) (w : World), Code.wp Try.prog _ _ a w → _› _ _ ?_
      exact six_mid n size count width i k ba a1 a2 bn bc m1 m2 N F X E w _ hi1 hm1 hm2 (by omega) HN hnil HB HF HX HE hW _ _ _ _ _ _ _ _ _ _ _ _ _ _ _ _ _ _ _ _ _ _ _ _ _ _ _ _ _ _ _ _ _ _ _ _ _ _ _ _ _ _ _ _ _ _ _ _ _ _ _ _ _ _ _ _ _ _ _ _ _ _ _ _ _ _ _ _ _ _ _ _ _ _ _ _ _ _ _ _ _ _ _ _ _ _ _ _ _ _ _ _ _ _ _ _ _ _ _ _ _ _ _ _ _ _ _ _ _ _ _ _ _ _ _ _ _ _ _ _ _ _ _ _ _ _ _ _ _ _ _ _ _ _ _ _ _ _ _ _ _ _ _ _ _ _ _ _ _ _ _ _ _ _ _ _ _ _ _ _ _ _ _ _ _ _ _ _ _ _ _ _ _ _ _ _ _ _ _ _ _ _ _ _ _ _ _ _ _ _ _ _ _ _ _ _ _ _ _ _ _ _ _ _ _ _ _ _ _
  · have h1' : (1048576 : Int) < (8 : Int) * (bn : Int) + 8 * (m1 : Int) + 8 * (m2 : Int) := by omega
    go_wp2
    go_ret
    exact ⟨rfl, hW⟩

set_option maxHeartbeats 8000000 in
set_option maxRecDepth 1000000 in
/-- From the copy of xEnds on. -/
theorem six_c2 (n size count width i k : Int) (ba a1 a2 : Option Addr) (bn bc m1 m2 q2 : Nat) (N : Nat → Nat) (F : Nat → Nat → Int) (X E : Nat → Int) (w wc : World) (hi1 : i ≤ 9223372036854775807) (hm1 : m1 ≤ 65536) (hm2 : m2 ≤ 65536) (hbn : bn ≤ 65536)
    (HN : Hid (∀ i, i < bn → N i ≤ 1048576)) (hnil : Hid (ba = none → bn = 0 ∧ bc = 0)) (HB : Hid (Blocks wc ba bn N F)) (HF : Hid (∀ a b, 0 ≤ F a b ∧ F a b ≤ 255))
    (hnil2 : Hid (a2 = none → m2 = 0 ∧ q2 = 0)) (HX : Hid (Ints wc a1 m1 X)) (HE : Hid (Ints wc a2 m2 E)) (hW : Below w.heap.size w wc) (c9 c10 c11 c12 c13 c14 c15 c16 c17 c18 c19 c20 c21 c22 c23 c24 c25 c26 c27 c28 c29 c30 c31 c32 c33 c34 c35 c36 c37 c38 c39 c40 c41 c42 c43 c44 c45 c46 c47 c48 c49 c50 c51 c52 c53 c54 c55 c56 c57 c58 c59 c60 c61 c62 c63 c64 c65 c66 c67 c68 c69 c70 c71 c72 c73 c74 c75 c76 c77 c78 c79 c80 c81 c82 c83 c84 c85 c86 c87 c88 c89 c90 c91 c92 c93 c94 c95 c96 c97 c98 c99 c100 c101 c102 c103 c104 c105 c106 c107 c108 c109 c110 c111 c112 c113 c114 c115 c116 c117 c118 c119 c120 c121 c122 c123 c124 c125 c126 c127 c128 c129 c130 c131 c132 c133 c134 c135 c136 c137 c138 c139 c140 c141 c142 c143 c144 c145 c146 c147 c148 c149 c150 c151 c152 c153 c154 c155 c156 c157 c158 c159 c160 c161 c162 c163 c164 c165 c166 c167 c168 c169 c170 c171 c172 c173 c174 c175 c176 c177 c178 c179 c180 c181 c182 c183 c184 c185 c186 c187 c188 c189 c190 c191 c192 c193 c194 c195 c196 c197 c198 c199 c200 c201 c202 c203 c204 c205 c206 c207 c208 c209 c210 c211 c212 c213 c214 c215 c216 c217 : Value) :
    Code.wp Try.prog (spine 4 (Try.f6.body.getD .skip)) (bodyPost Try.prog Try.f6 fun e w' => e = .returned (.bool true) ∧ Below w.heap.size w w') ⟨#[.int .i64 n, .int .i64 size, .int .i64 count, .int .i64 width, .slice ba bn bc, .slice a1 m1 m1, .slice a2 m2 q2, .int .i64 i, .int .i64 k, c9, c10, c11, c12, c13, c14, c15, c16, c17, c18, c19, c20, c21, c22, c23, c24, c25, c26, c27, c28, c29, c30, c31, c32, c33, c34, c35, c36, c37, c38, c39, c40, c41, c42, c43, c44, c45, c46, c47, c48, c49, c50, c51, c52, c53, c54, c55, c56, c57, c58, c59, c60, c61, c62, c63, c64, c65, c66, c67, c68, c69, c70, c71, c72, c73, c74, c75, c76, c77, c78, c79, c80, c81, c82, c83, c84, c85, c86, c87, c88, c89, c90, c91, c92, c93, c94, c95, c96, c97, c98, c99, c100, c101, c102, c103, c104, c105, c106, c107, c108, c109, c110, c111, c112, c113, c114, c115, c116, c117, c118, c119, c120, c121, c122, c123, c124, c125, c126, c127, c128, c129, c130, c131, c132, c133, c134, c135, c136, c137, c138, c139, c140, c141, c142, c143, c144, c145, c146, c147, c148, c149, c150, c151, c152, c153, c154, c155, c156, c157, c158, c159, c160, c161, c162, c163, c164, c165, c166, c167, c168, c169, c170, c171, c172, c173, c174, c175, c176, c177, c178, c179, c180, c181, c182, c183, c184, c185, c186, c187, c188, c189, c190, c191, c192, c193, c194, c195, c196, c197, c198, c199, c200, c201, c202, c203, c204, c205, c206, c207, c208, c209, c210, c211, c212, c213, c214, c215, c216, c217], []⟩ wc := by
  conv => arg 2; whnf
  dsimp only
  have hneq := fun wx l c => run_neq_slice_nil_any (P := Try.prog) wx 28 3 a2 l c 0 0 Try.underlying28
  go_upto_if 66 with fail
  clear hneq
  go_cut [6, 20] from 67 (fun s6 s20 wx => ∃ a2', s6 = .slice a2' m2 m2 ∧ Ints wx a2' m2 E ∧ Below wc.heap.size wc wx)
  case first =>
    cases a2 with
    | none =>
      obtain ⟨rfl, rfl⟩ := hnil2.out rfl
      go_wp2
      go_meet
      case rel => exact ⟨none, rfl, HE.out, Below.refl _ _⟩
    | some ad =>
      have hmk := run_make_row' (P := Try.prog) 28 3 (.int .i64 0) 8 Try.underlying28 Try.info3 rfl .i64 .i64 m2 (by omega) (by omega)
      have HS : Hid _ := src_ints HE.out (.cells (madeCells #[.int .i64 0] m2) 3)
      go_wp2_with (refine wpList_copy_own rfl (.tmp 70) (.tmp 71) 28 28 rfl 3 Try.underlying28 (by kernel_rfl) wc.heap.size 0 m2 m2 ad m2 q2 rfl rfl (madeCells #[.int .i64 0] m2) 3 (Deep.blk_alloc_new _ _) (intCells m2 E) (by simp [intCells]) HS.out (by simp [intCells, size_madeCells]) (by simp [intCells, Value.oneCell']) ?_)
      go_meet
      case rel => exact ⟨_, rfl, Seg.of_row (copy_row wc m2 E), below_setRow ((Below.refl _ _).alloc (Nat.le_refl _) _) (Nat.le_refl _) _⟩
  case rest =>
    obtain ⟨a2', rfl, hE', hb⟩ := hcut
    refine ‹∀ (a : Act) (w : World), Code.wp Try.prog _ _ a w → _› _ _ ?_
    exact six_sum n size count width i k ba a1 a2' bn bc m1 m2 N F X E w _ hi1 hm1 hm2 hbn HN hnil (Blocks.below HB.out hb) HF (Ints.later HX.out hb) hE' (hW.trans (hb.mono hW.size)) _ _ _ _ _ _ _ _ _ _ _ _ _ _ _ _ _ _ _ _ _ _ _ _ _ _ _ _ _ _ _ _ _ _ _ _ _ _ _ _ _ _ _ _ _ _ _ _ _ _ _ _ _ _ _ _ _ _ _ _ _ _ _ _ _ _ _ _ _ _ _ _ _ _ _ _ _ _ _ _ _ _ _ _ _ _ _ _ _ _ _ _ _ _ _ _ _ _ _ _ _ _ _ _ _ _ _ _ _ _ _ _ _ _ _ _ _ _ _ _ _ _ _ _ _ _ _ _ _ _ _ _ _ _ _ _ _ _ _ _ _ _ _ _ _ _ _ _ _ _ _ _ _ _ _ _ _ _ _ _ _ _ _ _ _ _ _ _ _ _ _ _ _ _ _ _ _ _ _ _ _ _ _ _ _ _ _ _ _ _ _ _ _ _ _ _ _ _ _ _ _ _ _ _ _ _ _ _ _

set_option maxHeartbeats 8000000 in
set_option maxRecDepth 1000000 in
/-- From the copy of xs on. -/
theorem six_c1 (n size count width i k : Int) (ba a1 a2 : Option Addr) (bn bc m1 q1 m2 q2 : Nat) (N : Nat → Nat) (F : Nat → Nat → Int) (X E : Nat → Int) (w wc : World) (hi1 : i ≤ 9223372036854775807) (hm1 : m1 ≤ 65536) (hm2 : m2 ≤ 65536) (hbn : bn ≤ 65536)
    (HN : Hid (∀ i, i < bn → N i ≤ 1048576)) (hnil : Hid (ba = none → bn = 0 ∧ bc = 0)) (HB : Hid (Blocks wc ba bn N F)) (HF : Hid (∀ a b, 0 ≤ F a b ∧ F a b ≤ 255))
    (hnil1 : Hid (a1 = none → m1 = 0 ∧ q1 = 0)) (hnil2 : Hid (a2 = none → m2 = 0 ∧ q2 = 0)) (HX : Hid (Ints wc a1 m1 X)) (HE : Hid (Ints wc a2 m2 E)) (hW : Below w.heap.size w wc) (c9 c10 c11 c12 c13 c14 c15 c16 c17 c18 c19 c20 c21 c22 c23 c24 c25 c26 c27 c28 c29 c30 c31 c32 c33 c34 c35 c36 c37 c38 c39 c40 c41 c42 c43 c44 c45 c46 c47 c48 c49 c50 c51 c52 c53 c54 c55 c56 c57 c58 c59 c60 c61 c62 c63 c64 c65 c66 c67 c68 c69 c70 c71 c72 c73 c74 c75 c76 c77 c78 c79 c80 c81 c82 c83 c84 c85 c86 c87 c88 c89 c90 c91 c92 c93 c94 c95 c96 c97 c98 c99 c100 c101 c102 c103 c104 c105 c106 c107 c108 c109 c110 c111 c112 c113 c114 c115 c116 c117 c118 c119 c120 c121 c122 c123 c124 c125 c126 c127 c128 c129 c130 c131 c132 c133 c134 c135 c136 c137 c138 c139 c140 c141 c142 c143 c144 c145 c146 c147 c148 c149 c150 c151 c152 c153 c154 c155 c156 c157 c158 c159 c160 c161 c162 c163 c164 c165 c166 c167 c168 c169 c170 c171 c172 c173 c174 c175 c176 c177 c178 c179 c180 c181 c182 c183 c184 c185 c186 c187 c188 c189 c190 c191 c192 c193 c194 c195 c196 c197 c198 c199 c200 c201 c202 c203 c204 c205 c206 c207 c208 c209 c210 c211 c212 c213 c214 c215 c216 c217 : Value) :
    Code.wp Try.prog (spine 3 (Try.f6.body.getD .skip)) (bodyPost Try.prog Try.f6 fun e w' => e = .returned (.bool true) ∧ Below w.heap.size w w') ⟨#[.int .i64 n, .int .i64 size, .int .i64 count, .int .i64 width, .slice ba bn bc, .slice a1 m1 q1, .slice a2 m2 q2, .int .i64 i, .int .i64 k, c9, c10, c11, c12, c13, c14, c15, c16, c17, c18, c19, c20, c21, c22, c23, c24, c25, c26, c27, c28, c29, c30, c31, c32, c33, c34, c35, c36, c37, c38, c39, c40, c41, c42, c43, c44, c45, c46, c47, c48, c49, c50, c51, c52, c53, c54, c55, c56, c57, c58, c59, c60, c61, c62, c63, c64, c65, c66, c67, c68, c69, c70, c71, c72, c73, c74, c75, c76, c77, c78, c79, c80, c81, c82, c83, c84, c85, c86, c87, c88, c89, c90, c91, c92, c93, c94, c95, c96, c97, c98, c99, c100, c101, c102, c103, c104, c105, c106, c107, c108, c109, c110, c111, c112, c113, c114, c115, c116, c117, c118, c119, c120, c121, c122, c123, c124, c125, c126, c127, c128, c129, c130, c131, c132, c133, c134, c135, c136, c137, c138, c139, c140, c141, c142, c143, c144, c145, c146, c147, c148, c149, c150, c151, c152, c153, c154, c155, c156, c157, c158, c159, c160, c161, c162, c163, c164, c165, c166, c167, c168, c169, c170, c171, c172, c173, c174, c175, c176, c177, c178, c179, c180, c181, c182, c183, c184, c185, c186, c187, c188, c189, c190, c191, c192, c193, c194, c195, c196, c197, c198, c199, c200, c201, c202, c203, c204, c205, c206, c207, c208, c209, c210, c211, c212, c213, c214, c215, c216, c217], []⟩ wc := by
  conv => arg 2; whnf
  dsimp only
  have hneq := fun wx l c => run_neq_slice_nil_any (P := Try.prog) wx 28 3 a1 l c 0 0 Try.underlying28
  go_upto_if 57 with fail
  clear hneq
  go_cut [5, 19] from 58 (fun s5 s19 wx => ∃ a1', s5 = .slice a1' m1 m1 ∧ Ints wx a1' m1 X ∧ Below wc.heap.size wc wx)
  case first =>
    cases a1 with
    | none =>
      obtain ⟨rfl, rfl⟩ := hnil1.out rfl
      go_wp2
      go_meet
      case rel => exact ⟨none, rfl, HX.out, Below.refl _ _⟩
    | some ad =>
      have hmk := run_make_row' (P := Try.prog) 28 3 (.int .i64 0) 8 Try.underlying28 Try.info3 rfl .i64 .i64 m1 (by omega) (by omega)
      have HS : Hid _ := src_ints HX.out (.cells (madeCells #[.int .i64 0] m1) 3)
      go_wp2_with (refine wpList_copy_own rfl (.tmp 61) (.tmp 62) 28 28 rfl 3 Try.underlying28 (by kernel_rfl) wc.heap.size 0 m1 m1 ad m1 q1 rfl rfl (madeCells #[.int .i64 0] m1) 3 (Deep.blk_alloc_new _ _) (intCells m1 X) (by simp [intCells]) HS.out (by simp [intCells, size_madeCells]) (by simp [intCells, Value.oneCell']) ?_)
      go_meet
      case rel => exact ⟨_, rfl, Seg.of_row (copy_row wc m1 X), below_setRow ((Below.refl _ _).alloc (Nat.le_refl _) _) (Nat.le_refl _) _⟩
  case rest =>
    obtain ⟨a1', rfl, hX', hb⟩ := hcut
    refine ‹∀ (a : Act) (w : World), Code.wp Try.prog _ _ a w → _› _ _ ?_
    exact six_c2 n size count width i k ba a1' a2 bn bc m1 m2 q2 N F X E w _ hi1 hm1 hm2 hbn HN hnil (Blocks.below HB.out hb) HF hnil2 hX' (Ints.later HE.out hb) (hW.trans (hb.mono hW.size)) _ _ _ _ _ _ _ _ _ _ _ _ _ _ _ _ _ _ _ _ _ _ _ _ _ _ _ _ _ _ _ _ _ _ _ _ _ _ _ _ _ _ _ _ _ _ _ _ _ _ _ _ _ _ _ _ _ _ _ _ _ _ _ _ _ _ _ _ _ _ _ _ _ _ _ _ _ _ _ _ _ _ _ _ _ _ _ _ _ _ _ _ _ _ _ _ _ _ _ _ _ _ _ _ _ _ _ _ _ _ _ _ _ _ _ _ _ _ _ _ _ _ _ _ _ _ _ _ _ _ _ _ _ _ _ _ _ _ _ _ _ _ _ _ _ _ _ _ _ _ _ _ _ _ _ _ _ _ _ _ _ _ _ _ _ _ _ _ _ _ _ _ _ _ _ _ _ _ _ _ _ _ _ _ _ _ _ _ _ _ _ _ _ _ _ _ _ _ _ _ _ _ _ _ _ _ _ _ _

set_option maxHeartbeats 8000000 in
set_option maxRecDepth 1000000 in
/-- THE LAW. -/
theorem six_any (n size count width i k : Int) (ba a1 a2 : Option Addr) (bn bc m1 q1 m2 q2 : Nat) (N : Nat → Nat) (F : Nat → Nat → Int) (X E : Nat → Int) (w : World) (hi1 : i ≤ 9223372036854775807)
    (hB : Blocks w ba bn N F) (hF : ∀ a b, 0 ≤ F a b ∧ F a b ≤ 255) (hnil : ba = none → bn = 0 ∧ bc = 0) (hnil1 : a1 = none → m1 = 0 ∧ q1 = 0) (hnil2 : a2 = none → m2 = 0 ∧ q2 = 0) (hX : Ints w a1 m1 X) (hE : Ints w a2 m2 E)
    (hbn : bn ≤ maxLen) (hN : ∀ i, i < bn → N i ≤ maxLen) (hm1 : m1 ≤ maxLen) (hm2 : m2 ≤ maxLen) :
    Calls Try.prog 6 #[.int .i64 n, .int .i64 size, .int .i64 count, .int .i64 width, .slice ba bn bc, .slice a1 m1 q1, .slice a2 m2 q2, .int .i64 i, .int .i64 k] w fun e w' => e = .returned (.bool true) ∧ Below w.heap.size w w' := by
  have C := zz17_any n size count width i k ba a1 a2 bn bc m1 q1 m2 q2 N F w hB hbn hN hm1 hm2
  have HB : Hid _ := hB
  have HF : Hid _ := hF
  have Hnil : Hid _ := hnil
  have Hnil1 : Hid _ := hnil1
  have Hnil2 : Hid _ := hnil2
  have HX : Hid _ := hX
  have HE : Hid _ := hE
  unfold maxLen at hbn hm1 hm2
  clear hB hF hnil hnil1 hnil2 hX hE hN
  go_enter Try.func6, Try.ntmps6
  go_wp2_with fail
  refine C.mono ?_
  rintro e w1 ⟨⟨b, rfl, hs⟩, rfl⟩
  clear C
  cases b with
  | false =>
    clear hs
    go_wp2
    go_ret
    exact ⟨rfl, Below.refl _ _⟩
  | true =>
    obtain ⟨_, hN, _, _⟩ := hs rfl
    have HN : Hid _ := hN
    clear hs hN
    by_cases h1 : bn ≤ 65536
    · by_cases h2 : m1 ≤ 65536
      · by_cases h3 : m2 ≤ 65536
        · go_upto_if 55 with fail
          go_cut [] from 56 (fun wx => w1 = wx)
          case first =>
            go_wp2
            go_meet
            case rel => rfl
          case rest =>
            subst hcut
            refine ‹∀ (a : Act) (w : World), Code.wp Try.prog _ _ a w → _› _ _ ?_
            exact six_c1 n size count width i k ba a1 a2 bn bc m1 q1 m2 q2 N F X E w1 _ hi1 h2 h3 h1 HN Hnil HB HF Hnil1 Hnil2 HX HE (Below.refl _ _) _ _ _ _ _ _ _ _ _ _ _ _ _ _ _ _ _ _ _ _ _ _ _ _ _ _ _ _ _ _ _ _ _ _ _ _ _ _ _ _ _ _ _ _ _ _ _ _ _ _ _ _ _ _ _ _ _ _ _ _ _ _ _ _ _ _ _ _ _ _ _ _ _ _ _ _ _ _ _ _ _ _ _ _ _ _ _ _ _ _ _ _ _ _ _ _ _ _ _ _ _ _ _ _ _ _ _ _ _ _ _ _ _ _ _ _ _ _ _ _ _ _ _ _ _ _ _ _ _ _ _ _ _ _ _ _ _ _ _ _ _ _ _ _ _ _ _ _ _ _ _ _ _ _ _ _ _ _ _ _ _ _ _ _ _ _ _ _ _ _ _ _ _ _ _ _ _ _ _ _ _ _ _ _ _ _ _ _ _ _ _ _ _ _ _ _ _ _ _ _ _ _ _ _ _ _ _ _ _
        · go_wp2
          go_ret
          exact ⟨rfl, Below.refl _ _⟩
      · go_wp2
        go_ret
        exact ⟨rfl, Below.refl _ _⟩
    · go_wp2
      go_ret
      exact ⟨rfl, Below.refl _ _⟩

end Go.Proofs.Qxb6608524a
