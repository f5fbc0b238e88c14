/-
  THE WALK OF THE LAW 'FnToYCbCrKeepsGreyNeutral', ITS MIDDLE: the copies, the planes; then the tail.
-/
import Derived.Test.Qxb6605972aGreyTail
namespace Go.Proofs.Qxb6605972a
open Go.RowKit

set_option maxHeartbeats 4000000 in
set_option maxRecDepth 1000000 in
theorem grey_mid (tr : Int) (htr : 0 ≤ tr ∧ tr ≤ 255) (fw fh : Nat) (g k : PlaneD) (four : Bool) (w : World) (hn : g.n + k.n ≤ 1048576) (hw : fw ≤ 65536) (hh : fh ≤ 65536) (hwh : fw * fh ≤ 1048576)
    (HFG : Hid (0 < fw → 0 < fh → g.fits = true)) (HFK : Hid (0 < fw → 0 < fh → four = true → k.fits = true)) (HGN : Hid (g.a = none → g.n = 0 ∧ g.c = 0)) (HKN : Hid (k.a = none → k.n = 0 ∧ k.c = 0)) (wc : World) (hS : GS w wc g k)
    (c3 c4 c6 c7 c8 c11 c12 c13 c14 c15 c16 c17 c18 c19 c20 c21 c22 c23 c24 c25 c26 c27 c28 c29 c30 c31 c32 c33 c34 c35 c36 c37 c38 c39 c40 c41 c42 c43 c44 c45 c46 c47 c48 c49 c50 c51 c52 c53 c54 c55 c56 c57 c58 c59 c60 c61 c62 c63 c64 c65 c66 c67 c68 c69 c70 c71 c72 c73 c74 c75 c76 c77 c78 c79 c80 c81 c82 c83 c84 c85 c86 c87 c88 c89 c90 c91 c92 c93 c94 c95 c96 c97 c98 c99 c100 c101 c102 c103 c104 c105 c106 c107 c108 c109 c110 c111 c112 c113 c114 c115 c116 c117 c118 c119 c120 c121 c122 c123 c124 c125 c126 c127 c128 c129 c130 c131 c132 c133 c134 c135 c136 c137 c138 c139 c140 c141 c142 c143 c144 c145 c146 c147 c148 c149 c150 c151 c152 c153 c154 c155 c156 c157 c158 c159 c160 c161 c162 c163 c164 c165 c166 c167 c168 c169 c170 c171 c172 c173 c174 c175 c176 c177 c178 c179 c180 c181 c182 c183 c184 c185 c186 c187 c188 c189 c190 c191 c192 c193 c194 c195 c196 c197 c198 c199 c200 c201 c202 c203 c204 c205 c206 c207 c208 c209 c210 c211 c212 c213 c214 c215 c216 c217 : Value) :
    Code.wp Try.prog (spine 6 (Try.f6.body.getD .skip)) (bodyPost Try.prog Try.f6 fun e w' => e = .returned (.bool true) ∧ Below w.heap.size w w') ⟨#[.int .u8 tr, .int .i64 fw, .int .i64 fh, c3, c4, .bool four, c6, c7, c8, .pointer (some ⟨w.heap.size, 0, none⟩), .pointer (some ⟨w.heap.size + 1, 0, none⟩), c11, c12, c13, c14, c15, c16, c17, c18, c19, c20, c21, c22, c23, c24, c25, c26, c27, c28, c29, c30, c31, c32, c33, c34, c35, c36, c37, c38, c39, c40, c41, c42, c43, c44, c45, c46, c47, c48, c49, c50, c51, c52, c53, c54, c55, c56, c57, c58, c59, c60, c61, c62, c63, c64, c65, c66, c67, c68, c69, c70, c71, c72, c73, c74, c75, c76, c77, c78, c79, c80, c81, c82, c83, c84, c85, c86, c87, c88, c89, c90, c91, c92, c93, c94, c95, c96, c97, c98, c99, c100, c101, c102, c103, c104, c105, c106, c107, c108, c109, c110, c111, c112, c113, c114, c115, c116, c117, c118, c119, c120, c121, c122, c123, c124, c125, c126, c127, c128, c129, c130, c131, c132, c133, c134, c135, c136, c137, c138, c139, c140, c141, c142, c143, c144, c145, c146, c147, c148, c149, c150, c151, c152, c153, c154, c155, c156, c157, c158, c159, c160, c161, c162, c163, c164, c165, c166, c167, c168, c169, c170, c171, c172, c173, c174, c175, c176, c177, c178, c179, c180, c181, c182, c183, c184, c185, c186, c187, c188, c189, c190, c191, c192, c193, c194, c195, c196, c197, c198, c199, c200, c201, c202, c203, c204, c205, c206, c207, c208, c209, c210, c211, c212, c213, c214, c215, c216, c217], []⟩ wc := by
  conv => arg 2; whnf
  have c0 : wc.cell? ⟨w.heap.size, 0, none⟩ = some (.slice g.a g.n g.c) := hS.gl.c0
  go_wp2_with fail
  refine (clone_any g.a g.n g.c (by omega) HGN.out g.f _ hS.go.seg).mono ?_
  rintro e w2 ⟨ga, gc, rfl, hsg, hb2⟩
  have hS2 := hS.later hb2
  have hS3 := hS2.setG (c := gc) hsg
  have d0 : w2.cell? ⟨w.heap.size, 0, none⟩ = some (.slice g.a g.n g.c) := hS2.gl.c0
  have df : w2.frozen? ⟨w.heap.size, 0, none⟩ = false := hS2.gf
  have kc0 : (w2.setCell ⟨w.heap.size, 0, none⟩ (.slice ga g.n gc)).cell? ⟨w.heap.size + 1, 0, none⟩ = some (.slice k.a k.n k.c) := hS3.kl.c0
  clear hS hS2 hsg hb2 c0
  go_wp2_with fail
  refine (clone_any k.a k.n k.c (by omega) HKN.out k.f _ hS3.ko.seg).mono ?_
  rintro e w3 ⟨ka, kc, rfl, hsk, hb3⟩
  have hS4 := hS3.later hb3
  have hS5 := hS4.setK (c := kc) hsk
  have d0 : w3.cell? ⟨w.heap.size + 1, 0, none⟩ = some (.slice k.a k.n k.c) := hS4.kl.c0
  have df : w3.frozen? ⟨w.heap.size + 1, 0, none⟩ = false := hS4.kf
  have c0 : (w3.setCell ⟨w.heap.size + 1, 0, none⟩ (.slice ka k.n kc)).cell? ⟨w.heap.size, 0, none⟩ = some (.slice ga g.n gc) := hS5.gl.c0
  have c1 : (w3.setCell ⟨w.heap.size + 1, 0, none⟩ (.slice ka k.n kc)).cell? ⟨w.heap.size, 1, none⟩ = some (.int .i64 g.pw) := hS5.gl.c1
  have c2 : (w3.setCell ⟨w.heap.size + 1, 0, none⟩ (.slice ka k.n kc)).cell? ⟨w.heap.size, 2, none⟩ = some (.int .i64 g.ph) := hS5.gl.c2
  have c3 : (w3.setCell ⟨w.heap.size + 1, 0, none⟩ (.slice ka k.n kc)).cell? ⟨w.heap.size, 3, none⟩ = some (.int .i64 g.ps) := hS5.gl.c3
  have c4 : (w3.setCell ⟨w.heap.size + 1, 0, none⟩ (.slice ka k.n kc)).cell? ⟨w.heap.size, 4, none⟩ = some (.int .i64 g.px) := hS5.gl.c4
  have c5 : (w3.setCell ⟨w.heap.size + 1, 0, none⟩ (.slice ka k.n kc)).cell? ⟨w.heap.size, 5, none⟩ = some (.int .i64 g.py) := hS5.gl.c5
  clear hS3 hS4 hsk hb3 kc0
  go_wp2_with fail
  refine (toPlane_any _ _ _ _ _ _ _ _ _).mono ?_
  rintro e w4 ⟨rfl, hb4⟩
  have hS6 := hS5.later hb4
  clear hS5 c0 c1 c2 c3 c4 c5 d0 df hb4
  go_upto_if 93 with fail
  obtain ⟨w5, X, e5, eX, hb5, x0, x1, x2, x3, x4, x5⟩ := box34 w4 (.slice ga g.n gc) (.int .i64 g.pw) (.int .i64 g.ph) (.int .i64 g.ps) (.int .i64 g.px) (.int .i64 g.py)
  rw [e5, eX]
  have hS7 := hS6.later hb5
  clear hS6 hb5 e5 eX
  go_cut [14] from 29 (fun s14 wx => ∃ bi cnt p, Handing wx s14 tr fw fh (greyV four tr g k) bi cnt p ∧ GS w wx (g.moved ga gc) (k.moved ka kc))
  case first =>
    cases four with
    | false =>
      go_wp2
      go_meet
      case rel =>
        have hb6 : Below w5.heap.size w5 (w5.alloc (.cells #[.slice ga g.n gc, .int .i64 g.pw, .int .i64 g.ph, .int .i64 g.ps, .int .i64 g.px, .int .i64 g.py, .slice ga g.n gc, .int .i64 g.pw, .int .i64 g.ph, .int .i64 g.ps, .int .i64 g.px, .int .i64 g.py, .slice ga g.n gc, .int .i64 g.pw, .int .i64 g.ph, .int .i64 g.ps, .int .i64 g.px, .int .i64 g.py] 34)) := (Below.refl _ _).alloc (Nat.le_refl _) _
        exact ⟨w5.heap.size, 3, _, handing3 (g := g.moved ga gc) k (hS7.go.later hb6) HFG.out (Deep.blk_alloc_new _ _), hS7.later hb6⟩
    | true =>
      have y0 : w5.cell? ⟨w.heap.size + 1, 0, none⟩ = some (.slice ka k.n kc) := hS7.kl.c0
      have y1 : w5.cell? ⟨w.heap.size + 1, 1, none⟩ = some (.int .i64 k.pw) := hS7.kl.c1
      have y2 : w5.cell? ⟨w.heap.size + 1, 2, none⟩ = some (.int .i64 k.ph) := hS7.kl.c2
      have y3 : w5.cell? ⟨w.heap.size + 1, 3, none⟩ = some (.int .i64 k.ps) := hS7.kl.c3
      have y4 : w5.cell? ⟨w.heap.size + 1, 4, none⟩ = some (.int .i64 k.px) := hS7.kl.c4
      have y5 : w5.cell? ⟨w.heap.size + 1, 5, none⟩ = some (.int .i64 k.py) := hS7.kl.c5
      by_cases htr2 : tr = 2
      · subst htr2
        go_wp2_with fail
        refine (newPlane23_any _ _ _ _ _ _ _ _ _).mono ?_
        rintro e w6 ⟨rfl, rfl⟩
        go_wp2
        obtain ⟨w7, F, Y, e7, eF, eY, hb7, v0, v1, v2, v3, v4, v5, v6⟩ := boxFlat w5
        rw [e7, eY]
        have hS8 := hS7.later hb7
        have x0' := cell_later hb7 x0
        have x1' := cell_later hb7 x1
        have x2' := cell_later hb7 x2
        have x3' := cell_later hb7 x3
        have x4' := cell_later hb7 x4
        have x5' := cell_later hb7 x5
        have y0' := cell_later hb7 y0
        have y1' := cell_later hb7 y1
        have y2' := cell_later hb7 y2
        have y3' := cell_later hb7 y3
        have y4' := cell_later hb7 y4
        have y5' := cell_later hb7 y5
        clear e7 eF eY x0 x1 x2 x3 x4 x5 y0 y1 y2 y3 y4 y5 hb7 hS7
        go_region_held3 (fun w' => w'.cell? ⟨X, 0, none⟩ = some (.slice ga g.n gc) ∧ w'.cell? ⟨X, 1, none⟩ = some (.int .i64 g.pw) ∧ w'.cell? ⟨X, 2, none⟩ = some (.int .i64 g.ph) ∧ w'.cell? ⟨X, 3, none⟩ = some (.int .i64 g.ps) ∧ w'.cell? ⟨X, 4, none⟩ = some (.int .i64 g.px) ∧ w'.cell? ⟨X, 5, none⟩ = some (.int .i64 g.py) ∧
            w'.cell? ⟨w.heap.size + 1, 0, none⟩ = some (.slice ka k.n kc) ∧ w'.cell? ⟨w.heap.size + 1, 1, none⟩ = some (.int .i64 k.pw) ∧ w'.cell? ⟨w.heap.size + 1, 2, none⟩ = some (.int .i64 k.ph) ∧ w'.cell? ⟨w.heap.size + 1, 3, none⟩ = some (.int .i64 k.ps) ∧ w'.cell? ⟨w.heap.size + 1, 4, none⟩ = some (.int .i64 k.px) ∧ w'.cell? ⟨w.heap.size + 1, 5, none⟩ = some (.int .i64 k.py) ∧
            w'.cell? ⟨Y, 0, none⟩ = some (.slice (some ⟨F, 0, none⟩) 1 1) ∧ w'.cell? ⟨Y, 1, none⟩ = some (.int .i64 1) ∧ w'.cell? ⟨Y, 2, none⟩ = some (.int .i64 1) ∧ w'.cell? ⟨Y, 3, none⟩ = some (.int .i64 1) ∧ w'.cell? ⟨Y, 4, none⟩ = some (.int .i64 1) ∧ w'.cell? ⟨Y, 5, none⟩ = some (.int .i64 1))
          (first | (refine ⟨?_, ?_, ?_, ?_, ?_, ?_, ?_, ?_, ?_, ?_, ?_, ?_, ?_, ?_, ?_, ?_, ?_, ?_⟩ <;> (go_keep; done)) | (refine ⟨?_, ?_, ?_, ?_, ?_, ?_, ?_, ?_, ?_, ?_, ?_, ?_, ?_, ?_, ?_, ?_, ?_, ?_⟩ <;> (refine cell_later hb6 ?_; go_keep; done)))
          (first | (go_at_call 13; refine (toPlane_any _ _ _ _ _ _ _ _ _).mono ?_; rintro e w6 ⟨rfl, hb6⟩))
        go_wp2
        go_meet
        case rel =>
          have hb6' : Below w7.heap.size w7 w6 := ⟨hb6.os, hb6.tape, hb6.output, hb6.size, hb6.block⟩
          have hb8 : Below w6.heap.size w6 (w6.alloc (.cells #[.slice ga g.n gc, .int .i64 g.pw, .int .i64 g.ph, .int .i64 g.ps, .int .i64 g.px, .int .i64 g.py, .slice (some ⟨F, 0, none⟩) 1 1, .int .i64 1, .int .i64 1, .int .i64 1, .int .i64 1, .int .i64 1, .slice (some ⟨F, 0, none⟩) 1 1, .int .i64 1, .int .i64 1, .int .i64 1, .int .i64 1, .int .i64 1, .slice ka k.n kc, .int .i64 k.pw, .int .i64 k.ph, .int .i64 k.ps, .int .i64 k.px, .int .i64 k.py] 34)) := (Below.refl _ _).alloc (Nat.le_refl _) _
          have hS9 := (hS8.later hb6').later hb8
          exact ⟨w6.heap.size, 4, _, handingY (g := g.moved ga gc) (k := k.moved ka kc) hS9.go hS9.ko HFG.out (fun h1 h2 => HFK.out h1 h2 (by simp)) (cell_later hb8 (cell_later hb6' v0)) (Deep.blk_alloc_new _ _), hS9⟩
      · have htr2' : (tr == 2) = false := by simp [htr2]
        have H2 : Hid (¬ tr = 2) := htr2
        clear htr2
        go_wp2
        go_region_held3 (fun w' => w'.cell? ⟨X, 0, none⟩ = some (.slice ga g.n gc) ∧ w'.cell? ⟨X, 1, none⟩ = some (.int .i64 g.pw) ∧ w'.cell? ⟨X, 2, none⟩ = some (.int .i64 g.ph) ∧ w'.cell? ⟨X, 3, none⟩ = some (.int .i64 g.ps) ∧ w'.cell? ⟨X, 4, none⟩ = some (.int .i64 g.px) ∧ w'.cell? ⟨X, 5, none⟩ = some (.int .i64 g.py) ∧
            w'.cell? ⟨w.heap.size + 1, 0, none⟩ = some (.slice ka k.n kc) ∧ w'.cell? ⟨w.heap.size + 1, 1, none⟩ = some (.int .i64 k.pw) ∧ w'.cell? ⟨w.heap.size + 1, 2, none⟩ = some (.int .i64 k.ph) ∧ w'.cell? ⟨w.heap.size + 1, 3, none⟩ = some (.int .i64 k.ps) ∧ w'.cell? ⟨w.heap.size + 1, 4, none⟩ = some (.int .i64 k.px) ∧ w'.cell? ⟨w.heap.size + 1, 5, none⟩ = some (.int .i64 k.py))
          (first | (refine ⟨?_, ?_, ?_, ?_, ?_, ?_, ?_, ?_, ?_, ?_, ?_, ?_⟩ <;> (go_keep; done)) | (refine ⟨?_, ?_, ?_, ?_, ?_, ?_, ?_, ?_, ?_, ?_, ?_, ?_⟩ <;> (refine cell_later hb6 ?_; go_keep; done)))
          (first | (go_at_call 13; refine (toPlane_any _ _ _ _ _ _ _ _ _).mono ?_; rintro e w6 ⟨rfl, hb6⟩))
        go_wp2
        go_meet
        case rel =>
          have hb6' : Below w5.heap.size w5 w6 := ⟨hb6.os, hb6.tape, hb6.output, hb6.size, hb6.block⟩
          have hb7 : Below w6.heap.size w6 (w6.alloc (.cells #[.slice ga g.n gc, .int .i64 g.pw, .int .i64 g.ph, .int .i64 g.ps, .int .i64 g.px, .int .i64 g.py, .slice ga g.n gc, .int .i64 g.pw, .int .i64 g.ph, .int .i64 g.ps, .int .i64 g.px, .int .i64 g.py, .slice ga g.n gc, .int .i64 g.pw, .int .i64 g.ph, .int .i64 g.ps, .int .i64 g.px, .int .i64 g.py, .slice ka k.n kc, .int .i64 k.pw, .int .i64 k.ph, .int .i64 k.ps, .int .i64 k.px, .int .i64 k.py] 34)) := (Below.refl _ _).alloc (Nat.le_refl _) _
          have hS9 := (hS7.later hb6').later hb7
          exact ⟨w6.heap.size, 4, _, handing4 (g := g.moved ga gc) (k := k.moved ka kc) H2.out hS9.go hS9.ko HFG.out (fun h1 h2 => HFK.out h1 h2 (by simp)) (Deep.blk_alloc_new _ _), hS9⟩
  case rest =>
    clear hS7 x0 x1 x2 x3 x4 x5
    obtain ⟨bi, cnt, p, hH, hS⟩ := hcut
    rename_i ha
    exact ha _ _ (grey_tail tr htr fw fh g k four w hn hw hh hwh HFG HFK ga ka gc kc wc _ bi cnt p hH hS _ _ _ _ _ _ _ _ _ _ _ _ _ _ _ _ _ _ _ _ _ _ _ _ _ _ _ _ _ _ _ _ _ _ _ _ _ _ _ _ _ _ _ _ _ _ _ _ _ _ _ _ _ _ _ _ _ _ _ _ _ _ _ _ _ _ _ _ _ _ _ _ _ _ _ _ _ _ _ _ _ _ _ _ _ _ _ _ _ _ _ _ _ _ _ _ _ _ _ _ _ _ _ _ _ _ _ _ _ _ _ _ _ _ _ _ _ _ _ _ _ _ _ _ _ _ _ _ _ _ _ _ _ _ _ _ _ _ _ _ _ _ _ _ _ _ _ _ _ _ _ _ _ _ _ _ _ _ _ _ _ _ _ _ _ _ _ _ _ _ _ _ _ _ _ _ _ _ _ _ _ _ _ _ _ _ _ _ _ _ _ _ _ _ _ _ _ _ _ _ _ _ _ _ _ _ _ _ _ _ _)

end Go.Proofs.Qxb6605972a
