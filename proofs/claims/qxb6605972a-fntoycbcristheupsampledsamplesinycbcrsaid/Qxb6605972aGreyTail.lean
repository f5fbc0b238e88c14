/-
  THE WALK OF THE LAW 'FnToYCbCrKeepsGreyNeutral', ITS TAIL: from the planes handed over to the end.
-/
import Derived.Test.Qxb6605972aGreyKit
namespace Go.Proofs.Qxb6605972a
open Go.RowKit

/-- What is left of a sequence behind its first n statements. -/
def spine : Nat → Code → Code
  | 0, c => c
  | n + 1, .seq _ b => spine n b
  | _ + 1, c => c

/-- The flat plane's byte, the plane, its own variable. -/
theorem boxFlat (W : World) : ∃ W1 F Y, ((W.alloc (.cells #[.int .u8 128] 5)).alloc (.cells #[.slice (some ⟨W.heap.size, 0, none⟩) 1 1, .int .i64 1, .int .i64 1, .int .i64 1, .int .i64 1, .int .i64 1] 34)).alloc
      (.cells #[.slice (some ⟨W.heap.size, 0, none⟩) 1 1, .int .i64 1, .int .i64 1, .int .i64 1, .int .i64 1, .int .i64 1] 34) = W1 ∧ W.heap.size = F ∧ W.heap.size + 1 + 1 = Y ∧ Below W.heap.size W W1 ∧ W1.cell? ⟨F, 0, none⟩ = some (.int .u8 128) ∧
    W1.cell? ⟨Y, 0, none⟩ = some (.slice (some ⟨F, 0, none⟩) 1 1) ∧ W1.cell? ⟨Y, 1, none⟩ = some (.int .i64 1) ∧ W1.cell? ⟨Y, 2, none⟩ = some (.int .i64 1) ∧ W1.cell? ⟨Y, 3, none⟩ = some (.int .i64 1) ∧ W1.cell? ⟨Y, 4, none⟩ = some (.int .i64 1) ∧ W1.cell? ⟨Y, 5, none⟩ = some (.int .i64 1) := by
  have key : ∀ (W2 : World) (c : Array Value) (i B : Nat), B = W2.heap.size → (W2.alloc (.cells c 34)).cell? ⟨B, i, none⟩ = c[i]? := by intro W2 c i B h; subst h; simp
  refine ⟨_, _, _, rfl, rfl, rfl, (((Below.refl _ _).alloc (Nat.le_refl _) _).alloc (by simp) _).alloc (by simp; omega) _, ?_, ?_, ?_, ?_, ?_, ?_, ?_⟩
  · rw [World.cell?_alloc_old _ _ _ (by simp; omega), World.cell?_alloc_old _ _ _ (by simp)]; simp
  all_goals rw [key _ _ _ _ (by simp)]; simp

/-- A plane's own variable is made. -/
theorem box34 (W : World) (x0 x1 x2 x3 x4 x5 : Value) : ∃ W1 B, W.alloc (.cells #[x0, x1, x2, x3, x4, x5] 34) = W1 ∧ W.heap.size = B ∧ Below W.heap.size W W1 ∧
    W1.cell? ⟨B, 0, none⟩ = some x0 ∧ W1.cell? ⟨B, 1, none⟩ = some x1 ∧ W1.cell? ⟨B, 2, none⟩ = some x2 ∧ W1.cell? ⟨B, 3, none⟩ = some x3 ∧ W1.cell? ⟨B, 4, none⟩ = some x4 ∧ W1.cell? ⟨B, 5, none⟩ = some x5 := 
  ⟨_, _, rfl, rfl, (Below.refl _ _).alloc (Nat.le_refl _) _, by simp, by simp, by simp, by simp, by simp, by simp⟩

/-- The new planes, one by one. -/
theorem out0 {w : World} {bo b0 b1 b2 fw fh : Nat} (h : w.heap[bo]? = some (.cells (outCells b0 b1 b2 fw fh) 34 (0, 0))) : w.cell? ⟨bo, 0, none⟩ = some (.slice (some ⟨b0, 0, none⟩) (fw * fh) (fw * fh)) ∧ w.cell? ⟨bo, 1, none⟩ = some (.int .i64 fw) ∧ w.cell? ⟨bo, 2, none⟩ = some (.int .i64 fh) ∧
    w.cell? ⟨bo, 3, none⟩ = some (.int .i64 fw) ∧ w.cell? ⟨bo, 4, none⟩ = some (.int .i64 1) ∧ w.cell? ⟨bo, 5, none⟩ = some (.int .i64 1) := by
  refine ⟨?_, ?_, ?_, ?_, ?_, ?_⟩ <;> simp [World.cell?, h, outCells]
theorem out1 {w : World} {bo b0 b1 b2 fw fh : Nat} (h : w.heap[bo]? = some (.cells (outCells b0 b1 b2 fw fh) 34 (0, 0))) : w.cell? ⟨bo, 6, none⟩ = some (.slice (some ⟨b1, 0, none⟩) (fw * fh) (fw * fh)) ∧ w.cell? ⟨bo, 7, none⟩ = some (.int .i64 fw) ∧ w.cell? ⟨bo, 8, none⟩ = some (.int .i64 fh) ∧
    w.cell? ⟨bo, 9, none⟩ = some (.int .i64 fw) ∧ w.cell? ⟨bo, 10, none⟩ = some (.int .i64 1) ∧ w.cell? ⟨bo, 11, none⟩ = some (.int .i64 1) := by
  refine ⟨?_, ?_, ?_, ?_, ?_, ?_⟩ <;> simp [World.cell?, h, outCells]
theorem out2 {w : World} {bo b0 b1 b2 fw fh : Nat} (h : w.heap[bo]? = some (.cells (outCells b0 b1 b2 fw fh) 34 (0, 0))) : w.cell? ⟨bo, 12, none⟩ = some (.slice (some ⟨b2, 0, none⟩) (fw * fh) (fw * fh)) ∧ w.cell? ⟨bo, 13, none⟩ = some (.int .i64 fw) ∧ w.cell? ⟨bo, 14, none⟩ = some (.int .i64 fh) ∧
    w.cell? ⟨bo, 15, none⟩ = some (.int .i64 fw) ∧ w.cell? ⟨bo, 16, none⟩ = some (.int .i64 1) ∧ w.cell? ⟨bo, 17, none⟩ = some (.int .i64 1) := by
  refine ⟨?_, ?_, ?_, ?_, ?_, ?_⟩ <;> simp [World.cell?, h, outCells]

theorem block_later {w w' : World} {b : Nat} {o : Obj} (hb : Below w.heap.size w w') (h : w.heap[b]? = some o) : w'.heap[b]? = some o := by
  rw [hb.block b (Array.getElem?_eq_some_iff.1 h).1]; exact h

theorem row_later {w w' : World} {b n : Nat} {t : TypeId} {f : Nat → Value} (hb : Below w.heap.size w w') (h : w.rowIs b t n f) : w'.rowIs b t n f := h.of_block (hb.block b h.lt)

theorem in_pic {i fw fh : Nat} (h : i < fw * fh) : i / fw < fh ∧ i % fw < fw := by
  have hp : 0 < fw := by
    rcases Nat.eq_zero_or_pos fw with h0 | h0
    · subst h0; simp at h
    · exact h0
  exact ⟨Nat.div_lt_of_lt_mul h, Nat.mod_lt _ hp⟩

set_option maxHeartbeats 4000000 in
set_option maxRecDepth 1000000 in
theorem grey_tail (tr : Int) (htr : 0 ≤ tr ∧ tr ≤ 255) (fw fh : Nat) (g k : PlaneD) (four : Bool) (w : World) (hn : g.n + k.n ≤ 1048576) (hw : fw ≤ 65536) (hh : fh ≤ 65536) (hwh : fw * fh ≤ 1048576)
    (HFG : Hid (0 < fw → 0 < fh → g.fits = true)) (HFK : Hid (0 < fw → 0 < fh → four = true → k.fits = true)) (ga ka : Option Addr) (gc kc : Nat) (wc : World) (s14 : Value) (bi cnt : Nat) (p : Nat → PlaneD)
    (hH : Handing wc s14 tr fw fh (greyV four tr g k) bi cnt p) (hS : GS w wc (g.moved ga gc) (k.moved ka kc)) (c3 c4 c6 c7 c8 c11 c12 c13 c15 c16 c17 c18 c19 c20 c21 c22 c23 c24 c25 c26 c27 c28 c29 c30 c31 c32 c33 c34 c35 c36 c37 c38 c39 c40 c41 c42 c43 c44 c45 c46 c47 c48 c49 c50 c51 c52 c53 c54 c55 c56 c57 c58 c59 c60 c61 c62 c63 c64 c65 c66 c67 c68 c69 c70 c71 c72 c73 c74 c75 c76 c77 c78 c79 c80 c81 c82 c83 c84 c85 c86 c87 c88 c89 c90 c91 c92 c93 c94 c95 c96 c97 c98 c99 c100 c101 c102 c103 c104 c105 c106 c107 c108 c109 c110 c111 c112 c113 c114 c115 c116 c117 c118 c119 c120 c121 c122 c123 c124 c125 c126 c127 c128 c129 c130 c131 c132 c133 c134 c135 c136 c137 c138 c139 c140 c141 c142 c143 c144 c145 c146 c147 c148 c149 c150 c151 c152 c153 c154 c155 c156 c157 c158 c159 c160 c161 c162 c163 c164 c165 c166 c167 c168 c169 c170 c171 c172 c173 c174 c175 c176 c177 c178 c179 c180 c181 c182 c183 c184 c185 c186 c187 c188 c189 c190 c191 c192 c193 c194 c195 c196 c197 c198 c199 c200 c201 c202 c203 c204 c205 c206 c207 c208 c209 c210 c211 c212 c213 c214 c215 c216 c217 : Value) :
    Code.wp Try.prog (spine 11 (Try.f6.body.getD .skip)) (bodyPost Try.prog Try.f6 fun e w' => e = .returned (.bool true) ∧ Below w.heap.size w w') ⟨#[.int .u8 tr, .int .i64 fw, .int .i64 fh, c3, c4, .bool four, c6, c7, c8, .pointer (some ⟨w.heap.size, 0, none⟩), .pointer (some ⟨w.heap.size + 1, 0, none⟩), c11, c12, c13, s14, c15, c16, c17, c18, c19, c20, c21, c22, c23, c24, c25, c26, c27, c28, c29, c30, c31, c32, c33, c34, c35, c36, c37, c38, c39, c40, c41, c42, c43, c44, c45, c46, c47, c48, c49, c50, c51, c52, c53, c54, c55, c56, c57, c58, c59, c60, c61, c62, c63, c64, c65, c66, c67, c68, c69, c70, c71, c72, c73, c74, c75, c76, c77, c78, c79, c80, c81, c82, c83, c84, c85, c86, c87, c88, c89, c90, c91, c92, c93, c94, c95, c96, c97, c98, c99, c100, c101, c102, c103, c104, c105, c106, c107, c108, c109, c110, c111, c112, c113, c114, c115, c116, c117, c118, c119, c120, c121, c122, c123, c124, c125, c126, c127, c128, c129, c130, c131, c132, c133, c134, c135, c136, c137, c138, c139, c140, c141, c142, c143, c144, c145, c146, c147, c148, c149, c150, c151, c152, c153, c154, c155, c156, c157, c158, c159, c160, c161, c162, c163, c164, c165, c166, c167, c168, c169, c170, c171, c172, c173, c174, c175, c176, c177, c178, c179, c180, c181, c182, c183, c184, c185, c186, c187, c188, c189, c190, c191, c192, c193, c194, c195, c196, c197, c198, c199, c200, c201, c202, c203, c204, c205, c206, c207, c208, c209, c210, c211, c212, c213, c214, c215, c216, c217], []⟩ wc := by
  conv => arg 2; whnf
  have hv := hH.val
  subst hv
  have hbd : Below wc.heap.size wc (wc.alloc (.cells (decCells fw fh tr) 66)) := (Below.refl _ _).alloc (Nat.le_refl _) _
  have hdd : (wc.alloc (.cells (decCells fw fh tr) 66)).cell? ⟨wc.heap.size, 30, none⟩ = some (.int .u8 tr) := by rw [World.cell?_alloc_new]; rfl
  have HY : Hid _ := hH
  clear hH
  go_wp2_with fail
  refine (decoder_any _ _ _ _).mono ?_
  rintro e wd ⟨rfl, hwd⟩
  subst hwd
  have HDD : Hid _ := hdd
  clear hdd
  go_wp2_with fail
  refine (zzToY_any wc.heap.size bi cnt cnt tr p fw fh _ hw hh hwh HY.out.cnt34 htr HDD.out (fun i hi => (HY.out.lies i hi).later hbd) (fun i hi => (HY.out.ok i hi).later hbd) HY.out.fits).mono ?_
  rintro e w6 ⟨b0, b1, b2, bo, rfl, ho, r0, r1, r2, hb6⟩
  have hS1 := (hS.later hbd).later hb6
  have N := HY.out.neutral
  have r0' : w6.rowIs b0 5 (fw * fh) (fun i => .int .u8 (greyV four tr g k (i / fw) (i % fw))) := r0.congr (fun i hi => by
    obtain ⟨h1, h2, h3⟩ := N _ _ (in_pic hi).1 (in_pic hi).2
    rw [h1, h2, h3, Pl.grey_Y])
  have r1' : w6.rowIs b1 5 (fw * fh) (fun _ => .int .u8 128) := r1.congr (fun i hi => by
    obtain ⟨h1, h2, h3⟩ := N _ _ (in_pic hi).1 (in_pic hi).2
    rw [h1, h2, h3, Pl.grey_Cb])
  have r2' : w6.rowIs b2 5 (fw * fh) (fun _ => .int .u8 128) := r2.congr (fun i hi => by
    obtain ⟨h1, h2, h3⟩ := N _ _ (in_pic hi).1 (in_pic hi).2
    rw [h1, h2, h3, Pl.grey_Cr])
  clear r0 r1 r2 N HY HDD hbd hb6 hS
  obtain ⟨o0, o1, o2, o3, o4, o5⟩ := out0 ho
  have R0 : Hid _ := r0'
  have R1 : Hid _ := r1'
  have R2 : Hid _ := r2'
  clear r0' r1' r2'
  go_wp2_with fail
  refine (full_any _ _ _ _ hwh _).mono ?_
  rintro e w7 ⟨rfl, hb7⟩
  have ho7 := block_later hb7 ho
  have hS7 := hS1.later hb7
  have R0' : Hid _ := row_later hb7 R0.out
  have R1' : Hid _ := row_later hb7 R1.out
  have R2' : Hid _ := row_later hb7 R2.out
  clear o0 o1 o2 o3 o4 o5 ho hb7 hS1 R0 R1 R2
  obtain ⟨o0, o1, o2, o3, o4, o5⟩ := out1 ho7
  go_wp2_with fail
  refine (full_any _ _ _ _ hwh _).mono ?_
  rintro e w8 ⟨rfl, hb8⟩
  have ho8 := block_later hb8 ho7
  have hS8 := hS7.later hb8
  have R0 : Hid _ := row_later hb8 R0'.out
  have R1 : Hid _ := row_later hb8 R1'.out
  have R2 : Hid _ := row_later hb8 R2'.out
  clear o0 o1 o2 o3 o4 o5 ho7 hb8 hS7 R0' R1' R2'
  obtain ⟨o0, o1, o2, o3, o4, o5⟩ := out2 ho8
  go_wp2_with fail
  refine (full_any _ _ _ _ hwh _).mono ?_
  rintro e w9 ⟨rfl, hb9⟩
  have hS9 := hS8.later hb9
  have R0' : Hid _ := row_later hb9 R0.out
  have R1' : Hid _ := row_later hb9 R1.out
  have R2' : Hid _ := row_later hb9 R2.out
  clear o0 o1 o2 o3 o4 o5 ho8 hb9 hS8 R0 R1 R2
  have c0 : w9.cell? ⟨w.heap.size, 0, none⟩ = some (.slice ga g.n gc) := hS9.gl.c0
  have c1 : w9.cell? ⟨w.heap.size, 1, none⟩ = some (.int .i64 g.pw) := hS9.gl.c1
  have c2 : w9.cell? ⟨w.heap.size, 2, none⟩ = some (.int .i64 g.ph) := hS9.gl.c2
  have c3 : w9.cell? ⟨w.heap.size, 3, none⟩ = some (.int .i64 g.ps) := hS9.gl.c3
  have c4 : w9.cell? ⟨w.heap.size, 4, none⟩ = some (.int .i64 g.px) := hS9.gl.c4
  have c5 : w9.cell? ⟨w.heap.size, 5, none⟩ = some (.int .i64 g.py) := hS9.gl.c5
  go_wp2_with fail
  refine (up_any ga g.n gc g.pw g.ph g.ps g.px g.py fw fh g.f _ hw hh hwh (by omega) hS9.go.seg HFG.out).mono ?_
  rintro e wa ⟨rfl, rg, hba⟩
  have hSa := hS9.later hba
  have R0 : Hid _ := row_later hba R0'.out
  have R1 : Hid _ := row_later hba R1'.out
  have R2 : Hid _ := row_later hba R2'.out
  have RG : Hid _ := rg
  clear c0 c1 c2 c3 c4 c5 hba hS9 R0' R1' R2' rg
  generalize w9.heap.size + 3 = gb at *
  obtain ⟨N, hN⟩ : ∃ N : Nat, fw * fh = N := ⟨_, rfl⟩
  have hNI : (fw : Int) * (fh : Int) = (N : Int) := by rw [← hN]; simp
  have hN20 : N ≤ 1048576 := by omega
  rw [hN] at R0 R1 R2 RG
  cases four with
  | false =>
    rw [hN]
    go_wp2
    go_loopg [26] N (fun gg s26 wr => wa = wr ∧ ∃ i : Nat, i ≤ N ∧ gg = N - i ∧ s26 = .int .i64 i)
    case atStart => exact ⟨rfl, 0, Nat.zero_le _, rfl, rfl⟩
    case round =>
      obtain ⟨rfl, i, hi, rfl, rfl⟩ := hrel
      by_cases hlt : i < N
      · have a0 : wa.cell? ⟨b0, i, none⟩ = some (.int .u8 (g.at_ (i / fw) (i % fw))) := World.rowIs.cell R0.out hlt
        have a1 : wa.cell? ⟨b1, i, none⟩ = some (.int .u8 128) := World.rowIs.cell R1.out hlt
        have a2 : wa.cell? ⟨b2, i, none⟩ = some (.int .u8 128) := World.rowIs.cell R2.out hlt
        have a3 : wa.cell? ⟨gb, i, none⟩ = some (.int .u8 (g.at_ (i / fw) (i % fw))) := World.rowIs.cell RG.out hlt
        generalize g.at_ (i / fw) (i % fw) = v at *
        go_wp2
        go_roundg (N - (i + 1))
        case measure => omega
        case rel => exact ⟨rfl, i + 1, by omega, rfl, by go_num⟩
      · go_wp2
        go_ret
        exact ⟨rfl, hSa.below⟩
  | true =>
    have c0 : wa.cell? ⟨w.heap.size + 1, 0, none⟩ = some (.slice ka k.n kc) := hSa.kl.c0
    have c1 : wa.cell? ⟨w.heap.size + 1, 1, none⟩ = some (.int .i64 k.pw) := hSa.kl.c1
    have c2 : wa.cell? ⟨w.heap.size + 1, 2, none⟩ = some (.int .i64 k.ph) := hSa.kl.c2
    have c3 : wa.cell? ⟨w.heap.size + 1, 3, none⟩ = some (.int .i64 k.ps) := hSa.kl.c3
    have c4 : wa.cell? ⟨w.heap.size + 1, 4, none⟩ = some (.int .i64 k.px) := hSa.kl.c4
    have c5 : wa.cell? ⟨w.heap.size + 1, 5, none⟩ = some (.int .i64 k.py) := hSa.kl.c5
    go_wp2_with fail
    refine (up_any ka k.n kc k.pw k.ph k.ps k.px k.py fw fh k.f _ hw hh hwh (by omega) hSa.ko.seg (fun h1 h2 => HFK.out h1 h2 (by simp))).mono ?_
    rintro e wb ⟨rfl, rk, hbb⟩
    have hSb := hSa.later hbb
    rw [hN] at rk ⊢
    have R0' : Hid _ := row_later hbb R0.out
    have R1' : Hid _ := row_later hbb R1.out
    have R2' : Hid _ := row_later hbb R2.out
    have RG' : Hid _ := row_later hbb RG.out
    have RK : Hid _ := rk
    clear c0 c1 c2 c3 c4 c5 hbb hSa R0 R1 R2 RG rk
    have hgb := hSb.go.byte
    have hkb := hSb.ko.byte
    have HGB : Hid _ := hgb
    have HKB : Hid _ := hkb
    clear hgb hkb
    generalize wa.heap.size + 3 = kb at *
    go_wp2
    go_loopg [26] N (fun gg s26 wr => wb = wr ∧ ∃ i : Nat, i ≤ N ∧ gg = N - i ∧ s26 = .int .i64 i)
    case atStart => exact ⟨rfl, 0, Nat.zero_le _, rfl, rfl⟩
    case round =>
      obtain ⟨rfl, i, hi, rfl, rfl⟩ := hrel
      by_cases hlt : i < N
      · have a0 : wb.cell? ⟨b0, i, none⟩ = some (.int .u8 (Pl.ink (if tr = 2 then 255 - g.at_ (i / fw) (i % fw) else g.at_ (i / fw) (i % fw)) (k.at_ (i / fw) (i % fw)))) := World.rowIs.cell R0'.out hlt
        have a1 : wb.cell? ⟨b1, i, none⟩ = some (.int .u8 128) := World.rowIs.cell R1'.out hlt
        have a2 : wb.cell? ⟨b2, i, none⟩ = some (.int .u8 128) := World.rowIs.cell R2'.out hlt
        have a3 : wb.cell? ⟨gb, i, none⟩ = some (.int .u8 (g.at_ (i / fw) (i % fw))) := World.rowIs.cell RG'.out hlt
        have a4 : wb.cell? ⟨kb, i, none⟩ = some (.int .u8 (k.at_ (i / fw) (i % fw))) := World.rowIs.cell RK.out hlt
        have t1 : 0 ≤ g.at_ (i / fw) (i % fw) ∧ g.at_ (i / fw) (i % fw) ≤ 255 := HGB.out _
        have t2 : 0 ≤ k.at_ (i / fw) (i % fw) ∧ k.at_ (i / fw) (i % fw) ≤ 255 := HKB.out _
        generalize g.at_ (i / fw) (i % fw) = v at *
        generalize k.at_ (i / fw) (i % fw) = q at *
        have t3 : 0 ≤ 255 - v ∧ 255 - v ≤ 255 := by omega
        by_cases htr2 : tr = 2
        · subst htr2
          rw [if_pos rfl] at a0
          go_wp2_with (go_at_call 19; refine (light_any _ _ t3 t2 _).mono ?_; rintro e w' ⟨rfl, rfl⟩)
          go_roundg (N - (i + 1))
          case measure => omega
          case rel => exact ⟨rfl, i + 1, by omega, rfl, by go_num⟩
        · rw [if_neg htr2] at a0
          have htr2' : (tr == 2) = false := by simp [htr2]
          clear htr2
          go_wp2_with (go_at_call 19; refine (light_any _ _ t1 t2 _).mono ?_; rintro e w' ⟨rfl, rfl⟩)
          go_roundg (N - (i + 1))
          case measure => omega
          case rel => exact ⟨rfl, i + 1, by omega, rfl, by go_num⟩
      · go_wp2
        go_ret
        exact ⟨rfl, hSb.below⟩

end Go.Proofs.Qxb6605972a
