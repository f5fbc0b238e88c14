/-
  THE LAW 'FnToYCbCrIsTheUpsampledSamplesInYCbCr': the copies, the planes, the conversion; then the tail.
-/
import Derived.Test.Qxb6605972aFiveTail
namespace Go.Proofs.Qxb6605972a
open Go.RowKit

/-- What the conversion leaves. -/
structure ConvS (w wx : World) (v : Value) (tr : Int) (fw fh cnt OB bo b0 b1 b2 : Nat) (q : Nat → PlaneD) : Prop where
  val : v = .slice (some ⟨bo, 0, none⟩) 3 3
  below : Below w.heap.size w wx
  out : wx.heap[bo]? = some (.cells (outCells b0 b1 b2 fw fh) 34 (0, 0))
  r0 : wx.rowIs b0 5 (fw * fh) (fun i => .int .u8 (Pl.rgbY (cRof cnt tr q (i / fw) (i % fw)) (cGof cnt tr q (i / fw) (i % fw)) (cBof cnt tr q (i / fw) (i % fw))))
  r1 : wx.rowIs b1 5 (fw * fh) (fun i => .int .u8 (Pl.rgbCb (cRof cnt tr q (i / fw) (i % fw)) (cGof cnt tr q (i / fw) (i % fw)) (cBof cnt tr q (i / fw) (i % fw))))
  r2 : wx.rowIs b2 5 (fw * fh) (fun i => .int .u8 (Pl.rgbCr (cRof cnt tr q (i / fw) (i % fw)) (cGof cnt tr q (i / fw) (i % fw)) (cBof cnt tr q (i / fw) (i % fw))))
  lies : ∀ j, j < cnt → (q j).Lies wx OB (j * 6)
  ok : ∀ j, j < cnt → (q j).Ok wx

set_option maxHeartbeats 8000000 in
set_option maxRecDepth 1000000 in
theorem five_mid (tr : Int) (htr : 0 ≤ tr ∧ tr ≤ 255) (fw fh cnt cc b o : Nat) (p : Nat → PlaneD) (w wc : World) (hw : fw ≤ 65536) (hh : fh ≤ 65536) (hwh : fw * fh ≤ 1048576) (hcnt : cnt = 3 ∨ cnt = 4) (hb : Below w.heap.size w wc)
    (hP : PlanesIn wc (some ⟨b, o, none⟩) cnt p) (hlen : ∀ i, i < cnt → (p i).n ≤ 1048576) (hfit : 0 < fw → 0 < fh → ∀ j, j < cnt → (p j).fits = true)
    (c4 c5 c6 c7 c8 c9 c10 c11 c12 c13 c14 c15 c16 c17 c18 c19 c20 c21 c22 c23 c24 c25 c26 c27 c28 c29 c30 c31 c32 c33 c34 c35 c36 c37 c38 c39 c40 c41 c42 c43 c44 c45 c46 c47 c48 c49 c50 c51 c52 c53 c54 c55 c56 c57 c58 c59 c60 c61 c62 c63 c64 c65 c66 c67 c68 c69 c70 c71 c72 c73 c74 c75 c76 c77 c78 c79 c80 c81 c82 c83 c84 c85 c86 c87 c88 c89 c90 c91 c92 c93 c94 c95 c96 c97 c98 c99 c100 c101 c102 c103 c104 c105 c106 c107 c108 c109 c110 c111 c112 c113 c114 c115 c116 c117 c118 c119 c120 c121 c122 c123 c124 c125 c126 c127 c128 c129 c130 c131 c132 c133 c134 c135 c136 c137 c138 c139 c140 c141 c142 c143 c144 c145 c146 c147 c148 c149 c150 c151 c152 c153 c154 c155 c156 c157 c158 c159 c160 c161 c162 c163 c164 c165 c166 c167 c168 c169 c170 c171 c172 c173 c174 c175 c176 c177 c178 c179 c180 c181 c182 c183 c184 c185 c186 c187 c188 c189 c190 c191 c192 c193 c194 c195 c196 c197 c198 c199 c200 c201 c202 c203 c204 c205 c206 c207 c208 c209 c210 c211 c212 c213 c214 c215 c216 c217 c218 c219 c220 c221 c222 c223 c224 c225 c226 c227 c228 c229 c230 c231 c232 c233 c234 c235 c236 c237 c238 c239 c240 c241 c242 c243 c244 c245 c246 c247 c248 : Value) :
    Code.wp Try.prog (spine 7 (Try.f5.body.getD .skip)) (bodyPost Try.prog Try.f5 fun e w' => e = .returned (.bool true) ∧ Below w.heap.size w w') ⟨#[.int .u8 tr, .int .i64 fw, .int .i64 fh, .slice (some ⟨b, o, none⟩) cnt cc, c4, c5, c6, c7, c8, c9, c10, c11, c12, c13, c14, c15, c16, c17, c18, c19, c20, c21, c22, c23, c24, c25, c26, c27, c28, c29, c30, c31, c32, c33, c34, c35, c36, c37, c38, c39, c40, c41, c42, c43, c44, c45, c46, c47, c48, c49, c50, c51, c52, c53, c54, c55, c56, c57, c58, c59, c60, c61, c62, c63, c64, c65, c66, c67, c68, c69, c70, c71, c72, c73, c74, c75, c76, c77, c78, c79, c80, c81, c82, c83, c84, c85, c86, c87, c88, c89, c90, c91, c92, c93, c94, c95, c96, c97, c98, c99, c100, c101, c102, c103, c104, c105, c106, c107, c108, c109, c110, c111, c112, c113, c114, c115, c116, c117, c118, c119, c120, c121, c122, c123, c124, c125, c126, c127, c128, c129, c130, c131, c132, c133, c134, c135, c136, c137, c138, c139, c140, c141, c142, c143, c144, c145, c146, c147, c148, c149, c150, c151, c152, c153, c154, c155, c156, c157, c158, c159, c160, c161, c162, c163, c164, c165, c166, c167, c168, c169, c170, c171, c172, c173, c174, c175, c176, c177, c178, c179, c180, c181, c182, c183, c184, c185, c186, c187, c188, c189, c190, c191, c192, c193, c194, c195, c196, c197, c198, c199, c200, c201, c202, c203, c204, c205, c206, c207, c208, c209, c210, c211, c212, c213, c214, c215, c216, c217, c218, c219, c220, c221, c222, c223, c224, c225, c226, c227, c228, c229, c230, c231, c232, c233, c234, c235, c236, c237, c238, c239, c240, c241, c242, c243, c244, c245, c246, c247, c248], []⟩ wc := by
  conv => arg 2; whnf
  have HP : Hid _ := hP
  have HLn : Hid _ := hlen
  have HF : Hid _ := hfit
  clear hP hlen hfit
  go_wp2_with fail
  refine (clonePlanes_any b o cnt cc p _ (by omega) HP.out HLn.out).mono ?_
  rintro e w2 ⟨v, q, rfl, hC⟩
  have hv := hC.val
  subst hv
  generalize wc.heap.size = OB at hC ⊢
  have hfq : Hid (0 < fw → 0 < fh → ∀ j, j < cnt → (q j).fits = true) := fun h1 h2 j hj => by
    obtain ⟨a, c, e⟩ := hC.moved j hj
    rw [e]
    exact HF.out h1 h2 j hj
  have hbw2 : Below w.heap.size w w2 := hb.trans (hC.below.mono hb.size)
  have HQ : Hid _ := And.intro hC.lies hC.ok
  clear hC HP HLn HF hb
  have hmk := run_make6 32 34 Try.underlying32 Try.info34 cnt (by omega)
  go_wp2
  clear hmk
  have hR0 : Row6 (w2.alloc (.cells (madeCells #[.slice none 0 0, .int .i64 0, .int .i64 0, .int .i64 0, .int .i64 0, .int .i64 0] (cnt * 6)) 34)) w2.heap.size cnt 0 q := ⟨Room.made _ _ _ _, fun _ hj => absurd hj (Nat.not_lt_zero _)⟩
  have hB0 : Below w2.heap.size w2 (w2.alloc (.cells (madeCells #[.slice none 0 0, .int .i64 0, .int .i64 0, .int .i64 0, .int .i64 0, .int .i64 0] (cnt * 6)) 34)) := (Below.refl _ _).alloc (Nat.le_refl _) _
  go_loopg [95] cnt (fun gg s95 wr => ∃ k : Nat, k ≤ cnt ∧ gg = cnt - k ∧ s95 = .int .i64 k ∧ Row6 wr w2.heap.size cnt k q ∧ Below w2.heap.size w2 wr)
  case atStart => exact ⟨0, Nat.zero_le _, rfl, rfl, hR0, hB0⟩
  case round =>
    clear hR0 hB0
    obtain ⟨k, hk, rfl, rfl, hR, hB⟩ := hrel
    by_cases hlt : k < cnt
    · have hl := (HQ.out.1 k hlt).later hB
      have c0 := hl.c0
      have c1 := hl.c1
      have c2 := hl.c2
      have c3 := hl.c3
      have c4 := hl.c4
      have c5 := hl.c5
      clear hl
      go_wp2_with fail
      refine (toPlane_any _ _ _ _ _ _ _ _ _).mono ?_
      rintro e w3 ⟨rfl, hb3⟩
      have hR3 := hR.later hb3
      obtain ⟨⟨v0, r0⟩, f0⟩ := hR3.room (k * 6) (by omega)
      obtain ⟨⟨v1, r1⟩, f1⟩ := hR3.room (k * 6 + 1) (by omega)
      obtain ⟨⟨v2, r2⟩, f2⟩ := hR3.room (k * 6 + 2) (by omega)
      obtain ⟨⟨v3, r3⟩, f3⟩ := hR3.room (k * 6 + 3) (by omega)
      obtain ⟨⟨v4, r4⟩, f4⟩ := hR3.room (k * 6 + 4) (by omega)
      obtain ⟨⟨v5, r5⟩, f5⟩ := hR3.room (k * 6 + 5) (by omega)
      have hlt2 : w2.heap.size < wr.heap.size := by
        obtain ⟨⟨u, hu⟩, _⟩ := hR.room 0 (by omega)
        exact World.block_lt_of_cell? _ _ hu
      have hRn := hR3.step hlt
      have hBn : Below w2.heap.size w2 (set6 w3 w2.heap.size (k * 6) (q k)) := set6_below (hB.trans (hb3.mono (by omega))) (Nat.le_refl _) (q k)
      clear c0 c1 c2 c3 c4 c5 hR hB hb3 hR3
      go_wp2
      go_roundg (cnt - (k + 1))
      case measure => omega
      case rel => exact ⟨k + 1, by omega, rfl, by go_num, hRn, hBn⟩
    · have hkk : k = cnt := by omega
      subst hkk
      go_upto_region 25 with fail
      go_cut [12] from 31 (fun s12 wx => ∃ bo b0 b1 b2, ConvS w wx s12 tr fw fh k OB bo b0 b1 b2 q)
      case first =>
        have hbd : Below wr.heap.size wr (wr.alloc (.cells (decCells fw fh tr) 66)) := (Below.refl _ _).alloc (Nat.le_refl _) _
        have HDD : Hid ((wr.alloc (.cells (decCells fw fh tr) 66)).cell? ⟨wr.heap.size, 30, none⟩ = some (.int .u8 tr)) := by show (wr.alloc (.cells (decCells fw fh tr) 66)).cell? ⟨wr.heap.size, 30, none⟩ = some (.int .u8 tr); rw [World.cell?_alloc_new]; rfl
        go_wp2_with fail
        refine (decoder_any _ _ _ _).mono ?_
        rintro e wd ⟨rfl, hwd⟩
        subst hwd
        go_wp2_with fail
        refine (zzToY_any wr.heap.size w2.heap.size k k tr q fw fh _ hw hh hwh hcnt htr HDD.out (fun i hi => (hR.lies i hi).later hbd) (fun i hi => ((HQ.out.2 i hi).later hB).later hbd) hfq.out).mono ?_
        rintro e w6 ⟨b0, b1, b2, bo, rfl, ho, r0, r1, r2, hb6⟩
        have hbAll : Below w2.heap.size w2 w6 := (hB.trans (hbd.mono hB.size)).trans (hb6.mono (by have := hB.size; have := hbd.size; omega))
        have CS : Hid (ConvS w w6 (.slice (some ⟨bo, 0, none⟩) 3 3) tr fw fh k OB bo b0 b1 b2 q) := ⟨rfl, hbw2.trans (hbAll.mono hbw2.size), ho, r0, r1, r2, fun j hj => (HQ.out.1 j hj).later hbAll, fun j hj => (HQ.out.2 j hj).later hbAll⟩
        clear ho r0 r1 r2 hb6 hbAll hbd HDD
        go_wp2
        go_meet
        case rel => exact ⟨bo, b0, b1, b2, CS.out⟩
      case rest =>
        obtain ⟨bo, b0, b1, b2, hCS⟩ := hcut
        have hv := hCS.val
        subst hv
        refine ‹∀ (a : Act) (w : World), Code.wp Try.prog _ _ a w → _› _ _ ?_
        exact five_tail tr fw fh k OB bo b0 b1 b2 q w wc hw hh hwh hcnt hCS.below hCS.out hCS.r0 hCS.r1 hCS.r2 hCS.lies hCS.ok hfq.out _ _ _ _ _ _ _ _ _ _ _ _ _ _ _ _ _ _ _ _ _ _ _ _ _ _ _ _ _ _ _ _ _ _ _ _ _ _ _ _ _ _ _ _ _ _ _ _ _ _ _ _ _ _ _ _ _ _ _ _ _ _ _ _ _ _ _ _ _ _ _ _ _ _ _ _ _ _ _ _ _ _ _ _ _ _ _ _ _ _ _ _ _ _ _ _ _ _ _ _ _ _ _ _ _ _ _ _ _ _ _ _ _ _ _ _ _ _ _ _ _ _ _ _ _ _ _ _ _ _ _ _ _ _ _ _ _ _ _ _ _ _ _ _ _ _ _ _ _ _ _ _ _ _ _ _ _ _ _ _ _ _ _ _ _ _ _ _ _ _ _ _ _ _ _ _ _ _ _ _ _ _ _ _ _ _ _ _ _ _ _ _ _ _ _ _ _ _ _ _ _ _ _ _ _ _ _ _ _ _ _ _ _ _ _ _ _ _ _ _ _ _ _ _ _ _ _ _ _ _ _ _ _ _ _ _ _ _ _ _ _ _ _ _

end Go.Proofs.Qxb6605972a
