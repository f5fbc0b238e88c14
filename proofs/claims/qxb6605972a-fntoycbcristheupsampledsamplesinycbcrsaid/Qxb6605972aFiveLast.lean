/-
  THE LAW 'FnToYCbCrIsTheUpsampledSamplesInYCbCr', ITS LAST LOOP: every pixel is compared.
-/
import Derived.Test.Qxb6605972aClone
import Derived.Test.Qxb6605972aGreyTail
namespace Go.Proofs.Qxb6605972a
open Go.RowKit

/-- What the last loop reads. -/
structure LastS (wc : World) (tr : Int) (fw N cnt PX FU b0 b1 b2 : Nat) (fb : Nat → Nat) (p : Nat → PlaneD) : Prop where
  x0 : wc.cell? ⟨PX, 0, none⟩ = some (.slice (some ⟨b0, 0, none⟩) N N)
  x1 : wc.cell? ⟨PX, 1, none⟩ = some (.slice (some ⟨b1, 0, none⟩) N N)
  x2 : wc.cell? ⟨PX, 2, none⟩ = some (.slice (some ⟨b2, 0, none⟩) N N)
  r0 : wc.rowIs b0 5 N (fun i => .int .u8 (Pl.rgbY (cRof cnt tr p (i / fw) (i % fw)) (cGof cnt tr p (i / fw) (i % fw)) (cBof cnt tr p (i / fw) (i % fw))))
  r1 : wc.rowIs b1 5 N (fun i => .int .u8 (Pl.rgbCb (cRof cnt tr p (i / fw) (i % fw)) (cGof cnt tr p (i / fw) (i % fw)) (cBof cnt tr p (i / fw) (i % fw))))
  r2 : wc.rowIs b2 5 N (fun i => .int .u8 (Pl.rgbCr (cRof cnt tr p (i / fw) (i % fw)) (cGof cnt tr p (i / fw) (i % fw)) (cBof cnt tr p (i / fw) (i % fw))))
  full : ∀ t, t < cnt → wc.cell? ⟨FU, t, none⟩ = some (.slice (some ⟨fb t, 0, none⟩) N N)
  rows : ∀ t, t < cnt → wc.rowIs (fb t) 5 N (fun i => .int .u8 ((p t).at_ (i / fw) (i % fw)))
  byte : ∀ t, t < cnt → ∀ y x, 0 ≤ (p t).at_ y x ∧ (p t).at_ y x ≤ 255

set_option maxHeartbeats 8000000 in
set_option maxRecDepth 1000000 in
theorem five_last (tr : Int) (fw N cnt OB PX FU b0 b1 b2 : Nat) (fb : Nat → Nat) (p : Nat → PlaneD) (w wc : World) (hN : N ≤ 1048576) (hcnt : cnt = 3 ∨ cnt = 4) (hb : Below w.heap.size w wc) (hL : LastS wc tr fw N cnt PX FU b0 b1 b2 fb p)
    (c1 c2 c4 c5 c6 c7 c8 c9 c10 c11 c12 c15 c16 c17 c19 c20 c21 c22 c23 c24 c25 c26 c27 c28 c29 c30 c31 c32 c33 c34 c35 c36 c37 c38 c39 c40 c41 c42 c43 c44 c45 c46 c47 c48 c49 c50 c51 c52 c53 c54 c55 c56 c57 c58 c59 c60 c61 c62 c63 c64 c65 c66 c67 c68 c69 c70 c71 c72 c73 c74 c75 c76 c77 c78 c79 c80 c81 c82 c83 c84 c85 c86 c87 c88 c89 c90 c91 c92 c93 c94 c95 c96 c97 c98 c99 c100 c101 c102 c103 c104 c105 c106 c107 c108 c109 c110 c111 c112 c113 c114 c115 c116 c117 c118 c119 c120 c121 c122 c123 c124 c125 c126 c127 c128 c129 c130 c131 c132 c133 c134 c135 c136 c137 c138 c139 c140 c141 c142 c143 c144 c145 c146 c147 c148 c149 c150 c151 c152 c153 c154 c155 c156 c157 c158 c159 c160 c161 c162 c163 c164 c165 c166 c167 c168 c169 c170 c171 c172 c173 c174 c175 c176 c177 c178 c179 c180 c181 c182 c183 c184 c185 c186 c187 c188 c189 c190 c191 c192 c193 c194 c195 c196 c197 c198 c199 c200 c201 c202 c203 c204 c205 c206 c207 c208 c209 c210 c211 c212 c213 c214 c215 c216 c217 c218 c219 c220 c221 c222 c223 c224 c225 c226 c227 c228 c229 c230 c231 c232 c233 c234 c235 c236 c237 c238 c239 c240 c241 c242 c243 c244 c245 c246 c247 c248 : Value) :
    Code.wp Try.prog (spine 17 (Try.f5.body.getD .skip)) (bodyPost Try.prog Try.f5 fun e w' => e = .returned (.bool true) ∧ Below w.heap.size w w') ⟨#[.int .u8 tr, c1, c2, .slice (some ⟨OB, 0, none⟩) cnt cnt, c4, c5, c6, c7, c8, c9, c10, c11, c12, .int .i64 N, .pointer (some ⟨PX, 0, none⟩), c15, c16, c17, .slice (some ⟨FU, 0, none⟩) cnt cnt, c19, c20, c21, c22, c23, c24, c25, c26, c27, c28, c29, c30, c31, c32, c33, c34, c35, c36, c37, c38, c39, c40, c41, c42, c43, c44, c45, c46, c47, c48, c49, c50, c51, c52, c53, c54, c55, c56, c57, c58, c59, c60, c61, c62, c63, c64, c65, c66, c67, c68, c69, c70, c71, c72, c73, c74, c75, c76, c77, c78, c79, c80, c81, c82, c83, c84, c85, c86, c87, c88, c89, c90, c91, c92, c93, c94, c95, c96, c97, c98, c99, c100, c101, c102, c103, c104, c105, c106, c107, c108, c109, c110, c111, c112, c113, c114, c115, c116, c117, c118, c119, c120, c121, c122, c123, c124, c125, c126, c127, c128, c129, c130, c131, c132, c133, c134, c135, c136, c137, c138, c139, c140, c141, c142, c143, c144, c145, c146, c147, c148, c149, c150, c151, c152, c153, c154, c155, c156, c157, c158, c159, c160, c161, c162, c163, c164, c165, c166, c167, c168, c169, c170, c171, c172, c173, c174, c175, c176, c177, c178, c179, c180, c181, c182, c183, c184, c185, c186, c187, c188, c189, c190, c191, c192, c193, c194, c195, c196, c197, c198, c199, c200, c201, c202, c203, c204, c205, c206, c207, c208, c209, c210, c211, c212, c213, c214, c215, c216, c217, c218, c219, c220, c221, c222, c223, c224, c225, c226, c227, c228, c229, c230, c231, c232, c233, c234, c235, c236, c237, c238, c239, c240, c241, c242, c243, c244, c245, c246, c247, c248], []⟩ wc := by
  conv => arg 2; whnf
  have x0 := hL.x0
  have x1 := hL.x1
  have x2 := hL.x2
  have u0 := hL.full 0 (by omega)
  have u1 := hL.full 1 (by omega)
  have u2 := hL.full 2 (by omega)
  have HL : Hid _ := hL
  clear hL
  go_wp2
  go_loopg [20] N (fun gg s20 wr => ∃ i m : Nat, i ≤ N ∧ gg = N - i ∧ s20 = .int .i64 i ∧ wr = wc.drewN m)
  case atStart => exact ⟨0, 0, Nat.zero_le _, rfl, rfl, rfl⟩
  case round =>
    obtain ⟨i, m, hi, rfl, rfl, rfl⟩ := hrel
    by_cases hlt : i < N
    · have hi1 : (i : Int) < (N : Int) := by omega
      have a0 := World.rowIs.cell (LastS.r0 HL.out) hlt
      have a1 := World.rowIs.cell (LastS.r1 HL.out) hlt
      have a2 := World.rowIs.cell (LastS.r2 HL.out) hlt
      have d0 := World.rowIs.cell (LastS.rows HL.out 0 (by omega)) hlt
      have d1 := World.rowIs.cell (LastS.rows HL.out 1 (by omega)) hlt
      have d2 := World.rowIs.cell (LastS.rows HL.out 2 (by omega)) hlt
      have y0 := LastS.byte HL.out 0 (by omega) (i / fw) (i % fw)
      have y1 := LastS.byte HL.out 1 (by omega) (i / fw) (i % fw)
      have y2 := LastS.byte HL.out 2 (by omega) (i / fw) (i % fw)
      rcases hcnt with rfl | rfl
      · simp only [cRof, cGof, cBof, Pl.colR, Pl.colG, Pl.colB] at a0 a1 a2
        rw [if_neg (by omega), if_neg (by omega), if_neg (by omega)] at a0 a1 a2
        generalize (p 0).at_ (i / fw) (i % fw) = s0 at *
        generalize (p 1).at_ (i / fw) (i % fw) = s1 at *
        generalize (p 2).at_ (i / fw) (i % fw) = s2 at *
        go_wp2
        go_quiet (fail)
        go_wp2_with (go_at_call 20; refine (rgb2_any _ _ _ y0 y1 y2 _).mono ?_; rintro e w' ⟨rfl, hw'⟩; subst hw')
        go_roundg (N - (i + 1))
        case measure => omega
        case rel => exact ⟨i + 1, _, by omega, rfl, by go_num, by first | rfl | (simp only [World.drewN_drewN]; done) | (simp only [World.drewN_drewN]; rfl)⟩
      · have d3 := World.rowIs.cell (LastS.rows HL.out 3 (by omega)) hlt
        have y3 := LastS.byte HL.out 3 (by omega) (i / fw) (i % fw)
        have u3 := LastS.full HL.out 3 (by omega)
        simp only [cRof, cGof, cBof, Pl.colR, Pl.colG, Pl.colB, if_true] at a0 a1 a2
        generalize (p 0).at_ (i / fw) (i % fw) = s0 at *
        generalize (p 1).at_ (i / fw) (i % fw) = s1 at *
        generalize (p 2).at_ (i / fw) (i % fw) = s2 at *
        generalize (p 3).at_ (i / fw) (i % fw) = s3 at *
        by_cases htr2 : tr = 2
        · subst htr2
          rw [if_pos rfl, if_pos rfl, if_pos rfl] at a0 a1 a2
          have rr : 0 ≤ Pl.yccR s0 s1 s2 ∧ Pl.yccR s0 s1 s2 ≤ 255 := Pl.cl_range _
          have rg : 0 ≤ Pl.yccG s0 s1 s2 ∧ Pl.yccG s0 s1 s2 ≤ 255 := Pl.cl_range _
          have rb : 0 ≤ Pl.yccB s0 s1 s2 ∧ Pl.yccB s0 s1 s2 ≤ 255 := Pl.cl_range _
          have rr' : 0 ≤ 255 - Pl.yccR s0 s1 s2 ∧ 255 - Pl.yccR s0 s1 s2 ≤ 255 := by omega
          have rg' : 0 ≤ 255 - Pl.yccG s0 s1 s2 ∧ 255 - Pl.yccG s0 s1 s2 ≤ 255 := by omega
          have rb' : 0 ≤ 255 - Pl.yccB s0 s1 s2 ∧ 255 - Pl.yccB s0 s1 s2 ≤ 255 := by omega
          have k0 := Pl.ink_range (255 - Pl.yccR s0 s1 s2) s3 rr' y3
          have k1 := Pl.ink_range (255 - Pl.yccG s0 s1 s2) s3 rg' y3
          have k2 := Pl.ink_range (255 - Pl.yccB s0 s1 s2) s3 rb' y3
          go_wp2
          go_quiet (fail)
          go_wp2_with fail
          refine (ycc2_any _ _ _ y0 y1 y2 _).mono ?_
          rintro e w' ⟨rfl, hw'⟩
          subst hw'
          go_wp2_with fail
          refine (light_any _ _ rr' y3 _).mono ?_
          rintro e w' ⟨rfl, hw'⟩
          subst hw'
          go_wp2_with fail
          refine (light_any _ _ rg' y3 _).mono ?_
          rintro e w' ⟨rfl, hw'⟩
          subst hw'
          go_wp2_with fail
          refine (light_any _ _ rb' y3 _).mono ?_
          rintro e w' ⟨rfl, hw'⟩
          subst hw'
          go_wp2_with fail
          refine (rgb2_any _ _ _ k0 k1 k2 _).mono ?_
          rintro e w' ⟨rfl, hw'⟩
          subst hw'
          go_wp2
          go_roundg (N - (i + 1))
          case measure => omega
          case rel => exact ⟨i + 1, _, by omega, rfl, by go_num, by first | rfl | (simp only [World.drewN_drewN]; done) | (simp only [World.drewN_drewN]; rfl)⟩
        · rw [if_neg htr2, if_neg htr2, if_neg htr2] at a0 a1 a2
          have htr2' : (tr == 2) = false := by simp [htr2]
          clear htr2
          have k0 := Pl.ink_range s0 s3 y0 y3
          have k1 := Pl.ink_range s1 s3 y1 y3
          have k2 := Pl.ink_range s2 s3 y2 y3
          go_wp2
          go_quiet (fail)
          go_wp2_with fail
          refine (light_any _ _ y0 y3 _).mono ?_
          rintro e w' ⟨rfl, hw'⟩
          subst hw'
          go_wp2_with fail
          refine (light_any _ _ y1 y3 _).mono ?_
          rintro e w' ⟨rfl, hw'⟩
          subst hw'
          go_wp2_with fail
          refine (light_any _ _ y2 y3 _).mono ?_
          rintro e w' ⟨rfl, hw'⟩
          subst hw'
          go_wp2_with fail
          refine (rgb2_any _ _ _ k0 k1 k2 _).mono ?_
          rintro e w' ⟨rfl, hw'⟩
          subst hw'
          go_wp2
          go_roundg (N - (i + 1))
          case measure => omega
          case rel => exact ⟨i + 1, _, by omega, rfl, by go_num, by first | rfl | (simp only [World.drewN_drewN]; done) | (simp only [World.drewN_drewN]; rfl)⟩
    · go_wp2
      go_ret
      exact ⟨rfl, below_drewN hb _⟩

end Go.Proofs.Qxb6605972a
