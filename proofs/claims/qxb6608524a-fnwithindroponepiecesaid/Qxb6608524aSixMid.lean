/-
  SEAT b6608524a: THE LAW 'FnWithinDropOnePiece': its middle, behind the sum of the lengths.
-/
import Derived.Test.Qxb6608524aSixLoop
namespace Go.Proofs.Qxb6608524a
open Go.RowKit

open Classical in
set_option maxHeartbeats 8000000 in
set_option maxRecDepth 1000000 in
theorem six_mid (n size count width i k : Int) (ba a1 a2 : Option Addr) (bn bc m1 m2 : Nat) (N : Nat → Nat) (F : Nat → Nat → Int) (X E : Nat → Int) (w wc : World) (hi1 : i ≤ 9223372036854775807) (hm1 : m1 ≤ 65536) (hm2 : m2 ≤ 65536) (hbn : bn ≤ 1048576)
    (HN : Hid (∀ i, i < bn → N i ≤ 1048576)) (hnil : Hid (ba = none → bn = 0 ∧ bc = 0)) (HB : Hid (Blocks wc ba bn N F)) (HF : Hid (∀ a b, 0 ≤ F a b ∧ F a b ≤ 255))
    (HX : Hid (Ints wc a1 m1 X)) (HE : Hid (Ints wc a2 m2 E)) (hW : Below w.heap.size w wc) (c9 c10 c11 c12 c13 c14 c15 c16 c17 c18 c19 c20 c21 c22 c23 c24 c25 c26 c27 c28 c29 c30 c31 c32 c33 c34 c35 c36 c37 c38 c39 c40 c41 c42 c43 c44 c45 c46 c47 c48 c49 c50 c51 c52 c53 c54 c55 c56 c57 c58 c59 c60 c61 c62 c63 c64 c65 c66 c67 c68 c69 c70 c71 c72 c73 c74 c75 c76 c77 c78 c79 c80 c81 c82 c83 c84 c85 c86 c87 c88 c89 c90 c91 c92 c93 c94 c95 c96 c97 c98 c99 c100 c101 c102 c103 c104 c105 c106 c107 c108 c109 c110 c111 c112 c113 c114 c115 c116 c117 c118 c119 c120 c121 c122 c123 c124 c125 c126 c127 c128 c129 c130 c131 c132 c133 c134 c135 c136 c137 c138 c139 c140 c141 c142 c143 c144 c145 c146 c147 c148 c149 c150 c151 c152 c153 c154 c155 c156 c157 c158 c159 c160 c161 c162 c163 c164 c165 c166 c167 c168 c169 c170 c171 c172 c173 c174 c175 c176 c177 c178 c179 c180 c181 c182 c183 c184 c185 c186 c187 c188 c189 c190 c191 c192 c193 c194 c195 c196 c197 c198 c199 c200 c201 c202 c203 c204 c205 c206 c207 c208 c209 c210 c211 c212 c213 c214 c215 c216 c217 : Value) :
    Code.wp Try.prog (spine 8 (Try.f6.body.getD .skip)) (bodyPost Try.prog Try.f6 fun e w' => e = .returned (.bool true) ∧ Below w.heap.size w w') ⟨#[.int .i64 n, .int .i64 size, .int .i64 count, .int .i64 width, .slice ba bn bc, .slice a1 m1 m1, .slice a2 m2 m2, .int .i64 i, .int .i64 k, c9, c10, c11, c12, c13, c14, c15, c16, c17, c18, c19, c20, c21, c22, c23, c24, c25, c26, c27, c28, c29, c30, c31, c32, c33, c34, c35, c36, c37, c38, c39, c40, c41, c42, c43, c44, c45, c46, c47, c48, c49, c50, c51, c52, c53, c54, c55, c56, c57, c58, c59, c60, c61, c62, c63, c64, c65, c66, c67, c68, c69, c70, c71, c72, c73, c74, c75, c76, c77, c78, c79, c80, c81, c82, c83, c84, c85, c86, c87, c88, c89, c90, c91, c92, c93, c94, c95, c96, c97, c98, c99, c100, c101, c102, c103, c104, c105, c106, c107, c108, c109, c110, c111, c112, c113, c114, c115, c116, c117, c118, c119, c120, c121, c122, c123, c124, c125, c126, c127, c128, c129, c130, c131, c132, c133, c134, c135, c136, c137, c138, c139, c140, c141, c142, c143, c144, c145, c146, c147, c148, c149, c150, c151, c152, c153, c154, c155, c156, c157, c158, c159, c160, c161, c162, c163, c164, c165, c166, c167, c168, c169, c170, c171, c172, c173, c174, c175, c176, c177, c178, c179, c180, c181, c182, c183, c184, c185, c186, c187, c188, c189, c190, c191, c192, c193, c194, c195, c196, c197, c198, c199, c200, c201, c202, c203, c204, c205, c206, c207, c208, c209, c210, c211, c212, c213, c214, c215, c216, c217], []⟩ wc := by
  conv => arg 2; whnf
  dsimp only
  by_cases h1 : m1 = m2
  · subst h1
    by_cases h2 : i < 0
    · go_wp2
      go_ret
      exact ⟨rfl, hW⟩
    · by_cases h3 : count < i
      · go_wp2
        go_ret
        exact ⟨rfl, hW⟩
      · by_cases h4 : k < 0
        · go_wp2
          go_ret
          exact ⟨rfl, hW⟩
        · by_cases h5 : (m1 : Int) ≤ k
          · go_wp2
            go_ret
            exact ⟨rfl, hW⟩
          · obtain ⟨kk, rfl⟩ := Int.eq_ofNat_of_zero_le (a := k) (by omega)
            go_wp2_with fail
            refine (ord_any a1 a2 m1 m1 m1 X E wc (by omega) HX.out HE.out).mono ?_
            rintro e wd ⟨rfl, nd, rfl⟩
            have hWd : Below w.heap.size w (wc.drewN nd) := below_drewN hW _
            have hbd : Below wc.heap.size wc (wc.drewN nd) := below_drewN (Below.refl _ _) _
            have HXd : Hid _ := Ints.later HX.out hbd
            have HEd : Hid _ := Ints.later HE.out hbd
            have HBd : Hid _ := Blocks.below HB.out hbd
            clear hbd HX HE HB hW
            generalize wc.drewN nd = wd at *
            by_cases hO : Pl.Ord X E m1
            · have hd : decide (Pl.Ord X E m1) = true := decide_eq_true hO
              have HO : Hid _ := hO
              rw [hd]
              clear hd hO
              by_cases hH : Held count bn N i
              · have C := piece_held n size count width ba bn bc N F i wd (by omega) hi1 HBd.out HF.out hH
                have HH : Hid _ := hH
                clear hH
                obtain ⟨s, hs⟩ : ∃ s, startV n size count width F i = s := ⟨_, rfl⟩
                have HS : Hid (startV n size count width F i = s) := hs
                rw [hs] at C
                clear hs
                go_wp2_with fail
                refine C.mono ?_
                rintro e we ⟨rfl, rfl⟩
                clear C
                go_upto_if 137 with fail
                go_cut [] from 138 (fun wx => we = wx)
                case first =>
                  go_wp2
                  go_meet
                  case rel => rfl
                case rest =>
                  subst hcut
                  refine ‹∀ (a : Act) (w : World), Code.wp Try.prog _ _ a w → _› _ _ ?_
                  exact six_loop n size count width i ba a1 a2 bn bc m1 kk N F X E s w _ h2 hi1 hm1 (by omega) hbn HN hnil HBd HF HH HXd HEd HO HS hWd _ _ _ _ _ _ _ _ _ _ _ _ _ _ _ _ _ _ _ _ _ _ _ _ _ _ _ _ _ _ _ _ _ _ _ _ _ _ _ _ _ _ _ _ _ _ _ _ _ _ _ _ _ _ _ _ _ _ _ _ _ _ _ _ _ _ _ _ _ _ _ _ _ _ _ _ _ _ _ _ _ _ _ _ _ _ _ _ _ _ _ _ _ _ _ _ _ _ _ _ _ _ _ _ _ _ _ _ _ _ _ _ _ _ _ _ _ _ _ _ _ _ _ _ _ _ _ _ _ _ _ _ _ _ _ _ _ _ _ _ _ _ _ _ _ _ _ _ _ _ _ _ _ _ _ _ _ _ _ _ _ _ _ _ _ _ _ _ _ _ _ _ _ _ _ _ _ _ _ _ _ _ _ _ _ _ _ _ _ _ _ _ _ _ _ _ _ _ _ _ _ _ _ _ _ _ _ _
              · have C := piece_not n size count width ba bn bc N F i wd (by omega) hi1 HBd.out hH
                clear hH
                go_wp2_with fail
                refine C.mono ?_
                rintro e we ⟨rfl, rfl⟩
                go_wp2
                go_ret
                exact ⟨rfl, hWd⟩
            · have hd : decide (Pl.Ord X E m1) = false := decide_eq_false hO
              rw [hd]
              clear hd hO
              go_wp2
              go_ret
              exact ⟨rfl, hWd⟩
  · have h1' : ((m1 : Int) == (m2 : Int)) = false := by simp; omega
    go_wp2
    go_ret
    exact ⟨rfl, hW⟩

end Go.Proofs.Qxb6608524a
