/-
  SEAT b6608524a: THE LAW 'FnWithinDropOnePiece': its tail, from the blocks' clone on.
-/
import Derived.Test.Qxb6608524aFiveTail
import Derived.Deep.RegionLaw
namespace Go.Proofs.Qxb6608524a
open Go.RowKit

/-- Another's answer: 'whole and not by k'. -/
theorem drop_bool {X E : Nat → Int} {m k : Nat} (h : Pl.Ord X E m) (hk : k < m) (s : Int) [Decidable (Pl.Cov (Pl.drop1 k X) (Pl.drop1 k E) (m - 1) s)] [Decidable (Pl.Cov X E m s)] :
    decide (Pl.Cov (Pl.drop1 k X) (Pl.drop1 k E) (m - 1) s) = (decide (Pl.Cov X E m s) && !(decide (X k ≤ s) && decide (s < E k))) := by
  have := Pl.cov_drop h hk s
  by_cases h1 : Pl.Cov X E m s
  · by_cases h2 : X k ≤ s ∧ s < E k
    · rw [decide_eq_false (fun h => (this.1 h).2 h2), decide_eq_true h1, decide_eq_true h2.1, decide_eq_true h2.2]; rfl
    · rw [decide_eq_true (this.2 ⟨h1, h2⟩), decide_eq_true h1]
      by_cases h3 : X k ≤ s
      · rw [decide_eq_true h3, decide_eq_false (fun h4 => h2 ⟨h3, h4⟩)]; rfl
      · rw [decide_eq_false h3]; rfl
  · rw [decide_eq_false (fun h => h1 (this.1 h).1), decide_eq_false h1]; rfl

open Classical in
set_option maxHeartbeats 8000000 in
set_option maxRecDepth 1000000 in
theorem six_last (n size count width i : Int) (ba a1 a2 x1 x2 : Option Addr) (bn bc m k : Nat) (N : Nat → Nat) (F : Nat → Nat → Int) (X E : Nat → Int) (s : Int) (w wc : World) (hi0 : 0 ≤ i) (hi1 : i ≤ 9223372036854775807) (hm : m ≤ 65536) (hk : k < m)
    (HB : Hid (Blocks wc ba bn N F)) (HF : Hid (∀ a b, 0 ≤ F a b ∧ F a b ≤ 255)) (HH : Hid (Held count bn N i))
    (HX : Hid (Ints wc a1 m X)) (HE : Hid (Ints wc a2 m E)) (HX' : Hid (Ints wc x1 (m - 1) (Pl.drop1 k X))) (HE' : Hid (Ints wc x2 (m - 1) (Pl.drop1 k E))) (HO : Hid (Pl.Ord X E m)) (HS : Hid (startV n size count width F i = s)) (hW : Below w.heap.size w wc) (c9 c10 c11 c12 c13 c14 c15 c16 c17 c18 c19 c20 c21 c22 c24 c27 c28 c29 c30 c31 c32 c33 c34 c35 c36 c37 c38 c39 c40 c41 c42 c43 c44 c45 c46 c47 c48 c49 c50 c51 c52 c53 c54 c55 c56 c57 c58 c59 c60 c61 c62 c63 c64 c65 c66 c67 c68 c69 c70 c71 c72 c73 c74 c75 c76 c77 c78 c79 c80 c81 c82 c83 c84 c85 c86 c87 c88 c89 c90 c91 c92 c93 c94 c95 c96 c97 c98 c99 c100 c101 c102 c103 c104 c105 c106 c107 c108 c109 c110 c111 c112 c113 c114 c115 c116 c117 c118 c119 c120 c121 c122 c123 c124 c125 c126 c127 c128 c129 c130 c131 c132 c133 c134 c135 c136 c137 c138 c139 c140 c141 c142 c143 c144 c145 c146 c147 c148 c149 c150 c151 c152 c153 c154 c155 c156 c157 c158 c159 c160 c161 c162 c163 c164 c165 c166 c167 c168 c169 c170 c171 c172 c173 c174 c175 c176 c177 c178 c179 c180 c181 c182 c183 c184 c185 c186 c187 c188 c189 c190 c191 c192 c193 c194 c195 c196 c197 c198 c199 c200 c201 c202 c203 c204 c205 c206 c207 c208 c209 c210 c211 c212 c213 c214 c215 c216 c217 : Value) :
    Code.wp Try.prog (spine 18 (Try.f6.body.getD .skip)) (bodyPost Try.prog Try.f6 fun e w' => e = .returned (.bool true) ∧ Below w.heap.size w w') ⟨#[.int .i64 n, .int .i64 size, .int .i64 count, .int .i64 width, .slice ba bn bc, .slice a1 m m, .slice a2 m m, .int .i64 i, .int .i64 (k : Int), c9, c10, c11, c12, c13, c14, c15, c16, c17, c18, c19, c20, c21, c22, .int .i64 s, c24, .slice x1 (m - 1) (m - 1), .slice x2 (m - 1) (m - 1), c27, c28, c29, c30, c31, c32, c33, c34, c35, c36, c37, c38, c39, c40, c41, c42, c43, c44, c45, c46, c47, c48, c49, c50, c51, c52, c53, c54, c55, c56, c57, c58, c59, c60, c61, c62, c63, c64, c65, c66, c67, c68, c69, c70, c71, c72, c73, c74, c75, c76, c77, c78, c79, c80, c81, c82, c83, c84, c85, c86, c87, c88, c89, c90, c91, c92, c93, c94, c95, c96, c97, c98, c99, c100, c101, c102, c103, c104, c105, c106, c107, c108, c109, c110, c111, c112, c113, c114, c115, c116, c117, c118, c119, c120, c121, c122, c123, c124, c125, c126, c127, c128, c129, c130, c131, c132, c133, c134, c135, c136, c137, c138, c139, c140, c141, c142, c143, c144, c145, c146, c147, c148, c149, c150, c151, c152, c153, c154, c155, c156, c157, c158, c159, c160, c161, c162, c163, c164, c165, c166, c167, c168, c169, c170, c171, c172, c173, c174, c175, c176, c177, c178, c179, c180, c181, c182, c183, c184, c185, c186, c187, c188, c189, c190, c191, c192, c193, c194, c195, c196, c197, c198, c199, c200, c201, c202, c203, c204, c205, c206, c207, c208, c209, c210, c211, c212, c213, c214, c215, c216, c217], []⟩ wc := by
  conv => arg 2; whnf
  dsimp only
  go_wp2_with fail
  refine (grid_any n size count width ba bn bc _).mono ?_
  rintro e w2 ⟨rfl, hG2, hb2⟩
  have HG2 : Hid _ := hG2
  have HX2 : Hid _ := Ints.later HX.out hb2
  have HE2 : Hid _ := Ints.later HE.out hb2
  have HX2' : Hid _ := Ints.later HX'.out hb2
  have HE2' : Hid _ := Ints.later HE'.out hb2
  have HB2 : Hid _ := Blocks.below HB.out hb2
  have hW2 : Below w.heap.size w w2 := hW.trans (hb2.mono hW.size)
  clear hG2 hb2 HX HE HB hW HX' HE'
  generalize wc.heap.size = gb at *
  go_wp2_with fail
  refine (pieces_any a1 a2 m m m X E w2 (by omega) HX2.out HE2.out).mono ?_
  rintro e w3 ⟨rfl, hP3, hb3⟩
  have HP3 : Hid _ := hP3
  clear hP3
  go_wp2_with fail
  refine (zzwithin_any gb n size count width ba bn bc N F i w2.heap.size m m X E w3 hi0 hi1 (GridAt.later HG2.out hb3) (Blocks.below HB2.out hb3) HF.out HH.out (by omega) HP3.out HO.out).mono ?_
  rintro e w4 ⟨he, hb4⟩
  rw [HS.out] at he
  subst he
  have hb24 : Below w2.heap.size w2 w4 := hb3.trans (hb4.mono hb3.size)
  have HG4 : Hid _ := GridAt.later HG2.out hb24
  have HX4 : Hid _ := Ints.later HX2.out hb24
  have HE4 : Hid _ := Ints.later HE2.out hb24
  have HX4' : Hid _ := Ints.later HX2'.out hb24
  have HE4' : Hid _ := Ints.later HE2'.out hb24
  have HB4 : Hid _ := Blocks.below HB2.out hb24
  have hW4 : Below w.heap.size w w4 := hW2.trans (hb24.mono hW2.size)
  clear HG2 HX2 HE2 HB2 hb3 hb4 HP3 hb24 hW2 HX2' HE2'
  go_wp2_with fail
  refine (pieces_any x1 x2 (m - 1) (m - 1) (m - 1) (Pl.drop1 k X) (Pl.drop1 k E) w4 (by omega) HX4'.out HE4'.out).mono ?_
  rintro e w5 ⟨rfl, hP5, hb5⟩
  have HP5 : Hid _ := hP5
  clear hP5
  go_wp2_with fail
  refine (zzwithin_any gb n size count width ba bn bc N F i w4.heap.size (m - 1) (m - 1) (Pl.drop1 k X) (Pl.drop1 k E) w5 hi0 hi1 (GridAt.later HG4.out hb5) (Blocks.below HB4.out hb5) HF.out HH.out (by omega) HP5.out (Pl.Ord.drop HO.out hk)).mono ?_
  rintro e w6 ⟨he, hb6⟩
  rw [HS.out] at he
  subst he
  have hb46 : Below w4.heap.size w4 w6 := hb5.trans (hb6.mono hb5.size)
  have HX6 : Hid _ := Ints.later HX4.out hb46
  have HE6 : Hid _ := Ints.later HE4.out hb46
  have hW6 : Below w.heap.size w w6 := hW4.trans (hb46.mono hW4.size)
  have C9 := cov_any a1 a2 m m m X E s w6 (by omega) HX6.out HE6.out
  have HC : Hid _ := drop_bool HO.out hk s
  obtain ⟨bx, ox, rfl, cx⟩ := Ints.at HX6.out hk
  obtain ⟨be, oe, rfl, ce⟩ := Ints.at HE6.out hk
  have hk1 : (k : Int) < (m : Int) := by omega
  clear HG4 HX4 HE4 HB4 hb5 hb6 HP5 hb46 hW4 HX4' HE4' HX6 HE6
  generalize decide (Pl.Cov X E m s) = dm at *
  generalize decide (Pl.Cov (Pl.drop1 k X) (Pl.drop1 k E) (m - 1) s) = dr at *
  generalize X k = xk at *
  generalize E k = ek at *
  have hdr := HC.out
  clear HC
  by_cases h1 : xk ≤ s
  · by_cases h2 : s < ek
    · rw [decide_eq_true h1, decide_eq_true h2] at hdr
      subst hdr
      go_wp2_with fail
      refine C9.mono ?_
      rintro e w10 ⟨rfl, rfl⟩
      clear C9
      cases dm <;> (go_wp2; go_ret; exact ⟨rfl, hW6⟩)
    · rw [decide_eq_true h1, decide_eq_false h2] at hdr
      subst hdr
      go_wp2_with fail
      refine C9.mono ?_
      rintro e w10 ⟨rfl, rfl⟩
      clear C9
      cases dm <;> (go_wp2; go_ret; exact ⟨by first | rfl | exact ret_bool (by simp; omega), hW6⟩)
  · rw [decide_eq_false h1] at hdr
    subst hdr
    go_wp2_with fail
    refine C9.mono ?_
    rintro e w10 ⟨rfl, rfl⟩
    clear C9
    cases dm <;> (go_wp2; go_ret; exact ⟨rfl, hW6⟩)

end Go.Proofs.Qxb6608524a
