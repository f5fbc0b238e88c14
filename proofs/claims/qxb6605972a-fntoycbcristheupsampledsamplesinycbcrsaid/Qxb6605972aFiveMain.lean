/-
  THE LAW 'FnToYCbCrIsTheUpsampledSamplesInYCbCr': its head.
-/
import Derived.Test.Qxb6605972aFiveMid
namespace Go.Proofs.Qxb6605972a
open Go.RowKit

set_option maxHeartbeats 8000000 in
set_option maxRecDepth 1000000 in
/-- From the planes' fit on. -/
theorem five_fit (tr : Int) (htr : 0 ≤ tr ∧ tr ≤ 255) (fw fh cnt cc b o : Nat) (p : Nat → PlaneD) (w : World) (hw : fw ≤ 65536) (hh : fh ≤ 65536) (hwh : fw * fh ≤ 1048576) (hc : cnt ≤ 1048576) (H34 : Hid (cnt = 3 ∨ cnt = 4))
    (HP : Hid (PlanesIn w (some ⟨b, o, none⟩) cnt p)) (HL : Hid (∀ i, i < cnt → (p i).n ≤ 1048576)) (c4 c5 c6 c7 c8 c9 c10 c11 c12 c13 c14 c15 c16 c17 c18 c19 c20 c21 c22 c23 c24 c25 c26 c27 c28 c29 c30 c31 c32 c33 c34 c35 c36 c37 c38 c39 c40 c41 c42 c43 c44 c45 c46 c47 c48 c49 c50 c51 c52 c53 c54 c55 c56 c57 c58 c59 c60 c61 c62 c63 c64 c65 c66 c67 c68 c69 c70 c71 c72 c73 c74 c75 c76 c77 c78 c79 c80 c81 c82 c83 c84 c85 c86 c87 c88 c89 c90 c91 c92 c93 c94 c95 c96 c97 c98 c99 c100 c101 c102 c103 c104 c105 c106 c107 c108 c109 c110 c111 c112 c113 c114 c115 c116 c117 c118 c119 c120 c121 c122 c123 c124 c125 c126 c127 c128 c129 c130 c131 c132 c133 c134 c135 c136 c137 c138 c139 c140 c141 c142 c143 c144 c145 c146 c147 c148 c149 c150 c151 c152 c153 c154 c155 c156 c157 c158 c159 c160 c161 c162 c163 c164 c165 c166 c167 c168 c169 c170 c171 c172 c173 c174 c175 c176 c177 c178 c179 c180 c181 c182 c183 c184 c185 c186 c187 c188 c189 c190 c191 c192 c193 c194 c195 c196 c197 c198 c199 c200 c201 c202 c203 c204 c205 c206 c207 c208 c209 c210 c211 c212 c213 c214 c215 c216 c217 c218 c219 c220 c221 c222 c223 c224 c225 c226 c227 c228 c229 c230 c231 c232 c233 c234 c235 c236 c237 c238 c239 c240 c241 c242 c243 c244 c245 c246 c247 c248 : Value) :
    Code.wp Try.prog (spine 6 (Try.f5.body.getD .skip)) (bodyPost Try.prog Try.f5 fun e w' => e = .returned (.bool true) ∧ Below w.heap.size w w') ⟨#[.int .u8 tr, .int .i64 fw, .int .i64 fh, .slice (some ⟨b, o, none⟩) cnt cc, c4, c5, c6, c7, c8, c9, c10, c11, c12, c13, c14, c15, c16, c17, c18, c19, c20, c21, c22, c23, c24, c25, c26, c27, c28, c29, c30, c31, c32, c33, c34, c35, c36, c37, c38, c39, c40, c41, c42, c43, c44, c45, c46, c47, c48, c49, c50, c51, c52, c53, c54, c55, c56, c57, c58, c59, c60, c61, c62, c63, c64, c65, c66, c67, c68, c69, c70, c71, c72, c73, c74, c75, c76, c77, c78, c79, c80, c81, c82, c83, c84, c85, c86, c87, c88, c89, c90, c91, c92, c93, c94, c95, c96, c97, c98, c99, c100, c101, c102, c103, c104, c105, c106, c107, c108, c109, c110, c111, c112, c113, c114, c115, c116, c117, c118, c119, c120, c121, c122, c123, c124, c125, c126, c127, c128, c129, c130, c131, c132, c133, c134, c135, c136, c137, c138, c139, c140, c141, c142, c143, c144, c145, c146, c147, c148, c149, c150, c151, c152, c153, c154, c155, c156, c157, c158, c159, c160, c161, c162, c163, c164, c165, c166, c167, c168, c169, c170, c171, c172, c173, c174, c175, c176, c177, c178, c179, c180, c181, c182, c183, c184, c185, c186, c187, c188, c189, c190, c191, c192, c193, c194, c195, c196, c197, c198, c199, c200, c201, c202, c203, c204, c205, c206, c207, c208, c209, c210, c211, c212, c213, c214, c215, c216, c217, c218, c219, c220, c221, c222, c223, c224, c225, c226, c227, c228, c229, c230, c231, c232, c233, c234, c235, c236, c237, c238, c239, c240, c241, c242, c243, c244, c245, c246, c247, c248], []⟩ w := by
  conv => arg 2; whnf
  dsimp only
  go_upto_region 11 with fail
  go_cut [75] from 31 (fun s75 wx => s75 = .bool (decide (0 < fw ∧ 0 < fh)) ∧ w = wx)
  case first =>
    by_cases hp : 0 < fw
    · by_cases hq : 0 < fh
      · go_wp2
        go_meet
        case rel => exact ⟨by simp [hp, hq], rfl⟩
      · go_wp2
        go_meet
        case rel => exact ⟨by simp [hq], rfl⟩
    · go_wp2
      go_meet
      case rel => exact ⟨by simp [hp], rfl⟩
  case rest =>
    obtain ⟨rfl, hwx⟩ := hcut
    subst hwx
    go_upto_if 75 with fail
    go_cut [] from 31 (fun wx => Below w.heap.size w wx ∧ (0 < fw → 0 < fh → ∀ j, j < cnt → (p j).fits = true))
    case first =>
      by_cases hp : 0 < fw ∧ 0 < fh
      · have hdp : decide (0 < fw ∧ 0 < fh) = true := by simpa using hp
        rw [hdp]
        clear hdp
        go_wp2
        go_loopg [78] cnt (fun gg s78 wr => ∃ k : Nat, k ≤ cnt ∧ gg = cnt - k ∧ s78 = .int .i64 k ∧ Below w.heap.size w wr ∧ Aside (∀ t, t < k → (p t).fits = true))
        case atStart => exact ⟨0, Nat.zero_le _, rfl, rfl, Below.refl _ _, fun t ht => absurd ht (Nat.not_lt_zero _)⟩
        case round =>
          obtain ⟨k, hk, rfl, rfl, hB, A⟩ := hrel
          by_cases hlt : k < cnt
          · obtain ⟨b', o', e1, hl0, _⟩ := HP.out k hlt
            simp only [Option.some.injEq, Addr.mk.injEq, and_true] at e1
            obtain ⟨rfl, rfl⟩ := e1
            have hl := hl0.later hB
            have c0 := hl.c0
            have c1 := hl.c1
            have c2 := hl.c2
            have c3 := hl.c3
            have c4 := hl.c4
            have c5 := hl.c5
            clear hl hl0
            go_wp2_with fail
            refine (fits_any _ _ _ _ _ _ _ _ _).mono ?_
            rintro e w3 ⟨rfl, hb3⟩
            have hB3 : Below w.heap.size w w3 := hB.trans (hb3.mono hB.size)
            cases hft : fitsB (p k).n (p k).pw (p k).ph (p k).ps (p k).px (p k).py with
            | false =>
              clear c0 c1 c2 c3 c4 c5 hft A
              go_wp2
              go_ret
              exact ⟨rfl, hB3⟩
            | true =>
              have A' : Aside (∀ t, t < k + 1 → (p t).fits = true) := fun t ht => by
                by_cases e : t = k
                · subst e; exact hft
                · exact A.out t (by omega)
              clear c0 c1 c2 c3 c4 c5 hft A
              go_wp2
              go_roundg (cnt - (k + 1))
              case measure => omega
              case rel => exact ⟨k + 1, by omega, rfl, by go_num, hB3, A'⟩
          · have AF : Hid (∀ j, j < cnt → (p j).fits = true) := fun j hj => A.out j (by omega)
            clear A
            go_wp2
            go_meet
            case rel => exact ⟨hB, fun _ _ => AF.out⟩
      · have hdp : decide (0 < fw ∧ 0 < fh) = false := by simpa using hp
        rw [hdp]
        clear hdp
        go_wp2
        go_meet
        case rel => exact ⟨Below.refl _ _, fun h1 h2 => absurd ⟨h1, h2⟩ hp⟩
    case rest =>
      obtain ⟨hB, hfit⟩ := hcut
      refine ‹∀ (a : Act) (w : World), Code.wp Try.prog _ _ a w → _› _ _ ?_
      exact five_mid tr htr fw fh cnt cc b o p w wc hw hh hwh H34.out hB (PlanesIn.later HP.out hB) HL.out hfit _ _ _ _ _ _ _ _ _ _ _ _ _ _ _ _ _ _ _ _ _ _ _ _ _ _ _ _ _ _ _ _ _ _ _ _ _ _ _ _ _ _ _ _ _ _ _ _ _ _ _ _ _ _ _ _ _ _ _ _ _ _ _ _ _ _ _ _ _ _ _ _ _ _ _ _ _ _ _ _ _ _ _ _ _ _ _ _ _ _ _ _ _ _ _ _ _ _ _ _ _ _ _ _ _ _ _ _ _ _ _ _ _ _ _ _ _ _ _ _ _ _ _ _ _ _ _ _ _ _ _ _ _ _ _ _ _ _ _ _ _ _ _ _ _ _ _ _ _ _ _ _ _ _ _ _ _ _ _ _ _ _ _ _ _ _ _ _ _ _ _ _ _ _ _ _ _ _ _ _ _ _ _ _ _ _ _ _ _ _ _ _ _ _ _ _ _ _ _ _ _ _ _ _ _ _ _ _ _ _ _ _ _ _ _ _ _ _ _ _ _ _ _ _ _ _ _ _ _ _ _ _ _ _ _ _ _ _ _ _ _ _ _ _ _

set_option maxHeartbeats 8000000 in
set_option maxRecDepth 1000000 in
/-- From the size's range on. -/
theorem five_area (tr w0 h0 : Int) (htr : 0 ≤ tr ∧ tr ≤ 255) (cnt cc b o : Nat) (p : Nat → PlaneD) (w : World) (hc : cnt ≤ 1048576) (H34 : Hid (cnt = 3 ∨ cnt = 4))
    (HP : Hid (PlanesIn w (some ⟨b, o, none⟩) cnt p)) (HL : Hid (∀ i, i < cnt → (p i).n ≤ 1048576)) (c4 c5 c6 c7 c8 c9 c10 c11 c12 c13 c14 c15 c16 c17 c18 c19 c20 c21 c22 c23 c24 c25 c26 c27 c28 c29 c30 c31 c32 c33 c34 c35 c36 c37 c38 c39 c40 c41 c42 c43 c44 c45 c46 c47 c48 c49 c50 c51 c52 c53 c54 c55 c56 c57 c58 c59 c60 c61 c62 c63 c64 c65 c66 c67 c68 c69 c70 c71 c72 c73 c74 c75 c76 c77 c78 c79 c80 c81 c82 c83 c84 c85 c86 c87 c88 c89 c90 c91 c92 c93 c94 c95 c96 c97 c98 c99 c100 c101 c102 c103 c104 c105 c106 c107 c108 c109 c110 c111 c112 c113 c114 c115 c116 c117 c118 c119 c120 c121 c122 c123 c124 c125 c126 c127 c128 c129 c130 c131 c132 c133 c134 c135 c136 c137 c138 c139 c140 c141 c142 c143 c144 c145 c146 c147 c148 c149 c150 c151 c152 c153 c154 c155 c156 c157 c158 c159 c160 c161 c162 c163 c164 c165 c166 c167 c168 c169 c170 c171 c172 c173 c174 c175 c176 c177 c178 c179 c180 c181 c182 c183 c184 c185 c186 c187 c188 c189 c190 c191 c192 c193 c194 c195 c196 c197 c198 c199 c200 c201 c202 c203 c204 c205 c206 c207 c208 c209 c210 c211 c212 c213 c214 c215 c216 c217 c218 c219 c220 c221 c222 c223 c224 c225 c226 c227 c228 c229 c230 c231 c232 c233 c234 c235 c236 c237 c238 c239 c240 c241 c242 c243 c244 c245 c246 c247 c248 : Value) :
    Code.wp Try.prog (spine 4 (Try.f5.body.getD .skip)) (bodyPost Try.prog Try.f5 fun e w' => e = .returned (.bool true) ∧ Below w.heap.size w w') ⟨#[.int .u8 tr, .int .i64 w0, .int .i64 h0, .slice (some ⟨b, o, none⟩) cnt cc, c4, c5, c6, c7, c8, c9, c10, c11, c12, c13, c14, c15, c16, c17, c18, c19, c20, c21, c22, c23, c24, c25, c26, c27, c28, c29, c30, c31, c32, c33, c34, c35, c36, c37, c38, c39, c40, c41, c42, c43, c44, c45, c46, c47, c48, c49, c50, c51, c52, c53, c54, c55, c56, c57, c58, c59, c60, c61, c62, c63, c64, c65, c66, c67, c68, c69, c70, c71, c72, c73, c74, c75, c76, c77, c78, c79, c80, c81, c82, c83, c84, c85, c86, c87, c88, c89, c90, c91, c92, c93, c94, c95, c96, c97, c98, c99, c100, c101, c102, c103, c104, c105, c106, c107, c108, c109, c110, c111, c112, c113, c114, c115, c116, c117, c118, c119, c120, c121, c122, c123, c124, c125, c126, c127, c128, c129, c130, c131, c132, c133, c134, c135, c136, c137, c138, c139, c140, c141, c142, c143, c144, c145, c146, c147, c148, c149, c150, c151, c152, c153, c154, c155, c156, c157, c158, c159, c160, c161, c162, c163, c164, c165, c166, c167, c168, c169, c170, c171, c172, c173, c174, c175, c176, c177, c178, c179, c180, c181, c182, c183, c184, c185, c186, c187, c188, c189, c190, c191, c192, c193, c194, c195, c196, c197, c198, c199, c200, c201, c202, c203, c204, c205, c206, c207, c208, c209, c210, c211, c212, c213, c214, c215, c216, c217, c218, c219, c220, c221, c222, c223, c224, c225, c226, c227, c228, c229, c230, c231, c232, c233, c234, c235, c236, c237, c238, c239, c240, c241, c242, c243, c244, c245, c246, c247, c248], []⟩ w := by
  conv => arg 2; whnf
  dsimp only
  by_cases hr : w0 < 0 ∨ h0 < 0 ∨ 65536 < w0 ∨ 65536 < h0
  · by_cases h1 : w0 < 0
    · go_wp2
      go_ret
      exact ⟨rfl, Below.refl _ _⟩
    · by_cases h2 : h0 < 0
      · go_wp2
        go_ret
        exact ⟨rfl, Below.refl _ _⟩
      · by_cases h3 : 65536 < w0
        · go_wp2
          go_ret
          exact ⟨rfl, Below.refl _ _⟩
        · have h4 : 65536 < h0 := by omega
          go_wp2
          go_ret
          exact ⟨rfl, Below.refl _ _⟩
  · obtain ⟨fw, rfl⟩ := Int.eq_ofNat_of_zero_le (a := w0) (by omega)
    obtain ⟨fh, rfl⟩ := Int.eq_ofNat_of_zero_le (a := h0) (by omega)
    have hw : fw ≤ 65536 := by omega
    have hh : fh ≤ 65536 := by omega
    clear hr
    by_cases ha : 0 < fh ∧ (1048576 : Int) / (fh : Int) < (fw : Int)
    · obtain ⟨ha1, ha2⟩ := ha
      have q0 : 0 ≤ (1048576 : Int) / (fh : Int) := Int.ediv_nonneg (by omega) (by omega)
      have q1 : (1048576 : Int) / (fh : Int) ≤ 1048576 := Int.ediv_le_self _ (by omega)
      go_wp2
      go_ret
      exact ⟨rfl, Below.refl _ _⟩
    · have ha' : 0 < fh → (fw : Int) ≤ (1048576 : Int) / (fh : Int) := fun hp => by
        have : ¬ (1048576 : Int) / (fh : Int) < (fw : Int) := fun h => ha ⟨hp, h⟩
        omega
      have hwh : fw * fh ≤ 1048576 := by
        rcases Nat.eq_zero_or_pos fh with h0 | h0
        · subst h0; simp
        · have h1 := ha' h0
          have h2 : (fw : Int) * (fh : Int) ≤ 1048576 := Int.le_trans (Int.mul_le_mul_of_nonneg_right h1 (by omega)) (Int.ediv_mul_le _ (by omega))
          have h3 : ((fw * fh : Nat) : Int) ≤ 1048576 := by rw [Int.natCast_mul]; exact h2
          omega
      have HA : Hid _ := ha'
      clear ha ha'
      go_upto_region 9 with fail
      go_cut [69] from 31 (fun s69 wx => s69 = .bool false ∧ w = wx)
      case first =>
        by_cases hp : 0 < fh
        · have ha := HA.out hp
          have q0 : 0 ≤ (1048576 : Int) / (fh : Int) := Int.ediv_nonneg (by omega) (by omega)
          have q1 : (1048576 : Int) / (fh : Int) ≤ 1048576 := Int.ediv_le_self _ (by omega)
          go_wp2
          go_meet
          case rel => exact ⟨by simp; omega, rfl⟩
        · go_wp2
          go_meet
          case rel => exact ⟨rfl, rfl⟩
      case rest =>
        obtain ⟨rfl, hwx⟩ := hcut
        subst hwx
        go_upto_if 69 with fail
        go_cut [] from 31 (fun wx => w = wx)
        case first =>
          go_wp2
          go_meet
          case rel => rfl
        case rest =>
          subst hcut
          refine ‹∀ (a : Act) (w : World), Code.wp Try.prog _ _ a w → _› _ _ ?_
          exact five_fit tr htr fw fh cnt cc b o p w hw hh hwh hc H34 HP HL _ _ _ _ _ _ _ _ _ _ _ _ _ _ _ _ _ _ _ _ _ _ _ _ _ _ _ _ _ _ _ _ _ _ _ _ _ _ _ _ _ _ _ _ _ _ _ _ _ _ _ _ _ _ _ _ _ _ _ _ _ _ _ _ _ _ _ _ _ _ _ _ _ _ _ _ _ _ _ _ _ _ _ _ _ _ _ _ _ _ _ _ _ _ _ _ _ _ _ _ _ _ _ _ _ _ _ _ _ _ _ _ _ _ _ _ _ _ _ _ _ _ _ _ _ _ _ _ _ _ _ _ _ _ _ _ _ _ _ _ _ _ _ _ _ _ _ _ _ _ _ _ _ _ _ _ _ _ _ _ _ _ _ _ _ _ _ _ _ _ _ _ _ _ _ _ _ _ _ _ _ _ _ _ _ _ _ _ _ _ _ _ _ _ _ _ _ _ _ _ _ _ _ _ _ _ _ _ _ _ _ _ _ _ _ _ _ _ _ _ _ _ _ _ _ _ _ _ _ _ _ _ _ _ _ _ _ _ _ _ _ _ _ _ _

set_option maxHeartbeats 8000000 in
set_option maxRecDepth 1000000 in
theorem five_any (tr w0 h0 : Int) (htr : 0 ≤ tr ∧ tr ≤ 255) (a : Option Addr) (cnt cc : Nat) (p : Nat → PlaneD) (w : World) (hP : PlanesIn w a cnt p) (hcnt : cnt ≤ maxLen) (hlen : ∀ i, i < cnt → (p i).n ≤ maxLen) :
    Calls Try.prog 5 #[.int .u8 tr, .int .i64 w0, .int .i64 h0, .slice a cnt cc] w fun e w' => e = .returned (.bool true) ∧ Below w.heap.size w w' := by
  have HP : Hid _ := hP
  have HM : Hid _ := And.intro hcnt hlen
  clear hP hcnt hlen
  go_enter Try.func5, Try.ntmps5
  go_wp2_with fail
  refine (zz9_any tr w0 h0 a cnt cc p _ HP.out HM.out.1 HM.out.2).mono ?_
  rintro e w1 ⟨⟨bv, rfl, hbv⟩, hw1⟩
  have hw1' := hw1.symm
  subst hw1'
  clear HM
  cases bv with
  | false =>
    clear hbv
    go_wp2
    go_ret
    exact ⟨rfl, Below.refl _ _⟩
  | true =>
    obtain ⟨hc, hl⟩ := hbv rfl
    have HL : Hid _ := hl
    clear hl hbv
    go_wp2_with fail
    refine (bytes10_any a cnt cc p _ HP.out hc HL.out).mono ?_
    rintro e w2 ⟨⟨z, rfl⟩, hw2⟩
    have hw2' := hw2.symm
    subst hw2'
    by_cases hz : 1048576 < z
    · go_wp2
      go_ret
      exact ⟨rfl, Below.refl _ _⟩
    · by_cases h34 : cnt = 3 ∨ cnt = 4
      · obtain ⟨b, o, rfl, _, _⟩ := HP.out 0 (by omega)
        go_upto_region 5 with fail
        go_cut [47] from 31 (fun s47 wx => s47 = .bool false ∧ w = wx)
        case first =>
          rcases h34 with rfl | rfl
          all_goals
            go_wp2
            go_meet
            case rel => exact ⟨rfl, rfl⟩
        case rest =>
          obtain ⟨rfl, hwx⟩ := hcut
          subst hwx
          go_upto_if 47 with fail
          go_cut [] from 31 (fun wx => w = wx)
          case first =>
            go_wp2
            go_meet
            case rel => rfl
          case rest =>
            subst hcut
            refine ‹∀ (a : Act) (w : World), Code.wp Try.prog _ _ a w → _› _ _ ?_
            exact five_area tr w0 h0 htr cnt cc b o p w hc h34 HP HL _ _ _ _ _ _ _ _ _ _ _ _ _ _ _ _ _ _ _ _ _ _ _ _ _ _ _ _ _ _ _ _ _ _ _ _ _ _ _ _ _ _ _ _ _ _ _ _ _ _ _ _ _ _ _ _ _ _ _ _ _ _ _ _ _ _ _ _ _ _ _ _ _ _ _ _ _ _ _ _ _ _ _ _ _ _ _ _ _ _ _ _ _ _ _ _ _ _ _ _ _ _ _ _ _ _ _ _ _ _ _ _ _ _ _ _ _ _ _ _ _ _ _ _ _ _ _ _ _ _ _ _ _ _ _ _ _ _ _ _ _ _ _ _ _ _ _ _ _ _ _ _ _ _ _ _ _ _ _ _ _ _ _ _ _ _ _ _ _ _ _ _ _ _ _ _ _ _ _ _ _ _ _ _ _ _ _ _ _ _ _ _ _ _ _ _ _ _ _ _ _ _ _ _ _ _ _ _ _ _ _ _ _ _ _ _ _ _ _ _ _ _ _ _ _ _ _ _ _ _ _ _ _ _ _ _ _ _ _ _ _ _ _ _ _
      · have h3 : ((cnt : Int) == 3) = false := by simp; omega
        have h4 : ((cnt : Int) == 4) = false := by simp; omega
        have h3' : ((cnt : Int) != 3) = true := by simp; omega
        have h4' : ((cnt : Int) != 4) = true := by simp; omega
        go_wp2
        go_ret
        exact ⟨rfl, Below.refl _ _⟩

end Go.Proofs.Qxb6605972a
