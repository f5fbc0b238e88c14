/-
  SEAT b6608524a: THE LAW 'FnWithinAgreesWithScanAtAnyCut': its tail, from the blocks' clone on.
-/
import Derived.Test.Qxb6608524aWithin
import Derived.Test.Qxb6608524aStart
import Derived.Test.Qxb6608524aBounds
import Derived.Deep.CutBlock
namespace Go.Proofs.Qxb6608524a
open Go.RowKit

/-- What is left of a sequence behind its first n statements. -/
def spine : Nat → Code → Code
  | 0, c => c
  | n + 1, .seq _ b => spine n b
  | _ + 1, c => c

/-- 'cloneBlocks' of whatever blocks. -/
theorem cloneBlocks_any (ba : Option Addr) (bn bc : Nat) (N : Nat → Nat) (F : Nat → Nat → Int) (w : World) (hnil : ba = none → bn = 0 ∧ bc = 0) (hbn : bn ≤ 1048576) (hN : ∀ i, i < bn → N i ≤ 1048576) (hB : Blocks w ba bn N F) :
    Calls Try.prog 12 #[.slice ba bn bc] w fun e w' => ∃ ba' bc', e = .returned (.slice ba' bn bc') ∧ Blocks w' ba' bn N F ∧ Below w.heap.size w w' := by
  cases ba with
  | none =>
    obtain ⟨rfl, rfl⟩ := hnil rfl
    refine (cloneBlocks_nil w).mono ?_
    rintro e w' ⟨rfl, rfl⟩
    exact ⟨none, 0, rfl, hB, Below.refl _ _⟩
  | some ad =>
    refine (cloneBlocks_some ad bn bc N F w hbn hN hB).mono ?_
    rintro e w' ⟨rfl, D, hC⟩
    exact ⟨_, _, rfl, hC.blocks, hC.below⟩

theorem Ints.left {w : World} {a : Option Addr} {m k : Nat} {X : Nat → Int} (h : Ints w a m X) (hk : k ≤ m) : Ints w a k X := fun i hi => h i (by omega)
theorem Ints.right {w : World} {a : Option Addr} {m k : Nat} {X : Nat → Int} (h : Ints w a m X) (_hk : k ≤ m) : Ints w (if m = k then a else Option.map (fun x => x.add k) a) (m - k) (fun i => X (k + i)) := fun i hi => by
  obtain ⟨b, o, e, hc⟩ := h (k + i) (by omega)
  subst e
  rw [if_neg (by omega)]
  exact ⟨b, o + k, by rw [Option.map_some, WideShapes.add_plain], by rw [Nat.add_assoc]; exact hc⟩
theorem Ints.later {w w' : World} {a : Option Addr} {m : Nat} {X : Nat → Int} (h : Ints w a m X) (hb : Below w.heap.size w w') : Ints w' a m X := Seg.below h hb

open Classical in
set_option maxHeartbeats 8000000 in
set_option maxRecDepth 1000000 in
theorem five_tail (n size count width i : Int) (ba a1 a2 : Option Addr) (bn bc m k : Nat) (N : Nat → Nat) (F : Nat → Nat → Int) (X E : Nat → Int) (s : Int) (w wc : World) (hi0 : 0 ≤ i) (hi1 : i ≤ 9223372036854775807) (hm : m ≤ 65536) (hk : k ≤ m) (hbn : bn ≤ 1048576)
    (HN : Hid (∀ i, i < bn → N i ≤ 1048576)) (hnil : Hid (ba = none → bn = 0 ∧ bc = 0)) (HB : Hid (Blocks wc ba bn N F)) (HF : Hid (∀ a b, 0 ≤ F a b ∧ F a b ≤ 255)) (HH : Hid (Held count bn N i))
    (HX : Hid (Ints wc a1 m X)) (HE : Hid (Ints wc a2 m E)) (HO : Hid (Pl.Ord X E m)) (HS : Hid (startV n size count width F i = s)) (hW : Below w.heap.size w wc) (c9 c10 c11 c12 c13 c14 c15 c16 c17 c18 c19 c20 c21 c22 c24 c25 c26 c27 c28 c29 c30 c31 c32 c33 c34 c35 c36 c37 c38 c39 c40 c41 c42 c43 c44 c45 c46 c47 c48 c49 c50 c51 c52 c53 c54 c55 c56 c57 c58 c59 c60 c61 c62 c63 c64 c65 c66 c67 c68 c69 c70 c71 c72 c73 c74 c75 c76 c77 c78 c79 c80 c81 c82 c83 c84 c85 c86 c87 c88 c89 c90 c91 c92 c93 c94 c95 c96 c97 c98 c99 c100 c101 c102 c103 c104 c105 c106 c107 c108 c109 c110 c111 c112 c113 c114 c115 c116 c117 c118 c119 c120 c121 c122 c123 c124 c125 c126 c127 c128 c129 c130 c131 c132 c133 c134 c135 c136 c137 c138 c139 c140 c141 c142 c143 c144 c145 c146 c147 c148 c149 c150 c151 c152 c153 c154 c155 c156 c157 c158 c159 c160 c161 c162 c163 c164 c165 c166 c167 c168 c169 c170 c171 c172 c173 c174 c175 c176 c177 c178 c179 c180 c181 c182 : Value) :
    Code.wp Try.prog (spine 14 (Try.f5.body.getD .skip)) (bodyPost Try.prog Try.f5 fun e w' => e = .returned (.bool true) ∧ Below w.heap.size w w') ⟨#[.int .i64 n, .int .i64 size, .int .i64 count, .int .i64 width, .slice ba bn bc, .slice a1 m m, .slice a2 m m, .int .i64 i, .int .i64 (k : Int), c9, c10, c11, c12, c13, c14, c15, c16, c17, c18, c19, c20, c21, c22, .int .i64 s, c24, c25, c26, c27, c28, c29, c30, c31, c32, c33, c34, c35, c36, c37, c38, c39, c40, c41, c42, c43, c44, c45, c46, c47, c48, c49, c50, c51, c52, c53, c54, c55, c56, c57, c58, c59, c60, c61, c62, c63, c64, c65, c66, c67, c68, c69, c70, c71, c72, c73, c74, c75, c76, c77, c78, c79, c80, c81, c82, c83, c84, c85, c86, c87, c88, c89, c90, c91, c92, c93, c94, c95, c96, c97, c98, c99, c100, c101, c102, c103, c104, c105, c106, c107, c108, c109, c110, c111, c112, c113, c114, c115, c116, c117, c118, c119, c120, c121, c122, c123, c124, c125, c126, c127, c128, c129, c130, c131, c132, c133, c134, c135, c136, c137, c138, c139, c140, c141, c142, c143, c144, c145, c146, c147, c148, c149, c150, c151, c152, c153, c154, c155, c156, c157, c158, c159, c160, c161, c162, c163, c164, c165, c166, c167, c168, c169, c170, c171, c172, c173, c174, c175, c176, c177, c178, c179, c180, c181, c182], []⟩ wc := by
  conv => arg 2; whnf
  dsimp only
  go_wp2_with fail
  refine (cloneBlocks_any ba bn bc N F _ hnil.out hbn HN.out HB.out).mono ?_
  rintro e w1 ⟨ba', bc', rfl, hB1, hb1⟩
  have HB1 : Hid _ := hB1
  clear hB1
  go_wp2_with fail
  refine (grid_any n size count width ba' bn bc' _).mono ?_
  rintro e w2 ⟨rfl, hG2, hb2⟩
  have hbc : Below wc.heap.size wc w2 := hb1.trans (hb2.mono hb1.size)
  have HG2 : Hid _ := hG2
  have HX2 : Hid _ := Ints.later HX.out hbc
  have HE2 : Hid _ := Ints.later HE.out hbc
  have HB2 : Hid _ := Blocks.below HB1.out hb2
  have hW2 : Below w.heap.size w w2 := hW.trans (hbc.mono hW.size)
  clear hG2 HB1 hbc hb1 hb2 HX HE HB hW
  generalize w1.heap.size = gb at *
  go_wp2_with fail
  refine (pieces_any a1 a2 m m m X E w2 (by omega) HX2.out HE2.out).mono ?_
  rintro e w3 ⟨rfl, hP3, hb3⟩
  have HP3 : Hid _ := hP3
  clear hP3
  go_wp2_with fail
  refine (zzwithin_any gb n size count width ba' bn bc' N F i w2.heap.size m m X E w3 hi0 hi1 (GridAt.later HG2.out hb3) (Blocks.below HB2.out hb3) HF.out HH.out (by omega) HP3.out HO.out).mono ?_
  rintro e w4 ⟨he, hb4⟩
  rw [HS.out] at he
  subst he
  have hb24 : Below w2.heap.size w2 w4 := hb3.trans (hb4.mono hb3.size)
  have HG4 : Hid _ := GridAt.later HG2.out hb24
  have HX4 : Hid _ := Ints.later HX2.out hb24
  have HE4 : Hid _ := Ints.later HE2.out hb24
  have HB4 : Hid _ := Blocks.below HB2.out hb24
  have hW4 : Below w.heap.size w w4 := hW2.trans (hb24.mono hW2.size)
  clear HG2 HX2 HE2 HB2 hb3 hb4 HP3 hb24 hW2
  have hk0 : (0 : Int) ≤ (k : Int) := by omega
  have hk1 : (k : Int) ≤ (m : Int) := by omega
  go_wp2
  go_region_held3 (fun w' => Below w4.heap.size w4 w')
    (first | (exact (Below.refl _ _).drew) | (exact ((Below.refl w4.heap.size w4).drew).trans (hb6.mono (Nat.le_refl _))) | (exact (((Below.refl w4.heap.size w4).drew).trans (hb6.mono (Nat.le_refl _))).trans (hb7.mono hb6.size)))
    (first | (go_at_call 15; refine (pieces_any a1 a2 k m m X E _ (by omega) (Ints.later (Ints.left HX4.out hk) (Below.refl _ _).drew) (Ints.later (Ints.left HE4.out hk) (Below.refl _ _).drew)).mono ?_; rintro e w6 ⟨rfl, hP6, hb6⟩) | (go_at_call 14; refine (zzwithin_any gb n size count width ba' bn bc' N F i _ k _ X E w6 hi0 hi1 (GridAt.later HG4.out (((Below.refl w4.heap.size w4).drew).trans (hb6.mono (Nat.le_refl _)))) (Blocks.below HB4.out (((Below.refl w4.heap.size w4).drew).trans (hb6.mono (Nat.le_refl _)))) HF.out HH.out (by omega) hP6 (Pl.Ord.left HO.out hk)).mono ?_; rintro e w7 ⟨he7, hb7⟩; rw [HS.out] at he7; subst he7))
  have hb47 : Below w4.heap.size w4 w7 := (((Below.refl w4.heap.size w4).drew).trans (hb6.mono (Nat.le_refl _))).trans (hb7.mono hb6.size)
  have HG7 : Hid _ := GridAt.later HG4.out hb47
  have HX7 : Hid _ := Ints.later HX4.out hb47
  have HE7 : Hid _ := Ints.later HE4.out hb47
  have HB7 : Hid _ := Blocks.below HB4.out hb47
  have hW7 : Below w.heap.size w w7 := hW4.trans (hb47.mono hW4.size)
  clear HG4 HX4 HE4 HB4 hb6 hb7 hP6 hb47 hW4
  obtain ⟨r1, hr1⟩ : ∃ r1, (if m = k then a1 else Option.map (fun x => x.add k) a1) = r1 := ⟨_, rfl⟩
  obtain ⟨r2, hr2⟩ : ∃ r2, (if m = k then a2 else Option.map (fun x => x.add k) a2) = r2 := ⟨_, rfl⟩
  have HXr : Hid (Ints w7 r1 (m - k) (fun i => X (k + i))) := by rw [← hr1]; exact Ints.right HX7.out hk
  have HEr : Hid (Ints w7 r2 (m - k) (fun i => E (k + i))) := by rw [← hr2]; exact Ints.right HE7.out hk
  go_wp2
  go_region_held3 (fun w' => Below w7.heap.size w7 w')
    (first | (exact (Below.refl _ _).drew) | (exact ((Below.refl w7.heap.size w7).drew).trans (hb8.mono (Nat.le_refl _))) | (exact (((Below.refl w7.heap.size w7).drew).trans (hb8.mono (Nat.le_refl _))).trans (hb9.mono hb8.size)))
    (first | (go_at_call 15; refine (pieces_any r1 r2 (m - k) _ _ (fun i => X (k + i)) (fun i => E (k + i)) _ (by omega) (Ints.later HXr.out (Below.refl _ _).drew) (Ints.later HEr.out (Below.refl _ _).drew)).mono ?_; rintro e w8 ⟨rfl, hP8, hb8⟩) | (go_at_call 14; refine (zzwithin_any gb n size count width ba' bn bc' N F i _ (m - k) _ (fun i => X (k + i)) (fun i => E (k + i)) w8 hi0 hi1 (GridAt.later HG7.out (((Below.refl w7.heap.size w7).drew).trans (hb8.mono (Nat.le_refl _)))) (Blocks.below HB7.out (((Below.refl w7.heap.size w7).drew).trans (hb8.mono (Nat.le_refl _)))) HF.out HH.out (by omega) hP8 (Pl.Ord.right HO.out hk)).mono ?_; rintro e w9 ⟨he9, hb9⟩; rw [HS.out] at he9; subst he9))
  have hb79 : Below w7.heap.size w7 w9 := (((Below.refl w7.heap.size w7).drew).trans (hb8.mono (Nat.le_refl _))).trans (hb9.mono hb8.size)
  have HX9 : Hid _ := Ints.later HX7.out hb79
  have HE9 : Hid _ := Ints.later HE7.out hb79
  have hW9 : Below w.heap.size w w9 := hW7.trans (hb79.mono hW7.size)
  have C9 := cov_any a1 a2 m m m X E s w9 (by omega) HX9.out HE9.out
  have HC : Hid (decide (Pl.Cov X E m s) = (decide (Pl.Cov X E k s) || decide (Pl.Cov (fun i => X (k + i)) (fun i => E (k + i)) (m - k) s))) := by
    rw [← Bool.decide_or]
    exact decide_eq_decide.2 (Pl.cov_cut X E m k hk s)
  clear HG7 HX7 HE7 HB7 hb8 hb9 hP8 hb79 hW7 HX9 HE9 HXr HEr hr1 hr2
  generalize decide (Pl.Cov X E m s) = dm at *
  generalize decide (Pl.Cov X E k s) = dk at *
  generalize decide (Pl.Cov (fun i => X (k + i)) (fun i => E (k + i)) (m - k) s) = dr at *
  have hdm := HC.out
  clear HC
  subst hdm
  go_wp2_with fail
  refine C9.mono ?_
  rintro e w10 ⟨rfl, rfl⟩
  cases dk <;> cases dr <;> (go_wp2; go_ret; exact ⟨rfl, hW9⟩)

end Go.Proofs.Qxb6608524a
