/-
  THE WALK OF THE LAW 'FnToYCbCrKeepsGreyNeutral', ITS MAIN WAY.
-/
import Derived.Test.Qxb6605972aGreyMid
namespace Go.Proofs.Qxb6605972a
open Go.RowKit

set_option maxHeartbeats 4000000 in
set_option maxRecDepth 1000000 in
theorem grey_main (tr : Int) (htr : 0 ≤ tr ∧ tr ≤ 255) (fw fh : Nat) (g k : PlaneD) (four : Bool) (w : World) (hn : g.n + k.n ≤ 1048576) (hw : fw ≤ 65536) (hh : fh ≤ 65536) (hwh : fw * fh ≤ 1048576)
    (ha : 0 < fh → (fw : Int) ≤ (1048576 : Int) / (fh : Int)) (hfg : 0 < fw → 0 < fh → g.fits = true) (hfk : 0 < fw → 0 < fh → four = true → k.fits = true) (hg : g.Ok w) (hk : k.Ok w)
    (hgn : g.a = none → g.n = 0 ∧ g.c = 0) (hkn : k.a = none → k.n = 0 ∧ k.c = 0) :
    Calls Try.prog 6 #[.int .u8 tr, .int .i64 fw, .int .i64 fh, .agg #[.slice g.a g.n g.c, .int .i64 g.pw, .int .i64 g.ph, .int .i64 g.ps, .int .i64 g.px, .int .i64 g.py],
      .agg #[.slice k.a k.n k.c, .int .i64 k.pw, .int .i64 k.ph, .int .i64 k.ps, .int .i64 k.px, .int .i64 k.py], .bool four] w fun e w' => e = .returned (.bool true) ∧ Below w.heap.size w w' := by
  have hd : decide (g.n + k.n ≤ 1048576) = true := by simpa using hn
  have hS0 := GS.start w g k hg hk
  have HFG : Hid _ := hfg
  have HFK : Hid _ := hfk
  have HGN : Hid _ := hgn
  have HKN : Hid _ := hkn
  have HA : Hid _ := ha
  clear hfg hfk hgn hkn hg hk ha
  go_enter Try.func6, Try.ntmps6
  go_wp2_with fail
  refine (zz21_any _ _ _ _ _ _ _ _ _ _ _ _ _ _ _ _ _ _ _ _ _).mono ?_
  rintro e w1 ⟨rfl, hb⟩
  rw [hd]
  have hS := hS0.later hb
  clear hS0 hb hd
  have c0 : w1.cell? ⟨w.heap.size, 0, none⟩ = some (.slice g.a g.n g.c) := hS.gl.c0
  have d0 : w1.cell? ⟨w.heap.size + 1, 0, none⟩ = some (.slice k.a k.n k.c) := hS.kl.c0
  go_upto_region 7 with fail
  go_cut [66] from 29 (fun s66 wx => s66 = .bool false ∧ GS w wx g k)
  case first =>
    by_cases hp : 0 < fh
    · have ha := HA.out hp
      have q0 : 0 ≤ (1048576 : Int) / (fh : Int) := Int.ediv_nonneg (by omega) (by omega)
      have q1 : (1048576 : Int) / (fh : Int) ≤ 1048576 := Int.ediv_le_self _ (by omega)
      go_wp2
      go_meet
      case rel => exact ⟨by simp; omega, hS⟩
    · go_wp2
      go_meet
      case rel => exact ⟨rfl, hS⟩
  case rest =>
    clear hS c0 d0
    obtain ⟨rfl, hS⟩ := hcut
    go_upto_region 9 with fail
    go_cut [72] from 29 (fun s72 wx => s72 = .bool (decide (0 < fw ∧ 0 < fh)) ∧ GS w wx g k)
    case first =>
      by_cases hp : 0 < fw
      · by_cases hq : 0 < fh
        · go_wp2
          go_meet
          case rel => exact ⟨by simp [hp, hq], hS⟩
        · go_wp2
          go_meet
          case rel => exact ⟨by simp [hq], hS⟩
      · go_wp2
        go_meet
        case rel => exact ⟨by simp [hp], hS⟩
    case rest =>
      clear hS
      obtain ⟨rfl, hS⟩ := hcut
      go_upto_if 72 with fail
      go_cut [] from 29 (fun wx => GS w wx g k)
      case first =>
        by_cases hp : 0 < fw ∧ 0 < fh
        · have hdp : decide (0 < fw ∧ 0 < fh) = true := by simpa using hp
          rw [hdp]
          have fg : fitsB g.n g.pw g.ph g.ps g.px g.py = true := HFG.out hp.1 hp.2
          have c0 : wc.cell? ⟨w.heap.size, 0, none⟩ = some (.slice g.a g.n g.c) := hS.gl.c0
          have c1 : wc.cell? ⟨w.heap.size, 1, none⟩ = some (.int .i64 g.pw) := hS.gl.c1
          have c2 : wc.cell? ⟨w.heap.size, 2, none⟩ = some (.int .i64 g.ph) := hS.gl.c2
          have c3 : wc.cell? ⟨w.heap.size, 3, none⟩ = some (.int .i64 g.ps) := hS.gl.c3
          have c4 : wc.cell? ⟨w.heap.size, 4, none⟩ = some (.int .i64 g.px) := hS.gl.c4
          have c5 : wc.cell? ⟨w.heap.size, 5, none⟩ = some (.int .i64 g.py) := hS.gl.c5
          clear hdp
          go_wp2_with fail
          refine (fits_any _ _ _ _ _ _ _ _ _).mono ?_
          rintro e w2 ⟨rfl, hb2⟩
          rw [fg]
          have hS2 := hS.later hb2
          clear c0 c1 c2 c3 c4 c5 hS fg hb2
          cases four with
          | false =>
            go_wp2
            go_meet
            case rel => exact hS2
          | true =>
            have fk : fitsB k.n k.pw k.ph k.ps k.px k.py = true := HFK.out hp.1 hp.2 rfl
            have c0 : w2.cell? ⟨w.heap.size + 1, 0, none⟩ = some (.slice k.a k.n k.c) := hS2.kl.c0
            have c1 : w2.cell? ⟨w.heap.size + 1, 1, none⟩ = some (.int .i64 k.pw) := hS2.kl.c1
            have c2 : w2.cell? ⟨w.heap.size + 1, 2, none⟩ = some (.int .i64 k.ph) := hS2.kl.c2
            have c3 : w2.cell? ⟨w.heap.size + 1, 3, none⟩ = some (.int .i64 k.ps) := hS2.kl.c3
            have c4 : w2.cell? ⟨w.heap.size + 1, 4, none⟩ = some (.int .i64 k.px) := hS2.kl.c4
            have c5 : w2.cell? ⟨w.heap.size + 1, 5, none⟩ = some (.int .i64 k.py) := hS2.kl.c5
            go_wp2_with fail
            refine (fits_any _ _ _ _ _ _ _ _ _).mono ?_
            rintro e w3 ⟨rfl, hb3⟩
            rw [fk]
            have hS3 := hS2.later hb3
            clear c0 c1 c2 c3 c4 c5 hS2 fk hb3
            go_wp2
            go_meet
            case rel => exact hS3
        · have hdp : decide (0 < fw ∧ 0 < fh) = false := by simpa using hp
          rw [hdp]
          go_wp2
          go_meet
          case rel => exact hS
      case rest =>
        clear hS
        have hS := hcut
        clear hcut
        refine ‹∀ (a : Act) (w : World), Code.wp Try.prog _ _ a w → _› _ _ ?_
        exact (grey_mid tr htr fw fh g k four w hn hw hh hwh HFG HFK HGN HKN wc hS _ _ _ _ _ _ _ _ _ _ _ _ _ _ _ _ _ _ _ _ _ _ _ _ _ _ _ _ _ _ _ _ _ _ _ _ _ _ _ _ _ _ _ _ _ _ _ _ _ _ _ _ _ _ _ _ _ _ _ _ _ _ _ _ _ _ _ _ _ _ _ _ _ _ _ _ _ _ _ _ _ _ _ _ _ _ _ _ _ _ _ _ _ _ _ _ _ _ _ _ _ _ _ _ _ _ _ _ _ _ _ _ _ _ _ _ _ _ _ _ _ _ _ _ _ _ _ _ _ _ _ _ _ _ _ _ _ _ _ _ _ _ _ _ _ _ _ _ _ _ _ _ _ _ _ _ _ _ _ _ _ _ _ _ _ _ _ _ _ _ _ _ _ _ _ _ _ _ _ _ _ _ _ _ _ _ _ _ _ _ _ _ _ _ _ _ _ _ _ _ _ _ _ _ _ _ _ _ _ _ _ _)

end Go.Proofs.Qxb6605972a
