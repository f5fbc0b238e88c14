/-
  THE WALK OF THE LAW 'FnToYCbCrKeepsGreyNeutral'.
-/
import Derived.Test.Qxb6605972aToY
import Derived.Deep.DeepCutAuto
namespace Go.Proofs.Qxb6605972a
open Go.RowKit

/-- 'ZZtoYCbCr'. -/
theorem zzToY_any (bd bi cnt cc : Nat) (tr : Int) (p : Nat → PlaneD) (fw fh : Nat) (w : World) (hw : fw ≤ 65536) (hh : fh ≤ 65536) (hwh : fw * fh ≤ 1048576) (hcnt : cnt = 3 ∨ cnt = 4)
    (htr : 0 ≤ tr ∧ tr ≤ 255) (hd : w.cell? ⟨bd, 30, none⟩ = some (.int .u8 tr))
    (hlies : ∀ i, i < cnt → (p i).Lies w bi (i * 6)) (hok : ∀ i, i < cnt → (p i).Ok w) (hfit : 0 < fw → 0 < fh → ∀ i, i < cnt → (p i).fits = true) :
    Calls Try.prog 14 #[.pointer (some ⟨bd, 0, none⟩), .int .i64 fw, .int .i64 fh, .slice (some ⟨bi, 0, none⟩) cnt cc] w fun e w' =>
      ∃ b0 b1 b2 bo, e = .returned (.slice (some ⟨bo, 0, none⟩) 3 3) ∧ w'.heap[bo]? = some (.cells (outCells b0 b1 b2 fw fh) 34 (0, 0)) ∧
        w'.rowIs b0 5 (fw * fh) (fun i => .int .u8 (Pl.rgbY (cRof cnt tr p (i / fw) (i % fw)) (cGof cnt tr p (i / fw) (i % fw)) (cBof cnt tr p (i / fw) (i % fw)))) ∧
        w'.rowIs b1 5 (fw * fh) (fun i => .int .u8 (Pl.rgbCb (cRof cnt tr p (i / fw) (i % fw)) (cGof cnt tr p (i / fw) (i % fw)) (cBof cnt tr p (i / fw) (i % fw)))) ∧
        w'.rowIs b2 5 (fw * fh) (fun i => .int .u8 (Pl.rgbCr (cRof cnt tr p (i / fw) (i % fw)) (cGof cnt tr p (i / fw) (i % fw)) (cBof cnt tr p (i / fw) (i % fw)))) ∧ Below w.heap.size w w' := by
  have HD : Hid _ := hd
  have HL : Hid _ := hlies
  have HO : Hid _ := hok
  have HF : Hid _ := hfit
  clear hd hlies hok hfit
  go_enter Try.func14, Try.ntmps14
  go_wp2_with fail
  refine (toY_any bd bi cnt cc tr p fw fh w hw hh hwh hcnt htr HD.out HL.out HO.out HF.out).mono ?_
  rintro e w' ⟨b0, b1, b2, bo, rfl, h1, h2, h3, h4, h5⟩
  have H : Hid _ := And.intro h1 (And.intro h2 (And.intro h3 (And.intro h4 h5)))
  clear h1 h2 h3 h4 h5
  go_wp2
  go_ret
  exact ⟨b0, b1, b2, bo, rfl, H.out.1, H.out.2.1, H.out.2.2.1, H.out.2.2.2.1, H.out.2.2.2.2⟩

/-- 'cloneBytes' of whatever slice. -/
theorem clone_any (a : Option Addr) (n c : Nat) (hn : n ≤ 1048576) (hnil : a = none → n = 0 ∧ c = 0) (f : Nat → Int) (w : World) (hs : Seg w a n (fun i => .int .u8 (f i))) :
    Calls Try.prog 22 #[.slice a n c] w fun e w' => ∃ a' c', e = .returned (.slice a' n c') ∧ Seg w' a' n (fun i => .int .u8 (f i)) ∧ Below w.heap.size w w' := by
  cases a with
  | none =>
    obtain ⟨rfl, rfl⟩ := hnil rfl
    refine (clone_nil w).mono ?_
    rintro e w' ⟨rfl, rfl⟩
    exact ⟨none, 0, rfl, hs, Below.refl _ _⟩
  | some ad =>
    refine (clone_some ad n c hn f w hs).mono ?_
    rintro e w' ⟨rfl, h1, h2⟩
    exact ⟨_, _, rfl, Seg.of_row h1, h2⟩

set_option maxHeartbeats 2000000 in
set_option maxRecDepth 1000000 in
/-- Too many bytes. -/
theorem grey_long (tr w0 h0 : Int) (g k : PlaneD) (four : Bool) (w : World) (h : ¬ g.n + k.n ≤ 1048576) :
    Calls Try.prog 6 #[.int .u8 tr, .int .i64 w0, .int .i64 h0, .agg #[.slice g.a g.n g.c, .int .i64 g.pw, .int .i64 g.ph, .int .i64 g.ps, .int .i64 g.px, .int .i64 g.py],
      .agg #[.slice k.a k.n k.c, .int .i64 k.pw, .int .i64 k.ph, .int .i64 k.ps, .int .i64 k.px, .int .i64 k.py], .bool four] w fun e w' => e = .returned (.bool true) ∧ Below w.heap.size w w' := by
  have hd : decide (g.n + k.n ≤ 1048576) = false := by simpa using h
  go_enter Try.func6, Try.ntmps6
  go_wp2_with fail
  refine (zz21_any _ _ _ _ _ _ _ _ _ _ _ _ _ _ _ _ _ _ _ _ _).mono ?_
  rintro e w1 ⟨rfl, hb⟩
  rw [hd]
  go_wp2
  go_ret
  exact ⟨rfl, (((Below.refl _ _).alloc (Nat.le_refl _) _).alloc (by simp) _).trans (hb.mono (by simp; omega))⟩

set_option maxHeartbeats 4000000 in
set_option maxRecDepth 1000000 in
/-- A picture's size out of range. -/
theorem grey_range (tr w0 h0 : Int) (g k : PlaneD) (four : Bool) (w : World) (hn : g.n + k.n ≤ 1048576) (h : w0 < 0 ∨ h0 < 0 ∨ 65536 < w0 ∨ 65536 < h0) :
    Calls Try.prog 6 #[.int .u8 tr, .int .i64 w0, .int .i64 h0, .agg #[.slice g.a g.n g.c, .int .i64 g.pw, .int .i64 g.ph, .int .i64 g.ps, .int .i64 g.px, .int .i64 g.py],
      .agg #[.slice k.a k.n k.c, .int .i64 k.pw, .int .i64 k.ph, .int .i64 k.ps, .int .i64 k.px, .int .i64 k.py], .bool four] w fun e w' => e = .returned (.bool true) ∧ Below w.heap.size w w' := by
  have hd : decide (g.n + k.n ≤ 1048576) = true := by simpa using hn
  by_cases h1 : w0 < 0
  · go_enter Try.func6, Try.ntmps6
    go_wp2_with fail
    refine (zz21_any _ _ _ _ _ _ _ _ _ _ _ _ _ _ _ _ _ _ _ _ _).mono ?_
    rintro e w1 ⟨rfl, hb⟩
    rw [hd]
    obtain ⟨hc1, hc2⟩ := bcell hb
    go_wp2
    go_ret
    exact ⟨rfl, (((Below.refl _ _).alloc (Nat.le_refl _) _).alloc (by simp) _).trans (hb.mono (by simp; omega))⟩
  · by_cases h2 : h0 < 0
    · go_enter Try.func6, Try.ntmps6
      go_wp2_with fail
      refine (zz21_any _ _ _ _ _ _ _ _ _ _ _ _ _ _ _ _ _ _ _ _ _).mono ?_
      rintro e w1 ⟨rfl, hb⟩
      rw [hd]
      obtain ⟨hc1, hc2⟩ := bcell hb
      go_wp2
      go_ret
      exact ⟨rfl, (((Below.refl _ _).alloc (Nat.le_refl _) _).alloc (by simp) _).trans (hb.mono (by simp; omega))⟩
    · by_cases h3 : 65536 < w0
      · go_enter Try.func6, Try.ntmps6
        go_wp2_with fail
        refine (zz21_any _ _ _ _ _ _ _ _ _ _ _ _ _ _ _ _ _ _ _ _ _).mono ?_
        rintro e w1 ⟨rfl, hb⟩
        rw [hd]
        obtain ⟨hc1, hc2⟩ := bcell hb
        go_wp2
        go_ret
        exact ⟨rfl, (((Below.refl _ _).alloc (Nat.le_refl _) _).alloc (by simp) _).trans (hb.mono (by simp; omega))⟩
      · have h4 : 65536 < h0 := by omega
        go_enter Try.func6, Try.ntmps6
        go_wp2_with fail
        refine (zz21_any _ _ _ _ _ _ _ _ _ _ _ _ _ _ _ _ _ _ _ _ _).mono ?_
        rintro e w1 ⟨rfl, hb⟩
        rw [hd]
        obtain ⟨hc1, hc2⟩ := bcell hb
        go_wp2
        go_ret
        exact ⟨rfl, (((Below.refl _ _).alloc (Nat.le_refl _) _).alloc (by simp) _).trans (hb.mono (by simp; omega))⟩

set_option maxHeartbeats 4000000 in
set_option maxRecDepth 1000000 in
/-- Too many pixels. -/
theorem grey_area (tr : Int) (fw fh : Nat) (g k : PlaneD) (four : Bool) (w : World) (hn : g.n + k.n ≤ 1048576) (hw : fw ≤ 65536) (hh : fh ≤ 65536) (hpos : 0 < fh) (ha : (1048576 : Int) / (fh : Int) < (fw : Int)) :
    Calls Try.prog 6 #[.int .u8 tr, .int .i64 fw, .int .i64 fh, .agg #[.slice g.a g.n g.c, .int .i64 g.pw, .int .i64 g.ph, .int .i64 g.ps, .int .i64 g.px, .int .i64 g.py],
      .agg #[.slice k.a k.n k.c, .int .i64 k.pw, .int .i64 k.ph, .int .i64 k.ps, .int .i64 k.px, .int .i64 k.py], .bool four] w fun e w' => e = .returned (.bool true) ∧ Below w.heap.size w w' := by
  have hd : decide (g.n + k.n ≤ 1048576) = true := by simpa using hn
  have q0 : 0 ≤ (1048576 : Int) / (fh : Int) := Int.ediv_nonneg (by omega) (by omega)
  have q1 : (1048576 : Int) / (fh : Int) ≤ 1048576 := Int.ediv_le_self _ (by omega)
  go_enter Try.func6, Try.ntmps6
  go_wp2_with fail
  refine (zz21_any _ _ _ _ _ _ _ _ _ _ _ _ _ _ _ _ _ _ _ _ _).mono ?_
  rintro e w1 ⟨rfl, hb⟩
  rw [hd]
  obtain ⟨hc1, hc2⟩ := bcell hb
  go_wp2
  go_ret
  exact ⟨rfl, (((Below.refl _ _).alloc (Nat.le_refl _) _).alloc (by simp) _).trans (hb.mono (by simp; omega))⟩

set_option maxHeartbeats 4000000 in
set_option maxRecDepth 1000000 in
/-- A plane that does not fit. -/
theorem grey_unfit (tr : Int) (fw fh : Nat) (g k : PlaneD) (four : Bool) (w : World) (hn : g.n + k.n ≤ 1048576) (hw : fw ≤ 65536) (hh : fh ≤ 65536) (hpw : 0 < fw) (hph : 0 < fh) (ha : (fw : Int) ≤ (1048576 : Int) / (fh : Int))
    (hf : g.fits = false ∨ four = true ∧ k.fits = false) :
    Calls Try.prog 6 #[.int .u8 tr, .int .i64 fw, .int .i64 fh, .agg #[.slice g.a g.n g.c, .int .i64 g.pw, .int .i64 g.ph, .int .i64 g.ps, .int .i64 g.px, .int .i64 g.py],
      .agg #[.slice k.a k.n k.c, .int .i64 k.pw, .int .i64 k.ph, .int .i64 k.ps, .int .i64 k.px, .int .i64 k.py], .bool four] w fun e w' => e = .returned (.bool true) ∧ Below w.heap.size w w' := by
  have hd : decide (g.n + k.n ≤ 1048576) = true := by simpa using hn
  have q0 : 0 ≤ (1048576 : Int) / (fh : Int) := Int.ediv_nonneg (by omega) (by omega)
  have q1 : (1048576 : Int) / (fh : Int) ≤ 1048576 := Int.ediv_le_self _ (by omega)
  by_cases hg : g.fits = false
  · have hg' : fitsB g.n g.pw g.ph g.ps g.px g.py = false := hg
    clear hf hg
    go_enter Try.func6, Try.ntmps6
    go_wp2_with fail
    refine (zz21_any _ _ _ _ _ _ _ _ _ _ _ _ _ _ _ _ _ _ _ _ _).mono ?_
    rintro e w1 ⟨rfl, hb⟩
    rw [hd]
    obtain ⟨hc1, hc2⟩ := bcell hb
    go_wp2_with fail
    refine (fits_any _ _ _ _ _ _ _ _ _).mono ?_
    rintro e w2 ⟨rfl, hb2⟩
    rw [hg']
    go_wp2
    go_ret
    exact ⟨rfl, ((((Below.refl _ _).alloc (Nat.le_refl _) _).alloc (by simp) _).trans (hb.mono (by simp; omega))).trans (hb2.mono (by have := hb.size; simp at this; omega))⟩
  · obtain ⟨rfl, hk⟩ : four = true ∧ k.fits = false := by rcases hf with h | h; exact absurd h hg; exact h
    have hg' : fitsB g.n g.pw g.ph g.ps g.px g.py = true := by simpa [PlaneD.fits] using hg
    have hk' : fitsB k.n k.pw k.ph k.ps k.px k.py = false := hk
    clear hf hg hk
    go_enter Try.func6, Try.ntmps6
    go_wp2_with fail
    refine (zz21_any _ _ _ _ _ _ _ _ _ _ _ _ _ _ _ _ _ _ _ _ _).mono ?_
    rintro e w1 ⟨rfl, hb⟩
    rw [hd]
    obtain ⟨hc1, hc2⟩ := bcell hb
    have z1 : w.heap.size + 1 < w1.heap.size := by have := hb.size; simp at this; omega
    have z0 : w.heap.size < w1.heap.size := by omega
    go_wp2_with fail
    refine (fits_any _ _ _ _ _ _ _ _ _).mono ?_
    rintro e w2 ⟨rfl, hb2⟩
    rw [hg']
    obtain ⟨hc3, hc4⟩ := bcell hb2
    have z2 := hb2.size
    go_wp2_with fail
    refine (fits_any _ _ _ _ _ _ _ _ _).mono ?_
    rintro e w3 ⟨rfl, hb3⟩
    rw [hk']
    go_wp2
    go_ret
    exact ⟨rfl, (((((Below.refl _ _).alloc (Nat.le_refl _) _).alloc (by simp) _).trans (hb.mono (by simp; omega))).trans (hb2.mono (by omega))).trans (hb3.mono (by omega))⟩

end Go.Proofs.Qxb6605972a
