/-
  THE BYTE-WISE WALKS of seat b6605972a: clamp16, light, mulInk, rgbToYCbCr, yccToRGB; image/color's RGBToYCbCr, YCbCrToRGB.
-/
import Derived.Test.Qxb6605972aRows
import Derived.Test.Qxb6605972aPlain
import Derived.Test.Qxb6605972aBits
import Derived.WalkKit
namespace Go.Proofs.Qxb6605972a
open Go.RowKit

theorem ret_u8 {k : IntKind} {a b : Int} (h : a = b) : Ending.returned (.int k a) = .returned (.int k b) := by rw [h]

theorem clamp_any (v : Int) (w : World) :
    Calls Try.prog 27 #[.int .i64 v] w fun e w' => e = .returned (.int .u8 (Pl.cl v)) ∧ w' = w := by
  by_cases h0 : v < 0
  · go_enter Try.func27, Try.ntmps27
    go_wp2
    go_ret
    exact ⟨by rw [Pl.cl_lo v h0]; rfl, rfl⟩
  · by_cases h1 : 16777216 ≤ v
    · go_enter Try.func27, Try.ntmps27
      go_wp2
      go_ret
      exact ⟨by rw [Pl.cl_hi v h1]; rfl, rfl⟩
    · have h2 : 0 ≤ v := by omega
      have h3 : v < 16777216 := by omega
      go_enter Try.func27, Try.ntmps27
      go_wp2
      go_ret
      exact ⟨by rw [Pl.cl_mid v h2 h3]; rfl, rfl⟩

theorem ink_any (a k : Int) (ha : 0 ≤ a ∧ a ≤ 255) (hk : 0 ≤ k ∧ k ≤ 255) (w : World) :
    Calls Try.prog 30 #[.int .u8 a, .int .u8 k] w fun e w' => e = .returned (.int .u8 (Pl.ink a k)) ∧ w' = w := by
  have h0 : 0 ≤ a * k := Int.mul_nonneg ha.1 hk.1
  have h1 : a * k ≤ 255 * 255 := Int.mul_le_mul ha.2 hk.2 hk.1 (by omega)
  obtain ⟨ha0, ha1⟩ := ha
  obtain ⟨hk0, hk1⟩ := hk
  go_enter Try.func30, Try.ntmps30
  go_wp2
  go_ret
  exact ⟨rfl, rfl⟩
theorem light_any (a k : Int) (ha : 0 ≤ a ∧ a ≤ 255) (hk : 0 ≤ k ∧ k ≤ 255) (w : World) :
    Calls Try.prog 19 #[.int .u8 a, .int .u8 k] w fun e w' => e = .returned (.int .u8 (Pl.ink a k)) ∧ w' = w := by
  have h0 : 0 ≤ a * k := Int.mul_nonneg ha.1 hk.1
  have h1 : a * k ≤ 255 * 255 := Int.mul_le_mul ha.2 hk.2 hk.1 (by omega)
  obtain ⟨ha0, ha1⟩ := ha
  obtain ⟨hk0, hk1⟩ := hk
  go_enter Try.func19, Try.ntmps19
  go_wp2
  all_goals go_ret
  · exact ⟨ret_u8 (by unfold Pl.ink; omega), rfl⟩
  · exact ⟨ret_u8 (by unfold Pl.ink; omega), rfl⟩

theorem ret3_u8 {a b c a' b' c' : Int} (h1 : a = a') (h2 : b = b') (h3 : c = c') :
    Ending.returned (.tuple #[.int .u8 a, .int .u8 b, .int .u8 c]) = .returned (.tuple #[.int .u8 a', .int .u8 b', .int .u8 c']) := by rw [h1, h2, h3]

set_option maxHeartbeats 1000000 in
theorem rgb_any (r g b : Int) (hr : 0 ≤ r ∧ r ≤ 255) (hg : 0 ≤ g ∧ g ≤ 255) (hb : 0 ≤ b ∧ b ≤ 255) (w : World) :
    Calls Try.prog 31 #[.int .u8 r, .int .u8 g, .int .u8 b] w fun e w' => e = .returned (.tuple #[.int .u8 (Pl.rgbY r g b), .int .u8 (Pl.rgbCb r g b), .int .u8 (Pl.rgbCr r g b)]) ∧ w' = w := by
  obtain ⟨hr0, hr1⟩ := hr
  obtain ⟨hg0, hg1⟩ := hg
  obtain ⟨hb0, hb1⟩ := hb
  go_enter Try.func31, Try.ntmps31
  go_wp2
  all_goals go_ret3
  all_goals exact ⟨ret3_u8 rfl (by first | exact clamp_yes _ (by omega) (by omega) (by assumption) | exact clamp_no _ (by omega) (by omega) (by assumption)) (by first | exact clamp_yes _ (by omega) (by omega) (by assumption) | exact clamp_no _ (by omega) (by omega) (by assumption)), rfl⟩

set_option maxHeartbeats 2000000 in
theorem ycc_any (y cb cr : Int) (hy : 0 ≤ y ∧ y ≤ 255) (hcb : 0 ≤ cb ∧ cb ≤ 255) (hcr : 0 ≤ cr ∧ cr ≤ 255) (w : World) :
    Calls Try.prog 29 #[.int .u8 y, .int .u8 cb, .int .u8 cr] w fun e w' => e = .returned (.tuple #[.int .u8 (Pl.yccR y cb cr), .int .u8 (Pl.yccG y cb cr), .int .u8 (Pl.yccB y cb cr)]) ∧ w' = w := by
  obtain ⟨hr0, hr1⟩ := hy
  obtain ⟨hg0, hg1⟩ := hcb
  obtain ⟨hb0, hb1⟩ := hcr
  go_enter Try.func29, Try.ntmps29
  go_wp2
  all_goals go_ret3
  all_goals exact ⟨ret3_u8 (by first | exact clamp_yes' _ (by omega) (by omega) ‹_› | exact clamp_no' _ (by omega) (by omega) ‹_›) (by first | exact clamp_yes' _ (by omega) (by omega) ‹_› | exact clamp_no' _ (by omega) (by omega) ‹_›) (by first | exact clamp_yes' _ (by omega) (by omega) ‹_› | exact clamp_no' _ (by omega) (by omega) ‹_›), rfl⟩

set_option maxHeartbeats 1000000 in
theorem rgb2_any (r g b : Int) (hr : 0 ≤ r ∧ r ≤ 255) (hg : 0 ≤ g ∧ g ≤ 255) (hb : 0 ≤ b ∧ b ≤ 255) (w : World) :
    Calls Try.prog 20 #[.int .u8 r, .int .u8 g, .int .u8 b] w fun e w' => e = .returned (.tuple #[.int .u8 (Pl.rgbY r g b), .int .u8 (Pl.rgbCb r g b), .int .u8 (Pl.rgbCr r g b)]) ∧ w' = w := by
  obtain ⟨hr0, hr1⟩ := hr
  obtain ⟨hg0, hg1⟩ := hg
  obtain ⟨hb0, hb1⟩ := hb
  go_enter Try.func20, Try.ntmps20
  go_wp2_with (go_at_call 27; refine (clamp_any _ _).mono ?_; rintro e w' ⟨rfl, rfl⟩)
  go_ret3
  exact ⟨rfl, rfl⟩

set_option maxHeartbeats 1000000 in
theorem ycc2_any (y cb cr : Int) (hy : 0 ≤ y ∧ y ≤ 255) (hcb : 0 ≤ cb ∧ cb ≤ 255) (hcr : 0 ≤ cr ∧ cr ≤ 255) (w : World) :
    Calls Try.prog 18 #[.int .u8 y, .int .u8 cb, .int .u8 cr] w fun e w' => e = .returned (.tuple #[.int .u8 (Pl.yccR y cb cr), .int .u8 (Pl.yccG y cb cr), .int .u8 (Pl.yccB y cb cr)]) ∧ w' = w := by
  obtain ⟨hr0, hr1⟩ := hy
  obtain ⟨hg0, hg1⟩ := hcb
  obtain ⟨hb0, hb1⟩ := hcr
  go_enter Try.func18, Try.ntmps18
  go_wp2_with (go_at_call 27; refine (clamp_any _ _).mono ?_; rintro e w' ⟨rfl, rfl⟩)
  go_ret3
  exact ⟨rfl, rfl⟩

end Go.Proofs.Qxb6605972a
