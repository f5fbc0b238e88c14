/-
  THE PLAIN FUNCTIONS of seat b6605972a: what the byte-wise Go functions compute, over Int; no Go in sight.
-/
namespace Go.Proofs.Qxb6605972a.Pl

/-- 'clamp16': v / 65536 held to 0 .. 255. -/
def cl (v : Int) : Int := if v < 0 then 0 else if 16777216 ≤ v then 255 else v / 65536
/-- 'mulInk', 'light': the nearest whole number to a * k / 255. -/
def ink (a k : Int) : Int := (a * k + 127) / 255
/-- 'RGBToYCbCr', 'rgbToYCbCr'. -/
def rgbY (r g b : Int) : Int := (19595 * r + 38470 * g + 7471 * b + 32768) / 65536
def rgbCb (r g b : Int) : Int := cl (-11056 * r - 21712 * g + 32768 * b + 8421376)
def rgbCr (r g b : Int) : Int := cl (32768 * r - 27440 * g - 5328 * b + 8421376)
/-- 'YCbCrToRGB', 'yccToRGB'. -/
def yccR (y _cb cr : Int) : Int := cl (y * 65793 + 91881 * (cr - 128))
def yccG (y cb cr : Int) : Int := cl (y * 65793 - 22554 * (cb - 128) - 46802 * (cr - 128))
def yccB (y cb _cr : Int) : Int := cl (y * 65793 + 116130 * (cb - 128))

theorem cl_range (v : Int) : 0 ≤ cl v ∧ cl v ≤ 255 := by
  unfold cl
  split
  · omega
  · split <;> omega

theorem ink_range (a k : Int) (ha : 0 ≤ a ∧ a ≤ 255) (hk : 0 ≤ k ∧ k ≤ 255) : 0 ≤ ink a k ∧ ink a k ≤ 255 := by
  unfold ink
  have h0 : 0 ≤ a * k := Int.mul_nonneg ha.1 hk.1
  have h1 : a * k ≤ 255 * 255 := Int.mul_le_mul ha.2 hk.2 hk.1 (by omega)
  omega

theorem rgbY_range (r g b : Int) (hr : 0 ≤ r ∧ r ≤ 255) (hg : 0 ≤ g ∧ g ≤ 255) (hb : 0 ≤ b ∧ b ≤ 255) : 0 ≤ rgbY r g b ∧ rgbY r g b ≤ 255 := by
  unfold rgbY
  omega

theorem cl_lo (v : Int) (h : v < 0) : cl v = 0 := by unfold cl; rw [if_pos h]
theorem cl_hi (v : Int) (h : 16777216 ≤ v) : cl v = 255 := by unfold cl; rw [if_neg (by omega), if_pos h]
theorem cl_mid (v : Int) (h0 : 0 ≤ v) (h1 : v < 16777216) : cl v = v / 65536 := by unfold cl; rw [if_neg (by omega), if_neg (by omega)]

/-- A neutral colour stays neutral. -/
theorem grey_Y (v : Int) : rgbY v v v = v := by unfold rgbY; omega
theorem grey_Cb (v : Int) : rgbCb v v v = 128 := by unfold rgbCb; rw [cl_mid _ (by omega) (by omega)]; omega
theorem grey_Cr (v : Int) : rgbCr v v v = 128 := by unfold rgbCr; rw [cl_mid _ (by omega) (by omega)]; omega
theorem grey_R (v : Int) (h : 0 ≤ v ∧ v ≤ 255) : yccR v 128 128 = v := by unfold yccR; rw [cl_mid _ (by omega) (by omega)]; omega
theorem grey_G (v : Int) (h : 0 ≤ v ∧ v ≤ 255) : yccG v 128 128 = v := by unfold yccG; rw [cl_mid _ (by omega) (by omega)]; omega
theorem grey_B (v : Int) (h : 0 ≤ v ∧ v ≤ 255) : yccB v 128 128 = v := by unfold yccB; rw [cl_mid _ (by omega) (by omega)]; omega

end Go.Proofs.Qxb6605972a.Pl
