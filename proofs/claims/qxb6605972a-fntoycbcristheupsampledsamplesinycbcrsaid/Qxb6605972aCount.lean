/-
  THE PLAIN LAW of 'upsample's counting: the sample that pixel k stands on, counted, is min (k / q) m. No Go in sight.
-/
namespace Go.Proofs.Qxb6605972a.Pl

/-- After k pixels: the sample, and how many of its pixels are laid. 'q': pixels a sample; 'm': the last sample. -/
def st (q m : Int) : Nat → Int × Int
  | 0 => (0, 0)
  | k + 1 => if (st q m k).2 + 1 = q ∧ (st q m k).1 < m then ((st q m k).1 + 1, 0) else ((st q m k).1, (st q m k).2 + 1)

theorem st_range (q m : Int) : ∀ k : Nat, 0 ≤ (st q m k).1 ∧ (st q m k).1 ≤ k ∧ 0 ≤ (st q m k).2 ∧ (st q m k).2 ≤ k
  | 0 => by simp [st]
  | k + 1 => by
    have := st_range q m k
    unfold st
    split <;> simp <;> omega

theorem st_inv (q m : Int) (hq : 1 ≤ q) (hm : 0 ≤ m) : ∀ k : Nat, (st q m k).2 = k - q * (st q m k).1 ∧ (st q m k).1 ≤ m ∧ ((st q m k).1 < m → (st q m k).2 < q)
  | 0 => by simp [st]; omega
  | k + 1 => by
    obtain ⟨h1, h2, h3⟩ := st_inv q m hq hm k
    have hr := st_range q m k
    unfold st
    split
    · rename_i h
      obtain ⟨ha, hb⟩ := h
      refine ⟨?_, by simp; omega, by simp; omega⟩
      simp only [Int.mul_add]
      omega
    · rename_i h
      refine ⟨by simp; omega, by simpa using h2, ?_⟩
      intro hlt
      have := h3 hlt
      simp only at hlt ⊢
      omega

theorem st_eq (q m : Int) (hq : 1 ≤ q) (hm : 0 ≤ m) (k : Nat) : (st q m k).1 = min ((k : Int) / q) m := by
  obtain ⟨h1, h2, h3⟩ := st_inv q m hq hm k
  have hr := st_range q m k
  generalize (st q m k).1 = s at *
  generalize (st q m k).2 = t at *
  by_cases hlt : s < m
  · have hd : (k : Int) / q = s := by
      have ht := h3 hlt
      have e : (k : Int) = t + q * s := by omega
      rw [e, Int.add_mul_ediv_left _ _ (by omega), Int.ediv_eq_zero_of_lt (by omega) ht]
      omega
    omega
  · have hs : s = m := by omega
    subst hs
    have hd : s ≤ (k : Int) / q := Int.le_ediv_of_mul_le (by omega) (by rw [Int.mul_comm]; omega)
    omega

/-- Where the sample of pixel (y, x) lies in a plane of pw by ph samples, a row every ps, each px by py pixels. -/
def at_ (pw ph ps px py : Int) (y x : Nat) : Int := min ((y : Int) / py) (ph - 1) * ps + min ((x : Int) / px) (pw - 1)

theorem at_range {pw ph ps px py : Int} {n : Nat} (h1 : 1 ≤ pw) (h2 : 1 ≤ ph) (h3 : 1 ≤ px) (h4 : 1 ≤ py) (h5 : 0 ≤ ps) (hn : (ph - 1) * ps + (pw - 1) < n) (y x : Nat) :
    0 ≤ at_ pw ph ps px py y x ∧ at_ pw ph ps px py y x < n := by
  unfold at_
  have a0 : 0 ≤ (y : Int) / py := Int.ediv_nonneg (by omega) (by omega)
  have b0 : 0 ≤ (x : Int) / px := Int.ediv_nonneg (by omega) (by omega)
  have a1 : min ((y : Int) / py) (ph - 1) ≤ ph - 1 := by omega
  have a2 : 0 ≤ min ((y : Int) / py) (ph - 1) := by omega
  have m1 : min ((y : Int) / py) (ph - 1) * ps ≤ (ph - 1) * ps := Int.mul_le_mul_of_nonneg_right a1 h5
  have m0 : 0 ≤ min ((y : Int) / py) (ph - 1) * ps := Int.mul_nonneg a2 h5
  generalize min ((y : Int) / py) (ph - 1) * ps = u at *
  generalize (ph - 1) * ps = v at *
  omega

end Go.Proofs.Qxb6605972a.Pl
