/-
  A SLICE OF PLANES AMONG THE ARGUMENTS, OPENED.
-/
import Derived.Test.Qxb6605972aPlanes
import Derived.Deep.Slices
namespace Go.Proofs.Qxb6605972a
open Go.ChangeShapes Go.WideShapes Go.ChangeAt Go.RowKit Go.Deep

instance : Inhabited PlaneD := ⟨⟨none, 0, 0, 0, 0, 0, 0, 0, fun _ => 0⟩⟩

theorem open_plane_len {H : Type} {enc : TypeId × Value → H} {w : World} {base fuel : Nat} {spare : Nat → Bool} {held : Bool} {cs : List Value} {x : DataW H × List MemPlace}
    (h : DataW.trod enc Try.prog w base spare held fuel 30 cs = some x) : ∃ p : PlaneD, cs = p.cells ∧ p.Came w ∧ p.n ≤ maxLen := by
  obtain ⟨p, e, hc⟩ := open_plane h
  refine ⟨p, e, hc, ?_⟩
  obtain ⟨xs, n, _, _, hl, hlen, hf⟩ := DataW.trod_struct Try.underlying30 h
  subst e
  obtain ⟨y0, y1, y2, y3, y4, y5, rfl⟩ := list6 (by simpa using hlen)
  have h0 := hf 0 _ rfl
  simp [Try.cells28, PlaneD.cells] at h0
  rcases open_ints Try.underlying28 Try.underlying5 Try.cells5 h0 with ⟨hcs, _⟩ | ⟨a, len, cap, zs, hcs, _, hl', hm, hz, _, hcell, hwz⟩
  · simp at hcs
    rw [hcs.2.1]; exact Nat.zero_le _
  · simp at hcs
    rw [hcs.2.1]; omega

theorem open_planes {H : Type} {enc : TypeId × Value → H} {w : World} {base fuel : Nat} {spare : Nat → Bool} {held : Bool} {a : Option Addr} {len cap : Nat} {x : DataW H × List MemPlace}
    (h : DataW.trod enc Try.prog w base spare held fuel 24 [.slice a len cap] = some x) : len ≤ maxLen ∧ ∃ p : Nat → PlaneD, PlanesIn w a len p ∧ ∀ i, i < len → (p i).n ≤ maxLen := by
  rcases open_slice Try.underlying24 h with ⟨hcs, _⟩ | ⟨a', len', cap', m, n, D, Pl, hcs, _, hl, hm, hmm, _, hel⟩
  · simp at hcs
    obtain ⟨rfl, rfl, rfl⟩ := hcs
    exact ⟨Nat.zero_le _, fun _ => ⟨none, 0, 0, 0, 0, 0, 0, 0, fun _ => 0⟩, fun i hi => absurd hi (Nat.not_lt_zero _), fun i hi => absurd hi (Nat.not_lt_zero _)⟩
  · simp at hcs
    obtain ⟨rfl, rfl, rfl⟩ := hcs
    refine ⟨by omega, ?_⟩
    have hlm : len ≤ m := by rw [hmm]; split <;> omega
    have key : ∀ i, i < len → ∃ p : PlaneD, (∃ b o, a' = ⟨b, o, none⟩ ∧ p.Lies w b (o + i * 6)) ∧ p.Came w ∧ p.n ≤ maxLen := by
      intro i hi
      obtain ⟨cs', h1, h2⟩ := hel i (by omega)
      obtain ⟨p, e, hc, hn⟩ := open_plane_len h2
      subst e
      rw [Try.cells30] at h1
      refine ⟨p, ?_, hc, hn⟩
      obtain ⟨cs0, h10, _⟩ := hel 0 (by omega)
      rw [Try.cells30] at h10
      obtain ⟨_, _, c⟩ := World.cells?_some h1
      obtain ⟨_, hl0, c0⟩ := World.cells?_some h10
      obtain ⟨b, o, spot⟩ := a'
      have hspot : spot = none := by
        have e0 := c0 0 (by omega)
        rw [List.getElem?_eq_getElem (by omega)] at e0
        simpa [Addr.add] using World.cell?_spot e0
      subst hspot
      refine ⟨b, o, rfl, ?_⟩
      have q0 := c 0 (by omega)
      have q1 := c 1 (by omega)
      have q2 := c 2 (by omega)
      have q3 := c 3 (by omega)
      have q4 := c 4 (by omega)
      have q5 := c 5 (by omega)
      simp only [add_plain, PlaneD.cells, List.getElem?_cons_zero, List.getElem?_cons_succ, Nat.add_zero] at q0 q1 q2 q3 q4 q5
      exact ⟨q0, q1, q2, q3, q4, q5⟩
    obtain ⟨p, hp⟩ := choose_lt key
    exact ⟨p, fun i hi => by
      obtain ⟨⟨b, o, rfl, hL⟩, hC, _⟩ := hp i hi
      exact ⟨b, o, rfl, hL, hC⟩, fun i hi => (hp i hi).2.2⟩

end Go.Proofs.Qxb6605972a
