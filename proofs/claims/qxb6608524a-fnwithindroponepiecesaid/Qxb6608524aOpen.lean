/-
  SEAT b6608524a: SLICES OF INTS, AND SLICES OF SLICES OF BYTES, AMONG THE ARGUMENTS, OPENED.
-/
import Derived.Test.Qxb6608524aGrid
import Derived.ProofKit
import Derived.OpenShut
import Derived.ShutString
import Derived.ChangeOld
import Derived.Deep.Slices
namespace Go.Proofs.Qxb6608524a
open Go.ChangeShapes Go.WideShapes Go.ChangeAt Go.RowKit Go.Deep

theorem seg_of {w : World} {x : Addr} {k : IntKind} {zs : List Int} {len : Nat} (hl : len ≤ zs.length) (hcell : ∀ i, i < zs.length → w.cell? (x.add i) = some (.int k (zs.getD i 0))) :
    Seg w (some x) len (fun i => .int k (zs.getD i 0)) := fun i hi => by
  have h := hcell i (by omega)
  have h0 := hcell 0 (by omega)
  obtain ⟨b, off, spot⟩ := x
  have hspot : spot = none := by simpa [Addr.add] using World.cell?_spot h0
  subst hspot
  exact ⟨b, off, rfl, by rw [← add_plain]; exact h⟩

theorem getD_byte {zs : List Int} (h : ∀ n ∈ zs, (Lit.int .u8 n).wf = true) (i : Nat) : 0 ≤ zs.getD i 0 ∧ zs.getD i 0 ≤ 255 := by
  have := range_u8 h i
  simpa using this

theorem Try.cells30 : Try.prog.cellsOf 30 = 1 := by kernel_rfl
theorem Try.cells3 : Try.prog.cellsOf 3 = 1 := by kernel_rfl
theorem Try.cells5 : Try.prog.cellsOf 5 = 1 := by kernel_rfl

/-- A slice of ints. -/
theorem open_xs {H : Type} {enc : TypeId × Value → H} {w : World} {base fuel : Nat} {spare : Nat → Bool} {held : Bool} {a : Option Addr} {len cap : Nat} {x : DataW H × List MemPlace}
    (h : DataW.trod enc Try.prog w base spare held fuel 28 [.slice a len cap] = some x) : len ≤ maxLen ∧ (a = none → len = 0 ∧ cap = 0) ∧ ∃ X : Nat → Int, Ints w a len X := by
  rcases open_ints Try.underlying28 Try.underlying3 Try.cells3 h with ⟨hcs, _⟩ | ⟨a', len', cap', zs, hcs, _, hl', hm, hz, _, hcell, _⟩
  · simp at hcs
    obtain ⟨rfl, rfl, rfl⟩ := hcs
    exact ⟨Nat.zero_le _, fun _ => ⟨rfl, rfl⟩, fun _ => 0, fun i hi => absurd hi (Nat.not_lt_zero _)⟩
  · simp at hcs
    obtain ⟨rfl, rfl, rfl⟩ := hcs
    have hlz : len ≤ zs.length := by
      rw [hz]
      split <;> omega
    exact ⟨by omega, (fun h => by cases h), fun i => zs.getD i 0, seg_of hlz hcell⟩

/-- A slice of bytes, told. -/
structure ByteS where
  a : Option Addr
  n : Nat
  c : Nat
  f : Nat → Int
instance : Inhabited ByteS := ⟨⟨none, 0, 0, fun _ => 0⟩⟩

theorem open_bytes {H : Type} {enc : TypeId × Value → H} {w : World} {base fuel : Nat} {spare : Nat → Bool} {held : Bool} {cs : List Value} {x : DataW H × List MemPlace}
    (h : DataW.trod enc Try.prog w base spare held fuel 30 cs = some x) : ∃ p : ByteS, cs = [.slice p.a p.n p.c] ∧ p.n ≤ maxLen ∧ (p.a = none → p.n = 0 ∧ p.c = 0) ∧ Seg w p.a p.n (fun j => .int .u8 (p.f j)) ∧ ∀ j, 0 ≤ p.f j ∧ p.f j ≤ 255 := by
  rcases open_ints Try.underlying30 Try.underlying5 Try.cells5 h with ⟨hcs, _⟩ | ⟨a', len', cap', zs, hcs, _, hl', hm, hz, _, hcell, hwz⟩
  · exact ⟨⟨none, 0, 0, fun _ => 0⟩, hcs, Nat.zero_le _, fun _ => ⟨rfl, rfl⟩, fun i hi => absurd hi (Nat.not_lt_zero _), fun _ => by simp⟩
  · have hlz : len' ≤ zs.length := by
      rw [hz]
      split <;> omega
    exact ⟨⟨some a', len', cap', fun i => zs.getD i 0⟩, hcs, by show len' ≤ maxLen; omega, (fun h => by cases h), seg_of hlz hcell, getD_byte hwz⟩

/-- The blocks. -/
theorem open_blocks {H : Type} {enc : TypeId × Value → H} {w : World} {base fuel : Nat} {spare : Nat → Bool} {held : Bool} {a : Option Addr} {len cap : Nat} {x : DataW H × List MemPlace}
    (h : DataW.trod enc Try.prog w base spare held fuel 27 [.slice a len cap] = some x) :
    len ≤ maxLen ∧ (a = none → len = 0 ∧ cap = 0) ∧ ∃ (N : Nat → Nat) (F : Nat → Nat → Int), Blocks w a len N F ∧ (∀ i, i < len → N i ≤ maxLen) ∧ ∀ i j, 0 ≤ F i j ∧ F i j ≤ 255 := by
  rcases open_slice Try.underlying27 h with ⟨hcs, _⟩ | ⟨a', len', cap', m, n, D, Pl, hcs, _, hl, hm, hmm, _, hel⟩
  · simp at hcs
    obtain ⟨rfl, rfl, rfl⟩ := hcs
    exact ⟨Nat.zero_le _, fun _ => ⟨rfl, rfl⟩, fun _ => 0, fun _ _ => 0, fun i hi => absurd hi (Nat.not_lt_zero _), fun i hi => absurd hi (Nat.not_lt_zero _), fun _ _ => by simp⟩
  · simp at hcs
    obtain ⟨rfl, rfl, rfl⟩ := hcs
    refine ⟨by omega, (fun h => by cases h), ?_⟩
    have hlm : len ≤ m := by rw [hmm]; split <;> omega
    have key : ∀ i, i < len → ∃ p : ByteS, (∃ b o, a' = ⟨b, o, none⟩ ∧ w.cell? ⟨b, o + i, none⟩ = some (.slice p.a p.n p.c)) ∧ p.n ≤ maxLen ∧ (p.a = none → p.n = 0 ∧ p.c = 0) ∧ Seg w p.a p.n (fun j => .int .u8 (p.f j)) ∧ ∀ j, 0 ≤ p.f j ∧ p.f j ≤ 255 := by
      intro i hi
      obtain ⟨cs', h1, h2⟩ := hel i (by omega)
      obtain ⟨p, e, hn, hnil, hs, hf⟩ := open_bytes h2
      subst e
      rw [Try.cells30] at h1
      refine ⟨p, ?_, hn, hnil, hs, hf⟩
      obtain ⟨_, _, c⟩ := World.cells?_some h1
      have q0 := c 0 (by omega)
      obtain ⟨b, o, spot⟩ := a'
      obtain ⟨cs0, h10, _⟩ := hel 0 (by omega)
      rw [Try.cells30] at h10
      obtain ⟨_, hl0, c0⟩ := World.cells?_some h10
      have hspot : spot = none := by
        have e0 := c0 0 (by omega)
        rw [List.getElem?_eq_getElem (by omega)] at e0
        simpa [Addr.add] using World.cell?_spot e0
      subst hspot
      simp only [add_plain, List.getElem?_cons_zero, Nat.add_zero, Nat.mul_one] at q0
      exact ⟨b, o, rfl, q0⟩
    obtain ⟨p, hp⟩ := choose_lt key
    refine ⟨fun i => if i < len then (p i).n else 0, fun i j => if i < len then (p i).f j else 0, fun i hi => ?_, fun i hi => ?_, fun i j => ?_⟩
    · obtain ⟨⟨b, o, rfl, hc⟩, _, hnil, hs, _⟩ := hp i hi
      refine ⟨b, o, (p i).a, (p i).c, rfl, ?_, ?_, ?_⟩
      · simp only [if_pos hi]; exact hc
      · simp only [if_pos hi]; exact hnil
      · simp only [if_pos hi]; exact hs
    · simp only [if_pos hi]; exact (hp i hi).2.1
    · by_cases hi : i < len
      · simp only [if_pos hi]; exact (hp i hi).2.2.2.2 j
      · simp only [if_neg hi]; simp

end Go.Proofs.Qxb6608524a
