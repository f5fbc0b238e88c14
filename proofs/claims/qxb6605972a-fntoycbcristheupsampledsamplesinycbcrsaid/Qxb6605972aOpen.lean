/-
  A PLANE AMONG THE ARGUMENTS, OPENED.
-/
import Derived.Test.Qxb6605972aGreyKit
import Derived.ProofKit
import Derived.OpenShut
import Derived.ShutString
import Derived.ChangeOld
namespace Go.Proofs.Qxb6605972a
open Go.ChangeShapes Go.WideShapes Go.ChangeAt Go.RowKit

theorem seg_of {w : World} {x : Addr} {k : IntKind} {zs : List Int} {len : Nat} (hl : len ≤ zs.length) (hcell : ∀ i, i < zs.length → w.cell? (x.add i) = some (.int k (zs.getD i 0))) :
    Seg w (some x) len (fun i => .int k (zs.getD i 0)) := fun i hi => by
  have h := hcell i (by omega)
  have h0 := hcell 0 (by omega)
  obtain ⟨b, off, spot⟩ := x
  have hspot : spot = none := by simpa [Addr.add] using World.cell?_spot h0
  subst hspot
  exact ⟨b, off, rfl, by rw [← add_plain]; exact h⟩

theorem getD_byte {zs : List Int} (h : ∀ n ∈ zs, (Lit.int .u8 n).wf = true) (i : Nat) : 0 ≤ zs.getD i 0 ∧ zs.getD i 0 ≤ 255 := by
  have := range_u8 h i
  simpa using this

theorem list6 {α : Type} {cs : List α} (h : cs.length = 6) : ∃ c0 c1 c2 c3 c4 c5, cs = [c0, c1, c2, c3, c4, c5] := by
  match cs, h with
  | [c0, c1, c2, c3, c4, c5], _ => exact ⟨c0, c1, c2, c3, c4, c5, rfl⟩

theorem Try.cells30 : Try.prog.cellsOf 30 = 6 := by kernel_rfl
theorem Try.cells28 : Try.prog.cellsOf 28 = 1 := by kernel_rfl
theorem Try.cells3 : Try.prog.cellsOf 3 = 1 := by kernel_rfl
theorem Try.cells5 : Try.prog.cellsOf 5 = 1 := by kernel_rfl

/-- What is known of a plane that came in. -/
structure PlaneD.Came (p : PlaneD) (w : World) : Prop where
  seg : Seg w p.a p.n (fun i => .int .u8 (p.f i))
  byte : ∀ i, 0 ≤ p.f i ∧ p.f i ≤ 255
  nil : p.a = none → p.n = 0 ∧ p.c = 0

theorem PlaneD.Came.ok {p : PlaneD} {w : World} (h : p.Came w) (hn : p.n ≤ 1048576) : p.Ok w := ⟨h.seg, hn, h.byte⟩

def PlaneD.cells (p : PlaneD) : List Value := [.slice p.a p.n p.c, .int .i64 p.pw, .int .i64 p.ph, .int .i64 p.ps, .int .i64 p.px, .int .i64 p.py]

theorem open_plane {H : Type} {enc : TypeId × Value → H} {w : World} {base fuel : Nat} {spare : Nat → Bool} {held : Bool} {cs : List Value} {x : DataW H × List MemPlace}
    (h : DataW.trod enc Try.prog w base spare held fuel 30 cs = some x) : ∃ p : PlaneD, cs = p.cells ∧ p.Came w := by
  obtain ⟨xs, n, _, _, hl, hlen, hf⟩ := DataW.trod_struct Try.underlying30 h
  rw [Try.cells30] at hl
  obtain ⟨c0, c1, c2, c3, c4, c5, rfl⟩ := list6 hl
  obtain ⟨y0, y1, y2, y3, y4, y5, rfl⟩ := list6 (by simpa using hlen)
  have h0 := hf 0 _ rfl
  have h1 := hf 1 _ rfl
  have h2 := hf 2 _ rfl
  have h3 := hf 3 _ rfl
  have h4 := hf 4 _ rfl
  have h5 := hf 5 _ rfl
  simp [Try.cells28, Try.cells3] at h0 h1 h2 h3 h4 h5
  obtain ⟨i1, e1, _, _⟩ := DataW.trod_int Try.underlying3 h1
  obtain ⟨i2, e2, _, _⟩ := DataW.trod_int Try.underlying3 h2
  obtain ⟨i3, e3, _, _⟩ := DataW.trod_int Try.underlying3 h3
  obtain ⟨i4, e4, _, _⟩ := DataW.trod_int Try.underlying3 h4
  obtain ⟨i5, e5, _, _⟩ := DataW.trod_int Try.underlying3 h5
  simp at e1 e2 e3 e4 e5
  subst e1 e2 e3 e4 e5
  rcases open_ints Try.underlying28 Try.underlying5 Try.cells5 h0 with ⟨hcs, _⟩ | ⟨a, len, cap, zs, hcs, _, hl', hm, hz, _, hcell, hwz⟩
  · simp at hcs
    subst hcs
    exact ⟨⟨none, 0, 0, i1, i2, i3, i4, i5, fun _ => 0⟩, rfl, fun i hi => absurd hi (Nat.not_lt_zero _), fun _ => by simp, fun _ => ⟨rfl, rfl⟩⟩
  · simp at hcs
    subst hcs
    have hlz : len ≤ zs.length := by
      rw [hz]
      split <;> omega
    exact ⟨⟨some a, len, cap, i1, i2, i3, i4, i5, fun i => zs.getD i 0⟩, rfl, seg_of hlz hcell, getD_byte hwz, fun h => by cases h⟩

end Go.Proofs.Qxb6605972a
