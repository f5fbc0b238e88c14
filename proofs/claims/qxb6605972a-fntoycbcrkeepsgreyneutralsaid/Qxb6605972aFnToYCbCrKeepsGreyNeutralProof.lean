/-
  'Rows.FnToYCbCrKeepsGreyNeutralSaid' proved. The frame is the guide's template for a law over slices, turned to planes (structs with a slice of bytes); the walk is ours.
-/
import Derived.Test.Qxb6605972aRows
import Derived.Test.Qxb6605972aGreyMain
import Derived.Test.Qxb6605972aOpen
import Derived.WalkKit
import Derived.ProofKit
import Derived.OpenShut
import Derived.ShutString
import Derived.ChangeOld
import Derived.Below
namespace Go.Proofs.Qxb6605972a.fnToYCbCrKeepsGreyNeutral
open Go.ChangeShapes Go.WideShapes Go.ChangeAt Go.RowKit
open Go.ChangeMaps (open_string shut_string)
set_option linter.unusedVariables false

theorem own : ownKnob Try.prog.godebug = none := by kernel_rfl
theorem laidOut : laidOutB Try.prog = true := by kernel_rfl

/-- THE WALK: the law returns true, and writes nothing that was there. -/
theorem walk (tr w0 h0 : Int) (htr : (Lit.int .u8 tr).wf = true) (g k : PlaneD) (four : Bool) (w : World) (hg : g.Came w) (hk : k.Came w) :
    Calls Try.prog 6 #[.int .u8 tr, .int .i64 w0, .int .i64 h0, .agg #[.slice g.a g.n g.c, .int .i64 g.pw, .int .i64 g.ph, .int .i64 g.ps, .int .i64 g.px, .int .i64 g.py],
      .agg #[.slice k.a k.n k.c, .int .i64 k.pw, .int .i64 k.ph, .int .i64 k.ps, .int .i64 k.px, .int .i64 k.py], .bool four] w fun e w' => e = .returned (.bool true) ∧ Below w.heap.size w w' := by
  by_cases hn : g.n + k.n ≤ 1048576
  · by_cases hr : w0 < 0 ∨ h0 < 0 ∨ 65536 < w0 ∨ 65536 < h0
    · exact grey_range tr w0 h0 g k four w hn hr
    · obtain ⟨fw, rfl⟩ := Int.eq_ofNat_of_zero_le (a := w0) (by omega)
      obtain ⟨fh, rfl⟩ := Int.eq_ofNat_of_zero_le (a := h0) (by omega)
      have hw : fw ≤ 65536 := by omega
      have hh : fh ≤ 65536 := by omega
      by_cases ha : 0 < fh ∧ (1048576 : Int) / (fh : Int) < (fw : Int)
      · exact grey_area tr fw fh g k four w hn hw hh ha.1 ha.2
      · have ha' : 0 < fh → (fw : Int) ≤ (1048576 : Int) / (fh : Int) := fun hp => by
          have : ¬ (1048576 : Int) / (fh : Int) < (fw : Int) := fun h => ha ⟨hp, h⟩
          omega
        have hwh : fw * fh ≤ 1048576 := by
          rcases Nat.eq_zero_or_pos fh with h0 | h0
          · subst h0; simp
          · have h1 := ha' h0
            have h2 : (fw : Int) * (fh : Int) ≤ 1048576 := Int.le_trans (Int.mul_le_mul_of_nonneg_right h1 (by omega)) (Int.ediv_mul_le _ (by omega))
            have h3 : ((fw * fh : Nat) : Int) ≤ 1048576 := by rw [Int.natCast_mul]; exact h2
            omega
        by_cases hf : 0 < fw ∧ 0 < fh ∧ (g.fits = false ∨ four = true ∧ k.fits = false)
        · exact grey_unfit tr fw fh g k four w hn hw hh hf.1 hf.2.1 (ha' hf.2.1) hf.2.2
        · refine grey_main tr (bounds_u8 htr) fw fh g k four w hn hw hh hwh ha' ?_ ?_ (hg.ok (by omega)) (hk.ok (by omega)) hg.nil hk.nil
          · intro h1 h2
            cases e : g.fits with
            | true => rfl
            | false => exact absurd ⟨h1, h2, Or.inl e⟩ hf
          · intro h1 h2 h3
            cases e : k.fits with
            | true => rfl
            | false => exact absurd ⟨h1, h2, Or.inr ⟨h3, e⟩⟩ hf
  · exact grey_long tr w0 h0 g k four w hn

set_option maxRecDepth 100000 in
theorem lifted (os : Os) (started : os.Started) (H : Type) (enc : TypeId × Value → H) :
    ReturnsInHanded {} Try.checked os 6 .any (Rows.fnToYCbCrKeepsGreyNeutralSpec.pre6 enc Try.prog Try.f6 Rows.fnToYCbCrKeepsGreyNeutralRow.domain false) (Rows.fnToYCbCrKeepsGreyNeutralSpec.post enc Try.prog Try.f6 false true false false) := by
  refine returnsInHanded_of_change (C := Try.checked) own started (by kernel_rfl) Try.func6
    (ChangeSpec.witness6 (enc := enc) (C := Try.checked) false ⟨#[], #[.int .u8 0, .int .i64 0, .int .i64 0, .agg #[.slice none 0 0, .int .i64 0, .int .i64 0, .int .i64 0, .int .i64 0, .int .i64 0], .agg #[.slice none 0 0, .int .i64 0, .int .i64 0, .int .i64 0, .int .i64 0, .int .i64 0], .bool false], []⟩ 8 (by kernel_rfl) (by kernel_rfl) (by kernel_rfl) (by kernel_rfl)) ?_
  intro W base args ds gs before hval0 hW hcnd _
  have hval : ∀ (j : Nat) t v, Try.f6.params[j]? = some t → args[j]? = some v → Value.okWide Try.prog W .any base t v := hval0
  have hW' := hW
  obtain ⟨p, q, hA0, hV, rfl, hfz, hnd⟩ := hW
  have hA : DataW.TrodAll enc Try.prog W 0 (fun _ => true) true Try.f6.params.toList args.toList ds p := hA0
  rw [Try.params6] at hA hval
  obtain ⟨v0, vs0, d0, ds0, p0, q0, hargs, rfl, rfl, h0, r0⟩ := trodAll_cons hA
  obtain ⟨v1, vs1, d1, ds1, p1, q1, rfl, rfl, rfl, h1, r1⟩ := trodAll_cons r0
  obtain ⟨v2, vs2, d2, ds2, p2, q2, rfl, rfl, rfl, h2, r2⟩ := trodAll_cons r1
  obtain ⟨v3, vs3, d3, ds3, p3, q3, rfl, rfl, rfl, h3, r3⟩ := trodAll_cons r2
  obtain ⟨v4, vs4, d4, ds4, p4, q4, rfl, rfl, rfl, h4, r4⟩ := trodAll_cons r3
  obtain ⟨v5, vs5, d5, ds5, p5, q5, rfl, rfl, rfl, h5, r5⟩ := trodAll_cons r4
  obtain ⟨rfl, rfl, rfl⟩ := trodAll_nil r5
  obtain rfl : args = #[v0, v1, v2, v3, v4, v5] := by cases args; simp_all
  obtain ⟨rfl, rfl⟩ := trodVars_none hV
  obtain ⟨a0, rfl, rfl, rfl, w0⟩ := open_int Try.underlying5 (hval 0 5 v0 rfl rfl) h0
  obtain ⟨a1, rfl, rfl, rfl, w1⟩ := open_int Try.underlying3 (hval 1 3 v1 rfl rfl) h1
  obtain ⟨a2, rfl, rfl, rfl, w2⟩ := open_int Try.underlying3 (hval 2 3 v2 rfl rfl) h2
  obtain ⟨cs3, rfl, hsz3⟩ := okWide_struct Try.underlying30 (hval 3 30 v3 rfl rfl)
  obtain ⟨cs4, rfl, hsz4⟩ := okWide_struct Try.underlying30 (hval 4 30 v4 rfl rfl)
  obtain ⟨a5, rfl, rfl, rfl⟩ := open_bool Try.underlying4 (hval 5 4 v5 rfl rfl) h5
  have k3 := h3
  have k4 := h4
  have lt3 : ∀ x ∈ p3, x.block < W.heap.size := by obtain ⟨m, hm⟩ := k3; exact DataW.trod_lt m _ _ _ hm
  have lt4 : ∀ x ∈ p4, x.block < W.heap.size := by obtain ⟨m, hm⟩ := k4; exact DataW.trod_lt m _ _ _ hm
  obtain ⟨g, eg, cg⟩ : ∃ g : PlaneD, cs3.toList = g.cells ∧ g.Came W := by
    obtain ⟨fuel, hf⟩ := h3
    exact open_plane (by simpa [Value.cells] using hf)
  obtain ⟨k, ek, ck⟩ : ∃ k : PlaneD, cs4.toList = k.cells ∧ k.Came W := by
    obtain ⟨fuel, hf⟩ := h4
    exact open_plane (by simpa [Value.cells] using hf)
  obtain rfl : cs3 = #[.slice g.a g.n g.c, .int .i64 g.pw, .int .i64 g.ph, .int .i64 g.ps, .int .i64 g.px, .int .i64 g.py] := by cases cs3; simpa [PlaneD.cells] using eg
  obtain rfl : cs4 = #[.slice k.a k.n k.c, .int .i64 k.pw, .int .i64 k.ph, .int .i64 k.ps, .int .i64 k.px, .int .i64 k.py] := by cases cs4; simpa [PlaneD.cells] using ek
  clear hA0 hval0
  refine (walk a0 a1 a2 w0 g k a5 W cg ck).mono fun e W' ⟨he, bel⟩ => ?_
  subst he
  exact ⟨_, rfl, _, _, _, [], _, [], hW', trodAll_mk1 (shut_bool Try.underlying4 _), (trodAll_cons_mk (shut_int Try.underlying5 w0) (trodAll_cons_mk (shut_int Try.underlying3 w1) (trodAll_cons_mk (shut_int Try.underlying3 w2)
    (trodAll_cons_mk (Below.trod laidOut (by kernel_rfl) (of_decide_eq_true (by kernel_rfl)) k3 bel lt3) (trodAll_cons_mk (Below.trod laidOut (by kernel_rfl) (of_decide_eq_true (by kernel_rfl)) k4 bel lt4) (trodAll_cons_mk (shut_bool Try.underlying4 _) trodAll_mk0)))))), rfl, bel.frame _, fun h => by cases h⟩

theorem over : Rows.fnToYCbCrKeepsGreyNeutralRow.holds Try.pinned (OpenSpec.ofChange Rows.fnToYCbCrKeepsGreyNeutralSpec) :=
  OpenClaim.holds_of_wide 6 Try.f6 rfl rfl rfl rfl rfl rfl rfl ⟨rfl, rfl, rfl, rfl, rfl⟩ rfl rfl rfl rfl rfl (by kernel_rfl) Try.func6 (by kernel_rfl)
    (of_decide_eq_true (by kernel_rfl)) (by unfold Func.isWrapper; first | (rw [if_pos (by decide +kernel)]; kernel_rfl) | (rw [if_neg (by decide +kernel)]; exact ⟨rfl, rfl⟩))
    (fun os started H enc _ => lifted os started H enc)

/-- THE STATEMENT. -/
theorem proved : Rows.FnToYCbCrKeepsGreyNeutralSaid := over
end Go.Proofs.Qxb6605972a.fnToYCbCrKeepsGreyNeutral
