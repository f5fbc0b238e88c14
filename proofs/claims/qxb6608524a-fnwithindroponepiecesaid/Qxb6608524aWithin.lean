/-
  SEAT b6608524a: grid.within, its closure, ZZwithin.
-/
import Derived.Test.Qxb6608524aPieces
namespace Go.Proofs.Qxb6608524a
open Go.RowKit

set_option maxHeartbeats 1000000 in
/-- The closure: does piece j end behind s? -/
theorem close_any (L XB pb n c j : Nat) (s ej : Int) (w : World) (hj : j < n)
    (hL : w.cell? ⟨L, 0, none⟩ = some (.slice (some ⟨pb, 0, none⟩) n c)) (hX : w.cell? ⟨XB, 0, none⟩ = some (.int .i64 s)) (hE : w.cell? ⟨pb, j * 13 + 1, none⟩ = some (.int .i64 ej)) :
    Calls Try.prog 23 #[.int .i64 j, .pointer (some ⟨L, 0, none⟩), .pointer (some ⟨XB, 0, none⟩)] w fun e w' => e = .returned (.bool (decide (s < ej))) ∧ ∃ q, w' = w.drewN q := by
  have hi1 : (j : Int) < (n : Int) := by omega
  go_enter Try.func23, Try.ntmps23
  go_wp2
  go_quiet (fail)
  go_wp2
  go_ret
  exact ⟨rfl, _, rfl⟩

open Classical in
set_option maxHeartbeats 2000000 in
/-- 'grid.within'. -/
theorem within_any (gb : Nat) (n size count width : Int) (ba : Option Addr) (bn bc : Nat) (N : Nat → Nat) (F : Nat → Nat → Int) (i : Int) (pb m c : Nat) (X E : Nat → Int) (w : World) (hi0 : 0 ≤ i) (hi1 : i ≤ 9223372036854775807)
    (hg : GridAt w gb n size count width ba bn bc) (hB : Blocks w ba bn N F) (hF : ∀ a b, 0 ≤ F a b ∧ F a b ≤ 255) (hH : Held count bn N i)
    (hm : m ≤ 1048576) (hP : Pcs w pb m X E) (hO : Pl.Ord X E m) :
    Calls Try.prog 19 #[.pointer (some ⟨gb, 0, none⟩), .slice (some ⟨pb, 0, none⟩) m c, .int .i64 i] w fun e w' => e = .returned (.bool (decide (Pl.Cov X E m (startV n size count width F i)))) ∧ Below w.heap.size w w' := by
  have HP : Hid _ := hP
  have HG : Hid _ := hg
  have HB : Hid _ := hB
  have HO : Hid _ := hO
  have HH : Hid _ := hH
  have HF : Hid _ := hF
  clear hP hg hB hO hH hF
  obtain ⟨s, hs⟩ : ∃ s, startV n size count width F i = s := ⟨_, rfl⟩
  have HS : Hid (startV n size count width F i = s) := hs
  rw [hs]
  clear hs
  go_enter Try.func19, Try.ntmps19
  go_wp2_with fail
  have hb1 : Below w.heap.size w (w.alloc (.cells #[.slice (some ⟨pb, 0, none⟩) m c] 38)) := (Below.refl _ _).alloc (Nat.le_refl _) _
  refine (start_any gb n size count width ba bn bc N F i _ hi0 hi1 (HG.out.later hb1) (Blocks.below HB.out hb1) HF.out HH.out).mono ?_
  rintro e w2 ⟨he, hb2⟩
  rw [HS.out] at he
  subst he
  have hbW : Below w.heap.size w w2 := hb1.trans (hb2.mono (by simp))
  have cL : w2.cell? ⟨w.heap.size, 0, none⟩ = some (.slice (some ⟨pb, 0, none⟩) m c) := cell_later hb2 (by simp)
  have hlt : w.heap.size < w2.heap.size := World.block_lt_of_cell? _ _ cL
  clear hb1 hb2
  go_wp2_with fail
  have hb3 : Below w.heap.size w (w2.alloc (.cells #[.int .i64 s] 3)) := hbW.alloc (by omega) _
  have cL3 := cell_later ((Below.refl w2.heap.size w2).alloc (Nat.le_refl _) (.cells #[.int .i64 s] 3)) cL
  have cX3 : (w2.alloc (.cells #[.int .i64 s] 3)).cell? ⟨w2.heap.size, 0, none⟩ = some (.int .i64 s) := by simp
  have P3 : Hid (Pcs (w2.alloc (.cells #[.int .i64 s] 3)) pb m X E) := Pcs.later HP.out hb3
  clear cL hbW
  generalize w2.alloc (.cells #[.int .i64 s] 3) = w3 at *
  refine (search_any #[.pointer (some ⟨w.heap.size, 0, none⟩), .pointer (some ⟨w2.heap.size, 0, none⟩)] m (fun j => decide (s < E j)) w3 (by omega)
    (fun q j hj => (close_any w.heap.size w2.heap.size pb m c j s (E j) (w3.drewN q) hj cL3 cX3 (P3.out j hj).2).mono (fun e w' ⟨he, q', hw⟩ => ⟨he, q + q', by rw [hw, World.drewN_drewN]⟩))
    (fun a b hab hbm h => by
      have h1 := of_decide_eq_true h
      have h2 := Pl.Ord.mono HO.out a b hab hbm
      exact decide_eq_true (by omega))).mono ?_
  rintro e w4 ⟨j, rfl, hj, hlo, hhi, q, rfl⟩
  have hW : Hid ((j < m ∧ X j ≤ s) ↔ Pl.Cov X E m s) := Pl.within_iff HO.out s j hj (fun t ht h => by
    have := hlo t ht
    rw [decide_eq_true h] at this
    cases this) (fun t h1 h2 => of_decide_eq_true (hhi t h1 h2))
  clear hlo hhi
  by_cases hjm : j < m
  · have cx := (P3.out j hjm).1
    have hi2 : (j : Int) < (m : Int) := by omega
    generalize hx : X j = xj at *
    by_cases hxs : xj ≤ s
    · have F : Hid (decide (Pl.Cov X E m s) = true) := decide_eq_true (hW.out.1 ⟨hjm, hxs⟩)
      go_wp2
      go_quiet (fail)
      go_wp2
      go_ret
      exact ⟨ret_bool F.out.symm, below_drewN (below_drewN hb3 _) _⟩
    · have F : Hid (decide (Pl.Cov X E m s) = false) := decide_eq_false (fun h => hxs (hW.out.2 h).2)
      go_wp2
      go_quiet (fail)
      go_wp2
      go_ret
      exact ⟨ret_bool (by rw [F.out]; exact decide_eq_false (by omega)), below_drewN (below_drewN hb3 _) _⟩
  · have F : Hid (decide (Pl.Cov X E m s) = false) := decide_eq_false (fun h => hjm (hW.out.2 h).1)
    have hi2 : ¬ (j : Int) < (m : Int) := by omega
    go_wp2
    go_quiet (fail)
    go_wp2
    go_ret
    exact ⟨ret_bool F.out.symm, below_drewN (below_drewN hb3 _) _⟩

open Classical in
/-- 'ZZwithin'. -/
theorem zzwithin_any (gb : Nat) (n size count width : Int) (ba : Option Addr) (bn bc : Nat) (N : Nat → Nat) (F : Nat → Nat → Int) (i : Int) (pb m c : Nat) (X E : Nat → Int) (w : World) (hi0 : 0 ≤ i) (hi1 : i ≤ 9223372036854775807)
    (hg : GridAt w gb n size count width ba bn bc) (hB : Blocks w ba bn N F) (hF : ∀ a b, 0 ≤ F a b ∧ F a b ≤ 255) (hH : Held count bn N i)
    (hm : m ≤ 1048576) (hP : Pcs w pb m X E) (hO : Pl.Ord X E m) :
    Calls Try.prog 14 #[.pointer (some ⟨gb, 0, none⟩), .slice (some ⟨pb, 0, none⟩) m c, .int .i64 i] w fun e w' => e = .returned (.bool (decide (Pl.Cov X E m (startV n size count width F i)))) ∧ Below w.heap.size w w' := by
  have C := within_any gb n size count width ba bn bc N F i pb m c X E w hi0 hi1 hg hB hF hH hm hP hO
  clear hg hB hF hH hP hO
  generalize decide (Pl.Cov X E m (startV n size count width F i)) = r at *
  go_enter Try.func14, Try.ntmps14
  go_wp2_with fail
  refine C.mono ?_
  rintro e w2 ⟨rfl, hb2⟩
  go_wp2
  go_ret
  exact ⟨rfl, hb2⟩

end Go.Proofs.Qxb6608524a
