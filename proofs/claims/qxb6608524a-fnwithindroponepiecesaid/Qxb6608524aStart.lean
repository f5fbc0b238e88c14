/-
  SEAT b6608524a: pieceStart.
-/
import Derived.Test.Qxb6608524aGrid
namespace Go.Proofs.Qxb6608524a
open Go.RowKit

theorem ret_two {a b : Int} {c : Bool} (h : a = b) : Ending.returned (.tuple #[.int .i64 a, .bool c]) = .returned (.tuple #[.int .i64 b, .bool c]) := by rw [h]

set_option maxHeartbeats 2000000 in
/-- 'pieceStart', where the shift is held. -/
theorem piece_held (n size count width : Int) (ba : Option Addr) (bn bc : Nat) (N : Nat → Nat) (F : Nat → Nat → Int) (i : Int) (w : World) (hi0 : 0 ≤ i) (hi1 : i ≤ 9223372036854775807)
    (hB : Blocks w ba bn N F) (hF : ∀ a b, 0 ≤ F a b ∧ F a b ≤ 255) (hH : Held count bn N i) :
    Calls Try.prog 11 #[.int .i64 n, .int .i64 size, .int .i64 count, .int .i64 width, .slice ba bn bc, .int .i64 i] w fun e w' => e = .returned (.tuple #[.int .i64 (startV n size count width F i), .bool true]) ∧ w' = w := by
  by_cases h0 : i = 0
  · subst h0
    have V : Hid (startV n size count width F 0 = 0) := by show startV n size count width F 0 = 0; unfold startV; rw [if_pos rfl]
    go_enter Try.func11, Try.ntmps11
    go_wp2
    go_ret2
    rw [V.out]
    exact ⟨rfl, rfl⟩
  · by_cases h1 : i = count
    · have V : Hid (startV n size count width F i = n) := by show startV n size count width F i = n; unfold startV; rw [if_neg h0, if_pos h1]
      have b0 : (i == 0) = false := by simp [h0]
      have b1 : (i == count) = true := by simp [h1]
      clear h0 h1
      go_enter Try.func11, Try.ntmps11
      go_wp2
      go_ret2
      rw [V.out]
      exact ⟨rfl, rfl⟩
    · obtain ⟨hl1, hl2⟩ : (i - 1).toNat / 1024 < bn ∧ (i - 1).toNat % 1024 < N ((i - 1).toNat / 1024) := by
        rcases hH with h | h | h
        · exact absurd h h0
        · exact absurd h h1
        · exact h
      obtain ⟨k, hk⟩ : ∃ k : Nat, (i - 1).toNat = k := ⟨_, rfl⟩
      have V : Hid (startV n size count width F i = shiftedV n (wrap64 (i * size)) (F (k / 1024) (k % 1024)) width) := by
        show startV n size count width F i = _
        unfold startV; rw [if_neg h0, if_neg h1, hk]
      rw [hk] at hl1 hl2
      have hkI : i - 1 = (k : Int) := by omega
      have hk1 : k ≤ 9223372036854775806 := by omega
      have hwk : IntKind.i64.wrap (k : Int) = (k : Int) := IntWalk.i64_in _ (by omega)
      obtain ⟨b, o, b2, o2, ci, rfl, e1, e2⟩ := hB.at hl1 hl2
      have hv := hF (k / 1024) (k % 1024)
      have b0 : (i == 0) = false := by simp [h0]
      have b1 : (i == count) = false := by simp [h1]
      have q1 : (k : Int) / 1024 < (bn : Int) := by omega
      have q2 : (k : Int) % 1024 < (N (k / 1024) : Int) := by omega
      have hi2 : 1 ≤ i := by omega
      generalize F (k / 1024) (k % 1024) = v at *
      generalize N (k / 1024) = m at *
      clear h0 h1 hH hB hF hk
      go_enter Try.func11, Try.ntmps11
      go_wp2
      all_goals go_ret2
      · exact ⟨ret_two (by rw [V.out]; unfold shiftedV; rw [if_pos (by assumption)]), rfl⟩
      · exact ⟨ret_two (by rw [V.out]; unfold shiftedV; rw [if_neg (by omega)]), rfl⟩

set_option maxHeartbeats 2000000 in
/-- 'pieceStart', where the shift is not held. -/
theorem piece_not (n size count width : Int) (ba : Option Addr) (bn bc : Nat) (N : Nat → Nat) (F : Nat → Nat → Int) (i : Int) (w : World) (hi0 : 0 ≤ i) (hi1 : i ≤ 9223372036854775807)
    (hB : Blocks w ba bn N F) (hH : ¬ Held count bn N i) :
    Calls Try.prog 11 #[.int .i64 n, .int .i64 size, .int .i64 count, .int .i64 width, .slice ba bn bc, .int .i64 i] w fun e w' => e = .returned (.tuple #[.int .i64 0, .bool false]) ∧ w' = w := by
  have h0 : ¬ i = 0 := fun h => hH (Or.inl h)
  have h1 : ¬ i = count := fun h => hH (Or.inr (Or.inl h))
  have h2 : ¬ ((i - 1).toNat / 1024 < bn ∧ (i - 1).toNat % 1024 < N ((i - 1).toNat / 1024)) := fun h => hH (Or.inr (Or.inr h))
  obtain ⟨k, hk⟩ : ∃ k : Nat, (i - 1).toNat = k := ⟨_, rfl⟩
  rw [hk] at h2
  have hkI : i - 1 = (k : Int) := by omega
  have hk1 : k ≤ 9223372036854775806 := by omega
  have hwk : IntKind.i64.wrap (k : Int) = (k : Int) := IntWalk.i64_in _ (by omega)
  have b0 : (i == 0) = false := by simp [h0]
  have b1 : (i == count) = false := by simp [h1]
  have hi2 : 1 ≤ i := by omega
  by_cases hl1 : k / 1024 < bn
  · have hl2 : ¬ k % 1024 < N (k / 1024) := fun h => h2 ⟨hl1, h⟩
    obtain ⟨b, o, ai, ci, rfl, e1, _, _⟩ := hB (k / 1024) hl1
    have q1 : (k : Int) / 1024 < (bn : Int) := by omega
    have q2 : ¬ (k : Int) % 1024 < (N (k / 1024) : Int) := by omega
    generalize N (k / 1024) = m at *
    clear h0 h1 hH hB hk h2
    go_enter Try.func11, Try.ntmps11
    go_wp2
    go_ret2
    exact ⟨rfl, rfl⟩
  · have q1 : ¬ (k : Int) / 1024 < (bn : Int) := by omega
    clear h0 h1 hH hB hk h2
    go_enter Try.func11, Try.ntmps11
    go_wp2
    go_ret2
    exact ⟨rfl, rfl⟩

end Go.Proofs.Qxb6608524a
