/-
  SEAT b6608524a: THE GRID: chunked.at, grid.shift, anchor.shifted, grid.start, ZZnewGrid, pieceStart.
-/
import Derived.Test.Qxb6608524aBase
import Derived.Deep.RegionHeld3
namespace Go.Proofs.Qxb6608524a
open Go.RowKit

/-- The blocks: bn slices of bytes. -/
def Blocks (w : World) (a : Option Addr) (bn : Nat) (N : Nat → Nat) (F : Nat → Nat → Int) : Prop :=
  ∀ i, i < bn → ∃ b o ai ci, a = some ⟨b, o, none⟩ ∧ w.cell? ⟨b, o + i, none⟩ = some (.slice ai (N i) ci) ∧ (ai = none → N i = 0 ∧ ci = 0) ∧ Seg w ai (N i) (fun j => .int .u8 (F i j))
theorem Blocks.below {w w' : World} {a : Option Addr} {bn : Nat} {N : Nat → Nat} {F : Nat → Nat → Int} (h : Blocks w a bn N F) (hb : Below w.heap.size w w') : Blocks w' a bn N F := fun i hi => by
  obtain ⟨b, o, ai, ci, h1, h2, h3, h4⟩ := h i hi
  exact ⟨b, o, ai, ci, h1, cell_later hb h2, h3, h4.below hb⟩

/-- One shift, in memory. -/
theorem Blocks.at {w : World} {a : Option Addr} {bn : Nat} {N : Nat → Nat} {F : Nat → Nat → Int} (h : Blocks w a bn N F) {i j : Nat} (hi : i < bn) (hj : j < N i) :
    ∃ b o b2 o2 ci, a = some ⟨b, o, none⟩ ∧ w.cell? ⟨b, o + i, none⟩ = some (.slice (some ⟨b2, o2, none⟩) (N i) ci) ∧ w.cell? ⟨b2, o2 + j, none⟩ = some (.int .u8 (F i j)) := by
  obtain ⟨b, o, ai, ci, h1, h2, _, h4⟩ := h i hi
  obtain ⟨b2, o2, rfl, h5⟩ := h4 j hj
  exact ⟨b, o, b2, o2, ci, h1, h2, h5⟩

/-- The grid in memory. -/
structure GridAt (w : World) (gb : Nat) (n size count width : Int) (ba : Option Addr) (bn bc : Nat) : Prop where
  c0 : w.cell? ⟨gb, 0, none⟩ = some (.int .i64 n)
  c1 : w.cell? ⟨gb, 1, none⟩ = some (.int .i64 size)
  c2 : w.cell? ⟨gb, 2, none⟩ = some (.int .i64 count)
  c3 : w.cell? ⟨gb, 3, none⟩ = some (.slice none 0 0)
  c4 : w.cell? ⟨gb, 4, none⟩ = some (.int .i64 width)
  c5 : w.cell? ⟨gb, 5, none⟩ = some (.int .i64 0)
  c6 : w.cell? ⟨gb, 6, none⟩ = some (.int .i64 0)
  c7 : w.cell? ⟨gb, 7, none⟩ = some (.bool false)
  c8 : w.cell? ⟨gb, 8, none⟩ = some (.bool false)
  c9 : w.cell? ⟨gb, 9, none⟩ = some (.slice ba bn bc)

theorem GridAt.later {w w' : World} {gb : Nat} {n size count width : Int} {ba : Option Addr} {bn bc : Nat} (h : GridAt w gb n size count width ba bn bc) (hb : Below w.heap.size w w') : GridAt w' gb n size count width ba bn bc :=
  ⟨cell_later hb h.c0, cell_later hb h.c1, cell_later hb h.c2, cell_later hb h.c3, cell_later hb h.c4, cell_later hb h.c5, cell_later hb h.c6, cell_later hb h.c7, cell_later hb h.c8, cell_later hb h.c9⟩

set_option maxRecDepth 100000 in
theorem grid_any (n size count width : Int) (ba : Option Addr) (bn bc : Nat) (w : World) :
    Calls Try.prog 13 #[.int .i64 n, .int .i64 size, .int .i64 count, .int .i64 width, .slice ba bn bc] w fun e w' =>
      e = .returned (.pointer (some ⟨w.heap.size, 0, none⟩)) ∧ GridAt w' w.heap.size n size count width ba bn bc ∧ Below w.heap.size w w' := by
  go_enter Try.func13, Try.ntmps13
  go_wp2
  go_ret
  refine ⟨rfl, ?_, (Below.refl _ _).alloc (Nat.le_refl _) _⟩
  constructor <;> simp

/-- 'chunked.at'. -/
theorem at_any (gb b o bn bc b2 o2 m ci : Nat) (k : Nat) (v : Int) (w : World) (hbn : k / 1024 < bn) (hm : k % 1024 < m)
    (h9 : w.cell? ⟨gb, 9, none⟩ = some (.slice (some ⟨b, o, none⟩) bn bc)) (h1 : w.cell? ⟨b, o + k / 1024, none⟩ = some (.slice (some ⟨b2, o2, none⟩) m ci)) (h2 : w.cell? ⟨b2, o2 + k % 1024, none⟩ = some (.int .u8 v)) (hk : k ≤ 9223372036854775806) :
    Calls Try.prog 35 #[.pointer (some ⟨gb, 9, none⟩), .int .i64 k] w fun e w' => e = .returned (.int .u8 v) ∧ w' = w := by
  have e1 : (k : Int) / 1024 < (bn : Int) := by omega
  have e2 : (k : Int) % 1024 < (m : Int) := by omega
  go_enter Try.func35, Try.ntmps35
  go_wp2
  go_ret
  exact ⟨rfl, rfl⟩

/-- 'grid.shift'. -/
theorem shift_any (gb b o bn bc b2 o2 m ci : Nat) (k : Nat) (v : Int) (w : World) (hv : 0 ≤ v ∧ v ≤ 255) (hbn : k / 1024 < bn) (hm : k % 1024 < m)
    (h9 : w.cell? ⟨gb, 9, none⟩ = some (.slice (some ⟨b, o, none⟩) bn bc)) (h1 : w.cell? ⟨b, o + k / 1024, none⟩ = some (.slice (some ⟨b2, o2, none⟩) m ci)) (h2 : w.cell? ⟨b2, o2 + k % 1024, none⟩ = some (.int .u8 v)) (hk : k ≤ 9223372036854775806) :
    Calls Try.prog 27 #[.pointer (some ⟨gb, 0, none⟩), .int .i64 k] w fun e w' => e = .returned (.int .i64 v) ∧ w' = w := by
  go_enter Try.func27, Try.ntmps27
  go_wp2_with fail
  refine (at_any gb b o bn bc b2 o2 m ci k v _ hbn hm h9 h1 h2 hk).mono ?_
  rintro e w' ⟨rfl, hw'⟩
  subst hw'
  go_wp2
  go_ret
  exact ⟨rfl, rfl⟩

theorem ret_i64 {k : IntKind} {a b : Int} (h : a = b) : Ending.returned (.int k a) = .returned (.int k b) := by rw [h]

/-- 'anchor.shifted'. -/
def shiftedV (n at_ shift width : Int) : Int := if wrap64 (n - width) < wrap64 (at_ + wrap64 (shift * width)) then wrap64 (n - width) else wrap64 (at_ + wrap64 (shift * width))
theorem shifted_any (width n at_ shift : Int) (w : World) :
    Calls Try.prog 26 #[.agg #[.slice none 0 0, .int .i64 width, .int .i64 0, .int .i64 0, .bool false, .bool false], .int .i64 n, .int .i64 at_, .int .i64 shift] w fun e w' =>
      e = .returned (.int .i64 (shiftedV n at_ shift width)) ∧ Below w.heap.size w w' := by
  go_enter Try.func26, Try.ntmps26
  go_wp2
  all_goals go_ret
  · exact ⟨ret_i64 (by unfold shiftedV; rw [if_pos h]), (Below.refl _ _).alloc (Nat.le_refl _) _⟩
  · exact ⟨ret_i64 (by unfold shiftedV; rw [if_neg (by omega)]), (Below.refl _ _).alloc (Nat.le_refl _) _⟩

/-- Where piece i starts. -/
def startV (n size count width : Int) (F : Nat → Nat → Int) (i : Int) : Int :=
  if i = 0 then 0 else if i = count then n else shiftedV n (wrap64 (i * size)) (F ((i - 1).toNat / 1024) ((i - 1).toNat % 1024)) width
/-- Is its shift held? -/
def Held (count : Int) (bn : Nat) (N : Nat → Nat) (i : Int) : Prop := i = 0 ∨ i = count ∨ ((i - 1).toNat / 1024 < bn ∧ (i - 1).toNat % 1024 < N ((i - 1).toNat / 1024))

set_option maxHeartbeats 2000000 in
/-- 'grid.start'. -/
theorem start_any (gb : Nat) (n size count width : Int) (ba : Option Addr) (bn bc : Nat) (N : Nat → Nat) (F : Nat → Nat → Int) (i : Int) (w : World) (hi0 : 0 ≤ i) (hi1 : i ≤ 9223372036854775807)
    (hg : GridAt w gb n size count width ba bn bc) (hB : Blocks w ba bn N F) (hF : ∀ a b, 0 ≤ F a b ∧ F a b ≤ 255) (hH : Held count bn N i) :
    Calls Try.prog 21 #[.pointer (some ⟨gb, 0, none⟩), .int .i64 i] w fun e w' => e = .returned (.int .i64 (startV n size count width F i)) ∧ Below w.heap.size w w' := by
  have c0 := hg.c0
  have c1 := hg.c1
  have c2 := hg.c2
  by_cases h0 : i = 0
  · subst h0
    have V : Hid (startV n size count width F 0 = 0) := by show startV n size count width F 0 = 0; unfold startV; rw [if_pos rfl]
    go_enter Try.func21, Try.ntmps21
    go_wp2
    go_ret
    exact ⟨ret_i64 V.out.symm, Below.refl _ _⟩
  · by_cases h1 : i = count
    · have V : Hid (startV n size count width F i = n) := by show startV n size count width F i = n; unfold startV; rw [if_neg h0, if_pos h1]
      have b0 : (i == 0) = false := by simp [h0]
      have b1 : (i == count) = true := by simp [h1]
      clear h0 h1
      go_enter Try.func21, Try.ntmps21
      go_wp2
      go_ret
      exact ⟨ret_i64 V.out.symm, Below.refl _ _⟩
    · obtain ⟨hl1, hl2⟩ : (i - 1).toNat / 1024 < bn ∧ (i - 1).toNat % 1024 < N ((i - 1).toNat / 1024) := by
        rcases hH with h | h | h
        · exact absurd h h0
        · exact absurd h h1
        · exact h
      obtain ⟨k, hk⟩ : ∃ k : Nat, (i - 1).toNat = k := ⟨_, rfl⟩
      have V : Hid (startV n size count width F i = shiftedV n (wrap64 (i * size)) (F (k / 1024) (k % 1024)) width) := by
        show startV n size count width F i = _
        unfold startV; rw [if_neg h0, if_neg h1, hk]
      rw [hk] at hl1 hl2
      have hkI : i - 1 = (k : Int) := by omega
      have hk1 : k ≤ 9223372036854775806 := by omega
      have hwk : IntKind.i64.wrap (k : Int) = (k : Int) := IntWalk.i64_in _ (by omega)
      obtain ⟨b, o, b2, o2, ci, rfl, e1, e2⟩ := hB.at hl1 hl2
      have hv := hF (k / 1024) (k % 1024)
      have b0 : (i == 0) = false := by simp [h0]
      have b1 : (i == count) = false := by simp [h1]
      have hi2 : 1 ≤ i := by omega
      have HKK : Hid (i - 1 = (k : Int)) := hkI
      have c3 := hg.c3
      have c4 := hg.c4
      have c5 := hg.c5
      have c6 := hg.c6
      have c7 := hg.c7
      have c8 := hg.c8
      have c9 := hg.c9
      generalize F (k / 1024) (k % 1024) = v at *
      generalize N (k / 1024) = m at *
      clear h0 h1 hH hB hF hk hg
      go_enter Try.func21, Try.ntmps21
      go_wp2
      go_region_held3 (fun w' => w'.cell? ⟨gb, 0, none⟩ = some (.int .i64 n) ∧ w'.cell? ⟨gb, 1, none⟩ = some (.int .i64 size) ∧ w'.cell? ⟨gb, 3, none⟩ = some (.slice none 0 0) ∧ w'.cell? ⟨gb, 4, none⟩ = some (.int .i64 width) ∧ w'.cell? ⟨gb, 5, none⟩ = some (.int .i64 0) ∧ w'.cell? ⟨gb, 6, none⟩ = some (.int .i64 0) ∧
          w'.cell? ⟨gb, 7, none⟩ = some (.bool false) ∧ w'.cell? ⟨gb, 8, none⟩ = some (.bool false) ∧ w'.cell? ⟨gb, 9, none⟩ = some (.slice (some ⟨b, o, none⟩) bn bc) ∧ w'.cell? ⟨b, o + k / 1024, none⟩ = some (.slice (some ⟨b2, o2, none⟩) m ci) ∧ w'.cell? ⟨b2, o2 + k % 1024, none⟩ = some (.int .u8 v))
        (first | (refine ⟨?_, ?_, ?_, ?_, ?_, ?_, ?_, ?_, ?_, ?_, ?_⟩ <;> (go_keep; done)) | (refine ⟨?_, ?_, ?_, ?_, ?_, ?_, ?_, ?_, ?_, ?_, ?_⟩ <;> (refine cell_later hb6 ?_; go_keep; done)))
        (first | (go_at_call 27; refine (shift_any gb b o bn bc b2 o2 m ci k v _ hv hl1 hl2 (by assumption) (by assumption) (by assumption) hk1).mono ?_; rintro e w' ⟨rfl, hw'⟩; subst hw') | (go_at_call 26; refine (shifted_any _ _ _ _ _).mono ?_; rintro e w6 ⟨rfl, hb6⟩))
      go_wp2
      go_ret
      exact ⟨ret_i64 (by rw [V.out, IntWalk.i64_left]), hb6.os, hb6.tape, hb6.output, hb6.size, hb6.block⟩

end Go.Proofs.Qxb6608524a
