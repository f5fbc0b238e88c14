/-
  SEAT b6608524a: ZZpieces.
-/
import Derived.Test.Qxb6608524aClone
import Derived.Deep.RegionHeld3
namespace Go.Proofs.Qxb6608524a
open Go.RowKit

theorem Try.info53 : (Try.prog.info? 53).map (fun i => (i.zero, i.size, i.bytes)) = some (some (.agg #[.int .i64 0, .int .i64 0, .int .i64 0, .int .i64 0, .int .u8 0, .int .u8 0, .int .i8 0, .int .i8 0, .int .i32 0, .slice none 0 0, .int .i64 0, .float .f64 0, .pointer none]), 13, 88) := by kernel_rfl

/-- 'make([]piece, n)'. -/
theorem run_make13 (n : Nat) (hn : n ≤ 1048576) (w : World) :
    (Instr.makeSlice 38 (.int .i64 (n : Int)) (.int .i64 (n : Int))).run Try.prog w = .ok (.slice (some ⟨w.heap.size, 0, none⟩) n n) (w.alloc (.cells (madeCells #[.int .i64 0, .int .i64 0, .int .i64 0, .int .i64 0, .int .u8 0, .int .u8 0, .int .i8 0, .int .i8 0, .int .i32 0, .slice none 0 0, .int .i64 0, .float .f64 0, .pointer none] (n * 13)) 53)) := by
  obtain ⟨i, hi, hzz⟩ := Option.map_eq_some_iff.1 Try.info53
  simp only [Prod.mk.injEq] at hzz
  obtain ⟨hz, hs, hb⟩ := hzz
  have hr := run_make (P := Try.prog) w 38 53 i _ Try.underlying38 hi hz .i64 .i64 (n : Int) (n : Int) (by omega) (Int.le_refl _) (by rw [hb]; omega) (by omega)
  simp only [Int.toNat_natCast, hs, Value.cells] at hr
  exact hr

/-- m cells that may be written. -/
def Room (w : World) (b m : Nat) : Prop := ∀ j, j < m → (∃ v, w.cell? ⟨b, j, none⟩ = some v) ∧ w.frozen? ⟨b, j, none⟩ = false
theorem Room.made (w : World) (z : Array Value) (m : Nat) (t : TypeId) : Room (w.alloc (.cells (madeCells z m) t)) w.heap.size m := fun j hj => by
  refine ⟨?_, by simp⟩
  rw [World.cell?_alloc_new]
  exact ⟨_, Array.getElem?_eq_getElem (by rw [size_madeCells]; exact hj)⟩
theorem Room.setCells {w : World} {b m : Nat} (h : Room w b m) (b' o : Nat) (vs : List Value) : Room (w.setCells b' o vs) b m := fun j hj => by
  refine ⟨Option.isSome_iff_exists.1 (World.isSome_setCells _ _ _ _ _ (Option.isSome_iff_exists.2 (h j hj).1)), ?_⟩
  rw [World.frozen?_setCells]
  exact (h j hj).2
theorem Room.there {w : World} {b m o n : Nat} (h : Room w b m) (hn : o + n ≤ m) : w.there b o n := fun j hj => ⟨Option.isSome_iff_exists.2 (h (o + j) (by omega)).1, (h (o + j) (by omega)).2⟩
theorem below_setCells {B b : Nat} {a : World} (hb : B ≤ b) : ∀ (vs : List Value) (o : Nat) (w : World), Below B a w → Below B a (w.setCells b o vs)
  | [], _, _, h => h
  | v :: r, o, _, h => below_setCells hb r (o + 1) _ (h.setCell hb v)

/-- A piece's cells. -/
def cells13 (x e : Int) : List Value := [.int .i64 x, .int .i64 e, .int .i64 0, .int .i64 0, .int .u8 0, .int .u8 0, .int .i8 0, .int .i8 0, .int .i32 0, .slice none 0 0, .int .i64 0, .float .f64 0, .pointer none]
theorem cells13_one (x e : Int) : (cells13 x e).toArray.all (·.oneCell') = true := all_oneCell_toArray (by simp [cells13, Value.oneCell'])

/-- The pieces in memory. -/
def Pcs (w : World) (b n : Nat) (X E : Nat → Int) : Prop := ∀ j, j < n → w.cell? ⟨b, j * 13, none⟩ = some (.int .i64 (X j)) ∧ w.cell? ⟨b, j * 13 + 1, none⟩ = some (.int .i64 (E j))
theorem Pcs.later {w w' : World} {b n : Nat} {X E : Nat → Int} (h : Pcs w b n X E) (hb : Below w.heap.size w w') : Pcs w' b n X E := fun j hj => ⟨cell_later hb (h j hj).1, cell_later hb (h j hj).2⟩

/-- While they are laid. -/
structure PC (w wr : World) (n k : Nat) (X E : Nat → Int) : Prop where
  room : Room wr w.heap.size (n * 13)
  pcs : Pcs wr w.heap.size k X E
  below : Below w.heap.size w wr

theorem PC.step {w wr : World} {n k : Nat} {X E : Nat → Int} (h : PC w wr n k X E) (hk : k < n) : PC w (wr.setCells w.heap.size (k * 13) (cells13 (X k) (E k))) n (k + 1) X E := by
  refine ⟨h.room.setCells _ _ _, fun j hj => ?_, below_setCells (Nat.le_refl _) _ _ _ h.below⟩
  have hl : (cells13 (X k) (E k)).length = 13 := rfl
  by_cases e : j = k
  · subst e
    have ht := h.room.there (o := j * 13) (n := 13) (by omega)
    have h1 := World.cell?_setCells_in w.heap.size (cells13 (X j) (E j)) (j * 13) wr (fun i hi => (ht i hi).1)
    exact ⟨h1 0 (by omega), h1 1 (by omega)⟩
  · rw [World.cell?_setCells_out _ _ _ _ _ (fun _ _ => by show j * 13 < k * 13 ∨ k * 13 + _ ≤ j * 13; rw [hl]; omega), World.cell?_setCells_out _ _ _ _ _ (fun _ _ => by show j * 13 + 1 < k * 13 ∨ k * 13 + _ ≤ j * 13 + 1; rw [hl]; omega)]
    exact h.pcs j (by omega)
theorem PC.drewN {w wr : World} {n k : Nat} {X E : Nat → Int} (h : PC w wr n k X E) (m : Nat) : PC w (wr.drewN m) n k X E := ⟨h.room, h.pcs, below_drewN h.below _⟩

set_option linter.unusedSimpArgs false in
set_option maxHeartbeats 1000000 in
set_option maxRecDepth 1000000 in
/-- 'ZZpieces'. -/
theorem pieces_any (a a' : Option Addr) (n c c' : Nat) (X E : Nat → Int) (w : World) (hn : n ≤ 1048576) (hx : Ints w a n X) (he : Ints w a' n E) :
    Calls Try.prog 15 #[.slice a n c, .slice a' n c'] w fun e w' => e = .returned (.slice (some ⟨w.heap.size, 0, none⟩) n n) ∧ Pcs w' w.heap.size n X E ∧ Below w.heap.size w w' := by
  have hmk := run_make13 n hn
  have HX : Hid _ := hx
  have HE : Hid _ := he
  clear hx he
  go_enter Try.func15, Try.ntmps15
  go_wp2
  clear hmk
  go_loopg [12] n (fun g s12 wr => ∃ k : Nat, k ≤ n ∧ g = n - k ∧ s12 = .int .i64 k ∧ PC w wr n k X E)
  case atStart => exact ⟨0, Nat.zero_le _, rfl, rfl, Room.made _ _ _ _, fun j hj => absurd hj (Nat.not_lt_zero _), (Below.refl _ _).alloc (Nat.le_refl _) _⟩
  case round =>
    obtain ⟨k, hk, rfl, rfl, hC⟩ := hrel
    by_cases hlt : k < n
    · obtain ⟨bx, ox, rfl, cx⟩ := Ints.at HX.out hlt
      obtain ⟨be, oe, rfl, ce⟩ := Ints.at HE.out hlt
      have cx' := cell_later hC.below cx
      have ce' := cell_later hC.below ce
      have HST : Hid _ := (hC.drewN 1).step hlt
      have HR : Hid _ := hC.room.there (o := k * 13) (n := 13) (by omega)
      have hbx : bx ≠ w.heap.size := Nat.ne_of_lt (World.block_lt_of_cell? _ _ cx)
      have hbe : be ≠ w.heap.size := Nat.ne_of_lt (World.block_lt_of_cell? _ _ ce)
      clear cx ce
      generalize X k = xk at *
      generalize E k = ek at *
      go_wp2
      refine wp_region_noPanic ?_
      refine wp_region_held_drew (S := fun w' => w'.cell? ⟨bx, ox + k, none⟩ = some (.int .i64 xk) ∧ w'.cell? ⟨be, oe + k, none⟩ = some (.int .i64 ek)) (by kernel_rfl) ⟨cx', ce'⟩ (fun hHeld => ?_)
      refine wpAnyH_take (i := 0) (oi := ⟨some 15, .move (.tmp 5), 38, "zzexport.go:18", #[], none⟩) (v := .slice (some ⟨w.heap.size, 0, none⟩) n n) rfl (by kernel_rfl) (by kernel_rfl) (by kernel_rfl) (fun _ _ _ h => h) (Or.inl ⟨by rfl, fun w1 hSw => ?_⟩) (by assumption) ?_
      · go_simp
      simp only [Act.put, List.setIfInBounds_toArray, List.set_cons_zero, List.set_cons_succ]
      refine wpAnyH_take (i := 1) (oi := ⟨some 16, .move (.tmp 6), 3, "zzexport.go:18", #[], none⟩) (v := .int .i64 k) rfl (by kernel_rfl) (by kernel_rfl) (by kernel_rfl) (fun _ _ _ h => h) (Or.inl ⟨by rfl, fun w1 hSw => ?_⟩) (by assumption) ?_
      · go_simp
      simp only [Act.put, List.setIfInBounds_toArray, List.set_cons_zero, List.set_cons_succ]
      refine wpAnyH_take (i := 2) (oi := ⟨some 17, .move (.tmp 0), 28, "zzexport.go:18", #[], none⟩) (v := .slice (some ⟨bx, ox, none⟩) n c) rfl (by kernel_rfl) (by kernel_rfl) (by kernel_rfl) (fun _ _ _ h => h) (Or.inl ⟨by rfl, fun w1 hSw => ?_⟩) (by assumption) ?_
      · go_simp
      simp only [Act.put, List.setIfInBounds_toArray, List.set_cons_zero, List.set_cons_succ]
      refine wpAnyH_take (i := 3) (oi := ⟨some 18, .move (.tmp 6), 3, "zzexport.go:18", #[], none⟩) (v := .int .i64 k) rfl (by kernel_rfl) (by kernel_rfl) (by kernel_rfl) (fun _ _ _ h => h) (Or.inl ⟨by rfl, fun w1 hSw => ?_⟩) (by assumption) ?_
      · go_simp
      simp only [Act.put, List.setIfInBounds_toArray, List.set_cons_zero, List.set_cons_succ]
      refine wpAnyH_take (i := 4) (oi := ⟨some 19, .indexAddr 28 (.tmp 17) (.tmp 18), 0, "zzexport.go:18", #[⟨2, .data⟩, ⟨3, .data⟩], none⟩) (v := .pointer (some ⟨bx, ox + k, none⟩)) rfl (by kernel_rfl) (by kernel_rfl) (by kernel_rfl) (fun _ _ _ h => h) (Or.inl ⟨by rfl, fun w1 hSw => ?_⟩) (by assumption) ?_
      · go_simp
      simp only [Act.put, List.setIfInBounds_toArray, List.set_cons_zero, List.set_cons_succ]
      refine wpAnyH_take (i := 5) (oi := ⟨some 20, .load 3 (.tmp 19), 3, "zzexport.go:18", #[⟨4, .data⟩], none⟩) (v := .int .i64 xk) rfl (by kernel_rfl) (by kernel_rfl) (by kernel_rfl) (fun _ _ _ h => h) (Or.inl ⟨by rfl, fun w1 hSw => ?_⟩) (by assumption) ?_
      · go_simp
      simp only [Act.put, List.setIfInBounds_toArray, List.set_cons_zero, List.set_cons_succ]
      refine wpAnyH_take (i := 6) (oi := ⟨some 21, .move (.tmp 1), 28, "zzexport.go:18", #[], none⟩) (v := .slice (some ⟨be, oe, none⟩) n c') rfl (by kernel_rfl) (by kernel_rfl) (by kernel_rfl) (fun _ _ _ h => h) (Or.inl ⟨by rfl, fun w1 hSw => ?_⟩) (by assumption) ?_
      · go_simp
      simp only [Act.put, List.setIfInBounds_toArray, List.set_cons_zero, List.set_cons_succ]
      refine wpAnyH_take (i := 7) (oi := ⟨some 22, .move (.tmp 6), 3, "zzexport.go:18", #[], none⟩) (v := .int .i64 k) rfl (by kernel_rfl) (by kernel_rfl) (by kernel_rfl) (fun _ _ _ h => h) (Or.inl ⟨by rfl, fun w1 hSw => ?_⟩) (by assumption) ?_
      · go_simp
      simp only [Act.put, List.setIfInBounds_toArray, List.set_cons_zero, List.set_cons_succ]
      refine wpAnyH_take (i := 8) (oi := ⟨some 23, .indexAddr 28 (.tmp 21) (.tmp 22), 0, "zzexport.go:18", #[⟨6, .data⟩, ⟨7, .data⟩], none⟩) (v := .pointer (some ⟨be, oe + k, none⟩)) rfl (by kernel_rfl) (by kernel_rfl) (by kernel_rfl) (fun _ _ _ h => h) (Or.inl ⟨by rfl, fun w1 hSw => ?_⟩) (by assumption) ?_
      · go_simp
      simp only [Act.put, List.setIfInBounds_toArray, List.set_cons_zero, List.set_cons_succ]
      refine wpAnyH_take (i := 9) (oi := ⟨some 24, .load 3 (.tmp 23), 3, "zzexport.go:18", #[⟨8, .data⟩], none⟩) (v := .int .i64 ek) rfl (by kernel_rfl) (by kernel_rfl) (by kernel_rfl) (fun _ _ _ h => h) (Or.inl ⟨by rfl, fun w1 hSw => ?_⟩) (by assumption) ?_
      · go_simp
      simp only [Act.put, List.setIfInBounds_toArray, List.set_cons_zero, List.set_cons_succ]
      refine wpAnyH_take (i := 10) (oi := ⟨some 25, .build 53 #[(0, .tmp 20), (1, .tmp 24)], 53, "zzexport.go:18", #[⟨5, .data⟩, ⟨9, .data⟩], none⟩) (v := .agg #[.int .i64 xk, .int .i64 ek, .int .i64 0, .int .i64 0, .int .u8 0, .int .u8 0, .int .i8 0, .int .i8 0, .int .i32 0, .slice none 0 0, .int .i64 0, .float .f64 0, .pointer none]) rfl (by kernel_rfl) (by kernel_rfl) (by kernel_rfl) (fun _ _ _ h => h) (Or.inl ⟨by rfl, fun w1 hSw => ?_⟩) (by assumption) ?_
      · go_simp
      simp only [Act.put, List.setIfInBounds_toArray, List.set_cons_zero, List.set_cons_succ]
      refine wpAnyH_take (i := 11) (oi := ⟨some 26, .indexAddr 38 (.tmp 15) (.tmp 16), 0, "zzexport.go:18", #[⟨0, .data⟩, ⟨1, .data⟩, ⟨0, .phase⟩, ⟨1, .phase⟩, ⟨2, .phase⟩, ⟨3, .phase⟩, ⟨4, .phase⟩, ⟨5, .phase⟩, ⟨6, .phase⟩, ⟨7, .phase⟩, ⟨8, .phase⟩, ⟨9, .phase⟩, ⟨10, .phase⟩], none⟩) (v := .pointer (some ⟨w.heap.size, k * 13, none⟩)) rfl (by kernel_rfl) (by kernel_rfl) (by kernel_rfl) (fun _ _ _ h => h) (Or.inl ⟨by rfl, fun w1 hSw => ?_⟩) (by assumption) ?_
      · go_simp
      simp only [Act.put, List.setIfInBounds_toArray, List.set_cons_zero, List.set_cons_succ]
      refine wpAnyH_ready (rs := [12]) (by kernel_rfl) (by simp) ?_
      refine AllReadyH.cons (o := ⟨none, .store 53 (.tmp 26) (.tmp 25), 0, "zzexport.go:18", #[⟨11, .data⟩, ⟨10, .data⟩, ⟨0, .phase⟩, ⟨1, .phase⟩, ⟨2, .phase⟩, ⟨3, .phase⟩, ⟨4, .phase⟩, ⟨5, .phase⟩, ⟨6, .phase⟩, ⟨7, .phase⟩, ⟨8, .phase⟩, ⟨9, .phase⟩, ⟨10, .phase⟩], none⟩) rfl (fun K hK => ?_) AllReadyH.nil
      rw [if_pos (by rfl)]
      refine wp_store_mid 53 (.tmp 26) (.tmp 25) rfl w.heap.size (k * 13) (cells13 xk ek).toArray rfl rfl HR.out (by kernel_rfl) (cells13_one xk ek) ?_
      have hst := HST.out
      refine hK.out _ _ ⟨?_, ?_⟩ (fun _ => wpAnyH_done (by kernel_rfl) ?_ _)
      · rw [World.cell?_setCells_out _ _ _ _ _ (fun e _ => absurd e hbx)]; exact cx'
      · rw [World.cell?_setCells_out _ _ _ _ _ (fun e _ => absurd e hbe)]; exact ce'
      refine NoPanic.normal ?_
      clear hK hHeld HR
      change PC w (wr.drew.setCells w.heap.size (k * 13) (cells13 xk ek).toArray.toList) n (k + 1) X E at hst
      clear HST
      generalize wr.drew.setCells w.heap.size (k * 13) (cells13 xk ek).toArray.toList = W1 at *
      simp only [Act.put]
      go_wp2
      go_roundg (n - (k + 1))
      case measure => omega
      case rel => exact ⟨k + 1, by omega, rfl, by go_num, hst⟩
    · have hkk : k = n := by omega
      subst hkk
      go_wp2
      go_ret
      exact ⟨rfl, hC.pcs, hC.below⟩

end Go.Proofs.Qxb6608524a
