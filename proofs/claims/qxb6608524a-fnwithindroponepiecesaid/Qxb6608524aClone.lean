/-
  SEAT b6608524a: cloneBlocks.
-/
import Derived.Test.Qxb6608524aGrid
import Derived.Deep.DeepCutAuto
namespace Go.Proofs.Qxb6608524a
open Go.RowKit

theorem Try.info5 : (Try.prog.info? 5).map (fun i => (i.zero, i.size, i.bytes)) = some (some (.int .u8 0), 1, 1) := by kernel_rfl
theorem Try.info30 : (Try.prog.info? 30).map (fun i => (i.zero, i.size, i.bytes)) = some (some (.slice none 0 0), 1, 24) := by kernel_rfl

/-- A row of integers of which the first k are told by f, the others zero. -/
def upTo (kd : IntKind) (f : Nat → Int) (k : Nat) : Nat → Value := fun i => if i < k then .int kd (f i) else .int kd 0

theorem rowIs_start (w : World) (kd : IntKind) (f : Nat → Int) (n : Nat) (t : TypeId) : (w.alloc (.cells (madeCells #[.int kd 0] n) t)).rowIs w.heap.size t n (upTo kd f 0) :=
  (World.rowIs_made w (.int kd 0) n t).congr (fun i _ => by simp [upTo])

theorem rowIs_step {w : World} {b : Nat} {t : TypeId} {n : Nat} {kd : IntKind} {f : Nat → Int} {k : Nat} (h : w.rowIs b t n (upTo kd f k)) {v : Int} (hv : v = f k) :
    (w.setCell ⟨b, k, none⟩ (.int kd v)).rowIs b t n (upTo kd f (k + 1)) := by
  refine (h.set k _).congr (fun i _ => ?_)
  unfold upTo
  by_cases e : i = k
  · subst e
    rw [if_pos rfl, if_pos (by omega), hv]
  · rw [if_neg e]
    by_cases hlt : i < k
    · rw [if_pos hlt, if_pos (by omega)]
    · rw [if_neg hlt, if_neg (by omega)]

theorem rowIs_later {w w' : World} {b : Nat} {t : TypeId} {n : Nat} {f : Nat → Value} (h : w.rowIs b t n f) (hb : Below w.heap.size w w') : w'.rowIs b t n f := h.of_block (hb.block _ h.lt)

/-- While the blocks are cloned. -/
structure BC (w wr : World) (bn q : Nat) (N : Nat → Nat) (F : Nat → Nat → Int) (D : Nat → Option Addr × Nat) : Prop where
  row : wr.rowIs w.heap.size 30 bn (fun j => if j < q then .slice (D j).1 (N j) (D j).2 else .slice none 0 0)
  segs : ∀ j, j < q → ((D j).1 = none → N j = 0 ∧ (D j).2 = 0) ∧ Seg wr (D j).1 (N j) (fun t => .int .u8 (F j t)) ∧ ∀ b o, (D j).1 = some ⟨b, o, none⟩ → w.heap.size < b
  below : Below w.heap.size w wr

theorem bc_start (w : World) (bn : Nat) (N : Nat → Nat) (F : Nat → Nat → Int) : BC w (w.alloc (.cells (madeCells #[.slice none 0 0] bn) 30)) bn 0 N F (fun _ => (none, 0)) :=
  ⟨(World.rowIs_made w (.slice none 0 0) bn 30).congr (fun i _ => by simp), fun j hj => absurd hj (Nat.not_lt_zero _), (Below.refl _ _).alloc (Nat.le_refl _) _⟩

theorem BC.blocks {w wr : World} {bn : Nat} {N : Nat → Nat} {F : Nat → Nat → Int} {D : Nat → Option Addr × Nat} (h : BC w wr bn bn N F D) : Blocks wr (some ⟨w.heap.size, 0, none⟩) bn N F := fun i hi => by
  refine ⟨w.heap.size, 0, (D i).1, (D i).2, rfl, ?_, (h.segs i hi).1, (h.segs i hi).2.1⟩
  have := h.row.cell hi
  rw [if_pos hi] at this
  rw [Nat.zero_add]
  exact this

/-- A nil block more. -/
theorem BC.skip {w wr : World} {bn q : Nat} {N : Nat → Nat} {F : Nat → Nat → Int} {D : Nat → Option Addr × Nat} (h : BC w wr bn q N F D) (h0 : N q = 0) : BC w wr bn (q + 1) N F (fun j => if j = q then (none, 0) else D j) := by
  refine ⟨h.row.congr (fun j _ => ?_), fun j hj => ?_, h.below⟩
  · by_cases e : j = q
    · subst e; rw [if_neg (by omega), if_pos (by omega), if_pos rfl, h0]
    · rw [if_neg e]
      by_cases hlt : j < q
      · rw [if_pos hlt, if_pos (by omega)]
      · rw [if_neg hlt, if_neg (by omega)]
  · by_cases e : j = q
    · subst e
      rw [if_pos rfl]
      exact ⟨fun _ => ⟨h0, rfl⟩, fun t ht => absurd ht (by omega), (fun b o hb => by cases hb)⟩
    · rw [if_neg e]; exact h.segs j (by omega)

/-- A block more. -/
theorem BC.step {w wr wx : World} {bn q : Nat} {N : Nat → Nat} {F : Nat → Nat → Int} {D : Nat → Option Addr × Nat} (h : BC w wr bn q N F D) (hx : wx.rowIs wr.heap.size 5 (N q) (upTo .u8 (F q) (N q))) (hb : Below wr.heap.size wr wx) :
    BC w (wx.setCell ⟨w.heap.size, q, none⟩ (.slice (some ⟨wr.heap.size, 0, none⟩) (N q) (N q))) bn (q + 1) N F (fun j => if j = q then (some ⟨wr.heap.size, 0, none⟩, N q) else D j) := by
  have hlt := h.row.lt
  refine ⟨((rowIs_later h.row hb).set q _).congr (fun j _ => ?_), fun j hj => ?_, (h.below.trans (hb.mono (by omega))).setCell (Nat.le_refl _) _⟩
  · by_cases e : j = q
    · subst e; rw [if_pos rfl, if_pos (by omega), if_pos rfl]
    · rw [if_neg e, if_neg e]
      by_cases hlt : j < q
      · rw [if_pos hlt, if_pos (by omega)]
      · rw [if_neg hlt, if_neg (by omega)]
  · by_cases e : j = q
    · subst e
      rw [if_pos rfl]
      refine ⟨(fun hn => by cases hn), ?_, (fun b o hb => by injection hb with hb; injection hb with hb; omega)⟩
      have hs : Seg wx (some ⟨wr.heap.size, 0, none⟩) (N j) (fun t => .int .u8 (F j t)) := Seg.of_row (hx.congr (fun i hi => by unfold upTo; rw [if_pos hi]))
      intro t ht
      obtain ⟨b, o, hbo, hc⟩ := hs t ht
      refine ⟨b, o, hbo, ?_⟩
      injection hbo with hbo
      injection hbo with hbo
      rw [World.cell?_setCell_other _ _ _ _ (fun e => by injection e; omega)]
      exact hc
    · rw [if_neg e]
      obtain ⟨h1, h2, h3⟩ := h.segs j (by omega)
      refine ⟨h1, fun t ht => ?_, h3⟩
      obtain ⟨b, o, hbo, hc⟩ := h2 t ht
      refine ⟨b, o, hbo, ?_⟩
      have := h3 b o hbo
      rw [World.cell?_setCell_other _ _ _ _ (fun e => by injection e; omega)]
      exact cell_later hb hc

theorem cloneBlocks_nil (w : World) : Calls Try.prog 12 #[.slice none 0 0] w fun e w' => e = .returned (.slice none 0 0) ∧ w' = w := by
  have hnil := fun wx => Lib.run_eql_slice_nil (P := Try.prog) wx 27 30 none 0 0 0 0 Try.underlying27
  go_enter Try.func12, Try.ntmps12
  go_wp2
  go_ret
  exact ⟨rfl, rfl⟩

set_option maxHeartbeats 4000000 in
set_option maxRecDepth 1000000 in
theorem cloneBlocks_some (ad : Addr) (bn bc : Nat) (N : Nat → Nat) (F : Nat → Nat → Int) (w : World) (hbn : bn ≤ 1048576) (hN : ∀ i, i < bn → N i ≤ 1048576) (hB : Blocks w (some ad) bn N F) :
    Calls Try.prog 12 #[.slice (some ad) bn bc] w fun e w' => e = .returned (.slice (some ⟨w.heap.size, 0, none⟩) bn bn) ∧ ∃ D, BC w w' bn bn N F D := by
  have hnil := fun wx => Lib.run_eql_slice_nil (P := Try.prog) wx 27 30 (some ad) bn bc 0 0 Try.underlying27
  have hmk := run_make_row' (P := Try.prog) 27 30 (.slice none 0 0) 24 Try.underlying27 Try.info30 rfl .i64 .i64 bn (by omega) (by omega)
  have HB : Hid _ := hB
  have HN : Hid _ := hN
  clear hB hN
  go_enter Try.func12, Try.ntmps12
  go_wp2
  clear hmk hnil
  go_loopg [4] bn (fun g s4 wr => ∃ (q : Nat) (D : Nat → Option Addr × Nat), q ≤ bn ∧ g = bn - q ∧ s4 = .int .i64 q ∧ BC w wr bn q N F D)
  case atStart => exact ⟨0, _, Nat.zero_le _, rfl, rfl, bc_start _ _ _ _⟩
  case round =>
    obtain ⟨q, D, hq, rfl, rfl, hC⟩ := hrel
    by_cases hlt : q < bn
    · obtain ⟨b', o', ai, ci, e1, c0, hni, hs⟩ := Blocks.below HB.out hC.below q hlt
      injection e1 with e1
      subst e1
      have hn := HN.out q hlt
      have HS : Hid _ := hs
      clear hs
      cases ai with
      | none =>
        have h0 := (hni rfl).1
        have hneq := fun wx l c => run_neq_slice_nil_any (P := Try.prog) wx 30 5 none l c 0 0 Try.underlying30
        clear hni
        go_wp2
        go_roundg (bn - (q + 1))
        case measure => omega
        case rel => exact ⟨q + 1, _, by omega, rfl, by go_num, hC.skip h0⟩
      | some ad' =>
        have hneq := fun wx l c => run_neq_slice_nil_any (P := Try.prog) wx 30 5 (some ad') l c 0 0 Try.underlying30
        have hmk2 := run_make_row' (P := Try.prog) 30 5 (.int .u8 0) 1 Try.underlying30 Try.info5 rfl .i64 .i64 (N q) (by omega) (by omega)
        clear hni
        go_wp2
        clear hmk2 hneq
        go_loopg [6] (N q) (fun g s6 wx => ∃ t : Nat, t ≤ N q ∧ g = N q - t ∧ s6 = .int .i64 t ∧ wx.rowIs wr.heap.size 5 (N q) (upTo .u8 (F q) t) ∧ Below wr.heap.size wr wx)
        case atStart => exact ⟨0, Nat.zero_le _, rfl, rfl, rowIs_start _ _ _ _ _, (Below.refl _ _).alloc (Nat.le_refl _) _⟩
        case round =>
          obtain ⟨t, ht, rfl, rfl, hx, hb⟩ := hrel
          have c0' := cell_later hb c0
          by_cases htl : t < N q
          · obtain ⟨b2, o2, e2, c2⟩ := HS.out t htl
            simp only [Option.some.injEq] at e2
            subst e2
            have c2' := cell_later hb c2
            have x0 := hx.cell htl
            have x1 := hx.frozen t
            obtain ⟨v, hv⟩ : ∃ v, F q t = v := ⟨_, rfl⟩
            rw [hv] at c2'
            have HV : Hid (F q t = v) := hv
            clear c2 hv
            go_wp2
            go_roundg (N q - (t + 1))
            case measure => omega
            case rel => exact ⟨t + 1, by omega, rfl, by go_num, rowIs_step hx HV.out.symm, hb.setCell (Nat.le_refl _) _⟩
          · obtain rfl : t = N q := by omega
            have r0 := (rowIs_later hC.row hb).cell hlt
            have r1 := (rowIs_later hC.row hb).frozen q
            go_wp2
            go_roundg (bn - (q + 1))
            case measure => omega
            case rel => exact ⟨q + 1, _, by omega, rfl, by go_num, hC.step hx hb⟩
    · have hqq : q = bn := by omega
      subst hqq
      go_wp2
      go_ret
      exact ⟨rfl, D, hC⟩

end Go.Proofs.Qxb6608524a
