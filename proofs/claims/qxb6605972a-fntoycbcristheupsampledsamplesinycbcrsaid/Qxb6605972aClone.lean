/-
  THE WALK OF 'clonePlanes'.
-/
import Derived.Test.Qxb6605972aPlanes
import Derived.Deep.DeepCutAuto
namespace Go.Proofs.Qxb6605972a
open Go.RowKit

/-- Six stores into the row, in a name. -/
theorem set6_ex (w : World) (b o : Nat) (p : PlaneD) : ∃ W1, (((((w.setCell ⟨b, o, none⟩ (.slice p.a p.n p.c)).setCell ⟨b, o + 1, none⟩ (.int .i64 p.pw)).setCell ⟨b, o + 2, none⟩ (.int .i64 p.ph)).setCell ⟨b, o + 3, none⟩ (.int .i64 p.ps)).setCell ⟨b, o + 4, none⟩ (.int .i64 p.px)).setCell ⟨b, o + 5, none⟩ (.int .i64 p.py) = W1 ∧ W1 = set6 w b o p := ⟨_, rfl, rfl⟩

/-- What clonePlanes leaves. -/
structure Cloned (w w' : World) (v : Value) (OB cnt : Nat) (p q : Nat → PlaneD) : Prop where
  val : v = .slice (some ⟨OB, 0, none⟩) cnt cnt
  lies : ∀ j, j < cnt → (q j).Lies w' OB (j * 6)
  moved : ∀ j, j < cnt → ∃ a c, q j = (p j).moved a c
  ok : ∀ j, j < cnt → (q j).Ok w'
  below : Below w.heap.size w w'

/-- While it goes. -/
structure Cloning (w wr : World) (cnt k : Nat) (p q : Nat → PlaneD) : Prop where
  row : Row6 wr w.heap.size cnt k q
  moved : ∀ j, j < k → ∃ a c, q j = (p j).moved a c
  ok : ∀ j, j < k → (q j).Ok wr
  apart : ∀ j, j < k → ∀ b o, (q j).a = some ⟨b, o, none⟩ → w.heap.size < b
  below : Below w.heap.size w wr

theorem cloning_start (w : World) (cnt : Nat) (p : Nat → PlaneD) (z : Array Value) : Cloning w (w.alloc (.cells (madeCells z (cnt * 6)) 30)) cnt 0 p p :=
  ⟨⟨Room.made _ _ _ _, fun _ hj => absurd hj (Nat.not_lt_zero _)⟩, fun _ hj => absurd hj (Nat.not_lt_zero _), fun _ hj => absurd hj (Nat.not_lt_zero _), fun _ hj => absurd hj (Nat.not_lt_zero _), (Below.refl _ _).alloc (Nat.le_refl _) _⟩

/-- A plane's bytes stay while another block is written. -/
theorem PlaneD.Ok.set_block {q : PlaneD} {w : World} (h : q.Ok w) {A : Addr} {u : Value} (hA : ∀ b o, q.a = some ⟨b, o, none⟩ → b ≠ A.block) : q.Ok (w.setCell A u) :=
  ⟨fun i hi => by
    obtain ⟨b, o, ha, hc⟩ := h.seg i hi
    refine ⟨b, o, ha, ?_⟩
    rw [World.cell?_setCell_other _ _ _ _ (fun e => hA b o ha (by rw [e]))]
    exact hc, h.len, h.byte⟩
theorem PlaneD.Ok.set6 {q : PlaneD} {w : World} (h : q.Ok w) {b o : Nat} (p : PlaneD) (hA : ∀ b' o', q.a = some ⟨b', o', none⟩ → b' ≠ b) : q.Ok (set6 w b o p) := by
  unfold Qxb6605972a.set6
  exact (((((h.set_block hA).set_block hA).set_block hA).set_block hA).set_block hA).set_block hA

/-- 'cloneBytes' of whatever slice; the copy lies in a new block. -/
theorem clone_new (a : Option Addr) (n c : Nat) (hn : n ≤ 1048576) (hnil : a = none → n = 0 ∧ c = 0) (f : Nat → Int) (w : World) (hs : Seg w a n (fun i => .int .u8 (f i))) :
    Calls Try.prog 22 #[.slice a n c] w fun e w' => ∃ a' c', e = .returned (.slice a' n c') ∧ Seg w' a' n (fun i => .int .u8 (f i)) ∧ (∀ b o, a' = some ⟨b, o, none⟩ → w.heap.size ≤ b) ∧ Below w.heap.size w w' := by
  cases a with
  | none =>
    obtain ⟨rfl, rfl⟩ := hnil rfl
    refine (clone_nil w).mono ?_
    rintro e w' ⟨rfl, rfl⟩
    exact ⟨none, 0, rfl, hs, (fun b o h => by cases h), Below.refl _ _⟩
  | some ad =>
    refine (clone_some ad n c hn f w hs).mono ?_
    rintro e w' ⟨rfl, h1, h2⟩
    exact ⟨_, _, rfl, Seg.of_row h1, (fun b o h => by injection h with h; injection h with h; omega), h2⟩

theorem PlaneD.Lies.later' {p : PlaneD} {w w' : World} {b o : Nat} (h : p.Lies w b o) (hb : Below w.heap.size w w') : p.Lies w' b o := h.later hb

/-- One plane more. -/
theorem Cloning.step {w wr w2 : World} {cnt k : Nat} {p q : Nat → PlaneD} (h : Cloning w wr cnt k p q) (hk : k < cnt) (hp : (p k).n ≤ 1048576) (hbyte : ∀ i, 0 ≤ (p k).f i ∧ (p k).f i ≤ 255) {a : Option Addr} {c : Nat}
    (hs : Seg w2 a (p k).n (fun i => .int .u8 ((p k).f i))) (hnew : ∀ b o, a = some ⟨b, o, none⟩ → (set6 wr w.heap.size (k * 6) (p k)).heap.size ≤ b) (hb : Below (set6 wr w.heap.size (k * 6) (p k)).heap.size (set6 wr w.heap.size (k * 6) (p k)) w2) :
    Cloning w (w2.setCell ⟨w.heap.size, k * 6, none⟩ (.slice a (p k).n c)) cnt (k + 1) p (fun j => if j = k then (p k).moved a c else q j) := by
  have hlt : w.heap.size < wr.heap.size := by
    obtain ⟨⟨v, hv⟩, _⟩ := h.row.room 0 (by omega)
    exact World.block_lt_of_cell? _ _ hv
  have hsz := set6_size (w := wr) (b := w.heap.size) (o := k * 6) (p k)
  have hbs := hb.size
  have hR : Room w2 w.heap.size (cnt * 6) := (set6_room h.row.room (p k)).later hb
  have hL : (p k).Lies w2 w.heap.size (k * 6) := (set6_lies h.row.room (by omega) (p k)).later hb
  refine ⟨⟨hR.set _ _, fun j hj => ?_⟩, fun j hj => ?_, fun j hj => ?_, fun j hj => ?_, ?_⟩
  · by_cases e : j = k
    · subst e
      rw [if_pos rfl]
      refine ⟨cell_at hR (by omega) _, ?_, ?_, ?_, ?_, ?_⟩
      · rw [cell_off (by omega)]; exact hL.c1
      · rw [cell_off (by omega)]; exact hL.c2
      · rw [cell_off (by omega)]; exact hL.c3
      · rw [cell_off (by omega)]; exact hL.c4
      · rw [cell_off (by omega)]; exact hL.c5
    · rw [if_neg e]
      exact ((set6_other (h.row.lies j (by omega)) (by omega) (p k)).later hb).set_off (by omega) _
  · by_cases e : j = k
    · subst e; rw [if_pos rfl]; exact ⟨_, _, rfl⟩
    · rw [if_neg e]; exact h.moved j (by omega)
  · by_cases e : j = k
    · subst e
      rw [if_pos rfl]
      have ho : ((p j).moved a c).Ok w2 := ⟨hs, hp, hbyte⟩
      exact ho.set_block (fun b o hbo => by
        have := hnew b o hbo
        show b ≠ w.heap.size
        omega)
    · rw [if_neg e]
      have ha := h.apart j (by omega)
      exact (((h.ok j (by omega)).set6 (p k) (fun b' o' hb' => by have := ha b' o' hb'; omega)).later hb).set_block (fun b' o' hb' => by
        have := ha b' o' hb'
        show b' ≠ w.heap.size
        omega)
  · by_cases e : j = k
    · subst e
      rw [if_pos rfl]
      intro b o hbo
      have := hnew b o hbo
      omega
    · rw [if_neg e]; exact h.apart j (by omega)
  · exact ((set6_below h.below (Nat.le_refl _) (p k)).trans (hb.mono (by omega))).setCell (Nat.le_refl _) _

set_option maxHeartbeats 4000000 in
set_option maxRecDepth 1000000 in
theorem clonePlanes_any (b o cnt cc : Nat) (p : Nat → PlaneD) (w : World) (hcnt : cnt ≤ 1048576) (hP : PlanesIn w (some ⟨b, o, none⟩) cnt p) (hlen : ∀ i, i < cnt → (p i).n ≤ 1048576) :
    Calls Try.prog 12 #[.slice (some ⟨b, o, none⟩) cnt cc] w fun e w' => ∃ v q, e = .returned v ∧ Cloned w w' v w.heap.size cnt p q := by
  have hnil := fun wx => Lib.run_eql_slice_nil (P := Try.prog) wx 24 30 (some ⟨b, o, none⟩) cnt cc 0 0 Try.underlying24
  have hmk := run_make6 24 30 Try.underlying24 Try.info30 cnt hcnt
  have HP : Hid _ := hP
  have HL : Hid _ := hlen
  clear hP hlen
  go_enter Try.func12, Try.ntmps12
  go_wp2
  clear hmk hnil
  go_loopg [12] cnt (fun g s12 wr => ∃ (k : Nat) (q : Nat → PlaneD), k ≤ cnt ∧ g = cnt - k ∧ s12 = .int .i64 k ∧ Cloning w wr cnt k p q)
  case atStart => exact ⟨0, p, Nat.zero_le _, rfl, rfl, cloning_start _ _ _ _⟩
  case round =>
    obtain ⟨k, q, hk, rfl, rfl, hC⟩ := hrel
    by_cases hlt : k < cnt
    · obtain ⟨b', o', e1, hl, hcame⟩ := HP.out k hlt
      simp only [Option.some.injEq, Addr.mk.injEq, and_true] at e1
      obtain ⟨rfl, rfl⟩ := e1
      have hlw := hl.later' hC.below
      have hbw : b < w.heap.size := World.block_lt_of_cell? _ _ hl.c0
      have c0 := hlw.c0
      have c1 := hlw.c1
      have c2 := hlw.c2
      have c3 := hlw.c3
      have c4 := hlw.c4
      have c5 := hlw.c5
      obtain ⟨⟨v0, r0⟩, f0⟩ := hC.row.room (k * 6) (by omega)
      obtain ⟨⟨v1, r1⟩, f1⟩ := hC.row.room (k * 6 + 1) (by omega)
      obtain ⟨⟨v2, r2⟩, f2⟩ := hC.row.room (k * 6 + 2) (by omega)
      obtain ⟨⟨v3, r3⟩, f3⟩ := hC.row.room (k * 6 + 3) (by omega)
      obtain ⟨⟨v4, r4⟩, f4⟩ := hC.row.room (k * 6 + 4) (by omega)
      obtain ⟨⟨v5, r5⟩, f5⟩ := hC.row.room (k * 6 + 5) (by omega)
      go_upto_region 8 with fail
      clear r0 r1 r2 r3 r4 r5 f0 f1 f2 f3 f4 f5 c1 c2 c3 c4 c5
      obtain ⟨W1, e1, e2⟩ := set6_ex wr w.heap.size (k * 6) (p k)
      rw [e1]
      clear e1
      have hbw1 : Below w.heap.size w W1 := by rw [e2]; exact set6_below hC.below (Nat.le_refl _) (p k)
      have hcame1 := hcame.later hbw1
      have c0' : W1.cell? ⟨b, o + k * 6, none⟩ = some (.slice (p k).a (p k).n (p k).c) := (hl.later hbw1).c0
      have hR : Room W1 w.heap.size (cnt * 6) := by rw [e2]; exact set6_room hC.row.room (p k)
      have E2 : Hid (W1 = set6 wr w.heap.size (k * 6) (p k)) := e2
      have HC : Hid _ := hcame1
      clear c0 e2 hlw hl hcame hcame1
      go_wp2_with fail
      refine (clone_new (p k).a (p k).n (p k).c (HL.out k hlt) HC.out.nil (p k).f _ HC.out.seg).mono ?_
      rintro e w2 ⟨a', c', rfl, hs, hnew, hb⟩
      obtain ⟨⟨v0, r0⟩, f0⟩ := (hR.later hb) (k * 6) (by omega)
      have HN : Hid _ := hnew
      have HS : Hid _ := hs
      clear hnew hs c0'
      go_wp2
      go_roundg (cnt - (k + 1))
      case measure => omega
      case rel => exact ⟨k + 1, _, by omega, rfl, by go_num, hC.step hlt (HL.out k hlt) HC.out.byte HS.out (by rw [← E2.out]; exact HN.out) (by rw [← E2.out]; exact hb)⟩
    · have hkk : k = cnt := by omega
      subst hkk
      go_wp2
      go_ret
      exact ⟨_, q, rfl, rfl, hC.row.lies, hC.moved, hC.ok, hC.below⟩

end Go.Proofs.Qxb6605972a
