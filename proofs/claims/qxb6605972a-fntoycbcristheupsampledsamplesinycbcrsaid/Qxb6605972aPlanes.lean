/-
  ROWS OF PLANES: the walks of zzBytes, planesBytes, clonePlanes; a row of planes that is filled one by one.
-/
import Derived.Test.Qxb6605972aOpen
namespace Go.Proofs.Qxb6605972a
open Go.RowKit

/-- The planes of a slice that came in. -/
def PlanesIn (w : World) (a : Option Addr) (cnt : Nat) (p : Nat → PlaneD) : Prop := ∀ i, i < cnt → ∃ b o, a = some ⟨b, o, none⟩ ∧ (p i).Lies w b (o + i * 6) ∧ (p i).Came w
theorem PlaneD.Came.later {p : PlaneD} {w w' : World} (h : p.Came w) (hb : Below w.heap.size w w') : p.Came w' := ⟨h.seg.below hb, h.byte, h.nil⟩
theorem PlanesIn.later {w w' : World} {a : Option Addr} {cnt : Nat} {p : Nat → PlaneD} (h : PlanesIn w a cnt p) (hb : Below w.heap.size w w') : PlanesIn w' a cnt p := fun i hi => by
  obtain ⟨b, o, ha, hl, hc⟩ := h i hi
  exact ⟨b, o, ha, hl.later hb, hc.later hb⟩

/-- A bool; where it is true the lengths are small. -/
def Small9 (cnt : Nat) (p : Nat → PlaneD) (e : Ending) : Prop := ∃ b : Bool, e = .returned (.bool b) ∧ (b = true → cnt ≤ 1048576 ∧ ∀ i, i < cnt → (p i).n ≤ 1048576)
/-- An int. -/
def Some10 (e : Ending) : Prop := ∃ z : Int, e = .returned (.int .i64 z)

set_option maxHeartbeats 2000000 in
/-- 'zzBytes_..': where it says yes, the lengths are small. -/
theorem zz9_any (tr w0 h0 : Int) (a : Option Addr) (cnt cc : Nat) (p : Nat → PlaneD) (w : World) (hP : PlanesIn w a cnt p) (hcnt : cnt ≤ maxLen) (hlen : ∀ i, i < cnt → (p i).n ≤ maxLen) :
    Calls Try.prog 9 #[.int .u8 tr, .int .i64 w0, .int .i64 h0, .slice a cnt cc] w fun e w' => Small9 cnt p e ∧ w' = w := by
  unfold maxLen at hcnt hlen
  have HP : Hid _ := hP
  have HL : Hid _ := hlen
  clear hP hlen
  by_cases h1 : cnt ≤ 1048576
  · go_enter Try.func9, Try.ntmps9
    go_wp2
    go_loopg [9, 10] cnt (fun g s9 s10 wr => w = wr ∧ ∃ (i : Nat) (z : Int), i ≤ cnt ∧ g = cnt - i ∧ s10 = .int .i64 i ∧ s9 = .int .i64 z ∧ 0 ≤ z ∧ z ≤ 1048576 ∧ Aside (∀ t, t < i → (p t).n ≤ 1048576))
    case atStart => exact ⟨rfl, 0, cnt, Nat.zero_le _, rfl, rfl, rfl, by omega, by omega, fun t ht => absurd ht (Nat.not_lt_zero _)⟩
    case round =>
      obtain ⟨rfl, i, z, hi, rfl, rfl, rfl, hz0, hz1, A⟩ := hrel
      by_cases hlt : i < cnt
      · obtain ⟨b, o, rfl, hl, _⟩ := HP.out i hlt
        have c0 := hl.c0
        have hn := HL.out i hlt
        have A' : Aside ((p i).n ≤ 1048576 → ∀ t, t < i + 1 → (p t).n ≤ 1048576) := fun h t ht => by
          by_cases e : t = i
          · subst e; exact h
          · exact A.out t (by omega)
        clear hl A
        generalize (p i).a = ai at *
        generalize (p i).n = ni at *
        generalize (p i).c = ci at *
        by_cases h2 : ni ≤ 1048576
        · by_cases h3 : z + ni ≤ 1048576
          · go_wp2
            go_roundg (cnt - (i + 1))
            case measure => omega
            case rel => exact ⟨rfl, i + 1, z + ni, by omega, rfl, by go_num, rfl, by omega, by omega, A'.out h2⟩
          · go_wp2
            go_ret
            exact ⟨⟨false, rfl, (fun h => by cases h)⟩, rfl⟩
        · go_wp2
          go_ret
          exact ⟨⟨false, rfl, (fun h => by cases h)⟩, rfl⟩
      · go_wp2
        go_ret
        exact ⟨⟨true, rfl, fun _ => ⟨h1, fun t ht => A.out t (by omega)⟩⟩, rfl⟩
  · go_enter Try.func9, Try.ntmps9
    go_wp2
    go_ret
    exact ⟨⟨false, rfl, (fun h => by cases h)⟩, rfl⟩

set_option maxHeartbeats 2000000 in
/-- 'planesBytes': some number. -/
theorem bytes10_any (a : Option Addr) (cnt cc : Nat) (p : Nat → PlaneD) (w : World) (hP : PlanesIn w a cnt p) (hcnt : cnt ≤ 1048576) (hlen : ∀ i, i < cnt → (p i).n ≤ 1048576) :
    Calls Try.prog 10 #[.slice a cnt cc] w fun e w' => Some10 e ∧ w' = w := by
  have HP : Hid _ := hP
  have HL : Hid _ := hlen
  clear hP hlen
  go_enter Try.func10, Try.ntmps10
  go_wp2
  go_loopg [3, 7] cnt (fun g s3 s7 wr => w = wr ∧ ∃ (i : Nat) (z : Int), i ≤ cnt ∧ g = cnt - i ∧ s7 = .int .i64 i ∧ s3 = .int .i64 z ∧ 0 ≤ z ∧ z ≤ 1048576)
  case atStart => exact ⟨rfl, 0, 0, Nat.zero_le _, rfl, rfl, rfl, by omega, by omega⟩
  case round =>
    obtain ⟨rfl, i, z, hi, rfl, rfl, rfl, hz0, hz1⟩ := hrel
    by_cases hlt : i < cnt
    · obtain ⟨b, o, rfl, hl, _⟩ := HP.out i hlt
      have c0 := hl.c0
      have hn := HL.out i hlt
      clear hl
      generalize (p i).a = ai at *
      generalize (p i).n = ni at *
      generalize (p i).c = ci at *
      by_cases h3 : z + (ni + 64) ≤ 1048576
      · go_wp2
        go_roundg (cnt - (i + 1))
        case measure => omega
        case rel => exact ⟨rfl, i + 1, z + (ni + 64), by omega, rfl, by go_num, rfl, by omega, by omega⟩
      · go_wp2
        go_ret
        exact ⟨⟨_, rfl⟩, rfl⟩
    · go_wp2
      go_ret
      exact ⟨⟨_, rfl⟩, rfl⟩

/-- m cells that may be written. -/
def Room (w : World) (b m : Nat) : Prop := ∀ j, j < m → (∃ v, w.cell? ⟨b, j, none⟩ = some v) ∧ w.frozen? ⟨b, j, none⟩ = false
theorem Room.set {w : World} {b m : Nat} (h : Room w b m) (A : Addr) (v : Value) : Room (w.setCell A v) b m := fun j hj => ⟨ex_set (h j hj).1, by rw [World.frozen?_setCell]; exact (h j hj).2⟩
theorem Room.later {w w' : World} {b m : Nat} (h : Room w b m) (hb : Below w.heap.size w w') : Room w' b m := fun j hj => by
  obtain ⟨⟨v, hv⟩, hf⟩ := h j hj
  exact ⟨⟨v, cell_later hb hv⟩, (hb.frozen (p := ⟨b, j, none⟩) (World.block_lt_of_cell? _ _ hv)).trans hf⟩
theorem Room.made (w : World) (z : Array Value) (m : Nat) (t : TypeId) : Room (w.alloc (.cells (madeCells z m) t)) w.heap.size m := fun j hj => by
  refine ⟨?_, by simp⟩
  rw [World.cell?_alloc_new]
  exact ⟨_, Array.getElem?_eq_getElem (by rw [size_madeCells]; exact hj)⟩

/-- Six cells stored. -/
def set6 (w : World) (b o : Nat) (p : PlaneD) : World :=
  (((((w.setCell ⟨b, o, none⟩ (.slice p.a p.n p.c)).setCell ⟨b, o + 1, none⟩ (.int .i64 p.pw)).setCell ⟨b, o + 2, none⟩ (.int .i64 p.ph)).setCell ⟨b, o + 3, none⟩ (.int .i64 p.ps)).setCell ⟨b, o + 4, none⟩ (.int .i64 p.px)).setCell ⟨b, o + 5, none⟩ (.int .i64 p.py)

theorem cell_off {w : World} {b o o' : Nat} {v : Value} (h : o' ≠ o) : (w.setCell ⟨b, o', none⟩ v).cell? ⟨b, o, none⟩ = w.cell? ⟨b, o, none⟩ := World.cell?_setCell_other _ _ _ _ (fun e => h (by injection e))
theorem cell_at {w : World} {b m o : Nat} (h : Room w b m) (ho : o < m) (v : Value) : (w.setCell ⟨b, o, none⟩ v).cell? ⟨b, o, none⟩ = some v := by
  obtain ⟨⟨u, hu⟩, _⟩ := h o ho
  exact World.cell?_setCell_same _ _ _ hu

theorem set6_lies {w : World} {b m o : Nat} (h : Room w b m) (ho : o + 6 ≤ m) (p : PlaneD) : p.Lies (set6 w b o p) b o := by
  unfold set6
  refine ⟨?_, ?_, ?_, ?_, ?_, ?_⟩
  · rw [cell_off (by omega), cell_off (by omega), cell_off (by omega), cell_off (by omega), cell_off (by omega), cell_at h (by omega)]
  · rw [cell_off (by omega), cell_off (by omega), cell_off (by omega), cell_off (by omega), cell_at (h.set _ _) (by omega)]
  · rw [cell_off (by omega), cell_off (by omega), cell_off (by omega), cell_at ((h.set _ _).set _ _) (by omega)]
  · rw [cell_off (by omega), cell_off (by omega), cell_at (((h.set _ _).set _ _).set _ _) (by omega)]
  · rw [cell_off (by omega), cell_at ((((h.set _ _).set _ _).set _ _).set _ _) (by omega)]
  · rw [cell_at (((((h.set _ _).set _ _).set _ _).set _ _).set _ _) (by omega)]

theorem PlaneD.Lies.set_off {q : PlaneD} {w : World} {b o o' : Nat} (h : q.Lies w b o) (hd : o' < o ∨ o + 6 ≤ o') (v : Value) : q.Lies (w.setCell ⟨b, o', none⟩ v) b o :=
  ⟨by rw [cell_off (by omega)]; exact h.c0, by rw [cell_off (by omega)]; exact h.c1, by rw [cell_off (by omega)]; exact h.c2, by rw [cell_off (by omega)]; exact h.c3, by rw [cell_off (by omega)]; exact h.c4, by rw [cell_off (by omega)]; exact h.c5⟩

theorem set6_other {q : PlaneD} {w : World} {b o o' : Nat} (h : q.Lies w b o) (hd : o' + 6 ≤ o ∨ o + 6 ≤ o') (p : PlaneD) : q.Lies (set6 w b o' p) b o := by
  unfold set6
  exact (((((h.set_off (by omega) _).set_off (by omega) _).set_off (by omega) _).set_off (by omega) _).set_off (by omega) _).set_off (by omega) _

theorem set6_room {w : World} {b m b' o : Nat} (h : Room w b m) (p : PlaneD) : Room (set6 w b' o p) b m := by
  unfold set6
  exact (((((h.set _ _).set _ _).set _ _).set _ _).set _ _).set _ _

theorem set6_below {B : Nat} {w0 w : World} {b o : Nat} (h : Below B w0 w) (hB : B ≤ b) (p : PlaneD) : Below B w0 (set6 w b o p) := by
  unfold set6
  exact (((((h.setCell hB _).setCell hB _).setCell hB _).setCell hB _).setCell hB _).setCell hB _

theorem set6_size {w : World} {b o : Nat} (p : PlaneD) : (set6 w b o p).heap.size = w.heap.size := by simp [set6]

/-- A row of planes, the first k of them laid. -/
structure Row6 (w : World) (b m k : Nat) (q : Nat → PlaneD) : Prop where
  room : Room w b (m * 6)
  lies : ∀ j, j < k → (q j).Lies w b (j * 6)

theorem Row6.later {w w' : World} {b m k : Nat} {q : Nat → PlaneD} (h : Row6 w b m k q) (hb : Below w.heap.size w w') : Row6 w' b m k q := ⟨h.room.later hb, fun j hj => (h.lies j hj).later hb⟩
theorem Row6.step {w : World} {b m k : Nat} {q : Nat → PlaneD} (h : Row6 w b m k q) (hk : k < m) : Row6 (set6 w b (k * 6) (q k)) b m (k + 1) q := by
  refine ⟨set6_room h.room _, fun j hj => ?_⟩
  by_cases e : j = k
  · subst e
    exact set6_lies h.room (by omega) _
  · exact set6_other (h.lies j (by omega)) (by omega) _

theorem Try.info30 : (Try.prog.info? 30).map (fun i => (i.zero, i.size, i.bytes)) = some (some (.agg #[.slice none 0 0, .int .i64 0, .int .i64 0, .int .i64 0, .int .i64 0, .int .i64 0]), 6, 64) := by kernel_rfl
theorem Try.info34 : (Try.prog.info? 34).map (fun i => (i.zero, i.size, i.bytes)) = some (some (.agg #[.slice none 0 0, .int .i64 0, .int .i64 0, .int .i64 0, .int .i64 0, .int .i64 0]), 6, 64) := by kernel_rfl

/-- 'make([]Plane, n)'. -/
theorem run_make6 (t e : TypeId) (ht : Try.prog.underlying t = some (.slice e)) (hinfo : (Try.prog.info? e).map (fun i => (i.zero, i.size, i.bytes)) = some (some (.agg #[.slice none 0 0, .int .i64 0, .int .i64 0, .int .i64 0, .int .i64 0, .int .i64 0]), 6, 64))
    (n : Nat) (hn : n ≤ 1048576) (w : World) :
    (Instr.makeSlice t (.int .i64 (n : Int)) (.int .i64 (n : Int))).run Try.prog w = .ok (.slice (some ⟨w.heap.size, 0, none⟩) n n) (w.alloc (.cells (madeCells #[.slice none 0 0, .int .i64 0, .int .i64 0, .int .i64 0, .int .i64 0, .int .i64 0] (n * 6)) e)) := by
  obtain ⟨i, hi, hzz⟩ := Option.map_eq_some_iff.1 hinfo
  simp only [Prod.mk.injEq] at hzz
  obtain ⟨hz, hs, hb⟩ := hzz
  have hr := run_make (P := Try.prog) w t e i _ ht hi hz .i64 .i64 (n : Int) (n : Int) (by omega) (Int.le_refl _) (by rw [hb]; omega) (by omega)
  simp only [Int.toNat_natCast, hs, Value.cells] at hr
  exact hr

end Go.Proofs.Qxb6605972a
