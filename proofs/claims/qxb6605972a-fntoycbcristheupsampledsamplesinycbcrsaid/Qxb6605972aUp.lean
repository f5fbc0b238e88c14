/-
  THE WALK OF 'upsample'.
-/
import Derived.Test.Qxb6605972aMem
import Derived.Test.Qxb6605972aCount
import Derived.Deep.LoopGhost
import Derived.RegionTactic
import Derived.BigRegion
namespace Go.Proofs.Qxb6605972a
open Go.RowKit

theorem Try.info3 : (Try.prog.info? 3).map (fun i => (i.zero, i.size, i.bytes)) = some (some (.int .i64 0), 1, 8) := by kernel_rfl

/-- A row of integers of which the first k are told by f, the others zero. -/
def upTo (kd : IntKind) (f : Nat → Int) (k : Nat) : Nat → Value := fun i => if i < k then .int kd (f i) else .int kd 0

theorem rowIs_start (w : World) (kd : IntKind) (f : Nat → Int) (n : Nat) (t : TypeId) : (w.alloc (.cells (madeCells #[.int kd 0] n) t)).rowIs w.heap.size t n (upTo kd f 0) :=
  (World.rowIs_made w (.int kd 0) n t).congr (fun i _ => by simp [upTo])

theorem rowIs_step {w : World} {b : Nat} {t : TypeId} {n : Nat} {kd : IntKind} {f : Nat → Int} {k : Nat} (h : w.rowIs b t n (upTo kd f k)) {v : Int} (hv : v = f k) :
    (w.setCell ⟨b, k, none⟩ (.int kd v)).rowIs b t n (upTo kd f (k + 1)) := by
  refine (h.set k _).congr (fun i _ => ?_)
  unfold upTo
  by_cases e : i = k
  · subst e
    rw [if_pos rfl, if_pos (by omega), hv]
  · rw [if_neg e]
    by_cases hlt : i < k
    · rw [if_pos hlt, if_pos (by omega)]
    · rw [if_neg hlt, if_neg (by omega)]

theorem block_setCell {w : World} {a : Addr} {v : Value} {k : Nat} {o : Obj} (h : w.heap[k]? = some o) (hne : k ≠ a.block) : (w.setCell a v).heap[k]? = some o := by
  rw [Deep.blk_setCell_other _ _ _ _ hne]; exact h
theorem block_alloc {w : World} {o' : Obj} {k : Nat} {o : Obj} (h : w.heap[k]? = some o) : (w.alloc o').heap[k]? = some o := by
  rw [Deep.blk_alloc_lt _ _ _ (Array.getElem?_eq_some_iff.1 h).1]; exact h

/-- The first loop's relation. -/
structure UpA (w wr : World) (cs : Array Value) (fh k : Nat) (q m : Int) : Prop where
  below : Below w.heap.size w wr
  size : wr.heap.size = w.heap.size + 2
  box : wr.heap[w.heap.size]? = some (.cells cs 30 (0, 0))
  rows : wr.rowIs (w.heap.size + 1) 3 fh (upTo .i64 (fun i => (Pl.st q m i).1) k)

theorem upA_start (w : World) (cs : Array Value) (fh : Nat) (q m : Int) : UpA w ((w.alloc (.cells cs 30)).alloc (.cells (madeCells #[.int .i64 0] fh) 3)) cs fh 0 q m := by
  refine ⟨((Below.refl _ _).alloc (Nat.le_refl _) _).alloc (by simp) _, by simp, block_alloc (Deep.blk_alloc_new _ _), ?_⟩
  have := rowIs_start (w.alloc (.cells cs 30)) .i64 (fun i => (Pl.st q m i).1) fh 3
  simpa using this

theorem upA_step {w wr : World} {cs : Array Value} {fh k : Nat} {q m : Int} (h : UpA w wr cs fh k q m) {v : Int} (hv : v = (Pl.st q m k).1) :
    UpA w (wr.setCell ⟨w.heap.size + 1, k, none⟩ (.int .i64 v)) cs fh (k + 1) q m :=
  ⟨h.below.setCell (by simp) _, by simp [h.size], block_setCell h.box (by simp), rowIs_step h.rows hv⟩

/-- The second loop's relation. -/
structure UpB (w wr : World) (cs : Array Value) (fh fw k : Nat) (q m q2 m2 : Int) : Prop where
  below : Below w.heap.size w wr
  size : wr.heap.size = w.heap.size + 3
  box : wr.heap[w.heap.size]? = some (.cells cs 30 (0, 0))
  rows : wr.rowIs (w.heap.size + 1) 3 fh (upTo .i64 (fun i => (Pl.st q m i).1) fh)
  cols : wr.rowIs (w.heap.size + 2) 3 fw (upTo .i64 (fun i => (Pl.st q2 m2 i).1) k)

theorem upB_start {w wr : World} {cs : Array Value} {fh : Nat} {q m : Int} (h : UpA w wr cs fh fh q m) (fw : Nat) (q2 m2 : Int) : UpB w (wr.alloc (.cells (madeCells #[.int .i64 0] fw) 3)) cs fh fw 0 q m q2 m2 := by
  have := rowIs_start wr .i64 (fun i => (Pl.st q2 m2 i).1) fw 3
  rw [h.size] at this
  exact ⟨h.below.alloc (by rw [h.size]; omega) _, by simp [h.size], block_alloc h.box, h.rows.alloc _, this⟩

theorem upB_step {w wr : World} {cs : Array Value} {fh fw k : Nat} {q m q2 m2 : Int} (h : UpB w wr cs fh fw k q m q2 m2) {v : Int} (hv : v = (Pl.st q2 m2 k).1) :
    UpB w (wr.setCell ⟨w.heap.size + 2, k, none⟩ (.int .i64 v)) cs fh fw (k + 1) q m q2 m2 :=
  ⟨h.below.setCell (by simp) _, by simp [h.size], block_setCell h.box (by simp), h.rows.setOther (by simp) _, rowIs_step h.cols hv⟩

/-- The last loops' relation: of the pixels the first k are laid. -/
structure UpC (w wr : World) (cs : Array Value) (fh fw k : Nat) (q m q2 m2 : Int) (g : Nat → Int) : Prop where
  below : Below w.heap.size w wr
  size : wr.heap.size = w.heap.size + 4
  box : wr.heap[w.heap.size]? = some (.cells cs 30 (0, 0))
  rows : wr.rowIs (w.heap.size + 1) 3 fh (upTo .i64 (fun i => (Pl.st q m i).1) fh)
  cols : wr.rowIs (w.heap.size + 2) 3 fw (upTo .i64 (fun i => (Pl.st q2 m2 i).1) fw)
  out : wr.rowIs (w.heap.size + 3) 5 (fw * fh) (upTo .u8 g k)

theorem upC_start {w wr : World} {cs : Array Value} {fh fw : Nat} {q m q2 m2 : Int} (h : UpB w wr cs fh fw fw q m q2 m2) (g : Nat → Int) : UpC w (wr.alloc (.cells (madeCells #[.int .u8 0] (fw * fh)) 5)) cs fh fw 0 q m q2 m2 g := by
  have := rowIs_start wr .u8 g (fw * fh) 5
  rw [h.size] at this
  exact ⟨h.below.alloc (by rw [h.size]; omega) _, by simp [h.size], block_alloc h.box, h.rows.alloc _, h.cols.alloc _, this⟩

theorem upC_step {w wr : World} {cs : Array Value} {fh fw k : Nat} {q m q2 m2 : Int} {g : Nat → Int} (h : UpC w wr cs fh fw k q m q2 m2 g) {v : Int} (hv : v = g k) :
    UpC w (wr.setCell ⟨w.heap.size + 3, k, none⟩ (.int .u8 v)).drew cs fh fw (k + 1) q m q2 m2 g :=
  ⟨(h.below.setCell (by simp) _).drew, by simp [h.size], block_setCell h.box (by simp), h.rows.setOther (by simp) _, h.cols.setOther (by simp) _, rowIs_step h.out hv⟩

theorem wrap64_id {x : Int} (h0 : -9223372036854775808 ≤ x) (h1 : x < 9223372036854775808) : wrap64 x = x := by unfold wrap64; omega

theorem fits_open {n : Nat} {pw ph ps px py : Int} (h : fitsB n pw ph ps px py = true) :
    1 ≤ pw ∧ 1 ≤ ph ∧ 1 ≤ px ∧ 1 ≤ py ∧ 0 ≤ ps ∧ pw ≤ 1073741824 ∧ ph ≤ 1073741824 ∧ ps ≤ 1073741824 ∧ (ph - 1) * ps + (pw - 1) < n := by
  unfold fitsB at h
  exact of_decide_eq_true h

/-- What one pixel's assignment reads. -/
theorem up_pixel {w wr : World} {a : Option Addr} {n c : Nat} {pw ph ps px py : Int} {fh fw k y x : Nat} {mh mw : Int} {f g : Nat → Int}
    (hU : UpC w wr #[.slice a n c, .int .i64 pw, .int .i64 ph, .int .i64 ps, .int .i64 px, .int .i64 py] fh fw k py mh px mw g) (hy : y < fh) (hx : x < fw)
    (hs : Seg w a n (fun i => .int .u8 (f i))) (hfit : fitsB n pw ph ps px py = true) (hmh : wrap64 (ph - 1) = mh) (hmw : wrap64 (pw - 1) = mw) :
    ∃ (b o : Nat) (r q : Int), a = some ⟨b, o, none⟩ ∧ wr.cell? ⟨w.heap.size + 1, y, none⟩ = some (.int .i64 r) ∧ wr.cell? ⟨w.heap.size + 2, x, none⟩ = some (.int .i64 q) ∧
      wr.cell? ⟨w.heap.size, 3, none⟩ = some (.int .i64 ps) ∧ 0 ≤ r * ps ∧ 0 ≤ q ∧ r * ps + q < n ∧ r * ps + q = Pl.at_ pw ph ps px py y x ∧
      wr.cell? ⟨b, o + (r * ps + q).toNat, none⟩ = some (.int .u8 (f (Pl.at_ pw ph ps px py y x).toNat)) := by
  obtain ⟨h1, h2, h3, h4, h5, h6, h7, h8, h9⟩ := fits_open hfit
  rw [wrap64_id (by omega) (by omega)] at hmh hmw
  subst hmh hmw
  have hat := Pl.at_range h1 h2 h3 h4 h5 h9 y x
  obtain ⟨b, o, hab, hc⟩ := hs (Pl.at_ pw ph ps px py y x).toNat (by omega)
  have er : (Pl.st py (ph - 1) y).1 = min ((y : Int) / py) (ph - 1) := Pl.st_eq py (ph - 1) h4 (by omega) y
  have eq : (Pl.st px (pw - 1) x).1 = min ((x : Int) / px) (pw - 1) := Pl.st_eq px (pw - 1) h3 (by omega) x
  have a0 : 0 ≤ (y : Int) / py := Int.ediv_nonneg (by omega) (by omega)
  have b0 : 0 ≤ (x : Int) / px := Int.ediv_nonneg (by omega) (by omega)
  refine ⟨b, o, min ((y : Int) / py) (ph - 1), min ((x : Int) / px) (pw - 1), hab, ?_, ?_, ?_, Int.mul_nonneg (by omega) h5, by omega, hat.2, rfl, ?_⟩
  · rw [hU.rows.cell hy]; simp [upTo, hy, er]
  · rw [hU.cols.cell hx]; simp [upTo, hx, eq]
  · simp [World.cell?, hU.box]
  · show wr.cell? ⟨b, o + (Pl.at_ pw ph ps px py y x).toNat, none⟩ = _
    rw [hU.below.cell (World.block_lt_of_cell? _ _ hc)]; exact hc

set_option maxHeartbeats 4000000 in
set_option maxRecDepth 1000000 in
theorem up_any (a : Option Addr) (n c : Nat) (pw ph ps px py : Int) (fw fh : Nat) (f : Nat → Int) (w : World) (hw : fw ≤ 65536) (hh : fh ≤ 65536) (hwh : fw * fh ≤ 1048576) (hn : n ≤ 1048576)
    (hs : Seg w a n (fun i => .int .u8 (f i))) (hfit : 0 < fw → 0 < fh → fitsB n pw ph ps px py = true) :
    Calls Try.prog 17 #[.agg #[.slice a n c, .int .i64 pw, .int .i64 ph, .int .i64 ps, .int .i64 px, .int .i64 py], .int .i64 fw, .int .i64 fh] w fun e w' =>
      e = .returned (.slice (some ⟨w.heap.size + 3, 0, none⟩) (fw * fh) (fw * fh)) ∧
      w'.rowIs (w.heap.size + 3) 5 (fw * fh) (fun i => .int .u8 (f (Pl.at_ pw ph ps px py (i / fw) (i % fw)).toNat)) ∧ Below w.heap.size w w' := by
  have HF : Hid _ := hfit
  have HS : Hid _ := hs
  clear hfit hs
  have hmk1 := run_make_row' (P := Try.prog) 62 3 (.int .i64 0) 8 Try.underlying62 Try.info3 rfl .i64 .i64 fh (by omega) (by omega)
  obtain ⟨mh, hmh⟩ : ∃ mh, wrap64 (ph - 1) = mh := ⟨_, rfl⟩
  obtain ⟨mw, hmw⟩ : ∃ mw, wrap64 (pw - 1) = mw := ⟨_, rfl⟩
  have HMH : Hid (wrap64 (ph - 1) = mh) := hmh
  have HMW : Hid (wrap64 (pw - 1) = mw) := hmw
  go_enter Try.func17, Try.ntmps17
  go_wp2
  go_loopg [8, 9, 10] fh (fun g s8 s9 s10 wr => ∃ (k : Nat) (s t : Int), k ≤ fh ∧ g = fh - k ∧ s8 = .int .i64 s ∧ s9 = .int .i64 t ∧ s10 = .int .i64 k ∧ 0 ≤ s ∧ s ≤ k ∧ 0 ≤ t ∧ t ≤ k ∧ Aside (Pl.st py mh k = (s, t)) ∧
    UpA w wr #[.slice a n c, .int .i64 pw, .int .i64 ph, .int .i64 ps, .int .i64 px, .int .i64 py] fh k py mh)
  case atStart => exact ⟨0, 0, 0, Nat.zero_le _, rfl, rfl, rfl, rfl, by omega, by omega, by omega, by omega, rfl, upA_start _ _ _ _ _⟩
  case round =>
    obtain ⟨k, s, t, hk, rfl, rfl, rfl, rfl, hs0, hs1, ht0, ht1, A, hU⟩ := hrel
    have g5 : wr.cell? ⟨w.heap.size, 5, none⟩ = some (.int .i64 py) := by simp [World.cell?, hU.box]
    have g2 : wr.cell? ⟨w.heap.size, 2, none⟩ = some (.int .i64 ph) := by simp [World.cell?, hU.box]
    by_cases hlt : k < fh
    · have gr : wr.cell? ⟨w.heap.size + 1, k, none⟩ = some (.int .i64 0) := by rw [hU.rows.cell hlt]; simp [upTo]
      have gf : wr.frozen? ⟨w.heap.size + 1, k, none⟩ = false := hU.rows.frozen k
      clear hmk1
      have A1 := A.out
      by_cases e1 : t + 1 = py
      · by_cases e2 : s < mh
        · have e1' : (t + 1 == py) = true := by simp [e1]
          have A' : Aside (Pl.st py mh (k + 1) = (s + 1, 0)) := by show Pl.st py mh (k + 1) = (s + 1, 0); rw [Pl.st, A1]; simp [e1, e2]
          have HU := upA_step hU (v := s) (by rw [A1])
          clear A1 A
          have E : Aside (t + 1 = py) := e1
          clear e1
          go_wp2
          go_roundg (fh - (k + 1))
          case measure => omega
          case rel => exact ⟨k + 1, s + 1, 0, by omega, rfl, rfl, rfl, by go_num, by omega, by omega, by omega, by omega, A', HU⟩
        · have e1' : (t + 1 == py) = true := by simp [e1]
          have A' : Aside (Pl.st py mh (k + 1) = (s, t + 1)) := by show Pl.st py mh (k + 1) = (s, t + 1); rw [Pl.st, A1]; simp [e2]
          have HU := upA_step hU (v := s) (by rw [A1])
          clear A1 A
          have E : Aside (t + 1 = py) := e1
          clear e1
          go_wp2
          go_roundg (fh - (k + 1))
          case measure => omega
          case rel => exact ⟨k + 1, s, t + 1, by omega, rfl, rfl, rfl, by go_num, by omega, by omega, by omega, by omega, A', HU⟩
      · have e1' : (t + 1 == py) = false := by simp [e1]
        have A' : Aside (Pl.st py mh (k + 1) = (s, t + 1)) := by show Pl.st py mh (k + 1) = (s, t + 1); rw [Pl.st, A1]; simp [e1]
        have HU := upA_step hU (v := s) (by rw [A1])
        clear A1 A
        go_wp2
        go_roundg (fh - (k + 1))
        case measure => omega
        case rel => exact ⟨k + 1, s, t + 1, by omega, rfl, rfl, rfl, by go_num, by omega, by omega, by omega, by omega, A', HU⟩
    · have hkk : k = fh := by omega
      subst hkk
      clear hmk1 A g5 g2
      have hmk2 := run_make_row' (P := Try.prog) 62 3 (.int .i64 0) 8 Try.underlying62 Try.info3 rfl .i64 .i64 fw (by omega) (by omega)
      have hsize := hU.size
      have hB := upB_start hU fw px mw
      clear hU hlt
      go_wp2
      clear hmk2 hsize
      go_loopg [9, 12, 13] fw (fun g s9 s12 s13 wr => ∃ (k' : Nat) (s t : Int), k' ≤ fw ∧ g = fw - k' ∧ s12 = .int .i64 s ∧ s9 = .int .i64 t ∧ s13 = .int .i64 k' ∧ 0 ≤ s ∧ s ≤ k' ∧ 0 ≤ t ∧ t ≤ k' ∧ Aside (Pl.st px mw k' = (s, t)) ∧
        UpB w wr #[.slice a n c, .int .i64 pw, .int .i64 ph, .int .i64 ps, .int .i64 px, .int .i64 py] k fw k' py mh px mw)
      case atStart => exact ⟨0, 0, 0, Nat.zero_le _, rfl, rfl, rfl, rfl, by omega, by omega, by omega, by omega, rfl, hB⟩
      case round =>
        clear hB hs0 hs1 ht0 ht1
        obtain ⟨k', s', t', hk', rfl, rfl, rfl, rfl, hs0, hs1, ht0, ht1, A, hU⟩ := hrel
        have g4 : wr.cell? ⟨w.heap.size, 4, none⟩ = some (.int .i64 px) := by simp [World.cell?, hU.box]
        have g1 : wr.cell? ⟨w.heap.size, 1, none⟩ = some (.int .i64 pw) := by simp [World.cell?, hU.box]
        by_cases hlt : k' < fw
        · have gr : wr.cell? ⟨w.heap.size + 2, k', none⟩ = some (.int .i64 0) := by rw [hU.cols.cell hlt]; simp [upTo]
          have gf : wr.frozen? ⟨w.heap.size + 2, k', none⟩ = false := hU.cols.frozen k'
          have A1 := A.out
          by_cases e1 : t' + 1 = px
          · by_cases e2 : s' < mw
            · have e1' : (t' + 1 == px) = true := by simp [e1]
              have A' : Aside (Pl.st px mw (k' + 1) = (s' + 1, 0)) := by show Pl.st px mw (k' + 1) = (s' + 1, 0); rw [Pl.st, A1]; simp [e1, e2]
              have HU := upB_step hU (v := s') (by rw [A1])
              clear A1 A
              have E : Aside (t' + 1 = px) := e1
              clear e1
              go_wp2
              go_roundg (fw - (k' + 1))
              case measure => omega
              case rel => exact ⟨k' + 1, s' + 1, 0, by omega, rfl, rfl, rfl, by go_num, by omega, by omega, by omega, by omega, A', HU⟩
            · have e1' : (t' + 1 == px) = true := by simp [e1]
              have A' : Aside (Pl.st px mw (k' + 1) = (s', t' + 1)) := by show Pl.st px mw (k' + 1) = (s', t' + 1); rw [Pl.st, A1]; simp [e2]
              have HU := upB_step hU (v := s') (by rw [A1])
              clear A1 A
              have E : Aside (t' + 1 = px) := e1
              clear e1
              go_wp2
              go_roundg (fw - (k' + 1))
              case measure => omega
              case rel => exact ⟨k' + 1, s', t' + 1, by omega, rfl, rfl, rfl, by go_num, by omega, by omega, by omega, by omega, A', HU⟩
          · have e1' : (t' + 1 == px) = false := by simp [e1]
            have A' : Aside (Pl.st px mw (k' + 1) = (s', t' + 1)) := by show Pl.st px mw (k' + 1) = (s', t' + 1); rw [Pl.st, A1]; simp [e1]
            have HU := upB_step hU (v := s') (by rw [A1])
            clear A1 A
            go_wp2
            go_roundg (fw - (k' + 1))
            case measure => omega
            case rel => exact ⟨k' + 1, s', t' + 1, by omega, rfl, rfl, rfl, by go_num, by omega, by omega, by omega, by omega, A', HU⟩
        · have hkk : k' = fw := by omega
          subst hkk
          clear A g4 g1
          have hmk3 := run_make_row' (P := Try.prog) 28 5 (.int .u8 0) 1 Try.underlying28 Try.info5 rfl .i64 .i64 (k' * k) (by omega) (by omega)
          rw [show ((k' * k : Nat) : Int) = (k' : Int) * (k : Int) from by simp] at hmk3
          have hsize := hU.size
          have hC := upC_start hU (fun i => f (Pl.at_ pw ph ps px py (i / k') (i % k')).toNat)
          clear hU hlt hmw hmh
          go_wp2
          clear hmk3 hsize hs0 hs1 ht0 ht1
          go_loopg [15, 16] k (fun g s15 s16 wr => ∃ y : Nat, y ≤ k ∧ g = k - y ∧ s15 = .int .i64 y ∧
            UpC w wr #[.slice a n c, .int .i64 pw, .int .i64 ph, .int .i64 ps, .int .i64 px, .int .i64 py] k k' (y * k') py mh px mw (fun i => f (Pl.at_ pw ph ps px py (i / k') (i % k')).toNat))
          case atStart => exact ⟨0, Nat.zero_le _, rfl, rfl, by rw [Nat.zero_mul]; exact hC⟩
          case round =>
            obtain ⟨y, hy, rfl, rfl, hU⟩ := hrel
            clear hC
            by_cases hylt : y < k
            · go_wp2
              go_loopg [16] k' (fun g s16 wr => ∃ x : Nat, x ≤ k' ∧ g = k' - x ∧ s16 = .int .i64 x ∧
                UpC w wr #[.slice a n c, .int .i64 pw, .int .i64 ph, .int .i64 ps, .int .i64 px, .int .i64 py] k k' (y * k' + x) py mh px mw (fun i => f (Pl.at_ pw ph ps px py (i / k') (i % k')).toNat))
              case atStart => exact ⟨0, Nat.zero_le _, rfl, rfl, hU⟩
              case round =>
                clear hU
                obtain ⟨x, hx, rfl, rfl, hU⟩ := hrel
                by_cases hxlt : x < k'
                · have hft : fitsB n pw ph ps px py = true := HF.out (by omega) (by omega)
                  obtain ⟨b, o, r, q, rfl, c1, c2, c3, m0, m1, m2, hat, c4⟩ := up_pixel hU hylt hxlt HS.out hft HMH.out HMW.out
                  have c0 : wr.cell? ⟨w.heap.size, 0, none⟩ = some (.slice (some ⟨b, o, none⟩) n c) := by simp [World.cell?, hU.box]
                  have hin : y * k' + x < k' * k := by
                    have : (y + 1) * k' ≤ k * k' := Nat.mul_le_mul_right _ hylt
                    rw [Nat.succ_mul, Nat.mul_comm k k'] at this
                    omega
                  have c5 : wr.cell? ⟨w.heap.size + 3, y * k' + x, none⟩ = some (.int .u8 0) := by rw [hU.out.cell hin]; simp [upTo]
                  have c6 : wr.frozen? ⟨w.heap.size + 3, y * k' + x, none⟩ = false := hU.out.frozen _
                  have HU := upC_step hU (v := f (Pl.at_ pw ph ps px py y x).toNat) (by
                    show _ = f (Pl.at_ pw ph ps px py ((y * k' + x) / k') ((y * k' + x) % k')).toNat
                    rw [show (y * k' + x) / k' = y from by rw [Nat.mul_comm, Nat.mul_add_div (by omega), Nat.div_eq_of_lt hxlt]; omega, show (y * k' + x) % k' = x from by rw [Nat.mul_comm, Nat.mul_add_mod, Nat.mod_eq_of_lt hxlt]])
                  have hini : (y : Int) * (k' : Int) + (x : Int) < (k' : Int) * (k : Int) := by have := Int.ofNat_lt.2 hin; simpa using this
                  have hyk : (y : Int) * (k' : Int) ≤ 1048576 := by have : y * k' ≤ 1048576 := by omega
                                                                    have := Int.ofNat_le.2 this; simpa using this
                  have hyk0 : 0 ≤ (y : Int) * (k' : Int) := Int.mul_nonneg (by omega) (by omega)
                  generalize f (Pl.at_ pw ph ps px py y x).toNat = v at *
                  clear hat hft hU
                  go_wp2
                  go_region
                  all_goals go_wp2
                  all_goals go_roundg (k' - (x + 1))
                  case measure => omega
                  case rel => exact ⟨x + 1, by omega, rfl, by go_num, HU⟩
                · have hxx : x = k' := by omega
                  subst hxx
                  go_wp2
                  go_roundg (k - (y + 1))
                  case measure => omega
                  case rel => exact ⟨y + 1, by omega, rfl, by go_num, by rw [Nat.succ_mul]; exact hU⟩
            · have hyy : y = k := by omega
              subst hyy
              go_wp2
              go_ret
              refine ⟨rfl, hU.out.congr (fun i hi => ?_), hU.below⟩
              unfold upTo
              rw [Nat.mul_comm y k', if_pos hi]

end Go.Proofs.Qxb6605972a
