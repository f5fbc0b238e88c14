/-
  THE WALK OF '(*decoder).toYCbCr'.
-/
import Derived.Test.Qxb6605972aUp
import Derived.Deep.RegionHeld3
namespace Go.Proofs.Qxb6605972a
open Go.RowKit

namespace Pl
/-- The red, green, blue of a pixel whose samples are s0 .. s3 ('cnt' planes, Adobe's transform 'tr'). -/
def colR (cnt : Nat) (tr s0 s1 s2 s3 : Int) : Int := if cnt = 4 then ink (if tr = 2 then 255 - yccR s0 s1 s2 else s0) s3 else s0
def colG (cnt : Nat) (tr s0 s1 s2 s3 : Int) : Int := if cnt = 4 then ink (if tr = 2 then 255 - yccG s0 s1 s2 else s1) s3 else s1
def colB (cnt : Nat) (tr s0 s1 s2 s3 : Int) : Int := if cnt = 4 then ink (if tr = 2 then 255 - yccB s0 s1 s2 else s2) s3 else s2
end Pl

/-- A plane: its value's parts, and its bytes. -/
structure PlaneD where
  a : Option Addr
  n : Nat
  c : Nat
  pw : Int
  ph : Int
  ps : Int
  px : Int
  py : Int
  f : Nat → Int

/-- The sample of pixel (y, x). -/
def PlaneD.at_ (p : PlaneD) (y x : Nat) : Int := p.f (Pl.at_ p.pw p.ph p.ps p.px p.py y x).toNat

/-- The plane lies at offset o of block b. -/
structure PlaneD.Lies (p : PlaneD) (w : World) (b o : Nat) : Prop where
  c0 : w.cell? ⟨b, o, none⟩ = some (.slice p.a p.n p.c)
  c1 : w.cell? ⟨b, o + 1, none⟩ = some (.int .i64 p.pw)
  c2 : w.cell? ⟨b, o + 2, none⟩ = some (.int .i64 p.ph)
  c3 : w.cell? ⟨b, o + 3, none⟩ = some (.int .i64 p.ps)
  c4 : w.cell? ⟨b, o + 4, none⟩ = some (.int .i64 p.px)
  c5 : w.cell? ⟨b, o + 5, none⟩ = some (.int .i64 p.py)

/-- Its bytes lie in memory. -/
structure PlaneD.Ok (p : PlaneD) (w : World) : Prop where
  seg : Seg w p.a p.n (fun i => .int .u8 (p.f i))
  len : p.n ≤ 1048576
  byte : ∀ i, 0 ≤ p.f i ∧ p.f i ≤ 255

def PlaneD.fits (p : PlaneD) : Bool := fitsB p.n p.pw p.ph p.ps p.px p.py

theorem newPlane_row (pw ph : Nat) (hw : pw * ph ≤ 1048576) (w : World) :
    Calls Try.prog 28 #[.int .i64 pw, .int .i64 ph, .int .i64 1, .int .i64 1] w fun e w' => ∃ B,
      e = .returned (.agg #[.slice (some ⟨B, 0, none⟩) (pw * ph) (pw * ph), .int .i64 pw, .int .i64 ph, .int .i64 pw, .int .i64 1, .int .i64 1]) ∧
        w'.rowIs B 5 (pw * ph) (fun _ => .int .u8 0) ∧ w.heap.size ≤ B ∧ B < w'.heap.size ∧ Below w.heap.size w w' := by
  refine (newPlane_any pw ph hw w).mono ?_
  rintro e w' ⟨rfl, rfl⟩
  refine ⟨w.heap.size + 1, rfl, ?_, by omega, by simp, ((Below.refl _ _).alloc (Nat.le_refl _) _).alloc (by simp) _⟩
  have := World.rowIs_made (w.alloc (.cells #[.slice (some ⟨w.heap.size + 1, 0, none⟩) (pw * ph) (pw * ph), .int .i64 pw, .int .i64 ph, .int .i64 pw, .int .i64 1, .int .i64 1] 34)) (.int .u8 0) (pw * ph) 5
  simpa using this

/-- The new planes' own row: three planes of fw by fh samples. -/
def outCells (b0 b1 b2 fw fh : Nat) : Array Value :=
  #[.slice (some ⟨b0, 0, none⟩) (fw * fh) (fw * fh), .int .i64 fw, .int .i64 fh, .int .i64 fw, .int .i64 1, .int .i64 1,
    .slice (some ⟨b1, 0, none⟩) (fw * fh) (fw * fh), .int .i64 fw, .int .i64 fh, .int .i64 fw, .int .i64 1, .int .i64 1,
    .slice (some ⟨b2, 0, none⟩) (fw * fh) (fw * fh), .int .i64 fw, .int .i64 fh, .int .i64 fw, .int .i64 1, .int .i64 1]

/-- What holds while the pixels are laid: of the pixels the first k are. -/
structure Ty (w wr : World) (b0 b1 b2 bo bs fw fh k : Nat) (g0 g1 g2 : Nat → Int) : Prop where
  below : Below w.heap.size w wr
  lo : w.heap.size ≤ b0
  h01 : b0 < b1
  h12 : b1 < b2
  h2o : b2 < bo
  hos : bo < bs
  size : bs < wr.heap.size
  out : wr.heap[bo]? = some (.cells (outCells b0 b1 b2 fw fh) 34 (0, 0))
  y0 : wr.rowIs b0 5 (fw * fh) (upTo .u8 g0 k)
  y1 : wr.rowIs b1 5 (fw * fh) (upTo .u8 g1 k)
  y2 : wr.rowIs b2 5 (fw * fh) (upTo .u8 g2 k)

/-- The samples' own array: its first i are the pixel's samples. -/
structure Sv (wr : World) (bs i : Nat) (t s : Nat → Int) : Prop where
  row : wr.rowIs bs 71 4 (fun j => .int .u8 (s j))
  eq : ∀ j, j < i → s j = t j
  byte : ∀ j, 0 ≤ s j ∧ s j ≤ 255

theorem ty_start {w w1 w2 w3 : World} {b0 b1 b2 fw fh : Nat} (g0 g1 g2 : Nat → Int) (r0 : w1.rowIs b0 5 (fw * fh) (fun _ => .int .u8 0)) (l0 : w.heap.size ≤ b0) (u0 : b0 < w1.heap.size) (hb0 : Below w.heap.size w w1)
    (r1 : w2.rowIs b1 5 (fw * fh) (fun _ => .int .u8 0)) (l1 : w1.heap.size ≤ b1) (u1 : b1 < w2.heap.size) (hb1 : Below w1.heap.size w1 w2)
    (r2 : w3.rowIs b2 5 (fw * fh) (fun _ => .int .u8 0)) (l2 : w2.heap.size ≤ b2) (u2 : b2 < w3.heap.size) (hb2 : Below w2.heap.size w2 w3) (s : Array Value) :
    Ty w ((w3.alloc (.cells (outCells b0 b1 b2 fw fh) 34)).alloc (.cells s 71)) b0 b1 b2 w3.heap.size (w3.heap.size + 1) fw fh 0 g0 g1 g2 := by
  have e0 : ∀ g : Nat → Int, ∀ i, i < fw * fh → (.int .u8 0 : Value) = upTo .u8 g 0 i := fun g i _ => by simp [upTo]
  have z1 := hb1.size
  have z2 := hb2.size
  have z0 := hb0.size
  refine ⟨?_, l0, by omega, by omega, by omega, by omega, by simp, block_alloc (Deep.blk_alloc_new _ _), ?_, ?_, ?_⟩
  · exact (((hb0.trans (hb1.mono z0)).trans (hb2.mono (by omega))).alloc (by omega) _).alloc (by simp; omega) _
  · exact ((((r0.of_block (hb1.block _ u0)).of_block (hb2.block _ (by omega))).alloc _).alloc _).congr (e0 g0)
  · exact (((r1.of_block (hb2.block _ u1)).alloc _).alloc _).congr (e0 g1)
  · exact ((r2.alloc _).alloc _).congr (e0 g2)

theorem sv_start (W : World) (t : Nat → Int) : Sv (W.alloc (.cells #[.int .u8 0, .int .u8 0, .int .u8 0, .int .u8 0] 71)) W.heap.size 0 t (fun _ => 0) :=
  ⟨World.rowIs_alloc W _ 71 _ (fun i hi => by match i, hi with | 0, _ => rfl | 1, _ => rfl | 2, _ => rfl | 3, _ => rfl), fun _ hj => absurd hj (Nat.not_lt_zero _), fun _ => by simp⟩

theorem Sv.reset {wr : World} {bs i : Nat} {t s t' : Nat → Int} (h : Sv wr bs i t s) : Sv wr bs 0 t' s := ⟨h.row, fun _ hj => absurd hj (Nat.not_lt_zero _), h.byte⟩

theorem Sv.step {wr : World} {bs i : Nat} {t s : Nat → Int} (h : Sv wr bs i t s) {v : Int} (hv : v = t i) (hb : 0 ≤ v ∧ v ≤ 255) :
    Sv (wr.setCell ⟨bs, i, none⟩ (.int .u8 v)) bs (i + 1) t (fun j => if j = i then v else s j) := by
  refine ⟨(h.row.set i _).congr (fun j _ => by by_cases e : j = i <;> simp [e]), fun j hj => ?_, fun j => ?_⟩
  · by_cases e : j = i
    · simp [e, hv]
    · rw [if_neg e]; exact h.eq j (by omega)
  · by_cases e : j = i
    · simp [e, hb]
    · rw [if_neg e]; exact h.byte j

theorem Sv.kept {wr wr' : World} {bs i : Nat} {t s : Nat → Int} (h : Sv wr bs i t s) (e : wr'.heap[bs]? = wr.heap[bs]?) : Sv wr' bs i t s := ⟨h.row.of_block e, h.eq, h.byte⟩

/-- The relation goes on while nothing but the samples' array and newer blocks are written. -/
theorem Ty.kept {w wr wr' : World} {b0 b1 b2 bo bs fw fh k : Nat} {g0 g1 g2 : Nat → Int} (h : Ty w wr b0 b1 b2 bo bs fw fh k g0 g1 g2) (hb : Below bs wr wr') : Ty w wr' b0 b1 b2 bo bs fw fh k g0 g1 g2 := by
  have := h.lo; have := h.h01; have := h.h12; have := h.h2o; have := h.hos; have := hb.size; have := h.size
  exact ⟨h.below.trans (hb.mono (by omega)), h.lo, h.h01, h.h12, h.h2o, h.hos, by omega, (hb.block _ (by omega)).trans h.out, h.y0.of_block (hb.block _ (by omega)), h.y1.of_block (hb.block _ (by omega)), h.y2.of_block (hb.block _ (by omega))⟩

/-- One pixel is laid. -/
theorem Ty.step {w wr : World} {b0 b1 b2 bo bs fw fh k : Nat} {g0 g1 g2 : Nat → Int} (h : Ty w wr b0 b1 b2 bo bs fw fh k g0 g1 g2) {v0 v1 v2 : Int} (e0 : v0 = g0 k) (e1 : v1 = g1 k) (e2 : v2 = g2 k) :
    Ty w (((wr.setCell ⟨b0, k, none⟩ (.int .u8 v0)).setCell ⟨b1, k, none⟩ (.int .u8 v1)).setCell ⟨b2, k, none⟩ (.int .u8 v2)) b0 b1 b2 bo bs fw fh (k + 1) g0 g1 g2 := by
  have := h.lo; have := h.h01; have := h.h12; have := h.h2o; have := h.hos; have := h.size
  refine ⟨((h.below.setCell (by simp; omega) _).setCell (by simp; omega) _).setCell (by simp; omega) _, h.lo, h.h01, h.h12, h.h2o, h.hos, by simp; omega,
    block_setCell (block_setCell (block_setCell h.out (by simp; omega)) (by simp; omega)) (by simp; omega), ?_, ?_, ?_⟩
  · exact ((rowIs_step h.y0 e0).setOther (by simp; omega) _).setOther (by simp; omega) _
  · exact (rowIs_step (h.y1.setOther (by simp; omega) _) e1).setOther (by simp; omega) _
  · exact rowIs_step ((h.y2.setOther (by simp; omega) _).setOther (by simp; omega) _) e2

theorem min_if (a b : Int) : (if b < a then b else a) = min a b := by
  by_cases h : b < a
  · rw [if_pos h]; omega
  · rw [if_neg h]; omega

/-- What the reading of one sample meets. -/
theorem toY_pixel {p : PlaneD} {w wr : World} {bi o6 : Nat} (hl : p.Lies w bi o6) (hok : p.Ok w) (hfit : p.fits = true) (hb : Below w.heap.size w wr) (y x : Nat) :
    ∃ (b o n c : Nat) (pw ph ps px py v r q : Int), v = p.at_ y x ∧ 0 ≤ v ∧ v ≤ 255 ∧
      wr.cell? ⟨bi, o6, none⟩ = some (.slice (some ⟨b, o, none⟩) n c) ∧ wr.cell? ⟨bi, o6 + 1, none⟩ = some (.int .i64 pw) ∧ wr.cell? ⟨bi, o6 + 2, none⟩ = some (.int .i64 ph) ∧
      wr.cell? ⟨bi, o6 + 3, none⟩ = some (.int .i64 ps) ∧ wr.cell? ⟨bi, o6 + 4, none⟩ = some (.int .i64 px) ∧ wr.cell? ⟨bi, o6 + 5, none⟩ = some (.int .i64 py) ∧
      1 ≤ pw ∧ 1 ≤ ph ∧ 1 ≤ px ∧ 1 ≤ py ∧ pw ≤ 1073741824 ∧ ph ≤ 1073741824 ∧ n ≤ 1048576 ∧
      (if ph - 1 < (y : Int) / py then ph - 1 else (y : Int) / py) = r ∧ (if pw - 1 < (x : Int) / px then pw - 1 else (x : Int) / px) = q ∧ 0 ≤ (y : Int) / py ∧ (y : Int) / py ≤ y ∧ 0 ≤ (x : Int) / px ∧ (x : Int) / px ≤ x ∧
      0 ≤ r * ps ∧ 0 ≤ q ∧ r * ps + q < n ∧
      wr.cell? ⟨b, o + (r * ps + q).toNat, none⟩ = some (.int .u8 v) := by
  obtain ⟨h1, h2, h3, h4, h5, h6, h7, h8, h9⟩ := fits_open hfit
  have hat := Pl.at_range h1 h2 h3 h4 h5 h9 y x
  obtain ⟨b, o, hab, hc⟩ := hok.seg (Pl.at_ p.pw p.ph p.ps p.px p.py y x).toNat (by omega)
  have a0 : 0 ≤ (y : Int) / p.py := Int.ediv_nonneg (by omega) (by omega)
  have b0 : 0 ≤ (x : Int) / p.px := Int.ediv_nonneg (by omega) (by omega)
  refine ⟨b, o, p.n, p.c, p.pw, p.ph, p.ps, p.px, p.py, p.at_ y x, min ((y : Int) / p.py) (p.ph - 1), min ((x : Int) / p.px) (p.pw - 1), rfl, (hok.byte _).1, (hok.byte _).2, ?_, cell_later hb hl.c1, cell_later hb hl.c2, cell_later hb hl.c3, cell_later hb hl.c4, cell_later hb hl.c5, h1, h2, h3, h4, h6, h7, hok.len,
    min_if _ _, min_if _ _, a0, Int.ediv_le_self _ (by omega), b0, Int.ediv_le_self _ (by omega), Int.mul_nonneg (by omega) h5, by omega, hat.2, cell_later hb hc⟩
  rw [← hab]; exact cell_later hb hl.c0

/-- The plane's own variable is made. -/
theorem toY_box {w wr : World} {b0 b1 b2 bo bs fw fh k i : Nat} {g0 g1 g2 t sv : Nat → Int} (hT : Ty w wr b0 b1 b2 bo bs fw fh k g0 g1 g2) (hS : Sv wr bs i t sv) (hi : i < 4) {ad : Addr} {v : Value} (hc : wr.cell? ad = some v)
    (x0 x1 x2 x3 x4 x5 : Value) : ∃ W1 B, wr.alloc (.cells #[x0, x1, x2, x3, x4, x5] 34) = W1 ∧ wr.heap.size = B ∧ Ty w W1 b0 b1 b2 bo bs fw fh k g0 g1 g2 ∧ Sv W1 bs i t sv ∧ W1.cell? ad = some v ∧
      W1.cell? ⟨B, 0, none⟩ = some x0 ∧ W1.cell? ⟨B, 1, none⟩ = some x1 ∧ W1.cell? ⟨B, 2, none⟩ = some x2 ∧ W1.cell? ⟨B, 3, none⟩ = some x3 ∧ W1.cell? ⟨B, 4, none⟩ = some x4 ∧ W1.cell? ⟨B, 5, none⟩ = some x5 ∧
      W1.cell? ⟨bs, i, none⟩ = some (.int .u8 (sv i)) ∧ W1.frozen? ⟨bs, i, none⟩ = false ∧ bs < B := by
  have hb : Below wr.heap.size wr (wr.alloc (.cells #[x0, x1, x2, x3, x4, x5] 34)) := (Below.refl _ _).alloc (Nat.le_refl _) _
  have hS1 : Sv (wr.alloc (.cells #[x0, x1, x2, x3, x4, x5] 34)) bs i t sv := hS.kept (hb.block _ hT.size)
  refine ⟨_, _, rfl, rfl, hT.kept (hb.mono (Nat.le_of_lt hT.size)), hS1, cell_later hb hc, by simp, by simp, by simp, by simp, by simp, by simp, hS1.row.cell hi, hS1.row.frozen i, hT.size⟩

theorem ex_set {w : World} {a b : Addr} {v : Value} (h : ∃ u, w.cell? a = some u) : ∃ u, (w.setCell b v).cell? a = some u := by
  obtain ⟨u, hu⟩ := h
  by_cases e : b = a
  · subst e; exact ⟨_, World.cell?_setCell_same _ _ _ hu⟩
  · exact ⟨u, by rw [World.cell?_setCell_other _ _ _ _ e]; exact hu⟩

/-- A pixel is laid: the samples' array stays. -/
theorem Sv.after {w wr : World} {b0 b1 b2 bo bs fw fh k m i : Nat} {g0 g1 g2 t s t' : Nat → Int} (hT : Ty w wr b0 b1 b2 bo bs fw fh k g0 g1 g2) (hS : Sv wr bs i t s) (n : Nat) (v0 v1 v2 : Value) :
    Sv ((((wr.drewN n).setCell ⟨b0, m, none⟩ v0).setCell ⟨b1, m, none⟩ v1).setCell ⟨b2, m, none⟩ v2) bs 0 t' s := by
  have := hT.h01; have := hT.h12; have := hT.h2o; have := hT.hos
  refine hS.reset.kept ?_
  rw [Deep.blk_setCell_other _ _ _ _ (by simp; omega), Deep.blk_setCell_other _ _ _ _ (by simp; omega), Deep.blk_setCell_other _ _ _ _ (by simp; omega)]
  rfl

theorem div_mod_of {y x fw k : Nat} (hk : y * fw + x = k) (hx : x < fw) : k / fw = y ∧ k % fw = x := by
  subst hk
  exact ⟨by rw [Nat.mul_comm, Nat.mul_add_div (by omega), Nat.div_eq_of_lt hx]; omega, by rw [Nat.mul_comm, Nat.mul_add_mod, Nat.mod_eq_of_lt hx]⟩

theorem pixel3 {cR cG cB : Nat → Nat → Int} {p : Nat → PlaneD} {tr : Int} {y x fw k : Nat} {sv : Nat → Int} {s0 s1 s2 s3 : Int}
    (hR : ∀ y x, cR y x = Pl.colR 3 tr ((p 0).at_ y x) ((p 1).at_ y x) ((p 2).at_ y x) ((p 3).at_ y x)) (hG : ∀ y x, cG y x = Pl.colG 3 tr ((p 0).at_ y x) ((p 1).at_ y x) ((p 2).at_ y x) ((p 3).at_ y x))
    (hB : ∀ y x, cB y x = Pl.colB 3 tr ((p 0).at_ y x) ((p 1).at_ y x) ((p 2).at_ y x) ((p 3).at_ y x)) (hk : y * fw + x = k) (hx : x < fw) (hS : ∀ j, j < 3 → sv j = (p j).at_ y x) (E : sv 0 = s0 ∧ sv 1 = s1 ∧ sv 2 = s2 ∧ sv 3 = s3) :
    cR (k / fw) (k % fw) = s0 ∧ cG (k / fw) (k % fw) = s1 ∧ cB (k / fw) (k % fw) = s2 := by
  obtain ⟨ed, em⟩ := div_mod_of hk hx
  obtain ⟨e0, e1, e2, e3⟩ := E
  rw [ed, em, hR, hG, hB, ← hS 0 (by omega), ← hS 1 (by omega), ← hS 2 (by omega), e0, e1, e2]
  simp [Pl.colR, Pl.colG, Pl.colB]

theorem pixel4 {cR cG cB : Nat → Nat → Int} {p : Nat → PlaneD} {tr : Int} {y x fw k : Nat} {sv : Nat → Int} {s0 s1 s2 s3 : Int}
    (hR : ∀ y x, cR y x = Pl.colR 4 tr ((p 0).at_ y x) ((p 1).at_ y x) ((p 2).at_ y x) ((p 3).at_ y x)) (hG : ∀ y x, cG y x = Pl.colG 4 tr ((p 0).at_ y x) ((p 1).at_ y x) ((p 2).at_ y x) ((p 3).at_ y x))
    (hB : ∀ y x, cB y x = Pl.colB 4 tr ((p 0).at_ y x) ((p 1).at_ y x) ((p 2).at_ y x) ((p 3).at_ y x)) (hk : y * fw + x = k) (hx : x < fw) (hS : ∀ j, j < 4 → sv j = (p j).at_ y x) (E : sv 0 = s0 ∧ sv 1 = s1 ∧ sv 2 = s2 ∧ sv 3 = s3) :
    cR (k / fw) (k % fw) = Pl.ink (if tr = 2 then 255 - Pl.yccR s0 s1 s2 else s0) s3 ∧ cG (k / fw) (k % fw) = Pl.ink (if tr = 2 then 255 - Pl.yccG s0 s1 s2 else s1) s3 ∧
      cB (k / fw) (k % fw) = Pl.ink (if tr = 2 then 255 - Pl.yccB s0 s1 s2 else s2) s3 := by
  obtain ⟨ed, em⟩ := div_mod_of hk hx
  obtain ⟨e0, e1, e2, e3⟩ := E
  rw [ed, em, hR, hG, hB, ← hS 0 (by omega), ← hS 1 (by omega), ← hS 2 (by omega), ← hS 3 (by omega), e0, e1, e2, e3]
  simp [Pl.colR, Pl.colG, Pl.colB]

/-- The red, green, blue of pixel (y, x). -/
def cRof (cnt : Nat) (tr : Int) (p : Nat → PlaneD) (y x : Nat) : Int := Pl.colR cnt tr ((p 0).at_ y x) ((p 1).at_ y x) ((p 2).at_ y x) ((p 3).at_ y x)
def cGof (cnt : Nat) (tr : Int) (p : Nat → PlaneD) (y x : Nat) : Int := Pl.colG cnt tr ((p 0).at_ y x) ((p 1).at_ y x) ((p 2).at_ y x) ((p 3).at_ y x)
def cBof (cnt : Nat) (tr : Int) (p : Nat → PlaneD) (y x : Nat) : Int := Pl.colB cnt tr ((p 0).at_ y x) ((p 1).at_ y x) ((p 2).at_ y x) ((p 3).at_ y x)

theorem upTo_full {w : World} {b : Nat} {t : TypeId} {n k : Nat} {kd : IntKind} {g : Nat → Int} (h : w.rowIs b t n (upTo kd g k)) (e : n = k) : w.rowIs b t n (fun i => .int kd (g i)) :=
  h.congr (fun i hi => by unfold upTo; rw [if_pos (by omega)])

set_option maxHeartbeats 4000000 in
set_option maxRecDepth 1000000 in
theorem toY_any (bd bi cnt cc : Nat) (tr : Int) (p : Nat → PlaneD) (fw fh : Nat) (w : World) (hw : fw ≤ 65536) (hh : fh ≤ 65536) (hwh : fw * fh ≤ 1048576) (hcnt : cnt = 3 ∨ cnt = 4)
    (htr : 0 ≤ tr ∧ tr ≤ 255) (hd : w.cell? ⟨bd, 30, none⟩ = some (.int .u8 tr))
    (hlies : ∀ i, i < cnt → (p i).Lies w bi (i * 6)) (hok : ∀ i, i < cnt → (p i).Ok w) (hfit : 0 < fw → 0 < fh → ∀ i, i < cnt → (p i).fits = true) :
    Calls Try.prog 25 #[.pointer (some ⟨bd, 0, none⟩), .int .i64 fw, .int .i64 fh, .slice (some ⟨bi, 0, none⟩) cnt cc] w fun e w' =>
      ∃ b0 b1 b2 bo, e = .returned (.slice (some ⟨bo, 0, none⟩) 3 3) ∧ w'.heap[bo]? = some (.cells (outCells b0 b1 b2 fw fh) 34 (0, 0)) ∧
        w'.rowIs b0 5 (fw * fh) (fun i => .int .u8 (Pl.rgbY (cRof cnt tr p (i / fw) (i % fw)) (cGof cnt tr p (i / fw) (i % fw)) (cBof cnt tr p (i / fw) (i % fw)))) ∧
        w'.rowIs b1 5 (fw * fh) (fun i => .int .u8 (Pl.rgbCb (cRof cnt tr p (i / fw) (i % fw)) (cGof cnt tr p (i / fw) (i % fw)) (cBof cnt tr p (i / fw) (i % fw)))) ∧
        w'.rowIs b2 5 (fw * fh) (fun i => .int .u8 (Pl.rgbCr (cRof cnt tr p (i / fw) (i % fw)) (cGof cnt tr p (i / fw) (i % fw)) (cBof cnt tr p (i / fw) (i % fw)))) ∧ Below w.heap.size w w' := by
  have HR : Hid (∀ y x, cRof cnt tr p y x = Pl.colR cnt tr ((p 0).at_ y x) ((p 1).at_ y x) ((p 2).at_ y x) ((p 3).at_ y x)) := fun _ _ => rfl
  have HG : Hid (∀ y x, cGof cnt tr p y x = Pl.colG cnt tr ((p 0).at_ y x) ((p 1).at_ y x) ((p 2).at_ y x) ((p 3).at_ y x)) := fun _ _ => rfl
  have HB : Hid (∀ y x, cBof cnt tr p y x = Pl.colB cnt tr ((p 0).at_ y x) ((p 1).at_ y x) ((p 2).at_ y x) ((p 3).at_ y x)) := fun _ _ => rfl
  generalize cRof cnt tr p = cR at *
  generalize cGof cnt tr p = cG at *
  generalize cBof cnt tr p = cB at *
  have HL : Hid _ := hlies
  have HO : Hid _ := hok
  have HF : Hid _ := hfit
  clear hlies hok hfit
  go_enter Try.func25, Try.ntmps25
  go_wp2_with fail
  refine (newPlane_row _ _ hwh _).mono ?_
  rintro e w1 ⟨b0, rfl, r0, l0, u0, hb0⟩
  go_wp2_with fail
  refine (newPlane_row _ _ hwh _).mono ?_
  rintro e w2 ⟨b1, rfl, r1, l1, u1, hb1⟩
  go_wp2_with fail
  refine (newPlane_row _ _ hwh _).mono ?_
  rintro e w3 ⟨b2, rfl, r2, l2, u2, hb2⟩
  go_wp2_with fail
  have hT := ty_start (fun i => Pl.rgbY (cR (i / fw) (i % fw)) (cG (i / fw) (i % fw)) (cB (i / fw) (i % fw))) (fun i => Pl.rgbCb (cR (i / fw) (i % fw)) (cG (i / fw) (i % fw)) (cB (i / fw) (i % fw)))
    (fun i => Pl.rgbCr (cR (i / fw) (i % fw)) (cG (i / fw) (i % fw)) (cB (i / fw) (i % fw))) r0 l0 u0 hb0 r1 l1 u1 hb1 r2 l2 u2 hb2 #[.int .u8 0, .int .u8 0, .int .u8 0, .int .u8 0]
  have hS := sv_start (w3.alloc (.cells (outCells b0 b1 b2 fw fh) 34)) (fun _ => 0)
  rw [show (w3.alloc (.cells (outCells b0 b1 b2 fw fh) 34)).heap.size = w3.heap.size + 1 from by simp] at hS
  generalize w3.heap.size + 1 = bs at hT hS ⊢
  generalize w3.heap.size = bo at hT hS ⊢
  clear r0 l0 u0 hb0 r1 l1 u1 hb1 r2 l2 u2 hb2
  go_loopg [30] fh (fun g s30 wr => ∃ y : Nat, y ≤ fh ∧ g = fh - y ∧ s30 = .int .i64 y ∧
    Ty w wr b0 b1 b2 bo bs fw fh (y * fw) (fun i => Pl.rgbY (cR (i / fw) (i % fw)) (cG (i / fw) (i % fw)) (cB (i / fw) (i % fw))) (fun i => Pl.rgbCb (cR (i / fw) (i % fw)) (cG (i / fw) (i % fw)) (cB (i / fw) (i % fw)))
      (fun i => Pl.rgbCr (cR (i / fw) (i % fw)) (cG (i / fw) (i % fw)) (cB (i / fw) (i % fw))) ∧ ∃ sv, Sv wr bs 0 (fun _ => 0) sv)
  case atStart => exact ⟨0, Nat.zero_le _, rfl, rfl, by rw [Nat.zero_mul]; exact hT, _, hS⟩
  case round =>
    clear hT hS
    obtain ⟨y, hy, rfl, rfl, hT, sv, hS⟩ := hrel
    by_cases hylt : y < fh
    · go_wp2
      go_loopg [34] fw (fun g s34 wr => ∃ x : Nat, x ≤ fw ∧ g = fw - x ∧ s34 = .int .i64 x ∧
        Ty w wr b0 b1 b2 bo bs fw fh (y * fw + x) (fun i => Pl.rgbY (cR (i / fw) (i % fw)) (cG (i / fw) (i % fw)) (cB (i / fw) (i % fw))) (fun i => Pl.rgbCb (cR (i / fw) (i % fw)) (cG (i / fw) (i % fw)) (cB (i / fw) (i % fw)))
          (fun i => Pl.rgbCr (cR (i / fw) (i % fw)) (cG (i / fw) (i % fw)) (cB (i / fw) (i % fw))) ∧ ∃ sv, Sv wr bs 0 (fun _ => 0) sv)
      case atStart => exact ⟨0, Nat.zero_le _, rfl, rfl, hT, _, hS⟩
      case round =>
        clear hT hS
        obtain ⟨x, hx, rfl, rfl, hT, sv, hS⟩ := hrel
        by_cases hxlt : x < fw
        · have hin : y * fw + x < fw * fh := by
            have : (y + 1) * fw ≤ fh * fw := Nat.mul_le_mul_right _ hylt
            rw [Nat.succ_mul, Nat.mul_comm fh fw] at this
            omega
          have hini : (y : Int) * (fw : Int) + (x : Int) < (fw : Int) * (fh : Int) := by have := Int.ofNat_lt.2 hin; simpa using this
          have hyk : (y : Int) * (fw : Int) ≤ 1048576 := by
            have h : y * fw ≤ 1048576 := by omega
            have := Int.ofNat_le.2 h
            simpa using this
          have hyk0 : 0 ≤ (y : Int) * (fw : Int) := Int.mul_nonneg (by omega) (by omega)
          have hyk1 : 0 ≤ (y : Int) * (fw : Int) + (x : Int) := by omega
          go_wp2
          have hS0 := hS.reset (t' := fun j => (p j).at_ y x)
          go_loopg [39] cnt (fun g s39 wr => ∃ i : Nat, i ≤ cnt ∧ g = cnt - i ∧ s39 = .int .i64 i ∧
            Ty w wr b0 b1 b2 bo bs fw fh (y * fw + x) (fun i => Pl.rgbY (cR (i / fw) (i % fw)) (cG (i / fw) (i % fw)) (cB (i / fw) (i % fw))) (fun i => Pl.rgbCb (cR (i / fw) (i % fw)) (cG (i / fw) (i % fw)) (cB (i / fw) (i % fw)))
              (fun i => Pl.rgbCr (cR (i / fw) (i % fw)) (cG (i / fw) (i % fw)) (cB (i / fw) (i % fw))) ∧ ∃ sv, Sv wr bs i (fun j => (p j).at_ y x) sv)
          case atStart => exact ⟨0, Nat.zero_le _, rfl, rfl, hT, _, hS0⟩
          case round =>
            clear hT hS hS0
            obtain ⟨i, hi, rfl, rfl, hT, sv, hS⟩ := hrel
            by_cases hilt : i < cnt
            · obtain ⟨b, o, n, c, pw, ph, ps, px, py, v, r, q, hv, v0, v1, c0, c1, c2, c3, c4, c5, d1, d2, d3, d4, d5, d6, d7, er, eq, d8, d9, d10, d11, m0, m1, m2, c6⟩ := toY_pixel (HL.out i hilt) (HO.out i hilt) (HF.out (by omega) (by omega) i hilt) hT.below y x
              have HV : Hid (v = (p i).at_ y x) := hv
              clear hv
              have hi4 : i < 4 := by omega
              go_wp2
              obtain ⟨W1, B, eW, eB, hT1, hS1, k6, k0, k1, k2, k3, k4, k5, j0, j1, jlt⟩ := toY_box hT hS hi4 c6 (.slice (some ⟨b, o, none⟩) n c) (.int .i64 pw) (.int .i64 ph) (.int .i64 ps) (.int .i64 px) (.int .i64 py)
              rw [eW, eB]
              clear eW eB c0 c1 c2 c3 c4 c5 c6 hT hS
              go_region
              all_goals go_wp2
              go_roundg (cnt - (i + 1))
              case measure => omega
              case rel => exact ⟨i + 1, by omega, rfl, by go_num, hT1.kept (Below.setCell (p := ⟨bs, i, none⟩) (Below.refl bs W1) (Nat.le_refl _) _).drew, _, (hS1.step HV.out ⟨v0, v1⟩).kept rfl⟩
            · have hii : i = cnt := by omega
              subst hii
              have x0 : wr.cell? ⟨bs, 0, none⟩ = some (.int .u8 (sv 0)) := hS.row.cell (by omega)
              have x1 : wr.cell? ⟨bs, 1, none⟩ = some (.int .u8 (sv 1)) := hS.row.cell (by omega)
              have x2 : wr.cell? ⟨bs, 2, none⟩ = some (.int .u8 (sv 2)) := hS.row.cell (by omega)
              have x3 : wr.cell? ⟨bs, 3, none⟩ = some (.int .u8 (sv 3)) := hS.row.cell (by omega)
              have y0 := hS.byte 0
              have y1 := hS.byte 1
              have y2 := hS.byte 2
              have y3 := hS.byte 3
              have hd' : wr.cell? ⟨bd, 30, none⟩ = some (.int .u8 tr) := cell_later hT.below hd
              have HS : Hid _ := hS
              have o0 : wr.cell? ⟨bo, 0, none⟩ = some (.slice (some ⟨b0, 0, none⟩) (fw * fh) (fw * fh)) := by simp [World.cell?, hT.out, outCells]
              have o1 : wr.cell? ⟨bo, 6, none⟩ = some (.slice (some ⟨b1, 0, none⟩) (fw * fh) (fw * fh)) := by simp [World.cell?, hT.out, outCells]
              have o2 : wr.cell? ⟨bo, 12, none⟩ = some (.slice (some ⟨b2, 0, none⟩) (fw * fh) (fw * fh)) := by simp [World.cell?, hT.out, outCells]
              obtain ⟨k, hk⟩ : ∃ k : Nat, y * fw + x = k := ⟨_, rfl⟩
              have hkI : (y : Int) * (fw : Int) + (x : Int) = (k : Int) := by rw [← hk]; simp
              rw [hk] at hin hT
              rw [hkI] at hini hyk1
              have hk20 : k ≤ 1048576 := by omega
              have HK : Hid (y * fw + x = k) := hk
              clear hk
              have z0 : wr.cell? ⟨b0, k, none⟩ = some (.int .u8 0) := by rw [hT.y0.cell hin]; simp [upTo]
              have z1 : wr.cell? ⟨b1, k, none⟩ = some (.int .u8 0) := by rw [hT.y1.cell hin]; simp [upTo]
              have z2 : wr.cell? ⟨b2, k, none⟩ = some (.int .u8 0) := by rw [hT.y2.cell hin]; simp [upTo]
              have f0 : wr.frozen? ⟨b0, k, none⟩ = false := hT.y0.frozen _
              have f1 : wr.frozen? ⟨b1, k, none⟩ = false := hT.y1.frozen _
              have f2 : wr.frozen? ⟨b2, k, none⟩ = false := hT.y2.frozen _
              have n01 : b0 ≠ b1 := Nat.ne_of_lt hT.h01
              have n12 : b1 ≠ b2 := Nat.ne_of_lt hT.h12
              have n02 : b0 ≠ b2 := Nat.ne_of_lt (Nat.lt_trans hT.h01 hT.h12)
              have n2o : b2 ≠ bo := Nat.ne_of_lt hT.h2o
              have n1o : b1 ≠ bo := Nat.ne_of_lt (Nat.lt_trans hT.h12 hT.h2o)
              have n0o : b0 ≠ bo := Nat.ne_of_lt (Nat.lt_trans hT.h01 (Nat.lt_trans hT.h12 hT.h2o))
              clear hS hd
              generalize e0 : sv 0 = s0 at *
              generalize e1 : sv 1 = s1 at *
              generalize e2 : sv 2 = s2 at *
              generalize e3 : sv 3 = s3 at *
              have E : Hid (sv 0 = s0 ∧ sv 1 = s1 ∧ sv 2 = s2 ∧ sv 3 = s3) := ⟨e0, e1, e2, e3⟩
              clear e0 e1 e2 e3
              rcases hcnt with rfl | rfl
              · go_wp2
                go_quiet (fail)
                go_wp2
                go_region_held3 (fun w' => w'.cell? ⟨bo, 0, none⟩ = some (.slice (some ⟨b0, 0, none⟩) (fw * fh) (fw * fh)) ∧ w'.cell? ⟨bo, 6, none⟩ = some (.slice (some ⟨b1, 0, none⟩) (fw * fh) (fw * fh)) ∧ w'.cell? ⟨bo, 12, none⟩ = some (.slice (some ⟨b2, 0, none⟩) (fw * fh) (fw * fh)) ∧
                    (∃ v, w'.cell? ⟨b0, k, none⟩ = some v) ∧ (∃ v, w'.cell? ⟨b1, k, none⟩ = some v) ∧ (∃ v, w'.cell? ⟨b2, k, none⟩ = some v) ∧ w'.frozen? ⟨b0, k, none⟩ = false ∧ w'.frozen? ⟨b1, k, none⟩ = false ∧ w'.frozen? ⟨b2, k, none⟩ = false)
                  (refine ⟨?_, ?_, ?_, ?_, ?_, ?_, ?_, ?_, ?_⟩ <;> first | (go_keep; done) | (apply ex_set; go_keep; done) | (apply ex_set; apply ex_set; go_keep; done) | (apply ex_set; apply ex_set; apply ex_set; go_keep; done))
                  (first | (go_at_call 31; refine (rgb_any _ _ _ y0 y1 y2 _).mono ?_; rintro e w' ⟨rfl, rfl⟩))
                have Q : Hid _ := pixel3 HR.out HG.out HB.out HK.out hxlt HS.out.eq E.out
                go_wp2
                go_roundg (fw - (x + 1))
                case measure => omega
                case rel => exact ⟨x + 1, by omega, rfl, by go_num, by rw [← Nat.add_assoc, HK.out]; exact (hT.kept (below_drewN (Below.refl _ _) _)).step (by simp only [Q.out.1, Q.out.2.1, Q.out.2.2]) (by simp only [Q.out.1, Q.out.2.1, Q.out.2.2]) (by simp only [Q.out.1, Q.out.2.1, Q.out.2.2]), _, Sv.after hT HS.out _ _ _ _⟩
              · go_wp2
                go_quiet (fail)
                have q3 : (wr.drewN nq).cell? ⟨bs, 3, none⟩ = some (.int .u8 s3) := x3
                have q0 : (wr.drewN nq).cell? ⟨bs, 0, none⟩ = some (.int .u8 s0) := x0
                have q1 : (wr.drewN nq).cell? ⟨bs, 1, none⟩ = some (.int .u8 s1) := x1
                have q2 : (wr.drewN nq).cell? ⟨bs, 2, none⟩ = some (.int .u8 s2) := x2
                have qd : (wr.drewN nq).cell? ⟨bd, 30, none⟩ = some (.int .u8 tr) := hd'
                have p0 : (wr.drewN nq).cell? ⟨bo, 0, none⟩ = some (.slice (some ⟨b0, 0, none⟩) (fw * fh) (fw * fh)) := o0
                have p1 : (wr.drewN nq).cell? ⟨bo, 6, none⟩ = some (.slice (some ⟨b1, 0, none⟩) (fw * fh) (fw * fh)) := o1
                have p2 : (wr.drewN nq).cell? ⟨bo, 12, none⟩ = some (.slice (some ⟨b2, 0, none⟩) (fw * fh) (fw * fh)) := o2
                have u0 : (wr.drewN nq).cell? ⟨b0, k, none⟩ = some (.int .u8 0) := z0
                have u1 : (wr.drewN nq).cell? ⟨b1, k, none⟩ = some (.int .u8 0) := z1
                have u2 : (wr.drewN nq).cell? ⟨b2, k, none⟩ = some (.int .u8 0) := z2
                have g0 : (wr.drewN nq).frozen? ⟨b0, k, none⟩ = false := f0
                have g1 : (wr.drewN nq).frozen? ⟨b1, k, none⟩ = false := f1
                have g2 : (wr.drewN nq).frozen? ⟨b2, k, none⟩ = false := f2
                have hTq := hT.kept (below_drewN (Below.refl _ _) nq)
                have HSq : Hid (Sv (wr.drewN nq) bs 4 (fun j => (p j).at_ y x) sv) := HS.out.kept rfl
                clear x0 x1 x2 x3 hd' o0 o1 o2 z0 z1 z2 f0 f1 f2 hT HS
                generalize wr.drewN nq = wq at *
                have hT := hTq
                have HS := HSq
                clear hTq HSq
                by_cases htr2 : tr = 2
                · subst htr2
                  have rr : 0 ≤ Pl.yccR s0 s1 s2 ∧ Pl.yccR s0 s1 s2 ≤ 255 := Pl.cl_range _
                  have rg : 0 ≤ Pl.yccG s0 s1 s2 ∧ Pl.yccG s0 s1 s2 ≤ 255 := Pl.cl_range _
                  have rb : 0 ≤ Pl.yccB s0 s1 s2 ∧ Pl.yccB s0 s1 s2 ≤ 255 := Pl.cl_range _
                  have rr' : 0 ≤ 255 - Pl.yccR s0 s1 s2 ∧ 255 - Pl.yccR s0 s1 s2 ≤ 255 := by omega
                  have rg' : 0 ≤ 255 - Pl.yccG s0 s1 s2 ∧ 255 - Pl.yccG s0 s1 s2 ≤ 255 := by omega
                  have rb' : 0 ≤ 255 - Pl.yccB s0 s1 s2 ∧ 255 - Pl.yccB s0 s1 s2 ≤ 255 := by omega
                  go_wp2_with (go_at_call 29; refine (ycc_any _ _ _ y0 y1 y2 _).mono ?_; rintro e w' ⟨rfl, hw'⟩; subst hw')
                  go_quiet ((go_at_call 30; exact Calls.quiet_of_same (ink_any _ _ (by assumption) (by assumption) _)))
                  go_wp2
                  have k0 := Pl.ink_range (255 - Pl.yccR s0 s1 s2) s3 rr' y3
                  have k1 := Pl.ink_range (255 - Pl.yccG s0 s1 s2) s3 rg' y3
                  have k2 := Pl.ink_range (255 - Pl.yccB s0 s1 s2) s3 rb' y3
                  go_region_held3 (fun w' => w'.cell? ⟨bo, 0, none⟩ = some (.slice (some ⟨b0, 0, none⟩) (fw * fh) (fw * fh)) ∧ w'.cell? ⟨bo, 6, none⟩ = some (.slice (some ⟨b1, 0, none⟩) (fw * fh) (fw * fh)) ∧ w'.cell? ⟨bo, 12, none⟩ = some (.slice (some ⟨b2, 0, none⟩) (fw * fh) (fw * fh)) ∧
                      (∃ v, w'.cell? ⟨b0, k, none⟩ = some v) ∧ (∃ v, w'.cell? ⟨b1, k, none⟩ = some v) ∧ (∃ v, w'.cell? ⟨b2, k, none⟩ = some v) ∧ w'.frozen? ⟨b0, k, none⟩ = false ∧ w'.frozen? ⟨b1, k, none⟩ = false ∧ w'.frozen? ⟨b2, k, none⟩ = false)
                    (refine ⟨?_, ?_, ?_, ?_, ?_, ?_, ?_, ?_, ?_⟩ <;> first | (go_keep; done) | (apply ex_set; go_keep; done) | (apply ex_set; apply ex_set; go_keep; done) | (apply ex_set; apply ex_set; apply ex_set; go_keep; done))
                    (first | (go_at_call 31; refine (rgb_any _ _ _ k0 k1 k2 _).mono ?_; rintro e w' ⟨rfl, rfl⟩))
                  have Q0 := pixel4 HR.out HG.out HB.out HK.out hxlt HS.out.eq E.out
                  rw [if_pos rfl, if_pos rfl, if_pos rfl] at Q0
                  have Q : Hid _ := Q0
                  clear Q0
                  go_wp2
                  go_roundg (fw - (x + 1))
                  case measure => omega
                  case rel => exact ⟨x + 1, by omega, rfl, by go_num, by rw [← Nat.add_assoc, HK.out]; exact (hT.kept (below_drewN (Below.refl _ _) _)).step (by simp only [Q.out.1, Q.out.2.1, Q.out.2.2]) (by simp only [Q.out.1, Q.out.2.1, Q.out.2.2]) (by simp only [Q.out.1, Q.out.2.1, Q.out.2.2]), _, Sv.after hT HS.out _ _ _ _⟩
                · have htr2' : (tr == 2) = false := by simp [htr2]
                  have H2 : Hid (¬ tr = 2) := htr2
                  clear htr2
                  go_wp2
                  go_quiet ((go_at_call 30; exact Calls.quiet_of_same (ink_any _ _ (by assumption) (by assumption) _)))
                  go_wp2
                  have k0 := Pl.ink_range s0 s3 y0 y3
                  have k1 := Pl.ink_range s1 s3 y1 y3
                  have k2 := Pl.ink_range s2 s3 y2 y3
                  go_region_held3 (fun w' => w'.cell? ⟨bo, 0, none⟩ = some (.slice (some ⟨b0, 0, none⟩) (fw * fh) (fw * fh)) ∧ w'.cell? ⟨bo, 6, none⟩ = some (.slice (some ⟨b1, 0, none⟩) (fw * fh) (fw * fh)) ∧ w'.cell? ⟨bo, 12, none⟩ = some (.slice (some ⟨b2, 0, none⟩) (fw * fh) (fw * fh)) ∧
                      (∃ v, w'.cell? ⟨b0, k, none⟩ = some v) ∧ (∃ v, w'.cell? ⟨b1, k, none⟩ = some v) ∧ (∃ v, w'.cell? ⟨b2, k, none⟩ = some v) ∧ w'.frozen? ⟨b0, k, none⟩ = false ∧ w'.frozen? ⟨b1, k, none⟩ = false ∧ w'.frozen? ⟨b2, k, none⟩ = false)
                    (refine ⟨?_, ?_, ?_, ?_, ?_, ?_, ?_, ?_, ?_⟩ <;> first | (go_keep; done) | (apply ex_set; go_keep; done) | (apply ex_set; apply ex_set; go_keep; done) | (apply ex_set; apply ex_set; apply ex_set; go_keep; done))
                    (first | (go_at_call 31; refine (rgb_any _ _ _ k0 k1 k2 _).mono ?_; rintro e w' ⟨rfl, rfl⟩))
                  have Q0 := pixel4 HR.out HG.out HB.out HK.out hxlt HS.out.eq E.out
                  rw [if_neg H2.out, if_neg H2.out, if_neg H2.out] at Q0
                  have Q : Hid _ := Q0
                  clear Q0
                  go_wp2
                  go_roundg (fw - (x + 1))
                  case measure => omega
                  case rel => exact ⟨x + 1, by omega, rfl, by go_num, by rw [← Nat.add_assoc, HK.out]; exact (hT.kept (below_drewN (Below.refl _ _) _)).step (by simp only [Q.out.1, Q.out.2.1, Q.out.2.2]) (by simp only [Q.out.1, Q.out.2.1, Q.out.2.2]) (by simp only [Q.out.1, Q.out.2.1, Q.out.2.2]), _, Sv.after hT HS.out _ _ _ _⟩
        · have hxx : x = fw := by omega
          subst hxx
          go_wp2
          go_roundg (fh - (y + 1))
          case measure => omega
          case rel => exact ⟨y + 1, by omega, rfl, by go_num, by rw [Nat.succ_mul]; exact hT, _, hS⟩
    · have hyy : y = fh := by omega
      subst hyy
      go_wp2
      go_ret
      exact ⟨b0, b1, b2, bo, rfl, hT.out, upTo_full hT.y0 (Nat.mul_comm _ _), upTo_full hT.y1 (Nat.mul_comm _ _), upTo_full hT.y2 (Nat.mul_comm _ _), hT.below⟩

end Go.Proofs.Qxb6605972a
