/-
  LEMMAS FOR THE LAWS OVER toYCbCr: planes in memory, rows of planes.
-/
import Derived.Test.Qxb6605972aGrey
namespace Go.Proofs.Qxb6605972a
open Go.RowKit

theorem PlaneD.Lies.later {p : PlaneD} {w w' : World} {b o : Nat} (h : p.Lies w b o) (hb : Below w.heap.size w w') : p.Lies w' b o :=
  ⟨cell_later hb h.c0, cell_later hb h.c1, cell_later hb h.c2, cell_later hb h.c3, cell_later hb h.c4, cell_later hb h.c5⟩
theorem PlaneD.Ok.later {p : PlaneD} {w w' : World} (h : p.Ok w) (hb : Below w.heap.size w w') : p.Ok w' := ⟨h.seg.below hb, h.len, h.byte⟩

/-- A store into a cell that held a slice's header turns no byte. -/
theorem Seg.set_slice {w : World} {a : Option Addr} {n : Nat} {f : Nat → Int} (h : Seg w a n (fun i => .int .u8 (f i))) {A : Addr} {a1 : Option Addr} {n1 c1 : Nat} (hA : w.cell? A = some (.slice a1 n1 c1)) (v : Value) :
    Seg (w.setCell A v) a n (fun i => .int .u8 (f i)) := fun i hi => by
  obtain ⟨b, o, ha, hc⟩ := h i hi
  refine ⟨b, o, ha, ?_⟩
  rw [World.cell?_setCell_other _ _ _ _ (fun e => by rw [e, hc] at hA; simp at hA)]
  exact hc
theorem PlaneD.Ok.set_slice {p : PlaneD} {w : World} (h : p.Ok w) {A : Addr} {a1 : Option Addr} {n1 c1 : Nat} (hA : w.cell? A = some (.slice a1 n1 c1)) (v : Value) : p.Ok (w.setCell A v) := ⟨h.seg.set_slice hA v, h.len, h.byte⟩

/-- The plane with its bytes elsewhere. -/
def PlaneD.moved (p : PlaneD) (a : Option Addr) (c : Nat) : PlaneD := ⟨a, p.n, c, p.pw, p.ph, p.ps, p.px, p.py, p.f⟩
theorem PlaneD.moved_at (p : PlaneD) (a : Option Addr) (c y x : Nat) : (p.moved a c).at_ y x = p.at_ y x := rfl
theorem PlaneD.moved_fits (p : PlaneD) (a : Option Addr) (c : Nat) : (p.moved a c).fits = p.fits := rfl
theorem PlaneD.moved_ok (p : PlaneD) {w w' : World} {a : Option Addr} {c : Nat} (h : p.Ok w) (hs : Seg w' a p.n (fun i => .int .u8 (p.f i))) : (p.moved a c).Ok w' := ⟨hs, h.len, h.byte⟩

theorem PlaneD.Lies.set0 {p : PlaneD} {w : World} {b : Nat} (h : p.Lies w b 0) (a : Option Addr) (c : Nat) : (p.moved a c).Lies (w.setCell ⟨b, 0, none⟩ (.slice a p.n c)) b 0 :=
  ⟨World.cell?_setCell_same _ _ _ h.c0, by rw [World.cell?_setCell_other _ _ _ _ (by simp)]; exact h.c1, by rw [World.cell?_setCell_other _ _ _ _ (by simp)]; exact h.c2, by rw [World.cell?_setCell_other _ _ _ _ (by simp)]; exact h.c3,
    by rw [World.cell?_setCell_other _ _ _ _ (by simp)]; exact h.c4, by rw [World.cell?_setCell_other _ _ _ _ (by simp)]; exact h.c5⟩
theorem PlaneD.Lies.setOther {p : PlaneD} {w : World} {b o : Nat} (h : p.Lies w b o) {A : Addr} (hA : A.block ≠ b) (v : Value) : p.Lies (w.setCell A v) b o :=
  ⟨by rw [World.cell?_setCell_other _ _ _ _ (fun e => hA (by rw [e]))]; exact h.c0, by rw [World.cell?_setCell_other _ _ _ _ (fun e => hA (by rw [e]))]; exact h.c1, by rw [World.cell?_setCell_other _ _ _ _ (fun e => hA (by rw [e]))]; exact h.c2,
    by rw [World.cell?_setCell_other _ _ _ _ (fun e => hA (by rw [e]))]; exact h.c3, by rw [World.cell?_setCell_other _ _ _ _ (fun e => hA (by rw [e]))]; exact h.c4, by rw [World.cell?_setCell_other _ _ _ _ (fun e => hA (by rw [e]))]; exact h.c5⟩

/-- The two planes' own variables. -/
structure GS (w wx : World) (g k : PlaneD) : Prop where
  below : Below w.heap.size w wx
  size : w.heap.size + 1 < wx.heap.size
  gl : g.Lies wx w.heap.size 0
  kl : k.Lies wx (w.heap.size + 1) 0
  gf : wx.frozen? ⟨w.heap.size, 0, none⟩ = false
  kf : wx.frozen? ⟨w.heap.size + 1, 0, none⟩ = false
  go : g.Ok wx
  ko : k.Ok wx

theorem GS.later {w wx wy : World} {g k : PlaneD} (h : GS w wx g k) (hb : Below wx.heap.size wx wy) : GS w wy g k := by
  have z := h.size
  have zb := hb.size
  have z0 := h.below.size
  exact ⟨h.below.trans (hb.mono (by omega)), by omega, h.gl.later hb, h.kl.later hb, (hb.frozen (p := ⟨w.heap.size, 0, none⟩) (by show w.heap.size < _; omega)).trans h.gf, (hb.frozen (p := ⟨w.heap.size + 1, 0, none⟩) (by show w.heap.size + 1 < _; omega)).trans h.kf, h.go.later hb, h.ko.later hb⟩

theorem GS.start (w : World) (g k : PlaneD) (hg : g.Ok w) (hk : k.Ok w) : GS w ((w.alloc (.cells #[.slice g.a g.n g.c, .int .i64 g.pw, .int .i64 g.ph, .int .i64 g.ps, .int .i64 g.px, .int .i64 g.py] 30)).alloc
    (.cells #[.slice k.a k.n k.c, .int .i64 k.pw, .int .i64 k.ph, .int .i64 k.ps, .int .i64 k.px, .int .i64 k.py] 30)) g k := by
  have hb : Below w.heap.size w ((w.alloc (.cells #[.slice g.a g.n g.c, .int .i64 g.pw, .int .i64 g.ph, .int .i64 g.ps, .int .i64 g.px, .int .i64 g.py] 30)).alloc
    (.cells #[.slice k.a k.n k.c, .int .i64 k.pw, .int .i64 k.ph, .int .i64 k.ps, .int .i64 k.px, .int .i64 k.py] 30)) := ((Below.refl _ _).alloc (Nat.le_refl _) _).alloc (by simp) _
  refine ⟨hb, by simp, ?_, ?_, ?_, ?_, hg.later hb, hk.later hb⟩
  · constructor <;> (rw [World.cell?_alloc_old _ _ _ (by simp)]; simp)
  · have := World.size_alloc w (.cells #[.slice g.a g.n g.c, .int .i64 g.pw, .int .i64 g.ph, .int .i64 g.ps, .int .i64 g.px, .int .i64 g.py] 30)
    rw [← this]
    constructor <;> simp
  · rw [World.frozen?_alloc_old _ _ _ (by simp)]; simp
  · have := World.size_alloc w (.cells #[.slice g.a g.n g.c, .int .i64 g.pw, .int .i64 g.ph, .int .i64 g.ps, .int .i64 g.px, .int .i64 g.py] 30)
    rw [← this]
    simp

/-- 'grey.Pix = ..'. -/
theorem GS.setG {w wx : World} {g k : PlaneD} (h : GS w wx g k) {a : Option Addr} {c : Nat} (hs : Seg wx a g.n (fun i => .int .u8 (g.f i))) : GS w (wx.setCell ⟨w.heap.size, 0, none⟩ (.slice a g.n c)) (g.moved a c) k :=
  ⟨h.below.setCell (Nat.le_refl _) _, by simp [h.size], h.gl.set0 a c, h.kl.setOther (by simp) _, by simp [h.gf], by simp [h.kf], PlaneD.moved_ok g h.go (hs.set_slice h.gl.c0 _), h.ko.set_slice h.gl.c0 _⟩
/-- 'black.Pix = ..'. -/
theorem GS.setK {w wx : World} {g k : PlaneD} (h : GS w wx g k) {a : Option Addr} {c : Nat} (hs : Seg wx a k.n (fun i => .int .u8 (k.f i))) : GS w (wx.setCell ⟨w.heap.size + 1, 0, none⟩ (.slice a k.n c)) g (k.moved a c) :=
  ⟨h.below.setCell (by simp) _, by simp [h.size], h.gl.setOther (by simp) _, h.kl.set0 a c, by simp [h.gf], by simp [h.kf], h.go.set_slice h.kl.c0 _, PlaneD.moved_ok k h.ko (hs.set_slice h.kl.c0 _)⟩

/-- A row of planes, by number. -/
def plist (p0 p1 p2 p3 : PlaneD) : Nat → PlaneD
  | 0 => p0
  | 1 => p1
  | 2 => p2
  | _ => p3

theorem lies3 {w : World} {b : Nat} {t : TypeId} {p0 p1 p2 : PlaneD} (p3 : PlaneD)
    (h : w.heap[b]? = some (.cells #[.slice p0.a p0.n p0.c, .int .i64 p0.pw, .int .i64 p0.ph, .int .i64 p0.ps, .int .i64 p0.px, .int .i64 p0.py, .slice p1.a p1.n p1.c, .int .i64 p1.pw, .int .i64 p1.ph, .int .i64 p1.ps, .int .i64 p1.px, .int .i64 p1.py,
      .slice p2.a p2.n p2.c, .int .i64 p2.pw, .int .i64 p2.ph, .int .i64 p2.ps, .int .i64 p2.px, .int .i64 p2.py] t (0, 0))) : ∀ i, i < 3 → (plist p0 p1 p2 p3 i).Lies w b (i * 6) := by
  intro i hi
  match i, hi with
  | 0, _ => constructor <;> simp [World.cell?, h, plist]
  | 1, _ => constructor <;> simp [World.cell?, h, plist]
  | 2, _ => constructor <;> simp [World.cell?, h, plist]

theorem lies4 {w : World} {b : Nat} {t : TypeId} {p0 p1 p2 p3 : PlaneD}
    (h : w.heap[b]? = some (.cells #[.slice p0.a p0.n p0.c, .int .i64 p0.pw, .int .i64 p0.ph, .int .i64 p0.ps, .int .i64 p0.px, .int .i64 p0.py, .slice p1.a p1.n p1.c, .int .i64 p1.pw, .int .i64 p1.ph, .int .i64 p1.ps, .int .i64 p1.px, .int .i64 p1.py,
      .slice p2.a p2.n p2.c, .int .i64 p2.pw, .int .i64 p2.ph, .int .i64 p2.ps, .int .i64 p2.px, .int .i64 p2.py, .slice p3.a p3.n p3.c, .int .i64 p3.pw, .int .i64 p3.ph, .int .i64 p3.ps, .int .i64 p3.px, .int .i64 p3.py] t (0, 0))) :
    ∀ i, i < 4 → (plist p0 p1 p2 p3 i).Lies w b (i * 6) := by
  intro i hi
  match i, hi with
  | 0, _ => constructor <;> simp [World.cell?, h, plist]
  | 1, _ => constructor <;> simp [World.cell?, h, plist]
  | 2, _ => constructor <;> simp [World.cell?, h, plist]
  | 3, _ => constructor <;> simp [World.cell?, h, plist]

/-- What the law expects at pixel (y, x). -/
def greyV (four : Bool) (tr : Int) (g k : PlaneD) (y x : Nat) : Int :=
  match four with
  | true => Pl.ink (if tr = 2 then 255 - g.at_ y x else g.at_ y x) (k.at_ y x)
  | false => g.at_ y x

/-- What holds once the planes are handed over: cnt of them, each in memory, every pixel's colour neutral. -/
structure Handing (wx : World) (v : Value) (tr : Int) (fw fh : Nat) (V : Nat → Nat → Int) (bi cnt : Nat) (p : Nat → PlaneD) : Prop where
  val : v = .slice (some ⟨bi, 0, none⟩) cnt cnt
  cnt34 : cnt = 3 ∨ cnt = 4
  lies : ∀ i, i < cnt → (p i).Lies wx bi (i * 6)
  ok : ∀ i, i < cnt → (p i).Ok wx
  fits : 0 < fw → 0 < fh → ∀ i, i < cnt → (p i).fits = true
  neutral : ∀ y x, y < fh → x < fw → cRof cnt tr p y x = V y x ∧ cGof cnt tr p y x = V y x ∧ cBof cnt tr p y x = V y x

theorem handing3 {wx : World} {b fw fh : Nat} {t : TypeId} {tr : Int} {g : PlaneD} (k : PlaneD) (hok : g.Ok wx) (hfit : 0 < fw → 0 < fh → g.fits = true)
    (h : wx.heap[b]? = some (.cells #[.slice g.a g.n g.c, .int .i64 g.pw, .int .i64 g.ph, .int .i64 g.ps, .int .i64 g.px, .int .i64 g.py, .slice g.a g.n g.c, .int .i64 g.pw, .int .i64 g.ph, .int .i64 g.ps, .int .i64 g.px, .int .i64 g.py,
      .slice g.a g.n g.c, .int .i64 g.pw, .int .i64 g.ph, .int .i64 g.ps, .int .i64 g.px, .int .i64 g.py] t (0, 0))) :
    Handing wx (.slice (some ⟨b, 0, none⟩) 3 3) tr fw fh (greyV false tr g k) b 3 (plist g g g g) := by
  refine ⟨rfl, Or.inl rfl, lies3 g h, ?_, ?_, ?_⟩
  · intro i hi
    match i, hi with
    | 0, _ => exact hok
    | 1, _ => exact hok
    | 2, _ => exact hok
  · intro h1 h2 i hi
    match i, hi with
    | 0, _ => exact hfit h1 h2
    | 1, _ => exact hfit h1 h2
    | 2, _ => exact hfit h1 h2
  · intro y x _ _
    simp [cRof, cGof, cBof, Pl.colR, Pl.colG, Pl.colB, plist, greyV]

theorem handing4 {wx : World} {b fw fh : Nat} {t : TypeId} {tr : Int} {g k : PlaneD} (htr : ¬ tr = 2) (hok : g.Ok wx) (hkk : k.Ok wx) (hfit : 0 < fw → 0 < fh → g.fits = true) (hfk : 0 < fw → 0 < fh → k.fits = true)
    (h : wx.heap[b]? = some (.cells #[.slice g.a g.n g.c, .int .i64 g.pw, .int .i64 g.ph, .int .i64 g.ps, .int .i64 g.px, .int .i64 g.py, .slice g.a g.n g.c, .int .i64 g.pw, .int .i64 g.ph, .int .i64 g.ps, .int .i64 g.px, .int .i64 g.py,
      .slice g.a g.n g.c, .int .i64 g.pw, .int .i64 g.ph, .int .i64 g.ps, .int .i64 g.px, .int .i64 g.py, .slice k.a k.n k.c, .int .i64 k.pw, .int .i64 k.ph, .int .i64 k.ps, .int .i64 k.px, .int .i64 k.py] t (0, 0))) :
    Handing wx (.slice (some ⟨b, 0, none⟩) 4 4) tr fw fh (greyV true tr g k) b 4 (plist g g g k) := by
  refine ⟨rfl, Or.inr rfl, lies4 h, ?_, ?_, ?_⟩
  · intro i hi
    match i, hi with
    | 0, _ => exact hok
    | 1, _ => exact hok
    | 2, _ => exact hok
    | 3, _ => exact hkk
  · intro h1 h2 i hi
    match i, hi with
    | 0, _ => exact hfit h1 h2
    | 1, _ => exact hfit h1 h2
    | 2, _ => exact hfit h1 h2
    | 3, _ => exact hfk h1 h2
  · intro y x _ _
    simp [cRof, cGof, cBof, Pl.colR, Pl.colG, Pl.colB, plist, greyV, htr]

/-- The flat plane: one sample, 128. -/
def flatP (fb : Nat) : PlaneD := ⟨some ⟨fb, 0, none⟩, 1, 1, 1, 1, 1, 1, 1, fun _ => 128⟩

theorem flat_ok {w : World} {fb : Nat} (h : w.cell? ⟨fb, 0, none⟩ = some (.int .u8 128)) : (flatP fb).Ok w :=
  ⟨fun i hi => ⟨fb, 0, rfl, by
      have hi' : i < 1 := hi
      have : i = 0 := by omega
      subst this
      exact h⟩, by simp [flatP], fun _ => by simp [flatP]⟩

theorem handingY {wx : World} {b fb fw fh : Nat} {t : TypeId} {g k : PlaneD} (hok : g.Ok wx) (hkk : k.Ok wx) (hfit : 0 < fw → 0 < fh → g.fits = true) (hfk : 0 < fw → 0 < fh → k.fits = true) (hfl : wx.cell? ⟨fb, 0, none⟩ = some (.int .u8 128))
    (h : wx.heap[b]? = some (.cells #[.slice g.a g.n g.c, .int .i64 g.pw, .int .i64 g.ph, .int .i64 g.ps, .int .i64 g.px, .int .i64 g.py, .slice (some ⟨fb, 0, none⟩) 1 1, .int .i64 1, .int .i64 1, .int .i64 1, .int .i64 1, .int .i64 1,
      .slice (some ⟨fb, 0, none⟩) 1 1, .int .i64 1, .int .i64 1, .int .i64 1, .int .i64 1, .int .i64 1, .slice k.a k.n k.c, .int .i64 k.pw, .int .i64 k.ph, .int .i64 k.ps, .int .i64 k.px, .int .i64 k.py] t (0, 0))) :
    Handing wx (.slice (some ⟨b, 0, none⟩) 4 4) 2 fw fh (greyV true 2 g k) b 4 (plist g (flatP fb) (flatP fb) k) := by
  have hff : (flatP fb).fits = true := by simp [PlaneD.fits, flatP, fitsB]
  refine ⟨rfl, Or.inr rfl, lies4 (p0 := g) (p1 := flatP fb) (p2 := flatP fb) (p3 := k) h, ?_, ?_, ?_⟩
  · intro i hi
    match i, hi with
    | 0, _ => exact hok
    | 1, _ => exact flat_ok hfl
    | 2, _ => exact flat_ok hfl
    | 3, _ => exact hkk
  · intro h1 h2 i hi
    match i, hi with
    | 0, _ => exact hfit h1 h2
    | 1, _ => exact hff
    | 2, _ => exact hff
    | 3, _ => exact hfk h1 h2
  · intro y x _ _
    have hb := hok.byte (Pl.at_ g.pw g.ph g.ps g.px g.py y x).toNat
    have e1 : (flatP fb).at_ y x = 128 := rfl
    have e2 : 0 ≤ g.at_ y x ∧ g.at_ y x ≤ 255 := hb
    simp [cRof, cGof, cBof, Pl.colR, Pl.colG, Pl.colB, plist, greyV, e1, Pl.grey_R _ e2, Pl.grey_G _ e2, Pl.grey_B _ e2]

end Go.Proofs.Qxb6605972a
