/-
  THE LAW 'FnToYCbCrIsTheUpsampledSamplesInYCbCr': from the converted planes to the last loop.
-/
import Derived.Test.Qxb6605972aFiveLast
import Derived.Deep.CutBlock
namespace Go.Proofs.Qxb6605972a
open Go.RowKit

theorem Try.info28 : (Try.prog.info? 28).map (fun i => (i.zero, i.size, i.bytes)) = some (some (.slice none 0 0), 1, 24) := by kernel_rfl

/-- The pixels' block of new plane c. -/
def bsel (b0 b1 b2 : Nat) : Nat → Nat
  | 0 => b0
  | 1 => b1
  | _ => b2

theorem outc {w : World} {bo b0 b1 b2 fw fh c : Nat} (h : w.heap[bo]? = some (.cells (outCells b0 b1 b2 fw fh) 34 (0, 0))) (hc : c < 3) : w.cell? ⟨bo, c * 6, none⟩ = some (.slice (some ⟨bsel b0 b1 b2 c, 0, none⟩) (fw * fh) (fw * fh)) ∧ w.cell? ⟨bo, c * 6 + 1, none⟩ = some (.int .i64 fw) ∧ w.cell? ⟨bo, c * 6 + 2, none⟩ = some (.int .i64 fh) ∧
    w.cell? ⟨bo, c * 6 + 3, none⟩ = some (.int .i64 fw) ∧ w.cell? ⟨bo, c * 6 + 4, none⟩ = some (.int .i64 1) ∧ w.cell? ⟨bo, c * 6 + 5, none⟩ = some (.int .i64 1) := by
  match c, hc with
  | 0, _ => refine ⟨?_, ?_, ?_, ?_, ?_, ?_⟩ <;> simp [World.cell?, h, outCells, bsel]
  | 1, _ => refine ⟨?_, ?_, ?_, ?_, ?_, ?_⟩ <;> simp [World.cell?, h, outCells, bsel]
  | 2, _ => refine ⟨?_, ?_, ?_, ?_, ?_, ?_⟩ <;> simp [World.cell?, h, outCells, bsel]

/-- 'pix' while it is filled. -/
structure PixS (wc wr : World) (PX c b0 b1 b2 N : Nat) : Prop where
  below : Below PX wc wr
  room : Room wr PX 3
  cells : ∀ j, j < c → wr.cell? ⟨PX, j, none⟩ = some (.slice (some ⟨bsel b0 b1 b2 j, 0, none⟩) N N)

theorem pix_start (W : World) (b0 b1 b2 N : Nat) (t : TypeId) : PixS W (W.alloc (.cells #[.slice none 0 0, .slice none 0 0, .slice none 0 0] t)) W.heap.size 0 b0 b1 b2 N := by
  refine ⟨(Below.refl _ _).alloc (Nat.le_refl _) _, fun j hj => ⟨?_, by simp⟩, fun j hj => absurd hj (Nat.not_lt_zero _)⟩
  rw [World.cell?_alloc_new]
  exact ⟨_, Array.getElem?_eq_getElem (by simpa using hj)⟩

theorem PixS.step {wc wr w2 : World} {PX c b0 b1 b2 N : Nat} (h : PixS wc wr PX c b0 b1 b2 N) (hc : c < 3) (hb : Below wr.heap.size wr w2) : PixS wc (w2.setCell ⟨PX, c, none⟩ (.slice (some ⟨bsel b0 b1 b2 c, 0, none⟩) N N)) PX (c + 1) b0 b1 b2 N := by
  have hR := h.room.later hb
  have hlt : PX < wr.heap.size := by
    obtain ⟨⟨v, hv⟩, _⟩ := h.room 0 (by omega)
    exact World.block_lt_of_cell? _ _ hv
  refine ⟨(h.below.trans (hb.mono (by omega))).setCell (Nat.le_refl _) _, hR.set _ _, fun j hj => ?_⟩
  by_cases e : j = c
  · subst e; exact cell_at hR hc _
  · rw [cell_off (by omega)]; exact cell_later hb (h.cells j (by omega))

/-- 'full' while it is filled. -/
structure FullS (wc wr : World) (FU cnt k fw N : Nat) (fb : Nat → Nat) (q : Nat → PlaneD) : Prop where
  below : Below FU wc wr
  room : Room wr FU cnt
  cells : ∀ j, j < k → wr.cell? ⟨FU, j, none⟩ = some (.slice (some ⟨fb j, 0, none⟩) N N)
  rows : ∀ j, j < k → wr.rowIs (fb j) 5 N (fun i => .int .u8 ((q j).at_ (i / fw) (i % fw)))
  apart : ∀ j, j < k → FU < fb j

theorem full_start (W : World) (cnt fw N : Nat) (q : Nat → PlaneD) : FullS W (W.alloc (.cells (madeCells #[.slice none 0 0] cnt) 28)) W.heap.size cnt 0 fw N (fun _ => 0) q :=
  ⟨(Below.refl _ _).alloc (Nat.le_refl _) _, Room.made _ _ _ _, fun _ hj => absurd hj (Nat.not_lt_zero _), fun _ hj => absurd hj (Nat.not_lt_zero _), fun _ hj => absurd hj (Nat.not_lt_zero _)⟩

theorem FullS.step {wc wr w2 : World} {FU cnt k fw N nb : Nat} {fb : Nat → Nat} {q : Nat → PlaneD} (h : FullS wc wr FU cnt k fw N fb q) (hk : k < cnt) (hb : Below wr.heap.size wr w2) (hn : wr.heap.size ≤ nb)
    (hr : w2.rowIs nb 5 N (fun i => .int .u8 ((q k).at_ (i / fw) (i % fw)))) : FullS wc (w2.setCell ⟨FU, k, none⟩ (.slice (some ⟨nb, 0, none⟩) N N)) FU cnt (k + 1) fw N (fun j => if j = k then nb else fb j) q := by
  have hR := h.room.later hb
  have hlt : FU < wr.heap.size := by
    obtain ⟨⟨v, hv⟩, _⟩ := h.room 0 (by omega)
    exact World.block_lt_of_cell? _ _ hv
  refine ⟨(h.below.trans (hb.mono (by omega))).setCell (Nat.le_refl _) _, hR.set _ _, fun j hj => ?_, fun j hj => ?_, fun j hj => ?_⟩
  · by_cases e : j = k
    · subst e; rw [if_pos rfl]; exact cell_at hR hk _
    · rw [if_neg e, cell_off (by omega)]; exact cell_later hb (h.cells j (by omega))
  · by_cases e : j = k
    · subst e; rw [if_pos rfl]; exact hr.setOther (by show nb ≠ FU; omega) _
    · rw [if_neg e]
      have := h.apart j (by omega)
      exact (row_later hb (h.rows j (by omega))).setOther (by show fb j ≠ FU; omega) _
  · by_cases e : j = k
    · subst e; rw [if_pos rfl]; omega
    · rw [if_neg e]; exact h.apart j (by omega)

set_option maxHeartbeats 8000000 in
set_option maxRecDepth 1000000 in
theorem five_tail (tr : Int) (fw fh cnt OB bo b0 b1 b2 : Nat) (q : Nat → PlaneD) (w wc : World) (hw : fw ≤ 65536) (hh : fh ≤ 65536) (hwh : fw * fh ≤ 1048576) (hcnt : cnt = 3 ∨ cnt = 4) (hb : Below w.heap.size w wc)
    (ho : wc.heap[bo]? = some (.cells (outCells b0 b1 b2 fw fh) 34 (0, 0)))
    (r0 : wc.rowIs b0 5 (fw * fh) (fun i => .int .u8 (Pl.rgbY (cRof cnt tr q (i / fw) (i % fw)) (cGof cnt tr q (i / fw) (i % fw)) (cBof cnt tr q (i / fw) (i % fw)))))
    (r1 : wc.rowIs b1 5 (fw * fh) (fun i => .int .u8 (Pl.rgbCb (cRof cnt tr q (i / fw) (i % fw)) (cGof cnt tr q (i / fw) (i % fw)) (cBof cnt tr q (i / fw) (i % fw)))))
    (r2 : wc.rowIs b2 5 (fw * fh) (fun i => .int .u8 (Pl.rgbCr (cRof cnt tr q (i / fw) (i % fw)) (cGof cnt tr q (i / fw) (i % fw)) (cBof cnt tr q (i / fw) (i % fw)))))
    (hl : ∀ j, j < cnt → (q j).Lies wc OB (j * 6)) (hok : ∀ j, j < cnt → (q j).Ok wc) (hfit : 0 < fw → 0 < fh → ∀ j, j < cnt → (q j).fits = true)
    (c4 c5 c6 c7 c8 c9 c10 c11 c13 c14 c15 c16 c17 c18 c19 c20 c21 c22 c23 c24 c25 c26 c27 c28 c29 c30 c31 c32 c33 c34 c35 c36 c37 c38 c39 c40 c41 c42 c43 c44 c45 c46 c47 c48 c49 c50 c51 c52 c53 c54 c55 c56 c57 c58 c59 c60 c61 c62 c63 c64 c65 c66 c67 c68 c69 c70 c71 c72 c73 c74 c75 c76 c77 c78 c79 c80 c81 c82 c83 c84 c85 c86 c87 c88 c89 c90 c91 c92 c93 c94 c95 c96 c97 c98 c99 c100 c101 c102 c103 c104 c105 c106 c107 c108 c109 c110 c111 c112 c113 c114 c115 c116 c117 c118 c119 c120 c121 c122 c123 c124 c125 c126 c127 c128 c129 c130 c131 c132 c133 c134 c135 c136 c137 c138 c139 c140 c141 c142 c143 c144 c145 c146 c147 c148 c149 c150 c151 c152 c153 c154 c155 c156 c157 c158 c159 c160 c161 c162 c163 c164 c165 c166 c167 c168 c169 c170 c171 c172 c173 c174 c175 c176 c177 c178 c179 c180 c181 c182 c183 c184 c185 c186 c187 c188 c189 c190 c191 c192 c193 c194 c195 c196 c197 c198 c199 c200 c201 c202 c203 c204 c205 c206 c207 c208 c209 c210 c211 c212 c213 c214 c215 c216 c217 c218 c219 c220 c221 c222 c223 c224 c225 c226 c227 c228 c229 c230 c231 c232 c233 c234 c235 c236 c237 c238 c239 c240 c241 c242 c243 c244 c245 c246 c247 c248 : Value) :
    Code.wp Try.prog (spine 11 (Try.f5.body.getD .skip)) (bodyPost Try.prog Try.f5 fun e w' => e = .returned (.bool true) ∧ Below w.heap.size w w') ⟨#[.int .u8 tr, .int .i64 fw, .int .i64 fh, .slice (some ⟨OB, 0, none⟩) cnt cnt, c4, c5, c6, c7, c8, c9, c10, c11, .slice (some ⟨bo, 0, none⟩) 3 3, c13, c14, c15, c16, c17, c18, c19, c20, c21, c22, c23, c24, c25, c26, c27, c28, c29, c30, c31, c32, c33, c34, c35, c36, c37, c38, c39, c40, c41, c42, c43, c44, c45, c46, c47, c48, c49, c50, c51, c52, c53, c54, c55, c56, c57, c58, c59, c60, c61, c62, c63, c64, c65, c66, c67, c68, c69, c70, c71, c72, c73, c74, c75, c76, c77, c78, c79, c80, c81, c82, c83, c84, c85, c86, c87, c88, c89, c90, c91, c92, c93, c94, c95, c96, c97, c98, c99, c100, c101, c102, c103, c104, c105, c106, c107, c108, c109, c110, c111, c112, c113, c114, c115, c116, c117, c118, c119, c120, c121, c122, c123, c124, c125, c126, c127, c128, c129, c130, c131, c132, c133, c134, c135, c136, c137, c138, c139, c140, c141, c142, c143, c144, c145, c146, c147, c148, c149, c150, c151, c152, c153, c154, c155, c156, c157, c158, c159, c160, c161, c162, c163, c164, c165, c166, c167, c168, c169, c170, c171, c172, c173, c174, c175, c176, c177, c178, c179, c180, c181, c182, c183, c184, c185, c186, c187, c188, c189, c190, c191, c192, c193, c194, c195, c196, c197, c198, c199, c200, c201, c202, c203, c204, c205, c206, c207, c208, c209, c210, c211, c212, c213, c214, c215, c216, c217, c218, c219, c220, c221, c222, c223, c224, c225, c226, c227, c228, c229, c230, c231, c232, c233, c234, c235, c236, c237, c238, c239, c240, c241, c242, c243, c244, c245, c246, c247, c248], []⟩ wc := by
  conv => arg 2; whnf
  obtain ⟨N, hN⟩ : ∃ N : Nat, fw * fh = N := ⟨_, rfl⟩
  have hNI : (fw : Int) * (fh : Int) = (N : Int) := by rw [← hN]; simp
  have hN20 : N ≤ 1048576 := by omega
  rw [hN] at r0 r1 r2
  have R0 : Hid _ := r0
  have R1 : Hid _ := r1
  have R2 : Hid _ := r2
  have HL : Hid _ := hl
  have HO : Hid _ := hok
  have HF : Hid _ := hfit
  have HN : Hid (fw * fh = N) := hN
  clear r0 r1 r2 hl hok hfit hN
  go_wp2
  have hP0 := pix_start wc b0 b1 b2 N 39
  generalize hPX : wc.heap.size = PX at *
  go_loopg [15] 3 (fun gg s15 wr => ∃ c : Nat, c ≤ 3 ∧ gg = 3 - c ∧ s15 = .int .i64 c ∧ PixS wc wr PX c b0 b1 b2 N)
  case atStart => exact ⟨0, by omega, rfl, rfl, hP0⟩
  case round =>
    clear hP0
    obtain ⟨c, hc, rfl, rfl, hP⟩ := hrel
    by_cases hlt : c < 3
    · have hcI : (c : Int) < 3 := by omega
      have ho' : wr.heap[bo]? = some (.cells (outCells b0 b1 b2 fw fh) 34 (0, 0)) := by
        rw [hP.below.block bo (by rw [← hPX]; exact (Array.getElem?_eq_some_iff.1 ho).1)]; exact ho
      obtain ⟨o0, o1, o2, o3, o4, o5⟩ := outc ho' hlt
      have HPX : Hid (wc.heap.size = PX) := hPX
      clear hPX ho'
      go_wp2_with fail
      refine (full_any _ _ _ _ hwh _).mono ?_
      rintro e w2 ⟨rfl, hb2⟩
      obtain ⟨⟨v0, k0⟩, f0⟩ := (hP.room.later hb2) c hlt
      clear o0 o1 o2 o3 o4 o5
      have hPn := hP.step hlt hb2
      rw [← HN.out] at hPn
      go_wp2
      go_roundg (3 - (c + 1))
      case measure => omega
      case rel => exact ⟨c + 1, by omega, rfl, by go_num, by rw [← HN.out]; exact hPn⟩
    · have hcc : c = 3 := by omega
      subst hcc
      have hmk := run_make_row' (P := Try.prog) 42 28 (.slice none 0 0) 24 Try.underlying42 Try.info28 rfl .i64 .i64 cnt (by omega) (by omega)
      have hbW : Below wc.heap.size wc wr := by rw [hPX]; exact hP.below
      have hlW : ∀ j, j < cnt → (q j).Lies wr OB (j * 6) := fun j hj => (HL.out j hj).later hbW
      have hoW : ∀ j, j < cnt → (q j).Ok wr := fun j hj => (HO.out j hj).later hbW
      have q0 : Hid _ := row_later hbW R0.out
      have q1 : Hid _ := row_later hbW R1.out
      have q2 : Hid _ := row_later hbW R2.out
      have hbw : Below w.heap.size w wr := hb.trans (hbW.mono hb.size)
      have hx0 : wr.cell? ⟨PX, 0, none⟩ = some (.slice (some ⟨b0, 0, none⟩) N N) := hP.cells 0 (by omega)
      have hx1 : wr.cell? ⟨PX, 1, none⟩ = some (.slice (some ⟨b1, 0, none⟩) N N) := hP.cells 1 (by omega)
      have hx2 : wr.cell? ⟨PX, 2, none⟩ = some (.slice (some ⟨b2, 0, none⟩) N N) := hP.cells 2 (by omega)
      have HLW : Hid _ := hlW
      have HOW : Hid _ := hoW
      have HX : Hid _ := And.intro hx0 (And.intro hx1 hx2)
      clear hlW hoW hx0 hx1 hx2 R0 R1 R2 hbW hP HL HO hPX hlt ho
      go_upto_block 6 with fail
      clear hmk
      obtain ⟨W4, hW4⟩ : ∃ W4, W4 = wr := ⟨wr, rfl⟩
      subst hW4
      have hF0 := full_start W4 cnt fw N q
      generalize hFU : W4.heap.size = FU at *
      go_cut [] from 31 (fun wx => ∃ fb, FullS W4 wx FU cnt cnt fw N fb q)
      case first =>
        go_wp2
        go_loopg [145] cnt (fun gg s145 wr => ∃ (k : Nat) (fb : Nat → Nat), k ≤ cnt ∧ gg = cnt - k ∧ s145 = .int .i64 k ∧ FullS W4 wr FU cnt k fw N fb q)
        case atStart => exact ⟨0, _, Nat.zero_le _, rfl, rfl, hF0⟩
        case round =>
          clear hF0
          obtain ⟨k, fb, hk, rfl, rfl, hFS⟩ := hrel
          have hbF : Below W4.heap.size W4 wr := by rw [hFU]; exact hFS.below
          by_cases hlt : k < cnt
          · have hl := (HLW.out k hlt).later hbF
            have hok := (HOW.out k hlt).later hbF
            have c0 := hl.c0
            have c1 := hl.c1
            have c2 := hl.c2
            have c3 := hl.c3
            have c4 := hl.c4
            have c5 := hl.c5
            have HOK : Hid _ := hok
            clear hl hok
            have HFU : Hid (W4.heap.size = FU) := hFU
            clear hFU
            go_wp2_with fail
            refine (up_any (q k).a (q k).n (q k).c (q k).pw (q k).ph (q k).ps (q k).px (q k).py fw fh (q k).f _ hw hh hwh HOK.out.len HOK.out.seg (fun h1 h2 => HF.out h1 h2 k hlt)).mono ?_
            rintro e w2 ⟨rfl, hr, hb2⟩
            rw [HN.out] at hr ⊢
            obtain ⟨⟨v0, k0⟩, f0⟩ := (hFS.room.later hb2) k hlt
            have hFn := hFS.step hlt hb2 (by omega : wr.heap.size ≤ wr.heap.size + 3) hr
            have HR : Hid _ := hr
            clear c0 c1 c2 c3 c4 c5 hr
            go_wp2
            go_roundg (cnt - (k + 1))
            case measure => omega
            case rel => exact ⟨k + 1, _, by omega, rfl, by go_num, hFn⟩
          · have hkk : k = cnt := by omega
            subst hkk
            go_wp2
            go_meet
            case rel => exact ⟨fb, hFS⟩
      case rest =>
        clear hF0
        obtain ⟨fb, hFS⟩ := hcut
        have hbF : Below W4.heap.size W4 wc := by rw [hFU]; exact hFS.below
        have hLS : LastS wc tr fw N cnt PX FU b0 b1 b2 fb q := ⟨cell_later hbF HX.out.1, cell_later hbF HX.out.2.1, cell_later hbF HX.out.2.2, row_later hbF q0.out, row_later hbF q1.out, row_later hbF q2.out, hFS.cells, hFS.rows, fun t ht y x => (HOW.out t ht).byte _⟩
        refine ‹∀ (a : Act) (w : World), Code.wp Try.prog _ _ a w → _› _ _ ?_
        exact five_last tr fw N cnt OB PX FU b0 b1 b2 fb q w wc hN20 hcnt (hbw.trans (hbF.mono hbw.size)) hLS _ _ _ _ _ _ _ _ _ _ _ _ _ _ _ _ _ _ _ _ _ _ _ _ _ _ _ _ _ _ _ _ _ _ _ _ _ _ _ _ _ _ _ _ _ _ _ _ _ _ _ _ _ _ _ _ _ _ _ _ _ _ _ _ _ _ _ _ _ _ _ _ _ _ _ _ _ _ _ _ _ _ _ _ _ _ _ _ _ _ _ _ _ _ _ _ _ _ _ _ _ _ _ _ _ _ _ _ _ _ _ _ _ _ _ _ _ _ _ _ _ _ _ _ _ _ _ _ _ _ _ _ _ _ _ _ _ _ _ _ _ _ _ _ _ _ _ _ _ _ _ _ _ _ _ _ _ _ _ _ _ _ _ _ _ _ _ _ _ _ _ _ _ _ _ _ _ _ _ _ _ _ _ _ _ _ _ _ _ _ _ _ _ _ _ _ _ _ _ _ _ _ _ _ _ _ _ _ _ _ _ _ _ _ _ _ _ _ _ _ _ _ _ _ _ _ _ _ _ _ _ _ _ _ _ _ _ _ _ _ _ _ _ _

end Go.Proofs.Qxb6605972a
