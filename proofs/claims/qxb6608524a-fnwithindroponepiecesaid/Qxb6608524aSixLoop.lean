/-
  SEAT b6608524a: THE LAW 'FnWithinDropOnePiece': the clone, the two makes and the loop that lays down the other pieces.
-/
import Derived.Test.Qxb6608524aSixTail
import Derived.Test.Qxb6608524aFiveHead
import Derived.Deep.RegionLaw
namespace Go.Proofs.Qxb6608524a
open Go.RowKit

/-- 'append' of one int where there is room. -/
theorem wpList_one {w : World} {ops : Array Oper} {rest : List Oper} {o : Oper} {a : Act} {Q : Exit → Act → World → Prop}
    (hg : o.guard = none) (s x : Operand) (hop : o.op = Op.call { callee := Callee.builtin Builtin.append, args := #[s, x], argTypes := #[28, 28] })
    (b r cap : Nat) (hs : a.eval s = .slice (some ⟨b, 0, none⟩) r cap) (g : Nat) (hx : a.eval x = .slice (some ⟨g, 0, none⟩) 1 1) (v : Int) (hc : w.cell? ⟨g, 0, none⟩ = some (.int .i64 v))
    (hroom : r + 1 ≤ cap) (hcell : (w.cell? ⟨b, r, none⟩).isSome = true) (hfr : w.frozen? ⟨b, r, none⟩ = false)
    (hK : wpList Try.prog ops Q rest (a.put o.dst (.slice (some ⟨b, 0, none⟩) (r + 1) cap)) (w.setCell ⟨b, r, none⟩ (.int .i64 v))) :
    wpList Try.prog ops Q (o :: rest) a w := by
  obtain ⟨i, hi, hzz⟩ := Option.map_eq_some_iff.1 Try.info3
  simp only [Prod.mk.injEq] at hzz
  refine wpList_step fun K hk => ?_
  refine step_append_room hg s x 28 hop 3 i 1 Try.underlying28 hi hzz.2.1 b 0 r cap hs ⟨g, 0, none⟩ 1 1 [.int .i64 v] hx rfl ?_ ?_ hroom ?_ (hk _ _ ?_)
  · intro j u hj
    match j with
    | 0 => simp at hj; subst hj; exact hc
    | j + 1 => simp at hj
  · simp [Value.oneCell']
  · intro j hj
    have : j = 0 := by simpa using hj
    subst this
    simpa using ⟨hcell, hfr⟩
  · simpa [World.setCells] using hK

/-- 'make([]int, 0, m - 1)'. -/
theorem run_make0 (m : Nat) (h0 : 0 < m) (hm : m ≤ 65536) (w : World) :
    (Instr.makeSlice 28 (.int .i64 0) (.int .i64 ((m : Int) - 1))).run Try.prog w = .ok (.slice (some ⟨w.heap.size, 0, none⟩) 0 (m - 1)) (w.alloc (.cells (madeCells #[.int .i64 0] (m - 1)) 3)) := by
  obtain ⟨i, hi, hzz⟩ := Option.map_eq_some_iff.1 Try.info3
  simp only [Prod.mk.injEq] at hzz
  obtain ⟨hz, hs, hb⟩ := hzz
  have h := run_make (P := Try.prog) (w := w) 28 3 i (.int .i64 0) Try.underlying28 hi hz .i64 .i64 0 ((m : Int) - 1) (by omega) (by omega) (by rw [hb]; omega) (by omega)
  rw [h, hs, show ((m : Int) - 1).toNat = m - 1 from by omega, Nat.mul_one]
  rfl

/-- While the other pieces are laid down: r starts and t ends. -/
structure RL (w1 wr : World) (m r t : Nat) (X' E' : Nat → Int) : Prop where
  rx : wr.rowIs w1.heap.size 3 (m - 1) (upTo .i64 X' r)
  re : wr.rowIs (w1.heap.size + 1) 3 (m - 1) (upTo .i64 E' t)
  below : Below w1.heap.size w1 wr

theorem rl_start (w1 : World) (m : Nat) (X' E' : Nat → Int) :
    RL w1 ((w1.alloc (.cells (madeCells #[.int .i64 0] (m - 1)) 3)).alloc (.cells (madeCells #[.int .i64 0] (m - 1)) 3)) m 0 0 X' E' := by
  have h1 := rowIs_start w1 .i64 X' (m - 1) 3
  have h2 := rowIs_start (w1.alloc (.cells (madeCells #[.int .i64 0] (m - 1)) 3)) .i64 E' (m - 1) 3
  rw [World.size_alloc] at h2
  exact ⟨h1.alloc _, h2, ((Below.refl _ _).alloc (Nat.le_refl _) _).alloc (by simp) _⟩

theorem RL.stepX {w1 wr : World} {m r t : Nat} {X' E' : Nat → Int} (h : RL w1 wr m r t X' E') {x : Int} (hx : x = X' r) (o : Obj) :
    RL w1 ((wr.alloc o).setCell ⟨w1.heap.size, r, none⟩ (.int .i64 x)) m (r + 1) t X' E' :=
  ⟨rowIs_step (h.rx.alloc o) hx, (h.re.alloc o).setOther (by simp) _, (h.below.alloc h.below.size o).setCell (Nat.le_refl _) _⟩

theorem RL.stepE {w1 wr : World} {m r t : Nat} {X' E' : Nat → Int} (h : RL w1 wr m r t X' E') {x : Int} (hx : x = E' t) (o : Obj) :
    RL w1 ((wr.alloc o).setCell ⟨w1.heap.size + 1, t, none⟩ (.int .i64 x)) m r (t + 1) X' E' :=
  ⟨(h.rx.alloc o).setOther (by simp) _, rowIs_step (h.re.alloc o) hx, (h.below.alloc h.below.size o).setCell (by simp) _⟩

theorem one_cell (w : World) (v : Value) : (w.alloc (.cells #[v] 3)).cell? ⟨w.heap.size, 0, none⟩ = some v := by simp

/-- How many lie down before piece q. -/
def laid (k q : Nat) : Nat := if q ≤ k then q else q - 1
theorem laid_skip (k : Nat) : laid k (k + 1) = laid k k := by unfold laid; rw [if_neg (by omega), if_pos (Nat.le_refl _)]; rfl
theorem laid_next {k q : Nat} (h : q ≠ k) : laid k (q + 1) = laid k q + 1 := by
  unfold laid
  by_cases h1 : q < k
  · rw [if_pos (by omega), if_pos (by omega)]
  · rw [if_neg (by omega), if_neg (by omega)]; omega
theorem laid_at {k q : Nat} (h : q ≠ k) (f : Nat → Int) : f q = Pl.drop1 k f (laid k q) := by
  unfold laid
  by_cases h1 : q < k
  · rw [if_pos (show q ≤ k from by omega)]; unfold Pl.drop1; rw [if_pos h1]
  · rw [if_neg (show ¬ q ≤ k from by omega)]; unfold Pl.drop1; rw [if_neg (by omega), show q - 1 + 1 = q from by omega]
theorem laid_lt {k q m : Nat} (h : q ≠ k) (hq : q < m) (hk : k < m) : laid k q < m - 1 := by
  unfold laid
  by_cases h1 : q ≤ k
  · rw [if_pos h1]; omega
  · rw [if_neg h1]; omega
theorem laid_all {k m : Nat} (hk : k < m) : laid k m = m - 1 := by unfold laid; rw [if_neg (by omega)]

open Classical in
set_option maxHeartbeats 8000000 in
set_option maxRecDepth 1000000 in
theorem six_loop (n size count width i : Int) (ba a1 a2 : Option Addr) (bn bc m k : Nat) (N : Nat → Nat) (F : Nat → Nat → Int) (X E : Nat → Int) (s : Int) (w wc : World) (hi0 : 0 ≤ i) (hi1 : i ≤ 9223372036854775807) (hm : m ≤ 65536) (hk : k < m) (hbn : bn ≤ 1048576)
    (HN : Hid (∀ i, i < bn → N i ≤ 1048576)) (hnil : Hid (ba = none → bn = 0 ∧ bc = 0)) (HB : Hid (Blocks wc ba bn N F)) (HF : Hid (∀ a b, 0 ≤ F a b ∧ F a b ≤ 255)) (HH : Hid (Held count bn N i))
    (HX : Hid (Ints wc a1 m X)) (HE : Hid (Ints wc a2 m E)) (HO : Hid (Pl.Ord X E m)) (HS : Hid (startV n size count width F i = s)) (hW : Below w.heap.size w wc) (c9 c10 c11 c12 c13 c14 c15 c16 c17 c18 c19 c20 c21 c22 c24 c25 c26 c27 c28 c29 c30 c31 c32 c33 c34 c35 c36 c37 c38 c39 c40 c41 c42 c43 c44 c45 c46 c47 c48 c49 c50 c51 c52 c53 c54 c55 c56 c57 c58 c59 c60 c61 c62 c63 c64 c65 c66 c67 c68 c69 c70 c71 c72 c73 c74 c75 c76 c77 c78 c79 c80 c81 c82 c83 c84 c85 c86 c87 c88 c89 c90 c91 c92 c93 c94 c95 c96 c97 c98 c99 c100 c101 c102 c103 c104 c105 c106 c107 c108 c109 c110 c111 c112 c113 c114 c115 c116 c117 c118 c119 c120 c121 c122 c123 c124 c125 c126 c127 c128 c129 c130 c131 c132 c133 c134 c135 c136 c137 c138 c139 c140 c141 c142 c143 c144 c145 c146 c147 c148 c149 c150 c151 c152 c153 c154 c155 c156 c157 c158 c159 c160 c161 c162 c163 c164 c165 c166 c167 c168 c169 c170 c171 c172 c173 c174 c175 c176 c177 c178 c179 c180 c181 c182 c183 c184 c185 c186 c187 c188 c189 c190 c191 c192 c193 c194 c195 c196 c197 c198 c199 c200 c201 c202 c203 c204 c205 c206 c207 c208 c209 c210 c211 c212 c213 c214 c215 c216 c217 : Value) :
    Code.wp Try.prog (spine 14 (Try.f6.body.getD .skip)) (bodyPost Try.prog Try.f6 fun e w' => e = .returned (.bool true) ∧ Below w.heap.size w w') ⟨#[.int .i64 n, .int .i64 size, .int .i64 count, .int .i64 width, .slice ba bn bc, .slice a1 m m, .slice a2 m m, .int .i64 i, .int .i64 (k : Int), c9, c10, c11, c12, c13, c14, c15, c16, c17, c18, c19, c20, c21, c22, .int .i64 s, c24, c25, c26, c27, c28, c29, c30, c31, c32, c33, c34, c35, c36, c37, c38, c39, c40, c41, c42, c43, c44, c45, c46, c47, c48, c49, c50, c51, c52, c53, c54, c55, c56, c57, c58, c59, c60, c61, c62, c63, c64, c65, c66, c67, c68, c69, c70, c71, c72, c73, c74, c75, c76, c77, c78, c79, c80, c81, c82, c83, c84, c85, c86, c87, c88, c89, c90, c91, c92, c93, c94, c95, c96, c97, c98, c99, c100, c101, c102, c103, c104, c105, c106, c107, c108, c109, c110, c111, c112, c113, c114, c115, c116, c117, c118, c119, c120, c121, c122, c123, c124, c125, c126, c127, c128, c129, c130, c131, c132, c133, c134, c135, c136, c137, c138, c139, c140, c141, c142, c143, c144, c145, c146, c147, c148, c149, c150, c151, c152, c153, c154, c155, c156, c157, c158, c159, c160, c161, c162, c163, c164, c165, c166, c167, c168, c169, c170, c171, c172, c173, c174, c175, c176, c177, c178, c179, c180, c181, c182, c183, c184, c185, c186, c187, c188, c189, c190, c191, c192, c193, c194, c195, c196, c197, c198, c199, c200, c201, c202, c203, c204, c205, c206, c207, c208, c209, c210, c211, c212, c213, c214, c215, c216, c217], []⟩ wc := by
  conv => arg 2; whnf
  dsimp only
  go_wp2_with fail
  refine (cloneBlocks_any ba bn bc N F _ hnil.out hbn HN.out HB.out).mono ?_
  rintro e w1 ⟨ba', bc', rfl, hB1, hb1⟩
  have HB1 : Hid _ := hB1
  have HX1 : Hid _ := Ints.later HX.out hb1
  have HE1 : Hid _ := Ints.later HE.out hb1
  have hW1 : Below w.heap.size w w1 := hW.trans (hb1.mono hW.size)
  clear hB1 hb1 HX HE HB hW hnil HN
  have hmk := run_make0 m (by omega) hm
  have hm0 : 0 < m := by omega
  go_upto_block 2 with fail
  clear hmk
  go_cut [25, 26, 27] from 148 (fun s25 s26 s27 wx => s25 = .slice (some ⟨w1.heap.size, 0, none⟩) (m - 1) (m - 1) ∧ s26 = .slice (some ⟨w1.heap.size + 1, 0, none⟩) (m - 1) (m - 1) ∧ RL w1 wx m (m - 1) (m - 1) (Pl.drop1 k X) (Pl.drop1 k E))
  case first =>
    go_wp2
    go_loopg [25, 26, 27] m (fun g s25 s26 s27 wr => ∃ (q r : Nat), q ≤ m ∧ g = m - q ∧ laid k q = r ∧ s27 = .int .i64 q ∧ s25 = .slice (some ⟨w1.heap.size, 0, none⟩) r (m - 1) ∧ s26 = .slice (some ⟨w1.heap.size + 1, 0, none⟩) r (m - 1) ∧ RL w1 wr m r r (Pl.drop1 k X) (Pl.drop1 k E))
    case atStart => exact ⟨0, 0, Nat.zero_le _, rfl, rfl, rfl, rfl, rfl, rl_start _ _ _ _⟩
    case round =>
      obtain ⟨q, r, hq, rfl, hr, rfl, rfl, rfl, hR⟩ := hrel
      by_cases hlt : q < m
      · by_cases hqk : q = k
        · subst hqk
          go_wp2
          go_roundg (m - (q + 1))
          case measure => omega
          case rel => exact ⟨q + 1, r, by omega, rfl, by rw [laid_skip]; exact hr, by go_num, rfl, rfl, hR⟩
        · have hrm : r < m - 1 := hr ▸ laid_lt hqk hlt hk
          have HR : Hid _ := hR
          obtain ⟨bx, ox, rfl, cx⟩ := Ints.at (Ints.later HX1.out hR.below) hlt
          obtain ⟨be, oe, rfl, ce⟩ := Ints.at HE1.out hlt
          have hx0 := laid_at hqk X
          have he0 := laid_at hqk E
          rw [hr] at hx0 he0
          have HX0 : Hid _ := hx0
          have HE0 : Hid _ := he0
          have hqi : (q : Int) < (m : Int) := by omega
          have hqk' : ((q : Int) == (k : Int)) = false := by simp; omega
          clear hx0 he0 hR
          go_wp2_with (first | (refine wpList_one rfl (.tmp 157) (.tmp 162) rfl w1.heap.size r (m - 1) rfl wr.heap.size rfl (X q) (one_cell _ _) (by omega) (by rw [(HR.out.rx.alloc _).cell hrm]; rfl) ((HR.out.rx.alloc _).frozen r) ?_; have hY := HR.out.stepX HX0.out (.cells #[.int .i64 (X q)] 3); generalize hwy : (wr.alloc (.cells #[.int .i64 (X q)] 3)).setCell ⟨w1.heap.size, r, none⟩ (.int .i64 (X q)) = wy at *; have HY : Hid _ := hY; have ceY := cell_later hY.below ce; clear hY hwy) | (refine wpList_one rfl (.tmp 164) (.tmp 169) rfl (w1.heap.size + 1) r (m - 1) rfl wy.heap.size rfl (E q) (one_cell _ _) (by omega) (by rw [(HY.out.re.alloc _).cell hrm]; rfl) ((HY.out.re.alloc _).frozen r) ?_))
          go_roundg (m - (q + 1))
          case measure => omega
          case rel => exact ⟨q + 1, r + 1, by omega, rfl, by rw [laid_next hqk, hr], by go_num, rfl, rfl, HY.out.stepE HE0.out _⟩
      · obtain rfl : q = m := by omega
        obtain rfl := (laid_all hk).symm.trans hr
        go_wp2
        go_meet
        case rel => exact ⟨rfl, rfl, hR⟩
  case rest =>
    obtain ⟨rfl, rfl, hR⟩ := hcut
    refine ‹∀ (a : Act) (w : World), Code.wp Try.prog _ _ a w → _› _ _ ?_
    have hIx : Ints _ (some ⟨w1.heap.size, 0, none⟩) (m - 1) (Pl.drop1 k X) := Seg.of_row (hR.rx.congr (fun i hi => by unfold upTo; rw [if_pos hi]))
    have hIe : Ints _ (some ⟨w1.heap.size + 1, 0, none⟩) (m - 1) (Pl.drop1 k E) := Seg.of_row (hR.re.congr (fun i hi => by unfold upTo; rw [if_pos hi]))
    exact six_last n size count width i ba' a1 a2 (some ⟨w1.heap.size, 0, none⟩) (some ⟨w1.heap.size + 1, 0, none⟩) bn bc' m k N F X E s w _ hi0 hi1 hm hk (Blocks.below HB1.out hR.below) HF HH (Ints.later HX1.out hR.below) (Ints.later HE1.out hR.below) hIx hIe HO HS (hW1.trans (hR.below.mono hW1.size)) _ _ _ _ _ _ _ _ _ _ _ _ _ _ _ _ _ _ _ _ _ _ _ _ _ _ _ _ _ _ _ _ _ _ _ _ _ _ _ _ _ _ _ _ _ _ _ _ _ _ _ _ _ _ _ _ _ _ _ _ _ _ _ _ _ _ _ _ _ _ _ _ _ _ _ _ _ _ _ _ _ _ _ _ _ _ _ _ _ _ _ _ _ _ _ _ _ _ _ _ _ _ _ _ _ _ _ _ _ _ _ _ _ _ _ _ _ _ _ _ _ _ _ _ _ _ _ _ _ _ _ _ _ _ _ _ _ _ _ _ _ _ _ _ _ _ _ _ _ _ _ _ _ _ _ _ _ _ _ _ _ _ _ _ _ _ _ _ _ _ _ _ _ _ _ _ _ _ _ _ _ _ _ _ _ _ _ _ _ _ _ _ _ _ _ _ _ _ _ _ _ _ _ _ _ _

end Go.Proofs.Qxb6608524a
