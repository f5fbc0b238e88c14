/-
  THE SMALL WALKS OVER MEMORY of seat b6605972a: cloneBytes, ZZnewPlane, toPlane, newPlane, ZZplaneFields, fullSize, ZZnewDecoder, planeFits.
-/
import Derived.Test.Qxb6605972aBytes
import Derived.WalkKit
import Derived.WalkSpells
import Derived.Laws.CopyOwn
import Derived.Deep.OwnRows
import Derived.Deep.QuietTactic
import Derived.BigQuiet
import Derived.WalkSmall
namespace Go.Proofs.Qxb6605972a
open Go.RowKit

theorem Try.info5 : (Try.prog.info? 5).map (fun i => (i.zero, i.size, i.bytes)) = some (some (.int .u8 0), 1, 1) := by kernel_rfl

/-- The n elements of a slice's array at 'a' are 'f 0', 'f 1' ... -/
def Seg (w : World) (a : Option Addr) (n : Nat) (f : Nat → Value) : Prop := ∀ i, i < n → ∃ b o, a = some ⟨b, o, none⟩ ∧ w.cell? ⟨b, o + i, none⟩ = some (f i)

theorem Seg.below {w w' : World} {a : Option Addr} {n : Nat} {f : Nat → Value} (h : Seg w a n f) (hb : Below w.heap.size w w') : Seg w' a n f := fun i hi => by
  obtain ⟨b, o, ha, hc⟩ := h i hi
  exact ⟨b, o, ha, cell_later hb hc⟩

theorem Seg.of_row {w : World} {b : Nat} {t : TypeId} {n : Nat} {f : Nat → Value} (h : w.rowIs b t n f) : Seg w (some ⟨b, 0, none⟩) n f := fun i hi =>
  ⟨b, 0, rfl, by rw [Nat.zero_add]; exact h.cell hi⟩

/-- A plane as a value. -/
def plv (v : Value) (pw ph ps px py : Int) : Value := .agg #[v, .int .i64 pw, .int .i64 ph, .int .i64 ps, .int .i64 px, .int .i64 py]

theorem bcell {W w1 : World} (hb : Below W.heap.size W w1) : (∀ b o, b < W.heap.size → w1.cell? ⟨b, o, none⟩ = W.cell? ⟨b, o, none⟩) ∧ (∀ b o, b < W.heap.size → w1.frozen? ⟨b, o, none⟩ = W.frozen? ⟨b, o, none⟩) :=
  ⟨fun b o h => hb.cell (p := ⟨b, o, none⟩) h, fun b o h => hb.frozen (p := ⟨b, o, none⟩) h⟩

theorem newPlane23_any (a : Option Addr) (n c : Nat) (pw ph ps px py : Int) (w : World) :
    Calls Try.prog 23 #[.slice a n c, .int .i64 pw, .int .i64 ph, .int .i64 ps, .int .i64 px, .int .i64 py] w fun e w' =>
      e = .returned (.agg #[.slice a n c, .int .i64 pw, .int .i64 ph, .int .i64 ps, .int .i64 px, .int .i64 py]) ∧
      w' = w.alloc (.cells #[.slice a n c, .int .i64 pw, .int .i64 ph, .int .i64 ps, .int .i64 px, .int .i64 py] 34) := by
  go_enter Try.func23, Try.ntmps23
  go_wp2
  exact bodyPost_ret (v := .agg #[.slice a n c, .int .i64 pw, .int .i64 ph, .int .i64 ps, .int .i64 px, .int .i64 py]) (by simp [results, Try.results23, go_sem]) rfl ⟨rfl, rfl⟩

theorem toPlane_any (a : Option Addr) (n c : Nat) (pw ph ps px py : Int) (w : World) :
    Calls Try.prog 13 #[.agg #[.slice a n c, .int .i64 pw, .int .i64 ph, .int .i64 ps, .int .i64 px, .int .i64 py]] w fun e w' =>
      e = .returned (.agg #[.slice a n c, .int .i64 pw, .int .i64 ph, .int .i64 ps, .int .i64 px, .int .i64 py]) ∧ Below w.heap.size w w' := by
  go_enter Try.func13, Try.ntmps13
  go_wp2_with (go_at_call 23; refine (newPlane23_any _ _ _ _ _ _ _ _ _).mono ?_; rintro e w' ⟨rfl, rfl⟩)
  exact bodyPost_ret (v := .agg #[.slice a n c, .int .i64 pw, .int .i64 ph, .int .i64 ps, .int .i64 px, .int .i64 py]) (by simp [results, Try.results13, go_sem]) rfl ⟨rfl, (((Below.refl _ _).alloc (Nat.le_refl _) _).alloc (by simp) _).alloc (by simp; omega) _⟩

theorem newPlane_any (pw ph : Nat) (hw : pw * ph ≤ 1048576) (w : World) :
    Calls Try.prog 28 #[.int .i64 pw, .int .i64 ph, .int .i64 1, .int .i64 1] w fun e w' =>
      e = .returned (.agg #[.slice (some ⟨w.heap.size + 1, 0, none⟩) (pw * ph) (pw * ph), .int .i64 pw, .int .i64 ph, .int .i64 pw, .int .i64 1, .int .i64 1]) ∧
        w' = (w.alloc (.cells #[.slice (some ⟨w.heap.size + 1, 0, none⟩) (pw * ph) (pw * ph), .int .i64 pw, .int .i64 ph, .int .i64 pw, .int .i64 1, .int .i64 1] 34)).alloc (.cells (madeCells #[.int .u8 0] (pw * ph)) 5) := by
  have hmk := run_make_row' (P := Try.prog) 28 5 (.int .u8 0) 1 Try.underlying28 Try.info5 rfl .i64 .i64 (pw * ph) (by omega) (by omega)
  rw [show ((pw * ph : Nat) : Int) = (pw : Int) * (ph : Int) from by simp] at hmk
  go_enter Try.func28, Try.ntmps28
  go_wp2
  exact bodyPost_ret (v := .agg #[.slice (some ⟨w.heap.size + 1, 0, none⟩) (pw * ph) (pw * ph), .int .i64 pw, .int .i64 ph, .int .i64 pw, .int .i64 1, .int .i64 1]) (by simp [results, Try.results28, go_sem]) rfl ⟨rfl, rfl⟩

theorem fields_any (a : Option Addr) (n c : Nat) (pw ph ps px py : Int) (w : World) :
    Calls Try.prog 26 #[.agg #[.slice a n c, .int .i64 pw, .int .i64 ph, .int .i64 ps, .int .i64 px, .int .i64 py]] w fun e w' =>
      e = .returned (.tuple #[.slice a n c, .int .i64 pw, .int .i64 ph, .int .i64 ps, .int .i64 px, .int .i64 py]) ∧ Below w.heap.size w w' := by
  go_enter Try.func26, Try.ntmps26
  go_wp2
  go_quiet (fail)
  go_wp2
  exact bodyPost_ret (v := .tuple #[.slice a n c, .int .i64 pw, .int .i64 ph, .int .i64 ps, .int .i64 px, .int .i64 py]) (by simp [results, Try.results26, go_sem]) rfl ⟨rfl, below_drewN ((Below.refl _ _).alloc (Nat.le_refl _) _) _⟩

/-- An operation whose run is known: the walk goes on behind it. -/
theorem wpList_value {P : Program} {ops : Array Oper} {rest : List Oper} {o : Oper} {a : Act} {w : World} {Q : Exit → Act → World → Prop} (hg : o.guard = none) (v : Value) (w' : World)
    (hrun : (execOp a.eval o).run P w = .ok (.value v) w') (h : wpList P ops Q rest (a.put o.dst v) w') : wpList P ops Q (o :: rest) a w :=
  wpList_plain hg fun K hK => by
    unfold Oper.wp
    rw [hrun]
    exact hK _ _ h

/-- A new decoder's cells. -/
def decCells (pw ph tr : Int) : Array Value := #[.pointer none, .pointer none, .int .u64 0, .int .u64 0, .bool false, .int .u64 0, .int .i64 0, .pointer none, .pointer none, .pointer none, .pointer none, .pointer none, .pointer none, .pointer none, .pointer none, .pointer none, .pointer none, .pointer none, .pointer none, .int .i64 0, .bool true, .bool false, .int .i64 pw, .int .i64 ph, .slice none 0 0, .int .i64 0, .int .i64 0, .int .i64 0, .int .i64 0, .bool true, .int .u8 tr, .int .i64 0, .int .i64 0, .int .i64 1, .int .i64 0, .int .i8 0, .int .i8 0, .int .i8 0, .int .i8 0, .int .i8 0, .int .i8 0, .int .i8 0, .int .i8 0, .int .i8 0, .int .i8 0, .int .i8 0, .int .i8 0, .int .i8 0, .int .i8 0, .int .i8 0, .int .i8 0, .int .i8 0, .int .i8 0, .int .i8 0, .int .i8 0, .int .i8 0, .int .i8 0, .int .i8 0, .int .i8 0, .int .i8 0, .int .i8 0, .int .i8 0, .int .i8 0, .int .i8 0, .int .i8 0, .int .i8 0, .int .i8 0, .int .i8 0, .int .i8 0, .int .i8 0, .int .i8 0, .int .i8 0, .int .i8 0, .int .i8 0, .int .i8 0, .int .i8 0, .int .i8 0, .int .i8 0, .int .i8 0, .int .i8 0, .int .i8 0, .int .i8 0, .int .i8 0, .int .i8 0, .int .i8 0, .int .i8 0, .int .i8 0, .int .i8 0, .int .i8 0, .int .i8 0, .int .i8 0, .int .i8 0, .int .i8 0, .int .i8 0, .int .i8 0, .int .i8 0, .int .i8 0, .int .i8 0, .int .i8 0, .slice none 0 0, .slice none 0 0, .pointer none]

theorem run_build_dec (pw ph tr : Int) (w : World) : (Instr.build 66 #[(7, .bool true), (8, .bool false), (9, .int .i64 pw), (10, .int .i64 ph), (20, .int .i64 1), (16, .bool true), (17, .int .u8 tr), (11, .slice none 0 0)]).run Try.prog w = .ok (.agg (decCells pw ph tr)) w := by kernel_rfl

theorem wpList_dec {ops : Array Oper} {rest : List Oper} {o : Oper} {a : Act} {w : World} {Q : Exit → Act → World → Prop} (hg : o.guard = none) (pw ph tr : Int)
    (hop : o.op = Op.build 66 #[(7, .tmp 17), (8, .tmp 18), (9, .tmp 19), (10, .tmp 20), (20, .tmp 21), (16, .tmp 22), (17, .tmp 23), (11, .tmp 24)])
    (h17 : a.eval (.tmp 17) = .bool true) (h18 : a.eval (.tmp 18) = .bool false) (h19 : a.eval (.tmp 19) = .int .i64 pw) (h20 : a.eval (.tmp 20) = .int .i64 ph)
    (h21 : a.eval (.tmp 21) = .int .i64 1) (h22 : a.eval (.tmp 22) = .bool true) (h23 : a.eval (.tmp 23) = .int .u8 tr) (h24 : a.eval (.tmp 24) = .slice none 0 0)
    (h : wpList Try.prog ops Q rest (a.put o.dst (.agg (decCells pw ph tr))) w) : wpList Try.prog ops Q (o :: rest) a w := by
  refine wpList_plain hg fun K hK => ?_
  have hrun := run_build_dec pw ph tr w
  unfold Oper.wp
  simp [execOp, hop, h17, h18, h19, h20, h21, h22, h23, h24, hrun, Result.andThen]
  exact hK _ _ h

set_option maxRecDepth 1000000 in
theorem decoder_any (pw ph : Int) (tr : Int) (w : World) :
    Calls Try.prog 15 #[.bool true, .bool false, .int .i64 pw, .int .i64 ph, .int .i64 1, .bool true, .int .u8 tr, .slice none 0 0] w fun e w' =>
      e = .returned (.pointer (some ⟨w.heap.size, 0, none⟩)) ∧ w' = w.alloc (.cells (decCells pw ph tr) 66) := by
  go_enter Try.func15, Try.ntmps15
  go_wp2_with (refine wpList_dec rfl pw ph tr rfl rfl rfl rfl rfl rfl rfl rfl rfl ?_)
  go_ret
  exact ⟨rfl, rfl⟩

theorem full_any (a : Option Addr) (c fw fh : Nat) (hw : fw * fh ≤ 1048576) (w : World) :
    Calls Try.prog 16 #[.agg #[.slice a (fw * fh) c, .int .i64 fw, .int .i64 fh, .int .i64 fw, .int .i64 1, .int .i64 1], .int .i64 fw, .int .i64 fh] w fun e w' =>
      e = .returned (.tuple #[.slice a (fw * fh) c, .bool true]) ∧ Below w.heap.size w w' := by
  go_enter Try.func16, Try.ntmps16
  go_wp2_with (go_at_call 26; refine (fields_any _ _ _ _ _ _ _ _ _).mono ?_; rintro e w' ⟨rfl, hb⟩)
  go_ret2
  exact ⟨rfl, ((Below.refl _ _).alloc (Nat.le_refl _) _).trans (hb.mono (by simp))⟩

theorem ret_bool {a b : Bool} (h : a = b) : Ending.returned (.bool a) = .returned (.bool b) := by rw [h]

/-- 'planeFits'. -/
def fitsB (n : Nat) (pw ph ps px py : Int) : Bool :=
  decide (1 ≤ pw ∧ 1 ≤ ph ∧ 1 ≤ px ∧ 1 ≤ py ∧ 0 ≤ ps ∧ pw ≤ 1073741824 ∧ ph ≤ 1073741824 ∧ ps ≤ 1073741824 ∧ (ph - 1) * ps + (pw - 1) < n)

theorem fits_any (a : Option Addr) (n c : Nat) (pw ph ps px py : Int) (w : World) :
    Calls Try.prog 11 #[.agg #[.slice a n c, .int .i64 pw, .int .i64 ph, .int .i64 ps, .int .i64 px, .int .i64 py]] w fun e w' =>
      e = .returned (.bool (fitsB n pw ph ps px py)) ∧ Below w.heap.size w w' := by
  by_cases h : 1 ≤ pw ∧ 1 ≤ ph ∧ 1 ≤ px ∧ 1 ≤ py ∧ 0 ≤ ps ∧ pw ≤ 1073741824 ∧ ph ≤ 1073741824 ∧ ps ≤ 1073741824
  · obtain ⟨h1, h2, h3, h4, h5, h6, h7, h8⟩ := h
    have m0 : 0 ≤ (ph - 1) * ps := Int.mul_nonneg (by omega) h5
    have m1 : (ph - 1) * ps ≤ 1073741824 * 1073741824 := Int.mul_le_mul (by omega) h8 h5 (by omega)
    go_enter Try.func11, Try.ntmps11
    go_wp2
    go_ret
    exact ⟨ret_bool (by unfold fitsB; rw [decide_eq_decide]; omega), (Below.refl _ _).alloc (Nat.le_refl _) _⟩
  · have hf : fitsB n pw ph ps px py = false := by unfold fitsB; rw [decide_eq_false_iff_not]; omega
    have HF : Hid (fitsB n pw ph ps px py = false) := hf
    clear hf
    go_enter Try.func11, Try.ntmps11
    go_wp2
    all_goals first | (exfalso; omega) | (go_ret; exact ⟨ret_bool HF.out.symm, (Below.refl _ _).alloc (Nat.le_refl _) _⟩)

theorem zz21_any (tr w0 h0 : Int) (a1 : Option Addr) (n1 c1 : Nat) (pw1 ph1 ps1 px1 py1 : Int) (a2 : Option Addr) (n2 c2 : Nat) (pw2 ph2 ps2 px2 py2 : Int) (four : Bool) (w : World) :
    Calls Try.prog 21 #[.int .u8 tr, .int .i64 w0, .int .i64 h0, .agg #[.slice a1 n1 c1, .int .i64 pw1, .int .i64 ph1, .int .i64 ps1, .int .i64 px1, .int .i64 py1],
      .agg #[.slice a2 n2 c2, .int .i64 pw2, .int .i64 ph2, .int .i64 ps2, .int .i64 px2, .int .i64 py2], .bool four] w fun e w' =>
      e = .returned (.bool (decide (n1 + n2 ≤ 1048576))) ∧ Below w.heap.size w w' := by
  by_cases h1 : n1 ≤ 1048576
  · by_cases h2 : n2 ≤ 1048576
    · by_cases h3 : n1 + n2 ≤ 1048576
      · go_enter Try.func21, Try.ntmps21
        go_wp2
        go_ret
        exact ⟨ret_bool (by simp; omega), ((Below.refl _ _).alloc (Nat.le_refl _) _).alloc (by simp) _⟩
      · go_enter Try.func21, Try.ntmps21
        go_wp2
        go_ret
        exact ⟨ret_bool (by simp; omega), ((Below.refl _ _).alloc (Nat.le_refl _) _).alloc (by simp) _⟩
    · go_enter Try.func21, Try.ntmps21
      go_wp2
      go_ret
      exact ⟨ret_bool (by simp; omega), ((Below.refl _ _).alloc (Nat.le_refl _) _).alloc (by simp) _⟩
  · go_enter Try.func21, Try.ntmps21
    go_wp2
    go_ret
    exact ⟨ret_bool (by simp; omega), ((Below.refl _ _).alloc (Nat.le_refl _) _).alloc (by simp) _⟩

theorem clone_nil (w : World) : Calls Try.prog 22 #[.slice none 0 0] w fun e w' => e = .returned (.slice none 0 0) ∧ w' = w := by
  have hnil := fun wx => Lib.run_eql_slice_nil (P := Try.prog) wx 28 5 none 0 0 0 0 Try.underlying28
  go_enter Try.func22, Try.ntmps22
  go_wp2
  go_ret
  exact ⟨rfl, rfl⟩

/-- The bytes of a slice, as cells. -/
def byteCells (n : Nat) (f : Nat → Int) : List Value := (List.range n).map fun i => .int .u8 (f i)

theorem clone_row (w : World) (n : Nat) (f : Nat → Int) :
    ((w.alloc (.cells (madeCells #[.int .u8 0] n) 5)).setRow w.heap.size
      (byteCells n f ++ (madeCells #[.int .u8 0] n).toList.drop (byteCells n f).length).toArray).rowIs w.heap.size 5 n (fun i => .int .u8 (f i)) := by
  refine ⟨_, setRow_heap _ _ _ _ _ _ (Deep.blk_alloc_new _ _), ?_, fun i hi => ?_⟩
  · simp [byteCells, size_madeCells]
  · simp only [byteCells, List.getElem?_toArray]
    rw [List.getElem?_append_left (by simpa using hi)]
    simp [hi]

theorem clone_some (ad : Addr) (n c : Nat) (hn : n ≤ 1048576) (f : Nat → Int) (w : World) (hs : Seg w (some ad) n (fun i => .int .u8 (f i))) :
    Calls Try.prog 22 #[.slice (some ad) n c] w fun e w' => e = .returned (.slice (some ⟨w.heap.size, 0, none⟩) n n) ∧ w'.rowIs w.heap.size 5 n (fun i => .int .u8 (f i)) ∧ Below w.heap.size w w' := by
  have hnil := fun wx => Lib.run_eql_slice_nil (P := Try.prog) wx 28 5 (some ad) n c 0 0 Try.underlying28
  have hmk := run_make_row' (P := Try.prog) 28 5 (.int .u8 0) 1 Try.underlying28 Try.info5 rfl .i64 .i64 n (by omega) (by omega)
  have hsrc : ∀ j v, (byteCells n f)[j]? = some v → (w.alloc (.cells (madeCells #[.int .u8 0] n) 5)).cell? (ad.add j) = some v := by
    intro j v hj
    have hlt : j < n := by
      have := (List.getElem?_eq_some_iff.1 hj).1
      simpa [byteCells] using this
    obtain ⟨b, o, hab, hc⟩ := hs j hlt
    simp only [Option.some.injEq] at hab
    subst hab
    have hv : v = .int .u8 (f j) := by simpa [byteCells, hlt] using hj.symm
    rw [hv, WideShapes.add_plain]
    exact cell_later ((Below.refl _ _).alloc (Nat.le_refl _) _) hc
  have HS : Hid _ := hsrc
  clear hsrc hs
  go_enter Try.func22, Try.ntmps22
  go_wp2_with (refine wpList_copy_own rfl (.tmp 9) (.tmp 10) 28 28 rfl 5 Try.underlying28 (by kernel_rfl) w.heap.size 0 n n ad n c rfl rfl (madeCells #[.int .u8 0] n) 5 (Deep.blk_alloc_new _ _) (byteCells n f) (by simp [byteCells]) HS.out (by simp [byteCells, size_madeCells]) (by simp [byteCells, Value.oneCell']) ?_)
  go_ret
  exact ⟨rfl, clone_row w n f, below_setRow ((Below.refl _ _).alloc (Nat.le_refl _) _) (Nat.le_refl _) _⟩

end Go.Proofs.Qxb6605972a
