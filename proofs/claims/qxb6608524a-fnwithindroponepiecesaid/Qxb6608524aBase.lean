/-
  SEAT b6608524a: WORDS FOR MEMORY, AND THE WALKS OF inOrderAndApart, covers, sort.Search.
-/
import Derived.Test.Qxb6608524aRows
import Derived.Test.Qxb6608524aPlain
import Derived.WalkKit
import Derived.WalkSpells
import Derived.WalkSmall
import Derived.Laws.CopyOwn
import Derived.Deep.OwnRows
import Derived.Deep.QuietTactic
import Derived.BigQuiet
import Derived.Deep.LoopGhost
namespace Go.Proofs.Qxb6608524a
open Go.RowKit

/-- The n elements of a slice's array at 'a' are 'f 0', 'f 1' ... -/
def Seg (w : World) (a : Option Addr) (n : Nat) (f : Nat → Value) : Prop := ∀ i, i < n → ∃ b o, a = some ⟨b, o, none⟩ ∧ w.cell? ⟨b, o + i, none⟩ = some (f i)
theorem Seg.below {w w' : World} {a : Option Addr} {n : Nat} {f : Nat → Value} (h : Seg w a n f) (hb : Below w.heap.size w w') : Seg w' a n f := fun i hi => by
  obtain ⟨b, o, ha, hc⟩ := h i hi
  exact ⟨b, o, ha, cell_later hb hc⟩
theorem Seg.of_row {w : World} {b : Nat} {t : TypeId} {n : Nat} {f : Nat → Value} (h : w.rowIs b t n f) : Seg w (some ⟨b, 0, none⟩) n f := fun i hi =>
  ⟨b, 0, rfl, by rw [Nat.zero_add]; exact h.cell hi⟩

/-- n integers. -/
def Ints (w : World) (a : Option Addr) (n : Nat) (f : Nat → Int) : Prop := Seg w a n (fun i => .int .i64 (f i))

theorem Ints.at {w : World} {a : Option Addr} {n : Nat} {X : Nat → Int} (h : Ints w a n X) {q : Nat} (hq : q < n) : ∃ b o, a = some ⟨b, o, none⟩ ∧ w.cell? ⟨b, o + q, none⟩ = some (.int .i64 (X q)) := h q hq

theorem ret_bool {a b : Bool} (h : a = b) : Ending.returned (.bool a) = .returned (.bool b) := by rw [h]

open Classical in
set_option maxHeartbeats 2000000 in
/-- 'inOrderAndApart'. -/
theorem ord_any (a a' : Option Addr) (n c c' : Nat) (X E : Nat → Int) (w : World) (hn : n ≤ 1048576) (hx : Ints w a n X) (he : Ints w a' n E) :
    Calls Try.prog 10 #[.slice a n c, .slice a' n c'] w fun e w' => e = .returned (.bool (decide (Pl.Ord X E n))) ∧ ∃ m, w' = w.drewN m := by
  have HX : Hid _ := hx
  have HE : Hid _ := he
  clear hx he
  go_enter Try.func10, Try.ntmps10
  go_wp2
  go_loopg [5] n (fun g s5 wr => ∃ q m : Nat, q ≤ n ∧ g = n - q ∧ s5 = .int .i64 q ∧ wr = w.drewN m ∧ Aside (∀ t, t < q → X t ≤ E t ∧ (t + 1 < n → E t ≤ X (t + 1))))
  case atStart => exact ⟨0, 0, Nat.zero_le _, rfl, rfl, rfl, fun t ht => absurd ht (Nat.not_lt_zero _)⟩
  case round =>
    obtain ⟨q, m, hq, rfl, rfl, rfl, A⟩ := hrel
    by_cases hlt : q < n
    · obtain ⟨bx, ox, rfl, cx⟩ := Ints.at HX.out hlt
      obtain ⟨be, oe, rfl, ce⟩ := Ints.at HE.out hlt
      have hi1 : (q : Int) < (n : Int) := by omega
      by_cases h1 : X q ≤ E q
      · by_cases h2 : q + 1 < n
        · obtain ⟨bx', ox', ex, cx'⟩ := Ints.at HX.out h2
          simp only [Option.some.injEq, Addr.mk.injEq, and_true] at ex
          obtain ⟨rfl, rfl⟩ := ex
          have hi2 : (q : Int) + 1 < (n : Int) := by omega
          by_cases h3 : E q ≤ X (q + 1)
          · have A' : Aside (∀ t, t < q + 1 → X t ≤ E t ∧ (t + 1 < n → E t ≤ X (t + 1))) := fun t ht => by
              by_cases e : t = q
              · subst e; exact ⟨h1, fun _ => h3⟩
              · exact A.out t (by omega)
            clear A
            generalize X q = xq at *
            generalize E q = eq at *
            generalize X (q + 1) = xq1 at *
            go_wp2
            go_quiet (fail)
            go_wp2
            go_quiet (fail)
            go_wp2
            go_roundg (n - (q + 1))
            case measure => omega
            case rel => exact ⟨q + 1, _, by omega, rfl, by go_num, by first | rfl | (simp only [World.drewN_drewN]; done) | (simp only [World.drewN_drewN]; rfl), A'⟩
          · have F : Hid (decide (Pl.Ord X E n) = false) := decide_eq_false (fun h => h3 ((h q hlt).2 h2))
            clear A
            generalize X q = xq at *
            generalize E q = eq at *
            generalize X (q + 1) = xq1 at *
            go_wp2
            go_quiet (fail)
            go_wp2
            go_quiet (fail)
            go_wp2
            go_ret
            exact ⟨ret_bool F.out.symm, _, by first | rfl | (simp only [World.drewN_drewN]; done) | (simp only [World.drewN_drewN]; rfl)⟩
        · have A' : Aside (∀ t, t < q + 1 → X t ≤ E t ∧ (t + 1 < n → E t ≤ X (t + 1))) := fun t ht => by
            by_cases e : t = q
            · subst e; exact ⟨h1, fun h => absurd h h2⟩
            · exact A.out t (by omega)
          have hd : decide ((q : Int) + 1 < (n : Int)) = false := decide_eq_false (by omega)
          clear A
          generalize X q = xq at *
          generalize E q = eq at *
          go_wp2
          go_quiet (fail)
          go_wp2
          go_quiet (fail)
          go_wp2
          go_roundg (n - (q + 1))
          case measure => omega
          case rel => exact ⟨q + 1, _, by omega, rfl, by go_num, by first | rfl | (simp only [World.drewN_drewN]; done) | (simp only [World.drewN_drewN]; rfl), A'⟩
      · have F : Hid (decide (Pl.Ord X E n) = false) := decide_eq_false (fun h => h1 (h q hlt).1)
        clear A
        generalize X q = xq at *
        generalize E q = eq at *
        go_wp2
        go_quiet (fail)
        go_wp2
        go_ret
        exact ⟨ret_bool F.out.symm, _, by first | rfl | (simp only [World.drewN_drewN]; done) | (simp only [World.drewN_drewN]; rfl)⟩
    · have F : Hid (decide (Pl.Ord X E n) = true) := decide_eq_true (fun t ht => A.out t (by omega))
      clear A
      go_wp2
      go_ret
      exact ⟨ret_bool F.out.symm, _, by first | rfl | (simp only [World.drewN_drewN]; done) | (simp only [World.drewN_drewN]; rfl)⟩

open Classical in
set_option maxHeartbeats 2000000 in
/-- 'covers'. -/
theorem cov_any (a a' : Option Addr) (n c c' : Nat) (X E : Nat → Int) (s : Int) (w : World) (hn : n ≤ 1048576) (hx : Ints w a n X) (he : Ints w a' n E) :
    Calls Try.prog 16 #[.slice a n c, .slice a' n c', .int .i64 s] w fun e w' => e = .returned (.bool (decide (Pl.Cov X E n s))) ∧ w' = w := by
  have HX : Hid _ := hx
  have HE : Hid _ := he
  clear hx he
  go_enter Try.func16, Try.ntmps16
  go_wp2
  go_loopg [7, 8] n (fun g s7 s8 wr => w = wr ∧ ∃ q : Nat, q ≤ n ∧ g = n - q ∧ s8 = .int .i64 q ∧ s7 = .bool (decide (Pl.Cov X E q s)))
  case atStart => exact ⟨rfl, 0, Nat.zero_le _, rfl, rfl, congrArg Value.bool (decide_eq_false (fun ⟨t, ht, _⟩ => absurd ht (Nat.not_lt_zero _))).symm⟩
  case round =>
    obtain ⟨rfl, q, hq, rfl, rfl, rfl⟩ := hrel
    by_cases hlt : q < n
    · obtain ⟨bx, ox, rfl, cx⟩ := Ints.at HX.out hlt
      obtain ⟨be, oe, rfl, ce⟩ := Ints.at HE.out hlt
      by_cases h1 : X q ≤ s
      · by_cases h2 : s < E q
        · have A' : Hid (decide (Pl.Cov X E (q + 1) s) = true) := decide_eq_true ⟨q, by omega, h1, h2⟩
          generalize decide (Pl.Cov X E q s) = cq at *
          generalize X q = xq at *
          generalize E q = eq at *
          go_wp2
          go_roundg (n - (q + 1))
          case measure => omega
          case rel => exact ⟨rfl, q + 1, by omega, rfl, by go_num, by rw [A'.out]⟩
        · have A' : Hid (decide (Pl.Cov X E (q + 1) s) = decide (Pl.Cov X E q s)) := decide_eq_decide.2 ⟨fun ⟨t, ht, k1, k2⟩ => by
            by_cases e : t = q
            · subst e; exact absurd k2 h2
            · exact ⟨t, by omega, k1, k2⟩, fun ⟨t, ht, k1, k2⟩ => ⟨t, by omega, k1, k2⟩⟩
          generalize decide (Pl.Cov X E q s) = cq at *
          generalize X q = xq at *
          generalize E q = eq at *
          go_wp2
          go_roundg (n - (q + 1))
          case measure => omega
          case rel => exact ⟨rfl, q + 1, by omega, rfl, by go_num, by rw [A'.out]⟩
      · have A' : Hid (decide (Pl.Cov X E (q + 1) s) = decide (Pl.Cov X E q s)) := decide_eq_decide.2 ⟨fun ⟨t, ht, k1, k2⟩ => by
          by_cases e : t = q
          · subst e; exact absurd k1 h1
          · exact ⟨t, by omega, k1, k2⟩, fun ⟨t, ht, k1, k2⟩ => ⟨t, by omega, k1, k2⟩⟩
        generalize decide (Pl.Cov X E q s) = cq at *
        generalize X q = xq at *
        generalize E q = eq at *
        go_wp2
        go_roundg (n - (q + 1))
        case measure => omega
        case rel => exact ⟨rfl, q + 1, by omega, rfl, by go_num, by rw [A'.out]⟩
    · have hqq : q = n := by omega
      subst hqq
      obtain ⟨cq, hcq⟩ : ∃ cq, decide (Pl.Cov X E q s) = cq := ⟨_, rfl⟩
      rw [hcq]
      have C : Hid (decide (Pl.Cov X E q s) = cq) := hcq
      clear hcq
      go_wp2
      go_ret
      exact ⟨ret_bool C.out.symm, rfl⟩

set_option maxHeartbeats 2000000 in
/-- sort.Search with a closure that only reads. -/
theorem search_any (cb : Array Value) (n : Nat) (p : Nat → Bool) (w : World) (hsz : n < 4611686018427387904)
    (hf : ∀ (m i : Nat), i < n → Calls Try.prog 23 (#[.int .i64 i] ++ cb) (w.drewN m) fun e w' => e = .returned (.bool (p i)) ∧ ∃ q, w' = w.drewN q)
    (hmono : ∀ a b, a ≤ b → b < n → p a = true → p b = true) :
    Calls Try.prog 22 #[.int .i64 n, .func (.func 23) #[] cb] w fun e w' => ∃ j : Nat, e = .returned (.int .i64 j) ∧ j ≤ n ∧ (∀ t, t < j → p t = false) ∧ (∀ t, j ≤ t → t < n → p t = true) ∧ ∃ q, w' = w.drewN q := by
  have HF : Aside _ := hf
  have M : Aside _ := hmono
  clear hf hmono
  go_enter Try.func22, Try.ntmps22
  go_wp2
  go_loopg [5, 6] n (fun kx s5 s6 wr => ∃ (lo hi q : Nat), s5 = .int .i64 lo ∧ s6 = .int .i64 hi ∧ lo ≤ hi ∧ hi ≤ n ∧ hi - lo ≤ kx ∧ wr = w.drewN q ∧
    Aside ((∀ t, t < lo → p t = false) ∧ (∀ t, hi ≤ t → t < n → p t = true)))
  case atStart => exact ⟨0, n, 0, rfl, rfl, Nat.zero_le _, Nat.le_refl _, by omega, rfl, (⟨fun t ht => absurd ht (Nat.not_lt_zero _), fun t h1 h2 => by omega⟩ : (∀ t, t < 0 → p t = false) ∧ (∀ t, n ≤ t → t < n → p t = true))⟩
  case round =>
    obtain ⟨lo, hi, q, rfl, rfl, hlh, hin, hg, rfl, I⟩ := hrel
    by_cases hlt : lo < hi
    · have hc := HF.out q ((lo + hi) / 2) (by omega)
      rw [show (((lo + hi) / 2 : Nat) : Int) = ((lo : Int) + (hi : Int)) / 2 by omega] at hc
      cases hp : p ((lo + hi) / 2) <;> rw [hp] at hc
      · have HP : Aside (p ((lo + hi) / 2) = false) := hp
        clear hp
        go_wp2_with fail
        refine hc.mono ?_
        rintro e w' ⟨rfl, nq, rfl⟩
        go_wp2
        go_roundg (hi - ((lo + hi) / 2 + 1))
        case measure => omega
        case rel =>
          have I2 : Aside ((∀ t, t < (lo + hi) / 2 + 1 → p t = false) ∧ (∀ t, hi ≤ t → t < n → p t = true)) := ⟨fun t ht => (by
            cases h : p t with
            | false => rfl
            | true => have := M.out t ((lo + hi) / 2) (by omega) (by omega) h; rw [HP.out] at this; cases this), I.out.2⟩
          exact ⟨(lo + hi) / 2 + 1, hi, nq, by rw [show ((lo : Int) + (hi : Int)) / 2 + 1 = (((lo + hi) / 2 + 1 : Nat) : Int) by omega], rfl, by omega, hin, Nat.le_refl _, rfl, I2⟩
      · have HP : Aside (p ((lo + hi) / 2) = true) := hp
        clear hp
        go_wp2_with fail
        refine hc.mono ?_
        rintro e w' ⟨rfl, nq, rfl⟩
        go_wp2
        go_roundg ((lo + hi) / 2 - lo)
        case measure => omega
        case rel =>
          have I2 : Aside ((∀ t, t < lo → p t = false) ∧ (∀ t, (lo + hi) / 2 ≤ t → t < n → p t = true)) := ⟨I.out.1, fun t ht htn => M.out ((lo + hi) / 2) t ht htn HP.out⟩
          exact ⟨lo, (lo + hi) / 2, nq, rfl, by rw [show ((lo : Int) + (hi : Int)) / 2 = (((lo + hi) / 2 : Nat) : Int) by omega], by omega, by omega, Nat.le_refl _, rfl, I2⟩
    · obtain rfl : hi = lo := by omega
      go_wp2
      go_ret
      exact ⟨hi, rfl, hin, I.out.1, I.out.2, q, rfl⟩

end Go.Proofs.Qxb6608524a
