/-
  SEAT b6608524a: the bounds on the lengths (zzBytes_..).
-/
import Derived.Test.Qxb6608524aGrid
namespace Go.Proofs.Qxb6608524a
open Go.RowKit

/-- A bool; where it is true the lengths are small. -/
def Small (bn n1 n2 : Nat) (N : Nat → Nat) (e : Ending) : Prop := ∃ b : Bool, e = .returned (.bool b) ∧ (b = true → bn ≤ 1048576 ∧ (∀ i, i < bn → N i ≤ 1048576) ∧ n1 ≤ 1048576 ∧ n2 ≤ 1048576)
theorem Small.no {bn n1 n2 : Nat} {N : Nat → Nat} : Small bn n1 n2 N (.returned (.bool false)) := ⟨false, rfl, fun h => by cases h⟩

set_option maxHeartbeats 2000000 in
theorem zz9_any (p0 p1 p2 p3 p7 p8 : Int) (a x1 x2 : Option Addr) (bn bc n1 m1 n2 m2 : Nat) (N : Nat → Nat) (F : Nat → Nat → Int) (w : World) (hB : Blocks w a bn N F) (hcnt : bn ≤ maxLen) (hlen : ∀ i, i < bn → N i ≤ maxLen) (hn1 : n1 ≤ maxLen) (hn2 : n2 ≤ maxLen) :
    Calls Try.prog 9 #[.int .i64 p0, .int .i64 p1, .int .i64 p2, .int .i64 p3, .slice a bn bc, .slice x1 n1 m1, .slice x2 n2 m2, .int .i64 p7, .int .i64 p8] w fun e w' => Small bn n1 n2 N e ∧ w' = w := by
  unfold maxLen at hcnt hlen hn1 hn2
  have HP : Hid _ := hB
  have HL : Hid _ := hlen
  clear hB hlen
  by_cases h1 : bn ≤ 1048576
  · go_enter Try.func9, Try.ntmps9
    go_wp2
    go_loopg [19, 20] bn (fun g s19 s20 wr => w = wr ∧ ∃ (i : Nat) (z : Int), i ≤ bn ∧ g = bn - i ∧ s20 = .int .i64 i ∧ s19 = .int .i64 z ∧ 0 ≤ z ∧ z ≤ 1048576 ∧ Aside (∀ t, t < i → N t ≤ 1048576))
    case atStart => exact ⟨rfl, 0, bn, Nat.zero_le _, rfl, rfl, rfl, by omega, by omega, fun t ht => absurd ht (Nat.not_lt_zero _)⟩
    case round =>
      obtain ⟨rfl, i, z, hi, rfl, rfl, rfl, hz0, hz1, A⟩ := hrel
      by_cases hlt : i < bn
      · obtain ⟨b, o, ai, ci, rfl, c0, _, _⟩ := HP.out i hlt
        have hn := HL.out i hlt
        have A' : Aside (N i ≤ 1048576 → ∀ t, t < i + 1 → N t ≤ 1048576) := fun h t ht => by
          by_cases e : t = i
          · subst e; exact h
          · exact A.out t (by omega)
        clear A
        generalize N i = ni at *
        by_cases h2 : ni ≤ 1048576
        · by_cases h3 : z + ni ≤ 1048576
          · go_wp2
            go_roundg (bn - (i + 1))
            case measure => omega
            case rel => exact ⟨rfl, i + 1, z + ni, by omega, rfl, by go_num, rfl, by omega, by omega, A'.out h2⟩
          · go_wp2
            go_ret
            exact ⟨Small.no, rfl⟩
        · go_wp2
          go_ret
          exact ⟨Small.no, rfl⟩
      · by_cases k1 : n1 ≤ 1048576
        · by_cases k2 : z + n1 ≤ 1048576
          · by_cases k3 : n2 ≤ 1048576
            · by_cases k4 : z + n1 + n2 ≤ 1048576
              · go_wp2
                go_ret
                exact ⟨⟨true, rfl, fun _ => ⟨h1, fun t ht => A.out t (by omega), k1, k3⟩⟩, rfl⟩
              · go_wp2
                go_ret
                exact ⟨Small.no, rfl⟩
            · go_wp2
              go_ret
              exact ⟨Small.no, rfl⟩
          · go_wp2
            go_ret
            exact ⟨Small.no, rfl⟩
        · go_wp2
          go_ret
          exact ⟨Small.no, rfl⟩
  · go_enter Try.func9, Try.ntmps9
    go_wp2
    go_ret
    exact ⟨Small.no, rfl⟩

set_option maxHeartbeats 2000000 in
theorem zz17_any (p0 p1 p2 p3 p7 p8 : Int) (a x1 x2 : Option Addr) (bn bc n1 m1 n2 m2 : Nat) (N : Nat → Nat) (F : Nat → Nat → Int) (w : World) (hB : Blocks w a bn N F) (hcnt : bn ≤ maxLen) (hlen : ∀ i, i < bn → N i ≤ maxLen) (hn1 : n1 ≤ maxLen) (hn2 : n2 ≤ maxLen) :
    Calls Try.prog 17 #[.int .i64 p0, .int .i64 p1, .int .i64 p2, .int .i64 p3, .slice a bn bc, .slice x1 n1 m1, .slice x2 n2 m2, .int .i64 p7, .int .i64 p8] w fun e w' => Small bn n1 n2 N e ∧ w' = w := by
  unfold maxLen at hcnt hlen hn1 hn2
  have HP : Hid _ := hB
  have HL : Hid _ := hlen
  clear hB hlen
  by_cases h1 : bn ≤ 1048576
  · go_enter Try.func17, Try.ntmps17
    go_wp2
    go_loopg [19, 20] bn (fun g s19 s20 wr => w = wr ∧ ∃ (i : Nat) (z : Int), i ≤ bn ∧ g = bn - i ∧ s20 = .int .i64 i ∧ s19 = .int .i64 z ∧ 0 ≤ z ∧ z ≤ 1048576 ∧ Aside (∀ t, t < i → N t ≤ 1048576))
    case atStart => exact ⟨rfl, 0, bn, Nat.zero_le _, rfl, rfl, rfl, by omega, by omega, fun t ht => absurd ht (Nat.not_lt_zero _)⟩
    case round =>
      obtain ⟨rfl, i, z, hi, rfl, rfl, rfl, hz0, hz1, A⟩ := hrel
      by_cases hlt : i < bn
      · obtain ⟨b, o, ai, ci, rfl, c0, _, _⟩ := HP.out i hlt
        have hn := HL.out i hlt
        have A' : Aside (N i ≤ 1048576 → ∀ t, t < i + 1 → N t ≤ 1048576) := fun h t ht => by
          by_cases e : t = i
          · subst e; exact h
          · exact A.out t (by omega)
        clear A
        generalize N i = ni at *
        by_cases h2 : ni ≤ 1048576
        · by_cases h3 : z + ni ≤ 1048576
          · go_wp2
            go_roundg (bn - (i + 1))
            case measure => omega
            case rel => exact ⟨rfl, i + 1, z + ni, by omega, rfl, by go_num, rfl, by omega, by omega, A'.out h2⟩
          · go_wp2
            go_ret
            exact ⟨Small.no, rfl⟩
        · go_wp2
          go_ret
          exact ⟨Small.no, rfl⟩
      · by_cases k1 : n1 ≤ 1048576
        · by_cases k2 : z + n1 ≤ 1048576
          · by_cases k3 : n2 ≤ 1048576
            · by_cases k4 : z + n1 + n2 ≤ 1048576
              · go_wp2
                go_ret
                exact ⟨⟨true, rfl, fun _ => ⟨h1, fun t ht => A.out t (by omega), k1, k3⟩⟩, rfl⟩
              · go_wp2
                go_ret
                exact ⟨Small.no, rfl⟩
            · go_wp2
              go_ret
              exact ⟨Small.no, rfl⟩
          · go_wp2
            go_ret
            exact ⟨Small.no, rfl⟩
        · go_wp2
          go_ret
          exact ⟨Small.no, rfl⟩
  · go_enter Try.func17, Try.ntmps17
    go_wp2
    go_ret
    exact ⟨Small.no, rfl⟩

end Go.Proofs.Qxb6608524a
