/-
  The small readers of seat b6600085a: zzBytes, valuesBytes.
-/
import Derived.Test.Qxb6600085aRows
import Derived.WalkKit
import Derived.WalkSpells
import Derived.WalkLawsBesides
import Derived.Deep.QuietTactic
import Derived.BigQuiet
namespace Go.Proofs.Qxb6600085a
open Go.RowKit

/-- The slice at 'ao', n long, of slices: element i is '.slice (A i) (L i) (C i)'. -/
def RowS (w : World) (ao : Option Addr) (n : Nat) (A : Nat → Option Addr) (L C : Nat → Nat) : Prop :=
  ∀ i, i < n → ∃ b off, ao = some ⟨b, off, none⟩ ∧ w.cell? ⟨b, off + i, none⟩ = some (.slice (A i) (L i) (C i))

set_option maxHeartbeats 400000 in
theorem f9_any (w : World) (ao : Option Addr) (n cap : Nat) (A : Nat → Option Addr) (L C : Nat → Nat) (hn : n ≤ 1048576) (hr : RowS w ao n A L C) :
    Calls Try.prog 9 #[.slice ao n cap] w fun e w' => (∃ q : Int, e = .returned (.int .i64 q)) ∧ w' = w := by
  go_enter Try.func9, Try.ntmps9
  go_wp2
  go_loop [3, 4] (fun t i => ∃ k : Nat, k ≤ n ∧ i = .int .i64 k ∧ ∃ q : Int, t = .int .i64 q) (fun _ i => n - (intOf i).toNat)
  case atStart => exact ⟨0, Nat.zero_le _, rfl, _, rfl⟩
  case round =>
    obtain ⟨k, hk, rfl, q, rfl⟩ := hrel
    by_cases hlt : k < n
    · obtain ⟨b, off, hao, hc⟩ := hr k hlt
      subst hao
      clear hr
      go_wp2
      · go_ret
        exact ⟨⟨_, rfl⟩, rfl⟩
      · go_round
        case rel => exact ⟨k + 1, by omega, by go_num, _, rfl⟩
        case measure => simp [intOf]; omega
      · go_ret
        exact ⟨⟨_, rfl⟩, rfl⟩
    · clear hr
      go_wp2
      go_ret
      exact ⟨⟨_, rfl⟩, rfl⟩

/-- What a zzBytes says when it says yes. -/
def Small (n : Nat) (L : Nat → Nat) : Prop := n ≤ 1048576 ∧ ∀ i, i < n → L i ≤ 1048576

/-- It returned a bool; and if the bool was yes, then p. -/
def YesOr (e : Ending) (p : Prop) : Prop := ∃ c : Bool, e = .returned (.bool c) ∧ (c = true → p)
theorem YesOr.no {p : Prop} : YesOr (.returned (.bool false)) p := ⟨false, rfl, fun h => by cases h⟩
theorem YesOr.yes {p : Prop} (h : p) : YesOr (.returned (.bool true)) p := ⟨true, rfl, fun _ => h⟩

set_option maxHeartbeats 400000 in
theorem f21_any (w : World) (x y : Bool) (ao : Option Addr) (n cap : Nat) (A : Nat → Option Addr) (L C : Nat → Nat) (hm : n ≤ maxLen) (hr : RowS w ao n A L C) :
    Calls Try.prog 21 #[.slice ao n cap, .bool x, .bool y] w fun e w' => YesOr e (Small n L) ∧ w' = w := by
  unfold maxLen at hm
  by_cases hn : n ≤ 1048576
  · go_enter Try.func21, Try.ntmps21
    go_wp2
    go_loop [7, 8] (fun t i => ∃ k : Nat, k ≤ n ∧ i = .int .i64 k ∧ (∃ q : Int, t = .int .i64 q) ∧ Hid (∀ j, j < k → L j ≤ 1048576)) (fun _ i => n - (intOf i).toNat)
    case atStart => exact ⟨0, Nat.zero_le _, rfl, ⟨_, rfl⟩, fun j hj => absurd hj (Nat.not_lt_zero _)⟩
    case round =>
      obtain ⟨k, hk, rfl, ⟨q, rfl⟩, hs⟩ := hrel
      by_cases hlt : k < n
      · obtain ⟨b, off, hao, hc⟩ := hr k hlt
        subst hao
        clear hr
        go_wp2
        · go_ret
          exact ⟨YesOr.no, rfl⟩
        · go_ret
          exact ⟨YesOr.no, rfl⟩
        · have hL : (L k : Int) ≤ 1048576 := by assumption
          go_round
          case rel =>
            refine ⟨k + 1, by omega, by go_num, ⟨_, rfl⟩, fun j hj => ?_⟩
            rcases Nat.lt_succ_iff_lt_or_eq.1 hj with h | h
            · exact hs.out j h
            · subst h; omega
          case measure => simp [intOf]; omega
      · clear hr
        go_wp2
        go_ret
        exact ⟨YesOr.yes ⟨hn, fun i hi => hs.out i (by omega)⟩, rfl⟩
  · go_enter Try.func21, Try.ntmps21
    go_wp2
    go_ret
    exact ⟨YesOr.no, rfl⟩

set_option maxHeartbeats 400000 in
theorem f8_any (w : World) (x y : Bool) (ao : Option Addr) (n cap : Nat) (A : Nat → Option Addr) (L C : Nat → Nat) (hm : n ≤ maxLen) (hr : RowS w ao n A L C) :
    Calls Try.prog 8 #[.slice ao n cap, .bool x, .bool y] w fun e w' => YesOr e (Small n L) ∧ w' = w := by
  unfold maxLen at hm
  by_cases hn : n ≤ 1048576
  · go_enter Try.func8, Try.ntmps8
    go_wp2
    go_loop [7, 8] (fun t i => ∃ k : Nat, k ≤ n ∧ i = .int .i64 k ∧ (∃ q : Int, t = .int .i64 q) ∧ Hid (∀ j, j < k → L j ≤ 1048576)) (fun _ i => n - (intOf i).toNat)
    case atStart => exact ⟨0, Nat.zero_le _, rfl, ⟨_, rfl⟩, fun j hj => absurd hj (Nat.not_lt_zero _)⟩
    case round =>
      obtain ⟨k, hk, rfl, ⟨q, rfl⟩, hs⟩ := hrel
      by_cases hlt : k < n
      · obtain ⟨b, off, hao, hc⟩ := hr k hlt
        subst hao
        clear hr
        go_wp2
        · go_ret
          exact ⟨YesOr.no, rfl⟩
        · go_ret
          exact ⟨YesOr.no, rfl⟩
        · have hL : (L k : Int) ≤ 1048576 := by assumption
          go_round
          case rel =>
            refine ⟨k + 1, by omega, by go_num, ⟨_, rfl⟩, fun j hj => ?_⟩
            rcases Nat.lt_succ_iff_lt_or_eq.1 hj with h | h
            · exact hs.out j h
            · subst h; omega
          case measure => simp [intOf]; omega
      · clear hr
        go_wp2
        go_ret
        exact ⟨YesOr.yes ⟨hn, fun i hi => hs.out i (by omega)⟩, rfl⟩
  · go_enter Try.func8, Try.ntmps8
    go_wp2
    go_ret
    exact ⟨YesOr.no, rfl⟩

set_option maxHeartbeats 400000 in
theorem f25_any (w : World) (x : Bool) (ao : Option Addr) (n cap : Nat) (A : Nat → Option Addr) (L C : Nat → Nat) (hm : n ≤ maxLen) (hr : RowS w ao n A L C) :
    Calls Try.prog 25 #[.slice ao n cap, .bool x] w fun e w' => YesOr e (Small n L) ∧ w' = w := by
  unfold maxLen at hm
  by_cases hn : n ≤ 1048576
  · go_enter Try.func25, Try.ntmps25
    go_wp2
    go_loop [5, 6] (fun t i => ∃ k : Nat, k ≤ n ∧ i = .int .i64 k ∧ (∃ q : Int, t = .int .i64 q) ∧ Hid (∀ j, j < k → L j ≤ 1048576)) (fun _ i => n - (intOf i).toNat)
    case atStart => exact ⟨0, Nat.zero_le _, rfl, ⟨_, rfl⟩, fun j hj => absurd hj (Nat.not_lt_zero _)⟩
    case round =>
      obtain ⟨k, hk, rfl, ⟨q, rfl⟩, hs⟩ := hrel
      by_cases hlt : k < n
      · obtain ⟨b, off, hao, hc⟩ := hr k hlt
        subst hao
        clear hr
        go_wp2
        · go_ret
          exact ⟨YesOr.no, rfl⟩
        · go_ret
          exact ⟨YesOr.no, rfl⟩
        · have hL : (L k : Int) ≤ 1048576 := by assumption
          go_round
          case rel =>
            refine ⟨k + 1, by omega, by go_num, ⟨_, rfl⟩, fun j hj => ?_⟩
            rcases Nat.lt_succ_iff_lt_or_eq.1 hj with h | h
            · exact hs.out j h
            · subst h; omega
          case measure => simp [intOf]; omega
      · clear hr
        go_wp2
        go_ret
        exact ⟨YesOr.yes ⟨hn, fun i hi => hs.out i (by omega)⟩, rfl⟩
  · go_enter Try.func25, Try.ntmps25
    go_wp2
    go_ret
    exact ⟨YesOr.no, rfl⟩

end Go.Proofs.Qxb6600085a
