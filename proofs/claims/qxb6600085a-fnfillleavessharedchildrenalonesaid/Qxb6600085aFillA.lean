/-
  Of the last two statements: their zzBytes; leafIsClone.
-/
import Derived.Test.Qxb6600085aBase
namespace Go.Proofs.Qxb6600085a
open Go.RowKit

def Small2 (ns n : Nat) (L : Nat → Nat) : Prop := ns ≤ 1048576 ∧ Small n L

set_option maxHeartbeats 400000 in
theorem f26_any (w : World) (sa : Option Addr) (ns cs : Nat) (i : Int) (ao : Option Addr) (n cap : Nat) (A : Nat → Option Addr) (L C : Nat → Nat) (hms : ns ≤ maxLen) (hm : n ≤ maxLen) (hr : RowS w ao n A L C) :
    Calls Try.prog 26 #[.slice sa ns cs, .int .i64 i, .slice ao n cap] w fun e w' => YesOr e (Small2 ns n L) ∧ w' = w := by
  unfold maxLen at hm hms
  by_cases hns : ns ≤ 1048576
  case neg =>
    go_enter Try.func26, Try.ntmps26
    go_wp2
    go_ret
    exact ⟨YesOr.no, rfl⟩
  case pos =>
  by_cases hn : n ≤ 1048576
  case neg =>
    go_enter Try.func26, Try.ntmps26
    go_wp2
    go_ret
    exact ⟨YesOr.no, rfl⟩
  case pos =>
  by_cases hb : ns + n ≤ 1048576
  case neg =>
    go_enter Try.func26, Try.ntmps26
    go_wp2
    go_ret
    exact ⟨YesOr.no, rfl⟩
  case pos =>
    go_enter Try.func26, Try.ntmps26
    go_wp2
    go_loop [7, 8] (fun t i => ∃ k : Nat, k ≤ n ∧ i = .int .i64 k ∧ (∃ q : Int, t = .int .i64 q) ∧ Hid (∀ j, j < k → L j ≤ 1048576)) (fun _ i => n - (intOf i).toNat)
    case atStart => exact ⟨0, Nat.zero_le _, rfl, ⟨_, rfl⟩, fun j hj => absurd hj (Nat.not_lt_zero _)⟩
    case round =>
      obtain ⟨k, hk, rfl, ⟨q, rfl⟩, hs⟩ := hrel
      by_cases hlt : k < n
      · obtain ⟨b, off, hao, hc⟩ := hr k hlt
        subst hao
        clear hr
        go_wp2
        · go_ret
          exact ⟨YesOr.no, rfl⟩
        · go_ret
          exact ⟨YesOr.no, rfl⟩
        · have hL : (L k : Int) ≤ 1048576 := by assumption
          go_round
          case rel =>
            refine ⟨k + 1, by omega, by go_num, ⟨_, rfl⟩, fun j hj => ?_⟩
            rcases Nat.lt_succ_iff_lt_or_eq.1 hj with h | h
            · exact hs.out j h
            · subst h; omega
          case measure => simp [intOf]; omega
      · clear hr
        go_wp2
        go_ret
        exact ⟨YesOr.yes ⟨hns, hn, fun i hi => hs.out i (by omega)⟩, rfl⟩

set_option maxHeartbeats 400000 in
theorem f32_any (w : World) (sa : Option Addr) (ns cs : Nat) (i : Int) (ao : Option Addr) (n cap : Nat) (A : Nat → Option Addr) (L C : Nat → Nat) (hms : ns ≤ maxLen) (hm : n ≤ maxLen) (hr : RowS w ao n A L C) :
    Calls Try.prog 32 #[.slice sa ns cs, .int .i64 i, .slice ao n cap] w fun e w' => YesOr e (Small2 ns n L) ∧ w' = w := by
  unfold maxLen at hm hms
  by_cases hns : ns ≤ 1048576
  case neg =>
    go_enter Try.func32, Try.ntmps32
    go_wp2
    go_ret
    exact ⟨YesOr.no, rfl⟩
  case pos =>
  by_cases hn : n ≤ 1048576
  case neg =>
    go_enter Try.func32, Try.ntmps32
    go_wp2
    go_ret
    exact ⟨YesOr.no, rfl⟩
  case pos =>
  by_cases hb : ns + n ≤ 1048576
  case neg =>
    go_enter Try.func32, Try.ntmps32
    go_wp2
    go_ret
    exact ⟨YesOr.no, rfl⟩
  case pos =>
    go_enter Try.func32, Try.ntmps32
    go_wp2
    go_loop [7, 8] (fun t i => ∃ k : Nat, k ≤ n ∧ i = .int .i64 k ∧ (∃ q : Int, t = .int .i64 q) ∧ Hid (∀ j, j < k → L j ≤ 1048576)) (fun _ i => n - (intOf i).toNat)
    case atStart => exact ⟨0, Nat.zero_le _, rfl, ⟨_, rfl⟩, fun j hj => absurd hj (Nat.not_lt_zero _)⟩
    case round =>
      obtain ⟨k, hk, rfl, ⟨q, rfl⟩, hs⟩ := hrel
      by_cases hlt : k < n
      · obtain ⟨b, off, hao, hc⟩ := hr k hlt
        subst hao
        clear hr
        go_wp2
        · go_ret
          exact ⟨YesOr.no, rfl⟩
        · go_ret
          exact ⟨YesOr.no, rfl⟩
        · have hL : (L k : Int) ≤ 1048576 := by assumption
          go_round
          case rel =>
            refine ⟨k + 1, by omega, by go_num, ⟨_, rfl⟩, fun j hj => ?_⟩
            rcases Nat.lt_succ_iff_lt_or_eq.1 hj with h | h
            · exact hs.out j h
            · subst h; omega
          case measure => simp [intOf]; omega
      · clear hr
        go_wp2
        go_ret
        exact ⟨YesOr.yes ⟨hns, hn, fun i hi => hs.out i (by omega)⟩, rfl⟩

/-- Is the leaf drawn from byte b the clone's? -/
def isC (b : Int) : Bool := b / 17 % 2 == 1

set_option maxHeartbeats 400000 in
theorem f40_any (w : World) (b : Int) (h0 : 0 ≤ b) (h1 : b < 256) : Calls Try.prog 40 #[.int .u8 b] w fun e w' => e = .returned (.bool (isC b)) ∧ w' = w := by
  go_enter Try.func40, Try.ntmps40
  go_wp2
  go_ret
  exact ⟨rfl, rfl⟩

end Go.Proofs.Qxb6600085a
