/-
  unit.
-/
import Derived.Test.Qxb6600387aUnit
namespace Go.Proofs.Qxb6600387a
open Go.RowKit

/-- Byte h is a hex digit of value d. -/
def HexOf (h d : Int) : Prop := 0 ≤ d ∧ d ≤ 15 ∧ ((48 ≤ h ∧ h ≤ 57 ∧ h - 48 = d) ∨ (97 ≤ h ∧ h ≤ 102 ∧ h - 87 = d) ∨ (65 ≤ h ∧ h ≤ 70 ∧ h - 55 = d))

/-- The value read behind k digits. -/
def uval (D : Nat → Int) : Nat → Int
  | 0 => 0
  | k + 1 => uval D k * 16 + D k

theorem i32_or4 {x y : Int} (hx₀ : 0 ≤ x) (hx : x % 16 = 0) (hx₁ : x < 2147483648) (h₀ : 0 ≤ y) (h₁ : y < 16) : bits .or .i32 x y = x + y :=
  bits_join .i32 31 (by decide) wraps_i32 4 x y hx₀ hx hx₁ h₀ h₁ (by omega)

theorem uval_bd (D : Nat → Int) (hD : ∀ k, k < 4 → 0 ≤ D k ∧ D k ≤ 15) : ∀ k, k ≤ 4 → 0 ≤ uval D k ∧ uval D k < 65536 := by
  have h0 := hD 0 (by omega)
  have h1 := hD 1 (by omega)
  have h2 := hD 2 (by omega)
  have h3 := hD 3 (by omega)
  intro k hk
  match k, hk with
  | 0, _ => simp [uval]
  | 1, _ => simp [uval]; omega
  | 2, _ => simp [uval]; omega
  | 3, _ => simp [uval]; omega
  | 4, _ => simp [uval]; omega

theorem uval_lt (D : Nat → Int) (hD : ∀ k, k < 4 → 0 ≤ D k ∧ D k ≤ 15) : ∀ k, k < 4 → uval D k < 4096 := by
  have h0 := hD 0 (by omega)
  have h1 := hD 1 (by omega)
  have h2 := hD 2 (by omega)
  intro k hk
  match k, hk with
  | 0, _ => simp [uval]
  | 1, _ => simp [uval]; omega
  | 2, _ => simp [uval]; omega
  | 3, _ => simp [uval]; omega

set_option maxRecDepth 100000 in
set_option maxHeartbeats 1600000 in
theorem f26_any (w : World) (r g n cap at_ : Nat) (H D : Nat → Int) (hr : w.cell? ⟨r, 0, none⟩ = some (.slice (some ⟨g, 0, none⟩) n cap)) (hn : at_ + 6 ≤ n) (hnc : n ≤ cap) (hcc : cap ≤ maxLen)
    (c0 : w.cell? ⟨g, at_, none⟩ = some (.int .u8 92)) (c1 : w.cell? ⟨g, at_ + 1, none⟩ = some (.int .u8 117)) (cH : ∀ k, k < 4 → w.cell? ⟨g, at_ + 2 + k, none⟩ = some (.int .u8 (H k))) (hH : ∀ k, k < 4 → HexOf (H k) (D k)) :
    Calls Try.prog 26 #[.pointer (some ⟨r, 0, none⟩), .int .i64 at_] w fun e w' => e = .returned (.tuple #[.int .i32 (uval D 4), .bool true]) ∧ w' = w := by
  unfold maxLen at hcc
  have h0 : (0 : Int) ≤ (at_ : Int) := Int.natCast_nonneg _
  have h1 : (at_ : Int) + 6 ≤ (n : Int) := by omega
  have hD : ∀ k, k < 4 → 0 ≤ D k ∧ D k ≤ 15 := fun k hk => ⟨(hH k hk).1, (hH k hk).2.1⟩
  have hub := uval_lt D hD
  have hu0 := uval_bd D hD
  go_enter Try.func26, Try.ntmps26
  go_wp2
  go_loop [4, 5, 6, 8, 48] (fun _ _ u _ i => ∃ k : Nat, k ≤ 4 ∧ i = .int .i64 k ∧ u = .int .i32 (uval D k)) (fun _ _ _ _ i => 4 - (intOf i).toNat)
  case atStart => exact ⟨0, Nat.zero_le _, rfl, rfl⟩
  case round =>
    obtain ⟨k, hk, rfl, rfl⟩ := hrel
    by_cases hlt : k < 4
    · have hc := cH k hlt
      obtain ⟨hd0, hd1, hh⟩ := hH k hlt
      have b1 := hub k hlt
      have b0 := (hu0 k hk).1
      have hst : bits .or .i32 (uval D k * 16) (D k) = uval D (k + 1) := by
        rw [i32_or4 (by omega) (by omega) (by omega) hd0 (by omega)]; rfl
      have HST := hide hst
      clear cH hH hub hu0 hD hst
      obtain ⟨h, hhk⟩ : ∃ h, H k = h := ⟨_, rfl⟩
      obtain ⟨d, hdk⟩ : ∃ d, D k = d := ⟨_, rfl⟩
      rw [hhk] at hc hh
      rw [hdk] at hd0 hd1 hh HST
      clear hhk hdk
      rcases hh with ⟨ha, hb, hcc⟩ | ⟨ha, hb, hcc⟩ | ⟨ha, hb, hcc⟩
      · go_wp2
        go_round
        case rel => exact ⟨k + 1, by omega, by go_num, by rw [← HST.out]⟩
        case measure => simp [intOf]; omega
      · have hx : ¬ h ≤ 57 := by omega
        go_wp2
        go_round
        case rel => exact ⟨_, _, _, _, _, ⟨k + 1, by omega, by go_num, by rw [← HST.out]⟩, rfl, rfl, rfl, rfl, rfl⟩
        case measure => simp [intOf]; omega
      · have hx : ¬ h ≤ 57 := by omega
        have hx2 : ¬ 97 ≤ h := by omega
        go_wp2
        go_round
        case rel => exact ⟨_, _, _, _, _, ⟨k + 1, by omega, by go_num, by rw [← HST.out]⟩, rfl, rfl, rfl, rfl, rfl⟩
        case measure => simp [intOf]; omega
    · have h4 : k = 4 := by omega
      subst h4
      clear cH hH hub hu0 hD
      go_wp2
      go_ret2
      exact ⟨rfl, rfl⟩

end Go.Proofs.Qxb6600387a
