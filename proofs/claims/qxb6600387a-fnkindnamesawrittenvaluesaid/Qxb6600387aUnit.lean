/-
  The small functions of FnUnitReadsBackAWrittenEscape.
-/
import Derived.Test.Qxb6600387aRows
import Derived.Test.Qxb6600387aMem
import Derived.WalkKit
import Derived.WalkSpells
import Derived.WalkLawsBesides
namespace Go.Proofs.Qxb6600387a
open Go.RowKit

theorem info5 : (Try.prog.info? 5).map (fun i => (i.zero, i.size, i.bytes)) = some (some (.int .u8 0), 1, 1) := by kernel_rfl

/-- A digit's byte. -/
def hexb (d : Int) (up : Bool) : Int := if d < 10 then 48 + d else if up then 65 + d - 10 else 97 + d - 10

theorem ret_int {k : IntKind} {a b : Int} (h : a = b) : Ending.returned (.int k a) = .returned (.int k b) := by rw [h]

set_option maxHeartbeats 400000 in
theorem f20_any (w : World) (d : Int) (up : Bool) (h0 : 0 ≤ d) (h1 : d ≤ 15) : Calls Try.prog 20 #[.int .i64 d, .bool up] w fun e w' => e = .returned (.int .u8 (hexb d up)) ∧ w' = w := by
  by_cases hd : d < 10
  · go_enter Try.func20, Try.ntmps20
    go_wp2
    go_ret
    exact ⟨ret_int (by unfold hexb; rw [if_pos hd]), rfl⟩
  · have hd' := hd
    cases up
    · go_enter Try.func20, Try.ntmps20
      go_wp2
      go_ret
      exact ⟨ret_int (by unfold hexb; rw [if_neg (by omega)]; rfl), rfl⟩
    · go_enter Try.func20, Try.ntmps20
      go_wp2
      go_ret
      exact ⟨ret_int (by unfold hexb; rw [if_neg (by omega)]; rfl), rfl⟩

/-- A []byte that came in. -/
structure Src (w : World) (ao : Option Addr) (n : Nat) (zs : List Int) : Prop where
  len : zs.length = n
  nil : ao = Option.none → n = 0
  cell : ∀ i, i < n → ∃ b off, ao = some ⟨b, off, none⟩ ∧ w.cell? ⟨b, off + i, none⟩ = some (.int .u8 (zs.getD i 0))

/-- A []byte of the call's own, as long as its array; or nil. -/
def Own (w : World) (ao : Option Addr) (zs : List Int) : Prop := (ao = none ∧ zs = []) ∨ ∃ g, ao = some ⟨g, 0, none⟩ ∧ At w g (zs.map (Value.int .u8)) 5

theorem Own.below {w w' : World} {ao : Option Addr} {zs : List Int} (h : Own w ao zs) (u : Below w.heap.size w w') : Own w' ao zs := by
  rcases h with h | ⟨g, h1, h2⟩
  · exact .inl h
  · exact .inr ⟨g, h1, h2.below u h2.lt⟩
theorem Src.below {w w' : World} {ao : Option Addr} {n : Nat} {zs : List Int} (h : Src w ao n zs) (u : Below w.heap.size w w') : Src w' ao n zs :=
  ⟨h.len, h.nil, fun i hi => by
    obtain ⟨b, off, h1, h2⟩ := h.cell i hi
    exact ⟨b, off, h1, by rw [u.cell (World.block_lt_of_cell? w _ h2)]; exact h2⟩⟩

/-- copyBytes behind k rounds. -/
def CopyInv (w wr : World) (n k : Nat) (zs : List Int) : Prop := At wr w.heap.size ((zs.take k).map (Value.int .u8) ++ List.replicate (n - k) (.int .u8 0)) 5 ∧ Below w.heap.size w wr

theorem copy_step {w wr : World} {n k : Nat} {zs : List Int} (h : CopyInv w wr n k zs) (hl : zs.length = n) (hk : k < n) : CopyInv w (wr.setCell ⟨w.heap.size, k, none⟩ (.int .u8 (zs.getD k 0))) n (k + 1) zs := by
  obtain ⟨h1, h2⟩ := h
  refine ⟨?_, h2.setCell (by simp) _⟩
  have := h1.set k (.int .u8 (zs.getD k 0))
  have e : ((zs.take k).map (Value.int .u8) ++ List.replicate (n - k) (Value.int .u8 0)).set k (.int .u8 (zs.getD k 0)) = (zs.take (k + 1)).map (Value.int .u8) ++ List.replicate (n - (k + 1)) (Value.int .u8 0) := by
    obtain ⟨m, hm⟩ : ∃ m, n - k = m + 1 := ⟨n - k - 1, by omega⟩
    have hm' : n - (k + 1) = m := by omega
    have hkl : k < zs.length := by omega
    have hlk : ((zs.take k).map (Value.int .u8)).length = k := by simp; omega
    rw [hm, hm', List.replicate_succ, List.take_succ_eq_append_getElem hkl, List.set_append_right _ _ (by omega), hlk, Nat.sub_self, List.set_cons_zero, List.map_append, List.append_assoc]
    congr 1
    simp [List.getD, hkl]
  rw [e] at this
  exact this

theorem copy_cell {w wr : World} {n k : Nat} {zs : List Int} (h : CopyInv w wr n k zs) (hl : zs.length = n) (hk : k < n) : wr.cell? ⟨w.heap.size, k, none⟩ = some (.int .u8 0) ∧ wr.frozen? ⟨w.heap.size, k, none⟩ = false := by
  obtain ⟨h1, h2⟩ := h
  refine ⟨h1.cell ?_, h1.frozen _⟩
  have hlk : ((zs.take k).map (Value.int .u8)).length = k := by simp; omega
  rw [List.getElem?_append_right (by omega), List.getElem?_replicate, if_pos (by omega)]

set_option maxHeartbeats 400000 in
theorem f9_nil (w : World) (n cap : Nat) : Calls Try.prog 9 #[.slice none n cap] w fun e w' => e = .returned (.slice none 0 0) ∧ w' = w := by
  have h1 := fun w => Lib.run_eql_slice_nil (P := Try.prog) w 22 5 none n cap 0 0 Try.underlying22
  go_enter Try.func9, Try.ntmps9
  go_wp2
  go_ret
  exact ⟨rfl, rfl⟩

set_option maxHeartbeats 400000 in
theorem f9_some (w : World) (a0 : Addr) (n cap : Nat) (zs : List Int) (hn : n ≤ 1048576) (hs : Src w (some a0) n zs) :
    Calls Try.prog 9 #[.slice (some a0) n cap] w fun e w' => e = .returned (.slice (some ⟨w.heap.size, 0, none⟩) n n) ∧ CopyInv w w' n n zs := by
  obtain ⟨i0, hi, hz0, hz1, hz2⟩ := info_parts info5
  have h1 := fun w => Lib.run_eql_slice_nil (P := Try.prog) w 22 5 (some a0) n cap 0 0 Try.underlying22
  have hin : (n : Int) ≤ 1048576 := by omega
  go_enter Try.func9, Try.ntmps9
  go_wp2_with (at_make; refine wpList_make_at _ rfl _ _ 22 rfl 5 i0 _ Try.underlying22 hi hz0 hz1 rfl .i64 .i64 n n n rfl rfl rfl rfl ?_ ?_ ?_)
  · rw [hz2]; omega
  · unfold maxLen; omega
  intro w1 hat hb
  go_wp2
  go_loopw [4] (fun i wr => ∃ k : Nat, k ≤ n ∧ i = .int .i64 k ∧ CopyInv w wr n k zs) (fun i _ => n - (intOf i).toNat)
  case atStart => exact ⟨0, Nat.zero_le _, rfl, by simpa using hat, hb⟩
  case round =>
    obtain ⟨k, hk, rfl, hinv⟩ := hrel
    by_cases hlt : k < n
    · obtain ⟨b, off, hao, hc⟩ := (hs.below hinv.2).cell k hlt
      cases hao
      obtain ⟨hc2, hf2⟩ := copy_cell hinv hs.len hlt
      have hst := copy_step hinv hs.len hlt
      obtain ⟨z, hz⟩ : ∃ z, zs.getD k 0 = z := ⟨_, rfl⟩
      rw [hz] at hc hst
      clear hinv hs hz hat hb
      go_wp2
      go_roundw
      case rel => exact ⟨k + 1, by omega, by go_num, hst⟩
      case measure => simp [intOf]; omega
    · have : k = n := by omega
      subst this
      clear hs
      go_wp2
      go_ret
      exact ⟨rfl, hinv⟩

theorem f9_any (w : World) (ao : Option Addr) (n cap : Nat) (zs : List Int) (hn : n ≤ 1048576) (hs : Src w ao n zs) :
    Calls Try.prog 9 #[.slice ao n cap] w fun e w' => ∃ ao' c', e = .returned (.slice ao' n c') ∧ Own w' ao' zs ∧ Below w.heap.size w w' := by
  cases ao with
  | none =>
    obtain rfl := hs.nil rfl
    have hz : zs = [] := List.eq_nil_of_length_eq_zero hs.len
    exact (f9_nil w 0 cap).mono fun e w' ⟨he, hw⟩ => ⟨_, _, he, .inl ⟨rfl, hz⟩, by subst hw; exact Below.refl _ _⟩
  | some a0 =>
    refine (f9_some w a0 n cap zs hn hs).mono fun e w' ⟨he, h1, h2⟩ => ⟨_, _, he, .inr ⟨_, rfl, ?_⟩, h2⟩
    rw [List.take_of_length_le (by rw [hs.len]; exact Nat.le_refl _), Nat.sub_self, List.replicate_zero, List.append_nil] at h1
    exact h1

/-- It returned a bool; and if the bool was yes, then p. -/
def YesOr (e : Ending) (p : Prop) : Prop := ∃ c : Bool, e = .returned (.bool c) ∧ (c = true → p)
theorem YesOr.no {p : Prop} : YesOr (.returned (.bool false)) p := ⟨false, rfl, fun h => by cases h⟩
theorem YesOr.yes {p : Prop} (h : p) : YesOr (.returned (.bool true)) p := ⟨true, rfl, fun _ => h⟩

set_option maxHeartbeats 400000 in
theorem f19_any (w : World) (a0 a3 : Option Addr) (n0 n3 c0 c3 : Nat) (v m : Int) (h0 : n0 ≤ maxLen) (h3 : n3 ≤ maxLen) :
    Calls Try.prog 19 #[.slice a0 n0 c0, .int .u16 v, .int .u8 m, .slice a3 n3 c3] w fun e w' => YesOr e (n0 ≤ 1048576 ∧ n3 ≤ 1048576 ∧ n0 + n3 ≤ 1048576) ∧ w' = w := by
  unfold maxLen at h0 h3
  by_cases b0 : n0 ≤ 1048576
  · by_cases b3 : n3 ≤ 1048576
    · by_cases b4 : n0 + n3 ≤ 1048576
      · have b4' : (n0 : Int) + n3 ≤ 1048576 := by omega
        go_enter Try.func19, Try.ntmps19
        go_wp2
        go_ret
        exact ⟨YesOr.yes ⟨b0, b3, b4⟩, rfl⟩
      · have b4' : 1048576 < (n0 : Int) + n3 := by omega
        go_enter Try.func19, Try.ntmps19
        go_wp2
        go_ret
        exact ⟨YesOr.no, rfl⟩
    · go_enter Try.func19, Try.ntmps19
      go_wp2
      go_ret
      exact ⟨YesOr.no, rfl⟩
  · go_enter Try.func19, Try.ntmps19
    go_wp2
    go_ret
    exact ⟨YesOr.no, rfl⟩

end Go.Proofs.Qxb6600387a
