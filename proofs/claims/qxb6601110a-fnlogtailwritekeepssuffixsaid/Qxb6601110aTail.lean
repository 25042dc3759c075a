/-
  The small functions of FnLogTailWriteKeepsSuffix: zzBytes (4), cloneBytesE1 (5), ZZLogTail (6), ZZLogTailBuf (8), Write (7).
-/
import Derived.Test.Qxb6601110aRows
import Derived.Test.Qxb6601110aMem
import Derived.WalkKit
import Derived.WalkSpells
import Derived.WalkLawsBesides
namespace Go.Proofs.Qxb6601110a
open Go.RowKit

theorem info5 : (Try.prog.info? 5).map (fun i => (i.zero, i.size, i.bytes)) = some (some (.int .u8 0), 1, 1) := by kernel_rfl
theorem info24 : (Try.prog.info? 24).map (fun i => (i.zero, i.size, i.bytes)) = some (some (.slice none 0 0), 1, 24) := by kernel_rfl

/-- A []byte of these bytes. -/
structure Src (w : World) (ao : Option Addr) (n : Nat) (zs : List Int) : Prop where
  len : zs.length = n
  nil : ao = Option.none → n = 0
  cell : ∀ i, i < n → ∃ b off, ao = some ⟨b, off, none⟩ ∧ w.cell? ⟨b, off + i, none⟩ = some (.int .u8 (zs.getD i 0))

theorem Src.below {w w' : World} {ao : Option Addr} {n : Nat} {zs : List Int} (h : Src w ao n zs) (u : Below w.heap.size w w') : Src w' ao n zs :=
  ⟨h.len, h.nil, fun i hi => by
    obtain ⟨b, off, h1, h2⟩ := h.cell i hi
    exact ⟨b, off, h1, by rw [u.cell (World.block_lt_of_cell? w _ h2)]; exact h2⟩⟩

theorem Src.news {w : World} {ao : Option Addr} {n : Nat} {zs : List Int} (h : Src w ao n zs) : ∀ ad, ao = some ad → ∀ j u, (zs.map (Value.int .u8))[j]? = some u → w.cell? (ad.add j) = some u := by
  intro ad ha j u hj
  have hlt : j < zs.length := by
    rcases Nat.lt_or_ge j zs.length with h | h
    · exact h
    · rw [List.getElem?_eq_none (by simpa using h)] at hj; cases hj
  obtain ⟨b, off, h1, h2⟩ := h.cell j (by rw [← h.len]; exact hlt)
  rw [h1] at ha
  cases ha
  rw [Addr.add_lit, h2]
  rw [List.getElem?_map] at hj
  simp [hlt] at hj
  simp [List.getD, hlt, hj]

/-- A slice of slices of bytes: the i-th is L i long, its bytes are Z i. -/
def Row (w : World) (ao : Option Addr) (n : Nat) (L : Nat → Nat) (Z : Nat → List Int) : Prop :=
  ∀ i, i < n → ∃ b off A C, ao = some ⟨b, off, none⟩ ∧ w.cell? ⟨b, off + i, none⟩ = some (.slice A (L i) C) ∧ Src w A (L i) (Z i)

theorem Row.below {w w' : World} {ao : Option Addr} {n : Nat} {L : Nat → Nat} {Z : Nat → List Int} (h : Row w ao n L Z) (u : Below w.heap.size w w') : Row w' ao n L Z := fun i hi => by
  obtain ⟨b, off, A, C, h1, h2, h3⟩ := h i hi
  exact ⟨b, off, A, C, h1, by rw [u.cell (World.block_lt_of_cell? w _ h2)]; exact h2, h3.below u⟩

/-- It returned a bool. -/
def ABool (e : Ending) : Prop := ∃ c : Bool, e = .returned (.bool c)
theorem ABool.mk (c : Bool) : ABool (.returned (.bool c)) := ⟨c, rfl⟩

set_option maxHeartbeats 400000 in
theorem f4_any (w : World) (ao : Option Addr) (n cap : Nat) (L : Nat → Nat) (Z : Nat → List Int) (hm : n ≤ maxLen) (hr : Row w ao n L Z) :
    Calls Try.prog 4 #[.slice ao n cap] w fun e w' => ABool e ∧ w' = w := by
  unfold maxLen at hm
  by_cases hn : n ≤ 1048576
  · go_enter Try.func4, Try.ntmps4
    go_wp2
    go_loop [3, 4] (fun t i => ∃ k : Nat, k ≤ n ∧ i = .int .i64 k ∧ (∃ q : Int, t = .int .i64 q)) (fun _ i => n - (intOf i).toNat)
    case atStart => exact ⟨0, Nat.zero_le _, rfl, ⟨_, rfl⟩⟩
    case round =>
      obtain ⟨k, hk, rfl, ⟨q, rfl⟩⟩ := hrel
      by_cases hlt : k < n
      · obtain ⟨b, off, A, C, hao, hc, -⟩ := hr k hlt
        subst hao
        clear hr
        go_wp2
        · go_ret
          exact ⟨ABool.mk _, rfl⟩
        · go_ret
          exact ⟨ABool.mk _, rfl⟩
        · go_round
          case rel => exact ⟨k + 1, by omega, by go_num, ⟨_, rfl⟩⟩
          case measure => simp [intOf]; omega
      · clear hr
        go_wp2
        go_ret
        exact ⟨ABool.mk _, rfl⟩
  · go_enter Try.func4, Try.ntmps4
    go_wp2
    go_ret
    exact ⟨ABool.mk _, rfl⟩

/-- cloneBytesE1 behind k rounds. -/
def CopyInv (w wr : World) (n k : Nat) (zs : List Int) : Prop := At wr w.heap.size ((zs.take k).map (Value.int .u8) ++ List.replicate (n - k) (.int .u8 0)) 5 ∧ Below w.heap.size w wr

theorem copy_step {w wr : World} {n k : Nat} {zs : List Int} (h : CopyInv w wr n k zs) (hl : zs.length = n) (hk : k < n) : CopyInv w (wr.setCell ⟨w.heap.size, k, none⟩ (.int .u8 (zs.getD k 0))) n (k + 1) zs := by
  obtain ⟨h1, h2⟩ := h
  refine ⟨?_, h2.setCell (by simp) _⟩
  have := h1.set k (.int .u8 (zs.getD k 0))
  have e : ((zs.take k).map (Value.int .u8) ++ List.replicate (n - k) (Value.int .u8 0)).set k (.int .u8 (zs.getD k 0)) = (zs.take (k + 1)).map (Value.int .u8) ++ List.replicate (n - (k + 1)) (Value.int .u8 0) := by
    obtain ⟨m, hm⟩ : ∃ m, n - k = m + 1 := ⟨n - k - 1, by omega⟩
    have hm' : n - (k + 1) = m := by omega
    have hkl : k < zs.length := by omega
    have hlk : ((zs.take k).map (Value.int .u8)).length = k := by simp; omega
    rw [hm, hm', List.replicate_succ, List.take_succ_eq_append_getElem hkl, List.set_append_right _ _ (by omega), hlk, Nat.sub_self, List.set_cons_zero, List.map_append, List.append_assoc]
    congr 1
    simp [List.getD, hkl]
  rw [e] at this
  exact this

theorem copy_cell {w wr : World} {n k : Nat} {zs : List Int} (h : CopyInv w wr n k zs) (hl : zs.length = n) (hk : k < n) : wr.cell? ⟨w.heap.size, k, none⟩ = some (.int .u8 0) ∧ wr.frozen? ⟨w.heap.size, k, none⟩ = false := by
  obtain ⟨h1, h2⟩ := h
  refine ⟨h1.cell ?_, h1.frozen _⟩
  have hlk : ((zs.take k).map (Value.int .u8)).length = k := by simp; omega
  rw [List.getElem?_append_right (by omega), List.getElem?_replicate, if_pos (by omega)]

set_option maxHeartbeats 400000 in
theorem f5_nil (w : World) (n cap : Nat) : Calls Try.prog 5 #[.slice none n cap] w fun e w' => e = .returned (.slice none 0 0) ∧ w' = w := by
  have h1 := fun w => Lib.run_eql_slice_nil (P := Try.prog) w 24 5 none n cap 0 0 Try.underlying24
  go_enter Try.func5, Try.ntmps5
  go_wp2
  go_ret
  exact ⟨rfl, rfl⟩

set_option maxHeartbeats 400000 in
theorem f5_some (w : World) (a0 : Addr) (n cap : Nat) (zs : List Int) (hn : n ≤ 1048576) (hs : Src w (some a0) n zs) :
    Calls Try.prog 5 #[.slice (some a0) n cap] w fun e w' => e = .returned (.slice (some ⟨w.heap.size, 0, none⟩) n n) ∧ CopyInv w w' n n zs := by
  obtain ⟨i0, hi, hz0, hz1, hz2⟩ := info_parts info5
  have h1 := fun w => Lib.run_eql_slice_nil (P := Try.prog) w 24 5 (some a0) n cap 0 0 Try.underlying24
  have hin : (n : Int) ≤ 1048576 := by omega
  go_enter Try.func5, Try.ntmps5
  go_wp2_with (at_make; refine wpList_make_at _ rfl _ _ 24 rfl 5 i0 _ Try.underlying24 hi hz0 hz1 rfl .i64 .i64 n n n rfl rfl rfl rfl ?_ ?_ ?_)
  · rw [hz2]; omega
  · unfold maxLen; omega
  intro w1 hat hb
  go_wp2
  go_loopw [4] (fun i wr => ∃ k : Nat, k ≤ n ∧ i = .int .i64 k ∧ CopyInv w wr n k zs) (fun i _ => n - (intOf i).toNat)
  case atStart => exact ⟨0, Nat.zero_le _, rfl, by simpa using hat, hb⟩
  case round =>
    obtain ⟨k, hk, rfl, hinv⟩ := hrel
    by_cases hlt : k < n
    · obtain ⟨b, off, hao, hc⟩ := (hs.below hinv.2).cell k hlt
      cases hao
      obtain ⟨hc2, hf2⟩ := copy_cell hinv hs.len hlt
      have hst := copy_step hinv hs.len hlt
      obtain ⟨z, hz⟩ : ∃ z, zs.getD k 0 = z := ⟨_, rfl⟩
      rw [hz] at hc hst
      clear hinv hs hz hat hb
      go_wp2
      go_roundw
      case rel => exact ⟨k + 1, by omega, by go_num, hst⟩
      case measure => simp [intOf]; omega
    · have : k = n := by omega
      subst this
      clear hs
      go_wp2
      go_ret
      exact ⟨rfl, hinv⟩

theorem f5_any (w : World) (ao : Option Addr) (n cap : Nat) (zs : List Int) (hn : n ≤ 1048576) (hs : Src w ao n zs) :
    Calls Try.prog 5 #[.slice ao n cap] w fun e w' => ∃ ao' c', e = .returned (.slice ao' n c') ∧ Src w' ao' n zs ∧ Below w.heap.size w w' := by
  cases ao with
  | none =>
    obtain rfl := hs.nil rfl
    exact (f5_nil w 0 cap).mono fun e w' ⟨he, hw⟩ => ⟨_, _, he, ⟨hs.len, fun _ => rfl, fun i hi => absurd hi (Nat.not_lt_zero _)⟩, by subst hw; exact Below.refl _ _⟩
  | some a0 =>
    refine (f5_some w a0 n cap zs hn hs).mono fun e w' ⟨he, h1, h2⟩ => ⟨_, _, he, ⟨hs.len, fun h => (by cases h), fun i hi => ⟨_, _, rfl, h1.cell ?_⟩⟩, h2⟩
    have hl := hs.len
    rw [List.take_of_length_le (by omega), Nat.sub_self, List.replicate_zero, List.append_nil, Nat.zero_add, List.getElem?_map]
    simp [List.getD, show i < zs.length by omega]

set_option maxHeartbeats 400000 in
theorem f6_any (w : World) : Calls Try.prog 6 #[.slice none 0 0] w fun e w' => e = .returned (.pointer (some ⟨w.heap.size, 0, none⟩)) ∧ At w' w.heap.size [.slice none 0 0] 34 ∧ Below w.heap.size w w' := by
  go_enter Try.func6, Try.ntmps6
  go_wp2
  go_ret
  exact ⟨rfl, At.new w _ _, (Below.refl _ _).alloc (Nat.le_refl _) _⟩

set_option maxHeartbeats 400000 in
theorem f8_any (w : World) (lb : Nat) (v : Value) (hat : At w lb [v] 34) : Calls Try.prog 8 #[.pointer (some ⟨lb, 0, none⟩)] w fun e w' => e = .returned v ∧ w' = w := by
  have h0 := hat.cell (i := 0) rfl
  clear hat
  go_enter Try.func8, Try.ntmps8
  go_wp2
  go_ret
  exact ⟨rfl, rfl⟩

end Go.Proofs.Qxb6601110a
