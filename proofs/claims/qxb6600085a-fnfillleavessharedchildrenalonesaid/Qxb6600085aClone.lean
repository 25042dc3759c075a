/-
  cloneBytesB1, cloneValuesB1, the owner, the tree, the key.
-/
import Derived.Test.Qxb6600085aMem
import Derived.Test.Qxb6600085aBase
namespace Go.Proofs.Qxb6600085a
open Go.RowKit

theorem info5 : (Try.prog.info? 5).map (fun i => (i.zero, i.size, i.bytes)) = some (some (.int .u8 0), 1, 1) := by kernel_rfl
theorem info35 : (Try.prog.info? 35).map (fun i => (i.zero, i.size, i.bytes)) = some (some (.slice none 0 0), 1, 24) := by kernel_rfl

/-- What a []byte that came in is. -/
def SrcB (w : World) (ao : Option Addr) (n : Nat) : Prop :=
  ∃ zs : List Int, zs.length = n ∧ (ao = none → n = 0) ∧ ∀ ad, ao = some ad → ∀ j u, (zs.map (Value.int .u8))[j]? = some u → w.cell? (ad.add j) = some u

/-- A []byte that the call has made itself, or nil. -/
def IsB (lo : Nat) (w : World) (v : Value) : Prop :=
  v = .slice none 0 0 ∨ ∃ (g : Nat) (zs : List Int), v = .slice (some ⟨g, 0, none⟩) zs.length zs.length ∧ lo ≤ g ∧ At w g (zs.map (Value.int .u8)) 5 ∧ zs.length ≤ 1048576

theorem IsB.form {lo : Nat} {w : World} {v : Value} (h : IsB lo w v) : ∃ ao n c, v = .slice ao n c := by
  rcases h with rfl | ⟨g, zs, rfl, _⟩ <;> exact ⟨_, _, _, rfl⟩

theorem IsB.mono {lo lo' : Nat} {w : World} {v : Value} (h : IsB lo w v) (hl : lo' ≤ lo) : IsB lo' w v := by
  rcases h with h | ⟨g, zs, h1, h2, h3⟩
  · exact .inl h
  · exact .inr ⟨g, zs, h1, Nat.le_trans hl h2, h3⟩

theorem IsB.upd {S : Nat → Prop} {lo : Nat} {w w' : World} {v : Value} (h : IsB lo w v) (u : Upd S w w') (hS : ∀ k, lo ≤ k → k < w.heap.size → ¬ S k) : IsB lo w' v := by
  rcases h with h | ⟨g, zs, h1, h2, h3, h4⟩
  · exact .inl h
  · exact .inr ⟨g, zs, h1, h2, h3.upd u (hS g h2 h3.lt), h4⟩

theorem IsB.below {lo : Nat} {w w' : World} {v : Value} (h : IsB lo w v) (u : Below w.heap.size w w') : IsB lo w' v :=
  h.upd (S := fun _ => False) (Upd.of_below u) (fun _ _ _ h => h)

theorem SrcB.below {w w' : World} {ao : Option Addr} {n : Nat} (h : SrcB w ao n) (u : Below w.heap.size w w') : SrcB w' ao n := by
  obtain ⟨zs, h1, h2, h3⟩ := h
  refine ⟨zs, h1, h2, fun ad ha j u' hj => ?_⟩
  have h0 := h3 ad ha j u' hj
  rw [u.cell (World.block_lt_of_cell? w _ h0)]
  exact h0

theorem splice_all {α : Type} (l cs : List α) (h : l.length = cs.length) : splice l 0 cs = cs := by
  simp [splice, ← h]

set_option maxHeartbeats 400000 in
theorem f27_nil (w : World) (n cap : Nat) :
    Calls Try.prog 27 #[.slice none n cap] w fun e w' => e = .returned (.slice none 0 0) ∧ w' = w := by
  have h1 := fun w => Lib.run_eql_slice_nil (P := Try.prog) w 35 5 none n cap 0 0 Try.underlying35
  go_enter Try.func27, Try.ntmps27
  go_wp2
  go_ret
  exact ⟨rfl, rfl⟩

set_option maxHeartbeats 400000 in
theorem f27_some (w : World) (ad : Addr) (n cap : Nat) (hn : n ≤ 1048576) (hs : SrcB w (some ad) n) :
    Calls Try.prog 27 #[.slice (some ad) n cap] w fun e w' => ∃ v, e = .returned v ∧ IsB w.heap.size w' v ∧ Below w.heap.size w w' := by
  obtain ⟨i0, hi, hz0, hz1, hz2⟩ := info_parts info5
  obtain ⟨zs, hl, -, hsrc⟩ := hs
  have hsrc := hsrc ad rfl
  have h1 := fun w => Lib.run_eql_slice_nil (P := Try.prog) w 35 5 (some ad) n cap 0 0 Try.underlying35
  have hin : (n : Int) ≤ 1048576 := by omega
  go_enter Try.func27, Try.ntmps27
  go_wp2_with (at_make; refine wpList_make_at _ rfl _ _ 35 rfl 5 i0 _ Try.underlying35 hi hz0 hz1 rfl .i64 .i64 n n n rfl rfl rfl rfl ?_ ?_ ?_)
  · rw [hz2]; omega
  · unfold maxLen; omega
  intro w1 hat hb
  have hsrc1 : ∀ j u, (zs.map (Value.int .u8))[j]? = some u → w1.cell? (ad.add j) = some u := fun j u hj => by
    have h0 := hsrc j u hj
    have hlt := World.block_lt_of_cell? w _ h0
    rw [hb.cell hlt]; exact h0
  clear hsrc
  have hone := ints_oneCell .u8 zs
  go_wp2_with (refine wpList_copy_at rfl _ _ 35 35 rfl 5 1 Try.underlying35 (by kernel_rfl) w.heap.size 0 n n ad n cap rfl rfl _ 5 hat (zs.map (Value.int .u8)) ?_ hsrc1 ?_ hone ?_)
  · simp [hl]
  · simp [hl]
  intro w2 hat2 hu
  rw [splice_all _ _ (by simp [hl])] at hat2
  go_wp2
  go_ret
  subst hl
  refine ⟨_, rfl, .inr ⟨_, zs, rfl, Nat.le_refl _, hat2, hn⟩, ?_⟩
  exact hb.trans (hu.below hb.size (fun k hk => by omega))

theorem f27_any (w : World) (ao : Option Addr) (n cap : Nat) (hn : n ≤ 1048576) (hs : SrcB w ao n) :
    Calls Try.prog 27 #[.slice ao n cap] w fun e w' => ∃ v, e = .returned v ∧ IsB w.heap.size w' v ∧ Below w.heap.size w w' := by
  cases ao with
  | none => exact (f27_nil w n cap).mono fun e w' ⟨he, hw⟩ => ⟨_, he, .inl rfl, by subst hw; exact Below.refl _ _⟩
  | some ad => exact f27_some w ad n cap hn hs

set_option maxHeartbeats 400000 in
theorem f10_nil (w : World) (n cap : Nat) :
    Calls Try.prog 10 #[.slice none n cap] w fun e w' => e = .returned (.slice none 0 0) ∧ w' = w := by
  have h1 := fun w => Lib.run_eql_slice_nil (P := Try.prog) w 22 35 none n cap 0 0 Try.underlying22
  go_enter Try.func10, Try.ntmps10
  go_wp2
  go_ret
  exact ⟨rfl, rfl⟩

/-- Behind k rounds of cloneValues. -/
def CloneInv (w wr : World) (n k : Nat) : Prop :=
  ∃ vs : List Value, vs.length = k ∧ At wr w.heap.size (vs ++ List.replicate (n - k) (.slice none 0 0)) 35 ∧ (∀ x ∈ vs, IsB (w.heap.size + 1) wr x) ∧ Below w.heap.size w wr

theorem clone_step {w wr w1 : World} {n k : Nat} {v : Value} (h : CloneInv w wr n k) (hk : k < n) (hv : IsB wr.heap.size w1 v) (hb : Below wr.heap.size wr w1) : CloneInv w (w1.setCell ⟨w.heap.size, k, none⟩ v) n (k + 1) := by
  obtain ⟨vs, h1, h2, h3, h4⟩ := h
  have hlt := h2.lt
  have h2' := h2.below hb hlt
  have u : Upd (fun i => i = w.heap.size) w1 (w1.setCell ⟨w.heap.size, k, none⟩ v) := (Upd.refl _ _).setCell _ _ (fun _ => rfl)
  refine ⟨vs ++ [v], by simp [h1], ?_, ?_, ?_⟩
  · have := h2'.set k v
    have e : (vs ++ List.replicate (n - k) (Value.slice none 0 0)).set k v = vs ++ [v] ++ List.replicate (n - (k + 1)) (Value.slice none 0 0) := by
      obtain ⟨m, hm⟩ : ∃ m, n - k = m + 1 := ⟨n - k - 1, by omega⟩
      have hm' : n - (k + 1) = m := by omega
      rw [hm, hm', List.replicate_succ, ← h1]
      simp
    rw [e] at this
    exact this
  · intro x hx
    rcases List.mem_append.1 hx with hx | hx
    · exact ((h3 x hx).below hb).upd u (fun i hi _ he => by omega)
    · have : x = v := by simpa using hx
      subst this
      exact (hv.mono (by omega)).upd u (fun i hi _ he => by omega)
  · exact ((h4.trans (hb.mono (by omega))).setCell (by simp) v)

theorem clone_cell {w wr w1 : World} {n k : Nat} (h : CloneInv w wr n k) (hk : k < n) (hb : Below wr.heap.size wr w1) : w1.cell? ⟨w.heap.size, k, none⟩ = some (.slice none 0 0) ∧ w1.frozen? ⟨w.heap.size, k, none⟩ = false := by
  obtain ⟨vs, h1, h2, -, -⟩ := h
  have h2' := h2.below hb h2.lt
  exact ⟨h2'.cell (by rw [List.getElem?_append_right (by omega), List.getElem?_replicate, if_pos (by omega)]), h2'.frozen _⟩

set_option maxHeartbeats 400000 in
theorem f10_some (w : World) (a0 : Addr) (n cap : Nat) (A : Nat → Option Addr) (L C : Nat → Nat) (hn : Small n L) (hr : RowS w (some a0) n A L C) (hs : ∀ i, i < n → SrcB w (A i) (L i)) :
    Calls Try.prog 10 #[.slice (some a0) n cap] w fun e w' => e = .returned (.slice (some ⟨w.heap.size, 0, none⟩) n n) ∧ CloneInv w w' n n := by
  obtain ⟨i0, hi, hz0, hz1, hz2⟩ := info_parts info35
  have h1 := fun w => Lib.run_eql_slice_nil (P := Try.prog) w 22 35 (some a0) n cap 0 0 Try.underlying22
  obtain ⟨hn1, hn2⟩ := hn
  have hin : (n : Int) ≤ 1048576 := by omega
  go_enter Try.func10, Try.ntmps10
  go_wp2_with (at_make; refine wpList_make_at _ rfl _ _ 22 rfl 35 i0 _ Try.underlying22 hi hz0 hz1 rfl .i64 .i64 n n n rfl rfl rfl rfl ?_ ?_ ?_)
  · rw [hz2]; omega
  · unfold maxLen; omega
  intro w1 hat hb
  go_wp2
  go_loopw [4] (fun i wr => ∃ k : Nat, k ≤ n ∧ i = .int .i64 k ∧ CloneInv w wr n k) (fun i _ => n - (intOf i).toNat)
  case atStart => exact ⟨0, Nat.zero_le _, rfl, [], rfl, by simpa using hat, by simp, hb⟩
  case round =>
    obtain ⟨k, hk, rfl, hinv⟩ := hrel
    by_cases hlt : k < n
    · obtain ⟨b, off, hao, hc⟩ := hr k hlt
      cases hao
      have hbel := hinv.choose_spec.2.2.2
      have hc' : wr.cell? ⟨b, off + k, none⟩ = some (.slice (A k) (L k) (C k)) := by
        rw [hbel.cell (World.block_lt_of_cell? w _ hc)]; exact hc
      have hsk := (hs k hlt).below hbel
      have hlk := hn2 k hlt
      clear hc hr hs hn2 hat hbel
      go_wp2_with (go_at_call 27; refine (f27_any _ _ _ _ hlk hsk).mono ?_)
      rintro e w2 ⟨v, rfl, hv, hb2⟩
      obtain ⟨va, vn, vc, rfl⟩ := hv.form
      obtain ⟨hc2, hf2⟩ := clone_cell hinv hlt hb2
      have hst := clone_step hinv hlt hv hb2
      clear hinv hv
      go_wp2
      go_roundw
      case rel => exact ⟨k + 1, by omega, by go_num, hst⟩
      case measure => simp [intOf]; omega
    · have : k = n := by omega
      subst this
      clear hr hs
      go_wp2
      go_ret
      exact ⟨rfl, hinv⟩

end Go.Proofs.Qxb6600085a
