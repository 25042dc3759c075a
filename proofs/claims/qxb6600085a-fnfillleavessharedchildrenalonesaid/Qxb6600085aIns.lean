/-
  insertAt at place 0, at entries.
-/
import Derived.Test.Qxb6600085aRem
namespace Go.Proofs.Qxb6600085a
open Go.RowKit

/-- What insertAt leaves, at place 0. -/
def InsAt (w w' : World) (e : Ending) (g0 n : Nat) (es : List Ent) (x : Ent) : Prop :=
  ∃ gg cap, e = .returned (.slice (some ⟨gg, 0, none⟩) (n + 1) cap) ∧ w'.ownsRow 0 64 2 (.slice (some ⟨gg, 0, none⟩) (n + 1) cap) (n + 1) (flat (x :: es)) ∧ Upd (fun k => k = g0) w w' ∧ (gg = g0 ∨ w.heap.size ≤ gg)

theorem ins_row (F rest : List Value) (u v : Value) : ((splice (F ++ [u, v] ++ rest) 2 F).set 0 u).set 1 v = (u :: v :: F) ++ rest := by
  unfold splice
  have e1 : 2 + F.length = (F ++ [u, v]).length := by simp; omega
  have e2 : (F ++ [u, v] ++ rest).drop (2 + F.length) = rest := by rw [e1]; exact List.drop_left
  obtain ⟨p, q, hpq⟩ : ∃ p q, (F ++ [u, v] ++ rest).take 2 = [p, q] := by
    rcases F with _ | ⟨p, _ | ⟨q, F⟩⟩
    · exact ⟨u, v, rfl⟩
    · exact ⟨p, u, rfl⟩
    · exact ⟨p, q, rfl⟩
  rw [hpq, e2]
  rfl

set_option maxRecDepth 100000 in
set_option maxHeartbeats 1600000 in
theorem f45_any (w : World) (g0 n c0 : Nat) (es : List Ent) (s : ByteArray) (A : Option Addr) (L C : Nat) (hown : w.ownsRow 0 64 2 (.slice (some ⟨g0, 0, none⟩) n c0) n (flat es)) (hn : es.length = n) (h1 : 1 ≤ n) (h2 : n ≤ 1048576) :
    Calls Try.prog 45 #[.slice (some ⟨g0, 0, none⟩) n c0, .int .i64 0, .agg #[.string s, .slice A L C]] w fun e w' => InsAt w w' e g0 n es (s, A, L, C) := by
  obtain ⟨i0, hi0, hz0, hz1, hz2⟩ := info_parts info64
  have lg := (hown.lt g0 rfl).2
  go_enter Try.func45, Try.ntmps45
  go_wp2_with (at_builtin; refine wpList_append_lies _ rfl _ _ 67 rfl 0 64 i0 _ 2 40 Try.underlying67 hi0 hz0 hz1 hz2 rfl (by omega) (.slice (some ⟨g0, 0, none⟩) n c0) n (flat es) rfl ((hown.alloc _).alloc _) ⟨w.heap.size + 1, 0, none⟩ 1 1 [.string s, .slice A L C] rfl (by rfl) (World.news_of_block (cs := #[.string s, .slice A L C]) (t := 64) (fr := (0, 0)) (by simpa using heap_alloc_new (w.alloc _) _)) (by simp [Value.oneCell']) (by omega) (by unfold maxLen; omega) (by omega) (Nat.zero_le _) _ rfl ?_)
  intro gg cap w2 hown2 hgr hgat hlt
  have hgat' : gg = g0 ∨ gg = w.heap.size + 1 + 1 := by
    rcases hgat with h | h
    · left; simp [Value.ownBlock] at h; exact h.symm
    · right; simpa using h
  obtain ⟨rest, -, hat, hmc, hcm, hl, hl2, -⟩ := owns_at hown2
  unfold maxLen at hcm
  have hb0 : w2.cell? ⟨w.heap.size, 0, none⟩ = some (.string s) := by
    rw [hgr.cell_far _ (by simp; omega) (by simp [Value.ownBlock]; omega), Lib.cell?_alloc_some _ ((At.new w [.string s, .slice A L C] 64).cell (i := 0) rfl)]
  have hb1 : w2.cell? ⟨w.heap.size, 1, none⟩ = some (.slice A L C) := by
    rw [hgr.cell_far _ (by simp; omega) (by simp [Value.ownBlock]; omega), Lib.cell?_alloc_some _ ((At.new w [.string s, .slice A L C] 64).cell (i := 1) rfl)]
  have u2 : Upd (fun k => k = g0) w w2 :=
    ⟨hgr.os, hgr.tape, hgr.output, Nat.le_trans (by simp; omega) hgr.size, fun k hk hne => (hgr.block k (by simp; omega) (fun h => hne (by simp [Value.ownBlock] at h; omega))).trans ((Below.heap_alloc _ _ _ (by simp; omega)).trans (Below.heap_alloc _ _ _ hk))⟩
  have hfl := flat_length es
  have hone := flat_one_cell es
  have hsrc : ∀ j v, (flat es)[j]? = some v → w2.cell? ((⟨gg, 0, none⟩ : Addr).add j) = some v := by
    intro j v hj
    have hjl : j < (flat es).length := (List.getElem?_eq_some_iff.1 hj).1
    rw [Addr.add_lit]
    refine hat.cell ?_
    rw [Nat.zero_add, List.append_assoc, List.getElem?_append_left hjl]; exact hj
  have hfit : 2 + (flat es).length ≤ (flat es ++ [Value.string s, Value.slice A L C] ++ rest).length := by simp; omega
  have hmin : (flat es).length = Nat.min (n + 1) n * 2 := by
    have : Nat.min (n + 1) n = n := Nat.min_eq_right (by omega)
    rw [this, hfl, hn]
  have hne0 : gg ≠ w.heap.size := by omega
  have hgg : gg = g0 ∨ w.heap.size ≤ gg := by omega
  have hc1 : ¬ cap = 1 := by omega
  have hc2 : (1 : Int) ≤ (n : Int) + 1 := by omega
  have hc3 : (0 : Int) ≤ (n : Int) + 1 := by omega
  have hwr : IntKind.i64.wrap 1 = 1 := by rfl
  have htn : (1 : Int).toNat = 1 := by rfl
  have hrow := ins_row (flat es) rest (.string s) (.slice A L C)
  have HR := hide hrow
  have HL := hide (And.intro hl hl2)
  have HU := hide u2
  have HM := hide (And.intro hmc hcm)
  clear hgat hgat' hown2 hgr hown u2 hrow hl hl2 hmc hcm
  go_wp2
  go_region_law ((refine step_copy_at _ (by rfl) _ _ 67 67 (by rfl) 64 2 Try.underlying67 (by kernel_rfl) gg 2 n (cap - 1) ⟨gg, 0, none⟩ (n + 1) cap (by rfl) (by rfl) _ 64 (by exact hat) (flat es) (by exact hmin) (by exact hsrc) (by exact hfit) (by exact hone) ?_; intro w3 hat3 hu3))
  all_goals
    have lb : w.heap.size < w2.heap.size := World.block_lt_of_cell? w2 _ hb0
    have hb0' : w3.cell? ⟨w.heap.size, 0, none⟩ = some (.string s) := by rw [← hb0]; exact World.cell?_of_block (hu3.block _ lb (fun h => hne0 h.symm))
    have hb1' : w3.cell? ⟨w.heap.size, 1, none⟩ = some (.slice A L C) := by rw [← hb1]; exact World.cell?_of_block (hu3.block _ lb (fun h => hne0 h.symm))
    have hf0 := hat3.frozen 0
    have hf1 := hat3.frozen 1
    obtain ⟨c0', hc0'⟩ : ∃ v, w3.cell? ⟨gg, 0, none⟩ = some v := ⟨_, hat3.cell (List.getElem?_eq_getElem (by rw [length_splice _ _ _ (by exact hfit)]; simp; omega))⟩
    obtain ⟨c1', hc1'⟩ : ∃ v, w3.cell? ⟨gg, 1, none⟩ = some v := ⟨_, hat3.cell (List.getElem?_eq_getElem (by rw [length_splice _ _ _ (by exact hfit)]; simp; omega))⟩
    have hat4 := (hat3.set 0 (.string s)).set 1 (.slice A L C)
    rw [HR.out] at hat4
    have hu4 : Upd (fun k => k = g0) w ((w3.setCell ⟨gg, 0, none⟩ (.string s)).setCell ⟨gg, 1, none⟩ (.slice A L C)) := by
      refine ((HU.out.then (T := fun k => k = gg) ⟨hu3.os, hu3.tape, hu3.output, hu3.size, hu3.block⟩ (fun k hk h => ?_)).setCell _ _ (fun h => ?_)).setCell _ _ (fun h => ?_)
      · omega
      · simp at h ⊢; omega
      · simp at h ⊢; omega
    have HF := hide (And.intro hat4 hu4)
    clear hat4 hu4 hat3 hu3 hat hb0 hb1 hsrc hone hmin hfit
    go_wp2
    go_ret
    obtain ⟨k1, k2⟩ := HF.out
    have kl := HL.out
    have km := HM.out
    refine ⟨gg, cap, rfl, owns_mk (xs := flat ((s, A, L, C) :: es)) (rest := rest) k1 km.1 km.2 ?_ ?_ (Nat.zero_le _), k2, hgg⟩
    · rw [flat_length]; simp; omega
    · rw [flat_length]; simp at kl ⊢; omega

end Go.Proofs.Qxb6600085a
