/-
  split, at a node with children.
-/
import Derived.Test.Qxb6600085aSplit
namespace Go.Proofs.Qxb6600085a
open Go.RowKit

attribute [local go_sem ↓] Go.wp_at_zero Go.wp_at_succ

set_option maxRecDepth 100000 in
set_option maxHeartbeats 1600000 in
theorem f34_inner (w : World) (t b a a' : Nat) (ev kv : Value) (es : List Ent) (ks : List Nat) (hT : Tree w t a') (hN : NodeAt w b a ev es kv true ks) (hes : es.length = 31) (hkl : ks.length = 32) :
    Calls Try.prog 34 #[pv t, pv b] w fun e w' => SplitAt w w' e b a a' ev kv es true ks := by
  obtain ⟨i0, hi0, hz0, hz1, hz2⟩ := info_parts info64
  obtain ⟨ge, ce, rfl⟩ := hN.enn
  obtain ⟨j0, hj0, hy0, hy1, hy2⟩ := info_parts info32
  obtain ⟨gk, ck, hkv⟩ : ∃ g c, kv = .slice (some ⟨g, 0, none⟩) ks.length c := by simpa [KidsV] using hN.knn
  subst hkv
  have c1 := hN.cell1
  have c2 := hN.cell2
  rw [hes] at c1
  rw [hkl] at c2
  have h2 := fun w => run_neq_slice_nil_any (P := Try.prog) w 31 32 (some ⟨gk, 0, none⟩) 32 ck 0 0 Try.underlying31
  obtain ⟨restk, -, -, hck, -⟩ := owns_at hN.kids
  rw [hkl] at hck
  have lgk := (hN.kids.lt gk rfl).2
  obtain ⟨rest, -, -, hce, -⟩ := owns_at hN.ents
  rw [hes] at hce
  obtain ⟨g', c', hg', hs15, hv15⟩ := hN.ecells 15 (by omega)
  cases hg'
  obtain ⟨p, hp⟩ : ∃ p, es[15]'(by omega) = p := ⟨_, rfl⟩
  rw [hp] at hs15 hv15
  obtain ⟨s, A, L, C⟩ := p
  have ht := hT.tree
  have lb := hN.cells.lt
  have lge := (hN.ents.lt ge rfl).2
  have lt := World.block_lt_of_cell? w _ ht
  go_enter Try.func34, Try.ntmps34
  go_wp2_with (go_at_call 41; refine (f41_any _ t a' true (by simpa [World.cell?_alloc_lt, lt] using ht)).mono ?_)
  rintro e w1 ⟨r, evr, kvr, rfl, hR, hF, hB⟩
  have hs0 : (w.alloc (.cells #[.string ⟨#[]⟩, .slice none 0 0] 64)).heap.size = w.heap.size + 1 := by simp
  rw [hs0] at hF hB
  have hB0 : Below w.heap.size w w1 := (((Below.refl _ _).alloc (Nat.le_refl _) _).trans (hB.mono (by omega)))
  have hA0 : At w1 w.heap.size [.string ⟨#[]⟩, .slice none 0 0] 64 := (At.new w [.string ⟨#[]⟩, .slice none 0 0] 64).below hB (by omega)
  have hN1 := hN.below hB0
  have c1' := hN1.cell1
  rw [hes] at c1'
  have hs30 : w1.cell? ⟨ge, 30, none⟩ = some (.string s) := by rw [hB0.cell lge]; exact hs15
  have hs31 : w1.cell? ⟨ge, 31, none⟩ = some (.slice A L C) := by rw [hB0.cell lge]; exact hv15
  have HP := hide hp
  have HN := hide hN
  clear c1 c2 hs15 hv15 ht hp hN hB hs0
  obtain ⟨gr, cr, rfl⟩ := hR.enn
  obtain ⟨gkr, ckr, hkr⟩ : ∃ g c, kvr = .slice (some ⟨g, 0, none⟩) ([] : List Nat).length c := by simpa [KidsV] using hR.knn
  subst hkr
  have lgkr := (hR.kids.lt gkr rfl).2
  have fgkr := hF.2.2 gkr rfl
  have dkr : gkr ≠ r := by simpa [Value.ownBlock] using hR.d2
  have dkg : gr ≠ gkr := by simpa [Value.ownBlock] using hR.d3
  go_wp2
  have hB2 := hB0.alloc hB0.size (.cells #[.string s, .slice A L C] 64)
  have hBB : Below w1.heap.size w1 (w1.alloc (.cells #[.string s, .slice A L C] 64)) := (Below.refl _ _).alloc (Nat.le_refl _) _
  have hN2 := hN1.below hBB
  have hR2 := hR.below hBB
  have hA2 := hA0.below hBB hA0.lt
  have hM2 : At (w1.alloc (.cells #[.string s, .slice A L C] 64)) w1.heap.size [.string s, .slice A L C] 64 := At.new w1 _ _
  have lr := hR.cells.lt
  have lgr := (hR.ents.lt gr rfl).2
  have fr := hF.1
  have fgr := hF.2.1 gr rfl
  have dr : gr ≠ r := by simpa [Value.ownBlock] using hR.d1
  have lM := hM2.lt
  clear hBB hN1 hR hA0 hB0 c1' hs30 hs31
  generalize w1.heap.size = Bm at *
  generalize w1.alloc (.cells #[.string s, .slice A L C] 64) = w2 at *
  clear w1
  have cr1 := hR2.cell1
  have cf1 := hR2.cells.frozen 1
  have cb1 := hN2.cell1
  rw [hes] at cb1
  have hc16 : ¬ ce = 16 := by omega
  have hown2 := hR2.ents
  have hfl : (flat (es.drop 16)).length = 15 * 2 := by rw [flat_length, List.length_drop, hes]
  have hone := flat_one_cell (es.drop 16)
  have hsrc := cells_from_owns (k := 32) hN2.ents
  rw [show (32 : Nat) = 16 * 2 from rfl, flat_drop] at hsrc
  have HN2 := hide hN2
  have HR2 := hide hR2
  clear hN2 hR2
  go_region_law ((refine step_append_gen _ (by rfl) _ _ _ (by rfl) 0 64 i0 _ 2 40 Try.underlying67 hi0 hz0 hz1 hz2 rfl (by omega) gr 0 cr [] (by rfl) (by exact hown2) (some ⟨ge, 32, none⟩) 15 (ce - 16) (flat (es.drop 16)) (by rfl) (by simp) hfl (by exact hsrc) hone (by unfold maxLen; omega) (by omega) (Nat.zero_le _) ?_; intro gg cap w3 hown3 hgrow hgat; have hq1 : w3.cell? ⟨r, 1, none⟩ = some (.slice (some ⟨gr, 0, none⟩) 0 cr) := (hgrow.cell_far ⟨r, 1, none⟩ (by exact (by omega : r < w2.heap.size)) (by simp; omega)).trans cr1; have hq2 : w3.frozen? ⟨r, 1, none⟩ = false := (hgrow.frozen_far ⟨r, 1, none⟩ (by exact (by omega : r < w2.heap.size)) (by simp; omega)).trans cf1))
  all_goals
    have hR4 := node_ents (w0 := w2) HR2.out (show w3.ownsRow 0 64 2 (.slice (some ⟨gg, 0, none⟩) 15 cap) 15 (flat (es.drop 16)) by simpa using hown3) (by simp [hes]) (upd_row hgrow) (or_r hgat (fun h => by rw [h]; exact Nat.le_refl _))
    have u4 : Upd (fun k => k = gr ∨ k = r) w2 (w3.setCell ⟨r, 1, none⟩ (.slice (some ⟨gg, 0, none⟩) 15 cap)) :=
      ((upd_row hgrow).mono (fun i _ h => Or.inl h)).setCell _ _ (fun _ => Or.inr rfl)
    have hgg : w.heap.size + 1 ≤ gg := by
      rcases hgat with h | h
      · omega
      · have h2 : gg = w2.heap.size := h
        omega
    have hN4 := HN2.out.upd u4 (by omega) (fun g hg => by simp [Value.ownBlock] at hg; omega) (fun g hg => by simp [Value.ownBlock] at hg; omega)
    have hA4 := hA2.upd u4 (by omega)
    have hM4 := hM2.upd u4 (by omega)
    have hB4 := hB2.trans (u4.below hB2.size (fun k hk h => by omega))
    have fgg : From w.heap.size r (.slice (some ⟨gg, 0, none⟩) 15 cap) (.slice (some ⟨gkr, 0, none⟩) 0 ckr) := (hF.mono (Nat.le_succ _)).ents (by omega)
    clear u4 hgrow hgat hown3 hq1 hq2 cr1 cf1 cb1 hown2 hfl hone hsrc HN2 HR2 hA2 hM2 hB2 dr fgr lgr hF dkg
    generalize w3.setCell ⟨r, 1, none⟩ (.slice (some ⟨gg, 0, none⟩) 15 cap) = w4 at *
    clear w3
    have cb1 := hN4.cell1
    have he4 := hN4.ents
    rw [hes] at cb1 he4
    go_wp2_with (go_at_call 42; refine (f42_any _ 0 ge 31 ce 15 es he4 (by omega)).mono ?_)
    rintro e w5 ⟨rfl, hown5, hu5⟩
    have db : ge ≠ b := by simpa [Value.ownBlock] using hN4.d1
    have cb5 : w5.cell? ⟨b, 1, none⟩ = some (.slice (some ⟨ge, 0, none⟩) 31 ce) := by rw [← cb1]; exact World.cell?_of_block (hu5.block b hN4.cells.lt (fun h => db h.symm))
    have cf5 : w5.frozen? ⟨b, 1, none⟩ = false := by rw [← hN4.cells.frozen 1]; exact World.frozen?_of_block (hu5.block b hN4.cells.lt (fun h => db h.symm))
    have hN6 := node_ents hN4 hown5 (by simp [hes]) hu5 (Or.inl rfl)
    have u6 : Upd (fun k => k = ge ∨ k = b) w4 (w5.setCell ⟨b, 1, none⟩ (.slice (some ⟨ge, 0, none⟩) 15 ce)) := (hu5.mono (fun i _ h => Or.inl h)).setCell _ _ (fun _ => Or.inr rfl)
    have hR6 := hR4.upd u6 (by omega) (fun g hg => by simp [Value.ownBlock] at hg; omega) (fun g hg => by simp [Value.ownBlock] at hg; omega)
    have hA6 := hA4.upd u6 (by omega)
    have hM6 := hM4.upd u6 (by omega)
    have hU6 : Upd (fun k => k = b ∨ (Value.slice (some ⟨ge, 0, none⟩) es.length ce).ownBlock = some k ∨ (Value.slice (some ⟨gk, 0, none⟩) ks.length ck).ownBlock = some k) w (w5.setCell ⟨b, 1, none⟩ (.slice (some ⟨ge, 0, none⟩) 15 ce)) :=
      (Upd.of_below hB4).then u6 (fun i _ h => by rcases h with h | h <;> simp [Value.ownBlock, h])
    have HU6 := hide hU6
    have HN6 := hide hN6
    have HR6 := hide hR6
    have c26 := hN6.cell2
    rw [hkl] at c26
    clear hN4 hR4 hA4 hM4 hB4 u6 hu5 hown5 cb1 he4 hN6 hR6 hU6
    go_wp2
    clear cb5 cf5 c26
    generalize w5.setCell ⟨b, 1, none⟩ (.slice (some ⟨ge, 0, none⟩) 15 ce) = w6 at *
    clear w5
    have hck16 : ¬ ck = 16 := by omega
    have cr2 := HR6.out.cell2
    have cf2 := HR6.out.cells.frozen 2
    have cb2 := HN6.out.cell2
    rw [hkl] at cb2
    have hown6 := HR6.out.kids
    have lr6 := HR6.out.cells.lt
    have hkn : ((ks.drop 16).map pv).length = 16 * 1 := by simp [hkl]
    have hone := pv_one (ks.drop 16)
    have hsrc := cells_from_owns (k := 16) HN6.out.kids
    rw [← List.map_drop] at hsrc
    go_region_law ((refine step_append_gen _ (by rfl) _ _ _ (by rfl) 0 32 j0 _ 1 8 Try.underlying31 hj0 hy0 hy1 hy2 rfl (by omega) gkr 0 ckr [] (by rfl) (by exact hown6) (some ⟨gk, 16, none⟩) 16 (ck - 16) ((ks.drop 16).map pv) (by rfl) (by simp) hkn (by exact hsrc) hone (by unfold maxLen; omega) (by omega) (Nat.zero_le _) ?_; intro gg2 cap2 w7 hown7 hgrow hgat; have hq1 : w7.cell? ⟨r, 2, none⟩ = some (.slice (some ⟨gkr, 0, none⟩) 0 ckr) := (hgrow.cell_far ⟨r, 2, none⟩ (by exact lr6) (by simp; omega)).trans cr2; have hq2 : w7.frozen? ⟨r, 2, none⟩ = false := (hgrow.frozen_far ⟨r, 2, none⟩ (by exact lr6) (by simp; omega)).trans cf2))
    all_goals
      have hR8 := node_kids (w0 := w6) HR6.out (show w7.ownsRow 0 32 1 (.slice (some ⟨gg2, 0, none⟩) 16 cap2) 16 ((ks.drop 16).map pv) by simpa using hown7) (by simp [hkl]) (upd_row hgrow) (or_r hgat (fun h => by rw [h]; exact Nat.le_refl _))
      have u8 : Upd (fun k => k = gkr ∨ k = r) w6 (w7.setCell ⟨r, 2, none⟩ (.slice (some ⟨gg2, 0, none⟩) 16 cap2)) :=
        ((upd_row hgrow).mono (fun i _ h => Or.inl h)).setCell _ _ (fun _ => Or.inr rfl)
      have hgg2 : w.heap.size + 1 ≤ gg2 := by
        rcases hgat with h | h
        · omega
        · have h2 : gg2 = w6.heap.size := h
          omega
      have hN8 := HN6.out.upd u8 (by omega) (fun g hg => by simp [Value.ownBlock] at hg; omega) (fun g hg => by simp [Value.ownBlock] at hg; omega)
      have hA8 := hA6.upd u8 (by omega)
      have hM8 := hM6.upd u8 (by omega)
      have hU8 := HU6.out.then u8 (fun i hi h => by omega)
      have fgg2 : From w.heap.size r (.slice (some ⟨gg, 0, none⟩) 15 cap) (.slice (some ⟨gg2, 0, none⟩) 16 cap2) := fgg.kids (by omega)
      clear u8 hgrow hgat hown7 hq1 hq2 cr2 cf2 cb2 hown6 hkn hone hsrc HN6 HR6 hA6 hM6 HU6 fgg
      generalize w7.setCell ⟨r, 2, none⟩ (.slice (some ⟨gg2, 0, none⟩) 16 cap2) = w8 at *
      clear w7
      have cb1 := hN8.cell2
      have he8 := hN8.kids
      rw [hkl] at cb1 he8
      go_wp2_with (go_at_call 43; refine (f43_any _ 0 gk 32 ck 16 ks he8 (by omega)).mono ?_)
      rintro e w9 ⟨rfl, hown9, hu9⟩
      have dk : gk ≠ b := by simpa [Value.ownBlock] using hN8.d2
      have cb9 : w9.cell? ⟨b, 2, none⟩ = some (.slice (some ⟨gk, 0, none⟩) 32 ck) := by rw [← cb1]; exact World.cell?_of_block (hu9.block b hN8.cells.lt (fun h => dk h.symm))
      have cf9 : w9.frozen? ⟨b, 2, none⟩ = false := by rw [← hN8.cells.frozen 2]; exact World.frozen?_of_block (hu9.block b hN8.cells.lt (fun h => dk h.symm))
      have hN10 := node_kids hN8 hown9 (by simp [hkl]) hu9 (Or.inl rfl)
      have u10 : Upd (fun k => k = gk ∨ k = b) w8 (w9.setCell ⟨b, 2, none⟩ (.slice (some ⟨gk, 0, none⟩) 16 ck)) := (hu9.mono (fun i _ h => Or.inl h)).setCell _ _ (fun _ => Or.inr rfl)
      have hR10 := hR8.upd u10 (by omega) (fun g hg => by simp [Value.ownBlock] at hg; omega) (fun g hg => by simp [Value.ownBlock] at hg; omega)
      have hA10 := hA8.upd u10 (by omega)
      have hM10 := hM8.upd u10 (by omega)
      have hU10 := hU8.then u10 (fun i _ h => by rcases h with h | h <;> simp [Value.ownBlock, h])
      clear hN8 hR8 hA8 hM8 hU8 u10 hu9 hown9 cb1 he8
      have hfin := split_fin (s := s) (x := (A, L, C)) hU10 hN10 hR10 hA10 (by omega) (by omega) (by simp [Value.ownBlock]; omega) (by omega) (by omega) (by simp [Value.ownBlock]; omega)
      have HFIN := hide hfin
      clear hfin hU10 hN10 hR10
      have m0 := hM10.cell (i := 0) rfl
      have m1 := hM10.cell (i := 1) rfl
      have a0 := hA10.cell (i := 0) rfl
      have a1 := hA10.cell (i := 1) rfl
      have fa0 := hA10.frozen 0
      have fa1 := hA10.frozen 1
      have hAf := (hA10.set 0 (.string s)).set 1 (.slice A L C)
      have r0 := hAf.cell (i := 0) rfl
      have r1 := hAf.cell (i := 1) rfl
      clear hAf hA10 hM10
      go_wp2
      refine bodyPost_ret (v := .tuple #[.agg #[.string s, .slice A L C], pv r]) (by simp [results, Try.results34, go_sem, r0, r1]) rfl ?_
      have hp := HP.out
      have hf := HFIN.out
      exact ⟨s, (A, L, C), r, _, _, _, _, rfl, by rw [List.getElem?_eq_getElem (by omega), hp], hf.1, hf.2.1, rfl, rfl, fgg2, hf.2.2⟩

end Go.Proofs.Qxb6600085a
