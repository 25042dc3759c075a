/-
  split.
-/
import Derived.Test.Qxb6600085aTrunc
namespace Go.Proofs.Qxb6600085a
open Go.RowKit

attribute [local go_sem ↓] Go.wp_at_zero Go.wp_at_succ

/-- What split leaves. -/
def SplitAt (w w' : World) (e : Ending) (b a a' : Nat) (ev kv : Value) (es : List Ent) (inner : Bool) (ks : List Nat) : Prop :=
  ∃ s x r ev1 kv1 evr kvr, e = .returned (.tuple #[.agg #[.string s, sv x], pv r]) ∧ es[15]? = some (s, x) ∧ NodeAt w' b a ev1 (es.take 15) kv1 inner (ks.take 16) ∧ NodeAt w' r a' evr (es.drop 16) kvr inner (ks.drop 16) ∧
    ev1.ownBlock = ev.ownBlock ∧ kv1.ownBlock = kv.ownBlock ∧ From w.heap.size r evr kvr ∧ Upd (fun k => k = b ∨ ev.ownBlock = some k ∨ kv.ownBlock = some k) w w'

theorem flat_drop (es : List Ent) : ∀ n, (flat es).drop (n * 2) = flat (es.drop n) := by
  induction es with
  | nil => intro n; simp [flat]
  | cons p es ih =>
    intro n
    cases n with
    | zero => simp
    | succ n =>
      have e : flat (p :: es) = .string p.1 :: sv p.2 :: flat es := rfl
      have e2 : (n + 1) * 2 = n * 2 + 1 + 1 := by omega
      rw [e, e2, List.drop_succ_cons, List.drop_succ_cons, ih n]
      rfl

/-- The cells of a row from place k on. -/
theorem cells_from_owns {w : World} {base e size g n c k : Nat} {xs : List Value} (h : w.ownsRow base e size (.slice (some ⟨g, 0, none⟩) n c) n xs) : ∀ ad, (some ⟨g, k, none⟩ : Option Addr) = some ad → ∀ j u, (xs.drop k)[j]? = some u → w.cell? (ad.add j) = some u := by
  intro ad ha j u hj
  cases ha
  rw [List.getElem?_drop] at hj
  have := h.cells (g := g) rfl (k + j) u hj
  rw [Addr.add_lit] at this ⊢
  simpa using this

/-- The last stores of split, into the result's own block. -/
theorem split_fin {w w6 : World} {S : Nat → Prop} {b a ge ce r a' gg cap : Nat} {es1 es2 : List Ent} {kv1 kvr : Value} {inner : Bool} {ks1 ks2 : List Nat} {s : ByteArray} {x : Option Addr × Nat × Nat} {cs : List Value} (hU : Upd S w w6)
    (hN : NodeAt w6 b a (.slice (some ⟨ge, 0, none⟩) 15 ce) es1 kv1 inner ks1) (hR : NodeAt w6 r a' (.slice (some ⟨gg, 0, none⟩) 15 cap) es2 kvr inner ks2) (_hA : At w6 w.heap.size cs 64)
    (h1 : w.heap.size ≠ b) (h2 : w.heap.size ≠ ge) (h3 : kv1.ownBlock ≠ some w.heap.size) (h4 : w.heap.size ≠ r) (h5 : w.heap.size ≠ gg) (h6 : kvr.ownBlock ≠ some w.heap.size) :
    NodeAt ((w6.setCell ⟨w.heap.size, 0, none⟩ (.string s)).setCell ⟨w.heap.size, 1, none⟩ (sv x)) b a (.slice (some ⟨ge, 0, none⟩) 15 ce) es1 kv1 inner ks1 ∧
    NodeAt ((w6.setCell ⟨w.heap.size, 0, none⟩ (.string s)).setCell ⟨w.heap.size, 1, none⟩ (sv x)) r a' (.slice (some ⟨gg, 0, none⟩) 15 cap) es2 kvr inner ks2 ∧
    Upd S w ((w6.setCell ⟨w.heap.size, 0, none⟩ (.string s)).setCell ⟨w.heap.size, 1, none⟩ (sv x)) := by
  have u : Upd (fun k => k = w.heap.size) w6 ((w6.setCell ⟨w.heap.size, 0, none⟩ (.string s)).setCell ⟨w.heap.size, 1, none⟩ (sv x)) :=
    ((Upd.refl (fun k => k = w.heap.size) w6).setCell ⟨w.heap.size, 0, none⟩ (.string s) (fun _ => rfl)).setCell ⟨w.heap.size, 1, none⟩ (sv x) (fun _ => rfl)
  refine ⟨hN.upd u (fun h => h1 h.symm) (fun g hg h => ?_) (fun g hg h => h3 (by rw [hg, h])), hR.upd u (fun h => h4 h.symm) (fun g hg h => ?_) (fun g hg h => h6 (by rw [hg, h])), hU.then u (fun i hi h => by omega)⟩
  · simp [Value.ownBlock] at hg; omega
  · simp [Value.ownBlock] at hg; omega

set_option maxRecDepth 100000 in
set_option maxHeartbeats 1600000 in
theorem f34_leaf (w : World) (t b a a' : Nat) (ev kv : Value) (es : List Ent) (hT : Tree w t a') (hN : NodeAt w b a ev es kv false []) (hes : es.length = 31) :
    Calls Try.prog 34 #[pv t, pv b] w fun e w' => SplitAt w w' e b a a' ev kv es false [] := by
  obtain ⟨i0, hi0, hz0, hz1, hz2⟩ := info_parts info64
  obtain ⟨ge, ce, rfl⟩ := hN.enn
  obtain ⟨hkv, -⟩ : kv = .slice none 0 0 ∧ ([] : List Nat) = [] := by simpa [KidsV] using hN.knn
  subst hkv
  have c1 := hN.cell1
  have c2 := hN.cell2
  rw [hes] at c1
  have h2 := fun w => run_neq_slice_nil_any (P := Try.prog) w 31 32 none 0 0 0 0 Try.underlying31
  obtain ⟨rest, -, -, hce, -⟩ := owns_at hN.ents
  rw [hes] at hce
  obtain ⟨g', c', hg', hs15, hv15⟩ := hN.ecells 15 (by omega)
  cases hg'
  obtain ⟨p, hp⟩ : ∃ p, es[15]'(by omega) = p := ⟨_, rfl⟩
  rw [hp] at hs15 hv15
  obtain ⟨s, A, L, C⟩ := p
  have ht := hT.tree
  have lb := hN.cells.lt
  have lge := (hN.ents.lt ge rfl).2
  have lt := World.block_lt_of_cell? w _ ht
  go_enter Try.func34, Try.ntmps34
  go_wp2_with (go_at_call 41; refine (f41_any _ t a' false (by simpa [World.cell?_alloc_lt, lt] using ht)).mono ?_)
  rintro e w1 ⟨r, evr, kvr, rfl, hR, hF, hB⟩
  have hs0 : (w.alloc (.cells #[.string ⟨#[]⟩, .slice none 0 0] 64)).heap.size = w.heap.size + 1 := by simp
  rw [hs0] at hF hB
  have hB0 : Below w.heap.size w w1 := (((Below.refl _ _).alloc (Nat.le_refl _) _).trans (hB.mono (by omega)))
  have hA0 : At w1 w.heap.size [.string ⟨#[]⟩, .slice none 0 0] 64 := (At.new w [.string ⟨#[]⟩, .slice none 0 0] 64).below hB (by omega)
  have hN1 := hN.below hB0
  have c1' := hN1.cell1
  rw [hes] at c1'
  have hs30 : w1.cell? ⟨ge, 30, none⟩ = some (.string s) := by rw [hB0.cell lge]; exact hs15
  have hs31 : w1.cell? ⟨ge, 31, none⟩ = some (.slice A L C) := by rw [hB0.cell lge]; exact hv15
  have HP := hide hp
  have HN := hide hN
  clear c1 c2 hs15 hv15 ht hp hN hB hs0
  obtain ⟨gr, cr, rfl⟩ := hR.enn
  obtain ⟨hkr, -⟩ : kvr = .slice none 0 0 ∧ ([] : List Nat) = [] := by simpa [KidsV] using hR.knn
  subst hkr
  go_wp2
  have hB2 := hB0.alloc hB0.size (.cells #[.string s, .slice A L C] 64)
  have hBB : Below w1.heap.size w1 (w1.alloc (.cells #[.string s, .slice A L C] 64)) := (Below.refl _ _).alloc (Nat.le_refl _) _
  have hN2 := hN1.below hBB
  have hR2 := hR.below hBB
  have hA2 := hA0.below hBB hA0.lt
  have hM2 : At (w1.alloc (.cells #[.string s, .slice A L C] 64)) w1.heap.size [.string s, .slice A L C] 64 := At.new w1 _ _
  have lr := hR.cells.lt
  have lgr := (hR.ents.lt gr rfl).2
  have fr := hF.1
  have fgr := hF.2.1 gr rfl
  have dr : gr ≠ r := by simpa [Value.ownBlock] using hR.d1
  have lM := hM2.lt
  clear hBB hN1 hR hA0 hB0 c1' hs30 hs31
  generalize w1.heap.size = Bm at *
  generalize w1.alloc (.cells #[.string s, .slice A L C] 64) = w2 at *
  clear w1
  have cr1 := hR2.cell1
  have cf1 := hR2.cells.frozen 1
  have cb1 := hN2.cell1
  rw [hes] at cb1
  have hc16 : ¬ ce = 16 := by omega
  have hown2 := hR2.ents
  have hfl : (flat (es.drop 16)).length = 15 * 2 := by rw [flat_length, List.length_drop, hes]
  have hone := flat_one_cell (es.drop 16)
  have hsrc := cells_from_owns (k := 32) hN2.ents
  rw [show (32 : Nat) = 16 * 2 from rfl, flat_drop] at hsrc
  have HN2 := hide hN2
  have HR2 := hide hR2
  clear hN2 hR2
  go_region_law ((refine step_append_gen _ (by rfl) _ _ _ (by rfl) 0 64 i0 _ 2 40 Try.underlying67 hi0 hz0 hz1 hz2 rfl (by omega) gr 0 cr [] (by rfl) (by exact hown2) (some ⟨ge, 32, none⟩) 15 (ce - 16) (flat (es.drop 16)) (by rfl) (by simp) hfl (by exact hsrc) hone (by unfold maxLen; omega) (by omega) (Nat.zero_le _) ?_; intro gg cap w3 hown3 hgrow hgat; have hq1 : w3.cell? ⟨r, 1, none⟩ = some (.slice (some ⟨gr, 0, none⟩) 0 cr) := (hgrow.cell_far ⟨r, 1, none⟩ (by exact (by omega : r < w2.heap.size)) (by simp; omega)).trans cr1; have hq2 : w3.frozen? ⟨r, 1, none⟩ = false := (hgrow.frozen_far ⟨r, 1, none⟩ (by exact (by omega : r < w2.heap.size)) (by simp; omega)).trans cf1))
  all_goals
    have hR4 := node_ents (w0 := w2) HR2.out (show w3.ownsRow 0 64 2 (.slice (some ⟨gg, 0, none⟩) 15 cap) 15 (flat (es.drop 16)) by simpa using hown3) (by simp [hes]) (upd_row hgrow) (or_r hgat (fun h => by rw [h]; exact Nat.le_refl _))
    have u4 : Upd (fun k => k = gr ∨ k = r) w2 (w3.setCell ⟨r, 1, none⟩ (.slice (some ⟨gg, 0, none⟩) 15 cap)) :=
      ((upd_row hgrow).mono (fun i _ h => Or.inl h)).setCell _ _ (fun _ => Or.inr rfl)
    have hgg : w.heap.size + 1 ≤ gg := by
      rcases hgat with h | h
      · omega
      · have h2 : gg = w2.heap.size := h
        omega
    have hN4 := HN2.out.upd u4 (by omega) (fun g hg => by simp [Value.ownBlock] at hg; omega) (fun g hg => by cases hg)
    have hA4 := hA2.upd u4 (by omega)
    have hM4 := hM2.upd u4 (by omega)
    have hB4 := hB2.trans (u4.below hB2.size (fun k hk h => by omega))
    have fgg : From w.heap.size r (.slice (some ⟨gg, 0, none⟩) 15 cap) (.slice none 0 0) := (hF.mono (Nat.le_succ _)).ents (by omega)
    clear u4 hgrow hgat hown3 hq1 hq2 cr1 cf1 cb1 hown2 hfl hone hsrc HN2 HR2 hA2 hM2 hB2 dr fgr lgr hF
    generalize w3.setCell ⟨r, 1, none⟩ (.slice (some ⟨gg, 0, none⟩) 15 cap) = w4 at *
    clear w3
    have cb1 := hN4.cell1
    have he4 := hN4.ents
    rw [hes] at cb1 he4
    go_wp2_with (go_at_call 42; refine (f42_any _ 0 ge 31 ce 15 es he4 (by omega)).mono ?_)
    rintro e w5 ⟨rfl, hown5, hu5⟩
    have db : ge ≠ b := by simpa [Value.ownBlock] using hN4.d1
    have cb5 : w5.cell? ⟨b, 1, none⟩ = some (.slice (some ⟨ge, 0, none⟩) 31 ce) := by rw [← cb1]; exact World.cell?_of_block (hu5.block b hN4.cells.lt (fun h => db h.symm))
    have cf5 : w5.frozen? ⟨b, 1, none⟩ = false := by rw [← hN4.cells.frozen 1]; exact World.frozen?_of_block (hu5.block b hN4.cells.lt (fun h => db h.symm))
    have hN6 := node_ents hN4 hown5 (by simp [hes]) hu5 (Or.inl rfl)
    have u6 : Upd (fun k => k = ge ∨ k = b) w4 (w5.setCell ⟨b, 1, none⟩ (.slice (some ⟨ge, 0, none⟩) 15 ce)) := (hu5.mono (fun i _ h => Or.inl h)).setCell _ _ (fun _ => Or.inr rfl)
    have hR6 := hR4.upd u6 (by omega) (fun g hg => by simp [Value.ownBlock] at hg; omega) (fun g hg => by cases hg)
    have hA6 := hA4.upd u6 (by omega)
    have hM6 := hM4.upd u6 (by omega)
    have hU6 : Upd (fun k => k = b ∨ (Value.slice (some ⟨ge, 0, none⟩) es.length ce).ownBlock = some k ∨ (Value.slice none 0 0).ownBlock = some k) w (w5.setCell ⟨b, 1, none⟩ (.slice (some ⟨ge, 0, none⟩) 15 ce)) :=
      (Upd.of_below hB4).then u6 (fun i _ h => by rcases h with h | h <;> simp [Value.ownBlock, h])
    have c26 := hN6.cell2
    clear hN4 hR4 hA4 hM4 hB4 u6 hu5 hown5 cb1 he4 
    have hfin := split_fin (s := s) (x := (A, L, C)) hU6 hN6 hR6 hA6 (by omega) (by omega) (by simp [Value.ownBlock]) (by omega) (by omega) (by simp [Value.ownBlock])
    have HFIN := hide hfin
    clear hfin hU6 hN6 hR6
    have m0 := hM6.cell (i := 0) rfl
    have m1 := hM6.cell (i := 1) rfl
    have a0 := hA6.cell (i := 0) rfl
    have a1 := hA6.cell (i := 1) rfl
    have fa0 := hA6.frozen 0
    have fa1 := hA6.frozen 1
    have hAf := (hA6.set 0 (.string s)).set 1 (.slice A L C)
    have r0 := hAf.cell (i := 0) rfl
    have r1 := hAf.cell (i := 1) rfl
    clear hAf hA6 hM6
    go_wp2
    refine bodyPost_ret (v := .tuple #[.agg #[.string s, .slice A L C], pv r]) (by simp [results, Try.results34, go_sem, r0, r1]) rfl ?_
    have hp := HP.out
    have hf := HFIN.out
    exact ⟨s, (A, L, C), r, _, _, _, _, rfl, by rw [List.getElem?_eq_getElem (by omega), hp], hf.1, hf.2.1, rfl, rfl, fgg, hf.2.2⟩

end Go.Proofs.Qxb6600085a
