/-
  mutable at a node of another owner: a copy.
-/
import Derived.Test.Qxb6600085aMut
namespace Go.Proofs.Qxb6600085a
open Go.RowKit

attribute [local go_sem ↓] Go.wp_at_zero Go.wp_at_succ

/-- A draw, then an append onto row g. -/
theorem upd_row {w w2 : World} {g : Nat} (h : w.drew.grownBy w2 (some g)) : Upd (fun k => k = g) w w2 :=
  ⟨h.os, h.tape, h.output, h.size, fun k hk hn => h.block k hk (fun e => hn (by simpa using e))⟩

theorem cells_of_owns {w : World} {base e size g n c : Nat} {xs : List Value} (h : w.ownsRow base e size (.slice (some ⟨g, 0, none⟩) n c) n xs) : ∀ ad, (some ⟨g, 0, none⟩ : Option Addr) = some ad → ∀ j u, xs[j]? = some u → w.cell? (ad.add j) = some u := by
  intro ad ha j u hj
  cases ha
  exact h.cells rfl j u hj

/-- A leaf whose children's field is stored nil anew. -/
theorem node_nil {w : World} {c a : Nat} {ev : Value} {es : List Ent} (h : NodeAt w c a ev es (.slice none 0 0) false []) : NodeAt (w.setCell ⟨c, 2, none⟩ (.slice none 0 0)) c a ev es (.slice none 0 0) false [] := by
  have u : Upd (fun k => k = c) w (w.setCell ⟨c, 2, none⟩ (.slice none 0 0)) := (Upd.refl _ _).setCell _ _ (fun _ => rfl)
  exact ⟨h.cells.set 2 _, owns_upd h.ents u (fun g hg he => h.d1 (by rw [hg, he])), World.ownsRow_nil _ _ _ _, h.enn, h.knn, h.d1, h.d2, h.d3⟩

theorem From.ents {lo c gg n cap : Nat} {ev kv : Value} (h : From lo c ev kv) (hg : lo ≤ gg) : From lo c (.slice (some ⟨gg, 0, none⟩) n cap) kv :=
  ⟨h.1, fun g hg' => by simp [Value.ownBlock] at hg'; omega, h.2.2⟩
theorem From.kids {lo c gg n cap : Nat} {ev kv : Value} (h : From lo c ev kv) (hg : lo ≤ gg) : From lo c ev (.slice (some ⟨gg, 0, none⟩) n cap) :=
  ⟨h.1, h.2.1, fun g hg' => by simp [Value.ownBlock] at hg'; omega⟩

set_option maxRecDepth 100000 in
set_option maxHeartbeats 1600000 in
theorem f39_other (w : World) (t b o a : Nat) (ev kv : Value) (es : List Ent) (inner : Bool) (ks : List Nat) (ht : w.cell? ⟨t, 2, none⟩ = some (pv a)) (hN : NodeAt w b o ev es kv inner ks) (lo : Lies w o) (la : Lies w a) (hne : o ≠ a)
    (hes : es.length ≤ 1048576) (hks : ks.length ≤ 1048577) :
    Calls Try.prog 39 #[pv t, pv b] w fun e w' => NewNode w w' e a es inner ks := by
  have c0 := hN.cell0
  have c2 := hN.cell2
  obtain ⟨ka, kc, hkv, hki⟩ := hN.kform
  subst hkv
  obtain ⟨i0, hi0, hz0, hz1, hz2⟩ := info_parts info64
  obtain ⟨j0, hj0, hy0, hy1, hy2⟩ := info_parts info32
  have he : ∀ nq, (binOp .eql 26 (pv o) (pv a)).run Try.prog (w.drewN nq) = .ok (.bool false) (w.drewN nq) := fun nq => by
    have := eql_owner (w := w.drewN nq) (a := o) (b := a) lo la
    simpa [hne] using this
  have h2 := fun w => run_neq_slice_nil_any (P := Try.prog) w 31 32 ka ks.length kc 0 0 Try.underlying31
  rw [hki, Bool.not_not] at h2
  go_enter Try.func39, Try.ntmps39
  go_wp2
  go_quiet (fail)
  clear he
  have hN0 := hN.same (W := w.drewN nq) rfl
  have htq : (w.drewN nq).cell? ⟨t, 2, none⟩ = some (pv a) := ht
  go_wp2_with (go_at_call 41; refine (f41_any _ t a inner htq).mono ?_)
  rintro e w1 ⟨c, ev1, kv1, rfl, hC, hF, hB⟩
  have hB0 : Below w.heap.size w w1 := ⟨hB.os, hB.tape, hB.output, hB.size, hB.block⟩
  have hF0 : From w.heap.size c ev1 kv1 := hF
  clear hB hF
  have hN1 := hN.below hB0
  clear hN0 htq h2 c0 c2 ht
  obtain ⟨g1, c1, rfl⟩ := hC.enn
  obtain ⟨ge, ce, rfl⟩ := hN1.enn
  have cc1 := hC.cell1
  have fc1 := hC.cells.frozen 1
  have bc1 := hN1.cell1
  have lb := hN.cells.lt
  have lge := hN.ents.lt ge rfl
  have hFc := hF0.1
  have hFe := hF0.2.1 g1 rfl
  have d1 : g1 ≠ c := by simpa [Value.ownBlock] using hC.d1
  have l1 := hC.ents.lt g1 rfl
  have lc := hC.cells.lt
  have hcb : c ≠ b := by omega
  have hone := flat_one_cell es
  have hsrc := cells_of_owns hN1.ents
  have hown1 := hC.ents
  have hfl := flat_length es
  have HC := hide hC
  have HN := hide hN1
  clear hC hN1 lo la
  go_wp2
  go_region_law ((refine step_append_gen _ (by rfl) _ _ _ (by rfl) 0 64 i0 _ 2 40 Try.underlying67 hi0 hz0 hz1 hz2 rfl (by omega) g1 0 c1 [] (by rfl) (by exact hown1) (some ⟨ge, 0, none⟩) es.length ce (flat es) (by rfl) (by simp) hfl (by exact hsrc) hone (by unfold maxLen; omega) (by omega) (Nat.zero_le _) ?_; intro gg cap w2 hown2 hgrow hgat; have hq1 : w2.cell? ⟨c, 1, none⟩ = some (.slice (some ⟨g1, 0, none⟩) 0 c1) := (hgrow.cell_far ⟨c, 1, none⟩ (by exact lc) (by simp; omega)).trans cc1; have hq2 : w2.frozen? ⟨c, 1, none⟩ = false := (hgrow.frozen_far ⟨c, 1, none⟩ (by exact lc) (by simp; omega)).trans fc1))
  all_goals
    have hN3 := node_ents (w0 := w1) HC.out (show w2.ownsRow 0 64 2 (.slice (some ⟨gg, 0, none⟩) es.length cap) es.length (flat es) by simpa using hown2) rfl (upd_row hgrow) (or_r hgat (fun h => by rw [h]; exact Nat.le_refl _))
    have u3 : Upd (fun k => k = g1 ∨ k = c) w1 (w2.setCell ⟨c, 1, none⟩ (.slice (some ⟨gg, 0, none⟩) es.length cap)) :=
      ((upd_row hgrow).mono (fun i _ h => Or.inl h)).setCell _ _ (fun _ => Or.inr rfl)
    have hgg : w.heap.size ≤ gg := by
      rcases hgat with h | h
      · omega
      · have h1 := hB0.size
        have h2 : gg = w1.heap.size := h
        omega
    have hB3 := hB0.trans (u3.below hB0.size (fun k hk h => by omega))
    have hNb3 := hN.below hB3
    clear hgat hgrow hown2 hq1 hq2 cc1 fc1 bc1 hown1 hsrc hone hfl HC HN u3 d1 l1 lc hFe lge hi0 hz0 hz1 hz2 hN
    generalize w2.setCell ⟨c, 1, none⟩ (.slice (some ⟨gg, 0, none⟩) es.length cap) = w3 at *
    clear hB0
    have cc2 := hN3.cell2
    have fc2 := hN3.cells.frozen 2
    have bc2 := hNb3.cell2
    cases inner with
    | false =>
      obtain ⟨hk1, -⟩ : kv1 = .slice none 0 0 ∧ ([] : List Nat) = [] := by simpa [KidsV] using hN3.knn
      obtain ⟨hk2, hk3⟩ : Value.slice ka ks.length kc = .slice none 0 0 ∧ ks = [] := by simpa [KidsV] using hNb3.knn
      subst hk1
      subst hk3
      cases hk2
      have HN3 := hide hN3
      clear hN3 hNb3
      go_wp2
      go_region_law ((refine step_append_nil _ (by rfl) _ _ 31 (by rfl) 32 j0 Try.underlying31 hj0 (by rfl) (by rfl) ?_))
      all_goals
        go_wp2
        go_ret
        exact ⟨c, _, _, rfl, (node_nil HN3.out).same rfl, hF0.ents hgg, (hB3.setCell (p := ⟨c, 2, none⟩) hFc (.slice none 0 0)).drew⟩
    | true =>
      obtain ⟨g2, c2, hk1⟩ : ∃ g c, kv1 = .slice (some ⟨g, 0, none⟩) ([] : List Nat).length c := by simpa [KidsV] using hN3.knn
      obtain ⟨gk, ck, hk2⟩ : ∃ g c, Value.slice ka ks.length kc = .slice (some ⟨g, 0, none⟩) ks.length c := by simpa [KidsV] using hNb3.knn
      subst hk1
      cases hk2
      have l2 := hN3.kids.lt g2 rfl
      have lc := hN3.cells.lt
      have d2 : g2 ≠ c := by simpa [Value.ownBlock] using hN3.d2
      have hF2 := hF0.2.2 g2 rfl
      have hone := pv_one ks
      have hsrc := cells_of_owns hNb3.kids
      have hown1 := hN3.kids
      have hkl : (ks.map pv).length = ks.length * 1 := by simp
      have HN3 := hide hN3
      clear hN3 hNb3
      go_wp2
      go_region_law ((refine step_append_gen _ (by rfl) _ _ _ (by rfl) 0 32 j0 _ 1 8 Try.underlying31 hj0 hy0 hy1 hy2 rfl (by omega) g2 0 c2 [] (by rfl) (by exact hown1) (some ⟨gk, 0, none⟩) ks.length kc (ks.map pv) (by rfl) (by simp) hkl (by exact hsrc) hone (by unfold maxLen; omega) (by omega) (Nat.zero_le _) ?_; intro gg2 cap2 w4 hown2 hgrow hgat; have hq1 : w4.cell? ⟨c, 2, none⟩ = some (.slice (some ⟨g2, 0, none⟩) 0 c2) := (hgrow.cell_far ⟨c, 2, none⟩ (by exact lc) (by simp; omega)).trans cc2; have hq2 : w4.frozen? ⟨c, 2, none⟩ = false := (hgrow.frozen_far ⟨c, 2, none⟩ (by exact lc) (by simp; omega)).trans fc2))
      all_goals
        have hN5 := node_kids (w0 := w3) HN3.out (show w4.ownsRow 0 32 1 (.slice (some ⟨gg2, 0, none⟩) ks.length cap2) ks.length (ks.map pv) by simpa using hown2) rfl (upd_row hgrow) (or_r hgat (fun h => by rw [h]; exact Nat.le_refl _))
        have u5 : Upd (fun k => k = g2 ∨ k = c) w3 (w4.setCell ⟨c, 2, none⟩ (.slice (some ⟨gg2, 0, none⟩) ks.length cap2)) :=
          ((upd_row hgrow).mono (fun i _ h => Or.inl h)).setCell _ _ (fun _ => Or.inr rfl)
        have hgg2 : w.heap.size ≤ gg2 := by
          rcases hgat with h | h
          · omega
          · have h1 := hB3.size
            have h2 : gg2 = w3.heap.size := h
            omega
        have hB5 := hB3.trans (u5.below hB3.size (fun k hk h => by omega))
        have HF := hide (show NewNode w (w4.setCell ⟨c, 2, none⟩ (.slice (some ⟨gg2, 0, none⟩) ks.length cap2)) (.returned (pv c)) a es true ks from ⟨c, _, _, rfl, hN5, (hF0.ents hgg).kids hgg2, hB5⟩)
        clear hN5 hB5 u5 hgat hgrow hown2 hown1 hsrc hone HN3 hq1 hq2
        go_wp2
        go_ret
        exact HF.out

end Go.Proofs.Qxb6600085a
