/-
  child: the i-th child, made the tree's own.
-/
import Derived.Test.Qxb6600085aRem
namespace Go.Proofs.Qxb6600085a
open Go.RowKit

/-- A child's pointer stored anew into its place in the parent. -/
theorem node_child {w : World} {p o gk ck i c n : Nat} {ev : Value} {es : List Ent} {ks : List Nat} (hP : NodeAt w p o ev es (.slice (some ⟨gk, 0, none⟩) n ck) true ks) (hi : i < ks.length) :
    NodeAt (w.setCell ⟨gk, i, none⟩ (pv c)) p o ev es (.slice (some ⟨gk, 0, none⟩) n ck) true (ks.set i c) := by
  have d2 : gk ≠ p := by simpa [Value.ownBlock] using hP.d2
  have d3 : ev.ownBlock ≠ some gk := by have := hP.d3; simpa [Value.ownBlock] using this
  have u : Upd (fun k => k = gk) w (w.setCell ⟨gk, i, none⟩ (pv c)) := (Upd.refl (fun k => k = gk) w).setCell _ _ (fun _ => rfl)
  obtain ⟨rest, hn, hat, h1, h2, h3, h4, -⟩ := owns_at hP.kids
  subst hn
  refine ⟨hP.cells.upd u (fun h => d2 h.symm), owns_upd hP.ents u (fun g hg h => d3 (by rw [hg, h])), ?_, hP.enn, ?_, hP.d1, hP.d2, hP.d3⟩
  · have hat' := hat.set i (pv c)
    rw [List.set_append_left _ _ (by simpa using hi), ← List.map_set] at hat'
    rw [List.length_set]
    exact owns_mk hat' h1 h2 (by simp) (by simpa using h4) (Nat.zero_le _)
  · exact ⟨gk, ck, by rw [List.length_set]⟩

/-- What child leaves. -/
def ChildAt (w w' : World) (e : Ending) (a p op : Nat) (evp : Value) (esp : List Ent) (kvp : Value) (ksp : List Nat) (i c oc : Nat) (evc : Value) (esc : List Ent) (kvc : Value) (innerc : Bool) (ksc : List Nat) : Prop :=
  ∃ c' evc' kvc', e = .returned (pv c') ∧ NodeAt w' c' a evc' esc kvc' innerc ksc ∧ NodeAt w' p op evp esp kvp true (ksp.set i c') ∧ Upd (fun k => kvp.ownBlock = some k) w w' ∧
    ((oc = a ∧ c' = c ∧ evc' = evc ∧ kvc' = kvc) ∨ (oc ≠ a ∧ From w.heap.size c' evc' kvc'))

set_option maxRecDepth 100000 in
set_option maxHeartbeats 800000 in
theorem f44_any (w : World) (t a p op i c oc : Nat) (evp : Value) (esp : List Ent) (kvp : Value) (ksp : List Nat) (evc : Value) (esc : List Ent) (kvc : Value) (innerc : Bool) (ksc : List Nat)
    (hT : Tree w t a) (hP : NodeAt w p op evp esp kvp true ksp) (hi : i < ksp.length) (hc : ksp[i] = c) (hC : NodeAt w c oc evc esc kvc innerc ksc) (lo : Lies w oc) (hes : esc.length ≤ 1048576) (hks : ksc.length ≤ 1048577)
    (s1 : kvp.ownBlock ≠ some c) (s2 : evc.ownBlock ≠ kvp.ownBlock) (s3 : kvc.ownBlock ≠ kvp.ownBlock) :
    Calls Try.prog 44 #[pv t, pv p, .int .i64 i] w fun e w' => ChildAt w w' e a p op evp esp kvp ksp i c oc evc esc kvc innerc ksc := by
  have c2 := hP.cell2
  obtain ⟨gk, ck, hkv, hcell⟩ := hP.kcells i hi
  subst hkv
  rw [hc] at hcell
  have hk0 : (0 : Int) ≤ (i : Int) := Int.natCast_nonneg _
  have hk1 : (i : Int) < (ksp.length : Int) := by omega
  by_cases hoc : oc = a
  · subst hoc
    go_enter Try.func44, Try.ntmps44
    go_wp2_with (go_at_call 39; refine (f39_own w t c oc evc kvc esc innerc ksc hT.tree hC hT.own).mono ?_)
    rintro e w1 ⟨rfl, hd⟩
    have c21 : w1.cell? ⟨p, 2, none⟩ = some (.slice (some ⟨gk, 0, none⟩) ksp.length ck) := by rw [hd.cell]; exact c2
    have hcell1 : w1.cell? ⟨gk, i, none⟩ = some (pv c) := by rw [hd.cell]; exact hcell
    have hP1 := hP.same hd.heap
    obtain ⟨rest, -, hat, -⟩ := owns_at hP1.kids
    have hfr := hat.frozen i
    have hC1 := hC.same hd.heap
    have u1 : Upd (fun k => k = gk) w1 (w1.setCell ⟨gk, i, none⟩ (pv c)) := (Upd.refl (fun k => k = gk) w1).setCell _ _ (fun _ => rfl)
    have hC2 := hC1.upd u1 (fun h => s1 (by simp [Value.ownBlock, h])) (fun g hg h => s2 (by rw [hg, h]; rfl)) (fun g hg h => s3 (by rw [hg, h]; rfl))
    have hP2 := node_child (c := c) hP1 hi
    have hU : Upd (fun k => (Value.slice (some ⟨gk, 0, none⟩) ksp.length ck).ownBlock = some k) w (w1.setCell ⟨gk, i, none⟩ (pv c)) :=
      (Upd.of_below (hd.below _)).then u1 (fun k _ h => by simp [Value.ownBlock, h])
    have HF := hide (show ChildAt w (w1.setCell ⟨gk, i, none⟩ (pv c)) (.returned (pv c)) oc p op evp esp (.slice (some ⟨gk, 0, none⟩) ksp.length ck) ksp i c oc evc esc kvc innerc ksc from
      ⟨c, evc, kvc, rfl, hC2, hP2, hU, Or.inl ⟨rfl, rfl, rfl, rfl⟩⟩)
    clear hP1 hat hC1 u1 hC2 hP2 hU hd hcell c2 hP hC hT lo
    go_wp2
    go_ret
    exact HF.out
  · go_enter Try.func44, Try.ntmps44
    go_wp2_with (go_at_call 39; refine (f39_other w t c oc a evc kvc esc innerc ksc hT.tree hC lo hT.own hoc hes hks).mono ?_)
    rintro e w1 ⟨c', evc', kvc', rfl, hC1, hF, hb⟩
    have hP1 := hP.below hb
    have c21 := hP1.cell2
    have lgk := (hP.kids.lt gk rfl).2
    have hcell1 : w1.cell? ⟨gk, i, none⟩ = some (pv c) := by rw [hb.cell lgk]; exact hcell
    obtain ⟨rest, -, hat, -⟩ := owns_at hP1.kids
    have hfr := hat.frozen i
    have u1 : Upd (fun k => k = gk) w1 (w1.setCell ⟨gk, i, none⟩ (pv c')) := (Upd.refl (fun k => k = gk) w1).setCell _ _ (fun _ => rfl)
    have hC2 := hC1.upd u1 (fun h => by have := hF.1; omega) (fun g hg h => by have := hF.2.1 g hg; omega) (fun g hg h => by have := hF.2.2 g hg; omega)
    have hP2 := node_child (c := c') hP1 hi
    have hU : Upd (fun k => (Value.slice (some ⟨gk, 0, none⟩) ksp.length ck).ownBlock = some k) w (w1.setCell ⟨gk, i, none⟩ (pv c')) :=
      (Upd.of_below hb).then u1 (fun k _ h => by simp [Value.ownBlock, h])
    have HF := hide (show ChildAt w (w1.setCell ⟨gk, i, none⟩ (pv c')) (.returned (pv c')) a p op evp esp (.slice (some ⟨gk, 0, none⟩) ksp.length ck) ksp i c oc evc esc kvc innerc ksc from
      ⟨c', evc', kvc', rfl, hC2, hP2, hU, Or.inr ⟨hoc, hF⟩⟩)
    clear hP1 hat hC1 u1 hC2 hP2 hU hb hcell c2 hP hC hT lo hF
    go_wp2
    go_ret
    exact HF.out

end Go.Proofs.Qxb6600085a
