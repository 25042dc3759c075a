/-
  merge.
-/
import Derived.Test.Qxb6600085aSep
import Derived.Deep.DeepCutAuto
import Derived.Deep.RegionWith
namespace Go.Proofs.Qxb6600085a
open Go.RowKit

attribute [local go_sem ↓] Go.wp_at_zero Go.wp_at_succ

/-- The three nodes of a merge: the left child (the tree's own by now), the parent, the right child. -/
structure Trio (w W : World) (T : Nat → Prop) (a p op cr orr c : Nat) (evp : Value) (esp : List Ent) (kvp : Value) (ksp : List Nat) (evr : Value) (esr : List Ent) (kvr : Value) (ksr : List Nat) (ev : Value) (es : List Ent) (kv : Value) (inner : Bool) (ks : List Nat) : Prop where
  L : NodeAt W c a ev es kv inner ks
  P : NodeAt W p op evp esp kvp true ksp
  R : NodeAt W cr orr evr esr kvr inner ksr
  lp : Sep c ev kv p evp kvp
  lr : Sep c ev kv cr evr kvr
  pr : Sep p evp kvp cr evr kvr
  may : May w W T c ev kv

theorem Trio.same {w W W' : World} {T : Nat → Prop} {a p op cr orr c : Nat} {evp : Value} {esp : List Ent} {kvp : Value} {ksp : List Nat} {evr : Value} {esr : List Ent} {kvr : Value} {ksr : List Nat} {ev : Value} {es : List Ent} {kv : Value} {inner : Bool} {ks : List Nat}
    (h : Trio w W T a p op cr orr c evp esp kvp ksp evr esr kvr ksr ev es kv inner ks) (d : Drew W W') : Trio w W' T a p op cr orr c evp esp kvp ksp evr esr kvr ksr ev es kv inner ks :=
  ⟨h.L.same d.heap, h.P.same d.heap, h.R.same d.heap, h.lp, h.lr, h.pr, h.may.moved (h.may.upd.trans (Upd.of_below (d.below _)))⟩

def Trio1 (w W : World) (T : Nat → Prop) (a p op cr orr i cl ol : Nat) (evp : Value) (esp : List Ent) (kvp : Value) (ksp : List Nat) (evr : Value) (esr : List Ent) (kvr : Value) (ksr : List Nat) (es : List Ent) (inner : Bool) (ks : List Nat) (s6 s7 : Value) : Prop :=
  ∃ c ev kv, s6 = pv c ∧ s7 = pv cr ∧ Trio w W T a p op cr orr c evp esp kvp (ksp.set i c) evr esr kvr ksr ev es kv inner ks ∧ (ol = a → c = cl)

/-- Behind the first append of a merge. -/
theorem merge_mid {w wc w2 : World} {T : Nat → Prop} {a p op cr orr c gl n1 c1 : Nat} {evp : Value} {esp : List Ent} {kvp : Value} {ksp : List Nat} {evr : Value} {esr : List Ent} {kvr : Value} {ksr : List Nat} {es : List Ent} {kv : Value} {inner : Bool} {ks : List Nat} {o : Obj}
    (h : Trio w wc T a p op cr orr c evp esp kvp ksp evr esr kvr ksr (.slice (some ⟨gl, 0, none⟩) n1 c1) es kv inner ks) (hg : (wc.alloc o).drew.grownBy w2 (some gl)) :
    w2.cell? ⟨cr, 1, none⟩ = some evr ∧ w2.cell? ⟨c, 1, none⟩ = some (.slice (some ⟨gl, 0, none⟩) n1 c1) ∧ w2.frozen? ⟨c, 1, none⟩ = false ∧ w2.ownsRow 0 64 2 evr esr.length (flat esr) ∧ Upd (fun k => k = gl) wc w2 := by
  have u0 : Upd (fun _ => False) wc (wc.alloc o) := (Upd.refl _ _).alloc o
  have u : Upd (fun k => k = gl) wc w2 := ⟨hg.os, hg.tape, hg.output, Nat.le_trans u0.size hg.size, fun k hk hn => (hg.block k (Nat.lt_of_lt_of_le hk u0.size) (fun e => hn (by simpa using e))).trans (u0.block k hk (fun h => h))⟩
  have hR := h.R.keep u (fun k hk he => h.lr k (.inr (.inl (by simp [Value.ownBlock, he]))) hk)
  have d1 : gl ≠ c := by simpa [Value.ownBlock] using h.L.d1
  have hc := h.L.cells.upd u (fun e => d1 e.symm)
  exact ⟨hR.cell1, hc.cell rfl, hc.frozen 1, hR.ents, u⟩

/-- Behind both, and the store. -/
theorem merge_ents {w wc w2 w3 : World} {T : Nat → Prop} {a p op cr orr c gl n1 c1 gg1 gg2 m cap : Nat} {evp : Value} {esp : List Ent} {kvp : Value} {ksp : List Nat} {evr : Value} {esr : List Ent} {kvr : Value} {ksr : List Nat} {es es' : List Ent} {kv : Value} {inner : Bool} {ks : List Nat}
    (h : Trio w wc T a p op cr orr c evp esp kvp ksp evr esr kvr ksr (.slice (some ⟨gl, 0, none⟩) n1 c1) es kv inner ks) (u2 : Upd (fun k => k = gl) wc w2) (hg : w2.grownBy w3 (some gg1)) (h1 : gg1 = gl ∨ wc.heap.size ≤ gg1) (h2 : gg2 = gg1 ∨ gg2 = w2.heap.size)
    (hown : w3.ownsRow 0 64 2 (.slice (some ⟨gg2, 0, none⟩) m cap) m (flat es')) (hm : es'.length = m) :
    w3.cell? ⟨c, 1, none⟩ = some (.slice (some ⟨gl, 0, none⟩) n1 c1) ∧ w3.frozen? ⟨c, 1, none⟩ = false ∧
    Trio w (w3.setCell ⟨c, 1, none⟩ (.slice (some ⟨gg2, 0, none⟩) m cap)) T a p op cr orr c evp esp kvp ksp evr esr kvr ksr (.slice (some ⟨gg2, 0, none⟩) m cap) es' kv inner ks := by
  have u : Upd (fun k => k = gl) wc w3 := u2.then (Upd.of_grown hg) (fun k hk he => by
    have : k = gg1 := by simpa using he
    rcases h1 with h1 | h1
    · omega
    · omega)
  have hgg : gg2 = gl ∨ wc.heap.size ≤ gg2 := by
    have := u2.size
    rcases h2 with h2 | h2
    · rw [h2]; exact h1
    · right; omega
  have d1 : gl ≠ c := by simpa [Value.ownBlock] using h.L.d1
  have hc := h.L.cells.upd u (fun e => d1 e.symm)
  have hp := ents_other (m := m) (cap := cap) h.P h.lp u hgg
  have hr := ents_other (m := m) (cap := cap) h.R h.lr u hgg
  exact ⟨hc.cell rfl, hc.frozen 1, ⟨node_ents h.L hown hm u hgg, hp.1, hr.1, hp.2, hr.2, h.pr, h.may.ents u hgg⟩⟩

theorem merge_nil {w wc : World} {T : Nat → Prop} {a p op cr orr c : Nat} {evp : Value} {esp : List Ent} {kvp : Value} {ksp : List Nat} {evr : Value} {esr : List Ent} {ev : Value} {es : List Ent}
    (h : Trio w wc T a p op cr orr c evp esp kvp ksp evr esr (.slice none 0 0) [] ev es (.slice none 0 0) false []) (W : World) (hW : Drew (wc.setCell ⟨c, 2, none⟩ (.slice none 0 0)) W) :
    Trio w W T a p op cr orr c evp esp kvp ksp evr esr (.slice none 0 0) [] ev es (.slice none 0 0) false ([] ++ []) := by
  have u : Upd (fun k => k = c) wc (wc.setCell ⟨c, 2, none⟩ (.slice none 0 0)) := (Upd.refl (fun k => k = c) wc).setCell _ _ (fun _ => rfl)
  exact Trio.same ⟨node_nil h.L, h.P.keep u (fun k hk he => h.lp k (.inl he) hk), h.R.keep u (fun k hk he => h.lr k (.inl he) hk), h.lp, h.lr, h.pr, h.may.moved (h.may.upd.then u (fun k hk he => h.may.own k (.inl he) hk))⟩ hW

theorem merge_kids {w wc w2 : World} {T : Nat → Prop} {a p op cr orr c g2 n2 c2 gg m cap : Nat} {evp : Value} {esp : List Ent} {kvp : Value} {ksp : List Nat} {evr : Value} {esr : List Ent} {kvr : Value} {ksr : List Nat} {ev : Value} {es : List Ent} {ks ks' : List Nat}
    (h : Trio w wc T a p op cr orr c evp esp kvp ksp evr esr kvr ksr ev es (.slice (some ⟨g2, 0, none⟩) n2 c2) true ks) (hg : wc.drew.grownBy w2 (some g2)) (h1 : gg = g2 ∨ gg = wc.drew.heap.size)
    (hown : w2.ownsRow 0 32 1 (.slice (some ⟨gg, 0, none⟩) m cap) m (ks'.map pv)) (hm : ks'.length = m) :
    w2.cell? ⟨c, 2, none⟩ = some (.slice (some ⟨g2, 0, none⟩) n2 c2) ∧ w2.frozen? ⟨c, 2, none⟩ = false ∧
    Trio w (w2.setCell ⟨c, 2, none⟩ (.slice (some ⟨gg, 0, none⟩) m cap)) T a p op cr orr c evp esp kvp ksp evr esr kvr ksr ev es (.slice (some ⟨gg, 0, none⟩) m cap) true ks' := by
  have u := upd_row hg
  have hgg : gg = g2 ∨ wc.heap.size ≤ gg := or_r h1 (fun h => by rw [h]; exact Nat.le_refl _)
  have d2 : g2 ≠ c := by simpa [Value.ownBlock] using h.L.d2
  have hc := h.L.cells.upd u (fun e => d2 e.symm)
  have hp := kids_other (m := m) (cap := cap) h.P h.lp u hgg
  have hr := kids_other (m := m) (cap := cap) h.R h.lr u hgg
  exact ⟨hc.cell rfl, hc.frozen 2, ⟨node_kids h.L hown hm u hgg, hp.1, hr.1, hp.2, hr.2, h.pr, h.may.kids u hgg⟩⟩

set_option maxRecDepth 100000 in
set_option maxHeartbeats 3200000 in
theorem f49_any (w : World) (T : Nat → Prop) (t a p op i cl ol cr orr : Nat) (evp : Value) (esp : List Ent) (kvp : Value) (ksp : List Nat) (evl : Value) (esl : List Ent) (kvl : Value) (ksl : List Nat) (evr : Value) (esr : List Ent) (kvr : Value) (ksr : List Nat) (inner : Bool)
    (hT : Tree w t a) (hP : NodeAt w p op evp esp kvp true ksp) (hi : i + 1 < ksp.length) (hie : i < esp.length) (hl : ksp[i] = cl) (hr : ksp[i + 1] = cr) (hL : NodeAt w cl ol evl esl kvl inner ksl) (hR : NodeAt w cr orr evr esr kvr inner ksr) (lo : Lies w ol)
    (sz1 : esl.length + 1 + esr.length ≤ 1048576) (sz2 : ksl.length + ksr.length ≤ 1048577) (sz3 : ksp.length ≤ 1048577) (sz4 : esp.length ≤ 1048577)
    (hlp : Sep cl evl kvl p evp kvp) (hlr : Sep cl evl kvl cr evr kvr) (hpr : Sep p evp kvp cr evr kvr) (hTp : ∀ k, FP p evp kvp k → T k) (hTl : ol = a → ∀ k, FP cl evl kvl k → T k) :
    Calls Try.prog 49 #[pv t, pv p, .int .i64 i] w fun e w' => e = .returned (.tuple #[]) ∧ ∃ c ev kv evp' kvp', (ol = a → c = cl) ∧ NodeAt w' c a ev (esl ++ esp[i] :: esr) kv inner (ksl ++ ksr) ∧ NodeAt w' p op evp' (del i esp) kvp' true (del (i + 1) (ksp.set i c)) ∧ Upd T w w' := by
  obtain ⟨i0, hi0, hz0, hz1, hz2⟩ := info_parts info64
  obtain ⟨j0, hj0, hy0, hy1, hy2⟩ := info_parts info32
  obtain ⟨gk, ck, hkv, hcr⟩ := hP.kcells (i + 1) hi
  rw [hr] at hcr
  have c2 := hP.cell2
  have hk0 : (0 : Int) ≤ (i : Int) := Int.natCast_nonneg _
  have hk1 : (i : Int) + 1 < (ksp.length : Int) := by omega
  have hk2 : (i : Int) < (ksp.length : Int) := by omega
  have hk3 : (0 : Int) ≤ (i : Int) + 1 := by omega
  have hwr : IntKind.i64.wrap ((i : Int) + 1) = (i : Int) + 1 := by rw [IntKind.wrap_i64]; omega
  have htn : ((i : Int) + 1).toNat = i + 1 := by omega
  have s1 : kvp.ownBlock ≠ some cl := fun h => hlp cl (.inl rfl) (.inr (.inr h))
  have s2 : evl.ownBlock ≠ kvp.ownBlock := by
    obtain ⟨g, c, rfl⟩ := hL.enn
    exact fun h => hlp g (.inr (.inl rfl)) (.inr (.inr h.symm))
  have s3 : kvl.ownBlock ≠ kvp.ownBlock := by
    subst hkv
    exact fun h => hlp gk (.inr (.inr h)) (.inr (.inr rfl))
  have hf44 : ∀ W, W.heap = w.heap → Calls Try.prog 44 #[pv t, pv p, .int .i64 i] W fun e w' => ChildAt W w' e a p op evp esp kvp ksp i cl ol evl esl kvl inner ksl := fun W hW =>
    f44_any W t a p op i cl ol evp esp kvp ksp evl esl kvl inner ksl (hT.same hW) (hP.same hW) (by omega) hl (hL.same hW) (lo.same hW) (by omega) (by omega) s1 s2 s3
  have H44 := hide hf44
  have hgen : ∀ W W' e, Drew w W → ChildAt W W' e a p op evp esp kvp ksp i cl ol evl esl kvl inner ksl → ∃ c ev kv, e = .returned (pv c) ∧ W'.cell? ⟨p, 2, none⟩ = some kvp ∧ W'.cell? ⟨gk, i + 1, none⟩ = some (pv cr) ∧ Trio w W' T a p op cr orr c evp esp kvp (ksp.set i c) evr esr kvr ksr ev esl kv inner ksl ∧ (ol = a → c = cl) := by
    intro W W' e hd hch
    obtain ⟨c, ev, kv, he, h1, h2, h3, h4, h5, h6⟩ := hch.split T (fun k hk => hTp k (.inr (.inr hk))) hTl
    have hR1 := (hR.same hd.heap).keep h3 (fun k hk h => hpr k (.inr (.inr h)) hk)
    have hq : W'.cell? ⟨gk, i + 1, none⟩ = some (pv cr) := by
      obtain ⟨g', c', hg', hc'⟩ := h2.kcells (i + 1) (by simpa using hi)
      rw [hkv] at hg'
      have hgg : gk = g' := by simp at hg'; exact hg'.1
      subst hgg
      rw [hc', List.getElem_set_ne (by omega), hr]
    refine ⟨c, ev, kv, he, h2.cell2, hq, ⟨h1, h2, hR1, h5 _ _ _ _ _ _ _ (hP.same hd.heap) hlp, h5 _ _ _ _ _ _ _ (hR.same hd.heap) hlr, hpr, ?_⟩, h6⟩
    refine ⟨(Upd.of_below (hd.below _)).trans h4.upd, fun k hk hlt => h4.own k hk (by rw [hd.heap]; exact hlt)⟩
  have HG := hide hgen
  subst hkv
  clear hf44 hgen hT hP hL hR lo s1 s2 s3 hlp hlr hTl hl hr
  go_enter Try.func49, Try.ntmps49
  go_upto_region 0 with fail
  go_cut [6, 7] (fun s6 s7 wx => Trio1 w wx T a p op cr orr i cl ol evp esp (.slice (some ⟨gk, 0, none⟩) ksp.length ck) ksp evr esr kvr ksr esl inner ksl s6 s7)
  case first =>
    go_region_with ((go_at_call 44; refine (H44.out _ ?_).mono ?_; rfl; intro e w1 hch; obtain ⟨c, ev, kv, he, q1, q2, htrio, hown⟩ := HG.out _ _ _ ⟨1, rfl⟩ hch; subst he; clear hch))
    all_goals (go_wp2_with fail; go_meet; exact ⟨c, ev, kv, rfl, rfl, htrio, hown⟩)
  case rest =>
    obtain ⟨c, ev, kv, rfl, rfl, htrio, hown⟩ := hcut
    obtain ⟨gl, c1, rfl⟩ := htrio.L.enn
    obtain ⟨gp, cp, rfl, he1, he2⟩ := htrio.P.ecells i hie
    obtain ⟨gr, c3, rfl⟩ := htrio.R.enn
    obtain ⟨pe, hpe⟩ : ∃ pe, esp[i] = pe := ⟨_, rfl⟩
    rw [hpe] at he1 he2
    obtain ⟨s, A, L, C⟩ := pe
    have cl1 := htrio.L.cell1
    have fl1 := htrio.L.cells.frozen 1
    have cp1 := htrio.P.cell1
    have cr1 := htrio.R.cell1
    have he3 : wc.cell? ⟨gp, i * 2 + 1, none⟩ = some (.slice A L C) := he2
    have ha1 := fun o => Lib.cell?_alloc_some o cr1
    have ha2 := fun o => Lib.cell?_alloc_some o cl1
    clear he2
    have ownl := htrio.L.ents
    have ltl := htrio.L.cells.lt
    have hke : (i : Int) < (esp.length : Int) := by omega
    have HMID := hide (fun w2 o => merge_mid (w2 := w2) (o := o) htrio)
    have HENTS := hide (fun w2 w3 gg1 gg2 m cap es' => merge_ents (w2 := w2) (w3 := w3) (gg1 := gg1) (gg2 := gg2) (m := m) (cap := cap) (es' := es') htrio)
    have HT := hide htrio
    have HPE := hide hpe
    have honer := flat_one_cell esr
    have hflr := flat_length esr
    clear htrio c2 hcr H44 HG hpe
    go_upto_region 1 with fail
    go_cut [] (fun wx => ∃ evx, Trio w wx T a p op cr orr c (.slice (some ⟨gp, 0, none⟩) esp.length cp) esp (.slice (some ⟨gk, 0, none⟩) ksp.length ck) (ksp.set i c) (.slice (some ⟨gr, 0, none⟩) esr.length c3) esr kvr ksr evx (esl ++ (s, A, L, C) :: esr) kv inner ksl)
    case first =>
      go_region_law (first | (refine step_append_gen _ (by rfl) (.tmp 24) (.tmp 32) 67 (by rfl) 0 64 i0 _ 2 40 Try.underlying67 hi0 hz0 hz1 hz2 rfl (by omega) gl esl.length c1 (flat esl) (by rfl) (by exact (ownl.alloc _).drew) (some ⟨wc.heap.size, 0, none⟩) 1 1 [.string s, .slice A L C] (by rfl) (by simp) (by rfl) (by intro ad ha; cases ha; exact World.news_of_block (cs := #[.string s, .slice A L C]) (t := 64) (fr := (0, 0)) (heap_alloc_new wc _)) (by simp [Value.oneCell']) (by unfold maxLen; omega) (by omega) (Nat.zero_le _) ?_; intro gg1 cap1 w2 hown2 hgrow2 hgat2; obtain ⟨m1, m2, m3, m4, m5⟩ := HMID.out _ _ hgrow2) | (refine step_append_gen _ (by rfl) (.tmp 33) (.tmp 37) 67 (by rfl) 0 64 i0 _ 2 40 Try.underlying67 hi0 hz0 hz1 hz2 rfl (by omega) gg1 (esl.length + 1) cap1 _ (by rfl) (by exact hown2) (some ⟨gr, 0, none⟩) esr.length c3 (flat esr) (by rfl) (by simp) hflr (by exact cells_of_owns m4) honer (by unfold maxLen; omega) (by omega) (Nat.zero_le _) ?_; intro gg2 cap2 w3 hown3 hgrow3 hgat3; obtain ⟨m6, m7, m8⟩ := HENTS.out w2 w3 gg1 gg2 (esl.length + 1 + esr.length) cap2 (esl ++ (s, A, L, C) :: esr) m5 hgrow3 (or_r hgat2 (fun h => by rw [h]; simp)) hgat3 (by rw [flat_append]; simpa [flat] using hown3) (by simp; omega)))
      all_goals
        clear HMID HENTS HT HPE honer hflr hown2 hgrow2 hgat2 m1 m2 m3 m4 m5 hown3 hgrow3 hgat3 m6 m7 cl1 fl1 cp1 cr1 he1 he3 ha1 ha2 ownl
        go_wp2_with fail
        go_meet
        exact ⟨_, m8⟩
    case rest =>
      clear HMID HENTS HT cl1 fl1 cp1 cr1 he1 he3 ha1 ha2 ownl honer hflr
      obtain ⟨evx, htrio⟩ := hcut
      go_upto_region 2 with fail
      go_cut [] (fun wx => ∃ kvx, Trio w wx T a p op cr orr c (.slice (some ⟨gp, 0, none⟩) esp.length cp) esp (.slice (some ⟨gk, 0, none⟩) ksp.length ck) (ksp.set i c) (.slice (some ⟨gr, 0, none⟩) esr.length c3) esr kvr ksr evx (esl ++ (s, A, L, C) :: esr) kvx inner (ksl ++ ksr))
      case first =>
        have cl2 := htrio.L.cell2
        have fl2 := htrio.L.cells.frozen 2
        have cr2 := htrio.R.cell2
        cases inner with
        | false =>
          obtain ⟨hk1, hk3⟩ : kv = .slice none 0 0 ∧ ksl = [] := by simpa [KidsV] using htrio.L.knn
          obtain ⟨hk2, hk4⟩ : kvr = .slice none 0 0 ∧ ksr = [] := by simpa [KidsV] using htrio.R.knn
          subst hk1
          subst hk2
          subst hk3
          subst hk4
          have HT := hide htrio
          clear htrio
          go_region_law ((refine step_append_nil _ (by rfl) _ _ 31 (by rfl) 32 j0 Try.underlying31 hj0 (by rfl) (by rfl) ?_))
          all_goals
            go_wp2_with fail
            go_meet
            exact ⟨_, merge_nil HT.out _ ⟨1, rfl⟩⟩
        | true =>
          obtain ⟨g2, cc2, hk1⟩ : ∃ g c, kv = .slice (some ⟨g, 0, none⟩) ksl.length c := by simpa [KidsV] using htrio.L.knn
          obtain ⟨g3, cc3, hk2⟩ : ∃ g c, kvr = .slice (some ⟨g, 0, none⟩) ksr.length c := by simpa [KidsV] using htrio.R.knn
          subst hk1
          subst hk2
          have hone := pv_one ksr
          have hkl : (ksr.map pv).length = ksr.length * 1 := by simp
          have hsrc := cells_of_owns htrio.R.kids
          have hown1 := htrio.L.kids
          have HK := hide (fun w2 gg m cap ks' => merge_kids (w2 := w2) (gg := gg) (m := m) (cap := cap) (ks' := ks') htrio)
          clear htrio
          go_region_law ((refine step_append_gen _ (by rfl) _ _ _ (by rfl) 0 32 j0 _ 1 8 Try.underlying31 hj0 hy0 hy1 hy2 rfl (by omega) g2 ksl.length cc2 _ (by rfl) (by exact hown1) (some ⟨g3, 0, none⟩) ksr.length cc3 (ksr.map pv) (by rfl) (by simp) hkl (by exact hsrc) hone (by unfold maxLen; omega) (by omega) (Nat.zero_le _) ?_; intro gg2 cap2 w4 hown2 hgrow hgat; obtain ⟨m1, m2, m3⟩ := HK.out w4 gg2 (ksl.length + ksr.length) cap2 (ksl ++ ksr) hgrow hgat (by simpa using hown2) (by simp)))
          all_goals
            clear HK hown1 hsrc hone hkl hown2 hgrow hgat
            go_wp2_with fail
            go_meet
            exact ⟨_, m3⟩
      case rest =>
        obtain ⟨kvx, htrio⟩ := hcut
        have cp1 := htrio.P.cell1
        have dpe : gp ≠ p := by simpa [Value.ownBlock] using htrio.P.d1
        have ltp := htrio.P.cells.lt
        go_wp2_with (go_at_call 47; refine (f47_any _ 0 gp esp.length cp i esp htrio.P.ents rfl hie (by omega)).mono ?_)
        rintro e w4 ⟨rfl, hown4, hu4⟩
        have hP4 := node_ents htrio.P hown4 (del_length i esp hie) hu4 (Or.inl rfl)
        have hL4 := ents_other (m := esp.length - 1) (cap := cp) htrio.L htrio.lp.symm hu4 (Or.inl rfl)
        have hU4 : Upd T w (w4.setCell ⟨p, 1, none⟩ (.slice (some ⟨gp, 0, none⟩) (esp.length - 1) cp)) :=
          (htrio.may.upd.then hu4 (fun k _ h => hTp k (.inr (.inl (by simp [Value.ownBlock, h]))))).setCell _ _ (fun _ => hTp p (.inl rfl))
        have hc4 : w4.cell? ⟨p, 1, none⟩ = some (.slice (some ⟨gp, 0, none⟩) esp.length cp) := by rw [← cp1]; exact World.cell?_of_block (hu4.block p ltp (fun h => dpe h.symm))
        have hf4 : w4.frozen? ⟨p, 1, none⟩ = false := by rw [← htrio.P.cells.frozen 1]; exact World.frozen?_of_block (hu4.block p ltp (fun h => dpe h.symm))
        have cp2 := hP4.cell2
        have hk4 := hP4.kids
        have dpk : gk ≠ p := by simpa [Value.ownBlock] using hP4.d2
        rw [List.length_set] at hk4
        have HI1 := hide (show ((i : Int) + 1) = ((i + 1 : Nat) : Int) by omega)
        clear htrio hown4 hu4 cp1
        go_wp2_with fail
        rw [HI1.out]
        refine (f48_any _ 0 gk ksp.length ck (i + 1) (ksp.set i c) hk4 (by simp) (by omega) (by omega)).mono ?_
        rintro e w5 ⟨rfl, hown5, hu5⟩
        generalize w4.setCell ⟨p, 1, none⟩ (.slice (some ⟨gp, 0, none⟩) (esp.length - 1) cp) = w6 at *
        have hP6 := node_kids hP4 hown5 (by rw [del_length _ _ (by simpa using hi)]; simp) hu5 (Or.inl rfl)
        have hL6 := kids_other (m := ksp.length - 1) (cap := ck) hL4.1 hL4.2 hu5 (Or.inl rfl)
        have hU6 : Upd T w (w5.setCell ⟨p, 2, none⟩ (.slice (some ⟨gk, 0, none⟩) (ksp.length - 1) ck)) :=
          (hU4.then hu5 (fun k _ h => hTp k (.inr (.inr (by simp [Value.ownBlock, h]))))).setCell _ _ (fun _ => hTp p (.inl rfl))
        have hc5 : w5.cell? ⟨p, 2, none⟩ = some (.slice (some ⟨gk, 0, none⟩) ksp.length ck) := by rw [← cp2]; exact World.cell?_of_block (hu5.block p hP4.cells.lt (fun h => dpk h.symm))
        have hf5 : w5.frozen? ⟨p, 2, none⟩ = false := by rw [← hP4.cells.frozen 2]; exact World.frozen?_of_block (hu5.block p hP4.cells.lt (fun h => dpk h.symm))
        have HF := hide (And.intro hL6.1 (And.intro hP6 hU6))
        have HW := hide hown
        clear hP4 hL4 hU4 hP6 hL6 hU6 hown5 hu5 hk4 cp2 hc4 hf4 hTp hpr
        go_wp2
        go_end0
        refine ⟨rfl, c, evx, kvx, _, _, HW.out, ?_, HF.out.2.1, HF.out.2.2⟩
        rw [HPE.out]
        exact HF.out.1

end Go.Proofs.Qxb6600085a
