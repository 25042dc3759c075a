/-
  What blocks a node is made of; nodes apart from one another; a node's field replaced, and what stays.
-/
import Derived.Test.Qxb6600085aChild
namespace Go.Proofs.Qxb6600085a
open Go.RowKit

/-- The blocks that a node is made of. -/
def FP (b : Nat) (ev kv : Value) (k : Nat) : Prop := k = b ∨ ev.ownBlock = some k ∨ kv.ownBlock = some k
/-- Two nodes share no block. -/
def Sep (b : Nat) (ev kv : Value) (b' : Nat) (ev' kv' : Value) : Prop := ∀ k, FP b ev kv k → ¬ FP b' ev' kv' k

theorem Sep.symm {b b' : Nat} {ev kv ev' kv' : Value} (h : Sep b ev kv b' ev' kv') : Sep b' ev' kv' b ev kv := fun k h1 h2 => h k h2 h1

section
variable {w w' : World} {b o : Nat} {ev : Value} {es : List Ent} {kv : Value} {inner : Bool} {ks : List Nat}

theorem NodeAt.fp_lt (h : NodeAt w b o ev es kv inner ks) {k : Nat} (hk : FP b ev kv k) : k < w.heap.size := by
  rcases hk with rfl | hk | hk
  · exact h.cells.lt
  · exact (h.ents.lt k hk).2
  · exact (h.kids.lt k hk).2

theorem NodeAt.keep {S : Nat → Prop} (h : NodeAt w b o ev es kv inner ks) (u : Upd S w w') (hs : ∀ k, FP b ev kv k → ¬ S k) : NodeAt w' b o ev es kv inner ks :=
  h.upd u (hs b (.inl rfl)) (fun g hg => hs g (.inr (.inl hg))) (fun g hg => hs g (.inr (.inr hg)))

/-- A node that is new is apart from one that was there. -/
theorem sep_of_from {b' : Nat} {ev' kv' : Value} (h : NodeAt w b o ev es kv inner ks) (hF : From w.heap.size b' ev' kv') : Sep b' ev' kv' b ev kv := by
  intro k h1 h2
  have := h.fp_lt h2
  rcases h1 with rfl | h1 | h1
  · have := hF.1; omega
  · have := hF.2.1 k h1; omega
  · have := hF.2.2 k h1; omega
end

/-- The entries' field of c replaced by a row at its old place or in new memory: another node stays, and stays apart. -/
theorem ents_other {w0 w2 : World} {c n1 c1 g1 gg m cap y oy : Nat} {kv evy kvy : Value} {esy : List Ent} {iy : Bool} {ksy : List Nat} (hY : NodeAt w0 y oy evy esy kvy iy ksy) (hs : Sep c (.slice (some ⟨g1, 0, none⟩) n1 c1) kv y evy kvy)
    (u : Upd (fun k => k = g1) w0 w2) (hgg : gg = g1 ∨ w0.heap.size ≤ gg) :
    NodeAt (w2.setCell ⟨c, 1, none⟩ (.slice (some ⟨gg, 0, none⟩) m cap)) y oy evy esy kvy iy ksy ∧ Sep c (.slice (some ⟨gg, 0, none⟩) m cap) kv y evy kvy := by
  have u' : Upd (fun k => k = g1 ∨ k = c) w0 (w2.setCell ⟨c, 1, none⟩ (.slice (some ⟨gg, 0, none⟩) m cap)) := (u.mono (fun i _ h => Or.inl h)).setCell _ _ (fun _ => Or.inr rfl)
  refine ⟨hY.keep u' (fun k hk h => ?_), fun k hk h => ?_⟩
  · rcases h with h | h
    · exact hs k (.inr (.inl (by simp [Value.ownBlock, h]))) hk
    · exact hs k (.inl h) hk
  · rcases hk with hk | hk | hk
    · exact hs k (.inl hk) h
    · have hk' : gg = k := by simpa [Value.ownBlock] using hk
      rcases hgg with h' | h'
      · exact hs k (.inr (.inl (by simp [Value.ownBlock]; omega))) h
      · have := hY.fp_lt h; omega
    · exact hs k (.inr (.inr hk)) h

/-- The same of the children's field. -/
theorem kids_other {w0 w2 : World} {c n1 c1 g1 gg m cap y oy : Nat} {ev evy kvy : Value} {esy : List Ent} {iy : Bool} {ksy : List Nat} (hY : NodeAt w0 y oy evy esy kvy iy ksy) (hs : Sep c ev (.slice (some ⟨g1, 0, none⟩) n1 c1) y evy kvy)
    (u : Upd (fun k => k = g1) w0 w2) (hgg : gg = g1 ∨ w0.heap.size ≤ gg) :
    NodeAt (w2.setCell ⟨c, 2, none⟩ (.slice (some ⟨gg, 0, none⟩) m cap)) y oy evy esy kvy iy ksy ∧ Sep c ev (.slice (some ⟨gg, 0, none⟩) m cap) y evy kvy := by
  have u' : Upd (fun k => k = g1 ∨ k = c) w0 (w2.setCell ⟨c, 2, none⟩ (.slice (some ⟨gg, 0, none⟩) m cap)) := (u.mono (fun i _ h => Or.inl h)).setCell _ _ (fun _ => Or.inr rfl)
  refine ⟨hY.keep u' (fun k hk h => ?_), fun k hk h => ?_⟩
  · rcases h with h | h
    · exact hs k (.inr (.inr (by simp [Value.ownBlock, h]))) hk
    · exact hs k (.inl h) hk
  · rcases hk with hk | hk | hk
    · exact hs k (.inl hk) h
    · exact hs k (.inr (.inl hk)) h
    · have hk' : gg = k := by simpa [Value.ownBlock] using hk
      rcases hgg with h' | h'
      · exact hs k (.inr (.inr (by simp [Value.ownBlock]; omega))) h
      · have := hY.fp_lt h; omega

/-- What may have turned from w on: T; and the node's blocks that are old are among what may turn. -/
structure May (w W : World) (T : Nat → Prop) (b : Nat) (ev kv : Value) : Prop where
  upd : Upd T w W
  own : ∀ k, FP b ev kv k → k < w.heap.size → T k

theorem May.ents {w w0 w2 : World} {T : Nat → Prop} {c n1 c1 g1 gg m cap : Nat} {kv : Value} (h : May w w0 T c (.slice (some ⟨g1, 0, none⟩) n1 c1) kv) (u : Upd (fun k => k = g1) w0 w2) (hgg : gg = g1 ∨ w0.heap.size ≤ gg) :
    May w (w2.setCell ⟨c, 1, none⟩ (.slice (some ⟨gg, 0, none⟩) m cap)) T c (.slice (some ⟨gg, 0, none⟩) m cap) kv := by
  have u' : Upd (fun k => k = g1 ∨ k = c) w0 (w2.setCell ⟨c, 1, none⟩ (.slice (some ⟨gg, 0, none⟩) m cap)) := (u.mono (fun i _ h => Or.inl h)).setCell _ _ (fun _ => Or.inr rfl)
  refine ⟨h.upd.then u' (fun k hk hh => ?_), fun k hk hlt => ?_⟩
  · rcases hh with hh | hh
    · exact h.own k (.inr (.inl (by simp [Value.ownBlock, hh]))) hk
    · exact h.own k (.inl hh) hk
  · rcases hk with hk | hk | hk
    · exact h.own k (.inl hk) hlt
    · have hk' : gg = k := by simpa [Value.ownBlock] using hk
      rcases hgg with h' | h'
      · exact h.own k (.inr (.inl (by simp [Value.ownBlock]; omega))) hlt
      · have := h.upd.size; omega
    · exact h.own k (.inr (.inr hk)) hlt

theorem May.kids {w w0 w2 : World} {T : Nat → Prop} {c n1 c1 g1 gg m cap : Nat} {ev : Value} (h : May w w0 T c ev (.slice (some ⟨g1, 0, none⟩) n1 c1)) (u : Upd (fun k => k = g1) w0 w2) (hgg : gg = g1 ∨ w0.heap.size ≤ gg) :
    May w (w2.setCell ⟨c, 2, none⟩ (.slice (some ⟨gg, 0, none⟩) m cap)) T c ev (.slice (some ⟨gg, 0, none⟩) m cap) := by
  have u' : Upd (fun k => k = g1 ∨ k = c) w0 (w2.setCell ⟨c, 2, none⟩ (.slice (some ⟨gg, 0, none⟩) m cap)) := (u.mono (fun i _ h => Or.inl h)).setCell _ _ (fun _ => Or.inr rfl)
  refine ⟨h.upd.then u' (fun k hk hh => ?_), fun k hk hlt => ?_⟩
  · rcases hh with hh | hh
    · exact h.own k (.inr (.inr (by simp [Value.ownBlock, hh]))) hk
    · exact h.own k (.inl hh) hk
  · rcases hk with hk | hk | hk
    · exact h.own k (.inl hk) hlt
    · exact h.own k (.inr (.inl hk)) hlt
    · have hk' : gg = k := by simpa [Value.ownBlock] using hk
      rcases hgg with h' | h'
      · exact h.own k (.inr (.inr (by simp [Value.ownBlock]; omega))) hlt
      · have := h.upd.size; omega

theorem May.moved {w W W' : World} {T : Nat → Prop} {b : Nat} {ev kv : Value} (h : May w W T b ev kv) (u : Upd T w W') : May w W' T b ev kv := ⟨u, h.own⟩

theorem Tree.same {w W : World} {t a : Nat} (h : Tree w t a) (e : W.heap = w.heap) : Tree W t a := by
  obtain ⟨⟨cs, tt, h1⟩, h2⟩ := h
  refine ⟨⟨cs, tt, h1.same e⟩, ?_⟩
  simpa [World.cell?, e] using h2
theorem Lies.same {w W : World} {b : Nat} (h : Lies w b) (e : W.heap = w.heap) : Lies W b := by
  obtain ⟨cs, tt, h⟩ := h
  exact ⟨cs, tt, h.same e⟩
theorem Lies.upd {S : Nat → Prop} {w w' : World} {b : Nat} (h : Lies w b) (u : Upd S w w') (hb : ¬ S b) : Lies w' b := by
  obtain ⟨cs, tt, h⟩ := h
  exact ⟨cs, tt, h.upd u hb⟩

/-- Out of what child leaves: the child's place among what may turn; apart from a node that was apart. -/
theorem ChildAt.split {w w' : World} {e : Ending} {a p op i c oc : Nat} {evp : Value} {esp : List Ent} {kvp : Value} {ksp : List Nat} {evc : Value} {esc : List Ent} {kvc : Value} {innerc : Bool} {ksc : List Nat}
    (h : ChildAt w w' e a p op evp esp kvp ksp i c oc evc esc kvc innerc ksc) (T : Nat → Prop) (hT : ∀ k, kvp.ownBlock = some k → T k) (hTc : oc = a → ∀ k, FP c evc kvc k → T k) :
    ∃ c' evc' kvc', e = .returned (pv c') ∧ NodeAt w' c' a evc' esc kvc' innerc ksc ∧ NodeAt w' p op evp esp kvp true (ksp.set i c') ∧ Upd (fun k => kvp.ownBlock = some k) w w' ∧ May w w' T c' evc' kvc' ∧
      (∀ y oy evy esy kvy iy ksy, NodeAt w y oy evy esy kvy iy ksy → Sep c evc kvc y evy kvy → Sep c' evc' kvc' y evy kvy) ∧ (oc = a → c' = c) := by
  obtain ⟨c', evc', kvc', he, hC, hP, hU, hor⟩ := h
  refine ⟨c', evc', kvc', he, hC, hP, hU, ⟨hU.mono (fun k _ hk => hT k hk), fun k hk hlt => ?_⟩, fun y oy evy esy kvy iy ksy hY hs => ?_, fun hoc => ?_⟩
  · rcases hor with ⟨h1, rfl, rfl, rfl⟩ | ⟨-, hF⟩
    · exact hTc h1 k hk
    · exfalso
      rcases hk with rfl | hk | hk
      · have := hF.1; omega
      · have := hF.2.1 k hk; omega
      · have := hF.2.2 k hk; omega
  · rcases hor with ⟨-, rfl, rfl, rfl⟩ | ⟨-, hF⟩
    · exact hs
    · exact sep_of_from hY hF
  · rcases hor with ⟨-, h, -, -⟩ | ⟨h, -⟩
    · exact h
    · exact absurd hoc h

end Go.Proofs.Qxb6600085a
