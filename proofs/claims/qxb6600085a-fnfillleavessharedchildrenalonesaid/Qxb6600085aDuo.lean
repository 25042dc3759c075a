/-
  Two leaves under a parent, made the tree's own; the steps of a borrowing.
-/
import Derived.Test.Qxb6600085aFillM
import Derived.Test.Qxb6600085aIns
namespace Go.Proofs.Qxb6600085a
open Go.RowKit

abbrev nilV : Value := .slice none 0 0
/-- A leaf. -/
abbrev LeafAt (w : World) (b o : Nat) (ev : Value) (es : List Ent) : Prop := NodeAt w b o ev es nilV false []

theorem flat_set (es : List Ent) (x : Ent) : ∀ i, i < es.length → ((flat es).set (i * 2) (.string x.1)).set (i * 2 + 1) (sv x.2) = flat (es.set i x) := by
  induction es with
  | nil => intro i h; simp at h
  | cons p es ih =>
    intro i h
    have e : flat (p :: es) = .string p.1 :: sv p.2 :: flat es := rfl
    cases i with
    | zero => rfl
    | succ i =>
      have e1 : (i + 1) * 2 = i * 2 + 1 + 1 := by omega
      have e2 : flat ((p :: es).set (i + 1) x) = .string p.1 :: sv p.2 :: flat (es.set i x) := rfl
      rw [e, e1, e2, ← ih i (by simpa using h)]
      rfl

/-- An entry of a node, replaced in its place. -/
theorem node_entry {w : World} {p o gp n c i : Nat} {ps : List Ent} {kv : Value} {inner : Bool} {ks : List Nat} (hP : NodeAt w p o (.slice (some ⟨gp, 0, none⟩) n c) ps kv inner ks) (hi : i < ps.length) (x : Ent) :
    NodeAt ((w.setCell ⟨gp, i * 2, none⟩ (.string x.1)).setCell ⟨gp, i * 2 + 1, none⟩ (sv x.2)) p o (.slice (some ⟨gp, 0, none⟩) n c) (ps.set i x) kv inner ks := by
  have d1 : gp ≠ p := by simpa [Value.ownBlock] using hP.d1
  have d3 : kv.ownBlock ≠ some gp := by have := hP.d3; simp only [Value.ownBlock] at this; exact fun h => this h.symm
  have u : Upd (fun k => k = gp) w ((w.setCell ⟨gp, i * 2, none⟩ (.string x.1)).setCell ⟨gp, i * 2 + 1, none⟩ (sv x.2)) := ((Upd.refl (fun k => k = gp) w).setCell _ _ (fun _ => rfl)).setCell _ _ (fun _ => rfl)
  obtain ⟨rest, hn, hat, h1, h2, h3, h4, -⟩ := owns_at hP.ents
  subst hn
  have hl := flat_length ps
  refine ⟨hP.cells.upd u (fun h => d1 h.symm), ?_, owns_upd hP.kids u (fun g hg h => d3 (by rw [hg, h])), ?_, hP.knn, hP.d1, hP.d2, hP.d3⟩
  · have hat' := (hat.set (i * 2) (.string x.1)).set (i * 2 + 1) (sv x.2)
    rw [List.set_append_left _ _ (by omega), List.set_append_left _ _ (by rw [List.length_set]; omega), flat_set ps x i hi] at hat'
    rw [List.length_set]
    have hl' := flat_length (ps.set i x)
    rw [List.length_set] at hl'
    exact owns_mk hat' h1 h2 hl' (by omega) (Nat.zero_le _)
  · exact ⟨gp, c, by rw [List.length_set]⟩

/-- The three nodes of a borrowing: both leaves are the tree's own by now. -/
structure Duo (w W : World) (T : Nat → Prop) (a p op : Nat) (evp : Value) (ps : List Ent) (kvp : Value) (ks : List Nat) (x : Nat) (evx : Value) (xs : List Ent) (y : Nat) (evy : Value) (ys : List Ent) : Prop where
  X : LeafAt W x a evx xs
  Y : LeafAt W y a evy ys
  P : NodeAt W p op evp ps kvp true ks
  xp : Sep x evx nilV p evp kvp
  yp : Sep y evy nilV p evp kvp
  xy : Sep x evx nilV y evy nilV
  mx : May w W T x evx nilV
  my : May w W T y evy nilV
  mp : May w W T p evp kvp

section
variable {w W : World} {T : Nat → Prop} {a p op : Nat} {evp : Value} {ps : List Ent} {kvp : Value} {ks : List Nat} {x : Nat} {evx : Value} {xs : List Ent} {y : Nat} {evy : Value} {ys : List Ent}

theorem Duo.same {W' : World} (h : Duo w W T a p op evp ps kvp ks x evx xs y evy ys) (d : Drew W W') : Duo w W' T a p op evp ps kvp ks x evx xs y evy ys :=
  have u := h.mx.upd.trans (Upd.of_below (d.below _))
  ⟨h.X.same d.heap, h.Y.same d.heap, h.P.same d.heap, h.xp, h.yp, h.xy, h.mx.moved u, h.my.moved u, h.mp.moved u⟩

theorem Duo.swap (h : Duo w W T a p op evp ps kvp ks x evx xs y evy ys) : Duo w W T a p op evp ps kvp ks y evy ys x evx xs :=
  ⟨h.Y, h.X, h.P, h.yp, h.xp, h.xy.symm, h.my, h.mx, h.mp⟩

theorem Duo.setY {w2 : World} {g1 n1 c1 gg m cap : Nat} {ys' : List Ent} (h : Duo w W T a p op evp ps kvp ks x evx xs y (.slice (some ⟨g1, 0, none⟩) n1 c1) ys)
    (hown : w2.ownsRow 0 64 2 (.slice (some ⟨gg, 0, none⟩) m cap) m (flat ys')) (hm : ys'.length = m) (u : Upd (fun k => k = g1) W w2) (hgg : gg = g1 ∨ W.heap.size ≤ gg) :
    w2.cell? ⟨y, 1, none⟩ = some (.slice (some ⟨g1, 0, none⟩) n1 c1) ∧ w2.frozen? ⟨y, 1, none⟩ = false ∧
    Duo w (w2.setCell ⟨y, 1, none⟩ (.slice (some ⟨gg, 0, none⟩) m cap)) T a p op evp ps kvp ks x evx xs y (.slice (some ⟨gg, 0, none⟩) m cap) ys' := by
  have d1 : g1 ≠ y := by simpa [Value.ownBlock] using h.Y.d1
  have hc := h.Y.cells.upd u (fun e => d1 e.symm)
  have hX := ents_other (m := m) (cap := cap) h.X h.xy.symm u hgg
  have hP := ents_other (m := m) (cap := cap) h.P h.yp u hgg
  have hm' := h.my.ents (m := m) (cap := cap) u hgg
  exact ⟨hc.cell rfl, hc.frozen 1, node_ents h.Y hown hm u hgg |> fun hY => ⟨hX.1, hY, hP.1, h.xp, hP.2, hX.2.symm, h.mx.moved hm'.upd, hm', h.mp.moved hm'.upd⟩⟩

theorem Duo.setX {w2 : World} {g1 n1 c1 gg m cap : Nat} {xs' : List Ent} (h : Duo w W T a p op evp ps kvp ks x (.slice (some ⟨g1, 0, none⟩) n1 c1) xs y evy ys)
    (hown : w2.ownsRow 0 64 2 (.slice (some ⟨gg, 0, none⟩) m cap) m (flat xs')) (hm : xs'.length = m) (u : Upd (fun k => k = g1) W w2) (hgg : gg = g1 ∨ W.heap.size ≤ gg) :
    w2.cell? ⟨x, 1, none⟩ = some (.slice (some ⟨g1, 0, none⟩) n1 c1) ∧ w2.frozen? ⟨x, 1, none⟩ = false ∧
    Duo w (w2.setCell ⟨x, 1, none⟩ (.slice (some ⟨gg, 0, none⟩) m cap)) T a p op evp ps kvp ks x (.slice (some ⟨gg, 0, none⟩) m cap) xs' y evy ys := by
  obtain ⟨h1, h2, h3⟩ := h.swap.setY hown hm u hgg
  exact ⟨h1, h2, h3.swap⟩

theorem Duo.setP {gp n c i : Nat} (h : Duo w W T a p op (.slice (some ⟨gp, 0, none⟩) n c) ps kvp ks x evx xs y evy ys) (hi : i < ps.length) (s : ByteArray) (A : Option Addr) (L C : Nat) :
    Duo w ((W.setCell ⟨gp, i * 2, none⟩ (.string s)).setCell ⟨gp, i * 2 + 1, none⟩ (.slice A L C)) T a p op (.slice (some ⟨gp, 0, none⟩) n c) (ps.set i (s, A, L, C)) kvp ks x evx xs y evy ys := by
  have u : Upd (fun k => k = gp) W ((W.setCell ⟨gp, i * 2, none⟩ (.string s)).setCell ⟨gp, i * 2 + 1, none⟩ (.slice A L C)) := ((Upd.refl (fun k => k = gp) W).setCell _ _ (fun _ => rfl)).setCell _ _ (fun _ => rfl)
  have hgp : FP p (.slice (some ⟨gp, 0, none⟩) n c) kvp gp := .inr (.inl rfl)
  have U := h.mp.upd.then u (fun k hk he => h.mp.own k (by rw [he]; exact hgp) hk)
  exact ⟨h.X.keep u (fun k hk he => h.xp k hk (by rw [he]; exact hgp)), h.Y.keep u (fun k hk he => h.yp k hk (by rw [he]; exact hgp)), node_entry h.P hi (s, A, L, C), h.xp, h.yp, h.xy, h.mx.moved U, h.my.moved U, h.mp.moved U⟩

/-- Where an entry of a node lies, and that it may be written. -/
theorem entry_cells {gp n c i : Nat} {o : Nat} {inner : Bool} (h : NodeAt W p o (.slice (some ⟨gp, 0, none⟩) n c) ps kvp inner ks) (hi : i < ps.length) (s : ByteArray) (A : Option Addr) (L C : Nat) (he : ps[i] = (s, A, L, C)) :
    W.cell? ⟨gp, i * 2, none⟩ = some (.string s) ∧ W.cell? ⟨gp, i * 2 + 1, none⟩ = some (.slice A L C) ∧ W.frozen? ⟨gp, i * 2, none⟩ = false ∧ W.frozen? ⟨gp, i * 2 + 1, none⟩ = false := by
  obtain ⟨g, c', hv, h1, h2⟩ := h.ecells i hi
  obtain ⟨rest, -, hat, -⟩ := owns_at h.ents
  cases hv
  rw [he] at h1 h2
  exact ⟨h1, h2, hat.frozen _, hat.frozen _⟩
end

/-- Behind the first of two calls of child. -/
structure Mid (w w1 : World) (T : Nat → Prop) (t a p op : Nat) (evp : Value) (ps : List Ent) (kvp : Value) (ks : List Nat) (x0 ox : Nat) (evx : Value) (xs : List Ent) (iy y : Nat) (evy : Value) (ys : List Ent) : Prop where
  Y : LeafAt w1 y a evy ys
  P : NodeAt w1 p op evp ps kvp true (ks.set iy y)
  X : LeafAt w1 x0 ox evx xs
  tree : Tree w1 t a
  lo : Lies w1 ox
  yp : Sep y evy nilV p evp kvp
  xy : Sep x0 evx nilV y evy nilV
  xp : Sep x0 evx nilV p evp kvp
  my : May w w1 T y evy nilV

theorem leaf_seps {b p : Nat} {ev evp kvp : Value} {gk n c : Nat} (hs : Sep b ev nilV p evp kvp) (hk : kvp = .slice (some ⟨gk, 0, none⟩) n c) :
    kvp.ownBlock ≠ some b ∧ ev.ownBlock ≠ kvp.ownBlock ∧ nilV.ownBlock ≠ kvp.ownBlock := by
  subst hk
  refine ⟨fun e => hs b (.inl rfl) (.inr (.inr e)), fun e => hs gk (.inr (.inl e)) (.inr (.inr rfl)), fun e => by cases e⟩

theorem mid_of (w : World) (T : Nat → Prop) (t a p op : Nat) (evp : Value) (ps : List Ent) (kvp : Value) (ks : List Nat) (x0 ox : Nat) (evx : Value) (xs : List Ent) (iy y0 oy : Nat) (evy : Value) (ys : List Ent)
    (hst : ∀ W, Upd (fun k => FP p evp kvp k) w W → Tree W t a ∧ Lies W ox ∧ Lies W oy) (hP : NodeAt w p op evp ps kvp true ks) (hi : iy < ks.length) (hy : ks[iy] = y0) (hX : LeafAt w x0 ox evx xs) (hY : LeafAt w y0 oy evy ys) (hz : ys.length ≤ 1048576)
    (hxp : Sep x0 evx nilV p evp kvp) (hyp : Sep y0 evy nilV p evp kvp) (hxy : Sep x0 evx nilV y0 evy nilV) (hTp : ∀ k, FP p evp kvp k → T k) (hTy : oy = a → ∀ k, FP y0 evy nilV k → T k) :
    Calls Try.prog 44 #[pv t, pv p, .int .i64 iy] w fun e w1 => ∃ y evy', e = .returned (pv y) ∧ Mid w w1 T t a p op evp ps kvp ks x0 ox evx xs iy y evy' ys ∧ (oy = a → y = y0) := by
  obtain ⟨gk, ck, hkv, -⟩ := hP.kcells iy hi
  obtain ⟨s1, s2, s3⟩ := leaf_seps hyp hkv
  have h0 := hst w (Upd.refl _ _)
  refine (f44_any w t a p op iy y0 oy evp ps kvp ks evy ys nilV false [] h0.1 hP hi hy hY h0.2.2 hz (by simp) s1 s2 s3).mono fun e w1 hch => ?_
  obtain ⟨y, evy', kvy', he, q1, q2, q3, q4, q5, q6⟩ := hch.split T (fun k hk => hTp k (.inr (.inr hk))) hTy
  have hkn : kvy' = nilV := by have := q1.knn; simp [KidsV] at this; exact this
  subst hkn
  have h1 := hst w1 (q3.mono (fun k _ hk => .inr (.inr hk)))
  exact ⟨y, evy', he, ⟨q1, q2, hX.keep q3 (fun k hk h => hxp k hk (.inr (.inr h))), h1.1, h1.2.1, q5 _ _ _ _ _ _ _ hP hyp, (q5 _ _ _ _ _ _ _ hX hxy.symm).symm, hxp, q4⟩, q6⟩

theorem duo_of {w w1 : World} {T : Nat → Prop} {t a p op : Nat} {evp : Value} {ps : List Ent} {kvp : Value} {ks : List Nat} {x0 ox : Nat} {evx : Value} {xs : List Ent} {iy y : Nat} {evy : Value} {ys : List Ent}
    (h : Mid w w1 T t a p op evp ps kvp ks x0 ox evx xs iy y evy ys) (ix : Nat) (hi : ix < ks.length) (hne : ix ≠ iy) (hx : ks[ix] = x0) (hz : xs.length ≤ 1048576) (hTp : ∀ k, FP p evp kvp k → T k) (hTx : ox = a → ∀ k, FP x0 evx nilV k → T k) :
    Calls Try.prog 44 #[pv t, pv p, .int .i64 ix] w1 fun e w2 => ∃ x evx', e = .returned (pv x) ∧ Duo w w2 T a p op evp ps kvp ((ks.set iy y).set ix x) x evx' xs y evy ys ∧ (ox = a → x = x0) := by
  obtain ⟨gk, ck, hkv, -⟩ := h.P.kcells ix (by simpa using hi)
  obtain ⟨s1, s2, s3⟩ := leaf_seps h.xp hkv
  refine (f44_any w1 t a p op ix x0 ox evp ps kvp (ks.set iy y) evx xs nilV false [] h.tree h.P (by simpa using hi) (by rw [List.getElem_set_ne (fun e => hne e.symm)]; exact hx) h.X h.lo hz (by simp) s1 s2 s3).mono fun e w2 hch => ?_
  obtain ⟨x, evx', kvx', he, q1, q2, q3, q4, q5, q6⟩ := hch.split T (fun k hk => hTp k (.inr (.inr hk))) hTx
  have hkn : kvx' = nilV := by have := q1.knn; simp [KidsV] at this; exact this
  subst hkn
  have U := h.my.upd.trans q4.upd
  refine ⟨x, evx', he, ⟨q1, h.Y.keep q3 (fun k hk hh => h.yp k hk (.inr (.inr hh))), q2, q5 _ _ _ _ _ _ _ h.P h.xp, h.yp, q5 _ _ _ _ _ _ _ h.Y h.xy, ⟨U, fun k hk hlt => q4.own k hk (Nat.lt_of_lt_of_le hlt h.my.upd.size)⟩, h.my.moved U, ⟨U, fun k hk _ => hTp k hk⟩⟩, q6⟩

theorem upd_alloc_row {wc w2 : World} {gl : Nat} {o : Obj} (hg : (wc.alloc o).drew.grownBy w2 (some gl)) : Upd (fun k => k = gl) wc w2 := by
  have u0 : Upd (fun _ => False) wc (wc.alloc o) := (Upd.refl _ _).alloc o
  exact ⟨hg.os, hg.tape, hg.output, Nat.le_trans u0.size hg.size, fun k hk hn => (hg.block k (Nat.lt_of_lt_of_le hk u0.size) (fun e => hn (by simpa using e))).trans (u0.block k hk (fun h => h))⟩

/-- What a borrowing leaves. -/
def Lent (w w' : World) (T : Nat → Prop) (a p op : Nat) (ps : List Ent) (kvp : Value) (ks : List Nat) (j x0 ox y0 oy : Nat) (xs ys : List Ent) : Prop :=
  ∃ x evx y evy evp, (ox = a → x = x0) ∧ (oy = a → y = y0) ∧ LeafAt w' x a evx xs ∧ LeafAt w' y a evy ys ∧ NodeAt w' p op evp ps kvp true ((ks.set j x).set (j + 1) y) ∧ Upd T w w'

end Go.Proofs.Qxb6600085a
