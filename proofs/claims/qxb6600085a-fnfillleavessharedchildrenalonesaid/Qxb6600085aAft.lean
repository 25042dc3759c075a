/-
  From what buildFillCase leaves to what fill wants, and what is read behind it.
-/
import Derived.Test.Qxb6600085aCase
import Derived.Test.Qxb6600085aFillF
import Derived.Test.Qxb6600085aInO
namespace Go.Proofs.Qxb6600085a
open Go.RowKit

theorem inord_mem : ∀ (cs : List (List Ent)) (ps : List Ent), ps.length + 1 = cs.length → ∀ c ∈ cs, ∀ x ∈ c, x ∈ inord cs ps
  | [], _, h, _, _, _, _ => by simp at h
  | c :: cs, [], h, c', hc, x, hx => by
    have h0 : cs = [] := List.eq_nil_of_length_eq_zero (by simpa using h.symm)
    subst h0
    have : c' = c := by simpa using hc
    subst this
    exact hx
  | c :: cs, p :: ps, h, c', hc, x, hx => by
    have ih := inord_mem cs ps (by simpa using h)
    rcases List.mem_cons.1 hc with rfl | hc
    · simp [inord, hx]
    · simp [inord, ih c' hc x hx]

section
variable {w0 w W : World} {lab : Nat → Lab} {V : Nat → Value} {L : List Kd} {Y : Nat → List Value} {ps all : List Ent} {p : Nat} {evp kvp : Value} {a b t : Nat} {zs : List Int}

theorem Case.under (h : Case w0 w lab V L Y ps all p evp kvp a b zs) (u : Below w.heap.size w W) : ∃ lab', Case w0 W lab' V L Y ps all p evp kvp a b zs := by
  have m := Moves.below lab .res u
  refine ⟨_, ⟨fun k hk => ?_, h.below.trans (u.mono h.below.size), fun f h1 h6 => (h.row f h1 h6).moves m (fun _ _ hs => hs.elim), fun i hi => (h.kd i hi).moves m (fun _ _ hs => hs.elim), h.par.below u, fun n hn => ?_, h.cont, h.len, h.plen⟩⟩
  · rw [m.lab k (Nat.lt_of_lt_of_le hk h.below.size)]; exact h.old k hk
  · rw [m.lab n (h.par.fp_lt hn)]; exact h.parl n hn

theorem Case.ok (h : Case w0 w lab V L Y ps all p evp kvp a b zs) (hz : ∀ z ∈ zs, 0 ≤ z ∧ z < 256) (i : Nat) (hi : i < L.length) : L[i].k.ok := by
  obtain ⟨z, hz1, -, hes⟩ := h.cont.own i hi
  have := hz z (List.mem_of_getElem? hz1)
  unfold Kid.ok
  omega

theorem kids_mem {q : Kid} (hq : q ∈ L.map Kd.k) : ∃ i, ∃ h : i < L.length, L[i].k = q := by
  obtain ⟨d, hd, rfl⟩ := List.mem_map.1 hq
  obtain ⟨i, hi, rfl⟩ := List.getElem_of_mem hd
  exact ⟨i, hi, rfl⟩

theorem Case.fam (h : Case w0 w lab V L Y ps all p evp kvp a b zs) (hz : ∀ z ∈ zs, 0 ≤ z ∧ z < 256) : Fam w p a evp ps kvp (L.map Kd.k) := by
  refine ⟨?_, fun q hq => ?_, fun q hq => ?_, ?_, by simp [← h.plen], fun q hq => ?_⟩
  · rw [List.map_map]; exact h.par
  · obtain ⟨i, hi, rfl⟩ := kids_mem hq
    exact (h.kd i hi).node
  · obtain ⟨i, hi, rfl⟩ := kids_mem hq
    intro k h1 h2
    have e1 := (h.kd i hi).nl k h1
    rw [h.parl k h2] at e1
    cases e1
  · rw [List.pairwise_iff_getElem]
    intro i j hi hj hij k h1 h2
    simp only [List.length_map] at hi hj
    simp only [List.getElem_map] at h1 h2
    have e1 := (h.kd i hi).nl k h1
    rw [(h.kd j hj).nl k h2] at e1
    simp at e1
    omega
  · obtain ⟨i, hi, rfl⟩ := kids_mem hq
    exact h.ok hz i hi

theorem Case.steady (h : Case w0 w lab V L Y ps all p evp kvp a b zs) (hT : Tree w0 t a) (hb : Lies w0 b) : Steady w t a p evp kvp (L.map Kd.k) := by
  intro W u
  have hB : Below w0.heap.size w0 W := h.below.trans (u.below h.below.size (fun k hk hs => by have := h.parl k hs; rw [h.old k hk] at this; cases this))
  refine ⟨hT.below hB, fun q hq => ?_⟩
  obtain ⟨i, hi, rfl⟩ := kids_mem hq
  obtain ⟨z, -, ho, -⟩ := h.cont.own i hi
  rw [ho]
  split
  · exact hb.below hB
  · exact hT.own.below hB

/-- What a fill may turn bears the label of a node. -/
theorem Case.turns (h : Case w0 w lab V L Y ps all p evp kvp a b zs) {k : Nat} (hk : Turns a p evp kvp (L.map Kd.k) k) : lab k = .par ∨ ∃ i, lab k = .node i := by
  rcases hk with hk | ⟨q, hq, -, hk⟩
  · exact .inl (h.parl k hk)
  · obtain ⟨i, hi, rfl⟩ := kids_mem hq
    exact .inr ⟨i, (h.kd i hi).nl k hk⟩

theorem Case.below' (h : Case w0 w lab V L Y ps all p evp kvp a b zs) (u : Upd (Turns a p evp kvp (L.map Kd.k)) w W) : Below w0.heap.size w0 W :=
  h.below.trans (u.below h.below.size (fun k hk hs => by
    have ho := h.old k hk
    rcases h.turns hs with h1 | ⟨i, h1⟩ <;> rw [ho] at h1 <;> cases h1))

/-- What lies in the rows. -/
structure Rd (W : World) (L : List Kd) (all : List Ent) (zs : List Int) (g1 g2 g3 g4 g5 g6 : Nat) : Prop where
  kids : ∀ i (h : i < L.length), W.cell? ⟨g1, i, none⟩ = some (pv L[i].k.b)
  cl : ∀ i z, i < L.length → zs[i]? = some z → W.cell? ⟨g2, i, none⟩ = some (.bool (isC z))
  ck : ∀ i (h : i < L.length), W.cell? ⟨g3, i, none⟩ = some (.slice (some ⟨L[i].kb, 0, none⟩) L[i].k.es.length L[i].k.es.length)
  cv : ∀ i (h : i < L.length), W.cell? ⟨g4, i, none⟩ = some (.slice (some ⟨L[i].vb, 0, none⟩) L[i].k.es.length L[i].k.es.length)
  al : AllAt W g5 g6 all
  cmp : ∀ i (h : i < L.length), Cmp W (some ⟨L[i].kb, 0, none⟩) (some ⟨L[i].vb, 0, none⟩) none L[i].k.es false []

theorem Rd.same {g1 g2 g3 g4 g5 g6 : Nat} (h : Rd w L all zs g1 g2 g3 g4 g5 g6) (d : Drew w W) : Rd W L all zs g1 g2 g3 g4 g5 g6 := by
  have hc := d.cell
  have hb := d.below w.heap.size
  refine ⟨fun i hi => by rw [hc]; exact h.kids i hi, fun i z hi hz => by rw [hc]; exact h.cl i z hi hz, fun i hi => by rw [hc]; exact h.ck i hi, fun i hi => by rw [hc]; exact h.cv i hi,
    ⟨fun i e he => by rw [hc]; exact h.al.k i e he, fun i e he => by rw [hc]; exact h.al.v i e he, fun e he => (h.al.isB e he).same d.heap⟩, fun i hi => (h.cmp i hi).below hb⟩

/-- The headers of the rows. -/
theorem Case.forms (h : Case w0 w lab V L Y ps all p evp kvp a b zs) (hz : ∀ z ∈ zs, 0 ≤ z ∧ z < 256) (hL : 0 < L.length) : ∃ g1 g2 g3 g4 g5 g6 c1 c2 c3 c4 c5 c6 : Nat,
    (V 1 = .slice (some ⟨g1, 0, none⟩) L.length c1 ∧ V 2 = .slice (some ⟨g2, 0, none⟩) L.length c2 ∧ V 3 = .slice (some ⟨g3, 0, none⟩) L.length c3 ∧ V 4 = .slice (some ⟨g4, 0, none⟩) L.length c4 ∧ V 5 = .slice (some ⟨g5, 0, none⟩) all.length c5 ∧ V 6 = .slice (some ⟨g6, 0, none⟩) all.length c6) ∧
    ∀ (S : Nat → Prop) (W : World), Upd S w W → (∀ k, k < w.heap.size → S k → lab k = .par ∨ ∃ i, lab k = .node i) → Rd W L all zs g1 g2 g3 g4 g5 g6 := by
  have hall : 0 < all.length := by
    rw [h.cont.ord]
    have := (h.ok hz 0 hL).1
    exact inord_pos' _ _ (by simpa using hL) (by simp; omega)
  obtain ⟨g1, c1, e1, k1⟩ := row_form (h.row 1 (by omega) (by omega)) (by rw [h.cont.y1]; simpa using hL)
  obtain ⟨g2, c2, e2, k2⟩ := row_form (h.row 2 (by omega) (by omega)) (by rw [h.cont.y2]; simp [h.len] at hL ⊢; omega)
  obtain ⟨g3, c3, e3, k3⟩ := row_form (h.row 3 (by omega) (by omega)) (by rw [h.cont.y3]; simpa using hL)
  obtain ⟨g4, c4, e4, k4⟩ := row_form (h.row 4 (by omega) (by omega)) (by rw [h.cont.y4]; simpa using hL)
  obtain ⟨g5, c5, e5, k5⟩ := row_form (h.row 5 (by omega) (by omega)) (by rw [h.cont.y5]; simpa [strs] using hall)
  obtain ⟨g6, c6, e6, k6⟩ := row_form (h.row 6 (by omega) (by omega)) (by rw [h.cont.y6]; simpa [vals] using hall)
  refine ⟨g1, g2, g3, g4, g5, g6, c1, c2, c3, c4, c5, c6, ⟨by rw [e1, h.cont.y1]; simp, by rw [e2, h.cont.y2]; simp [h.len], by rw [e3, h.cont.y3]; simp, by rw [e4, h.cont.y4]; simp, by rw [e5, h.cont.y5]; simp [strs], by rw [e6, h.cont.y6]; simp [vals]⟩, fun S W u hS => ?_⟩
  have hB : Below w0.heap.size w0 W := h.below.trans (u.below h.below.size (fun k hk hs => by
    have ho := h.old k hk
    rcases hS k (Nat.lt_of_lt_of_le hk h.below.size) hs with h1 | ⟨i, h1⟩ <;> rw [ho] at h1 <;> cases h1))
  have hkeep : ∀ f g (n c : Nat), 1 ≤ f → f ≤ 6 → V f = .slice (some ⟨g, 0, none⟩) n c → ∀ j v, w.cell? ⟨g, j, none⟩ = some v → W.cell? ⟨g, j, none⟩ = some v := fun f g n c h1 h6 hv j v hc => by
    rw [← hc]
    refine World.cell?_of_block (u.block g (World.block_lt_of_cell? w _ hc) (fun hs => ?_))
    have hl := (h.row f h1 h6).lbl g (by rw [hv]; rfl)
    rcases hS g (World.block_lt_of_cell? w _ hc) hs with h1 | ⟨i, h1⟩ <;> rw [hl] at h1 <;> cases h1
  have hck : ∀ i (hi : i < L.length), At W L[i].kb (strs L[i].k.es) 9 ∧ At W L[i].vb (vals L[i].k.es) 35 := fun i hi => by
    have hd := h.kd i hi
    refine ⟨hd.ks.upd u (fun hs => ?_), hd.vs.upd u (fun hs => ?_)⟩
    · rcases hS _ hd.ks.lt hs with h1 | ⟨j, h1⟩ <;> rw [hd.kl] at h1 <;> cases h1
    · rcases hS _ hd.vs.lt hs with h1 | ⟨j, h1⟩ <;> rw [hd.vl] at h1 <;> cases h1
  have hmem : ∀ i (hi : i < L.length), ∀ x ∈ L[i].k.es, x ∈ all := fun i hi x hx => by
    rw [h.cont.ord]
    exact inord_mem _ _ (by simp [← h.plen]) L[i].k.es (List.mem_map.2 ⟨L[i], List.getElem_mem _, rfl⟩) x hx
  have hisB : ∀ x ∈ all, IsB 0 W (sv x.2) := fun x hx => (h.cont.isb x hx).below hB
  refine ⟨fun i hi => hkeep 1 g1 _ _ (by omega) (by omega) e1 i _ (k1 i _ (by rw [h.cont.y1]; simp [hi])), fun i z hi hzz => hkeep 2 g2 _ _ (by omega) (by omega) e2 i _ (k2 i _ (by rw [h.cont.y2]; simp [hi, hzz])),
    fun i hi => hkeep 3 g3 _ _ (by omega) (by omega) e3 i _ (k3 i _ (by rw [h.cont.y3]; simp [hi])), fun i hi => hkeep 4 g4 _ _ (by omega) (by omega) e4 i _ (k4 i _ (by rw [h.cont.y4]; simp [hi])),
    ⟨fun i x hx => hkeep 5 g5 _ _ (by omega) (by omega) e5 i _ (k5 i _ (by rw [h.cont.y5]; simp [strs, hx])), fun i x hx => hkeep 6 g6 _ _ (by omega) (by omega) e6 i _ (k6 i _ (by rw [h.cont.y6]; simp [vals, hx])), hisB⟩,
    fun i hi => ⟨fun e he => ⟨_, rfl, (hck i hi).1.cell (by simp [strs, he])⟩, fun e he => ⟨_, rfl, (hck i hi).2.cell (by simp [vals, he])⟩, fun e he => hisB _ (hmem i hi _ (List.getElem_mem _)), rfl, fun e he => by simp at he⟩⟩

/-- The clone's leaves stay. -/
theorem Case.clone (h : Case w0 w lab V L Y ps all p evp kvp a b zs) (hab : b ≠ a) (u : Upd (Turns a p evp kvp (L.map Kd.k)) w W) (i : Nat) (hi : i < L.length) (z : Int) (hz : zs[i]? = some z) (hc : isC z = true) : L[i].k.o = b ∧ L[i].k.at W := by
  obtain ⟨z', hz', ho, -⟩ := h.cont.own i hi
  rw [hz] at hz'
  cases hz'
  rw [hc, if_pos rfl] at ho
  refine ⟨ho, NodeAt.keep (h.kd i hi).node u (fun k hk hs => ?_)⟩
  have e1 := (h.kd i hi).nl k hk
  rcases hs with hs | ⟨q, hq, hqo, hs⟩
  · rw [h.parl k hs] at e1; cases e1
  · obtain ⟨j, hj, rfl⟩ := kids_mem hq
    rw [(h.kd j hj).nl k hs] at e1
    cases e1
    exact hab (ho.symm.trans hqo)
end

/-- ZZFill is fill. -/
theorem f16_any (w : World) (t p : Nat) (i : Int) (q : Nat → World → Prop) (h : Calls Try.prog 35 #[pv t, pv p, .int .i64 i] w fun e w' => ∃ r : Nat, e = .returned (.int .i64 r) ∧ q r w') : Calls Try.prog 16 #[pv t, pv p, .int .i64 i] w fun e w' => ∃ r : Nat, e = .returned (.int .i64 r) ∧ q r w' := by
  have H := hide h
  clear h
  go_enter Try.func16, Try.ntmps16
  go_wp2_with fail
  refine H.out.mono ?_
  rintro e w' ⟨r, rfl, hq⟩
  have HQ := hide hq
  clear hq H
  go_wp2
  go_ret
  exact ⟨r, rfl, HQ.out⟩

end Go.Proofs.Qxb6600085a
