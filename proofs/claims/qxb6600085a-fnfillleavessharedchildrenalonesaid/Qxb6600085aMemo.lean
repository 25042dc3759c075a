/-
  buildFillCase's memory, packed: what the walk asks of it at each step.
-/
import Derived.Test.Qxb6600085aLab
import Derived.Test.Qxb6600085aFull
namespace Go.Proofs.Qxb6600085a
open Go.RowKit

/-- A piece of memory that appends onto the builder's rows leave alone. -/
def Stable (C : World → (Nat → Lab) → Prop) : Prop :=
  ∀ (S : Nat → Prop) (w w' : World) (lab lab' : Nat → Lab), C w lab → Moves S w w' lab lab' → (∀ k, k < w.heap.size → S k → (∃ f, lab k = .row f) ∨ lab k = .fc) → C w' lab'

def CT (_ : World) (_ : Nat → Lab) : Prop := True
def CC (j gk gv : Nat) (KS VS : List Value) (w : World) (lab : Nat → Lab) : Prop := At w gk KS 9 ∧ At w gv VS 35 ∧ lab gk = .ck j ∧ lab gv = .ck j ∧ gk ≠ gv
def CN (j : Nat) (d : Kd) (w : World) (lab : Nat → Lab) : Prop := KdAt w lab j d

theorem stable_CT : Stable CT := fun _ _ _ _ _ _ _ _ => trivial
theorem stable_CC (j gk gv : Nat) (KS VS : List Value) : Stable (CC j gk gv KS VS) := by
  rintro S w w' lab lab' ⟨h1, h2, h3, h4, h5⟩ m hS
  have hn : ∀ k, k < w.heap.size → lab k = .ck j → ¬ S k := fun k hk hl hs => by
    rcases hS k hk hs with ⟨f, hf⟩ | hf <;> rw [hl] at hf <;> cases hf
  exact ⟨h1.upd m.upd (hn _ h1.lt h3), h2.upd m.upd (hn _ h2.lt h4), by rw [m.lab _ h1.lt]; exact h3, by rw [m.lab _ h2.lt]; exact h4, h5⟩
theorem stable_CN (j : Nat) (d : Kd) : Stable (CN j d) := by
  intro S w w' lab lab' h m hS
  refine KdAt.moves h m (fun k hk hs => ?_)
  rcases hS k hk hs with ⟨f, hf⟩ | hf <;> rw [hf] <;> simp

/-- The builder's memory: rows 7, 8 (in variables) are v7, v8; what the rows hold is Y. -/
def Mem (C : World → (Nat → Lab) → Prop) (w0 w : World) (rb bd : Nat) (v7 v8 : Value) (L : List Kd) (Y : Nat → List Value) : Prop :=
  ∃ lab V X, Bld w0 w lab rb bd V X L ∧ C w lab ∧ V 7 = v7 ∧ V 8 = v8 ∧ ∀ f, 1 ≤ f → f ≤ 8 → X f = Y f

section
variable {C : World → (Nat → Lab) → Prop} {w0 w w' : World} {rb bd : Nat} {v7 v8 : Value} {L : List Kd} {Y : Nat → List Value}

theorem Mem.to (h : Mem C w0 w rb bd v7 v8 L Y) {Y' : Nat → List Value} (he : ∀ f, 1 ≤ f → f ≤ 8 → Y f = Y' f) : Mem C w0 w rb bd v7 v8 L Y' := by
  obtain ⟨lab, V, X, hB, hC, h7, h8, hY⟩ := h
  exact ⟨lab, V, X, hB, hC, h7, h8, fun f h1 h2 => (hY f h1 h2).trans (he f h1 h2)⟩

theorem Mem.below0 (h : Mem C w0 w rb bd v7 v8 L Y) : Below w0.heap.size w0 w := by
  obtain ⟨lab, V, X, hB, -⟩ := h
  exact hB.below

theorem Mem.below (hC : Stable C) (h : Mem C w0 w rb bd v7 v8 L Y) (u : Below w.heap.size w w') : Mem C w0 w' rb bd v7 v8 L Y := by
  obtain ⟨lab, V, X, hB, hc, h7, h8, hY⟩ := h
  have m := Moves.below lab (.ck L.length) u
  exact ⟨_, V, X, hB.other m (fun _ _ hs => hs.elim), hC _ _ _ _ _ hc m (fun _ _ hs => hs.elim), h7, h8, hY⟩

/-- Two new rows for the next leaf. -/
theorem Mem.start {w1 : World} {KS VS : List Value} (h : Mem CT w0 w rb bd v7 v8 L Y) (h1 : At w1 w.heap.size KS 9) (u1 : Below w.heap.size w w1) (h2 : At w' w1.heap.size VS 35) (u2 : Below w1.heap.size w1 w') :
    Mem (CC L.length w.heap.size w1.heap.size KS VS) w0 w' rb bd v7 v8 L Y := by
  obtain ⟨lab, V, X, hB, -, h7, h8, hY⟩ := h
  have u := u1.trans (u2.mono u1.size)
  have m := Moves.below lab (.ck L.length) u
  have hlt := h1.lt
  exact ⟨_, V, X, hB.other m (fun _ _ hs => hs.elim), ⟨h1.below u2 hlt, h2, ext_ge (Nat.le_refl _), ext_ge u1.size, by omega⟩, h7, h8, hY⟩

/-- A store into the keys' row, into the values' row. -/
theorem Mem.setK {j gk gv i : Nat} {KS VS : List Value} (v : Value) (hj : j = L.length) (h : Mem (CC j gk gv KS VS) w0 w rb bd v7 v8 L Y) : Mem (CC j gk gv (KS.set i v) VS) w0 (w.setCell ⟨gk, i, none⟩ v) rb bd v7 v8 L Y := by
  subst hj
  obtain ⟨lab, V, X, hB, ⟨h1, h2, h3, h4, h5⟩, h7, h8, hY⟩ := h
  have m : Moves (fun k => k = gk) w (w.setCell ⟨gk, i, none⟩ v) lab lab := ⟨(Upd.refl (fun k => k = gk) w).setCell _ _ (fun _ => rfl), fun _ _ => rfl⟩
  exact ⟨lab, V, X, hB.other m (fun k _ hs => by rw [hs]; exact h3), ⟨h1.set i v, h2.upd m.upd (fun e => h5 e.symm), h3, h4, h5⟩, h7, h8, hY⟩
theorem Mem.setV {j gk gv i : Nat} {KS VS : List Value} (v : Value) (hj : j = L.length) (h : Mem (CC j gk gv KS VS) w0 w rb bd v7 v8 L Y) : Mem (CC j gk gv KS (VS.set i v)) w0 (w.setCell ⟨gv, i, none⟩ v) rb bd v7 v8 L Y := by
  subst hj
  obtain ⟨lab, V, X, hB, ⟨h1, h2, h3, h4, h5⟩, h7, h8, hY⟩ := h
  have m : Moves (fun k => k = gv) w (w.setCell ⟨gv, i, none⟩ v) lab lab := ⟨(Upd.refl (fun k => k = gv) w).setCell _ _ (fun _ => rfl), fun _ _ => rfl⟩
  exact ⟨lab, V, X, hB.other m (fun k _ hs => by rw [hs]; exact h4), ⟨h1.upd m.upd h5, h2.set i v, h3, h4, h5⟩, h7, h8, hY⟩
theorem Mem.cells {j gk gv : Nat} {KS VS : List Value} (h : Mem (CC j gk gv KS VS) w0 w rb bd v7 v8 L Y) : At w gk KS 9 ∧ At w gv VS 35 := by
  obtain ⟨lab, V, X, hB, ⟨h1, h2, -⟩, -⟩ := h
  exact ⟨h1, h2⟩

/-- An append onto row f of the struct: what it finds, and what it leaves. -/
theorem Mem.app (hC : Stable C) (h : Mem C w0 w rb bd v7 v8 L Y) (f : Nat) (h1 : 1 ≤ f) (h6 : f ≤ 6) :
    ∃ v, w.cell? ⟨bd, f, none⟩ = some v ∧ w.frozen? ⟨bd, f, none⟩ = false ∧ bd < w.heap.size ∧ v.ownBlock ≠ some bd ∧ w.ownsRow 0 (ety f) 1 v (Y f).length (Y f) ∧
      ∀ (w1 : World) (gg cap : Nat) (x : Value), Upd (fun k => v.ownBlock = some k) w w1 → w1.ownsRow 0 (ety f) 1 (.slice (some ⟨gg, 0, none⟩) ((Y f).length + 1) cap) ((Y f).length + 1) (Y f ++ [x]) → (v.ownBlock = some gg ∨ w.heap.size ≤ gg) →
        w1.cell? ⟨bd, f, none⟩ = some v ∧ w1.frozen? ⟨bd, f, none⟩ = false ∧ Mem C w0 (w1.setCell ⟨bd, f, none⟩ (.slice (some ⟨gg, 0, none⟩) ((Y f).length + 1) cap)) rb bd v7 v8 L (put Y f (Y f ++ [x])) := by
  obtain ⟨lab, V, X, hB, hc, h7, h8, hY⟩ := h
  have hr := hB.row f h1 (by omega)
  have hx := hY f h1 (by omega)
  refine ⟨V f, hB.fc.cell (fields_get _ V f h1 h6), hB.fc.frozen f, hB.fc.lt, fun e => ?_, by rw [← hx]; exact hr.own, fun w1 gg cap x u hown hgg => ?_⟩
  · have := hr.lbl _ e; rw [hB.fcl] at this; cases this
  · rw [← hx] at hown ⊢
    obtain ⟨⟨q1, q2⟩, m, hB'⟩ := hB.app f h1 h6 u hown hgg
    refine ⟨q1, q2, _, _, _, hB', hC _ _ _ _ _ hc m (fun k _ hs => ?_), by rw [put_ne _ _ _ (by omega)]; exact h7, by rw [put_ne _ _ _ (by omega)]; exact h8, fun f' h1' h8' => ?_⟩
    · rcases hs with hs | hs
      · exact .inl ⟨f, hs⟩
      · exact .inr hs
    · by_cases he : f' = f
      · subst he; rw [put_same, put_same]
      · rw [put_ne _ _ _ he, put_ne _ _ _ he]; exact hY f' h1' h8'

/-- Of the rows in variables. -/
theorem Mem.app7 (hC : Stable C) (h : Mem C w0 w rb bd v7 v8 L Y) :
    w.ownsRow 0 9 1 v7 (Y 7).length (Y 7) ∧
      ∀ (w1 : World) (gg cap : Nat) (x : Value), Upd (fun k => v7.ownBlock = some k) w w1 → w1.ownsRow 0 9 1 (.slice (some ⟨gg, 0, none⟩) ((Y 7).length + 1) cap) ((Y 7).length + 1) (Y 7 ++ [x]) → (v7.ownBlock = some gg ∨ w.heap.size ≤ gg) →
        Mem C w0 w1 rb bd (.slice (some ⟨gg, 0, none⟩) ((Y 7).length + 1) cap) v8 L (put Y 7 (Y 7 ++ [x])) := by
  obtain ⟨lab, V, X, hB, hc, rfl, h8, hY⟩ := h
  have hr := hB.row 7 (by omega) (by omega)
  have hx := hY 7 (by omega) (by omega)
  refine ⟨by rw [← hx]; exact hr.own, fun w1 gg cap x u hown hgg => ?_⟩
  rw [← hx] at hown ⊢
  obtain ⟨m, hB'⟩ := hB.app7 7 (by omega) (by omega) u hown hgg
  refine ⟨_, _, _, hB', hC _ _ _ _ _ hc m (fun k _ hs => .inl ⟨_, hs⟩), put_same _ _ _, by rw [put_ne _ _ _ (by omega)]; exact h8, fun f' h1' h8' => ?_⟩
  by_cases he : f' = 7
  · subst he; rw [put_same, put_same]
  · rw [put_ne _ _ _ he, put_ne _ _ _ he]; exact hY f' h1' h8'

theorem Mem.app8 (hC : Stable C) (h : Mem C w0 w rb bd v7 v8 L Y) :
    w.ownsRow 0 35 1 v8 (Y 8).length (Y 8) ∧
      ∀ (w1 : World) (gg cap : Nat) (x : Value), Upd (fun k => v8.ownBlock = some k) w w1 → w1.ownsRow 0 35 1 (.slice (some ⟨gg, 0, none⟩) ((Y 8).length + 1) cap) ((Y 8).length + 1) (Y 8 ++ [x]) → (v8.ownBlock = some gg ∨ w.heap.size ≤ gg) →
        Mem C w0 w1 rb bd v7 (.slice (some ⟨gg, 0, none⟩) ((Y 8).length + 1) cap) L (put Y 8 (Y 8 ++ [x])) := by
  obtain ⟨lab, V, X, hB, hc, h7, rfl, hY⟩ := h
  have hr := hB.row 8 (by omega) (by omega)
  have hx := hY 8 (by omega) (by omega)
  refine ⟨by rw [← hx]; exact hr.own, fun w1 gg cap x u hown hgg => ?_⟩
  rw [← hx] at hown ⊢
  obtain ⟨m, hB'⟩ := hB.app7 8 (by omega) (by omega) u hown hgg
  refine ⟨_, _, _, hB', hC _ _ _ _ _ hc m (fun k _ hs => .inl ⟨_, hs⟩), by rw [put_ne _ _ _ (by omega)]; exact h7, put_same _ _ _, fun f' h1' h8' => ?_⟩
  by_cases he : f' = 8
  · subst he; rw [put_same, put_same]
  · rw [put_ne _ _ _ he, put_ne _ _ _ he]; exact hY f' h1' h8'

/-- The leaf itself, made. -/
theorem Mem.node {j gk gv b o : Nat} {ev : Value} {es : List Ent} (hj : j = L.length) (h : Mem (CC j gk gv (strs es) (vals es)) w0 w rb bd v7 v8 L Y) (hN : LeafAt w' b o ev es) (hF : From w.heap.size b ev nilV) (u : Below w.heap.size w w') :
    Mem (CN j ⟨⟨b, o, ev, es⟩, gk, gv⟩) w0 w' rb bd v7 v8 L Y := by
  subst hj
  obtain ⟨lab, V, X, hB, ⟨h1, h2, h3, h4, h5⟩, h7, h8, hY⟩ := h
  have m := Moves.below lab (.node L.length) u
  refine ⟨_, V, X, hB.other m (fun _ _ hs => hs.elim), ⟨hN, fun n hn => ext_ge ?_, h1.below u h1.lt, h2.below u h2.lt, by rw [m.lab _ h1.lt]; exact h3, by rw [m.lab _ h2.lt]; exact h4⟩, h7, h8, hY⟩
  rcases hn with rfl | hn | hn
  · exact hF.1
  · exact hF.2.1 n hn
  · exact hF.2.2 n hn

theorem Mem.snoc {d : Kd} {j : Nat} (hj : j = L.length) (h : Mem (CN j d) w0 w rb bd v7 v8 L Y) : Mem CT w0 w rb bd v7 v8 (L ++ [d]) Y := by
  subst hj
  obtain ⟨lab, V, X, hB, hd, h7, h8, hY⟩ := h
  exact ⟨lab, V, X, hB.snoc hd, trivial, h7, h8, hY⟩
end

end Go.Proofs.Qxb6600085a
