/-
  What buildFillCase leaves.
-/
import Derived.Test.Qxb6600085aBst
namespace Go.Proofs.Qxb6600085a
open Go.RowKit

structure Case (w0 w : World) (lab : Nat → Lab) (V : Nat → Value) (L : List Kd) (Y : Nat → List Value) (ps all : List Ent) (p : Nat) (evp kvp : Value) (a b : Nat) (zs : List Int) : Prop where
  old : ∀ k, k < w0.heap.size → lab k = .old
  below : Below w0.heap.size w0 w
  row : ∀ f, 1 ≤ f → f ≤ 6 → Row w lab (.row f) (ety f) (V f) (Y f)
  kd : ∀ i (h : i < L.length), KdAt w lab i L[i]
  par : NodeAt w p a evp ps kvp true (L.map (fun d => d.k.b))
  parl : ∀ n, FP p evp kvp n → lab n = .par
  cont : Cont Y L ps all zs w0 a b
  len : L.length = zs.length
  plen : ps.length + 1 = L.length

def Cased (w0 w : World) (e : Ending) (a b : Nat) (zs : List Int) : Prop :=
  ∃ lab V L Y ps all p evp kvp, e = .returned (.agg #[pv p, V 1, V 2, V 3, V 4, V 5, V 6]) ∧ Case w0 w lab V L Y ps all p evp kvp a b zs

theorem case_of {w0 w w5 W : World} {lab : Nat → Lab} {rb bd : Nat} {V : Nat → Value} {X Y : Nat → List Value} {L : List Kd} {ps all : List Ent} {p : Nat} {evp kvp : Value} {a b : Nat} {zs : List Int} (hB : Bld w0 w lab rb bd V X L) (hY : ∀ f, 1 ≤ f → f ≤ 8 → X f = Y f) (hC : Cont Y L ps all zs w0 a b)
    (hN : NodeAt w5 p a evp ps kvp true (L.map (fun d => d.k.b))) (hF : From w.heap.size p evp kvp) (hb : Below w.heap.size w w5) (hl : L.length = zs.length) (hpl : ps.length + 1 = L.length) (hU : Upd (fun k => k = bd ∨ k = rb) w5 W) :
    Case w0 W (ext lab w .par) V L Y ps all p evp kvp a b zs := by
  have m1 := Moves.below lab .par hb
  have hB5 := hB.other m1 (fun _ _ hs => hs.elim)
  have m2 : Moves (fun k => k = bd ∨ k = rb) w5 W (ext lab w .par) (ext lab w .par) := ⟨hU, fun _ _ => rfl⟩
  have hl2 : ∀ k, (k = bd ∨ k = rb) → ext lab w .par k = .fc ∨ ext lab w .par k = .res := by
    rintro k (rfl | rfl)
    · exact .inl hB5.fcl
    · exact .inr hB5.resl
  have hge : ∀ k, FP p evp kvp k → w.heap.size ≤ k := by
    rintro k (rfl | hk | hk)
    · exact hF.1
    · exact hF.2.1 k hk
    · exact hF.2.2 k hk
  have hlb := hB.fc.lt
  have hlr := hB.res.lt
  refine ⟨hB5.old, hB5.below.trans (hU.below hB5.below.size (fun k hk hs => ?_)), fun f h1 h6 => ?_, fun i hi => (hB5.kd i hi).moves m2 (fun k _ hs => ?_), hN.keep hU (fun k hk hs => ?_), fun n hn => ext_ge (hge n hn), hC, hl, hpl⟩
  · have := hB5.old k hk
    rcases hl2 k hs with h | h <;> rw [h] at this <;> cases this
  · rw [← hY f h1 (by omega)]
    exact (hB5.row f h1 (by omega)).moves m2 (fun k _ hs => by rcases hl2 k hs with h | h <;> rw [h] <;> simp)
  · rcases hl2 k hs with h | h <;> rw [h] <;> simp
  · have := hge k hk
    rcases hs with h | h <;> omega

theorem inord_pos (c : List Ent) (cs : List (List Ent)) (ps : List Ent) (h : 0 < c.length) : 0 < (inord (c :: cs) ps).length := by
  cases ps with
  | nil => exact h
  | cons p ps => simp [inord]; omega

theorem inord_pos' (cs : List (List Ent)) (ps : List Ent) (h : 0 < cs.length) (h0 : 0 < cs[0].length) : 0 < (inord cs ps).length := by
  cases cs with
  | nil => simp at h
  | cons c cs => exact inord_pos c cs ps h0

/-- What the builder's end finds: the rows' headers. -/
theorem row_form {w : World} {lab : Nat → Lab} {l : Lab} {e : Nat} {v : Value} {xs : List Value} (h : Row w lab l e v xs) (hn : 0 < xs.length) : ∃ g c, v = .slice (some ⟨g, 0, none⟩) xs.length c ∧ ∀ j u, xs[j]? = some u → w.cell? ⟨g, j, none⟩ = some u := by
  obtain ⟨g, c, rfl, -, -⟩ := h.own.form hn
  refine ⟨g, c, rfl, fun j u hj => ?_⟩
  have := cells_of_owns h.own ⟨g, 0, none⟩ rfl j u hj
  rw [Addr.add_lit] at this
  simpa using this

end Go.Proofs.Qxb6600085a
