/-
  A parent over leaves, and fill at a child of it.
-/
import Derived.Test.Qxb6600085aDuo
import Derived.Test.Qxb6600085aOrd
namespace Go.Proofs.Qxb6600085a
open Go.RowKit

structure Kid where
  b : Nat
  o : Nat
  ev : Value
  es : List Ent

def Kid.at (k : Kid) (w : World) : Prop := LeafAt w k.b k.o k.ev k.es
def Kid.fp (k : Kid) (n : Nat) : Prop := FP k.b k.ev nilV n
def Kid.ok (k : Kid) : Prop := 15 ≤ k.es.length ∧ k.es.length ≤ 31

structure Fam (w : World) (p op : Nat) (evp : Value) (ps : List Ent) (kvp : Value) (L : List Kid) : Prop where
  par : NodeAt w p op evp ps kvp true (L.map Kid.b)
  kid : ∀ k ∈ L, k.at w
  sepP : ∀ k ∈ L, Sep k.b k.ev nilV p evp kvp
  sep : L.Pairwise (fun k k' => Sep k.b k.ev nilV k'.b k'.ev nilV)
  len : L.length = ps.length + 1
  ok : ∀ k ∈ L, k.ok

/-- What may turn under a fill. -/
def Turns (a p : Nat) (evp kvp : Value) (L : List Kid) (k : Nat) : Prop := FP p evp kvp k ∨ ∃ q ∈ L, q.o = a ∧ q.fp k

/-- What a fill at i leaves: it answers r; the children are M. -/
structure Filled (w w' : World) (a p op : Nat) (evp : Value) (ps : List Ent) (kvp : Value) (L : List Kid) (i r : Nat) (M : List Kid) (qs : List Ent) : Prop where
  par : ∃ evq kvq, NodeAt w' p op evq qs kvq true (M.map Kid.b)
  kid : ∀ k ∈ M, k.at w'
  ord : inord (M.map Kid.es) qs = inord (L.map Kid.es) ps
  len : M.length = qs.length + 1
  ok : ∀ k ∈ M, k.ok
  org : ∀ k ∈ M, k ∈ L ∨ k.o = a
  ans : ∃ kr ki, M[r]? = some kr ∧ L[i]? = some ki ∧ 15 < kr.es.length ∧ (∀ e ∈ ki.es, e ∈ kr.es) ∧ (15 < ki.es.length → M = L ∧ r = i) ∧ (ki.es.length ≤ 15 → kr.o = a)
  cnt : (M.length = L.length ∧ r = i) ∨ (M.length + 1 = L.length ∧ (r = i ∨ (r + 1 = i ∧ i + 1 = L.length)))
  upd : Upd (Turns a p evp kvp L) w w'

/-- Two neighbours of a family. -/
def T2 (a p : Nat) (evp kvp : Value) (x y : Kid) (k : Nat) : Prop := FP p evp kvp k ∨ (x.o = a ∧ x.fp k) ∨ (y.o = a ∧ y.fp k)

section
variable {w w' : World} {a p op : Nat} {evp : Value} {ps : List Ent} {kvp : Value} {A B : List Kid} {x y : Kid}

theorem T2.turns {k : Nat} (h : T2 a p evp kvp x y k) : Turns a p evp kvp (A ++ x :: y :: B) k := by
  rcases h with h | ⟨h1, h2⟩ | ⟨h1, h2⟩
  · exact .inl h
  · exact .inr ⟨x, by simp, h1, h2⟩
  · exact .inr ⟨y, by simp, h1, h2⟩

theorem Fam.xy (h : Fam w p op evp ps kvp (A ++ x :: y :: B)) : Sep x.b x.ev nilV y.b y.ev nilV := by
  have := h.sep
  rw [List.pairwise_append] at this
  have h2 := this.2.1
  rw [List.pairwise_cons] at h2
  exact h2.1 y (by simp)

/-- The others stay. -/
theorem Fam.others (h : Fam w p op evp ps kvp (A ++ x :: y :: B)) (u : Upd (T2 a p evp kvp x y) w w') (k : Kid) (hk : k ∈ A ∨ k ∈ B) : k.at w' := by
  have hs := h.sep
  rw [List.pairwise_append] at hs
  have hL : k ∈ A ++ x :: y :: B := by rcases hk with hk | hk <;> simp [hk]
  have hkx : Sep x.b x.ev nilV k.b k.ev nilV := by
    rcases hk with hk | hk
    · exact (hs.2.2 k hk x (by simp)).symm
    · have h2 := hs.2.1
      rw [List.pairwise_cons] at h2
      exact h2.1 k (by simp [hk])
  have hky : Sep y.b y.ev nilV k.b k.ev nilV := by
    rcases hk with hk | hk
    · exact (hs.2.2 k hk y (by simp)).symm
    · have h2 := hs.2.1
      rw [List.pairwise_cons] at h2
      have h3 := h2.2
      rw [List.pairwise_cons] at h3
      exact h3.1 k hk
  refine (h.kid k hL).keep u (fun n hn ht => ?_)
  rcases ht with ht | ⟨-, ht⟩ | ⟨-, ht⟩
  · exact h.sepP k hL n hn ht
  · exact hkx n ht hn
  · exact hky n ht hn

/-- Two of the children, and the entry between them, turned. -/
theorem filled2 {P Q : List Ent} {pe qe : Ent} {r : Nat} {x' y' ki kr : Kid} (h : Fam w p op evp (P ++ pe :: Q) kvp (A ++ x :: y :: B)) (u : Upd (T2 a p evp kvp x y) w w') {evq kvq : Value} (hP : NodeAt w' p op evq (P ++ qe :: Q) kvq true ((A ++ x' :: y' :: B).map Kid.b))
    (hx : x'.at w') (hy : y'.at w') (hxo : x'.o = a) (hyo : y'.o = a) (okx : x'.ok) (oky : y'.ok) (hord : inord ((A ++ x' :: y' :: B).map Kid.es) (P ++ qe :: Q) = inord ((A ++ x :: y :: B).map Kid.es) (P ++ pe :: Q))
    (hr : (A ++ x' :: y' :: B)[r]? = some kr) (hi : (A ++ x :: y :: B)[r]? = some ki) (hkr : 15 < kr.es.length) (hki : ki.es.length ≤ 15) (hsub : ∀ e ∈ ki.es, e ∈ kr.es) (hro : kr.o = a) :
    Filled w w' a p op evp (P ++ pe :: Q) kvp (A ++ x :: y :: B) r r (A ++ x' :: y' :: B) (P ++ qe :: Q) := by
  have hlen := h.len
  refine ⟨⟨evq, kvq, hP⟩, fun k hk => ?_, hord, ?_, fun k hk => ?_, fun k hk => ?_, ⟨kr, ki, hr, hi, hkr, hsub, fun h15 => by omega, fun _ => hro⟩, .inl ⟨by simp, rfl⟩, u.mono (fun _ _ hk => hk.turns)⟩
  · rcases List.mem_append.1 hk with hk | hk
    · exact h.others u k (.inl hk)
    · rcases List.mem_cons.1 hk with rfl | hk
      · exact hx
      · rcases List.mem_cons.1 hk with rfl | hk
        · exact hy
        · exact h.others u k (.inr hk)
  · simp at hlen ⊢; omega
  · rcases List.mem_append.1 hk with hk | hk
    · exact h.ok k (by simp [hk])
    · rcases List.mem_cons.1 hk with rfl | hk
      · exact okx
      · rcases List.mem_cons.1 hk with rfl | hk
        · exact oky
        · exact h.ok k (by simp [hk])
  · rcases List.mem_append.1 hk with hk | hk
    · exact .inl (by simp [hk])
    · rcases List.mem_cons.1 hk with rfl | hk
      · exact .inr hxo
      · rcases List.mem_cons.1 hk with rfl | hk
        · exact .inr hyo
        · exact .inl (by simp [hk])

/-- Two of the children and the entry between them made one. -/
theorem filled1 {P Q : List Ent} {pe : Ent} {i r : Nat} {x' ki : Kid} (h : Fam w p op evp (P ++ pe :: Q) kvp (A ++ x :: y :: B)) (u : Upd (T2 a p evp kvp x y) w w') {evq kvq : Value} (hP : NodeAt w' p op evq (P ++ Q) kvq true ((A ++ x' :: B).map Kid.b))
    (hx : x'.at w') (hxo : x'.o = a) (hPA : P.length = A.length) (hes : x'.es = x.es ++ pe :: y.es) (hx15 : x.es.length ≤ 15) (hy15 : y.es.length ≤ 15) (hr : A.length = r)
    (hi : (A ++ x :: y :: B)[i]? = some ki) (hki : ki = x ∨ ki = y) (hir : r = i ∨ (r + 1 = i ∧ i + 1 = (A ++ x :: y :: B).length)) :
    Filled w w' a p op evp (P ++ pe :: Q) kvp (A ++ x :: y :: B) i r (A ++ x' :: B) (P ++ Q) := by
  have hlen := h.len
  have okx := h.ok x (by simp)
  have oky := h.ok y (by simp)
  unfold Kid.ok at okx oky
  have hl : x'.es.length = 31 := by rw [hes]; simp; omega
  refine ⟨⟨evq, kvq, hP⟩, fun k hk => ?_, ?_, ?_, fun k hk => ?_, fun k hk => ?_, ⟨x', ki, ?_, hi, by omega, fun e he => ?_, fun h15 => ?_, fun _ => hxo⟩, .inr ⟨by simp; omega, hir⟩, u.mono (fun _ _ hk => hk.turns)⟩
  · rcases List.mem_append.1 hk with hk | hk
    · exact h.others u k (.inl hk)
    · rcases List.mem_cons.1 hk with rfl | hk
      · exact hx
      · exact h.others u k (.inr hk)
  · have := inord_merge (A.map Kid.es) (B.map Kid.es) P Q x.es y.es pe (by simp [hPA])
    simpa [hes] using this
  · simp at hlen ⊢; omega
  · rcases List.mem_append.1 hk with hk | hk
    · exact h.ok k (by simp [hk])
    · rcases List.mem_cons.1 hk with rfl | hk
      · exact ⟨by omega, by omega⟩
      · exact h.ok k (by simp [hk])
  · rcases List.mem_append.1 hk with hk | hk
    · exact .inl (by simp [hk])
    · rcases List.mem_cons.1 hk with rfl | hk
      · exact .inr hxo
      · exact .inl (by simp [hk])
  · subst hr; simp
  · rw [hes]
    rcases hki with rfl | rfl
    · simp [he]
    · simp [he]
  · rcases hki with rfl | rfl <;> omega
end

end Go.Proofs.Qxb6600085a
