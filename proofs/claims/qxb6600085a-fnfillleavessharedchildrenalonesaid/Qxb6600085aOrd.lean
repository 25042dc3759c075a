/-
  The entries of a parent and of its leaves, in order. No program's text.
-/
import Derived.Test.Qxb6600085aRem
namespace Go.Proofs.Qxb6600085a

def inord : List (List Ent) → List Ent → List Ent
  | c :: cs, p :: ps => c ++ p :: inord cs ps
  | c :: _, [] => c
  | [], _ => []

theorem inord_append : ∀ (A : List (List Ent)) (P : List Ent) (cs : List (List Ent)) (ps : List Ent), A.length = P.length → inord (A ++ cs) (P ++ ps) = inord A P ++ inord cs ps
  | [], [], _, _, _ => rfl
  | [], _ :: _, _, _, h => by simp at h
  | _ :: _, [], _, _, h => by simp at h
  | a :: A, p :: P, cs, ps, h => by
    have ih := inord_append A P cs ps (by simpa using h)
    simp [inord, ih]

theorem inord_head (u y : List Ent) (B : List (List Ent)) (Q : List Ent) : inord ((u ++ y) :: B) Q = u ++ inord (y :: B) Q := by
  cases Q <;> simp [inord]

theorem inord_merge (A B : List (List Ent)) (P Q : List Ent) (x y : List Ent) (p : Ent) (h : A.length = P.length) : inord (A ++ (x ++ p :: y) :: B) (P ++ Q) = inord (A ++ x :: y :: B) (P ++ p :: Q) := by
  rw [inord_append _ _ _ _ h, inord_append _ _ _ _ h]
  have e : x ++ p :: y = (x ++ [p]) ++ y := by simp
  rw [e, inord_head]
  simp [inord]

theorem inord_left (A B : List (List Ent)) (P Q : List Ent) (x y : List Ent) (p l : Ent) (h : A.length = P.length) : inord (A ++ x :: (p :: y) :: B) (P ++ l :: Q) = inord (A ++ (x ++ [l]) :: y :: B) (P ++ p :: Q) := by
  rw [inord_append _ _ _ _ h, inord_append _ _ _ _ h]
  have e : inord ((p :: y) :: B) Q = p :: inord (y :: B) Q := inord_head [p] y B Q
  simp [inord, e]

theorem inord_right (A B : List (List Ent)) (P Q : List Ent) (x y : List Ent) (p r : Ent) (h : A.length = P.length) : inord (A ++ (x ++ [p]) :: y :: B) (P ++ r :: Q) = inord (A ++ x :: (r :: y) :: B) (P ++ p :: Q) := by
  rw [inord_append _ _ _ _ h, inord_append _ _ _ _ h]
  have e : inord ((r :: y) :: B) Q = r :: inord (y :: B) Q := inord_head [r] y B Q
  simp [inord, e]

theorem inord_snoc (cs : List (List Ent)) (ps : List Ent) (c : List Ent) (h : cs.length = ps.length) : inord (cs ++ [c]) ps = inord cs ps ++ c := by
  have := inord_append cs ps [c] [] h
  simpa [inord] using this

theorem inord_snoc2 (cs : List (List Ent)) (ps : List Ent) (c : List Ent) (p : Ent) (h : cs.length = ps.length) : inord (cs ++ [c]) (ps ++ [p]) = inord cs ps ++ c ++ [p] := by
  have := inord_append cs ps [c] [p] h
  simpa [inord] using this

theorem set2 {α : Type} (A B : List α) (x y u v : α) (j : Nat) (h : A.length = j) : ((A ++ x :: y :: B).set j u).set (j + 1) v = A ++ u :: v :: B := by
  subst h; simp

theorem set1 {α : Type} (A B : List α) (x u : α) (j : Nat) (h : A.length = j) : (A ++ x :: B).set j u = A ++ u :: B := by
  subst h; simp

theorem del_at {α : Type} (A B : List α) (x : α) (j : Nat) (h : A.length = j) : del j (A ++ x :: B) = A ++ B := by
  subst h; simp [del]

theorem del2 {α : Type} (A B : List α) (x y u : α) (j : Nat) (h : A.length = j) : del (j + 1) ((A ++ x :: y :: B).set j u) = A ++ u :: B := by
  rw [set1 A (y :: B) x u j h]
  have e : A ++ u :: y :: B = (A ++ [u]) ++ y :: B := by simp
  rw [e, del_at _ _ _ _ (by simp [h])]
  simp

theorem split2 {α : Type} (L : List α) (j : Nat) (h : j + 1 < L.length) : ∃ A x y B, L = A ++ x :: y :: B ∧ A.length = j := by
  refine ⟨L.take j, L[j], L[j + 1], L.drop (j + 2), ?_, by simp; omega⟩
  rw [← List.drop_eq_getElem_cons, ← List.drop_eq_getElem_cons, List.take_append_drop]

theorem split1 {α : Type} (L : List α) (j : Nat) (h : j < L.length) : ∃ A x B, L = A ++ x :: B ∧ A.length = j := by
  refine ⟨L.take j, L[j], L.drop (j + 1), ?_, by simp; omega⟩
  rw [← List.drop_eq_getElem_cons, List.take_append_drop]

end Go.Proofs.Qxb6600085a
