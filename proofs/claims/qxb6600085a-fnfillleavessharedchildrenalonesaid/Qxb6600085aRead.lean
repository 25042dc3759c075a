/-
  What reads a node: ZZLen, ZZNumChildren, ZZChild, ZZKey, ZZValue, ZZIsLeaf, ZZOwnedBy; sameBytes; holdsExactly.
-/
import Derived.Test.Qxb6600085aNode
import Derived.LaidEqlPtr
import Derived.Lib.Builder
namespace Go.Proofs.Qxb6600085a
open Go.RowKit

/-- Block b holds cells. -/
def Lies (w : World) (b : Nat) : Prop := ∃ cs t, At w b cs t
theorem Lies.below {w w' : World} {b : Nat} (h : Lies w b) (u : Below w.heap.size w w') : Lies w' b := by
  obtain ⟨cs, t, h⟩ := h
  exact ⟨cs, t, h.below u h.lt⟩

theorem run_eql_pv {w : World} {a b tp te : Nat} {j : TypeInfo} (hp : Try.prog.underlying tp = some (.pointer te)) (hte : Try.prog.info? te = some j) (hsz : j.size ≠ 0) (ha : Lies w a) (hb : Lies w b) :
    (binOp .eql tp (pv a) (pv b)).run Try.prog w = .ok (.bool (decide (a = b))) w := by
  by_cases h : a = b
  · subst h
    simpa using run_eql_ptr_same w ⟨a, 0, none⟩ hp hte
  · obtain ⟨ca, ta, ha⟩ := ha
    obtain ⟨cb, tb, hb⟩ := hb
    simpa [h] using run_eql_ptr_other w (a := ⟨a, 0, none⟩) (b := ⟨b, 0, none⟩) hp hte hsz (fun e => h (by cases e; rfl)) ha hb

theorem info59 : (Try.prog.info? 59).map (fun i => (i.zero, i.size, i.bytes)) = some (some (.agg #[.int .u8 0]), 1, 1) := by kernel_rfl
theorem info69 : (Try.prog.info? 69).map (fun i => (i.zero, i.size, i.bytes)) = some (some (.agg #[.pointer none, .slice none 0 0, .slice none 0 0]), 3, 56) := by kernel_rfl

theorem eql_owner {w : World} {a b : Nat} (ha : Lies w a) (hb : Lies w b) : (binOp .eql 26 (pv a) (pv b)).run Try.prog w = .ok (.bool (decide (a = b))) w := by
  obtain ⟨i0, hi0, hz0, hz1, hz2⟩ := info_parts info59
  exact run_eql_pv Try.underlying26 hi0 (by rw [hz1]; decide) ha hb

theorem eql_node {w : World} {a b : Nat} (ha : Lies w a) (hb : Lies w b) : (binOp .eql 32 (pv a) (pv b)).run Try.prog w = .ok (.bool (decide (a = b))) w := by
  obtain ⟨i0, hi0, hz0, hz1, hz2⟩ := info_parts info69
  exact run_eql_pv Try.underlying32 hi0 (by rw [hz1]; decide) ha hb

theorem neq_node_same {w : World} (a : Nat) : (binOp .neq 32 (pv a) (pv a)).run Try.prog w = .ok (.bool false) w := by
  obtain ⟨i0, hi0, hz0, hz1, hz2⟩ := info_parts info69
  exact Lib.run_neq_ptr_same (tp := 32) (te := 69) w ⟨a, 0, none⟩ Try.underlying32 hi0

section
variable {w : World} {b o : Nat} {ev : Value} {es : List Ent} {kv : Value} {inner : Bool} {ks : List Nat}

theorem NodeAt.cell0 (h : NodeAt w b o ev es kv inner ks) : w.cell? ⟨b, 0, none⟩ = some (pv o) := h.cells.cell rfl
theorem NodeAt.cell1 (h : NodeAt w b o ev es kv inner ks) : w.cell? ⟨b, 1, none⟩ = some ev := h.cells.cell rfl
theorem NodeAt.cell2 (h : NodeAt w b o ev es kv inner ks) : w.cell? ⟨b, 2, none⟩ = some kv := h.cells.cell rfl

/-- The children's slice has the form of a slice as long as ks, nil just in a leaf. -/
theorem NodeAt.kform (h : NodeAt w b o ev es kv inner ks) : ∃ ao c, kv = .slice ao ks.length c ∧ ao.isNone = !inner := by
  have := h.knn
  unfold KidsV at this
  cases inner with
  | true =>
    obtain ⟨g, c, rfl⟩ : ∃ g c, kv = .slice (some ⟨g, 0, none⟩) ks.length c := by simpa using this
    exact ⟨_, _, rfl, rfl⟩
  | false =>
    obtain ⟨rfl, rfl⟩ : kv = .slice none 0 0 ∧ ks = [] := by simpa using this
    exact ⟨_, _, rfl, rfl⟩

set_option maxHeartbeats 400000 in
theorem f17_any (h : NodeAt w b o ev es kv inner ks) : Calls Try.prog 17 #[pv b] w fun e w' => e = .returned (.int .i64 es.length) ∧ w' = w := by
  have c1 := h.cell1
  obtain ⟨g, c, rfl⟩ := h.enn
  clear h
  go_enter Try.func17, Try.ntmps17
  go_wp2
  go_ret
  exact ⟨rfl, rfl⟩

set_option maxHeartbeats 400000 in
theorem f18_any (h : NodeAt w b o ev es kv inner ks) : Calls Try.prog 18 #[pv b] w fun e w' => e = .returned (.int .i64 ks.length) ∧ w' = w := by
  have c1 := h.cell2
  obtain ⟨ao, c, rfl, -⟩ := h.kform
  clear h
  go_enter Try.func18, Try.ntmps18
  go_wp2
  go_ret
  exact ⟨rfl, rfl⟩

set_option maxHeartbeats 400000 in
theorem f30_any (h : NodeAt w b o ev es kv inner ks) : Calls Try.prog 30 #[pv b] w fun e w' => e = .returned (.bool (!inner)) ∧ w' = w := by
  have c1 := h.cell2
  obtain ⟨ao, c, rfl, hi⟩ := h.kform
  have h1 := fun w => Lib.run_eql_slice_nil (P := Try.prog) w 31 32 ao ks.length c 0 0 Try.underlying31
  rw [hi] at h1
  clear h hi
  go_enter Try.func30, Try.ntmps30
  go_wp2
  go_ret
  exact ⟨rfl, rfl⟩

set_option maxHeartbeats 400000 in
theorem f24_any (o' : Nat) (h : NodeAt w b o ev es kv inner ks) (lo : Lies w o) (lo' : Lies w o') : Calls Try.prog 24 #[pv b, pv o'] w fun e w' => e = .returned (.bool (decide (o = o'))) ∧ w' = w := by
  have c1 := h.cell0
  have h1 := eql_owner lo lo'
  clear h lo lo'
  go_enter Try.func24, Try.ntmps24
  go_wp2
  go_ret
  exact ⟨rfl, rfl⟩

theorem flat_get (es : List Ent) (i : Nat) (h : i < es.length) : (flat es)[i * 2]? = some (.string es[i].1) ∧ (flat es)[i * 2 + 1]? = some (sv es[i].2) := by
  induction es generalizing i with
  | nil => simp at h
  | cons p es ih =>
    have e : flat (p :: es) = .string p.1 :: sv p.2 :: flat es := rfl
    rw [e]
    cases i with
    | zero => simp
    | succ i =>
      have := ih i (by simpa using h)
      have e1 : (i + 1) * 2 = i * 2 + 1 + 1 := by omega
      rw [e1]
      simpa using this

theorem NodeAt.ecells (h : NodeAt w b o ev es kv inner ks) (i : Nat) (hi : i < es.length) : ∃ g c, ev = .slice (some ⟨g, 0, none⟩) es.length c ∧ w.cell? ⟨g, i * 2, none⟩ = some (.string es[i].1) ∧ w.cell? ⟨g, i * 2 + 1, none⟩ = some (sv es[i].2) := by
  obtain ⟨g, c, rfl⟩ := h.enn
  obtain ⟨rest, -, hat, -, -, hl, -, -⟩ := owns_at h.ents
  have hf := flat_get es i hi
  have h1 : i * 2 < (flat es).length := by rw [flat_length]; omega
  have h2 : i * 2 + 1 < (flat es).length := by rw [flat_length]; omega
  exact ⟨g, c, rfl, hat.cell (by rw [List.getElem?_append_left h1]; exact hf.1), hat.cell (by rw [List.getElem?_append_left h2]; exact hf.2)⟩

theorem NodeAt.kcells (h : NodeAt w b o ev es kv inner ks) (i : Nat) (hi : i < ks.length) : ∃ g c, kv = .slice (some ⟨g, 0, none⟩) ks.length c ∧ w.cell? ⟨g, i, none⟩ = some (pv ks[i]) := by
  rcases h.kids.2 with ⟨-, h0⟩ | ⟨g, c, cur, hv, -⟩
  · omega
  · have hk := h.kids
    rw [hv] at hk
    obtain ⟨rest, -, hat, -, -, hl, -, -⟩ := owns_at hk
    exact ⟨g, c, hv, hat.cell (by rw [List.getElem?_append_left (by simpa using hi)]; simp)⟩

set_option maxHeartbeats 400000 in
theorem f36_any (h : NodeAt w b o ev es kv inner ks) (i : Nat) (hi : i < es.length) : Calls Try.prog 36 #[pv b, .int .i64 i] w fun e w' => e = .returned (.string es[i].1) ∧ w' = w := by
  have c1 := h.cell1
  obtain ⟨g, c, rfl, h1, h2⟩ := h.ecells i hi
  clear h
  go_enter Try.func36, Try.ntmps36
  go_wp2
  go_ret
  exact ⟨rfl, rfl⟩

set_option maxHeartbeats 400000 in
theorem f38_any (h : NodeAt w b o ev es kv inner ks) (i : Nat) (hi : i < es.length) : Calls Try.prog 38 #[pv b, .int .i64 i] w fun e w' => e = .returned (sv es[i].2) ∧ w' = w := by
  have c1 := h.cell1
  obtain ⟨g, c, rfl, h1, h2⟩ := h.ecells i hi
  clear h
  go_enter Try.func38, Try.ntmps38
  go_wp2
  go_ret
  exact ⟨rfl, rfl⟩

set_option maxHeartbeats 400000 in
theorem f20_any (h : NodeAt w b o ev es kv inner ks) (i : Nat) (hi : i < ks.length) : Calls Try.prog 20 #[pv b, .int .i64 i] w fun e w' => e = .returned (pv ks[i]) ∧ w' = w := by
  have c1 := h.cell2
  obtain ⟨g, c, rfl, h1⟩ := h.kcells i hi
  clear h
  go_enter Try.func20, Try.ntmps20
  go_wp2
  go_ret
  exact ⟨rfl, rfl⟩

end
end Go.Proofs.Qxb6600085a
