/-
  FnMutableCopiesOnlyForeignNodes: the walk.
-/
import Derived.Test.Qxb6600085aCopy
namespace Go.Proofs.Qxb6600085a
open Go.RowKit

/-- A [][]byte that came in. -/
structure ValIn (w : World) (ao : Option Addr) (n : Nat) (A : Nat → Option Addr) (L C : Nat → Nat) : Prop where
  len : n ≤ maxLen
  none : ao = none → n = 0
  row : RowS w ao n A L C
  src : ∀ i, i < n → SrcB w (A i) (L i)

/-- The values, cloned. -/
structure Cloned (w : World) (va : Option Addr) (n : Nat) (vs : List (Option Addr × Nat × Nat)) : Prop where
  len : vs.length = n
  cell : ∀ i (h : i < vs.length), ∃ b, va = some ⟨b, 0, none⟩ ∧ w.cell? ⟨b, i, none⟩ = some (sv vs[i])
  isB : ∀ x ∈ vs, IsB 0 w (sv x)

theorem Cloned.below {w w' : World} {va : Option Addr} {n : Nat} {vs : List (Option Addr × Nat × Nat)} (h : Cloned w va n vs) (u : Below w.heap.size w w') : Cloned w' va n vs :=
  ⟨h.len, fun i hi => by
    obtain ⟨b, hb, hc⟩ := h.cell i hi
    exact ⟨b, hb, by rw [u.cell (World.block_lt_of_cell? w _ hc)]; exact hc⟩, fun x hx => (h.isB x hx).below u⟩

theorem sv_of {lo : Nat} {w : World} {v : Value} (h : IsB lo w v) : ∃ s, v = sv s := by
  obtain ⟨a, n, c, rfl⟩ := h.form
  exact ⟨(a, n, c), rfl⟩

theorem svs_of {lo : Nat} {w : World} : ∀ vs : List Value, (∀ x ∈ vs, IsB lo w x) → ∃ ss : List (Option Addr × Nat × Nat), vs = ss.map sv
  | [], _ => ⟨[], rfl⟩
  | v :: vs, h => by
    obtain ⟨s, hs⟩ := sv_of (h v (by simp))
    obtain ⟨ss, hss⟩ := svs_of vs (fun x hx => h x (by simp [hx]))
    exact ⟨s :: ss, by rw [hs, hss]; rfl⟩

theorem f10_any (w : World) (ao : Option Addr) (n cap : Nat) (A : Nat → Option Addr) (L C : Nat → Nat) (hs : Small n L) (hv : ValIn w ao n A L C) :
    Calls Try.prog 10 #[.slice ao n cap] w fun e w' => ∃ va vc vs, e = .returned (.slice va n vc) ∧ Cloned w' va n vs ∧ Below w.heap.size w w' := by
  cases ao with
  | none =>
    obtain rfl := hv.none rfl
    refine (f10_nil w 0 cap).mono fun e w' ⟨he, hw⟩ => ⟨_, _, [], he, ⟨rfl, fun i hi => by simp at hi, by simp⟩, by subst hw; exact Below.refl _ _⟩
  | some a0 =>
    refine (f10_some w a0 n cap A L C hs hv.row hv.src).mono fun e w' ⟨he, vs, h1, h2, h3, h4⟩ => ?_
    obtain ⟨ss, rfl⟩ := svs_of vs h3
    refine ⟨_, _, ss, he, ⟨by simpa using h1, fun i hi => ⟨_, rfl, h2.cell ?_⟩, fun x hx => (h3 (sv x) (List.mem_map_of_mem hx)).mono (Nat.zero_le _)⟩, h4⟩
    simp [hi]

/-- The keys' row behind k rounds. -/
def KeysInv (w0 wr : World) (n k : Nat) : Prop := ∃ keys : List ByteArray, keys.length = k ∧ At wr w0.heap.size (keys.map Value.string ++ List.replicate (n - k) (.string ⟨#[]⟩)) 9 ∧ Below w0.heap.size w0 wr

theorem row_set {α : Type} (f : α → Value) (z : Value) (xs : List α) (x : α) (n k : Nat) (h1 : xs.length = k) (hk : k < n) : (xs.map f ++ List.replicate (n - k) z).set k (f x) = (xs ++ [x]).map f ++ List.replicate (n - (k + 1)) z := by
  obtain ⟨m, hm⟩ : ∃ m, n - k = m + 1 := ⟨n - k - 1, by omega⟩
  have hm' : n - (k + 1) = m := by omega
  rw [hm, hm', List.replicate_succ, ← h1]
  simp

theorem row_cell {α : Type} (f : α → Value) (z : Value) (xs : List α) (n k : Nat) (h1 : xs.length = k) (hk : k < n) : (xs.map f ++ List.replicate (n - k) z)[k]? = some z := by
  rw [List.getElem?_append_right (by simp; omega), List.getElem?_replicate, if_pos (by simp; omega)]

theorem keys_step {w0 wr w1 : World} {n k : Nat} (s : ByteArray) (h : KeysInv w0 wr n k) (hk : k < n) (hb : Below wr.heap.size wr w1) : KeysInv w0 (w1.setCell ⟨w0.heap.size, k, none⟩ (.string s)) n (k + 1) := by
  obtain ⟨keys, h1, h2, h3⟩ := h
  have h2' := (h2.below hb h2.lt).set k (.string s)
  rw [row_set Value.string _ keys s n k h1 hk] at h2'
  exact ⟨keys ++ [s], by simp [h1], h2', (h3.trans (hb.mono h3.size)).setCell (by simp) _⟩

theorem keys_cell {w0 wr w1 : World} {n k : Nat} (h : KeysInv w0 wr n k) (hk : k < n) (hb : Below wr.heap.size wr w1) : w1.cell? ⟨w0.heap.size, k, none⟩ = some (.string ⟨#[]⟩) ∧ w1.frozen? ⟨w0.heap.size, k, none⟩ = false := by
  obtain ⟨keys, h1, h2, h3⟩ := h
  have h2' := h2.below hb h2.lt
  exact ⟨h2'.cell (row_cell _ _ _ _ _ h1 hk), h2'.frozen _⟩

/-- The children's row behind k rounds. -/
def KidsInv (w0 wr : World) (n k : Nat) : Prop := ∃ ks : List Nat, ks.length = k ∧ At wr w0.heap.size (ks.map pv ++ List.replicate (n - k) (.pointer none)) 32 ∧ Below w0.heap.size w0 wr

theorem kids_step {w0 wr w1 : World} {n k : Nat} (b : Nat) (h : KidsInv w0 wr n k) (hk : k < n) (hb : Below wr.heap.size wr w1) : KidsInv w0 (w1.setCell ⟨w0.heap.size, k, none⟩ (pv b)) n (k + 1) := by
  obtain ⟨keys, h1, h2, h3⟩ := h
  have h2' := (h2.below hb h2.lt).set k (pv b)
  rw [row_set pv _ keys b n k h1 hk] at h2'
  exact ⟨keys ++ [b], by simp [h1], h2', (h3.trans (hb.mono h3.size)).setCell (by simp) _⟩

theorem kids_cell {w0 wr w1 : World} {n k : Nat} (h : KidsInv w0 wr n k) (hk : k < n) (hb : Below wr.heap.size wr w1) : w1.cell? ⟨w0.heap.size, k, none⟩ = some (.pointer none) ∧ w1.frozen? ⟨w0.heap.size, k, none⟩ = false := by
  obtain ⟨keys, h1, h2, h3⟩ := h
  have h2' := h2.below hb h2.lt
  exact ⟨h2'.cell (row_cell _ _ _ _ _ h1 hk), h2'.frozen _⟩

/-- Owner a, tree t of owner a, in memory. -/
structure Tree (w : World) (t a : Nat) : Prop where
  own : Lies w a
  tree : w.cell? ⟨t, 2, none⟩ = some (pv a)

theorem Tree.below {w w' : World} {t a : Nat} (h : Tree w t a) (u : Below w.heap.size w w') : Tree w' t a :=
  ⟨h.own.below u, by rw [u.cell (World.block_lt_of_cell? w _ h.tree)]; exact h.tree⟩

theorem Lies.lt {w : World} {b : Nat} (h : Lies w b) : b < w.heap.size := by
  obtain ⟨cs, t, h⟩ := h
  exact h.lt

theorem f11_new (w : World) : Calls Try.prog 11 #[] w fun e w' => ∃ a, e = .returned (pv a) ∧ w.heap.size ≤ a ∧ Lies w' a ∧ Below w.heap.size w w' :=
  (f11_any w).mono fun e w' ⟨he, hw⟩ => by
    subst hw
    exact ⟨w.heap.size, he, Nat.le_refl _, ⟨_, _, At.new w [.int .u8 0] 59⟩, (Below.refl _ _).alloc (Nat.le_refl _) _⟩

theorem f12_new (w : World) (a : Nat) (ha : Lies w a) : Calls Try.prog 12 #[pv a] w fun e w' => ∃ t, e = .returned (pv t) ∧ Tree w' t a ∧ Below w.heap.size w w' :=
  (f12_any w (some ⟨a, 0, none⟩)).mono fun e w' ⟨he, hw⟩ => by
    subst hw
    have hb : Below w.heap.size w (w.alloc (.cells #[.pointer none, .int .i64 0, pv a] 61)) := (Below.refl _ _).alloc (Nat.le_refl _) _
    exact ⟨w.heap.size, he, ⟨ha.below hb, (At.new w [.pointer none, .int .i64 0, pv a] 61).cell (i := 2) rfl⟩, hb⟩

set_option maxHeartbeats 400000 in
theorem f23_any (w : World) (t b : Nat) (p : Ending → World → Prop) (h : Calls Try.prog 39 #[pv t, pv b] w fun e w' => (∃ c, e = .returned (pv c)) ∧ p e w') : Calls Try.prog 23 #[pv t, pv b] w p := by
  go_enter Try.func23, Try.ntmps23
  go_wp2_with (go_at_call 39; refine h.mono ?_)
  rintro e w' ⟨⟨c, rfl⟩, hp⟩
  have HP := hide hp
  clear hp h
  go_wp2
  exact HP.out

theorem f23_own (w : World) (t b a : Nat) (ev kv : Value) (es : List Ent) (inner : Bool) (ks : List Nat) (hT : Tree w t a) (hN : NodeAt w b a ev es kv inner ks) :
    Calls Try.prog 23 #[pv t, pv b] w fun e w' => e = .returned (pv b) ∧ Drew w w' :=
  f23_any w t b _ ((f39_own w t b a ev kv es inner ks hT.tree hN hT.own).mono fun _ _ ⟨he, hd⟩ => ⟨⟨b, he⟩, he, hd⟩)

theorem f23_other (w : World) (t b o a : Nat) (ev kv : Value) (es : List Ent) (inner : Bool) (ks : List Nat) (hT : Tree w t a) (hN : NodeAt w b o ev es kv inner ks) (lo : Lies w o) (hne : o ≠ a)
    (hes : es.length ≤ 1048576) (hks : ks.length ≤ 1048577) : Calls Try.prog 23 #[pv t, pv b] w fun e w' => NewNode w w' e a es inner ks :=
  f23_any w t b _ ((f39_other w t b o a ev kv es inner ks hT.tree hN lo hT.own hne hes hks).mono fun e w' h => ⟨by obtain ⟨c, -, -, he, -⟩ := h; exact ⟨c, he⟩, h⟩)

theorem f24_yes {w : World} {b o : Nat} {ev : Value} {es : List Ent} {kv : Value} {inner : Bool} {ks : List Nat} (h : NodeAt w b o ev es kv inner ks) (lo : Lies w o) :
    Calls Try.prog 24 #[pv b, pv o] w fun e w' => e = .returned (.bool true) ∧ w' = w :=
  (f24_any o h lo lo).mono fun e w' ⟨he, hw⟩ => ⟨by simpa using he, hw⟩

theorem NodeAt.lies {w : World} {b o : Nat} {ev : Value} {es : List Ent} {kv : Value} {inner : Bool} {ks : List Nat} (h : NodeAt w b o ev es kv inner ks) : Lies w b := ⟨_, _, h.cells⟩

theorem Below.drewOf {w w1 w2 : World} (h : Below w.heap.size w w1) (d : Drew w1 w2) : Below w.heap.size w w2 := h.trans (d.below _)

/-- The keys' row, whole, with the values: entries. -/
theorem ents_of {w0 wr : World} {va : Option Addr} {n : Nat} {vs : List (Option Addr × Nat × Nat)} (hk : KeysInv w0 wr n n) (hc : Cloned w0 va n vs) (hb : Below w0.heap.size w0 wr) :
    ∃ es : List Ent, n = es.length ∧ (∀ i (h : i < es.length), ∃ b, (some ⟨w0.heap.size, 0, none⟩ : Option Addr) = some ⟨b, 0, none⟩ ∧ wr.cell? ⟨b, i, none⟩ = some (.string es[i].1)) ∧
      (∀ i (h : i < es.length), ∃ b, va = some ⟨b, 0, none⟩ ∧ wr.cell? ⟨b, i, none⟩ = some (sv es[i].2)) ∧ ∀ i (h : i < es.length), IsB 0 wr (sv es[i].2) := by
  obtain ⟨keys, h1, h2, -⟩ := hk
  have hc' := hc.below hb
  have hl := hc'.len
  refine ⟨keys.zip vs, by simp [h1, hl], fun i hi => ⟨_, rfl, h2.cell ?_⟩, fun i hi => ?_, fun i hi => ?_⟩
  · have : i < keys.length := by simp [h1, hl] at hi; omega
    simp [this]
  · have hi' : i < vs.length := by simp [h1, hl] at hi; omega
    obtain ⟨b, hb, hcell⟩ := hc'.cell i hi'
    exact ⟨b, hb, by rw [hcell]; simp⟩
  · have hi' : i < vs.length := by simp [h1, hl] at hi; omega
    have := hc'.isB vs[i] (List.getElem_mem _)
    simpa using this

/-- A row of strings, of headers, carried. -/
theorem strs_below {w w' : World} {ka : Option Addr} {es : List Ent} (h : ∀ i (h : i < es.length), ∃ b, ka = some ⟨b, 0, none⟩ ∧ w.cell? ⟨b, i, none⟩ = some (.string es[i].1)) (u : Below w.heap.size w w') :
    ∀ i (h : i < es.length), ∃ b, ka = some ⟨b, 0, none⟩ ∧ w'.cell? ⟨b, i, none⟩ = some (.string es[i].1) := fun i hi => by
  obtain ⟨b, hb, hc⟩ := h i hi
  exact ⟨b, hb, by rw [u.cell (World.block_lt_of_cell? w _ hc)]; exact hc⟩
theorem vals_below {w w' : World} {ka : Option Addr} {es : List Ent} (h : ∀ i (h : i < es.length), ∃ b, ka = some ⟨b, 0, none⟩ ∧ w.cell? ⟨b, i, none⟩ = some (sv es[i].2)) (u : Below w.heap.size w w') :
    ∀ i (h : i < es.length), ∃ b, ka = some ⟨b, 0, none⟩ ∧ w'.cell? ⟨b, i, none⟩ = some (sv es[i].2) := fun i hi => by
  obtain ⟨b, hb, hc⟩ := h i hi
  exact ⟨b, hb, by rw [u.cell (World.block_lt_of_cell? w _ hc)]; exact hc⟩
theorem kids_below {w w' : World} {ka : Option Addr} {ks : List Nat} (h : ∀ i (h : i < ks.length), ∃ b, ka = some ⟨b, 0, none⟩ ∧ w.cell? ⟨b, i, none⟩ = some (pv ks[i])) (u : Below w.heap.size w w') :
    ∀ i (h : i < ks.length), ∃ b, ka = some ⟨b, 0, none⟩ ∧ w'.cell? ⟨b, i, none⟩ = some (pv ks[i]) := fun i hi => by
  obtain ⟨b, hb, hc⟩ := h i hi
  exact ⟨b, hb, by rw [u.cell (World.block_lt_of_cell? w _ hc)]; exact hc⟩
theorem isB_below {w w' : World} {es : List Ent} (h : ∀ i (h : i < es.length), IsB 0 w (sv es[i].2)) (u : Below w.heap.size w w') : ∀ i (h : i < es.length), IsB 0 w' (sv es[i].2) := fun i hi => (h i hi).below u

/-- All that the law's tests read: the keys, the values, the children's row, the owners, the tree. -/
structure Scene (w : World) (t a no : Nat) (ka va kao : Option Addr) (es : List Ent) (inner : Bool) (ks : List Nat) : Prop where
  T : Tree w t a
  no : Lies w no
  k : ∀ i (h : i < es.length), ∃ b, ka = some ⟨b, 0, none⟩ ∧ w.cell? ⟨b, i, none⟩ = some (.string es[i].1)
  v : ∀ i (h : i < es.length), ∃ b, va = some ⟨b, 0, none⟩ ∧ w.cell? ⟨b, i, none⟩ = some (sv es[i].2)
  isB : ∀ i (h : i < es.length), IsB 0 w (sv es[i].2)
  kn : kao.isNone = !inner
  kk : ∀ i (h : i < ks.length), ∃ b, kao = some ⟨b, 0, none⟩ ∧ w.cell? ⟨b, i, none⟩ = some (pv ks[i])

theorem Scene.below {w w' : World} {t a no : Nat} {ka va kao : Option Addr} {es : List Ent} {inner : Bool} {ks : List Nat} (h : Scene w t a no ka va kao es inner ks) (u : Below w.heap.size w w') : Scene w' t a no ka va kao es inner ks :=
  ⟨h.T.below u, h.no.below u, strs_below h.k u, vals_below h.v u, isB_below h.isB u, h.kn, kids_below h.kk u⟩

theorem Scene.drew {w w' : World} {t a no : Nat} {ka va kao : Option Addr} {es : List Ent} {inner : Bool} {ks : List Nat} (h : Scene w t a no ka va kao es inner ks) (d : Drew w w') : Scene w' t a no ka va kao es inner ks :=
  h.below (d.below _)

/-- holdsExactly over a scene. -/
theorem f19_scene {w : World} {t a no b o : Nat} {ka va kao : Option Addr} {es : List Ent} {inner : Bool} {ks : List Nat} {ev kv : Value} (kc vn vc kcap : Nat) (h : Scene w t a no ka va kao es inner ks) (hN : NodeAt w b o ev es kv inner ks)
    (hes : es.length ≤ 1048576) (hks : ks.length ≤ 1048577) (hvn : es.length ≤ vn) :
    Calls Try.prog 19 #[pv b, .slice ka es.length kc, .slice va vn vc, .slice kao ks.length kcap] w fun e w' => e = .returned (.bool true) ∧ Drew w w' :=
  f19_any w 0 b o ev kv ka va kao kc vn vc kcap es ks inner hes hks hvn hN h.k h.v h.isB h.kn h.kk

end Go.Proofs.Qxb6600085a
