/-
  ZZSplit; cyclic; fullNode.
-/
import Derived.Test.Qxb6600085aSplitI
namespace Go.Proofs.Qxb6600085a
open Go.RowKit

/-- What ZZSplit leaves. -/
def SplitZ (w w' : World) (e : Ending) (b a a' : Nat) (ev kv : Value) (es : List Ent) (inner : Bool) (ks : List Nat) : Prop :=
  ∃ s x r ev1 kv1 evr kvr, e = .returned (.tuple #[.string s, sv x, pv r]) ∧ es[15]? = some (s, x) ∧ NodeAt w' b a ev1 (es.take 15) kv1 inner (ks.take 16) ∧ NodeAt w' r a' evr (es.drop 16) kvr inner (ks.drop 16) ∧
    ev1.ownBlock = ev.ownBlock ∧ kv1.ownBlock = kv.ownBlock ∧ From w.heap.size r evr kvr ∧ Upd (fun k => k = b ∨ ev.ownBlock = some k ∨ kv.ownBlock = some k) w w'

set_option maxHeartbeats 400000 in
theorem f14_of (w : World) (t b a a' : Nat) (ev kv : Value) (es : List Ent) (inner : Bool) (ks : List Nat) (h : Calls Try.prog 34 #[pv t, pv b] w fun e w' => SplitAt w w' e b a a' ev kv es inner ks) :
    Calls Try.prog 14 #[pv t, pv b] w fun e w' => SplitZ w w' e b a a' ev kv es inner ks := by
  go_enter Try.func14, Try.ntmps14
  go_wp2_with (go_at_call 34; refine h.mono ?_)
  rintro e w1 ⟨s, x, r, ev1, kv1, evr, kvr, rfl, h1, h2, h3, h4, h5, h6, h7⟩
  obtain ⟨A, L, C⟩ := x
  clear h
  have hb : Below w1.heap.size w1 (w1.alloc (.cells #[.string s, .slice A L C] 64)) := (Below.refl _ _).alloc (Nat.le_refl _) _
  have HF : Hid (SplitZ w (w1.alloc (.cells #[.string s, .slice A L C] 64)) (.returned (.tuple #[.string s, .slice A L C, pv r])) b a a' ev kv es inner ks) :=
    ⟨s, (A, L, C), r, ev1, kv1, evr, kvr, rfl, h1, h2.below hb, h3.below hb, h4, h5, h6, h7.alloc _⟩
  clear h1 h2 h3 h4 h5 h6 h7 hb
  go_wp2
  go_quiet (fail)
  go_wp2
  go_ret3
  obtain ⟨s, x, r, ev1, kv1, evr, kvr, he, h1, h2, h3, h4, h5, h6, h7⟩ := HF.out
  exact ⟨s, x, r, ev1, kv1, evr, kvr, he, h1, h2.same rfl, h3.same rfl, h4, h5, h6, h7.drewN _⟩

theorem f14_any (w : World) (t b a a' : Nat) (ev kv : Value) (es : List Ent) (inner : Bool) (ks : List Nat) (hT : Tree w t a') (hN : NodeAt w b a ev es kv inner ks) (hes : es.length = 31) (hks : inner = true → ks.length = 32) :
    Calls Try.prog 14 #[pv t, pv b] w fun e w' => SplitZ w w' e b a a' ev kv es inner ks := by
  refine f14_of w t b a a' ev kv es inner ks ?_
  cases inner with
  | true => exact f34_inner w t b a a' ev kv es ks hT hN hes (hks rfl)
  | false =>
    obtain ⟨-, rfl⟩ : kv = .slice none 0 0 ∧ ks = [] := by simpa [KidsV] using hN.knn
    exact f34_leaf w t b a a' ev kv es hT hN hes

set_option maxHeartbeats 400000 in
theorem f33_zero (w : World) (va : Option Addr) (vc : Nat) (g : Int) : Calls Try.prog 33 #[.slice va 0 vc, .int .i64 g] w fun e w' => e = .returned (.slice none 0 0) ∧ w' = w := by
  go_enter Try.func33, Try.ntmps33
  go_wp2
  go_ret
  exact ⟨rfl, rfl⟩

set_option maxHeartbeats 400000 in
theorem f33_pos (w : World) (b n vc g : Nat) (x : Option Addr × Nat × Nat) (hn : 0 < n) (hn1 : n ≤ 1048576) (hg : g ≤ 1048576) (hc : w.cell? ⟨b, g % n, none⟩ = some (sv x)) : Calls Try.prog 33 #[.slice (some ⟨b, 0, none⟩) n vc, .int .i64 g] w fun e w' => e = .returned (sv x) ∧ w' = w := by
  have h0 : ((n : Int) == 0) = false := by rw [beq_eq_false_iff_ne]; omega
  have hm : g % n < n := Nat.mod_lt _ hn
  have hlt : ((g : Int) % (n : Int)) < (n : Int) := by omega
  have hge : 0 ≤ ((g : Int) % (n : Int)) := by omega
  have he : ((g : Int) % (n : Int)).toNat = g % n := by omega
  have hn' : (1 : Int) ≤ (n : Int) := by omega
  go_enter Try.func33, Try.ntmps33
  go_wp2
  go_ret
  exact ⟨rfl, rfl⟩

theorem f33_any {w : World} {va : Option Addr} {n : Nat} {vs : List (Option Addr × Nat × Nat)} (hcl : Cloned w va n vs) (vc g : Nat) (hn1 : n ≤ 1048576) (hg : g ≤ 1048576) :
    Calls Try.prog 33 #[.slice va n vc, .int .i64 g] w fun e w' => (∃ x, e = .returned (sv x) ∧ (x = (none, 0, 0) ∨ x ∈ vs)) ∧ w' = w := by
  by_cases hn : n = 0
  · subst hn
    exact (f33_zero w va vc g).mono fun e w' ⟨he, hw⟩ => ⟨⟨(none, 0, 0), he, .inl rfl⟩, hw⟩
  · have hm : g % n < vs.length := by rw [hcl.len]; exact Nat.mod_lt _ (by omega)
    obtain ⟨b, rfl, hc⟩ := hcl.cell (g % n) hm
    exact (f33_pos w b n vc g _ (by omega) hn1 hg hc).mono fun e w' ⟨he, hw⟩ => ⟨⟨_, he, .inr (List.getElem_mem _)⟩, hw⟩

theorem Cloned.cyc {w : World} {va : Option Addr} {n : Nat} {vs : List (Option Addr × Nat × Nat)} (hcl : Cloned w va n vs) {x : Option Addr × Nat × Nat} (h : x = (none, 0, 0) ∨ x ∈ vs) : IsB 0 w (sv x) := by
  rcases h with rfl | h
  · exact .inl rfl
  · exact hcl.isB x h

/-- What holdsExactly compares with. -/
structure Cmp (w : World) (ka va kao : Option Addr) (es : List Ent) (inner : Bool) (ks : List Nat) : Prop where
  k : ∀ i (h : i < es.length), ∃ b, ka = some ⟨b, 0, none⟩ ∧ w.cell? ⟨b, i, none⟩ = some (.string es[i].1)
  v : ∀ i (h : i < es.length), ∃ b, va = some ⟨b, 0, none⟩ ∧ w.cell? ⟨b, i, none⟩ = some (sv es[i].2)
  isB : ∀ i (h : i < es.length), IsB 0 w (sv es[i].2)
  kn : kao.isNone = !inner
  kk : ∀ i (h : i < ks.length), ∃ b, kao = some ⟨b, 0, none⟩ ∧ w.cell? ⟨b, i, none⟩ = some (pv ks[i])

theorem Cmp.below {w w' : World} {ka va kao : Option Addr} {es : List Ent} {inner : Bool} {ks : List Nat} (h : Cmp w ka va kao es inner ks) (u : Below w.heap.size w w') : Cmp w' ka va kao es inner ks :=
  ⟨strs_below h.k u, vals_below h.v u, isB_below h.isB u, h.kn, kids_below h.kk u⟩

theorem f19_cmp {w : World} {b o : Nat} {ka va kao : Option Addr} {es : List Ent} {inner : Bool} {ks : List Nat} {ev kv : Value} (kc vn vc kcap : Nat) (h : Cmp w ka va kao es inner ks) (hN : NodeAt w b o ev es kv inner ks)
    (hes : es.length ≤ 1048576) (hks : ks.length ≤ 1048577) (hvn : es.length ≤ vn) :
    Calls Try.prog 19 #[pv b, .slice ka es.length kc, .slice va vn vc, .slice kao ks.length kcap] w fun e w' => e = .returned (.bool true) ∧ Drew w w' :=
  f19_any w 0 b o ev kv ka va kao kc vn vc kcap es ks inner hes hks hvn hN h.k h.v h.isB h.kn h.kk

/-- fullNode behind k rounds of its first loop: the keys' row at g1, the values' at g2. -/
def FullInv (w0 wr : World) (g1 g2 k : Nat) : Prop :=
  ∃ (keys : List ByteArray) (xs : List (Option Addr × Nat × Nat)), keys.length = k ∧ xs.length = k ∧ At wr g1 (keys.map Value.string ++ List.replicate (31 - k) (.string ⟨#[]⟩)) 9 ∧ At wr g2 (xs.map sv ++ List.replicate (31 - k) (.slice none 0 0)) 35 ∧
    (∀ x ∈ xs, IsB 0 w0 (sv x)) ∧ Below w0.heap.size w0 wr ∧ w0.heap.size ≤ g1 ∧ w0.heap.size ≤ g2 ∧ g1 ≠ g2

theorem full_key {w0 wr w1 : World} {g1 g2 k : Nat} (h : FullInv w0 wr g1 g2 k) (hk : k < 31) (hb : Below wr.heap.size wr w1) :
    w1.cell? ⟨g1, k, none⟩ = some (.string ⟨#[]⟩) ∧ w1.frozen? ⟨g1, k, none⟩ = false := by
  obtain ⟨keys, xs, h1, h2, h3, -⟩ := h
  have h3' := h3.below hb h3.lt
  exact ⟨h3'.cell (row_cell _ _ _ _ _ h1 hk), h3'.frozen _⟩

/-- .. the cell of the values' row, and what is below, behind the key's store. -/
theorem full_val {w0 wr w1 : World} {g1 g2 k : Nat} (s : ByteArray) (h : FullInv w0 wr g1 g2 k) (hk : k < 31) (hb : Below wr.heap.size wr w1) :
    (w1.setCell ⟨g1, k, none⟩ (.string s)).cell? ⟨g2, k, none⟩ = some (.slice none 0 0) ∧ (w1.setCell ⟨g1, k, none⟩ (.string s)).frozen? ⟨g2, k, none⟩ = false ∧ Below w0.heap.size w0 (w1.setCell ⟨g1, k, none⟩ (.string s)) := by
  obtain ⟨keys, xs, h1, h2, h3, h4, h5, h6, h7, h8, h9⟩ := h
  have h4' := (h4.below hb h4.lt).set_far ⟨g1, k, none⟩ (.string s) (fun e => h9 e.symm)
  exact ⟨h4'.cell (row_cell _ _ _ _ _ h2 hk), h4'.frozen _, (h6.trans (hb.mono h6.size)).setCell h7 _⟩

theorem full_step {w0 wr w1 : World} {g1 g2 k : Nat} (s : ByteArray) (x : Option Addr × Nat × Nat) (h : FullInv w0 wr g1 g2 k) (hk : k < 31) (hb : Below wr.heap.size wr w1) (hx : IsB 0 w0 (sv x)) :
    FullInv w0 ((w1.setCell ⟨g1, k, none⟩ (.string s)).setCell ⟨g2, k, none⟩ (sv x)) g1 g2 (k + 1) := by
  obtain ⟨keys, xs, h1, h2, h3, h4, h5, h6, h7, h8, h9⟩ := h
  have h3' := ((h3.below hb h3.lt).set k (.string s)).set_far ⟨g2, k, none⟩ (sv x) h9
  have h4' := ((h4.below hb h4.lt).set_far ⟨g1, k, none⟩ (.string s) (fun e => h9 e.symm)).set k (sv x)
  rw [row_set Value.string _ keys s 31 k h1 hk] at h3'
  rw [row_set sv _ xs x 31 k h2 hk] at h4'
  refine ⟨keys ++ [s], xs ++ [x], by simp [h1], by simp [h2], h3', h4', fun y hy => ?_, ((h6.trans (hb.mono h6.size)).setCell h7 _).setCell h8 _, h7, h8, h9⟩
  rcases List.mem_append.1 hy with hy | hy
  · exact h5 y hy
  · have : y = x := by simpa using hy
    rw [this]; exact hx

/-- The rows of fullNode, whole. -/
theorem full_cmp {w0 wr : World} {g1 g2 : Nat} (h : FullInv w0 wr g1 g2 31) : ∃ es : List Ent, es.length = 31 ∧ (∀ i (h : i < es.length), ∃ b, (some ⟨g1, 0, none⟩ : Option Addr) = some ⟨b, 0, none⟩ ∧ wr.cell? ⟨b, i, none⟩ = some (.string es[i].1)) ∧
    (∀ i (h : i < es.length), ∃ b, (some ⟨g2, 0, none⟩ : Option Addr) = some ⟨b, 0, none⟩ ∧ wr.cell? ⟨b, i, none⟩ = some (sv es[i].2)) ∧ (∀ i (h : i < es.length), IsB 0 wr (sv es[i].2)) := by
  obtain ⟨keys, xs, h1, h2, h3, h4, h5, h6, h7, h8, h9⟩ := h
  have hl : (keys.zip xs).length = 31 := by simp [h1, h2]
  refine ⟨keys.zip xs, hl, fun i hi => ⟨_, rfl, h3.cell ?_⟩, fun i hi => ⟨_, rfl, h4.cell ?_⟩, fun i hi => ?_⟩
  · have : i < keys.length := by omega
    simp [this]
  · have : i < xs.length := by omega
    simp [this]
  · have hi' : i < xs.length := by omega
    have := (h5 xs[i] (List.getElem_mem _)).below h6
    simpa using this

end Go.Proofs.Qxb6600085a
