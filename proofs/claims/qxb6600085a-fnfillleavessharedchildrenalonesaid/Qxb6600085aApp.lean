/-
  append onto a slice that is the call's own and not nil, from whatever source; nil onto nil. No program's text.
-/
import Derived.Test.Qxb6600085aMem
import Derived.Deep.RegionLaw
namespace Go.Proofs.Qxb6600085a
open Go.RowKit

section
variable {P : Program} (w : World)

theorem run_append_gen (t ty : TypeId) (base : Nat) (e : TypeId) (i : TypeInfo) (z : Value) (size bytes : Nat) (ht : P.underlying t = some (.slice e)) (hi : P.info? e = some i) (hz : i.zero = some z)
    (hsize : i.size = size) (hby : i.bytes = bytes) (hzs : z.cells.size = size) (hsz : 0 < size)
    (g0 n c0 : Nat) (xs : List Value) (hown : w.ownsRow base e size (.slice (some ⟨g0, 0, none⟩) n c0) n xs)
    (ax : Option Addr) (m c : Nat) (news : List Value) (hnone : ax = none → m = 0) (hl : news.length = m * size) (hnews : ∀ ad, ax = some ad → ∀ j u, news[j]? = some u → w.cell? (ad.add j) = some u) (h1 : ∀ u ∈ news, u.oneCell' = true)
    (h63 : n + m ≤ maxLen) (hbytes : (n + m) * bytes ≤ 140737488355328) (hbase : base ≤ w.heap.size) :
    ∃ g cap w', (Builtin.append_ #[t, t] ty #[.slice (some ⟨g0, 0, none⟩) n c0, .slice ax m c]).run P w = .ok (.slice (some ⟨g, 0, none⟩) (n + m) cap) w' ∧
      w'.ownsRow base e size (.slice (some ⟨g, 0, none⟩) (n + m) cap) (n + m) (xs ++ news) ∧ w.grownBy w' (some g0) ∧ (g = g0 ∨ g = w.heap.size) := by
  cases ax with
  | some ad =>
    obtain ⟨v', w', hr, h2, h3, h4, h5⟩ := run_append_own_at (P := P) w base t ty e i z size bytes ht hi hz hsize hby hzs hsz (.slice (some ⟨g0, 0, none⟩) n c0) n xs hown ad m c news hl (hnews ad rfl) h1 h63 hbytes hbase
    rcases h2.2 with ⟨hv, -⟩ | ⟨g, cap, cur, hv, -⟩
    · have := (h4.1 hv).1; cases this
    · subst hv
      refine ⟨g, cap, w', hr, h2, h3, ?_⟩
      rcases h5 with h5 | h5
      · left; simpa [Value.ownBlock] using h5
      · right; simpa [Value.ownBlock] using h5
  | none =>
    have hm := hnone rfl
    subst hm
    have hn : news = [] := List.eq_nil_of_length_eq_zero (by simpa using hl)
    subst hn
    obtain ⟨rest, -, hat, hnc, -⟩ := owns_at hown
    refine ⟨g0, c0, w, ?_, by simpa using hown, ⟨rfl, rfl, rfl, Nat.le_refl _, fun _ _ _ => rfl⟩, .inl rfl⟩
    simp [Builtin.append_, run_underlying ht, sizeOf, typeInfo, hi, Builtin.lenOf, Builtin.firstCells, hnc, storeCells]

theorem step_append_gen {ops : Array Oper} {o : Oper} {a : Act} {K : Act → World → Prop} {Q : Exit → Act → World → Prop} {E : Prop} (hgd : o.guard = none) (s x : Operand) (t : TypeId)
    (ho : o.op = .call { callee := .builtin .append, args := #[s, x], argTypes := #[t, t] })
    (base : Nat) (e : TypeId) (i : TypeInfo) (z : Value) (size bytes : Nat) (ht : P.underlying t = some (.slice e)) (hi : P.info? e = some i) (hz : i.zero = some z)
    (hsize : i.size = size) (hby : i.bytes = bytes) (hzs : z.cells.size = size) (hsz : 0 < size)
    (g0 n c0 : Nat) (xs : List Value) (hs : a.eval s = .slice (some ⟨g0, 0, none⟩) n c0) (hown : w.ownsRow base e size (.slice (some ⟨g0, 0, none⟩) n c0) n xs)
    (ax : Option Addr) (m c : Nat) (news : List Value) (hx : a.eval x = .slice ax m c) (hnone : ax = none → m = 0) (hl : news.length = m * size) (hnews : ∀ ad, ax = some ad → ∀ j u, news[j]? = some u → w.cell? (ad.add j) = some u) (h1 : ∀ u ∈ news, u.oneCell' = true)
    (h63 : n + m ≤ maxLen) (hbytes : (n + m) * bytes ≤ 140737488355328) (hbase : base ≤ w.heap.size)
    (h : ∀ g cap w', w'.ownsRow base e size (.slice (some ⟨g, 0, none⟩) (n + m) cap) (n + m) (xs ++ news) → w.grownBy w' (some g0) → (g = g0 ∨ g = w.heap.size) → K (a.put o.dst (.slice (some ⟨g, 0, none⟩) (n + m) cap)) w') :
    if Region.wanted o (yielded ops a.tmps) = true then Oper.wp P o a w K Q else E := by
  have hw : Region.wanted o (yielded ops a.tmps) = true := by simp [Region.wanted, hgd]
  rw [if_pos hw]
  obtain ⟨g, cap, w', hr, h2, h3, h4⟩ := run_append_gen (P := P) w t o.type base e i z size bytes ht hi hz hsize hby hzs hsz g0 n c0 xs hown ax m c news hnone hl hnews h1 h63 hbytes hbase
  unfold Oper.wp execOp
  simp only [ho, resolve, invoke, builtin, Sem.run_bind, Sem.run_pure, Result.andThen_ok, List.map_toArray, List.map_cons, List.map_nil, hs, hx, hr]
  exact h g cap w' h2 h3 h4

theorem step_append_nil {ops : Array Oper} {o : Oper} {a : Act} {K : Act → World → Prop} {Q : Exit → Act → World → Prop} {E : Prop} (hgd : o.guard = none) (s x : Operand) (t : TypeId)
    (ho : o.op = .call { callee := .builtin .append, args := #[s, x], argTypes := #[t, t] }) (e : TypeId) (i : TypeInfo) (ht : P.underlying t = some (.slice e)) (hi : P.info? e = some i)
    (hs : a.eval s = .slice none 0 0) (hx : a.eval x = .slice none 0 0) (h : K (a.put o.dst (.slice none 0 0)) w) :
    if Region.wanted o (yielded ops a.tmps) = true then Oper.wp P o a w K Q else E := by
  have hw : Region.wanted o (yielded ops a.tmps) = true := by simp [Region.wanted, hgd]
  rw [if_pos hw]
  have hr : (Builtin.append_ #[t, t] o.type #[.slice none 0 0, .slice none 0 0]).run P w = .ok (.slice none 0 0) w := by
    simp [Builtin.append_, run_underlying ht, sizeOf, typeInfo, hi, Builtin.lenOf, Builtin.firstCells]
  unfold Oper.wp execOp
  simp only [ho, resolve, invoke, builtin, Sem.run_bind, Sem.run_pure, Result.andThen_ok, List.map_toArray, List.map_cons, List.map_nil, hs, hx, hr]
  exact h

end
end Go.Proofs.Qxb6600085a
