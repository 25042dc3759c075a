/-
  Blocks of memory, whole: what a block holds ('At'), what a step leaves alone ('Upd'); laws for copy and clear over elements of whatever size. No program's text.
-/
import Derived.WalkKit
import Derived.WalkSpells
import Derived.Laws.CopyOwn
import Derived.Deep.AppendLies
import Derived.Deep.QuietTactic
import Derived.BigQuiet
namespace Go.Proofs.Qxb6600085a
open Go.RowKit

theorem or_r {a b c : Prop} (h : a ∨ b) (f : b → c) : a ∨ c := by
  rcases h with h | h
  · exact .inl h
  · exact .inr (f h)

/-- Block b holds just the cells cs, none of them frozen. -/
def At (w : World) (b : Nat) (cs : List Value) (t : TypeId) : Prop := w.heap[b]? = some (.cells cs.toArray t (0, 0))

theorem At.lt {w : World} {b : Nat} {cs : List Value} {t : TypeId} (h : At w b cs t) : b < w.heap.size := by
  unfold At at h
  exact (Array.getElem?_eq_some_iff.1 h).1

theorem At.cell {w : World} {b : Nat} {cs : List Value} {t : TypeId} (h : At w b cs t) {i : Nat} {v : Value} (hi : cs[i]? = some v) : w.cell? ⟨b, i, none⟩ = some v := by
  unfold At at h
  simp [World.cell?, h, hi]

theorem At.frozen {w : World} {b : Nat} {cs : List Value} {t : TypeId} (h : At w b cs t) (i : Nat) : w.frozen? ⟨b, i, none⟩ = false := by
  unfold At at h
  simp [World.frozen?, h]

theorem At.drew {w : World} {b : Nat} {cs : List Value} {t : TypeId} (h : At w b cs t) : At w.drew b cs t := h
theorem At.drewN {w : World} {b : Nat} {cs : List Value} {t : TypeId} (h : At w b cs t) (n : Nat) : At (w.drewN n) b cs t := h

theorem At.new (w : World) (cs : List Value) (t : TypeId) : At (w.alloc (.cells cs.toArray t)) w.heap.size cs t := heap_alloc_new w _

theorem At.unique {w : World} {b : Nat} {cs cs' : List Value} {t t' : TypeId} (h : At w b cs t) (h' : At w b cs' t') : cs = cs' ∧ t = t' := by
  unfold At at h h'
  rw [h] at h'
  simp at h'
  exact h'

/-- From w to w' only blocks in S, and new ones, have turned. -/
structure Upd (S : Nat → Prop) (w w' : World) : Prop where
  os : w'.os = w.os
  tape : w'.tape = w.tape
  output : w'.output = w.output
  size : w.heap.size ≤ w'.heap.size
  block : ∀ k, k < w.heap.size → ¬ S k → w'.heap[k]? = w.heap[k]?

theorem Upd.refl (S : Nat → Prop) (w : World) : Upd S w w := ⟨rfl, rfl, rfl, Nat.le_refl _, fun _ _ _ => rfl⟩

theorem Upd.then {S T : Nat → Prop} {a b c : World} (h : Upd S a b) (k : Upd T b c) (hT : ∀ i, i < a.heap.size → T i → S i) : Upd S a c :=
  ⟨k.os.trans h.os, k.tape.trans h.tape, k.output.trans h.output, Nat.le_trans h.size k.size,
    fun i hi hn => (k.block i (Nat.lt_of_lt_of_le hi h.size) (fun ht => hn (hT i hi ht))).trans (h.block i hi hn)⟩

theorem Upd.trans {S : Nat → Prop} {a b c : World} (h : Upd S a b) (k : Upd S b c) : Upd S a c := h.then k (fun _ _ h => h)

theorem Upd.mono {S T : Nat → Prop} {a b : World} (h : Upd S a b) (hT : ∀ i, i < a.heap.size → S i → T i) : Upd T a b :=
  ⟨h.os, h.tape, h.output, h.size, fun i hi hn => h.block i hi (fun hs => hn (hT i hi hs))⟩

theorem Upd.of_below {S : Nat → Prop} {w w' : World} (h : Below w.heap.size w w') : Upd S w w' := ⟨h.os, h.tape, h.output, h.size, fun k hk _ => h.block k hk⟩

theorem Upd.below {S : Nat → Prop} {w w' : World} {B : Nat} (h : Upd S w w') (hB : B ≤ w.heap.size) (hS : ∀ k, k < B → ¬ S k) : Below B w w' :=
  ⟨h.os, h.tape, h.output, h.size, fun k hk => h.block k (by omega) (hS k hk)⟩

theorem Upd.of_grown {w w' : World} {row : Option Nat} (h : w.grownBy w' row) : Upd (fun k => some k = row) w w' := ⟨h.os, h.tape, h.output, h.size, fun k hk hn => h.block k hk hn⟩

theorem Upd.drew {S : Nat → Prop} {w w' : World} (h : Upd S w w') : Upd S w w'.drew := ⟨h.os, h.tape, h.output, h.size, h.block⟩
theorem Upd.drewN {S : Nat → Prop} {w w' : World} (h : Upd S w w') (n : Nat) : Upd S w (w'.drewN n) := ⟨h.os, h.tape, h.output, h.size, h.block⟩

theorem Upd.setCell {S : Nat → Prop} {w w' : World} (h : Upd S w w') (a : Addr) (v : Value) (ha : a.block < w.heap.size → S a.block) : Upd S w (w'.setCell a v) :=
  h.then (T := fun k => k = a.block) ⟨rfl, rfl, rfl, by simp [World.setCell], fun k _ hn => Below.heap_setCell _ _ _ _ hn⟩ (fun i hi he => by subst he; exact ha hi)

theorem Upd.alloc {S : Nat → Prop} {w w' : World} (h : Upd S w w') (o : Obj) : Upd S w (w'.alloc o) :=
  h.then (T := fun _ => False) ⟨rfl, rfl, rfl, by simp, fun k hk _ => Below.heap_alloc _ _ _ hk⟩ (fun _ _ he => he.elim)

theorem At.upd {S : Nat → Prop} {w w' : World} {b : Nat} {cs : List Value} {t : TypeId} (h : At w b cs t) (u : Upd S w w') (hb : ¬ S b) : At w' b cs t := by
  have hl := h.lt
  unfold At at h ⊢
  rw [u.block b hl hb]
  exact h

theorem At.below {w w' : World} {b B : Nat} {cs : List Value} {t : TypeId} (h : At w b cs t) (u : Below B w w') (hb : b < B) : At w' b cs t := by
  unfold At at h ⊢
  rw [u.block b hb]
  exact h

theorem At.set {w : World} {b : Nat} {cs : List Value} {t : TypeId} (h : At w b cs t) (i : Nat) (v : Value) : At (w.setCell ⟨b, i, none⟩ v) b (cs.set i v) t := by
  unfold At at h ⊢
  simp only [World.setCell, Array.getElem?_modify, if_true, h]
  simp

theorem At.set_far {w : World} {b : Nat} {cs : List Value} {t : TypeId} (h : At w b cs t) (a : Addr) (v : Value) (hne : b ≠ a.block) : At (w.setCell a v) b cs t := by
  unfold At at h ⊢
  rw [Below.heap_setCell _ _ _ _ hne]
  exact h

theorem At.alloc {w : World} {b : Nat} {cs : List Value} {t : TypeId} (h : At w b cs t) (o : Obj) : At (w.alloc o) b cs t := by
  have hl := h.lt
  unfold At at h ⊢
  rw [Below.heap_alloc _ _ _ hl]
  exact h

theorem At.setRow {w : World} {b : Nat} {cs : List Value} {t : TypeId} (h : At w b cs t) (xs : List Value) : At (w.setRow b xs.toArray) b xs t :=
  setRow_heap w b cs.toArray xs.toArray t (0, 0) h

theorem Upd.setRow (w : World) (b : Nat) (xs : Array Value) : Upd (fun k => k = b) w (w.setRow b xs) :=
  ⟨rfl, rfl, rfl, by simp [World.setRow], fun k _ hn => setRow_other w b k xs hn⟩

/-- ownsRow, carried. -/
theorem owns_upd {S : Nat → Prop} {w w' : World} {base : Nat} {e : TypeId} {size : Nat} {v : Value} {n : Nat} {xs : List Value} (h : w.ownsRow base e size v n xs) (u : Upd S w w') (hb : ∀ g, v.ownBlock = some g → ¬ S g) : w'.ownsRow base e size v n xs := by
  refine ⟨h.1, ?_⟩
  rcases h.2 with hn | ⟨g, cap, cur, rfl, hb', hgg, rest⟩
  · exact .inl hn
  · refine .inr ⟨g, cap, cur, rfl, hb', ?_, rest⟩
    rw [u.block g (Array.getElem?_eq_some_iff.1 hgg).1 (hb g rfl)]
    exact hgg

theorem owns_base {w : World} {base base' : Nat} {e : TypeId} {size : Nat} {v : Value} {n : Nat} {xs : List Value} (h : w.ownsRow base e size v n xs) (hb : ∀ g, v.ownBlock = some g → base' ≤ g) : w.ownsRow base' e size v n xs := by
  refine ⟨h.1, ?_⟩
  rcases h.2 with hn | ⟨g, cap, cur, rfl, hb', rest⟩
  · exact .inl hn
  · exact .inr ⟨g, cap, cur, rfl, hb g rfl, rest⟩

/-- What a row that is owned looks like, whole. -/
theorem owns_at {w : World} {base g cap n : Nat} {e : TypeId} {size : Nat} {m : Nat} {xs : List Value} (h : w.ownsRow base e size (.slice (some ⟨g, 0, none⟩) m cap) n xs) :
    ∃ rest, m = n ∧ At w g (xs ++ rest) e ∧ n ≤ cap ∧ cap ≤ maxLen ∧ xs.length = n * size ∧ xs.length + rest.length = cap * size ∧ base ≤ g := by
  obtain ⟨hl, h2⟩ := h
  rcases h2 with ⟨hn, _⟩ | ⟨g', cap', cur, hv, hb, hg, h1, h2, h3, h4⟩
  · cases hn
  · cases hv
    refine ⟨cur.toList.drop (n * size), rfl, ?_, h1, h2, hl, ?_, hb⟩
    · unfold At
      rw [← h4, List.take_append_drop]
      simpa using hg
    · simp only [List.length_drop, Array.length_toList, h3, hl]
      have := Nat.mul_le_mul_right size h1
      omega

theorem owns_mk {w : World} {base g cap n : Nat} {e : TypeId} {size : Nat} {xs rest : List Value} (h : At w g (xs ++ rest) e) (h1 : n ≤ cap) (h2 : cap ≤ maxLen) (h3 : xs.length = n * size) (h4 : xs.length + rest.length = cap * size) (hb : base ≤ g) :
    w.ownsRow base e size (.slice (some ⟨g, 0, none⟩) n cap) n xs :=
  ⟨h3, .inr ⟨g, cap, (xs ++ rest).toArray, rfl, hb, h, h1, h2, by simpa using h4, by simp [← h3]⟩⟩

/-- copy, elements of whatever size; the target a block that is known whole. -/
theorem run_copy_at {P : Program} (w : World) (dT sT ty elem : TypeId) (size g o dLen dCap : Nat) (ad : Addr) (sLen sCap : Nat) (cur : List Value) (t : TypeId) (cs : List Value)
    (hu : P.underlying dT = some (.slice elem)) (hs : (P.info? elem).map (·.size) = some size)
    (hg : At w g cur t) (hn : cs.length = Nat.min sLen dLen * size)
    (hsrc : ∀ j v, cs[j]? = some v → w.cell? (ad.add j) = some v) (hfit : o + cs.length ≤ cur.length) (h1 : ∀ v ∈ cs, v.oneCell' = true) :
    (Builtin.copy_ #[dT, sT] ty #[.slice (some ⟨g, o, none⟩) dLen dCap, .slice (some ad) sLen sCap]).run P w =
      .ok (goInt (Nat.min sLen dLen)) (w.setRow g (splice cur o cs).toArray) := by
  have hl := run_loadCells_list (P := P) w ad cs hsrc
  have hst := run_storeCells_at P g o t cs 0 cur.toArray w hg (by simpa using hfit) h1
  cases hq : P.info? elem with
  | none => simp [hq] at hs
  | some i =>
    have hi : i.size = size := by simpa [hq] using hs
    simp only [Nat.add_zero] at hst
    simp [Builtin.copy_, run_underlying hu, Builtin.lenOf, Builtin.firstCells, sizeOf, typeInfo, hq, hi, ← hn, hl, hst, splice]

theorem wpList_copy_at {P : Program} {w : World} {ops : Array Oper} {rest : List Oper} {o : Oper} {a : Act} {Q : Exit → Act → World → Prop} (hgd : o.guard = none) (d s : Operand) (dT sT : TypeId)
    (ho : o.op = .call { callee := .builtin .copy, args := #[d, s], argTypes := #[dT, sT] }) (elem : TypeId) (size : Nat) (hu : P.underlying dT = some (.slice elem)) (hsz : (P.info? elem).map (·.size) = some size)
    (g off dLen dCap : Nat) (ad : Addr) (sLen sCap : Nat) (hd : a.eval d = .slice (some ⟨g, off, none⟩) dLen dCap) (hs : a.eval s = .slice (some ad) sLen sCap)
    (cur : List Value) (t : TypeId) (hg : At w g cur t) (cs : List Value) (hn : cs.length = Nat.min sLen dLen * size)
    (hsrc : ∀ j v, cs[j]? = some v → w.cell? (ad.add j) = some v) (hfit : off + cs.length ≤ cur.length) (h1 : ∀ v ∈ cs, v.oneCell' = true)
    (h : ∀ w', At w' g (splice cur off cs) t → Upd (fun k => k = g) w w' → wpList P ops Q rest (a.put o.dst (goInt (Nat.min sLen dLen))) w') : wpList P ops Q (o :: rest) a w := by
  refine wpList_plain hgd fun K hK => ?_
  have hrun := run_copy_at (P := P) w dT sT o.type elem size g off dLen dCap ad sLen sCap cur t cs hu hsz hg hn hsrc hfit h1
  unfold Oper.wp
  simp [execOp, ho, resolve, invoke, builtin, hd, hs, hrun, Result.andThen]
  exact hK _ _ (h _ (hg.setRow _) (Upd.setRow w g _))

/-- make([]T, n), n a variable: the new block, whole. -/
theorem wpList_make_at {P : Program} (w : World) {ops : Array Oper} {rest : List Oper} {o : Oper} {a : Act} {Q : Exit → Act → World → Prop}
    (hg : o.guard = none) (l c : Operand) (t : TypeId) (hop : o.op = Op.makeSlice t l c)
    (e : TypeId) (i : TypeInfo) (z : Value) (h1 : P.underlying t = some (.slice e)) (h2 : P.info? e = some i) (h3 : i.zero = some z) (h4 : i.size = 1) (hz : z.cells = #[z])
    (kl kc : IntKind) (L C : Int) (n : Nat) (hl : a.eval l = .int kl L) (hc : a.eval c = .int kc C) (hL : L = (n : Int)) (hC : C = (n : Int)) (b2 : i.bytes * n ≤ 281474976710656) (b3 : n ≤ maxLen)
    (hK : ∀ w', At w' w.heap.size (List.replicate n z) e → Below w.heap.size w w' → wpList P ops Q rest (a.put o.dst (.slice (some ⟨w.heap.size, 0, none⟩) n n)) w') :
    wpList P ops Q (o :: rest) a w := by
  refine wpList_make_full w hg l c t hop w.heap.size e i z 1 h1 h2 h3 h4 kl kc L C n hl hc hL hC b2 b3 (Nat.le_refl _) ?_
  intro w' hown hgr
  refine hK w' ?_ ⟨hgr.os, hgr.tape, hgr.output, hgr.size, fun k hk => hgr.block k hk (by simp)⟩
  rw [hz, toList_madeCells_one, Nat.mul_one] at hown
  obtain ⟨rest, _, hat, _, _, hl1, hl2, _⟩ := owns_at hown
  have : rest = [] := List.eq_nil_of_length_eq_zero (by omega)
  subst this
  simpa using hat

theorem Below.setCellNew {B : Nat} {w w' : World} (h : Below B w w') (a : Addr) (v : Value) (hB : B ≤ a.block) : Below B w (w'.setCell a v) := h.setCell hB v

end Go.Proofs.Qxb6600085a
