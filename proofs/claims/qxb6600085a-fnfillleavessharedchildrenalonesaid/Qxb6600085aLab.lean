/-
  buildFillCase's memory: every block bears a label; a step turns blocks of one label.
-/
import Derived.Test.Qxb6600085aFam
namespace Go.Proofs.Qxb6600085a
open Go.RowKit

inductive Lab where
  | old
  | fc
  | res
  | row (f : Nat)
  | ck (j : Nat)
  | node (j : Nat)
  | par

/-- What is new bears label l. -/
def ext (lab : Nat → Lab) (w : World) (l : Lab) : Nat → Lab := fun k => if k < w.heap.size then lab k else l
theorem ext_lt {lab : Nat → Lab} {w : World} {l : Lab} {k : Nat} (h : k < w.heap.size) : ext lab w l k = lab k := if_pos h
theorem ext_ge {lab : Nat → Lab} {w : World} {l : Lab} {k : Nat} (h : w.heap.size ≤ k) : ext lab w l k = l := if_neg (by omega)

/-- The element types of the rows: 1 to 6 lie in the struct's fields, 7 and 8 in variables. -/
def ety : Nat → Nat
  | 1 => 32
  | 2 => 4
  | 3 => 30
  | 4 => 22
  | 5 => 9
  | 6 => 35
  | 7 => 9
  | _ => 35

def put {α : Type} (V : Nat → α) (f : Nat) (v : α) : Nat → α := fun k => if k = f then v else V k
theorem put_same {α : Type} (V : Nat → α) (f : Nat) (v : α) : put V f v f = v := if_pos rfl
theorem put_ne {α : Type} (V : Nat → α) (f : Nat) (v : α) {k : Nat} (h : k ≠ f) : put V f v k = V k := if_neg h

def fields (p : Value) (V : Nat → Value) : List Value := [p, V 1, V 2, V 3, V 4, V 5, V 6]
theorem fields_set (p : Value) (V : Nat → Value) (f : Nat) (v : Value) (h1 : 1 ≤ f) (h6 : f ≤ 6) : (fields p V).set f v = fields p (put V f v) := by
  have : f = 1 ∨ f = 2 ∨ f = 3 ∨ f = 4 ∨ f = 5 ∨ f = 6 := by omega
  rcases this with rfl | rfl | rfl | rfl | rfl | rfl <;> rfl
theorem fields_get (p : Value) (V : Nat → Value) (f : Nat) (h1 : 1 ≤ f) (h6 : f ≤ 6) : (fields p V)[f]? = some (V f) := by
  have : f = 1 ∨ f = 2 ∨ f = 3 ∨ f = 4 ∨ f = 5 ∨ f = 6 := by omega
  rcases this with rfl | rfl | rfl | rfl | rfl | rfl <;> rfl
theorem fields_put (p : Value) (V : Nat → Value) (f : Nat) (v : Value) (h : 6 < f) : fields p (put V f v) = fields p V := by
  unfold fields
  rw [put_ne _ _ _ (by omega), put_ne _ _ _ (by omega), put_ne _ _ _ (by omega), put_ne _ _ _ (by omega), put_ne _ _ _ (by omega), put_ne _ _ _ (by omega)]

/-- A row of the builder's. -/
structure Row (w : World) (lab : Nat → Lab) (l : Lab) (e : Nat) (v : Value) (xs : List Value) : Prop where
  own : w.ownsRow 0 e 1 v xs.length xs
  lbl : ∀ g, v.ownBlock = some g → lab g = l

/-- From w, lab to w', lab': only blocks in S have turned; labels stay. -/
structure Moves (S : Nat → Prop) (w w' : World) (lab lab' : Nat → Lab) : Prop where
  upd : Upd S w w'
  lab : ∀ k, k < w.heap.size → lab' k = lab k

theorem Row.moves {S : Nat → Prop} {w w' : World} {lab lab' : Nat → Lab} {l : Lab} {e : Nat} {v : Value} {xs : List Value} (h : Row w lab l e v xs) (m : Moves S w w' lab lab') (hS : ∀ k, k < w.heap.size → S k → lab k ≠ l) : Row w' lab' l e v xs :=
  ⟨owns_upd h.own m.upd (fun g hg hs => hS g (h.own.lt g hg).2 hs (h.lbl g hg)), fun g hg => by rw [m.lab g (h.own.lt g hg).2]; exact h.lbl g hg⟩

/-- A leaf with the two rows that it was made of. -/
structure Kd where
  k : Kid
  kb : Nat
  vb : Nat

def strs (es : List Ent) : List Value := es.map (fun e => .string e.1)
def vals (es : List Ent) : List Value := es.map (fun e => sv e.2)

structure KdAt (w : World) (lab : Nat → Lab) (i : Nat) (d : Kd) : Prop where
  node : d.k.at w
  nl : ∀ n, d.k.fp n → lab n = .node i
  ks : At w d.kb (strs d.k.es) 9
  vs : At w d.vb (vals d.k.es) 35
  kl : lab d.kb = .ck i
  vl : lab d.vb = .ck i

theorem KdAt.moves {S : Nat → Prop} {w w' : World} {lab lab' : Nat → Lab} {i : Nat} {d : Kd} (h : KdAt w lab i d) (m : Moves S w w' lab lab') (hS : ∀ k, k < w.heap.size → S k → lab k ≠ .node i ∧ lab k ≠ .ck i) : KdAt w' lab' i d := by
  have hlt : ∀ n, d.k.fp n → n < w.heap.size := fun n hn => NodeAt.fp_lt h.node hn
  refine ⟨NodeAt.keep h.node m.upd (fun n hn hs => (hS n (hlt n hn) hs).1 (h.nl n hn)), fun n hn => by rw [m.lab n (hlt n hn)]; exact h.nl n hn,
    h.ks.upd m.upd (fun hs => (hS _ h.ks.lt hs).2 h.kl), h.vs.upd m.upd (fun hs => (hS _ h.vs.lt hs).2 h.vl), by rw [m.lab _ h.ks.lt]; exact h.kl, by rw [m.lab _ h.vs.lt]; exact h.vl⟩

/-- The builder's memory. -/
structure Bld (w0 w : World) (lab : Nat → Lab) (rb bd : Nat) (V : Nat → Value) (X : Nat → List Value) (L : List Kd) : Prop where
  old : ∀ k, k < w0.heap.size → lab k = .old
  below : Below w0.heap.size w0 w
  res : At w rb (fields (.pointer none) (fun _ => nilV)) 53
  resl : lab rb = .res
  fc : At w bd (fields (.pointer none) V) 53
  fcl : lab bd = .fc
  row : ∀ f, 1 ≤ f → f ≤ 8 → Row w lab (.row f) (ety f) (V f) (X f)
  kd : ∀ i (h : i < L.length), KdAt w lab i L[i]

section
variable {w0 w w' : World} {lab lab' : Nat → Lab} {rb bd : Nat} {V : Nat → Value} {X : Nat → List Value} {L : List Kd} {S : Nat → Prop}

theorem Bld.other (h : Bld w0 w lab rb bd V X L) (m : Moves S w w' lab lab') (hS : ∀ k, k < w.heap.size → S k → lab k = .ck L.length) : Bld w0 w' lab' rb bd V X L := by
  have hsz := h.below.size
  refine ⟨fun k hk => by rw [m.lab k (by omega)]; exact h.old k hk, h.below.trans (m.upd.below hsz (fun k hk hs => ?_)), h.res.upd m.upd (fun hs => ?_), by rw [m.lab _ h.res.lt]; exact h.resl, h.fc.upd m.upd (fun hs => ?_), by rw [m.lab _ h.fc.lt]; exact h.fcl,
    fun f h1 h8 => (h.row f h1 h8).moves m (fun k hk hs => by rw [hS k hk hs]; simp), fun i hi => (h.kd i hi).moves m (fun k hk hs => ?_)⟩
  · have := hS k (by omega) hs; rw [h.old k hk] at this; cases this
  · have := hS _ h.res.lt hs; rw [h.resl] at this; cases this
  · have := hS _ h.fc.lt hs; rw [h.fcl] at this; cases this
  · rw [hS k hk hs]; simp; omega

/-- What a step that appends onto row f, and stores it into its field, leaves of what bears other labels. -/
theorem Bld.app (h : Bld w0 w lab rb bd V X L) (f : Nat) (h1 : 1 ≤ f) (h6 : f ≤ 6) {w1 : World} {gg cap n : Nat} {x : Value} (u : Upd (fun k => (V f).ownBlock = some k) w w1) (hown : w1.ownsRow 0 (ety f) 1 (.slice (some ⟨gg, 0, none⟩) n cap) n (X f ++ [x])) (hgg : (V f).ownBlock = some gg ∨ w.heap.size ≤ gg) :
    (w1.cell? ⟨bd, f, none⟩ = some (V f) ∧ w1.frozen? ⟨bd, f, none⟩ = false) ∧ Moves (fun k => lab k = .row f ∨ lab k = .fc) w (w1.setCell ⟨bd, f, none⟩ (.slice (some ⟨gg, 0, none⟩) n cap)) lab (ext lab w (.row f)) ∧
    Bld w0 (w1.setCell ⟨bd, f, none⟩ (.slice (some ⟨gg, 0, none⟩) n cap)) (ext lab w (.row f)) rb bd (put V f (.slice (some ⟨gg, 0, none⟩) n cap)) (put X f (X f ++ [x])) L := by
  have hr := h.row f h1 (by omega)
  have u' : Upd (fun k => lab k = .row f) w w1 := u.mono (fun k _ hk => hr.lbl k hk)
  have m : Moves (fun k => lab k = .row f ∨ lab k = .fc) w (w1.setCell ⟨bd, f, none⟩ (.slice (some ⟨gg, 0, none⟩) n cap)) lab (ext lab w (.row f)) :=
    ⟨(u'.mono (fun _ _ hk => Or.inl hk)).setCell _ _ (fun _ => Or.inr h.fcl), fun k hk => ext_lt hk⟩
  have hbd : ¬ lab bd = .row f := by rw [h.fcl]; simp
  have fc1 := h.fc.upd u' hbd
  have hlb : ext lab w (.row f) bd = .fc := by rw [ext_lt h.fc.lt]; exact h.fcl
  have hgb : gg ≠ bd := by
    rintro rfl
    rcases hgg with hg | hg
    · exact hbd (hr.lbl _ hg)
    · have := h.fc.lt; omega
  refine ⟨⟨fc1.cell (fields_get _ V f h1 h6), fc1.frozen f⟩, m, ?_⟩
  have hsz := h.below.size
  refine ⟨fun k hk => by rw [ext_lt (by omega)]; exact h.old k hk, h.below.trans (m.upd.below hsz (fun k hk hs => ?_)), h.res.upd m.upd (fun hs => ?_), by rw [ext_lt h.res.lt]; exact h.resl, ?_, hlb, fun f' h1' h8' => ?_, fun i hi => (h.kd i hi).moves m (fun k hk hs => ?_)⟩
  · rw [h.old k hk] at hs; simp at hs
  · rw [h.resl] at hs; simp at hs
  · have := fc1.set f (.slice (some ⟨gg, 0, none⟩) n cap)
    rw [fields_set _ V f _ h1 h6] at this
    exact this
  · by_cases he : f' = f
    · subst he
      rw [put_same, put_same]
      have hn : (X f' ++ [x]).length = n := by have := hown.1; omega
      refine ⟨?_, fun g hg => ?_⟩
      · rw [hn]
        exact owns_upd hown ((Upd.refl (fun k => k = bd) w1).setCell _ _ (fun _ => rfl)) (fun g hg hs => hgb (by simp [Value.ownBlock] at hg; omega))
      · have hg' : gg = g := by simpa [Value.ownBlock] using hg
        subst hg'
        rcases hgg with hg2 | hg2
        · rw [ext_lt (hr.own.lt _ hg2).2]; exact hr.lbl _ hg2
        · exact ext_ge hg2
    · rw [put_ne _ _ _ he, put_ne _ _ _ he]
      exact (h.row f' h1' h8').moves m (fun k hk hs => by rcases hs with hs | hs <;> rw [hs] <;> simp; omega)
  · rcases hs with hs | hs <;> rw [hs] <;> simp

/-- The same where the row lies in a variable. -/
theorem Bld.app7 (h : Bld w0 w lab rb bd V X L) (f : Nat) (h7 : 7 ≤ f) (h8 : f ≤ 8) {w1 : World} {gg cap n : Nat} {x : Value} (u : Upd (fun k => (V f).ownBlock = some k) w w1) (hown : w1.ownsRow 0 (ety f) 1 (.slice (some ⟨gg, 0, none⟩) n cap) n (X f ++ [x])) (hgg : (V f).ownBlock = some gg ∨ w.heap.size ≤ gg) :
    Moves (fun k => lab k = .row f) w w1 lab (ext lab w (.row f)) ∧ Bld w0 w1 (ext lab w (.row f)) rb bd (put V f (.slice (some ⟨gg, 0, none⟩) n cap)) (put X f (X f ++ [x])) L := by
  have hr := h.row f (by omega) h8
  have m : Moves (fun k => lab k = .row f) w w1 lab (ext lab w (.row f)) := ⟨u.mono (fun k _ hk => hr.lbl k hk), fun k hk => ext_lt hk⟩
  refine ⟨m, ?_⟩
  have hsz := h.below.size
  refine ⟨fun k hk => by rw [ext_lt (by omega)]; exact h.old k hk, h.below.trans (m.upd.below hsz (fun k hk hs => ?_)), h.res.upd m.upd (fun hs => ?_), by rw [ext_lt h.res.lt]; exact h.resl, ?_, by rw [ext_lt h.fc.lt]; exact h.fcl, fun f' h1' h8' => ?_, fun i hi => (h.kd i hi).moves m (fun k hk hs => ?_)⟩
  · rw [h.old k hk] at hs; cases hs
  · rw [h.resl] at hs; cases hs
  · rw [fields_put _ _ _ _ (by omega)]
    exact h.fc.upd m.upd (fun hs => by rw [h.fcl] at hs; cases hs)
  · by_cases he : f' = f
    · subst he
      rw [put_same, put_same]
      have hn : (X f' ++ [x]).length = n := by have := hown.1; omega
      refine ⟨by rw [hn]; exact hown, fun g hg => ?_⟩
      have hg' : gg = g := by simpa [Value.ownBlock] using hg
      subst hg'
      rcases hgg with hg2 | hg2
      · rw [ext_lt (hr.own.lt _ hg2).2]; exact hr.lbl _ hg2
      · exact ext_ge hg2
    · rw [put_ne _ _ _ he, put_ne _ _ _ he]
      exact (h.row f' h1' h8').moves m (fun k hk hs => by rw [hs]; simp; omega)
  · rw [hs]; simp

theorem Bld.snoc {d : Kd} (h : Bld w0 w lab rb bd V X L) (hd : KdAt w lab L.length d) : Bld w0 w lab rb bd V X (L ++ [d]) := by
  refine ⟨h.old, h.below, h.res, h.resl, h.fc, h.fcl, h.row, fun i hi => ?_⟩
  by_cases he : i < L.length
  · rw [List.getElem_append_left he]; exact h.kd i he
  · have : i = L.length := by simp at hi; omega
    subst this
    simpa using hd
end

/-- The two rows of the leaf that is being laid, behind e rounds. -/
structure Cur (w : World) (lab : Nat → Lab) (j gk gv cnt e : Nat) (keys : List ByteArray) (xs : List (Option Addr × Nat × Nat)) : Prop where
  kl : keys.length = e
  xl : xs.length = e
  ka : At w gk (keys.map Value.string ++ List.replicate (cnt - e) (.string ⟨#[]⟩)) 9
  va : At w gv (xs.map sv ++ List.replicate (cnt - e) nilV) 35
  lk : lab gk = .ck j
  lv : lab gv = .ck j
  ne : gk ≠ gv

theorem Cur.moves {S : Nat → Prop} {w w' : World} {lab lab' : Nat → Lab} {j gk gv cnt e : Nat} {keys : List ByteArray} {xs : List (Option Addr × Nat × Nat)} (h : Cur w lab j gk gv cnt e keys xs) (m : Moves S w w' lab lab') (hS : ∀ k, k < w.heap.size → S k → lab k ≠ .ck j) : Cur w' lab' j gk gv cnt e keys xs :=
  ⟨h.kl, h.xl, h.ka.upd m.upd (fun hs => hS _ h.ka.lt hs h.lk), h.va.upd m.upd (fun hs => hS _ h.va.lt hs h.lv), by rw [m.lab _ h.ka.lt]; exact h.lk, by rw [m.lab _ h.va.lt]; exact h.lv, h.ne⟩

/-- New memory alone. -/
theorem Moves.below {w w' : World} (lab : Nat → Lab) (l : Lab) (h : Below w.heap.size w w') : Moves (fun _ => False) w w' lab (ext lab w l) := ⟨Upd.of_below h, fun _ hk => ext_lt hk⟩

theorem upd_own {wc w2 : World} {v : Value} {o : Obj} (hg : (wc.alloc o).grownBy w2 v.ownBlock) : Upd (fun k => v.ownBlock = some k) wc w2 := by
  have u0 : Upd (fun _ => False) wc (wc.alloc o) := (Upd.refl _ _).alloc o
  exact ⟨hg.os, hg.tape, hg.output, Nat.le_trans u0.size hg.size, fun k hk hn => (hg.block k (Nat.lt_of_lt_of_le hk u0.size) (fun e => hn e.symm)).trans (u0.block k hk (fun h => h))⟩

theorem upd_own_drew {wc w2 : World} {v : Value} {o : Obj} (hg : (wc.alloc o).drew.grownBy w2 v.ownBlock) : Upd (fun k => v.ownBlock = some k) wc w2 := by
  have u0 : Upd (fun _ => False) wc (wc.alloc o) := (Upd.refl _ _).alloc o
  exact ⟨hg.os, hg.tape, hg.output, Nat.le_trans u0.size hg.size, fun k hk hn => (hg.block k (Nat.lt_of_lt_of_le hk u0.size) (fun e => hn e.symm)).trans (u0.block k hk (fun h => h))⟩

end Go.Proofs.Qxb6600085a
