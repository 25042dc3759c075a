/-
  buildFillCase: what its rounds keep.
-/
import Derived.Test.Qxb6600085aMemo
import Derived.Test.Qxb6600085aFillA
namespace Go.Proofs.Qxb6600085a
open Go.RowKit

/-- What the rows hold. -/
structure Cont (Y : Nat → List Value) (L : List Kd) (ps all : List Ent) (zs : List Int) (w0 : World) (a b : Nat) : Prop where
  y1 : Y 1 = L.map (fun d => pv d.k.b)
  y2 : Y 2 = (zs.take L.length).map (fun z => .bool (isC z))
  y3 : Y 3 = L.map (fun d => .slice (some ⟨d.kb, 0, none⟩) d.k.es.length d.k.es.length)
  y4 : Y 4 = L.map (fun d => .slice (some ⟨d.vb, 0, none⟩) d.k.es.length d.k.es.length)
  y5 : Y 5 = strs all
  y6 : Y 6 = vals all
  y7 : Y 7 = strs ps
  y8 : Y 8 = vals ps
  ord : all = inord (L.map (fun d => d.k.es)) ps
  isb : ∀ e ∈ all, IsB 0 w0 (sv e.2)
  own : ∀ i (h : i < L.length), ∃ z, zs[i]? = some z ∧ L[i].k.o = (if isC z then b else a) ∧ L[i].k.es.length = 15 + (z % 17).toNat

/-- Behind j rounds of the outer loop. -/
def OutI (w0 wr : World) (rb bd : Nat) (v7 v8 : Value) (j g n : Nat) (zs : List Int) (a b : Nat) : Prop :=
  ∃ L Y ps all, Mem CT w0 wr rb bd v7 v8 L Y ∧ Cont Y L ps all zs w0 a b ∧ L.length = j ∧ all.length = g ∧ g ≤ 32 * j ∧ ps.length = min j (n - 1)

theorem info4 : (Try.prog.info? 4).map (fun i => (i.zero, i.size, i.bytes)) = some (some (.bool false), 1, 1) := by kernel_rfl
theorem info30 : (Try.prog.info? 30).map (fun i => (i.zero, i.size, i.bytes)) = some (some (.slice none 0 0), 1, 24) := by kernel_rfl
theorem info22 : (Try.prog.info? 22).map (fun i => (i.zero, i.size, i.bytes)) = some (some (.slice none 0 0), 1, 24) := by kernel_rfl


abbrev Z53 : Obj := .cells #[.pointer none, .slice none 0 0, .slice none 0 0, .slice none 0 0, .slice none 0 0, .slice none 0 0, .slice none 0 0] 53

theorem build_start {w w1 : World} {n : Nat} (hown : w1.ownsRow 0 32 1 (.slice (some ⟨w.heap.size + 1 + 1, 0, none⟩) 0 n) 0 []) (hgr : ((w.alloc Z53).alloc Z53).grownBy w1 none) :
    w1.cell? ⟨w.heap.size + 1, 1, none⟩ = some nilV ∧ w1.frozen? ⟨w.heap.size + 1, 1, none⟩ = false ∧
    Mem CT w (w1.setCell ⟨w.heap.size + 1, 1, none⟩ (.slice (some ⟨w.heap.size + 1 + 1, 0, none⟩) 0 n)) w.heap.size (w.heap.size + 1) nilV nilV [] (fun _ => []) := by
  have u0 : Below w.heap.size w ((w.alloc Z53).alloc Z53) := ((Below.refl _ _).alloc (Nat.le_refl _) _).alloc (by simp) _
  have u1 : Upd (fun _ => False) ((w.alloc Z53).alloc Z53) w1 := (Upd.of_grown hgr).mono (fun _ _ h => by cases h)
  have a0 : At w1 w.heap.size (fields (.pointer none) (fun _ => nilV)) 53 := ((At.new w (fields (.pointer none) (fun _ => nilV)) 53).alloc _).upd u1 (fun h => h)
  have a1 : At w1 (w.heap.size + 1) (fields (.pointer none) (fun _ => nilV)) 53 := by
    have := At.new (w.alloc Z53) (fields (.pointer none) (fun _ => nilV)) 53
    have e : (w.alloc Z53).heap.size = w.heap.size + 1 := by simp
    rw [e] at this
    exact this.upd u1 (fun h => h)
  have hb1 : Below w.heap.size w w1 := u0.trans (u1.below u0.size (fun _ _ h => h))
  refine ⟨a1.cell rfl, a1.frozen 1, fun k => if k < w.heap.size then .old else if k = w.heap.size then .res else if k = w.heap.size + 1 then .fc else .row 1, put (fun _ => nilV) 1 (.slice (some ⟨w.heap.size + 1 + 1, 0, none⟩) 0 n), fun _ => [], ?_, trivial, rfl, rfl, fun _ _ _ => rfl⟩
  have us : Upd (fun k => k = w.heap.size + 1) w1 (w1.setCell ⟨w.heap.size + 1, 1, none⟩ (.slice (some ⟨w.heap.size + 1 + 1, 0, none⟩) 0 n)) := (Upd.refl (fun k => k = w.heap.size + 1) w1).setCell _ _ (fun _ => rfl)
  refine ⟨fun k hk => if_pos hk, hb1.setCell (by simp) _, a0.upd us (by omega), by simp, ?_, by simp, fun f h1 h8 => ?_, fun i hi => by simp at hi⟩
  · have := a1.set 1 (.slice (some ⟨w.heap.size + 1 + 1, 0, none⟩) 0 n)
    rw [fields_set _ _ 1 _ (by omega) (by omega)] at this
    exact this
  · by_cases hf : f = 1
    · subst hf
      rw [put_same]
      refine ⟨owns_upd hown us (fun g hg hs => by simp [Value.ownBlock] at hg; omega), fun g hg => ?_⟩
      have hg' : w.heap.size + 1 + 1 = g := by simpa [Value.ownBlock] using hg
      subst hg'
      rw [if_neg (by omega), if_neg (by omega), if_neg (by omega)]
    · rw [put_ne _ _ _ hf]
      exact ⟨World.ownsRow_nil _ _ _ _, fun g hg => by cases hg⟩

/-- Behind e rounds of the inner loop. -/
def InnI (w0 wi : World) (rb bd : Nat) (v7 v8 : Value) (L : List Kd) (Y : Nat → List Value) (gK gV cnt e g g' : Nat) : Prop :=
  g' = g + e ∧ ∃ (keys : List ByteArray) (xs : List (Option Addr × Nat × Nat)), keys.length = e ∧ xs.length = e ∧ (∀ x ∈ xs, IsB 0 w0 (sv x)) ∧
    Mem (CC L.length gK gV (keys.map Value.string ++ List.replicate (cnt - e) (.string ⟨#[]⟩)) (xs.map sv ++ List.replicate (cnt - e) nilV)) w0 wi rb bd v7 v8 L (put (put Y 5 (Y 5 ++ keys.map Value.string)) 6 (Y 6 ++ xs.map sv))


section
variable {w0 wi w6 : World} {rb bd : Nat} {v7 v8 : Value} {L : List Kd} {Y : Nat → List Value} {gK gV cnt e g g' : Nat}

theorem InnI.key (h : InnI w0 wi rb bd v7 v8 L Y gK gV cnt e g g') (he : e < cnt) (hb : Below wi.heap.size wi w6) : w6.cell? ⟨gK, e, none⟩ = some (.string ⟨#[]⟩) ∧ w6.frozen? ⟨gK, e, none⟩ = false := by
  obtain ⟨-, keys, xs, hk, hx, -, hM⟩ := h
  have h1 := (hM.below (stable_CC _ _ _ _ _) hb).cells.1
  exact ⟨h1.cell (row_cell _ _ _ _ _ hk he), h1.frozen _⟩

theorem InnI.val (h : InnI w0 wi rb bd v7 v8 L Y gK gV cnt e g g') (he : e < cnt) (hb : Below wi.heap.size wi w6) (s : ByteArray) :
    (w6.setCell ⟨gK, e, none⟩ (.string s)).cell? ⟨gV, e, none⟩ = some nilV ∧ (w6.setCell ⟨gK, e, none⟩ (.string s)).frozen? ⟨gV, e, none⟩ = false ∧ Below w0.heap.size w0 (w6.setCell ⟨gK, e, none⟩ (.string s)) := by
  obtain ⟨-, keys, xs, hk, hx, -, hM⟩ := h
  have hM2 := (hM.below (stable_CC _ _ _ _ _) hb).setK (i := e) (.string s) rfl
  have h1 := hM2.cells.2
  exact ⟨h1.cell (row_cell _ _ _ _ _ hx he), h1.frozen _, hM2.below0⟩

theorem InnI.mid (h : InnI w0 wi rb bd v7 v8 L Y gK gV cnt e g g') (he : e < cnt) (hb : Below wi.heap.size wi w6) (s : ByteArray) (x : Option Addr × Nat × Nat) (hx : IsB 0 w0 (sv x)) :
    ∃ KS VS Y1, KS[e]? = some (Value.string s) ∧ VS[e]? = some (sv x) ∧ Mem (CC L.length gK gV KS VS) w0 ((w6.setCell ⟨gK, e, none⟩ (.string s)).setCell ⟨gV, e, none⟩ (sv x)) rb bd v7 v8 L Y1 ∧ (Y1 5).length = (Y 5).length + e ∧ (Y1 6).length = (Y 6).length + e ∧
      ∀ w9 Y2, Y2 = put Y1 5 (Y1 5 ++ [Value.string s]) → Mem (CC L.length gK gV KS VS) w0 w9 rb bd v7 v8 L (put Y2 6 (Y2 6 ++ [sv x])) → InnI w0 w9 rb bd v7 v8 L Y gK gV cnt (e + 1) g (g' + 1) := by
  obtain ⟨hg, keys, xs, hkl, hxl, hB, hM⟩ := h
  have hM2 := ((hM.below (stable_CC _ _ _ _ _) hb).setK (i := e) (.string s) rfl).setV (i := e) (sv x) rfl
  have e1 := row_set Value.string (.string ⟨#[]⟩) keys s cnt e hkl he
  have e2 := row_set sv nilV xs x cnt e hxl he
  rw [e1, e2] at hM2
  refine ⟨_, _, _, ?_, ?_, hM2, ?_, ?_, fun w9 Y2 hY2 hM9 => ⟨by omega, keys ++ [s], xs ++ [x], by simp [hkl], by simp [hxl], fun y hy => ?_, hM9.to (fun f h1 h8 => ?_)⟩⟩
  · rw [List.getElem?_append_left (by simp; omega)]; simp [← hkl]
  · rw [List.getElem?_append_left (by simp; omega)]; simp [← hxl]
  · rw [put_ne _ _ _ (by omega), put_same]; simp [hkl]
  · rw [put_same]; simp [hxl]
  · rcases List.mem_append.1 hy with hy | hy
    · exact hB y hy
    · have : y = x := by simpa using hy
      rw [this]; exact hx
  · subst hY2
    by_cases h5 : f = 5
    · subst h5; simp [put]
    · by_cases h6 : f = 6
      · subst h6; simp [put]
      · simp [put, h5, h6]

theorem InnI.done (h : InnI w0 wi rb bd v7 v8 L Y gK gV cnt cnt g g') :
    ∃ es Y2, List.length es = cnt ∧ g' = g + cnt ∧ (∀ e ∈ es, IsB 0 w0 (sv e.2)) ∧ Mem (CC L.length gK gV (strs es) (vals es)) w0 wi rb bd v7 v8 L Y2 ∧ Y2 5 = Y 5 ++ strs es ∧ Y2 6 = Y 6 ++ vals es ∧ ∀ f, f ≠ 5 → f ≠ 6 → Y2 f = Y f := by
  obtain ⟨hg, keys, xs, hkl, hxl, hB, hM⟩ := h
  have e1 : keys.map Value.string = strs (keys.zip xs) := by
    unfold strs
    have : (keys.zip xs).map (fun e => Value.string e.1) = ((keys.zip xs).map Prod.fst).map Value.string := by simp
    rw [this, List.map_fst_zip (by omega)]
  have e2 : xs.map sv = vals (keys.zip xs) := by
    unfold vals
    have : (keys.zip xs).map (fun e => sv e.2) = ((keys.zip xs).map Prod.snd).map sv := by simp
    rw [this, List.map_snd_zip (by omega)]
  rw [Nat.sub_self, List.replicate_zero, List.append_nil, List.replicate_zero, List.append_nil, e1, e2] at hM
  refine ⟨keys.zip xs, _, by simp [hkl, hxl], hg, fun e he => hB _ (List.of_mem_zip he).2, hM, ?_, put_same _ _ _, fun f h5 h6 => ?_⟩
  · rw [put_ne _ _ _ (by omega), put_same]
  · rw [put_ne _ _ _ h6, put_ne _ _ _ h5]
end

theorem strs_append (xs ys : List Ent) : strs (xs ++ ys) = strs xs ++ strs ys := by simp [strs]
theorem vals_append (xs ys : List Ent) : vals (xs ++ ys) = vals xs ++ vals ys := by simp [vals]

/-- A leaf more. -/
theorem Cont.leaf {Y Y' : Nat → List Value} {L : List Kd} {ps all : List Ent} {zs : List Int} {w0 : World} {a b : Nat} {d : Kd} {z : Int} (h : Cont Y L ps all zs w0 a b) (hl : ps.length = L.length) (hz : zs[L.length]? = some z) (ho : d.k.o = (if isC z then b else a)) (hes : d.k.es.length = 15 + (z % 17).toNat) (hB : ∀ e ∈ d.k.es, IsB 0 w0 (sv e.2))
    (h1 : Y' 1 = Y 1 ++ [pv d.k.b]) (h2 : Y' 2 = Y 2 ++ [.bool (isC z)]) (h3 : Y' 3 = Y 3 ++ [.slice (some ⟨d.kb, 0, none⟩) d.k.es.length d.k.es.length]) (h4 : Y' 4 = Y 4 ++ [.slice (some ⟨d.vb, 0, none⟩) d.k.es.length d.k.es.length])
    (h5 : Y' 5 = Y 5 ++ strs d.k.es) (h6 : Y' 6 = Y 6 ++ vals d.k.es) (h7 : Y' 7 = Y 7) (h8 : Y' 8 = Y 8) : Cont Y' (L ++ [d]) ps (all ++ d.k.es) zs w0 a b := by
  have hlt : L.length < zs.length := (List.getElem?_eq_some_iff.1 hz).1
  refine ⟨by rw [h1, h.y1]; simp, ?_, by rw [h3, h.y3]; simp, by rw [h4, h.y4]; simp, by rw [h5, h.y5, strs_append], by rw [h6, h.y6, vals_append], by rw [h7, h.y7], by rw [h8, h.y8], ?_, fun e he => ?_, fun i hi => ?_⟩
  · rw [h2, h.y2, List.length_append, List.length_singleton, List.take_succ_eq_append_getElem hlt, List.map_append]
    have : zs[L.length] = z := by rw [List.getElem?_eq_getElem hlt] at hz; simpa using hz
    rw [this]; rfl
  · rw [h.ord, List.map_append]
    exact (inord_snoc _ _ _ (by simp [hl])).symm
  · rcases List.mem_append.1 he with he | he
    · exact h.isb e he
    · exact hB e he
  · by_cases hi' : i < L.length
    · rw [List.getElem_append_left hi']; exact h.own i hi'
    · have : i = L.length := by simp at hi; omega
      subst this
      exact ⟨z, hz, by simpa using ho, by simpa using hes⟩

/-- .. and the entry behind it. -/
theorem Cont.sep {Y Y' : Nat → List Value} {L : List Kd} {ps all : List Ent} {zs : List Int} {w0 : World} {a b : Nat} {d : Kd} {s : ByteArray} {x : Option Addr × Nat × Nat} (h : Cont Y (L ++ [d]) ps all zs w0 a b) (hl : ps.length = L.length) (hB : IsB 0 w0 (sv x))
    (h14 : ∀ f, 1 ≤ f → f ≤ 4 → Y' f = Y f) (h5 : Y' 5 = Y 5 ++ [.string s]) (h6 : Y' 6 = Y 6 ++ [sv x]) (h7 : Y' 7 = Y 7 ++ [.string s]) (h8 : Y' 8 = Y 8 ++ [sv x]) : Cont Y' (L ++ [d]) (ps ++ [(s, x)]) (all ++ [(s, x)]) zs w0 a b := by
  refine ⟨by rw [h14 1 (by omega) (by omega)]; exact h.y1, by rw [h14 2 (by omega) (by omega)]; exact h.y2, by rw [h14 3 (by omega) (by omega)]; exact h.y3, by rw [h14 4 (by omega) (by omega)]; exact h.y4, by rw [h5, h.y5, strs_append]; rfl, by rw [h6, h.y6, vals_append]; rfl, by rw [h7, h.y7, strs_append]; rfl, by rw [h8, h.y8, vals_append]; rfl, ?_, fun e he => ?_, h.own⟩
  · rw [h.ord, List.map_append, List.map_cons, List.map_nil, inord_snoc2 _ _ _ _ (by simp [hl]), inord_snoc _ _ _ (by simp [hl])]
  · rcases List.mem_append.1 he with he | he
    · exact h.isb e he
    · have : e = (s, x) := by simpa using he
      rw [this]; exact hB

end Go.Proofs.Qxb6600085a
