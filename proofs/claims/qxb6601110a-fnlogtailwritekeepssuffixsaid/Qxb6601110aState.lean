/-
  FnLogTailWriteKeepsSuffix: what holds between the writes; the plain law.
-/
import Derived.Test.Qxb6601110aWrite
namespace Go.Proofs.Qxb6601110a
open Go.RowKit

/-- The sum of the first k lengths; the first k chunks in one. -/
def sumL (L : Nat → Nat) : Nat → Nat
  | 0 => 0
  | k + 1 => sumL L k + L k
def cat (Z : Nat → List Int) : Nat → List Int
  | 0 => []
  | k + 1 => cat Z k ++ Z k

theorem sumL_mono (L : Nat → Nat) {k n : Nat} (h : k ≤ n) : sumL L k ≤ sumL L n := by
  induction n with
  | zero => have : k = 0 := by omega
            subst this; exact Nat.le_refl _
  | succ n ih =>
    rcases Nat.lt_or_eq_of_le h with h | h
    · have := ih (by omega); simp only [sumL]; omega
    · subst h; exact Nat.le_refl _

theorem sumL_one (L : Nat → Nat) {k n : Nat} (h : k < n) : sumL L k + L k ≤ sumL L n := sumL_mono L (k := k + 1) h

/-- THE PLAIN LAW's matter: zs is an end of all, long enough, not too long. -/
structure Suf (zs all : List Int) : Prop where
  pre : ∃ p, all = p ++ zs
  most : zs.length ≤ 131072
  least : zs.length < 65536 → all.length ≤ zs.length

theorem Suf.start : Suf [] [] := ⟨⟨[], rfl⟩, by simp, fun _ => by simp⟩

theorem Suf.le {zs all : List Int} (h : Suf zs all) : zs.length ≤ all.length := by
  obtain ⟨p, hp⟩ := h.pre
  rw [hp, List.length_append]; omega

theorem Suf.write {zs all : List Int} (h : Suf zs all) (ys : List Int) : Suf (keep (zs ++ ys)) (all ++ ys) := by
  obtain ⟨p, hp⟩ := h.pre
  have h1 := h.most
  have h2 := h.least
  unfold keep
  by_cases hb : 131072 < (zs ++ ys).length
  · rw [if_pos hb]
    have hl : ((zs ++ ys).drop ((zs ++ ys).length - 65536)).length = 65536 := by rw [List.length_drop]; omega
    refine ⟨⟨p ++ (zs ++ ys).take ((zs ++ ys).length - 65536), ?_⟩, by omega, fun h => by omega⟩
    rw [List.append_assoc, List.take_append_drop, hp, List.append_assoc]
  · rw [if_neg hb]
    refine ⟨⟨p, by rw [hp, List.append_assoc]⟩, by omega, fun h => ?_⟩
    rw [List.length_append] at h ⊢
    rw [List.length_append]
    have := h2 (by omega)
    omega

theorem Suf.cell {zs all : List Int} (h : Suf zs all) (j : Nat) : all.getD (all.length - zs.length + j) 0 = zs.getD j 0 := by
  obtain ⟨p, hp⟩ := h.pre
  subst hp
  have e : (p ++ zs).length - zs.length = p.length := by rw [List.length_append]; omega
  rw [e, List.getD_eq_getElem?_getD, List.getD_eq_getElem?_getD, List.getElem?_append_right (by omega)]
  congr 2
  omega

/-- The state: the log, and all that was written. -/
structure St (wB : World) (lb : Nat) (w : World) (ga ca n : Nat) (v : Value) (zs all : List Int) : Prop where
  below : Below wB.heap.size wB w
  log : Log wB.heap.size w lb v zs
  own : w.ownsRow wB.heap.size 5 1 (.slice (some ⟨ga, 0, none⟩) n ca) n (all.map (Value.int .u8))
  len : all.length = n
  lbB : wB.heap.size ≤ lb
  ne1 : ga ≠ lb
  ne2 : v.ownBlock ≠ some ga

theorem St.lt {wB : World} {lb : Nat} {w : World} {ga ca n : Nat} {v : Value} {zs all : List Int} (h : St wB lb w ga ca n v zs all) : wB.heap.size ≤ ga ∧ ga < w.heap.size ∧ lb < w.heap.size := by
  have := h.own.lt ga rfl
  exact ⟨this.1, this.2, h.log.cell.lt⟩

theorem log_lt {B : Nat} {w : World} {lb : Nat} {v : Value} {zs : List Int} (h : Log B w lb v zs) {g : Nat} (hg : v.ownBlock = some g) : B ≤ g ∧ g < w.heap.size := h.own.lt g hg

theorem st_start {wB w2 w3 : World} {sz : Nat} (hown : w2.ownsRow wB.heap.size 5 1 (.slice (some ⟨wB.heap.size, 0, none⟩) 0 sz) 0 []) (hgr : wB.grownBy w2 none) (hat : At w3 w2.heap.size [.slice none 0 0] 34) (hb : Below w2.heap.size w2 w3) :
    St wB w2.heap.size w3 wB.heap.size sz 0 (.slice none 0 0) [] [] := by
  have hb1 : Below wB.heap.size wB w2 := (Below.refl _ _).grown hgr (Nat.le_refl _) (fun k hk => by cases hk)
  have hl := (hown.lt wB.heap.size rfl).2
  refine ⟨hb1.trans (hb.mono hb1.size), ⟨hat, ⟨rfl, .inl ⟨rfl, rfl⟩⟩, by simp [Value.ownBlock]⟩, ?_, rfl, hgr.size, by omega, by simp [Value.ownBlock]⟩
  exact owns_upd hown (Upd.of_below (S := fun _ => False) hb) (fun _ _ h => h)

/-- Behind Write. -/
theorem St.write {wB : World} {lb : Nat} {w w' : World} {ga ca n m : Nat} {v : Value} {zs zs' all : List Int} {e : Ending} (h : St wB lb w ga ca n v zs all) (hw : Wrote wB.heap.size w lb v zs' m e w') :
    e = .returned (.tuple #[.int .i64 m, .nilIface]) ∧ ∃ v', St wB lb w' ga ca n v' zs' all := by
  obtain ⟨he, v', hL, hu, hg⟩ := hw
  refine ⟨he, v', ?_, hL, ?_, h.len, h.lbB, h.ne1, ?_⟩
  · refine h.below.trans (hu.below h.below.size (fun k hk hh => ?_))
    rcases hh with hh | hh
    · have := h.lbB; omega
    · have := (log_lt h.log hh.symm).1; omega
  · refine owns_upd h.own hu (fun g hgg hh => ?_)
    have : g = ga := by simpa [Value.ownBlock] using hgg.symm
    subst this
    rcases hh with hh | hh
    · exact h.ne1 hh
    · exact h.ne2 hh.symm
  · rcases hg with hg | ⟨g, hg, hgw⟩
    · rw [hg]; exact h.ne2
    · rw [hg]
      have := h.lt.2.1
      intro hh; cases hh; omega

/-- Behind an append onto all. -/
theorem St.more {wB : World} {lb : Nat} {w w' : World} {ga ca n m ga' ca' : Nat} {v : Value} {zs all ys : List Int} (h : St wB lb w ga ca n v zs all) (hm : ys.length = m)
    (hown : w'.ownsRow wB.heap.size 5 1 (.slice (some ⟨ga', 0, none⟩) (n + m) ca') (n + m) (all.map (Value.int .u8) ++ ys.map (Value.int .u8))) (hgr : w.grownBy w' (some ga)) (hg : ga' = ga ∨ ga' = w.heap.size) :
    St wB lb w' ga' ca' (n + m) v zs (all ++ ys) := by
  have hlt := h.lt
  have hu := Upd.of_grown hgr
  refine ⟨?_, ⟨?_, ?_, h.log.ne⟩, by rw [List.map_append]; exact hown, by rw [List.length_append, h.len, hm], h.lbB, ?_, ?_⟩
  · exact h.below.trans (hu.below h.below.size (fun k hk hh => by cases hh; omega))
  · exact h.log.cell.upd hu (fun hh => by cases hh; exact h.ne1 rfl)
  · exact owns_upd h.log.own hu (fun g hgg hh => by cases hh; exact h.ne2 hgg)
  · have := h.ne1
    rcases hg with e | e
    · omega
    · omega
  · rcases hg with e | e
    · rw [e]; exact h.ne2
    · intro hh
      have := (log_lt h.log hh).2
      omega

theorem St.alloc {wB : World} {lb : Nat} {w : World} {ga ca n : Nat} {v : Value} {zs all : List Int} (h : St wB lb w ga ca n v zs all) (o : Obj) : St wB lb (w.alloc o) ga ca n v zs all := by
  have hu : Upd (fun _ => False) w (w.alloc o) := (Upd.refl _ w).alloc o
  exact ⟨h.below.alloc h.below.size o, ⟨h.log.cell.alloc o, owns_upd h.log.own hu (fun _ _ hh => hh), h.log.ne⟩, h.own.alloc o, h.len, h.lbB, h.ne1, h.ne2⟩

/-- Only draws. -/
def Drew (w w' : World) : Prop := ∃ nq, w' = w.drewN nq
theorem Drew.refl (w : World) : Drew w w := ⟨0, rfl⟩
theorem Drew.more {w w' : World} (h : Drew w w') (n : Nat) : Drew w (w'.drewN n) := by
  obtain ⟨m, rfl⟩ := h
  exact ⟨m + n, by rw [World.drewN_drewN]⟩
theorem Drew.drew {w w' : World} (h : Drew w w') : Drew w w'.drew := h.more 1

theorem St.drew {wB : World} {lb : Nat} {w w' : World} {ga ca n : Nat} {v : Value} {zs all : List Int} (h : St wB lb w ga ca n v zs all) (d : Drew w w') : St wB lb w' ga ca n v zs all := by
  obtain ⟨m, rfl⟩ := d
  exact ⟨⟨h.below.os, h.below.tape, h.below.output, h.below.size, h.below.block⟩, ⟨h.log.cell, h.log.own, h.log.ne⟩, h.own, h.len, h.lbB, h.ne1, h.ne2⟩

theorem owns_cell {B : Nat} {w : World} {ao : Option Addr} {n cap : Nat} {zs : List Int} (h : w.ownsRow B 5 1 (.slice ao n cap) n (zs.map (Value.int .u8))) : zs.length = n ∧ ∀ i, i < n → ∃ g, ao = some ⟨g, 0, none⟩ ∧ w.cell? ⟨g, i, none⟩ = some (.int .u8 (zs.getD i 0)) := by
  have hl : zs.length = n := by simpa using h.1
  refine ⟨hl, fun i hi => ?_⟩
  rcases h.2 with ⟨hv, hn⟩ | ⟨g, cap', cur, hv, -⟩
  · have : n = 0 := hn
    omega
  · cases hv
    obtain ⟨rest, -, hat, -⟩ := owns_at h
    refine ⟨g, rfl, hat.cell ?_⟩
    rw [List.getElem?_append_left (by simpa [hl] using hi), List.getElem?_map]
    simp [List.getD, show i < zs.length by omega]

/-- The clones so far. -/
def Cloned (w wr : World) (n k : Nat) (L : Nat → Nat) (Z : Nat → List Int) : Prop :=
  Below w.heap.size w wr ∧ ∃ vs : List Value, vs.length = k ∧ At wr w.heap.size (vs ++ List.replicate (n - k) (.slice none 0 0)) 24 ∧ ∀ i, i < k → ∃ A C, vs[i]? = some (.slice A (L i) C) ∧ Src wr A (L i) (Z i)

theorem Src.set {w : World} {ao : Option Addr} {n : Nat} {zs : List Int} (h : Src w ao n zs) {a : Addr} {x : Option Addr} {l c : Nat} (ha : w.cell? a = some (.slice x l c)) (v : Value) : Src (w.setCell a v) ao n zs :=
  ⟨h.len, h.nil, fun i hi => by
    obtain ⟨b, off, h1, h2⟩ := h.cell i hi
    refine ⟨b, off, h1, ?_⟩
    rw [World.cell?_setCell_other _ _ _ _ (fun e => ?_)]
    · exact h2
    · rw [← e, ha] at h2; cases h2⟩

theorem cloned_cell {w wr : World} {n k : Nat} {L : Nat → Nat} {Z : Nat → List Int} (h : Cloned w wr n k L Z) (hk : k < n) : wr.cell? ⟨w.heap.size, k, none⟩ = some (.slice none 0 0) ∧ wr.frozen? ⟨w.heap.size, k, none⟩ = false := by
  obtain ⟨-, vs, hl, hat, -⟩ := h
  refine ⟨hat.cell ?_, hat.frozen _⟩
  rw [List.getElem?_append_right (by omega), List.getElem?_replicate, if_pos (by omega)]

theorem cloned_step {w wr w1 : World} {n k : Nat} {L : Nat → Nat} {Z : Nat → List Int} {A : Option Addr} {C : Nat} (h : Cloned w wr n k L Z) (hk : k < n) (hb : Below wr.heap.size wr w1) (hs : Src w1 A (L k) (Z k)) :
    w1.cell? ⟨w.heap.size, k, none⟩ = some (.slice none 0 0) ∧ w1.frozen? ⟨w.heap.size, k, none⟩ = false ∧ Cloned w (w1.setCell ⟨w.heap.size, k, none⟩ (.slice A (L k) C)) n (k + 1) L Z := by
  obtain ⟨hc, hf⟩ := cloned_cell h hk
  obtain ⟨hB, vs, hl, hat, hv⟩ := h
  have hat1 := hat.below hb hat.lt
  have hc1 : w1.cell? ⟨w.heap.size, k, none⟩ = some (.slice none 0 0) := by
    refine hat1.cell ?_
    rw [List.getElem?_append_right (by omega), List.getElem?_replicate, if_pos (by omega)]
  refine ⟨hc1, hat1.frozen _, (hB.trans (hb.mono hB.size)).setCell (by simp) _, vs ++ [.slice A (L k) C], by simp [hl], ?_, ?_⟩
  · have := hat1.set k (.slice A (L k) C)
    have e : (vs ++ List.replicate (n - k) (Value.slice none 0 0)).set k (.slice A (L k) C) = vs ++ [.slice A (L k) C] ++ List.replicate (n - (k + 1)) (Value.slice none 0 0) := by
      obtain ⟨m, hm⟩ : ∃ m, n - k = m + 1 := ⟨n - k - 1, by omega⟩
      have hm' : n - (k + 1) = m := by omega
      rw [hm, hm', List.replicate_succ, List.set_append_right _ _ (by omega), hl, Nat.sub_self, List.set_cons_zero, List.append_assoc]
      rfl
    rw [e] at this
    exact this
  · intro i hi
    rcases Nat.lt_succ_iff_lt_or_eq.1 hi with h | h
    · obtain ⟨A', C', h1, h2⟩ := hv i h
      exact ⟨A', C', by rw [List.getElem?_append_left (by omega)]; exact h1, (h2.below hb).set hc1 _⟩
    · subst h
      exact ⟨A, C, by rw [List.getElem?_append_right (by omega), hl, Nat.sub_self]; rfl, hs.set hc1 _⟩

theorem cloned_row {w wr : World} {n : Nat} {L : Nat → Nat} {Z : Nat → List Int} (h : Cloned w wr n n L Z) : Row wr (some ⟨w.heap.size, 0, none⟩) n L Z := by
  obtain ⟨-, vs, hl, hat, hv⟩ := h
  intro i hi
  obtain ⟨A, C, h1, h2⟩ := hv i hi
  refine ⟨_, _, A, C, rfl, hat.cell ?_, h2⟩
  rw [Nat.zero_add, List.getElem?_append_left (by omega)]
  exact h1

end Go.Proofs.Qxb6601110a
