/-
  (*logTail).Write.
-/
import Derived.Test.Qxb6601110aTail
import Derived.BigRegion
namespace Go.Proofs.Qxb6601110a
open Go.RowKit

/-- What a logTail keeps of what it held with what was written. -/
def keep (l : List Int) : List Int := if 131072 < l.length then l.drop (l.length - 65536) else l

/-- A log: its one cell, and the bytes it leads to. -/
structure Log (B : Nat) (w : World) (lb : Nat) (v : Value) (zs : List Int) : Prop where
  cell : At w lb [v] 34
  own : w.ownsRow B 5 1 v zs.length (zs.map (Value.int .u8))
  ne : v.ownBlock ≠ some lb

/-- What Write leaves. -/
def Wrote (B : Nat) (w : World) (lb : Nat) (v : Value) (zs : List Int) (m : Nat) (e : Ending) (w' : World) : Prop :=
  e = .returned (.tuple #[.int .i64 m, .nilIface]) ∧ ∃ v', Log B w' lb v' zs ∧ Upd (fun k => k = lb ∨ some k = v.ownBlock) w w' ∧ (v'.ownBlock = v.ownBlock ∨ ∃ g, v'.ownBlock = some g ∧ w.heap.size ≤ g)

theorem log_store {B : Nat} {w w1 : World} {lb n : Nat} {v v' : Value} {zs ys : List Int} (h : Log B w lb v zs) (hn : ys.length = n) (hown : w1.ownsRow B 5 1 v' n (ys.map (Value.int .u8))) (hgr : w.grownBy w1 v.ownBlock) (hat : v'.ownBlock = v.ownBlock ∨ v'.ownBlock = some w.heap.size) :
    Log B (w1.setCell ⟨lb, 0, none⟩ v') lb v' ys ∧ Upd (fun k => k = lb ∨ some k = v.ownBlock) w (w1.setCell ⟨lb, 0, none⟩ v') := by
  have hlt := h.cell.lt
  have hne : v'.ownBlock ≠ some lb := by
    rcases hat with e | e
    · rw [e]; exact h.ne
    · rw [e]; intro hh; cases hh; omega
  have h1 : At w1 lb [v] 34 := h.cell.upd (Upd.of_grown hgr) (fun hh => h.ne hh.symm)
  have u1 : Upd (fun k => k = lb ∨ some k = v.ownBlock) w w1 := (Upd.of_grown hgr).mono (fun _ _ hh => .inr hh)
  refine ⟨⟨?_, ?_, hne⟩, u1.setCell _ _ (fun _ => .inl rfl)⟩
  · exact h1.set 0 v'
  · rw [hn]
    exact owns_upd hown ((Upd.refl (fun k => k = lb) w1).setCell _ _ (fun _ => rfl)) (fun g hg hh => by subst hh; exact hne hg)

theorem log_cells {B : Nat} {w : World} {lb : Nat} {v : Value} {zs : List Int} (h : Log B w lb v zs) : w.cell? ⟨lb, 0, none⟩ = some v ∧ w.frozen? ⟨lb, 0, none⟩ = false := ⟨h.cell.cell (i := 0) rfl, h.cell.frozen 0⟩

/-- The second append: onto the row's head, from the row's tail. -/
theorem tail_row {B : Nat} {w : World} {g n cap : Nat} {l : List Int} (hown : w.ownsRow B 5 1 (.slice (some ⟨g, 0, none⟩) n cap) n (l.map (Value.int .u8))) (hbig : 131072 < n) :
    w.ownsRow B 5 1 (.slice (some ⟨g, 0, none⟩) 0 cap) 0 [] ∧ ((l.drop (n - 65536)).map (Value.int .u8)).length = 65536 * 1 ∧
      (∀ ad, some (⟨g, n - 65536, none⟩ : Addr) = some ad → ∀ j u, ((l.drop (n - 65536)).map (Value.int .u8))[j]? = some u → w.cell? (ad.add j) = some u) ∧ n ≤ cap ∧ cap ≤ maxLen := by
  obtain ⟨rest, -, hat, h1, h2, h3, h4, hb⟩ := owns_at hown
  have hl : l.length = n := by simpa using h3
  refine ⟨owns_mk (rest := l.map (Value.int .u8) ++ rest) (by simpa using hat) (Nat.zero_le _) h2 rfl (by simpa using h4) hb, by simp [hl]; omega, ?_, h1, h2⟩
  intro ad ha j u hj
  cases ha
  rw [Addr.add_lit]
  refine hat.cell ?_
  rw [List.map_drop, List.getElem?_drop] at hj
  rw [List.getElem?_append_left]
  · exact hj
  · rcases Nat.lt_or_ge (n - 65536 + j) (l.map (Value.int .u8)).length with h | h
    · exact h
    · rw [List.getElem?_eq_none h] at hj; cases hj

theorem wraps_i64' (p : Nat) (h : p ≤ 4194304) : IntKind.i64.wrap (p : Int) = (p : Int) := by rw [IntKind.wrap_i64]; omega

set_option maxRecDepth 100000 in
set_option maxHeartbeats 1600000 in
theorem f7_core (B : Nat) (w : World) (lb : Nat) (v : Value) (zs : List Int) (ap : Option Addr) (m cp : Nat) (ys : List Int) (hL : Log B w lb v zs) (hs : Src w ap m ys) (hB : B ≤ w.heap.size) (hlen : zs.length + m ≤ 4194304)
    (l : List Int) (n : Nat) (hl : zs ++ ys = l) (hn : zs.length + m = n) :
    Calls Try.prog 7 #[.pointer (some ⟨lb, 0, none⟩), .slice ap m cp] w fun e w' => Wrote B w lb v (keep l) m e w' := by
  obtain ⟨i0, hi, hz0, hz1, hz2⟩ := info_parts info5
  have hlen' : (zs.length : Int) + m ≤ 4194304 := by omega
  obtain ⟨q0, q1⟩ := log_cells hL
  have o3 := ints_oneCell .u8 ys
  have lz : (ys.map (Value.int .u8)).length = m * 1 := by simp [hs.len]
  have hnews := hs.news
  have hnil := hs.nil
  have hlt := hL.cell.lt
  have hyl := hs.len
  have lz2 : l.length = n := by rw [← hl, List.length_append, hyl, hn]
  have hn' : n ≤ 4194304 := by omega
  have HN := hide hn
  clear hs hn
  go_enter Try.func7, Try.ntmps7
  go_wp2_with (at_builtin; refine wpList_append_any _ rfl (.tmp 10) (.tmp 11) 24 rfl B 5 i0 _ 1 1 Try.underlying24 hi hz0 hz1 hz2 rfl (by decide) v zs.length _ rfl hL.own ap m cp (ys.map (Value.int .u8)) rfl hnil lz hnews o3 (by unfold maxLen; omega) (by omega) hB ?_)
  intro v1 w1 hown1 hgr1 hat1
  rw [← List.map_append, hl, HN.out] at hown1
  have hq1 : w1.cell? ⟨lb, 0, none⟩ = some v := (hgr1.cell_far ⟨lb, 0, none⟩ hlt (fun h => hL.ne h.symm)).trans q0
  have hq2 : w1.frozen? ⟨lb, 0, none⟩ = false := (hgr1.frozen_far ⟨lb, 0, none⟩ hlt (fun h => hL.ne h.symm)).trans q1
  obtain ⟨hL2, hu2⟩ := log_store (n := n) hL (ys := l) lz2 hown1 hgr1 hat1
  obtain ⟨a1, c1, hv1, hm1, hg1⟩ := owns_form hown1
  have HL2 := hide hL2
  have HU2 := hide hu2
  have HA1 := hide hat1
  have HO := hide hown1
  clear hL2 hu2 hat1 hown1 hgr1 hL q0 q1 hnews hnil lz o3
  subst hv1
  clear HO hl HN hlen hlen' hyl
  by_cases hbig : 131072 < n
  · obtain ⟨g, rfl⟩ : ∃ g, a1 = some ⟨g, 0, none⟩ := by
      rcases hg1 with h | h
      · exfalso
        subst h
        rcases HL2.out.own.2 with ⟨h, -⟩ | ⟨g, cap, cur, h, -⟩
        · cases h; omega
        · cases h
      · exact h
    clear hg1
    go_wp2
    generalize w1.setCell ⟨lb, 0, none⟩ (.slice (some ⟨g, 0, none⟩) n c1) = w2 at *
    obtain ⟨q0, q1⟩ := log_cells HL2.out
    have hown := HL2.out.own
    rw [lz2] at hown
    obtain ⟨r1, r2, r3, r4, r5⟩ := tail_row hown hbig
    have r6 := ints_oneCell .u8 (l.drop (n - 65536))
    have hB2 : B ≤ w2.heap.size := Nat.le_trans hB HU2.out.size
    have hlt2 := HL2.out.cell.lt
    have hne := HL2.out.ne
    have hbg : 65536 ≤ n := by omega
    have hgl : g ≠ lb := fun h => hne (by simp [Value.ownBlock, h])
    clear hown hne hq1 hq2
    obtain ⟨p, hp⟩ : ∃ p, n - 65536 = p := ⟨_, rfl⟩
    rw [hp] at r2 r3 r6
    have e1 : IntKind.i64.wrap ((n : Int) - 65536) = (p : Int) := by
      have : (n : Int) - 65536 = (p : Int) := by omega
      rw [this]
      exact wraps_i64' p (by omega)
    have e2 : n - p = 65536 := by omega
    have e3 : ¬ c1 = p := by omega
    have e4 : (p : Int) ≤ n := by omega
    have e5 : (0 : Int) ≤ p := by omega
    have HP := hide hp
    clear hp
    go_region_law ((refine step_append_gen _ (by rfl) _ _ 24 (by rfl) B 5 i0 _ 1 1 Try.underlying24 hi hz0 hz1 hz2 rfl (by omega) g 0 c1 [] (by rfl) (by exact r1) (some ⟨g, p, none⟩) 65536 (c1 - p) ((l.drop p).map (Value.int .u8)) (by rfl) (by simp) r2 (by exact r3) r6 (by unfold maxLen; omega) (by omega) (by exact hB2) ?_; intro g3 c3 w3 hown3 hgr3 hat3; have hq1 : w3.cell? ⟨lb, 0, none⟩ = some (.slice (some ⟨g, 0, none⟩) n c1) := (hgr3.cell_far ⟨lb, 0, none⟩ (by exact hlt2) (by simp; omega)).trans q0; have hq2 : w3.frozen? ⟨lb, 0, none⟩ = false := (hgr3.frozen_far ⟨lb, 0, none⟩ (by exact hlt2) (by simp; omega)).trans q1))
    all_goals
      rw [Nat.zero_add, List.nil_append] at hown3
      have hgr4 : w2.grownBy w3 (some g) := ⟨hgr3.os, hgr3.tape, hgr3.output, hgr3.size, hgr3.block⟩
      obtain ⟨hL4, hu4⟩ := log_store (n := 65536) HL2.out (ys := l.drop p) (by simpa using r2) hown3 hgr4 (by simpa [Value.ownBlock] using hat3)
      have hk : keep l = l.drop p := by unfold keep; rw [if_pos (by omega), lz2, HP.out]
      have hfin : ∃ v', Log B (w3.setCell ⟨lb, 0, none⟩ (.slice (some ⟨g3, 0, none⟩) 65536 c3)) lb v' (keep l) ∧ Upd (fun k => k = lb ∨ some k = v.ownBlock) w (w3.setCell ⟨lb, 0, none⟩ (.slice (some ⟨g3, 0, none⟩) 65536 c3)) ∧ (v'.ownBlock = v.ownBlock ∨ ∃ g, v'.ownBlock = some g ∧ w.heap.size ≤ g) := by
        rw [hk]
        have hA := HA1.out
        have hsz := HU2.out.size
        simp only [Value.ownBlock] at hA
        refine ⟨_, hL4, HU2.out.then hu4 ?_, ?_⟩
        · intro i hi hh
          rcases hh with hh | hh
          · exact .inl hh
          · right
            simp only [Value.ownBlock] at hh
            rcases hA with h | h
            · rw [hh]; exact h
            · rw [h] at hh; cases hh; omega
        · simp only [Value.ownBlock]
          rcases hat3 with h | h
          · rw [h]
            rcases hA with h | h
            · exact .inl h
            · exact .inr ⟨g, rfl, by cases h; exact Nat.le_refl _⟩
          · exact .inr ⟨g3, rfl, by
              have h' : g3 = w2.heap.size := h
              omega⟩
      have HF := hide hfin
      clear hfin hk hL4 hu4 hown3 hgr3 hgr4 hat3 hq1 hq2 r1 r2 r3 r4 r5 r6 HL2 HU2 HA1 q0 q1
      go_wp2
      go_ret2
      exact ⟨rfl, HF.out⟩
  · have hb' : n ≤ 131072 := by omega
    have HK := hide (show keep l = l by unfold keep; rw [if_neg (by omega)])
    clear hbig
    go_wp2
    go_ret2
    rw [HK.out]
    exact ⟨rfl, _, HL2.out, HU2.out, or_r HA1.out (fun h => ⟨_, h, Nat.le_refl _⟩)⟩

theorem f7_any (B : Nat) (w : World) (lb : Nat) (v : Value) (zs : List Int) (ap : Option Addr) (m cp : Nat) (ys : List Int) (hL : Log B w lb v zs) (hs : Src w ap m ys) (hB : B ≤ w.heap.size) (hlen : zs.length + m ≤ 4194304) :
    Calls Try.prog 7 #[.pointer (some ⟨lb, 0, none⟩), .slice ap m cp] w fun e w' => Wrote B w lb v (keep (zs ++ ys)) m e w' :=
  f7_core B w lb v zs ap m cp ys hL hs hB hlen _ _ rfl rfl

end Go.Proofs.Qxb6601110a
