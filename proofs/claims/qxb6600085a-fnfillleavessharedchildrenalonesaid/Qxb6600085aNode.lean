/-
  A node in memory; ZZMakeNode.
-/
import Derived.Test.Qxb6600085aKey
import Derived.Deep.RegionHeld3
import Derived.Deep.DrawnRows
namespace Go.Proofs.Qxb6600085a
open Go.RowKit

theorem hide {p : Prop} (h : p) : Hid p := h

theorem frozen_new (w : World) (o : Obj) (b i : Nat) (h : b < w.heap.size) : (w.alloc o).frozen? ⟨b, i, none⟩ = w.frozen? ⟨b, i, none⟩ :=
  World.frozen?_of_block (w := w) (Below.heap_alloc w o b h)

theorem pv_one (ks : List Nat) : ∀ u ∈ ks.map (fun b => Value.pointer (some ⟨b, 0, none⟩)), u.oneCell' = true := by
  intro u hu
  obtain ⟨j, -, rfl⟩ := List.mem_map.1 hu
  rfl

theorem info64 : (Try.prog.info? 64).map (fun i => (i.zero, i.size, i.bytes)) = some (some (.agg #[.string ⟨#[]⟩, .slice none 0 0]), 2, 40) := by kernel_rfl
theorem info32 : (Try.prog.info? 32).map (fun i => (i.zero, i.size, i.bytes)) = some (some (.pointer none), 1, 8) := by kernel_rfl
theorem info9 : (Try.prog.info? 9).map (fun i => (i.zero, i.size, i.bytes)) = some (some (.string ⟨#[]⟩), 1, 16) := by kernel_rfl

/-- An entry: its key's bytes, and the value's slice header. -/
abbrev Ent := ByteArray × (Option Addr × Nat × Nat)
abbrev sv (s : Option Addr × Nat × Nat) : Value := .slice s.1 s.2.1 s.2.2
abbrev pv (b : Nat) : Value := .pointer (some ⟨b, 0, none⟩)
/-- The cells of entries. -/
def flat (es : List Ent) : List Value := es.flatMap fun p => [.string p.1, sv p.2]
theorem flat_append (a b : List Ent) : flat (a ++ b) = flat a ++ flat b := by simp [flat]
theorem flat_one (s : ByteArray) (A : Option Addr) (L C : Nat) : flat [(s, A, L, C)] = [.string s, .slice A L C] := rfl
theorem flat_length (es : List Ent) : (flat es).length = es.length * 2 := by
  induction es with
  | nil => rfl
  | cons p es ih =>
    have : flat (p :: es) = [.string p.1, sv p.2] ++ flat es := rfl
    rw [this, List.length_append, ih]; simp; omega
theorem flat_one_cell (es : List Ent) : ∀ u ∈ flat es, u.oneCell' = true := by
  intro u hu
  simp [flat] at hu
  obtain ⟨a, b, c, d, -, rfl | rfl⟩ := hu <;> rfl

/-- The children's slice: nil in a leaf. -/
def KidsV (inner : Bool) (kv : Value) (ks : List Nat) : Prop := if inner then ∃ g c, kv = .slice (some ⟨g, 0, none⟩) ks.length c else kv = .slice none 0 0 ∧ ks = []

structure NodeAt (w : World) (b o : Nat) (ev : Value) (es : List Ent) (kv : Value) (inner : Bool) (ks : List Nat) : Prop where
  cells : At w b [pv o, ev, kv] 69
  ents : w.ownsRow 0 64 2 ev es.length (flat es)
  kids : w.ownsRow 0 32 1 kv ks.length (ks.map pv)
  enn : ∃ g c, ev = .slice (some ⟨g, 0, none⟩) es.length c
  knn : KidsV inner kv ks
  d1 : ev.ownBlock ≠ some b
  d2 : kv.ownBlock ≠ some b
  d3 : ev.ownBlock ≠ kv.ownBlock

/-- All that the node's own memory is lies from block lo on. -/
def From (lo b : Nat) (ev kv : Value) : Prop := lo ≤ b ∧ (∀ g, ev.ownBlock = some g → lo ≤ g) ∧ (∀ g, kv.ownBlock = some g → lo ≤ g)

theorem From.mono {lo lo' b : Nat} {ev kv : Value} (h : From lo b ev kv) (hl : lo' ≤ lo) : From lo' b ev kv :=
  ⟨Nat.le_trans hl h.1, fun g hg => Nat.le_trans hl (h.2.1 g hg), fun g hg => Nat.le_trans hl (h.2.2 g hg)⟩

theorem NodeAt.upd {S : Nat → Prop} {w w' : World} {b o : Nat} {ev : Value} {es : List Ent} {kv : Value} {inner : Bool} {ks : List Nat} (h : NodeAt w b o ev es kv inner ks) (u : Upd S w w')
    (h1 : ¬ S b) (h2 : ∀ g, ev.ownBlock = some g → ¬ S g) (h3 : ∀ g, kv.ownBlock = some g → ¬ S g) : NodeAt w' b o ev es kv inner ks :=
  ⟨h.cells.upd u h1, owns_upd h.ents u h2, owns_upd h.kids u h3, h.enn, h.knn, h.d1, h.d2, h.d3⟩

theorem NodeAt.below {w w' : World} {b o : Nat} {ev : Value} {es : List Ent} {kv : Value} {inner : Bool} {ks : List Nat} (h : NodeAt w b o ev es kv inner ks) (u : Below w.heap.size w w') : NodeAt w' b o ev es kv inner ks :=
  h.upd (S := fun _ => False) (Upd.of_below u) (fun h => h) (fun _ _ h => h) (fun _ _ h => h)

/-- What a call that makes a node leaves. -/
def NewNode (w w' : World) (e : Ending) (o : Nat) (es : List Ent) (inner : Bool) (ks : List Nat) : Prop :=
  ∃ b ev kv, e = .returned (pv b) ∧ NodeAt w' b o ev es kv inner ks ∧ From w.heap.size b ev kv ∧ Below w.heap.size w w'

/-- ZZMakeNode behind k rounds. -/
def MkInv (w wr : World) (b o : Nat) (es : List Ent) (k : Nat) : Prop :=
  ∃ ge ce, At wr b [pv o, .slice (some ⟨ge, 0, none⟩) k ce, .slice none 0 0] 69 ∧ wr.ownsRow w.heap.size 64 2 (.slice (some ⟨ge, 0, none⟩) k ce) k (flat (es.take k)) ∧ ge ≠ b ∧ Below w.heap.size w wr ∧ w.heap.size ≤ b

theorem mk_step {w wr w0 w1 : World} {b o ge ce gg cap k : Nat} {es : List Ent} {p : Ent} (hk : k < es.length) (hp : es[k] = p) (hat : At wr b [pv o, .slice (some ⟨ge, 0, none⟩) k ce, .slice none 0 0] 69)
    (hown : wr.ownsRow w.heap.size 64 2 (.slice (some ⟨ge, 0, none⟩) k ce) k (flat (es.take k))) (hne : ge ≠ b) (hbel : Below w.heap.size w wr) (hwb : w.heap.size ≤ b)
    (hw0 : Below wr.heap.size wr w0) (hown1 : w1.ownsRow w.heap.size 64 2 (.slice (some ⟨gg, 0, none⟩) (k + 1) cap) (k + 1) (flat (es.take k) ++ [.string p.1, sv p.2])) (hgrow : w0.grownBy w1 (some ge)) (hgg : some ge = some gg ∨ wr.heap.size ≤ gg) :
    MkInv w (w1.setCell ⟨b, 1, none⟩ (.slice (some ⟨gg, 0, none⟩) (k + 1) cap)) b o es (k + 1) := by
  have hblt := hat.lt
  have hge := hown.lt ge rfl
  have hat0 := hat.below hw0 hblt
  have hat1 := hat0.upd (Upd.of_grown hgrow) (fun h => hne (by simpa using h.symm))
  have hgb : gg ≠ b := by
    rcases hgg with h | h
    · cases h; exact hne
    · omega
  have e : flat (es.take (k + 1)) = flat (es.take k) ++ [.string p.1, sv p.2] := by
    rw [List.take_succ_eq_append_getElem hk, flat_append, hp]; rfl
  refine ⟨gg, cap, ?_, ?_, hgb, ?_, hwb⟩
  · exact hat1.set 1 _
  · rw [e]
    exact owns_upd hown1 ((Upd.refl (fun i => i = b) w1).setCell _ _ (fun _ => rfl)) (fun g hg he => hgb (by simp [Value.ownBlock] at hg; omega))
  · have h0 := hbel.trans (hw0.mono (by have := hbel.size; omega))
    exact (h0.grown hgrow h0.size (fun i hi => by simp at hi; omega)).setCell (by simpa using hwb) _

/-- The children laid into the node. -/
theorem mk_kids {w wr w2 w3 : World} {b o gg cap : Nat} {es : List Ent} {ks : List Nat} (hinv : MkInv w wr b o es es.length) (hgr2 : wr.grownBy w2 none)
    (hown3 : w3.ownsRow wr.heap.size 32 1 (.slice (some ⟨gg, 0, none⟩) ks.length cap) ks.length (ks.map pv)) (hgr3 : (w2.setCell ⟨b, 2, none⟩ (.slice (some ⟨wr.heap.size, 0, none⟩) 0 32)).grownBy w3 (some wr.heap.size)) :
    NewNode w (w3.setCell ⟨b, 2, none⟩ (.slice (some ⟨gg, 0, none⟩) ks.length cap)) (.returned (pv b)) o es true ks := by
  obtain ⟨ge, ce, hat, hown, hne, hbel, hwb⟩ := hinv
  rw [List.take_length] at hown
  have hblt := hat.lt
  have hge := hown.lt ge rfl
  have hgg := hown3.lt gg rfl
  have u2 := Upd.of_grown hgr2
  have u2' : Upd (fun i => i = b) w2 (w2.setCell ⟨b, 2, none⟩ (.slice (some ⟨wr.heap.size, 0, none⟩) 0 32)) := (Upd.refl _ _).setCell _ _ (fun _ => rfl)
  have u3 := Upd.of_grown hgr3
  have u4 : Upd (fun i => i = b) w3 (w3.setCell ⟨b, 2, none⟩ (.slice (some ⟨gg, 0, none⟩) ks.length cap)) := (Upd.refl _ _).setCell _ _ (fun _ => rfl)
  have at2 := hat.upd u2 (by simp)
  have at2' := at2.set 2 (.slice (some ⟨wr.heap.size, 0, none⟩) 0 32)
  have at3 := at2'.upd u3 (by simp; omega)
  have at4 := at3.set 2 (.slice (some ⟨gg, 0, none⟩) ks.length cap)
  have e4 := owns_upd (owns_upd (owns_upd (owns_upd hown u2 (by simp)) u2' (fun g hg => by simp [Value.ownBlock] at hg; omega)) u3 (fun g hg => by simp [Value.ownBlock] at hg; simp; omega)) u4 (fun g hg => by simp [Value.ownBlock] at hg; omega)
  have k4 := owns_upd hown3 u4 (fun g hg => by simp [Value.ownBlock] at hg; omega)
  refine ⟨b, .slice (some ⟨ge, 0, none⟩) es.length ce, .slice (some ⟨gg, 0, none⟩) ks.length cap, rfl, ⟨at4, owns_base e4 (fun _ _ => Nat.zero_le _), ?_, ⟨_, _, rfl⟩, ⟨_, _, rfl⟩, ?_, ?_, ?_⟩, ⟨hwb, ?_, ?_⟩, ?_⟩
  · exact owns_base k4 (fun _ _ => Nat.zero_le _)
  · simp [Value.ownBlock]; exact hne
  · simp [Value.ownBlock]; omega
  · simp [Value.ownBlock]; omega
  · intro g hg; simp [Value.ownBlock] at hg; omega
  · intro g hg; simp [Value.ownBlock] at hg; have := hbel.size; omega
  · have s0 := hbel.size
    have s2 := hgr2.size
    have b2 := hbel.grown hgr2 s0 (fun k hk => by cases hk)
    have b2' := b2.setCell (p := ⟨b, 2, none⟩) hwb (.slice (some ⟨wr.heap.size, 0, none⟩) 0 32)
    have b3 := b2'.grown hgr3 b2'.size (fun k hk => by simp at hk; omega)
    exact b3.setCell (p := ⟨b, 2, none⟩) hwb _

attribute [local go_sem ↓] Go.wp_at_zero Go.wp_at_succ

set_option maxRecDepth 100000 in
set_option maxHeartbeats 1600000 in
theorem f15_any (w : World) (o : Nat) (ka va kao : Option Addr) (kc vn vc kcap : Nat) (es : List Ent) (ks : List Nat) (inner : Bool) (hes : es.length ≤ 1048576) (hvn : es.length ≤ vn)
    (hk : ∀ i (h : i < es.length), ∃ b, ka = some ⟨b, 0, none⟩ ∧ w.cell? ⟨b, i, none⟩ = some (.string es[i].1))
    (hv : ∀ i (h : i < es.length), ∃ b, va = some ⟨b, 0, none⟩ ∧ w.cell? ⟨b, i, none⟩ = some (sv es[i].2))
    (hkk : (inner = false ∧ kao = none ∧ ks = []) ∨ (inner = true ∧ 0 < ks.length ∧ ks.length ≤ 1048577 ∧ ∃ gk, kao = some ⟨gk, 0, none⟩ ∧ ∀ j u, (ks.map pv)[j]? = some u → w.cell? ((⟨gk, 0, none⟩ : Addr).add j) = some u)) :
    Calls Try.prog 15 #[pv o, .slice ka es.length kc, .slice va vn vc, .slice kao ks.length kcap] w fun e w' => NewNode w w' e o es inner ks := by
  obtain ⟨i0, hi0, hz0, hz1, hz2⟩ := info_parts info64
  obtain ⟨j0, hj0, hy0, hy1, hy2⟩ := info_parts info32
  have h1 := fun w => run_neq_slice_nil_any (P := Try.prog) w 31 32 kao ks.length kcap 0 0 Try.underlying31
  go_enter Try.func15, Try.ntmps15
  go_wp2_with (at_make; refine wpList_make_own _ rfl _ _ 67 rfl w.heap.size 64 i0 _ 2 Try.underlying67 hi0 hz0 hz1 .i64 .i64 31 31 rfl rfl rfl ?_ ?_ (Nat.le_refl _) ?_)
  · rw [hz2]; omega
  · unfold maxLen; omega
  intro w1 hown hgr
  have hsz := hgr.size
  go_wp2
  go_loopw [10] (fun i wr => ∃ k : Nat, k ≤ es.length ∧ i = .int .i64 k ∧ MkInv w wr w1.heap.size o es k) (fun i _ => es.length - (intOf i).toNat)
  case atStart =>
    refine ⟨0, Nat.zero_le _, rfl, w.heap.size, 31, heap_alloc_new w1 _, hown.alloc _, ?_, ?_, hsz⟩
    · have := hown.lt w.heap.size rfl; omega
    · exact ((Below.refl _ _).grown hgr (Nat.le_refl _) (fun k hk => by cases hk)).alloc hsz _
  case round =>
    obtain ⟨k, hkn, rfl, hinv⟩ := hrel
    by_cases hlt : k < es.length
    · obtain ⟨bk, hka, hck⟩ := hk k hlt
      obtain ⟨bv, hva, hcv⟩ := hv k hlt
      subst hka
      subst hva
      obtain ⟨ge, ce, hat, hown2, hne, hbel, hwb⟩ := hinv
      obtain ⟨p, hp⟩ : ∃ p, es[k] = p := ⟨_, rfl⟩
      rw [hp] at hck hcv
      obtain ⟨s, A, L, C⟩ := p
      have hck' : wr.cell? ⟨bk, k, none⟩ = some (.string s) := by rw [hbel.cell (World.block_lt_of_cell? w _ hck)]; exact hck
      have hcv' : wr.cell? ⟨bv, k, none⟩ = some (.slice A L C) := by rw [hbel.cell (World.block_lt_of_cell? w _ hcv)]; exact hcv
      have lk := World.block_lt_of_cell? w _ hck
      have lv := World.block_lt_of_cell? w _ hcv
      have hsz2 := hbel.size
      have hge := hown2.lt ge rfl
      have hblt := hat.lt
      have hk0 : (0 : Int) ≤ (k : Int) := Int.natCast_nonneg _
      have hk1 : (k : Int) < (es.length : Int) := by omega
      have hk2 : (k : Int) < (vn : Int) := by omega
      have hn1 := hat.cell (i := 1) rfl
      have hf1 := hat.frozen 1
      have hstep := fun w0 w2 gg cap => mk_step (w := w) (wr := wr) (w0 := w0) (w1 := w2) (gg := gg) (cap := cap) hlt hp hat hown2 hne hbel hwb
      have HST := hide hstep
      have HP := hide hp
      clear hck hcv hk hv hown hgr hstep hp h1 hkk hj0 hy0 hy1 hy2
      go_wp2
      have hnf : ∀ o, (wr.alloc o).frozen? ⟨w1.heap.size, 1, none⟩ = false := fun o => by rw [frozen_new _ _ _ _ hblt]; exact hf1
      have hnw : wr.heap.size ≠ w1.heap.size := by omega
      go_region_law ((refine step_append_lies _ (by rfl) _ _ _ (by rfl) w.heap.size 64 i0 _ 2 40 Try.underlying67 hi0 hz0 hz1 hz2 rfl (by omega) (.slice (some ⟨ge, 0, none⟩) k ce) k _ (by rfl) ((hown2.alloc _).drew) ⟨wr.heap.size, 0, none⟩ 1 1 [.string s, .slice A L C] (by rfl) (by rfl) (World.news_of_block (cs := #[.string s, .slice A L C]) (t := 64) (fr := (0, 0)) (heap_alloc_new wr _)) (by simp [Value.oneCell']) (by omega) (by unfold maxLen; omega) (by omega) (by simp; omega) (wr.heap.size + 1) (by simp) ?_; intro gg cap w2 hown3 hgrow hgat hglt; have hq1 := (hgrow.cell_far ⟨w1.heap.size, 1, none⟩ (by simp; omega) (by simp [Value.ownBlock]; omega)).trans (Lib.cell?_alloc_some (.cells #[.string s, .slice A L C] 64) hn1); have hq2 := (hgrow.frozen_far ⟨w1.heap.size, 1, none⟩ (by simp; omega) (by simp [Value.ownBlock]; omega)).trans (hnf _)))
      all_goals
        clear hck' hcv' hn1 hf1 hnf hq1 hq2
        go_wp2
        go_roundw
        case rel => exact ⟨k + 1, by omega, by go_num, HST.out _ _ gg cap (((Below.refl _ _).alloc (Nat.le_refl _) _).drew) hown3 hgrow (or_r hgat (fun h => by omega))⟩
        case measure => simp [intOf]; omega
    · have : k = es.length := by omega
      subst this
      clear hk hv
      rcases hkk with ⟨rfl, rfl, rfl⟩ | ⟨rfl, hk0, hk1, gk, rfl, hkc⟩
      · obtain ⟨ge, ce, hat, hown2, hne, hbel, hwb⟩ := hinv
        go_wp2
        go_ret
        rw [List.take_length] at hown2
        refine ⟨w1.heap.size, .slice (some ⟨ge, 0, none⟩) es.length ce, .slice none 0 0, rfl, ⟨hat, owns_base hown2 (fun _ _ => Nat.zero_le _), World.ownsRow_nil _ _ _ _, ⟨_, _, rfl⟩, ⟨rfl, rfl⟩, ?_, ?_, ?_⟩, ⟨hwb, ?_, ?_⟩, hbel⟩
        · simp [Value.ownBlock]; exact hne
        · simp [Value.ownBlock]
        · simp [Value.ownBlock]
        · intro g hg
          exact (hown2.lt g hg).1
        · intro g hg
          cases hg
      · have HI := hide hinv
        obtain ⟨ge, ce, hat, hown2, hne, hbel, hwb⟩ := hinv
        have hblt := hat.lt
        have hkc' : ∀ j u, (ks.map pv)[j]? = some u → wr.cell? ((⟨gk, 0, none⟩ : Addr).add j) = some u := fun j u hj => by
          have h0 := hkc j u hj
          rw [hbel.cell (World.block_lt_of_cell? w _ h0)]; exact h0
        have hgkb : ∀ j u, (ks.map pv)[j]? = some u → ((⟨gk, 0, none⟩ : Addr).add j).block ≠ w1.heap.size := fun j u hj => by
          have := World.block_lt_of_cell? w _ (hkc j u hj); omega
        clear hkc hown hgr
        go_wp2_with (at_make; refine wpList_make_own _ rfl _ _ 31 rfl wr.heap.size 32 j0 _ 1 Try.underlying31 hj0 hy0 hy1 .i64 .i64 32 32 rfl rfl rfl ?_ ?_ (Nat.le_refl _) ?_)
        · rw [hy2]; omega
        · unfold maxLen; omega
        intro w2 hown3 hgr2
        have hc2 : w2.cell? ⟨w1.heap.size, 2, none⟩ = some (.slice none 0 0) := (hgr2.cell_far _ hblt (by simp)).trans (hat.cell (i := 2) rfl)
        have hf2 : w2.frozen? ⟨w1.heap.size, 2, none⟩ = false := (hgr2.frozen_far _ hblt (by simp)).trans (hat.frozen 2)
        have hkc2 : ∀ j u, (ks.map pv)[j]? = some u → w2.cell? ((⟨gk, 0, none⟩ : Addr).add j) = some u := fun j u hj => by
          have h0 := hkc' j u hj
          rw [hgr2.cell_far _ (World.block_lt_of_cell? wr _ h0) (by simp)]; exact h0
        clear hkc'
        have hs2 := hgr2.size
        have hob := hown3.lt _ rfl
        have hown3' := owns_upd hown3 ((Upd.refl (fun i => i = w1.heap.size) w2).setCell ⟨w1.heap.size, 2, none⟩ (.slice (some ⟨wr.heap.size, 0, none⟩) 0 32) (fun _ => rfl)) (fun g hg => by simp [Value.ownBlock] at hg; omega)
        have hkc3 : ∀ j u, (ks.map pv)[j]? = some u → (w2.setCell ⟨w1.heap.size, 2, none⟩ (.slice (some ⟨wr.heap.size, 0, none⟩) 0 32)).cell? ((⟨gk, 0, none⟩ : Addr).add j) = some u := fun j u hj => by
          exact (World.cell?_of_block (Below.heap_setCell _ _ _ _ (hgkb j u hj))).trans (hkc2 j u hj)
        have HMK := hide (fun w3 gg cap => mk_kids (w3 := w3) (gg := gg) (cap := cap) (ks := ks) HI.out hgr2)
        clear hat hown2 hgr2 HI h1 hown3 hgkb hkc2
        go_wp2_with (at_builtin; refine wpList_append_lies _ rfl _ _ 31 rfl wr.heap.size 32 j0 _ 1 8 Try.underlying31 hj0 hy0 hy1 hy2 rfl (by omega) (.slice (some ⟨wr.heap.size, 0, none⟩) 0 32) 0 [] rfl hown3' ⟨gk, 0, none⟩ ks.length kcap (ks.map pv) rfl (by simp) hkc3 (pv_one ks) hk0 (by unfold maxLen; omega) (by omega) (by simpa using hs2) _ rfl ?_)
        intro gg cap w3 hown4 hgr3 hgat hglt
        have hq1 := hgr3.cell_far ⟨w1.heap.size, 2, none⟩ (by simp; omega) (by simp [Value.ownBlock]; omega)
        have hq2 := hgr3.frozen_far ⟨w1.heap.size, 2, none⟩ (by simp; omega) (by simp [Value.ownBlock]; omega)
        have hq3 : w3.cell? ⟨w1.heap.size, 2, none⟩ = some (.slice (some ⟨wr.heap.size, 0, none⟩) 0 32) := by rw [hq1]; exact World.cell?_setCell_same' _ _ _ (by rw [hc2]; rfl)
        have hq4 : w3.frozen? ⟨w1.heap.size, 2, none⟩ = false := by rw [hq2]; simpa using hf2
        have HF := hide (HMK.out w3 gg cap (by simpa using hown4) hgr3)
        clear hq1 hq2 HMK hown4 hgr3 hc2 hf2 hkc3 hown3'
        go_wp2
        go_ret
        exact HF.out

end Go.Proofs.Qxb6600085a
