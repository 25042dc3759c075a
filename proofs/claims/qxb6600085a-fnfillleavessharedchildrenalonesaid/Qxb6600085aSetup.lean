/-
  Of the last two statements: the sizes that came in.
-/
import Derived.Test.Qxb6600085aAft
import Derived.Test.Qxb6600085aBuild
namespace Go.Proofs.Qxb6600085a
open Go.RowKit

/-- A []byte that came in, with its bytes. -/
structure SizIn (w : World) (sa : Option Addr) (ns : Nat) (zs : List Int) : Prop where
  len : ns ≤ maxLen
  zl : zs.length = ns
  none : sa = none → ns = 0
  src : ∀ ad, sa = some ad → ∀ j u, (zs.map (Value.int .u8))[j]? = some u → w.cell? (ad.add j) = some u
  byte : ∀ z ∈ zs, 0 ≤ z ∧ z < 256

set_option maxHeartbeats 400000 in
theorem f27_zs (w : World) (ad : Addr) (n cap : Nat) (hn : n ≤ 1048576) (zs : List Int) (hl : zs.length = n) (hsrc : ∀ j u, (zs.map (Value.int .u8))[j]? = some u → w.cell? (ad.add j) = some u) :
    Calls Try.prog 27 #[.slice (some ad) n cap] w fun e w' => ∃ g, e = .returned (.slice (some ⟨g, 0, none⟩) n n) ∧ At w' g (zs.map (Value.int .u8)) 5 ∧ Below w.heap.size w w' := by
  obtain ⟨i0, hi, hz0, hz1, hz2⟩ := info_parts info5
  have h1 := fun w => Lib.run_eql_slice_nil (P := Try.prog) w 35 5 (some ad) n cap 0 0 Try.underlying35
  have hin : (n : Int) ≤ 1048576 := by omega
  go_enter Try.func27, Try.ntmps27
  go_wp2_with (at_make; refine wpList_make_at _ rfl _ _ 35 rfl 5 i0 _ Try.underlying35 hi hz0 hz1 rfl .i64 .i64 n n n rfl rfl rfl rfl ?_ ?_ ?_)
  · rw [hz2]; omega
  · unfold maxLen; omega
  intro w1 hat hb
  have hsrc1 : ∀ j u, (zs.map (Value.int .u8))[j]? = some u → w1.cell? (ad.add j) = some u := fun j u hj => by
    have h0 := hsrc j u hj
    have hlt := World.block_lt_of_cell? w _ h0
    rw [hb.cell hlt]; exact h0
  clear hsrc
  have hone := ints_oneCell .u8 zs
  go_wp2_with (refine wpList_copy_at rfl _ _ 35 35 rfl 5 1 Try.underlying35 (by kernel_rfl) w.heap.size 0 n n ad n cap rfl rfl _ 5 hat (zs.map (Value.int .u8)) ?_ hsrc1 ?_ hone ?_)
  · simp [hl]
  · simp [hl]
  intro w2 hat2 hu
  rw [splice_all _ _ (by simp [hl])] at hat2
  go_wp2
  go_ret
  subst hl
  exact ⟨_, rfl, hat2, hb.trans (hu.below hb.size (fun k hk => by omega))⟩

theorem ValIn.below {w w' : World} {ao : Option Addr} {n : Nat} {A : Nat → Option Addr} {L C : Nat → Nat} (h : ValIn w ao n A L C) (u : Below w.heap.size w w') : ValIn w' ao n A L C :=
  ⟨h.len, h.none, fun i hi => by
    obtain ⟨b, off, hb, hc⟩ := h.row i hi
    exact ⟨b, off, hb, by rw [u.cell (World.block_lt_of_cell? w _ hc)]; exact hc⟩, fun i hi => (h.src i hi).below u⟩

/-- Two owners, apart; a tree of the first; the inputs cloned. -/
structure Scn (w w7 : World) (t a b gs : Nat) (zs : List Int) (va : Option Addr) (nv : Nat) (vs : List (Option Addr × Nat × Nat)) : Prop where
  tree : Tree w7 t a
  lb : Lies w7 b
  ab : b ≠ a
  siz : At w7 gs (zs.map (Value.int .u8)) 5
  cl : Cloned w7 va nv vs
  below : Below w.heap.size w w7

theorem inord_len : ∀ (cs : List (List Ent)) (ps : List Ent), (∀ c ∈ cs, c.length ≤ 31) → (inord cs ps).length ≤ 32 * cs.length
  | [], _, _ => by simp [inord]
  | c :: cs, [], h => by have := h c (by simp); simp [inord]; omega
  | c :: cs, p :: ps, h => by
    have h1 := h c (by simp)
    have ih := inord_len cs ps (fun c' hc => h c' (by simp [hc]))
    simp [inord]; omega

/-- Behind the fill. -/
structure Done (w w9 W : World) (a b p i r : Nat) (evp kvp : Value) (L : List Kd) (ps all : List Ent) (zs : List Int) (g1 g2 g3 g4 g5 g6 tb : Nat) (fs : List Value) (M : List Kid) (qs : List Ent) : Prop where
  fil : Filled w9 W a p a evp ps kvp (L.map Kd.k) i r M qs
  rd : Rd W L all zs g1 g2 g3 g4 g5 g6
  below : Below w.heap.size w W
  tab : At W tb fs 53
  ord : inord (M.map Kid.es) qs = all
  al : all.length ≤ 32 * L.length
  clone : ∀ i z (h : i < L.length), zs[i]? = some z → isC z = true → L[i].k.o = b ∧ L[i].k.at W
  own : Lies W a ∧ Lies W b
  lies : ∀ k ∈ M, Lies W k.b
  liesL : ∀ d ∈ L, Lies W d.k.b

/-- The fill of the case, and what lies behind it. -/
theorem after_fill {w w7 w8 w9 : World} {lab : Nat → Lab} {V : Nat → Value} {L : List Kd} {Y : Nat → List Value} {ps all : List Ent} {p : Nat} {evp kvp : Value} {t a b gs : Nat} {zs : List Int} {va : Option Addr} {nv : Nat} {vs : List (Option Addr × Nat × Nat)} {g1 g2 g3 g4 g5 g6 tb i : Nat} {fs : List Value}
    (hs : Scn w w7 t a b gs zs va nv vs) (h : Case w7 w8 lab V L Y ps all p evp kvp a b zs) (hz : ∀ z ∈ zs, 0 ≤ z ∧ z < 256)
    (hrd : ∀ (S : Nat → Prop) (W : World), Upd S w8 W → (∀ k, k < w8.heap.size → S k → lab k = .par ∨ ∃ i, lab k = .node i) → Rd W L all zs g1 g2 g3 g4 g5 g6)
    (hb9 : Below w8.heap.size w8 w9) (htb : At w9 tb fs 53) (hge : w8.heap.size ≤ tb) (hL2 : 2 ≤ L.length) (hL : L.length ≤ 4096) (hi : i < L.length) :
    Calls Try.prog 16 #[pv t, pv p, .int .i64 i] w9 fun e W => ∃ r : Nat, e = .returned (.int .i64 r) ∧ ∃ M qs, Done w w9 W a b p i r evp kvp L ps all zs g1 g2 g3 g4 g5 g6 tb fs M qs := by
  obtain ⟨lab', h9⟩ := h.under hb9
  refine f16_any w9 t p i _ ((fill_fam (h9.fam hz) (h9.steady hs.tree hs.lb) (by simp; omega) (by simpa using hL2) i (by simpa using hi)).mono ?_)
  rintro e W ⟨r, M, qs, rfl, hfil, hlies⟩
  refine ⟨r, rfl, M, qs, ?_⟩
  have hU := hfil.upd
  have hU8 : Upd (Turns a p evp kvp (L.map Kd.k)) w8 W := (Upd.of_below hb9).trans hU
  have hB7 := h.below' hU8
  refine ⟨hfil, hrd _ W hU8 (fun k _ hk => h.turns hk), hs.below.trans (hB7.mono hs.below.size), htb.upd hU (fun hk => ?_), ?_, ?_, fun i z hi hzz hc => h.clone hs.ab hU8 i hi z hzz hc, ⟨hs.tree.own.below hB7, hs.lb.below hB7⟩, fun k hk => NodeAt.lies (hfil.kid k hk), fun d hd => hlies d.k (List.mem_map.2 ⟨d, hd, rfl⟩)⟩
  · rcases hk with hk | ⟨q, hq, -, hk⟩
    · have := h.par.fp_lt hk; omega
    · obtain ⟨j, hj, rfl⟩ := kids_mem hq
      have := NodeAt.fp_lt (h.kd j hj).node hk
      omega
  · rw [hfil.ord, h.cont.ord, List.map_map]; rfl
  · rw [h.cont.ord]
    have := inord_len (L.map (fun d => d.k.es)) ps (fun c hc => by
      obtain ⟨d, hd, rfl⟩ := List.mem_map.1 hc
      obtain ⟨j, hj, rfl⟩ := List.getElem_of_mem hd
      exact (h.ok hz j hj).2)
    simpa using this

end Go.Proofs.Qxb6600085a
