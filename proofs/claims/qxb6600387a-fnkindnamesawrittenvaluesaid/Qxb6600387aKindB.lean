/-
  FnKindNamesAWrittenValue: appendDecimal (17).
-/
import Derived.Test.Qxb6600387aKindA
namespace Go.Proofs.Qxb6600387a
open Go.RowKit

theorem Gr.set {wb w w' : World} {g g' cap' n' : Nat} {zs' : List Int} (h : Gr wb w g w' g' cap' n' zs') (hw : wb.heap.size ≤ w.heap.size) (a : Addr) (v : Value) (hne : g' ≠ a.block) (ha : w.heap.size ≤ a.block) : Gr wb w g (w'.setCell a v) g' cap' n' zs' := by
  refine ⟨⟨h.line.1, ?_, h.line.2.2.setCell (by omega) v⟩, h.upd.setCell a v (fun h => by omega), h.at_⟩
  exact owns_upd h.line.2.1 ((Upd.refl (fun k => k = a.block) w').setCell a v (fun _ => rfl)) (fun k hk hh => by
    have : k = g' := by simpa [Value.ownBlock] using hk.symm
    omega)

/-- The digits' array: from k on it is written, and begins with a digit. -/
def Digs (w : World) (bd k : Nat) (ds : List Int) : Prop := At w bd (ds.map (Value.int .u8)) 48 ∧ ds.length = 20 ∧ (k < 20 → 48 ≤ ds.getD k 0 ∧ ds.getD k 0 ≤ 57)

theorem digs_start (w : World) : Digs (w.alloc (.cells #[.int .u8 0, .int .u8 0, .int .u8 0, .int .u8 0, .int .u8 0, .int .u8 0, .int .u8 0, .int .u8 0, .int .u8 0, .int .u8 0, .int .u8 0, .int .u8 0, .int .u8 0, .int .u8 0, .int .u8 0, .int .u8 0, .int .u8 0, .int .u8 0, .int .u8 0, .int .u8 0] 48)) w.heap.size 20 [0, 0, 0, 0, 0, 0, 0, 0, 0, 0, 0, 0, 0, 0, 0, 0, 0, 0, 0, 0] :=
  ⟨At.new w _ _, rfl, fun h => absurd h (by omega)⟩

theorem digs_cell {w : World} {bd k j : Nat} {ds : List Int} (h : Digs w bd k ds) (hj : j < 20) : w.cell? ⟨bd, j, none⟩ = some (.int .u8 (ds.getD j 0)) ∧ w.frozen? ⟨bd, j, none⟩ = false := by
  refine ⟨h.1.cell ?_, h.1.frozen _⟩
  rw [List.getElem?_map]
  simp [List.getD, show j < ds.length by have := h.2.1; omega]

theorem digs_set {w : World} {bd k j : Nat} {ds : List Int} (h : Digs w bd k ds) (hj : j < 20) (z : Int) (h1 : 48 ≤ z) (h2 : z ≤ 57) : Digs (w.setCell ⟨bd, j, none⟩ (.int .u8 z)) bd j (ds.set j z) := by
  refine ⟨?_, by rw [List.length_set]; exact h.2.1, fun _ => ?_⟩
  · rw [List.map_set]; exact h.1.set j _
  · have : j < ds.length := by have := h.2.1; omega
    simp [List.getD, this, h1, h2]

/-- The digits from k on, as a source. -/
theorem digs_tail {w : World} {bd k : Nat} {ds : List Int} (h : Digs w bd k ds) (hk : k < 20) :
    ((ds.drop k).map (Value.int .u8)).length = (20 - k) * 1 ∧ (∀ ad, some (⟨bd, k, none⟩ : Addr) = some ad → ∀ j u, ((ds.drop k).map (Value.int .u8))[j]? = some u → w.cell? (ad.add j) = some u) ∧
      ∃ y t, ds.drop k = y :: t ∧ 48 ≤ y ∧ y ≤ 57 := by
  have hl := h.2.1
  refine ⟨by simp [hl], ?_, ?_⟩
  · intro ad ha j u hj
    cases ha
    rw [Addr.add_lit]
    refine h.1.cell ?_
    rw [List.map_drop, List.getElem?_drop] at hj
    exact hj
  · have hd := h.2.2 hk
    have hkl : k < ds.length := by omega
    refine ⟨ds[k], ds.drop (k + 1), List.drop_eq_getElem_cons hkl, ?_⟩
    simpa [List.getD, hkl] using hd

theorem digs_next {uu : Int} {k : Nat} (h0 : 0 ≤ uu) (h1 : uu < 10 ^ (k + 1)) (hz : ¬ uu / 10 = 0) : ∃ k', k = k' + 1 ∧ uu / 10 < 10 ^ (k' + 1) := by
  cases k with
  | zero => exfalso; rw [Int.pow_succ] at h1; simp at h1; omega
  | succ k' =>
    refine ⟨k', rfl, ?_⟩
    rw [Int.pow_succ] at h1
    generalize (10 : Int) ^ (k' + 1) = P at *
    omega

set_option maxRecDepth 100000 in
set_option maxHeartbeats 1600000 in
theorem f17_pos (wb w : World) (g n cap : Nat) (zs : List Int) (v : Int) (hL : Line wb w g cap n zs) (hn : n ≤ 8388608) (h0 : 0 ≤ v) (h1 : v < 9223372036854775808) :
    Calls Try.prog 17 #[.slice (some ⟨g, 0, none⟩) n cap, .int .i64 v] w fun e w' => Put wb w g n zs 21 (fun y => 48 ≤ y ∧ y ≤ 57) e w' := by
  obtain ⟨i0, hi, hz0, hz1, hz2⟩ := info_parts info5
  have hG0 := Gr.start hL
  have hs0 := hG0.size
  go_enter Try.func17, Try.ntmps17
  go_wp2
  have hdg := digs_start w
  have hG1 := hG0.alloc (.cells #[.int .u8 0, .int .u8 0, .int .u8 0, .int .u8 0, .int .u8 0, .int .u8 0, .int .u8 0, .int .u8 0, .int .u8 0, .int .u8 0, .int .u8 0, .int .u8 0, .int .u8 0, .int .u8 0, .int .u8 0, .int .u8 0, .int .u8 0, .int .u8 0, .int .u8 0, .int .u8 0] 48)
  have hgl : g < w.heap.size := hL.lt.2
  obtain ⟨bd, hbd⟩ : ∃ bd, bd = w.heap.size := ⟨_, rfl⟩
  rw [← hbd] at hdg ⊢
  have hbd1 : g ≠ bd := by omega
  have hbd2 : w.heap.size ≤ bd := by omega
  clear hbd
  go_loopw [5, 7] (fun u i wr => ∃ (k : Nat) (uu : Int) (ds : List Int), k + 1 ≤ 20 ∧ i = .int .i64 ((k + 1 : Nat) : Int) ∧ u = .int .u64 uu ∧ 0 ≤ uu ∧ uu < 10 ^ (k + 1) ∧ uu < 18446744073709551616 ∧ Digs wr bd (k + 1) ds ∧ Gr wb w g wr g cap n zs) (fun _ i _ => (intOf i).toNat)
  case atStart =>
    have h20 : (10 : Int) ^ (19 + 1) = 100000000000000000000 := by decide
    exact ⟨19, v, _, by omega, rfl, rfl, h0, by omega, by omega, hdg, hG1⟩
  case round =>
    clear hdg hG1
    obtain ⟨k, uu, ds, hk, rfl, rfl, hu0, hu1, hu2, hdg, hG⟩ := hrel
    have e1 : IntKind.i64.wrap (((k + 1 : Nat) : Int) - 1) = (k : Int) := by
      rw [IntKind.wrap_i64]; omega
    have e2 : (0 : Int) ≤ k := Int.natCast_nonneg _
    have e3 : (k : Int) < 20 := by omega
    obtain ⟨q1, q2⟩ := digs_cell hdg (j := k) (by omega)
    have hdg2 := digs_set hdg (j := k) (by omega) (48 + uu % 10) (by omega) (by omega)
    have hG2 := hG.set hL.2.2.size ⟨bd, k, none⟩ (.int .u8 (48 + uu % 10)) hbd1 hbd2
    have HD := hide hdg2
    have HG := hide hG2
    have HU := hide hu1
    clear hdg hdg2 hG hG2 hu1
    by_cases hz : uu / 10 = 0
    · obtain ⟨r1, r2, y, t, r3, r4, r5⟩ := digs_tail HD.out (by omega)
      have r6 := ints_oneCell .u8 ((ds.set k (48 + uu % 10)).drop k)
      have own2 := HG.out.line.2.1
      have hsz := HG.out.size
      have x1 : (k : Int) ≤ 20 := by omega
      have x2 : ¬ 20 = k := by omega
      generalize (ds.set k (48 + uu % 10)).drop k = dd at *
      generalize hW : wr.setCell ⟨bd, k, none⟩ (.int .u8 (48 + uu % 10)) = W at *
      go_wp2_with (at_builtin; refine wpList_append_gen _ rfl (.tmp 32) (.tmp 34) 22 rfl wb.heap.size 5 i0 _ 1 1 Try.underlying22 hi hz0 hz1 hz2 rfl (by decide) g n cap _ rfl own2 (some ⟨bd, k, none⟩) (20 - k) (20 - k) (dd.map (Value.int .u8)) rfl (by simp) r1 r2 r6 (by unfold maxLen; omega) (by omega) hsz ?_)
      intro g2 c2 w2 hown2 hgr2 hat2
      have hG3 := HG.out.more (ys := dd) (by simpa using r1) (by rw [r3]; simpa using hown2) hgr2 hat2
      rw [r3] at hG3
      have HG3 := hide hG3
      have HR := hide (show 48 ≤ y ∧ y ≤ 57 from ⟨r4, r5⟩)
      clear hown2 hgr2 hat2 hG3 HG own2 r1 r2 r3 r4 r5 r6 HD
      go_wp2
      go_ret
      exact ⟨g2, c2, 20 - k, y, t, rfl, by omega, HR.out, HG3.out⟩
    · obtain ⟨k', rfl, hlt'⟩ := digs_next hu0 HU.out hz
      have HL := hide hlt'
      clear HU hlt'
      go_wp2
      go_roundw
      case rel => exact ⟨k', uu / 10, _, by omega, rfl, rfl, by omega, HL.out, by omega, HD.out, HG.out⟩
      case measure => simp [intOf]; omega

set_option maxRecDepth 100000 in
set_option maxHeartbeats 1600000 in
theorem f17_neg (wb w : World) (g n cap : Nat) (zs : List Int) (v : Int) (hL : Line wb w g cap n zs) (hn : n ≤ 8388608) (h0 : v < 0) (h1 : -9223372036854775808 ≤ v) :
    Calls Try.prog 17 #[.slice (some ⟨g, 0, none⟩) n cap, .int .i64 v] w fun e w' => Put wb w g n zs 21 (fun y => y = 45) e w' := by
  obtain ⟨i0, hi, hz0, hz1, hz2⟩ := info_parts info5
  have hG0 := Gr.start hL
  have hs0 := hG0.size
  have hgl0 : g < w.heap.size := hL.lt.2
  have hwb := hL.2.2.size
  go_enter Try.func17, Try.ntmps17
  go_wp2_with (at_builtin; refine wpList_append_gen _ rfl (.tmp 10) (.tmp 11) 22 rfl wb.heap.size 5 i0 _ 1 1 Try.underlying22 hi hz0 hz1 hz2 rfl (by decide) g n cap _ rfl (hG0.alloc _).line.2.1 (some ⟨w.heap.size, 0, none⟩) 1 1 [.int .u8 45] rfl (by simp) rfl (by intro ad ha; cases ha; exact World.news_of_block (cs := #[.int .u8 45]) (t := 5) (fr := (0, 0)) (heap_alloc_new w _)) (by simp [Value.oneCell']) (by unfold maxLen; omega) (by omega) (by simp; omega) ?_)
  intro g1 c1 w1 hown1 hgr1 hat1
  have hGA := hG0.byte 45 (by simpa using hown1) hgr1 (by simpa using hat1)
  have hww : w.heap.size ≤ w1.heap.size := hGA.upd.size
  clear hown1 hgr1 hat1 hG0
  have u1 : IntKind.i64.wrap (v + 1) = v + 1 := by rw [IntKind.wrap_i64]; omega
  have u2 : IntKind.i64.wrap (-(v + 1)) = -(v + 1) := by rw [IntKind.wrap_i64]; omega
  go_wp2
  have hdg := digs_start w1
  have hG1 := hGA.alloc (.cells #[.int .u8 0, .int .u8 0, .int .u8 0, .int .u8 0, .int .u8 0, .int .u8 0, .int .u8 0, .int .u8 0, .int .u8 0, .int .u8 0, .int .u8 0, .int .u8 0, .int .u8 0, .int .u8 0, .int .u8 0, .int .u8 0, .int .u8 0, .int .u8 0, .int .u8 0, .int .u8 0] 48)
  have hgl : g1 < w1.heap.size := hGA.line.lt.2
  obtain ⟨bd, hbd⟩ : ∃ bd, bd = w1.heap.size := ⟨_, rfl⟩
  rw [← hbd] at hdg ⊢
  have hbd1 : g1 ≠ bd := by omega
  have hbd2 : w.heap.size ≤ bd := by omega
  clear hbd
  go_loopw [5, 7] (fun u i wr => ∃ (k : Nat) (uu : Int) (ds : List Int), k + 1 ≤ 20 ∧ i = .int .i64 ((k + 1 : Nat) : Int) ∧ u = .int .u64 uu ∧ 0 ≤ uu ∧ uu < 10 ^ (k + 1) ∧ uu < 18446744073709551616 ∧ Digs wr bd (k + 1) ds ∧ Gr wb w g wr g1 c1 (n + 1) (zs ++ [45])) (fun _ i _ => (intOf i).toNat)
  case atStart =>
    have h20 : (10 : Int) ^ (19 + 1) = 100000000000000000000 := by decide
    exact ⟨19, -v, _, by omega, rfl, by go_num, by omega, by omega, by omega, hdg, hG1⟩
  case round =>
    clear hdg hG1
    obtain ⟨k, uu, ds, hk, rfl, rfl, hu0, hu1, hu2, hdg, hG⟩ := hrel
    have e1 : IntKind.i64.wrap (((k + 1 : Nat) : Int) - 1) = (k : Int) := by
      rw [IntKind.wrap_i64]; omega
    have e2 : (0 : Int) ≤ k := Int.natCast_nonneg _
    have e3 : (k : Int) < 20 := by omega
    obtain ⟨q1, q2⟩ := digs_cell hdg (j := k) (by omega)
    have hdg2 := digs_set hdg (j := k) (by omega) (48 + uu % 10) (by omega) (by omega)
    have hG2 := hG.set hwb ⟨bd, k, none⟩ (.int .u8 (48 + uu % 10)) hbd1 hbd2
    have HD := hide hdg2
    have HG := hide hG2
    have HU := hide hu1
    clear hdg hdg2 hG hG2 hu1
    by_cases hz : uu / 10 = 0
    · obtain ⟨r1, r2, y, t, r3, r4, r5⟩ := digs_tail HD.out (by omega)
      have r6 := ints_oneCell .u8 ((ds.set k (48 + uu % 10)).drop k)
      have own2 := HG.out.line.2.1
      have hsz := HG.out.size
      have x1 : (k : Int) ≤ 20 := by omega
      have x2 : ¬ 20 = k := by omega
      generalize (ds.set k (48 + uu % 10)).drop k = dd at *
      generalize hW : wr.setCell ⟨bd, k, none⟩ (.int .u8 (48 + uu % 10)) = W at *
      go_wp2_with (at_builtin; refine wpList_append_gen _ rfl (.tmp 32) (.tmp 34) 22 rfl wb.heap.size 5 i0 _ 1 1 Try.underlying22 hi hz0 hz1 hz2 rfl (by decide) g1 (n + 1) c1 _ rfl own2 (some ⟨bd, k, none⟩) (20 - k) (20 - k) (dd.map (Value.int .u8)) rfl (by simp) r1 r2 r6 (by unfold maxLen; omega) (by omega) hsz ?_)
      intro g2 c2 w2 hown2 hgr2 hat2
      have hG3 := HG.out.more (ys := dd) (by simpa using r1) (by rw [r3]; simpa using hown2) hgr2 hat2
      rw [r3, List.append_assoc, List.cons_append, List.nil_append, Nat.add_assoc] at hG3
      have HG3 := hide hG3
      clear hown2 hgr2 hat2 hG3 HG own2 r1 r2 r3 r4 r5 r6 HD
      go_wp2
      go_ret
      exact ⟨g2, c2, 1 + (20 - k), 45, y :: t, (by rw [Nat.add_assoc]; rfl), by omega, rfl, HG3.out⟩
    · obtain ⟨k', rfl, hlt'⟩ := digs_next hu0 HU.out hz
      have HL := hide hlt'
      clear HU hlt'
      go_wp2
      go_roundw
      case rel => exact ⟨k', uu / 10, _, by omega, rfl, rfl, by omega, HL.out, by omega, HD.out, HG.out⟩
      case measure => simp [intOf]; omega

/-- A minus, or a digit. -/
def Numb (y : Int) : Prop := y = 45 ∨ (48 ≤ y ∧ y ≤ 57)

theorem Put.mono {wb w w' : World} {g n m : Nat} {zs : List Int} {b c : Int → Prop} {e : Ending} (h : Put wb w g n zs m b e w') (hb : ∀ y, b y → c y) : Put wb w g n zs m c e w' := by
  obtain ⟨g', cap', k, y, t, h1, h2, h3, h4⟩ := h
  exact ⟨g', cap', k, y, t, h1, h2, hb y h3, h4⟩

theorem f17_any (wb w : World) (g n cap : Nat) (zs : List Int) (v : Int) (hL : Line wb w g cap n zs) (hn : n ≤ 8388608) (h0 : -9223372036854775808 ≤ v) (h1 : v < 9223372036854775808) :
    Calls Try.prog 17 #[.slice (some ⟨g, 0, none⟩) n cap, .int .i64 v] w fun e w' => Put wb w g n zs 21 Numb e w' := by
  by_cases hv : v < 0
  · exact (f17_neg wb w g n cap zs v hL hn hv h0).mono fun e w' h => h.mono fun y hy => .inl hy
  · exact (f17_pos wb w g n cap zs v hL hn (by omega) h1).mono fun e w' h => h.mono fun y hy => .inr hy

end Go.Proofs.Qxb6600387a
