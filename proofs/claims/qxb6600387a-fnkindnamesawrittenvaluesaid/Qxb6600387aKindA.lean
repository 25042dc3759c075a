/-
  FnKindNamesAWrittenValue: appendQuoted (14).
-/
import Derived.Test.Qxb6600387aKind
namespace Go.Proofs.Qxb6600387a
open Go.RowKit

/-- One byte more, behind a buildSlice of it. -/
theorem Gr.byte {wb w w1 w2 : World} {g g1 cap1 n1 g2 cap2 : Nat} {zs : List Int} (z : Int) (h : Gr wb w g w1 g1 cap1 n1 zs)
    (hown : w2.ownsRow wb.heap.size 5 1 (.slice (some ⟨g2, 0, none⟩) (n1 + 1) cap2) (n1 + 1) (zs.map (Value.int .u8) ++ [.int .u8 z])) (hgr : (w1.alloc (.cells #[.int .u8 z] 5)).grownBy w2 (some g1)) (hg : g2 = g1 ∨ g2 = w1.heap.size + 1) : Gr wb w g w2 g2 cap2 (n1 + 1) (zs ++ [z]) :=
  (h.alloc (.cells #[.int .u8 z] 5)).more (ys := [z]) rfl hown hgr (by simpa using hg)

theorem Gr.size {wb w w' : World} {g g' cap' n' : Nat} {zs' : List Int} (h : Gr wb w g w' g' cap' n' zs') : wb.heap.size ≤ w'.heap.size := h.line.2.2.size

set_option maxRecDepth 100000 in
set_option maxHeartbeats 1600000 in
theorem f14_any (wb w : World) (g n cap : Nat) (zs : List Int) (s : ByteArray) (hL : Line wb w g cap n zs) (hn : n ≤ 4194304) (hs : s.size ≤ 1048576) :
    Calls Try.prog 14 #[.slice (some ⟨g, 0, none⟩) n cap, .string s] w fun e w' => Put wb w g n zs (2 * s.size + 2) (fun y => y = 34) e w' := by
  obtain ⟨i0, hi, hz0, hz1, hz2⟩ := info_parts info5
  have hG0 := Gr.start hL
  have hs0 := hG0.size
  have hsI : (s.size : Int) ≤ 1048576 := by omega
  go_enter Try.func14, Try.ntmps14
  go_wp2_with (at_builtin; refine wpList_append_gen _ rfl (.tmp 7) (.tmp 8) 22 rfl wb.heap.size 5 i0 _ 1 1 Try.underlying22 hi hz0 hz1 hz2 rfl (by decide) g n cap _ rfl (hG0.alloc _).line.2.1 (some ⟨w.heap.size, 0, none⟩) 1 1 [.int .u8 34] rfl (by simp) rfl (by intro ad ha; cases ha; exact World.news_of_block (cs := #[.int .u8 34]) (t := 5) (fr := (0, 0)) (heap_alloc_new w _)) (by simp [Value.oneCell']) (by unfold maxLen; omega) (by omega) (by simp; omega) ?_)
  intro g1 c1 w1 hown1 hgr1 hat1
  have hG1 := hG0.byte 34 (by simpa using hown1) hgr1 (by simpa using hat1)
  clear hown1 hgr1 hat1 hG0 hL hs0
  go_wp2
  go_loopw [0, 5, 6] (fun o i _ wr => ∃ (q g1 c1 k : Nat) (t : List Int), q ≤ s.size ∧ i = .int .i64 q ∧ k ≤ 2 * q + 1 ∧ o = .slice (some ⟨g1, 0, none⟩) (n + k) c1 ∧ Gr wb w g wr g1 c1 (n + k) (zs ++ 34 :: t)) (fun _ i _ _ => s.size - (intOf i).toNat)
  case atStart => exact ⟨0, g1, c1, 1, [], Nat.zero_le _, rfl, by omega, rfl, hG1⟩
  case round =>
    clear hG1
    obtain ⟨q, g1, c1, k, t, hq, rfl, hk, rfl, hG⟩ := hrel
    have hsz := hG.size
    by_cases hlt : q < s.size
    · obtain ⟨z, hz⟩ : ∃ z : Int, ((s[q]'hlt).toNat : Int) = z := ⟨_, rfl⟩
      rcases (by omega : z = 34 ∨ z = 92 ∨ (¬ z = 34 ∧ ¬ z = 92)) with rfl | rfl | ⟨e34, e92⟩
      · go_wp2_with (at_builtin; refine wpList_append_gen _ rfl (.tmp 25) (.tmp 26) 22 rfl wb.heap.size 5 i0 _ 1 1 Try.underlying22 hi hz0 hz1 hz2 rfl (by decide) g1 (n + k) c1 _ rfl (hG.alloc _).line.2.1 (some ⟨wr.heap.size, 0, none⟩) 1 1 [.int .u8 92] rfl (by simp) rfl (by intro ad ha; cases ha; exact World.news_of_block (cs := #[.int .u8 92]) (t := 5) (fr := (0, 0)) (heap_alloc_new wr _)) (by simp [Value.oneCell']) (by unfold maxLen; omega) (by omega) (by simp; omega) ?_)
        intro g2 c2 w2 hown2 hgr2 hat2
        have hG2 := hG.byte 92 (by simpa using hown2) hgr2 (by simpa using hat2)
        rw [List.append_assoc, List.cons_append] at hG2
        clear hown2 hgr2 hat2 hG hsz
        have hsz := hG2.size
        go_wp2_with (at_builtin; refine wpList_append_gen _ rfl (.tmp 28) (.tmp 30) 22 rfl wb.heap.size 5 i0 _ 1 1 Try.underlying22 hi hz0 hz1 hz2 rfl (by decide) g2 (n + k + 1) c2 _ rfl (hG2.alloc _).line.2.1 (some ⟨w2.heap.size, 0, none⟩) 1 1 [.int .u8 34] rfl (by simp) rfl (by intro ad ha; cases ha; exact World.news_of_block (cs := #[.int .u8 34]) (t := 5) (fr := (0, 0)) (heap_alloc_new w2 _)) (by simp [Value.oneCell']) (by unfold maxLen; omega) (by omega) (by simp; omega) ?_)
        intro g3 c3 w3 hown3 hgr3 hat3
        have hG3 := hG2.byte 34 (by simpa using hown3) hgr3 (by simpa using hat3)
        rw [List.append_assoc, List.cons_append] at hG3
        have HG := hide hG3
        clear hown3 hgr3 hat3 hG3 hG2 hsz hz
        go_wp2
        go_roundw
        case rel => exact ⟨q + 1, g3, c3, k + 1 + 1, _, by omega, by go_num, by omega, rfl, HG.out⟩
        case measure => simp [intOf]; omega
      · go_wp2_with (at_builtin; refine wpList_append_gen _ rfl (.tmp 25) (.tmp 26) 22 rfl wb.heap.size 5 i0 _ 1 1 Try.underlying22 hi hz0 hz1 hz2 rfl (by decide) g1 (n + k) c1 _ rfl (hG.alloc _).line.2.1 (some ⟨wr.heap.size, 0, none⟩) 1 1 [.int .u8 92] rfl (by simp) rfl (by intro ad ha; cases ha; exact World.news_of_block (cs := #[.int .u8 92]) (t := 5) (fr := (0, 0)) (heap_alloc_new wr _)) (by simp [Value.oneCell']) (by unfold maxLen; omega) (by omega) (by simp; omega) ?_)
        intro g2 c2 w2 hown2 hgr2 hat2
        have hG2 := hG.byte 92 (by simpa using hown2) hgr2 (by simpa using hat2)
        rw [List.append_assoc, List.cons_append] at hG2
        clear hown2 hgr2 hat2 hG hsz
        have hsz := hG2.size
        go_wp2_with (at_builtin; refine wpList_append_gen _ rfl (.tmp 28) (.tmp 30) 22 rfl wb.heap.size 5 i0 _ 1 1 Try.underlying22 hi hz0 hz1 hz2 rfl (by decide) g2 (n + k + 1) c2 _ rfl (hG2.alloc _).line.2.1 (some ⟨w2.heap.size, 0, none⟩) 1 1 [.int .u8 92] rfl (by simp) rfl (by intro ad ha; cases ha; exact World.news_of_block (cs := #[.int .u8 92]) (t := 5) (fr := (0, 0)) (heap_alloc_new w2 _)) (by simp [Value.oneCell']) (by unfold maxLen; omega) (by omega) (by simp; omega) ?_)
        intro g3 c3 w3 hown3 hgr3 hat3
        have hG3 := hG2.byte 92 (by simpa using hown3) hgr3 (by simpa using hat3)
        rw [List.append_assoc, List.cons_append] at hG3
        have HG := hide hG3
        clear hown3 hgr3 hat3 hG3 hG2 hsz hz
        go_wp2
        go_roundw
        case rel => exact ⟨q + 1, g3, c3, k + 1 + 1, _, by omega, by go_num, by omega, rfl, HG.out⟩
        case measure => simp [intOf]; omega
      · have f34 : (z == 34) = false := by simpa using e34
        have f92 : (z == 92) = false := by simpa using e92
        go_wp2_with (at_builtin; refine wpList_append_gen _ rfl (.tmp 28) (.tmp 30) 22 rfl wb.heap.size 5 i0 _ 1 1 Try.underlying22 hi hz0 hz1 hz2 rfl (by decide) g1 (n + k) c1 _ rfl (hG.alloc _).line.2.1 (some ⟨wr.heap.size, 0, none⟩) 1 1 [.int .u8 z] rfl (by simp) rfl (by intro ad ha; cases ha; exact World.news_of_block (cs := #[.int .u8 z]) (t := 5) (fr := (0, 0)) (heap_alloc_new wr _)) (by simp [Value.oneCell']) (by unfold maxLen; omega) (by omega) (by simp; omega) ?_)
        intro g3 c3 w3 hown3 hgr3 hat3
        have hG3 := hG.byte z (by simpa using hown3) hgr3 (by simpa using hat3)
        rw [List.append_assoc, List.cons_append] at hG3
        have HG := hide hG3
        clear hown3 hgr3 hat3 hG3 hG hsz e34 e92 f34 f92 hz
        go_wp2
        go_roundw
        case rel => exact ⟨q + 1, g3, c3, k + 1, _, by omega, by go_num, by omega, rfl, HG.out⟩
        case measure => simp [intOf]; omega
    · obtain rfl : q = s.size := by omega
      go_wp2_with (at_builtin; refine wpList_append_gen _ rfl (.tmp 32) (.tmp 33) 22 rfl wb.heap.size 5 i0 _ 1 1 Try.underlying22 hi hz0 hz1 hz2 rfl (by decide) g1 (n + k) c1 _ rfl (hG.alloc _).line.2.1 (some ⟨wr.heap.size, 0, none⟩) 1 1 [.int .u8 34] rfl (by simp) rfl (by intro ad ha; cases ha; exact World.news_of_block (cs := #[.int .u8 34]) (t := 5) (fr := (0, 0)) (heap_alloc_new wr _)) (by simp [Value.oneCell']) (by unfold maxLen; omega) (by omega) (by simp; omega) ?_)
      intro g2 c2 w2 hown2 hgr2 hat2
      have hG2 := hG.byte 34 (by simpa using hown2) hgr2 (by simpa using hat2)
      rw [List.append_assoc, List.cons_append] at hG2
      have HG := hide hG2
      have hf : k + 1 ≤ 2 * s.size + 2 := by omega
      have HF := hide hf
      clear hown2 hgr2 hat2 hG2 hG hf
      go_wp2
      go_ret
      exact ⟨g2, c2, k + 1, 34, t ++ [34], rfl, HF.out, rfl, HG.out⟩

end Go.Proofs.Qxb6600387a
