/-
  FnKindNamesAWrittenValue: the walk.
-/
import Derived.Test.Qxb6600387aKindS
namespace Go.Proofs.Qxb6600387a
open Go.RowKit

set_option maxRecDepth 100000 in
set_option maxHeartbeats 3200000 in
theorem f6_any (w : World) (a0 : Option Addr) (n0 c0 : Nat) (z0 : List Int) (sel num : Int) (truth : Bool) (text : ByteArray) (a5 : Option Addr) (n5 c5 : Nat) (z5 : List Int) (hs0 : Src w a0 n0 z0) (hs5 : Src w a5 n5 z5) (hm0 : n0 ≤ maxLen) (hm4 : text.size ≤ maxLen) (hm5 : n5 ≤ maxLen)
    (hv0 : 0 ≤ sel) (hv1 : sel < 256) (hu0 : -9223372036854775808 ≤ num) (hu1 : num < 9223372036854775808) :
    Calls Try.prog 6 #[.slice a0 n0 c0, .int .u8 sel, .int .i64 num, .bool truth, .string text, .slice a5 n5 c5] w fun e w' => e = .returned (.bool true) ∧ Below w.heap.size w w' := by
  obtain ⟨i0, hi, hz0, hz1, hz2⟩ := info_parts info5
  go_enter Try.func6, Try.ntmps6
  go_wp2_with (go_at_call 16; refine (f16_any w a0 a5 n0 n5 c0 c5 sel num truth text hm0 hm4 hm5).mono ?_)
  rintro e w' ⟨⟨y, rfl, hy⟩, hw⟩
  rw [hw]; clear hw w'
  cases y with
  | false =>
    go_wp2
    go_ret
    exact ⟨rfl, Below.refl _ _⟩
  | true =>
    have hy := hy rfl
    have b0 : n0 ≤ 1048576 := by omega
    have b5 : n5 ≤ 1048576 := by omega
    have b4 : text.size ≤ 1048576 := by omega
    have b0' : (n0 : Int) ≤ 1048576 := by omega
    have b4' : (text.size : Int) ≤ 1048576 := by omega
    have b5' : (n5 : Int) ≤ 1048576 := by omega
    have b6' : (n0 : Int) + text.size + n5 ≤ 1048576 := by omega
    have b7' : (n0 : Int) + text.size ≤ 1048576 := by omega
    go_wp2_with (go_at_call 9; refine (f9_any w a0 n0 c0 z0 b0 hs0).mono ?_)
    rintro e w1 ⟨ao0, cc0, rfl, ho0, hb1⟩
    have hs5' := hs5.below hb1
    go_wp2_with (go_at_call 9; refine (f9_any w1 a5 n5 c5 z5 b5 hs5').mono ?_)
    rintro e w2 ⟨ao5, cc5, rfl, ho5, hb2⟩
    have ho0' := ho0.below hb2
    have hbw := hb1.trans (hb2.mono hb1.size)
    have l0 := hs0.len
    have l5 := hs5.len
    clear hs0 hs5 hs5' ho0 hb1 hb2
    go_wp2_with (at_make; refine wpList_make_own _ rfl _ _ 22 rfl w.heap.size 5 i0 _ 1 Try.underlying22 hi hz0 hz1 .i64 .i64 8 8 rfl rfl rfl ?_ ?_ hbw.size ?_)
    · rw [hz2]; omega
    · unfold maxLen; omega
    intro w3 hown3 hgr3
    have hL3 : Line w w3 w2.heap.size 8 0 [] := ⟨rfl, hown3, hbw.grown hgr3 hbw.size (fun k hk => by cases hk)⟩
    have ho03 : Own w3 ao0 z0 := by
      rcases ho0' with h | ⟨k, h1, h2⟩
      · exact .inl h
      · exact .inr ⟨k, h1, h2.upd (Upd.of_grown hgr3) (by simp)⟩
    have ho53 : Own w3 ao5 z5 := by
      rcases ho5 with h | ⟨k, h1, h2⟩
      · exact .inl h
      · exact .inr ⟨k, h1, h2.upd (Upd.of_grown hgr3) (by simp)⟩
    have k0 := ho0'.lt
    have k5 := ho5.lt
    have hls := hbw.size
    clear hown3 hgr3 hbw ho5 ho0'
    generalize w2.heap.size = B at *
    have o0 := ints_oneCell .u8 z0
    have o5 := ints_oneCell .u8 z5
    have n0' := ho03.nil l0
    have n5' := ho53.nil l5
    have s0 := ho03.news
    have lz0 : (z0.map (Value.int .u8)).length = n0 * 1 := by simp [l0]
    have hLs := hL3.2.2.size
    go_wp2_with (at_builtin; refine wpList_append_gen _ rfl (.tmp 50) (.tmp 51) 22 rfl w.heap.size 5 i0 _ 1 1 Try.underlying22 hi hz0 hz1 hz2 rfl (by decide) B 0 8 _ rfl hL3.2.1 ao0 n0 cc0 (z0.map (Value.int .u8)) rfl n0' lz0 s0 o0 (by unfold maxLen; omega) (by omega) hLs ?_)
    intro g4 cap4 w4 hown4 hgr4 hat4
    have hL4 := hL3.more l0 (by simpa using hown4) hgr4
    have ho5 := ho53.grown k5 (Nat.le_refl _) hgr4 hL3
    have hB4 : B ≤ g4 := by
      have := hL3.lt.2
      rcases hat4 with h | h <;> omega
    rw [Nat.zero_add, List.nil_append] at hL4
    clear hown4 hgr4 hat4 hL3 ho03 ho53 s0 n0' lz0 o0 hLs
    have hG := Gr.start hL4
    have hLs := hG.size
    have hsel : sel % 6 = 0 ∨ sel % 6 = 1 ∨ sel % 6 = 2 ∨ sel % 6 = 3 ∨ sel % 6 = 4 ∨ sel % 6 = 5 := by omega
    rcases hsel with hsel | hsel | hsel | hsel | hsel | hsel
    case inl =>
      clear hL4
      have szhA := hG.size
      go_wp2_with (at_builtin; refine wpList_append_gen _ rfl (.tmp 60) (.tmp 61) 22 rfl w.heap.size 5 i0 _ 1 1 Try.underlying22 hi hz0 hz1 hz2 rfl (by decide) g4 (n0) cap4 _ rfl (hG.alloc _).line.2.1 (some ⟨w4.heap.size, 0, none⟩) 1 1 [.int .u8 123] rfl (by simp) rfl (by intro ad ha; cases ha; exact World.news_of_block (cs := #[.int .u8 123]) (t := 5) (fr := (0, 0)) (heap_alloc_new w4 _)) (by simp [Value.oneCell']) (by unfold maxLen; omega) (by omega) (by simp; omega) ?_)
      intro gA cA wA hownhA hgrhA hathA
      have hA := hG.byte 123 (by simpa using hownhA) hgrhA (by simpa using hathA)
      clear hownhA hgrhA hathA szhA hG
      go_wp2_with (go_at_call 14; refine (f14_any w wA gA (n0 + 1) cA _ text hA.line (by omega) b4).mono ?_)
      rintro e wB ⟨gB, cB, kB, yB, tB, rfl, hkB, hyB, hghB⟩
      have hB := hA.trans hghB
      have HyB := hide hyB
      clear hghB hA hyB
      simp only []
      have szhC := hB.size
      go_wp2_with (at_builtin; refine wpList_append_gen _ rfl (.tmp 66) (.tmp 67) 22 rfl w.heap.size 5 i0 _ 1 1 Try.underlying22 hi hz0 hz1 hz2 rfl (by decide) gB (n0 + 1 + kB) cB _ rfl (hB.alloc _).line.2.1 (some ⟨wB.heap.size, 0, none⟩) 1 1 [.int .u8 58] rfl (by simp) rfl (by intro ad ha; cases ha; exact World.news_of_block (cs := #[.int .u8 58]) (t := 5) (fr := (0, 0)) (heap_alloc_new wB _)) (by simp [Value.oneCell']) (by unfold maxLen; omega) (by omega) (by simp; omega) ?_)
      intro gC cC wC hownhC hgrhC hathC
      have hC := hB.byte 58 (by simpa using hownhC) hgrhC (by simpa using hathC)
      clear hownhC hgrhC hathC szhC hB
      go_wp2_with (go_at_call 17; refine (f17_any w wC gC (n0 + 1 + kB + 1) cC _ num hC.line (by omega) hu0 hu1).mono ?_)
      rintro e wD ⟨gD, cD, kD, yD, tD, rfl, hkD, hyD, hghD⟩
      have hD := hC.trans hghD
      have HyD := hide hyD
      clear hghD hC hyD
      simp only []
      have szhE := hD.size
      go_wp2_with (at_builtin; refine wpList_append_gen _ rfl (.tmp 72) (.tmp 73) 22 rfl w.heap.size 5 i0 _ 1 1 Try.underlying22 hi hz0 hz1 hz2 rfl (by decide) gD (n0 + 1 + kB + 1 + kD) cD _ rfl (hD.alloc _).line.2.1 (some ⟨wD.heap.size, 0, none⟩) 1 1 [.int .u8 125] rfl (by simp) rfl (by intro ad ha; cases ha; exact World.news_of_block (cs := #[.int .u8 125]) (t := 5) (fr := (0, 0)) (heap_alloc_new wD _)) (by simp [Value.oneCell']) (by unfold maxLen; omega) (by omega) (by simp; omega) ?_)
      intro gE cE wE hownhE hgrhE hathE
      have hE := hD.byte 125 (by simpa using hownhE) hgrhE (by simpa using hathE)
      clear hownhE hgrhE hathE szhE hD
      obtain ⟨ZF, hZF⟩ : ∃ ZF, ZF = z0 ++ [123] ++ yB :: tB ++ [58] ++ yD :: tD ++ [125] := ⟨_, rfl⟩
      have HZ := hide (show ZF = z0 ++ 123 :: (yB :: tB ++ [58] ++ yD :: tD ++ [125]) by simp [hZF])
      rw [← hZF] at hE
      have HGF := hide hE
      clear hZF hE
      obtain ⟨tz, hzf⟩ : ∃ tz, ZF = z0 ++ 123 :: tz := ⟨_, HZ.out⟩
      have hof : Own wE ao5 z5 := by
        rcases ho5 with h | ⟨x, hx1, hx2⟩
        · exact .inl h
        · exact .inr ⟨x, hx1, hx2.upd HGF.out.upd (by have := k5 x hx1; omega)⟩
      have hLf := HGF.out.line
      have hls := hLf.2.2.size
      have s5 := hof.news
      have lz5 : (z5.map (Value.int .u8)).length = n5 * 1 := by simp [l5]
      have hnf : n0 < n0 + 1 + kB + 1 + kD + 1 := by
        have := hLf.1
        rw [hzf, List.length_append, List.length_cons, l0] at this
        omega
      have HZF := hide hzf
      clear hzf HZ
      go_wp2_with (at_builtin; refine wpList_append_gen _ rfl (.tmp 108) (.tmp 109) 22 rfl w.heap.size 5 i0 _ 1 1 Try.underlying22 hi hz0 hz1 hz2 rfl (by decide) gE (n0 + 1 + kB + 1 + kD + 1) cE _ rfl hLf.2.1 ao5 n5 cc5 (z5.map (Value.int .u8)) rfl n5' lz5 s5 o5 (by unfold maxLen; omega) (by omega) hls ?_)
      intro g7 cap7 w7 hown7 hgr7 hat7
      have hL7 := hLf.more l5 (by simpa using hown7) hgr7
      clear hown7 hgr7 hat7 hLf hof s5 lz5 o5 hls HGF ho5
      have q0 : w7.cell? ⟨g7, n0, none⟩ = some (.int .u8 123) := line_cell hL7 n0 123 (by
        rw [HZF.out, List.append_assoc, List.getElem?_append_right (by omega), l0, Nat.sub_self]
        rfl)
      have hb7 := (line_cap hL7).1
      have h18 := hide (f18_any w7 g7 (n0 + 1 + kB + 1 + kD + 1 + n5) cap7 n0 123 _ (by omega) q0 (.inl ⟨rfl, rfl⟩))
      have HB := hide hb7
      clear q0 hb7 hL7 HZF
      go_wp2_with fail
      refine h18.out.mono ?_
      rintro e w8 ⟨rfl, hb8⟩
      have HB8 := hide (HB.out.trans (hb8.mono HB.out.size))
      clear h18 hb8 HB
      go_wp2
      go_ret
      exact ⟨rfl, HB8.out⟩
    case inr.inl =>
      clear hL4
      have szhA := hG.size
      go_wp2_with (at_builtin; refine wpList_append_gen _ rfl (.tmp 77) (.tmp 78) 22 rfl w.heap.size 5 i0 _ 1 1 Try.underlying22 hi hz0 hz1 hz2 rfl (by decide) g4 (n0) cap4 _ rfl (hG.alloc _).line.2.1 (some ⟨w4.heap.size, 0, none⟩) 1 1 [.int .u8 91] rfl (by simp) rfl (by intro ad ha; cases ha; exact World.news_of_block (cs := #[.int .u8 91]) (t := 5) (fr := (0, 0)) (heap_alloc_new w4 _)) (by simp [Value.oneCell']) (by unfold maxLen; omega) (by omega) (by simp; omega) ?_)
      intro gA cA wA hownhA hgrhA hathA
      have hA := hG.byte 91 (by simpa using hownhA) hgrhA (by simpa using hathA)
      clear hownhA hgrhA hathA szhA hG
      go_wp2_with (go_at_call 17; refine (f17_any w wA gA (n0 + 1) cA _ num hA.line (by omega) hu0 hu1).mono ?_)
      rintro e wB ⟨gB, cB, kB, yB, tB, rfl, hkB, hyB, hghB⟩
      have hB := hA.trans hghB
      have HyB := hide hyB
      clear hghB hA hyB
      simp only []
      have szhC := hB.size
      go_wp2_with (at_builtin; refine wpList_append_gen _ rfl (.tmp 83) (.tmp 84) 22 rfl w.heap.size 5 i0 _ 1 1 Try.underlying22 hi hz0 hz1 hz2 rfl (by decide) gB (n0 + 1 + kB) cB _ rfl (hB.alloc _).line.2.1 (some ⟨wB.heap.size, 0, none⟩) 1 1 [.int .u8 44] rfl (by simp) rfl (by intro ad ha; cases ha; exact World.news_of_block (cs := #[.int .u8 44]) (t := 5) (fr := (0, 0)) (heap_alloc_new wB _)) (by simp [Value.oneCell']) (by unfold maxLen; omega) (by omega) (by simp; omega) ?_)
      intro gC cC wC hownhC hgrhC hathC
      have hC := hB.byte 44 (by simpa using hownhC) hgrhC (by simpa using hathC)
      clear hownhC hgrhC hathC szhC hB
      go_wp2_with (go_at_call 14; refine (f14_any w wC gC (n0 + 1 + kB + 1) cC _ text hC.line (by omega) b4).mono ?_)
      rintro e wD ⟨gD, cD, kD, yD, tD, rfl, hkD, hyD, hghD⟩
      have hD := hC.trans hghD
      have HyD := hide hyD
      clear hghD hC hyD
      simp only []
      have szhE := hD.size
      go_wp2_with (at_builtin; refine wpList_append_gen _ rfl (.tmp 89) (.tmp 90) 22 rfl w.heap.size 5 i0 _ 1 1 Try.underlying22 hi hz0 hz1 hz2 rfl (by decide) gD (n0 + 1 + kB + 1 + kD) cD _ rfl (hD.alloc _).line.2.1 (some ⟨wD.heap.size, 0, none⟩) 1 1 [.int .u8 93] rfl (by simp) rfl (by intro ad ha; cases ha; exact World.news_of_block (cs := #[.int .u8 93]) (t := 5) (fr := (0, 0)) (heap_alloc_new wD _)) (by simp [Value.oneCell']) (by unfold maxLen; omega) (by omega) (by simp; omega) ?_)
      intro gE cE wE hownhE hgrhE hathE
      have hE := hD.byte 93 (by simpa using hownhE) hgrhE (by simpa using hathE)
      clear hownhE hgrhE hathE szhE hD
      obtain ⟨ZF, hZF⟩ : ∃ ZF, ZF = z0 ++ [91] ++ yB :: tB ++ [44] ++ yD :: tD ++ [93] := ⟨_, rfl⟩
      have HZ := hide (show ZF = z0 ++ 91 :: (yB :: tB ++ [44] ++ yD :: tD ++ [93]) by simp [hZF])
      rw [← hZF] at hE
      have HGF := hide hE
      clear hZF hE
      obtain ⟨tz, hzf⟩ : ∃ tz, ZF = z0 ++ 91 :: tz := ⟨_, HZ.out⟩
      have hof : Own wE ao5 z5 := by
        rcases ho5 with h | ⟨x, hx1, hx2⟩
        · exact .inl h
        · exact .inr ⟨x, hx1, hx2.upd HGF.out.upd (by have := k5 x hx1; omega)⟩
      have hLf := HGF.out.line
      have hls := hLf.2.2.size
      have s5 := hof.news
      have lz5 : (z5.map (Value.int .u8)).length = n5 * 1 := by simp [l5]
      have hnf : n0 < n0 + 1 + kB + 1 + kD + 1 := by
        have := hLf.1
        rw [hzf, List.length_append, List.length_cons, l0] at this
        omega
      have HZF := hide hzf
      clear hzf HZ
      go_wp2_with (at_builtin; refine wpList_append_gen _ rfl (.tmp 108) (.tmp 109) 22 rfl w.heap.size 5 i0 _ 1 1 Try.underlying22 hi hz0 hz1 hz2 rfl (by decide) gE (n0 + 1 + kB + 1 + kD + 1) cE _ rfl hLf.2.1 ao5 n5 cc5 (z5.map (Value.int .u8)) rfl n5' lz5 s5 o5 (by unfold maxLen; omega) (by omega) hls ?_)
      intro g7 cap7 w7 hown7 hgr7 hat7
      have hL7 := hLf.more l5 (by simpa using hown7) hgr7
      clear hown7 hgr7 hat7 hLf hof s5 lz5 o5 hls HGF ho5
      have q0 : w7.cell? ⟨g7, n0, none⟩ = some (.int .u8 91) := line_cell hL7 n0 91 (by
        rw [HZF.out, List.append_assoc, List.getElem?_append_right (by omega), l0, Nat.sub_self]
        rfl)
      have hb7 := (line_cap hL7).1
      have h18 := hide (f18_any w7 g7 (n0 + 1 + kB + 1 + kD + 1 + n5) cap7 n0 91 _ (by omega) q0 (.inr (.inl ⟨rfl, rfl⟩)))
      have HB := hide hb7
      clear q0 hb7 hL7 HZF
      go_wp2_with fail
      refine h18.out.mono ?_
      rintro e w8 ⟨rfl, hb8⟩
      have HB8 := hide (HB.out.trans (hb8.mono HB.out.size))
      clear h18 hb8 HB
      go_wp2
      go_ret
      exact ⟨rfl, HB8.out⟩
    case inr.inr.inl =>
      clear hL4
      go_wp2_with (go_at_call 14; refine (f14_any w w4 g4 (n0) cap4 _ text hG.line (by omega) b4).mono ?_)
      rintro e wB ⟨gB, cB, kB, yB, tB, rfl, hkB, hyB, hghB⟩
      have hB := hG.trans hghB
      have HyB := hide hyB
      clear hghB hG hyB
      simp only []
      obtain ⟨ZF, hZF⟩ : ∃ ZF, ZF = z0 ++ yB :: tB := ⟨_, rfl⟩
      have HZ := hide (show ZF = z0 ++ yB :: (tB) by simp [hZF])
      rw [← hZF] at hB
      have HGF := hide hB
      clear hZF hB
      obtain ⟨tz, hzf⟩ : ∃ tz, ZF = z0 ++ yB :: tz := ⟨_, HZ.out⟩
      have hof : Own wB ao5 z5 := by
        rcases ho5 with h | ⟨x, hx1, hx2⟩
        · exact .inl h
        · exact .inr ⟨x, hx1, hx2.upd HGF.out.upd (by have := k5 x hx1; omega)⟩
      have hLf := HGF.out.line
      have hls := hLf.2.2.size
      have s5 := hof.news
      have lz5 : (z5.map (Value.int .u8)).length = n5 * 1 := by simp [l5]
      have hnf : n0 < n0 + kB := by
        have := hLf.1
        rw [hzf, List.length_append, List.length_cons, l0] at this
        omega
      have HZF := hide hzf
      clear hzf HZ
      go_wp2_with (at_builtin; refine wpList_append_gen _ rfl (.tmp 108) (.tmp 109) 22 rfl w.heap.size 5 i0 _ 1 1 Try.underlying22 hi hz0 hz1 hz2 rfl (by decide) gB (n0 + kB) cB _ rfl hLf.2.1 ao5 n5 cc5 (z5.map (Value.int .u8)) rfl n5' lz5 s5 o5 (by unfold maxLen; omega) (by omega) hls ?_)
      intro g7 cap7 w7 hown7 hgr7 hat7
      have hL7 := hLf.more l5 (by simpa using hown7) hgr7
      clear hown7 hgr7 hat7 hLf hof s5 lz5 o5 hls HGF ho5
      have q0 : w7.cell? ⟨g7, n0, none⟩ = some (.int .u8 yB) := line_cell hL7 n0 yB (by
        rw [HZF.out, List.append_assoc, List.getElem?_append_right (by omega), l0, Nat.sub_self]
        rfl)
      have hb7 := (line_cap hL7).1
      have h18 := hide (f18_any w7 g7 (n0 + kB + n5) cap7 n0 yB _ (by omega) q0 (.inr (.inr (.inl ⟨HyB.out, rfl⟩))))
      have HB := hide hb7
      clear q0 hb7 hL7 HZF
      go_wp2_with fail
      refine h18.out.mono ?_
      rintro e w8 ⟨rfl, hb8⟩
      have HB8 := hide (HB.out.trans (hb8.mono HB.out.size))
      clear h18 hb8 HB
      go_wp2
      go_ret
      exact ⟨rfl, HB8.out⟩
    case inr.inr.inr.inl =>
      clear hL4
      cases truth with
      | true =>
        go_wp2_with (at_builtin; refine wpList_append_str _ rfl (.tmp 100) (.const (.string ⟨#[116, 114, 117, 101]⟩)) 22 9 rfl w.heap.size 5 i0 _ Try.underlying22 Try.underlying9 hi hz0 hz1 hz2 rfl g4 n0 cap4 _ rfl hG.line.2.1 ⟨#[116, 114, 117, 101]⟩ rfl (by show n0 + 4 ≤ _; omega) hLs ?_)
        intro gB cB wB hown hgr hat
        have hB : Gr w w4 g4 wB gB cB (n0 + 4) (z0 ++ [116, 114, 117, 101]) := hG.more (ys := [116, 114, 117, 101]) rfl hown hgr hat
        clear hown hgr hat hG
        obtain ⟨ZF, hZF⟩ : ∃ ZF, ZF = z0 ++ [116, 114, 117, 101] := ⟨_, rfl⟩
        have HZ := hide (show ZF = z0 ++ 116 :: ([114, 117, 101]) by simp [hZF])
        rw [← hZF] at hB
        have HGF := hide hB
        clear hZF hB
        obtain ⟨tz, hzf⟩ : ∃ tz, ZF = z0 ++ 116 :: tz := ⟨_, HZ.out⟩
        have hof : Own wB ao5 z5 := by
          rcases ho5 with h | ⟨x, hx1, hx2⟩
          · exact .inl h
          · exact .inr ⟨x, hx1, hx2.upd HGF.out.upd (by have := k5 x hx1; omega)⟩
        have hLf := HGF.out.line
        have hls := hLf.2.2.size
        have s5 := hof.news
        have lz5 : (z5.map (Value.int .u8)).length = n5 * 1 := by simp [l5]
        have hnf : n0 < n0 + 4 := by
          have := hLf.1
          rw [hzf, List.length_append, List.length_cons, l0] at this
          omega
        have HZF := hide hzf
        clear hzf HZ
        go_wp2_with (at_builtin; refine wpList_append_gen _ rfl (.tmp 108) (.tmp 109) 22 rfl w.heap.size 5 i0 _ 1 1 Try.underlying22 hi hz0 hz1 hz2 rfl (by decide) gB (n0 + 4) cB _ rfl hLf.2.1 ao5 n5 cc5 (z5.map (Value.int .u8)) rfl n5' lz5 s5 o5 (by unfold maxLen; omega) (by omega) hls ?_)
        intro g7 cap7 w7 hown7 hgr7 hat7
        have hL7 := hLf.more l5 (by simpa using hown7) hgr7
        clear hown7 hgr7 hat7 hLf hof s5 lz5 o5 hls HGF ho5
        have q0 : w7.cell? ⟨g7, n0, none⟩ = some (.int .u8 116) := line_cell hL7 n0 116 (by
          rw [HZF.out, List.append_assoc, List.getElem?_append_right (by omega), l0, Nat.sub_self]
          rfl)
        have hb7 := (line_cap hL7).1
        have h18 := hide (f18_any w7 g7 (n0 + 4 + n5) cap7 n0 116 _ (by omega) q0 (.inr (.inr (.inr (.inl ⟨.inl rfl, rfl⟩)))))
        have HB := hide hb7
        clear q0 hb7 hL7 HZF
        go_wp2_with fail
        refine h18.out.mono ?_
        rintro e w8 ⟨rfl, hb8⟩
        have HB8 := hide (HB.out.trans (hb8.mono HB.out.size))
        clear h18 hb8 HB
        go_wp2
        go_ret
        exact ⟨rfl, HB8.out⟩
      | false =>
        go_wp2_with (at_builtin; refine wpList_append_str _ rfl (.tmp 102) (.const (.string ⟨#[102, 97, 108, 115, 101]⟩)) 22 9 rfl w.heap.size 5 i0 _ Try.underlying22 Try.underlying9 hi hz0 hz1 hz2 rfl g4 n0 cap4 _ rfl hG.line.2.1 ⟨#[102, 97, 108, 115, 101]⟩ rfl (by show n0 + 5 ≤ _; omega) hLs ?_)
        intro gB cB wB hown hgr hat
        have hB : Gr w w4 g4 wB gB cB (n0 + 5) (z0 ++ [102, 97, 108, 115, 101]) := hG.more (ys := [102, 97, 108, 115, 101]) rfl hown hgr hat
        clear hown hgr hat hG
        obtain ⟨ZF, hZF⟩ : ∃ ZF, ZF = z0 ++ [102, 97, 108, 115, 101] := ⟨_, rfl⟩
        have HZ := hide (show ZF = z0 ++ 102 :: ([97, 108, 115, 101]) by simp [hZF])
        rw [← hZF] at hB
        have HGF := hide hB
        clear hZF hB
        obtain ⟨tz, hzf⟩ : ∃ tz, ZF = z0 ++ 102 :: tz := ⟨_, HZ.out⟩
        have hof : Own wB ao5 z5 := by
          rcases ho5 with h | ⟨x, hx1, hx2⟩
          · exact .inl h
          · exact .inr ⟨x, hx1, hx2.upd HGF.out.upd (by have := k5 x hx1; omega)⟩
        have hLf := HGF.out.line
        have hls := hLf.2.2.size
        have s5 := hof.news
        have lz5 : (z5.map (Value.int .u8)).length = n5 * 1 := by simp [l5]
        have hnf : n0 < n0 + 5 := by
          have := hLf.1
          rw [hzf, List.length_append, List.length_cons, l0] at this
          omega
        have HZF := hide hzf
        clear hzf HZ
        go_wp2_with (at_builtin; refine wpList_append_gen _ rfl (.tmp 108) (.tmp 109) 22 rfl w.heap.size 5 i0 _ 1 1 Try.underlying22 hi hz0 hz1 hz2 rfl (by decide) gB (n0 + 5) cB _ rfl hLf.2.1 ao5 n5 cc5 (z5.map (Value.int .u8)) rfl n5' lz5 s5 o5 (by unfold maxLen; omega) (by omega) hls ?_)
        intro g7 cap7 w7 hown7 hgr7 hat7
        have hL7 := hLf.more l5 (by simpa using hown7) hgr7
        clear hown7 hgr7 hat7 hLf hof s5 lz5 o5 hls HGF ho5
        have q0 : w7.cell? ⟨g7, n0, none⟩ = some (.int .u8 102) := line_cell hL7 n0 102 (by
          rw [HZF.out, List.append_assoc, List.getElem?_append_right (by omega), l0, Nat.sub_self]
          rfl)
        have hb7 := (line_cap hL7).1
        have h18 := hide (f18_any w7 g7 (n0 + 5 + n5) cap7 n0 102 _ (by omega) q0 (.inr (.inr (.inr (.inl ⟨.inr rfl, rfl⟩)))))
        have HB := hide hb7
        clear q0 hb7 hL7 HZF
        go_wp2_with fail
        refine h18.out.mono ?_
        rintro e w8 ⟨rfl, hb8⟩
        have HB8 := hide (HB.out.trans (hb8.mono HB.out.size))
        clear h18 hb8 HB
        go_wp2
        go_ret
        exact ⟨rfl, HB8.out⟩
    case inr.inr.inr.inr.inl =>
      clear hL4
      go_wp2_with (at_builtin; refine wpList_append_str _ rfl (.tmp 106) (.const (.string ⟨#[110, 117, 108, 108]⟩)) 22 9 rfl w.heap.size 5 i0 _ Try.underlying22 Try.underlying9 hi hz0 hz1 hz2 rfl g4 n0 cap4 _ rfl hG.line.2.1 ⟨#[110, 117, 108, 108]⟩ rfl (by show n0 + 4 ≤ _; omega) hLs ?_)
      intro gB cB wB hown hgr hat
      have hB : Gr w w4 g4 wB gB cB (n0 + 4) (z0 ++ [110, 117, 108, 108]) := hG.more (ys := [110, 117, 108, 108]) rfl hown hgr hat
      clear hown hgr hat hG
      obtain ⟨ZF, hZF⟩ : ∃ ZF, ZF = z0 ++ [110, 117, 108, 108] := ⟨_, rfl⟩
      have HZ := hide (show ZF = z0 ++ 110 :: ([117, 108, 108]) by simp [hZF])
      rw [← hZF] at hB
      have HGF := hide hB
      clear hZF hB
      obtain ⟨tz, hzf⟩ : ∃ tz, ZF = z0 ++ 110 :: tz := ⟨_, HZ.out⟩
      have hof : Own wB ao5 z5 := by
        rcases ho5 with h | ⟨x, hx1, hx2⟩
        · exact .inl h
        · exact .inr ⟨x, hx1, hx2.upd HGF.out.upd (by have := k5 x hx1; omega)⟩
      have hLf := HGF.out.line
      have hls := hLf.2.2.size
      have s5 := hof.news
      have lz5 : (z5.map (Value.int .u8)).length = n5 * 1 := by simp [l5]
      have hnf : n0 < n0 + 4 := by
        have := hLf.1
        rw [hzf, List.length_append, List.length_cons, l0] at this
        omega
      have HZF := hide hzf
      clear hzf HZ
      go_wp2_with (at_builtin; refine wpList_append_gen _ rfl (.tmp 108) (.tmp 109) 22 rfl w.heap.size 5 i0 _ 1 1 Try.underlying22 hi hz0 hz1 hz2 rfl (by decide) gB (n0 + 4) cB _ rfl hLf.2.1 ao5 n5 cc5 (z5.map (Value.int .u8)) rfl n5' lz5 s5 o5 (by unfold maxLen; omega) (by omega) hls ?_)
      intro g7 cap7 w7 hown7 hgr7 hat7
      have hL7 := hLf.more l5 (by simpa using hown7) hgr7
      clear hown7 hgr7 hat7 hLf hof s5 lz5 o5 hls HGF ho5
      have q0 : w7.cell? ⟨g7, n0, none⟩ = some (.int .u8 110) := line_cell hL7 n0 110 (by
        rw [HZF.out, List.append_assoc, List.getElem?_append_right (by omega), l0, Nat.sub_self]
        rfl)
      have hb7 := (line_cap hL7).1
      have h18 := hide (f18_any w7 g7 (n0 + 4 + n5) cap7 n0 110 _ (by omega) q0 (.inr (.inr (.inr (.inr (.inl ⟨rfl, rfl⟩))))))
      have HB := hide hb7
      clear q0 hb7 hL7 HZF
      go_wp2_with fail
      refine h18.out.mono ?_
      rintro e w8 ⟨rfl, hb8⟩
      have HB8 := hide (HB.out.trans (hb8.mono HB.out.size))
      clear h18 hb8 HB
      go_wp2
      go_ret
      exact ⟨rfl, HB8.out⟩
    case inr.inr.inr.inr.inr =>
      clear hL4
      go_wp2_with (go_at_call 17; refine (f17_any w w4 g4 (n0) cap4 _ num hG.line (by omega) hu0 hu1).mono ?_)
      rintro e wB ⟨gB, cB, kB, yB, tB, rfl, hkB, hyB, hghB⟩
      have hB := hG.trans hghB
      have HyB := hide hyB
      clear hghB hG hyB
      simp only []
      obtain ⟨ZF, hZF⟩ : ∃ ZF, ZF = z0 ++ yB :: tB := ⟨_, rfl⟩
      have HZ := hide (show ZF = z0 ++ yB :: (tB) by simp [hZF])
      rw [← hZF] at hB
      have HGF := hide hB
      clear hZF hB
      obtain ⟨tz, hzf⟩ : ∃ tz, ZF = z0 ++ yB :: tz := ⟨_, HZ.out⟩
      have hof : Own wB ao5 z5 := by
        rcases ho5 with h | ⟨x, hx1, hx2⟩
        · exact .inl h
        · exact .inr ⟨x, hx1, hx2.upd HGF.out.upd (by have := k5 x hx1; omega)⟩
      have hLf := HGF.out.line
      have hls := hLf.2.2.size
      have s5 := hof.news
      have lz5 : (z5.map (Value.int .u8)).length = n5 * 1 := by simp [l5]
      have hnf : n0 < n0 + kB := by
        have := hLf.1
        rw [hzf, List.length_append, List.length_cons, l0] at this
        omega
      have HZF := hide hzf
      clear hzf HZ
      go_wp2_with (at_builtin; refine wpList_append_gen _ rfl (.tmp 108) (.tmp 109) 22 rfl w.heap.size 5 i0 _ 1 1 Try.underlying22 hi hz0 hz1 hz2 rfl (by decide) gB (n0 + kB) cB _ rfl hLf.2.1 ao5 n5 cc5 (z5.map (Value.int .u8)) rfl n5' lz5 s5 o5 (by unfold maxLen; omega) (by omega) hls ?_)
      intro g7 cap7 w7 hown7 hgr7 hat7
      have hL7 := hLf.more l5 (by simpa using hown7) hgr7
      clear hown7 hgr7 hat7 hLf hof s5 lz5 o5 hls HGF ho5
      have q0 : w7.cell? ⟨g7, n0, none⟩ = some (.int .u8 yB) := line_cell hL7 n0 yB (by
        rw [HZF.out, List.append_assoc, List.getElem?_append_right (by omega), l0, Nat.sub_self]
        rfl)
      have hb7 := (line_cap hL7).1
      have h18 := hide (f18_any w7 g7 (n0 + kB + n5) cap7 n0 yB _ (by omega) q0 (.inr (.inr (.inr (.inr (.inr ⟨HyB.out, rfl⟩))))))
      have HB := hide hb7
      clear q0 hb7 hL7 HZF
      go_wp2_with fail
      refine h18.out.mono ?_
      rintro e w8 ⟨rfl, hb8⟩
      have HB8 := hide (HB.out.trans (hb8.mono HB.out.size))
      clear h18 hb8 HB
      go_wp2
      go_ret
      exact ⟨rfl, HB8.out⟩

end Go.Proofs.Qxb6600387a
