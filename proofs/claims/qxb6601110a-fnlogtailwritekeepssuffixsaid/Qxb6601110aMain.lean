/-
  FnLogTailWriteKeepsSuffix: the walk.
-/
import Derived.Test.Qxb6601110aState
namespace Go.Proofs.Qxb6601110a
open Go.RowKit

set_option maxRecDepth 100000 in
set_option maxHeartbeats 1600000 in
theorem f3_nil (w : World) (cap : Nat) : Calls Try.prog 3 #[.slice none 0 cap] w fun e w' => e = .returned (.bool true) ∧ Below w.heap.size w w' := by
  obtain ⟨i0, hi, hz0, hz1, hz2⟩ := info_parts info5
  have h1 := fun w => run_neq_slice_nil (P := Try.prog) w 22 24 none 0 cap Try.underlying22
  go_enter Try.func3, Try.ntmps3
  go_wp2_with (go_at_call 4; refine (f4_any w none 0 cap (fun _ => 0) (fun _ => []) (by unfold maxLen; omega) (fun i hi => absurd hi (Nat.not_lt_zero _))).mono ?_)
  rintro e w' ⟨⟨y, rfl⟩, hw⟩
  rw [hw]; clear hw w'
  cases y with
  | false =>
    go_wp2
    go_ret
    exact ⟨rfl, Below.refl _ _⟩
  | true =>
    go_wp2
    go_loop [3, 4] (fun t i => t = .int .i64 0 ∧ i = .int .i64 0) (fun _ _ => 0)
    case atStart => exact ⟨rfl, rfl⟩
    case round =>
      obtain ⟨rfl, rfl⟩ := hrel
      go_wp2_with (at_make; refine wpList_make_own _ rfl _ _ 24 rfl w.heap.size 5 i0 _ 1 Try.underlying24 hi hz0 hz1 .i64 .i64 0 0 rfl rfl rfl ?_ ?_ (Nat.le_refl _) ?_)
      intro w1 hown hgr
      have hb : Below w.heap.size w w1 := (Below.refl _ _).grown hgr (Nat.le_refl _) (fun k hk => by cases hk)
      go_wp2_with (go_at_call 6; refine (f6_any w1).mono ?_)
      rintro e w2 ⟨rfl, -, hb2⟩
      have HB := hide (hb.trans (hb2.mono hb.size))
      clear hown hgr hb hb2
      go_wp2
      go_loop [9] (fun i => i = .int .i64 0) (fun _ => 0)
      case atStart => rfl
      case round =>
        subst hrel
        go_wp2
        go_ret
        exact ⟨rfl, HB.out⟩

set_option maxRecDepth 100000 in
set_option maxHeartbeats 3200000 in
theorem f3_some (w : World) (a0 : Addr) (n cap : Nat) (L : Nat → Nat) (Z : Nat → List Int) (hm : n ≤ maxLen) (hr : Row w (some a0) n L Z) :
    Calls Try.prog 3 #[.slice (some a0) n cap] w fun e w' => e = .returned (.bool true) ∧ Below w.heap.size w w' := by
  obtain ⟨i0, hi, hz0, hz1, hz2⟩ := info_parts info5
  obtain ⟨j0, hj, hy0, hy1, hy2⟩ := info_parts info24
  have h1 := fun w => run_neq_slice_nil (P := Try.prog) w 22 24 (some a0) n cap Try.underlying22
  have hm' : n ≤ 9223372036854775807 := by unfold maxLen at hm; omega
  go_enter Try.func3, Try.ntmps3
  go_wp2_with (go_at_call 4; refine (f4_any w (some a0) n cap L Z hm hr).mono ?_)
  rintro e w' ⟨⟨y, rfl⟩, hw⟩
  rw [hw]; clear hw w'
  cases y with
  | false =>
    go_wp2
    go_ret
    exact ⟨rfl, Below.refl _ _⟩
  | true =>
    by_cases hn : n ≤ 4096
    · go_wp2
      go_loop [3, 4] (fun t i => ∃ k : Nat, k ≤ n ∧ i = .int .i64 k ∧ t = .int .i64 ((8 * n + sumL L k : Nat) : Int) ∧ 8 * n + sumL L k ≤ 1048576) (fun _ i => n - (intOf i).toNat)
      case atStart => exact ⟨0, Nat.zero_le _, rfl, by go_num, by simp only [sumL]; omega⟩
      case round =>
        obtain ⟨k, hk, rfl, rfl, hsum⟩ := hrel
        by_cases hlt : k < n
        · obtain ⟨b, off, A, C, hao, hc, -⟩ := hr k hlt
          cases hao
          clear hr
          by_cases hl : L k ≤ 1048576
          · by_cases hs2 : 8 * n + sumL L (k + 1) ≤ 1048576
            · have e1 : ((8 * n + sumL L k : Nat) : Int) + (L k : Int) = ((8 * n + sumL L (k + 1) : Nat) : Int) := by simp only [sumL]; omega
              have b1 : ((8 * n + sumL L (k + 1) : Nat) : Int) ≤ 1048576 := by omega
              have e2 : IntKind.i64.wrap (((8 * n + sumL L k : Nat) : Int) + (L k : Int)) = ((8 * n + sumL L (k + 1) : Nat) : Int) := by rw [e1]; exact wraps_i64' _ (by omega)
              generalize 8 * n + sumL L k = s1 at *
              generalize hs3 : 8 * n + sumL L (k + 1) = s2 at *
              go_wp2
              go_round
              case rel => exact ⟨k + 1, by omega, by go_num, by rw [hs3], by omega⟩
              case measure => simp [intOf]; omega
            · have e1 : ((8 * n + sumL L k : Nat) : Int) + (L k : Int) = ((8 * n + sumL L (k + 1) : Nat) : Int) := by simp only [sumL]; omega
              have b1 : (1048576 : Int) < ((8 * n + sumL L (k + 1) : Nat) : Int) := by omega
              have b2 : 8 * n + sumL L (k + 1) ≤ 4194304 := by simp only [sumL]; omega
              have e2 : IntKind.i64.wrap (((8 * n + sumL L k : Nat) : Int) + (L k : Int)) = ((8 * n + sumL L (k + 1) : Nat) : Int) := by rw [e1]; exact wraps_i64' _ (by omega)
              generalize 8 * n + sumL L k = s1 at *
              generalize hs3 : 8 * n + sumL L (k + 1) = s2 at *
              go_wp2
              go_ret
              exact ⟨rfl, Below.refl _ _⟩
          · go_wp2
            go_ret
            exact ⟨rfl, Below.refl _ _⟩
        · obtain rfl : n = k := by omega
          clear hlt hk
          have hone : ∀ i, i < n → L i ≤ 1048576 := fun i hi => by
            have := sumL_one L hi
            omega
          obtain ⟨sz, hsz⟩ : ∃ sz, 8 * n + sumL L n = sz := ⟨_, rfl⟩
          have hsz1 : sz ≤ 1048576 := by omega
          have hall : sumL L n ≤ 1048576 := by omega
          rw [hsz]
          have hnI : (n : Int) ≤ 4096 := by omega
          clear hsum hsz
          go_wp2_with (at_make; refine wpList_make_at _ rfl _ _ 22 rfl 24 j0 _ Try.underlying22 hj hy0 hy1 rfl .i64 .i64 n n n rfl rfl rfl rfl ?_ ?_ ?_)
          · omega
          intro w1 hat hb
          go_wp2
          go_loopw [6] (fun i wr => ∃ k : Nat, k ≤ n ∧ i = .int .i64 k ∧ Cloned w wr n k L Z) (fun i _ => n - (intOf i).toNat)
          case atStart => exact ⟨0, Nat.zero_le _, rfl, hb, [], rfl, by simpa using hat, fun i hi => absurd hi (Nat.not_lt_zero _)⟩
          case round =>
            clear hat hb
            obtain ⟨k, hk, rfl, hcl⟩ := hrel
            by_cases hlt : k < n
            · obtain ⟨b, off, A, C, hao, hc, hs⟩ := (hr.below hcl.1) k hlt
              cases hao
              have hLk := hone k hlt
              have HCL := hide hcl
              clear hcl hr hone
              go_wp2_with (go_at_call 5; refine (f5_any wr A (L k) C (Z k) hLk hs).mono ?_)
              rintro e w2 ⟨A', C', rfl, hs', hb'⟩
              obtain ⟨q1, q2, hst⟩ := cloned_step (C := C') HCL.out hlt hb' hs'
              clear HCL hs hs' hb' hc
              go_wp2
              go_roundw
              case rel => exact ⟨k + 1, by omega, by go_num, hst⟩
              case measure => simp [intOf]; omega
            · obtain rfl : n = k := by omega
              have hrow := cloned_row hcl
              have hbw := hcl.1
              clear hcl hr hlt hk
              generalize wr = wB at *
              have hbs := hbw.size
              go_wp2_with (at_make; refine wpList_make_own _ rfl _ _ 24 rfl wB.heap.size 5 i0 _ 1 Try.underlying24 hi hz0 hz1 .i64 .i64 sz sz rfl rfl rfl ?_ ?_ (Nat.le_refl _) ?_)
              · rw [hz2]; omega
              · unfold maxLen; omega
              intro w2 hown2 hgr2
              go_wp2_with (go_at_call 6; refine (f6_any w2).mono ?_)
              rintro e w3 ⟨rfl, hat3, hb3⟩
              have hst := st_start hown2 hgr2 hat3 hb3
              clear hown2 hgr2 hat3 hb3
              generalize w2.heap.size = lb at *
              go_wp2
              go_loopw [7, 9, 10, 11, 12, 13, 14, 15, 16] (fun al i _ _ _ _ _ _ _ wr => ∃ (k ga ca : Nat) (v : Value) (zs : List Int), k ≤ n ∧ i = .int .i64 k ∧ al = .slice (some ⟨ga, 0, none⟩) (sumL L k) ca ∧ St wB lb wr ga ca (sumL L k) v zs (cat Z k) ∧ Suf zs (cat Z k)) (fun _ i _ _ _ _ _ _ _ _ => n - (intOf i).toNat)
              case atStart => exact ⟨0, wB.heap.size, sz, _, _, Nat.zero_le _, rfl, rfl, hst, Suf.start⟩
              case round =>
                clear hst
                obtain ⟨k, ga, ca, v, zs, hk, rfl, rfl, hst, hsuf⟩ := hrel
                by_cases hlt : k < n
                · generalize wr = wq at *
                  have hLk := hone k hlt
                  have hsk := sumL_one L hlt
                  have hqs := hst.below.size
                  have hrq := hrow.below hst.below
                  obtain ⟨b, off, A, C, hao, hc, hs⟩ := hrq k hlt
                  cases hao
                  rw [Nat.zero_add] at hc
                  have hmost := hsuf.most
                  have h7 := hide (f7_any wB.heap.size wq lb v zs A (L k) C (Z k) hst.log hs hqs (by omega))
                  have HST := hide hst
                  have HSF := hide (hsuf.write (Z k))
                  have HR := hide hrow
                  clear hst hsuf hrow hrq hs hmost
                  go_wp2_with (go_at_call 7; refine h7.out.mono ?_)
                  rintro e w4 hw4
                  obtain ⟨rfl, v4, hst4⟩ := HST.out.write hw4
                  have hr4 := HR.out.below hst4.below
                  obtain ⟨b, off, A, C, hao, hc, hs⟩ := hr4 k hlt
                  cases hao
                  rw [Nat.zero_add] at hc
                  have HST4 := hide hst4
                  clear h7 HST hw4 hst4 hr4 hqs
                  generalize keep (zs ++ Z k) = zs4 at *
                  clear hs
                  go_wp2
                  go_loopw [7, 12] (fun al j wr => ∃ (q ga ca : Nat), q ≤ L k ∧ j = .int .i64 q ∧ al = .slice (some ⟨ga, 0, none⟩) (sumL L k + q) ca ∧ St wB lb wr ga ca (sumL L k + q) v4 zs4 (cat Z k ++ (Z k).take q)) (fun _ j _ => L k - (intOf j).toNat)
                  case atStart => exact ⟨0, ga, ca, Nat.zero_le _, rfl, rfl, by simpa using HST4.out⟩
                  case round =>
                    clear HST4 hc
                    obtain ⟨q, ga, ca, hq, rfl, rfl, hst⟩ := hrel
                    obtain ⟨b, off, A, C, hao, hc, hs⟩ := (HR.out.below hst.below) k hlt
                    cases hao
                    rw [Nat.zero_add] at hc
                    by_cases hql : q < L k
                    · obtain ⟨b, off, rfl, hcb⟩ := hs.cell q hql
                      have hZ : (Z k).take q ++ [(Z k).getD q 0] = (Z k).take (q + 1) := by
                        have hl := hs.len
                        rw [List.take_succ_eq_append_getElem (by omega)]
                        simp [List.getD, show q < (Z k).length by omega]
                      obtain ⟨z, hz⟩ : ∃ z, (Z k).getD q 0 = z := ⟨_, rfl⟩
                      rw [hz] at hcb hZ
                      have hls := hst.below.size
                      have HZ := hide hZ
                      clear hs hz hZ
                      go_wp2_with (at_builtin; refine wpList_append_gen _ rfl (.tmp 103) (.tmp 111) 24 rfl wB.heap.size 5 i0 _ 1 1 Try.underlying24 hi hz0 hz1 hz2 rfl (by decide) ga (sumL L k + q) ca _ rfl (hst.alloc _).own (some ⟨wr.heap.size, 0, none⟩) 1 1 [.int .u8 z] rfl (by simp) rfl (by intro ad ha; cases ha; exact World.news_of_block (cs := #[.int .u8 z]) (t := 5) (fr := (0, 0)) (heap_alloc_new wr _)) (by simp [Value.oneCell']) (by unfold maxLen; omega) (by omega) (by simp; omega) ?_)
                      intro g5 c5 w5 hown5 hgr5 hat5
                      have hst5 := (hst.alloc (.cells #[.int .u8 z] 5)).more (ys := [z]) rfl (by simpa using hown5) hgr5 (by simpa using hat5)
                      rw [List.append_assoc, HZ.out] at hst5
                      have HST5 := hide hst5
                      clear hst5 hown5 hgr5 hat5 hst HZ hcb hc
                      go_wp2
                      go_roundw
                      case rel => exact ⟨q + 1, g5, c5, by omega, by go_num, rfl, HST5.out⟩
                      case measure => simp [intOf]; omega
                    · obtain rfl : q = L k := by omega
                      have hst6 : St wB lb wr ga ca (sumL L (k + 1)) v4 zs4 (cat Z (k + 1)) := by
                        have := hst
                        rw [List.take_of_length_le (by rw [hs.len]; exact Nat.le_refl _)] at this
                        exact this
                      have hk1 : sumL L (k + 1) ≤ 1048576 := Nat.le_trans hsk hall
                      have hfold : sumL L k + L k = sumL L (k + 1) := rfl
                      rw [hfold]
                      have hsf6 : Suf zs4 (cat Z (k + 1)) := HSF.out
                      have c8 := hst6.log.cell
                      obtain ⟨a4, c4, hv4, hz4m, -⟩ := owns_form hst6.log.own
                      subst hv4
                      generalize wr = w6 at *
                      have hcz := owns_cell hst6.log.own
                      have hca := owns_cell hst6.own
                      have hle := hsf6.le
                      have hmo := hsf6.most
                      have hmi := hsf6.least
                      have heq := hsf6.cell
                      rw [hca.1] at hle hmi heq
                      have HST6 := hide hst6
                      have HSF6 := hide hsf6
                      clear hst hs hst6 hsf6 HSF hz4m hfold hsk hLk hq hql
                      obtain ⟨n6, hn6⟩ : ∃ n6, sumL L (k + 1) = n6 := ⟨_, rfl⟩
                      obtain ⟨zl, hzl⟩ : ∃ zl, zs4.length = zl := ⟨_, rfl⟩
                      rw [hzl] at c8 hcz hle hmo hmi heq
                      rw [hn6] at hca hle hmi hk1 heq ⊢
                      rw [hzl] at HST6
                      have HN6 := hide hn6
                      have HCZ := hide hcz
                      have HCA := hide hca
                      have HEQ := hide heq
                      have HMI := hide hmi
                      clear hn6 hzl hcz hca heq hmi
                      have h8 := hide (f8_any w6 lb (.slice a4 zl c4) c8)
                      go_wp2_with fail
                      refine h8.out.mono ?_
                      rintro e w' ⟨rfl, hw⟩
                      rw [hw]; clear hw w' c8 h8
                      obtain ⟨p, hp⟩ : ∃ p, n6 = p + zl := ⟨n6 - zl, by omega⟩
                      have hmi := HMI.out
                      have hQ : n6 - zl = p := by omega
                      rw [hQ] at HEQ
                      have f1 : ¬ (131072 : Int) < zl := by omega
                      have f4 : ¬ (n6 : Int) < zl := by omega
                      have f5 : IntKind.i64.wrap ((n6 : Int) - zl) = p := by
                        have : (n6 : Int) - zl = (p : Int) := by omega
                        rw [this]
                        exact wraps_i64' p (by omega)
                      have HP := hide (show n6 = p + zl ∧ zl ≤ 131072 ∧ n6 ≤ 1048576 from ⟨hp, hmo, hk1⟩)
                      by_cases hbig : 65536 < n6
                      · have f2 : (65536 : Int) < n6 := by omega
                        have f3 : ¬ (zl : Int) < 65536 := by omega
                        clear hmi hbig hp hQ hmo hk1 hle HMI
                        simp only []
                        go_wp2
                        go_loopw [16] (fun j wr => ∃ q : Nat, q ≤ zl ∧ j = .int .i64 q ∧ Drew w6 wr) (fun j _ => zl - (intOf j).toNat)
                        case atStart => exact ⟨0, Nat.zero_le _, rfl, Drew.refl _⟩
                        case round =>
                          clear f1 f2 f3 f4 f5
                          obtain ⟨q, hq, rfl, hdr⟩ := hrel
                          obtain ⟨hp, hmo, hk1⟩ := HP.out
                          by_cases hql : q < zl
                          · obtain ⟨g4, rfl, hz1c⟩ := HCZ.out.2 q hql
                            obtain ⟨g5, hg5, ha1c⟩ := HCA.out.2 (p + q) (by omega)
                            cases hg5
                            rw [HEQ.out q] at ha1c
                            obtain ⟨z, hz⟩ : ∃ z, zs4.getD q 0 = z := ⟨_, rfl⟩
                            rw [hz] at hz1c ha1c
                            have hz1d : wr.cell? ⟨g4, q, none⟩ = some (.int .u8 z) := by obtain ⟨m, rfl⟩ := hdr; exact hz1c
                            have ha1d : wr.cell? ⟨ga, p + q, none⟩ = some (.int .u8 z) := by obtain ⟨m, rfl⟩ := hdr; exact ha1c
                            have x1 : (0 : Int) ≤ (q : Int) := Int.natCast_nonneg _
                            have x2 : (q : Int) < (zl : Int) := by omega
                            have x3 : IntKind.i64.wrap ((p : Int) + q) = ((p + q : Nat) : Int) := by
                              have : (p : Int) + q = ((p + q : Nat) : Int) := by omega
                              rw [this]
                              exact wraps_i64' _ (by omega)
                            have x4 : ((p + q : Nat) : Int) < (n6 : Int) := by omega
                            have x5 : IntKind.i64.wrap ((q : Int) + 1) = ((q + 1 : Nat) : Int) := by
                              have : (q : Int) + 1 = ((q + 1 : Nat) : Int) := by omega
                              rw [this]
                              exact wraps_i64' _ (by omega)
                            have HQ := hide (show q + 1 ≤ zl by omega)
                            clear hz hz1c ha1c hp hmo hk1 hql hq
                            go_wp2
                            go_quiet (fail)
                            go_wp2
                            go_roundw
                            case rel => exact ⟨q + 1, HQ.out, rfl, hdr.more _⟩
                            case measure =>
                              have := HQ.out
                              simp [intOf]; omega
                          · obtain rfl : q = zl := by omega
                            have HF := hide (show St wB lb wr ga ca (sumL L (k + 1)) (.slice a4 q c4) zs4 (cat Z (k + 1)) ∧ Suf zs4 (cat Z (k + 1)) from ⟨HST6.out.drew hdr, HSF6.out⟩)
                            clear HST6 HSF6 hdr HEQ HCZ HCA HP hp hmo hk1 hql hq
                            go_wp2
                            go_roundw
                            case rel => exact ⟨k + 1, ga, ca, _, zs4, by omega, by go_num, by rw [HN6.out], HF.out.1, HF.out.2⟩
                            case measure => simp [intOf]; omega
                      · have f2 : ¬ (65536 : Int) < n6 := by omega
                        have f3 : ¬ (zl : Int) < n6 := by omega
                        clear hmi hbig hp hQ hmo hk1 hle HMI
                        simp only []
                        go_wp2
                        go_loopw [16] (fun j wr => ∃ q : Nat, q ≤ zl ∧ j = .int .i64 q ∧ Drew w6 wr) (fun j _ => zl - (intOf j).toNat)
                        case atStart => exact ⟨0, Nat.zero_le _, rfl, Drew.refl _⟩
                        case round =>
                          clear f1 f2 f3 f4 f5
                          obtain ⟨q, hq, rfl, hdr⟩ := hrel
                          obtain ⟨hp, hmo, hk1⟩ := HP.out
                          by_cases hql : q < zl
                          · obtain ⟨g4, rfl, hz1c⟩ := HCZ.out.2 q hql
                            obtain ⟨g5, hg5, ha1c⟩ := HCA.out.2 (p + q) (by omega)
                            cases hg5
                            rw [HEQ.out q] at ha1c
                            obtain ⟨z, hz⟩ : ∃ z, zs4.getD q 0 = z := ⟨_, rfl⟩
                            rw [hz] at hz1c ha1c
                            have hz1d : wr.cell? ⟨g4, q, none⟩ = some (.int .u8 z) := by obtain ⟨m, rfl⟩ := hdr; exact hz1c
                            have ha1d : wr.cell? ⟨ga, p + q, none⟩ = some (.int .u8 z) := by obtain ⟨m, rfl⟩ := hdr; exact ha1c
                            have x1 : (0 : Int) ≤ (q : Int) := Int.natCast_nonneg _
                            have x2 : (q : Int) < (zl : Int) := by omega
                            have x3 : IntKind.i64.wrap ((p : Int) + q) = ((p + q : Nat) : Int) := by
                              have : (p : Int) + q = ((p + q : Nat) : Int) := by omega
                              rw [this]
                              exact wraps_i64' _ (by omega)
                            have x4 : ((p + q : Nat) : Int) < (n6 : Int) := by omega
                            have x5 : IntKind.i64.wrap ((q : Int) + 1) = ((q + 1 : Nat) : Int) := by
                              have : (q : Int) + 1 = ((q + 1 : Nat) : Int) := by omega
                              rw [this]
                              exact wraps_i64' _ (by omega)
                            have HQ := hide (show q + 1 ≤ zl by omega)
                            clear hz hz1c ha1c hp hmo hk1 hql hq
                            go_wp2
                            go_quiet (fail)
                            go_wp2
                            go_roundw
                            case rel => exact ⟨q + 1, HQ.out, rfl, hdr.more _⟩
                            case measure =>
                              have := HQ.out
                              simp [intOf]; omega
                          · obtain rfl : q = zl := by omega
                            have HF := hide (show St wB lb wr ga ca (sumL L (k + 1)) (.slice a4 q c4) zs4 (cat Z (k + 1)) ∧ Suf zs4 (cat Z (k + 1)) from ⟨HST6.out.drew hdr, HSF6.out⟩)
                            clear HST6 HSF6 hdr HEQ HCZ HCA HP hp hmo hk1 hql hq
                            go_wp2
                            go_roundw
                            case rel => exact ⟨k + 1, ga, ca, _, zs4, by omega, by go_num, by rw [HN6.out], HF.out.1, HF.out.2⟩
                            case measure => simp [intOf]; omega
                · have HB := hide (hbw.trans (hst.below.mono hbs))
                  clear hst hsuf hrow
                  go_wp2
                  go_ret
                  exact ⟨rfl, HB.out⟩
    · go_wp2
      go_ret
      exact ⟨rfl, Below.refl _ _⟩

end Go.Proofs.Qxb6601110a
