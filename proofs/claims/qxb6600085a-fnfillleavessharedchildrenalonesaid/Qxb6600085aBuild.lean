/-
  buildFillCase: the walk.
-/
import Derived.Test.Qxb6600085aCase
import Derived.Deep.LoopGhost
import Derived.Deep.DeepCutAuto
namespace Go.Proofs.Qxb6600085a
open Go.RowKit

attribute [local go_sem ↓] Go.wp_at_zero Go.wp_at_succ

set_option maxRecDepth 100000 in
set_option maxHeartbeats 6400000 in
theorem f28_any (w : World) (a b gs n nv : Nat) (va : Option Addr) (vc : Nat) (vs : List (Option Addr × Nat × Nat)) (zs : List Int) (hsz : At w gs (zs.map (Value.int .u8)) 5) (hzl : zs.length = n) (hz : ∀ z ∈ zs, 0 ≤ z ∧ z < 256) (hn2 : 2 ≤ n) (hn : n ≤ 4096)
    (hcl : Cloned w va nv vs) (hnv : nv ≤ 65536) :
    Calls Try.prog 28 #[pv a, pv b, .slice (some ⟨gs, 0, none⟩) n n, .slice va nv vc] w fun e w' => Cased w w' e a b zs := by
  obtain ⟨i32, h32, h320, h321, h322⟩ := info_parts info32
  obtain ⟨i9, h9, h90, h91, h92⟩ := info_parts info9
  obtain ⟨i35, h35, h350, h351, h352⟩ := info_parts info35
  obtain ⟨i30, h30, h300, h301, h302⟩ := info_parts info30
  obtain ⟨i22, h22, h220, h221, h222⟩ := info_parts info22
  obtain ⟨i4, h4, h40, h41, h42⟩ := info_parts info4
  have hnz : (n : Int) ≤ 4096 := by omega
  have HSZ := hide hsz
  have HZ := hide hz
  have HZL := hide hzl
  have HCL := hide hcl
  clear hsz hz hcl hzl
  go_enter Try.func28, Try.ntmps28
  go_wp2_with (at_make; refine wpList_make_own _ rfl _ _ 31 rfl 0 32 i32 _ 1 Try.underlying31 h32 h320 h321 .i64 .i64 n n rfl rfl rfl ?_ ?_ (Nat.zero_le _) ?_)
  · rw [h322]; omega
  · unfold maxLen; omega
  intro w1 hown hgr
  obtain ⟨b1, b2, b3⟩ := build_start hown hgr
  have HM := hide b3
  clear hown hgr b3
  go_wp2_with fail
  generalize w1.setCell ⟨w.heap.size + 1, 1, none⟩ (.slice (some ⟨w.heap.size + 1 + 1, 0, none⟩) 0 n) = w2 at *
  clear b1 b2 w1
  generalize w.heap.size + 1 = bd at *
  generalize w.heap.size = rb at *
  go_loopg [10, 11, 12, 13] n (fun k s10 s11 s12 s13 wr => ∃ j g : Nat, j ≤ n ∧ k = n - j ∧ s12 = .int .i64 g ∧ s13 = .int .i64 j ∧ OutI w wr rb bd s10 s11 j g n zs a b)
  case atStart =>
    exact ⟨0, 0, Nat.zero_le _, rfl, rfl, rfl, [], fun _ => [], [], [], HM.out, ⟨rfl, rfl, rfl, rfl, rfl, rfl, rfl, rfl, rfl, by simp, fun i hi => by simp at hi⟩, rfl, rfl, Nat.zero_le _, by simp⟩
  case round =>
    clear HM
    obtain ⟨j, g, hj, rfl, rfl, rfl, hout⟩ := hrel
    obtain ⟨L, Y, ps, all, hM, hC, hL, hal, hg, hps⟩ := hout
    by_cases hlt : j < n
    · obtain ⟨z, hzj⟩ : ∃ z, zs[j]? = some z := ⟨_, List.getElem?_eq_getElem (by have := HZL.out; omega)⟩
      obtain ⟨hz0, hz1⟩ := HZ.out z (List.mem_of_getElem? hzj)
      have hzc : wr.cell? ⟨gs, j, none⟩ = some (.int .u8 z) := (HSZ.out.below hM.below0 HSZ.out.lt).cell (by rw [List.getElem?_map, hzj]; rfl)
      obtain ⟨cnt, hcnt⟩ : ∃ cnt : Nat, 15 + z % 17 = (cnt : Int) := ⟨(15 + z % 17).toNat, by omega⟩
      have hc15 : cnt ≤ 31 := by omega
      have hcz : (cnt : Int) ≤ 31 := by omega
      have hjz : (j : Int) < (n : Int) := by omega
      have hj0 : (0 : Int) ≤ (j : Int) := Int.natCast_nonneg _
      have hg1 : g ≤ 131072 := by omega
      have HCNT := hide hcnt
      have HM := hide hM
      have HC := hide hC
      have HZJ := hide hzj
      have HLL := hide (And.intro hL (And.intro hal hps))
      clear hM hC hzj hcnt hL hal hps
      go_upto_region 10 with fail
      rw [HCNT.out]
      go_wp2_with (at_make; refine wpList_make_at _ rfl _ _ 30 rfl 9 i9 _ Try.underlying30 h9 h90 h91 rfl .i64 .i64 cnt cnt cnt rfl rfl rfl rfl ?_ ?_ ?_)
      · rw [h92]; omega
      · unfold maxLen; omega
      intro w2 hat2 hb2
      go_wp2_with (at_make; refine wpList_make_at _ rfl _ _ 22 rfl 35 i35 _ Try.underlying22 h35 h350 h351 rfl .i64 .i64 cnt cnt cnt rfl rfl rfl rfl ?_ ?_ ?_)
      · rw [h352]; omega
      · unfold maxLen; omega
      intro w3 hat3 hb3
      have hI0 := HM.out.start hat2 hb2 hat3 hb3
      have hI : InnI w w3 rb bd u10 u11 L Y wr.heap.size w2.heap.size cnt 0 g g := ⟨rfl, [], [], rfl, rfl, by simp, by simpa using hI0.to (fun f h1 h8 => by by_cases h5 : f = 5 <;> by_cases h6 : f = 6 <;> simp [put, h5, h6])⟩
      have HI := hide hI
      clear hI hI0 hat2 hb2 hat3 hb3 HM hzc
      generalize wr.heap.size = gK at *
      generalize w2.heap.size = gV at *
      go_wp2_with fail
      go_loopg [12, 17] cnt (fun k s12 s17 wi => ∃ e g' : Nat, e ≤ cnt ∧ k = cnt - e ∧ s12 = .int .i64 g' ∧ s17 = .int .i64 e ∧ InnI w wi rb bd u10 u11 L Y gK gV cnt e g g')
      case atStart => exact ⟨0, g, Nat.zero_le _, rfl, rfl, rfl, HI.out⟩
      case round =>
        clear HI
        obtain ⟨e, g', he, rfl, rfl, rfl, hI⟩ := hrel
        have hgg : g' ≤ 131103 := by have := hI.1; omega
        by_cases hle : e < cnt
        · have hez : (e : Int) < (cnt : Int) := by omega
          have he0 : (0 : Int) ≤ (e : Int) := Int.natCast_nonneg _
          have HI := hide hI
          have HY5 : Hid (∀ all', Y 5 = strs all' → all'.length ≤ 131072 → (Y 5).length ≤ 131072) := fun all' h1 h2 => by rw [h1]; simpa [strs] using h2
          clear hI
          go_upto_region 15 with fail
          go_wp2_with (go_at_call 22; refine (f22_any _ _).mono ?_)
          rintro e' w6 ⟨⟨s, rfl⟩, hb6⟩
          obtain ⟨q1, q2⟩ := HI.out.key hle hb6
          obtain ⟨q3, q4, hb7⟩ := HI.out.val hle hb6 s
          have h33 := f33_any (HCL.out.below hb7) vc g' (by omega) (by omega)
          have H33 := hide h33
          have HB6 := hide hb6
          clear hb6 hb7 h33
          go_wp2_with (go_at_call 33; refine H33.out.mono ?_)
          rintro e' w' ⟨⟨x, rfl, hx⟩, hw⟩
          rw [hw]; clear hw w'
          obtain ⟨KS, VS, Y1, k1, k2, hM8, ly5, ly6, hfin⟩ := HI.out.mid hle HB6.out s x (HCL.out.cyc hx)
          have HFIN := hide hfin
          have HM8 := hide hM8
          have hl5 : (Y 5).length ≤ 131072 := by rw [HC.out.y5]; have := HLL.out.2.1; simp [strs]; omega
          have hl6 : (Y 6).length ≤ 131072 := by rw [HC.out.y6]; have := HLL.out.2.1; simp [vals]; omega
          have hL5 : (Y1 5).length ≤ 131103 := by omega
          have hL6 : (Y1 6).length ≤ 131103 := by omega
          clear hfin hM8 hx HB6 H33 HI ly5 ly6
          obtain ⟨A, B, D⟩ := x
          go_upto_region 17 with fail
          generalize (w6.setCell ⟨gK, e, none⟩ (.string s)).setCell ⟨gV, e, none⟩ (.slice A B D) = w8 at *
          clear q1 q2 q3 q4 w6
          go_cut [] (fun wx => Mem (CC L.length gK gV KS VS) w wx rb bd u10 u11 L (put Y1 5 (Y1 5 ++ [.string s])))
          case first =>
            obtain ⟨v5, c5, f5, lbd, nb5, own5, app5⟩ := HM8.out.app (stable_CC _ _ _ _ _) 5 (by omega) (by omega)
            have own5' : w8.ownsRow 0 9 1 v5 (Y1 5).length (Y1 5) := own5
            have APP := hide app5
            have ck1 : w8.cell? ⟨gK, e, none⟩ = some (.string s) := HM8.out.cells.1.cell k1
            have ha5 := fun o => Lib.cell?_alloc_some o c5
            clear app5 own5 HM8 k1 k2
            go_region_law ((refine step_append_lies _ (by rfl) _ _ _ (by rfl) 0 9 i9 _ 1 16 Try.underlying30 h9 h90 h91 h92 rfl (by omega) v5 (Y1 5).length (Y1 5) (by rfl) (by exact (own5'.alloc _).drew) ⟨w8.heap.size, 0, none⟩ 1 1 [.string s] (by rfl) (by rfl) (World.news_of_block (cs := #[.string s]) (t := 9) (fr := (0, 0)) (heap_alloc_new w8 _)) (by simp [Value.oneCell']) (by omega) (by unfold maxLen; omega) (by omega) (Nat.zero_le _) (w8.heap.size + 1) (by simp) ?_; intro gg cap w9 hown9 hgrow9 hgat9 hglt9; obtain ⟨m1, m2, m3⟩ := APP.out w9 gg cap (.string s) (upd_own_drew hgrow9) hown9 (or_r hgat9 (fun h => by omega))))
            all_goals
              clear APP own5' hown9 hgrow9 hgat9 m1 m2 c5 f5 ha5 ck1
              go_wp2_with fail
              go_meet
              exact m3
          case rest =>
            have HM9 := hide hcut
            clear hcut HM8
            obtain ⟨Y2, hY2⟩ : ∃ Y2, Y2 = put Y1 5 (Y1 5 ++ [Value.string s]) := ⟨_, rfl⟩
            have HM10 : Hid (Mem (CC L.length gK gV KS VS) w wc rb bd u10 u11 L Y2) := by rw [hY2]; exact HM9.out
            have hL62 : (Y2 6).length ≤ 131103 := by rw [hY2, put_ne _ _ _ (by omega)]; exact hL6
            have HY2 := hide hY2
            clear HM9 hY2 hL5 hL6
            go_upto_region 18 with fail
            go_cut [] (fun wx => Mem (CC L.length gK gV KS VS) w wx rb bd u10 u11 L (put Y2 6 (Y2 6 ++ [.slice A B D])))
            case first =>
              obtain ⟨vv, cv1, fv1, lbd, nbv, ownv, appv⟩ := HM10.out.app (stable_CC _ _ _ _ _) 6 (by omega) (by omega)
              have ownw : wc.ownsRow 0 35 1 vv (Y2 6).length (Y2 6) := ownv
              have APP := hide appv
              have ck1 : wc.cell? ⟨gV, e, none⟩ = some (.slice A B D) := HM10.out.cells.2.cell k2
              have hav := fun o => Lib.cell?_alloc_some o cv1
              clear appv ownv HM10
              go_region_law ((refine step_append_lies _ (by rfl) _ _ _ (by rfl) 0 35 i35 _ 1 24 Try.underlying22 h35 h350 h351 h352 rfl (by omega) vv (Y2 6).length (Y2 6) (by rfl) (by exact (ownw.alloc _).drew) ⟨wc.heap.size, 0, none⟩ 1 1 [.slice A B D] (by rfl) (by rfl) (World.news_of_block (cs := #[.slice A B D]) (t := 35) (fr := (0, 0)) (heap_alloc_new wc _)) (by simp [Value.oneCell']) (by omega) (by unfold maxLen; omega) (by omega) (Nat.zero_le _) (wc.heap.size + 1) (by simp) ?_; intro gg cap w9 hown9 hgrow9 hgat9 hglt9; obtain ⟨m1, m2, m3⟩ := APP.out w9 gg cap (.slice A B D) (upd_own_drew hgrow9) hown9 (or_r hgat9 (fun h => by omega))))
              all_goals
                clear APP ownw hown9 hgrow9 hgat9 m1 m2 cv1 fv1 hav
                go_wp2_with fail
                go_meet
                exact m3
            case rest =>
              have HI := hide (HFIN.out _ _ HY2.out hcut)
              clear hcut HFIN HM10 k1 k2
              go_wp2_with fail
              go_roundg (cnt - (e + 1))
              case measure => omega
              case rel => exact ⟨e + 1, g' + 1, by omega, rfl, by go_num, by go_num, HI.out⟩
        · have hec : e = cnt := by omega
          subst hec
          obtain ⟨es, Y2, hes, hg', hBs, hM, hy5, hy6, hyo⟩ := hI.done
          have HD := hide (And.intro hes (And.intro hg' (And.intro hBs (And.intro hy5 (And.intro hy6 hyo)))))
          have HM0 := hide hM
          have hezz : ¬ (e : Int) < (e : Int) := by omega
          have hLj : L.length ≤ 4096 := by have := HLL.out.1; omega
          have hb3 : (Y2 3).length ≤ 4096 := by rw [hyo 3 (by omega) (by omega), HC.out.y3]; simpa using hLj
          have hb4 : (Y2 4).length ≤ 4096 := by rw [hyo 4 (by omega) (by omega), HC.out.y4]; simpa using hLj
          have hb2 : (Y2 2).length ≤ 4096 := by rw [hyo 2 (by omega) (by omega), HC.out.y2]; simp; omega
          have hb1 : (Y2 1).length ≤ 4096 := by rw [hyo 1 (by omega) (by omega), HC.out.y1]; simpa using hLj
          clear hI hM hes hg' hBs hy5 hy6 hyo
          go_upto_region 20 with fail
          go_cut [] (fun wx => Mem (CC L.length gK gV (strs es) (vals es)) w wx rb bd u10 u11 L (put Y2 3 (Y2 3 ++ [.slice (some ⟨gK, 0, none⟩) e e])))
          case first =>
            obtain ⟨vv, cv1, fv1, lbd, nbv, ownv, appv⟩ := HM0.out.app (stable_CC _ _ _ _ _) 3 (by omega) (by omega)
            have ownw : wr.ownsRow 0 30 1 vv (Y2 3).length (Y2 3) := ownv
            have APP := hide appv
            have hav := fun o => Lib.cell?_alloc_some o cv1
            clear appv ownv HM0
            go_wp2_with (at_builtin; refine wpList_append_lies _ rfl _ _ 50 rfl 0 30 i30 _ 1 24 Try.underlying50 h30 h300 h301 h302 rfl (by omega) vv (Y2 3).length (Y2 3) rfl (ownw.alloc _) ⟨wr.heap.size, 0, none⟩ 1 1 [.slice (some ⟨gK, 0, none⟩) e e] rfl (by rfl) (World.news_of_block (cs := #[.slice (some ⟨gK, 0, none⟩) e e]) (t := 30) (fr := (0, 0)) (heap_alloc_new wr _)) (by simp [Value.oneCell']) (by omega) (by unfold maxLen; omega) (by omega) (Nat.zero_le _) (wr.heap.size + 1) (by simp) ?_)
            intro gg cap w9 hown9 hgrow9 hgat9 hglt9
            obtain ⟨m1, m2, m3⟩ := APP.out w9 gg cap (.slice (some ⟨gK, 0, none⟩) e e) (upd_own hgrow9) hown9 (or_r hgat9 (fun h => by omega))
            have M3 := hide m3
            clear APP ownw hown9 hgrow9 hgat9 m3
            go_wp2_with fail
            go_meet
            exact M3.out
          case rest =>
            obtain ⟨Y3, hY3⟩ : ∃ Y3, Y3 = put Y2 3 (Y2 3 ++ [.slice (some ⟨gK, 0, none⟩) e e]) := ⟨_, rfl⟩
            have HM1 : Hid (Mem (CC L.length gK gV (strs es) (vals es)) w wc rb bd u10 u11 L Y3) := by rw [hY3]; exact hcut
            have hb4Y3 : (Y3 4).length ≤ 4096 := by rw [hY3, put_ne _ _ _ (by omega)]; exact hb4
            have hb2Y3 : (Y3 2).length ≤ 4096 := by rw [hY3, put_ne _ _ _ (by omega)]; exact hb2
            have hb1Y3 : (Y3 1).length ≤ 4096 := by rw [hY3, put_ne _ _ _ (by omega)]; exact hb1
            have HY3 := hide hY3
            clear hcut hY3
            go_upto_region 21 with fail
            go_cut [] (fun wx => Mem (CC L.length gK gV (strs es) (vals es)) w wx rb bd u10 u11 L (put Y3 4 (Y3 4 ++ [.slice (some ⟨gV, 0, none⟩) e e])))
            case first =>
              obtain ⟨vv, cv1, fv1, lbd, nbv, ownv, appv⟩ := HM1.out.app (stable_CC _ _ _ _ _) 4 (by omega) (by omega)
              have ownw : wc.ownsRow 0 22 1 vv (Y3 4).length (Y3 4) := ownv
              have APP := hide appv
              have hav := fun o => Lib.cell?_alloc_some o cv1
              clear appv ownv HM1
              go_wp2_with (at_builtin; refine wpList_append_lies _ rfl _ _ 51 rfl 0 22 i22 _ 1 24 Try.underlying51 h22 h220 h221 h222 rfl (by omega) vv (Y3 4).length (Y3 4) rfl (ownw.alloc _) ⟨wc.heap.size, 0, none⟩ 1 1 [.slice (some ⟨gV, 0, none⟩) e e] rfl (by rfl) (World.news_of_block (cs := #[.slice (some ⟨gV, 0, none⟩) e e]) (t := 22) (fr := (0, 0)) (heap_alloc_new wc _)) (by simp [Value.oneCell']) (by omega) (by unfold maxLen; omega) (by omega) (Nat.zero_le _) (wc.heap.size + 1) (by simp) ?_)
              intro gg cap w9 hown9 hgrow9 hgat9 hglt9
              obtain ⟨m1, m2, m3⟩ := APP.out w9 gg cap (.slice (some ⟨gV, 0, none⟩) e e) (upd_own hgrow9) hown9 (or_r hgat9 (fun h => by omega))
              have M3 := hide m3
              clear APP ownw hown9 hgrow9 hgat9 m3
              go_wp2_with fail
              go_meet
              exact M3.out
            case rest =>
              obtain ⟨Y4, hY4⟩ : ∃ Y4, Y4 = put Y3 4 (Y3 4 ++ [.slice (some ⟨gV, 0, none⟩) e e]) := ⟨_, rfl⟩
              have HM2 : Hid (Mem (CC L.length gK gV (strs es) (vals es)) w wc rb bd u10 u11 L Y4) := by rw [hY4]; exact hcut
              have hb2Y4 : (Y4 2).length ≤ 4096 := by rw [hY4, put_ne _ _ _ (by omega)]; exact hb2Y3
              have hb1Y4 : (Y4 1).length ≤ 4096 := by rw [hY4, put_ne _ _ _ (by omega)]; exact hb1Y3
              have HY4 := hide hY4
              clear hcut hY4
              clear HM0 HM1
              have hzc : wc.cell? ⟨gs, j, none⟩ = some (.int .u8 z) := (HSZ.out.below HM2.out.below0 HSZ.out.lt).cell (by rw [List.getElem?_map, HZJ.out]; rfl)
              go_upto_if 97 with (go_at_call 40; refine (f40_any _ z hz0 hz1).mono ?_; rintro e' w' ⟨rfl, hw⟩; rw [hw]; clear hw w')
              go_cut [18, 19] (fun s18 s19 wx => s18 = pv (if isC z then b else a) ∧ s19 = .bool (isC z) ∧ Mem (CC L.length gK gV (strs es) (vals es)) w wx rb bd u10 u11 L Y4)
              case first =>
                cases hic : isC z
                case true =>
                  go_wp2_with fail
                  go_meet
                  exact ⟨by first | rfl | (rw [hic]; rfl), by first | rfl | rw [hic], HM2.out⟩
                case false =>
                  go_wp2_with fail
                  go_meet
                  exact ⟨by first | rfl | (rw [hic]; rfl), by first | rfl | rw [hic], HM2.out⟩
              case rest =>
                obtain ⟨rfl, rfl, hcut⟩ := hcut
                obtain ⟨o, ho⟩ : ∃ o, o = (if isC z then b else a) := ⟨_, rfl⟩
                rw [← ho]
                have HO := hide ho
                have HM3 := hide hcut
                clear hcut ho HM2 hzc
                go_upto_region 26 with fail
                go_cut [] (fun wx => Mem (CC L.length gK gV (strs es) (vals es)) w wx rb bd u10 u11 L (put Y4 2 (Y4 2 ++ [.bool (isC z)])))
                case first =>
                  obtain ⟨vv, cv1, fv1, lbd, nbv, ownv, appv⟩ := HM3.out.app (stable_CC _ _ _ _ _) 2 (by omega) (by omega)
                  have ownw : wc.ownsRow 0 4 1 vv (Y4 2).length (Y4 2) := ownv
                  have APP := hide appv
                  have hav := fun o => Lib.cell?_alloc_some o cv1
                  clear appv ownv HM3
                  go_wp2_with (at_builtin; refine wpList_append_lies _ rfl _ _ 49 rfl 0 4 i4 _ 1 1 Try.underlying49 h4 h40 h41 h42 rfl (by omega) vv (Y4 2).length (Y4 2) rfl (ownw.alloc _) ⟨wc.heap.size, 0, none⟩ 1 1 [.bool (isC z)] rfl (by rfl) (World.news_of_block (cs := #[.bool (isC z)]) (t := 4) (fr := (0, 0)) (heap_alloc_new wc _)) (by simp [Value.oneCell']) (by omega) (by unfold maxLen; omega) (by omega) (Nat.zero_le _) (wc.heap.size + 1) (by simp) ?_)
                  intro gg cap w9 hown9 hgrow9 hgat9 hglt9
                  obtain ⟨m1, m2, m3⟩ := APP.out w9 gg cap (.bool (isC z)) (upd_own hgrow9) hown9 (or_r hgat9 (fun h => by omega))
                  have M3 := hide m3
                  clear APP ownw hown9 hgrow9 hgat9 m3
                  go_wp2_with fail
                  go_meet
                  exact M3.out
                case rest =>
                  obtain ⟨Y5, hY5⟩ : ∃ Y5, Y5 = put Y4 2 (Y4 2 ++ [.bool (isC z)]) := ⟨_, rfl⟩
                  have HM4 : Hid (Mem (CC L.length gK gV (strs es) (vals es)) w wc rb bd u10 u11 L Y5) := by rw [hY5]; exact hcut
                  have hb1Y5 : (Y5 1).length ≤ 4096 := by rw [hY5, put_ne _ _ _ (by omega)]; exact hb1Y4
                  have HY5 := hide hY5
                  clear hcut hY5
                  clear HM3
                  go_upto_region 27 with fail
                  go_cut [] (fun wx => ∃ nb ev, Mem (CN L.length ⟨⟨nb, o, ev, es⟩, gK, gV⟩) w wx rb bd u10 u11 L (put Y5 1 (Y5 1 ++ [pv nb])))
                  case first =>
                    obtain ⟨vv, cv1, fv1, lbd, nbv, -, -⟩ := HM4.out.app (stable_CC _ _ _ _ _) 1 (by omega) (by omega)
                    obtain ⟨hk1, hk2⟩ := HM4.out.cells
                    have hes : es.length = e := HD.out.1
                    have h15 : ∀ W, W.heap = wc.heap → Calls Try.prog 15 #[pv o, .slice (some ⟨gK, 0, none⟩) e e, .slice (some ⟨gV, 0, none⟩) e e, .slice none 0 0] W fun e' w' => NewNode W w' e' o es false [] := fun W hW => by
                      have := f15_any W o (some ⟨gK, 0, none⟩) (some ⟨gV, 0, none⟩) none e e e 0 es [] false (by omega) (by omega) (fun i hi => ⟨gK, rfl, (hk1.same hW).cell (by simp [strs, hi])⟩) (fun i hi => ⟨gV, rfl, (hk2.same hW).cell (by simp [vals, hi])⟩) (Or.inl ⟨rfl, rfl, rfl⟩)
                      rw [hes] at this
                      exact this
                    have H15 := hide h15
                    have hgen : ∀ (W w7 : World) (e' : Ending), W.heap = wc.heap → Below W.heap.size W w7 → W.os = wc.os → W.tape = wc.tape → W.output = wc.output → Below wc.heap.size wc w7 := fun W w7 _ h1 h2 h3 h4 h5 => ⟨h2.os.trans h3, h2.tape.trans h4, h2.output.trans h5, by rw [← h1]; exact h2.size, fun k hk => by rw [h2.block k (by rw [h1]; exact hk), h1]⟩
                    have hnode : ∀ (W w7 : World) (e' : Ending), W.heap = wc.heap → W.os = wc.os → W.tape = wc.tape → W.output = wc.output → NewNode W w7 e' o es false [] → ∃ nb ev, e' = .returned (pv nb) ∧ w7.cell? ⟨bd, 1, none⟩ = some vv ∧ w7.frozen? ⟨bd, 1, none⟩ = false ∧ bd < w7.heap.size ∧ w7.ownsRow 0 32 1 vv (Y5 1).length (Y5 1) ∧
                        ∀ (w1 : World) (gg cap : Nat), Upd (fun k => vv.ownBlock = some k) w7 w1 → w1.ownsRow 0 32 1 (.slice (some ⟨gg, 0, none⟩) ((Y5 1).length + 1) cap) ((Y5 1).length + 1) (Y5 1 ++ [pv nb]) → (vv.ownBlock = some gg ∨ w7.heap.size ≤ gg) →
                          w1.cell? ⟨bd, 1, none⟩ = some vv ∧ w1.frozen? ⟨bd, 1, none⟩ = false ∧ Mem (CN L.length ⟨⟨nb, o, ev, es⟩, gK, gV⟩) w (w1.setCell ⟨bd, 1, none⟩ (.slice (some ⟨gg, 0, none⟩) ((Y5 1).length + 1) cap)) rb bd u10 u11 L (put Y5 1 (Y5 1 ++ [pv nb])) := by
                      rintro W w7 e' h1 h2 h3 h4 ⟨nb, ev, kv, he, hN, hF, hb⟩
                      have hkn : kv = nilV := by have := hN.knn; simp [KidsV] at this; exact this
                      subst hkn
                      rw [h1] at hF
                      have hb' := hgen W w7 e' h1 hb h2 h3 h4
                      have hM7 := Mem.node rfl HM4.out hN hF hb'
                      obtain ⟨v2, d1, d2, d3, d4, d5, d6⟩ := hM7.app (stable_CN _ _) 1 (by omega) (by omega)
                      have hv : v2 = vv := by
                        have hc := hb'.cell (p := ⟨bd, 1, none⟩) lbd
                        rw [d1, cv1] at hc
                        simpa using hc
                      subst hv
                      exact ⟨nb, ev, he, d1, d2, d3, d5, fun w1 gg cap u1 u2 u3 => d6 w1 gg cap (pv nb) u1 u2 u3⟩
                    have HNODE := hide hnode
                    clear hgen hnode h15 hk1 hk2 hes HM4
                    go_region_law (first | (refine step_append_lies _ (by rfl) _ _ _ (by rfl) 0 32 i32 _ 1 8 Try.underlying31 h32 h320 h321 h322 rfl (by omega) vv (Y5 1).length (Y5 1) (by rfl) (by exact ownw.alloc _) ⟨w7.heap.size, 0, none⟩ 1 1 [pv nb] (by rfl) (by rfl) (World.news_of_block (cs := #[pv nb]) (t := 32) (fr := (0, 0)) (heap_alloc_new w7 _)) (by simp [Value.oneCell']) (by omega) (by unfold maxLen; omega) (by omega) (Nat.zero_le _) (w7.heap.size + 1) (by simp) ?_; intro gg cap w9 hown9 hgrow9 hgat9 hglt9; obtain ⟨m1, m2, m3⟩ := APPN w9 gg cap (upd_own hgrow9) hown9 (or_r hgat9 (fun h => by omega))) | (go_simp; go_at_call 15; refine (H15.out _ ?_).mono ?_; rfl; intro e' w7 hnew; obtain ⟨nb, ev, he', cv2, fv2, lbd2, ownw, APPN⟩ := HNODE.out _ _ _ (by rfl) (by rfl) (by rfl) (by rfl) hnew; subst he'; clear hnew; have hav2 := fun o => Lib.cell?_alloc_some o cv2))
                    all_goals
                      clear H15 HNODE APPN ownw hown9 hgrow9 hgat9 m1 m2 cv1 fv1 cv2 fv2 hav2
                      go_wp2_with fail
                      go_meet
                      exact ⟨nb, ev, m3⟩
                  case rest =>
                    obtain ⟨nb, ev, hM6⟩ := hcut
                    have HM6 := hide (hM6.snoc rfl)
                    clear hM6 HM4
                    obtain ⟨Y6, hY6⟩ : ∃ Y6, Y6 = put Y5 1 (Y5 1 ++ [pv nb]) := ⟨_, rfl⟩
                    rw [← hY6] at HM6
                    have HC6 : Hid (Cont Y6 (L ++ [⟨⟨nb, o, ev, es⟩, gK, gV⟩]) ps (all ++ es) zs w a b) := by
                      have hq := HLL.out
                      have hd := HD.out
                      have hcn := HCNT.out
                      obtain ⟨y5, y6, yo⟩ := hd.2.2.2
                      refine Cont.leaf (d := ⟨⟨nb, o, ev, es⟩, gK, gV⟩) (z := z) HC.out (by omega) (by rw [hq.1]; exact HZJ.out) HO.out (by show es.length = _; omega) hd.2.2.1 ?_ ?_ ?_ ?_ ?_ ?_ ?_ ?_ <;> rw [hY6, HY5.out, HY4.out, HY3.out] <;> simp only [put, hd.1] <;> simp [y5, y6, yo]
                    have HB6 : Hid ((Y6 7).length ≤ 4096 ∧ (Y6 8).length ≤ 4096 ∧ (Y6 5).length ≤ 131103 ∧ (Y6 6).length ≤ 131103) := by
                      have hq := HLL.out
                      have hd := HD.out
                      have hcc := HC6.out
                      have hh : (Y6 7).length ≤ 4096 ∧ (Y6 8).length ≤ 4096 ∧ (Y6 5).length ≤ 131103 ∧ (Y6 6).length ≤ 131103 := by
                        rw [hcc.y7, hcc.y8, hcc.y5, hcc.y6]
                        simp only [strs, vals, List.length_map, List.length_append]
                        omega
                      exact hh
                    clear hY6
                    clear HY5 HY4 HY3
                    by_cases hlast : j + 1 < n
                    · have hlz : (j : Int) + 1 < (n : Int) := by omega
                      go_upto_region 29 with fail
                      go_wp2_with fail
                      refine (f22_any _ _).mono ?_
                      rintro e' w6 ⟨⟨s, rfl⟩, hb6⟩
                      have HM7 := hide (HM6.out.below stable_CT hb6)
                      have H33 := hide (f33_any (HCL.out.below HM7.out.below0) vc g' (by omega) (by omega))
                      clear hb6
                      go_wp2_with fail
                      refine H33.out.mono ?_
                      rintro e' w' ⟨⟨x, rfl, hx⟩, hw⟩
                      rw [hw]; clear hw w'
                      have HX := hide (HCL.out.cyc hx)
                      clear hx H33
                      obtain ⟨A, B, D⟩ := x
                      obtain ⟨hb7, hb8, hb5, hb9⟩ := HB6.out
                      obtain ⟨LL, hLL⟩ : ∃ LL, LL = L ++ [(⟨⟨nb, o, ev, es⟩, gK, gV⟩ : Kd)] := ⟨_, rfl⟩
                      have HLLe := hide hLL
                      rw [← hLL] at HM7
                      clear hLL HM6
                      go_upto_region 31 with fail
                      go_cut [10] (fun s10 wx => Mem CT w wx rb bd s10 u11 LL (put Y6 7 (Y6 7 ++ [.string s])))
                      case first =>
                        obtain ⟨ownv, appv⟩ := HM7.out.app7 stable_CT
                        have ownw : w6.ownsRow 0 9 1 u10 (Y6 7).length (Y6 7) := ownv
                        have APP := hide appv
                        clear appv ownv HM7
                        go_wp2_with (at_builtin; refine wpList_append_lies _ rfl _ _ 30 rfl 0 9 i9 _ 1 16 Try.underlying30 h9 h90 h91 h92 rfl (by omega) u10 (Y6 7).length (Y6 7) rfl (ownw.alloc _) ⟨w6.heap.size, 0, none⟩ 1 1 [.string s] rfl (by rfl) (World.news_of_block (cs := #[.string s]) (t := 9) (fr := (0, 0)) (heap_alloc_new w6 _)) (by simp [Value.oneCell']) (by omega) (by unfold maxLen; omega) (by omega) (Nat.zero_le _) (w6.heap.size + 1) (by simp) ?_)
                        intro gg cap w9 hown9 hgrow9 hgat9 hglt9
                        have m3 := APP.out w9 gg cap (.string s) (upd_own hgrow9) hown9 (or_r hgat9 (fun h => by omega))
                        have M3 := hide m3
                        clear APP ownw hown9 hgrow9 hgat9 m3
                        go_wp2_with fail
                        go_meet
                        exact M3.out
                      case rest =>
                        obtain ⟨Y7, hY7⟩ : ∃ Y7, Y7 = put Y6 7 (Y6 7 ++ [Value.string s]) := ⟨_, rfl⟩
                        have HM8 : Hid (Mem CT w wc rb bd u10 u11 LL Y7) := by rw [hY7]; exact hcut
                        have q8Y7 : (Y7 8).length ≤ 4096 := by rw [hY7, put_ne _ _ _ (by omega)]; exact hb8
                        have q5Y7 : (Y7 5).length ≤ 131103 := by rw [hY7, put_ne _ _ _ (by omega)]; exact hb5
                        have q6Y7 : (Y7 6).length ≤ 131103 := by rw [hY7, put_ne _ _ _ (by omega)]; exact hb9
                        have HY7 := hide hY7
                        clear hcut hY7
                        clear HM7
                        go_upto_region 32 with fail
                        go_cut [11] (fun s11 wx => Mem CT w wx rb bd u10 s11 LL (put Y7 8 (Y7 8 ++ [.slice A B D])))
                        case first =>
                          obtain ⟨ownv, appv⟩ := HM8.out.app8 stable_CT
                          have ownw : wc.ownsRow 0 35 1 u11 (Y7 8).length (Y7 8) := ownv
                          have APP := hide appv
                          clear appv ownv HM8
                          go_wp2_with (at_builtin; refine wpList_append_lies _ rfl _ _ 22 rfl 0 35 i35 _ 1 24 Try.underlying22 h35 h350 h351 h352 rfl (by omega) u11 (Y7 8).length (Y7 8) rfl (ownw.alloc _) ⟨wc.heap.size, 0, none⟩ 1 1 [.slice A B D] rfl (by rfl) (World.news_of_block (cs := #[.slice A B D]) (t := 35) (fr := (0, 0)) (heap_alloc_new wc _)) (by simp [Value.oneCell']) (by omega) (by unfold maxLen; omega) (by omega) (Nat.zero_le _) (wc.heap.size + 1) (by simp) ?_)
                          intro gg cap w9 hown9 hgrow9 hgat9 hglt9
                          have m3 := APP.out w9 gg cap (.slice A B D) (upd_own hgrow9) hown9 (or_r hgat9 (fun h => by omega))
                          have M3 := hide m3
                          clear APP ownw hown9 hgrow9 hgat9 m3
                          go_wp2_with fail
                          go_meet
                          exact M3.out
                        case rest =>
                          obtain ⟨Y8, hY8⟩ : ∃ Y8, Y8 = put Y7 8 (Y7 8 ++ [Value.slice A B D]) := ⟨_, rfl⟩
                          have HM9 : Hid (Mem CT w wc rb bd u10 u11 LL Y8) := by rw [hY8]; exact hcut
                          have q5Y8 : (Y8 5).length ≤ 131103 := by rw [hY8, put_ne _ _ _ (by omega)]; exact q5Y7
                          have q6Y8 : (Y8 6).length ≤ 131103 := by rw [hY8, put_ne _ _ _ (by omega)]; exact q6Y7
                          have HY8 := hide hY8
                          clear hcut hY8
                          clear HM8
                          go_upto_region 33 with fail
                          go_cut [] (fun wx => Mem CT w wx rb bd u10 u11 LL (put Y8 5 (Y8 5 ++ [.string s])))
                          case first =>
                            obtain ⟨vv, cv1, fv1, lbd, nbv, ownv, appv⟩ := HM9.out.app stable_CT 5 (by omega) (by omega)
                            have ownw : wc.ownsRow 0 9 1 vv (Y8 5).length (Y8 5) := ownv
                            have APP := hide appv
                            have hav := fun o => Lib.cell?_alloc_some o cv1
                            clear appv ownv HM9
                            go_wp2_with (at_builtin; refine wpList_append_lies _ rfl _ _ 30 rfl 0 9 i9 _ 1 16 Try.underlying30 h9 h90 h91 h92 rfl (by omega) vv (Y8 5).length (Y8 5) rfl (ownw.alloc _) ⟨wc.heap.size, 0, none⟩ 1 1 [.string s] rfl (by rfl) (World.news_of_block (cs := #[.string s]) (t := 9) (fr := (0, 0)) (heap_alloc_new wc _)) (by simp [Value.oneCell']) (by omega) (by unfold maxLen; omega) (by omega) (Nat.zero_le _) (wc.heap.size + 1) (by simp) ?_)
                            intro gg cap w9 hown9 hgrow9 hgat9 hglt9
                            obtain ⟨m1, m2, m3⟩ := APP.out w9 gg cap (.string s) (upd_own hgrow9) hown9 (or_r hgat9 (fun h => by omega))
                            have M3 := hide m3
                            clear APP ownw hown9 hgrow9 hgat9 m3
                            go_wp2_with fail
                            go_meet
                            exact M3.out
                          case rest =>
                            obtain ⟨Y9, hY9⟩ : ∃ Y9, Y9 = put Y8 5 (Y8 5 ++ [Value.string s]) := ⟨_, rfl⟩
                            have HM10 : Hid (Mem CT w wc rb bd u10 u11 LL Y9) := by rw [hY9]; exact hcut
                            have q6Y9 : (Y9 6).length ≤ 131103 := by rw [hY9, put_ne _ _ _ (by omega)]; exact q6Y8
                            have HY9 := hide hY9
                            clear hcut hY9
                            clear HM9
                            go_upto_region 34 with fail
                            go_cut [] (fun wx => Mem CT w wx rb bd u10 u11 LL (put Y9 6 (Y9 6 ++ [.slice A B D])))
                            case first =>
                              obtain ⟨vv, cv1, fv1, lbd, nbv, ownv, appv⟩ := HM10.out.app stable_CT 6 (by omega) (by omega)
                              have ownw : wc.ownsRow 0 35 1 vv (Y9 6).length (Y9 6) := ownv
                              have APP := hide appv
                              have hav := fun o => Lib.cell?_alloc_some o cv1
                              clear appv ownv HM10
                              go_wp2_with (at_builtin; refine wpList_append_lies _ rfl _ _ 22 rfl 0 35 i35 _ 1 24 Try.underlying22 h35 h350 h351 h352 rfl (by omega) vv (Y9 6).length (Y9 6) rfl (ownw.alloc _) ⟨wc.heap.size, 0, none⟩ 1 1 [.slice A B D] rfl (by rfl) (World.news_of_block (cs := #[.slice A B D]) (t := 35) (fr := (0, 0)) (heap_alloc_new wc _)) (by simp [Value.oneCell']) (by omega) (by unfold maxLen; omega) (by omega) (Nat.zero_le _) (wc.heap.size + 1) (by simp) ?_)
                              intro gg cap w9 hown9 hgrow9 hgat9 hglt9
                              obtain ⟨m1, m2, m3⟩ := APP.out w9 gg cap (.slice A B D) (upd_own hgrow9) hown9 (or_r hgat9 (fun h => by omega))
                              have M3 := hide m3
                              clear APP ownw hown9 hgrow9 hgat9 m3
                              go_wp2_with fail
                              go_meet
                              exact M3.out
                            case rest =>
                              have HM11 := hide hcut
                              clear hcut HM10
                              go_wp2_with fail
                              go_roundg (n - (j + 1))
                              case measure => omega
                              case rel =>
                                have hq := HLL.out
                                have hd := HD.out
                                have hm := HM11.out
                                rw [HLLe.out] at hm
                                refine ⟨j + 1, g' + 1, by omega, rfl, by go_num, by go_num, _, _, ps ++ [(s, A, B, D)], all ++ es ++ [(s, A, B, D)], hm, Cont.sep (s := s) (x := (A, B, D)) HC6.out (by omega) HX.out ?_ ?_ ?_ ?_ ?_, by simp; omega, by simp; omega, by omega, by simp; omega⟩
                                · intro f h1 h4
                                  rw [put_ne _ _ _ (by omega), HY9.out, put_ne _ _ _ (by omega), HY8.out, put_ne _ _ _ (by omega), HY7.out, put_ne _ _ _ (by omega)]
                                all_goals
                                  rw [HY9.out, HY8.out, HY7.out]
                                  simp [put]
                    · have hlz : ¬ (j : Int) + 1 < (n : Int) := by omega
                      go_wp2_with fail
                      go_roundg (n - (j + 1))
                      case measure => omega
                      case rel =>
                        have hq := HLL.out
                        have hd := HD.out
                        exact ⟨j + 1, g', by omega, rfl, rfl, by go_num, _, _, ps, all ++ es, HM6.out, HC6.out, by simp; omega, by simp; omega, by omega, by omega⟩
    · have hjn : j = n := by omega
      subst hjn
      obtain ⟨lab, V, X, hB, -, h7, h8, hY⟩ := hM
      have hLz : L.length = zs.length := by have := HZL.out; omega
      have hpl : ps.length + 1 = L.length := by omega
      have hall : 0 < all.length := by
        rw [hC.ord]
        obtain ⟨z, -, -, hes⟩ := hC.own 0 (by omega)
        exact inord_pos' _ _ (by simp; omega) (by simp; omega)
      have x1 := (hY 1 (by omega) (by omega)).trans hC.y1
      have x2 := (hY 2 (by omega) (by omega)).trans hC.y2
      have x3 := (hY 3 (by omega) (by omega)).trans hC.y3
      have x4 := (hY 4 (by omega) (by omega)).trans hC.y4
      have x5 := (hY 5 (by omega) (by omega)).trans hC.y5
      have x6 := (hY 6 (by omega) (by omega)).trans hC.y6
      have x7 := (hY 7 (by omega) (by omega)).trans hC.y7
      have x8 := (hY 8 (by omega) (by omega)).trans hC.y8
      obtain ⟨g1, c1, hV1, k1⟩ := row_form (hB.row 1 (by omega) (by omega)) (by rw [x1]; simp; omega)
      obtain ⟨g2, c2, hV2, -⟩ := row_form (hB.row 2 (by omega) (by omega)) (by rw [x2]; simp; omega)
      obtain ⟨g3, c3, hV3, -⟩ := row_form (hB.row 3 (by omega) (by omega)) (by rw [x3]; simp; omega)
      obtain ⟨g4, c4, hV4, -⟩ := row_form (hB.row 4 (by omega) (by omega)) (by rw [x4]; simp; omega)
      obtain ⟨g5, c5, hV5, -⟩ := row_form (hB.row 5 (by omega) (by omega)) (by rw [x5]; simpa [strs] using hall)
      obtain ⟨g6, c6, hV6, -⟩ := row_form (hB.row 6 (by omega) (by omega)) (by rw [x6]; simpa [vals] using hall)
      obtain ⟨g7, c7, hV7, k7⟩ := row_form (hB.row 7 (by omega) (by omega)) (by rw [x7]; simp [strs]; omega)
      obtain ⟨g8, c8, hV8, k8⟩ := row_form (hB.row 8 (by omega) (by omega)) (by rw [x8]; simp [vals]; omega)
      rw [x7] at hV7 k7
      rw [x8] at hV8 k8
      rw [x1] at hV1 k1
      have hu10 : u10 = .slice (some ⟨g7, 0, none⟩) ps.length c7 := by rw [← h7, hV7]; simp [strs]
      have hu11 : u11 = .slice (some ⟨g8, 0, none⟩) ps.length c8 := by rw [← h8, hV8]; simp [vals]
      have hV1' : V 1 = .slice (some ⟨g1, 0, none⟩) L.length c1 := by rw [hV1]; simp
      subst hu10
      subst hu11
      have h15 := f15_any wr a (some ⟨g7, 0, none⟩) (some ⟨g8, 0, none⟩) (some ⟨g1, 0, none⟩) c7 ps.length c8 c1 ps (L.map (fun d => d.k.b)) true (by omega) (by omega)
        (fun i hi => ⟨g7, rfl, k7 i _ (by simp [strs, hi])⟩) (fun i hi => ⟨g8, rfl, k8 i _ (by simp [vals, hi])⟩)
        (Or.inr ⟨rfl, by simp; omega, by simp; omega, g1, rfl, fun j u hj => by rw [Addr.add_lit, Nat.zero_add]; exact k1 j u (by simpa using hj)⟩)
      rw [List.length_map] at h15
      have H15 := hide h15
      have hbc : wr.cell? ⟨bd, 1, none⟩ = some (.slice (some ⟨g1, 0, none⟩) L.length c1) := by rw [← hV1']; exact hB.fc.cell rfl
      have HB := hide hB
      have HYY := hide hY
      have HC := hide hC
      have HLE := hide (And.intro hLz hpl)
      have hLb : L.length ≤ 4096 := by omega
      have hpb : ps.length ≤ 4096 := by omega
      clear hLz hpl hL hal hps hg
      clear hB hY hC h15 x1 x2 x3 x4 x5 x6 x7 x8 k1 k7 k8 h7 h8 hV7 hV8 hV1 hall
      go_upto_region 36 with fail
      go_wp2_with fail
      refine H15.out.mono ?_
      rintro e w5 ⟨p, evp, kvp, rfl, hN, hF, hb⟩
      have hfc := HB.out.fc.below hb HB.out.fc.lt
      have hrs := HB.out.res.below hb HB.out.res.lt
      have hne : rb ≠ bd := by
        intro h
        have h1 := HB.out.fcl
        have h2 := HB.out.resl
        rw [h, h1] at h2
        cases h2
      have d0 : w5.cell? ⟨bd, 0, none⟩ = some (.pointer none) := hfc.cell rfl
      have d1 : w5.cell? ⟨bd, 1, none⟩ = some (.slice (some ⟨g1, 0, none⟩) L.length c1) := by rw [← hV1']; exact hfc.cell rfl
      have d2 : w5.cell? ⟨bd, 2, none⟩ = some (.slice (some ⟨g2, 0, none⟩) (X 2).length c2) := by rw [← hV2]; exact hfc.cell rfl
      have d3 : w5.cell? ⟨bd, 3, none⟩ = some (.slice (some ⟨g3, 0, none⟩) (X 3).length c3) := by rw [← hV3]; exact hfc.cell rfl
      have d4 : w5.cell? ⟨bd, 4, none⟩ = some (.slice (some ⟨g4, 0, none⟩) (X 4).length c4) := by rw [← hV4]; exact hfc.cell rfl
      have d5 : w5.cell? ⟨bd, 5, none⟩ = some (.slice (some ⟨g5, 0, none⟩) (X 5).length c5) := by rw [← hV5]; exact hfc.cell rfl
      have d6 : w5.cell? ⟨bd, 6, none⟩ = some (.slice (some ⟨g6, 0, none⟩) (X 6).length c6) := by rw [← hV6]; exact hfc.cell rfl
      have fd0 := hfc.frozen 0
      have r0 : w5.cell? ⟨rb, 0, none⟩ = some (.pointer none) := hrs.cell rfl
      have r1 : w5.cell? ⟨rb, 1, none⟩ = some (.slice none 0 0) := hrs.cell rfl
      have r2 : w5.cell? ⟨rb, 2, none⟩ = some (.slice none 0 0) := hrs.cell rfl
      have r3 : w5.cell? ⟨rb, 3, none⟩ = some (.slice none 0 0) := hrs.cell rfl
      have r4 : w5.cell? ⟨rb, 4, none⟩ = some (.slice none 0 0) := hrs.cell rfl
      have r5 : w5.cell? ⟨rb, 5, none⟩ = some (.slice none 0 0) := hrs.cell rfl
      have r6 : w5.cell? ⟨rb, 6, none⟩ = some (.slice none 0 0) := hrs.cell rfl
      have fr0 := hrs.frozen 0
      have fr1 := hrs.frozen 1
      have fr2 := hrs.frozen 2
      have fr3 := hrs.frozen 3
      have fr4 := hrs.frozen 4
      have fr5 := hrs.frozen 5
      have fr6 := hrs.frozen 6
      have HFIN := hide (fun W => case_of (W := W) HB.out HYY.out HC.out hN hF hb HLE.out.1 HLE.out.2)
      have HV := hide (And.intro hV1' (And.intro hV2 (And.intro hV3 (And.intro hV4 (And.intro hV5 hV6)))))
      clear hN hF hb hfc hrs hV1' hV2 hV3 hV4 hV5 hV6 hbc H15
      go_wp2_with fail
      have HF := hide (HFIN.out ((((((((w5.setCell ⟨bd, 0, none⟩ (pv p)).setCell ⟨rb, 0, none⟩ (pv p)).setCell ⟨rb, 1, none⟩ (.slice (some ⟨g1, 0, none⟩) L.length c1)).setCell ⟨rb, 2, none⟩ (.slice (some ⟨g2, 0, none⟩) (X 2).length c2)).setCell ⟨rb, 3, none⟩ (.slice (some ⟨g3, 0, none⟩) (X 3).length c3)).setCell ⟨rb, 4, none⟩ (.slice (some ⟨g4, 0, none⟩) (X 4).length c4)).setCell ⟨rb, 5, none⟩ (.slice (some ⟨g5, 0, none⟩) (X 5).length c5)).setCell ⟨rb, 6, none⟩ (.slice (some ⟨g6, 0, none⟩) (X 6).length c6))
        ((((((((((Upd.refl (fun k => k = bd ∨ k = rb) w5).setCell _ _ (fun _ => Or.inl rfl)).setCell _ _ (fun _ => Or.inr rfl)).setCell _ _ (fun _ => Or.inr rfl)).setCell _ _ (fun _ => Or.inr rfl)).setCell _ _ (fun _ => Or.inr rfl)).setCell _ _ (fun _ => Or.inr rfl)).setCell _ _ (fun _ => Or.inr rfl)).setCell _ _ (fun _ => Or.inr rfl))))
      clear HFIN HC HYY HB
      refine bodyPost_ret (v := .agg #[pv p, .slice (some ⟨g1, 0, none⟩) L.length c1, .slice (some ⟨g2, 0, none⟩) (X 2).length c2, .slice (some ⟨g3, 0, none⟩) (X 3).length c3, .slice (some ⟨g4, 0, none⟩) (X 4).length c4, .slice (some ⟨g5, 0, none⟩) (X 5).length c5, .slice (some ⟨g6, 0, none⟩) (X 6).length c6]) ?_ rfl ?_
      · simp [results, Try.results28, go_sem, r0, r1, r2, r3, r4, r5, r6]
      · obtain ⟨q1, q2, q3, q4, q5, q6⟩ := HV.out
        exact ⟨_, V, L, Y, ps, all, p, evp, kvp, by rw [q1, q2, q3, q4, q5, q6], HF.out⟩

end Go.Proofs.Qxb6600085a
