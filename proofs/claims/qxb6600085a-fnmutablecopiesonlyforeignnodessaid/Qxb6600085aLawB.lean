/-
  FnMutableCopiesOnlyForeignNodes: the walk.
-/
import Derived.Test.Qxb6600085aLawA
namespace Go.Proofs.Qxb6600085a
open Go.RowKit

set_option maxRecDepth 100000 in
set_option maxHeartbeats 3200000 in
theorem f4_foreign (w : World) (ao : Option Addr) (n cap : Nat) (A : Nat → Option Addr) (L C : Nat → Nat) (inner : Bool) (hv : ValIn w ao n A L C) :
    Calls Try.prog 4 #[.slice ao n cap, .bool inner, .bool true] w fun e w' => e = .returned (.bool true) ∧ Below w.heap.size w w' := by
  obtain ⟨i9, h9, h90, h91, h92⟩ := info_parts info9
  obtain ⟨i32, h32, h320, h321, h322⟩ := info_parts info32
  go_enter Try.func4, Try.ntmps4
  go_wp2_with (go_at_call 21; refine (f21_any w inner true ao n cap A L C hv.len hv.row).mono ?_)
  rintro e w' ⟨⟨y, rfl, hy⟩, hw⟩
  rw [hw]; clear hw w'
  cases y with
  | false =>
    go_wp2
    go_ret
    exact ⟨rfl, Below.refl _ _⟩
  | true =>
    have hS := hy rfl
    clear hy
    have hn1 := hS.1
    have hin : (n : Int) ≤ 1048576 := by omega
    by_cases hn : n ≤ 65536
    case neg =>
      go_wp2_with fail
      go_ret
      exact ⟨rfl, Below.refl _ _⟩
    case pos =>
      have hin' : (n : Int) ≤ 65536 := by omega
      go_wp2_with (go_at_call 9; refine (f9_any w ao n cap A L C hn1 hv.row).mono ?_)
      rintro e w' ⟨⟨q, rfl⟩, hw⟩
      rw [hw]; clear hw w'
      by_cases hq : 1048576 < q
      case pos =>
        go_wp2_with fail
        go_ret
        exact ⟨rfl, Below.refl _ _⟩
      case neg =>
        go_wp2_with (go_at_call 10; refine (f10_any w ao n cap A L C hS hv).mono ?_)
        rintro e w1 ⟨va, vc, vs, rfl, hcl, hb1⟩
        clear hv hS
        go_wp2_with (go_at_call 11; refine (f11_new _).mono ?_)
        rintro e w2 ⟨a, rfl, -, ha2, hb2⟩
        go_wp2_with (go_at_call 12; refine (f12_new _ _ ha2).mono ?_)
        rintro e w3 ⟨t, rfl, hT3, hb3⟩
        go_wp2_with (go_at_call 11; refine (f11_new _).mono ?_)
        rintro e w4 ⟨no, rfl, hno, hNo, hb4⟩
        have hne : no ≠ a := by have := hT3.own.lt; omega
        have hT := hT3.below hb4
        have hcl4 := ((hcl.below hb2).below hb3).below hb4
        have hbw := ((hb1.trans (hb2.mono hb1.size)).trans (hb3.mono (Nat.le_trans hb1.size hb2.size))).trans (hb4.mono (Nat.le_trans hb1.size (Nat.le_trans hb2.size hb3.size)))
        clear hcl hb1 ha2 hb2 hT3 hb3 hb4 hno hq hin
        go_wp2_with (at_make; refine wpList_make_at _ rfl _ _ 30 rfl 9 i9 _ Try.underlying30 h9 h90 h91 rfl .i64 .i64 n n n rfl rfl rfl rfl ?_ ?_ ?_)
        · rw [h92]; omega
        · unfold maxLen; omega
        intro w5 hat5 hb5
        go_wp2
        go_loopw [11] (fun i wr => ∃ k : Nat, k ≤ n ∧ i = .int .i64 k ∧ KeysInv w4 wr n k) (fun i _ => n - (intOf i).toNat)
        case atStart => exact ⟨0, Nat.zero_le _, rfl, [], rfl, by simpa using hat5, hb5⟩
        case round =>
          obtain ⟨k, hk, rfl, hinv⟩ := hrel
          clear hat5 hb5
          by_cases hlt : k < n
          · clear hcl4 hT hNo
            go_wp2_with (go_at_call 22; refine (f22_any _ _).mono ?_)
            rintro e w6 ⟨⟨s, rfl⟩, hb6⟩
            obtain ⟨hc6, hf6⟩ := keys_cell hinv hlt hb6
            have hst := keys_step s hinv hlt hb6
            clear hinv
            go_wp2
            go_roundw
            case rel => exact ⟨k + 1, by omega, by go_num, hst⟩
            case measure => simp [intOf]; omega
          · have hkn : k = n := by omega
            subst hkn
            have hb7 := hinv.choose_spec.2.2
            obtain ⟨es, hes, hks, hvs, hBs⟩ := ents_of hinv hcl4 hb7
            subst hes
            have hT7 := hT.below hb7
            have hNo7 := hNo.below hb7
            have hbw7 := hbw.trans (hb7.mono hbw.size)
            clear hinv hcl4 hT hNo hbw hb7 vs
            cases inner with
            | false =>
              have hSc : Scene wr t a no (some ⟨w4.heap.size, 0, none⟩) va none es false [] := ⟨hT7, hNo7, hks, hvs, hBs, rfl, fun i hi => by simp at hi⟩
              go_wp2_with (go_at_call 15; refine (f15_any _ no _ _ _ _ _ _ 0 es [] false (by omega) (Nat.le_refl _) hks hvs (Or.inl ⟨rfl, rfl, rfl⟩)).mono ?_)
              clear hT7 hNo7 hks hvs hBs
              rintro e w8 ⟨b, ev, kv, rfl, hN8, hF8, hb8⟩
              have hSc8 := hSc.below hb8
              have hbw8 := hbw7.trans (hb8.mono hbw7.size)
              clear hSc hb8 hF8
              go_wp2_with (go_at_call 23; refine (f23_other _ t b no a _ _ es _ _ hSc8.T hN8 hSc8.no hne (by omega) (by simp)).mono ?_)
              rintro e w9 ⟨c, evc, kvc, rfl, hN9, hF9, hb9⟩
              have hSc9 := hSc8.below hb9
              have hNb9 := hN8.below hb9
              have hcb : c ≠ b := by have := hF9.1; have := hN8.cells.lt; omega
              have he : (binOp .eql 32 (pv c) (pv b)).run Try.prog w9 = .ok (.bool false) w9 := by
                have := eql_node hN9.lies hNb9.lies
                simpa [hcb] using this
              have hbw9 := hbw8.trans (hb9.mono hbw8.size)
              clear hSc8 hb9 hN8 hF9 hcb hbw8
              go_wp2_with fail
              refine (f24_yes hN9 hSc9.T.own).mono ?_
              rintro e w' ⟨rfl, hw⟩
              rw [hw]; clear hw w'
              go_wp2_with fail
              refine (f24_yes hNb9 hSc9.no).mono ?_
              rintro e w' ⟨rfl, hw⟩
              rw [hw]; clear hw w' he
              go_wp2_with fail
              refine (f19_scene _ _ _ _ hSc9 hN9 (by omega) (by simp) (Nat.le_refl _)).mono ?_
              rintro e w10 ⟨rfl, hd⟩
              have hSc10 := hSc9.drew hd
              have hN10 := hN9.same hd.heap
              have hNb10 := hNb9.same hd.heap
              have hbw10 := Below.drewOf hbw9 hd
              clear hSc9 hN9 hNb9 hbw9 hd
              go_wp2_with fail
              refine (f19_scene _ _ _ _ hSc10 hNb10 (by omega) (by simp) (Nat.le_refl _)).mono ?_
              rintro e w11 ⟨rfl, hd⟩
              have hSc11 := hSc10.drew hd
              have hN11 := hN10.same hd.heap
              have hbw11 := Below.drewOf hbw10 hd
              clear hSc10 hN10 hNb10 hbw10 hd
              go_wp2_with fail
              refine (f23_own _ t c a _ _ es _ _ hSc11.T hN11).mono ?_
              rintro e w12 ⟨rfl, hd⟩
              have he : (binOp .eql 32 (pv c) (pv c)).run Try.prog w12 = .ok (.bool true) w12 := by
                have := eql_node (hN11.same hd.heap).lies (hN11.same hd.heap).lies
                simpa using this
              have hbw12 := Below.drewOf hbw11 hd
              clear hSc11 hN11 hbw11 hd
              go_wp2_with fail
              go_ret
              exact ⟨rfl, hbw12⟩
            | true =>
              generalize wr = w7 at *
              clear wr
              obtain ⟨m, hm⟩ : ∃ m, m = es.length + 1 := ⟨_, rfl⟩
              have hmI : (es.length : Int) + 1 = (m : Int) := by omega
              have hm1 : m ≤ 65537 := by omega
              have hm0 : 0 < m := by omega
              have HMI := hide hmI
              clear hm hmI
              go_wp2_with (at_make; refine wpList_make_at _ rfl _ _ 31 rfl 32 i32 _ Try.underlying31 h32 h320 h321 rfl .i64 .i64 _ _ m rfl rfl HMI.out HMI.out ?_ ?_ ?_)
              · rw [h322]; omega
              · unfold maxLen; omega
              intro w6 hat6 hb6
              go_wp2
              go_loopw [13] (fun i wy => ∃ k : Nat, k ≤ m ∧ i = .int .i64 k ∧ KidsInv w7 wy m k) (fun i _ => m - (intOf i).toNat)
              case atStart => exact ⟨0, Nat.zero_le _, rfl, [], rfl, by simpa using hat6, hb6⟩
              case round =>
                obtain ⟨k, hk2, rfl, hinv⟩ := hrel
                clear hat6 hb6
                by_cases hlt2 : k < m
                · clear hT7 hNo7 hks hvs hBs
                  go_wp2_with (go_at_call 15; refine (f15_any _ no none none none 0 0 0 0 [] [] false (by simp) (by simp) (fun i hi => by simp at hi) (fun i hi => by simp at hi) (Or.inl ⟨rfl, rfl, rfl⟩)).mono ?_)
                  rintro e w8 ⟨b, ev, kv, rfl, -, -, hb8⟩
                  obtain ⟨hc8, hf8⟩ := kids_cell hinv hlt2 hb8
                  have hst := kids_step b hinv hlt2 hb8
                  clear hinv hb8
                  go_wp2
                  go_roundw
                  case rel => exact ⟨k + 1, by omega, by go_num, hst⟩
                  case measure => simp [intOf]; omega
                · have hkm : k = m := by omega
                  subst hkm
                  have hb7 := hinv.choose_spec.2.2
                  obtain ⟨ks, hkl, hatk, -⟩ := hinv
                  have hSc : Scene wr t a no (some ⟨w4.heap.size, 0, none⟩) va (some ⟨w7.heap.size, 0, none⟩) es true ks := by
                    refine ⟨hT7.below hb7, hNo7.below hb7, strs_below hks hb7, vals_below hvs hb7, isB_below hBs hb7, rfl, fun i hi => ⟨_, rfl, hatk.cell ?_⟩⟩
                    rw [List.getElem?_append_left (by simpa using hi)]
                    simp
                  have hkc : ∀ j u, (ks.map pv)[j]? = some u → wr.cell? ((⟨w7.heap.size, 0, none⟩ : Addr).add j) = some u := by
                    have := hatk
                    rw [Nat.sub_self, List.replicate_zero, List.append_nil] at this
                    exact World.news_of_block (cs := (ks.map pv).toArray) this
                  subst hkl
                  have hbwz := hbw7.trans (hb7.mono hbw7.size)
                  clear hT7 hNo7 hks hvs hBs hatk hbw7 hb7 HMI hlt2 hk2
                  go_wp2_with (go_at_call 15; refine (f15_any _ no _ _ _ _ _ _ _ es ks true (by omega) (Nat.le_refl _) hSc.k hSc.v (Or.inr ⟨rfl, hm0, by omega, _, rfl, hkc⟩)).mono ?_)
                  clear hkc
                  rintro e w8 ⟨b, ev, kv, rfl, hN8, hF8, hb8⟩
                  have hSc8 := hSc.below hb8
                  have hbw8 := hbwz.trans (hb8.mono hbwz.size)
                  clear hSc hb8 hF8
                  go_wp2_with (go_at_call 23; refine (f23_other _ t b no a _ _ es _ _ hSc8.T hN8 hSc8.no hne (by omega) (by omega)).mono ?_)
                  rintro e w9 ⟨c, evc, kvc, rfl, hN9, hF9, hb9⟩
                  have hSc9 := hSc8.below hb9
                  have hNb9 := hN8.below hb9
                  have hcb : c ≠ b := by have := hF9.1; have := hN8.cells.lt; omega
                  have he : (binOp .eql 32 (pv c) (pv b)).run Try.prog w9 = .ok (.bool false) w9 := by
                    have := eql_node hN9.lies hNb9.lies
                    simpa [hcb] using this
                  have hbw9 := hbw8.trans (hb9.mono hbw8.size)
                  clear hSc8 hb9 hN8 hF9 hcb hbw8
                  go_wp2_with fail
                  refine (f24_yes hN9 hSc9.T.own).mono ?_
                  rintro e w' ⟨rfl, hw⟩
                  rw [hw]; clear hw w'
                  go_wp2_with fail
                  refine (f24_yes hNb9 hSc9.no).mono ?_
                  rintro e w' ⟨rfl, hw⟩
                  rw [hw]; clear hw w' he
                  go_wp2_with fail
                  refine (f19_scene _ _ _ _ hSc9 hN9 (by omega) (by omega) (Nat.le_refl _)).mono ?_
                  rintro e w10 ⟨rfl, hd⟩
                  have hSc10 := hSc9.drew hd
                  have hN10 := hN9.same hd.heap
                  have hNb10 := hNb9.same hd.heap
                  have hbw10 := Below.drewOf hbw9 hd
                  clear hSc9 hN9 hNb9 hbw9 hd
                  go_wp2_with fail
                  refine (f19_scene _ _ _ _ hSc10 hNb10 (by omega) (by omega) (Nat.le_refl _)).mono ?_
                  rintro e w11 ⟨rfl, hd⟩
                  have hSc11 := hSc10.drew hd
                  have hN11 := hN10.same hd.heap
                  have hbw11 := Below.drewOf hbw10 hd
                  clear hSc10 hN10 hNb10 hbw10 hd
                  go_wp2_with fail
                  refine (f23_own _ t c a _ _ es _ _ hSc11.T hN11).mono ?_
                  rintro e w12 ⟨rfl, hd⟩
                  have he : (binOp .eql 32 (pv c) (pv c)).run Try.prog w12 = .ok (.bool true) w12 := by
                    have := eql_node (hN11.same hd.heap).lies (hN11.same hd.heap).lies
                    simpa using this
                  have hbw12 := Below.drewOf hbw11 hd
                  clear hSc11 hN11 hbw11 hd
                  go_wp2_with fail
                  go_ret
                  exact ⟨rfl, hbw12⟩

end Go.Proofs.Qxb6600085a
