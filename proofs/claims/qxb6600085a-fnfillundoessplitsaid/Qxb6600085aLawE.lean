/-
  FnFillUndoesSplit: the walk.
-/
import Derived.Test.Qxb6600085aFillM
import Derived.Test.Qxb6600085aFullW
import Derived.Test.Qxb6600085aOpen
import Derived.OpenShut
import Derived.ShutString
import Derived.ChangeOld
namespace Go.Proofs.Qxb6600085a
open Go.RowKit

/-- The three one-off rows of the parent's making. -/
theorem three_rows (w : World) (s : ByteArray) (x : Option Addr × Nat × Nat) (b r : Nat) :
    Below w.heap.size w (((w.alloc (.cells #[.string s] 9)).alloc (.cells #[sv x] 35)).alloc (.cells #[pv b, pv r] 32)) ∧
    (((w.alloc (.cells #[.string s] 9)).alloc (.cells #[sv x] 35)).alloc (.cells #[pv b, pv r] 32)).cell? ⟨w.heap.size, 0, none⟩ = some (.string s) ∧
    (((w.alloc (.cells #[.string s] 9)).alloc (.cells #[sv x] 35)).alloc (.cells #[pv b, pv r] 32)).cell? ⟨w.heap.size + 1, 0, none⟩ = some (sv x) ∧
    At (((w.alloc (.cells #[.string s] 9)).alloc (.cells #[sv x] 35)).alloc (.cells #[pv b, pv r] 32)) (w.heap.size + 1 + 1) [pv b, pv r] 32 := by
  have a0 := ((At.new w [.string s] 9).alloc (.cells #[sv x] 35)).alloc (.cells #[pv b, pv r] 32)
  have a1 := (At.new (w.alloc (.cells #[.string s] 9)) [sv x] 35).alloc (.cells #[pv b, pv r] 32)
  have a2 := At.new ((w.alloc (.cells #[.string s] 9)).alloc (.cells #[sv x] 35)) [pv b, pv r] 32
  have e1 : (w.alloc (.cells #[.string s] 9)).heap.size = w.heap.size + 1 := by simp
  have e2 : ((w.alloc (.cells #[.string s] 9)).alloc (.cells #[sv x] 35)).heap.size = w.heap.size + 1 + 1 := by simp
  rw [e1] at a1
  rw [e2] at a2
  exact ⟨(((Below.refl _ _).alloc (Nat.le_refl _) _).alloc (by rw [e1]; omega) _).alloc (by rw [e2]; omega) _, a0.cell rfl, a1.cell rfl, a2⟩

set_option maxRecDepth 100000 in
set_option maxHeartbeats 3200000 in
theorem f3_any (w : World) (ao : Option Addr) (n cap : Nat) (A : Nat → Option Addr) (L C : Nat → Nat) (inner atRight : Bool) (hv : ValIn w ao n A L C) :
    Calls Try.prog 3 #[.slice ao n cap, .bool inner, .bool atRight] w fun e w' => e = .returned (.bool true) ∧ Below w.heap.size w w' := by
  go_enter Try.func3, Try.ntmps3
  go_wp2_with (go_at_call 8; refine (f8_any w inner atRight ao n cap A L C hv.len hv.row).mono ?_)
  rintro e w' ⟨⟨y, rfl, hy⟩, hw⟩
  rw [hw]; clear hw w'
  cases y with
  | false =>
    go_wp2
    go_ret
    exact ⟨rfl, Below.refl _ _⟩
  | true =>
    have hS := hy rfl
    clear hy
    have hn1 := hS.1
    have hin : (n : Int) ≤ 1048576 := by omega
    by_cases hn : n ≤ 65536
    case neg =>
      go_wp2_with fail
      go_ret
      exact ⟨rfl, Below.refl _ _⟩
    case pos =>
      have hin' : (n : Int) ≤ 65536 := by omega
      go_wp2_with (go_at_call 9; refine (f9_any w ao n cap A L C hn1 hv.row).mono ?_)
      rintro e w' ⟨⟨q, rfl⟩, hw⟩
      rw [hw]; clear hw w'
      by_cases hq : 1048576 < q
      case pos =>
        go_wp2_with fail
        go_ret
        exact ⟨rfl, Below.refl _ _⟩
      case neg =>
        go_wp2_with (go_at_call 10; refine (f10_any w ao n cap A L C hS hv).mono ?_)
        rintro e w1 ⟨va, vc, vs, rfl, hcl, hb1⟩
        clear hv hS
        go_wp2_with (go_at_call 11; refine (f11_new _).mono ?_)
        rintro e w2 ⟨a, rfl, -, ha2, hb2⟩
        go_wp2_with (go_at_call 12; refine (f12_new _ _ ha2).mono ?_)
        rintro e w4 ⟨t, rfl, hT, hb4⟩
        have hcl4 := (hcl.below hb2).below hb4
        have hbw := (hb1.trans (hb2.mono hb1.size)).trans (hb4.mono (Nat.le_trans hb1.size hb2.size))
        clear hcl hb1 ha2 hb2 hb4 hq hin
        go_wp2_with (go_at_call 13; refine (f13_any _ a va n vc vs inner hcl4 hn).mono ?_)
        rintro e w8 ⟨wc, ka, va2, kao, kcap, b, ev, kv, es, ks, rfl, hes, hkl, hkl0, hC, hbc, hN8, hF8, hb8⟩
        have hkl2 : ks.length ≤ 32 := by
          cases inner with
          | true => have := hkl rfl; omega
          | false => have := hkl0 rfl; subst this; simp
        have hT8 := (hT.below hbc).below hb8
        have hTc := hT.below hbc
        have hbwc := hbw.trans (hbc.mono hbw.size)
        clear hT hbw hcl4 hbc hn hin'
        go_wp2_with (go_at_call 14; refine (f14_any _ t b a a ev kv es inner ks hT8 hN8 hes hkl).mono ?_)
        rintro e w9 ⟨s, x, r, ev1, kv1, evr, kvr, rfl, h15, hN9, hR9, he1, hk1, hFr, hU⟩
        have hb9 : Below wc.heap.size wc w9 := hb8.trans (hU.below hb8.size (fun k hk h => by
          rcases h with h | h | h
          · have := hF8.1; omega
          · have := hF8.2.1 k h; omega
          · have := hF8.2.2 k h; omega))
        have hsep : Sep b ev1 kv1 r evr kvr := by
          intro k h1 h2
          have hlt : k < w8.heap.size := hN8.fp_lt (by rcases h1 with h | h | h; exact .inl h; exact .inr (.inl (by rw [← he1]; exact h)); exact .inr (.inr (by rw [← hk1]; exact h)))
          rcases h2 with rfl | h | h
          · have := hFr.1; omega
          · have := hFr.2.1 k h; omega
          · have := hFr.2.2 k h; omega
        have hF9 : From wc.heap.size b ev1 kv1 := ⟨hF8.1, fun g hg => hF8.2.1 g (by rw [← he1]; exact hg), fun g hg => hF8.2.2 g (by rw [← hk1]; exact hg)⟩
        clear hU hN8 hF8 hT8 he1 hk1 hFr hb8 hkl hkl0
        obtain ⟨hb10, q1, q2, q3⟩ := three_rows w9 s x b r
        have hN10 := hN9.below hb10
        have hR10 := hR9.below hb10
        have hb10c := hb9.trans (hb10.mono hb9.size)
        obtain ⟨xA, xL, xC⟩ := x
        have hf15 := f15_any (((w9.alloc (.cells #[.string s] 9)).alloc (.cells #[.slice xA xL xC] 35)).alloc (.cells #[pv b, pv r] 32)) a (some ⟨w9.heap.size, 0, none⟩) (some ⟨w9.heap.size + 1, 0, none⟩) (some ⟨w9.heap.size + 1 + 1, 0, none⟩) 1 1 1 2 [(s, xA, xL, xC)] [b, r] true (by simp) (by simp)
          (fun i hi => by have h0 : i = 0 := by simpa using hi
                          subst h0; exact ⟨_, rfl, q1⟩)
          (fun i hi => by have h0 : i = 0 := by simpa using hi
                          subst h0; exact ⟨_, rfl, q2⟩)
          (Or.inr ⟨rfl, by simp, by simp, _, rfl, World.news_of_block (cs := #[pv b, pv r]) q3⟩)
        have HF15 := hide hf15
        clear hf15 hN9 hR9 q1 q2 q3 hb10
        go_wp2_with fail
        refine HF15.out.mono ?_
        rintro e w11 ⟨p, evp, kvp, rfl, hP11, hFp, hb11⟩
        have hs1 := (sep_of_from hN10 hFp).symm
        have hs2 := sep_of_from hR10 hFp
        have hN11 := hN10.below hb11
        have hR11 := hR10.below hb11
        have hb11c := hb10c.trans (hb11.mono hb10c.size)
        have hFpc := hFp.mono hb10c.size
        have hT11 := hTc.below hb11c
        have hl1 : (es.take 15).length = 15 := by simp [hes]
        have hl2 : (es.drop 16).length = 15 := by simp [hes]
        have hfill : Calls Try.prog 16 #[pv t, pv p, .int .i64 (if atRight then 1 else 0)] w11 fun e w' => e = .returned (.int .i64 0) ∧ Merged w11 w' (fun k => FP p evp kvp k ∨ FP b ev1 kv1 k) a p a 0 b a [(s, xA, xL, xC)] [b, r] (es.take 15) (ks.take 16) (es.drop 16) (ks.drop 16) inner := by
          cases atRight with
          | false =>
            exact f16_of w11 t p ((0 : Nat) : Int) ((0 : Nat) : Int) _ (f35_merge w11 _ t a p a 0 b a r a evp [(s, xA, xL, xC)] kvp [b, r] ev1 (es.take 15) kv1 (ks.take 16) evr (es.drop 16) kvr (ks.drop 16) inner hT11 hP11 (by simp) (by simp) rfl rfl hN11 hR11 hT11.own (by omega) (by omega) (by simp; omega) (by simp) (by simp)
              hs1 hsep hs2 (fun k hk => .inl hk) (fun _ k hk => .inr hk) (fun h => by omega))
          | true =>
            exact f16_of w11 t p ((1 : Nat) : Int) ((0 : Nat) : Int) _ (f35_last w11 _ t a p a 0 b a r a 1 evp [(s, xA, xL, xC)] kvp [b, r] ev1 (es.take 15) kv1 (ks.take 16) evr (es.drop 16) kvr (ks.drop 16) inner rfl hT11 hP11 (by simp) (by simp) rfl rfl hN11 hR11 hT11.own (by omega) (by omega) (by simp; omega) (by simp) (by simp)
              hs1 hsep hs2 (fun k hk => .inl hk) (fun _ k hk => .inr hk))
        have HFILL := hide hfill
        clear hfill HF15 hs1 hs2 hN11 hR11 hT11 hl1 hl2 hP11 hFp hb11 hN10 hR10 hsep hTc
        have hrest : es.take 15 ++ (s, xA, xL, xC) :: es.drop 16 = es := by
          have hlt : 15 < es.length := by omega
          rw [List.getElem?_eq_getElem hlt] at h15
          have h15' : es[15] = (s, xA, xL, xC) := by simpa using h15
          rw [← h15', ← List.drop_eq_getElem_cons hlt, List.take_append_drop]
        have hfin : ∀ w12, Merged w11 w12 (fun k => FP p evp kvp k ∨ FP b ev1 kv1 k) a p a 0 b a [(s, xA, xL, xC)] [b, r] (es.take 15) (ks.take 16) (es.drop 16) (ks.drop 16) inner →
            (∃ ev' kv', NodeAt w12 b a ev' es kv' inner ks) ∧ (∃ evp' kvp', NodeAt w12 p a evp' [] kvp' true [b]) ∧ Below wc.heap.size wc w12 := by
          rintro w12 ⟨hie, c, ev', kv', evp', kvp', hcb, hN12, hP12, hU12⟩
          have hc := hcb rfl
          subst hc
          rw [List.take_append_drop] at hN12
          refine ⟨⟨ev', kv', ?_⟩, ⟨evp', kvp', hP12⟩, hb11c.trans (hU12.below hb11c.size (fun k hk h => ?_))⟩
          · rw [← hrest]; exact hN12
          · rcases h with h | h
            · rcases h with h | h | h
              · have := hFpc.1; omega
              · have := hFpc.2.1 k h; omega
              · have := hFpc.2.2 k h; omega
            · rcases h with h | h | h
              · have := hF9.1; omega
              · have := hF9.2.1 k h; omega
              · have := hF9.2.2 k h; omega
        have HFIN := hide hfin
        clear hfin hrest h15 hb11c hFpc hF9 hb10c hb9
        cases atRight
        case false =>
          go_wp2_with fail
          refine (show Calls Try.prog 16 #[pv t, pv p, .int .i64 0] w11 _ from HFILL.out).mono ?_
          rintro e w12 ⟨rfl, hM⟩
          obtain ⟨⟨ev', kv', hN12⟩, ⟨evp', kvp', hP12⟩, hb12⟩ := HFIN.out w12 hM
          clear hM HFIN HFILL
          have hC12 := hC.below hb12
          have hbw12 := hbwc.trans (hb12.mono hbwc.size)
          have h17 := hide (f17_any hP12)
          have h18 := hide (f18_any hP12)
          have h20 := hide (f20_any hP12 0 (by simp))
          have h19 := f19_cmp 31 31 31 kcap hC12 hN12 (by omega) (by omega) (by omega)
          rw [hes] at h19
          have H19 := hide h19
          clear h19 hC12 hN12 hP12 hb12 hC
          go_wp2_with fail
          refine h17.out.mono ?_
          rintro e w' ⟨rfl, hw⟩
          rw [hw]; clear hw w'
          go_wp2_with fail
          refine h18.out.mono ?_
          rintro e w' ⟨rfl, hw⟩
          rw [hw]; clear hw w'
          go_wp2_with fail
          refine h20.out.mono ?_
          rintro e w' ⟨rfl, hw⟩
          rw [hw]; clear hw w'
          go_wp2_with fail
          refine H19.out.mono ?_
          rintro e w13 ⟨rfl, hd⟩
          have hbw13 := Below.drewOf hbw12 hd
          clear hd hbw12
          go_wp2_with fail
          go_ret
          exact ⟨rfl, hbw13⟩
        case true =>
          go_wp2_with fail
          refine (show Calls Try.prog 16 #[pv t, pv p, .int .i64 1] w11 _ from HFILL.out).mono ?_
          rintro e w12 ⟨rfl, hM⟩
          obtain ⟨⟨ev', kv', hN12⟩, ⟨evp', kvp', hP12⟩, hb12⟩ := HFIN.out w12 hM
          clear hM HFIN HFILL
          have hC12 := hC.below hb12
          have hbw12 := hbwc.trans (hb12.mono hbwc.size)
          have h17 := hide (f17_any hP12)
          have h18 := hide (f18_any hP12)
          have h20 := hide (f20_any hP12 0 (by simp))
          have h19 := f19_cmp 31 31 31 kcap hC12 hN12 (by omega) (by omega) (by omega)
          rw [hes] at h19
          have H19 := hide h19
          clear h19 hC12 hN12 hP12 hb12 hC
          go_wp2_with fail
          refine h17.out.mono ?_
          rintro e w' ⟨rfl, hw⟩
          rw [hw]; clear hw w'
          go_wp2_with fail
          refine h18.out.mono ?_
          rintro e w' ⟨rfl, hw⟩
          rw [hw]; clear hw w'
          go_wp2_with fail
          refine h20.out.mono ?_
          rintro e w' ⟨rfl, hw⟩
          rw [hw]; clear hw w'
          go_wp2_with fail
          refine H19.out.mono ?_
          rintro e w13 ⟨rfl, hd⟩
          have hbw13 := Below.drewOf hbw12 hd
          clear hd hbw12
          go_wp2_with fail
          go_ret
          exact ⟨rfl, hbw13⟩

end Go.Proofs.Qxb6600085a
