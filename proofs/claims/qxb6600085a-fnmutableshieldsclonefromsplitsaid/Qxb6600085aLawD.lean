/-
  FnMutableShieldsCloneFromSplit: the walk and the row.
-/
import Derived.Test.Qxb6600085aFullW
import Derived.Test.Qxb6600085aOpen
import Derived.OpenShut
import Derived.ShutString
import Derived.ChangeOld
namespace Go.Proofs.Qxb6600085a
open Go.RowKit

set_option maxRecDepth 100000 in
set_option maxHeartbeats 3200000 in
theorem f5_any (w : World) (ao : Option Addr) (n cap : Nat) (A : Nat → Option Addr) (L C : Nat → Nat) (inner : Bool) (hv : ValIn w ao n A L C) :
    Calls Try.prog 5 #[.slice ao n cap, .bool inner] w fun e w' => e = .returned (.bool true) ∧ Below w.heap.size w w' := by
  go_enter Try.func5, Try.ntmps5
  go_wp2_with (go_at_call 25; refine (f25_any w inner ao n cap A L C hv.len hv.row).mono ?_)
  rintro e w' ⟨⟨y, rfl, hy⟩, hw⟩
  rw [hw]; clear hw w'
  cases y with
  | false =>
    go_wp2
    go_ret
    exact ⟨rfl, Below.refl _ _⟩
  | true =>
    have hS := hy rfl
    clear hy
    have hn1 := hS.1
    have hin : (n : Int) ≤ 1048576 := by omega
    by_cases hn : n ≤ 65536
    case neg =>
      go_wp2_with fail
      go_ret
      exact ⟨rfl, Below.refl _ _⟩
    case pos =>
      have hin' : (n : Int) ≤ 65536 := by omega
      go_wp2_with (go_at_call 9; refine (f9_any w ao n cap A L C hn1 hv.row).mono ?_)
      rintro e w' ⟨⟨q, rfl⟩, hw⟩
      rw [hw]; clear hw w'
      by_cases hq : 1048576 < q
      case pos =>
        go_wp2_with fail
        go_ret
        exact ⟨rfl, Below.refl _ _⟩
      case neg =>
        go_wp2_with (go_at_call 10; refine (f10_any w ao n cap A L C hS hv).mono ?_)
        rintro e w1 ⟨va, vc, vs, rfl, hcl, hb1⟩
        clear hv hS
        go_wp2_with (go_at_call 11; refine (f11_new _).mono ?_)
        rintro e w2 ⟨a, rfl, -, ha2, hb2⟩
        go_wp2_with (go_at_call 11; refine (f11_new _).mono ?_)
        rintro e w3 ⟨ob, rfl, hob, hO3, hb3⟩
        have ha3 := ha2.below hb3
        have hne : ob ≠ a := by have := ha2.lt; omega
        go_wp2_with (go_at_call 12; refine (f12_new _ _ ha3).mono ?_)
        rintro e w4 ⟨t, rfl, hT, hb4⟩
        have hO4 := hO3.below hb4
        have hcl4 := ((hcl.below hb2).below hb3).below hb4
        have hbw := ((hb1.trans (hb2.mono hb1.size)).trans (hb3.mono (Nat.le_trans hb1.size hb2.size))).trans (hb4.mono (Nat.le_trans hb1.size (Nat.le_trans hb2.size hb3.size)))
        clear hcl hb1 ha2 ha3 hb2 hb3 hb4 hq hin hob hO3
        go_wp2_with (go_at_call 13; refine (f13_any _ ob va n vc vs inner hcl4 hn).mono ?_)
        rintro e w8 ⟨wc, ka, va2, kao, kcap, b, ev, kv, es, ks, rfl, hes, hkl, hkl0, hC, hbc, hN8, hF8, hb8⟩
        have hkl2 : ks.length ≤ 32 := by
          cases inner with
          | true => have := hkl rfl; omega
          | false => have := hkl0 rfl; subst this; simp
        have hT8 := (hT.below hbc).below hb8
        have hO8 := (hO4.below hbc).below hb8
        have hbw8 := (hbw.trans (hbc.mono hbw.size)).trans (hb8.mono (Nat.le_trans hbw.size hbc.size))
        clear hT hO4 hbw hcl4 hF8
        go_wp2_with (go_at_call 23; refine (f23_other _ t b ob a _ _ es _ _ hT8 hN8 hO8 hne (by omega) (by omega)).mono ?_)
        rintro e w9 ⟨c, evc, kvc, rfl, hN9, hF9, hb9⟩
        have hT9 := hT8.below hb9
        go_wp2_with (go_at_call 14; refine (f14_any _ t c a a evc kvc es inner ks hT9 hN9 hes hkl).mono ?_)
        rintro e w10 ⟨s, x, r, ev1, kv1, evr, kvr, rfl, h15, hN10, hR10, -, -, -, hU⟩
        have hb10 : Below w8.heap.size w8 w10 := hb9.trans (hU.below hb9.size (fun k hk h => by
          rcases h with h | h | h
          · have := hF9.1; omega
          · have := hF9.2.1 k h; omega
          · have := hF9.2.2 k h; omega))
        have hNb := hN8.below hb10
        have hO10 := hO8.below hb10
        have hC10 := hC.below (hb8.trans (hb10.mono hb8.size))
        have hcb : c ≠ b := by have := hF9.1; have := hN8.cells.lt; omega
        have he : (binOp .eql 32 (pv c) (pv b)).run Try.prog w10 = .ok (.bool false) w10 := by
          have := eql_node hN10.lies hNb.lies
          simpa [hcb] using this
        have hbw10 := hbw8.trans (hb10.mono hbw8.size)
        clear hb10 hU hT9 hN9 hF9 hb9 hT8 hO8 hbw8 hN8 hb8 hC hbc hcb h15 hkl hkl0
        obtain ⟨xA, xL, xC⟩ := x
        go_wp2_with fail
        refine (f24_yes hNb hO10).mono ?_
        rintro e w' ⟨rfl, hw⟩
        rw [hw]; clear hw w' he
        have h19 := f19_cmp 31 31 31 kcap hC10 hNb (by omega) (by omega) (by omega)
        rw [hes] at h19
        go_wp2_with fail
        refine h19.mono ?_
        rintro e w11 ⟨rfl, hd⟩
        have hN11 := hN10.same hd.heap
        have hR11 := hR10.same hd.heap
        have hbw11 := Below.drewOf hbw10 hd
        have hl1 : (es.take 15).length = 15 := by simp [hes]
        have hl2 : (es.drop 16).length = 15 := by simp [hes]
        have h17 := f17_any hN11
        have h17r := f17_any hR11
        rw [hl1] at h17
        rw [hl2] at h17r
        clear h19 hN10 hR10 hC10 hNb hO10 hbw10 hd hl1 hl2 hN11 hR11
        have H17 := hide h17
        have H17r := hide h17r
        clear h17 h17r
        go_wp2_with fail
        refine H17.out.mono ?_
        rintro e w' ⟨rfl, hw⟩
        rw [hw]; clear hw w'
        go_wp2_with fail
        refine H17r.out.mono ?_
        rintro e w' ⟨rfl, hw⟩
        rw [hw]; clear hw w'
        go_wp2_with fail
        go_ret
        exact ⟨rfl, hbw11⟩

end Go.Proofs.Qxb6600085a
