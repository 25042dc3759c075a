/-
  fill where it borrows of the left sibling; where the child has room.
-/
import Derived.Test.Qxb6600085aDuo
import Derived.BigRegion
namespace Go.Proofs.Qxb6600085a
open Go.RowKit

set_option maxRecDepth 100000 in
set_option maxHeartbeats 800000 in
theorem f35_room (w : World) (t p op i c oc : Nat) (evp : Value) (ps : List Ent) (kvp : Value) (ks : List Nat) (evc : Value) (es : List Ent) (hP : NodeAt w p op evp ps kvp true ks) (hi : i < ks.length) (hc : ks[i] = c) (hC : LeafAt w c oc evc es) (h15 : 15 < es.length) :
    Calls Try.prog 35 #[pv t, pv p, .int .i64 i] w fun e w' => e = .returned (.int .i64 i) ∧ w' = w := by
  obtain ⟨gk, ck, g1, c1, hkv, q1, q2⟩ := head_of hP hi hc hC
  subst hkv
  have p2 := hP.cell2
  have hk1 : (i : Int) < (ks.length : Int) := by omega
  have hk0 : (0 : Int) ≤ (i : Int) := Int.natCast_nonneg _
  have z1 : (15 : Int) < (es.length : Int) := by omega
  clear hP hC hc
  go_enter Try.func35, Try.ntmps35
  go_wp2
  go_ret
  exact ⟨rfl, rfl⟩

set_option maxRecDepth 100000 in
set_option maxHeartbeats 3200000 in
theorem f35_left (w : World) (T : Nat → Prop) (t a p op i j x0 ox y0 oy : Nat) (evp : Value) (ps : List Ent) (kvp : Value) (ks : List Nat) (evx : Value) (xs xs' : List Ent) (evy : Value) (ys : List Ent) (s1 s2 : ByteArray) (A1 A2 : Option Addr) (L1 C1 L2 C2 : Nat)
    (hij : i = j + 1) (hst : ∀ W, Upd (fun k => FP p evp kvp k) w W → Tree W t a ∧ Lies W ox ∧ Lies W oy) (hP : NodeAt w p op evp ps kvp true ks) (hi : j + 1 < ks.length) (hie : j < ps.length) (hks : ks.length ≤ 1048577) (hx : ks[j] = x0) (hy : ks[j + 1] = y0) (hX : LeafAt w x0 ox evx xs) (hY : LeafAt w y0 oy evy ys)
    (sx : 15 < xs.length) (sx' : xs.length ≤ 31) (sy : ys.length ≤ 15) (sy' : 1 ≤ ys.length) (hpe : ps[j] = (s1, A1, L1, C1)) (hxs : xs = xs' ++ [(s2, A2, L2, C2)])
    (hxp : Sep x0 evx nilV p evp kvp) (hyp : Sep y0 evy nilV p evp kvp) (hxy : Sep x0 evx nilV y0 evy nilV) (hTp : ∀ k, FP p evp kvp k → T k) (hTx : ox = a → ∀ k, FP x0 evx nilV k → T k) (hTy : oy = a → ∀ k, FP y0 evy nilV k → T k) :
    Calls Try.prog 35 #[pv t, pv p, .int .i64 i] w fun e w' => e = .returned (.int .i64 i) ∧ Lent w w' T a p op (ps.set j (s2, A2, L2, C2)) kvp ks j x0 ox y0 oy xs' ((s1, A1, L1, C1) :: ys) := by
  have hii : i < ks.length := by omega
  have hyi : ks[i] = y0 := by subst hij; exact hy
  have H1 := hide (mid_of w T t a p op evp ps kvp ks x0 ox evx xs i y0 oy evy ys hst hP hii hyi hX hY (by omega) hxp hyp hxy hTp hTy)
  have H2 := hide (fun w1 y evy' (h : Mid w w1 T t a p op evp ps kvp ks x0 ox evx xs i y evy' ys) => duo_of h j (by omega) (by omega) hx (by omega) hTp hTx)
  obtain ⟨gk, ck, g1, c1, hkv, q1, q2⟩ := head_of hP (i := j + 1) hi hy hY
  subst hkv
  obtain ⟨g2, c2, q3, q4⟩ := head_at hP (i := j) (by omega) hx hX
  have p2 := hP.cell2
  have hk0 : (0 : Int) < (i : Int) := by omega
  have hk1 : (i : Int) < (ks.length : Int) := by omega
  have hk3 : (1 : Int) ≤ (i : Int) := by omega
  have z1 : (ys.length : Int) ≤ 15 := by omega
  have z2 : (15 : Int) < (xs.length : Int) := by omega
  have q1' : w.cell? ⟨gk, i, none⟩ = some (pv y0) := by rw [hij]; exact q1
  have HI := hide hij
  have HX := hide hxs
  have HPE := hide hpe
  obtain ⟨m, hm⟩ : ∃ m, xs.length = m + 1 := ⟨xs.length - 1, by omega⟩
  have HM := hide hm
  have hwj : IntKind.i64.wrap ((i : Int) - 1) = (j : Int) := by rw [IntKind.wrap_i64]; omega
  have hwm : IntKind.i64.wrap (m : Int) = (m : Int) := by rw [IntKind.wrap_i64]; omega
  have hj0 : (0 : Int) ≤ (j : Int) := Int.natCast_nonneg _
  have hm0 : (0 : Int) ≤ (m : Int) := Int.natCast_nonneg _
  have hm1 : (m : Int) < (m : Int) + 1 := by omega
  have hje : (j : Int) < (ps.length : Int) := by omega
  clear hst hX hY hxp hyp hxy hTp hTx hTy hx hy hP hij q1 hxs hpe hm hyi
  go_enter Try.func35, Try.ntmps35
  go_wp2_with (go_at_call 44; refine H1.out.mono ?_)
  rintro e w1 ⟨y, evy1, rfl, hmid, hyo⟩
  have H3 := hide (H2.out w1 y evy1 hmid)
  have HYO := hide hyo
  clear hmid hyo H1 H2
  go_wp2_with fail
  refine H3.out.mono ?_
  rintro e w2 ⟨x, evx1, rfl, hduo, hxo⟩
  have HXO := hide hxo
  clear hxo H3 q1' q3 q2 q4 p2
  obtain ⟨gy, cy, hgy⟩ := hduo.Y.enn
  subst hgy
  obtain ⟨gp, cp, hgp⟩ := hduo.P.enn
  subst hgp
  obtain ⟨e1, e2, e3, e4⟩ := entry_cells hduo.P hie s1 A1 L1 C1 HPE.out
  go_upto_region 0 with fail
  go_cut [] (fun wx => ∃ evz, Duo w wx T a p op (.slice (some ⟨gp, 0, none⟩) ps.length cp) ps (.slice (some ⟨gk, 0, none⟩) ks.length ck) ((ks.set i y).set j x) x evx1 xs y evz ((s1, A1, L1, C1) :: ys))
  case first =>
    have cy1 := hduo.Y.cell1
    have cp1 := hduo.P.cell1
    have ownY := hduo.Y.ents
    have HSET := hide (fun w3 gg m cap ys' => Duo.setY (w2 := w3) (gg := gg) (m := m) (cap := cap) (ys' := ys') hduo)
    clear hduo
    go_region_with ((go_at_call 45; refine (f45_any _ gy ys.length cy ys s1 A1 L1 C1 (by exact ownY) rfl sy' (by omega)).mono ?_; rintro e w3 ⟨gg, cap, rfl, hown3, hu3, hgg⟩; obtain ⟨m1, m2, m3⟩ := HSET.out w3 gg (ys.length + 1) cap ((s1, A1, L1, C1) :: ys) hown3 rfl ⟨hu3.os, hu3.tape, hu3.output, hu3.size, hu3.block⟩ hgg))
    all_goals
      clear HSET ownY hown3 hu3 hgg m1 m2 cy1 cp1
      go_wp2_with fail
      go_meet
      exact ⟨_, m3⟩
  case rest =>
    obtain ⟨evz, hduo⟩ := hcut
    obtain ⟨gx, cx, hgx⟩ := hduo.X.enn
    rw [HM.out] at hgx
    subst hgx
    have hml : m < xs.length := by rw [HM.out]; omega
    have hlast : xs[m] = (s2, A2, L2, C2) := by
      have h1 := HX.out
      have h2 := HM.out
      subst h1
      have h3 : xs'.length = m := by simpa using h2
      subst h3
      simp
    obtain ⟨f1, f2, -, -⟩ := entry_cells hduo.X hml s2 A2 L2 C2 hlast
    clear e1 e2 e3 e4
    obtain ⟨e1, e2, e3, e4⟩ := entry_cells hduo.P hie s1 A1 L1 C1 HPE.out
    go_upto_region 1 with fail
    go_cut [] (fun wx => Duo w wx T a p op (.slice (some ⟨gp, 0, none⟩) ps.length cp) (ps.set j (s2, A2, L2, C2)) (.slice (some ⟨gk, 0, none⟩) ks.length ck) ((ks.set i y).set j x) x (.slice (some ⟨gx, 0, none⟩) (m + 1) cx) xs y evz ((s1, A1, L1, C1) :: ys))
    case first =>
      have HSET := hide (hduo.setP hie s2 A2 L2 C2)
      have cp1 := hduo.P.cell1
      have cx1 := hduo.X.cell1
      clear hduo hlast
      go_region
      all_goals
        go_wp2_with fail
        go_meet
        exact HSET.out.same ⟨1, rfl⟩
    case rest =>
      have hduo : Duo w wc T a p op (.slice (some ⟨gp, 0, none⟩) ps.length cp) (ps.set j (s2, A2, L2, C2)) (.slice (some ⟨gk, 0, none⟩) ks.length ck) ((ks.set i y).set j x) x (.slice (some ⟨gx, 0, none⟩) (m + 1) cx) xs y evz ((s1, A1, L1, C1) :: ys) := hcut
      clear hcut e1 e2 e3 e4 f1 f2 hlast
      go_upto_region 2 with fail
      go_cut [] (fun wx => ∃ evv, Duo w wx T a p op (.slice (some ⟨gp, 0, none⟩) ps.length cp) (ps.set j (s2, A2, L2, C2)) (.slice (some ⟨gk, 0, none⟩) ks.length ck) ((ks.set i y).set j x) x evv xs' y evz ((s1, A1, L1, C1) :: ys))
      case first =>
        have cx1 := hduo.X.cell1
        have ownX := hduo.X.ents
        rw [HM.out] at ownX
        have HTK := hide (show xs.take m = xs' ∧ xs'.length = m by
          have h1 := HX.out
          have h2 := HM.out
          subst h1
          have h3 : xs'.length = m := by simpa using h2
          subst h3
          simp)
        have HSET := hide (fun w3 gg m cap ys' => Duo.setX (w2 := w3) (gg := gg) (m := m) (cap := cap) (xs' := ys') hduo)
        clear hduo
        go_region_with ((go_at_call 42; refine (f42_any _ 0 gx (m + 1) cx m xs (by exact ownX) (by omega)).mono ?_; rintro e w3 ⟨rfl, hown3, hu3⟩; rw [HTK.out.1] at hown3; obtain ⟨m1, m2, m3⟩ := HSET.out w3 gx m cx xs' hown3 HTK.out.2 ⟨hu3.os, hu3.tape, hu3.output, hu3.size, hu3.block⟩ (Or.inl rfl)))
        all_goals
          clear HSET ownX hown3 hu3 m1 m2 cx1
          go_wp2_with fail
          go_meet
          exact ⟨_, m3⟩
      case rest =>
        obtain ⟨evv, hduo⟩ := hcut
        have cy2 := hduo.Y.cell2
        have h2 := fun w => run_neq_slice_nil_any (P := Try.prog) w 31 32 none 0 0 0 0 Try.underlying31
        have HF := hide (show Lent w wc T a p op (ps.set j (s2, A2, L2, C2)) (.slice (some ⟨gk, 0, none⟩) ks.length ck) ks j x0 ox y0 oy xs' ((s1, A1, L1, C1) :: ys) from
          ⟨x, evv, y, evz, _, HXO.out, HYO.out, hduo.X, hduo.Y, by have h3 := hduo.P; rw [HI.out, List.set_comm _ _ (by omega)] at h3; exact h3, hduo.mp.upd⟩)
        clear hduo
        go_wp2
        go_ret
        exact ⟨rfl, HF.out⟩

end Go.Proofs.Qxb6600085a
