/-
  fill where it borrows of the right sibling.
-/
import Derived.Test.Qxb6600085aDuo
import Derived.BigRegion
namespace Go.Proofs.Qxb6600085a
open Go.RowKit

attribute [local go_sem ↓] Go.wp_at_zero Go.wp_at_succ

set_option maxRecDepth 100000 in
set_option maxHeartbeats 3200000 in
theorem f35_right0 (w : World) (T : Nat → Prop) (t a p op i x0 ox y0 oy : Nat) (evp : Value) (ps : List Ent) (kvp : Value) (ks : List Nat) (evx : Value) (xs : List Ent) (evy : Value) (ys ys' : List Ent) (s1 s2 : ByteArray) (A1 A2 : Option Addr) (L1 C1 L2 C2 : Nat)
    (hst : ∀ W, Upd (fun k => FP p evp kvp k) w W → Tree W t a ∧ Lies W oy ∧ Lies W ox) (hP : NodeAt w p op evp ps kvp true ks) (hi : i + 1 < ks.length) (hie : i < ps.length) (hx : ks[i] = x0) (hy : ks[i + 1] = y0) (hX : LeafAt w x0 ox evx xs) (hY : LeafAt w y0 oy evy ys)
    (sx : xs.length ≤ 15) (sy : 15 < ys.length) (sy' : ys.length ≤ 31) (hpe : ps[i] = (s1, A1, L1, C1)) (hys : ys = (s2, A2, L2, C2) :: ys')
    (hxp : Sep x0 evx nilV p evp kvp) (hyp : Sep y0 evy nilV p evp kvp) (hxy : Sep x0 evx nilV y0 evy nilV) (hTp : ∀ k, FP p evp kvp k → T k) (hTx : ox = a → ∀ k, FP x0 evx nilV k → T k) (hTy : oy = a → ∀ k, FP y0 evy nilV k → T k)
    (hi0 : i = 0) :
    Calls Try.prog 35 #[pv t, pv p, .int .i64 i] w fun e w' => e = .returned (.int .i64 i) ∧ Lent w w' T a p op (ps.set i (s2, A2, L2, C2)) kvp ks i x0 ox y0 oy (xs ++ [(s1, A1, L1, C1)]) ys' := by
  obtain ⟨i64, hi64, hz64, hz641, hz642⟩ := info_parts info64
  have H1 := hide (mid_of w T t a p op evp ps kvp ks y0 oy evy ys i x0 ox evx xs hst hP (by omega) hx hY hX (by omega) hyp hxp hxy.symm hTp hTx)
  have H2 := hide (fun w1 c evc (h : Mid w w1 T t a p op evp ps kvp ks y0 oy evy ys i c evc xs) => duo_of h (i + 1) hi (by omega) hy (by omega) hTp hTy)
  obtain ⟨gk, ck, g1, c1, hkv, q1, q2⟩ := head_of hP (i := i) (by omega) hx hX
  subst hkv
  obtain ⟨g2, c2, q3, q4⟩ := head_at hP (i := i + 1) (by omega) hy hY
  have hz00 : ¬ ((0 : Int) < (i : Int)) := by omega
  have hz01 : decide ((0 : Int) < (i : Int)) = false := decide_eq_false hz00
  have p2 := hP.cell2
  obtain ⟨gp0, cp0, hgp0⟩ := hP.enn
  have p1 := hP.cell1
  rw [hgp0] at p1
  have hk0 : (0 : Int) ≤ (i : Int) := Int.natCast_nonneg _
  have hk1 : (i : Int) + 1 < (ks.length : Int) := by omega
  have hk2 : (i : Int) < (ps.length : Int) := by omega
  have hk4 : (i : Int) < (ks.length : Int) := by omega
  have z1 : (xs.length : Int) ≤ 15 := by omega
  have z2 : (15 : Int) < (ys.length : Int) := by omega
  have zy : (0 : Int) < (ys.length : Int) := by omega
  have HI1 := hide (show ((i : Int) + 1) = ((i + 1 : Nat) : Int) by omega)
  have HY := hide hys
  have HPE := hide hpe
  have hi1048 : i ≤ 1048577 := by omega
  clear hst hX hY hxp hyp hxy hTp hTx hTy hx hy hP hys hpe hgp0 hi0
  go_enter Try.func35, Try.ntmps35
  go_wp2_with fail
  refine H1.out.mono ?_
  rintro e w1 ⟨x, evx1, rfl, hmid, hxo⟩
  have H3 := hide (H2.out w1 x evx1 hmid)
  have HXO := hide hxo
  clear hmid hxo H1 H2
  go_wp2_with fail
  rw [HI1.out]
  refine H3.out.mono ?_
  rintro e w2 ⟨y, evy1, rfl, hduo, hyo⟩
  have HYO := hide hyo
  clear hyo H3 q1 q3 q2 q4 p2 p1
  obtain ⟨gx, cx, hgx⟩ := hduo.Y.enn
  subst hgx
  obtain ⟨gp, cp, hgp⟩ := hduo.P.enn
  subst hgp
  obtain ⟨e1, e2, e3, e4⟩ := entry_cells hduo.P hie s1 A1 L1 C1 HPE.out
  go_upto_region 5 with fail
  go_cut [] (fun wx => ∃ evz, Duo w wx T a p op (.slice (some ⟨gp, 0, none⟩) ps.length cp) ps (.slice (some ⟨gk, 0, none⟩) ks.length ck) ((ks.set i x).set (i + 1) y) y evy1 ys x evz (xs ++ [(s1, A1, L1, C1)]))
  case first =>
    have cx1 := hduo.Y.cell1
    have fx1 := hduo.Y.cells.frozen 1
    have lx := hduo.Y.cells.lt
    have cp1 := hduo.P.cell1
    have ownX := hduo.Y.ents
    have ha2 := fun o => Lib.cell?_alloc_some o cx1
    have HSET := hide (fun w3 gg m cap ys' => Duo.setY (w2 := w3) (gg := gg) (m := m) (cap := cap) (ys' := ys') hduo)
    clear hduo
    go_region_law ((refine step_append_gen _ (by rfl) _ _ 67 (by rfl) 0 64 i64 _ 2 40 Try.underlying67 hi64 hz64 hz641 hz642 rfl (by omega) gx xs.length cx (flat xs) (by rfl) (by exact (ownX.alloc _).drew) (some ⟨w2.heap.size, 0, none⟩) 1 1 [.string s1, .slice A1 L1 C1] (by rfl) (by simp) (by rfl) (by intro ad ha; cases ha; exact World.news_of_block (cs := #[.string s1, .slice A1 L1 C1]) (t := 64) (fr := (0, 0)) (heap_alloc_new w2 _)) (by simp [Value.oneCell']) (by unfold maxLen; omega) (by omega) (Nat.zero_le _) ?_; intro gg cap w3 hown3 hgrow3 hgat3; obtain ⟨m1, m2, m3⟩ := HSET.out w3 gg (xs.length + 1) cap (xs ++ [(s1, A1, L1, C1)]) (by rw [flat_append]; exact hown3) (by simp) (upd_alloc_row hgrow3) (or_r hgat3 (fun h => by rw [h]; simp))))
    all_goals
      clear HSET ownX hown3 hgrow3 hgat3 m1 m2 cx1 cp1 ha2 fx1 e1 e2 e3 e4
      go_wp2_with fail
      go_meet
      exact ⟨_, m3⟩
  case rest =>
    obtain ⟨evz, hduo⟩ := hcut
    obtain ⟨gy, cy, hgy⟩ := hduo.X.enn
    subst hgy
    have hml : 0 < ys.length := by omega
    have hfst : ys[0] = (s2, A2, L2, C2) := by
      have h1 := HY.out
      subst h1
      rfl
    obtain ⟨f1, f2, -, -⟩ := entry_cells hduo.X hml s2 A2 L2 C2 hfst
    simp only [Nat.zero_mul, Nat.zero_add] at f1 f2
    clear e1 e2 e3 e4
    obtain ⟨e1, e2, e3, e4⟩ := entry_cells hduo.P hie s1 A1 L1 C1 HPE.out
    go_upto_region 6 with fail
    go_cut [] (fun wx => Duo w wx T a p op (.slice (some ⟨gp, 0, none⟩) ps.length cp) (ps.set i (s2, A2, L2, C2)) (.slice (some ⟨gk, 0, none⟩) ks.length ck) ((ks.set i x).set (i + 1) y) y (.slice (some ⟨gy, 0, none⟩) ys.length cy) ys x evz (xs ++ [(s1, A1, L1, C1)]))
    case first =>
      have HSET := hide (hduo.setP hie s2 A2 L2 C2)
      have cp1 := hduo.P.cell1
      have cy1 := hduo.X.cell1
      clear hduo hfst
      go_region
      all_goals
        go_wp2_with fail
        go_meet
        exact HSET.out.same ⟨1, rfl⟩
    case rest =>
      have hduo : Duo w wc T a p op (.slice (some ⟨gp, 0, none⟩) ps.length cp) (ps.set i (s2, A2, L2, C2)) (.slice (some ⟨gk, 0, none⟩) ks.length ck) ((ks.set i x).set (i + 1) y) y (.slice (some ⟨gy, 0, none⟩) ys.length cy) ys x evz (xs ++ [(s1, A1, L1, C1)]) := hcut
      clear hcut e1 e2 e3 e4 f1 f2 hfst
      have cy1 := hduo.X.cell1
      have HD : Hid (del 0 ys = ys' ∧ ys'.length = ys.length - 1) := by
        have h1 := HY.out
        subst h1
        exact ⟨rfl, rfl⟩
      have H47 : Hid (Calls Try.prog 47 #[.slice (some ⟨gy, 0, none⟩) ys.length cy, .int .i64 0] wc fun e w' => e = .returned (.slice (some ⟨gy, 0, none⟩) (ys.length - 1) cy) ∧ w'.ownsRow 0 64 2 (.slice (some ⟨gy, 0, none⟩) (ys.length - 1) cy) (ys.length - 1) (flat (del 0 ys)) ∧ Upd (fun k => k = gy) wc w') :=
        f47_any wc 0 gy ys.length cy 0 ys hduo.X.ents rfl (by omega) (by omega)
      have HSET := hide (fun w3 gg m cap ys' => Duo.setX (w2 := w3) (gg := gg) (m := m) (cap := cap) (xs' := ys') hduo)
      clear hduo
      go_wp2_with (go_at_call 47; refine H47.out.mono ?_)
      rintro e w3 ⟨rfl, hown3, hu3⟩
      rw [HD.out.1] at hown3
      obtain ⟨m1, m2, m3⟩ := HSET.out w3 gy (ys.length - 1) cy ys' hown3 HD.out.2 hu3 (Or.inl rfl)
      have cy2 := m3.Y.cell2
      have h2 := fun w => run_neq_slice_nil_any (P := Try.prog) w 31 32 none 0 0 0 0 Try.underlying31
      have HF := hide (show Lent w (w3.setCell ⟨y, 1, none⟩ (.slice (some ⟨gy, 0, none⟩) (ys.length - 1) cy)) T a p op (ps.set i (s2, A2, L2, C2)) (.slice (some ⟨gk, 0, none⟩) ks.length ck) ks i x0 ox y0 oy (xs ++ [(s1, A1, L1, C1)]) ys' from
        ⟨x, evz, y, _, _, HXO.out, HYO.out, m3.Y, m3.X, m3.P, m3.mp.upd⟩)
      clear m3 HSET hown3 hu3 H47 cy1
      go_wp2
      go_ret
      exact ⟨rfl, HF.out⟩

end Go.Proofs.Qxb6600085a
