/-
  sameBytes on a slice and itself; holdsExactly.
-/
import Derived.Test.Qxb6600085aRead
namespace Go.Proofs.Qxb6600085a
open Go.RowKit

theorem At.same {w W : World} {b : Nat} {cs : List Value} {t : TypeId} (h : At w b cs t) (e : W.heap = w.heap) : At W b cs t := by
  unfold At at h ⊢; rw [e]; exact h
theorem NodeAt.same {w W : World} {b o : Nat} {ev : Value} {es : List Ent} {kv : Value} {inner : Bool} {ks : List Nat} (h : NodeAt w b o ev es kv inner ks) (e : W.heap = w.heap) : NodeAt W b o ev es kv inner ks :=
  ⟨h.cells.same e, by have := h.ents; unfold World.ownsRow at this ⊢; rw [e]; exact this, by have := h.kids; unfold World.ownsRow at this ⊢; rw [e]; exact this, h.enn, h.knn, h.d1, h.d2, h.d3⟩
theorem IsB.same {w W : World} {lo : Nat} {v : Value} (h : IsB lo w v) (e : W.heap = w.heap) : IsB lo W v := by
  rcases h with h | ⟨g, zs, h1, h2, h3, h4⟩
  · exact .inl h
  · exact .inr ⟨g, zs, h1, h2, h3.same e, h4⟩

/-- w' is w but for draws. -/
def Drew (w w' : World) : Prop := ∃ nq, w' = w.drewN nq
theorem Drew.refl (w : World) : Drew w w := ⟨0, rfl⟩
theorem Drew.more {w w' : World} (h : Drew w w') (n : Nat) : Drew w (w'.drewN n) := by
  obtain ⟨m, rfl⟩ := h
  exact ⟨m + n, by rw [World.drewN_drewN]⟩
theorem Drew.drew {w w' : World} (h : Drew w w') : Drew w w'.drew := h.more 1
theorem Drew.trans {a b c : World} (h : Drew a b) (k : Drew b c) : Drew a c := by
  obtain ⟨n, rfl⟩ := k
  exact h.more n
theorem Drew.heap {w w' : World} (h : Drew w w') : w'.heap = w.heap := by
  obtain ⟨m, rfl⟩ := h; rfl
theorem Drew.cell {w w' : World} (h : Drew w w') (a : Addr) : w'.cell? a = w.cell? a := by
  obtain ⟨m, rfl⟩ := h; rfl
theorem Drew.below {w w' : World} (h : Drew w w') (B : Nat) : Below B w w' := by
  obtain ⟨m, rfl⟩ := h; exact ⟨rfl, rfl, rfl, Nat.le_refl _, fun _ _ => rfl⟩

set_option maxHeartbeats 400000 in
theorem f37_nil (w : World) : Calls Try.prog 37 #[.slice none 0 0, .slice none 0 0] w fun e w' => e = .returned (.bool true) ∧ ∃ nq, w' = w.drewN nq := by
  have h1 := fun w => Lib.run_eql_slice_nil (P := Try.prog) w 35 5 none 0 0 0 0 Try.underlying35
  go_enter Try.func37, Try.ntmps37
  go_wp2
  go_loop [5] (fun i => i = .int .i64 0) (fun _ => 0)
  case atStart => rfl
  case round =>
    subst hrel
    go_wp2
    go_ret
    exact ⟨rfl, 0, rfl⟩

set_option maxHeartbeats 400000 in
theorem f37_some (w : World) (g n : Nat) (hn : n ≤ 1048576) (Z : Nat → Int) (hc : ∀ i, i < n → w.cell? ⟨g, i, none⟩ = some (.int .u8 (Z i))) :
    Calls Try.prog 37 #[.slice (some ⟨g, 0, none⟩) n n, .slice (some ⟨g, 0, none⟩) n n] w fun e w' => e = .returned (.bool true) ∧ ∃ nq, w' = w.drewN nq := by
  have h1 := fun w => Lib.run_eql_slice_nil (P := Try.prog) w 35 5 (some ⟨g, 0, none⟩) n n 0 0 Try.underlying35
  go_enter Try.func37, Try.ntmps37
  go_wp2
  go_loopw [5] (fun i wr => ∃ k : Nat, k ≤ n ∧ i = .int .i64 k ∧ ∃ nq, wr = w.drewN nq) (fun i _ => n - (intOf i).toNat)
  case atStart => exact ⟨0, Nat.zero_le _, rfl, 0, rfl⟩
  case round =>
    obtain ⟨k, hk, rfl, nq, rfl⟩ := hrel
    by_cases hlt : k < n
    · have hck := hc k hlt
      have hk0 : (0 : Int) ≤ (k : Int) := Int.natCast_nonneg _
      have hk1 : (k : Int) < (n : Int) := by omega
      clear hc
      go_wp2
      go_quiet (fail)
      go_wp2
      go_roundw
      case rel => exact ⟨k + 1, by omega, by go_num, _, rfl⟩
      case measure => simp [intOf]; omega
    · clear hc
      go_wp2
      go_ret
      exact ⟨rfl, _, rfl⟩

/-- sameBytes of a slice and itself. -/
theorem f37_any (w : World) {lo : Nat} {v : Value} (h : IsB lo w v) : Calls Try.prog 37 #[v, v] w fun e w' => e = .returned (.bool true) ∧ ∃ nq, w' = w.drewN nq := by
  rcases h with rfl | ⟨g, zs, rfl, -, h3, h4⟩
  · exact f37_nil w
  · refine f37_some w g zs.length h4 (fun i => zs.getD i 0) (fun i hi => h3.cell ?_)
    simp [List.getD, hi]

set_option maxRecDepth 100000 in
set_option maxHeartbeats 1600000 in
theorem f19_any (w : World) (lo b o : Nat) (ev kv : Value) (ka va kao : Option Addr) (kc vn vc kcap : Nat) (es : List Ent) (ks : List Nat) (inner : Bool) (hes : es.length ≤ 1048576) (hks : ks.length ≤ 1048577) (hvn : es.length ≤ vn)
    (hN : NodeAt w b o ev es kv inner ks)
    (hk : ∀ i (h : i < es.length), ∃ b, ka = some ⟨b, 0, none⟩ ∧ w.cell? ⟨b, i, none⟩ = some (.string es[i].1))
    (hv : ∀ i (h : i < es.length), ∃ b, va = some ⟨b, 0, none⟩ ∧ w.cell? ⟨b, i, none⟩ = some (sv es[i].2))
    (hB : ∀ i (h : i < es.length), IsB lo w (sv es[i].2))
    (hkn : kao.isNone = !inner) (hkk : ∀ i (h : i < ks.length), ∃ b, kao = some ⟨b, 0, none⟩ ∧ w.cell? ⟨b, i, none⟩ = some (pv ks[i])) :
    Calls Try.prog 19 #[pv b, .slice ka es.length kc, .slice va vn vc, .slice kao ks.length kcap] w fun e w' => e = .returned (.bool true) ∧ ∃ nq, w' = w.drewN nq := by
  have h1 := fun w => Lib.run_eql_slice_nil (P := Try.prog) w 31 32 kao ks.length kcap 0 0 Try.underlying31
  have h2 := fun w => run_neq_slice_nil_any (P := Try.prog) w 31 32 kao ks.length kcap 0 0 Try.underlying31
  rw [hkn] at h1 h2
  go_enter Try.func19, Try.ntmps19
  go_wp2_with (go_at_call 17; refine (f17_any hN).mono ?_; rintro e w' ⟨rfl, hw⟩; rw [hw]; clear hw w')
  go_loopw [9] (fun i wr => ∃ k : Nat, k ≤ es.length ∧ i = .int .i64 k ∧ Drew w wr) (fun i _ => es.length - (intOf i).toNat)
  case atStart => exact ⟨0, Nat.zero_le _, rfl, Drew.refl _⟩
  case round =>
    obtain ⟨k, hk', rfl, hq⟩ := hrel
    have hNr := hN.same hq.heap
    by_cases hlt : k < es.length
    · obtain ⟨bk, hka, hck⟩ := hk k hlt
      obtain ⟨bv, hva, hcv⟩ := hv k hlt
      have hBk := (hB k hlt).same hq.heap
      subst hka
      subst hva
      rw [← hq.cell] at hck hcv
      have hk0 : (0 : Int) ≤ (k : Int) := Int.natCast_nonneg _
      have hk1 : (k : Int) < (es.length : Int) := by omega
      have hk2 : (k : Int) < (vn : Int) := by omega
      clear hk hv hB hkk h1 h2
      go_wp2_with fail
      go_quiet (first | (go_at_call 36; refine Calls.quiet_of_same (f36_any (hNr.same ?_) k hlt); rfl) | (go_at_call 38; refine Calls.quiet_of_same (f38_any (hNr.same ?_) k hlt); rfl) | (go_at_call 37; refine Calls.quiet_of (f37_any _ (hBk.same ?_)); rfl))
      go_wp2_with fail
      go_roundw
      case rel => exact ⟨k + 1, by omega, by go_num, hq.more _⟩
      case measure => simp [intOf]; omega
    · clear hk hv hB
      cases inner with
      | false =>
        go_wp2_with (go_at_call 30; refine (f30_any hNr).mono ?_; rintro e w' ⟨rfl, hw⟩; rw [hw]; clear hw w')
        go_ret
        exact ⟨rfl, hq⟩
      | true =>
        go_wp2_with (first | (go_at_call 30; refine (f30_any hNr).mono ?_; rintro e w' ⟨rfl, hw⟩; rw [hw]; clear hw w') | (go_at_call 18; refine (f18_any hNr).mono ?_; rintro e w' ⟨rfl, hw⟩; rw [hw]; clear hw w'))
        have HQ := hide hq
        clear hNr hq h1 h2
        go_loopw [10] (fun i wr => ∃ k : Nat, k ≤ ks.length ∧ i = .int .i64 k ∧ Drew w wr) (fun i _ => ks.length - (intOf i).toNat)
        case atStart => exact ⟨0, Nat.zero_le _, rfl, HQ.out⟩
        case round =>
          obtain ⟨j, hj', rfl, hq⟩ := hrel
          have hNr := hN.same hq.heap
          clear HQ
          by_cases hlt2 : j < ks.length
          · obtain ⟨bk, hka, hck⟩ := hkk j hlt2
            subst hka
            rw [← hq.cell] at hck
            have hj0 : (0 : Int) ≤ (j : Int) := Int.natCast_nonneg _
            have hj1 : (j : Int) < (ks.length : Int) := by omega
            have hne := fun W => neq_node_same (w := W) ks[j]
            clear hkk hN
            go_wp2_with fail
            go_quiet ((go_at_call 20; refine Calls.quiet_of_same (f20_any (hNr.same ?_) j hlt2); rfl))
            go_wp2_with fail
            go_roundw
            case rel => exact ⟨j + 1, by omega, by go_num, hq.more _⟩
            case measure => simp [intOf]; omega
          · go_wp2_with fail
            go_ret
            exact ⟨rfl, hq⟩

end Go.Proofs.Qxb6600085a
