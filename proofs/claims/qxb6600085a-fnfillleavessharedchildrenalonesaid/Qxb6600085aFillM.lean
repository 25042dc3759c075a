/-
  fill where it merges.
-/
import Derived.Test.Qxb6600085aMerge
namespace Go.Proofs.Qxb6600085a
open Go.RowKit

/-- What is at a child's place: its entries' header. -/
theorem head_of {w : World} {p op i c oc : Nat} {evp : Value} {esp : List Ent} {kvp : Value} {ksp : List Nat} {evc : Value} {esc : List Ent} {kvc : Value} {ic : Bool} {ksc : List Nat} (hP : NodeAt w p op evp esp kvp true ksp) (hi : i < ksp.length) (hc : ksp[i] = c)
    (hC : NodeAt w c oc evc esc kvc ic ksc) : ∃ gk ck g cc, kvp = .slice (some ⟨gk, 0, none⟩) ksp.length ck ∧ w.cell? ⟨gk, i, none⟩ = some (pv c) ∧ w.cell? ⟨c, 1, none⟩ = some (.slice (some ⟨g, 0, none⟩) esc.length cc) := by
  obtain ⟨gk, ck, h1, h2⟩ := hP.kcells i hi
  obtain ⟨g, cc, h3⟩ := hC.enn
  rw [hc] at h2
  exact ⟨gk, ck, g, cc, h1, h2, by rw [← h3]; exact hC.cell1⟩

/-- .. and the right sibling's, over the same children's row. -/
theorem head_at {w : World} {p op i c oc gk ck : Nat} {evp : Value} {esp : List Ent} {ksp : List Nat} {evc : Value} {esc : List Ent} {kvc : Value} {ic : Bool} {ksc : List Nat} (hP : NodeAt w p op evp esp (.slice (some ⟨gk, 0, none⟩) ksp.length ck) true ksp) (hi : i < ksp.length) (hc : ksp[i] = c)
    (hC : NodeAt w c oc evc esc kvc ic ksc) : ∃ g cc, w.cell? ⟨gk, i, none⟩ = some (pv c) ∧ w.cell? ⟨c, 1, none⟩ = some (.slice (some ⟨g, 0, none⟩) esc.length cc) := by
  obtain ⟨gk', ck', g, cc, h1, h2, h3⟩ := head_of hP hi hc hC
  cases h1
  exact ⟨g, cc, h2, h3⟩

/-- What a merge leaves. -/
def Merged (w w' : World) (T : Nat → Prop) (a p op i cl ol : Nat) (esp : List Ent) (ksp : List Nat) (esl : List Ent) (ksl : List Nat) (esr : List Ent) (ksr : List Nat) (inner : Bool) : Prop :=
  ∃ (hie : i < esp.length) (c : Nat) (ev kv evp' kvp' : Value), (ol = a → c = cl) ∧ NodeAt w' c a ev (esl ++ esp[i] :: esr) kv inner (ksl ++ ksr) ∧ NodeAt w' p op evp' (del i esp) kvp' true (del (i + 1) (ksp.set i c)) ∧ Upd T w w'

set_option maxRecDepth 100000 in
set_option maxHeartbeats 1600000 in
theorem f35_merge (w : World) (T : Nat → Prop) (t a p op i cl ol cr orr : Nat) (evp : Value) (esp : List Ent) (kvp : Value) (ksp : List Nat) (evl : Value) (esl : List Ent) (kvl : Value) (ksl : List Nat) (evr : Value) (esr : List Ent) (kvr : Value) (ksr : List Nat) (inner : Bool)
    (hT : Tree w t a) (hP : NodeAt w p op evp esp kvp true ksp) (hi : i + 1 < ksp.length) (hie : i < esp.length) (hl : ksp[i] = cl) (hr : ksp[i + 1] = cr) (hL : NodeAt w cl ol evl esl kvl inner ksl) (hR : NodeAt w cr orr evr esr kvr inner ksr) (lo : Lies w ol)
    (sz1 : esl.length ≤ 15) (sz1' : esr.length ≤ 15) (sz2 : ksl.length + ksr.length ≤ 1048577) (sz3 : ksp.length ≤ 1048577) (sz4 : esp.length ≤ 1048577)
    (hlp : Sep cl evl kvl p evp kvp) (hlr : Sep cl evl kvl cr evr kvr) (hpr : Sep p evp kvp cr evr kvr) (hTp : ∀ k, FP p evp kvp k → T k) (hTl : ol = a → ∀ k, FP cl evl kvl k → T k)
    (hprev : 0 < i → ∃ o ev es kv inn ks, NodeAt w (ksp[i - 1]'(by omega)) o ev es kv inn ks ∧ es.length ≤ 15) :
    Calls Try.prog 35 #[pv t, pv p, .int .i64 i] w fun e w' => e = .returned (.int .i64 i) ∧ Merged w w' T a p op i cl ol esp ksp esl ksl esr ksr inner := by
  have h49 := f49_any w T t a p op i cl ol cr orr evp esp kvp ksp evl esl kvl ksl evr esr kvr ksr inner hT hP hi hie hl hr hL hR lo (by omega) sz2 sz3 sz4 hlp hlr hpr hTp hTl
  have H49 := hide h49
  obtain ⟨gk, ck, g1, c1, hkv, q1, q2⟩ := head_of hP (i := i) (by omega) hl hL
  subst hkv
  obtain ⟨g2, c2, q3, q4⟩ := head_at hP (i := i + 1) (by omega) hr hR
  have p2 := hP.cell2
  obtain ⟨gp, cp, hgp⟩ := hP.enn
  subst hgp
  have p1 := hP.cell1
  have hk0 : (0 : Int) ≤ (i : Int) := Int.natCast_nonneg _
  have hk1 : (i : Int) + 1 < (ksp.length : Int) := by omega
  have hk2 : (i : Int) < (esp.length : Int) := by omega
  have z1 : (esl.length : Int) ≤ 15 := by omega
  have z2 : (esr.length : Int) ≤ 15 := by omega
  clear h49 hT hL hR lo hlp hlr hpr hTp hTl hl hr
  by_cases h0 : 0 < i
  · obtain ⟨o, ev, es, kv, inn, ks, hN, hl15⟩ := hprev h0
    obtain ⟨g3, c3, q5, q6⟩ := head_at hP (i := i - 1) (by omega) rfl hN
    have z3 : (es.length : Int) ≤ 15 := by omega
    have h0' : (0 : Int) < (i : Int) := by omega
    clear hP hN hprev
    go_enter Try.func35, Try.ntmps35
    go_wp2_with (go_at_call 49; refine H49.out.mono ?_)
    rintro e w' ⟨rfl, c, ev', kv', evp', kvp', h1, h2, h3, h4⟩
    have HF := hide (show Merged w w' T a p op i cl ol esp ksp esl ksl esr ksr inner from ⟨hie, c, ev', kv', evp', kvp', h1, h2, h3, h4⟩)
    clear h1 h2 h3 h4 H49
    go_wp2
    go_ret
    exact ⟨rfl, HF.out⟩
  · have h00 : i = 0 := by omega
    subst h00
    clear hP hprev
    go_enter Try.func35, Try.ntmps35
    go_wp2_with (go_at_call 49; refine H49.out.mono ?_)
    rintro e w' ⟨rfl, c, ev', kv', evp', kvp', h1, h2, h3, h4⟩
    have HF := hide (show Merged w w' T a p op 0 cl ol esp ksp esl ksl esr ksr inner from ⟨hie, c, ev', kv', evp', kvp', h1, h2, h3, h4⟩)
    clear h1 h2 h3 h4 H49
    go_wp2
    go_ret
    exact ⟨rfl, HF.out⟩

set_option maxRecDepth 100000 in
set_option maxHeartbeats 1600000 in
theorem f35_last (w : World) (T : Nat → Prop) (t a p op j cl ol cr orr i : Nat) (evp : Value) (esp : List Ent) (kvp : Value) (ksp : List Nat) (evl : Value) (esl : List Ent) (kvl : Value) (ksl : List Nat) (evr : Value) (esr : List Ent) (kvr : Value) (ksr : List Nat) (inner : Bool)
    (hij : i = j + 1) (hT : Tree w t a) (hP : NodeAt w p op evp esp kvp true ksp) (hi : j + 1 < ksp.length) (hie : j + 1 = esp.length) (hl : ksp[j] = cl) (hr : ksp[j + 1] = cr) (hL : NodeAt w cl ol evl esl kvl inner ksl) (hR : NodeAt w cr orr evr esr kvr inner ksr) (lo : Lies w ol)
    (sz1 : esl.length ≤ 15) (sz1' : esr.length ≤ 15) (sz2 : ksl.length + ksr.length ≤ 1048577) (sz3 : ksp.length ≤ 1048577) (sz4 : esp.length ≤ 1048577)
    (hlp : Sep cl evl kvl p evp kvp) (hlr : Sep cl evl kvl cr evr kvr) (hpr : Sep p evp kvp cr evr kvr) (hTp : ∀ k, FP p evp kvp k → T k) (hTl : ol = a → ∀ k, FP cl evl kvl k → T k) :
    Calls Try.prog 35 #[pv t, pv p, .int .i64 i] w fun e w' => e = .returned (.int .i64 j) ∧ Merged w w' T a p op j cl ol esp ksp esl ksl esr ksr inner := by
  have hie' : j < esp.length := by omega
  have h49 := f49_any w T t a p op j cl ol cr orr evp esp kvp ksp evl esl kvl ksl evr esr kvr ksr inner hT hP hi hie' hl hr hL hR lo (by omega) sz2 sz3 sz4 hlp hlr hpr hTp hTl
  have H49 := hide h49
  obtain ⟨gk, ck, g1, c1, hkv, q1, q2⟩ := head_of hP (i := j + 1) (by omega) hr hR
  subst hkv
  obtain ⟨g2, c2, q3, q4⟩ := head_at hP (i := j) (by omega) hl hL
  have p2 := hP.cell2
  obtain ⟨gp, cp, hgp⟩ := hP.enn
  subst hgp
  have p1 := hP.cell1
  have hk0 : (0 : Int) < (i : Int) := by omega
  have hk1 : (i : Int) < (ksp.length : Int) := by omega
  have hk2 : (esp.length : Int) ≤ (i : Int) := by omega
  have z1 : (esl.length : Int) ≤ 15 := by omega
  have z2 : (esr.length : Int) ≤ 15 := by omega
  have q1' : w.cell? ⟨gk, i, none⟩ = some (pv cr) := by rw [hij]; exact q1
  have q3' : w.cell? ⟨gk, i - 1, none⟩ = some (pv cl) := by rw [hij]; exact q3
  have HE := hide (show ((i : Int) - 1) = (j : Int) by omega)
  have hk3 : (1 : Int) ≤ (i : Int) := by omega
  clear h49 hT hL hR lo hlp hlr hpr hTp hTl hl hr hP hij q1 q3 hie
  go_enter Try.func35, Try.ntmps35
  go_wp2_with fail
  rw [HE.out]
  refine H49.out.mono ?_
  rintro e w' ⟨rfl, c, ev', kv', evp', kvp', h1, h2, h3, h4⟩
  have HF := hide (show Merged w w' T a p op j cl ol esp ksp esl ksl esr ksr inner from ⟨hie', c, ev', kv', evp', kvp', h1, h2, h3, h4⟩)
  clear h1 h2 h3 h4 H49
  go_wp2
  go_ret
  exact ⟨rfl, HF.out⟩

/-- ZZFill is fill. -/
theorem f16_of (w : World) (t p : Nat) (i r : Int) (q : World → Prop) (h : Calls Try.prog 35 #[pv t, pv p, .int .i64 i] w fun e w' => e = .returned (.int .i64 r) ∧ q w') : Calls Try.prog 16 #[pv t, pv p, .int .i64 i] w fun e w' => e = .returned (.int .i64 r) ∧ q w' := by
  have H := hide h
  clear h
  go_enter Try.func16, Try.ntmps16
  go_wp2_with (go_at_call 35; refine H.out.mono ?_)
  rintro e w' ⟨rfl, hq⟩
  have HQ := hide hq
  clear hq H
  go_wp2
  go_ret
  exact ⟨rfl, HQ.out⟩

end Go.Proofs.Qxb6600085a
