/-
  fullNode: the walk.
-/
import Derived.Test.Qxb6600085aFull
namespace Go.Proofs.Qxb6600085a
open Go.RowKit

/-- What fullNode leaves. -/
def Full (w w' : World) (e : Ending) (o : Nat) (inner : Bool) : Prop :=
  ∃ wc ka va kao kcap b ev kv es ks, e = .returned (.tuple #[.slice ka 31 31, .slice va 31 31, .slice kao (List.length ks) kcap, pv b]) ∧ es.length = 31 ∧ (inner = true → ks.length = 32) ∧ (inner = false → ks = []) ∧ Cmp wc ka va kao es inner ks ∧ Below w.heap.size w wc ∧
    NodeAt w' b o ev es kv inner ks ∧ From wc.heap.size b ev kv ∧ Below wc.heap.size wc w'

set_option maxRecDepth 100000 in
set_option maxHeartbeats 1600000 in
theorem f13_any (w : World) (o : Nat) (va : Option Addr) (n vc : Nat) (vs : List (Option Addr × Nat × Nat)) (inner : Bool) (hcl : Cloned w va n vs) (hn : n ≤ 65536) :
    Calls Try.prog 13 #[pv o, .slice va n vc, .bool inner] w fun e w' => Full w w' e o inner := by
  obtain ⟨i9, h9, h90, h91, h92⟩ := info_parts info9
  obtain ⟨i35, h35, h350, h351, h352⟩ := info_parts info35
  obtain ⟨i32, h32, h320, h321, h322⟩ := info_parts info32
  go_enter Try.func13, Try.ntmps13
  go_wp2_with (at_make; refine wpList_make_at _ rfl _ _ 30 rfl 9 i9 _ Try.underlying30 h9 h90 h91 rfl .i64 .i64 31 31 31 rfl rfl rfl rfl ?_ ?_ ?_)
  · rw [h92]; omega
  · unfold maxLen; omega
  intro w1 hat1 hb1
  have hs1 := hb1.size
  go_wp2_with (at_make; refine wpList_make_at _ rfl _ _ 22 rfl 35 i35 _ Try.underlying22 h35 h350 h351 rfl .i64 .i64 31 31 31 rfl rfl rfl rfl ?_ ?_ ?_)
  · rw [h352]; omega
  · unfold maxLen; omega
  intro w2 hat2 hb2
  have hlt1 := hat1.lt
  have hI0 : FullInv w w2 w.heap.size w1.heap.size 0 := ⟨[], [], rfl, rfl, by simpa using hat1.below hb2 hlt1, by simpa using hat2, by simp, hb1.trans (hb2.mono hs1), Nat.le_refl _, hs1, by omega⟩
  generalize w1.heap.size = g2 at *
  clear hat1 hat2 hb1 hb2 hs1 hlt1
  go_wp2
  go_loopw [12] (fun i wr => ∃ k : Nat, k ≤ 31 ∧ i = .int .i64 k ∧ FullInv w wr w.heap.size g2 k) (fun i _ => 31 - (intOf i).toNat)
  case atStart => exact ⟨0, Nat.zero_le _, rfl, hI0⟩
  case round =>
    clear hI0
    obtain ⟨k, hk, rfl, hinv⟩ := hrel
    by_cases hlt : k < 31
    · go_wp2_with (go_at_call 22; refine (f22_any _ _).mono ?_)
      rintro e w6 ⟨⟨s, rfl⟩, hb6⟩
      obtain ⟨hc6, hf6⟩ := full_key hinv hlt hb6
      obtain ⟨hc7, hf7, hb7⟩ := full_val s hinv hlt hb6
      have hcl7 := hcl.below hb7
      go_wp2_with (go_at_call 33; refine (f33_any hcl7 vc k (by omega) (by omega)).mono ?_)
      rintro e w' ⟨⟨x, rfl, hx⟩, hw⟩
      rw [hw]; clear hw w'
      have hst := full_step s x hinv hlt hb6 (hcl.cyc hx)
      clear hinv hcl7 hb7 hb6 hx
      obtain ⟨A, L, C⟩ := x
      go_wp2
      go_roundw
      case rel => exact ⟨k + 1, by omega, by go_num, hst⟩
      case measure => simp [intOf]; omega
    · have hk31 : k = 31 := by omega
      subst hk31
      obtain ⟨es, hes, hks, hvs, hBs⟩ := full_cmp hinv
      have hb := hinv.choose_spec.choose_spec.2.2.2.2.2.1
      clear hinv hcl
      cases inner with
      | false =>
        have hC : Cmp wr (some ⟨w.heap.size, 0, none⟩) (some ⟨g2, 0, none⟩) none es false [] := ⟨hks, hvs, hBs, rfl, fun i hi => by simp at hi⟩
        have hf15 := f15_any wr o (some ⟨w.heap.size, 0, none⟩) (some ⟨g2, 0, none⟩) none 31 31 31 0 es [] false (by omega) (by omega) hks hvs (Or.inl ⟨rfl, rfl, rfl⟩)
        rw [hes] at hf15
        go_wp2_with (go_at_call 15; refine hf15.mono ?_)
        rintro e w8 ⟨b, ev, kv, rfl, hN8, hF8, hb8⟩
        clear hf15 hks hvs hBs
        go_wp2
        refine bodyPost_ret (v := .tuple #[.slice (some ⟨w.heap.size, 0, none⟩) 31 31, .slice (some ⟨g2, 0, none⟩) 31 31, .slice none 0 0, pv b]) (by simp [results, Try.results13, go_sem]) rfl ?_
        exact ⟨wr, _, _, _, _, b, ev, kv, es, [], rfl, hes, (fun h => (by cases h)), fun _ => rfl, hC, hb, hN8, hF8, hb8⟩
      | true =>
        generalize wr = w7 at *
        clear wr
        go_wp2_with (at_make; refine wpList_make_at _ rfl _ _ 31 rfl 32 i32 _ Try.underlying31 h32 h320 h321 rfl .i64 .i64 32 32 32 rfl rfl rfl rfl ?_ ?_ ?_)
        · rw [h322]; omega
        · unfold maxLen; omega
        intro w6 hat6 hb6
        go_wp2
        go_loopw [14] (fun i wy => ∃ k : Nat, k ≤ 32 ∧ i = .int .i64 k ∧ KidsInv w7 wy 32 k) (fun i _ => 32 - (intOf i).toNat)
        case atStart => exact ⟨0, Nat.zero_le _, rfl, [], rfl, by simpa using hat6, hb6⟩
        case round =>
          obtain ⟨k, hk2, rfl, hinv⟩ := hrel
          clear hat6 hb6
          by_cases hlt2 : k < 32
          · clear hks hvs hBs
            go_wp2_with (go_at_call 15; refine (f15_any _ o none none none 0 0 0 0 [] [] false (by simp) (by simp) (fun i hi => by simp at hi) (fun i hi => by simp at hi) (Or.inl ⟨rfl, rfl, rfl⟩)).mono ?_)
            rintro e w8 ⟨b, ev, kv, rfl, -, -, hb8⟩
            obtain ⟨hc8, hf8⟩ := kids_cell hinv hlt2 hb8
            have hst := kids_step b hinv hlt2 hb8
            clear hinv hb8
            go_wp2
            go_roundw
            case rel => exact ⟨k + 1, by omega, by go_num, hst⟩
            case measure => simp [intOf]; omega
          · have hk32 : k = 32 := by omega
            subst hk32
            have hb7 := hinv.choose_spec.2.2
            obtain ⟨ks, hkl, hatk, -⟩ := hinv
            have hC : Cmp wr (some ⟨w.heap.size, 0, none⟩) (some ⟨g2, 0, none⟩) (some ⟨w7.heap.size, 0, none⟩) es true ks := by
              refine ⟨strs_below hks hb7, vals_below hvs hb7, isB_below hBs hb7, rfl, fun i hi => ⟨_, rfl, hatk.cell ?_⟩⟩
              rw [List.getElem?_append_left (by simpa using hi)]
              simp
            have hkc : ∀ j u, (ks.map pv)[j]? = some u → wr.cell? ((⟨w7.heap.size, 0, none⟩ : Addr).add j) = some u := by
              have := hatk
              rw [Nat.sub_self, List.replicate_zero, List.append_nil] at this
              exact World.news_of_block (cs := (ks.map pv).toArray) this
            have hf15 := f15_any wr o (some ⟨w.heap.size, 0, none⟩) (some ⟨g2, 0, none⟩) (some ⟨w7.heap.size, 0, none⟩) 31 31 31 32 es ks true (by omega) (by omega) hC.k hC.v (Or.inr ⟨rfl, by omega, by omega, _, rfl, hkc⟩)
            rw [hes, hkl] at hf15
            have hbz := hb.trans (hb7.mono hb.size)
            go_wp2_with (go_at_call 15; refine hf15.mono ?_)
            rintro e w8 ⟨b, ev, kv, rfl, hN8, hF8, hb8⟩
            clear hf15 hks hvs hBs hkc hatk
            go_wp2
            refine bodyPost_ret (v := .tuple #[.slice (some ⟨w.heap.size, 0, none⟩) 31 31, .slice (some ⟨g2, 0, none⟩) 31 31, .slice (some ⟨w7.heap.size, 0, none⟩) 32 32, pv b]) (by simp [results, Try.results13, go_sem]) rfl ?_
            exact ⟨wr, _, _, _, 32, b, ev, kv, es, ks, by rw [hkl], hes, fun _ => hkl, (fun h => (by cases h)), hC, hbz, hN8, hF8, hb8⟩

end Go.Proofs.Qxb6600085a
