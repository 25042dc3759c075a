/-
  FnUnitReadsBackAWrittenEscape: the walk.
-/
import Derived.Test.Qxb6600387aUnitW
namespace Go.Proofs.Qxb6600387a
open Go.RowKit

set_option maxRecDepth 100000 in
set_option maxHeartbeats 400000 in
theorem f21_any (w : World) (g n cap at_ : Nat) (H D : Nat → Int) (hn : at_ + 6 ≤ n) (hnc : n ≤ cap) (hcc : cap ≤ maxLen)
    (c0 : w.cell? ⟨g, at_, none⟩ = some (.int .u8 92)) (c1 : w.cell? ⟨g, at_ + 1, none⟩ = some (.int .u8 117)) (cH : ∀ k, k < 4 → w.cell? ⟨g, at_ + 2 + k, none⟩ = some (.int .u8 (H k))) (hH : ∀ k, k < 4 → HexOf (H k) (D k)) :
    Calls Try.prog 21 #[.slice (some ⟨g, 0, none⟩) n cap, .int .i64 at_] w fun e w' => e = .returned (.tuple #[.int .i32 (uval D 4), .bool true]) ∧ Below w.heap.size w w' := by
  go_enter Try.func21, Try.ntmps21
  go_wp2_with fail
  refine (f26_any _ w.heap.size g n cap at_ H D ?_ hn hnc hcc (Lib.cell?_alloc_some _ c0) (Lib.cell?_alloc_some _ c1) (fun k hk => Lib.cell?_alloc_some _ (cH k hk)) hH).mono ?_
  · exact (At.new w _ _).cell (i := 0) rfl
  rintro e w' ⟨rfl, hw⟩
  rw [hw]; clear hw w'
  clear c0 c1 cH hH
  go_wp2
  go_ret2
  exact ⟨rfl, (Below.refl _ _).alloc (Nat.le_refl _) _⟩

/-- The k-th digit of v; the k-th bit of m. -/
def dig (v : Int) (k : Nat) : Int := v / 16 ^ (3 - k) % 16
def upb (m : Int) (k : Nat) : Bool := m / 2 ^ k % 2 == 1
/-- The four digits' bytes. -/
def hx (v m : Int) : List Int := [hexb (dig v 0) (upb m 0), hexb (dig v 1) (upb m 1), hexb (dig v 2) (upb m 2), hexb (dig v 3) (upb m 3)]

theorem dig_bd (v : Int) (k : Nat) : 0 ≤ dig v k ∧ dig v k ≤ 15 := by unfold dig; omega
theorem wraps_i64 (n : Int) (h₀ : 0 ≤ n) (h₁ : n < 2 ^ 63) : IntKind.i64.wrap n = n := by rw [IntKind.wrap_i64]; omega
theorem i64_and15 {x : Int} (h₀ : 0 ≤ x) (h₁ : x < 9223372036854775808) : bits .and .i64 x 15 = x % 16 := bits_mask .i64 63 (by decide) wraps_i64 4 (by decide) x h₀ h₁
theorem u8_and1 {x : Int} (h₀ : 0 ≤ x) (h₁ : x < 256) : bits .and .u8 x 1 = x % 2 := bits_mask .u8 8 (by decide) wraps_u8 1 (by decide) x h₀ h₁

/-- The line so far: owned at g, of these bytes. -/
def Line (w wr : World) (g cap n : Nat) (zs : List Int) : Prop := zs.length = n ∧ wr.ownsRow w.heap.size 5 1 (.slice (some ⟨g, 0, none⟩) n cap) n (zs.map (Value.int .u8)) ∧ Below w.heap.size w wr

theorem Line.lt {w wr : World} {g cap n : Nat} {zs : List Int} (h : Line w wr g cap n zs) : w.heap.size ≤ g ∧ g < wr.heap.size := h.2.1.lt g rfl

theorem Line.alloc {w wr : World} {g cap n : Nat} {zs : List Int} (h : Line w wr g cap n zs) (o : Obj) : Line w (wr.alloc o) g cap n zs := ⟨h.1, h.2.1.alloc o, h.2.2.alloc h.2.2.size o⟩

/-- Behind an append. -/
theorem Line.more {w wr w1 : World} {g cap n g1 cap1 n1 : Nat} {zs ys : List Int} (h : Line w wr g cap n zs) (hn : ys.length = n1) (hown : w1.ownsRow w.heap.size 5 1 (.slice (some ⟨g1, 0, none⟩) (n + n1) cap1) (n + n1) (zs.map (Value.int .u8) ++ ys.map (Value.int .u8))) (hgr : wr.grownBy w1 (some g)) :
    Line w w1 g1 cap1 (n + n1) (zs ++ ys) :=
  ⟨by rw [List.length_append, h.1, hn], by rw [List.map_append]; exact hown, h.2.2.grown hgr h.2.2.size (fun k hk => by have := h.lt.1; simp at hk; omega)⟩

/-- The source's own slice is not touched by an append onto the line. -/
theorem Own.grown {w wr w1 : World} {g cap n B : Nat} {zs ys : List Int} {ao : Option Addr} (h : Own wr ao ys) (hB : ∀ k, ao = some ⟨k, 0, none⟩ → k < B) (hg : B ≤ g) (hgr : wr.grownBy w1 (some g)) (_hl : Line w wr g cap n zs) : Own w1 ao ys := by
  rcases h with h | ⟨k, h1, h2⟩
  · exact .inl h
  · exact .inr ⟨k, h1, h2.upd (Upd.of_grown hgr) (by have := hB k h1; simp; omega)⟩

theorem Own.alloc {w : World} {ao : Option Addr} {zs : List Int} (h : Own w ao zs) (o : Obj) : Own (w.alloc o) ao zs := h.below ((Below.refl _ _).alloc (Nat.le_refl _) o)

theorem Own.news {w : World} {ao : Option Addr} {zs : List Int} (h : Own w ao zs) : ∀ ad, ao = some ad → ∀ j u, (zs.map (Value.int .u8))[j]? = some u → w.cell? (ad.add j) = some u := by
  intro ad ha
  rcases h with ⟨h, -⟩ | ⟨g, h1, h2⟩
  · rw [h] at ha; cases ha
  · rw [h1] at ha
    cases ha
    exact World.news_of_block (cs := (zs.map (Value.int .u8)).toArray) h2
theorem Own.lt {w : World} {ao : Option Addr} {zs : List Int} (h : Own w ao zs) : ∀ k, ao = some ⟨k, 0, none⟩ → k < w.heap.size := by
  intro k hk
  rcases h with ⟨h, -⟩ | ⟨g, h1, h2⟩
  · rw [h] at hk; cases hk
  · rw [h1] at hk; cases hk; exact h2.lt
theorem Own.nil {w : World} {ao : Option Addr} {zs : List Int} {n : Nat} (h : Own w ao zs) (hn : zs.length = n) : ao = none → n = 0 := by
  intro ha
  rcases h with ⟨-, h⟩ | ⟨g, h1, -⟩
  · rw [h] at hn; simpa using hn.symm
  · rw [h1] at ha; cases ha

theorem line_cell {w wr : World} {g cap n : Nat} {zs : List Int} (h : Line w wr g cap n zs) : ∀ i z, zs[i]? = some z → wr.cell? ⟨g, i, none⟩ = some (.int .u8 z) := by
  intro i z hz
  obtain ⟨rest, -, hat, -⟩ := owns_at h.2.1
  have hi : i < zs.length := by
    rcases Nat.lt_or_ge i zs.length with h | h
    · exact h
    · rw [List.getElem?_eq_none h] at hz; cases hz
  refine hat.cell ?_
  rw [List.getElem?_append_left (by simpa using hi), List.getElem?_map, hz]
  rfl
theorem line_cap {w wr : World} {g cap n : Nat} {zs : List Int} (h : Line w wr g cap n zs) : Below w.heap.size w wr ∧ n ≤ cap ∧ cap ≤ maxLen := by
  obtain ⟨rest, -, hat, h1, h2, -⟩ := owns_at h.2.1
  exact ⟨h.2.2, h1, h2⟩

theorem hexOf_hexb (d : Int) (up : Bool) (h : 0 ≤ d ∧ d ≤ 15) : HexOf (hexb d up) d := by
  unfold HexOf hexb
  refine ⟨h.1, h.2, ?_⟩
  by_cases hd : d < 10
  · simp only [hd, if_true]; omega
  · cases up
    · simp only [hd, if_false, Bool.false_eq_true]; omega
    · simp only [hd, if_false, if_true]; omega

theorem uval_dig (v : Int) (h0 : 0 ≤ v) (h1 : v < 65536) : uval (dig v) 4 = v := by
  simp [uval, dig]
  omega

set_option maxRecDepth 100000 in
set_option maxHeartbeats 1600000 in
theorem f7_any (w : World) (a0 : Option Addr) (n0 c0 : Nat) (z0 : List Int) (v m : Int) (a3 : Option Addr) (n3 c3 : Nat) (z3 : List Int) (hs0 : Src w a0 n0 z0) (hs3 : Src w a3 n3 z3) (hm0 : n0 ≤ maxLen) (hm3 : n3 ≤ maxLen)
    (hv0 : 0 ≤ v) (hv1 : v < 65536) (hu0 : 0 ≤ m) (hu1 : m < 256) :
    Calls Try.prog 7 #[.slice a0 n0 c0, .int .u16 v, .int .u8 m, .slice a3 n3 c3] w fun e w' => e = .returned (.bool true) ∧ Below w.heap.size w w' := by
  obtain ⟨i0, hi, hz0, hz1, hz2⟩ := info_parts info5
  go_enter Try.func7, Try.ntmps7
  go_wp2_with (go_at_call 19; refine (f19_any w a0 a3 n0 n3 c0 c3 v m hm0 hm3).mono ?_)
  rintro e w' ⟨⟨y, rfl, hy⟩, hw⟩
  rw [hw]; clear hw w'
  cases y with
  | false =>
    go_wp2
    go_ret
    exact ⟨rfl, Below.refl _ _⟩
  | true =>
    obtain ⟨b0, b3, b4⟩ := hy rfl
    clear hy
    have b0' : (n0 : Int) ≤ 1048576 := by omega
    have b3' : (n3 : Int) ≤ 1048576 := by omega
    have b4' : (n0 : Int) + n3 ≤ 1048576 := by omega
    go_wp2_with (go_at_call 9; refine (f9_any w a0 n0 c0 z0 b0 hs0).mono ?_)
    rintro e w1 ⟨ao0, cc0, rfl, ho0, hb1⟩
    have hs3' := hs3.below hb1
    go_wp2_with (go_at_call 9; refine (f9_any w1 a3 n3 c3 z3 b3 hs3').mono ?_)
    rintro e w2 ⟨ao3, cc3, rfl, ho3, hb2⟩
    have ho0' := ho0.below hb2
    have hbw := hb1.trans (hb2.mono hb1.size)
    have l0 := hs0.len
    have l3 := hs3.len
    clear hs0 hs3 hs3' ho0 hb1 hb2
    go_wp2_with (at_make; refine wpList_make_own _ rfl _ _ 22 rfl w.heap.size 5 i0 _ 1 Try.underlying22 hi hz0 hz1 .i64 .i64 8 8 rfl rfl rfl ?_ ?_ hbw.size ?_)
    · rw [hz2]; omega
    · unfold maxLen; omega
    intro w3 hown3 hgr3
    have hL3 : Line w w3 w2.heap.size 8 0 [] := ⟨rfl, hown3, hbw.grown hgr3 hbw.size (fun k hk => by cases hk)⟩
    have ho03 : Own w3 ao0 z0 := by
      rcases ho0' with h | ⟨k, h1, h2⟩
      · exact .inl h
      · exact .inr ⟨k, h1, h2.upd (Upd.of_grown hgr3) (by simp)⟩
    have ho33 : Own w3 ao3 z3 := by
      rcases ho3 with h | ⟨k, h1, h2⟩
      · exact .inl h
      · exact .inr ⟨k, h1, h2.upd (Upd.of_grown hgr3) (by simp)⟩
    have k0 := ho0'.lt
    have k3 := ho3.lt
    have hls := hbw.size
    clear hown3 hgr3 hbw ho3 ho0'
    generalize w2.heap.size = B at *
    have o0 := ints_oneCell .u8 z0
    have o3 := ints_oneCell .u8 z3
    have n0' := ho03.nil l0
    have n3' := ho33.nil l3
    have s0 := ho03.news
    have lz0 : (z0.map (Value.int .u8)).length = n0 * 1 := by simp [l0]
    have hLs := hL3.2.2.size
    go_wp2_with (at_builtin; refine wpList_append_gen _ rfl (.tmp 39) (.tmp 40) 22 rfl w.heap.size 5 i0 _ 1 1 Try.underlying22 hi hz0 hz1 hz2 rfl (by decide) B 0 8 _ rfl hL3.2.1 ao0 n0 cc0 (z0.map (Value.int .u8)) rfl n0' lz0 s0 o0 (by unfold maxLen; omega) (by omega) hLs ?_)
    intro g4 cap4 w4 hown4 hgr4 hat4
    have hL4 := hL3.more l0 (by simpa using hown4) hgr4
    have ho34 := ho33.grown k3 (Nat.le_refl _) hgr4 hL3
    have hB4 : B ≤ g4 := by
      have := hL3.lt.2
      rcases hat4 with h | h <;> omega
    rw [Nat.zero_add, List.nil_append] at hL4
    clear hown4 hgr4 hat4 hL3 ho03 ho33 s0 n0' lz0 o0 hLs
    have hLs := hL4.2.2.size
    go_wp2_with (at_builtin; refine wpList_append_gen _ rfl (.tmp 42) (.tmp 43) 22 rfl w.heap.size 5 i0 _ 1 1 Try.underlying22 hi hz0 hz1 hz2 rfl (by decide) g4 n0 cap4 _ rfl (hL4.alloc _).2.1 (some ⟨w4.heap.size, 0, none⟩) 2 2 [.int .u8 92, .int .u8 117] rfl (by simp) rfl (by intro ad ha; cases ha; exact World.news_of_block (cs := #[.int .u8 92, .int .u8 117]) (t := 5) (fr := (0, 0)) (heap_alloc_new w4 _)) (by simp [Value.oneCell']) (by unfold maxLen; omega) (by omega) (by simp; omega) ?_)
    intro g5 cap5 w5 hown5 hgr5 hat5
    have hL5 := (hL4.alloc (.cells #[.int .u8 92, .int .u8 117] 5)).more (ys := [92, 117]) rfl (by simpa using hown5) hgr5
    have ho35 := (ho34.alloc (.cells #[.int .u8 92, .int .u8 117] 5)).grown k3 hB4 hgr5 (hL4.alloc _)
    have hB5 : B ≤ g5 := by
      have := hL4.lt.2
      rcases hat5 with h | h
      · omega
      · omega
    clear hown5 hgr5 hat5 hL4 ho34 hLs hB4
    go_wp2
    go_loopw [9, 10, 11] (fun s i _ wr => ∃ k g cap : Nat, k ≤ 4 ∧ i = .int .i64 k ∧ s = .slice (some ⟨g, 0, none⟩) (n0 + 2 + k) cap ∧ Line w wr g cap (n0 + 2 + k) (z0 ++ [92, 117] ++ (hx v m).take k) ∧ Own wr ao3 z3 ∧ B ≤ g) (fun _ i _ _ => 4 - (intOf i).toNat)
    case atStart => exact ⟨0, g5, cap5, Nat.zero_le _, rfl, rfl, by simpa using hL5, ho35, hB5⟩
    case round =>
      obtain ⟨k, g, cp, hk, rfl, rfl, hL, ho, hB⟩ := hrel
      clear hL5 ho35 hB5
      by_cases hlt : k < 4
      · have hLs := hL.2.2.size
        match k, hlt with
        | 0, _ =>
          have eD : bits BinOp.and IntKind.i64 (v / 4096) 15 = dig v 0 := by rw [i64_and15 (by omega) (by omega)]; unfold dig; simp
          have eU : (bits BinOp.and IntKind.u8 (m) 1 == 1) = upb m 0 := by rw [u8_and1 (by omega) (by omega)]; unfold upb; simp
          have hd := dig_bd v 0
          have HD := hide eD
          have HU := hide eU
          clear eD eU
          go_wp2_with fail
          rw [HD.out, HU.out]
          refine (f20_any _ _ _ hd.1 hd.2).mono ?_
          rintro e w' ⟨rfl, hw⟩
          rw [hw]; clear hw w'
          go_wp2_with (at_builtin; refine wpList_append_gen _ rfl (.tmp 57) (.tmp 66) 22 rfl w.heap.size 5 i0 _ 1 1 Try.underlying22 hi hz0 hz1 hz2 rfl (by decide) g (n0 + 2 + 0) cp _ rfl (hL.alloc _).2.1 (some ⟨wr.heap.size, 0, none⟩) 1 1 [.int .u8 (hexb (dig v 0) (upb m 0))] rfl (by simp) rfl (by intro ad ha; cases ha; exact World.news_of_block (cs := #[.int .u8 (hexb (dig v 0) (upb m 0))]) (t := 5) (fr := (0, 0)) (heap_alloc_new wr _)) (by simp [Value.oneCell']) (by unfold maxLen; omega) (by omega) (by simp; omega) ?_)
          intro g6 cap6 w6 hown6 hgr6 hat6
          have hL6 := (hL.alloc (.cells #[.int .u8 (hexb (dig v 0) (upb m 0))] 5)).more (ys := [hexb (dig v 0) (upb m 0)]) rfl (by simpa using hown6) hgr6
          have ho6 := (ho.alloc (.cells #[.int .u8 (hexb (dig v 0) (upb m 0))] 5)).grown k3 hB hgr6 (hL.alloc _)
          have hB6 : B ≤ g6 := by
            have := hL.lt.2
            rcases hat6 with h | h
            · omega
            · omega
          have HL6 := hide (show Line w w6 g6 cap6 (n0 + 2 + 1) (z0 ++ [92, 117] ++ (hx v m).take 1) by simpa [hx] using hL6)
          clear hown6 hgr6 hat6 hL6 hL ho hB HD HU hd
          go_wp2
          go_roundw
          case rel => exact ⟨1, g6, cap6, by omega, by go_num, by rfl, HL6.out, ho6, hB6⟩
          case measure => simp [intOf]
        | 1, _ =>
          have eD : bits BinOp.and IntKind.i64 (v / 256) 15 = dig v 1 := by rw [i64_and15 (by omega) (by omega)]; unfold dig; simp
          have eU : (bits BinOp.and IntKind.u8 (m / 2) 1 == 1) = upb m 1 := by rw [u8_and1 (by omega) (by omega)]; unfold upb; simp
          have hd := dig_bd v 1
          have HD := hide eD
          have HU := hide eU
          clear eD eU
          go_wp2_with fail
          rw [HD.out, HU.out]
          refine (f20_any _ _ _ hd.1 hd.2).mono ?_
          rintro e w' ⟨rfl, hw⟩
          rw [hw]; clear hw w'
          go_wp2_with (at_builtin; refine wpList_append_gen _ rfl (.tmp 57) (.tmp 66) 22 rfl w.heap.size 5 i0 _ 1 1 Try.underlying22 hi hz0 hz1 hz2 rfl (by decide) g (n0 + 2 + 1) cp _ rfl (hL.alloc _).2.1 (some ⟨wr.heap.size, 0, none⟩) 1 1 [.int .u8 (hexb (dig v 1) (upb m 1))] rfl (by simp) rfl (by intro ad ha; cases ha; exact World.news_of_block (cs := #[.int .u8 (hexb (dig v 1) (upb m 1))]) (t := 5) (fr := (0, 0)) (heap_alloc_new wr _)) (by simp [Value.oneCell']) (by unfold maxLen; omega) (by omega) (by simp; omega) ?_)
          intro g6 cap6 w6 hown6 hgr6 hat6
          have hL6 := (hL.alloc (.cells #[.int .u8 (hexb (dig v 1) (upb m 1))] 5)).more (ys := [hexb (dig v 1) (upb m 1)]) rfl (by simpa using hown6) hgr6
          have ho6 := (ho.alloc (.cells #[.int .u8 (hexb (dig v 1) (upb m 1))] 5)).grown k3 hB hgr6 (hL.alloc _)
          have hB6 : B ≤ g6 := by
            have := hL.lt.2
            rcases hat6 with h | h
            · omega
            · omega
          have HL6 := hide (show Line w w6 g6 cap6 (n0 + 2 + 2) (z0 ++ [92, 117] ++ (hx v m).take 2) by simpa [hx] using hL6)
          clear hown6 hgr6 hat6 hL6 hL ho hB HD HU hd
          go_wp2
          go_roundw
          case rel => exact ⟨2, g6, cap6, by omega, by go_num, by rfl, HL6.out, ho6, hB6⟩
          case measure => simp [intOf]
        | 2, _ =>
          have eD : bits BinOp.and IntKind.i64 (v / 16) 15 = dig v 2 := by rw [i64_and15 (by omega) (by omega)]; unfold dig; simp
          have eU : (bits BinOp.and IntKind.u8 (m / 4) 1 == 1) = upb m 2 := by rw [u8_and1 (by omega) (by omega)]; unfold upb; simp
          have hd := dig_bd v 2
          have HD := hide eD
          have HU := hide eU
          clear eD eU
          go_wp2_with fail
          rw [HD.out, HU.out]
          refine (f20_any _ _ _ hd.1 hd.2).mono ?_
          rintro e w' ⟨rfl, hw⟩
          rw [hw]; clear hw w'
          go_wp2_with (at_builtin; refine wpList_append_gen _ rfl (.tmp 57) (.tmp 66) 22 rfl w.heap.size 5 i0 _ 1 1 Try.underlying22 hi hz0 hz1 hz2 rfl (by decide) g (n0 + 2 + 2) cp _ rfl (hL.alloc _).2.1 (some ⟨wr.heap.size, 0, none⟩) 1 1 [.int .u8 (hexb (dig v 2) (upb m 2))] rfl (by simp) rfl (by intro ad ha; cases ha; exact World.news_of_block (cs := #[.int .u8 (hexb (dig v 2) (upb m 2))]) (t := 5) (fr := (0, 0)) (heap_alloc_new wr _)) (by simp [Value.oneCell']) (by unfold maxLen; omega) (by omega) (by simp; omega) ?_)
          intro g6 cap6 w6 hown6 hgr6 hat6
          have hL6 := (hL.alloc (.cells #[.int .u8 (hexb (dig v 2) (upb m 2))] 5)).more (ys := [hexb (dig v 2) (upb m 2)]) rfl (by simpa using hown6) hgr6
          have ho6 := (ho.alloc (.cells #[.int .u8 (hexb (dig v 2) (upb m 2))] 5)).grown k3 hB hgr6 (hL.alloc _)
          have hB6 : B ≤ g6 := by
            have := hL.lt.2
            rcases hat6 with h | h
            · omega
            · omega
          have HL6 := hide (show Line w w6 g6 cap6 (n0 + 2 + 3) (z0 ++ [92, 117] ++ (hx v m).take 3) by simpa [hx] using hL6)
          clear hown6 hgr6 hat6 hL6 hL ho hB HD HU hd
          go_wp2
          go_roundw
          case rel => exact ⟨3, g6, cap6, by omega, by go_num, by rfl, HL6.out, ho6, hB6⟩
          case measure => simp [intOf]
        | 3, _ =>
          have eD : bits BinOp.and IntKind.i64 (v) 15 = dig v 3 := by rw [i64_and15 (by omega) (by omega)]; unfold dig; simp
          have eU : (bits BinOp.and IntKind.u8 (m / 8) 1 == 1) = upb m 3 := by rw [u8_and1 (by omega) (by omega)]; unfold upb; simp
          have hd := dig_bd v 3
          have HD := hide eD
          have HU := hide eU
          clear eD eU
          go_wp2_with fail
          rw [HD.out, HU.out]
          refine (f20_any _ _ _ hd.1 hd.2).mono ?_
          rintro e w' ⟨rfl, hw⟩
          rw [hw]; clear hw w'
          go_wp2_with (at_builtin; refine wpList_append_gen _ rfl (.tmp 57) (.tmp 66) 22 rfl w.heap.size 5 i0 _ 1 1 Try.underlying22 hi hz0 hz1 hz2 rfl (by decide) g (n0 + 2 + 3) cp _ rfl (hL.alloc _).2.1 (some ⟨wr.heap.size, 0, none⟩) 1 1 [.int .u8 (hexb (dig v 3) (upb m 3))] rfl (by simp) rfl (by intro ad ha; cases ha; exact World.news_of_block (cs := #[.int .u8 (hexb (dig v 3) (upb m 3))]) (t := 5) (fr := (0, 0)) (heap_alloc_new wr _)) (by simp [Value.oneCell']) (by unfold maxLen; omega) (by omega) (by simp; omega) ?_)
          intro g6 cap6 w6 hown6 hgr6 hat6
          have hL6 := (hL.alloc (.cells #[.int .u8 (hexb (dig v 3) (upb m 3))] 5)).more (ys := [hexb (dig v 3) (upb m 3)]) rfl (by simpa using hown6) hgr6
          have ho6 := (ho.alloc (.cells #[.int .u8 (hexb (dig v 3) (upb m 3))] 5)).grown k3 hB hgr6 (hL.alloc _)
          have hB6 : B ≤ g6 := by
            have := hL.lt.2
            rcases hat6 with h | h
            · omega
            · omega
          have HL6 := hide (show Line w w6 g6 cap6 (n0 + 2 + 4) (z0 ++ [92, 117] ++ (hx v m).take 4) by simpa [hx] using hL6)
          clear hown6 hgr6 hat6 hL6 hL ho hB HD HU hd
          go_wp2
          go_roundw
          case rel => exact ⟨4, g6, cap6, by omega, by go_num, by rfl, HL6.out, ho6, hB6⟩
          case measure => simp [intOf]
      · have h4 : k = 4 := by omega
        subst h4
        have hLs := hL.2.2.size
        have s3 := ho.news
        have lz3 : (z3.map (Value.int .u8)).length = n3 * 1 := by simp [l3]
        go_wp2_with (at_builtin; refine wpList_append_gen _ rfl (.tmp 68) (.tmp 69) 22 rfl w.heap.size 5 i0 _ 1 1 Try.underlying22 hi hz0 hz1 hz2 rfl (by decide) g (n0 + 2 + 4) cp _ rfl hL.2.1 ao3 n3 cc3 (z3.map (Value.int .u8)) rfl n3' lz3 s3 o3 (by unfold maxLen; omega) (by omega) hLs ?_)
        intro g7 cap7 w7 hown7 hgr7 hat7
        have hL7 := hL.more l3 (by simpa using hown7) hgr7
        clear hown7 hgr7 hat7 hL ho s3 lz3 o3 hLs hlt hk hB
        have hcell := line_cell hL7
        obtain ⟨hb7, hcap7, hcm7⟩ := line_cap hL7
        have q0 : w7.cell? ⟨g7, n0, none⟩ = some (.int .u8 92) := hcell n0 92 (by simp [l0, hx])
        have q1 : w7.cell? ⟨g7, n0 + 1, none⟩ = some (.int .u8 117) := hcell (n0 + 1) 117 (by
          rw [List.append_assoc, List.append_assoc, List.getElem?_append_right (by omega), l0]
          simp)
        have q2 : ∀ k, k < 4 → w7.cell? ⟨g7, n0 + 2 + k, none⟩ = some (.int .u8 ((hx v m).getD k 0)) := fun k hk => hcell (n0 + 2 + k) _ (by
          rw [List.append_assoc, List.append_assoc, List.getElem?_append_right (by omega), l0]
          have e : n0 + 2 + k - n0 = k + 2 := by omega
          rw [e]
          match k, hk with
          | 0, _ => rfl
          | 1, _ => rfl
          | 2, _ => rfl
          | 3, _ => rfl)
        have hH : ∀ k, k < 4 → HexOf ((hx v m).getD k 0) (dig v k) := fun k hk => by
          match k, hk with
          | 0, _ => exact hexOf_hexb _ _ (dig_bd v 0)
          | 1, _ => exact hexOf_hexb _ _ (dig_bd v 1)
          | 2, _ => exact hexOf_hexb _ _ (dig_bd v 2)
          | 3, _ => exact hexOf_hexb _ _ (dig_bd v 3)
        have h21 := hide (f21_any w7 g7 (n0 + 2 + 4 + n3) cap7 n0 _ _ (by omega) hcap7 hcm7 q0 q1 q2 hH)
        have hval := uval_dig v hv0 hv1
        have HV := hide hval
        have HB := hide hb7
        clear hcell q0 q1 q2 hH hL7 hb7 hval
        go_wp2_with fail
        refine h21.out.mono ?_
        rintro e w8 ⟨rfl, hb8⟩
        rw [HV.out]
        have HB8 := hide (HB.out.trans (hb8.mono HB.out.size))
        clear h21 hb8 HB HV
        go_wp2
        go_ret
        exact ⟨rfl, HB8.out⟩

/-- From the shell's row to ours. -/
theorem src_of {w : World} {a : Option Addr} {len cap : Nat} {zs : List Int} (h : (a = none ∧ len = 0 ∧ cap = 0 ∧ zs = []) ∨ ∃ x, a = some x ∧ len ≤ cap ∧ cap ≤ maxLen ∧ zs.length = cap ∧ (∀ i, i < zs.length → w.cell? (x.add i) = some (.int .u8 (zs.getD i 0))) ∧ ∀ n ∈ zs, (Lit.int .u8 n).wf = true) :
    Src w a len (zs.take len) ∧ len ≤ maxLen := by
  rcases h with ⟨rfl, rfl, rfl, rfl⟩ | ⟨x, rfl, h1, h2, h3, h4, -⟩
  · exact ⟨⟨rfl, fun _ => rfl, fun i hi => absurd hi (Nat.not_lt_zero _)⟩, Nat.zero_le _⟩
  · refine ⟨⟨by simp; omega, fun h => (by cases h), fun i hi => ?_⟩, by omega⟩
    have c0 := h4 0 (by omega)
    have ci := h4 i (by omega)
    obtain ⟨b, off, sp⟩ := x
    cases sp with
    | none =>
      rw [Addr.add_lit] at ci
      refine ⟨b, off, rfl, ?_⟩
      rw [ci]
      have hz : i < zs.length := by omega
      simp [List.getD, hi]
    | some y =>
      exfalso
      have e : (⟨b, off, some y⟩ : Addr).add 0 = ⟨b, off, some y⟩ := by simp [Addr.add]
      rw [e] at c0
      simp only [World.cell?] at c0
      split at c0 <;> simp at c0

end Go.Proofs.Qxb6600387a
