/-
  FnKindNamesAWrittenValue: zzBytes (16), kind (25), ZZKind (18), appendQuoted (14).
-/
import Derived.Test.Qxb6600387aUnitM
namespace Go.Proofs.Qxb6600387a
open Go.RowKit

set_option maxHeartbeats 400000 in
theorem f16_any (w : World) (a0 a5 : Option Addr) (n0 n5 c0 c5 : Nat) (sel num : Int) (truth : Bool) (text : ByteArray) (h0 : n0 ≤ maxLen) (h4 : text.size ≤ maxLen) (h5 : n5 ≤ maxLen) :
    Calls Try.prog 16 #[.slice a0 n0 c0, .int .u8 sel, .int .i64 num, .bool truth, .string text, .slice a5 n5 c5] w fun e w' => YesOr e (n0 + text.size + n5 ≤ 1048576) ∧ w' = w := by
  unfold maxLen at h0 h4 h5
  obtain ⟨n4, hn4⟩ : ∃ n4, text.size = n4 := ⟨_, rfl⟩
  by_cases b0 : n0 ≤ 1048576
  · by_cases b4 : text.size ≤ 1048576
    · by_cases c4 : n0 + text.size ≤ 1048576
      · by_cases b5 : n5 ≤ 1048576
        · by_cases c5' : n0 + text.size + n5 ≤ 1048576
          · have y1 : (n0 : Int) + text.size ≤ 1048576 := by omega
            have y2 : (n0 : Int) + text.size + n5 ≤ 1048576 := by omega
            go_enter Try.func16, Try.ntmps16
            go_wp2
            go_ret
            exact ⟨YesOr.yes c5', rfl⟩
          · have y1 : (n0 : Int) + text.size ≤ 1048576 := by omega
            have y2 : 1048576 < (n0 : Int) + text.size + n5 := by omega
            go_enter Try.func16, Try.ntmps16
            go_wp2
            go_ret
            exact ⟨YesOr.no, rfl⟩
        · have y1 : (n0 : Int) + text.size ≤ 1048576 := by omega
          go_enter Try.func16, Try.ntmps16
          go_wp2
          go_ret
          exact ⟨YesOr.no, rfl⟩
      · have y1 : 1048576 < (n0 : Int) + text.size := by omega
        go_enter Try.func16, Try.ntmps16
        go_wp2
        go_ret
        exact ⟨YesOr.no, rfl⟩
    · go_enter Try.func16, Try.ntmps16
      go_wp2
      go_ret
      exact ⟨YesOr.no, rfl⟩
  · go_enter Try.func16, Try.ntmps16
    go_wp2
    go_ret
    exact ⟨YesOr.no, rfl⟩

/-- What a value's first byte says of its kind. -/
def KindIs (c : Int) (s : ByteArray) : Prop :=
  (c = 123 ∧ s = ⟨#[111, 98, 106, 101, 99, 116]⟩) ∨ (c = 91 ∧ s = ⟨#[97, 114, 114, 97, 121]⟩) ∨ (c = 34 ∧ s = ⟨#[115, 116, 114, 105, 110, 103]⟩) ∨
  ((c = 116 ∨ c = 102) ∧ s = ⟨#[98, 111, 111, 108, 101, 97, 110]⟩) ∨ (c = 110 ∧ s = ⟨#[110, 117, 108, 108]⟩) ∨ ((c = 45 ∨ (48 ≤ c ∧ c ≤ 57)) ∧ s = ⟨#[110, 117, 109, 98, 101, 114]⟩)

/-- Only draws. -/
def Drew (w w' : World) : Prop := ∃ nq, w' = w.drewN nq
theorem Drew.refl (w : World) : Drew w w := ⟨0, rfl⟩
theorem Drew.more {w w' : World} (h : Drew w w') (n : Nat) : Drew w (w'.drewN n) := by
  obtain ⟨m, rfl⟩ := h
  exact ⟨m + n, by rw [World.drewN_drewN]⟩

set_option maxRecDepth 100000 in
set_option maxHeartbeats 800000 in
theorem f25_any (w : World) (r g n cap pos : Nat) (c : Int) (s : ByteArray) (hr0 : w.cell? ⟨r, 0, none⟩ = some (.slice (some ⟨g, 0, none⟩) n cap)) (hr1 : w.cell? ⟨r, 1, none⟩ = some (.int .i64 pos)) (hp : pos < n) (hc : w.cell? ⟨g, pos, none⟩ = some (.int .u8 c)) (hk : KindIs c s) :
    Calls Try.prog 25 #[.pointer (some ⟨r, 0, none⟩)] w fun e w' => e = .returned (.string s) ∧ Drew w w' := by
  have p0 : (0 : Int) ≤ pos := Int.natCast_nonneg _
  have p1 : (pos : Int) < n := by omega
  have p2 : ¬ (pos : Int) = n := by omega
  rcases hk with ⟨rfl, rfl⟩ | ⟨rfl, rfl⟩ | ⟨rfl, rfl⟩ | ⟨rfl | rfl, rfl⟩ | ⟨rfl, rfl⟩ | ⟨rfl | ⟨h1, h2⟩, rfl⟩
  case inr.inr.inr.inr.inr.inr =>
    have d1 : (c == 116) = false := by simp; omega
    have d2 : (c == 102) = false := by simp; omega
    have d3 : (c == 110) = false := by simp; omega
    have d4 : (c == 45) = false := by simp; omega
    have d5 : (c == 123) = false := by simp; omega
    have d6 : (c == 91) = false := by simp; omega
    have d7 : (c == 34) = false := by simp; omega
    go_enter Try.func25, Try.ntmps25
    go_wp2
    go_quiet (fail)
    go_wp2
    go_quiet (fail)
    go_wp2
    go_ret
    exact ⟨rfl, ⟨_, rfl⟩⟩
  all_goals
    go_enter Try.func25, Try.ntmps25
    go_wp2
    go_quiet (fail)
    go_wp2
    go_quiet (fail)
    go_wp2
    go_ret
    exact ⟨rfl, ⟨_, rfl⟩⟩

set_option maxRecDepth 100000 in
set_option maxHeartbeats 400000 in
theorem f18_any (w : World) (g n cap pos : Nat) (c : Int) (s : ByteArray) (hp : pos < n) (hc : w.cell? ⟨g, pos, none⟩ = some (.int .u8 c)) (hk : KindIs c s) :
    Calls Try.prog 18 #[.slice (some ⟨g, 0, none⟩) n cap, .int .i64 pos] w fun e w' => e = .returned (.string s) ∧ Below w.heap.size w w' := by
  have h25 := hide (fun W r (a : W.cell? ⟨r, 0, none⟩ = some (.slice (some ⟨g, 0, none⟩) n cap)) (b : W.cell? ⟨r, 1, none⟩ = some (.int .i64 pos)) (d : W.cell? ⟨g, pos, none⟩ = some (.int .u8 c)) => f25_any W r g n cap pos c s a b hp d hk)
  have HC := hide hc
  clear hk hc
  go_enter Try.func18, Try.ntmps18
  go_wp2_with fail
  refine (h25.out _ _ ?_ ?_ ?_).mono ?_
  · exact (At.new w _ _).cell (i := 0) rfl
  · exact (At.new w _ _).cell (i := 1) rfl
  · exact Lib.cell?_alloc_some _ HC.out
  rintro e w' ⟨rfl, hd⟩
  have HB := hide (show Below w.heap.size w w' by
    obtain ⟨m, rfl⟩ := hd
    have hb : Below w.heap.size w (w.alloc (.cells #[.slice (some ⟨g, 0, none⟩) n cap, .int .i64 pos] 43)) := (Below.refl _ _).alloc (Nat.le_refl _) _
    exact ⟨hb.os, hb.tape, hb.output, hb.size, hb.block⟩)
  clear hd h25 HC
  go_wp2
  go_ret
  exact ⟨rfl, HB.out⟩

/-- From w to w': onto the line at g more was written; it lies at g' now. -/
structure Gr (wb w : World) (g : Nat) (w' : World) (g' cap' n' : Nat) (zs' : List Int) : Prop where
  line : Line wb w' g' cap' n' zs'
  upd : Upd (fun x => x = g) w w'
  at_ : g' = g ∨ w.heap.size ≤ g'

theorem Gr.start {wb w : World} {g cap n : Nat} {zs : List Int} (h : Line wb w g cap n zs) : Gr wb w g w g cap n zs := ⟨h, Upd.refl _ _, .inl rfl⟩

theorem Gr.alloc {wb w w' : World} {g g' cap' n' : Nat} {zs' : List Int} (h : Gr wb w g w' g' cap' n' zs') (o : Obj) : Gr wb w g (w'.alloc o) g' cap' n' zs' := ⟨h.line.alloc o, h.upd.alloc o, h.at_⟩

theorem Gr.trans {wb w w1 w2 : World} {g g1 cap1 n1 g2 cap2 n2 : Nat} {zs1 zs2 : List Int} (h : Gr wb w g w1 g1 cap1 n1 zs1) (k : Gr wb w1 g1 w2 g2 cap2 n2 zs2) : Gr wb w g w2 g2 cap2 n2 zs2 := by
  refine ⟨k.line, h.upd.then k.upd (fun i hi he => ?_), ?_⟩
  · rcases h.at_ with e | e
    · exact he.trans e
    · omega
  · have := h.upd.size
    rcases k.at_ with e | e
    · rcases h.at_ with e' | e'
      · exact .inl (e.trans e')
      · exact .inr (by omega)
    · exact .inr (by omega)

theorem Gr.more {wb w w1 w2 : World} {g g1 cap1 n1 g2 cap2 m : Nat} {zs ys : List Int} (h : Gr wb w g w1 g1 cap1 n1 zs) (hm : ys.length = m)
    (hown : w2.ownsRow wb.heap.size 5 1 (.slice (some ⟨g2, 0, none⟩) (n1 + m) cap2) (n1 + m) (zs.map (Value.int .u8) ++ ys.map (Value.int .u8))) (hgr : w1.grownBy w2 (some g1)) (hg : g2 = g1 ∨ g2 = w1.heap.size) : Gr wb w g w2 g2 cap2 (n1 + m) (zs ++ ys) := by
  refine h.trans ⟨h.line.more hm hown hgr, (Upd.of_grown hgr).mono (fun i _ he => by cases he; rfl), ?_⟩
  rcases hg with e | e
  · exact .inl e
  · exact .inr (by omega)

/-- What an appending function leaves: the line goes on with y, b y, and more, k in all, at most m. -/
def Put (wb w : World) (g n : Nat) (zs : List Int) (m : Nat) (b : Int → Prop) (e : Ending) (w' : World) : Prop :=
  ∃ g' cap' k y t, e = .returned (.slice (some ⟨g', 0, none⟩) (n + k) cap') ∧ k ≤ m ∧ b y ∧ Gr wb w g w' g' cap' (n + k) (zs ++ y :: t)

end Go.Proofs.Qxb6600387a
