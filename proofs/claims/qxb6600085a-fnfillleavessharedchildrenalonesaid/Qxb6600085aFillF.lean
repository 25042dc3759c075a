/-
  fill, over a family: every way.
-/
import Derived.Test.Qxb6600085aFam
import Derived.Test.Qxb6600085aLendL
import Derived.Test.Qxb6600085aLendR
import Derived.Test.Qxb6600085aLendZ
namespace Go.Proofs.Qxb6600085a
open Go.RowKit

theorem getElem_mid {α : Type} (A B : List α) (x y : α) (j : Nat) (h : A.length = j) (h1 : j < (A ++ x :: y :: B).length) : (A ++ x :: y :: B)[j] = x := by subst h; simp
theorem getElem_mid1 {α : Type} (A B : List α) (x y : α) (j : Nat) (h : A.length = j) (h1 : j + 1 < (A ++ x :: y :: B).length) : (A ++ x :: y :: B)[j + 1] = y := by
  subst h
  rw [List.getElem_append_right (by omega)]
  simp
theorem getElem_mid' {α : Type} (A B : List α) (x : α) (j : Nat) (h : A.length = j) (h1 : j < (A ++ x :: B).length) : (A ++ x :: B)[j] = x := by subst h; simp

/-- The blocks of the children that were are still blocks of cells. -/
theorem lies2 {w w' : World} {a p op : Nat} {evp : Value} {ps : List Ent} {kvp : Value} {A B : List Kid} {x y : Kid} (hF : Fam w p op evp ps kvp (A ++ x :: y :: B)) (u : Upd (T2 a p evp kvp x y) w w') (hx : x.o = a → Lies w' x.b) (hy : y.o = a → Lies w' y.b) : ∀ k ∈ A ++ x :: y :: B, Lies w' k.b := by
  intro k hk
  rcases List.mem_append.1 hk with hk | hk
  · exact NodeAt.lies (hF.others u k (.inl hk))
  · rcases List.mem_cons.1 hk with rfl | hk
    · by_cases ho : k.o = a
      · exact hx ho
      · refine NodeAt.lies (NodeAt.keep (hF.kid k (by simp)) u (fun n hn ht => ?_))
        rcases ht with ht | ⟨h, -⟩ | ⟨-, ht⟩
        · exact hF.sepP k (by simp) n hn ht
        · exact ho h
        · exact hF.xy n hn ht
    · rcases List.mem_cons.1 hk with rfl | hk
      · by_cases ho : k.o = a
        · exact hy ho
        · refine NodeAt.lies (NodeAt.keep (hF.kid k (by simp)) u (fun n hn ht => ?_))
          rcases ht with ht | ⟨-, ht⟩ | ⟨h, -⟩
          · exact hF.sepP k (by simp) n hn ht
          · exact hF.xy n ht hn
          · exact ho h
      · exact NodeAt.lies (hF.others u k (.inr hk))

/-- What a merge may turn. -/
def T1 (a p : Nat) (evp kvp : Value) (x : Kid) (k : Nat) : Prop := FP p evp kvp k ∨ (x.o = a ∧ x.fp k)

section
variable {w : World} {a t p op : Nat} {evp : Value} {ps : List Ent} {kvp : Value} {L : List Kid}

/-- What the calls of fill want of the tree and of the owners. -/
def Steady (w : World) (t a p : Nat) (evp kvp : Value) (L : List Kid) : Prop := ∀ W, Upd (fun k => FP p evp kvp k) w W → Tree W t a ∧ ∀ q ∈ L, Lies W q.o

theorem fill_left (hF : Fam w p op evp ps kvp L) (hS : Steady w t a p evp kvp L) (hmax : L.length ≤ 1048577) (i j : Nat) (hij : i = j + 1) (hi : i < L.length) (h1 : L[i].es.length ≤ 15) (h2 : 15 < (L[j]'(by omega)).es.length) :
    Calls Try.prog 35 #[pv t, pv p, .int .i64 i] w fun e w' => ∃ r M qs, e = .returned (.int .i64 (r : Nat)) ∧ Filled w w' a p op evp ps kvp L i r M qs ∧ ∀ k ∈ L, Lies w' k.b := by
  subst hij
  have hlen := hF.len
  obtain ⟨A, x, y, B, rfl, hA⟩ := split2 L j hi
  obtain ⟨P, pe, Q, rfl, hPl⟩ := split1 ps j (by omega)
  rw [getElem_mid1 A B x y j hA] at h1
  rw [getElem_mid A B x y j hA] at h2
  have okx := hF.ok x (by simp)
  have oky := hF.ok y (by simp)
  unfold Kid.ok at okx oky
  obtain ⟨xs', xl, hxs⟩ : ∃ xs' xl, x.es = xs' ++ [xl] := by
    rcases List.eq_nil_or_concat x.es with h | ⟨l, b, h⟩
    · rw [h] at h2; simp at h2
    · exact ⟨l, b, by simpa using h⟩
  obtain ⟨s2, A2, L2, C2⟩ := xl
  obtain ⟨s1, A1, L1, C1⟩ := pe
  have hst : ∀ W, Upd (fun k => FP p evp kvp k) w W → Tree W t a ∧ Lies W x.o ∧ Lies W y.o := fun W u => ⟨(hS W u).1, (hS W u).2 x (by simp), (hS W u).2 y (by simp)⟩
  have hml : ((A ++ x :: y :: B).map Kid.b).length = (A ++ x :: y :: B).length := by simp
  refine (f35_left w (T2 a p evp kvp x y) t a p op (j + 1) j x.b x.o y.b y.o evp (P ++ (s1, A1, L1, C1) :: Q) kvp _ x.ev x.es xs' y.ev y.es s1 s2 A1 A2 L1 C1 L2 C2 rfl hst hF.par (by rw [hml]; exact hi) (by simp; omega) (by rw [hml]; exact hmax)
    (by rw [List.getElem_map, getElem_mid A B x y j hA]) (by rw [List.getElem_map, getElem_mid1 A B x y j hA]) (hF.kid x (by simp)) (hF.kid y (by simp)) h2 okx.2 h1 (by omega) (getElem_mid' P Q _ j hPl _) hxs
    (hF.sepP x (by simp)) (hF.sepP y (by simp)) hF.xy (fun k hk => .inl hk) (fun ho k hk => .inr (.inl ⟨ho, hk⟩)) (fun ho k hk => .inr (.inr ⟨ho, hk⟩))).mono ?_
  rintro e w' ⟨rfl, xb, evx, yb, evy, evq, hxo, hyo, hX, hY, hP, hU⟩
  refine ⟨j + 1, A ++ ⟨xb, a, evx, xs'⟩ :: ⟨yb, a, evy, (s1, A1, L1, C1) :: y.es⟩ :: B, P ++ (s2, A2, L2, C2) :: Q, rfl, ?_, lies2 hF hU (fun ho => by rw [← hxo ho]; exact NodeAt.lies hX) (fun ho => by rw [← hyo ho]; exact NodeAt.lies hY)⟩
  have hxl : x.es.length = xs'.length + 1 := by rw [hxs]; simp
  refine filled2 (ki := y) (kr := ⟨yb, a, evy, (s1, A1, L1, C1) :: y.es⟩) (evq := evq) (kvq := kvp) hF hU ?_ hX hY rfl rfl ⟨by simp; omega, by simp; omega⟩ ⟨by simp; omega, by simp; omega⟩ ?_ ?_ ?_ ?_ h1 (fun e he => by simp [he]) rfl
  · rw [set1 P Q _ _ j hPl, List.map_append, List.map_cons, List.map_cons, set2 _ _ _ _ _ _ j (by simp [hA])] at hP
    simpa using hP
  · have := inord_left (A.map Kid.es) (B.map Kid.es) P Q xs' y.es (s1, A1, L1, C1) (s2, A2, L2, C2) (by simp; omega)
    simpa [hxs] using this
  · rw [List.getElem?_eq_getElem (by simp; omega), getElem_mid1 _ _ _ _ j hA]
  · rw [List.getElem?_eq_getElem (by simp; omega), getElem_mid1 _ _ _ _ j hA]
  · simp; omega

theorem fill_right (hF : Fam w p op evp ps kvp L) (hS : Steady w t a p evp kvp L) (hmax : L.length ≤ 1048577) (i : Nat) (hi : i + 1 < L.length) (h1 : L[i].es.length ≤ 15) (h2 : 15 < L[i + 1].es.length) (hprev : ∀ h : 0 < i, (L[i - 1]'(by omega)).es.length ≤ 15) :
    Calls Try.prog 35 #[pv t, pv p, .int .i64 i] w fun e w' => ∃ r M qs, e = .returned (.int .i64 (r : Nat)) ∧ Filled w w' a p op evp ps kvp L i r M qs ∧ ∀ k ∈ L, Lies w' k.b := by
  have hlen := hF.len
  have hprev' : 0 < i → ∃ k ∈ L, k.es.length ≤ 15 ∧ ∀ h : i - 1 < (L.map Kid.b).length, (L.map Kid.b)[i - 1] = k.b := fun h => ⟨L[i - 1]'(by omega), List.getElem_mem _, hprev h, fun _ => by rw [List.getElem_map]⟩
  clear hprev
  obtain ⟨A, x, y, B, rfl, hA⟩ := split2 L i hi
  obtain ⟨P, pe, Q, rfl, hPl⟩ := split1 ps i (by omega)
  rw [getElem_mid A B x y i hA] at h1
  rw [getElem_mid1 A B x y i hA] at h2
  have okx := hF.ok x (by simp)
  have oky := hF.ok y (by simp)
  unfold Kid.ok at okx oky
  obtain ⟨yl, ys', hys⟩ : ∃ yl ys', y.es = yl :: ys' := by
    cases h : y.es with
    | nil => rw [h] at h2; simp at h2
    | cons b l => exact ⟨b, l, rfl⟩
  obtain ⟨s2, A2, L2, C2⟩ := yl
  obtain ⟨s1, A1, L1, C1⟩ := pe
  have hst : ∀ W, Upd (fun k => FP p evp kvp k) w W → Tree W t a ∧ Lies W y.o ∧ Lies W x.o := fun W u => ⟨(hS W u).1, (hS W u).2 y (by simp), (hS W u).2 x (by simp)⟩
  have hml : ((A ++ x :: y :: B).map Kid.b).length = (A ++ x :: y :: B).length := by simp
  have hmain : Calls Try.prog 35 #[pv t, pv p, .int .i64 i] w fun e w' => e = .returned (.int .i64 i) ∧ Lent w w' (T2 a p evp kvp x y) a p op ((P ++ (s1, A1, L1, C1) :: Q).set i (s2, A2, L2, C2)) kvp ((A ++ x :: y :: B).map Kid.b) i x.b x.o y.b y.o (x.es ++ [(s1, A1, L1, C1)]) ys' := by
    by_cases h0 : 0 < i
    · obtain ⟨k3, hk3, hz3, he3⟩ := hprev' h0
      exact f35_right w (T2 a p evp kvp x y) t a p op i x.b x.o y.b y.o evp (P ++ (s1, A1, L1, C1) :: Q) kvp _ x.ev x.es y.ev y.es ys' s1 s2 A1 A2 L1 C1 L2 C2 hst hF.par (by rw [hml]; exact hi) (by simp; omega) (by rw [hml]; exact hmax)
        (by rw [List.getElem_map, getElem_mid A B x y i hA]) (by rw [List.getElem_map, getElem_mid1 A B x y i hA]) (hF.kid x (by simp)) (hF.kid y (by simp)) h1 h2 oky.2 (getElem_mid' P Q _ i hPl _) hys
        (hF.sepP x (by simp)) (hF.sepP y (by simp)) hF.xy (fun k hk => .inl hk) (fun ho k hk => .inr (.inl ⟨ho, hk⟩)) (fun ho k hk => .inr (.inr ⟨ho, hk⟩)) h0 k3.b k3.o k3.ev k3.es (he3 _) (hF.kid k3 hk3) hz3
    · exact f35_right0 w (T2 a p evp kvp x y) t a p op i x.b x.o y.b y.o evp (P ++ (s1, A1, L1, C1) :: Q) kvp _ x.ev x.es y.ev y.es ys' s1 s2 A1 A2 L1 C1 L2 C2 hst hF.par (by rw [hml]; exact hi) (by simp; omega) 
        (by rw [List.getElem_map, getElem_mid A B x y i hA]) (by rw [List.getElem_map, getElem_mid1 A B x y i hA]) (hF.kid x (by simp)) (hF.kid y (by simp)) h1 h2 oky.2 (getElem_mid' P Q _ i hPl _) hys
        (hF.sepP x (by simp)) (hF.sepP y (by simp)) hF.xy (fun k hk => .inl hk) (fun ho k hk => .inr (.inl ⟨ho, hk⟩)) (fun ho k hk => .inr (.inr ⟨ho, hk⟩)) (by omega)
  refine hmain.mono ?_
  rintro e w' ⟨rfl, xb, evx, yb, evy, evq, hxo, hyo, hX, hY, hP, hU⟩
  refine ⟨i, A ++ ⟨xb, a, evx, x.es ++ [(s1, A1, L1, C1)]⟩ :: ⟨yb, a, evy, ys'⟩ :: B, P ++ (s2, A2, L2, C2) :: Q, rfl, ?_, lies2 hF hU (fun ho => by rw [← hxo ho]; exact NodeAt.lies hX) (fun ho => by rw [← hyo ho]; exact NodeAt.lies hY)⟩
  have hyl : y.es.length = ys'.length + 1 := by rw [hys]; simp
  refine filled2 (ki := x) (kr := ⟨xb, a, evx, x.es ++ [(s1, A1, L1, C1)]⟩) (evq := evq) (kvq := kvp) hF hU ?_ hX hY rfl rfl ⟨by simp; omega, by simp; omega⟩ ⟨by simp; omega, by simp; omega⟩ ?_ ?_ ?_ ?_ h1 (fun e he => by simp [he]) rfl
  · rw [set1 P Q _ _ i hPl, List.map_append, List.map_cons, List.map_cons, set2 _ _ _ _ _ _ i (by simp [hA])] at hP
    simpa using hP
  · have := inord_right (A.map Kid.es) (B.map Kid.es) P Q x.es ys' (s1, A1, L1, C1) (s2, A2, L2, C2) (by simp; omega)
    simpa [hys] using this
  · rw [List.getElem?_eq_getElem (by simp; omega), getElem_mid _ _ _ _ i hA]
  · rw [List.getElem?_eq_getElem (by simp; omega), getElem_mid _ _ _ _ i hA]
  · simp; omega

/-- A merge, read as a Filled. -/
theorem filled_of_merged {w' : World} {A B : List Kid} {x y : Kid} {P Q : List Ent} {pe : Ent} {i j : Nat} {ki : Kid} (hF : Fam w p op evp (P ++ pe :: Q) kvp (A ++ x :: y :: B)) (hA : A.length = j) (hPl : P.length = j) (h1 : x.es.length ≤ 15) (h2 : y.es.length ≤ 15)
    (hM : Merged w w' (T1 a p evp kvp x) a p op j x.b x.o (P ++ pe :: Q) ((A ++ x :: y :: B).map Kid.b) x.es [] y.es [] false)
    (hi : (A ++ x :: y :: B)[i]? = some ki) (hki : ki = x ∨ ki = y) (hir : j = i ∨ (j + 1 = i ∧ i + 1 = (A ++ x :: y :: B).length)) :
    ∃ M qs, Filled w w' a p op evp (P ++ pe :: Q) kvp (A ++ x :: y :: B) i j M qs ∧ ∀ k ∈ A ++ x :: y :: B, Lies w' k.b := by
  obtain ⟨hie, c, ev, kv, evq, kvq, hcl, hX, hP, hU1⟩ := hM
  have hU : Upd (T2 a p evp kvp x y) w w' := hU1.mono (fun k _ hk => by
    rcases hk with hk | hk
    · exact .inl hk
    · exact .inr (.inl hk))
  have hy : y.at w' := NodeAt.keep (hF.kid y (by simp)) hU1 (fun n hn ht => by
    rcases ht with ht | ⟨-, ht⟩
    · exact hF.sepP y (by simp) n hn ht
    · exact hF.xy n ht hn)
  rw [getElem_mid' P Q pe j hPl] at hX
  have hkn : kv = nilV := by have := hX.knn; simp [KidsV] at this; exact this
  subst hkn
  rw [del_at P Q pe j hPl, List.map_append, List.map_cons, List.map_cons, del2 _ _ _ _ _ j (by simp [hA])] at hP
  refine ⟨A ++ ⟨c, a, ev, x.es ++ pe :: y.es⟩ :: B, P ++ Q, ?_, lies2 hF hU (fun ho => by rw [← hcl ho]; exact NodeAt.lies hX) (fun _ => NodeAt.lies hy)⟩
  exact filled1 (evq := evq) (kvq := kvq) hF hU (by simpa using hP) hX rfl (by omega) rfl h1 h2 hA hi hki hir

theorem fill_fam (hF : Fam w p op evp ps kvp L) (hS : Steady w t a p evp kvp L) (hmax : L.length ≤ 1048577) (hmin : 2 ≤ L.length) (i : Nat) (hi : i < L.length) :
    Calls Try.prog 35 #[pv t, pv p, .int .i64 i] w fun e w' => ∃ r M qs, e = .returned (.int .i64 (r : Nat)) ∧ Filled w w' a p op evp ps kvp L i r M qs ∧ ∀ k ∈ L, Lies w' k.b := by
  have hml : (L.map Kid.b).length = L.length := by simp
  have hlen := hF.len
  by_cases h15 : 15 < L[i].es.length
  · refine (f35_room w t p op i L[i].b L[i].o evp ps kvp _ L[i].ev L[i].es hF.par (by rw [hml]; exact hi) (by rw [List.getElem_map]) (hF.kid _ (List.getElem_mem _)) h15).mono ?_
    rintro e w' ⟨rfl, rfl⟩
    exact ⟨i, L, ps, rfl, ⟨⟨evp, kvp, hF.par⟩, hF.kid, rfl, hF.len, hF.ok, fun k hk => .inl hk, ⟨L[i], L[i], by simp, by simp, h15, fun e he => he, fun _ => ⟨rfl, rfl⟩, fun h => by omega⟩, .inl ⟨rfl, rfl⟩, Upd.refl _ _⟩, fun k hk => NodeAt.lies (hF.kid k hk)⟩
  have h15' : L[i].es.length ≤ 15 := by omega
  by_cases hl : ∃ h : 0 < i, 15 < (L[i - 1]'(by omega)).es.length
  · obtain ⟨h0, hl⟩ := hl
    exact fill_left hF hS hmax i (i - 1) (by omega) hi h15' hl
  have hprev : ∀ h : 0 < i, (L[i - 1]'(by omega)).es.length ≤ 15 := fun h => by
    rcases Nat.lt_or_ge 15 (L[i - 1]'(by omega)).es.length with h' | h'
    · exact absurd ⟨h, h'⟩ hl
    · exact h'
  by_cases hr : i + 1 < L.length
  · by_cases hr2 : 15 < L[i + 1].es.length
    · exact fill_right hF hS hmax i hr h15' hr2 hprev
    · have hr2' : L[i + 1].es.length ≤ 15 := by omega
      have hprev' : 0 < i → ∃ k ∈ L, k.es.length ≤ 15 ∧ ∀ h : i - 1 < (L.map Kid.b).length, (L.map Kid.b)[i - 1] = k.b := fun h => ⟨L[i - 1]'(by omega), List.getElem_mem _, hprev h, fun _ => by rw [List.getElem_map]⟩
      clear hprev hl hr2 h15 hmin
      obtain ⟨A, x, y, B, rfl, hA⟩ := split2 L i hr
      obtain ⟨P, pe, Q, rfl, hPl⟩ := split1 ps i (by omega)
      rw [getElem_mid A B x y i hA] at h15'
      rw [getElem_mid1 A B x y i hA] at hr2'
      have hw := hS w (Upd.refl _ _)
      refine (f35_merge w (T1 a p evp kvp x) t a p op i x.b x.o y.b y.o evp (P ++ pe :: Q) kvp _ x.ev x.es nilV [] y.ev y.es nilV [] false hw.1 hF.par (by rw [hml]; exact hr) (by simp; omega)
        (by rw [List.getElem_map, getElem_mid A B x y i hA]) (by rw [List.getElem_map, getElem_mid1 A B x y i hA]) (hF.kid x (by simp)) (hF.kid y (by simp)) (hw.2 x (by simp)) h15' hr2' (by simp) (by rw [hml]; exact hmax) (by omega)
        (hF.sepP x (by simp)) hF.xy (hF.sepP y (by simp)).symm (fun k hk => .inl hk) (fun ho k hk => .inr ⟨ho, hk⟩) (fun h0 => ?_)).mono ?_
      · obtain ⟨k3, hk3, hz3, he3⟩ := hprev' h0
        exact ⟨k3.o, k3.ev, k3.es, nilV, false, [], by rw [he3]; exact hF.kid k3 hk3, hz3⟩
      rintro e w' ⟨rfl, hM⟩
      obtain ⟨M, qs, hfil⟩ := filled_of_merged (i := i) (ki := x) hF hA hPl h15' hr2' hM (by rw [List.getElem?_eq_getElem hi, getElem_mid A B x y i hA]) (.inl rfl) (.inl rfl)
      exact ⟨i, M, qs, rfl, hfil⟩
  · obtain ⟨j, rfl⟩ : ∃ j, i = j + 1 := ⟨i - 1, by omega⟩
    have hj := hprev (by omega)
    simp only [Nat.add_sub_cancel] at hj
    clear hprev hl h15
    obtain ⟨A, x, y, B, rfl, hA⟩ := split2 L j hi
    obtain ⟨P, pe, Q, rfl, hPl⟩ := split1 ps j (by omega)
    rw [getElem_mid1 A B x y j hA] at h15'
    rw [getElem_mid A B x y j hA] at hj
    have hw := hS w (Upd.refl _ _)
    refine (f35_last w (T1 a p evp kvp x) t a p op j x.b x.o y.b y.o (j + 1) evp (P ++ pe :: Q) kvp _ x.ev x.es nilV [] y.ev y.es nilV [] false rfl hw.1 hF.par (by rw [hml]; exact hi) (by omega)
        (by rw [List.getElem_map, getElem_mid A B x y j hA]) (by rw [List.getElem_map, getElem_mid1 A B x y j hA]) (hF.kid x (by simp)) (hF.kid y (by simp)) (hw.2 x (by simp)) hj h15' (by simp) (by rw [hml]; exact hmax) (by omega)
        (hF.sepP x (by simp)) hF.xy (hF.sepP y (by simp)).symm (fun k hk => .inl hk) (fun ho k hk => .inr ⟨ho, hk⟩)).mono ?_
    rintro e w' ⟨rfl, hM⟩
    obtain ⟨M, qs, hfil⟩ := filled_of_merged (i := j + 1) (ki := y) hF hA hPl hj h15' hM (by rw [List.getElem?_eq_getElem hi, getElem_mid1 A B x y j hA]) (.inr rfl) (.inr ⟨rfl, by omega⟩)
    exact ⟨j, M, qs, rfl, hfil⟩

end
end Go.Proofs.Qxb6600085a
