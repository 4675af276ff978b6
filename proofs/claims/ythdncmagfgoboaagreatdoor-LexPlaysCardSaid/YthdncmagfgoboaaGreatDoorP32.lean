/- One of the texts that lead to the theorem lexPlays.proved: the conditions stand in each theorem. -/
import Derived.Test.YthdncmagfgoboaaGreatDoorP31
set_option linter.unusedSimpArgs false
set_option linter.unusedVariables false
namespace Go.Proofs.YthdncmagfgoboaaGreatDoor
open Go.RowKit
set_option maxRecDepth 100000
set_option maxHeartbeats 8000000
open Lx
theorem gM (b a f lit : Nat) (x : UInt8) (st : Lx.St) (l : List Tok) (w : World) (h : aY w b a 0 f (.pointer none) (.pointer none) lit) (ha : a ≤ 1000000000) (so : Outs a x [] (.ok (st, l))) :
 Calls Tryz.prog 38 #[.pointer (some ⟨b, 0, none⟩), .int .u8 x.toNat] w fun e w' => ∃ v, e = .returned (.tuple #[v, .int .i64 0]) ∧ TokV w w' v l ∧ (∃ F', RWdAt w' b st.a st.f st.w F' ∧ ∀ k ∈ F', k = b ∨ w.heap.size ≤ k) ∧ Touch [b] w w' := by
 have hbl := aB h
 cases so with
 | blank h1 h2 =>
  refine (kS b a 0 f lit _ _ x.toNat w h h1 h2 ha).mono ?_
  rintro e w' ⟨rfl, q1, q2⟩
  exact ⟨_, rfl, TokV.nil _ _, ⟨[b], ⟨⟨_, _, q1⟩, rfl⟩, fun k hk => .inl (List.mem_singleton.1 hk)⟩, q2⟩
 | lit k h1 h2 =>
  refine (nZ b a 0 f lit _ _ x.toNat k w h h1 h2 ha).mono ?_
  rintro e w' ⟨rfl, q1, q2⟩
  exact ⟨_, rfl, TokV.nil _ _, ⟨[b], ⟨q1, rfl⟩, fun k hk => .inl (List.mem_singleton.1 hk)⟩, q2⟩
 | int t n h1 h2 h3 h4 =>
  refine (oA b a 0 f lit _ _ x t.text w h h1 h3 ha).mono ?_
  rintro e w' ⟨rfl, ⟨p, q1, q2, q3⟩, q4⟩
  refine ⟨_, rfl, TokV.nil _ _, ⟨[b, p], ⟨p, _, q1, q2, rfl, by omega⟩, fun k hk => ?_⟩, q4⟩
  simp at hk
  rcases hk with rfl | rfl
  · exact .inl rfl
  · exact .inr q3
 | str h1 =>
  refine (nY b a 0 f lit _ _ x.toNat w h h1 ha).mono ?_
  rintro e w' ⟨rfl, ⟨p, q1, q2, q3⟩, q4⟩
  refine ⟨_, rfl, TokV.nil _ _, ⟨[b, p], ⟨p, _, _, _, _, _, _, _, q1, q2, rfl, by simp; omega⟩, fun k hk => ?_⟩, q4⟩
  simp at hk
  rcases hk with rfl | rfl
  · exact .inl rfl
  · exact .inr q3
 | tok k h1 h2 h3 =>
  refine (nX b a 0 f lit _ _ x.toNat k w h h1 h2 h3 ha).mono ?_
  rintro e w' ⟨⟨j, rfl, q1, q2⟩, q3, q4⟩
  exact ⟨_, rfl, ⟨_, _, _, rfl, q1, fun i hi => by injection hi with hi; omega⟩, ⟨[b], ⟨⟨_, _, q3⟩, rfl⟩, fun k hk => .inl (List.mem_singleton.1 hk)⟩, q4⟩
theorem wD {a : Nat} {x : UInt8} {pre : List Tok} {st : Lx.St} {l : List Tok} (so : Outs a x pre (.ok (st, l))) : ∃ l', Outs a x [] (.ok (st, l')) ∧ l = pre ++ l' := by
 cases so with
 | blank h1 h2 => exact ⟨[], .blank h1 h2, by simp⟩
 | lit k h1 h2 => exact ⟨[], .lit k h1 h2, by simp⟩
 | int t n h1 h2 h3 h4 => exact ⟨[], .int t n h1 h2 h3 h4, by simp⟩
 | str h1 => exact ⟨[], .str h1, by simp⟩
 | tok k h1 h2 h3 => exact ⟨_, .tok k h1 h2 h3, rfl⟩
theorem wE {a : Nat} {x : UInt8} {st : Lx.St} {l : List Tok} (so : Outs a x [] (.ok (st, l))) : l.length ≤ 1 ∧ (cQ x.toNat = true ∨ (cQ x.toNat = false ∧ ((bN x.toNat) == 0) = false)) := by
 cases so with
 | blank h1 h2 => exact ⟨by simp, .inl h2⟩
 | lit k h1 h2 => exact ⟨by simp, .inr ⟨dR (by rw [h1]; omega), by rw [h1]; simp; omega⟩⟩
 | int t n h1 h2 h3 h4 => exact ⟨by simp, .inr ⟨dR (by rw [h1]; omega), by rw [h1]; simp⟩⟩
 | str h1 => exact ⟨by simp, .inr ⟨dR (by rw [h1]; omega), by rw [h1]; simp⟩⟩
 | tok k h1 h2 h3 => exact ⟨by simp, .inr ⟨dR (by rw [h1]; omega), by rw [h1]; simp; omega⟩⟩
theorem sO (l : List Tok) : ∀ u ∈ cB l, u.oneCell' = true := by
 induction l with
 | nil => intro u hu; cases hu
 | cons t l ih =>
  intro u hu
  have hc : cB (t :: l) = .int .i64 t.1 :: .int .i64 t.2.1 :: .int .i64 t.2.2.1 :: .int .i64 t.2.2.2.1 :: .string (str t.2.2.2.2) :: cB l := rfl
  rw [hc] at hu
  simp only [List.mem_cons] at hu
  rcases hu with rfl | rfl | rfl | rfl | rfl | hu
  · rfl
  · rfl
  · rfl
  · rfl
  · rfl
  · exact ih u hu
theorem gY (l k : List Tok) : cB (l ++ k) = cB l ++ cB k := by
 unfold cB
 rw [List.flatMap_append]
theorem rR (b a f p lit : Nat) (l : List UInt8) (x : UInt8) (N : Int) (st : Lx.St) (l2 : List Tok) (w : World) (h : aY w b a 4 f (.pointer (some ⟨p, 0, none⟩)) (.pointer none) lit) (hN : RNumAt w p l) (hl : l.length ≤ 100000) (ho : ownB x = false) (hr : Num.rend l = (N, 0)) (ha : a ≤ 1000000000) (so : Outs a x [] (.ok (st, l2))) :
 Calls Tryz.prog 25 #[.pointer (some ⟨b, 0, none⟩), .int .u8 x.toNat] w fun e w' => ∃ v, e = .returned (.tuple #[v, .int .i64 0]) ∧ TokV w w' v ([(4, f, a, N, [])] ++ l2) ∧ (∃ F', RWdAt w' b st.a st.f st.w F' ∧ ∀ k ∈ F', k = b ∨ w.heap.size ≤ k) ∧ Touch [b] w w' := by
 have hen := iT b a f p lit _ l x N 0 w h hN hl ho hr
 have hfi := fun w => cX x.toNat w
 have hbl := fun w => cY x.toNat w
 have hout := fun W hW => gM b a f lit x st l2 W hW ha so
 have hwh := fun W hW hM => iL W b a 4 f a lit (.pointer (some ⟨p, 0, none⟩)) (.pointer none) hW N [] (.inr (.inl ⟨rfl, rfl, p, l, rfl, hM, hl, by rw [hr]⟩))
 obtain ⟨hl2, hor⟩ := wE so
 rw [if_neg (by decide)] at hen
 have h0 := h
 have hbw := aB h
 clear so
 replace hr := Box.mk hr
 unfold aY at h
 have ⟨c0,c1,c2,c3,c4,c5⟩ := cs6 h
 have ⟨f0,f1,f2,f3,f4,f5⟩ := fs6 h
 have lb := aB h
 try simp [cD] at c0 c1 c2 c3 c4 c5
 rcases hor with hb | ⟨hb, hk⟩
 · rw [hb] at hbl
   clear hb ho
   refine aA Tryz.func25 rfl ?_
   intro Q_ hQ_
   simp only [Tryz.ntmps25, ents_, Nat.reduceAdd, Nat.reduceSub]
   go_wp2_with fail
   refine hen.mono ?_
   rintro e w1 ⟨rfl, ht1⟩
   try go_simp
   go_wp2_with fail
   refine (hbl _).mono ?_
   rintro e w2 ⟨rfl, rfl⟩
   try go_simp
   have h1' := ht1.keep h0 (by simp)
   unfold aY at h0
   clear c0 c1 c2 c3 c4 c5 f0 f1 f2 f3 f4 f5 lb h
   have c0 := aN h1' 0
   have c1 := aN h1' 1
   have c2 := aN h1' 2
   have c3 := aN h1' 3
   have c4 := aN h1' 4
   have c5 := aN h1' 5
   have f0 := aQ h1' 0
   have f1 := aQ h1' 1
   have f2 := aQ h1' 2
   have f3 := aQ h1' 3
   have f4 := aQ h1' 4
   have f5 := aQ h1' 5
   have lb := aB h1'
   try simp [cD] at c0 c1 c2 c3 c4 c5
   go_wp2_with fail
   refine (hwh _ (ht1.keep h0 (by simp)) (ht1.keep hN (by simp))).mono ?_
   rintro e w2 ⟨rfl, h2, ht2⟩
   try go_simp
   have hT2 : Touch [b] w w2 := (ht1.mono (by simp)).trans ht2
   have h2' : aY (w2.alloc (.cells #[.int .i64 4, .int .i64 f, .int .i64 a, .int .i64 N, .string (str [])] 41)) b a 0 f (.pointer none) (.pointer none) lit := aW h2 _
   have hA2 : (w2.alloc (.cells #[.int .i64 4, .int .i64 f, .int .i64 a, .int .i64 N, .string (str [])] 41)).heap[w2.heap.size]? = some (.cells #[.int .i64 4, .int .i64 f, .int .i64 a, .int .i64 N, .string (str [])] 41 (0, 0)) := aZ _ _
   go_wp2_with fail
   refine (hout _ h2').mono ?_
   rintro e w4 ⟨v, rfl, ⟨A, C, g, rfl, hT, hg⟩, ⟨F', hF1, hF2⟩, ht4⟩
   try go_simp
   have hA4 := ht4.keep hA2 (by simp; have := hT2.size; omega)
   have hT4 : Touch [b] w w4 := (hT2.alloc _).trans ht4
   have hFl := hF1.lt
   have hw2 : w.heap.size ≤ w2.heap.size := hT2.size
   have ⟨r0,r1,r2,r3,r4⟩ := cs5 hA4
   try simp at r0 r1 r2 r3 r4
   have hg4 : ∀ j, g = some j → w.heap.size ≤ j := fun j hj => by have := hg j hj; simp at this; omega
   have hF4 : ∀ k ∈ F', k = b ∨ w.heap.size ≤ k := fun k hk => (hF2 k hk).imp id (fun q => by simp at q; omega)
   clear ht1 ht2 ht4 hT2 h2 h2' hA2 hout hwh hen hfi hbl hF2 hg h1' c0 c1 c2 c3 c4 c5 f0 f1 f2 f3 f4 f5 lb
   go_wp2_with (at_builtin; refine aJ eG rfl (.tmp 49) (.tmp 50) rfl rfl (gB w4 4 f a N []) rfl (SlAt.src (SlAt.keep hT ((Touch.refl [] w4).alloc _) (fun _ _ => by simp)) (sO l2)) (by simp; omega) ?_; intro ad5 c5 w5 g5 hs5 ht5 hn5)
   refine hQ_.ret (results_tmp2 rfl _ _ _) rfl ?_
   have hn : [(4, f, a, N, ([] : List UInt8))].length + l2.length = ([(4, f, a, N, ([] : List UInt8))] ++ l2).length := by simp; omega
   rw [← gY, hn] at hs5
   have hn1 : 1 + l2.length = ([(4, f, a, N, ([] : List UInt8))] ++ l2).length := by simp; omega
   rw [hn1]
   have hsz4 := hT4.size
   have hnew : w4.heap.size ∉ F' := fun q => by have := hFl _ q; omega
   have ht45 : Touch [] w4 w5 := Touch.step ((Touch.refl [] w4).alloc _) ht5 (fun y hy => .inr (by simp at hy; omega))
   refine ⟨_, rfl, ⟨ad5, c5, g5, rfl, hs5, fun j hj => ?_⟩, ⟨F', hF1.keep ht45 (fun _ _ => by simp), hF4⟩, hT4.trans (ht45.mono (by simp))⟩
   rcases hn5 with q | ⟨i, q1, q2⟩
   · rw [hj] at q; injection q with q; omega
   · rw [hj] at q1; injection q1 with q1; simp at q2; omega
 · rw [hb] at hbl
   clear hb ho
   generalize bN x.toNat = K at *
   refine aA Tryz.func25 rfl ?_
   intro Q_ hQ_
   simp only [Tryz.ntmps25, ents_, Nat.reduceAdd, Nat.reduceSub]
   go_wp2_with fail
   refine hen.mono ?_
   rintro e w1 ⟨rfl, ht1⟩
   try go_simp
   go_wp2_with fail
   refine (hbl _).mono ?_
   rintro e w2 ⟨rfl, rfl⟩
   try go_simp
   go_wp2_with fail
   refine (hfi _).mono ?_
   rintro e w2 ⟨rfl, rfl⟩
   try go_simp
   have h1' := ht1.keep h0 (by simp)
   unfold aY at h0
   clear c0 c1 c2 c3 c4 c5 f0 f1 f2 f3 f4 f5 lb h
   have c0 := aN h1' 0
   have c1 := aN h1' 1
   have c2 := aN h1' 2
   have c3 := aN h1' 3
   have c4 := aN h1' 4
   have c5 := aN h1' 5
   have f0 := aQ h1' 0
   have f1 := aQ h1' 1
   have f2 := aQ h1' 2
   have f3 := aQ h1' 3
   have f4 := aQ h1' 4
   have f5 := aQ h1' 5
   have lb := aB h1'
   try simp [cD] at c0 c1 c2 c3 c4 c5
   go_wp2_with fail
   refine (hwh _ (ht1.keep h0 (by simp)) (ht1.keep hN (by simp))).mono ?_
   rintro e w2 ⟨rfl, h2, ht2⟩
   try go_simp
   have hT2 : Touch [b] w w2 := (ht1.mono (by simp)).trans ht2
   have h2' : aY (w2.alloc (.cells #[.int .i64 4, .int .i64 f, .int .i64 a, .int .i64 N, .string (str [])] 41)) b a 0 f (.pointer none) (.pointer none) lit := aW h2 _
   have hA2 : (w2.alloc (.cells #[.int .i64 4, .int .i64 f, .int .i64 a, .int .i64 N, .string (str [])] 41)).heap[w2.heap.size]? = some (.cells #[.int .i64 4, .int .i64 f, .int .i64 a, .int .i64 N, .string (str [])] 41 (0, 0)) := aZ _ _
   go_wp2_with fail
   refine (hout _ h2').mono ?_
   rintro e w4 ⟨v, rfl, ⟨A, C, g, rfl, hT, hg⟩, ⟨F', hF1, hF2⟩, ht4⟩
   try go_simp
   have hA4 := ht4.keep hA2 (by simp; have := hT2.size; omega)
   have hT4 : Touch [b] w w4 := (hT2.alloc _).trans ht4
   have hFl := hF1.lt
   have hw2 : w.heap.size ≤ w2.heap.size := hT2.size
   have ⟨r0,r1,r2,r3,r4⟩ := cs5 hA4
   try simp at r0 r1 r2 r3 r4
   have hg4 : ∀ j, g = some j → w.heap.size ≤ j := fun j hj => by have := hg j hj; simp at this; omega
   have hF4 : ∀ k ∈ F', k = b ∨ w.heap.size ≤ k := fun k hk => (hF2 k hk).imp id (fun q => by simp at q; omega)
   clear ht1 ht2 ht4 hT2 h2 h2' hA2 hout hwh hen hfi hbl hF2 hg h1' c0 c1 c2 c3 c4 c5 f0 f1 f2 f3 f4 f5 lb
   go_wp2_with (at_builtin; refine aJ eG rfl (.tmp 49) (.tmp 50) rfl rfl (gB w4 4 f a N []) rfl (SlAt.src (SlAt.keep hT ((Touch.refl [] w4).alloc _) (fun _ _ => by simp)) (sO l2)) (by simp; omega) ?_; intro ad5 c5 w5 g5 hs5 ht5 hn5)
   refine hQ_.ret (results_tmp2 rfl _ _ _) rfl ?_
   have hn : [(4, f, a, N, ([] : List UInt8))].length + l2.length = ([(4, f, a, N, ([] : List UInt8))] ++ l2).length := by simp; omega
   rw [← gY, hn] at hs5
   have hn1 : 1 + l2.length = ([(4, f, a, N, ([] : List UInt8))] ++ l2).length := by simp; omega
   rw [hn1]
   have hsz4 := hT4.size
   have hnew : w4.heap.size ∉ F' := fun q => by have := hFl _ q; omega
   have ht45 : Touch [] w4 w5 := Touch.step ((Touch.refl [] w4).alloc _) ht5 (fun y hy => .inr (by simp at hy; omega))
   refine ⟨_, rfl, ⟨ad5, c5, g5, rfl, hs5, fun j hj => ?_⟩, ⟨F', hF1.keep ht45 (fun _ _ => by simp), hF4⟩, hT4.trans (ht45.mono (by simp))⟩
   rcases hn5 with q | ⟨i, q1, q2⟩
   · rw [hj] at q; injection q with q; omega
   · rw [hj] at q1; injection q1 with q1; simp at q2; omega
theorem oD (b a f : Nat) (x : UInt8) (wd : Wd) (F : List Nat) (k : Int) (w : World) (h : RWdAt w b a f wd F) (ok : wd.Ok a) (ha : a ≤ 90000) (s : Step a f x wd (.error k)) :
 Calls Tryz.prog 25 #[.pointer (some ⟨b, 0, none⟩), .int .u8 x.toNat] w fun e w' => e = .returned (.tuple #[.slice none 0 0, .int .i64 k]) ∧ RWdAt w' b a f wd F ∧ Touch F w w' := by
 have hF0 : ∀ {w' : World}, Touch [] w w' → RWdAt w' b a f wd F ∧ Touch F w w' := fun t => ⟨h.keep t (fun _ _ => by simp), t.mono (by simp)⟩
 generalize hr : (Except.error k : Except Int (Lx.St × List Tok)) = r at s
 cases s with
 | no r so =>
  obtain ⟨⟨f', lit, h1⟩, rfl⟩ := h
  cases so with
  | bad q1 q2 =>
   injection hr with hr
   subst hr
   refine (mQ b a f' lit x w (fun u v w' => u = .slice none 0 0 ∧ v = .int .i64 2 ∧ w = w') h1 ((oB b a 0 f' lit _ _ x.toNat w h1 q1 q2).mono ?_)).mono ?_
   · rintro e w' ⟨rfl, rfl⟩
     exact ⟨_, _, rfl, rfl, rfl, rfl⟩
   · rintro e w' ⟨u, v, rfl, rfl, rfl, rfl⟩
     exact ⟨rfl, hF0 (Touch.refl _ _)⟩
  | _ => cases hr
 | litbad kk n c q1 q2 =>
  injection hr with hr
  subst hr
  obtain ⟨h1, rfl⟩ := id h
  obtain ⟨ok1, ok2⟩ := ok
  refine (kW b a kk f n c x w h1 ok1 q1 q2).mono ?_
  rintro e w' ⟨rfl, rfl⟩
  exact ⟨rfl, hF0 (Touch.refl _ _)⟩
 | figbad t n kk q1 q2 q3 =>
  injection hr with hr
  subst hr
  obtain ⟨p, lit, h1, h2, rfl, h4⟩ := h
  obtain ⟨_, _, ok3, ok4⟩ := ok
  refine (kY b a f p lit t.text x kk w h1 h2 (by omega) q1 h4 q3 (lI ok3 q2)).mono ?_
  rintro e w' ⟨rfl, q4, q5⟩
  exact ⟨rfl, ⟨p, lit, q5.keep h1 (by simpa using h4), q4, rfl, h4⟩, q5.mono (fun y hy => .inl (by simp at hy; simp [hy]))⟩
 | figerr t n N E q1 q2 q3 q4 =>
  injection hr with hr
  subst hr
  obtain ⟨p, lit, h1, h2, hFe, h4⟩ := id h
  obtain ⟨_, _, ok3, ok4⟩ := ok
  refine (kX b a f p lit t.text x N E w h1 h2 (by omega) q1 q3 q4).mono ?_
  rintro e w' ⟨rfl, q5⟩
  exact ⟨rfl, hF0 q5⟩
 | figend t n N r q1 q2 q3 so =>
  obtain ⟨p, lit, h1, h2, hFe, h4⟩ := id h
  obtain ⟨_, _, ok3, ok4⟩ := ok
  cases so with
  | bad q4 q5 =>
   injection hr with hr
   subst hr
   refine (kZ b a f p lit t.text x N w h1 h2 (by omega) q1 q3 q4 q5).mono ?_
   rintro e w' ⟨rfl, q6⟩
   exact ⟨rfl, hF0 q6⟩
  | _ => cases hr
 | quobad q kk q1 =>
  injection hr with hr
  subst hr
  obtain ⟨p, lit, go, gb, gh, vo, vb, vh, h1, h2, hFe, h4⟩ := id h
  obtain ⟨ok1, ok2⟩ := ok
  refine (kU b a f p lit q go gb gh vo vb vh x kk w h1 h2 ok1 q1 (mK ok1 q1)).mono ?_
  rintro e w' ⟨rfl, q5⟩
  exact ⟨rfl, hF0 q5⟩
 | _ => cases hr
def RPushR (w : World) (b : Nat) (F : List Nat) (st : Lx.St) (l : List Tok) (e : Ending) (w' : World) : Prop :=
 ∃ v, e = .returned (.tuple #[v, .int .i64 0]) ∧ TokV w w' v l ∧ (∃ F', RWdAt w' b st.a st.f st.w F' ∧ ∀ k ∈ F', k ∈ F ∨ w.heap.size ≤ k) ∧ Touch F w w'
theorem Fr.own {w : World} {g g' : Option Nat} (h : Fr w g g') {F : List Nat} (hF : ∀ k, g = some k → k ∈ F) : ∀ k ∈ g'.toList, k ∈ F ∨ w.heap.size ≤ k := fun k hk => by
 cases hg : g' with
 | none => rw [hg] at hk; simp at hk
 | some j =>
  rw [hg] at hk
  simp at hk
  subst hk
  exact (h k hg).imp (hF k) id
theorem oC (b a f : Nat) (x : UInt8) (wd : Wd) (F : List Nat) (st : Lx.St) (l : List Tok) (w : World) (h : RWdAt w b a f wd F) (ok : wd.Ok a) (ha : a ≤ 90000) (s : Step a f x wd (.ok (st, l))) :
 Calls Tryz.prog 25 #[.pointer (some ⟨b, 0, none⟩), .int .u8 x.toNat] w (RPushR w b F st l) := by
 have hFl := h.lt
 have hbF := h.at.1
 have hbl := hFl b hbF
 generalize hr : (Except.ok (st, l) : Except Int (Lx.St × List Tok)) = r at s
 cases s with
 | no r so =>
  obtain ⟨⟨f', lit, h1⟩, rfl⟩ := h
  subst hr
  refine (mQ b a f' lit x w (fun u v w' => v = .int .i64 0 ∧ TokV w w' u l ∧ (∃ F', RWdAt w' b st.a st.f st.w F' ∧ ∀ k ∈ F', k = b ∨ w.heap.size ≤ k) ∧ Touch [b] w w') h1 ((gM b a f' lit x st l w h1 (by omega) so).mono ?_)).mono ?_
  · rintro e w' ⟨v, rfl, q1, q2, q3⟩
    exact ⟨_, _, rfl, rfl, q1, q2, q3⟩
  · rintro e w' ⟨u, v, rfl, rfl, q1, ⟨F', q2, q3⟩, q4⟩
    exact ⟨_, rfl, q1, ⟨F', q2, fun k hk => (q3 k hk).imp (fun q => by simp [q]) id⟩, q4⟩
 | litend k n q1 q2 =>
  injection hr with hr
  injection hr with hr1 hr2
  subst hr1 hr2
  obtain ⟨h1, rfl⟩ := h
  obtain ⟨ok1, ok2⟩ := ok
  refine (kV b a k f n x w h1 ok1 q1 q2 (by omega)).mono ?_
  rintro e w' ⟨v, rfl, p1, ⟨lit, p2⟩, p3⟩
  exact ⟨_, rfl, p1, ⟨[b], ⟨⟨_, _, p2⟩, rfl⟩, fun k hk => .inl hk⟩, p3⟩
 | litmore k n q1 q2 =>
  injection hr with hr
  injection hr with hr1 hr2
  subst hr1 hr2
  obtain ⟨h1, rfl⟩ := h
  obtain ⟨ok1, ok2⟩ := ok
  refine (jT b a k f n x w h1 ok1 q1 q2 (by omega)).mono ?_
  rintro e w' ⟨rfl, p1, p2⟩
  exact ⟨_, rfl, TokV.nil _ _, ⟨[b], ⟨p1, rfl⟩, fun k hk => .inl hk⟩, p2⟩
 | figmore t t' n n' q1 q2 q3 q4 =>
  injection hr with hr
  injection hr with hr1 hr2
  subst hr1 hr2
  obtain ⟨p, lit, h1, h2, rfl, h4⟩ := h
  obtain ⟨_, _, ok3, ok4⟩ := ok
  refine (jU b a f p lit t.text t'.text x w h1 h2 (by omega) q1 h4 q3 (by omega)).mono ?_
  rintro e w' ⟨rfl, p1, p2, p3⟩
  exact ⟨_, rfl, TokV.nil _ _, ⟨[b, p], ⟨p, lit, p1, p2, rfl, h4⟩, fun k hk => .inl hk⟩, p3⟩
 | figend t n N r q1 q2 q3 so =>
  subst hr
  obtain ⟨p, lit, h1, h2, rfl, h4⟩ := h
  obtain ⟨_, _, ok3, ok4⟩ := ok
  obtain ⟨l', so', rfl⟩ := wD so
  refine (rR b a f p lit t.text x N st l' w h1 h2 (by omega) q1 q3 (by omega) so').mono ?_
  rintro e w' ⟨v, rfl, p1, ⟨F', p2, p3⟩, p4⟩
  exact ⟨v, rfl, p1, ⟨F', p2, fun k hk => (p3 k hk).imp (fun q => by simp [q]) id⟩, p4.mono (by simp)⟩
 | quomore q q' q1 =>
  injection hr with hr
  injection hr with hr1 hr2
  subst hr1 hr2
  obtain ⟨p, lit, go, gb, gh, vo, vb, vh, h1, h2, rfl, h4⟩ := h
  obtain ⟨ok1, ok2⟩ := ok
  have hb1 : b ∉ p :: go.toList := fun q => h4 (by simp at q ⊢; rcases q with q | q <;> simp [q])
  refine (jS b a f p lit q q' go gb gh vo vb vh x w h1 h2 ok1 (by omega) q1 hb1 (by omega)).mono ?_
  rintro e w' ⟨rfl, w2, p1, ⟨go', gb', gh', vo', vb', vh', p2, n1, n2, n3, p3⟩, rfl⟩
  have k1 : ∀ k, go' = some k → k ≠ b := n1.ne (fun k hk q => h4 (by subst q; simp [hk])) hbl
  have k2 : ∀ k, gb' = some k → k ≠ b := n2.ne (fun k hk q => h4 (by subst q; simp [hk])) hbl
  have k3 : ∀ k, gh' = some k → k ≠ b := n3.ne (fun k hk q => h4 (by subst q; simp [hk])) hbl
  have hpb : p ≠ b := fun q => h4 (by simp [q])
  refine ⟨_, rfl, TokV.nil _ _, ⟨b :: p :: (go'.toList ++ (gb'.toList ++ gh'.toList)), ⟨p, lit, go', gb', gh', vo', vb', vh', aF p1 0 _, p2.keep (F := [b]) ((Touch.refl _ _).setCell (by simp) _) (by simpa using hpb) (fun k hk q => k1 k hk (List.mem_singleton.1 q)) (fun k hk q => k2 k hk (List.mem_singleton.1 q)) (fun k hk q => k3 k hk (List.mem_singleton.1 q)), rfl, ?_⟩, fun k hk => ?_⟩, (p3.mono (fun y hy => .inl (by simp at hy ⊢; rcases hy with hy | hy <;> simp [hy]))).setCell (by simp) _⟩
  · intro qq
    simp at qq
    rcases qq with qq | qq | qq | qq
    · exact hpb qq.symm
    · exact k1 b qq rfl
    · exact k2 b qq rfl
    · exact k3 b qq rfl
  · simp only [List.mem_cons, List.mem_append] at hk
    rcases hk with rfl | rfl | hk | hk | hk
    · exact .inl (by simp)
    · exact .inl (by simp)
    · exact n1.own (fun k hk => by simp [hk]) k hk
    · exact n2.own (fun k hk => by simp [hk]) k hk
    · exact n3.own (fun k hk => by simp [hk]) k hk
 | quoend q q' q1 =>
  injection hr with hr
  injection hr with hr1 hr2
  subst hr1 hr2
  obtain ⟨p, lit, go, gb, gh, vo, vb, vh, h1, h2, rfl, h4⟩ := h
  obtain ⟨ok1, ok2⟩ := ok
  refine (kT b a f p lit q q' go gb gh vo vb vh x w h1 h2 ok1 (by omega) q1 h4 hbl (by omega)).mono ?_
  rintro e w' ⟨v, rfl, p1, ⟨lit', p2⟩, p3⟩
  exact ⟨_, rfl, p1, ⟨[b], ⟨⟨_, _, p2⟩, rfl⟩, fun k hk => .inl (by rw [List.mem_singleton.1 hk]; simp)⟩, p3.mono (fun y hy => .inl (by simp at hy ⊢; rcases hy with hy | hy | hy <;> simp [hy]))⟩
 | litbad => cases hr
 | figbad => cases hr
 | figerr => cases hr
 | quobad => cases hr
theorem vO (b a f : Nat) (wd : Wd) (F : List Nat) (w : World) (h : RWdAt w b a f wd F) (ok : wd.Ok a) : Calls Tryz.prog 27 #[.pointer (some ⟨b, 0, none⟩)] w fun e w' => e = .returned (.int .i64 (lenW wd)) ∧ w = w' := by
 by_cases h5 : dX wd = 5
 · cases wd with
   | quo s =>
    obtain ⟨p, lit, go, gb, gh, vo, vb, vh, h1, h2, rfl, h4⟩ := h
    obtain ⟨A, C, rfl, _⟩ := h2.ro.form
    have h3 := aN h2.rc 0
    have lp := aB h2.rc
    simp [bC] at h3
    unfold aY at h1
    have ⟨c0,c1,c2,c3,c4,c5⟩ := cs6 h1
    have ⟨f0,f1,f2,f3,f4,f5⟩ := fs6 h1
    have lb := aB h1
    try simp [cD] at c0 c1 c2 c3 c4 c5
    refine aA Tryz.func27 rfl ?_
    intro Q_ hQ_
    simp only [Tryz.ntmps27, ents_, Nat.reduceAdd, Nat.reduceSub]
    go_wp2
    refine hQ_.ret (results_tmp rfl _ _ _) rfl ?_
    exact ⟨rfl, rfl⟩
   | no => cases h5
   | lit k n => exact absurd h5 (by have := ok.1; show k ≠ 5; omega)
   | fig t n => cases h5
 · have hl : lenW wd = 0 := by cases wd with
    | quo s => exact absurd rfl h5
    | _ => rfl
   obtain ⟨_, f', nv, sv, lit, h1⟩ := h.at
   rw [hl]
   have t5 : (((dX wd : Nat) : Int) != 5) = true := by simp; omega
   clear hl h5 h ok
   generalize dX wd = kk at *
   unfold aY at h1
   have ⟨c0,c1,c2,c3,c4,c5⟩ := cs6 h1
   have ⟨f0,f1,f2,f3,f4,f5⟩ := fs6 h1
   have lb := aB h1
   try simp [cD] at c0 c1 c2 c3 c4 c5
   refine aA Tryz.func27 rfl ?_
   intro Q_ hQ_
   simp only [Tryz.ntmps27, ents_, Nat.reduceAdd, Nat.reduceSub]
   go_wp2
   refine hQ_.ret (results_tmp rfl _ _ _) rfl ?_
   exact ⟨rfl, rfl⟩
theorem rend_wd (b a f : Nat) (wd : Wd) (F : List Nat) (w : World) (h : RWdAt w b a f wd F) (ok : wd.Ok a) (ha : a ≤ 90000) : Calls Tryz.prog 28 #[.pointer (some ⟨b, 0, none⟩)] w fun e w' => ∃ v, e = .returned (.tuple #[v, .int .i64 (fin a f wd).2]) ∧ TokV w w' v (fin a f wd).1 ∧ Touch [] w w' := by
 cases wd with
 | no =>
  obtain ⟨⟨f', lit, h1⟩, rfl⟩ := h
  unfold aY at h1
  have ⟨c0,c1,c2,c3,c4,c5⟩ := cs6 h1
  have ⟨f0,f1,f2,f3,f4,f5⟩ := fs6 h1
  have lb := aB h1
  try simp [cD] at c0 c1 c2 c3 c4 c5
  refine aA Tryz.func28 rfl ?_
  intro Q_ hQ_
  simp only [Tryz.ntmps28, ents_, Nat.reduceAdd, Nat.reduceSub]
  go_wp2
  refine hQ_.ret (results_tmp2 rfl _ _ _) rfl ?_
  exact ⟨_, rfl, TokV.nil _ _, Touch.refl _ _⟩
 | lit k n =>
  obtain ⟨h1, rfl⟩ := h
  obtain ⟨ok1, ok2⟩ := ok
  have t0 : ((k : Int) == 0) = false := by simp; omega
  have t4 : ((k : Int) == 4) = false := by simp; omega
  clear ok1 ok2
  unfold aY at h1
  have ⟨c0,c1,c2,c3,c4,c5⟩ := cs6 h1
  have ⟨f0,f1,f2,f3,f4,f5⟩ := fs6 h1
  have lb := aB h1
  try simp [cD] at c0 c1 c2 c3 c4 c5
  refine aA Tryz.func28 rfl ?_
  intro Q_ hQ_
  simp only [Tryz.ntmps28, ents_, Nat.reduceAdd, Nat.reduceSub]
  go_wp2
  refine hQ_.ret (results_tmp2 rfl _ _ _) rfl ?_
  exact ⟨_, rfl, TokV.nil _ _, Touch.refl _ _⟩
 | quo s =>
  obtain ⟨p, lit, go, gb, gh, vo, vb, vh, h1, h2, rfl, h4⟩ := h
  unfold aY at h1
  have ⟨c0,c1,c2,c3,c4,c5⟩ := cs6 h1
  have ⟨f0,f1,f2,f3,f4,f5⟩ := fs6 h1
  have lb := aB h1
  try simp [cD] at c0 c1 c2 c3 c4 c5
  refine aA Tryz.func28 rfl ?_
  intro Q_ hQ_
  simp only [Tryz.ntmps28, ents_, Nat.reduceAdd, Nat.reduceSub]
  go_wp2
  refine hQ_.ret (results_tmp2 rfl _ _ _) rfl ?_
  exact ⟨_, rfl, TokV.nil _ _, Touch.refl _ _⟩
 | fig t n =>
  obtain ⟨p, lit, h1, h2, rfl, h4⟩ := h
  obtain ⟨hv, ht, ok3, ok4⟩ := ok
  obtain ⟨N, E, hNE⟩ : ∃ N E, Num.rend t.text = (N, E) := ⟨_, _, rfl⟩
  have hen := fun W hW => lC p t.text W hW (by omega)
  rw [hNE] at hen
  have hfin : fin a f (.fig t n) = if E = 0 then ([(4, f, a, N, [])], 0) else ([], E) := by
   show (if (Num.rend t.text).2 = 0 then ([(4, f, a, (Num.rend t.text).1, [])], (0 : Int)) else ([], (Num.rend t.text).2)) = _
   rw [hNE]
  rw [hfin]
  clear hNE hfin hv ht ok3
  have h0 := h1
  unfold aY at h1
  have ⟨c0,c1,c2,c3,c4,c5⟩ := cs6 h1
  have ⟨f0,f1,f2,f3,f4,f5⟩ := fs6 h1
  have lb := aB h1
  try simp [cD] at c0 c1 c2 c3 c4 c5
  by_cases he : E = 0
  · rw [if_pos he]
    have e0 : (E != 0) = false := by simpa using he
    clear he
    refine aA Tryz.func28 rfl ?_
    intro Q_ hQ_
    simp only [Tryz.ntmps28, ents_, Nat.reduceAdd, Nat.reduceSub]
    go_wp2_with fail
    refine (hen _ h2).mono ?_
    rintro e w2 ⟨rfl, ht2⟩
    try go_simp
    have h3 : aY w2 b a 4 f (.pointer (some ⟨p, 0, none⟩)) (.pointer none) lit := ht2.keep h0 (by simp)
    clear c0 c1 c2 c3 c4 c5 f0 f1 f2 f3 f4 f5 lb
    clear h1 h0 h2 hen
    have hc0 : ∀ w', Touch [] w2 w' → w'.cell? ⟨b, 0, none⟩ = some (.int .i64 a) := fun w' t => aN (t.keep h3 (by simp)) 0
    have hc2 : ∀ w', Touch [] w2 w' → w'.cell? ⟨b, 2, none⟩ = some (.int .i64 f) := fun w' t => aN (t.keep h3 (by simp)) 2
    go_upto_region 8 with (fail)
    go_region_held3 (fun w' => Touch [] w2 w')
     (repeat (first | (with_reducible exact Touch.refl _ _) | (with_reducible assumption) | (with_reducible apply Touch.drew) | (with_reducible apply Touch.alloc)))
     (fail)
    all_goals
     go_wp2
     refine hQ_.ret (results_tmp2 rfl _ _ _) rfl ?_
     refine ⟨_, rfl, ⟨_, _, _, rfl, gB w2.drew 4 f a N [], fun j hj => by injection hj with hj; have := ht2.size; simp at hj; omega⟩, ?_⟩
     repeat (first | (with_reducible exact ht2) | (with_reducible apply Touch.drew) | (with_reducible apply Touch.alloc))
  · rw [if_neg he]
    have e0 : (E != 0) = true := by simpa using he
    clear he
    refine aA Tryz.func28 rfl ?_
    intro Q_ hQ_
    simp only [Tryz.ntmps28, ents_, Nat.reduceAdd, Nat.reduceSub]
    go_wp2_with fail
    refine (hen _ h2).mono ?_
    rintro e w2 ⟨rfl, ht2⟩
    try go_simp
    go_wp2
    refine hQ_.ret (results_tmp2 rfl _ _ _) rfl ?_
    exact ⟨_, rfl, TokV.nil _ _, ht2⟩
end Go.Proofs.YthdncmagfgoboaaGreatDoor
