/- All, of the chapter's examples; awake. -/
import Derived.Test.YthdncmagfgoboaaGreatDoorLexD
import Derived.BigQuiet
namespace Go.Proofs.YthdncmagfgoboaaGreatDoor
open Go.RowKit
set_option maxRecDepth 100000
set_option maxHeartbeats 8000000
set_option linter.unusedVariables false
set_option linter.unusedSimpArgs false

def n1 : Num.St := ⟨3, 1, 0, 0, false, 0⟩
def n12 : Num.St := ⟨3, 12, 0, 0, false, 0⟩
def n1p : Num.St := ⟨4, 1, 0, 0, false, 0⟩
def n15 : Num.St := ⟨5, 15, 0, 1, false, 0⟩
theorem ok1 : n1.OkL 1 := ⟨by decide, by decide, by decide, by decide, by decide⟩
theorem ok12 : n12.OkL 2 := ⟨by decide, by decide, by decide, by decide, by decide⟩
theorem ok1p : n1p.OkL 2 := ⟨by decide, by decide, by decide, by decide, by decide⟩
theorem ok15 : n15.OkL 3 := ⟨by decide, by decide, by decide, by decide, by decide⟩
theorem f49 {w0 W : World} {b a f : Nat} (h : OutSt w0 W b a f) (ha : a ≤ 1000000000) : Calls Tryz.prog 17 #[.pointer (some ⟨b, 0, none⟩), .int .u8 49] W fun e w' => e = .returned (.tuple #[.slice none 0 0, .int .i64 0]) ∧ ∃ p g tv, FigSt w0 w' b (a + 1) a [49] n1 p g tv :=
  fig_first h 49 n1 ha (by decide) (by rfl) ok1
theorem f50 {w0 W : World} {b a f p : Nat} {g : Option Nat} {tv : Value} (h : FigSt w0 W b a f [49] n1 p g tv) (ha : a ≤ 1000000000) : Calls Tryz.prog 17 #[.pointer (some ⟨b, 0, none⟩), .int .u8 50] W fun e w' => e = .returned (.tuple #[.slice none 0 0, .int .i64 0]) ∧ ∃ g tv, FigSt w0 w' b (a + 1) f [49, 50] n12 p g tv :=
  fig_own h 50 n12 ha (by decide) (by decide) (by rfl) ok12
theorem f46 {w0 W : World} {b a f p : Nat} {g : Option Nat} {tv : Value} (h : FigSt w0 W b a f [49] n1 p g tv) (ha : a ≤ 1000000000) : Calls Tryz.prog 17 #[.pointer (some ⟨b, 0, none⟩), .int .u8 46] W fun e w' => e = .returned (.tuple #[.slice none 0 0, .int .i64 0]) ∧ ∃ g tv, FigSt w0 w' b (a + 1) f [49, 46] n1p p g tv :=
  fig_own h 46 n1p ha (by decide) (by decide) (by rfl) ok1p
theorem f53 {w0 W : World} {b a f p : Nat} {g : Option Nat} {tv : Value} (h : FigSt w0 W b a f [49, 46] n1p p g tv) (ha : a ≤ 1000000000) : Calls Tryz.prog 17 #[.pointer (some ⟨b, 0, none⟩), .int .u8 53] W fun e w' => e = .returned (.tuple #[.slice none 0 0, .int .i64 0]) ∧ ∃ g tv, FigSt w0 w' b (a + 1) f [49, 46, 53] n15 p g tv :=
  fig_own h 53 n15 ha (by decide) (by decide) (by rfl) ok15
theorem f32 {w0 W : World} {b a f p : Nat} {g : Option Nat} {tv : Value} (h : FigSt w0 W b a f [49, 46, 53] n15 p g tv) : Calls Tryz.prog 17 #[.pointer (some ⟨b, 0, none⟩), .int .u8 32] W fun e w' => e = .returned (.tuple #[.slice none 0 0, .int .i64 7]) ∧ Touch [] w0 w' :=
  fig_end_num h 32 0 (by decide) (by decide) (by rfl)
theorem f44 {w0 W : World} {b a f p : Nat} {g : Option Nat} {tv : Value} (h : FigSt w0 W b a f [49, 50] n12 p g tv) (ha : a ≤ 1000000000) : Calls Tryz.prog 17 #[.pointer (some ⟨b, 0, none⟩), .int .u8 44] W fun e w' => (∃ ad cc g', e = .returned (.tuple #[.slice ad 2 cc, .int .i64 0]) ∧ ToksAt w' (.slice ad 2 cc) [(4, f, a, 12, []), (11, a, a + 1, 0, [])] g' ∧ (∀ j, g' = some j → j ≠ b ∧ w0.heap.size ≤ j)) ∧ OutSt w0 w' b (a + 1) a :=
  fig_end_tok h 44 12 11 ha (by decide) (by decide) (by rfl) (by decide) (by decide) (by decide)

theorem lexall_12 (A c : Nat) (w : World) (hc : ∀ w', Touch [] w w' → w'.cell? ⟨A, 0, none⟩ = some (.int .u8 49) ∧ w'.cell? ⟨A, 1, none⟩ = some (.int .u8 50) ∧ w'.cell? ⟨A, 2, none⟩ = some (.int .u8 44)) :
    Calls Tryz.prog 12 #[.slice (some ⟨A, 0, none⟩) 3 c] w fun e w' => (∃ ad cc g, e = .returned (.tuple #[.slice ad 2 cc, .int .i64 3, .int .i64 0]) ∧ ToksAt w' (.slice ad 2 cc) [(4, 0, 2, 12, []), (11, 2, 3, 0, [])] g) ∧ Touch [] w w' := by
  let kp_ : Exit → Act → World → Prop := bodyPost Tryz.prog Tryz.f12 (fun _ _ => True)
  refine calls_post Tryz.func12 rfl ?_
  intro Q_ hQ_
  simp only [Tryz.ntmps12, List.size_toArray, List.length_cons, List.length_nil, Nat.reduceAdd, Nat.reduceSub, Array.replicate_succ, Array.replicate_zero, List.push_toArray, List.append_toArray, List.nil_append, List.cons_append]
  go_wp2_with fail
  refine (lexnew_any _).mono ?_
  rintro e w1 ⟨⟨b, rfl, hb, hx⟩, ht1⟩
  try go_simp
  have h0 : OutSt w w1 b 0 0 := ⟨hx, hb, ht1⟩
  clear hx hb ht1
  go_wp2_with fail
  go_loopw [16, 6] (fun v16 v6 wr => ∃ i : Nat, v16 = .int .i64 i ∧ ((i = 0 ∧ v6 = .slice none 0 0 ∧ OutSt w wr b 0 0) ∨ (i = 1 ∧ v6 = .slice none 0 0 ∧ ∃ p g tv, FigSt w wr b 1 0 [49] n1 p g tv) ∨ (i = 2 ∧ v6 = .slice none 0 0 ∧ ∃ p g tv, FigSt w wr b 2 0 [49, 50] n12 p g tv) ∨
    (i = 3 ∧ (∃ ad cc g, v6 = .slice ad 2 cc ∧ ToksAt wr (.slice ad 2 cc) [(4, 0, 2, 12, []), (11, 2, 3, 0, [])] g ∧ (∀ j, g = some j → w.heap.size ≤ j)) ∧ OutSt w wr b 3 2))) (fun v16 v6 _ => 3 - (intOf v16).toNat)
  case atStart => exact ⟨0, rfl, .inl ⟨rfl, rfl, h0⟩⟩
  case round =>
    clear h0
    obtain ⟨i, rfl, h⟩ := hrel
    rcases h with ⟨rfl, rfl, h⟩ | ⟨rfl, rfl, p, g, tv, h⟩ | ⟨rfl, rfl, p, g, tv, h⟩ | ⟨rfl, ⟨ad, cc, g, rfl, hk, hgw⟩, h⟩
    · have hz := (hc _ h.t).1
      go_wp2_with fail
      refine (f49 h (by omega)).mono ?_
      rintro e w2 ⟨rfl, p, g, tv, h2⟩
      try go_simp
      go_wp2
      exact ⟨⟨1, rfl, .inr (.inl ⟨rfl, rfl, p, g, tv, h2⟩)⟩, by decide⟩
    · have hz := (hc _ h.t).2.1
      go_wp2_with fail
      refine (f50 h (by omega)).mono ?_
      rintro e w2 ⟨rfl, g, tv, h2⟩
      try go_simp
      go_wp2
      exact ⟨⟨2, rfl, .inr (.inr (.inl ⟨rfl, rfl, p, g, tv, h2⟩))⟩, by decide⟩
    · have hz := (hc _ h.t).2.2
      go_wp2_with fail
      refine (f44 h (by omega)).mono ?_
      rintro e w2 ⟨⟨ad, cc, g, rfl, hk, _⟩, h2⟩
      try go_simp
      go_wp2_with (at_builtin; refine wpList_append_sl sliceT_tok rfl (.tmp 31) (.tmp 32) rfl rfl (SlAt.nil _ _ _) rfl (SlAt.src hk (by simp [tokCells, Value.oneCell'])) (by simp) ?_; intro ad4 c4 w4 g4 hs4 ht4 hn4)
      exact ⟨⟨3, rfl, .inr (.inr (.inr ⟨rfl, ⟨ad4, c4, g4, rfl, hs4, fun j hj => by
        rcases hn4 with q | ⟨k, q1, q2⟩
        · rw [hj] at q; cases q
        · rw [hj] at q1; injection q1 with q1; subst q1; have := h2.t.size; omega⟩, ht4.keep h2.x (by simp), h2.wb, h2.t.trans ht4⟩))⟩, by decide⟩
    · go_wp2_with fail
      refine (lexend_nil b 3 2 _ h.x).mono ?_
      rintro e w2 ⟨rfl, rfl⟩
      try go_simp
      go_wp2_with (at_builtin; refine wpList_append_sl sliceT_tok rfl (.tmp 45) (.tmp 46) rfl rfl hk rfl (⟨rfl, by simp, .inl ⟨rfl, rfl⟩⟩ : SrcAt _ 5 (.slice none 0 0) 0 []) (by simp) ?_; intro ad4 c4 w4 g4 hs4 ht4 hn4)
      (try simp only [Exit.inBlock, Exit.then])
      refine hQ_.ret (results_tmp3 rfl _ _ _) rfl ?_
      exact ⟨⟨ad4, c4, g4, rfl, (by simp at hs4; exact hs4)⟩, h.t.step ht4 (fun y hy => .inr (by
        cases g with
        | none => simp at hy
        | some j => simp at hy; subst hy; exact hgw _ rfl))⟩

/-- a literal under way -/
structure LitSt (w0 W : World) (b a q n : Nat) : Prop where
  x : LexAt W b a 0 (litV q)
  l : LitAt W q [116, 114, 117, 101] n 2
  bq : b ≠ q
  wq : w0.heap.size ≤ q
  wb : w0.heap.size ≤ b
  t : Touch [] w0 W
theorem l116 {w0 W : World} {b : Nat} (h : OutSt w0 W b 0 0) : Calls Tryz.prog 17 #[.pointer (some ⟨b, 0, none⟩), .int .u8 116] W fun e w' => e = .returned (.tuple #[.slice none 0 0, .int .i64 0]) ∧ ∃ q, LitSt w0 w' b 1 q 1 := by
  have hlb := block_lt h.x
  have hsz := h.t.size
  have hO := outside_lit b 0 0 .nilIface 116 2 none 0 0 W h.x (by decide) (by decide)
  refine (lexPush_ok b 0 0 116 W (fun v0 v w' => v0 = .slice none 0 0 ∧ ∃ q, v = litV q ∧ LitAt w' q [116, 114, 117, 101] 1 2 ∧ W.heap.size ≤ q ∧ Touch [b] W w') (by omega) (lexpush_nil b 0 0 116 W _ h.x (hO.mono ?_))).mono ?_
  · rintro e w' ⟨rfl, ⟨q, q1, q2, q3⟩, q4⟩
    exact ⟨_, _, rfl, _, _, rfl, q1, rfl, q, rfl, q2, q3, q4⟩
  · rintro e w' ⟨v0, v, w1, rfl, ⟨rfl, q, rfl, q2, q3, q4⟩, h6, rfl⟩
    exact ⟨rfl, q, h6, set_other q2 (show b ≠ q by omega) _, by omega, by omega, h.wb, h.t.step (q4.setCell (by simp) _) (fun y hy => .inr (by rw [List.mem_singleton.1 hy]; exact h.wb))⟩
theorem lmore {w0 W : World} {b a q n : Nat} (h : LitSt w0 W b a q n) (c : UInt8) (ha : a ≤ 1000000000) (hc : ([116, 114, 117, 101] : List UInt8)[n]? = some c) (hn : n + 1 < 4) : Calls Tryz.prog 17 #[.pointer (some ⟨b, 0, none⟩), .int .u8 c.toNat] W fun e w' => e = .returned (.tuple #[.slice none 0 0, .int .i64 0]) ∧ LitSt w0 w' b (a + 1) q (n + 1) := by
  have hO := lexpush_lit b a 0 q [116, 114, 117, 101] n 2 c W h.x h.l h.bq hc hn (by decide)
  refine (lexPush_ok b a 0 c.toNat W (fun v0 v w' => v0 = .slice none 0 0 ∧ v = litV q ∧ LitAt w' q [116, 114, 117, 101] (n + 1) 2 ∧ Touch [q] W w') ha (hO.mono ?_)).mono ?_
  · rintro e w' ⟨rfl, q1, q2, q3⟩
    exact ⟨_, _, rfl, q1, rfl, rfl, q2, q3⟩
  · rintro e w' ⟨v0, v, w1, rfl, ⟨rfl, rfl, q2, q3⟩, h6, rfl⟩
    refine ⟨rfl, h6, set_other q2 h.bq _, h.bq, h.wq, h.wb, ?_⟩
    refine Touch.step (F := []) (G := [b, q]) h.t (Touch.setCell (q3.mono (fun y hy => .inl (List.mem_cons_of_mem _ hy))) (by simp) _) (fun y hy => .inr ?_)
    rcases List.mem_cons.1 hy with rfl | hy
    · exact h.wb
    · rw [List.mem_singleton.1 hy]; exact h.wq
theorem l114 {w0 W : World} {b q : Nat} (h : LitSt w0 W b 1 q 1) : Calls Tryz.prog 17 #[.pointer (some ⟨b, 0, none⟩), .int .u8 114] W fun e w' => e = .returned (.tuple #[.slice none 0 0, .int .i64 0]) ∧ LitSt w0 w' b 2 q 2 := lmore h 114 (by omega) (by rfl) (by omega)
theorem l117 {w0 W : World} {b q : Nat} (h : LitSt w0 W b 2 q 2) : Calls Tryz.prog 17 #[.pointer (some ⟨b, 0, none⟩), .int .u8 117] W fun e w' => e = .returned (.tuple #[.slice none 0 0, .int .i64 0]) ∧ LitSt w0 w' b 3 q 3 := lmore h 117 (by omega) (by rfl) (by omega)

theorem lexall_tru (A c : Nat) (w : World) (hc : ∀ w', Touch [] w w' → w'.cell? ⟨A, 0, none⟩ = some (.int .u8 116) ∧ w'.cell? ⟨A, 1, none⟩ = some (.int .u8 114) ∧ w'.cell? ⟨A, 2, none⟩ = some (.int .u8 117)) :
    Calls Tryz.prog 12 #[.slice (some ⟨A, 0, none⟩) 3 c] w fun e w' => e = .returned (.tuple #[.slice none 0 0, .int .i64 3, .int .i64 3]) ∧ Touch [] w w' := by
  let kp_ : Exit → Act → World → Prop := bodyPost Tryz.prog Tryz.f12 (fun _ _ => True)
  refine calls_post Tryz.func12 rfl ?_
  intro Q_ hQ_
  simp only [Tryz.ntmps12, List.size_toArray, List.length_cons, List.length_nil, Nat.reduceAdd, Nat.reduceSub, Array.replicate_succ, Array.replicate_zero, List.push_toArray, List.append_toArray, List.nil_append, List.cons_append]
  go_wp2_with fail
  refine (lexnew_any _).mono ?_
  rintro e w1 ⟨⟨b, rfl, hb, hx⟩, ht1⟩
  try go_simp
  have h0 : OutSt w w1 b 0 0 := ⟨hx, hb, ht1⟩
  clear hx hb ht1
  go_wp2_with fail
  go_loopw [16, 6] (fun v16 v6 wr => ∃ i : Nat, v16 = .int .i64 i ∧ v6 = .slice none 0 0 ∧ ((i = 0 ∧ OutSt w wr b 0 0) ∨ (i = 1 ∧ ∃ q, LitSt w wr b 1 q 1) ∨ (i = 2 ∧ ∃ q, LitSt w wr b 2 q 2) ∨ (i = 3 ∧ ∃ q, LitSt w wr b 3 q 3))) (fun v16 v6 _ => 3 - (intOf v16).toNat)
  case atStart => exact ⟨0, rfl, rfl, .inl ⟨rfl, h0⟩⟩
  case round =>
    clear h0
    obtain ⟨i, rfl, rfl, h⟩ := hrel
    rcases h with ⟨rfl, h⟩ | ⟨rfl, q, h⟩ | ⟨rfl, q, h⟩ | ⟨rfl, q, h⟩
    · have hz := (hc _ h.t).1
      go_wp2_with fail
      refine (l116 h).mono ?_
      rintro e w2 ⟨rfl, q, h2⟩
      try go_simp
      go_wp2
      exact ⟨⟨1, rfl, rfl, .inr (.inl ⟨rfl, q, h2⟩)⟩, by decide⟩
    · have hz := (hc _ h.t).2.1
      go_wp2_with fail
      refine (l114 h).mono ?_
      rintro e w2 ⟨rfl, h2⟩
      try go_simp
      go_wp2
      exact ⟨⟨2, rfl, rfl, .inr (.inr (.inl ⟨rfl, q, h2⟩))⟩, by decide⟩
    · have hz := (hc _ h.t).2.2
      go_wp2_with fail
      refine (l117 h).mono ?_
      rintro e w2 ⟨rfl, h2⟩
      try go_simp
      go_wp2
      exact ⟨⟨3, rfl, rfl, .inr (.inr (.inr ⟨rfl, q, h2⟩))⟩, by decide⟩
    · go_wp2_with fail
      refine (lexend_lit b 3 0 q _ h.x).mono ?_
      rintro e w2 ⟨rfl, rfl⟩
      try go_simp
      go_wp2
      (try simp only [Exit.inBlock, Exit.then])
      refine hQ_.ret (results_tmp3 rfl _ _ _) rfl ?_
      exact ⟨rfl, h.t⟩

theorem lexall_frac (A c : Nat) (w : World) (hc : ∀ w', Touch [] w w' → w'.cell? ⟨A, 0, none⟩ = some (.int .u8 49) ∧ w'.cell? ⟨A, 1, none⟩ = some (.int .u8 46) ∧ w'.cell? ⟨A, 2, none⟩ = some (.int .u8 53) ∧ w'.cell? ⟨A, 3, none⟩ = some (.int .u8 32)) :
    Calls Tryz.prog 12 #[.slice (some ⟨A, 0, none⟩) 4 c] w fun e w' => e = .returned (.tuple #[.slice none 0 0, .int .i64 3, .int .i64 7]) ∧ Touch [] w w' := by
  let kp_ : Exit → Act → World → Prop := bodyPost Tryz.prog Tryz.f12 (fun _ _ => True)
  refine calls_post Tryz.func12 rfl ?_
  intro Q_ hQ_
  simp only [Tryz.ntmps12, List.size_toArray, List.length_cons, List.length_nil, Nat.reduceAdd, Nat.reduceSub, Array.replicate_succ, Array.replicate_zero, List.push_toArray, List.append_toArray, List.nil_append, List.cons_append]
  go_wp2_with fail
  refine (lexnew_any _).mono ?_
  rintro e w1 ⟨⟨b, rfl, hb, hx⟩, ht1⟩
  try go_simp
  have h0 : OutSt w w1 b 0 0 := ⟨hx, hb, ht1⟩
  clear hx hb ht1
  go_wp2_with fail
  go_loopw [16, 6] (fun v16 v6 wr => ∃ i : Nat, v16 = .int .i64 i ∧ v6 = .slice none 0 0 ∧ ((i = 0 ∧ OutSt w wr b 0 0) ∨ (i = 1 ∧ ∃ p g tv, FigSt w wr b 1 0 [49] n1 p g tv) ∨ (i = 2 ∧ ∃ p g tv, FigSt w wr b 2 0 [49, 46] n1p p g tv) ∨ (i = 3 ∧ ∃ p g tv, FigSt w wr b 3 0 [49, 46, 53] n15 p g tv))) (fun v16 v6 _ => 4 - (intOf v16).toNat)
  case atStart => exact ⟨0, rfl, rfl, .inl ⟨rfl, h0⟩⟩
  case round =>
    clear h0
    obtain ⟨i, rfl, rfl, h⟩ := hrel
    rcases h with ⟨rfl, h⟩ | ⟨rfl, p, g, tv, h⟩ | ⟨rfl, p, g, tv, h⟩ | ⟨rfl, p, g, tv, h⟩
    · have hz := (hc _ h.t).1
      go_wp2_with fail
      refine (f49 h (by omega)).mono ?_
      rintro e w2 ⟨rfl, p, g, tv, h2⟩
      try go_simp
      go_wp2
      exact ⟨⟨1, rfl, rfl, .inr (.inl ⟨rfl, p, g, tv, h2⟩)⟩, by decide⟩
    · have hz := (hc _ h.t).2.1
      go_wp2_with fail
      refine (f46 h (by omega)).mono ?_
      rintro e w2 ⟨rfl, g, tv, h2⟩
      try go_simp
      go_wp2
      exact ⟨⟨2, rfl, rfl, .inr (.inr (.inl ⟨rfl, p, g, tv, h2⟩))⟩, by decide⟩
    · have hz := (hc _ h.t).2.2.1
      go_wp2_with fail
      refine (f53 h (by omega)).mono ?_
      rintro e w2 ⟨rfl, g, tv, h2⟩
      try go_simp
      go_wp2
      exact ⟨⟨3, rfl, rfl, .inr (.inr (.inr ⟨rfl, p, g, tv, h2⟩))⟩, by decide⟩
    · have hz := (hc _ h.t).2.2.2
      go_wp2_with fail
      refine (f32 h).mono ?_
      rintro e w2 ⟨rfl, ht⟩
      try go_simp
      go_wp2
      (try simp only [Exit.inBlock, Exit.then])
      refine hQ_.ret (results_tmp3 rfl _ _ _) rfl ?_
      exact ⟨rfl, ht⟩
end Go.Proofs.YthdncmagfgoboaaGreatDoor
