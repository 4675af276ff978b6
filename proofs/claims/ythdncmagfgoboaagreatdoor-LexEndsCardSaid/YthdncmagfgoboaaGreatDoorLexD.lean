/- The lexer about a number, from its first byte to the byte behind it. -/
import Derived.Test.YthdncmagfgoboaaGreatDoorLexC
namespace Go.Proofs.YthdncmagfgoboaaGreatDoor
open Go.RowKit
set_option maxRecDepth 100000
set_option maxHeartbeats 8000000
set_option linter.unusedVariables false
set_option linter.unusedSimpArgs false

/-- a number under way -/
structure FigSt (w0 W : World) (b a f : Nat) (l : List UInt8) (n : Num.St) (p : Nat) (g : Option Nat) (tv : Value) : Prop where
  x : LexAt W b a f (figV p)
  nf : NumF W p l n g tv
  bp : b ≠ p
  gb : ∀ k, g = some k → k ≠ b
  wp : w0.heap.size ≤ p
  wg : ∀ k, g = some k → w0.heap.size ≤ k
  wb : w0.heap.size ≤ b
  t : Touch [] w0 W
  ok : n.OkL l.length
structure OutSt (w0 W : World) (b a f : Nat) : Prop where
  x : LexAt W b a f .nilIface
  wb : w0.heap.size ≤ b
  t : Touch [] w0 W

theorem fig_own_out {w0 W : World} {b a f : Nat} {l : List UInt8} {n : Num.St} {p : Nat} {g : Option Nat} {tv : Value} (h : FigSt w0 W b a f l n p g tv) : ∀ y, y ∈ b :: p :: g.toList → w0.heap.size ≤ y := by
  intro y hy
  rw [List.mem_cons, List.mem_cons] at hy
  rcases hy with rfl | rfl | hy
  · exact h.wb
  · exact h.wp
  · cases hg : g with
    | none => rw [hg] at hy; simp at hy
    | some k => rw [hg] at hy; simp at hy; subst hy; exact h.wg _ hg

theorem fig_first {w0 W : World} {b a f : Nat} (h : OutSt w0 W b a f) (c : UInt8) (n' : Num.St) (ha : a ≤ 1000000000) (hk : firstF c.toNat = 4) (hp : Num.push Num.St.start c.toNat = .ok n') (hok : n'.OkL 1) :
    Calls Tryz.prog 17 #[.pointer (some ⟨b, 0, none⟩), .int .u8 c.toNat] W fun e w' => e = .returned (.tuple #[.slice none 0 0, .int .i64 0]) ∧ ∃ p g tv, FigSt w0 w' b (a + 1) a [c] n' p g tv := by
  have hlb := block_lt h.x
  have hsz := h.t.size
  have hO := outside_int b a f .nilIface c n' none 0 0 W h.x hk hp
  refine (lexPush_ok b a a c.toNat W (fun v0 v w' => v0 = .slice none 0 0 ∧ ∃ p g tv, v = figV p ∧ NumF w' p [c] n' g tv ∧ W.heap.size ≤ p ∧ (∀ k, g = some k → W.heap.size ≤ k) ∧ Touch [b] W w') ha (lexpush_nil b a f c.toNat W _ h.x (hO.mono ?_))).mono ?_
  · rintro e w' ⟨rfl, ⟨p, g, tv, h1, h2, h3, h4⟩, h5⟩
    exact ⟨_, _, rfl, _, _, rfl, h1, rfl, p, g, tv, rfl, h2, h3, h4, h5⟩
  · rintro e w' ⟨v0, v, w1, rfl, ⟨rfl, p, g, tv, rfl, h2, h3, h4, h5⟩, h6, rfl⟩
    have hbp : b ≠ p := by omega
    have hgb : ∀ k, g = some k → k ≠ b := fun k hk => by have := h4 k hk; omega
    exact ⟨rfl, p, g, tv, h6, h2.keep (F := [b]) ((Touch.refl [b] _).setCell (by simp) _) (by simpa using hbp.symm) (fun k hk q => hgb k hk (List.mem_singleton.1 q)), hbp, hgb, by omega, fun k hk => by have := h4 k hk; omega, h.wb, h.t.step (h5.setCell (by simp) _) (fun y hy => .inr (by rw [List.mem_singleton.1 hy]; exact h.wb)), hok⟩

theorem fig_own {w0 W : World} {b a f : Nat} {l : List UInt8} {n : Num.St} {p : Nat} {g : Option Nat} {tv : Value} (h : FigSt w0 W b a f l n p g tv) (c : UInt8) (n' : Num.St) (ha : a ≤ 1000000000) (hl : l.length ≤ 10000) (hc : ownB c = true) (hp : Num.push n c.toNat = .ok n') (hok : n'.OkL (l.length + 1)) :
    Calls Tryz.prog 17 #[.pointer (some ⟨b, 0, none⟩), .int .u8 c.toNat] W fun e w' => e = .returned (.tuple #[.slice none 0 0, .int .i64 0]) ∧ ∃ g tv, FigSt w0 w' b (a + 1) f (l ++ [c]) n' p g tv := by
  have hO := lexpush_own b a f p l n g tv c W h.x h.nf h.ok (by omega) hc h.bp h.gb
  have hlb := block_lt h.x
  have hsz := h.t.size
  refine (lexPush_ok b a f c.toNat W (fun v0 v w' => v0 = .slice none 0 0 ∧ v = figV p ∧ Touch (p :: g.toList) W w' ∧ ∃ g' tv', NumF w' p (l ++ [c]) n' g' tv' ∧ NewOr W g g') ha (hO.mono ?_)).mono ?_
  · rintro e w' ⟨k, rfl, h1, h2, h3, _⟩
    obtain ⟨rfl, g', tv', h4, h5⟩ := h3 n' hp
    exact ⟨_, _, rfl, h1, rfl, rfl, h2, g', tv', h4, h5⟩
  · rintro e w' ⟨v0, v, w1, rfl, ⟨rfl, rfl, h2, g', tv', h4, h5⟩, h6, rfl⟩
    have hgb : ∀ k, g' = some k → k ≠ b := fun k hk => by
      rcases h5 with q | ⟨j, q1, q2⟩
      · exact h.gb k (q ▸ hk)
      · rw [hk] at q1; injection q1 with q1; subst q1; omega
    refine ⟨rfl, g', tv', h6, h4.keep (F := [b]) ((Touch.refl [b] _).setCell (by simp) _) (by simpa using h.bp.symm) (fun k hk q => hgb k hk (List.mem_singleton.1 q)), h.bp, hgb, h.wp, fun k hk => ?_, h.wb, ?_, by rw [List.length_append]; exact hok⟩
    · rcases h5 with q | ⟨j, q1, q2⟩
      · exact h.wg k (q ▸ hk)
      · rw [hk] at q1; injection q1 with q1; subst q1; omega
    · refine Touch.step (F := []) (G := b :: p :: g.toList) h.t (Touch.setCell (h2.mono (fun y hy => .inl (List.mem_cons_of_mem _ hy))) (by simp) _) (fun y hy => .inr (fig_own_out h y hy))

theorem fig_own_any {w0 W : World} {b a f : Nat} {l : List UInt8} {n : Num.St} {p : Nat} {g : Option Nat} {tv : Value} (h : FigSt w0 W b a f l n p g tv) (c : UInt8) (ha : a ≤ 1000000000) (hl : l.length ≤ 10000) (hc : ownB c = true) :
    Calls Tryz.prog 17 #[.pointer (some ⟨b, 0, none⟩), .int .u8 c.toNat] W fun e w' => ∃ k : Nat, e = .returned (.tuple #[.slice none 0 0, .int .i64 k]) ∧ Touch [] w0 w' := by
  have hO := lexpush_own b a f p l n g tv c W h.x h.nf h.ok (by omega) hc h.bp h.gb
  rcases Num.push_ways n c.toNat l.length c.toNat_lt h.ok with ⟨n', hp, hok⟩ | ⟨k, hp, hk⟩
  · refine (fig_own h c n' ha hl hc hp hok).mono ?_
    rintro e w' ⟨rfl, g', tv', h'⟩
    exact ⟨0, rfl, h'.t⟩
  · refine (lexPush_err b k c.toNat (.slice none 0 0) W (fun w' => Touch [] w0 w') (by omega) (hO.mono ?_)).mono ?_
    · rintro e w' ⟨k', rfl, h1, h2, h3, h4⟩
      rw [h4 k hp]
      exact ⟨rfl, h.t.step h2 (fun y hy => .inr (fig_own_out h y (List.mem_cons_of_mem _ hy)))⟩
    · rintro e w' ⟨rfl, h1⟩
      exact ⟨k, rfl, h1⟩

theorem fig_end_bad {w0 W : World} {b a f : Nat} {l : List UInt8} {n : Num.St} {p : Nat} {g : Option Nat} {tv : Value} (h : FigSt w0 W b a f l n p g tv) (c : UInt8) (N : Int) (hl : l.length ≤ 10000) (hc : ownB c = false) (hE : Num.pend n l = (N, 0)) (hk : firstF c.toNat = 0) (hb : blankF c.toNat = false) :
    Calls Tryz.prog 17 #[.pointer (some ⟨b, 0, none⟩), .int .u8 c.toNat] W fun e w' => e = .returned (.tuple #[.slice none 0 0, .int .i64 2]) ∧ LexAt w' b a f (figV p) ∧ Touch [] w0 w' := by
  refine (lexPush_err b 2 c.toNat (.slice none 0 0) W (fun w' => LexAt w' b a f (figV p) ∧ Touch [] w0 w') (by omega) (lexpush_end b a f p l n g tv c N W _ h.x h.nf h.ok.at_ (by omega) hc hE ?_)).mono (fun e w' q => q)
  intro W' ad g0 t1 t2 t3 t4
  refine (outside_bad b a f (figV p) c.toNat (.slice ad 1 1) W' t4 hk hb).mono ?_
  rintro e w' ⟨rfl, rfl⟩
  exact ⟨_, _, rfl, rfl, t4, h.t.trans t1⟩

theorem fig_end_num {w0 W : World} {b a f : Nat} {l : List UInt8} {n : Num.St} {p : Nat} {g : Option Nat} {tv : Value} (h : FigSt w0 W b a f l n p g tv) (c : UInt8) (N : Int) (hl : l.length ≤ 10000) (hc : ownB c = false) (hE : Num.pend n l = (N, 7)) :
    Calls Tryz.prog 17 #[.pointer (some ⟨b, 0, none⟩), .int .u8 c.toNat] W fun e w' => e = .returned (.tuple #[.slice none 0 0, .int .i64 7]) ∧ Touch [] w0 w' := by
  refine (lexPush_err b 7 c.toNat (.slice none 0 0) W (fun w' => Touch [] w0 w') (by omega) ((lexpush_bad b a f p l n g tv c N W h.x h.nf h.ok.at_ (by omega) hc hE).mono ?_)).mono (fun e w' q => q)
  rintro e w' ⟨rfl, t1⟩
  exact ⟨rfl, h.t.trans t1⟩

theorem fig_end_tok {w0 W : World} {b a f : Nat} {l : List UInt8} {n : Num.St} {p : Nat} {g : Option Nat} {tv : Value} (h : FigSt w0 W b a f l n p g tv) (c : UInt8) (N : Int) (k : Nat) (ha : a ≤ 1000000000) (hl : l.length ≤ 10000) (hc : ownB c = false) (hE : Num.pend n l = (N, 0)) (hk : firstF c.toNat = k) (hk6 : 6 ≤ k) (hk11 : k ≤ 11) :
    Calls Tryz.prog 17 #[.pointer (some ⟨b, 0, none⟩), .int .u8 c.toNat] W fun e w' => (∃ ad cc g', e = .returned (.tuple #[.slice ad 2 cc, .int .i64 0]) ∧ ToksAt w' (.slice ad 2 cc) [(4, f, a, N, []), (k, a, a + 1, 0, [])] g' ∧ (∀ j, g' = some j → j ≠ b ∧ w0.heap.size ≤ j)) ∧ OutSt w0 w' b (a + 1) a := by
  have hlb := block_lt h.x
  have hsz := h.t.size
  have hwb := h.wb
  refine (lexPush_ok b a a c.toNat W (fun v0 v w' => v = .nilIface ∧ (∃ ad cc g', v0 = .slice ad 2 cc ∧ ToksAt w' (.slice ad 2 cc) [(4, f, a, N, []), (k, a, a + 1, 0, [])] g' ∧ (∀ j, g' = some j → j ≠ b ∧ w0.heap.size ≤ j)) ∧ Touch [] w0 w') ha (lexpush_end b a f p l n g tv c N W _ h.x h.nf h.ok.at_ (by omega) hc hE ?_)).mono ?_
  · intro W' ad g0 t1 t2 t3 t4
    have hs1 := t1.size
    refine (outside_tok b a f (figV p) c.toNat k [(4, f, a, N, [])] ad 1 g0 W' t4 t2 (fun j hj q => by have := t3 j hj; omega) (by simp) hk hk6 hk11 ha).mono ?_
    rintro e w' ⟨⟨ad', cc, g', rfl, h1, h2⟩, h3, h4⟩
    refine ⟨_, _, rfl, _, _, rfl, h3, rfl, ⟨ad', cc, g', rfl, h1, fun j hj => ?_⟩, Touch.step (h.t.trans t1) h4 (fun y hy => .inr ?_)⟩
    · rcases h2 j hj with q | q
      · have := t3 j q; exact ⟨by omega, by omega⟩
      · exact ⟨by omega, by omega⟩
    · rw [List.mem_cons] at hy
      rcases hy with rfl | hy
      · exact h.wb
      · cases hg : g0 with
        | none => rw [hg] at hy; simp at hy
        | some j => rw [hg] at hy; simp at hy; subst hy; have := t3 _ hg; omega
  · rintro e w' ⟨v0, v, w1, rfl, ⟨rfl, ⟨ad, cc, g', rfl, h1, h2⟩, h3⟩, h6, rfl⟩
    exact ⟨⟨ad, cc, g', rfl, SlAt.keep (F := [b]) h1 ((Touch.refl [b] _).setCell (by simp) _) (fun j hj q => (h2 j hj).1 (List.mem_singleton.1 q)), h2⟩, h6, h.wb, Touch.step h3 ((Touch.refl [b] _).setCell (by simp) _) (fun y hy => .inr (by rw [List.mem_singleton.1 hy]; exact h.wb))⟩

/-- a byte behind it that is no word, or begins one -/
theorem fig_end_one {w0 W : World} {b a f : Nat} {l : List UInt8} {n : Num.St} {p : Nat} {g : Option Nat} {tv : Value} (h : FigSt w0 W b a f l n p g tv) (c : UInt8) (N : Int) (ha : a ≤ 1000000000) (hl : l.length ≤ 10000) (hc : ownB c = false) (hE : Num.pend n l = (N, 0))
    (hk : (firstF c.toNat = 0 ∧ blankF c.toNat = true) ∨ (∃ k : Nat, firstF c.toNat = k ∧ (k = 1 ∨ k = 2 ∨ k = 3)) ∨ firstF c.toNat = 5) :
    Calls Tryz.prog 17 #[.pointer (some ⟨b, 0, none⟩), .int .u8 c.toNat] W fun e w' => (∃ ad cc g', e = .returned (.tuple #[.slice ad 1 cc, .int .i64 0]) ∧ ToksAt w' (.slice ad 1 cc) [(4, f, a, N, [])] g') ∧ Touch [] w0 w' := by
  have hlb := block_lt h.x
  have hsz := h.t.size
  have hwb := h.wb
  refine (lexPush_ok b a a c.toNat W (fun v0 v w' => (∃ ad cc g', v0 = .slice ad 1 cc ∧ ToksAt w' (.slice ad 1 cc) [(4, f, a, N, [])] g' ∧ (∀ j, g' = some j → j ≠ b)) ∧ Touch [] w0 w') ha (lexpush_end b a f p l n g tv c N W _ h.x h.nf h.ok.at_ (by omega) hc hE ?_)).mono ?_
  · intro W' ad g0 t1 t2 t3 t4
    have hs1 := t1.size
    have hgb : ∀ j, g0 = some j → j ≠ b := fun j hj => by have := t3 j hj; omega
    have key : ∀ w' v, LexAt w' b a a v → Touch [b] W' w' → ∃ v0 v1, (Ending.returned (.tuple #[.slice ad 1 1, .int .i64 0]) : Ending) = .returned (.tuple #[v0, v1]) ∧ ∃ u0 u, (Ending.returned (.tuple #[.slice ad 1 1, .int .i64 0]) : Ending) = .returned (.tuple #[u0, .int .i64 0]) ∧ LexAt w' b a a u ∧ (∃ ad cc g', u0 = .slice ad 1 cc ∧ ToksAt w' (.slice ad 1 cc) [(4, f, a, N, [])] g' ∧ (∀ j, g' = some j → j ≠ b)) ∧ Touch [] w0 w' := fun w' v q1 q2 =>
      ⟨_, _, rfl, _, v, rfl, q1, ⟨ad, 1, g0, rfl, SlAt.keep t2 q2 (fun j hj q => hgb j hj (List.mem_singleton.1 q)), hgb⟩, Touch.step (h.t.trans t1) q2 (fun y hy => .inr (by rw [List.mem_singleton.1 hy]; exact h.wb))⟩
    rcases hk with ⟨k1, k2⟩ | ⟨k, k1, k2⟩ | k1
    · refine (outside_blank b a f (figV p) c.toNat ad 1 1 W' t4 k1 k2).mono ?_
      rintro e w' ⟨rfl, q1, q2⟩
      exact key w' _ q1 q2
    · refine (outside_lit b a f (figV p) c.toNat k ad 1 1 W' t4 k1 k2).mono ?_
      rintro e w' ⟨rfl, ⟨q, q1, _⟩, q2⟩
      exact key w' _ q1 q2
    · refine (outside_str b a f (figV p) c.toNat ad 1 1 W' t4 k1).mono ?_
      rintro e w' ⟨rfl, ⟨q, q1⟩, q2⟩
      exact key w' _ q1 q2
  · rintro e w' ⟨v0, v, w1, rfl, ⟨⟨ad, cc, g', rfl, h1, h2⟩, h3⟩, h6, rfl⟩
    exact ⟨⟨ad, cc, g', rfl, SlAt.keep (F := [b]) h1 ((Touch.refl [b] _).setCell (by simp) _) (fun j hj q => h2 j hj (List.mem_singleton.1 q))⟩, Touch.step h3 ((Touch.refl [b] _).setCell (by simp) _) (fun y hy => .inr (by rw [List.mem_singleton.1 hy]; exact h.wb))⟩
end Go.Proofs.YthdncmagfgoboaaGreatDoor
