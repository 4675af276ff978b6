/- One of the texts that lead to the theorem lexPlays.proved: the conditions stand in each theorem. -/
import Derived.Test.YthdncmagfgoboaaGreatDoorP30
import Derived.Test.YthdncmagfgoboaaGreatDoorP27
set_option linter.unusedSimpArgs false
set_option linter.unusedVariables false
section
namespace Go.Proofs.YthdncmagfgoboaaGreatDoor
open Go.RowKit
set_option maxRecDepth 100000
set_option maxHeartbeats 8000000
open Lx
def dX : Wd → Nat
 | .no => 0
 | .lit k _ => k
 | .fig _ _ => 4
 | .quo _ => 5
def lenW : Wd → Nat
 | .quo q => q.out.length
 | _ => 0
theorem sI (b a f : Nat) (wd : Wd) (F : List Nat) (w : World) (h : WdAt w b a f wd F) : Calls Tryz.prog 22 #[.pointer (some ⟨b, 0, none⟩)] w fun e w' => e = .returned (.int .i64 (dX wd)) ∧ Touch [] w w' := by
 cases wd with
 | no =>
  obtain ⟨⟨f', h1⟩, rfl⟩ := h
  unfold bB at h1
  have ⟨c0,c1,c2⟩ := cs3 h1
  have ⟨f0,f1,f2⟩ := fs3 h1
  have lb := aB h1
  try simp at c0 c1 c2
  refine aA Tryz.func22 rfl ?_
  intro Q_ hQ_
  simp only [Tryz.ntmps22, ents_, Nat.reduceAdd, Nat.reduceSub]
  go_wp2
  refine hQ_.ret (results_tmp rfl _ _ _) rfl ?_
  exact ⟨rfl, Touch.refl _ _⟩
 | fig t n =>
  obtain ⟨p, g, tv, h1, h2, rfl, h4⟩ := h
  exact sH b a f p w h1
 | lit k n =>
  obtain ⟨q, h1, h2, rfl, h4⟩ := h
  unfold dV at h2
  have d2 := aN h2 2
  simp at d2
  unfold bB at h1
  have ⟨c0,c1,c2⟩ := cs3 h1
  have ⟨f0,f1,f2⟩ := fs3 h1
  have lb := aB h1
  try simp at c0 c1 c2
  have hm : ∀ w, (method 332 102 (.pointer (some ⟨q, 0, none⟩)) "orthoepy/lex.kind").run Tryz.prog w = .ok (183, .pointer (some ⟨q, 0, none⟩)) w := fun w => by kernel_rfl
  refine aA Tryz.func22 rfl ?_
  intro Q_ hQ_
  simp only [Tryz.ntmps22, ents_, Nat.reduceAdd, Nat.reduceSub]
  go_wp2
  refine hQ_.ret (results_tmp rfl _ _ _) rfl ?_
  exact ⟨rfl, Touch.refl _ _⟩
 | quo s =>
  obtain ⟨p, g, tv, r, h1, h2, rfl, h4⟩ := h
  unfold bB at h1
  have ⟨c0,c1,c2⟩ := cs3 h1
  have ⟨f0,f1,f2⟩ := fs3 h1
  have lb := aB h1
  try simp at c0 c1 c2
  have hm : ∀ w, (method 332 84 (.agg #[.pointer (some ⟨p, 0, none⟩)]) "orthoepy/lex.kind").run Tryz.prog w = .ok (182, .agg #[.pointer (some ⟨p, 0, none⟩)]) w := fun w => by kernel_rfl
  refine aA Tryz.func22 rfl ?_
  intro Q_ hQ_
  simp only [Tryz.ntmps22, ents_, Nat.reduceAdd, Nat.reduceSub]
  go_wp2
  refine hQ_.ret (results_tmp rfl _ _ _) rfl ?_
  exact ⟨rfl, (Touch.refl _ _).alloc _⟩
theorem len_any (b a f : Nat) (wd : Wd) (F : List Nat) (w : World) (h : WdAt w b a f wd F) : Calls Tryz.prog 26 #[.pointer (some ⟨b, 0, none⟩)] w fun e w' => e = .returned (.int .i64 (lenW wd)) ∧ Touch [] w w' := by
 cases wd with
 | no =>
  obtain ⟨⟨f', h1⟩, rfl⟩ := h
  have ta3 := sP
  unfold bB at h1
  have ⟨c0,c1,c2⟩ := cs3 h1
  have ⟨f0,f1,f2⟩ := fs3 h1
  have lb := aB h1
  try simp at c0 c1 c2
  refine aA Tryz.func26 rfl ?_
  intro Q_ hQ_
  simp only [Tryz.ntmps26, ents_, Nat.reduceAdd, Nat.reduceSub]
  go_wp2
  refine hQ_.ret (results_tmp rfl _ _ _) rfl ?_
  exact ⟨rfl, by repeat (first | exact Touch.refl _ _ | apply Touch.alloc)⟩
 | fig t n =>
  obtain ⟨p, g, tv, h1, h2, rfl, h4⟩ := h
  have ta : ∀ w, (Instr.typeAssert (figV p) 70 84 true).run Tryz.prog w = .ok (.tuple #[.agg #[.pointer none], .bool false]) w := fun w => by kernel_rfl
  unfold bB at h1
  have ⟨c0,c1,c2⟩ := cs3 h1
  have ⟨f0,f1,f2⟩ := fs3 h1
  have lb := aB h1
  try simp at c0 c1 c2
  refine aA Tryz.func26 rfl ?_
  intro Q_ hQ_
  simp only [Tryz.ntmps26, ents_, Nat.reduceAdd, Nat.reduceSub]
  go_wp2
  refine hQ_.ret (results_tmp rfl _ _ _) rfl ?_
  exact ⟨rfl, by repeat (first | exact Touch.refl _ _ | apply Touch.alloc)⟩
 | lit k n =>
  obtain ⟨q, h1, h2, rfl, h4⟩ := h
  have ta : ∀ w, (Instr.typeAssert (litV q) 70 84 true).run Tryz.prog w = .ok (.tuple #[.agg #[.pointer none], .bool false]) w := fun w => by kernel_rfl
  unfold bB at h1
  have ⟨c0,c1,c2⟩ := cs3 h1
  have ⟨f0,f1,f2⟩ := fs3 h1
  have lb := aB h1
  try simp at c0 c1 c2
  refine aA Tryz.func26 rfl ?_
  intro Q_ hQ_
  simp only [Tryz.ntmps26, ents_, Nat.reduceAdd, Nat.reduceSub]
  go_wp2
  refine hQ_.ret (results_tmp rfl _ _ _) rfl ?_
  exact ⟨rfl, by repeat (first | exact Touch.refl _ _ | apply Touch.alloc)⟩
 | quo s =>
  obtain ⟨p, g, tv, r, h1, h2, rfl, h4⟩ := h
  have ta := fun w => kC w p
  have hln := fun W hW => rF p s g tv r W hW
  unfold bB at h1
  have ⟨c0,c1,c2⟩ := cs3 h1
  have ⟨f0,f1,f2⟩ := fs3 h1
  have lb := aB h1
  try simp at c0 c1 c2
  refine aA Tryz.func26 rfl ?_
  intro Q_ hQ_
  simp only [Tryz.ntmps26, ents_, Nat.reduceAdd, Nat.reduceSub]
  go_wp2_with fail
  refine (hln _ (h2.keep (F := []) (by repeat (first | exact Touch.refl _ _ | apply Touch.alloc)) (by simp) (by simp) (fun _ _ => by simp))).mono ?_
  rintro e w1 ⟨rfl, rfl⟩
  try go_simp
  go_wp2
  refine hQ_.ret (results_tmp rfl _ _ _) rfl ?_
  exact ⟨rfl, by repeat (first | exact Touch.refl _ _ | apply Touch.alloc)⟩
theorem end_any (b a f : Nat) (wd : Wd) (F : List Nat) (w : World) (h : WdAt w b a f wd F) (ok : wd.Ok a) (ha : a ≤ 90000) : Calls Tryz.prog 20 #[.pointer (some ⟨b, 0, none⟩)] w fun e w' => ∃ v, e = .returned (.tuple #[v, .int .i64 (fin a f wd).2]) ∧ TokV w w' v (fin a f wd).1 ∧ Touch [] w w' := by
 cases wd with
 | no =>
  obtain ⟨⟨f', h1⟩, rfl⟩ := h
  refine (lK b a f' w h1).mono ?_
  rintro e w' ⟨rfl, rfl⟩
  exact ⟨_, rfl, TokV.nil _ _, Touch.refl _ _⟩
 | lit k n =>
  obtain ⟨q, h1, h2, rfl, h4⟩ := h
  refine (lL b a f q w h1).mono ?_
  rintro e w' ⟨rfl, rfl⟩
  exact ⟨_, rfl, TokV.nil _ _, Touch.refl _ _⟩
 | quo s =>
  obtain ⟨p, g, tv, r, h1, h2, rfl, h4⟩ := h
  have ta : ∀ w, (Instr.typeAssert (strV p) 70 75 true).run Tryz.prog w = .ok (.tuple #[.agg #[.pointer none], .bool false]) w := fun w => by kernel_rfl
  unfold bB at h1
  have ⟨c0,c1,c2⟩ := cs3 h1
  have ⟨f0,f1,f2⟩ := fs3 h1
  have lb := aB h1
  try simp at c0 c1 c2
  refine aA Tryz.func20 rfl ?_
  intro Q_ hQ_
  simp only [Tryz.ntmps20, ents_, Nat.reduceAdd, Nat.reduceSub]
  go_wp2
  refine hQ_.ret (results_tmp2 rfl _ _ _) rfl ?_
  exact ⟨_, rfl, TokV.nil _ _, Touch.refl _ _⟩
 | fig t n =>
  obtain ⟨p, g, tv, h1, h2, rfl, h4⟩ := h
  obtain ⟨hv, ht, ok3, ok4⟩ := ok
  have hpe := Num.pend_eq n t hv ht
  obtain ⟨N, E, hNE⟩ : ∃ N E, Num.rend t.text = (N, E) := ⟨_, _, rfl⟩
  have hen := fun w hF => fF p t.text n g tv w hF (by omega) ok3.at_
  rw [hpe, hNE] at hen
  have hfin : fin a f (.fig t n) = if E = 0 then ([(4, f, a, N, [])], 0) else ([], E) := by
   show (if (Num.rend t.text).2 = 0 then ([(4, f, a, (Num.rend t.text).1, [])], (0 : Int)) else ([], (Num.rend t.text).2)) = _
   rw [hNE]
  rw [hfin]
  clear hNE hpe hfin hv ht ok3
  have ta := fun w => gC w p
  have h0 := h1
  unfold bB at h1
  have ⟨c0,c1,c2⟩ := cs3 h1
  have ⟨f0,f1,f2⟩ := fs3 h1
  have lb := aB h1
  try simp at c0 c1 c2
  by_cases he : E = 0
  · rw [if_pos he]
    have e0 : (E != 0) = false := by simpa using he
    clear he
    refine aA Tryz.func20 rfl ?_
    intro Q_ hQ_
    simp only [Tryz.ntmps20, ents_, Nat.reduceAdd, Nat.reduceSub]
    go_wp2_with fail
    refine (hen _ (h2.keep (F := []) (by repeat (first | exact Touch.refl _ _ | apply Touch.alloc)) (by simp) (by simp))).mono ?_
    rintro e w2 ⟨rfl, ht2⟩
    try go_simp
    have hT2 : Touch [] w w2 := Touch.trans (by repeat (first | exact Touch.refl _ _ | apply Touch.alloc)) ht2
    have h3 : bB w2 b a f (figV p) := hT2.keep h0 (by simp)
    clear c0 c1 c2 f0 f1 f2 lb h1 h0 ht2 hen
    have h3' := h3
    unfold bB at h3'
    have c0 := aN h3' 0
    have c1 := aN h3' 1
    have c2 := aN h3' 2
    have f0 := aQ h3' 0
    have f1 := aQ h3' 1
    have f2 := aQ h3' 2
    have lb := aB h3'
    try simp at c0 c1 c2
    go_wp2_with fail
    refine (gA b a f 4 a _ _ h3).mono ?_
    rintro e w3 ⟨rfl, ht3⟩
    try go_simp
    have hT3 := hT2.trans ht3
    clear c0 c1 c2 f0 f1 f2 lb h3 h3' hT2 ht3
    go_wp2
    refine hQ_.ret (results_tmp2 rfl _ _ _) rfl ?_
    refine ⟨_, rfl, ⟨some ⟨w3.heap.size + 1, 0, none⟩, 1, some (w3.heap.size + 1), rfl, ?_, fun j hj => by injection hj with hj; have := hT3.size; omega⟩, (hT3.alloc _).alloc _⟩
    have := eY (w := w3.alloc (.cells #[.int .i64 4, .int .i64 f, .int .i64 a, .int .i64 N, .string (str [])] 41)) (E := 41) (c := #[.int .i64 4, .int .i64 f, .int .i64 a, .int .i64 N, .string (str [])]) (m := 1) (size := 5) rfl (by omega)
    simp at this
    exact this
  · rw [if_neg he]
    have e0 : (E != 0) = true := by simpa using he
    clear he
    refine aA Tryz.func20 rfl ?_
    intro Q_ hQ_
    simp only [Tryz.ntmps20, ents_, Nat.reduceAdd, Nat.reduceSub]
    go_wp2_with fail
    refine (hen _ (h2.keep (F := []) (by repeat (first | exact Touch.refl _ _ | apply Touch.alloc)) (by simp) (by simp))).mono ?_
    rintro e w2 ⟨rfl, ht2⟩
    try go_simp
    go_wp2
    refine hQ_.ret (results_tmp2 rfl _ _ _) rfl ?_
    exact ⟨_, rfl, TokV.nil _ _, Touch.trans (by repeat (first | exact Touch.refl _ _ | apply Touch.alloc)) ht2⟩
end Go.Proofs.YthdncmagfgoboaaGreatDoor
end

section
namespace Go.Proofs.YthdncmagfgoboaaGreatDoor
open Go.RowKit
set_option maxRecDepth 100000
set_option maxHeartbeats 8000000
open Lx
def RWdAt (w : World) (b a f : Nat) : Wd → List Nat → Prop
 | .no, F => (∃ f' lit, aY w b a 0 f' (.pointer none) (.pointer none) lit) ∧ F = [b]
 | .lit k n, F => aY w b a k f (.pointer none) (.pointer none) n ∧ F = [b]
 | .fig t n, F => ∃ p lit, aY w b a 4 f (.pointer (some ⟨p, 0, none⟩)) (.pointer none) lit ∧ RNumAt w p t.text ∧ F = [b, p] ∧ b ≠ p
 | .quo s, F => ∃ p lit go gb gh vo vb vh, aY w b a 5 f (.pointer none) (.pointer (some ⟨p, 0, none⟩)) lit ∧ RStrF w p s go gb gh vo vb vh ∧ F = b :: p :: (go.toList ++ (gb.toList ++ gh.toList)) ∧ b ∉ p :: (go.toList ++ (gb.toList ++ gh.toList))
theorem RWdAt.keep {w w' : World} {b a f : Nat} {wd : Wd} {F G : List Nat} (h : RWdAt w b a f wd F) (t : Touch G w w') (hF : ∀ k ∈ F, k ∉ G) : RWdAt w' b a f wd F := by
 cases wd with
 | no =>
  obtain ⟨⟨f', lit, h1⟩, rfl⟩ := h
  exact ⟨⟨f', lit, t.keep h1 (hF b (by simp))⟩, rfl⟩
 | lit k n =>
  obtain ⟨h1, rfl⟩ := h
  exact ⟨t.keep h1 (hF b (by simp)), rfl⟩
 | fig tt n =>
  obtain ⟨p, lit, h1, h2, rfl, h4⟩ := h
  exact ⟨p, lit, t.keep h1 (hF b (by simp)), t.keep h2 (hF p (by simp)), rfl, h4⟩
 | quo s =>
  obtain ⟨p, lit, go, gb, gh, vo, vb, vh, h1, h2, rfl, h4⟩ := h
  exact ⟨p, lit, go, gb, gh, vo, vb, vh, t.keep h1 (hF b (by simp)), h2.keep t (hF p (by simp)) (fun k hk => hF k (by simp [hk])) (fun k hk => hF k (by simp [hk])) (fun k hk => hF k (by simp [hk])), rfl, h4⟩
theorem RWdAt.lt {w : World} {b a f : Nat} {wd : Wd} {F : List Nat} (h : RWdAt w b a f wd F) : ∀ k ∈ F, k < w.heap.size := by
 cases wd with
 | no =>
  obtain ⟨⟨f', lit, h1⟩, rfl⟩ := h
  intro k hk; simp at hk; subst hk; exact aB h1
 | lit k n =>
  obtain ⟨h1, rfl⟩ := h
  intro k hk; simp at hk; subst hk; exact aB h1
 | fig tt n =>
  obtain ⟨p, lit, h1, h2, rfl, h4⟩ := h
  intro k hk; simp at hk
  rcases hk with rfl | rfl
  · exact aB h1
  · exact aB h2
 | quo s =>
  obtain ⟨p, lit, go, gb, gh, vo, vb, vh, h1, h2, rfl, h4⟩ := h
  intro k hk; simp at hk
  rcases hk with rfl | rfl | hk | hk | hk
  · exact aB h1
  · exact h2.lt
  · exact h2.ro.lt hk
  · exact h2.rb.lt hk
  · exact h2.rh.lt hk
theorem RWdAt.at {w : World} {b a f : Nat} {wd : Wd} {F : List Nat} (h : RWdAt w b a f wd F) : b ∈ F ∧ ∃ f' nv sv lit, aY w b a (dX wd) f' nv sv lit := by
 cases wd with
 | no => obtain ⟨⟨f', lit, h1⟩, rfl⟩ := h; exact ⟨by simp, _, _, _, _, h1⟩
 | lit k n => obtain ⟨h1, rfl⟩ := h; exact ⟨by simp, _, _, _, _, h1⟩
 | fig tt n => obtain ⟨p, lit, h1, h2, rfl, h4⟩ := h; exact ⟨by simp, _, _, _, _, h1⟩
 | quo s => obtain ⟨p, lit, go, gb, gh, vo, vb, vh, h1, h2, rfl, h4⟩ := h; exact ⟨by simp, _, _, _, _, h1⟩
theorem rQ (b : Nat) (s : List UInt8) (x : UInt8) (k : Nat) (w : World) (hN : RNumAt w b s) (hl : s.length ≤ 100000) (h : Num.rpush s x = .error k) :
 Calls Tryz.prog 39 #[.pointer (some ⟨b, 0, none⟩), .int .u8 x.toNat] w fun e w' => e = .returned (.int .i64 k) ∧ RNumAt w' b s ∧ Touch [b] w w' :=
 (mN b s x w hN hl).mono fun e w' hp => by unfold dL at hp; rw [h] at hp; exact hp
theorem mM (b : Nat) (s s' : List UInt8) (x : UInt8) (w : World) (hN : RNumAt w b s) (hl : s.length ≤ 100000) (h : Num.rpush s x = .ok s') :
 Calls Tryz.prog 39 #[.pointer (some ⟨b, 0, none⟩), .int .u8 x.toNat] w fun e w' => e = .returned (.int .i64 0) ∧ RNumAt w' b s' ∧ Touch [b] w w' :=
 (mN b s x w hN hl).mono fun e w' hp => by unfold dL at hp; rw [h] at hp; exact hp
theorem dR {x : Int} (h : bN x ≠ 0) : cQ x = false := by
 cases hb : cQ x with
 | false => rfl
 | true =>
  exfalso
  simp [cQ] at hb
  rcases hb with ((rfl | rfl) | rfl) | rfl <;> exact h (by decide)
theorem oB (b a k f lit : Nat) (nv sv : Value) (x : Int) (w : World) (h : aY w b a k f nv sv lit) (hk : bN x = 0) (hb : cQ x = false) :
 Calls Tryz.prog 38 #[.pointer (some ⟨b, 0, none⟩), .int .u8 x] w fun e w' => e = .returned (.tuple #[.slice none 0 0, .int .i64 2]) ∧ w = w' := by
 have h0 := h
 have hfi := fun w => cX x w
 have hbl := fun w => cY x w
 rw [hk] at hfi
 rw [hb] at hbl
 clear hb
 unfold aY at h
 have ⟨c0,c1,c2,c3,c4,c5⟩ := cs6 h
 have ⟨f0,f1,f2,f3,f4,f5⟩ := fs6 h
 have lb := aB h
 try simp [cD] at c0 c1 c2 c3 c4 c5
 refine aA Tryz.func38 rfl ?_
 intro Q_ hQ_
 simp only [Tryz.ntmps38, ents_, Nat.reduceAdd, Nat.reduceSub]
 go_wp2_with fail
 refine (hfi _).mono ?_
 rintro e w1 ⟨rfl, rfl⟩
 try go_simp
 go_wp2_with fail
 refine (hbl _).mono ?_
 rintro e w1 ⟨rfl, rfl⟩
 try go_simp
 go_wp2
 refine hQ_.ret (results_tmp2 rfl _ _ _) rfl ?_
 exact ⟨rfl, rfl⟩
theorem kS (b a k f lit : Nat) (nv sv : Value) (x : Int) (w : World) (h : aY w b a k f nv sv lit) (hk : bN x = 0) (hb : cQ x = true) (ha : a ≤ 1000000000) :
 Calls Tryz.prog 38 #[.pointer (some ⟨b, 0, none⟩), .int .u8 x] w fun e w' => e = .returned (.tuple #[.slice none 0 0, .int .i64 0]) ∧ aY w' b (a + 1) k f nv sv lit ∧ Touch [b] w w' := by
 have h0 := h
 have hfi := fun w => cX x w
 have hbl := fun w => cY x w
 rw [hk] at hfi
 rw [hb] at hbl
 clear hb
 unfold aY at h
 have ⟨c0,c1,c2,c3,c4,c5⟩ := cs6 h
 have ⟨f0,f1,f2,f3,f4,f5⟩ := fs6 h
 have lb := aB h
 try simp [cD] at c0 c1 c2 c3 c4 c5
 refine aA Tryz.func38 rfl ?_
 intro Q_ hQ_
 simp only [Tryz.ntmps38, ents_, Nat.reduceAdd, Nat.reduceSub]
 go_wp2_with fail
 refine (hfi _).mono ?_
 rintro e w1 ⟨rfl, rfl⟩
 try go_simp
 go_wp2_with fail
 refine (hbl _).mono ?_
 rintro e w1 ⟨rfl, rfl⟩
 try go_simp
 go_wp2
 refine hQ_.ret (results_tmp2 rfl _ _ _) rfl ?_
 exact ⟨rfl, aF h0 0 _, (Touch.refl _ _).setCell (by simp) _⟩
theorem gB (w : World) (k f e : Nat) (N : Int) (s : List UInt8) : cV (w.alloc (.cells #[.int .i64 k, .int .i64 f, .int .i64 e, .int .i64 N, .string (str s)] 41)) (.slice (some ⟨w.heap.size, 0, none⟩) 1 1) [(k, f, e, N, s)] (some w.heap.size) := by
 have := eY (w := w) (E := 41) (c := #[.int .i64 k, .int .i64 f, .int .i64 e, .int .i64 N, .string (str s)]) (m := 1) (size := 5) rfl (by omega)
 simp at this
 exact this
theorem nX (b a k f lit : Nat) (nv sv : Value) (x : Int) (kk : Nat) (w : World) (h : aY w b a k f nv sv lit) (hk : bN x = kk) (hk6 : 6 ≤ kk) (hk11 : kk ≤ 11) (ha : a ≤ 1000000000) :
 Calls Tryz.prog 38 #[.pointer (some ⟨b, 0, none⟩), .int .u8 x] w fun e w' => (∃ j, e = .returned (.tuple #[.slice (some ⟨j, 0, none⟩) 1 1, .int .i64 0]) ∧ cV w' (.slice (some ⟨j, 0, none⟩) 1 1) [(kk, a, a + 1, 0, [])] (some j) ∧ w.heap.size ≤ j) ∧ aY w' b (a + 1) k f nv sv lit ∧ Touch [b] w w' := by
 have hb : cQ x = false := dR (by rw [hk]; omega)
 have t0 : ((kk : Int) == 0) = false := by simp; omega
 have t5 : decide ((5 : Int) < (kk : Int)) = true := by simp; omega
 clear hk6 hk11
 have h0 := h
 have hfi := fun w => cX x w
 have hbl := fun w => cY x w
 rw [hk] at hfi
 rw [hb] at hbl
 clear hb
 unfold aY at h
 have ⟨c0,c1,c2,c3,c4,c5⟩ := cs6 h
 have ⟨f0,f1,f2,f3,f4,f5⟩ := fs6 h
 have lb := aB h
 try simp [cD] at c0 c1 c2 c3 c4 c5
 refine aA Tryz.func38 rfl ?_
 intro Q_ hQ_
 simp only [Tryz.ntmps38, ents_, Nat.reduceAdd, Nat.reduceSub]
 go_wp2_with fail
 refine (hfi _).mono ?_
 rintro e w1 ⟨rfl, rfl⟩
 try go_simp
 go_wp2_with fail
 refine (hbl _).mono ?_
 rintro e w1 ⟨rfl, rfl⟩
 try go_simp
 go_upto_region 9 with (fail)
 obtain ⟨W1, hW1⟩ : ∃ W1, W1 = w.setCell ⟨b, 0, none⟩ (.int .i64 ((a : Int) + 1)) := ⟨_, rfl⟩
 rw [← hW1]
 have hB1 : aY W1 b (a + 1) k f nv sv lit := by rw [hW1]; exact aF h0 0 _
 have hT1 : Touch [b] w W1 := by rw [hW1]; exact (Touch.refl _ _).setCell (by simp) _
 clear hW1 c0 c1 c2 c3 c4 c5 f0 f1 f2 f3 f4 f5 lb h h0
 have hc : ∀ w', Touch [] W1 w' → w'.cell? ⟨b, 0, none⟩ = some (.int .i64 ((a : Int) + 1)) := fun w' t => aN (t.keep hB1 (by simp)) 0
 have hwr : IntKind.i64.wrap (a : Int) = (a : Int) := IntWalk.i64_in _ (by omega)
 go_region_held3 (fun w' => Touch [] W1 w')
  (repeat (first | (with_reducible exact Touch.refl _ _) | (with_reducible assumption) | (with_reducible apply Touch.drew) | (with_reducible apply Touch.alloc)))
  (fail)
 all_goals
  go_wp2
  refine hQ_.ret (results_tmp2 rfl _ _ _) rfl ?_
  refine ⟨⟨W1.heap.size, rfl, ?_, hT1.size⟩, ?_, ?_⟩
  · exact SlAt.keep (gB W1 kk a (a + 1) 0 []) (Touch.drew (Touch.refl [] _)) (fun _ _ => by simp)
  · exact Touch.keep (F := []) (by repeat (first | (with_reducible exact Touch.refl _ _) | (with_reducible apply Touch.drew) | (with_reducible apply Touch.alloc))) hB1 (by simp)
  · repeat (first | (with_reducible exact hT1) | (with_reducible apply Touch.drew) | (with_reducible apply Touch.alloc))
theorem nZ (b a k f lit : Nat) (nv sv : Value) (x : Int) (kk : Nat) (w : World) (h : aY w b a k f nv sv lit) (hk : bN x = kk) (hk3 : kk = 1 ∨ kk = 2 ∨ kk = 3) (ha : a ≤ 1000000000) :
 Calls Tryz.prog 38 #[.pointer (some ⟨b, 0, none⟩), .int .u8 x] w fun e w' => e = .returned (.tuple #[.slice none 0 0, .int .i64 0]) ∧ aY w' b (a + 1) kk a nv sv 1 ∧ Touch [b] w w' := by
 have hb : cQ x = false := dR (by rw [hk]; omega)
 have t0 : ((kk : Int) == 0) = false := by simp; omega
 have t5 : decide ((5 : Int) < (kk : Int)) = false := by simp; omega
 have t4 : ((kk : Int) == 4) = false := by simp; omega
 have t5' : ((kk : Int) == 5) = false := by simp; omega
 clear hk3
 have h0 := h
 have hfi := fun w => cX x w
 have hbl := fun w => cY x w
 rw [hk] at hfi
 rw [hb] at hbl
 clear hb
 unfold aY at h
 have ⟨c0,c1,c2,c3,c4,c5⟩ := cs6 h
 have ⟨f0,f1,f2,f3,f4,f5⟩ := fs6 h
 have lb := aB h
 try simp [cD] at c0 c1 c2 c3 c4 c5
 refine aA Tryz.func38 rfl ?_
 intro Q_ hQ_
 simp only [Tryz.ntmps38, ents_, Nat.reduceAdd, Nat.reduceSub]
 go_wp2_with fail
 refine (hfi _).mono ?_
 rintro e w1 ⟨rfl, rfl⟩
 try go_simp
 go_wp2_with fail
 refine (hbl _).mono ?_
 rintro e w1 ⟨rfl, rfl⟩
 try go_simp
 go_wp2
 refine hQ_.ret (results_tmp2 rfl _ _ _) rfl ?_
 exact ⟨rfl, aF (aF (aF (aF h0 1 _) 2 _) 5 _) 0 _, ((((Touch.refl _ _).setCell (by simp) _).setCell (by simp) _).setCell (by simp) _).setCell (by simp) _⟩
theorem rP (w : World) (p : Nat) (hp : p = w.heap.size) : RStrF (w.alloc (.cells #[.slice none 0 0, .slice none 0 0, .int .i64 0, .slice none 0 0, .int .u16 0, .bool false] 89)) p Sq.start none none none (.slice none 0 0) (.slice none 0 0) (.slice none 0 0) := by
 subst hp
 exact ⟨aZ _ _, SlAt.nil _ _ _, SlAt.nil _ _ _, SlAt.nil _ _ _, (fun _ q => by cases q), (fun _ q => by cases q), (fun _ q => by cases q)⟩
theorem nY (b a k f lit : Nat) (nv sv : Value) (x : Int) (w : World) (h : aY w b a k f nv sv lit) (hk : bN x = 5) (ha : a ≤ 1000000000) :
 Calls Tryz.prog 38 #[.pointer (some ⟨b, 0, none⟩), .int .u8 x] w fun e w' => e = .returned (.tuple #[.slice none 0 0, .int .i64 0]) ∧ (∃ p, aY w' b (a + 1) 5 a nv (.pointer (some ⟨p, 0, none⟩)) 1 ∧ RStrF w' p Sq.start none none none (.slice none 0 0) (.slice none 0 0) (.slice none 0 0) ∧ w.heap.size ≤ p) ∧ Touch [b] w w' := by
 have hb : cQ x = false := dR (by rw [hk]; decide)
 have h0 := h
 have hfi := fun w => cX x w
 have hbl := fun w => cY x w
 rw [hk] at hfi
 rw [hb] at hbl
 clear hb
 unfold aY at h
 have ⟨c0,c1,c2,c3,c4,c5⟩ := cs6 h
 have ⟨f0,f1,f2,f3,f4,f5⟩ := fs6 h
 have lb := aB h
 try simp [cD] at c0 c1 c2 c3 c4 c5
 refine aA Tryz.func38 rfl ?_
 intro Q_ hQ_
 simp only [Tryz.ntmps38, ents_, Nat.reduceAdd, Nat.reduceSub]
 go_wp2_with fail
 refine (hfi _).mono ?_
 rintro e w1 ⟨rfl, rfl⟩
 try go_simp
 go_wp2_with fail
 refine (hbl _).mono ?_
 rintro e w1 ⟨rfl, rfl⟩
 try go_simp
 go_wp2
 refine hQ_.ret (results_tmp2 rfl _ _ _) rfl ?_
 refine ⟨rfl, ⟨w.heap.size, aW (aF (aF (aF (aF (aF h0 1 _) 2 _) 5 _) 4 _) 0 _) _, rP _ _ (by simp), Nat.le_refl _⟩, ?_⟩
 exact (((((((Touch.refl _ _).setCell (by simp) _).setCell (by simp) _).setCell (by simp) _).setCell (by simp) _).setCell (by simp) _).alloc _)
theorem oA (b a k f lit : Nat) (nv sv : Value) (c : UInt8) (t : List UInt8) (w : World) (h : aY w b a k f nv sv lit) (hk : bN c.toNat = 4) (hp : Num.rpush [] c = .ok t) (ha : a ≤ 1000000000) :
 Calls Tryz.prog 38 #[.pointer (some ⟨b, 0, none⟩), .int .u8 c.toNat] w fun e w' => e = .returned (.tuple #[.slice none 0 0, .int .i64 0]) ∧ (∃ p, aY w' b (a + 1) 4 a (.pointer (some ⟨p, 0, none⟩)) sv 1 ∧ RNumAt w' p t ∧ w.heap.size ≤ p) ∧ Touch [b] w w' := by
 obtain ⟨x, hx⟩ : ∃ x : Int, x = (c.toNat : Int) := ⟨_, rfl⟩
 have hpu := fun p w hN => mM p [] t c w hN (by simp) hp
 rw [← hx] at hk hpu ⊢
 clear hp hx
 have hb : cQ x = false := dR (by rw [hk]; decide)
 have h0 := h
 have hfi := fun w => cX x w
 have hbl := fun w => cY x w
 rw [hk] at hfi
 rw [hb] at hbl
 clear hb
 unfold aY at h
 have ⟨c0,c1,c2,c3,c4,c5⟩ := cs6 h
 have ⟨f0,f1,f2,f3,f4,f5⟩ := fs6 h
 have lb := aB h
 try simp [cD] at c0 c1 c2 c3 c4 c5
 refine aA Tryz.func38 rfl ?_
 intro Q_ hQ_
 simp only [Tryz.ntmps38, ents_, Nat.reduceAdd, Nat.reduceSub]
 go_wp2_with fail
 refine (hfi _).mono ?_
 rintro e w1 ⟨rfl, rfl⟩
 try go_simp
 go_wp2_with fail
 refine (hbl _).mono ?_
 rintro e w1 ⟨rfl, rfl⟩
 try go_simp
 go_wp2_with fail
 refine (hpu w.heap.size _ (fK (by simp))).mono ?_
 rintro e w2 ⟨rfl, hN, ht2⟩
 try go_simp
 have hbw := lb
 have h1 : aY w2 b a 4 a (.pointer (some ⟨w.heap.size, 0, none⟩)) sv 1 := ht2.keep (aW (aF (aF (aF (aF h0 1 _) 2 _) 5 _) 3 _) _) (by simp; omega)
 have hT2 : Touch [b] w w2 := Touch.step (((((Touch.refl [b] w).setCell (by simp) _).setCell (by simp) _).setCell (by simp) _).setCell (by simp) _ |>.alloc _) ht2 (fun y hy => .inr (by rw [List.mem_singleton.1 hy]; exact Nat.le_refl _))
 have h2 := h1
 unfold aY at h2
 clear c0 c1 c2 c3 c4 c5 f0 f1 f2 f3 f4 f5 lb ht2 h
 have ⟨c0,c1,c2,c3,c4,c5⟩ := cs6 h2
 have ⟨f0,f1,f2,f3,f4,f5⟩ := fs6 h2
 have lb := aB h2
 try simp [cD] at c0 c1 c2 c3 c4 c5
 go_wp2
 refine hQ_.ret (results_tmp2 rfl _ _ _) rfl ?_
 exact ⟨rfl, ⟨w.heap.size, aF h1 0 _, aU hN (Nat.ne_of_lt hbw) _, Nat.le_refl _⟩, hT2.setCell (by simp) _⟩
theorem dJ (b a k f lit : Nat) (nv sv : Value) (x : UInt8) (w : World) (h : aY w b a k f nv sv lit) (hk : k ≠ 4 ∨ ownB x = true) :
 Calls Tryz.prog 36 #[.pointer (some ⟨b, 0, none⟩), .int .u8 x.toNat] w fun e w' => e = .returned (.tuple #[.bool false, .int .i64 0]) ∧ w = w' := by
 have how := fun w => pP x w
 by_cases h4 : k = 4
 · have ho : ownB x = true := hk.resolve_left (by simp [h4])
   rw [ho] at how
   subst h4
   clear hk ho
   unfold aY at h
   have ⟨c0,c1,c2,c3,c4,c5⟩ := cs6 h
   have ⟨f0,f1,f2,f3,f4,f5⟩ := fs6 h
   have lb := aB h
   try simp [cD] at c0 c1 c2 c3 c4 c5
   refine aA Tryz.func36 rfl ?_
   intro Q_ hQ_
   simp only [Tryz.ntmps36, ents_, Nat.reduceAdd, Nat.reduceSub]
   go_wp2_with fail
   refine (how _).mono ?_
   rintro e w1 ⟨rfl, rfl⟩
   try go_simp
   go_wp2
   refine hQ_.ret (results_tmp2 rfl _ _ _) rfl ?_
   exact ⟨rfl, rfl⟩
 · have t4 : ((k : Int) != 4) = true := by simp; omega
   clear hk h4 how
   unfold aY at h
   have ⟨c0,c1,c2,c3,c4,c5⟩ := cs6 h
   have ⟨f0,f1,f2,f3,f4,f5⟩ := fs6 h
   have lb := aB h
   try simp [cD] at c0 c1 c2 c3 c4 c5
   refine aA Tryz.func36 rfl ?_
   intro Q_ hQ_
   simp only [Tryz.ntmps36, ents_, Nat.reduceAdd, Nat.reduceSub]
   go_wp2
   refine hQ_.ret (results_tmp2 rfl _ _ _) rfl ?_
   exact ⟨rfl, rfl⟩
theorem iT (b a f p lit : Nat) (sv : Value) (l : List UInt8) (x : UInt8) (N E : Int) (w : World) (h : aY w b a 4 f (.pointer (some ⟨p, 0, none⟩)) sv lit) (hN : RNumAt w p l) (hl : l.length ≤ 100000) (ho : ownB x = false) (hr : Num.rend l = (N, E)) :
 Calls Tryz.prog 36 #[.pointer (some ⟨b, 0, none⟩), .int .u8 x.toNat] w fun e w' => e = .returned (.tuple #[.bool true, .int .i64 (if E = 3 then 2 else E)]) ∧ Touch [] w w' := by
 have how := fun w => pP x w
 rw [ho] at how
 have hen := fun W hN => lC p l W hN hl
 rw [hr] at hen
 clear ho hr hl
 unfold aY at h
 have ⟨c0,c1,c2,c3,c4,c5⟩ := cs6 h
 have ⟨f0,f1,f2,f3,f4,f5⟩ := fs6 h
 have lb := aB h
 try simp [cD] at c0 c1 c2 c3 c4 c5
 by_cases h3 : E = 3
 · have t3 : (E == 3) = true := by simpa using h3
   rw [if_pos h3]
   clear h3
   refine aA Tryz.func36 rfl ?_
   intro Q_ hQ_
   simp only [Tryz.ntmps36, ents_, Nat.reduceAdd, Nat.reduceSub]
   go_wp2_with fail
   refine (how _).mono ?_
   rintro e w1 ⟨rfl, rfl⟩
   try go_simp
   go_wp2_with fail
   refine (hen _ hN).mono ?_
   rintro e w2 ⟨rfl, ht2⟩
   try go_simp
   go_wp2
   refine hQ_.ret (results_tmp2 rfl _ _ _) rfl ?_
   exact ⟨rfl, ht2⟩
 · have t3 : (E == 3) = false := by simpa using h3
   rw [if_neg h3]
   clear h3
   refine aA Tryz.func36 rfl ?_
   intro Q_ hQ_
   simp only [Tryz.ntmps36, ents_, Nat.reduceAdd, Nat.reduceSub]
   go_wp2_with fail
   refine (how _).mono ?_
   rintro e w1 ⟨rfl, rfl⟩
   try go_simp
   go_wp2_with fail
   refine (hen _ hN).mono ?_
   rintro e w2 ⟨rfl, ht2⟩
   try go_simp
   go_wp2
   refine hQ_.ret (results_tmp2 rfl _ _ _) rfl ?_
   exact ⟨rfl, ht2⟩
end Go.Proofs.YthdncmagfgoboaaGreatDoor
end

section
namespace Go.Proofs.YthdncmagfgoboaaGreatDoor
open Go.RowKit
set_option maxRecDepth 100000
set_option maxHeartbeats 8000000
open Lx
theorem mQ (b a f lit : Nat) (x : UInt8) (w : World) (P : Value → Value → World → Prop) (h : aY w b a 0 f (.pointer none) (.pointer none) lit)
 (hP : Calls Tryz.prog 38 #[.pointer (some ⟨b, 0, none⟩), .int .u8 x.toNat] w fun e w' => ∃ u v, e = .returned (.tuple #[u, v]) ∧ P u v w') :
 Calls Tryz.prog 25 #[.pointer (some ⟨b, 0, none⟩), .int .u8 x.toNat] w fun e w' => ∃ u v, e = .returned (.tuple #[u, v]) ∧ P u v w' := by
 have hen := dJ b a 0 f lit _ _ x w h (.inl (by decide))
 have h0 := h
 unfold aY at h
 have ⟨c0,c1,c2,c3,c4,c5⟩ := cs6 h
 have ⟨f0,f1,f2,f3,f4,f5⟩ := fs6 h
 have lb := aB h
 try simp [cD] at c0 c1 c2 c3 c4 c5
 refine aA Tryz.func25 rfl ?_
 intro Q_ hQ_
 simp only [Tryz.ntmps25, ents_, Nat.reduceAdd, Nat.reduceSub]
 go_wp2_with fail
 refine hen.mono ?_
 rintro e w1 ⟨rfl, rfl⟩
 try go_simp
 go_wp2_with fail
 refine hP.mono ?_
 rintro e w1 ⟨u, v, rfl, hp⟩
 try go_simp
 go_wp2
 refine hQ_.ret (results_tmp2 rfl _ _ _) rfl ?_
 exact ⟨u, v, rfl, hp⟩
theorem kW (b a k f n : Nat) (c x : UInt8) (w : World) (h : aY w b a k f (.pointer none) (.pointer none) n) (hk : k = 1 ∨ k = 2 ∨ k = 3) (hc : (bZ k)[n]? = some c) (hx : x ≠ c) :
 Calls Tryz.prog 25 #[.pointer (some ⟨b, 0, none⟩), .int .u8 x.toNat] w fun e w' => e = .returned (.tuple #[.slice none 0 0, .int .i64 2]) ∧ w = w' := by
 have hen := dJ b a k f n _ _ x w h (.inl (by omega))
 have hli := fun w => fE k hk w
 have t0 : ((k : Int) == 0) = false := by simp; omega
 have t4 : ((k : Int) == 4) = false := by simp; omega
 have t5 : ((k : Int) == 5) = false := by simp; omega
 have hlen := dP k
 generalize bZ k = t at *
 have i1 : ∀ w, (Instr.index 9 (.string (str t)) (.int .i64 (n : Int))).run Tryz.prog w = .ok (.int .u8 c.toNat) w := fun w => cI Tryz.underlying9 t .i64 n c hc w
 have tc : ((x.toNat : Int) != (c.toNat : Int)) = true := by
  simp
  exact fun q => hx (UInt8.toNat_inj.1 (by omega))
 clear hc hx hk
 have h0 := h
 unfold aY at h
 have ⟨c0,c1,c2,c3,c4,c5⟩ := cs6 h
 have ⟨f0,f1,f2,f3,f4,f5⟩ := fs6 h
 have lb := aB h
 try simp [cD] at c0 c1 c2 c3 c4 c5
 refine aA Tryz.func25 rfl ?_
 intro Q_ hQ_
 simp only [Tryz.ntmps25, ents_, Nat.reduceAdd, Nat.reduceSub]
 go_wp2_with fail
 refine hen.mono ?_
 rintro e w1 ⟨rfl, rfl⟩
 try go_simp
 go_wp2_with fail
 refine (hli _).mono ?_
 rintro e w1 ⟨rfl, rfl⟩
 try go_simp
 go_wp2
 refine hQ_.ret (results_tmp2 rfl _ _ _) rfl ?_
 exact ⟨rfl, rfl⟩
theorem jT (b a k f n : Nat) (x : UInt8) (w : World) (h : aY w b a k f (.pointer none) (.pointer none) n) (hk : k = 1 ∨ k = 2 ∨ k = 3) (hc : (bZ k)[n]? = some x) (hn : n + 1 < (bZ k).length) (ha : a ≤ 1000000000) :
 Calls Tryz.prog 25 #[.pointer (some ⟨b, 0, none⟩), .int .u8 x.toNat] w fun e w' => e = .returned (.tuple #[.slice none 0 0, .int .i64 0]) ∧ aY w' b (a + 1) k f (.pointer none) (.pointer none) (n + 1) ∧ Touch [b] w w' := by
 have hen := dJ b a k f n _ _ x w h (.inl (by omega))
 have hli := fun w => fE k hk w
 have t0 : ((k : Int) == 0) = false := by simp; omega
 have t4 : ((k : Int) == 4) = false := by simp; omega
 have t5 : ((k : Int) == 5) = false := by simp; omega
 have hlen := dP k
 generalize bZ k = t at *
 have i1 : ∀ w, (Instr.index 9 (.string (str t)) (.int .i64 (n : Int))).run Tryz.prog w = .ok (.int .u8 x.toNat) w := fun w => cI Tryz.underlying9 t .i64 n x hc w
 have tc : ((x.toNat : Int) != (x.toNat : Int)) = false := by simp
 have tn : (((n : Int) + 1) == (t.length : Int)) = false := by simp; omega
 have st := aR t
 have hn2 : n ≤ 100 := by omega
 clear hc hk hn
 have h0 := h
 unfold aY at h
 have ⟨c0,c1,c2,c3,c4,c5⟩ := cs6 h
 have ⟨f0,f1,f2,f3,f4,f5⟩ := fs6 h
 have lb := aB h
 try simp [cD] at c0 c1 c2 c3 c4 c5
 refine aA Tryz.func25 rfl ?_
 intro Q_ hQ_
 simp only [Tryz.ntmps25, ents_, Nat.reduceAdd, Nat.reduceSub]
 go_wp2_with fail
 refine hen.mono ?_
 rintro e w1 ⟨rfl, rfl⟩
 try go_simp
 go_wp2_with fail
 refine (hli _).mono ?_
 rintro e w1 ⟨rfl, rfl⟩
 try go_simp
 go_wp2
 refine hQ_.ret (results_tmp2 rfl _ _ _) rfl ?_
 exact ⟨rfl, aF (aF h0 5 _) 0 _, ((Touch.refl _ _).setCell (by simp) _).setCell (by simp) _⟩
theorem kV (b a k f n : Nat) (x : UInt8) (w : World) (h : aY w b a k f (.pointer none) (.pointer none) n) (hk : k = 1 ∨ k = 2 ∨ k = 3) (hc : (bZ k)[n]? = some x) (hn : n + 1 = (bZ k).length) (ha : a ≤ 1000000000) :
 Calls Tryz.prog 25 #[.pointer (some ⟨b, 0, none⟩), .int .u8 x.toNat] w fun e w' => ∃ v, e = .returned (.tuple #[v, .int .i64 0]) ∧ TokV w w' v [(k, f, a + 1, 0, [])] ∧ (∃ lit, aY w' b (a + 1) 0 f (.pointer none) (.pointer none) lit) ∧ Touch [b] w w' := by
 have hwh := fun W hW => iL W b (a + 1) k f (a + 1) (n + 1) (.pointer none) (.pointer none) hW 0 [] (.inl ⟨by omega, by omega, rfl, rfl⟩)
 have hen := dJ b a k f n _ _ x w h (.inl (by omega))
 have hli := fun w => fE k hk w
 have t0 : ((k : Int) == 0) = false := by simp; omega
 have t4 : ((k : Int) == 4) = false := by simp; omega
 have t5 : ((k : Int) == 5) = false := by simp; omega
 have hlen := dP k
 generalize bZ k = t at *
 have i1 : ∀ w, (Instr.index 9 (.string (str t)) (.int .i64 (n : Int))).run Tryz.prog w = .ok (.int .u8 x.toNat) w := fun w => cI Tryz.underlying9 t .i64 n x hc w
 have tc : ((x.toNat : Int) != (x.toNat : Int)) = false := by simp
 have tn : (((n : Int) + 1) == (t.length : Int)) = true := by simp; omega
 have st := aR t
 have hn2 : n ≤ 100 := by omega
 clear hc hk hn
 have h0 := h
 unfold aY at h
 have ⟨c0,c1,c2,c3,c4,c5⟩ := cs6 h
 have ⟨f0,f1,f2,f3,f4,f5⟩ := fs6 h
 have lb := aB h
 try simp [cD] at c0 c1 c2 c3 c4 c5
 refine aA Tryz.func25 rfl ?_
 intro Q_ hQ_
 simp only [Tryz.ntmps25, ents_, Nat.reduceAdd, Nat.reduceSub]
 go_wp2_with fail
 refine hen.mono ?_
 rintro e w1 ⟨rfl, rfl⟩
 try go_simp
 go_wp2_with fail
 refine (hli _).mono ?_
 rintro e w1 ⟨rfl, rfl⟩
 try go_simp
 go_wp2_with fail
 refine (hwh _ (aF (aF h0 5 _) 0 _)).mono ?_
 rintro e w2 ⟨rfl, h2, ht2⟩
 try go_simp
 have hT2 : Touch [b] w w2 := (((Touch.refl _ _).setCell (by simp) _).setCell (by simp) _).trans ht2
 clear c0 c1 c2 c3 c4 c5 f0 f1 f2 f3 f4 f5 lb
 clear ht2 hwh h0 h
 go_wp2
 refine hQ_.ret (results_tmp2 rfl _ _ _) rfl ?_
 exact ⟨_, rfl, ⟨_, _, _, rfl, gB w2 k f (a + 1) 0 [], fun j hj => by injection hj with hj; have := hT2.size; omega⟩, ⟨_, aW h2 _⟩, hT2.alloc _⟩
theorem kY (b a f p lit : Nat) (l : List UInt8) (x : UInt8) (k : Nat) (w : World) (h : aY w b a 4 f (.pointer (some ⟨p, 0, none⟩)) (.pointer none) lit) (hN : RNumAt w p l) (hl : l.length ≤ 100000) (ho : ownB x = true) (hbp : b ≠ p) (hp : Num.rpush l x = .error k) (hk : k ≠ 0) :
 Calls Tryz.prog 25 #[.pointer (some ⟨b, 0, none⟩), .int .u8 x.toNat] w fun e w' => e = .returned (.tuple #[.slice none 0 0, .int .i64 k]) ∧ RNumAt w' p l ∧ Touch [p] w w' := by
 have hen := dJ b a 4 f lit _ _ x w h (.inr ho)
 have hpu := rQ p l x k w hN hl hp
 have hk2 : ((k : Int) != 0) = true := by simpa using hk
 clear hp hk ho
 have h0 := h
 unfold aY at h
 have ⟨c0,c1,c2,c3,c4,c5⟩ := cs6 h
 have ⟨f0,f1,f2,f3,f4,f5⟩ := fs6 h
 have lb := aB h
 try simp [cD] at c0 c1 c2 c3 c4 c5
 refine aA Tryz.func25 rfl ?_
 intro Q_ hQ_
 simp only [Tryz.ntmps25, ents_, Nat.reduceAdd, Nat.reduceSub]
 go_wp2_with fail
 refine hen.mono ?_
 rintro e w1 ⟨rfl, rfl⟩
 try go_simp
 go_wp2_with fail
 refine hpu.mono ?_
 rintro e w2 ⟨rfl, hN2, ht2⟩
 try go_simp
 go_wp2
 refine hQ_.ret (results_tmp2 rfl _ _ _) rfl ?_
 exact ⟨rfl, hN2, ht2⟩
theorem jU (b a f p lit : Nat) (l l' : List UInt8) (x : UInt8) (w : World) (h : aY w b a 4 f (.pointer (some ⟨p, 0, none⟩)) (.pointer none) lit) (hN : RNumAt w p l) (hl : l.length ≤ 100000) (ho : ownB x = true) (hbp : b ≠ p) (hp : Num.rpush l x = .ok l') (ha : a ≤ 1000000000) :
 Calls Tryz.prog 25 #[.pointer (some ⟨b, 0, none⟩), .int .u8 x.toNat] w fun e w' => e = .returned (.tuple #[.slice none 0 0, .int .i64 0]) ∧ aY w' b (a + 1) 4 f (.pointer (some ⟨p, 0, none⟩)) (.pointer none) lit ∧ RNumAt w' p l' ∧ Touch [b, p] w w' := by
 have hen := dJ b a 4 f lit _ _ x w h (.inr ho)
 have hpu := mM p l l' x w hN hl hp
 clear hp ho
 have h0 := h
 unfold aY at h
 have ⟨c0,c1,c2,c3,c4,c5⟩ := cs6 h
 have ⟨f0,f1,f2,f3,f4,f5⟩ := fs6 h
 have lb := aB h
 try simp [cD] at c0 c1 c2 c3 c4 c5
 refine aA Tryz.func25 rfl ?_
 intro Q_ hQ_
 simp only [Tryz.ntmps25, ents_, Nat.reduceAdd, Nat.reduceSub]
 go_wp2_with fail
 refine hen.mono ?_
 rintro e w1 ⟨rfl, rfl⟩
 try go_simp
 go_wp2_with fail
 refine hpu.mono ?_
 rintro e w2 ⟨rfl, hN2, ht2⟩
 try go_simp
 have h2 := ht2.keep h0 (by simpa using hbp)
 have h3 := h2
 clear c0 c1 c2 c3 c4 c5 f0 f1 f2 f3 f4 f5 lb
 have ⟨c0,c1,c2,c3,c4,c5⟩ := cs6 h3
 have ⟨f0,f1,f2,f3,f4,f5⟩ := fs6 h3
 have lb := aB h3
 try simp [cD] at c0 c1 c2 c3 c4 c5
 go_wp2
 refine hQ_.ret (results_tmp2 rfl _ _ _) rfl ?_
 exact ⟨rfl, aF h2 0 _, aU hN2 hbp _, (ht2.mono (fun y hy => .inl (by simp at hy; simp [hy]))).setCell (by simp) _⟩
theorem kX (b a f p lit : Nat) (l : List UInt8) (x : UInt8) (N E : Int) (w : World) (h : aY w b a 4 f (.pointer (some ⟨p, 0, none⟩)) (.pointer none) lit) (hN : RNumAt w p l) (hl : l.length ≤ 100000) (ho : ownB x = false) (hr : Num.rend l = (N, E)) (he : E ≠ 0) :
 Calls Tryz.prog 25 #[.pointer (some ⟨b, 0, none⟩), .int .u8 x.toNat] w fun e w' => e = .returned (.tuple #[.slice none 0 0, .int .i64 (if E = 3 then 2 else E)]) ∧ Touch [] w w' := by
 have hen := iT b a f p lit _ l x N E w h hN hl ho hr
 have hK : (if E = 3 then 2 else E) ≠ 0 := by split <;> omega
 generalize (if E = 3 then 2 else E) = K at *
 have t0 : (K == 0) = false := by simpa using hK
 have t1 : (K != 0) = true := by simpa using hK
 clear hr ho hK he
 unfold aY at h
 have ⟨c0,c1,c2,c3,c4,c5⟩ := cs6 h
 have ⟨f0,f1,f2,f3,f4,f5⟩ := fs6 h
 have lb := aB h
 try simp [cD] at c0 c1 c2 c3 c4 c5
 refine aA Tryz.func25 rfl ?_
 intro Q_ hQ_
 simp only [Tryz.ntmps25, ents_, Nat.reduceAdd, Nat.reduceSub]
 go_wp2_with fail
 refine hen.mono ?_
 rintro e w1 ⟨rfl, ht1⟩
 try go_simp
 go_wp2
 refine hQ_.ret (results_tmp2 rfl _ _ _) rfl ?_
 exact ⟨rfl, ht1⟩
theorem kZ (b a f p lit : Nat) (l : List UInt8) (x : UInt8) (N : Int) (w : World) (h : aY w b a 4 f (.pointer (some ⟨p, 0, none⟩)) (.pointer none) lit) (hN : RNumAt w p l) (hl : l.length ≤ 100000) (ho : ownB x = false) (hr : Num.rend l = (N, 0)) (hk : bN x.toNat = 0) (hb : cQ x.toNat = false) :
 Calls Tryz.prog 25 #[.pointer (some ⟨b, 0, none⟩), .int .u8 x.toNat] w fun e w' => e = .returned (.tuple #[.slice none 0 0, .int .i64 2]) ∧ Touch [] w w' := by
 have hen := iT b a f p lit _ l x N 0 w h hN hl ho hr
 have hfi := fun w => cX x.toNat w
 have hbl := fun w => cY x.toNat w
 rw [hk] at hfi
 rw [hb] at hbl
 rw [if_neg (by decide)] at hen
 clear hr ho hk hb
 unfold aY at h
 have ⟨c0,c1,c2,c3,c4,c5⟩ := cs6 h
 have ⟨f0,f1,f2,f3,f4,f5⟩ := fs6 h
 have lb := aB h
 try simp [cD] at c0 c1 c2 c3 c4 c5
 refine aA Tryz.func25 rfl ?_
 intro Q_ hQ_
 simp only [Tryz.ntmps25, ents_, Nat.reduceAdd, Nat.reduceSub]
 go_wp2_with fail
 refine hen.mono ?_
 rintro e w1 ⟨rfl, ht1⟩
 try go_simp
 go_wp2_with fail
 refine (hbl _).mono ?_
 rintro e w2 ⟨rfl, rfl⟩
 try go_simp
 go_wp2_with fail
 refine (hfi _).mono ?_
 rintro e w2 ⟨rfl, rfl⟩
 try go_simp
 go_wp2
 refine hQ_.ret (results_tmp2 rfl _ _ _) rfl ?_
 exact ⟨rfl, ht1⟩
theorem kU (b a f p lit : Nat) (s : Sq.St) (go gb gh : Option Nat) (vo vb vh : Value) (x : UInt8) (k : Nat) (w : World) (h : aY w b a 5 f (.pointer none) (.pointer (some ⟨p, 0, none⟩)) lit) (hF : RStrF w p s go gb gh vo vb vh) (ok : Sq.Ok s) (hp : Sq.push s x = .error k) (hk : k ≠ 0) :
 Calls Tryz.prog 25 #[.pointer (some ⟨b, 0, none⟩), .int .u8 x.toNat] w fun e w' => e = .returned (.tuple #[.slice none 0 0, .int .i64 k]) ∧ Touch [] w w' := by
 have hen := dJ b a 5 f lit _ _ x w h (.inl (by decide))
 have hpu := nV p s go gb gh vo vb vh x k w hF ok hp
 have hk2 : ((k : Int) != 0) = true := by simpa using hk
 clear hp hk
 have h0 := h
 unfold aY at h
 have ⟨c0,c1,c2,c3,c4,c5⟩ := cs6 h
 have ⟨f0,f1,f2,f3,f4,f5⟩ := fs6 h
 have lb := aB h
 try simp [cD] at c0 c1 c2 c3 c4 c5
 refine aA Tryz.func25 rfl ?_
 intro Q_ hQ_
 simp only [Tryz.ntmps25, ents_, Nat.reduceAdd, Nat.reduceSub]
 go_wp2_with fail
 refine hen.mono ?_
 rintro e w1 ⟨rfl, rfl⟩
 try go_simp
 go_wp2_with fail
 refine hpu.mono ?_
 rintro e w2 ⟨rfl, ht2⟩
 try go_simp
 go_wp2
 refine hQ_.ret (results_tmp2 rfl _ _ _) rfl ?_
 exact ⟨rfl, ht2⟩
theorem jS (b a f p lit : Nat) (s s' : Sq.St) (go gb gh : Option Nat) (vo vb vh : Value) (x : UInt8) (w : World) (h : aY w b a 5 f (.pointer none) (.pointer (some ⟨p, 0, none⟩)) lit) (hF : RStrF w p s go gb gh vo vb vh) (ok : Sq.Ok s) (hn : s.out.length ≤ 200000) (hp : Sq.push s x = .ok (s', false)) (hb : b ∉ p :: go.toList) (ha : a ≤ 1000000000) :
 Calls Tryz.prog 25 #[.pointer (some ⟨b, 0, none⟩), .int .u8 x.toNat] w fun e w' => e = .returned (.tuple #[.slice none 0 0, .int .i64 0]) ∧ ∃ w2, aY w2 b a 5 f (.pointer none) (.pointer (some ⟨p, 0, none⟩)) lit ∧ eU w w2 p go gb gh s' ∧ w' = w2.setCell ⟨b, 0, none⟩ (.int .i64 ((a : Int) + 1)) := by
 have hen := dJ b a 5 f lit _ _ x w h (.inl (by decide))
 have hpu := jE p s s' false go gb gh vo vb vh x w hF ok hn hp
 clear hp
 have h0 := h
 unfold aY at h
 have ⟨c0,c1,c2,c3,c4,c5⟩ := cs6 h
 have ⟨f0,f1,f2,f3,f4,f5⟩ := fs6 h
 have lb := aB h
 try simp [cD] at c0 c1 c2 c3 c4 c5
 refine aA Tryz.func25 rfl ?_
 intro Q_ hQ_
 simp only [Tryz.ntmps25, ents_, Nat.reduceAdd, Nat.reduceSub]
 go_wp2_with fail
 refine hen.mono ?_
 rintro e w1 ⟨rfl, rfl⟩
 try go_simp
 go_wp2_with fail
 refine hpu.mono ?_
 rintro e w2 ⟨rfl, hR⟩
 try go_simp
 have h2 : aY w2 b a 5 f (.pointer none) (.pointer (some ⟨p, 0, none⟩)) lit := by
  obtain ⟨_, _, _, _, _, _, _, _, _, _, ht⟩ := hR
  exact ht.keep h0 hb
 have h3 := h2
 unfold aY at h3
 replace hR := Box.mk hR
 clear c0 c1 c2 c3 c4 c5 f0 f1 f2 f3 f4 f5 lb
 have ⟨c0,c1,c2,c3,c4,c5⟩ := cs6 h3
 have ⟨f0,f1,f2,f3,f4,f5⟩ := fs6 h3
 have lb := aB h3
 try simp [cD] at c0 c1 c2 c3 c4 c5
 go_wp2
 refine hQ_.ret (results_tmp2 rfl _ _ _) rfl ?_
 exact ⟨rfl, w2, h2, hR.out, rfl⟩
theorem kT (b a f p lit : Nat) (s s' : Sq.St) (go gb gh : Option Nat) (vo vb vh : Value) (x : UInt8) (w : World) (h : aY w b a 5 f (.pointer none) (.pointer (some ⟨p, 0, none⟩)) lit) (hF : RStrF w p s go gb gh vo vb vh) (ok : Sq.Ok s) (hn : s.out.length ≤ 100000) (hp : Sq.push s x = .ok (s', true)) (hb : b ∉ p :: (go.toList ++ (gb.toList ++ gh.toList))) (hbl : b < w.heap.size) (ha : a ≤ 1000000000) :
 Calls Tryz.prog 25 #[.pointer (some ⟨b, 0, none⟩), .int .u8 x.toNat] w fun e w' => ∃ v, e = .returned (.tuple #[v, .int .i64 0]) ∧ TokV w w' v [(5, f, a + 1, 0, Sq.text s'.out)] ∧ (∃ lit, aY w' b (a + 1) 0 f (.pointer none) (.pointer none) lit) ∧ Touch (b :: p :: go.toList) w w' := by
 have hen := dJ b a 5 f lit _ _ x w h (.inl (by decide))
 have hpu := jE p s s' true go gb gh vo vb vh x w hF ok (by omega) hp
 have hlen := Sq.push_len ok hp
 clear hp
 have h0 := h
 unfold aY at h
 have ⟨c0,c1,c2,c3,c4,c5⟩ := cs6 h
 have ⟨f0,f1,f2,f3,f4,f5⟩ := fs6 h
 have lb := aB h
 try simp [cD] at c0 c1 c2 c3 c4 c5
 refine aA Tryz.func25 rfl ?_
 intro Q_ hQ_
 simp only [Tryz.ntmps25, ents_, Nat.reduceAdd, Nat.reduceSub]
 go_wp2_with fail
 refine hen.mono ?_
 rintro e w1 ⟨rfl, rfl⟩
 try go_simp
 go_wp2_with fail
 refine hpu.mono ?_
 rintro e w2 ⟨rfl, hR⟩
 try go_simp
 obtain ⟨go', gb', gh', vo', vb', vh', hF2, n1, n2, n3, ht⟩ := hR
 have hb1 : b ∉ p :: go.toList := fun q => hb (by simp at q ⊢; rcases q with q | q <;> simp [q])
 have h2 : aY w2 b a 5 f (.pointer none) (.pointer (some ⟨p, 0, none⟩)) lit := ht.keep h0 hb1
 have k1 : ∀ k, go' = some k → k ≠ b := n1.ne (fun k hk q => hb (by subst q; simp [hk])) hbl
 have k2 : ∀ k, gb' = some k → k ≠ b := n2.ne (fun k hk q => hb (by subst q; simp [hk])) hbl
 have k3 : ∀ k, gh' = some k → k ≠ b := n3.ne (fun k hk q => hb (by subst q; simp [hk])) hbl
 have hpb : p ≠ b := fun q => hb (by simp [q])
 have hF3 : RStrF (w2.setCell ⟨b, 0, none⟩ (.int .i64 ((a : Int) + 1))) p s' go' gb' gh' vo' vb' vh' := hF2.keep (F := [b]) ((Touch.refl _ _).setCell (by simp) _) (by simpa using hpb) (fun k hk q => k1 k hk (List.mem_singleton.1 q)) (fun k hk q => k2 k hk (List.mem_singleton.1 q)) (fun k hk q => k3 k hk (List.mem_singleton.1 q))
 have hwh := iL _ b (a + 1) 5 f (a + 1) lit (.pointer none) (.pointer (some ⟨p, 0, none⟩)) (aF h2 0 _) 0 (Sq.text s'.out) (.inr (.inr ⟨rfl, rfl, p, s', go', gb', gh', vo', vb', vh', rfl, hF3, by omega, rfl⟩))
 have h3 := h2
 unfold aY at h3
 clear hF2 hF3 k1 k2 k3 hpb n1 n2 n3 hlen hpu hF ok hn
 generalize Sq.text s'.out = T at *
 clear c0 c1 c2 c3 c4 c5 f0 f1 f2 f3 f4 f5 lb
 have ⟨c0,c1,c2,c3,c4,c5⟩ := cs6 h3
 have ⟨f0,f1,f2,f3,f4,f5⟩ := fs6 h3
 have lb := aB h3
 try simp [cD] at c0 c1 c2 c3 c4 c5
 go_wp2_with fail
 refine hwh.mono ?_
 rintro e w3 ⟨rfl, h4, ht3⟩
 try go_simp
 have hT3 : Touch (b :: p :: go.toList) w w3 := ((ht.mono (fun y hy => .inl (List.mem_cons_of_mem _ hy))).setCell (by simp) _).trans (ht3.mono (by simp))
 clear c0 c1 c2 c3 c4 c5 f0 f1 f2 f3 f4 f5 lb
 clear ht3 ht hwh h3 h2 h0 h
 go_wp2
 refine hQ_.ret (results_tmp2 rfl _ _ _) rfl ?_
 exact ⟨_, rfl, ⟨_, _, _, rfl, gB w3 5 f (a + 1) 0 T, fun j hj => by injection hj with hj; have := hT3.size; omega⟩, ⟨_, aW h4 _⟩, hT3.alloc _⟩
end Go.Proofs.YthdncmagfgoboaaGreatDoor
end
