/- One of the texts that lead to the theorem lexPlays.proved: the conditions stand in each theorem. -/
import Derived.Test.YthdncmagfgoboaaGreatDoorP24
import Derived.Test.YthdncmagfgoboaaGreatDoorP29
import Derived.Test.YthdncmagfgoboaaGreatDoorP15
import Derived.Test.YthdncmagfgoboaaGreatDoorP23
import Derived.Deep.RegionHeld3
set_option linter.unusedSimpArgs false
set_option linter.unusedVariables false
section
namespace Go.Proofs.YthdncmagfgoboaaGreatDoor
open Go.RowKit
set_option maxRecDepth 100000
set_option maxHeartbeats 8000000
abbrev cD (a k f : Nat) (nv sv : Value) (lit : Nat) : Array Value := #[.int .i64 a, .int .i64 k, .int .i64 f, nv, sv, .int .i64 lit]
def aY (w : World) (b a k f : Nat) (nv sv : Value) (lit : Nat) : Prop := w.heap[b]? = some (.cells (cD a k f nv sv lit) 63 (0, 0))
theorem pR (w : World) : Calls Tryz.prog 24 #[] w fun e w' => e = .returned (.pointer (some ⟨w.heap.size, 0, none⟩)) ∧ aY w' w.heap.size 0 0 0 (.pointer none) (.pointer none) 0 ∧ Touch [] w w' := by
 refine aA Tryz.func24 rfl ?_
 intro Q_ hQ_
 simp only [Tryz.ntmps24, ents_, Nat.reduceAdd, Nat.reduceSub]
 go_wp2
 refine hQ_.ret (results_tmp rfl _ _ _) rfl ?_
 exact ⟨rfl, lU (by simp), ((Touch.refl _ _).alloc _)⟩
def ownF (z : Int) : Bool := (decide (48 ≤ z) && decide (z ≤ 57)) || z == 45 || z == 43 || z == 46 || z == 101 || z == 69
theorem vM (z : Int) (w : World) : Calls Tryz.prog 59 #[.int .u8 z] w fun e w' => e = .returned (.bool (ownF z)) ∧ w = w' := by
 cases e1 : decide (48 ≤ z) with
 | true =>
  cases e2 : decide (z ≤ 57) with
  | true =>
   have ee : ownF z = true := by simp [ownF, e1, e2]
   refine aA Tryz.func59 rfl ?_
   intro Q_ hQ_
   simp only [Tryz.ntmps59, ents_, Nat.reduceAdd, Nat.reduceSub]
   go_wp2
   refine hQ_.ret (results_tmp rfl _ _ _) rfl ?_
   exact ⟨by rw [ee]; rfl, rfl⟩
  | false =>
   have t1 : (z == 45) = false := by simp at e1 e2 ⊢; omega
   have t2 : (z == 43) = false := by simp at e1 e2 ⊢; omega
   have t3 : (z == 46) = false := by simp at e1 e2 ⊢; omega
   cases t4 : (z == 101) with
   | true =>
    have ee : ownF z = true := by simp [ownF, t4]
    refine aA Tryz.func59 rfl ?_
    intro Q_ hQ_
    simp only [Tryz.ntmps59, ents_, Nat.reduceAdd, Nat.reduceSub]
    go_wp2
    refine hQ_.ret (results_tmp rfl _ _ _) rfl ?_
    exact ⟨by rw [ee]; rfl, rfl⟩
   | false =>
    cases t5 : (z == 69) with
    | true =>
     have ee : ownF z = true := by simp [ownF, t5]
     refine aA Tryz.func59 rfl ?_
     intro Q_ hQ_
     simp only [Tryz.ntmps59, ents_, Nat.reduceAdd, Nat.reduceSub]
     go_wp2
     refine hQ_.ret (results_tmp rfl _ _ _) rfl ?_
     exact ⟨by rw [ee]; rfl, rfl⟩
    | false =>
     have ee : ownF z = false := by unfold ownF; rw [e1, e2, t1, t2, t3, t4, t5]; rfl
     refine aA Tryz.func59 rfl ?_
     intro Q_ hQ_
     simp only [Tryz.ntmps59, ents_, Nat.reduceAdd, Nat.reduceSub]
     go_wp2
     refine hQ_.ret (results_tmp rfl _ _ _) rfl ?_
     exact ⟨by rw [ee]; rfl, rfl⟩
 | false =>
  have t4 : (z == 101) = false := by simp at e1 ⊢; omega
  have t5 : (z == 69) = false := by simp at e1 ⊢; omega
  cases t1 : (z == 45) with
  | true =>
   have ee : ownF z = true := by simp [ownF, t1]
   refine aA Tryz.func59 rfl ?_
   intro Q_ hQ_
   simp only [Tryz.ntmps59, ents_, Nat.reduceAdd, Nat.reduceSub]
   go_wp2
   refine hQ_.ret (results_tmp rfl _ _ _) rfl ?_
   exact ⟨by rw [ee]; rfl, rfl⟩
  | false =>
   cases t2 : (z == 43) with
   | true =>
    have ee : ownF z = true := by simp [ownF, t2]
    refine aA Tryz.func59 rfl ?_
    intro Q_ hQ_
    simp only [Tryz.ntmps59, ents_, Nat.reduceAdd, Nat.reduceSub]
    go_wp2
    refine hQ_.ret (results_tmp rfl _ _ _) rfl ?_
    exact ⟨by rw [ee]; rfl, rfl⟩
   | false =>
    cases t3 : (z == 46) with
    | true =>
     have ee : ownF z = true := by simp [ownF, t3]
     refine aA Tryz.func59 rfl ?_
     intro Q_ hQ_
     simp only [Tryz.ntmps59, ents_, Nat.reduceAdd, Nat.reduceSub]
     go_wp2
     refine hQ_.ret (results_tmp rfl _ _ _) rfl ?_
     exact ⟨by rw [ee]; rfl, rfl⟩
    | false =>
     have ee : ownF z = false := by unfold ownF; rw [e1, t1, t2, t3, t4, t5]; rfl
     refine aA Tryz.func59 rfl ?_
     intro Q_ hQ_
     simp only [Tryz.ntmps59, ents_, Nat.reduceAdd, Nat.reduceSub]
     go_wp2
     refine hQ_.ret (results_tmp rfl _ _ _) rfl ?_
     exact ⟨by rw [ee]; rfl, rfl⟩
theorem pP (x : UInt8) (w : World) : Calls Tryz.prog 59 #[.int .u8 x.toNat] w fun e w' => e = .returned (.bool (ownB x)) ∧ w = w' := by
 have key : ∀ n : Fin 256, ownB (UInt8.ofNat n.val) = ownF (n.val : Int) := by decide
 have hk := key ⟨x.toNat, x.toNat_lt⟩
 simp only [UInt8.ofNat_toNat] at hk
 rw [hk]
 exact vM _ w
theorem fE (k : Nat) (hk : k = 1 ∨ k = 2 ∨ k = 3) (w : World) : Calls Tryz.prog 41 #[.int .i64 k] w fun e w' => e = .returned (.string (str (bZ k))) ∧ w = w' := by
 rcases hk with rfl | rfl | rfl
 all_goals
  refine aA Tryz.func41 rfl ?_
  intro Q_ hQ_
  simp only [Tryz.ntmps41, ents_, Nat.reduceAdd, Nat.reduceSub]
  go_wp2
  refine hQ_.ret (results_tmp rfl _ _ _) rfl ?_
  exact ⟨rfl, rfl⟩
theorem RNumAt.keepT {w w' : World} {F : List Nat} {q : Nat} {s : List UInt8} (h : RNumAt w q s) (t : Touch F w w') (hq : q ∉ F) : RNumAt w' q s := t.keep h hq
theorem wres {W : World} {r : Nat} {t : TypeId} {f : Nat × Nat} {u0 u1 u2 u3 u4 v0 v1 v2 v3 v4 : Value} (h : W.heap[r]? = some (.cells #[u0, u1, u2, u3, u4] t f)) :
 (((((W.setCell ⟨r, 0, none⟩ v0).setCell ⟨r, 1, none⟩ v1).setCell ⟨r, 2, none⟩ v2).setCell ⟨r, 3, none⟩ v3).setCell ⟨r, 4, none⟩ v4).heap[r]? = some (.cells #[v0, v1, v2, v3, v4] t f) :=
 aF (aF (aF (aF (aF h 0 _) 1 _) 2 _) 3 _) 4 _
theorem rC {W : World} {b r : Nat} {o : Option Obj} {v0 v1 v2 v3 v4 : Value} (h : W.heap[b]? = o) (n : b ≠ r) :
 (((((W.setCell ⟨r, 0, none⟩ v0).setCell ⟨r, 1, none⟩ v1).setCell ⟨r, 2, none⟩ v2).setCell ⟨r, 3, none⟩ v3).setCell ⟨r, 4, none⟩ v4).heap[b]? = o :=
 aU (aU (aU (aU (aU h n.symm _) n.symm _) n.symm _) n.symm _) n.symm _
theorem rB {F : List Nat} {w W : World} {r : Nat} {v0 v1 v2 v3 v4 : Value} (h : Touch F w W) (n : w.heap.size ≤ r) :
 Touch F w (((((W.setCell ⟨r, 0, none⟩ v0).setCell ⟨r, 1, none⟩ v1).setCell ⟨r, 2, none⟩ v2).setCell ⟨r, 3, none⟩ v3).setCell ⟨r, 4, none⟩ v4) :=
 ((((h.setCell (.inr n) _).setCell (.inr n) _).setCell (.inr n) _).setCell (.inr n) _).setCell (.inr n) _
theorem iK {W : World} {A : Array Value} {r : Nat} {t : TypeId} {k f E : Nat} {N : Int} {S : List UInt8} {fr : Nat × Nat} (hA : A[4]? = some (.pointer (some ⟨r, 0, none⟩))) (h : W.heap[r]? = some (.cells #[.int .i64 k, .int .i64 f, .int .i64 E, .int .i64 N, .string (str S)] t fr)) : Sem.run Tryz.prog (results Tryz.f37 A) W = .ok (tokV k f E N S) W := by
 have ⟨x0,x1,x2,x3,x4⟩ := cs5 h
 try simp only [List.getElem?_toArray, List.getElem?_cons_succ, List.getElem?_cons_zero] at x0 x1 x2 x3 x4
 simp [results, Tryz.results37, go_sem, hA, x0, x1, x2, x3, x4]
theorem iL (w : World) (b a k f E lit : Nat) (nv sv : Value) (h : aY w b a k f nv sv lit) (N : Int) (S : List UInt8)
 (hk : (k ≠ 4 ∧ k ≠ 5 ∧ N = 0 ∧ S = []) ∨ (k = 4 ∧ S = [] ∧ ∃ p l, nv = .pointer (some ⟨p, 0, none⟩) ∧ RNumAt w p l ∧ l.length ≤ 100000 ∧ (Num.rend l).1 = N) ∨ (k = 5 ∧ N = 0 ∧ ∃ p s go gb gh vo vb vh, sv = .pointer (some ⟨p, 0, none⟩) ∧ RStrF w p s go gb gh vo vb vh ∧ s.out.length ≤ 200000 ∧ S = Sq.text s.out)) :
 Calls Tryz.prog 37 #[.pointer (some ⟨b, 0, none⟩), .int .i64 E] w fun e w' => e = .returned (tokV k f E N S) ∧ aY w' b a 0 f (.pointer none) (.pointer none) lit ∧ Touch [b] w w' := by
 have h0 := h
 replace hk := Box.mk hk
 unfold aY at h
 have ⟨c0,c1,c2,c3,c4,c5⟩ := cs6 h
 have ⟨f0,f1,f2,f3,f4,f5⟩ := fs6 h
 have lb := aB h
 try simp [cD] at c0 c1 c2 c3 c4 c5
 refine aA Tryz.func37 rfl ?_
 intro Q_ hQ_
 simp only [Tryz.ntmps37, ents_, Nat.reduceAdd, Nat.reduceSub]
 go_wp2
 have hc : ∀ w', Touch [] w w' → w'.cell? ⟨b, 1, none⟩ = some (.int .i64 k) ∧ w'.cell? ⟨b, 2, none⟩ = some (.int .i64 f) := fun w' t => ⟨t.cell c1 (by simp), t.cell c2 (by simp)⟩
 have hc1 : ∀ w', Touch [] w w' → w'.cell? ⟨b, 1, none⟩ = some (.int .i64 k) := fun w' t => (hc w' t).1
 have hc2 : ∀ w', Touch [] w w' → w'.cell? ⟨b, 2, none⟩ = some (.int .i64 f) := fun w' t => (hc w' t).2
 clear hc
 go_region_held3 (fun w' => Touch [] w w')
  (repeat (first | (with_reducible exact Touch.refl _ _) | (with_reducible assumption) | (with_reducible apply Touch.drew) | (with_reducible apply Touch.alloc)))
  (fail)
 have hT0 : Touch [] w (((w.alloc (.cells #[.int .i64 0, .int .i64 0, .int .i64 0, .int .i64 0, .string ⟨#[]⟩] 41)).alloc (.cells #[.int .i64 k, .int .i64 f, .int .i64 E, .int .i64 0, .string ⟨#[]⟩] 41)).drew) := (((Touch.refl [] w).alloc _).alloc _).drew
 have hA0 : (((w.alloc (.cells #[.int .i64 0, .int .i64 0, .int .i64 0, .int .i64 0, .string ⟨#[]⟩] 41)).alloc (.cells #[.int .i64 k, .int .i64 f, .int .i64 E, .int .i64 0, .string ⟨#[]⟩] 41)).drew).heap[w.heap.size]? = some (.cells #[.int .i64 0, .int .i64 0, .int .i64 0, .int .i64 0, .string ⟨#[]⟩] 41 (0, 0)) := aW (aZ _ _) _
 have hB0 : (((w.alloc (.cells #[.int .i64 0, .int .i64 0, .int .i64 0, .int .i64 0, .string ⟨#[]⟩] 41)).alloc (.cells #[.int .i64 k, .int .i64 f, .int .i64 E, .int .i64 0, .string ⟨#[]⟩] 41)).drew).heap[w.heap.size + 1]? = some (.cells #[.int .i64 k, .int .i64 f, .int .i64 E, .int .i64 0, .string ⟨#[]⟩] 41 (0, 0)) := lU (by simp)
 generalize ((w.alloc (.cells #[.int .i64 0, .int .i64 0, .int .i64 0, .int .i64 0, .string ⟨#[]⟩] 41)).alloc (.cells #[.int .i64 k, .int .i64 f, .int .i64 E, .int .i64 0, .string ⟨#[]⟩] 41)).drew = W at hT0 hA0 hB0 ⊢
 have hbx : b < w.heap.size := lb
 have nbr : b ≠ w.heap.size := Nat.ne_of_lt lb
 have nbq : b ≠ w.heap.size + 1 := Nat.ne_of_lt (Nat.lt_succ_of_lt lb)
 have nqb : w.heap.size + 1 ≠ b := nbq.symm
 clear hc1 hc2 c0 c1 c2 c3 c4 c5 f0 f1 f2 f3 f4 f5 h lb
 have hL : aY W b a k f nv sv lit := hT0.keep h0 (by simp)
 rcases hk.out with ⟨h4, h5, rfl, rfl⟩ | ⟨h4, rfl, p, l, rfl, hN, hl, hNe⟩ | ⟨h5, rfl, p, s, go, gb, gh, vo, vb, vh, rfl, hS, hsl, rfl⟩
 all_goals clear hk
 · have t4 : ((k : Int) == 4) = false := by simp; omega
   have t5 : ((k : Int) == 5) = false := by simp; omega
   clear h4 h5
   have hL2 := hL
   unfold aY at hL
   have ⟨c0,c1,c2,c3,c4,c5⟩ := cs6 hL
   have ⟨f0,f1,f2,f3,f4,f5⟩ := fs6 hL
   have lb := aB hL
   try simp [cD] at c0 c1 c2 c3 c4 c5
   have ⟨r0,r1,r2,r3,r4⟩ := cs5 hB0
   have ⟨s0,s1,s2,s3,s4⟩ := fs5 hB0
   have ls := aB hB0
   try simp at r0 r1 r2 r3 r4
   have ⟨u0,u1,u2,u3,u4⟩ := cs5 hA0
   have ⟨v0,v1,v2,v3,v4⟩ := fs5 hA0
   have lu := aB hA0
   try simp at u0 u1 u2 u3 u4
   go_wp2
   (try simp only [Exit.inBlock, Exit.then])
   have hq := wres (v0 := .int .i64 k) (v1 := .int .i64 f) (v2 := .int .i64 E) (v3 := .int .i64 0) (v4 := .string (str [])) (aU (aU (aU (hA0) (a := ⟨b, 1, none⟩) nbr (.int .i64 0)) (a := ⟨b, 3, none⟩) nbr (.pointer none)) (a := ⟨b, 4, none⟩) nbr (.pointer none))
   refine hQ_.ret (v := tokV k f E 0 []) (iK rfl hq) rfl ?_
   exact ⟨rfl, rC (aF (aF (aF hL2 1 _) 3 _) 4 _) nbr, rB ((((hT0.mono (by simp)).setCell (by simp) _).setCell (by simp) _).setCell (by simp) _) (Nat.le_refl _)⟩
 · have t4 : ((k : Int) == 4) = true := by simp [h4]
   have t5 : ((k : Int) == 5) = false := by simp [h4]
   clear h4
   have hL2 := hL
   unfold aY at hL
   have ⟨c0,c1,c2,c3,c4,c5⟩ := cs6 hL
   have ⟨f0,f1,f2,f3,f4,f5⟩ := fs6 hL
   have lb := aB hL
   try simp [cD] at c0 c1 c2 c3 c4 c5
   have ⟨r0,r1,r2,r3,r4⟩ := cs5 hB0
   have ⟨s0,s1,s2,s3,s4⟩ := fs5 hB0
   have ls := aB hB0
   try simp at r0 r1 r2 r3 r4
   have ⟨u0,u1,u2,u3,u4⟩ := cs5 hA0
   have ⟨v0,v1,v2,v3,v4⟩ := fs5 hA0
   have lu := aB hA0
   try simp at u0 u1 u2 u3 u4
   go_wp2_with fail
   refine (lC p l W (hN.keepT hT0 (by simp)) hl).mono ?_
   rintro e w2 ⟨rfl, ht2⟩
   rw [hNe]
   try go_simp
   clear c0 c1 c2 c3 c4 c5 f0 f1 f2 f3 f4 f5 lb r0 r1 r2 r3 r4 s0 s1 s2 s3 s4 ls u0 u1 u2 u3 u4 v0 v1 v2 v3 v4 lu
   have hT2 := hT0.trans ht2
   replace hA0 := ht2.keep hA0 (by simp)
   replace hB0 := ht2.keep hB0 (by simp)
   replace hL := ht2.keep hL (by simp)
   replace hL2 := hL
   have ⟨c0,c1,c2,c3,c4,c5⟩ := cs6 hL
   have ⟨f0,f1,f2,f3,f4,f5⟩ := fs6 hL
   have lb := aB hL
   try simp [cD] at c0 c1 c2 c3 c4 c5
   have ⟨r0,r1,r2,r3,r4⟩ := cs5 hB0
   have ⟨s0,s1,s2,s3,s4⟩ := fs5 hB0
   have ls := aB hB0
   try simp at r0 r1 r2 r3 r4
   have ⟨u0,u1,u2,u3,u4⟩ := cs5 hA0
   have ⟨v0,v1,v2,v3,v4⟩ := fs5 hA0
   have lu := aB hA0
   try simp at u0 u1 u2 u3 u4
   clear hT0 ht2 hN hNe hl
   go_wp2
   (try simp only [Exit.inBlock, Exit.then])
   have hq := wres (v0 := .int .i64 k) (v1 := .int .i64 f) (v2 := .int .i64 E) (v3 := .int .i64 N) (v4 := .string (str [])) (aU (aU (aU (aU hA0 (a := ⟨w.heap.size + 1, 3, none⟩) (Nat.succ_ne_self _) (.int .i64 N)) (a := ⟨b, 1, none⟩) nbr (.int .i64 0)) (a := ⟨b, 3, none⟩) nbr (.pointer none)) (a := ⟨b, 4, none⟩) nbr (.pointer none))
   refine hQ_.ret (v := tokV k f E N []) (iK rfl hq) rfl ?_
   exact ⟨rfl, rC (aF (aF (aF (aU hL2 nqb _) 1 _) 3 _) 4 _) nbr, rB (((((hT2.mono (by simp)).setCell (.inr (Nat.le_succ _)) _).setCell (by simp) _).setCell (by simp) _).setCell (by simp) _) (Nat.le_refl _)⟩
 · have t4 : ((k : Int) == 4) = false := by simp [h5]
   have t5 : ((k : Int) == 5) = true := by simp [h5]
   clear h5
   have hL2 := hL
   have hS0 : RStrF W p s go gb gh vo vb vh := hS.keep hT0 (by simp) (by simp) (by simp) (by simp)
   have hte := nU p s go gb gh vo vb vh W hS0 hsl
   generalize Sq.text s.out = T at *
   clear hS hS0
   unfold aY at hL
   have ⟨c0,c1,c2,c3,c4,c5⟩ := cs6 hL
   have ⟨f0,f1,f2,f3,f4,f5⟩ := fs6 hL
   have lb := aB hL
   try simp [cD] at c0 c1 c2 c3 c4 c5
   have ⟨r0,r1,r2,r3,r4⟩ := cs5 hB0
   have ⟨s0,s1,s2,s3,s4⟩ := fs5 hB0
   have ls := aB hB0
   try simp at r0 r1 r2 r3 r4
   have ⟨u0,u1,u2,u3,u4⟩ := cs5 hA0
   have ⟨v0,v1,v2,v3,v4⟩ := fs5 hA0
   have lu := aB hA0
   try simp at u0 u1 u2 u3 u4
   go_wp2_with fail
   refine hte.mono ?_
   rintro e w2 ⟨rfl, ht2⟩
   try go_simp
   clear c0 c1 c2 c3 c4 c5 f0 f1 f2 f3 f4 f5 lb r0 r1 r2 r3 r4 s0 s1 s2 s3 s4 ls u0 u1 u2 u3 u4 v0 v1 v2 v3 v4 lu
   have hT2 := hT0.trans ht2
   replace hA0 := ht2.keep hA0 (by simp)
   replace hB0 := ht2.keep hB0 (by simp)
   replace hL := ht2.keep hL (by simp)
   replace hL2 := hL
   have ⟨c0,c1,c2,c3,c4,c5⟩ := cs6 hL
   have ⟨f0,f1,f2,f3,f4,f5⟩ := fs6 hL
   have lb := aB hL
   try simp [cD] at c0 c1 c2 c3 c4 c5
   have ⟨r0,r1,r2,r3,r4⟩ := cs5 hB0
   have ⟨s0,s1,s2,s3,s4⟩ := fs5 hB0
   have ls := aB hB0
   try simp at r0 r1 r2 r3 r4
   have ⟨u0,u1,u2,u3,u4⟩ := cs5 hA0
   have ⟨v0,v1,v2,v3,v4⟩ := fs5 hA0
   have lu := aB hA0
   try simp at u0 u1 u2 u3 u4
   clear hT0 ht2 hte hsl
   go_wp2
   (try simp only [Exit.inBlock, Exit.then])
   have hq := wres (v0 := .int .i64 k) (v1 := .int .i64 f) (v2 := .int .i64 E) (v3 := .int .i64 0) (v4 := .string (str T)) (aU (aU (aU (aU hA0 (a := ⟨w.heap.size + 1, 4, none⟩) (Nat.succ_ne_self _) (.string (str T))) (a := ⟨b, 1, none⟩) nbr (.int .i64 0)) (a := ⟨b, 3, none⟩) nbr (.pointer none)) (a := ⟨b, 4, none⟩) nbr (.pointer none))
   refine hQ_.ret (v := tokV k f E 0 T) (iK rfl hq) rfl ?_
   exact ⟨rfl, rC (aF (aF (aF (aU hL2 nqb _) 1 _) 3 _) 4 _) nbr, rB (((((hT2.mono (by simp)).setCell (.inr (Nat.le_succ _)) _).setCell (by simp) _).setCell (by simp) _).setCell (by simp) _) (Nat.le_refl _)⟩
end Go.Proofs.YthdncmagfgoboaaGreatDoor
end

section
namespace Go.Proofs.YthdncmagfgoboaaGreatDoor
open Go.RowKit
set_option maxRecDepth 100000
set_option maxHeartbeats 8000000
section
variable (w : World) (p : Nat)
theorem nP : (Instr.typeAssert (strV p) 70 102 true).run Tryz.prog w = .ok (.tuple #[.pointer none, .bool false]) w := by kernel_rfl
theorem nO : (Instr.typeAssert (strV p) 70 75 true).run Tryz.prog w = .ok (.tuple #[.agg #[.pointer none], .bool false]) w := by kernel_rfl
theorem kC : (Instr.typeAssert (strV p) 70 84 true).run Tryz.prog w = .ok (.tuple #[.agg #[.pointer (some ⟨p, 0, none⟩)], .bool true]) w := by kernel_rfl
end
theorem jV (b a f p : Nat) (s : Sq.St) (g : Option Nat) (tv : Value) (r : Nat) (x : UInt8) (k : Nat) (w : World) (h : bB w b a f (strV p)) (hF : StrF w p s g tv r) (ok : Sq.Ok s) (hp : Sq.push s x = .error k) (hk : k ≠ 0) :
 Calls Tryz.prog 33 #[.pointer (some ⟨b, 0, none⟩), .int .u8 x.toNat] w fun e w' => e = .returned (.tuple #[.slice none 0 0, .int .i64 k]) ∧ Touch [] w w' := by
 have hpu := fun W hF => pI p s g tv r x k W hF ok hp
 have hkk : ((k : Int) != 0) = true := by simpa using hk
 clear hp hk
 have h0 := h
 unfold bB at h
 have ⟨c0,c1,c2⟩ := cs3 h
 have ⟨f0,f1,f2⟩ := fs3 h
 have lb := aB h
 try simp at c0 c1 c2
 have ta1 := fun w => nP w p
 have ta2 := fun w => nO w p
 have ta3 := fun w => kC w p
 refine aA Tryz.func33 rfl ?_
 intro Q_ hQ_
 simp only [Tryz.ntmps33, ents_, Nat.reduceAdd, Nat.reduceSub]
 go_wp2_with fail
 refine (hpu _ (hF.keep ((Touch.refl [] _).alloc _) (by simp) (by simp) (fun _ _ => by simp))).mono ?_
 rintro e w2 ⟨rfl, ht2⟩
 try go_simp
 go_wp2
 refine hQ_.ret (results_tmp2 rfl _ _ _) rfl ?_
 exact ⟨rfl, ((Touch.refl [] _).alloc _).trans ht2⟩
theorem iW (b a f p : Nat) (s s' : Sq.St) (g : Option Nat) (tv : Value) (r : Nat) (x : UInt8) (w : World) (h : bB w b a f (strV p)) (hF : StrF w p s g tv r) (ok : Sq.Ok s) (hn : s.out.length ≤ 200000) (hp : Sq.push s x = .ok (s', false)) (hb : b ∉ p :: r :: g.toList) :
 Calls Tryz.prog 33 #[.pointer (some ⟨b, 0, none⟩), .int .u8 x.toNat] w fun e w' => e = .returned (.tuple #[.slice none 0 0, .int .i64 0]) ∧ bB w' b a f (strV p) ∧ ∃ g' tv', StrF w' p s' g' tv' r ∧ cK w g g' ∧ Touch (p :: r :: g.toList) w w' := by
 have hpu := fun W hF => kM p s s' false g tv r x W hF ok hn hp
 clear hp
 have h0 := h
 unfold bB at h
 have ⟨c0,c1,c2⟩ := cs3 h
 have ⟨f0,f1,f2⟩ := fs3 h
 have lb := aB h
 try simp at c0 c1 c2
 have ta1 := fun w => nP w p
 have ta2 := fun w => nO w p
 have ta3 := fun w => kC w p
 refine aA Tryz.func33 rfl ?_
 intro Q_ hQ_
 simp only [Tryz.ntmps33, ents_, Nat.reduceAdd, Nat.reduceSub]
 go_wp2_with fail
 refine (hpu _ (hF.keep ((Touch.refl [] _).alloc _) (by simp) (by simp) (fun _ _ => by simp))).mono ?_
 rintro e w2 ⟨rfl, g', tv', k1, k2, k3⟩
 try go_simp
 go_wp2
 refine hQ_.ret (results_tmp2 rfl _ _ _) rfl ?_
 exact ⟨rfl, k3.keep (aW h0 _) hb, g', tv', k1, cE k2 (by simp), ((Touch.refl _ _).alloc _).trans k3⟩
theorem jW (b a f p : Nat) (s s' : Sq.St) (g : Option Nat) (tv : Value) (r : Nat) (x : UInt8) (w : World) (h : bB w b a f (strV p)) (hF : StrF w p s g tv r) (ok : Sq.Ok s) (hn : s.out.length ≤ 200000) (hp : Sq.push s x = .ok (s', true)) (hb : b ∉ p :: r :: g.toList) (ha : a ≤ 1000000000) :
 Calls Tryz.prog 33 #[.pointer (some ⟨b, 0, none⟩), .int .u8 x.toNat] w fun e w' => ∃ ad, e = .returned (.tuple #[.slice ad 1 1, .int .i64 0]) ∧ bB w' b a f .nilIface ∧ (∃ j, cV w' (.slice ad 1 1) [(5, f, a + 1, 0, Sq.text s'.out)] (some j) ∧ w.heap.size ≤ j) ∧ Touch (b :: p :: r :: g.toList) w w' := by
 have hpu := fun W hF => kM p s s' true g tv r x W hF ok hn hp
 clear hp
 have hnew : w.heap.size ∉ p :: r :: g.toList := fun q => by
  have q1 := hF.lt
  have q2 := hF.sr.lt
  simp at q
  rcases q with q | q | q
  · omega
  · omega
  · have := hF.st.lt q; omega
 have h0 := h
 unfold bB at h
 have ⟨c0,c1,c2⟩ := cs3 h
 have ⟨f0,f1,f2⟩ := fs3 h
 have lb := aB h
 try simp at c0 c1 c2
 have ta1 := fun w => nP w p
 have ta2 := fun w => nO w p
 have ta3 := fun w => kC w p
 refine aA Tryz.func33 rfl ?_
 intro Q_ hQ_
 simp only [Tryz.ntmps33, ents_, Nat.reduceAdd, Nat.reduceSub]
 go_wp2_with fail
 refine (hpu _ (hF.keep ((Touch.refl [] _).alloc _) (by simp) (by simp) (fun _ _ => by simp))).mono ?_
 rintro e w2 ⟨rfl, g', tv', k1, k2, k3⟩
 try go_simp
 have h2 : bB w2 b a f (strV p) := k3.keep (aW h0 _) hb
 have hT2 : Touch (p :: r :: g.toList) w w2 := ((Touch.refl _ _).alloc _).trans k3
 have hsz := hT2.size
 have hv2 := k3.keep (aZ w (.cells #[.pointer (some ⟨p, 0, none⟩)] 84)) hnew
 have h3 := h2
 unfold bB at h3
 clear c0 c1 c2 f0 f1 f2 lb h h0
 have ⟨c0,c1,c2⟩ := cs3 h3
 have ⟨f0,f1,f2⟩ := fs3 h3
 have lb := aB h3
 try simp at c0 c1 c2
 have htk : ∀ W, bB W b a f (strV p) → Calls Tryz.prog 35 #[.pointer (some ⟨b, 0, none⟩), .int .i64 5, .int .i64 ((a : Int) + 1)] W fun e w' => e = .returned (tokV 5 f (a + 1) 0 []) ∧ Touch [] W w' := fun W hW => gA b a f 5 (a + 1) (strV p) W hW
 go_wp2_with fail
 refine (htk _ h2).mono ?_
 rintro e w3 ⟨rfl, ht3⟩
 try go_simp
 have hF3 := k1.keep ht3 (by simp) (by simp) (fun _ _ => by simp)
 have h4 := ht3.keep h2 (by simp)
 have hv3 := ht3.keep hv2 (by simp)
 have v0 := aN hv3 0
 have lv := aB hv3
 simp at v0
 have hT4 := hT2.trans (ht3.mono (by simp))
 have htx := fun W hW => pH p s' g' tv' r W hW
 have h5 := h4
 unfold bB at h5
 clear c0 c1 c2 f0 f1 f2 lb h2 h3 ht3 hT2 k1 hF hpu htk
 have ⟨c0,c1,c2⟩ := cs3 h5
 have ⟨f0,f1,f2⟩ := fs3 h5
 have lb := aB h5
 try simp at c0 c1 c2
 go_wp2_with fail
 refine (htx _ (hF3.keep ((Touch.refl [] _).alloc _) (by simp) (by simp) (fun _ _ => by simp))).mono ?_
 rintro e w5 ⟨rfl, rfl⟩
 try go_simp
 go_wp2
 refine hQ_.ret (results_tmp2 rfl _ _ _) rfl ?_
 refine ⟨_, rfl, aW (aW (aF h4 2 _) _) _, ⟨w3.heap.size + 1, ?_, by have := hT4.size; omega⟩, ?_⟩
 · have := eY (w := (w3.setCell ⟨b, 2, none⟩ .nilIface).alloc (.cells #[.int .i64 5, .int .i64 f, .int .i64 ((a : Int) + 1), .int .i64 0, .string (str (Sq.text s'.out))] 41)) (E := 41) (c := #[.int .i64 5, .int .i64 f, .int .i64 ((a : Int) + 1), .int .i64 0, .string (str (Sq.text s'.out))]) (m := 1) (size := 5) rfl (by omega)
   simp at this
   exact this
 · exact (((hT4.mono (fun k hk => .inl (by simp at hk ⊢; rcases hk with hk | hk | hk <;> simp [hk]))).setCell (by simp) _).alloc _).alloc _
theorem jZ (b a f q : Nat) (t : List UInt8) (n k : Nat) (c x : UInt8) (w : World) (h : bB w b a f (litV q)) (hL : dV w q t n k) (hc : t[n]? = some c) (hx : x ≠ c) :
 Calls Tryz.prog 33 #[.pointer (some ⟨b, 0, none⟩), .int .u8 x.toNat] w fun e w' => e = .returned (.tuple #[.slice none 0 0, .int .i64 2]) ∧ Touch [] w w' := by
 have h0 := h
 unfold bB at h
 have ⟨c0,c1,c2⟩ := cs3 h
 have ⟨f0,f1,f2⟩ := fs3 h
 have lb := aB h
 try simp at c0 c1 c2
 unfold dV at hL
 have ⟨d0,d1,d2⟩ := cs3 hL
 have ld := aB hL
 try simp at d0 d1 d2
 have ta1 := fun w => nQ w q
 have i1 : ∀ w, (Instr.index 9 (.string (str t)) (.int .i64 (n : Int))).run Tryz.prog w = .ok (.int .u8 c.toNat) w := fun w => cI Tryz.underlying9 t .i64 n c hc w
 have tc : ((x.toNat : Int) != (c.toNat : Int)) = true := by
  simp
  exact fun q => hx (UInt8.toNat_inj.1 (by omega))
 clear hc hx
 refine aA Tryz.func33 rfl ?_
 intro Q_ hQ_
 simp only [Tryz.ntmps33, ents_, Nat.reduceAdd, Nat.reduceSub]
 go_upto_region 4 with (fail)
 go_quiet (fail)
 go_wp2
 refine hQ_.ret (results_tmp2 rfl _ _ _) rfl ?_
 exact ⟨rfl, (Touch.refl _ _).drewN _⟩
theorem jY (b a f q : Nat) (t : List UInt8) (n k : Nat) (c : UInt8) (w : World) (h : bB w b a f (litV q)) (hL : dV w q t n k) (hbq : b ≠ q) (hc : t[n]? = some c) (hn : n + 1 = t.length) (ht : t.length ≤ 10) (ha : a ≤ 1000000000) :
 Calls Tryz.prog 33 #[.pointer (some ⟨b, 0, none⟩), .int .u8 c.toNat] w fun e w' => ∃ ad, e = .returned (.tuple #[.slice ad 1 1, .int .i64 0]) ∧ bB w' b a f .nilIface ∧ (∃ j, cV w' (.slice ad 1 1) [(k, f, a + 1, 0, [])] (some j) ∧ w.heap.size ≤ j) ∧ Touch [b, q] w w' := by
 have h0 := h
 have hL0 := hL
 unfold bB at h
 have ⟨c0,c1,c2⟩ := cs3 h
 have ⟨f0,f1,f2⟩ := fs3 h
 have lb := aB h
 try simp at c0 c1 c2
 unfold dV at hL
 have ⟨d0,d1,d2⟩ := cs3 hL
 have ⟨e0,e1,e2⟩ := fs3 hL
 have ld := aB hL
 try simp at d0 d1 d2
 have st := aR t
 have ta1 := fun w => nQ w q
 have i1 : ∀ w, (Instr.index 9 (.string (str t)) (.int .i64 (n : Int))).run Tryz.prog w = .ok (.int .u8 c.toNat) w := fun w => cI Tryz.underlying9 t .i64 n c hc w
 have tc : ((c.toNat : Int) != (c.toNat : Int)) = false := by simp
 have tn : (((n : Int) + 1) == (t.length : Int)) = true := by simp; omega
 clear hc
 refine aA Tryz.func33 rfl ?_
 intro Q_ hQ_
 simp only [Tryz.ntmps33, ents_, Nat.reduceAdd, Nat.reduceSub]
 go_upto_region 4 with (fail)
 go_quiet (fail)
 go_upto_region 7 with (fail)
 obtain ⟨W1, hW1⟩ : ∃ W1, W1 = (w.drewN nq).setCell ⟨q, 1, none⟩ (.int .i64 ((n : Int) + 1)) := ⟨_, rfl⟩
 rw [← hW1]
 have hB1 : bB W1 b a f (litV q) := by rw [hW1]; exact aU (bA h0 _) (show q ≠ b from hbq.symm) _
 have hL1 : dV W1 q t (n + 1) k := by rw [hW1]; exact aF (bA hL0 _) 1 (.int .i64 ((n : Int) + 1))
 have hT1 : Touch [b, q] w W1 := by rw [hW1]; exact ((Touch.refl _ _).drewN _).setCell (by simp) _
 clear hW1 c0 c1 c2 f0 f1 f2 lb d0 d1 d2 e0 e1 e2 ld h0 hL0 h hL tc i1
 have hB2 := hB1
 unfold bB at hB2
 have ⟨c0,c1,c2⟩ := cs3 hB2
 have ⟨f0,f1,f2⟩ := fs3 hB2
 have lb := aB hB2
 try simp at c0 c1 c2
 have hL2 := hL1
 unfold dV at hL2
 have d0 := aN hL2 0
 have d1 := aN hL2 1
 have ld := aB hL2
 try simp at d0 d1
 go_quiet (fail)
 go_upto_region 9 with (fail)
 obtain ⟨W2, hW2⟩ : ∃ W2, W2 = (W1.drewN nq).setCell ⟨b, 2, none⟩ .nilIface := ⟨_, rfl⟩
 rw [← hW2]
 have hB3 : bB W2 b a f .nilIface := by rw [hW2]; exact aF (bA hB1 _) 2 _
 have hL3 : dV W2 q t (n + 1) k := by rw [hW2]; exact aU (bA hL1 _) (show b ≠ q from hbq) _
 have hT2 : Touch [b, q] w W2 := by rw [hW2]; exact (hT1.drewN _).setCell (by simp) _
 clear hW2 c0 c1 c2 f0 f1 f2 lb d0 d1 ld hB1 hL1 hB2 hL2 hT1 tn
 have htk : ∀ W, bB W b a f .nilIface → Calls Tryz.prog 35 #[.pointer (some ⟨b, 0, none⟩), .int .i64 k, .int .i64 ((a : Int) + 1)] W fun e w' => e = .returned (tokV k f (a + 1) 0 []) ∧ Touch [] W w' := fun W hW => gA b a f k (a + 1) .nilIface W hW
 have hcl : ∀ w', Touch [] W2 w' → w'.cell? ⟨b, 0, none⟩ = some (.int .i64 a) := fun w' h => (aN (h.keep hB3 (by simp)) 0)
 have hcq : ∀ w', Touch [] W2 w' → w'.cell? ⟨q, 2, none⟩ = some (.int .i64 k) := fun w' h => (aN (h.keep hL3 (by simp)) 2)
 have hwr : IntKind.i64.wrap ((a : Int) + 1) = (a : Int) + 1 := IntWalk.i64_in _ (by omega)
 have hkp : ∀ w', Touch [] W2 w' → bB w' b a f .nilIface := fun w' h => h.keep hB3 (by simp)
 go_region_held3 (fun w' => Touch [] W2 w')
  (repeat (first | (with_reducible exact Touch.refl _ _) | (with_reducible assumption) | (with_reducible apply Touch.drew) | (with_reducible apply Touch.alloc)))
  (first | (go_at_call 35; (with_reducible refine (htk _ (hkp _ (by assumption))).mono ?_); rintro e w3 ⟨rfl, ht3⟩; have hT3 : Touch [] W2 w3 := Touch.trans (by assumption) ht3))
 all_goals
  go_wp2
  refine hQ_.ret (results_tmp2 rfl _ _ _) rfl ?_
  refine ⟨_, rfl, aW (hkp w3 hT3) _, ⟨w3.heap.size, ?_, by have := hT2.size; have := hT3.size; omega⟩, ?_⟩
  · have := eY (w := w3) (E := 41) (c := #[.int .i64 k, .int .i64 f, .int .i64 ((a : Int) + 1), .int .i64 0, .string (str [])]) (m := 1) (size := 5) rfl (by omega)
    simp at this
    exact this
  · exact (hT2.trans (hT3.mono (by simp))).alloc _
end Go.Proofs.YthdncmagfgoboaaGreatDoor
end

section
namespace Go.Proofs.YthdncmagfgoboaaGreatDoor
open Go.RowKit
set_option maxRecDepth 100000
set_option maxHeartbeats 8000000
open Lx
def WdAt (w : World) (b a f : Nat) : Wd → List Nat → Prop
 | .no, F => (∃ f', bB w b a f' .nilIface) ∧ F = [b]
 | .lit k n, F => ∃ q, bB w b a f (litV q) ∧ dV w q (bZ k) n k ∧ F = [b, q] ∧ b ≠ q
 | .fig t n, F => ∃ p g tv, bB w b a f (figV p) ∧ NumF w p t.text n g tv ∧ F = b :: p :: g.toList ∧ b ∉ p :: g.toList
 | .quo s, F => ∃ p g tv r, bB w b a f (strV p) ∧ StrF w p s g tv r ∧ F = b :: p :: r :: g.toList ∧ b ∉ p :: r :: g.toList
def TokV (w0 w : World) (v : Value) (l : List Tok) : Prop := ∃ A C g, v = .slice A l.length C ∧ cV w v l g ∧ ∀ j, g = some j → w0.heap.size ≤ j
theorem TokV.keep {w0 w w' : World} {v : Value} {l : List Tok} {F : List Nat} (h : TokV w0 w v l) (t : Touch F w w') (hF : ∀ k ∈ F, k < w0.heap.size) : TokV w0 w' v l := by
 obtain ⟨A, C, g, rfl, h1, h2⟩ := h
 exact ⟨A, C, g, rfl, SlAt.keep h1 t (fun k hk q => by have := h2 k hk; have := hF k q; omega), h2⟩
theorem TokV.nil (w0 w : World) : TokV w0 w (.slice none 0 0) [] := ⟨none, 0, none, rfl, SlAt.nil _ _ _, fun j q => by cases q⟩
theorem WdAt.keep {w w' : World} {b a f : Nat} {wd : Wd} {F G : List Nat} (h : WdAt w b a f wd F) (t : Touch G w w') (hF : ∀ k ∈ F, k ∉ G) : WdAt w' b a f wd F := by
 cases wd with
 | no =>
  obtain ⟨⟨f', h1⟩, rfl⟩ := h
  exact ⟨⟨f', t.keep h1 (hF b (by simp))⟩, rfl⟩
 | lit k n =>
  obtain ⟨q, h1, h2, rfl, h4⟩ := h
  exact ⟨q, t.keep h1 (hF b (by simp)), t.keep h2 (hF q (by simp)), rfl, h4⟩
 | fig tt n =>
  obtain ⟨p, g, tv, h1, h2, rfl, h4⟩ := h
  exact ⟨p, g, tv, t.keep h1 (hF b (by simp)), h2.keep t (hF p (by simp)) (fun k hk => hF k (by simp [hk])), rfl, h4⟩
 | quo s =>
  obtain ⟨p, g, tv, r, h1, h2, rfl, h4⟩ := h
  exact ⟨p, g, tv, r, t.keep h1 (hF b (by simp)), h2.keep t (hF p (by simp)) (hF r (by simp)) (fun k hk => hF k (by simp [hk])), rfl, h4⟩
theorem WdAt.lt {w : World} {b a f : Nat} {wd : Wd} {F : List Nat} (h : WdAt w b a f wd F) : ∀ k ∈ F, k < w.heap.size := by
 cases wd with
 | no =>
  obtain ⟨⟨f', h1⟩, rfl⟩ := h
  intro k hk; simp at hk; subst hk; exact aB h1
 | lit k n =>
  obtain ⟨q, h1, h2, rfl, h4⟩ := h
  intro k hk; simp at hk
  rcases hk with rfl | rfl
  · exact aB h1
  · exact aB h2
 | fig tt n =>
  obtain ⟨p, g, tv, h1, h2, rfl, h4⟩ := h
  intro k hk; simp at hk
  rcases hk with rfl | rfl | hk
  · exact aB h1
  · exact h2.lt
  · exact h2.s.lt hk
 | quo s =>
  obtain ⟨p, g, tv, r, h1, h2, rfl, h4⟩ := h
  intro k hk; simp at hk
  rcases hk with rfl | rfl | rfl | hk
  · exact aB h1
  · exact h2.lt
  · exact h2.sr.lt
  · exact h2.st.lt hk
theorem oL (b a f : Nat) (v : Value) (x : Int) (A : Option Addr) (n C : Nat) (w : World) (h : bB w b a f v) (hk : bN x = 5) :
 Calls Tryz.prog 54 #[.pointer (some ⟨b, 0, none⟩), .int .u8 x, .slice A n C] w fun e w' => e = .returned (.tuple #[.slice A n C, .int .i64 0]) ∧ (∃ q r, bB w' b a a (strV q) ∧ StrF w' q Sq.start none (.slice none 0 0) r ∧ w.heap.size ≤ q ∧ w.heap.size ≤ r) ∧ Touch [b] w w' := by
 have h0 := h
 have hfi := fun w => eB x w
 have hbl := fun w => eC x w
 rw [hk] at hfi
 unfold bB at h
 have ⟨c0,c1,c2⟩ := cs3 h
 have ⟨f0,f1,f2⟩ := fs3 h
 have lb := aB h
 try simp at c0 c1 c2
 refine aA Tryz.func54 rfl ?_
 intro Q_ hQ_
 simp only [Tryz.ntmps54, ents_, Nat.reduceAdd, Nat.reduceSub]
 go_wp2_with fail
 refine (hfi _).mono ?_
 rintro e w1 ⟨rfl, rfl⟩
 try go_simp
 go_wp2_with fail
 refine (vE _).mono ?_
 rintro e w1 ⟨⟨q, r, rfl, hq, hr, hF⟩, ht⟩
 try go_simp
 have hbl2 := aB h0
 simp at hq hr
 have h1 : w1.heap[b]? = some (.cells #[.int .i64 a, .int .i64 f, .nilIface] 72 (0, 0)) := ht.keep (aF h0 2 _) (by simp)
 clear c0 c1 c2 f0 f1 f2 lb
 have ⟨c0,c1,c2⟩ := cs3 h1
 have ⟨f0,f1,f2⟩ := fs3 h1
 have lb := aB h1
 try simp at c0 c1 c2
 go_wp2
 refine hQ_.ret (results_tmp2 rfl _ _ _) rfl ?_
 have hb2 : ∀ (W : World) (i : Nat) (v : Value), StrF W q Sq.start none (.slice none 0 0) r → StrF (W.setCell ⟨b, i, none⟩ v) q Sq.start none (.slice none 0 0) r := fun W i v h => h.keep ((Touch.refl [b] W).setCell (by simp) v) (by simp; omega) (by simp; omega) (fun _ q => by cases q)
 exact ⟨rfl, ⟨q, r, aF (aF h1 2 _) 1 _, hb2 _ _ _ (hb2 _ _ _ hF), hq, hr⟩, ((((Touch.refl [b] w).setCell (by simp) _).trans (ht.mono (by simp))).setCell (by simp) _).setCell (by simp) _⟩
theorem iE (b a f : Nat) (v : Value) (x : UInt8) (pre : List Tok) (st : Lx.St) (l : List Tok) (A : Option Addr) (C : Nat) (g : Option Nat) (w0 w : World) (h : bB w b a f v) (hs : cV w (.slice A pre.length C) pre g) (hg : ∀ j, g = some j → w0.heap.size ≤ j) (hbw : b < w0.heap.size) (hsz : w0.heap.size ≤ w.heap.size) (hl : pre.length ≤ 100) (ha : a ≤ 1000000000) (so : Outs a x pre (.ok (st, l))) :
 Calls Tryz.prog 54 #[.pointer (some ⟨b, 0, none⟩), .int .u8 x.toNat, .slice A pre.length C] w fun e w' => ∃ v0, e = .returned (.tuple #[v0, .int .i64 0]) ∧ TokV w0 w' v0 l ∧ (∃ F', WdAt w' b a a st.w F' ∧ ∀ k ∈ F', k = b ∨ w0.heap.size ≤ k) ∧ Touch (b :: g.toList) w w' := by
 have hgb : ∀ j, g = some j → j ≠ b := fun j hj => by have := hg j hj; omega
 have hpre : ∀ {w' : World}, Touch [b] w w' → TokV w0 w' (.slice A pre.length C) pre := fun t => ⟨A, C, g, rfl, SlAt.keep hs t (fun k hk q => hgb k hk (List.mem_singleton.1 q)), hg⟩
 have hm : ∀ {w' : World}, Touch [b] w w' → Touch (b :: g.toList) w w' := fun t => t.mono (fun k hk => .inl (by rw [List.mem_singleton.1 hk]; simp))
 cases so with
 | blank h1 h2 =>
  refine (mB b a f v x.toNat A _ C w h h1 h2).mono ?_
  rintro e w' ⟨rfl, q1, q2⟩
  exact ⟨_, rfl, hpre q2, ⟨[b], ⟨⟨_, q1⟩, rfl⟩, fun k hk => .inl (List.mem_singleton.1 hk)⟩, hm q2⟩
 | lit k h1 h2 =>
  refine (jH b a f v x.toNat k A _ C w h h1 h2).mono ?_
  rintro e w' ⟨rfl, ⟨q, q1, q2, q3⟩, q4⟩
  have hbl := aB h
  refine ⟨_, rfl, hpre q4, ⟨[b, q], ⟨q, q1, q2, rfl, by omega⟩, fun k hk => ?_⟩, hm q4⟩
  simp at hk
  rcases hk with rfl | rfl
  · exact .inl rfl
  · exact .inr (by omega)
 | int t n h1 h2 h3 h4 =>
  refine (jI b a f v x n A _ C w h h1 h2).mono ?_
  rintro e w' ⟨rfl, ⟨p, g', tv, q1, q2, q3, q4⟩, q5⟩
  have hbl := aB h
  rw [← h4] at q2
  have hno : b ∉ p :: g'.toList := fun q => by
   rw [List.mem_cons] at q
   rcases q with q | q
   · omega
   · cases hgg : g' with
     | none => rw [hgg] at q; simp at q
     | some j => rw [hgg] at q; simp at q; have := q4 j hgg; omega
  refine ⟨_, rfl, hpre q5, ⟨b :: p :: g'.toList, ⟨p, g', tv, q1, q2, rfl, hno⟩, fun k hk => ?_⟩, hm q5⟩
  rw [List.mem_cons, List.mem_cons] at hk
  rcases hk with rfl | rfl | hk
  · exact .inl rfl
  · exact .inr (by omega)
  · cases hgg : g' with
    | none => rw [hgg] at hk; simp at hk
    | some j => rw [hgg] at hk; simp at hk; have := q4 j hgg; exact .inr (by omega)
 | str h1 =>
  refine (oL b a f v x.toNat A _ C w h h1).mono ?_
  rintro e w' ⟨rfl, ⟨q, r, q1, q2, q3, q4⟩, q5⟩
  have hbl := aB h
  refine ⟨_, rfl, hpre q5, ⟨[b, q, r], ⟨q, none, _, r, q1, q2, rfl, by simp; omega⟩, fun k hk => ?_⟩, hm q5⟩
  simp at hk
  rcases hk with rfl | rfl | rfl
  · exact .inl rfl
  · exact .inr (by omega)
  · exact .inr (by omega)
 | tok k h1 h2 h3 =>
  refine (jG b a f v x.toNat k pre A C g w h hs hgb hl h1 h2 h3 ha).mono ?_
  rintro e w' ⟨⟨ad, c, g', rfl, q1, q2⟩, q3, q4⟩
  refine ⟨_, rfl, ⟨ad, c, g', by simp, q1, fun j hj => ?_⟩, ⟨[b], ⟨⟨_, q3⟩, rfl⟩, fun k hk => .inl (List.mem_singleton.1 hk)⟩, q4⟩
  rcases q2 j hj with q | q
  · exact hg j q
  · omega
end Go.Proofs.YthdncmagfgoboaaGreatDoor
end

section
namespace Go.Proofs.YthdncmagfgoboaaGreatDoor
open Go.RowKit
set_option maxRecDepth 100000
set_option maxHeartbeats 8000000
open Lx
theorem tU (b : Nat) (l : List UInt8) (n : Num.St) (g : Option Nat) (tv : Value) (x : UInt8) (k : Nat) (w : World) (hF : NumF w b l n g tv) (ok : n.OkL l.length) (hl : l.length ≤ 100000) (h : Num.push n x.toNat = .error k) :
 Calls Tryz.prog 53 #[.pointer (some ⟨b, 0, none⟩), .int .u8 x.toNat] w fun e w' => e = .returned (.int .i64 k) ∧ (∃ tv', NumF w' b l n g tv') ∧ Touch [b] w w' :=
 (lG b l n g tv x w hF ok hl).mono fun e w' hp => by unfold dS at hp; rw [h] at hp; exact hp
theorem jX (b a f p : Nat) (l : List UInt8) (n : Num.St) (g : Option Nat) (tv : Value) (c : UInt8) (k : Nat) (w : World) (h : bB w b a f (figV p)) (hF : NumF w p l n g tv) (ok : n.OkL l.length) (hl : l.length ≤ 100000) (hc : ownB c = true) (hbp : b ≠ p) (hp : Num.push n c.toNat = .error k) :
 Calls Tryz.prog 33 #[.pointer (some ⟨b, 0, none⟩), .int .u8 c.toNat] w fun e w' => e = .returned (.tuple #[.slice none 0 0, .int .i64 k]) ∧ bB w' b a f (figV p) ∧ (∃ tv', NumF w' p l n g tv') ∧ Touch [p] w w' := by
 have h0 := h
 have hix := Tryz.strings_IndexByte ⟨#[48, 49, 50, 51, 52, 53, 54, 55, 56, 57, 45, 43, 46, 101, 69]⟩ (c.toNat : Int)
 have hio := lH c
 have hcc : ((c.toNat : Int)).toNat.toUInt8 = c := by simp
 have hdt : (⟨#[48, 49, 50, 51, 52, 53, 54, 55, 56, 57, 45, 43, 46, 101, 69]⟩ : ByteArray).data.toList = [48, 49, 50, 51, 52, 53, 54, 55, 56, 57, 45, 43, 46, 101, 69] := rfl
 simp only [hcc, hdt] at hix
 generalize Lib.indexByte [48, 49, 50, 51, 52, 53, 54, 55, 56, 57, 45, 43, 46, 101, 69] c = ix at hix hio
 clear hcc hdt
 have hge : 0 ≤ ix := hio.2 hc
 clear hio hc
 have hpu := fun W hW => tU p l n g tv c k W hW ok hl hp
 clear hp
 unfold bB at h
 have ⟨c0,c1,c2⟩ := cs3 h
 have ⟨f0,f1,f2⟩ := fs3 h
 have lb := aB h
 try simp at c0 c1 c2
 have ta1 := fun w => hG w p
 have ta2 := fun w => gC w p
 refine aA Tryz.func33 rfl ?_
 intro Q_ hQ_
 simp only [Tryz.ntmps33, ents_, Nat.reduceAdd, Nat.reduceSub]
 go_wp2_with fail
 refine (hix _).mono ?_
 rintro e w1 ⟨rfl, rfl⟩
 try go_simp
 go_wp2_with fail
 refine (hpu _ (hF.keep ((Touch.refl [] _).alloc _) (by simp) (by simp))).mono ?_
 rintro e w2 ⟨rfl, k1, ht⟩
 try go_simp
 go_wp2
 refine hQ_.ret (results_tmp2 rfl _ _ _) rfl ?_
 exact ⟨rfl, ht.keep (aW h0 _) (by simpa using hbp), k1, ((Touch.refl _ _).alloc _).trans ht⟩
theorem kA (b a f p : Nat) (l : List UInt8) (n : Num.St) (g : Option Nat) (tv : Value) (c : UInt8) (N E : Int) (w : World) (h : bB w b a f (figV p)) (hF : NumF w p l n g tv) (ok : n.at_ ≤ 8) (hl : l.length ≤ 100000) (hc : ownB c = false) (hE : Num.pend n l = (N, E)) (he : E ≠ 0) :
 Calls Tryz.prog 33 #[.pointer (some ⟨b, 0, none⟩), .int .u8 c.toNat] w fun e w' => e = .returned (.tuple #[.slice none 0 0, .int .i64 (if E = 3 then 2 else E)]) ∧ Touch [] w w' := by
 have h0 := h
 have hix := Tryz.strings_IndexByte ⟨#[48, 49, 50, 51, 52, 53, 54, 55, 56, 57, 45, 43, 46, 101, 69]⟩ (c.toNat : Int)
 have hio := lH c
 have hcc : ((c.toNat : Int)).toNat.toUInt8 = c := by simp
 have hdt : (⟨#[48, 49, 50, 51, 52, 53, 54, 55, 56, 57, 45, 43, 46, 101, 69]⟩ : ByteArray).data.toList = [48, 49, 50, 51, 52, 53, 54, 55, 56, 57, 45, 43, 46, 101, 69] := rfl
 simp only [hcc, hdt] at hix
 generalize Lib.indexByte [48, 49, 50, 51, 52, 53, 54, 55, 56, 57, 45, 43, 46, 101, 69] c = ix at hix hio
 clear hcc hdt
 have hge : ¬ 0 ≤ ix := fun q => by rw [hio.1 q] at hc; cases hc
 clear hio hc
 have hen := fun w hF => fF p l n g tv w hF hl ok
 rw [hE] at hen
 clear hE
 have e0 : (E == 0) = false := by rw [beq_eq_false_iff_ne]; exact he
 unfold bB at h
 have ⟨c0,c1,c2⟩ := cs3 h
 have ⟨f0,f1,f2⟩ := fs3 h
 have lb := aB h
 try simp at c0 c1 c2
 have ta1 := fun w => hG w p
 have ta2 := fun w => gC w p
 by_cases h3 : E = 3
 · rw [if_pos h3]
   have e3 : (E == 3) = true := by rw [beq_iff_eq]; exact h3
   clear h3 he
   refine aA Tryz.func33 rfl ?_
   intro Q_ hQ_
   simp only [Tryz.ntmps33, ents_, Nat.reduceAdd, Nat.reduceSub]
   go_wp2_with fail
   refine (hix _).mono ?_
   rintro e w1 ⟨rfl, rfl⟩
   try go_simp
   go_wp2_with fail
   refine (hen _ (hF.keep ((Touch.refl [] _).alloc _) (by simp) (by simp))).mono ?_
   rintro e w2 ⟨rfl, ht2⟩
   try go_simp
   go_wp2
   refine hQ_.ret (results_tmp2 rfl _ _ _) rfl ?_
   exact ⟨rfl, ((Touch.refl [] _).alloc _).trans ht2⟩
 · rw [if_neg h3]
   have e3 : (E == 3) = false := by rw [beq_eq_false_iff_ne]; exact h3
   clear h3 he
   refine aA Tryz.func33 rfl ?_
   intro Q_ hQ_
   simp only [Tryz.ntmps33, ents_, Nat.reduceAdd, Nat.reduceSub]
   go_wp2_with fail
   refine (hix _).mono ?_
   rintro e w1 ⟨rfl, rfl⟩
   try go_simp
   go_wp2_with fail
   refine (hen _ (hF.keep ((Touch.refl [] _).alloc _) (by simp) (by simp))).mono ?_
   rintro e w2 ⟨rfl, ht2⟩
   try go_simp
   go_wp2
   refine hQ_.ret (results_tmp2 rfl _ _ _) rfl ?_
   exact ⟨rfl, ((Touch.refl [] _).alloc _).trans ht2⟩
theorem qL (b a : Nat) (x : Int) (w : World) (P : Value → World → Prop) (ha : a ≤ 1000000000)
 (hP : Calls Tryz.prog 33 #[.pointer (some ⟨b, 0, none⟩), .int .u8 x] w fun e w' => ∃ v0, e = .returned (.tuple #[v0, .int .i64 0]) ∧ (∃ f v, bB w' b a f v) ∧ P v0 w') :
 Calls Tryz.prog 17 #[.pointer (some ⟨b, 0, none⟩), .int .u8 x] w fun e w' => ∃ v0 w1, e = .returned (.tuple #[v0, .int .i64 0]) ∧ P v0 w1 ∧ w' = w1.setCell ⟨b, 0, none⟩ (.int .i64 ((a : Int) + 1)) := by
 refine aA Tryz.func17 rfl ?_
 intro Q_ hQ_
 simp only [Tryz.ntmps17, ents_, Nat.reduceAdd, Nat.reduceSub]
 go_wp2_with fail
 refine hP.mono ?_
 rintro e w1 ⟨v0, rfl, ⟨f, v, h⟩, hR⟩
 try go_simp
 unfold bB at h
 have ⟨c0,c1,c2⟩ := cs3 h
 have ⟨f0,f1,f2⟩ := fs3 h
 have lb := aB h
 try simp at c0 c1 c2
 go_wp2
 refine hQ_.ret (results_tmp2 rfl _ _ _) rfl ?_
 exact ⟨v0, w1, rfl, hR, rfl⟩
theorem dA (b : Nat) (k : Int) (x : Int) (v0 : Value) (w : World) (R : World → Prop) (hk : k ≠ 0)
 (hP : Calls Tryz.prog 33 #[.pointer (some ⟨b, 0, none⟩), .int .u8 x] w fun e w' => e = .returned (.tuple #[v0, .int .i64 k]) ∧ R w') :
 Calls Tryz.prog 17 #[.pointer (some ⟨b, 0, none⟩), .int .u8 x] w fun e w' => e = .returned (.tuple #[.slice none 0 0, .int .i64 k]) ∧ R w' := by
 have hk2 : (k != 0) = true := by simpa using hk
 clear hk
 refine aA Tryz.func17 rfl ?_
 intro Q_ hQ_
 simp only [Tryz.ntmps17, ents_, Nat.reduceAdd, Nat.reduceSub]
 go_wp2_with fail
 refine hP.mono ?_
 rintro e w1 ⟨rfl, hR⟩
 try go_simp
 go_wp2
 refine hQ_.ret (results_tmp2 rfl _ _ _) rfl ?_
 exact ⟨rfl, hR⟩
theorem WdAt.at {w : World} {b a f : Nat} {wd : Wd} {F : List Nat} (h : WdAt w b a f wd F) : b ∈ F ∧ ∃ f' v, bB w b a f' v := by
 cases wd with
 | no => obtain ⟨⟨f', h1⟩, rfl⟩ := h; exact ⟨by simp, _, _, h1⟩
 | lit k n => obtain ⟨q, h1, h2, rfl, h4⟩ := h; exact ⟨by simp, _, _, h1⟩
 | fig tt n => obtain ⟨p, g, tv, h1, h2, rfl, h4⟩ := h; exact ⟨by simp, _, _, h1⟩
 | quo s => obtain ⟨p, g, tv, r, h1, h2, rfl, h4⟩ := h; exact ⟨by simp, _, _, h1⟩
theorem WdAt.next {w : World} {b a f : Nat} {wd : Wd} {F : List Nat} (h : WdAt w b a f wd F) : WdAt (w.setCell ⟨b, 0, none⟩ (.int .i64 ((a : Int) + 1))) b (a + 1) f wd F := by
 have ht : Touch [b] w (w.setCell ⟨b, 0, none⟩ (.int .i64 ((a : Int) + 1))) := (Touch.refl _ _).setCell (by simp) _
 cases wd with
 | no => obtain ⟨⟨f', h1⟩, rfl⟩ := h; exact ⟨⟨f', aF h1 0 _⟩, rfl⟩
 | lit k n => obtain ⟨q, h1, h2, rfl, h4⟩ := h; exact ⟨q, aF h1 0 _, ht.keep h2 (by simpa using h4.symm), rfl, h4⟩
 | fig tt n =>
  obtain ⟨p, g, tv, h1, h2, rfl, h4⟩ := h
  refine ⟨p, g, tv, aF h1 0 _, h2.keep ht (fun q => h4 (by simp at q; simp [q])) (fun k hk q => h4 (by simp at q; simp [hk, q])), rfl, h4⟩
 | quo s =>
  obtain ⟨p, g, tv, r, h1, h2, rfl, h4⟩ := h
  exact ⟨p, g, tv, r, aF h1 0 _, h2.keep ht (fun q => h4 (by simp at q; simp [q])) (fun q => h4 (by simp at q; simp [q])) (fun k hk q => h4 (by simp at q; simp [hk, q])), rfl, h4⟩
theorem mK {s : Sq.St} {x : UInt8} {k : Nat} (ok : Sq.Ok s) (h : Sq.push s x = .error k) : k ≠ 0 := by
 unfold Sq.push at h
 split at h; · injection h with h; omega
 split at h
 · cases hd : Sq.digits s x with
   | ok s1 => rw [hd] at h; cases h
   | error k' =>
    rw [hd] at h; injection h with h; subst h
    cases hk : Sq.hex x with
    | none => unfold Sq.digits at hd; rw [hk] at hd; injection hd with hd; omega
    | some kx =>
     rw [Sq.digits_eq s x kx ok hk] at hd
     split at hd
     · rename_i hw; injection hd with hd; rw [← hd]; exact hw
     repeat' split at hd
     all_goals cases hd
 split at h
 · cases hd : Sq.escape s x with
   | ok s1 => rw [hd] at h; cases h
   | error k' =>
    rw [hd] at h; injection h with h; subst h
    unfold Sq.escape at hd
    split at hd; · cases hd
    split at hd; · injection hd with hd; omega
    split at hd
    · injection hd with hd; omega
    · cases hd
 split at h
 · cases hd : Sq.bytes s x with
   | ok s1 => rw [hd] at h; cases h
   | error k' =>
    rw [hd] at h; injection h with h; subst h
    unfold Sq.bytes at hd
    split at hd; · injection hd with hd; omega
    split at hd; · injection hd with hd; omega
    split at hd; · cases hd
    split at hd
    · injection hd with hd; omega
    · cases hd
 split at h; · cases h
 split at h; · injection h with h; omega
 split at h <;> cases h
theorem lI {n : Num.St} {x : UInt8} {L k : Nat} (ok : n.OkL L) (h : Num.push n x.toNat = .error k) : k ≠ 0 := by
 rcases Num.push_ways n x.toNat L x.toNat_lt ok with ⟨m, h1, h2⟩ | ⟨m, h1, h2⟩
 · rw [h] at h1; cases h1
 · rw [h] at h1; injection h1 with h1; omega
theorem mE (b a f : Nat) (x : UInt8) (wd : Wd) (F : List Nat) (k : Int) (w : World) (h : WdAt w b a f wd F) (ok : wd.Ok a) (ha : a ≤ 90000) (s : Step a f x wd (.error k)) :
 Calls Tryz.prog 17 #[.pointer (some ⟨b, 0, none⟩), .int .u8 x.toNat] w fun e w' => e = .returned (.tuple #[.slice none 0 0, .int .i64 k]) ∧ WdAt w' b a f wd F ∧ Touch F w w' := by
 have hF0 : ∀ {w' : World}, Touch [] w w' → WdAt w' b a f wd F ∧ Touch F w w' := fun t => ⟨h.keep t (fun _ _ => by simp), t.mono (by simp)⟩
 generalize hr : (Except.error k : Except Int (Lx.St × List Tok)) = r at s
 cases s with
 | no r so =>
  obtain ⟨⟨f', h1⟩, rfl⟩ := h
  cases so with
  | bad q1 q2 =>
   injection hr with hr
   subst hr
   refine dA b 2 x.toNat (.slice none 0 0) w _ (by decide) (eR b a f' x.toNat w _ h1 ?_)
   refine (jJ b a f' .nilIface x.toNat _ w h1 q1 q2).mono ?_
   rintro e w' ⟨rfl, rfl⟩
   exact ⟨_, _, rfl, rfl, hF0 (Touch.refl _ _)⟩
  | _ => cases hr
 | litbad kk n c q1 q2 =>
  injection hr with hr
  subst hr
  obtain ⟨q, h1, h2, rfl, h4⟩ := id h
  refine dA b 2 x.toNat (.slice none 0 0) w _ (by decide) ((jZ b a f q _ n kk c x w h1 h2 q1 q2).mono ?_)
  rintro e w' ⟨rfl, q3⟩
  exact ⟨rfl, hF0 q3⟩
 | figbad t n kk q1 q2 q3 =>
  injection hr with hr
  subst hr
  obtain ⟨p, g, tv, h1, h2, rfl, h4⟩ := h
  obtain ⟨_, _, ok3, ok4⟩ := ok
  refine dA b kk x.toNat (.slice none 0 0) w _ (by have := lI ok3 q2; omega) ((jX b a f p _ n g tv x kk w h1 h2 ok3 (by omega) q1 (fun q => h4 (by simp [q])) q2).mono ?_)
  rintro e w' ⟨rfl, q4, ⟨tv', q5⟩, q6⟩
  exact ⟨rfl, ⟨p, g, tv', q4, q5, rfl, h4⟩, q6.mono (fun y hy => .inl (by simp at hy; simp [hy]))⟩
 | figerr t n N E q1 q2 q3 q4 =>
  injection hr with hr
  subst hr
  obtain ⟨p, g, tv, h1, h2, hFe, h4⟩ := id h
  obtain ⟨_, _, ok3, ok4⟩ := ok
  refine dA b _ x.toNat (.slice none 0 0) w _ (by split <;> omega) ((kA b a f p _ n g tv x N E w h1 h2 ok3.at_ (by omega) q1 q2 q4).mono ?_)
  rintro e w' ⟨rfl, q5⟩
  exact ⟨rfl, hF0 q5⟩
 | figend t n N r q1 q2 q3 so =>
  obtain ⟨p, g, tv, h1, h2, hFe, h4⟩ := id h
  obtain ⟨_, _, ok3, ok4⟩ := ok
  cases so with
  | bad q4 q5 =>
   injection hr with hr
   subst hr
   refine dA b 2 x.toNat (.slice none 0 0) w _ (by decide) (fW b a f p _ n g tv x N w _ h1 h2 ok3.at_ (by omega) q1 q2 ?_)
   intro W ad g0 t1 t2 t3 t4
   refine (jJ b a f (figV p) x.toNat _ W t4 q4 q5).mono ?_
   rintro e w' ⟨rfl, rfl⟩
   exact ⟨_, _, rfl, rfl, hF0 t1⟩
  | _ => cases hr
 | quobad q kk q1 =>
  injection hr with hr
  subst hr
  obtain ⟨p, g, tv, r, h1, h2, hFe, h4⟩ := id h
  obtain ⟨ok1, ok2⟩ := ok
  have hne := mK ok1 q1
  refine dA b kk x.toNat (.slice none 0 0) w _ (by omega) ((jV b a f p q g tv r x kk w h1 h2 ok1 q1 hne).mono ?_)
  rintro e w' ⟨rfl, q5⟩
  exact ⟨rfl, hF0 q5⟩
 | _ => cases hr
theorem wL {w : World} {g g' : Option Nat} (h : cK w g g') {F : List Nat} (hF : ∀ k, g = some k → k ∈ F) : ∀ k ∈ g'.toList, k ∈ F ∨ w.heap.size ≤ k := fun k hk => by
 rcases h with h | ⟨j, h1, h2⟩
 · rw [h] at hk
   cases hg : g with
   | none => rw [hg] at hk; simp at hk
   | some i => rw [hg] at hk; simp at hk; subst hk; exact .inl (hF _ hg)
 · rw [h1] at hk; simp at hk; subst hk; exact .inr h2
def xU (w : World) (b : Nat) (F : List Nat) (st : Lx.St) (l : List Tok) (e : Ending) (w' : World) : Prop :=
 ∃ v, e = .returned (.tuple #[v, .int .i64 0]) ∧ TokV w w' v l ∧ (∃ F', WdAt w' b st.a st.f st.w F' ∧ ∀ k ∈ F', k ∈ F ∨ w.heap.size ≤ k) ∧ Touch F w w'
theorem sA {w w1 : World} {b a : Nat} {F : List Nat} {st : Lx.St} {l : List Tok} {v : Value} (hst : st.a = a + 1) (hbF : b ∈ F) (hFl : ∀ k ∈ F, k < w.heap.size) (h1 : TokV w w1 v l) (h2 : ∃ F', WdAt w1 b a st.f st.w F' ∧ ∀ k ∈ F', k ∈ F ∨ w.heap.size ≤ k) (h3 : Touch F w w1) :
 xU w b F st l (.returned (.tuple #[v, .int .i64 0])) (w1.setCell ⟨b, 0, none⟩ (.int .i64 ((a : Int) + 1))) := by
 obtain ⟨F', h4, h5⟩ := h2
 refine ⟨v, rfl, h1.keep ((Touch.refl [b] _).setCell (by simp) _) (fun k hk => by rw [List.mem_singleton.1 hk]; exact hFl b hbF), ⟨F', ?_, h5⟩, h3.setCell (.inl hbF) _⟩
 rw [hst]
 exact h4.next
theorem dP (k : Nat) : (bZ k).length ≤ 10 := by
 unfold bZ
 split
 · decide
 · split <;> decide
theorem mD (b a f : Nat) (x : UInt8) (wd : Wd) (F : List Nat) (st : Lx.St) (l : List Tok) (w : World) (h : WdAt w b a f wd F) (ok : wd.Ok a) (ha : a ≤ 90000) (s : Step a f x wd (.ok (st, l))) :
 Calls Tryz.prog 17 #[.pointer (some ⟨b, 0, none⟩), .int .u8 x.toNat] w (xU w b F st l) := by
 have hFl := h.lt
 have hbF := h.at.1
 have hbl := hFl b hbF
 generalize hr : (Except.ok (st, l) : Except Int (Lx.St × List Tok)) = r at s
 have fin : ∀ (P : Value → World → Prop), st.a = a + 1 → (Calls Tryz.prog 33 #[.pointer (some ⟨b, 0, none⟩), .int .u8 x.toNat] w fun e w' => ∃ v0, e = .returned (.tuple #[v0, .int .i64 0]) ∧ (TokV w w' v0 l ∧ (∃ F', WdAt w' b a st.f st.w F' ∧ ∀ k ∈ F', k ∈ F ∨ w.heap.size ≤ k) ∧ Touch F w w')) → Calls Tryz.prog 17 #[.pointer (some ⟨b, 0, none⟩), .int .u8 x.toNat] w (xU w b F st l) := fun P hst hP => by
  refine (qL b a x.toNat w (fun v0 w' => TokV w w' v0 l ∧ (∃ F', WdAt w' b a st.f st.w F' ∧ ∀ k ∈ F', k ∈ F ∨ w.heap.size ≤ k) ∧ Touch F w w') (by omega) (hP.mono ?_)).mono ?_
  · rintro e w' ⟨v0, rfl, q1, ⟨F', q2, q3⟩, q4⟩
    exact ⟨v0, rfl, q2.at.2, q1, ⟨F', q2, q3⟩, q4⟩
  · rintro e w' ⟨v0, w1, rfl, ⟨q1, q2, q3⟩, rfl⟩
    exact sA hst hbF hFl q1 q2 q3
 cases s with
 | no r so =>
  obtain ⟨⟨f', h1⟩, rfl⟩ := h
  subst hr
  have hsa : st.a = a + 1 ∧ st.f = a := by cases so <;> exact ⟨rfl, rfl⟩
  refine fin (fun _ _ => True) hsa.1 (eR b a f' x.toNat w _ h1 ?_)
  have := iE b a f' .nilIface x [] st l none 0 none w w h1 (SlAt.nil _ _ _) (fun j q => by cases q) hbl (Nat.le_refl _) (by simp) (by omega) so
  refine this.mono ?_
  rintro e w' ⟨v0, rfl, q1, ⟨F', q2, q3⟩, q4⟩
  rw [hsa.2]
  exact ⟨_, _, rfl, v0, rfl, q1, ⟨F', q2, fun k hk => (q3 k hk).imp (fun q => by simp [q]) id⟩, q4⟩
 | litend k n q1 q2 =>
  injection hr with hr
  injection hr with hr1 hr2
  subst hr1 hr2
  obtain ⟨q, h1, h2, rfl, h4⟩ := h
  obtain ⟨ok1, ok2⟩ := ok
  have hll := dP k
  refine fin (fun _ _ => True) rfl ((jY b a f q _ n k x w h1 h2 h4 q1 q2 hll (by omega)).mono ?_)
  rintro e w' ⟨ad, rfl, p1, ⟨j, p2, p3⟩, p4⟩
  exact ⟨_, rfl, ⟨ad, 1, some j, rfl, p2, fun i hi => by injection hi with hi; omega⟩, ⟨[b], ⟨⟨_, p1⟩, rfl⟩, fun k hk => .inl (by rw [List.mem_singleton.1 hk]; simp)⟩, p4⟩
 | litmore k n q1 q2 =>
  injection hr with hr
  injection hr with hr1 hr2
  subst hr1 hr2
  obtain ⟨q, h1, h2, rfl, h4⟩ := h
  have hll := dP k
  refine fin (fun _ _ => True) rfl ((jN b a f q _ n k x w h1 h2 h4 q1 q2 hll).mono ?_)
  rintro e w' ⟨rfl, p1, p2, p3⟩
  exact ⟨_, rfl, TokV.nil _ _, ⟨[b, q], ⟨q, p1, p2, rfl, h4⟩, fun k hk => .inl hk⟩, p3.mono (fun y hy => .inl (by simp at hy; simp [hy]))⟩
 | figmore t t' n n' q1 q2 q3 q4 =>
  injection hr with hr
  injection hr with hr1 hr2
  subst hr1 hr2
  obtain ⟨p, g, tv, h1, h2, rfl, h4⟩ := h
  obtain ⟨_, _, ok3, ok4⟩ := ok
  refine fin (fun _ _ => True) rfl ((jM b a f p _ n g tv x w h1 h2 ok3 (by omega) q1 (fun q => h4 (by simp [q])) (fun k hk q => h4 (by simp [hk, q]))).mono ?_)
  rintro e w' ⟨kk, rfl, p1, p2, p3, _⟩
  obtain ⟨rfl, g', tv', p4, p5⟩ := p3 n' q2
  rw [← q4] at p4
  have hown := wL p5 (F := b :: p :: g.toList) (fun k hk => by simp [hk])
  refine ⟨_, rfl, TokV.nil _ _, ⟨b :: p :: g'.toList, ⟨p, g', tv', p1, p4, rfl, ?_⟩, fun k hk => ?_⟩, p2.mono (fun y hy => .inl (by simp at hy ⊢; rcases hy with hy | hy <;> simp [hy]))⟩
  · intro q
    rw [List.mem_cons] at q
    rcases q with q | q
    · exact h4 (by simp [q])
    · rcases p5 with p5 | ⟨j, j1, j2⟩
      · rw [p5] at q; exact h4 (by simp at q ⊢; simp [q])
      · rw [j1] at q; simp at q; omega
  · rw [List.mem_cons, List.mem_cons] at hk
    rcases hk with rfl | rfl | hk
    · exact .inl (by simp)
    · exact .inl (by simp)
    · exact hown k hk
 | figend t n N r q1 q2 q3 so =>
  subst hr
  obtain ⟨p, g, tv, h1, h2, rfl, h4⟩ := h
  obtain ⟨_, _, ok3, ok4⟩ := ok
  have hsa : st.a = a + 1 ∧ st.f = a := by cases so <;> exact ⟨rfl, rfl⟩
  refine fin (fun _ _ => True) hsa.1 (fW b a f p _ n g tv x N w _ h1 h2 ok3.at_ (by omega) q1 q2 ?_)
  intro W ad g0 t1 t2 t3 t4
  have := iE b a f (figV p) x [(4, f, a, N, [])] st l ad 1 g0 w W t4 t2 t3 hbl t1.size (by simp) (by omega) so
  refine this.mono ?_
  rintro e w' ⟨v0, rfl, p1, ⟨F', p2, p3⟩, p4⟩
  rw [hsa.2]
  refine ⟨_, _, rfl, v0, rfl, p1, ⟨F', p2, fun k hk => (p3 k hk).imp (fun q => by simp [q]) id⟩, Touch.step (t1.mono (by simp)) p4 (fun k hk => ?_)⟩
  rw [List.mem_cons] at hk
  rcases hk with rfl | hk
  · exact .inl (by simp)
  · cases hg : g0 with
    | none => rw [hg] at hk; simp at hk
    | some j => rw [hg] at hk; simp at hk; subst hk; exact .inr (t3 _ hg)
 | quomore q q' q1 =>
  injection hr with hr
  injection hr with hr1 hr2
  subst hr1 hr2
  obtain ⟨p, g, tv, r, h1, h2, rfl, h4⟩ := h
  obtain ⟨ok1, ok2⟩ := ok
  refine fin (fun _ _ => True) rfl ((iW b a f p q q' g tv r x w h1 h2 ok1 (by omega) q1 h4).mono ?_)
  rintro e w' ⟨rfl, p1, g', tv', p2, p3, p4⟩
  have hown := wL p3 (F := b :: p :: r :: g.toList) (fun k hk => by simp [hk])
  refine ⟨_, rfl, TokV.nil _ _, ⟨b :: p :: r :: g'.toList, ⟨p, g', tv', r, p1, p2, rfl, ?_⟩, fun k hk => ?_⟩, p4.mono (fun y hy => .inl (by simp at hy ⊢; rcases hy with hy | hy | hy <;> simp [hy]))⟩
  · intro qq
    rw [List.mem_cons, List.mem_cons] at qq
    rcases qq with qq | qq | qq
    · exact h4 (by simp [qq])
    · exact h4 (by simp [qq])
    · rcases p3 with p5 | ⟨j, j1, j2⟩
      · rw [p5] at qq; exact h4 (by simp at qq ⊢; simp [qq])
      · rw [j1] at qq; simp at qq; omega
  · rw [List.mem_cons, List.mem_cons, List.mem_cons] at hk
    rcases hk with rfl | rfl | rfl | hk
    · exact .inl (by simp)
    · exact .inl (by simp)
    · exact .inl (by simp)
    · exact hown k hk
 | quoend q q' q1 =>
  injection hr with hr
  injection hr with hr1 hr2
  subst hr1 hr2
  obtain ⟨p, g, tv, r, h1, h2, rfl, h4⟩ := h
  obtain ⟨ok1, ok2⟩ := ok
  refine fin (fun _ _ => True) rfl ((jW b a f p q q' g tv r x w h1 h2 ok1 (by omega) q1 h4 (by omega)).mono ?_)
  rintro e w' ⟨ad, rfl, p1, ⟨j, p2, p3⟩, p4⟩
  exact ⟨_, rfl, ⟨ad, 1, some j, rfl, p2, fun i hi => by injection hi with hi; omega⟩, ⟨[b], ⟨⟨_, p1⟩, rfl⟩, fun k hk => .inl (by rw [List.mem_singleton.1 hk]; simp)⟩, p4⟩
 | litbad => cases hr
 | figbad => cases hr
 | figerr => cases hr
 | quobad => cases hr
end Go.Proofs.YthdncmagfgoboaaGreatDoor
end
