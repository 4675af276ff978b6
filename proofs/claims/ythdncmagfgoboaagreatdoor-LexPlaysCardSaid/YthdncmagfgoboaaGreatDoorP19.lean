/- One of the texts that lead to the theorem lexPlays.proved: the conditions stand in each theorem. -/
import Derived.Test.YthdncmagfgoboaaGreatDoorP18
import Derived.Deep.RegionHeld3
set_option linter.unusedSimpArgs false
set_option linter.unusedVariables false
namespace Go.Proofs.YthdncmagfgoboaaGreatDoor
open Go.RowKit
set_option maxRecDepth 100000
set_option maxHeartbeats 8000000
def RdAt (w : World) (p : Nat) (b : List UInt8) : Prop :=
 ∃ f c n need : Nat, w.heap[p]? = some (.cells #[.int .u8 f, .int .i32 c, .int .i64 n, .int .i64 need] 176 (0, 0)) ∧ n = b.length ∧
  ∀ f0 l, b = f0 :: l → f = f0.toNat ∧ need = Sq.long f0.toNat ∧ c = Sq.cum (f0.toNat - Sq.base (Sq.long f0.toNat)) l
theorem RdAt.keep {w w' : World} {F : List Nat} {p : Nat} {b : List UInt8} (h : RdAt w p b) (t : Touch F w w') (hp : p ∉ F) : RdAt w' p b := by
 obtain ⟨f, c, n, need, h1, h2, h3⟩ := h
 exact ⟨f, c, n, need, t.keep h1 hp, h2, h3⟩
theorem RdAt.lt {w : World} {p : Nat} {b : List UInt8} (h : RdAt w p b) : p < w.heap.size := by
 obtain ⟨f, c, n, need, h1, _⟩ := h
 exact aB h1
theorem oI (p : Nat) (x : Nat) (hx : x < 256) (w : World) (h : RdAt w p []) (hl : Sq.long x = 1) :
 Calls Tryz.prog 115 #[.pointer (some ⟨p, 0, none⟩), .int .u8 x] w fun e w' => e = .returned (.tuple #[.int .i32 x, .int .i64 2]) ∧ Touch [] w w' := by
 obtain ⟨f, c, n, need, hA, hn, hb⟩ := h
 have hu := fun w => iM x hx w
 rw [hl] at hu
 subst hn
 clear hb hl
 have ⟨c0,c1,c2,c3⟩ := cs4 hA
 have ⟨f0,f1,f2,f3⟩ := fs4 hA
 have lb := aB hA
 try simp at c0 c1 c2 c3
 refine aA Tryz.func115 rfl ?_
 intro Q_ hQ_
 simp only [Tryz.ntmps115, ents_, Nat.reduceAdd, Nat.reduceSub]
 go_wp2_with fail
 refine (hu _).mono ?_
 rintro e w1 ⟨rfl, ht1⟩
 try go_simp
 go_wp2
 refine hQ_.ret (results_tmp2 rfl _ _ _) rfl ?_
 exact ⟨rfl, ht1⟩
theorem pX (p : Nat) (x : Nat) (hx : x < 256) (w : World) (h : RdAt w p []) (hl : Sq.long x = 0) :
 Calls Tryz.prog 115 #[.pointer (some ⟨p, 0, none⟩), .int .u8 x] w fun e w' => e = .returned (.tuple #[.int .i32 0, .int .i64 3]) ∧ Touch [] w w' := by
 obtain ⟨f, c, n, need, hA, hn, hb⟩ := h
 have hu := fun w => iM x hx w
 rw [hl] at hu
 subst hn
 clear hb hl
 have ⟨c0,c1,c2,c3⟩ := cs4 hA
 have ⟨f0,f1,f2,f3⟩ := fs4 hA
 have lb := aB hA
 try simp at c0 c1 c2 c3
 refine aA Tryz.func115 rfl ?_
 intro Q_ hQ_
 simp only [Tryz.ntmps115, ents_, Nat.reduceAdd, Nat.reduceSub]
 go_wp2_with fail
 refine (hu _).mono ?_
 rintro e w1 ⟨rfl, ht1⟩
 try go_simp
 have d2 := ht1.cell c2 (by simp)
 go_wp2_with fail
 refine (hu _).mono ?_
 rintro e w2 ⟨rfl, ht2⟩
 try go_simp
 go_wp2
 refine hQ_.ret (results_tmp2 rfl _ _ _) rfl ?_
 exact ⟨rfl, ht1.trans ht2⟩
theorem sK (x : Nat) (n : Nat) (hl : Sq.long x = n) (hn : 2 ≤ n) : bits .and .i32 (x : Int) (127 / 2 ^ n) = ((x - Sq.base n : Nat) : Int) := by
 rcases Sq.long_two hl hn with ⟨rfl, h1, h2, h3⟩ | ⟨rfl, h1, h2, h3⟩ | ⟨rfl, h1, h2, h3⟩
 · rw [h3]
   have := bits_mask .i32 31 (by decide) wraps_i32 5 (by decide) (x : Int) (by omega) (by omega)
   rw [show (127 : Int) / 2 ^ 2 = 2 ^ 5 - 1 from rfl, this]
   omega
 · rw [h3]
   have := bits_mask .i32 31 (by decide) wraps_i32 4 (by decide) (x : Int) (by omega) (by omega)
   rw [show (127 : Int) / 2 ^ 3 = 2 ^ 4 - 1 from rfl, this]
   omega
 · rw [h3]
   have := bits_mask .i32 31 (by decide) wraps_i32 3 (by decide) (x : Int) (by omega) (by omega)
   rw [show (127 : Int) / 2 ^ 4 = 2 ^ 3 - 1 from rfl, this]
   omega
theorem oH (p : Nat) (x : UInt8) (w : World) (h : RdAt w p []) (hl : 2 ≤ Sq.long x.toNat) :
 Calls Tryz.prog 115 #[.pointer (some ⟨p, 0, none⟩), .int .u8 x.toNat] w fun e w' => e = .returned (.tuple #[.int .i32 0, .int .i64 1]) ∧ RdAt w' p [x] ∧ Touch [p] w w' := by
 obtain ⟨f, c, n, need, hA, hn, hb⟩ := h
 have hu := fun w => iM x.toNat x.toNat_lt w
 have hfb := sK x.toNat _ rfl hl
 have hl4 := Sq.long_le x.toNat
 have hxx : x.toNat < 256 := x.toNat_lt
 obtain ⟨L, hL⟩ : ∃ L, L = Sq.long x.toNat := ⟨_, rfl⟩
 obtain ⟨C, hC⟩ : ∃ C, C = x.toNat - Sq.base L := ⟨_, rfl⟩
 rw [← hL] at hu hfb hl hl4
 rw [← hC] at hfb
 replace hC : Box (C = x.toNat - Sq.base L) := ⟨hC⟩
 replace hL : Box (L = Sq.long x.toNat) := ⟨hL⟩
 obtain ⟨y, hy⟩ : ∃ y, y = x.toNat := ⟨_, rfl⟩
 rw [← hy] at hu hfb hxx ⊢
 replace hy : Box (y = x.toNat) := ⟨hy⟩
 subst hn
 clear hb
 have e1 : ((L : Int) == 1) = false := by rw [beq_eq_false_iff_ne]; omega
 have e2 : ((L : Int) == 0) = false := by rw [beq_eq_false_iff_ne]; omega
 have hLcases : L = 2 ∨ L = 3 ∨ L = 4 := by omega
 have ⟨c0,c1,c2,c3⟩ := cs4 hA
 have ⟨f0,f1,f2,f3⟩ := fs4 hA
 have lb := aB hA
 try simp at c0 c1 c2 c3
 refine aA Tryz.func115 rfl ?_
 intro Q_ hQ_
 simp only [Tryz.ntmps115, ents_, Nat.reduceAdd, Nat.reduceSub]
 go_wp2_with fail
 refine (hu _).mono ?_
 rintro e w1 ⟨rfl, ht1⟩
 try go_simp
 have d2 := ht1.cell c2 (by simp)
 go_wp2_with fail
 refine (hu _).mono ?_
 rintro e w2 ⟨rfl, ht2⟩
 try go_simp
 have hT := ht1.trans ht2
 clear d2 ht1
 have d2 := hT.cell c2 (by simp)
 go_wp2_with fail
 refine (hu _).mono ?_
 rintro e w3 ⟨rfl, ht3⟩
 try go_simp
 have hT3 := hT.trans ht3
 clear d2 c0 c1 c2 c3 f0 f1 f2 f3 lb ht2 ht3 hT
 have hA3 := hT3.keep hA (by simp)
 have ⟨c0,c1,c2,c3⟩ := cs4 hA3
 have ⟨f0,f1,f2,f3⟩ := fs4 hA3
 have lb := aB hA3
 try simp at c0 c1 c2 c3
 go_wp2
 refine hQ_.ret (results_tmp2 rfl _ _ _) rfl ?_
 have hm : ∀ (W : World) (i : Nat) (v : Value), Touch [p] w W → Touch [p] w (W.setCell ⟨p, i, none⟩ v) := fun W i v h => h.setCell (.inl (by simp)) v
 refine ⟨rfl, ⟨y, C, 1, L, aF (aF (aF (aF hA3 0 _) 2 _) 3 _) 1 _, rfl, ?_⟩, hm _ _ _ (hm _ _ _ (hm _ _ _ (hm _ _ _ (hT3.mono (by simp)))))⟩
 intro f0 l hfl
 injection hfl with h1 h2
 subst h1 h2
 exact ⟨hy.out, hL.out, by rw [hC.out, hL.out]; rfl⟩
theorem iO (x : Nat) (hx : x < 256) : bits .andNot .u8 (x : Int) 63 = ((x / 64 * 64 : Nat) : Int) ∧ bits .and .u8 (x : Int) 63 = ((x % 64 : Nat) : Int) := by
 have key : ∀ n : Fin 256, bits .andNot .u8 (n.val : Int) 63 = ((n.val / 64 * 64 : Nat) : Int) ∧ bits .and .u8 (n.val : Int) 63 = ((n.val % 64 : Nat) : Int) := by decide
 exact key ⟨x, hx⟩
theorem gR (f x : Nat) (h1 : 2 ≤ Sq.long f) (hx : x < 256) (w : World) : Calls Tryz.prog 140 #[.int .u8 f, .int .u8 x] w fun e w' => e = .returned (.bool (Sq.second f x)) ∧ w = w' := by
 by_cases h : f < 224
 · exact pE f x h w
 · exact nL f x (by omega) (by rcases Sq.long_two rfl h1 with ⟨_, _, _, _⟩ | ⟨_, _, _, _⟩ | ⟨_, _, _, _⟩ <;> omega) hx w
theorem oM (F N : Nat) (x : UInt8) (hn : 0 < N) : Sq.okAt F N x = ((decide (N ≠ 1) || Sq.second F x.toNat) && (x.toNat / 64 * 64 == 128)) := by
 unfold Sq.okAt
 congr 1
 rw [Bool.eq_iff_iff]; simp [Sq.tailB]; omega
theorem rU (p : Nat) (fb : UInt8) (l : List UInt8) (x : UInt8) (w : World) (h : RdAt w p (fb :: l)) (hh : Sq.how (fb :: l) = 1) (hk : Sq.okAt fb.toNat (l.length + 1) x = false) :
 Calls Tryz.prog 115 #[.pointer (some ⟨p, 0, none⟩), .int .u8 x.toNat] w fun e w' => e = .returned (.tuple #[.int .i32 0, .int .i64 3]) ∧ Touch [] w w' := by
 rw [oM _ _ _ (by omega)] at hk
 obtain ⟨f, c, n, need, hA, hn, hb⟩ := h
 obtain ⟨rfl, rfl, hc⟩ := hb fb l rfl
 clear hb
 have hlen := Sq.how_len hh
 have hneed : l.length + 1 < Sq.long fb.toNat ∧ Sq.long fb.toNat ≤ 4 := by
  refine ⟨?_, Sq.long_le _⟩
  have h5 := hh
  rw [Sq.how_cons] at h5
  split at h5; · cases h5
  split at h5; · cases h5
  split at h5; · cases h5
  split at h5; · cases h5
  omega
 have hcb : c < 700000 := by
  have h6 : fb.toNat - Sq.base (Sq.long fb.toNat) < 32 := by
   rcases Sq.long_two (x := fb.toNat) rfl (by omega) with ⟨h7, h8, h9, h10⟩ | ⟨h7, h8, h9, h10⟩ | ⟨h7, h8, h9, h10⟩ <;> rw [h10] <;> omega
  have h7 := Sq.cum_lt (l := l) h6
  rw [← hc] at h7
  simp only [List.length_cons] at hlen
  have h8 : 64 ^ l.length ≤ 64 ^ 2 := Nat.pow_le_pow_right (by decide) (by omega)
  omega
 obtain ⟨tb1, tb2⟩ := iO x.toNat x.toNat_lt
 have hse := fun w => gR fb.toNat x.toNat (by omega) x.toNat_lt w
 have hxx : x.toNat < 256 := x.toNat_lt
 simp only [List.length_cons] at hn
 subst hn
 replace hc := Box.mk hc
 generalize hL : Sq.long fb.toNat = L at *
 replace hL := Box.mk hL
 generalize hF : fb.toNat = F at *
 replace hF := Box.mk hF
 generalize hy : x.toNat = y at *
 replace hy := Box.mk hy
 simp only [List.length_cons] at hlen
 generalize hN : l.length + 1 = N at *
 replace hN := Box.mk hN
 obtain ⟨hn1, hn2⟩ := hneed
 obtain ⟨hn3, hn4⟩ := hlen
 clear hh
 have e0 : ((N : Int) == 0) = false := by rw [beq_eq_false_iff_ne]; omega
 have ⟨c0,c1,c2,c3⟩ := cs4 hA
 have ⟨f0,f1,f2,f3⟩ := fs4 hA
 have lb := aB hA
 try simp at c0 c1 c2 c3
 have e3 : (((y / 64 * 64 : Nat) : Int) != 128) = !(y / 64 * 64 == 128) := by
  rw [Bool.eq_iff_iff]; simp; omega
 generalize Sq.second F y = S at hse hk
 generalize (y / 64 * 64 == 128) = T at e3 hk
 generalize ((y / 64 * 64 : Nat) : Int) = Z at tb1 e3
 by_cases h1 : N = 1
 · have e2 : ((N : Int) == 1) = true := by rw [beq_iff_eq]; omega
   have hk2 : (S && T) = false := by simpa [h1] using hk
   clear h1 hk hA
   cases S
   ·
    refine aA Tryz.func115 rfl ?_
    intro Q_ hQ_
    simp only [Tryz.ntmps115, ents_, Nat.reduceAdd, Nat.reduceSub]
    go_wp2_with fail
    refine (hse _).mono ?_
    rintro e w1 ⟨rfl, rfl⟩
    try go_simp
    go_wp2
    refine hQ_.ret (results_tmp2 rfl _ _ _) rfl ?_
    exact ⟨rfl, Touch.refl _ _⟩
   · cases T
     · simp only [Bool.not_false] at e3
       clear hk2
       refine aA Tryz.func115 rfl ?_
       intro Q_ hQ_
       simp only [Tryz.ntmps115, ents_, Nat.reduceAdd, Nat.reduceSub]
       go_wp2_with fail
       refine (hse _).mono ?_
       rintro e w1 ⟨rfl, rfl⟩
       try go_simp
       go_wp2
       refine hQ_.ret (results_tmp2 rfl _ _ _) rfl ?_
       exact ⟨rfl, Touch.refl _ _⟩
     · cases hk2
 · have e2 : ((N : Int) == 1) = false := by rw [beq_eq_false_iff_ne]; omega
   have hk2 : T = false := by simpa [h1] using hk
   subst hk2
   simp only [Bool.not_false] at e3
   clear h1 hk hA
   refine aA Tryz.func115 rfl ?_
   intro Q_ hQ_
   simp only [Tryz.ntmps115, ents_, Nat.reduceAdd, Nat.reduceSub]
   go_wp2
   refine hQ_.ret (results_tmp2 rfl _ _ _) rfl ?_
   exact ⟨rfl, Touch.refl _ _⟩
theorem pY (p : Nat) (fb : UInt8) (l : List UInt8) (x : UInt8) (w : World) (h : RdAt w p (fb :: l)) (hh : Sq.how (fb :: l) = 1) (hk : Sq.okAt fb.toNat (l.length + 1) x = true) (hl : l.length + 1 + 1 < Sq.long fb.toNat) :
 Calls Tryz.prog 115 #[.pointer (some ⟨p, 0, none⟩), .int .u8 x.toNat] w fun e w' => e = .returned (.tuple #[.int .i32 0, .int .i64 1]) ∧ RdAt w' p (fb :: (l ++ [x])) ∧ Touch [p] w w' := by
 rw [oM _ _ _ (by omega)] at hk
 obtain ⟨f, c, n, need, hA, hn, hb⟩ := h
 obtain ⟨rfl, rfl, hc⟩ := hb fb l rfl
 clear hb
 have hlen := Sq.how_len hh
 have hneed : l.length + 1 < Sq.long fb.toNat ∧ Sq.long fb.toNat ≤ 4 := by
  refine ⟨?_, Sq.long_le _⟩
  have h5 := hh
  rw [Sq.how_cons] at h5
  split at h5; · cases h5
  split at h5; · cases h5
  split at h5; · cases h5
  split at h5; · cases h5
  omega
 have hcb : c < 700000 := by
  have h6 : fb.toNat - Sq.base (Sq.long fb.toNat) < 32 := by
   rcases Sq.long_two (x := fb.toNat) rfl (by omega) with ⟨h7, h8, h9, h10⟩ | ⟨h7, h8, h9, h10⟩ | ⟨h7, h8, h9, h10⟩ <;> rw [h10] <;> omega
  have h7 := Sq.cum_lt (l := l) h6
  rw [← hc] at h7
  simp only [List.length_cons] at hlen
  have h8 : 64 ^ l.length ≤ 64 ^ 2 := Nat.pow_le_pow_right (by decide) (by omega)
  omega
 obtain ⟨tb1, tb2⟩ := iO x.toNat x.toNat_lt
 have hse := fun w => gR fb.toNat x.toNat (by omega) x.toNat_lt w
 have hxx : x.toNat < 256 := x.toNat_lt
 simp only [List.length_cons] at hn
 subst hn
 replace hc := Box.mk hc
 generalize hL : Sq.long fb.toNat = L at *
 replace hL := Box.mk hL
 generalize hF : fb.toNat = F at *
 replace hF := Box.mk hF
 generalize hy : x.toNat = y at *
 replace hy := Box.mk hy
 simp only [List.length_cons] at hlen
 generalize hN : l.length + 1 = N at *
 replace hN := Box.mk hN
 obtain ⟨hn1, hn2⟩ := hneed
 obtain ⟨hn3, hn4⟩ := hlen
 clear hh
 have e0 : ((N : Int) == 0) = false := by rw [beq_eq_false_iff_ne]; omega
 have ⟨c0,c1,c2,c3⟩ := cs4 hA
 have ⟨f0,f1,f2,f3⟩ := fs4 hA
 have lb := aB hA
 try simp at c0 c1 c2 c3
 have hS : (decide (N ≠ 1) || Sq.second F y) = true ∧ (y / 64 * 64 == 128) = true := by simpa using hk
 obtain ⟨hS, hT⟩ := hS
 have hy1 : 128 ≤ y ∧ y < 192 := by simp at hT; omega
 have e3 : (((y / 64 * 64 : Nat) : Int) != 128) = false := by simp at hT ⊢; omega
 generalize ((y / 64 * 64 : Nat) : Int) = Z at tb1 e3
 obtain ⟨C, hC⟩ : ∃ C, C = c * 64 + y - 128 := ⟨_, rfl⟩
 have ho : bits .or .i32 ((c : Int) * 64) ((y % 64 : Nat) : Int) = ((C : Nat) : Int) := by
  have := lM (c * 64) (y % 64) 6 (by omega) (by omega) (by omega) (by omega)
  rw [show ((c * 64 : Nat) : Int) = (c : Int) * 64 by omega] at this
  rw [this, hC]
  omega
 have hM : (0 : Int) ≤ ((y % 64 : Nat) : Int) ∧ ((y % 64 : Nat) : Int) < 64 := by omega
 generalize ((y % 64 : Nat) : Int) = M at tb2 ho hM
 obtain ⟨hM1, hM2⟩ := hM
 have hC2 : C < 100000000 := by omega
 replace hC := Box.mk hC
 clear hT hk
 generalize Sq.second F y = S at hse hS
 have hA0 := hA
 have hfin : ∀ g0 m, fb :: (l ++ [x]) = g0 :: m → F = g0.toNat ∧ L = Sq.long g0.toNat ∧ C = Sq.cum (g0.toNat - Sq.base (Sq.long g0.toNat)) m := by
  intro g0 m hfl
  injection hfl with q1 q2
  subst q1 q2
  exact ⟨hF.out.symm, by rw [hF.out]; exact hL.out.symm, by rw [hC.out, hc.out, hF.out, hL.out, Sq.cum_snoc, hy.out]⟩
 replace hfin := Box.mk hfin
 by_cases h1 : N = 1
 ·
  have e2 : ((N : Int) == 1) = true := by rw [beq_iff_eq]; omega
  have hS2 : S = true := by simpa [h1] using hS
  subst hS2
  clear h1 hS hA
  refine aA Tryz.func115 rfl ?_
  intro Q_ hQ_
  simp only [Tryz.ntmps115, ents_, Nat.reduceAdd, Nat.reduceSub]
  go_wp2_with fail
  refine (hse _).mono ?_
  rintro e w1 ⟨rfl, rfl⟩
  try go_simp
  go_upto_region 14 with (fail)
  have hA2 : ((w.setCell ⟨p, 1, none⟩ (.int .i32 (C : Int))).setCell ⟨p, 2, none⟩ (.int .i64 ((N : Int) + 1))).heap[p]? = some (.cells #[.int .u8 F, .int .i32 C, .int .i64 ((N : Int) + 1), .int .i64 L] 176 (0, 0)) := aF (aF hA0 1 _) 2 _
  have hT2 : Touch [p] w ((w.setCell ⟨p, 1, none⟩ (.int .i32 (C : Int))).setCell ⟨p, 2, none⟩ (.int .i64 ((N : Int) + 1))) := ((Touch.refl _ _).setCell (.inl (by simp)) _).setCell (.inl (by simp)) _
  generalize ((w.setCell ⟨p, 1, none⟩ (.int .i32 (C : Int))).setCell ⟨p, 2, none⟩ (.int .i64 ((N : Int) + 1))) = W at hA2 hT2 ⊢
  clear c0 c1 c2 c3 f0 f1 f2 f3 lb
  have ⟨c0,c1,c2,c3⟩ := cs4 hA2
  have ⟨f0,f1,f2,f3⟩ := fs4 hA2
  have lb := aB hA2
  try simp at c0 c1 c2 c3
  have hlt : decide ((N : Int) + 1 < (L : Int)) = true := by simp; omega
  go_quiet (fail)
  go_wp2
  refine hQ_.ret (results_tmp2 rfl _ _ _) rfl ?_
  exact ⟨rfl, ⟨F, C, N + 1, L, bA hA2 _, by rw [← hN.out]; simp, hfin.out⟩, hT2.drewN _⟩
 ·
  have e2 : ((N : Int) == 1) = false := by rw [beq_eq_false_iff_ne]; omega
  clear h1 hS hse hA
  refine aA Tryz.func115 rfl ?_
  intro Q_ hQ_
  simp only [Tryz.ntmps115, ents_, Nat.reduceAdd, Nat.reduceSub]
  go_upto_region 14 with (fail)
  have hA2 : ((w.setCell ⟨p, 1, none⟩ (.int .i32 (C : Int))).setCell ⟨p, 2, none⟩ (.int .i64 ((N : Int) + 1))).heap[p]? = some (.cells #[.int .u8 F, .int .i32 C, .int .i64 ((N : Int) + 1), .int .i64 L] 176 (0, 0)) := aF (aF hA0 1 _) 2 _
  have hT2 : Touch [p] w ((w.setCell ⟨p, 1, none⟩ (.int .i32 (C : Int))).setCell ⟨p, 2, none⟩ (.int .i64 ((N : Int) + 1))) := ((Touch.refl _ _).setCell (.inl (by simp)) _).setCell (.inl (by simp)) _
  generalize ((w.setCell ⟨p, 1, none⟩ (.int .i32 (C : Int))).setCell ⟨p, 2, none⟩ (.int .i64 ((N : Int) + 1))) = W at hA2 hT2 ⊢
  clear c0 c1 c2 c3 f0 f1 f2 f3 lb
  have ⟨c0,c1,c2,c3⟩ := cs4 hA2
  have ⟨f0,f1,f2,f3⟩ := fs4 hA2
  have lb := aB hA2
  try simp at c0 c1 c2 c3
  have hlt : decide ((N : Int) + 1 < (L : Int)) = true := by simp; omega
  go_quiet (fail)
  go_wp2
  refine hQ_.ret (results_tmp2 rfl _ _ _) rfl ?_
  exact ⟨rfl, ⟨F, C, N + 1, L, bA hA2 _, by rw [← hN.out]; simp, hfin.out⟩, hT2.drewN _⟩
theorem oG (p : Nat) (fb : UInt8) (l : List UInt8) (x : UInt8) (w : World) (h : RdAt w p (fb :: l)) (hh : Sq.how (fb :: l) = 1) (hk : Sq.okAt fb.toNat (l.length + 1) x = true) (hl : l.length + 1 + 1 = Sq.long fb.toNat) :
 Calls Tryz.prog 115 #[.pointer (some ⟨p, 0, none⟩), .int .u8 x.toNat] w fun e w' => e = .returned (.tuple #[.int .i32 (Sq.of (fb :: (l ++ [x]))), .int .i64 2]) ∧ RdAt w' p [] ∧ Touch [p] w w' := by
 rw [oM _ _ _ (by omega)] at hk
 obtain ⟨f, c, n, need, hA, hn, hb⟩ := h
 obtain ⟨rfl, rfl, hc⟩ := hb fb l rfl
 clear hb
 have hlen := Sq.how_len hh
 have hneed : l.length + 1 < Sq.long fb.toNat ∧ Sq.long fb.toNat ≤ 4 := by
  refine ⟨?_, Sq.long_le _⟩
  have h5 := hh
  rw [Sq.how_cons] at h5
  split at h5; · cases h5
  split at h5; · cases h5
  split at h5; · cases h5
  split at h5; · cases h5
  omega
 have hcb : c < 700000 := by
  have h6 : fb.toNat - Sq.base (Sq.long fb.toNat) < 32 := by
   rcases Sq.long_two (x := fb.toNat) rfl (by omega) with ⟨h7, h8, h9, h10⟩ | ⟨h7, h8, h9, h10⟩ | ⟨h7, h8, h9, h10⟩ <;> rw [h10] <;> omega
  have h7 := Sq.cum_lt (l := l) h6
  rw [← hc] at h7
  simp only [List.length_cons] at hlen
  have h8 : 64 ^ l.length ≤ 64 ^ 2 := Nat.pow_le_pow_right (by decide) (by omega)
  omega
 obtain ⟨tb1, tb2⟩ := iO x.toNat x.toNat_lt
 have hse := fun w => gR fb.toNat x.toNat (by omega) x.toNat_lt w
 have hxx : x.toNat < 256 := x.toNat_lt
 simp only [List.length_cons] at hn
 subst hn
 replace hc := Box.mk hc
 generalize hL : Sq.long fb.toNat = L at *
 replace hL := Box.mk hL
 generalize hF : fb.toNat = F at *
 replace hF := Box.mk hF
 generalize hy : x.toNat = y at *
 replace hy := Box.mk hy
 simp only [List.length_cons] at hlen
 generalize hN : l.length + 1 = N at *
 replace hN := Box.mk hN
 obtain ⟨hn1, hn2⟩ := hneed
 obtain ⟨hn3, hn4⟩ := hlen
 clear hh
 have e0 : ((N : Int) == 0) = false := by rw [beq_eq_false_iff_ne]; omega
 have ⟨c0,c1,c2,c3⟩ := cs4 hA
 have ⟨f0,f1,f2,f3⟩ := fs4 hA
 have lb := aB hA
 try simp at c0 c1 c2 c3
 have hS : (decide (N ≠ 1) || Sq.second F y) = true ∧ (y / 64 * 64 == 128) = true := by simpa using hk
 obtain ⟨hS, hT⟩ := hS
 have hy1 : 128 ≤ y ∧ y < 192 := by simp at hT; omega
 have e3 : (((y / 64 * 64 : Nat) : Int) != 128) = false := by simp at hT ⊢; omega
 generalize ((y / 64 * 64 : Nat) : Int) = Z at tb1 e3
 obtain ⟨C, hC⟩ : ∃ C, C = c * 64 + y - 128 := ⟨_, rfl⟩
 have ho : bits .or .i32 ((c : Int) * 64) ((y % 64 : Nat) : Int) = ((C : Nat) : Int) := by
  have := lM (c * 64) (y % 64) 6 (by omega) (by omega) (by omega) (by omega)
  rw [show ((c * 64 : Nat) : Int) = (c : Int) * 64 by omega] at this
  rw [this, hC]
  omega
 have hM : (0 : Int) ≤ ((y % 64 : Nat) : Int) ∧ ((y % 64 : Nat) : Int) < 64 := by omega
 generalize ((y % 64 : Nat) : Int) = M at tb2 ho hM
 obtain ⟨hM1, hM2⟩ := hM
 have hC2 : C < 100000000 := by omega
 replace hC := Box.mk hC
 clear hT hk
 generalize Sq.second F y = S at hse hS
 have hA0 := hA
 have hof : Sq.of (fb :: (l ++ [x])) = C := by
  show Sq.cum (fb.toNat - Sq.base ((l ++ [x]).length + 1)) (l ++ [x]) = C
  rw [List.length_append, List.length_singleton, hN.out, hl, hF.out, hC.out, Sq.cum_snoc, hc.out, hy.out]
 rw [hof]
 clear hof
 by_cases h1 : N = 1
 ·
  have e2 : ((N : Int) == 1) = true := by rw [beq_iff_eq]; omega
  have hS2 : S = true := by simpa [h1] using hS
  subst hS2
  clear h1 hS hA
  refine aA Tryz.func115 rfl ?_
  intro Q_ hQ_
  simp only [Tryz.ntmps115, ents_, Nat.reduceAdd, Nat.reduceSub]
  go_wp2_with fail
  refine (hse _).mono ?_
  rintro e w1 ⟨rfl, rfl⟩
  try go_simp
  go_upto_region 14 with (fail)
  have hA2 : ((w.setCell ⟨p, 1, none⟩ (.int .i32 (C : Int))).setCell ⟨p, 2, none⟩ (.int .i64 ((N : Int) + 1))).heap[p]? = some (.cells #[.int .u8 F, .int .i32 C, .int .i64 ((N : Int) + 1), .int .i64 L] 176 (0, 0)) := aF (aF hA0 1 _) 2 _
  have hT2 : Touch [p] w ((w.setCell ⟨p, 1, none⟩ (.int .i32 (C : Int))).setCell ⟨p, 2, none⟩ (.int .i64 ((N : Int) + 1))) := ((Touch.refl _ _).setCell (.inl (by simp)) _).setCell (.inl (by simp)) _
  generalize ((w.setCell ⟨p, 1, none⟩ (.int .i32 (C : Int))).setCell ⟨p, 2, none⟩ (.int .i64 ((N : Int) + 1))) = W at hA2 hT2 ⊢
  clear c0 c1 c2 c3 f0 f1 f2 f3 lb
  have ⟨c0,c1,c2,c3⟩ := cs4 hA2
  have ⟨f0,f1,f2,f3⟩ := fs4 hA2
  have lb := aB hA2
  try simp at c0 c1 c2 c3
  have hlt : decide ((N : Int) + 1 < (L : Int)) = false := by simp; omega
  go_quiet (fail)
  go_wp2
  refine hQ_.ret (results_tmp2 rfl _ _ _) rfl ?_
  exact ⟨rfl, ⟨F, C, 0, L, aF (bA hA2 _) 2 _, rfl, fun _ _ q => by cases q⟩, (hT2.drewN _).setCell (.inl (by simp)) _⟩
 ·
  have e2 : ((N : Int) == 1) = false := by rw [beq_eq_false_iff_ne]; omega
  clear h1 hS hse hA
  refine aA Tryz.func115 rfl ?_
  intro Q_ hQ_
  simp only [Tryz.ntmps115, ents_, Nat.reduceAdd, Nat.reduceSub]
  go_upto_region 14 with (fail)
  have hA2 : ((w.setCell ⟨p, 1, none⟩ (.int .i32 (C : Int))).setCell ⟨p, 2, none⟩ (.int .i64 ((N : Int) + 1))).heap[p]? = some (.cells #[.int .u8 F, .int .i32 C, .int .i64 ((N : Int) + 1), .int .i64 L] 176 (0, 0)) := aF (aF hA0 1 _) 2 _
  have hT2 : Touch [p] w ((w.setCell ⟨p, 1, none⟩ (.int .i32 (C : Int))).setCell ⟨p, 2, none⟩ (.int .i64 ((N : Int) + 1))) := ((Touch.refl _ _).setCell (.inl (by simp)) _).setCell (.inl (by simp)) _
  generalize ((w.setCell ⟨p, 1, none⟩ (.int .i32 (C : Int))).setCell ⟨p, 2, none⟩ (.int .i64 ((N : Int) + 1))) = W at hA2 hT2 ⊢
  clear c0 c1 c2 c3 f0 f1 f2 f3 lb
  have ⟨c0,c1,c2,c3⟩ := cs4 hA2
  have ⟨f0,f1,f2,f3⟩ := fs4 hA2
  have lb := aB hA2
  try simp at c0 c1 c2 c3
  have hlt : decide ((N : Int) + 1 < (L : Int)) = false := by simp; omega
  go_quiet (fail)
  go_wp2
  refine hQ_.ret (results_tmp2 rfl _ _ _) rfl ?_
  exact ⟨rfl, ⟨F, C, 0, L, aF (bA hA2 _) 2 _, rfl, fun _ _ q => by cases q⟩, (hT2.drewN _).setCell (.inl (by simp)) _⟩
theorem vW (p : Nat) (b : List UInt8) (x : UInt8) (w : World) (h : RdAt w p b) (ok : b = [] ∨ Sq.how b = 1) (hw : Sq.how (b ++ [x]) = 0) :
 Calls Tryz.prog 115 #[.pointer (some ⟨p, 0, none⟩), .int .u8 x.toNat] w fun e w' => e = .returned (.tuple #[.int .i32 0, .int .i64 3]) ∧ Touch [] w w' := by
 cases b with
 | nil =>
  rw [List.nil_append, Sq.how_one] at hw
  refine pX p x.toNat x.toNat_lt w h ?_
  split at hw
  · assumption
  · split at hw <;> cases hw
 | cons fb l =>
  have hh : Sq.how (fb :: l) = 1 := ok.resolve_left (by simp)
  rw [List.cons_append, Sq.how_snoc fb l x hh] at hw
  refine rU p fb l x w h hh ?_
  split at hw
  · assumption
  · split at hw <;> cases hw
theorem pZ (p : Nat) (b : List UInt8) (x : UInt8) (w : World) (h : RdAt w p b) (ok : b = [] ∨ Sq.how b = 1) (hw : Sq.how (b ++ [x]) = 1) :
 Calls Tryz.prog 115 #[.pointer (some ⟨p, 0, none⟩), .int .u8 x.toNat] w fun e w' => e = .returned (.tuple #[.int .i32 0, .int .i64 1]) ∧ RdAt w' p (b ++ [x]) ∧ Touch [p] w w' := by
 cases b with
 | nil =>
  rw [List.nil_append, Sq.how_one] at hw
  refine oH p x w h ?_
  split at hw
  · cases hw
  · split at hw
    · cases hw
    · omega
 | cons fb l =>
  have hh : Sq.how (fb :: l) = 1 := ok.resolve_left (by simp)
  rw [List.cons_append, Sq.how_snoc fb l x hh] at hw
  split at hw
  · cases hw
  · rename_i h1
    split at hw
    · rename_i h2
      exact pY p fb l x w h hh (by simpa using h1) h2
    · cases hw
theorem fT (p : Nat) (b : List UInt8) (x : UInt8) (w : World) (h : RdAt w p b) (ok : b = [] ∨ Sq.how b = 1) (hw : Sq.how (b ++ [x]) = 2) :
 Calls Tryz.prog 115 #[.pointer (some ⟨p, 0, none⟩), .int .u8 x.toNat] w fun e w' => e = .returned (.tuple #[.int .i32 (Sq.of (b ++ [x])), .int .i64 2]) ∧ RdAt w' p [] ∧ Touch [p] w w' := by
 cases b with
 | nil =>
  rw [List.nil_append, Sq.how_one] at hw
  have hl : Sq.long x.toNat = 1 := by
   split at hw
   · cases hw
   · split at hw
     · assumption
     · cases hw
  exact (oI p x.toNat x.toNat_lt w h hl).mono fun e w' q => ⟨q.1, h.keep q.2 (by simp), q.2.mono (by simp)⟩
 | cons fb l =>
  have hh : Sq.how (fb :: l) = 1 := ok.resolve_left (by simp)
  have hn : l.length + 1 < Sq.long fb.toNat := by
   have h5 := hh
   rw [Sq.how_cons] at h5
   split at h5; · cases h5
   split at h5; · cases h5
   split at h5; · cases h5
   split at h5; · cases h5
   omega
  rw [List.cons_append, Sq.how_snoc fb l x hh] at hw
  split at hw
  · cases hw
  · rename_i h1
    split at hw
    · cases hw
    · rename_i h2
      exact oG p fb l x w h hh (by simpa using h1) (by omega)
end Go.Proofs.YthdncmagfgoboaaGreatDoor
