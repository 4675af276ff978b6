/- One of the texts that lead to the theorem lexPlays.proved: the conditions stand in each theorem. -/
import Derived.Test.YthdncmagfgoboaaGreatDoorP22
import Derived.Test.YthdncmagfgoboaaGreatDoorP16
set_option linter.unusedSimpArgs false
set_option linter.unusedVariables false
section
namespace Go.Proofs.YthdncmagfgoboaaGreatDoor
open Go.RowKit
set_option maxRecDepth 100000
set_option maxHeartbeats 8000000
theorem sZ (p r n at_ u many high : Nat) (over : Bool) (tv : Value) (x : UInt8) (w : World) (h : bG w p tv n r at_ u many high over) (hx : Sq.simple x = none) (hu : x ≠ 117) :
 Calls Tryz.prog 86 #[.pointer (some ⟨p, 0, none⟩), .int .u8 x.toNat] w fun e w' => e = .returned (.int .i64 2) ∧ Touch [] w w' := by
 have hne : (x.toNat : Int) ≠ 34 ∧ (x.toNat : Int) ≠ 92 ∧ (x.toNat : Int) ≠ 47 ∧ (x.toNat : Int) ≠ 98 ∧ (x.toNat : Int) ≠ 102 ∧ (x.toNat : Int) ≠ 110 ∧ (x.toNat : Int) ≠ 114 ∧ (x.toNat : Int) ≠ 116 ∧ (x.toNat : Int) ≠ 117 := by
  have key : ∀ k : Nat, k < 256 → (x.toNat : Int) = k → x = UInt8.ofNat k := fun k hk h => UInt8.toNat_inj.1 (by rw [UInt8.toNat_ofNat']; omega)
  refine ⟨fun q => ?_, fun q => ?_, fun q => ?_, fun q => ?_, fun q => ?_, fun q => ?_, fun q => ?_, fun q => ?_, fun q => hu (key 117 (by decide) q)⟩
  · have := key 34 (by decide) q; subst this; cases hx
  · have := key 92 (by decide) q; subst this; cases hx
  · have := key 47 (by decide) q; subst this; cases hx
  · have := key 98 (by decide) q; subst this; cases hx
  · have := key 102 (by decide) q; subst this; cases hx
  · have := key 110 (by decide) q; subst this; cases hx
  · have := key 114 (by decide) q; subst this; cases hx
  · have := key 116 (by decide) q; subst this; cases hx
 have hlk := esc_no (aZ w (.map (escM 9) 9)) (x.toNat : Int) hne
 clear hne hx hu
 have hes := fun w => eS w
 have hal := aZ w (.map (escM 9) 9)
 have h1 : bG (w.alloc (.map (escM 9) 9)) p tv n r at_ u many high over := aW h _
 have hT1 : Touch [] w (w.alloc (.map (escM 9) 9)) := (Touch.refl _ _).alloc _
 generalize hy : (x.toNat : Int) = y at *
 replace hy := Box.mk hy
 have h0 := h1
 unfold bG at h1
 have ⟨c0,c1,c2,c3,c4,c5,c6,c7⟩ := cs8 h1
 have ⟨f0,f1,f2,f3,f4,f5,f6,f7⟩ := fs8 h1
 have lb := aB h1
 try simp [StrC] at c0 c1 c2 c3 c4 c5 c6 c7
 clear h1 h
 refine aA Tryz.func86 rfl ?_
 intro Q_ hQ_
 simp only [Tryz.ntmps86, ents_, Nat.reduceAdd, Nat.reduceSub]
 go_wp2_with fail
 refine (hes _).mono ?_
 rintro e w1 ⟨rfl, rfl⟩
 try go_simp
 go_wp2
 refine hQ_.ret (results_tmp rfl _ _ _) rfl ?_
 exact ⟨rfl, hT1⟩
theorem esc_sur (p r n at_ u many high : Nat) (over : Bool) (tv : Value) (x : UInt8) (c : Nat) (w : World) (h : bG w p tv n r at_ u many high over) (hx : Sq.simple x = some c) (hh : high ≠ 0) :
 Calls Tryz.prog 86 #[.pointer (some ⟨p, 0, none⟩), .int .u8 x.toNat] w fun e w' => e = .returned (.int .i64 5) ∧ Touch [] w w' := by
 obtain ⟨fn, hfn⟩ := xF x c hx
 have hlk := oR (aZ w (.map (escM 9) 9)) (x.toNat : Int) fn (by rcases hfn with h | h | h | h | h | h | h | h <;> simp [h])
 have t1 : ((high : Int) != 0) = true := by simpa using hh
 have t2 : ((x.toNat : Int) != 117) = true := by
  simp
  rcases hfn with h | h | h | h | h | h | h | h <;> omega
 clear hfn hx hh
 have hes := fun w => eS w
 have hal := aZ w (.map (escM 9) 9)
 have h1 : bG (w.alloc (.map (escM 9) 9)) p tv n r at_ u many high over := aW h _
 have hT1 : Touch [] w (w.alloc (.map (escM 9) 9)) := (Touch.refl _ _).alloc _
 generalize hy : (x.toNat : Int) = y at *
 replace hy := Box.mk hy
 have h0 := h1
 unfold bG at h1
 have ⟨c0,c1,c2,c3,c4,c5,c6,c7⟩ := cs8 h1
 have ⟨f0,f1,f2,f3,f4,f5,f6,f7⟩ := fs8 h1
 have lb := aB h1
 try simp [StrC] at c0 c1 c2 c3 c4 c5 c6 c7
 clear h1 h
 refine aA Tryz.func86 rfl ?_
 intro Q_ hQ_
 simp only [Tryz.ntmps86, ents_, Nat.reduceAdd, Nat.reduceSub]
 go_wp2_with fail
 refine (hes _).mono ?_
 rintro e w1 ⟨rfl, rfl⟩
 try go_simp
 go_wp2
 refine hQ_.ret (results_tmp rfl _ _ _) rfl ?_
 exact ⟨rfl, hT1⟩
theorem esc_u (p r n at_ u many high : Nat) (over : Bool) (tv : Value) (w : World) (h : bG w p tv n r at_ u many high over) :
 Calls Tryz.prog 86 #[.pointer (some ⟨p, 0, none⟩), .int .u8 117] w fun e w' => e = .returned (.int .i64 0) ∧ bG w' p tv n r 2 0 0 high over ∧ Touch [p] w w' := by
 have hlk := oR (aZ w (.map (escM 9) 9)) 117 136 (by simp)
 have hes := fun w => eS w
 have h1 : bG (w.alloc (.map (escM 9) 9)) p tv n r at_ u many high over := aW h _
 have hT1 : Touch [] w (w.alloc (.map (escM 9) 9)) := (Touch.refl _ _).alloc _
 have h0 := h1
 unfold bG at h1
 have ⟨c0,c1,c2,c3,c4,c5,c6,c7⟩ := cs8 h1
 have ⟨f0,f1,f2,f3,f4,f5,f6,f7⟩ := fs8 h1
 have lb := aB h1
 try simp [StrC] at c0 c1 c2 c3 c4 c5 c6 c7
 clear h1 h
 have hun := tD p r n at_ u many high over tv 117 _ h0
 cases hz : ((high : Int) != 0)
 all_goals
  refine aA Tryz.func86 rfl ?_
  intro Q_ hQ_
  simp only [Tryz.ntmps86, ents_, Nat.reduceAdd, Nat.reduceSub]
  go_wp2_with fail
  refine (hes _).mono ?_
  rintro e w1 ⟨rfl, rfl⟩
  try go_simp
  go_wp2_with fail
  refine hun.mono ?_
  rintro e w2 ⟨rfl, k1, k2⟩
  try go_simp
  go_wp2
  refine hQ_.ret (results_tmp rfl _ _ _) rfl ?_
  exact ⟨rfl, k1, (hT1.mono (by simp)).trans k2⟩
theorem esc_say (p r n at_ u many : Nat) (over : Bool) (T : List UInt8) (tv : Value) (g : Option Nat) (x : UInt8) (c : Nat) (w : World) (h : bG w p tv n r at_ u many 0 over) (hs : SlAt w 5 1 tv T.length (bM T) g) (hg : ∀ k, g = some k → k ≠ p) (hT : T.length ≤ 1000000) (hn : n ≤ 1000000) (hx : Sq.simple x = some c) :
 Calls Tryz.prog 86 #[.pointer (some ⟨p, 0, none⟩), .int .u8 x.toNat] w fun e w' => e = .returned (.int .i64 0) ∧ ∃ g' tv', bG w' p tv' (n + 1) r 0 u many 0 over ∧ SlAt w' 5 1 tv' (T ++ Sq.enc c).length (bM (T ++ Sq.enc c)) g' ∧ cK w g g' ∧ Touch (p :: g.toList) w w' := by
 obtain ⟨fn, hfn⟩ := xF x c hx
 have hlk := oR (aZ w (.map (escM 9) 9)) (x.toNat : Int) fn (by rcases hfn with h | h | h | h | h | h | h | h <;> simp [h])
 have hsay := nS p r n at_ u many 0 over T tv g (c : Int) (by omega) (w.alloc (.map (escM 9) 9)) (aW h _) (hs.keep ((Touch.refl [] _).alloc _) (by simp)) hg hT hn
 have hcl := uO p x c fn hx _ _ hfn hsay
 obtain ⟨high, hhi⟩ : ∃ k : Nat, k = 0 := ⟨_, rfl⟩
 have t1 : ((high : Int) != 0) = false := by simp [hhi]
 rw [← hhi] at h
 clear hhi hsay hx
 rcases hfn with ⟨-, rfl⟩ | ⟨-, rfl⟩ | ⟨-, rfl⟩ | ⟨-, rfl⟩ | ⟨-, rfl⟩ | ⟨-, rfl⟩ | ⟨-, rfl⟩ | ⟨-, rfl⟩
 all_goals
  have hes := fun w => eS w
  have hal := aZ w (.map (escM 9) 9)
  have h1 : bG (w.alloc (.map (escM 9) 9)) p tv n r at_ u many high over := aW h _
  have hT1 : Touch [] w (w.alloc (.map (escM 9) 9)) := (Touch.refl _ _).alloc _
  generalize hy : (x.toNat : Int) = y at *
  replace hy := Box.mk hy
  have h0 := h1
  unfold bG at h1
  have ⟨c0,c1,c2,c3,c4,c5,c6,c7⟩ := cs8 h1
  have ⟨f0,f1,f2,f3,f4,f5,f6,f7⟩ := fs8 h1
  have lb := aB h1
  try simp [StrC] at c0 c1 c2 c3 c4 c5 c6 c7
  clear h1 h
  refine aA Tryz.func86 rfl ?_
  intro Q_ hQ_
  simp only [Tryz.ntmps86, ents_, Nat.reduceAdd, Nat.reduceSub]
  go_wp2_with fail
  refine (hes _).mono ?_
  rintro e w1 ⟨rfl, rfl⟩
  try go_simp
  go_wp2_with fail
  refine hcl.mono ?_
  rintro e w2 ⟨rfl, g', tv', k1, k2, k3, k4⟩
  try go_simp
  go_wp2
  refine hQ_.ret (results_tmp rfl _ _ _) rfl ?_
  exact ⟨rfl, g', tv', k1, k2, cE k3 hT1.size, (hT1.mono (by simp)).trans k4⟩
end Go.Proofs.YthdncmagfgoboaaGreatDoor
end

section
namespace Go.Proofs.YthdncmagfgoboaaGreatDoor
open Go.RowKit
set_option maxRecDepth 100000
set_option maxHeartbeats 8000000
theorem tY (p : Nat) (x : UInt8) (w : World) (hx : x.toNat < 32) :
 Calls Tryz.prog 88 #[.pointer (some ⟨p, 0, none⟩), .int .u8 x.toNat] w fun e w' => e = .returned (.tuple #[.bool false, .int .i64 2]) ∧ w = w' := by
 have hy : (x.toNat : Int) < 32 := by omega
 clear hx
 refine aA Tryz.func88 rfl ?_
 intro Q_ hQ_
 simp only [Tryz.ntmps88, ents_, Nat.reduceAdd, Nat.reduceSub]
 go_wp2
 refine hQ_.ret (results_tmp2 rfl _ _ _) rfl ?_
 exact ⟨rfl, rfl⟩
theorem tW (p r n at_ u many high : Nat) (over : Bool) (tv : Value) (b : List UInt8) (x : UInt8) (w : World) (h : bG w p tv n r at_ u many high over) (hr : RdAt w r b) (ok : b = [] ∨ Sq.how b = 1) (hx : 32 ≤ x.toNat) (hw : Sq.how (b ++ [x]) = 0) :
 Calls Tryz.prog 88 #[.pointer (some ⟨p, 0, none⟩), .int .u8 x.toNat] w fun e w' => e = .returned (.tuple #[.bool false, .int .i64 4]) ∧ Touch [] w w' := by
 obtain ⟨rf, rc, rn, rneed, hR, hRn, hRb⟩ := hr
 have hR0 := hR
 have hlt : ¬ (x.toNat : Int) < 32 := by omega
 have h0 := h
 unfold bG at h
 have ⟨c0,c1,c2,c3,c4,c5,c6,c7⟩ := cs8 h
 have ⟨f0,f1,f2,f3,f4,f5,f6,f7⟩ := fs8 h
 have lb := aB h
 try simp [StrC] at c0 c1 c2 c3 c4 c5 c6 c7
 have ⟨d0,d1,d2,d3⟩ := cs4 hR
 have ld := aB hR
 try simp at d0 d1 d2 d3
 have hrd : RdAt (w.alloc (.cells #[.int .u8 rf, .int .i32 rc, .int .i64 rn, .int .i64 rneed] 176)) w.heap.size b := ⟨rf, rc, rn, rneed, aZ _ _, hRn, hRb⟩
 have hT1 : Touch [] w (w.alloc (.cells #[.int .u8 rf, .int .i32 rc, .int .i64 rn, .int .i64 rneed] 176)) := (Touch.refl _ _).alloc _
 clear hRn hRb hR h
 have hrp := vW _ b x _ hrd ok hw
 generalize x.toNat = y at *
 clear hw ok
 refine aA Tryz.func88 rfl ?_
 intro Q_ hQ_
 simp only [Tryz.ntmps88, ents_, Nat.reduceAdd, Nat.reduceSub]
 go_wp2_with fail
 refine hrp.mono ?_
 rintro e w1 ⟨rfl, ht1⟩
 try go_simp
 go_wp2
 refine hQ_.ret (results_tmp2 rfl _ _ _) rfl ?_
 exact ⟨rfl, hT1.trans ht1⟩
theorem mV (p r n at_ u many high : Nat) (over : Bool) (tv : Value) (b : List UInt8) (x : UInt8) (w : World) (h : bG w p tv n r at_ u many high over) (hr : RdAt w r b) (ok : b = [] ∨ Sq.how b = 1) (hx : 32 ≤ x.toNat) (hw : Sq.how (b ++ [x]) = 1 ∨ Sq.how (b ++ [x]) = 2) (hh : high ≠ 0) (h92 : x ≠ 92) :
 Calls Tryz.prog 88 #[.pointer (some ⟨p, 0, none⟩), .int .u8 x.toNat] w fun e w' => e = .returned (.tuple #[.bool false, .int .i64 5]) ∧ Touch [] w w' := by
 have t1 : ((high : Int) != 0) = true := by simpa using hh
 have t2 : ((x.toNat : Int) != 92) = true := by
  simp
  exact fun q => h92 (UInt8.toNat_inj.1 (by have : (92 : UInt8).toNat = 92 := rfl; omega))
 clear hh h92
 rcases hw with hw | hw
 ·
  obtain ⟨rf, rc, rn, rneed, hR, hRn, hRb⟩ := hr
  have hR0 := hR
  have hlt : ¬ (x.toNat : Int) < 32 := by omega
  have h0 := h
  unfold bG at h
  have ⟨c0,c1,c2,c3,c4,c5,c6,c7⟩ := cs8 h
  have ⟨f0,f1,f2,f3,f4,f5,f6,f7⟩ := fs8 h
  have lb := aB h
  try simp [StrC] at c0 c1 c2 c3 c4 c5 c6 c7
  have ⟨d0,d1,d2,d3⟩ := cs4 hR
  have ld := aB hR
  try simp at d0 d1 d2 d3
  have hrd : RdAt (w.alloc (.cells #[.int .u8 rf, .int .i32 rc, .int .i64 rn, .int .i64 rneed] 176)) w.heap.size b := ⟨rf, rc, rn, rneed, aZ _ _, hRn, hRb⟩
  have hT1 : Touch [] w (w.alloc (.cells #[.int .u8 rf, .int .i32 rc, .int .i64 rn, .int .i64 rneed] 176)) := (Touch.refl _ _).alloc _
  clear hRn hRb hR h
  have hrp := pZ _ b x _ hrd ok hw
  generalize x.toNat = y at *
  clear hw ok
  refine aA Tryz.func88 rfl ?_
  intro Q_ hQ_
  simp only [Tryz.ntmps88, ents_, Nat.reduceAdd, Nat.reduceSub]
  go_wp2_with fail
  refine hrp.mono ?_
  rintro e w1 ⟨rfl, hq1, ht1⟩
  try go_simp
  have hT : Touch [] w w1 := Touch.step hT1 ht1 (fun k hk => .inr (by simp at hk; omega))
  clear c0 c1 c2 c3 c4 c5 c6 c7 f0 f1 f2 f3 f4 f5 f6 f7 lb d0 d1 d2 d3 ld hrp ht1
  have hA1 := hT.keep h0 (by simp)
  have hA2 := hA1
  have ⟨c0,c1,c2,c3,c4,c5,c6,c7⟩ := cs8 hA2
  have ⟨f0,f1,f2,f3,f4,f5,f6,f7⟩ := fs8 hA2
  have lb := aB hA2
  try simp [StrC] at c0 c1 c2 c3 c4 c5 c6 c7
  go_wp2
  refine hQ_.ret (results_tmp2 rfl _ _ _) rfl ?_
  exact ⟨rfl, hT⟩
 ·
  obtain ⟨rf, rc, rn, rneed, hR, hRn, hRb⟩ := hr
  have hR0 := hR
  have hlt : ¬ (x.toNat : Int) < 32 := by omega
  have h0 := h
  unfold bG at h
  have ⟨c0,c1,c2,c3,c4,c5,c6,c7⟩ := cs8 h
  have ⟨f0,f1,f2,f3,f4,f5,f6,f7⟩ := fs8 h
  have lb := aB h
  try simp [StrC] at c0 c1 c2 c3 c4 c5 c6 c7
  have ⟨d0,d1,d2,d3⟩ := cs4 hR
  have ld := aB hR
  try simp at d0 d1 d2 d3
  have hrd : RdAt (w.alloc (.cells #[.int .u8 rf, .int .i32 rc, .int .i64 rn, .int .i64 rneed] 176)) w.heap.size b := ⟨rf, rc, rn, rneed, aZ _ _, hRn, hRb⟩
  have hT1 : Touch [] w (w.alloc (.cells #[.int .u8 rf, .int .i32 rc, .int .i64 rn, .int .i64 rneed] 176)) := (Touch.refl _ _).alloc _
  clear hRn hRb hR h
  have hrp := fT _ b x _ hrd ok hw
  generalize (Sq.of (b ++ [x]) : Int) = cc at *
  generalize x.toNat = y at *
  clear hw ok
  refine aA Tryz.func88 rfl ?_
  intro Q_ hQ_
  simp only [Tryz.ntmps88, ents_, Nat.reduceAdd, Nat.reduceSub]
  go_wp2_with fail
  refine hrp.mono ?_
  rintro e w1 ⟨rfl, hq1, ht1⟩
  try go_simp
  have hT : Touch [] w w1 := Touch.step hT1 ht1 (fun k hk => .inr (by simp at hk; omega))
  clear c0 c1 c2 c3 c4 c5 c6 c7 f0 f1 f2 f3 f4 f5 f6 f7 lb d0 d1 d2 d3 ld hrp ht1
  have hA1 := hT.keep h0 (by simp)
  have hA2 := hA1
  have ⟨c0,c1,c2,c3,c4,c5,c6,c7⟩ := cs8 hA2
  have ⟨f0,f1,f2,f3,f4,f5,f6,f7⟩ := fs8 hA2
  have lb := aB hA2
  try simp [StrC] at c0 c1 c2 c3 c4 c5 c6 c7
  go_wp2
  refine hQ_.ret (results_tmp2 rfl _ _ _) rfl ?_
  exact ⟨rfl, hT⟩
theorem uA (p r n at_ u many high : Nat) (over : Bool) (tv : Value) (w : World) (h : bG w p tv n r at_ u many high over) (hhi : high = 0) (hr : RdAt w r []) :
 Calls Tryz.prog 88 #[.pointer (some ⟨p, 0, none⟩), .int .u8 34] w fun e w' => e = .returned (.tuple #[.bool true, .int .i64 0]) ∧ bG w' p tv n r at_ u many high true ∧ Touch [p] w w' := by
 obtain ⟨x, hxx⟩ : ∃ x : UInt8, x = 34 := ⟨_, rfl⟩
 have hx : 32 ≤ x.toNat := by rw [hxx]; decide
 obtain ⟨b, hb⟩ : ∃ b : List UInt8, b = [] := ⟨_, rfl⟩
 rw [← hb] at hr
 have hw : Sq.how (b ++ [x]) = 2 := by rw [hb, hxx]; decide
 have hof : Sq.of (b ++ [x]) = 34 := by rw [hb, hxx]; rfl
 have ok : b = [] ∨ Sq.how b = 1 := .inl hb
 have t2 : ((x.toNat : Int) == 34) = true := by rw [hxx]; rfl
 have t0 : (34 : Int) = (x.toNat : Int) := by rw [hxx]; rfl
 have t1 : ((high : Int) != 0) = false := by simp [hhi]
 rw [t0]
 clear t0 hxx hhi hb
 obtain ⟨rf, rc, rn, rneed, hR, hRn, hRb⟩ := hr
 have hR0 := hR
 have hlt : ¬ (x.toNat : Int) < 32 := by omega
 have h0 := h
 unfold bG at h
 have ⟨c0,c1,c2,c3,c4,c5,c6,c7⟩ := cs8 h
 have ⟨f0,f1,f2,f3,f4,f5,f6,f7⟩ := fs8 h
 have lb := aB h
 try simp [StrC] at c0 c1 c2 c3 c4 c5 c6 c7
 have ⟨d0,d1,d2,d3⟩ := cs4 hR
 have ld := aB hR
 try simp at d0 d1 d2 d3
 have hrd : RdAt (w.alloc (.cells #[.int .u8 rf, .int .i32 rc, .int .i64 rn, .int .i64 rneed] 176)) w.heap.size b := ⟨rf, rc, rn, rneed, aZ _ _, hRn, hRb⟩
 have hT1 : Touch [] w (w.alloc (.cells #[.int .u8 rf, .int .i32 rc, .int .i64 rn, .int .i64 rneed] 176)) := (Touch.refl _ _).alloc _
 clear hRn hRb hR h
 have hrp := fT _ b x _ hrd ok hw
 rw [hof] at hrp
 clear hof
 generalize x.toNat = y at *
 clear hw ok
 refine aA Tryz.func88 rfl ?_
 intro Q_ hQ_
 simp only [Tryz.ntmps88, ents_, Nat.reduceAdd, Nat.reduceSub]
 go_wp2_with fail
 refine hrp.mono ?_
 rintro e w1 ⟨rfl, hq1, ht1⟩
 try go_simp
 have hT : Touch [] w w1 := Touch.step hT1 ht1 (fun k hk => .inr (by simp at hk; omega))
 clear c0 c1 c2 c3 c4 c5 c6 c7 f0 f1 f2 f3 f4 f5 f6 f7 lb d0 d1 d2 d3 ld hrp ht1
 have hA1 := hT.keep h0 (by simp)
 have hA2 := hA1
 have ⟨c0,c1,c2,c3,c4,c5,c6,c7⟩ := cs8 hA2
 have ⟨f0,f1,f2,f3,f4,f5,f6,f7⟩ := fs8 hA2
 have lb := aB hA2
 try simp [StrC] at c0 c1 c2 c3 c4 c5 c6 c7
 go_wp2
 refine hQ_.ret (results_tmp2 rfl _ _ _) rfl ?_
 exact ⟨rfl, aF hA1 7 _, (hT.mono (by simp)).setCell (by simp) _⟩
theorem tZ (p r n at_ u many high : Nat) (over : Bool) (tv : Value) (w : World) (h : bG w p tv n r at_ u many high over) (hr : RdAt w r []) :
 Calls Tryz.prog 88 #[.pointer (some ⟨p, 0, none⟩), .int .u8 92] w fun e w' => e = .returned (.tuple #[.bool false, .int .i64 0]) ∧ bG w' p tv n r 1 u many high over ∧ Touch [p] w w' := by
 obtain ⟨x, hxx⟩ : ∃ x : UInt8, x = 92 := ⟨_, rfl⟩
 have hx : 32 ≤ x.toNat := by rw [hxx]; decide
 obtain ⟨b, hb⟩ : ∃ b : List UInt8, b = [] := ⟨_, rfl⟩
 rw [← hb] at hr
 have hw : Sq.how (b ++ [x]) = 2 := by rw [hb, hxx]; decide
 have hof : Sq.of (b ++ [x]) = 92 := by rw [hb, hxx]; rfl
 have ok : b = [] ∨ Sq.how b = 1 := .inl hb
 have t2 : ((x.toNat : Int) == 34) = false := by rw [hxx]; rfl
 have t3 : ((x.toNat : Int) == 92) = true := by rw [hxx]; rfl
 have t4 : ((x.toNat : Int) != 92) = false := by rw [hxx]; rfl
 have t0 : (92 : Int) = (x.toNat : Int) := by rw [hxx]; rfl
 rw [t0]
 clear t0 hxx hb
 cases t1 : ((high : Int) != 0)
 all_goals
  obtain ⟨rf, rc, rn, rneed, hR, hRn, hRb⟩ := hr
  have hR0 := hR
  have hlt : ¬ (x.toNat : Int) < 32 := by omega
  have h0 := h
  unfold bG at h
  have ⟨c0,c1,c2,c3,c4,c5,c6,c7⟩ := cs8 h
  have ⟨f0,f1,f2,f3,f4,f5,f6,f7⟩ := fs8 h
  have lb := aB h
  try simp [StrC] at c0 c1 c2 c3 c4 c5 c6 c7
  have ⟨d0,d1,d2,d3⟩ := cs4 hR
  have ld := aB hR
  try simp at d0 d1 d2 d3
  have hrd : RdAt (w.alloc (.cells #[.int .u8 rf, .int .i32 rc, .int .i64 rn, .int .i64 rneed] 176)) w.heap.size b := ⟨rf, rc, rn, rneed, aZ _ _, hRn, hRb⟩
  have hT1 : Touch [] w (w.alloc (.cells #[.int .u8 rf, .int .i32 rc, .int .i64 rn, .int .i64 rneed] 176)) := (Touch.refl _ _).alloc _
  clear hRn hRb hR h
  have hrp := fT _ b x _ hrd ok hw
  rw [hof] at hrp
  clear hof
  generalize x.toNat = y at *
  clear hw ok
  refine aA Tryz.func88 rfl ?_
  intro Q_ hQ_
  simp only [Tryz.ntmps88, ents_, Nat.reduceAdd, Nat.reduceSub]
  go_wp2_with fail
  refine hrp.mono ?_
  rintro e w1 ⟨rfl, hq1, ht1⟩
  try go_simp
  have hT : Touch [] w w1 := Touch.step hT1 ht1 (fun k hk => .inr (by simp at hk; omega))
  clear c0 c1 c2 c3 c4 c5 c6 c7 f0 f1 f2 f3 f4 f5 f6 f7 lb d0 d1 d2 d3 ld hrp ht1
  have hA1 := hT.keep h0 (by simp)
  have hA2 := hA1
  have ⟨c0,c1,c2,c3,c4,c5,c6,c7⟩ := cs8 hA2
  have ⟨f0,f1,f2,f3,f4,f5,f6,f7⟩ := fs8 hA2
  have lb := aB hA2
  try simp [StrC] at c0 c1 c2 c3 c4 c5 c6 c7
  go_wp2
  refine hQ_.ret (results_tmp2 rfl _ _ _) rfl ?_
  exact ⟨rfl, aF hA1 3 _, (hT.mono (by simp)).setCell (by simp) _⟩
theorem tX (p r n at_ u many : Nat) (over : Bool) (tv : Value) (b : List UInt8) (x : UInt8) (w : World) (h : bG w p tv n r at_ u many 0 over) (hr : RdAt w r b) (ok : b = [] ∨ Sq.how b = 1) (hx : 32 ≤ x.toNat) (hw : Sq.how (b ++ [x]) = 2) (h34 : x ≠ 34) (h92 : x ≠ 92) (hc : Sq.of (b ++ [x]) < 2147483648) (hn : Sq.non (Sq.of (b ++ [x])) = true) :
 Calls Tryz.prog 88 #[.pointer (some ⟨p, 0, none⟩), .int .u8 x.toNat] w fun e w' => e = .returned (.tuple #[.bool false, .int .i64 6]) ∧ Touch [] w w' := by
 have t2 : ((x.toNat : Int) == 34) = false := by
  rw [beq_eq_false_iff_ne]
  exact fun q => h34 (UInt8.toNat_inj.1 (by have : (34 : UInt8).toNat = 34 := rfl; omega))
 have t3 : ((x.toNat : Int) == 92) = false := by
  rw [beq_eq_false_iff_ne]
  exact fun q => h92 (UInt8.toNat_inj.1 (by have : (92 : UInt8).toNat = 92 := rfl; omega))
 have hno := fun w => hI (Sq.of (b ++ [x]) : Int) (by omega) (by omega) w
 simp only [Int.toNat_natCast] at hno
 rw [hn] at hno
 obtain ⟨high, hhi⟩ : ∃ k : Nat, k = 0 := ⟨_, rfl⟩
 have t1 : ((high : Int) != 0) = false := by simp [hhi]
 rw [← hhi] at h
 clear hhi h34 h92 hn hc
 obtain ⟨rf, rc, rn, rneed, hR, hRn, hRb⟩ := hr
 have hR0 := hR
 have hlt : ¬ (x.toNat : Int) < 32 := by omega
 have h0 := h
 unfold bG at h
 have ⟨c0,c1,c2,c3,c4,c5,c6,c7⟩ := cs8 h
 have ⟨f0,f1,f2,f3,f4,f5,f6,f7⟩ := fs8 h
 have lb := aB h
 try simp [StrC] at c0 c1 c2 c3 c4 c5 c6 c7
 have ⟨d0,d1,d2,d3⟩ := cs4 hR
 have ld := aB hR
 try simp at d0 d1 d2 d3
 have hrd : RdAt (w.alloc (.cells #[.int .u8 rf, .int .i32 rc, .int .i64 rn, .int .i64 rneed] 176)) w.heap.size b := ⟨rf, rc, rn, rneed, aZ _ _, hRn, hRb⟩
 have hT1 : Touch [] w (w.alloc (.cells #[.int .u8 rf, .int .i32 rc, .int .i64 rn, .int .i64 rneed] 176)) := (Touch.refl _ _).alloc _
 clear hRn hRb hR h
 have hrp := fT _ b x _ hrd ok hw
 generalize (Sq.of (b ++ [x]) : Int) = cc at *
 generalize x.toNat = y at *
 clear hw ok
 refine aA Tryz.func88 rfl ?_
 intro Q_ hQ_
 simp only [Tryz.ntmps88, ents_, Nat.reduceAdd, Nat.reduceSub]
 go_wp2_with fail
 refine hrp.mono ?_
 rintro e w1 ⟨rfl, hq1, ht1⟩
 try go_simp
 have hT : Touch [] w w1 := Touch.step hT1 ht1 (fun k hk => .inr (by simp at hk; omega))
 clear c0 c1 c2 c3 c4 c5 c6 c7 f0 f1 f2 f3 f4 f5 f6 f7 lb d0 d1 d2 d3 ld hrp ht1
 have hA1 := hT.keep h0 (by simp)
 have hA2 := hA1
 have ⟨c0,c1,c2,c3,c4,c5,c6,c7⟩ := cs8 hA2
 have ⟨f0,f1,f2,f3,f4,f5,f6,f7⟩ := fs8 hA2
 have lb := aB hA2
 try simp [StrC] at c0 c1 c2 c3 c4 c5 c6 c7
 go_wp2_with fail
 refine (hno _).mono ?_
 rintro e w2 ⟨rfl, rfl⟩
 try go_simp
 go_wp2
 refine hQ_.ret (results_tmp2 rfl _ _ _) rfl ?_
 exact ⟨rfl, hT⟩
theorem qB (p r n at_ u many high : Nat) (over : Bool) (tv : Value) (b : List UInt8) (x : UInt8) (w : World) (h : bG w p tv n r at_ u many high over) (hhi : high = 0) (hr : RdAt w r b) (hpr : p ≠ r) (ok : b = [] ∨ Sq.how b = 1) (hx : 32 ≤ x.toNat) (hw : Sq.how (b ++ [x]) = 1) :
 Calls Tryz.prog 88 #[.pointer (some ⟨p, 0, none⟩), .int .u8 x.toNat] w fun e w' => e = .returned (.tuple #[.bool false, .int .i64 0]) ∧ bG w' p tv n r at_ u many high over ∧ RdAt w' r (b ++ [x]) ∧ Touch [r] w w' := by
 have t1 : ((high : Int) != 0) = false := by simp [hhi]
 clear hhi
 obtain ⟨rf, rc, rn, rneed, hR, hRn, hRb⟩ := hr
 have hR0 := hR
 have hlt : ¬ (x.toNat : Int) < 32 := by omega
 have h0 := h
 unfold bG at h
 have ⟨c0,c1,c2,c3,c4,c5,c6,c7⟩ := cs8 h
 have ⟨f0,f1,f2,f3,f4,f5,f6,f7⟩ := fs8 h
 have lb := aB h
 try simp [StrC] at c0 c1 c2 c3 c4 c5 c6 c7
 have ⟨d0,d1,d2,d3⟩ := cs4 hR
 have ld := aB hR
 try simp at d0 d1 d2 d3
 have hrd : RdAt (w.alloc (.cells #[.int .u8 rf, .int .i32 rc, .int .i64 rn, .int .i64 rneed] 176)) w.heap.size b := ⟨rf, rc, rn, rneed, aZ _ _, hRn, hRb⟩
 have hT1 : Touch [] w (w.alloc (.cells #[.int .u8 rf, .int .i32 rc, .int .i64 rn, .int .i64 rneed] 176)) := (Touch.refl _ _).alloc _
 clear hRn hRb hR h
 have hrp := pZ _ b x _ hrd ok hw
 generalize x.toNat = y at *
 clear hw ok
 go_enter Tryz.func88, Tryz.ntmps88
 go_wp2_with fail
 refine hrp.mono ?_
 rintro e w1 ⟨rfl, hq1, ht1⟩
 try go_simp
 have hT : Touch [] w w1 := Touch.step hT1 ht1 (fun k hk => .inr (by simp at hk; omega))
 clear c0 c1 c2 c3 c4 c5 c6 c7 f0 f1 f2 f3 f4 f5 f6 f7 lb d0 d1 d2 d3 ld hrp ht1
 have hA1 := hT.keep h0 (by simp)
 have hR1 := hT.keep hR0 (by simp)
 obtain ⟨f', c', n', need', hQ, hQn, hQb⟩ := hq1
 have ⟨d0,d1,d2,d3⟩ := cs4 hR1
 have ⟨g0,g1,g2,g3⟩ := fs4 hR1
 have ld := aB hR1
 try simp at d0 d1 d2 d3
 have ⟨mq0,mq1,mq2,mq3⟩ := cs4 hQ
 have lk := aB hQ
 try simp at mq0 mq1 mq2 mq3
 replace hQn := Box.mk hQn
 replace hQb := Box.mk hQb
 have hA2 := hA1
 have ⟨c0,c1,c2,c3,c4,c5,c6,c7⟩ := cs8 hA2
 have ⟨f0,f1,f2,f3,f4,f5,f6,f7⟩ := fs8 hA2
 have lb := aB hA2
 try simp [StrC] at c0 c1 c2 c3 c4 c5 c6 c7
 go_wp2_with fail
 go_region_with (fail)
 all_goals
  go_wp2
  refine bodyPost_ret (results_tmp2 rfl _ _ _) rfl ?_
  exact ⟨rfl, aU (aU (aU (aU hA1 hpr.symm _) hpr.symm _) hpr.symm _) hpr.symm _, ⟨f', c', n', need', aF (aF (aF (aF hR1 0 _) 1 _) 2 _) 3 _, hQn.out, hQb.out⟩, ((((Touch.drew (hT.mono (by simp))).setCell (by simp) _).setCell (by simp) _).setCell (by simp) _).setCell (by simp) _⟩
theorem mW (p r n at_ u many high : Nat) (over : Bool) (T : List UInt8) (tv : Value) (g : Option Nat) (b : List UInt8) (x : UInt8) (w : World) (h : bG w p tv n r at_ u many high over) (hhi : high = 0) (hr : RdAt w r b) (hpr : p ≠ r) (hs : SlAt w 5 1 tv T.length (bM T) g) (hg : ∀ k, g = some k → k ≠ p ∧ k ≠ r) (hTl : T.length ≤ 1000000) (hn : n ≤ 1000000) (ok : b = [] ∨ Sq.how b = 1) (hx : 32 ≤ x.toNat) (hw : Sq.how (b ++ [x]) = 2) (h34 : x ≠ 34) (h92 : x ≠ 92) (hc : Sq.of (b ++ [x]) < 2147483648) (hnn : Sq.non (Sq.of (b ++ [x])) = false) :
 Calls Tryz.prog 88 #[.pointer (some ⟨p, 0, none⟩), .int .u8 x.toNat] w fun e w' => e = .returned (.tuple #[.bool false, .int .i64 0]) ∧ ∃ g' tv', bG w' p tv' (n + 1) r 0 u many 0 over ∧ SlAt w' 5 1 tv' (T ++ Sq.enc (Sq.of (b ++ [x]))).length (bM (T ++ Sq.enc (Sq.of (b ++ [x])))) g' ∧ RdAt w' r [] ∧ cK w g g' ∧ Touch (p :: r :: g.toList) w w' := by
 have t2 : ((x.toNat : Int) == 34) = false := by
  rw [beq_eq_false_iff_ne]
  exact fun q => h34 (UInt8.toNat_inj.1 (by have : (34 : UInt8).toNat = 34 := rfl; omega))
 have t3 : ((x.toNat : Int) == 92) = false := by
  rw [beq_eq_false_iff_ne]
  exact fun q => h92 (UInt8.toNat_inj.1 (by have : (92 : UInt8).toNat = 92 := rfl; omega))
 have hno := fun w => hI (Sq.of (b ++ [x]) : Int) (by omega) (by omega) w
 simp only [Int.toNat_natCast] at hno
 rw [hnn] at hno
 have t1 : ((high : Int) != 0) = false := by simp [hhi]
 have hsay := fun W hW hS => nS p r n at_ u many high over T tv g (Sq.of (b ++ [x]) : Int) (by omega) W hW hS (fun k hk => (hg k hk).1) hTl hn
 simp only [Int.toNat_natCast] at hsay
 clear hhi h34 h92 hnn hc
 obtain ⟨rf, rc, rn, rneed, hR, hRn, hRb⟩ := hr
 have hR0 := hR
 have hlt : ¬ (x.toNat : Int) < 32 := by omega
 have h0 := h
 unfold bG at h
 have ⟨c0,c1,c2,c3,c4,c5,c6,c7⟩ := cs8 h
 have ⟨f0,f1,f2,f3,f4,f5,f6,f7⟩ := fs8 h
 have lb := aB h
 try simp [StrC] at c0 c1 c2 c3 c4 c5 c6 c7
 have ⟨d0,d1,d2,d3⟩ := cs4 hR
 have ld := aB hR
 try simp at d0 d1 d2 d3
 have hrd : RdAt (w.alloc (.cells #[.int .u8 rf, .int .i32 rc, .int .i64 rn, .int .i64 rneed] 176)) w.heap.size b := ⟨rf, rc, rn, rneed, aZ _ _, hRn, hRb⟩
 have hT1 : Touch [] w (w.alloc (.cells #[.int .u8 rf, .int .i32 rc, .int .i64 rn, .int .i64 rneed] 176)) := (Touch.refl _ _).alloc _
 clear hRn hRb hR h
 have hrp := fT _ b x _ hrd ok hw
 generalize Sq.enc (Sq.of (b ++ [x])) = EE at *
 generalize (Sq.of (b ++ [x]) : Int) = cc at *
 generalize x.toNat = y at *
 clear hw ok
 go_enter Tryz.func88, Tryz.ntmps88
 go_wp2_with fail
 refine hrp.mono ?_
 rintro e w1 ⟨rfl, hq1, ht1⟩
 try go_simp
 have hT : Touch [] w w1 := Touch.step hT1 ht1 (fun k hk => .inr (by simp at hk; omega))
 clear c0 c1 c2 c3 c4 c5 c6 c7 f0 f1 f2 f3 f4 f5 f6 f7 lb d0 d1 d2 d3 ld hrp ht1
 have hA1 := hT.keep h0 (by simp)
 have hA2 := hA1
 have ⟨c0,c1,c2,c3,c4,c5,c6,c7⟩ := cs8 hA2
 have ⟨f0,f1,f2,f3,f4,f5,f6,f7⟩ := fs8 hA2
 have lb := aB hA2
 try simp [StrC] at c0 c1 c2 c3 c4 c5 c6 c7
 go_wp2_with fail
 refine (hno _).mono ?_
 rintro e w2 ⟨rfl, rfl⟩
 try go_simp
 clear c0 c1 c2 c3 c4 c5 c6 c7 f0 f1 f2 f3 f4 f5 f6 f7 lb hA2
 go_wp2_with fail
 refine (hsay _ hA1 (hs.keep hT (by simp))).mono ?_
 rintro e w3 ⟨rfl, g', tv', k1, k2, k3, k4⟩
 try go_simp
 have hq2 := hq1.keep k4 (fun q => by
  rw [List.mem_cons] at q
  rcases q with q | q
  · have := aB h0; omega
  · cases g with
    | none => simp at q
    | some j => simp at q; have := hs.lt rfl; omega)
 have hrk : r ∉ p :: g.toList := fun q => by
  rw [List.mem_cons] at q
  rcases q with q | q
  · exact hpr q.symm
  · cases g with
    | none => simp at q
    | some j => simp at q; exact (hg j rfl).2 q.symm
 have hR1 := k4.keep (hT.keep hR0 (by simp)) hrk
 have hT3 : Touch (p :: r :: g.toList) w w3 := (hT.mono (by simp)).trans (k4.mono (fun y hy => .inl (by simp at hy ⊢; rcases hy with hy | hy <;> simp [hy])))
 have hgr : ∀ k, g' = some k → k ≠ r := bX k3 (fun k hk => (hg k hk).2) (hT.lt (aB hR0))
 have hN := cE k3 hT.size
 obtain ⟨f', c', n', need', hQ, hQn, hQb⟩ := hq2
 clear hq1 hA1 k3 k4 hsay hT
 have k5 := k1
 unfold bG at k5
 have ⟨c0,c1,c2,c3,c4,c5,c6,c7⟩ := cs8 k5
 have ⟨f0,f1,f2,f3,f4,f5,f6,f7⟩ := fs8 k5
 have lb := aB k5
 try simp [StrC] at c0 c1 c2 c3 c4 c5 c6 c7
 have ⟨d0,d1,d2,d3⟩ := cs4 hR1
 have ⟨g0,g1,g2,g3⟩ := fs4 hR1
 have ld := aB hR1
 try simp at d0 d1 d2 d3
 have ⟨mq0,mq1,mq2,mq3⟩ := cs4 hQ
 have lk := aB hQ
 try simp at mq0 mq1 mq2 mq3
 replace hQn := Box.mk hQn
 replace hQb := Box.mk hQb
 go_wp2_with fail
 go_region_with (fail)
 all_goals
  go_wp2
  refine bodyPost_ret (results_tmp2 rfl _ _ _) rfl ?_
  have hm : ∀ (W : World) (i : Nat) (v : Value), SlAt W 5 1 tv' (T ++ EE).length (bM (T ++ EE)) g' → SlAt (W.setCell ⟨r, i, none⟩ v) 5 1 tv' (T ++ EE).length (bM (T ++ EE)) g' := fun W i v h => h.keep (Touch.setCell (F := [r]) (Touch.refl _ _) (p := ⟨r, i, none⟩) (by simp) _) (fun k hk => by simpa using hgr k hk)
  exact ⟨rfl, g', tv', aU (aU (aU (aU k1 hpr.symm _) hpr.symm _) hpr.symm _) hpr.symm _, (hm _ _ _ (hm _ _ _ (hm _ _ _ (hm _ _ _ k2)))).keep (Touch.drew (Touch.refl [] _)) (fun _ _ => by simp), ⟨f', c', n', need', aF (aF (aF (aF hR1 0 _) 1 _) 2 _) 3 _, hQn.out, hQb.out⟩, hN, ((((Touch.drew hT3).setCell (by simp) _).setCell (by simp) _).setCell (by simp) _).setCell (by simp) _⟩
end Go.Proofs.YthdncmagfgoboaaGreatDoor
end

section
namespace Go.Proofs.YthdncmagfgoboaaGreatDoor
open Go.RowKit
set_option maxRecDepth 100000
set_option maxHeartbeats 8000000
structure StrF (w : World) (p : Nat) (s : Sq.St) (g : Option Nat) (tv : Value) (r : Nat) : Prop where
 sc : ∃ u many : Nat, bG w p tv s.out.length r s.esc u many s.wait s.over ∧ (s.esc = 2 → u = Sq.val s.hx ∧ many = s.hx.length)
 st : SlAt w 5 1 tv (Sq.text s.out).length (bM (Sq.text s.out)) g
 sr : RdAt w r s.b
 sg : ∀ k, g = some k → k ≠ p ∧ k ≠ r
 sp : p ≠ r
theorem StrF.lt {w : World} {p : Nat} {s : Sq.St} {g : Option Nat} {tv : Value} {r : Nat} (h : StrF w p s g tv r) : p < w.heap.size := by
 obtain ⟨u, m, h1, _⟩ := h.sc
 exact aB h1
theorem StrF.keep {w w' : World} {F : List Nat} {p : Nat} {s : Sq.St} {g : Option Nat} {tv : Value} {r : Nat} (h : StrF w p s g tv r) (ht : Touch F w w') (hp : p ∉ F) (hr : r ∉ F) (hg : ∀ k, g = some k → k ∉ F) : StrF w' p s g tv r := by
 obtain ⟨u, m, h1, h2⟩ := h.sc
 exact ⟨⟨u, m, ht.keep h1 hp, h2⟩, h.st.keep ht hg, h.sr.keep ht hr, h.sg, h.sp⟩
theorem lU {w : World} {o : Obj} {k : Nat} (hk : k = w.heap.size) : (w.alloc o).heap[k]? = some o := by subst hk; exact aZ w o
theorem vE (w : World) : Calls Tryz.prog 85 #[] w fun e w' => (∃ p r, e = .returned (.pointer (some ⟨p, 0, none⟩)) ∧ w.heap.size ≤ p ∧ w.heap.size ≤ r ∧ StrF w' p Sq.start none (.slice none 0 0) r) ∧ Touch [] w w' := by
 refine aA Tryz.func85 rfl ?_
 intro Q_ hQ_
 simp only [Tryz.ntmps85, ents_, Nat.reduceAdd, Nat.reduceSub]
 go_wp2
 refine hQ_.ret (results_tmp rfl _ _ _) rfl ?_
 exact ⟨⟨w.heap.size + 1, w.heap.size, rfl, Nat.le_succ _, Nat.le_refl _, ⟨⟨0, 0, lU (by simp), fun q => by cases q⟩, SlAt.nil _ _ _, ⟨0, 0, 0, 0, aW (aZ _ _) _, rfl, fun _ _ q => by cases q⟩, fun k q => (by cases q), Nat.succ_ne_self _⟩⟩, ((Touch.refl _ _).alloc _).alloc _⟩
theorem tT (p r n at_ u many high : Nat) (tv : Value) (x : Int) (w : World) (h : bG w p tv n r at_ u many high true) :
 Calls Tryz.prog 55 #[.pointer (some ⟨p, 0, none⟩), .int .u8 x] w fun e w' => e = .returned (.tuple #[.bool false, .int .i64 2]) ∧ w = w' := by
 unfold bG at h
 have ⟨c0,c1,c2,c3,c4,c5,c6,c7⟩ := cs8 h
 have ⟨f0,f1,f2,f3,f4,f5,f6,f7⟩ := fs8 h
 have lb := aB h
 try simp [StrC] at c0 c1 c2 c3 c4 c5 c6 c7
 refine aA Tryz.func55 rfl ?_
 intro Q_ hQ_
 simp only [Tryz.ntmps55, ents_, Nat.reduceAdd, Nat.reduceSub]
 go_wp2
 refine hQ_.ret (results_tmp2 rfl _ _ _) rfl ?_
 exact ⟨rfl, rfl⟩
theorem gS (p r n at_ u many high : Nat) (tv : Value) (x : Int) (k : Int) (R : World → Prop) (w : World) (h : bG w p tv n r at_ u many high false) (ha : at_ = 1)
 (hE : Calls Tryz.prog 86 #[.pointer (some ⟨p, 0, none⟩), .int .u8 x] w fun e w' => e = .returned (.int .i64 k) ∧ R w') :
 Calls Tryz.prog 55 #[.pointer (some ⟨p, 0, none⟩), .int .u8 x] w fun e w' => e = .returned (.tuple #[.bool false, .int .i64 k]) ∧ R w' := by
 have e1 : ((at_ : Int) == 1) = true := by simp [ha]
 clear ha
 unfold bG at h
 have ⟨c0,c1,c2,c3,c4,c5,c6,c7⟩ := cs8 h
 have ⟨f0,f1,f2,f3,f4,f5,f6,f7⟩ := fs8 h
 have lb := aB h
 try simp [StrC] at c0 c1 c2 c3 c4 c5 c6 c7
 refine aA Tryz.func55 rfl ?_
 intro Q_ hQ_
 simp only [Tryz.ntmps55, ents_, Nat.reduceAdd, Nat.reduceSub]
 go_wp2_with fail
 refine hE.mono ?_
 rintro e w1 ⟨rfl, hR⟩
 try go_simp
 go_wp2
 refine hQ_.ret (results_tmp2 rfl _ _ _) rfl ?_
 exact ⟨rfl, hR⟩
theorem iV (p r n at_ u many high : Nat) (tv : Value) (x : Int) (k : Int) (R : World → Prop) (w : World) (h : bG w p tv n r at_ u many high false) (ha : at_ = 2)
 (hE : Calls Tryz.prog 87 #[.pointer (some ⟨p, 0, none⟩), .int .u8 x] w fun e w' => e = .returned (.int .i64 k) ∧ R w') :
 Calls Tryz.prog 55 #[.pointer (some ⟨p, 0, none⟩), .int .u8 x] w fun e w' => e = .returned (.tuple #[.bool false, .int .i64 k]) ∧ R w' := by
 have e1 : ((at_ : Int) == 1) = false := by simp [ha]
 have e2 : ((at_ : Int) == 2) = true := by simp [ha]
 clear ha
 unfold bG at h
 have ⟨c0,c1,c2,c3,c4,c5,c6,c7⟩ := cs8 h
 have ⟨f0,f1,f2,f3,f4,f5,f6,f7⟩ := fs8 h
 have lb := aB h
 try simp [StrC] at c0 c1 c2 c3 c4 c5 c6 c7
 refine aA Tryz.func55 rfl ?_
 intro Q_ hQ_
 simp only [Tryz.ntmps55, ents_, Nat.reduceAdd, Nat.reduceSub]
 go_wp2_with fail
 refine hE.mono ?_
 rintro e w1 ⟨rfl, hR⟩
 try go_simp
 go_wp2
 refine hQ_.ret (results_tmp2 rfl _ _ _) rfl ?_
 exact ⟨rfl, hR⟩
theorem cO (p r n at_ u many high : Nat) (tv : Value) (x : Int) (o : Bool) (k : Int) (R : World → Prop) (w : World) (h : bG w p tv n r at_ u many high false) (ha : at_ = 0)
 (hE : Calls Tryz.prog 88 #[.pointer (some ⟨p, 0, none⟩), .int .u8 x] w fun e w' => e = .returned (.tuple #[.bool o, .int .i64 k]) ∧ R w') :
 Calls Tryz.prog 55 #[.pointer (some ⟨p, 0, none⟩), .int .u8 x] w fun e w' => e = .returned (.tuple #[.bool o, .int .i64 k]) ∧ R w' := by
 have e1 : ((at_ : Int) == 1) = false := by simp [ha]
 have e2 : ((at_ : Int) == 2) = false := by simp [ha]
 clear ha
 unfold bG at h
 have ⟨c0,c1,c2,c3,c4,c5,c6,c7⟩ := cs8 h
 have ⟨f0,f1,f2,f3,f4,f5,f6,f7⟩ := fs8 h
 have lb := aB h
 try simp [StrC] at c0 c1 c2 c3 c4 c5 c6 c7
 refine aA Tryz.func55 rfl ?_
 intro Q_ hQ_
 simp only [Tryz.ntmps55, ents_, Nat.reduceAdd, Nat.reduceSub]
 go_wp2_with fail
 refine hE.mono ?_
 rintro e w1 ⟨rfl, hR⟩
 try go_simp
 go_wp2
 refine hQ_.ret (results_tmp2 rfl _ _ _) rfl ?_
 exact ⟨rfl, hR⟩
theorem rF (p : Nat) (s : Sq.St) (g : Option Nat) (tv : Value) (r : Nat) (w : World) (h : StrF w p s g tv r) : Calls Tryz.prog 42 #[.pointer (some ⟨p, 0, none⟩)] w fun e w' => e = .returned (.int .i64 s.out.length) ∧ w = w' := by
 obtain ⟨u, m, h1, _⟩ := h.sc
 unfold bG at h1
 have ⟨c0,c1,c2,c3,c4,c5,c6,c7⟩ := cs8 h1
 have ⟨f0,f1,f2,f3,f4,f5,f6,f7⟩ := fs8 h1
 have lb := aB h1
 try simp [StrC] at c0 c1 c2 c3 c4 c5 c6 c7
 refine aA Tryz.func42 rfl ?_
 intro Q_ hQ_
 simp only [Tryz.ntmps42, ents_, Nat.reduceAdd, Nat.reduceSub]
 go_wp2
 refine hQ_.ret (results_tmp rfl _ _ _) rfl ?_
 exact ⟨rfl, rfl⟩
theorem pH (p : Nat) (s : Sq.St) (g : Option Nat) (tv : Value) (r : Nat) (w : World) (h : StrF w p s g tv r) : Calls Tryz.prog 56 #[.pointer (some ⟨p, 0, none⟩)] w fun e w' => e = .returned (.string (str (Sq.text s.out))) ∧ w = w' := by
 obtain ⟨u, m, h1, _⟩ := h.sc
 have hs := h.st
 generalize Sq.text s.out = T at *
 obtain ⟨A, C, rfl, hC1, hC2, _⟩ := hs.form
 have hcv := iZ hs
 unfold bG at h1
 have ⟨c0,c1,c2,c3,c4,c5,c6,c7⟩ := cs8 h1
 have ⟨f0,f1,f2,f3,f4,f5,f6,f7⟩ := fs8 h1
 have lb := aB h1
 try simp [StrC] at c0 c1 c2 c3 c4 c5 c6 c7
 refine aA Tryz.func56 rfl ?_
 intro Q_ hQ_
 simp only [Tryz.ntmps56, ents_, Nat.reduceAdd, Nat.reduceSub]
 go_wp2
 refine hQ_.ret (results_tmp rfl _ _ _) rfl ?_
 exact ⟨rfl, rfl⟩
theorem gJ {b : List UInt8} (h : Sq.how b ≠ 0) : Sq.how b = 1 ∨ Sq.how b = 2 := by
 cases b with
 | nil => exact absurd rfl h
 | cons f l =>
  rw [Sq.how_cons] at h ⊢
  repeat' split at h
  all_goals first | exact absurd rfl h | skip
  · rename_i h1 h2 h3 h4; rw [if_neg h1, if_neg h2, if_neg h3, if_pos h4]; exact .inr rfl
  · rename_i h1 h2 h3 h4; rw [if_neg h1, if_neg h2, if_neg h3, if_neg h4]; exact .inl rfl
theorem gK {b : List UInt8} {x : UInt8} (ok : b = [] ∨ Sq.how b = 1) (hb : 0 < b.length) (hx : x.toNat < 128) : Sq.how (b ++ [x]) = 0 := by
 rcases ok with rfl | ok
 · simp at hb
 · cases b with
   | nil => cases ok
   | cons f l =>
    rw [List.cons_append, Sq.how_snoc f l x ok, if_pos]
    unfold Sq.okAt Sq.tailB
    simp
    intro _ _
    omega
theorem qE {b : List UInt8} (h : Sq.how b = 2) : Sq.of b < 2147483648 := by
 cases b with
 | nil => cases h
 | cons f l =>
  have hl : Sq.long f.toNat = l.length + 1 ∧ l.length ≤ 3 := by
   have h4 := Sq.long_le f.toNat
   rw [Sq.how_cons] at h
   split at h; · cases h
   split at h; · cases h
   split at h; · cases h
   split at h
   · rename_i h5; exact ⟨h5, by omega⟩
   · cases h
  show Sq.cum (f.toNat - Sq.base (l.length + 1)) l < _
  have hf := f.toNat_lt
  by_cases h0 : l = []
  · subst h0; simp [Sq.cum]; omega
  · have h1 : 0 < l.length := List.length_pos_iff.2 h0
    have h6 : f.toNat - Sq.base (l.length + 1) < 32 := by
     rcases Sq.long_two (x := f.toNat) hl.1 (by omega) with ⟨_, h8, h9, h10⟩ | ⟨_, h8, h9, h10⟩ | ⟨_, h8, h9, h10⟩ <;> rw [h10] <;> omega
    have h7 := Sq.cum_lt (l := l) h6
    have h8 : 64 ^ l.length ≤ 64 ^ 3 := Nat.pow_le_pow_right (by decide) hl.2
    omega
theorem hex_low {x : UInt8} (h : x.toNat < 32) : Sq.hex x = none := by unfold Sq.hex; rw [if_neg (by omega), if_neg (by omega), if_neg (by omega)]
theorem kP {x : UInt8} (h : x.toNat < 32) : Sq.simple x = none ∧ x ≠ 117 := by
 have key : ∀ n : Fin 32, Sq.simple (UInt8.ofNat n.val) = none ∧ UInt8.ofNat n.val ≠ 117 := by decide
 have := key ⟨x.toNat, h⟩
 simpa using this
theorem val_lt (l : List Nat) (h : ∀ k ∈ l, k < 16) (hl : l.length ≤ 3) : Sq.val l < 4096 := by
 match l, hl with
 | [], _ => simp [Sq.val]
 | [a], _ => have := h a (by simp); simp [Sq.val]; omega
 | [a, b], _ => have := h a (by simp); have := h b (by simp); simp [Sq.val]; omega
 | [a, b, c], _ => have := h a (by simp); have := h b (by simp); have := h c (by simp); simp [Sq.val]; omega
theorem pI (p : Nat) (s : Sq.St) (g : Option Nat) (tv : Value) (r : Nat) (x : UInt8) (k : Nat) (w : World) (h : StrF w p s g tv r) (ok : Sq.Ok s) (hp : Sq.push s x = .error k) :
 Calls Tryz.prog 55 #[.pointer (some ⟨p, 0, none⟩), .int .u8 x.toNat] w fun e w' => e = .returned (.tuple #[.bool false, .int .i64 k]) ∧ Touch [] w w' := by
 obtain ⟨u, m, h1, h2⟩ := h.sc
 have hR := h.sr
 unfold Sq.push at hp
 cases hov : s.over with
 | true =>
  rw [hov] at h1
  rw [hov, if_pos (.inl rfl)] at hp
  injection hp with hp
  subst hp
  exact (tT p r _ _ u m _ tv _ w h1).mono fun e w' q => ⟨q.1, q.2 ▸ Touch.refl _ _⟩
 | false =>
 rw [hov] at h1 hp
 have h2' := ok.esc
 by_cases hx : x.toNat < 32
 · rw [if_pos (.inr hx)] at hp
   injection hp with hp
   subst hp
   obtain he | he | he : s.esc = 0 ∨ s.esc = 1 ∨ s.esc = 2 := by omega
   · exact cO p r _ _ u m _ tv _ false 2 (Touch [] w) w h1 he ((tY p x w hx).mono fun e w' q => ⟨q.1, q.2 ▸ Touch.refl _ _⟩)
   · exact gS p r _ _ u m _ tv _ 2 (Touch [] w) w h1 he (sZ p r _ _ u m _ false tv x w h1 (kP hx).1 (kP hx).2)
   · exact iV p r _ _ u m _ tv _ 2 (Touch [] w) w h1 he ((lQ p x w (hex_low hx)).mono fun e w' q => ⟨q.1, q.2 ▸ Touch.refl _ _⟩)
 rw [if_neg (by simp; omega)] at hp
 split at hp
 · rename_i he
   cases hd : Sq.digits s x with
   | ok s' => rw [hd] at hp; cases hp
   | error k' =>
    rw [hd] at hp
    injection hp with hp
    subst hp
    refine iV p r _ _ u m _ tv _ _ (Touch [] w) w h1 he ?_
    cases hk : Sq.hex x with
    | none =>
     unfold Sq.digits at hd
     rw [hk] at hd
     injection hd with hd
     subst hd
     exact (lQ p x w hk).mono fun e w' q => ⟨q.1, q.2 ▸ Touch.refl _ _⟩
    | some kx =>
     obtain ⟨hu, hm⟩ := h2 he
     rw [Sq.digits_eq s x kx ok hk] at hd
     have hv := val_lt s.hx ok.hx.2 ok.hx.1
     split at hd
     · rename_i hw
       injection hd with hd
       refine oT p r _ _ u m _ false tv x kx k' w h1 hk (by omega) (by have := ok.hx.1; omega) ?_ (by rw [← hd]; exact hw)
       rw [hu, hm, hd]
     repeat' split at hd
     all_goals cases hd
 split at hp
 · rename_i he
   cases hd : Sq.escape s x with
   | ok s' => rw [hd] at hp; cases hp
   | error k' =>
    rw [hd] at hp
    injection hp with hp
    subst hp
    refine gS p r _ _ u m _ tv _ _ (Touch [] w) w h1 he ?_
    unfold Sq.escape at hd
    split at hd
    · cases hd
    · rename_i hx117
      split at hd
      · rename_i hsi
        injection hd with hd
        subst hd
        exact sZ p r _ _ u m _ false tv x w h1 hsi hx117
      · rename_i c hsi
        split at hd
        · rename_i hwt
          injection hd with hd
          subst hd
          exact esc_sur p r _ _ u m _ false tv x c w h1 hsi (by omega)
        · cases hd
 have he : s.esc = 0 := by omega
 split at hp
 · rename_i hb
   cases hd : Sq.bytes s x with
   | ok s' => rw [hd] at hp; cases hp
   | error k' =>
    rw [hd] at hp
    injection hp with hp
    subst hp
    unfold Sq.bytes at hd
    split at hd
    · rename_i hw
      injection hd with hd
      subst hd
      exact cO p r _ _ u m _ tv _ false 4 (Touch [] w) w h1 he (tW p r _ _ u m _ false tv s.b x w h1 hR ok.b (by omega) hw)
    · rename_i hw
      have hw2 : Sq.how (s.b ++ [x]) = 1 ∨ Sq.how (s.b ++ [x]) = 2 := gJ hw
      have h92 : x ≠ 92 := fun q => by
       subst q
       rcases hb with hb | hb
       · exact hw (gK ok.b hb (by decide))
       · exact absurd hb (by decide)
      split at hd
      · rename_i hwt
        injection hd with hd
        subst hd
        exact cO p r _ _ u m _ tv _ false 5 (Touch [] w) w h1 he (mV p r _ _ u m _ false tv s.b x w h1 hR ok.b (by omega) hw2 (by omega) h92)
      · rename_i hwt
        split at hd
        · cases hd
        · rename_i hn1
          split at hd
          · rename_i hnn
            injection hd with hd
            subst hd
            have h34 : x ≠ 34 := fun q => by
             subst q
             rcases hb with hb | hb
             · exact hw (gK ok.b hb (by decide))
             · exact absurd hb (by decide)
            have hwt0 : s.wait = 0 := by omega
            rw [hwt0] at h1
            exact cO p r _ _ u m _ tv _ false 6 (Touch [] w) w h1 he (tX p r _ _ u m false tv s.b x w h1 hR ok.b (by omega) (hw2.resolve_left hn1) h34 h92 (qE (hw2.resolve_left hn1)) hnn)
          · cases hd
 · rename_i hb
   have hb0 : s.b = [] := List.eq_nil_of_length_eq_zero (by omega)
   split at hp
   · cases hp
   · rename_i h92
     split at hp
     · rename_i hwt
       injection hp with hp
       subst hp
       rw [hb0] at hR
       exact cO p r _ _ u m _ tv _ false 5 (Touch [] w) w h1 he (mV p r _ _ u m _ false tv [] x w h1 hR (.inl rfl) (by omega) (.inr (by rw [List.nil_append, Sq.how_one, Sq.long_lt (by omega)]; rfl)) (by omega) h92)
     · split at hp <;> cases hp
theorem tF (l : List Nat) (c : Nat) : Sq.text (l ++ [c]) = Sq.text l ++ Sq.enc c := by rw [Sq.text_append]; simp [Sq.text]
theorem fR {w w' : World} {p r : Nat} {s : Sq.St} {g g' : Option Nat} {tv tv' : Value} (h : StrF w p s g tv r) {u' m' c : Nat} {b' : List UInt8} {hx' : List Nat} (k1 : bG w' p tv' (s.out.length + 1) r 0 u' m' 0 s.over) (k2 : SlAt w' 5 1 tv' (Sq.text s.out ++ Sq.enc c).length (bM (Sq.text s.out ++ Sq.enc c)) g') (k3 : RdAt w' r b') (k4 : cK w g g') :
 StrF w' p ⟨s.out ++ [c], b', 0, hx', 0, s.over⟩ g' tv' r := by
 refine ⟨⟨u', m', by simpa using k1, fun q => by cases q⟩, ?_, k3, fun k hk => ⟨bX k4 (fun k hk => (h.sg k hk).1) h.lt k hk, bX k4 (fun k hk => (h.sg k hk).2) h.sr.lt k hk⟩, h.sp⟩
 show SlAt w' 5 1 tv' (Sq.text (s.out ++ [c])).length (bM (Sq.text (s.out ++ [c]))) g'
 rw [tF]
 exact k2
theorem StrF.rp {w : World} {p r : Nat} {s : Sq.St} {g : Option Nat} {tv : Value} (h : StrF w p s g tv r) : r ∉ p :: g.toList := fun q => by
 rw [List.mem_cons] at q
 rcases q with q | q
 · exact h.sp q.symm
 · cases g with
   | none => simp at q
   | some j => simp at q; exact (h.sg j rfl).2 q.symm
theorem kM (p : Nat) (s s' : Sq.St) (o : Bool) (g : Option Nat) (tv : Value) (r : Nat) (x : UInt8) (w : World) (h : StrF w p s g tv r) (ok : Sq.Ok s) (hn : s.out.length ≤ 200000) (hp : Sq.push s x = .ok (s', o)) :
 Calls Tryz.prog 55 #[.pointer (some ⟨p, 0, none⟩), .int .u8 x.toNat] w fun e w' => e = .returned (.tuple #[.bool o, .int .i64 0]) ∧ ∃ g' tv', StrF w' p s' g' tv' r ∧ cK w g g' ∧ Touch (p :: r :: g.toList) w w' := by
 obtain ⟨u, m, h1, h2⟩ := h.sc
 have hR := h.sr
 have hS := h.st
 have hTl : (Sq.text s.out).length ≤ 1000000 := by have := Sq.text_len s.out; omega
 have hno : ∀ {w' : World}, Touch [p] w w' → Touch (p :: r :: g.toList) w w' := fun t => t.mono (fun k hk => .inl (by simp at hk; simp [hk]))
 have hpg : ∀ k, g = some k → k ∉ [p] := fun k hk q => (h.sg k hk).1 (by simpa using q)
 have hrp1 : r ∉ [p] := fun q => h.sp (List.mem_singleton.1 q).symm
 have hsame : ∀ {w' : World} {s1 : Sq.St} {u' m' : Nat}, Touch [p] w w' → s1.out = s.out → s1.b = s.b → bG w' p tv s1.out.length r s1.esc u' m' s1.wait s1.over → (s1.esc = 2 → u' = Sq.val s1.hx ∧ m' = s1.hx.length) → ∃ g' tv', StrF w' p s1 g' tv' r ∧ cK w g g' ∧ Touch (p :: r :: g.toList) w w' := fun {w' s1 u' m'} t e1 e2 k kk => by
  refine ⟨g, tv, ⟨⟨u', m', k, kk⟩, ?_, ?_, h.sg, h.sp⟩, .inl rfl, hno t⟩
  · rw [e1]; exact hS.keep t hpg
  · rw [e2]; exact hR.keep t hrp1
 unfold Sq.push at hp
 split at hp
 · cases hp
 rename_i hox
 have hov : s.over = false := by cases hq : s.over <;> simp [hq] at hox ⊢
 have hx : 32 ≤ x.toNat := by simp [hov] at hox; omega
 rw [hov] at h1
 have h2' := ok.esc
 split at hp
 · rename_i he
   cases hd : Sq.digits s x with
   | error k' => rw [hd] at hp; cases hp
   | ok s1 =>
    rw [hd] at hp
    injection hp with hp
    injection hp with hp1 hp2
    subst hp1 hp2
    obtain ⟨hu, hm⟩ := h2 he
    refine iV p r _ _ u m _ tv _ 0 _ w h1 he ?_
    cases hk : Sq.hex x with
    | none => unfold Sq.digits at hd; rw [hk] at hd; cases hd
    | some kx =>
     rw [Sq.digits_eq s x kx ok hk] at hd
     have hv := val_lt s.hx ok.hx.2 ok.hx.1
     have hhl := ok.hx.1
     rw [hu, hm] at h1
     split at hd
     · cases hd
     · rename_i hw
       have hw0 : Sq.pwrong s.wait (Sq.val s.hx * 16 + kx) (s.hx.length + 1) = 0 := by omega
       split at hd
       · rename_i h4
         injection hd with hd
         subst hd
         refine (qX p r _ _ _ _ _ false tv x kx w h1 hk hv (by omega) hw0).mono fun e w' q => ⟨q.1, ?_⟩
         refine hsame q.2.2 rfl rfl ?_ ?_ (u' := Sq.val s.hx * 16 + kx) (m' := s.hx.length + 1)
         · have := q.2.1
           simp only [hov]
           exact this
         · intro _
           exact ⟨(Sq.val_snoc _ _).symm, by simp⟩
       · rename_i h4
         have h3 : s.hx.length = 3 := by omega
         rw [h3] at h1 hw0
         split at hd
         · rename_i hjj
           injection hd with hd
           subst hd
           refine (lP p r _ _ _ _ false _ tv g x kx (Sq.join s.wait (Sq.val s.hx * 16 + kx)) w h1 hS (fun k hk => (h.sg k hk).1) hTl (by omega) hk hv hw0 (.inl ⟨by simpa using hjj, rfl⟩)).mono fun e w' q => ⟨q.1, ?_⟩
           obtain ⟨g', tv', u', m', k1, k2, k3, k4⟩ := q.2
           refine ⟨g', tv', ?_, k3, k4.mono (fun k hk => .inl (by simp at hk ⊢; rcases hk with hk | hk <;> simp [hk]))⟩
           have := fR h (by rw [hov]; exact k1) k2 (hR.keep k4 h.rp) k3 (hx' := [])
           exact this
         · rename_i hjj
           split at hd
           · rename_i hhi
             injection hd with hd
             subst hd
             refine (qY p r _ _ _ _ false tv x kx w h1 hk hv hw0 (by simpa using hjj) hhi).mono fun e w' q => ⟨q.1, ?_⟩
             obtain ⟨⟨u', m', k1⟩, k2⟩ := q.2
             refine hsame k2 rfl rfl ?_ (fun q => by cases q) (u' := u') (m' := m')
             simp only [hov]
             exact k1
           · rename_i hhi
             injection hd with hd
             subst hd
             refine (lP p r _ _ _ _ false _ tv g x kx (Sq.val s.hx * 16 + kx) w h1 hS (fun k hk => (h.sg k hk).1) hTl (by omega) hk hv hw0 (.inr ⟨by simpa using hjj, by simpa using hhi, rfl⟩)).mono fun e w' q => ⟨q.1, ?_⟩
             obtain ⟨g', tv', u', m', k1, k2, k3, k4⟩ := q.2
             refine ⟨g', tv', ?_, k3, k4.mono (fun k hk => .inl (by simp at hk ⊢; rcases hk with hk | hk <;> simp [hk]))⟩
             exact fR h (by rw [hov]; exact k1) k2 (hR.keep k4 h.rp) k3 (hx' := [])
 split at hp
 · rename_i he
   cases hd : Sq.escape s x with
   | error k' => rw [hd] at hp; cases hp
   | ok s1 =>
    rw [hd] at hp
    injection hp with hp
    injection hp with hp1 hp2
    subst hp1 hp2
    refine gS p r _ _ u m _ tv _ 0 _ w h1 he ?_
    unfold Sq.escape at hd
    split at hd
    · rename_i hx117
      injection hd with hd
      subst hd
      subst hx117
      refine (esc_u p r _ _ u m _ false tv w h1).mono fun e w' q => ⟨q.1, ?_⟩
      refine hsame q.2.2 rfl rfl ?_ (fun _ => ⟨by rw [show s.hx = [] from ok.he (by omega)]; rfl, by rw [show s.hx = [] from ok.he (by omega)]; rfl⟩) (u' := 0) (m' := 0)
      simp only [hov]
      exact q.2.1
    · rename_i hx117
      split at hd
      · cases hd
      · rename_i c hsi
        split at hd
        · cases hd
        · rename_i hwt
          injection hd with hd
          subst hd
          have hw0 : s.wait = 0 := by omega
          rw [hw0] at h1
          refine (esc_say p r _ _ u m false _ tv g x c w h1 hS (fun k hk => (h.sg k hk).1) hTl (by omega) hsi).mono fun e w' q => ⟨q.1, ?_⟩
          obtain ⟨g', tv', k1, k2, k3, k4⟩ := q.2
          refine ⟨g', tv', ?_, k3, k4.mono (fun k hk => .inl (by simp at hk ⊢; rcases hk with hk | hk <;> simp [hk]))⟩
          have := fR h (by rw [hov]; exact k1) k2 (hR.keep k4 h.rp) k3 (hx' := s.hx)
          simpa only [hw0] using this
 have he : s.esc = 0 := by omega
 rw [he] at h1
 have hwr1 : ∀ {w' : World}, Touch [] w w' → Touch (p :: r :: g.toList) w w' := fun t => t.mono (by simp)
 split at hp
 · rename_i hb
   cases hd : Sq.bytes s x with
   | error k' => rw [hd] at hp; cases hp
   | ok s1 =>
    rw [hd] at hp
    injection hp with hp
    injection hp with hp1 hp2
    subst hp1 hp2
    unfold Sq.bytes at hd
    split at hd
    · cases hd
    rename_i hw
    split at hd
    · cases hd
    rename_i hwt
    have hw0 : s.wait = 0 := by omega
    have h92 : x ≠ 92 := fun q => by
     subst q
     rcases hb with hb | hb
     · exact hw (gK ok.b hb (by decide))
     · exact absurd hb (by decide)
    have h34 : x ≠ 34 := fun q => by
     subst q
     rcases hb with hb | hb
     · exact hw (gK ok.b hb (by decide))
     · exact absurd hb (by decide)
    split at hd
    · rename_i hn1
      injection hd with hd
      subst hd
      refine cO p r _ _ u m _ tv _ false 0 _ w h1 rfl ?_
      refine (qB p r _ _ u m _ false tv s.b x w h1 hw0 hR h.sp ok.b hx hn1).mono fun e w' q => ⟨q.1, ?_⟩
      refine ⟨g, tv, ⟨⟨u, m, ?_, fun q => by rw [he] at q; cases q⟩, hS.keep q.2.2.2 (fun k hk qq => (h.sg k hk).2 (by simpa using qq)), q.2.2.1, h.sg, h.sp⟩, .inl rfl, q.2.2.2.mono (fun k hk => .inl (by simp at hk; simp [hk]))⟩
      simp only [hov, he]
      exact q.2.1
    · rename_i hn1
      have hw2 := (gJ hw).resolve_left hn1
      split at hd
      · cases hd
      rename_i hnn
      injection hd with hd
      subst hd
      refine cO p r _ _ u m _ tv _ false 0 _ w h1 rfl ?_
      refine (mW p r _ _ u m _ false _ tv g s.b x w h1 hw0 hR h.sp hS h.sg hTl (by omega) ok.b hx hw2 h34 h92 (qE hw2) (by simpa using hnn)).mono fun e w' q => ⟨q.1, ?_⟩
      obtain ⟨g', tv', k1, k2, k3, k4, k5⟩ := q.2
      refine ⟨g', tv', ?_, k4, k5⟩
      have := fR h (by rw [hov]; exact k1) k2 k3 k4 (hx' := s.hx)
      simpa only [hw0, he] using this
 · rename_i hb
   have hb0 : s.b = [] := List.eq_nil_of_length_eq_zero (by omega)
   have hx128 : x.toNat < 128 := by omega
   rw [hb0] at hR
   split at hp
   · rename_i h92
     injection hp with hp
     injection hp with hp1 hp2
     subst hp1 hp2 h92
     refine cO p r _ _ u m _ tv _ false 0 _ w h1 rfl ?_
     refine (tZ p r _ _ u m _ false tv w h1 hR).mono fun e w' q => ⟨q.1, ?_⟩
     refine hsame q.2.2 rfl rfl ?_ (fun q => by cases q) (u' := u) (m' := m)
     simp only [hov]
     exact q.2.1
   · rename_i h92
     split at hp
     · cases hp
     rename_i hwt
     have hw0 : s.wait = 0 := by omega
     split at hp
     · rename_i h34
       injection hp with hp
       injection hp with hp1 hp2
       subst hp1 hp2 h34
       refine cO p r _ _ u m _ tv _ true 0 _ w h1 rfl ?_
       refine (uA p r _ _ u m _ false tv w h1 hw0 hR).mono fun e w' q => ⟨q.1, ?_⟩
       refine hsame q.2.2 rfl rfl ?_ (fun q => by rw [he] at q; cases q) (u' := u) (m' := m)
       simp only [he]
       exact q.2.1
     · rename_i h34
       injection hp with hp
       injection hp with hp1 hp2
       subst hp1 hp2
       have hw2 : Sq.how ([] ++ [x]) = 2 := by rw [List.nil_append, Sq.how_one, Sq.long_lt hx128]; rfl
       have hof : Sq.of ([] ++ [x]) = x.toNat := rfl
       have hnon : Sq.non (Sq.of ([] ++ [x])) = false := by
        rw [hof]
        unfold Sq.non Sq.isS
        simp
        omega
       refine cO p r _ _ u m _ tv _ false 0 _ w h1 rfl ?_
       refine (mW p r _ _ u m _ false _ tv g [] x w h1 hw0 hR h.sp hS h.sg hTl (by omega) (.inl rfl) hx hw2 h34 h92 (qE hw2) hnon).mono fun e w' q => ⟨q.1, ?_⟩
       obtain ⟨g', tv', k1, k2, k3, k4, k5⟩ := q.2
       refine ⟨g', tv', ?_, k4, k5⟩
       rw [hof] at k2
       have := fR h (by rw [hov]; exact k1) k2 k3 k4 (hx' := s.hx)
       simpa only [hw0, he, hb0] using this
end Go.Proofs.YthdncmagfgoboaaGreatDoor
end
