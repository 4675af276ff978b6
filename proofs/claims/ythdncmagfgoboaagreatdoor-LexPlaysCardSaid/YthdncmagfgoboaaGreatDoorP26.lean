/- One of the texts that lead to the theorem lexPlays.proved: the conditions stand in each theorem. -/
import Derived.Test.YthdncmagfgoboaaGreatDoorP25
import Derived.Test.YthdncmagfgoboaaGreatDoorP24
set_option linter.unusedSimpArgs false
set_option linter.unusedVariables false
section
namespace Go.Proofs.YthdncmagfgoboaaGreatDoor
open Go.RowKit
set_option maxRecDepth 100000
set_option maxHeartbeats 8000000
theorem mR (h l : Nat) (w : World) : Calls Tryz.prog 99 #[.int .u16 h, .int .u16 l] w fun e w' => e = .returned (.tuple #[.int .i32 (dU h l), .bool (Sq.high h && Sq.low l)]) ∧ w = w' := by
 unfold dU
 cases hb : (Sq.high h && Sq.low l) with
 | true =>
  simp at hb
  rw [if_pos rfl]
  exact tM h l hb.1 hb.2 w
 | false =>
  rw [if_neg (by simp)]
  exact vP h l hb w
theorem vY (p : Nat) (vo vb vh : Value) (esc wait : Nat) (over : Bool) (gh : Option Nat) (x : UInt8) (a b c k U : Nat) (w : World) (h : aO w p vo vb esc vh wait over) (hh : SlAt w 3 1 vh 3 (dC [a, b, c]) gh) (hk : Sq.hex x = some k) (ha : a < 16) (hb : b < 16) (hc : c < 16) (hU : U = ((a * 16 + b) * 16 + c) * 16 + k) (he : (0 < wait ∧ ¬ (a = 13 ∧ 12 ≤ b)) ∨ (¬ 0 < wait ∧ a = 13 ∧ 12 ≤ b)) :
 Calls Tryz.prog 66 #[.pointer (some ⟨p, 0, none⟩), .int .u8 x.toNat] w fun e w' => e = .returned (.int .i64 5) ∧ Touch [] w w' := by
 have hk15 := Sq.hex_lt hk
 have hU1 : (a : Int) * 4096 + (b : Int) * 256 + (c : Int) * 16 + (k : Int) = (U : Int) := by omega
 have hU2 : U < 65536 := by omega
 clear hU
 rcases he with ⟨hw, hno⟩ | ⟨hw, h13, hl12⟩
 · obtain ⟨e4, e5⟩ := wT hw
   by_cases h13 : a = 13
   · have h13a : ((a : Int) == 13) = true := (bT h13).1
     have h13b : ((a : Int) != 13) = false := (bT h13).2
     have hlo2 : decide ((12 : Int) ≤ (b : Int)) = false := by simp; omega
     clear h13 hno
     have hdg := fun w => bK x k hk w
     have hk16 := Sq.hex_lt hk
     obtain ⟨H1, HC, rfl, _⟩ := hh.form
     have h0 := h
     have hk0 : ¬ ((k : Int) < 0) := by omega
     clear hk
     unfold aO at h
     have ⟨c0,c1,c2,c3,c4,c5⟩ := cs6 h
     have ⟨f0,f1,f2,f3,f4,f5⟩ := fs6 h
     have lb := aB h
     try simp [bC] at c0 c1 c2 c3 c4 c5
     refine aA Tryz.func66 rfl ?_
     intro Q_ hQ_
     simp only [Tryz.ntmps66, ents_, Nat.reduceAdd, Nat.reduceSub]
     go_wp2_with fail
     refine (hdg _).mono ?_
     rintro e w1 ⟨rfl, rfl⟩
     try go_simp
     go_upto_region 5 with (first
      | (at_builtin; refine aJ aP rfl (.tmp 15) (.tmp 19) rfl rfl (bD _ _) rfl (SlAt.src (hh.keep ((Touch.refl [] _).alloc _) (by simp)) (bL _)) (by simp) ?_; intro ad1 c1' w2 g2 hs2 ht2 hn2; simp only [List.nil_append, Nat.zero_add] at hs2 ht2)
      | (at_builtin; refine aJ aP rfl (.tmp 20) (.tmp 22) rfl rfl (hs2.keep ((Touch.refl [] _).alloc _) (by simp)) rfl (aX rfl) (by simp) ?_; intro ad3 c3' w3 g3 hs3 ht3 hn3; rw [← bE] at hs3))
     have hap := bP ht2 hn2 ht3 hn3
     obtain ⟨hT3, hg3⟩ := hap
     have hA3 : aO w3 p vo vb esc (.slice H1 _ HC) wait over := hT3.keep h0 (by simp)
     clear c0 c1 c2 c3 c4 c5 f0 f1 f2 f3 f4 f5 lb h h0 hs2 ht2 hn2 ht3 hn3 hh
     obtain ⟨kb, rfl, hgk, hkl, hC1, hC2, hcl⟩ := bJ hs3 (by omega)
     have hcl3 := hcl w3 (Touch.refl _ _)
     have hA5 := hA3
     have ⟨c0,c1,c2,c3,c4,c5⟩ := cs6 hA5
     have ⟨f0,f1,f2,f3,f4,f5⟩ := fs6 hA5
     have lb := aB hA5
     try simp [bC] at c0 c1 c2 c3 c4 c5
     clear hA5
     have q0 := hcl3 0 a rfl
     have q1 := hcl3 1 b rfl
     have q2 := hcl3 2 c rfl
     have q3 := hcl3 3 k rfl
     clear hcl3
     go_wp2
     refine hQ_.ret (results_tmp rfl _ _ _) rfl ?_
     exact ⟨rfl, hT3⟩
   · have h13a : ((a : Int) == 13) = false := (bF h13).1
     have h13b : ((a : Int) != 13) = true := (bF h13).2
     clear h13 hno
     have hdg := fun w => bK x k hk w
     have hk16 := Sq.hex_lt hk
     obtain ⟨H1, HC, rfl, _⟩ := hh.form
     have h0 := h
     have hk0 : ¬ ((k : Int) < 0) := by omega
     clear hk
     unfold aO at h
     have ⟨c0,c1,c2,c3,c4,c5⟩ := cs6 h
     have ⟨f0,f1,f2,f3,f4,f5⟩ := fs6 h
     have lb := aB h
     try simp [bC] at c0 c1 c2 c3 c4 c5
     refine aA Tryz.func66 rfl ?_
     intro Q_ hQ_
     simp only [Tryz.ntmps66, ents_, Nat.reduceAdd, Nat.reduceSub]
     go_wp2_with fail
     refine (hdg _).mono ?_
     rintro e w1 ⟨rfl, rfl⟩
     try go_simp
     go_upto_region 5 with (first
      | (at_builtin; refine aJ aP rfl (.tmp 15) (.tmp 19) rfl rfl (bD _ _) rfl (SlAt.src (hh.keep ((Touch.refl [] _).alloc _) (by simp)) (bL _)) (by simp) ?_; intro ad1 c1' w2 g2 hs2 ht2 hn2; simp only [List.nil_append, Nat.zero_add] at hs2 ht2)
      | (at_builtin; refine aJ aP rfl (.tmp 20) (.tmp 22) rfl rfl (hs2.keep ((Touch.refl [] _).alloc _) (by simp)) rfl (aX rfl) (by simp) ?_; intro ad3 c3' w3 g3 hs3 ht3 hn3; rw [← bE] at hs3))
     have hap := bP ht2 hn2 ht3 hn3
     obtain ⟨hT3, hg3⟩ := hap
     have hA3 : aO w3 p vo vb esc (.slice H1 _ HC) wait over := hT3.keep h0 (by simp)
     clear c0 c1 c2 c3 c4 c5 f0 f1 f2 f3 f4 f5 lb h h0 hs2 ht2 hn2 ht3 hn3 hh
     obtain ⟨kb, rfl, hgk, hkl, hC1, hC2, hcl⟩ := bJ hs3 (by omega)
     have hcl3 := hcl w3 (Touch.refl _ _)
     have hA5 := hA3
     have ⟨c0,c1,c2,c3,c4,c5⟩ := cs6 hA5
     have ⟨f0,f1,f2,f3,f4,f5⟩ := fs6 hA5
     have lb := aB hA5
     try simp [bC] at c0 c1 c2 c3 c4 c5
     clear hA5
     have q0 := hcl3 0 a rfl
     have q1 := hcl3 1 b rfl
     have q2 := hcl3 2 c rfl
     have q3 := hcl3 3 k rfl
     clear hcl3
     go_wp2
     refine hQ_.ret (results_tmp rfl _ _ _) rfl ?_
     exact ⟨rfl, hT3⟩
 · obtain ⟨e4, e5⟩ := wF hw
   have h13a : ((a : Int) == 13) = true := (bT h13).1
   have h13b : ((a : Int) != 13) = false := (bT h13).2
   have hlo2 : decide ((12 : Int) ≤ (b : Int)) = true := by simp; omega
   clear h13
   have hdg := fun w => bK x k hk w
   have hk16 := Sq.hex_lt hk
   obtain ⟨H1, HC, rfl, _⟩ := hh.form
   have h0 := h
   have hk0 : ¬ ((k : Int) < 0) := by omega
   clear hk
   unfold aO at h
   have ⟨c0,c1,c2,c3,c4,c5⟩ := cs6 h
   have ⟨f0,f1,f2,f3,f4,f5⟩ := fs6 h
   have lb := aB h
   try simp [bC] at c0 c1 c2 c3 c4 c5
   refine aA Tryz.func66 rfl ?_
   intro Q_ hQ_
   simp only [Tryz.ntmps66, ents_, Nat.reduceAdd, Nat.reduceSub]
   go_wp2_with fail
   refine (hdg _).mono ?_
   rintro e w1 ⟨rfl, rfl⟩
   try go_simp
   go_upto_region 5 with (first
    | (at_builtin; refine aJ aP rfl (.tmp 15) (.tmp 19) rfl rfl (bD _ _) rfl (SlAt.src (hh.keep ((Touch.refl [] _).alloc _) (by simp)) (bL _)) (by simp) ?_; intro ad1 c1' w2 g2 hs2 ht2 hn2; simp only [List.nil_append, Nat.zero_add] at hs2 ht2)
    | (at_builtin; refine aJ aP rfl (.tmp 20) (.tmp 22) rfl rfl (hs2.keep ((Touch.refl [] _).alloc _) (by simp)) rfl (aX rfl) (by simp) ?_; intro ad3 c3' w3 g3 hs3 ht3 hn3; rw [← bE] at hs3))
   have hap := bP ht2 hn2 ht3 hn3
   obtain ⟨hT3, hg3⟩ := hap
   have hA3 : aO w3 p vo vb esc (.slice H1 _ HC) wait over := hT3.keep h0 (by simp)
   clear c0 c1 c2 c3 c4 c5 f0 f1 f2 f3 f4 f5 lb h h0 hs2 ht2 hn2 ht3 hn3 hh
   obtain ⟨kb, rfl, hgk, hkl, hC1, hC2, hcl⟩ := bJ hs3 (by omega)
   have hcl3 := hcl w3 (Touch.refl _ _)
   have hA5 := hA3
   have ⟨c0,c1,c2,c3,c4,c5⟩ := cs6 hA5
   have ⟨f0,f1,f2,f3,f4,f5⟩ := fs6 hA5
   have lb := aB hA5
   try simp [bC] at c0 c1 c2 c3 c4 c5
   clear hA5
   have q0 := hcl3 0 a rfl
   have q1 := hcl3 1 b rfl
   have q2 := hcl3 2 c rfl
   have q3 := hcl3 3 k rfl
   clear hcl3
   go_wp2
   refine hQ_.ret (results_tmp rfl _ _ _) rfl ?_
   exact ⟨rfl, hT3⟩
theorem tS (p : Nat) (vo vb vh : Value) (esc wait : Nat) (over : Bool) (gh : Option Nat) (x : UInt8) (a b c k U : Nat) (w : World) (h : aO w p vo vb esc vh wait over) (hh : SlAt w 3 1 vh 3 (dC [a, b, c]) gh) (hk : Sq.hex x = some k) (ha : a < 16) (hb : b < 16) (hc : c < 16) (hU : U = ((a * 16 + b) * 16 + c) * 16 + k) (hw : ¬ 0 < wait) (hno : ¬ (a = 13 ∧ 12 ≤ b)) (hhi : Sq.high U = true) :
 Calls Tryz.prog 66 #[.pointer (some ⟨p, 0, none⟩), .int .u8 x.toNat] w fun e w' => e = .returned (.int .i64 0) ∧ aO w' p vo vb 0 (.slice none 0 0) U over ∧ Touch [p] w w' := by
 have hk15 := Sq.hex_lt hk
 have hU1 : (a : Int) * 4096 + (b : Int) * 256 + (c : Int) * 16 + (k : Int) = (U : Int) := by omega
 have hU2 : U < 65536 := by omega
 have hhc := fun w => fB U w
 rw [hhi] at hhc
 clear hU hhi
 obtain ⟨e4, e5⟩ := wF hw
 by_cases h13 : a = 13
 · have h13a : ((a : Int) == 13) = true := (bT h13).1
   have h13b : ((a : Int) != 13) = false := (bT h13).2
   have hlo2 : decide ((12 : Int) ≤ (b : Int)) = false := by simp; omega
   clear h13 hno
   have hdg := fun w => bK x k hk w
   have hk16 := Sq.hex_lt hk
   obtain ⟨H1, HC, rfl, _⟩ := hh.form
   have h0 := h
   have hk0 : ¬ ((k : Int) < 0) := by omega
   clear hk
   unfold aO at h
   have ⟨c0,c1,c2,c3,c4,c5⟩ := cs6 h
   have ⟨f0,f1,f2,f3,f4,f5⟩ := fs6 h
   have lb := aB h
   try simp [bC] at c0 c1 c2 c3 c4 c5
   refine aA Tryz.func66 rfl ?_
   intro Q_ hQ_
   simp only [Tryz.ntmps66, ents_, Nat.reduceAdd, Nat.reduceSub]
   go_wp2_with fail
   refine (hdg _).mono ?_
   rintro e w1 ⟨rfl, rfl⟩
   try go_simp
   go_upto_region 5 with (first
    | (at_builtin; refine aJ aP rfl (.tmp 15) (.tmp 19) rfl rfl (bD _ _) rfl (SlAt.src (hh.keep ((Touch.refl [] _).alloc _) (by simp)) (bL _)) (by simp) ?_; intro ad1 c1' w2 g2 hs2 ht2 hn2; simp only [List.nil_append, Nat.zero_add] at hs2 ht2)
    | (at_builtin; refine aJ aP rfl (.tmp 20) (.tmp 22) rfl rfl (hs2.keep ((Touch.refl [] _).alloc _) (by simp)) rfl (aX rfl) (by simp) ?_; intro ad3 c3' w3 g3 hs3 ht3 hn3; rw [← bE] at hs3))
   have hap := bP ht2 hn2 ht3 hn3
   obtain ⟨hT3, hg3⟩ := hap
   have hA3 : aO w3 p vo vb esc (.slice H1 _ HC) wait over := hT3.keep h0 (by simp)
   clear c0 c1 c2 c3 c4 c5 f0 f1 f2 f3 f4 f5 lb h h0 hs2 ht2 hn2 ht3 hn3 hh
   obtain ⟨kb, rfl, hgk, hkl, hC1, hC2, hcl⟩ := bJ hs3 (by omega)
   have hcl3 := hcl w3 (Touch.refl _ _)
   have hA5 := hA3
   have ⟨c0,c1,c2,c3,c4,c5⟩ := cs6 hA5
   have ⟨f0,f1,f2,f3,f4,f5⟩ := fs6 hA5
   have lb := aB hA5
   try simp [bC] at c0 c1 c2 c3 c4 c5
   clear hA5
   have q0 := hcl3 0 a rfl
   have q1 := hcl3 1 b rfl
   have q2 := hcl3 2 c rfl
   have q3 := hcl3 3 k rfl
   clear hcl3
   go_upto_region 14 with (fail)
   go_quiet (fail)
   go_wp2_with fail
   refine (hhc _).mono ?_
   rintro e w9 ⟨rfl, rfl⟩
   try go_simp
   go_wp2
   refine hQ_.ret (results_tmp rfl _ _ _) rfl ?_
   exact ⟨rfl, aF (aF (aF (bA hA3 _) 3 _) 2 _) 4 _, (((((hT3.mono (by simp)).drewN _).setCell (by simp) _).setCell (by simp) _).setCell (by simp) _)⟩
 · have h13a : ((a : Int) == 13) = false := (bF h13).1
   have h13b : ((a : Int) != 13) = true := (bF h13).2
   clear h13 hno
   have hdg := fun w => bK x k hk w
   have hk16 := Sq.hex_lt hk
   obtain ⟨H1, HC, rfl, _⟩ := hh.form
   have h0 := h
   have hk0 : ¬ ((k : Int) < 0) := by omega
   clear hk
   unfold aO at h
   have ⟨c0,c1,c2,c3,c4,c5⟩ := cs6 h
   have ⟨f0,f1,f2,f3,f4,f5⟩ := fs6 h
   have lb := aB h
   try simp [bC] at c0 c1 c2 c3 c4 c5
   refine aA Tryz.func66 rfl ?_
   intro Q_ hQ_
   simp only [Tryz.ntmps66, ents_, Nat.reduceAdd, Nat.reduceSub]
   go_wp2_with fail
   refine (hdg _).mono ?_
   rintro e w1 ⟨rfl, rfl⟩
   try go_simp
   go_upto_region 5 with (first
    | (at_builtin; refine aJ aP rfl (.tmp 15) (.tmp 19) rfl rfl (bD _ _) rfl (SlAt.src (hh.keep ((Touch.refl [] _).alloc _) (by simp)) (bL _)) (by simp) ?_; intro ad1 c1' w2 g2 hs2 ht2 hn2; simp only [List.nil_append, Nat.zero_add] at hs2 ht2)
    | (at_builtin; refine aJ aP rfl (.tmp 20) (.tmp 22) rfl rfl (hs2.keep ((Touch.refl [] _).alloc _) (by simp)) rfl (aX rfl) (by simp) ?_; intro ad3 c3' w3 g3 hs3 ht3 hn3; rw [← bE] at hs3))
   have hap := bP ht2 hn2 ht3 hn3
   obtain ⟨hT3, hg3⟩ := hap
   have hA3 : aO w3 p vo vb esc (.slice H1 _ HC) wait over := hT3.keep h0 (by simp)
   clear c0 c1 c2 c3 c4 c5 f0 f1 f2 f3 f4 f5 lb h h0 hs2 ht2 hn2 ht3 hn3 hh
   obtain ⟨kb, rfl, hgk, hkl, hC1, hC2, hcl⟩ := bJ hs3 (by omega)
   have hcl3 := hcl w3 (Touch.refl _ _)
   have hA5 := hA3
   have ⟨c0,c1,c2,c3,c4,c5⟩ := cs6 hA5
   have ⟨f0,f1,f2,f3,f4,f5⟩ := fs6 hA5
   have lb := aB hA5
   try simp [bC] at c0 c1 c2 c3 c4 c5
   clear hA5
   have q0 := hcl3 0 a rfl
   have q1 := hcl3 1 b rfl
   have q2 := hcl3 2 c rfl
   have q3 := hcl3 3 k rfl
   clear hcl3
   go_upto_region 14 with (fail)
   go_quiet (fail)
   go_wp2_with fail
   refine (hhc _).mono ?_
   rintro e w9 ⟨rfl, rfl⟩
   try go_simp
   go_wp2
   refine hQ_.ret (results_tmp rfl _ _ _) rfl ?_
   exact ⟨rfl, aF (aF (aF (bA hA3 _) 3 _) 2 _) 4 _, (((((hT3.mono (by simp)).drewN _).setCell (by simp) _).setCell (by simp) _).setCell (by simp) _)⟩
theorem tR (p : Nat) (vo vb vh : Value) (esc wait : Nat) (over : Bool) (gh : Option Nat) (x : UInt8) (a b c k U : Nat) (w : World) (h : aO w p vo vb esc vh wait over) (hh : SlAt w 3 1 vh 3 (dC [a, b, c]) gh) (hk : Sq.hex x = some k) (ha : a < 16) (hb : b < 16) (hc : c < 16) (hU : U = ((a * 16 + b) * 16 + c) * 16 + k) (hw : ¬ 0 < wait) (hno : ¬ (a = 13 ∧ 12 ≤ b)) (hhi : Sq.high U = false) (hn : Sq.non U = true) :
 Calls Tryz.prog 66 #[.pointer (some ⟨p, 0, none⟩), .int .u8 x.toNat] w fun e w' => e = .returned (.int .i64 6) ∧ Touch [] w w' := by
 have hk15 := Sq.hex_lt hk
 have hU1 : (a : Int) * 4096 + (b : Int) * 256 + (c : Int) * 16 + (k : Int) = (U : Int) := by omega
 have hU2 : U < 65536 := by omega
 have hhc := fun w => fB U w
 rw [hhi] at hhc
 have hno2 := fun w => eZ (U : Int) (by omega) (by omega) w
 simp only [Int.toNat_natCast] at hno2
 rw [hn] at hno2
 clear hU hhi hn
 obtain ⟨e4, e5⟩ := wF hw
 by_cases h13 : a = 13
 · have h13a : ((a : Int) == 13) = true := (bT h13).1
   have h13b : ((a : Int) != 13) = false := (bT h13).2
   have hlo2 : decide ((12 : Int) ≤ (b : Int)) = false := by simp; omega
   clear h13 hno
   have hdg := fun w => bK x k hk w
   have hk16 := Sq.hex_lt hk
   obtain ⟨H1, HC, rfl, _⟩ := hh.form
   have h0 := h
   have hk0 : ¬ ((k : Int) < 0) := by omega
   clear hk
   unfold aO at h
   have ⟨c0,c1,c2,c3,c4,c5⟩ := cs6 h
   have ⟨f0,f1,f2,f3,f4,f5⟩ := fs6 h
   have lb := aB h
   try simp [bC] at c0 c1 c2 c3 c4 c5
   refine aA Tryz.func66 rfl ?_
   intro Q_ hQ_
   simp only [Tryz.ntmps66, ents_, Nat.reduceAdd, Nat.reduceSub]
   go_wp2_with fail
   refine (hdg _).mono ?_
   rintro e w1 ⟨rfl, rfl⟩
   try go_simp
   go_upto_region 5 with (first
    | (at_builtin; refine aJ aP rfl (.tmp 15) (.tmp 19) rfl rfl (bD _ _) rfl (SlAt.src (hh.keep ((Touch.refl [] _).alloc _) (by simp)) (bL _)) (by simp) ?_; intro ad1 c1' w2 g2 hs2 ht2 hn2; simp only [List.nil_append, Nat.zero_add] at hs2 ht2)
    | (at_builtin; refine aJ aP rfl (.tmp 20) (.tmp 22) rfl rfl (hs2.keep ((Touch.refl [] _).alloc _) (by simp)) rfl (aX rfl) (by simp) ?_; intro ad3 c3' w3 g3 hs3 ht3 hn3; rw [← bE] at hs3))
   have hap := bP ht2 hn2 ht3 hn3
   obtain ⟨hT3, hg3⟩ := hap
   have hA3 : aO w3 p vo vb esc (.slice H1 _ HC) wait over := hT3.keep h0 (by simp)
   clear c0 c1 c2 c3 c4 c5 f0 f1 f2 f3 f4 f5 lb h h0 hs2 ht2 hn2 ht3 hn3 hh
   obtain ⟨kb, rfl, hgk, hkl, hC1, hC2, hcl⟩ := bJ hs3 (by omega)
   have hcl3 := hcl w3 (Touch.refl _ _)
   have hA5 := hA3
   have ⟨c0,c1,c2,c3,c4,c5⟩ := cs6 hA5
   have ⟨f0,f1,f2,f3,f4,f5⟩ := fs6 hA5
   have lb := aB hA5
   try simp [bC] at c0 c1 c2 c3 c4 c5
   clear hA5
   have q0 := hcl3 0 a rfl
   have q1 := hcl3 1 b rfl
   have q2 := hcl3 2 c rfl
   have q3 := hcl3 3 k rfl
   clear hcl3
   go_upto_region 14 with (fail)
   go_quiet (fail)
   go_wp2_with fail
   refine (hhc _).mono ?_
   rintro e w9 ⟨rfl, rfl⟩
   try go_simp
   go_wp2_with fail
   refine (hno2 _).mono ?_
   rintro e w9 ⟨rfl, rfl⟩
   try go_simp
   go_wp2
   refine hQ_.ret (results_tmp rfl _ _ _) rfl ?_
   exact ⟨rfl, hT3.drewN _⟩
 · have h13a : ((a : Int) == 13) = false := (bF h13).1
   have h13b : ((a : Int) != 13) = true := (bF h13).2
   clear h13 hno
   have hdg := fun w => bK x k hk w
   have hk16 := Sq.hex_lt hk
   obtain ⟨H1, HC, rfl, _⟩ := hh.form
   have h0 := h
   have hk0 : ¬ ((k : Int) < 0) := by omega
   clear hk
   unfold aO at h
   have ⟨c0,c1,c2,c3,c4,c5⟩ := cs6 h
   have ⟨f0,f1,f2,f3,f4,f5⟩ := fs6 h
   have lb := aB h
   try simp [bC] at c0 c1 c2 c3 c4 c5
   refine aA Tryz.func66 rfl ?_
   intro Q_ hQ_
   simp only [Tryz.ntmps66, ents_, Nat.reduceAdd, Nat.reduceSub]
   go_wp2_with fail
   refine (hdg _).mono ?_
   rintro e w1 ⟨rfl, rfl⟩
   try go_simp
   go_upto_region 5 with (first
    | (at_builtin; refine aJ aP rfl (.tmp 15) (.tmp 19) rfl rfl (bD _ _) rfl (SlAt.src (hh.keep ((Touch.refl [] _).alloc _) (by simp)) (bL _)) (by simp) ?_; intro ad1 c1' w2 g2 hs2 ht2 hn2; simp only [List.nil_append, Nat.zero_add] at hs2 ht2)
    | (at_builtin; refine aJ aP rfl (.tmp 20) (.tmp 22) rfl rfl (hs2.keep ((Touch.refl [] _).alloc _) (by simp)) rfl (aX rfl) (by simp) ?_; intro ad3 c3' w3 g3 hs3 ht3 hn3; rw [← bE] at hs3))
   have hap := bP ht2 hn2 ht3 hn3
   obtain ⟨hT3, hg3⟩ := hap
   have hA3 : aO w3 p vo vb esc (.slice H1 _ HC) wait over := hT3.keep h0 (by simp)
   clear c0 c1 c2 c3 c4 c5 f0 f1 f2 f3 f4 f5 lb h h0 hs2 ht2 hn2 ht3 hn3 hh
   obtain ⟨kb, rfl, hgk, hkl, hC1, hC2, hcl⟩ := bJ hs3 (by omega)
   have hcl3 := hcl w3 (Touch.refl _ _)
   have hA5 := hA3
   have ⟨c0,c1,c2,c3,c4,c5⟩ := cs6 hA5
   have ⟨f0,f1,f2,f3,f4,f5⟩ := fs6 hA5
   have lb := aB hA5
   try simp [bC] at c0 c1 c2 c3 c4 c5
   clear hA5
   have q0 := hcl3 0 a rfl
   have q1 := hcl3 1 b rfl
   have q2 := hcl3 2 c rfl
   have q3 := hcl3 3 k rfl
   clear hcl3
   go_upto_region 14 with (fail)
   go_quiet (fail)
   go_wp2_with fail
   refine (hhc _).mono ?_
   rintro e w9 ⟨rfl, rfl⟩
   try go_simp
   go_wp2_with fail
   refine (hno2 _).mono ?_
   rintro e w9 ⟨rfl, rfl⟩
   try go_simp
   go_wp2
   refine hQ_.ret (results_tmp rfl _ _ _) rfl ?_
   exact ⟨rfl, hT3.drewN _⟩
theorem tQ (p : Nat) (vo vb vh : Value) (esc wait : Nat) (over : Bool) (gh : Option Nat) (x : UInt8) (a b c k U : Nat) (w : World) (h : aO w p vo vb esc vh wait over) (hh : SlAt w 3 1 vh 3 (dC [a, b, c]) gh) (hk : Sq.hex x = some k) (ha : a < 16) (hb : b < 16) (hc : c < 16) (hU : U = ((a * 16 + b) * 16 + c) * 16 + k) (hw : 0 < wait) (hlo : a = 13 ∧ 12 ≤ b) (J : Nat) (hJ : dU wait U = (J : Int)) (hJl : J < 2147483648) (hn : Sq.non J = true) :
 Calls Tryz.prog 66 #[.pointer (some ⟨p, 0, none⟩), .int .u8 x.toNat] w fun e w' => e = .returned (.int .i64 6) ∧ Touch [] w w' := by
 have hk15 := Sq.hex_lt hk
 have hU1 : (a : Int) * 4096 + (b : Int) * 256 + (c : Int) * 16 + (k : Int) = (U : Int) := by omega
 have hU2 : U < 65536 := by omega
 have hjo := fun w => mR wait U w
 rw [hJ] at hjo
 generalize (Sq.high wait && Sq.low U) = JB at hjo
 have hno2 := fun w => eZ (J : Int) (by omega) (by omega) w
 simp only [Int.toNat_natCast] at hno2
 rw [hn] at hno2
 clear hU hn hJ
 obtain ⟨e4, e5⟩ := wT hw
 obtain ⟨h13, hl12⟩ := hlo
 have h13a : ((a : Int) == 13) = true := (bT h13).1
 have h13b : ((a : Int) != 13) = false := (bT h13).2
 have hlo2 : decide ((12 : Int) ≤ (b : Int)) = true := by simp; omega
 clear h13
 have hdg := fun w => bK x k hk w
 have hk16 := Sq.hex_lt hk
 obtain ⟨H1, HC, rfl, _⟩ := hh.form
 have h0 := h
 have hk0 : ¬ ((k : Int) < 0) := by omega
 clear hk
 unfold aO at h
 have ⟨c0,c1,c2,c3,c4,c5⟩ := cs6 h
 have ⟨f0,f1,f2,f3,f4,f5⟩ := fs6 h
 have lb := aB h
 try simp [bC] at c0 c1 c2 c3 c4 c5
 refine aA Tryz.func66 rfl ?_
 intro Q_ hQ_
 simp only [Tryz.ntmps66, ents_, Nat.reduceAdd, Nat.reduceSub]
 go_wp2_with fail
 refine (hdg _).mono ?_
 rintro e w1 ⟨rfl, rfl⟩
 try go_simp
 go_upto_region 5 with (first
  | (at_builtin; refine aJ aP rfl (.tmp 15) (.tmp 19) rfl rfl (bD _ _) rfl (SlAt.src (hh.keep ((Touch.refl [] _).alloc _) (by simp)) (bL _)) (by simp) ?_; intro ad1 c1' w2 g2 hs2 ht2 hn2; simp only [List.nil_append, Nat.zero_add] at hs2 ht2)
  | (at_builtin; refine aJ aP rfl (.tmp 20) (.tmp 22) rfl rfl (hs2.keep ((Touch.refl [] _).alloc _) (by simp)) rfl (aX rfl) (by simp) ?_; intro ad3 c3' w3 g3 hs3 ht3 hn3; rw [← bE] at hs3))
 have hap := bP ht2 hn2 ht3 hn3
 obtain ⟨hT3, hg3⟩ := hap
 have hA3 : aO w3 p vo vb esc (.slice H1 _ HC) wait over := hT3.keep h0 (by simp)
 clear c0 c1 c2 c3 c4 c5 f0 f1 f2 f3 f4 f5 lb h h0 hs2 ht2 hn2 ht3 hn3 hh
 obtain ⟨kb, rfl, hgk, hkl, hC1, hC2, hcl⟩ := bJ hs3 (by omega)
 have hcl3 := hcl w3 (Touch.refl _ _)
 have hA5 := hA3
 have ⟨c0,c1,c2,c3,c4,c5⟩ := cs6 hA5
 have ⟨f0,f1,f2,f3,f4,f5⟩ := fs6 hA5
 have lb := aB hA5
 try simp [bC] at c0 c1 c2 c3 c4 c5
 clear hA5
 have q0 := hcl3 0 a rfl
 have q1 := hcl3 1 b rfl
 have q2 := hcl3 2 c rfl
 have q3 := hcl3 3 k rfl
 clear hcl3
 go_upto_region 14 with (fail)
 go_quiet (fail)
 go_wp2_with fail
 refine (hjo _).mono ?_
 rintro e w9 ⟨rfl, rfl⟩
 try go_simp
 go_wp2_with fail
 refine (hno2 _).mono ?_
 rintro e w9 ⟨rfl, rfl⟩
 try go_simp
 go_wp2
 refine hQ_.ret (results_tmp rfl _ _ _) rfl ?_
 exact ⟨rfl, hT3.drewN _⟩
theorem tP (p : Nat) (vo vb vh : Value) (esc wait : Nat) (over : Bool) (gh : Option Nat) (out : List Nat) (go : Option Nat) (x : UInt8) (a b c k U : Nat) (w : World) (h : aO w p vo vb esc vh wait over) (hO : SlAt w 21 1 vo out.length (cC out) go) (hg : ∀ k, go = some k → k ≠ p) (hl : out.length ≤ 1000000) (hh : SlAt w 3 1 vh 3 (dC [a, b, c]) gh) (hk : Sq.hex x = some k) (ha : a < 16) (hb : b < 16) (hc : c < 16) (hU : U = ((a * 16 + b) * 16 + c) * 16 + k) (hw : ¬ 0 < wait) (hno : ¬ (a = 13 ∧ 12 ≤ b)) (hhi : Sq.high U = false) (hn : Sq.non U = false) :
 Calls Tryz.prog 66 #[.pointer (some ⟨p, 0, none⟩), .int .u8 x.toNat] w fun e w' => e = .returned (.int .i64 0) ∧ ∃ go' vo', aO w' p vo' vb 0 (.slice none 0 0) 0 over ∧ SlAt w' 21 1 vo' (out ++ [U]).length (cC (out ++ [U])) go' ∧ cK w go go' ∧ Touch (p :: go.toList) w w' := by
 have hpg : p ∉ go.toList := fun q => by
  cases go with
  | none => simp at q
  | some j => simp at q; exact hg j rfl q.symm
 have hk15 := Sq.hex_lt hk
 have hU1 : (a : Int) * 4096 + (b : Int) * 256 + (c : Int) * 16 + (k : Int) = (U : Int) := by omega
 have hU2 : U < 65536 := by omega
 have hhc := fun w => fB U w
 rw [hhi] at hhc
 have hno2 := fun w => eZ (U : Int) (by omega) (by omega) w
 simp only [Int.toNat_natCast] at hno2
 rw [hn] at hno2
 clear hU hhi hn
 obtain ⟨e4, e5⟩ := wF hw
 by_cases h13 : a = 13
 · have h13a : ((a : Int) == 13) = true := (bT h13).1
   have h13b : ((a : Int) != 13) = false := (bT h13).2
   have hlo2 : decide ((12 : Int) ≤ (b : Int)) = false := by simp; omega
   clear h13 hno
   have hdg := fun w => bK x k hk w
   have hk16 := Sq.hex_lt hk
   obtain ⟨H1, HC, rfl, _⟩ := hh.form
   have h0 := h
   have hk0 : ¬ ((k : Int) < 0) := by omega
   clear hk
   unfold aO at h
   have ⟨c0,c1,c2,c3,c4,c5⟩ := cs6 h
   have ⟨f0,f1,f2,f3,f4,f5⟩ := fs6 h
   have lb := aB h
   try simp [bC] at c0 c1 c2 c3 c4 c5
   refine aA Tryz.func66 rfl ?_
   intro Q_ hQ_
   simp only [Tryz.ntmps66, ents_, Nat.reduceAdd, Nat.reduceSub]
   go_wp2_with fail
   refine (hdg _).mono ?_
   rintro e w1 ⟨rfl, rfl⟩
   try go_simp
   go_upto_region 5 with (first
    | (at_builtin; refine aJ aP rfl (.tmp 15) (.tmp 19) rfl rfl (bD _ _) rfl (SlAt.src (hh.keep ((Touch.refl [] _).alloc _) (by simp)) (bL _)) (by simp) ?_; intro ad1 c1' w2 g2 hs2 ht2 hn2; simp only [List.nil_append, Nat.zero_add] at hs2 ht2)
    | (at_builtin; refine aJ aP rfl (.tmp 20) (.tmp 22) rfl rfl (hs2.keep ((Touch.refl [] _).alloc _) (by simp)) rfl (aX rfl) (by simp) ?_; intro ad3 c3' w3 g3 hs3 ht3 hn3; rw [← bE] at hs3))
   have hap := bP ht2 hn2 ht3 hn3
   obtain ⟨hT3, hg3⟩ := hap
   have hA3 : aO w3 p vo vb esc (.slice H1 _ HC) wait over := hT3.keep h0 (by simp)
   clear c0 c1 c2 c3 c4 c5 f0 f1 f2 f3 f4 f5 lb h h0 hs2 ht2 hn2 ht3 hn3 hh
   obtain ⟨kb, rfl, hgk, hkl, hC1, hC2, hcl⟩ := bJ hs3 (by omega)
   have hcl3 := hcl w3 (Touch.refl _ _)
   have hA5 := hA3
   have ⟨c0,c1,c2,c3,c4,c5⟩ := cs6 hA5
   have ⟨f0,f1,f2,f3,f4,f5⟩ := fs6 hA5
   have lb := aB hA5
   try simp [bC] at c0 c1 c2 c3 c4 c5
   clear hA5
   have q0 := hcl3 0 a rfl
   have q1 := hcl3 1 b rfl
   have q2 := hcl3 2 c rfl
   have q3 := hcl3 3 k rfl
   clear hcl3
   go_upto_region 14 with (fail)
   go_quiet (fail)
   go_wp2_with fail
   refine (hhc _).mono ?_
   rintro e w9 ⟨rfl, rfl⟩
   try go_simp
   have hOq : ∀ q, SlAt (w3.drewN q) 21 1 vo out.length (cC out) go := fun q => hO.keep (hT3.drewN q) (by simp)
   have hAq : ∀ q, aO (w3.drewN q) p vo vb esc (.slice H1 3 HC) wait over := fun q => bA hA3 q
   have hTq : ∀ q, Touch [] w (w3.drewN q) := fun q => hT3.drewN q
   go_wp2_with fail
   refine (hno2 _).mono ?_
   rintro e w9 ⟨rfl, rfl⟩
   try go_simp
   go_wp2_with (at_builtin; refine aJ dK rfl (.tmp 168) (.tmp 170) rfl rfl ((hOq _).keep ((Touch.refl [] _).alloc _) (by simp)) rfl (aX rfl) (by omega) ?_; intro ad7 c7' w7 g7 hs7 ht7 hn7; rw [← dF] at hs7; have hN7 := ht7.keep (aW (hAq _) _) hpg; have p0 := aQ hN7 0; have p2 := aQ hN7 2; have p3 := aQ hN7 3; have p4 := aQ hN7 4; have q70 := aN hN7 0; have q72 := aN hN7 2; have q73 := aN hN7 3; have q74 := aN hN7 4; have q7 := aB hN7; simp [bC] at q70 q72 q73 q74)
   refine hQ_.ret (results_tmp rfl _ _ _) rfl ?_
   have hgn : ∀ k, g7 = some k → k ≠ p := bX hn7 hg (by simp; have := aB hA3; omega)
   have hm : ∀ (W : World) (i : Nat) (v : Value), SlAt W 21 1 (.slice ad7 (out.length + 1) c7') (out.length + 1) (cC (out ++ [U])) g7 → SlAt (W.setCell ⟨p, i, none⟩ v) 21 1 (.slice ad7 (out.length + 1) c7') (out.length + 1) (cC (out ++ [U])) g7 := fun W i v h => h.keep (Touch.setCell (F := [p]) (Touch.refl _ _) (p := ⟨p, i, none⟩) (by simp) _) (fun k hk => by simpa using hgn k hk)
   refine ⟨rfl, g7, _, aF (aF (aF (aF hN7 0 _) 3 _) 2 _) 4 _, ?_, cE hn7 (by have := hT3.size; simp; omega), ?_⟩
   · rw [List.length_append, List.length_singleton]
     exact hm _ _ _ (hm _ _ _ (hm _ _ _ (hm _ _ _ hs7)))
   · exact ((((Touch.step (((hTq _).mono (by simp)).alloc _) ht7 (fun k hk => .inl (by simp at hk; simp [hk]))).setCell (by simp) _).setCell (by simp) _).setCell (by simp) _).setCell (by simp) _
 · have h13a : ((a : Int) == 13) = false := (bF h13).1
   have h13b : ((a : Int) != 13) = true := (bF h13).2
   clear h13 hno
   have hdg := fun w => bK x k hk w
   have hk16 := Sq.hex_lt hk
   obtain ⟨H1, HC, rfl, _⟩ := hh.form
   have h0 := h
   have hk0 : ¬ ((k : Int) < 0) := by omega
   clear hk
   unfold aO at h
   have ⟨c0,c1,c2,c3,c4,c5⟩ := cs6 h
   have ⟨f0,f1,f2,f3,f4,f5⟩ := fs6 h
   have lb := aB h
   try simp [bC] at c0 c1 c2 c3 c4 c5
   refine aA Tryz.func66 rfl ?_
   intro Q_ hQ_
   simp only [Tryz.ntmps66, ents_, Nat.reduceAdd, Nat.reduceSub]
   go_wp2_with fail
   refine (hdg _).mono ?_
   rintro e w1 ⟨rfl, rfl⟩
   try go_simp
   go_upto_region 5 with (first
    | (at_builtin; refine aJ aP rfl (.tmp 15) (.tmp 19) rfl rfl (bD _ _) rfl (SlAt.src (hh.keep ((Touch.refl [] _).alloc _) (by simp)) (bL _)) (by simp) ?_; intro ad1 c1' w2 g2 hs2 ht2 hn2; simp only [List.nil_append, Nat.zero_add] at hs2 ht2)
    | (at_builtin; refine aJ aP rfl (.tmp 20) (.tmp 22) rfl rfl (hs2.keep ((Touch.refl [] _).alloc _) (by simp)) rfl (aX rfl) (by simp) ?_; intro ad3 c3' w3 g3 hs3 ht3 hn3; rw [← bE] at hs3))
   have hap := bP ht2 hn2 ht3 hn3
   obtain ⟨hT3, hg3⟩ := hap
   have hA3 : aO w3 p vo vb esc (.slice H1 _ HC) wait over := hT3.keep h0 (by simp)
   clear c0 c1 c2 c3 c4 c5 f0 f1 f2 f3 f4 f5 lb h h0 hs2 ht2 hn2 ht3 hn3 hh
   obtain ⟨kb, rfl, hgk, hkl, hC1, hC2, hcl⟩ := bJ hs3 (by omega)
   have hcl3 := hcl w3 (Touch.refl _ _)
   have hA5 := hA3
   have ⟨c0,c1,c2,c3,c4,c5⟩ := cs6 hA5
   have ⟨f0,f1,f2,f3,f4,f5⟩ := fs6 hA5
   have lb := aB hA5
   try simp [bC] at c0 c1 c2 c3 c4 c5
   clear hA5
   have q0 := hcl3 0 a rfl
   have q1 := hcl3 1 b rfl
   have q2 := hcl3 2 c rfl
   have q3 := hcl3 3 k rfl
   clear hcl3
   go_upto_region 14 with (fail)
   go_quiet (fail)
   go_wp2_with fail
   refine (hhc _).mono ?_
   rintro e w9 ⟨rfl, rfl⟩
   try go_simp
   have hOq : ∀ q, SlAt (w3.drewN q) 21 1 vo out.length (cC out) go := fun q => hO.keep (hT3.drewN q) (by simp)
   have hAq : ∀ q, aO (w3.drewN q) p vo vb esc (.slice H1 3 HC) wait over := fun q => bA hA3 q
   have hTq : ∀ q, Touch [] w (w3.drewN q) := fun q => hT3.drewN q
   go_wp2_with fail
   refine (hno2 _).mono ?_
   rintro e w9 ⟨rfl, rfl⟩
   try go_simp
   go_wp2_with (at_builtin; refine aJ dK rfl (.tmp 168) (.tmp 170) rfl rfl ((hOq _).keep ((Touch.refl [] _).alloc _) (by simp)) rfl (aX rfl) (by omega) ?_; intro ad7 c7' w7 g7 hs7 ht7 hn7; rw [← dF] at hs7; have hN7 := ht7.keep (aW (hAq _) _) hpg; have p0 := aQ hN7 0; have p2 := aQ hN7 2; have p3 := aQ hN7 3; have p4 := aQ hN7 4; have q70 := aN hN7 0; have q72 := aN hN7 2; have q73 := aN hN7 3; have q74 := aN hN7 4; have q7 := aB hN7; simp [bC] at q70 q72 q73 q74)
   refine hQ_.ret (results_tmp rfl _ _ _) rfl ?_
   have hgn : ∀ k, g7 = some k → k ≠ p := bX hn7 hg (by simp; have := aB hA3; omega)
   have hm : ∀ (W : World) (i : Nat) (v : Value), SlAt W 21 1 (.slice ad7 (out.length + 1) c7') (out.length + 1) (cC (out ++ [U])) g7 → SlAt (W.setCell ⟨p, i, none⟩ v) 21 1 (.slice ad7 (out.length + 1) c7') (out.length + 1) (cC (out ++ [U])) g7 := fun W i v h => h.keep (Touch.setCell (F := [p]) (Touch.refl _ _) (p := ⟨p, i, none⟩) (by simp) _) (fun k hk => by simpa using hgn k hk)
   refine ⟨rfl, g7, _, aF (aF (aF (aF hN7 0 _) 3 _) 2 _) 4 _, ?_, cE hn7 (by have := hT3.size; simp; omega), ?_⟩
   · rw [List.length_append, List.length_singleton]
     exact hm _ _ _ (hm _ _ _ (hm _ _ _ (hm _ _ _ hs7)))
   · exact ((((Touch.step (((hTq _).mono (by simp)).alloc _) ht7 (fun k hk => .inl (by simp at hk; simp [hk]))).setCell (by simp) _).setCell (by simp) _).setCell (by simp) _).setCell (by simp) _
theorem tO (p : Nat) (vo vb vh : Value) (esc wait : Nat) (over : Bool) (gh : Option Nat) (out : List Nat) (go : Option Nat) (x : UInt8) (a b c k U : Nat) (w : World) (h : aO w p vo vb esc vh wait over) (hO : SlAt w 21 1 vo out.length (cC out) go) (hg : ∀ k, go = some k → k ≠ p) (hl : out.length ≤ 1000000) (hh : SlAt w 3 1 vh 3 (dC [a, b, c]) gh) (hk : Sq.hex x = some k) (ha : a < 16) (hb : b < 16) (hc : c < 16) (hU : U = ((a * 16 + b) * 16 + c) * 16 + k) (hw : 0 < wait) (hlo : a = 13 ∧ 12 ≤ b) (J : Nat) (hJ : dU wait U = (J : Int)) (hJl : J < 2147483648) (hn : Sq.non J = false) :
 Calls Tryz.prog 66 #[.pointer (some ⟨p, 0, none⟩), .int .u8 x.toNat] w fun e w' => e = .returned (.int .i64 0) ∧ ∃ go' vo', aO w' p vo' vb 0 (.slice none 0 0) 0 over ∧ SlAt w' 21 1 vo' (out ++ [J]).length (cC (out ++ [J])) go' ∧ cK w go go' ∧ Touch (p :: go.toList) w w' := by
 have hpg : p ∉ go.toList := fun q => by
  cases go with
  | none => simp at q
  | some j => simp at q; exact hg j rfl q.symm
 have hk15 := Sq.hex_lt hk
 have hU1 : (a : Int) * 4096 + (b : Int) * 256 + (c : Int) * 16 + (k : Int) = (U : Int) := by omega
 have hU2 : U < 65536 := by omega
 have hjo := fun w => mR wait U w
 rw [hJ] at hjo
 generalize (Sq.high wait && Sq.low U) = JB at hjo
 have hno2 := fun w => eZ (J : Int) (by omega) (by omega) w
 simp only [Int.toNat_natCast] at hno2
 rw [hn] at hno2
 clear hU hn hJ
 obtain ⟨e4, e5⟩ := wT hw
 obtain ⟨h13, hl12⟩ := hlo
 have h13a : ((a : Int) == 13) = true := (bT h13).1
 have h13b : ((a : Int) != 13) = false := (bT h13).2
 have hlo2 : decide ((12 : Int) ≤ (b : Int)) = true := by simp; omega
 clear h13
 have hdg := fun w => bK x k hk w
 have hk16 := Sq.hex_lt hk
 obtain ⟨H1, HC, rfl, _⟩ := hh.form
 have h0 := h
 have hk0 : ¬ ((k : Int) < 0) := by omega
 clear hk
 unfold aO at h
 have ⟨c0,c1,c2,c3,c4,c5⟩ := cs6 h
 have ⟨f0,f1,f2,f3,f4,f5⟩ := fs6 h
 have lb := aB h
 try simp [bC] at c0 c1 c2 c3 c4 c5
 refine aA Tryz.func66 rfl ?_
 intro Q_ hQ_
 simp only [Tryz.ntmps66, ents_, Nat.reduceAdd, Nat.reduceSub]
 go_wp2_with fail
 refine (hdg _).mono ?_
 rintro e w1 ⟨rfl, rfl⟩
 try go_simp
 go_upto_region 5 with (first
  | (at_builtin; refine aJ aP rfl (.tmp 15) (.tmp 19) rfl rfl (bD _ _) rfl (SlAt.src (hh.keep ((Touch.refl [] _).alloc _) (by simp)) (bL _)) (by simp) ?_; intro ad1 c1' w2 g2 hs2 ht2 hn2; simp only [List.nil_append, Nat.zero_add] at hs2 ht2)
  | (at_builtin; refine aJ aP rfl (.tmp 20) (.tmp 22) rfl rfl (hs2.keep ((Touch.refl [] _).alloc _) (by simp)) rfl (aX rfl) (by simp) ?_; intro ad3 c3' w3 g3 hs3 ht3 hn3; rw [← bE] at hs3))
 have hap := bP ht2 hn2 ht3 hn3
 obtain ⟨hT3, hg3⟩ := hap
 have hA3 : aO w3 p vo vb esc (.slice H1 _ HC) wait over := hT3.keep h0 (by simp)
 clear c0 c1 c2 c3 c4 c5 f0 f1 f2 f3 f4 f5 lb h h0 hs2 ht2 hn2 ht3 hn3 hh
 obtain ⟨kb, rfl, hgk, hkl, hC1, hC2, hcl⟩ := bJ hs3 (by omega)
 have hcl3 := hcl w3 (Touch.refl _ _)
 have hA5 := hA3
 have ⟨c0,c1,c2,c3,c4,c5⟩ := cs6 hA5
 have ⟨f0,f1,f2,f3,f4,f5⟩ := fs6 hA5
 have lb := aB hA5
 try simp [bC] at c0 c1 c2 c3 c4 c5
 clear hA5
 have q0 := hcl3 0 a rfl
 have q1 := hcl3 1 b rfl
 have q2 := hcl3 2 c rfl
 have q3 := hcl3 3 k rfl
 clear hcl3
 go_upto_region 14 with (fail)
 go_quiet (fail)
 go_wp2_with fail
 refine (hjo _).mono ?_
 rintro e w9 ⟨rfl, rfl⟩
 try go_simp
 have hOq : ∀ q, SlAt (w3.drewN q) 21 1 vo out.length (cC out) go := fun q => hO.keep (hT3.drewN q) (by simp)
 have hAq : ∀ q, aO (w3.drewN q) p vo vb esc (.slice H1 3 HC) wait over := fun q => bA hA3 q
 have hTq : ∀ q, Touch [] w (w3.drewN q) := fun q => hT3.drewN q
 go_wp2_with fail
 refine (hno2 _).mono ?_
 rintro e w9 ⟨rfl, rfl⟩
 try go_simp
 go_wp2_with (at_builtin; refine aJ dK rfl (.tmp 168) (.tmp 170) rfl rfl ((hOq _).keep ((Touch.refl [] _).alloc _) (by simp)) rfl (aX rfl) (by omega) ?_; intro ad7 c7' w7 g7 hs7 ht7 hn7; rw [← dF] at hs7; have hN7 := ht7.keep (aW (hAq _) _) hpg; have p0 := aQ hN7 0; have p2 := aQ hN7 2; have p3 := aQ hN7 3; have p4 := aQ hN7 4; have q70 := aN hN7 0; have q72 := aN hN7 2; have q73 := aN hN7 3; have q74 := aN hN7 4; have q7 := aB hN7; simp [bC] at q70 q72 q73 q74)
 refine hQ_.ret (results_tmp rfl _ _ _) rfl ?_
 have hgn : ∀ k, g7 = some k → k ≠ p := bX hn7 hg (by simp; have := aB hA3; omega)
 have hm : ∀ (W : World) (i : Nat) (v : Value), SlAt W 21 1 (.slice ad7 (out.length + 1) c7') (out.length + 1) (cC (out ++ [J])) g7 → SlAt (W.setCell ⟨p, i, none⟩ v) 21 1 (.slice ad7 (out.length + 1) c7') (out.length + 1) (cC (out ++ [J])) g7 := fun W i v h => h.keep (Touch.setCell (F := [p]) (Touch.refl _ _) (p := ⟨p, i, none⟩) (by simp) _) (fun k hk => by simpa using hgn k hk)
 refine ⟨rfl, g7, _, aF (aF (aF (aF hN7 0 _) 3 _) 2 _) 4 _, ?_, cE hn7 (by have := hT3.size; simp; omega), ?_⟩
 · rw [List.length_append, List.length_singleton]
   exact hm _ _ _ (hm _ _ _ (hm _ _ _ (hm _ _ _ hs7)))
 · exact ((((Touch.step (((hTq _).mono (by simp)).alloc _) ht7 (fun k hk => .inl (by simp at hk; simp [hk]))).setCell (by simp) _).setCell (by simp) _).setCell (by simp) _).setCell (by simp) _
end Go.Proofs.YthdncmagfgoboaaGreatDoor
end

section
namespace Go.Proofs.YthdncmagfgoboaaGreatDoor
open Go.RowKit
set_option maxRecDepth 100000
set_option maxHeartbeats 8000000
section
variable (p : Nat) (vo vh : Value) (B1 : Option Addr) (BC nb esc wait : Nat) (over : Bool) (x : UInt8) (w : World)
theorem rp_over (h : aO w p vo (.slice B1 nb BC) esc vh wait true) : Calls Tryz.prog 40 #[.pointer (some ⟨p, 0, none⟩), .int .u8 x.toNat] w fun e w' => e = .returned (.tuple #[.bool false, .int .i64 2]) ∧ w = w' := by
 unfold aO at h
 have ⟨c0,c1,c2,c3,c4,c5⟩ := cs6 h
 have ⟨f0,f1,f2,f3,f4,f5⟩ := fs6 h
 have lb := aB h
 try simp [bC] at c0 c1 c2 c3 c4 c5
 refine aA Tryz.func40 rfl ?_
 intro Q_ hQ_
 simp only [Tryz.ntmps40, ents_, Nat.reduceAdd, Nat.reduceSub]
 go_wp2
 refine hQ_.ret (results_tmp2 rfl _ _ _) rfl ?_
 exact ⟨rfl, rfl⟩
theorem rp_low (h : aO w p vo (.slice B1 nb BC) esc vh wait false) (hx : x.toNat < 32) : Calls Tryz.prog 40 #[.pointer (some ⟨p, 0, none⟩), .int .u8 x.toNat] w fun e w' => e = .returned (.tuple #[.bool false, .int .i64 2]) ∧ w = w' := by
 unfold aO at h
 have ⟨c0,c1,c2,c3,c4,c5⟩ := cs6 h
 have ⟨f0,f1,f2,f3,f4,f5⟩ := fs6 h
 have lb := aB h
 try simp [bC] at c0 c1 c2 c3 c4 c5
 refine aA Tryz.func40 rfl ?_
 intro Q_ hQ_
 simp only [Tryz.ntmps40, ents_, Nat.reduceAdd, Nat.reduceSub]
 go_wp2
 refine hQ_.ret (results_tmp2 rfl _ _ _) rfl ?_
 exact ⟨rfl, rfl⟩
theorem mP (k : Int) (R : World → Prop) (h : aO w p vo (.slice B1 nb BC) esc vh wait false) (hx : ¬ x.toNat < 32) (he : esc = 2)
 (hE : Calls Tryz.prog 66 #[.pointer (some ⟨p, 0, none⟩), .int .u8 x.toNat] w fun e w' => e = .returned (.int .i64 k) ∧ R w') :
 Calls Tryz.prog 40 #[.pointer (some ⟨p, 0, none⟩), .int .u8 x.toNat] w fun e w' => e = .returned (.tuple #[.bool false, .int .i64 k]) ∧ R w' := by
 have e1 : ((esc : Int) == 2) = true := by simp [he]
 clear he
 unfold aO at h
 have ⟨c0,c1,c2,c3,c4,c5⟩ := cs6 h
 have ⟨f0,f1,f2,f3,f4,f5⟩ := fs6 h
 have lb := aB h
 try simp [bC] at c0 c1 c2 c3 c4 c5
 refine aA Tryz.func40 rfl ?_
 intro Q_ hQ_
 simp only [Tryz.ntmps40, ents_, Nat.reduceAdd, Nat.reduceSub]
 go_wp2_with fail
 refine hE.mono ?_
 rintro e w1 ⟨rfl, hR⟩
 try go_simp
 go_wp2
 refine hQ_.ret (results_tmp2 rfl _ _ _) rfl ?_
 exact ⟨rfl, hR⟩
theorem mO (k : Int) (R : World → Prop) (h : aO w p vo (.slice B1 nb BC) esc vh wait false) (hx : ¬ x.toNat < 32) (he : esc = 1)
 (hE : Calls Tryz.prog 67 #[.pointer (some ⟨p, 0, none⟩), .int .u8 x.toNat] w fun e w' => e = .returned (.int .i64 k) ∧ R w') :
 Calls Tryz.prog 40 #[.pointer (some ⟨p, 0, none⟩), .int .u8 x.toNat] w fun e w' => e = .returned (.tuple #[.bool false, .int .i64 k]) ∧ R w' := by
 have e1 : ((esc : Int) == 2) = false := by simp [he]
 have e2 : ((esc : Int) == 1) = true := by simp [he]
 clear he
 unfold aO at h
 have ⟨c0,c1,c2,c3,c4,c5⟩ := cs6 h
 have ⟨f0,f1,f2,f3,f4,f5⟩ := fs6 h
 have lb := aB h
 try simp [bC] at c0 c1 c2 c3 c4 c5
 refine aA Tryz.func40 rfl ?_
 intro Q_ hQ_
 simp only [Tryz.ntmps40, ents_, Nat.reduceAdd, Nat.reduceSub]
 go_wp2_with fail
 refine hE.mono ?_
 rintro e w1 ⟨rfl, hR⟩
 try go_simp
 go_wp2
 refine hQ_.ret (results_tmp2 rfl _ _ _) rfl ?_
 exact ⟨rfl, hR⟩
theorem pO (k : Int) (R : World → Prop) (h : aO w p vo (.slice B1 nb BC) esc vh wait false) (hx : ¬ x.toNat < 32) (he : esc = 0) (hb : 0 < nb ∨ 128 ≤ x.toNat)
 (hE : Calls Tryz.prog 68 #[.pointer (some ⟨p, 0, none⟩), .int .u8 x.toNat] w fun e w' => e = .returned (.int .i64 k) ∧ R w') :
 Calls Tryz.prog 40 #[.pointer (some ⟨p, 0, none⟩), .int .u8 x.toNat] w fun e w' => e = .returned (.tuple #[.bool false, .int .i64 k]) ∧ R w' := by
 have e1 : ((esc : Int) == 2) = false := by simp [he]
 have e2 : ((esc : Int) == 1) = false := by simp [he]
 clear he
 by_cases h1 : 0 < nb
 · clear hb
   unfold aO at h
   have ⟨c0,c1,c2,c3,c4,c5⟩ := cs6 h
   have ⟨f0,f1,f2,f3,f4,f5⟩ := fs6 h
   have lb := aB h
   try simp [bC] at c0 c1 c2 c3 c4 c5
   refine aA Tryz.func40 rfl ?_
   intro Q_ hQ_
   simp only [Tryz.ntmps40, ents_, Nat.reduceAdd, Nat.reduceSub]
   go_wp2_with fail
   refine hE.mono ?_
   rintro e w1 ⟨rfl, hR⟩
   try go_simp
   go_wp2
   refine hQ_.ret (results_tmp2 rfl _ _ _) rfl ?_
   exact ⟨rfl, hR⟩
 · have h2 : 128 ≤ x.toNat := by omega
   clear hb
   unfold aO at h
   have ⟨c0,c1,c2,c3,c4,c5⟩ := cs6 h
   have ⟨f0,f1,f2,f3,f4,f5⟩ := fs6 h
   have lb := aB h
   try simp [bC] at c0 c1 c2 c3 c4 c5
   refine aA Tryz.func40 rfl ?_
   intro Q_ hQ_
   simp only [Tryz.ntmps40, ents_, Nat.reduceAdd, Nat.reduceSub]
   go_wp2_with fail
   refine hE.mono ?_
   rintro e w1 ⟨rfl, hR⟩
   try go_simp
   go_wp2
   refine hQ_.ret (results_tmp2 rfl _ _ _) rfl ?_
   exact ⟨rfl, hR⟩
theorem vJ (h : aO w p vo (.slice B1 nb BC) esc vh wait false) (he : esc = 0) (hb : nb = 0) : Calls Tryz.prog 40 #[.pointer (some ⟨p, 0, none⟩), .int .u8 92] w fun e w' => e = .returned (.tuple #[.bool false, .int .i64 0]) ∧ aO w' p vo (.slice B1 nb BC) 1 vh wait false ∧ Touch [p] w w' := by
 have e1 : ((esc : Int) == 2) = false := by simp [he]
 have e2 : ((esc : Int) == 1) = false := by simp [he]
 have hb0 : ¬ 0 < nb := by omega
 have h0 := h
 clear he hb
 unfold aO at h
 have ⟨c0,c1,c2,c3,c4,c5⟩ := cs6 h
 have ⟨f0,f1,f2,f3,f4,f5⟩ := fs6 h
 have lb := aB h
 try simp [bC] at c0 c1 c2 c3 c4 c5
 refine aA Tryz.func40 rfl ?_
 intro Q_ hQ_
 simp only [Tryz.ntmps40, ents_, Nat.reduceAdd, Nat.reduceSub]
 go_wp2
 refine hQ_.ret (results_tmp2 rfl _ _ _) rfl ?_
 exact ⟨rfl, aF h0 2 _, (Touch.refl _ _).setCell (by simp) _⟩
theorem rp_sur (h : aO w p vo (.slice B1 nb BC) esc vh wait false) (hx : ¬ x.toNat < 32) (he : esc = 0) (hb : nb = 0) (hx2 : ¬ 128 ≤ x.toNat) (h92 : x ≠ 92) (hw : 0 < wait) : Calls Tryz.prog 40 #[.pointer (some ⟨p, 0, none⟩), .int .u8 x.toNat] w fun e w' => e = .returned (.tuple #[.bool false, .int .i64 5]) ∧ Touch [] w w' := by
 have e1 : ((esc : Int) == 2) = false := by simp [he]
 have e2 : ((esc : Int) == 1) = false := by simp [he]
 have hb0 : ¬ 0 < nb := by omega
 have t1 : ((x.toNat : Int) == 92) = false := by
  rw [beq_eq_false_iff_ne]
  exact fun q => h92 (UInt8.toNat_inj.1 (by have : (92 : UInt8).toNat = 92 := rfl; omega))
 clear he hb h92
 unfold aO at h
 have ⟨c0,c1,c2,c3,c4,c5⟩ := cs6 h
 have ⟨f0,f1,f2,f3,f4,f5⟩ := fs6 h
 have lb := aB h
 try simp [bC] at c0 c1 c2 c3 c4 c5
 refine aA Tryz.func40 rfl ?_
 intro Q_ hQ_
 simp only [Tryz.ntmps40, ents_, Nat.reduceAdd, Nat.reduceSub]
 go_wp2
 refine hQ_.ret (results_tmp2 rfl _ _ _) rfl ?_
 exact ⟨rfl, Touch.refl _ _⟩
theorem vK (h : aO w p vo (.slice B1 nb BC) esc vh wait false) (he : esc = 0) (hb : nb = 0) (hw : ¬ 0 < wait) : Calls Tryz.prog 40 #[.pointer (some ⟨p, 0, none⟩), .int .u8 34] w fun e w' => e = .returned (.tuple #[.bool true, .int .i64 0]) ∧ aO w' p vo (.slice B1 nb BC) esc vh wait true ∧ Touch [p] w w' := by
 have e1 : ((esc : Int) == 2) = false := by simp [he]
 have e2 : ((esc : Int) == 1) = false := by simp [he]
 have hb0 : ¬ 0 < nb := by omega
 have h0 := h
 clear he hb
 unfold aO at h
 have ⟨c0,c1,c2,c3,c4,c5⟩ := cs6 h
 have ⟨f0,f1,f2,f3,f4,f5⟩ := fs6 h
 have lb := aB h
 try simp [bC] at c0 c1 c2 c3 c4 c5
 refine aA Tryz.func40 rfl ?_
 intro Q_ hQ_
 simp only [Tryz.ntmps40, ents_, Nat.reduceAdd, Nat.reduceSub]
 go_wp2
 refine hQ_.ret (results_tmp2 rfl _ _ _) rfl ?_
 exact ⟨rfl, aF h0 5 _, (Touch.refl _ _).setCell (by simp) _⟩
theorem vL (out : List Nat) (go : Option Nat) (h : aO w p vo (.slice B1 nb BC) esc vh wait false) (hO : SlAt w 21 1 vo out.length (cC out) go) (hg : ∀ k, go = some k → k ≠ p) (hl : out.length ≤ 1000000) (hx : ¬ x.toNat < 32) (he : esc = 0) (hb : nb = 0) (hx2 : ¬ 128 ≤ x.toNat) (h92 : x ≠ 92) (h34 : x ≠ 34) (hw : ¬ 0 < wait) :
 Calls Tryz.prog 40 #[.pointer (some ⟨p, 0, none⟩), .int .u8 x.toNat] w fun e w' => e = .returned (.tuple #[.bool false, .int .i64 0]) ∧ ∃ go' vo', aO w' p vo' (.slice B1 nb BC) esc vh wait false ∧ SlAt w' 21 1 vo' (out ++ [x.toNat]).length (cC (out ++ [x.toNat])) go' ∧ cK w go go' ∧ Touch (p :: go.toList) w w' := by
 have e1 : ((esc : Int) == 2) = false := by simp [he]
 have e2 : ((esc : Int) == 1) = false := by simp [he]
 have hb0 : ¬ 0 < nb := by omega
 have t1 : ((x.toNat : Int) == 92) = false := by
  rw [beq_eq_false_iff_ne]
  exact fun q => h92 (UInt8.toNat_inj.1 (by have : (92 : UInt8).toNat = 92 := rfl; omega))
 have t2 : ((x.toNat : Int) == 34) = false := by
  rw [beq_eq_false_iff_ne]
  exact fun q => h34 (UInt8.toNat_inj.1 (by have : (34 : UInt8).toNat = 34 := rfl; omega))
 have hpg : p ∉ go.toList := fun q => by
  cases go with
  | none => simp at q
  | some j => simp at q; exact hg j rfl q.symm
 have h0 := h
 have hxl := x.toNat_lt
 clear he hb h92 h34
 unfold aO at h
 have ⟨c0,c1,c2,c3,c4,c5⟩ := cs6 h
 have ⟨f0,f1,f2,f3,f4,f5⟩ := fs6 h
 have lb := aB h
 try simp [bC] at c0 c1 c2 c3 c4 c5
 refine aA Tryz.func40 rfl ?_
 intro Q_ hQ_
 simp only [Tryz.ntmps40, ents_, Nat.reduceAdd, Nat.reduceSub]
 go_wp2_with (at_builtin; refine aJ dK rfl (.tmp 69) (.tmp 72) rfl rfl (hO.keep ((Touch.refl [] _).alloc _) (by simp)) rfl (aX rfl) (by omega) ?_; intro ad7 c7' w7 g7 hs7 ht7 hn7; rw [← dF] at hs7; have hN7 := ht7.keep (aW h0 _) hpg; have p0 := aQ hN7 0; have q70 := aN hN7 0; have q7 := aB hN7; simp [bC] at q70)
 refine hQ_.ret (results_tmp2 rfl _ _ _) rfl ?_
 have hgn : ∀ k, g7 = some k → k ≠ p := bX hn7 hg (by simp; have := aB h0; omega)
 refine ⟨rfl, g7, _, aF hN7 0 _, ?_, cE hn7 (by simp), ?_⟩
 · rw [List.length_append, List.length_singleton]
   exact SlAt.keep (F := [p]) hs7 (Touch.setCell (Touch.refl _ _) (by simp) _) (fun k hk => by simpa using hgn k hk)
 · exact (Touch.step ((Touch.refl _ _).alloc _) ht7 (fun k hk => .inl (by simp at hk; simp [hk]))).setCell (by simp) _
end
end Go.Proofs.YthdncmagfgoboaaGreatDoor
end
