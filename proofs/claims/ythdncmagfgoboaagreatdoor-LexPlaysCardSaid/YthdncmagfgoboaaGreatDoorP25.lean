/- One of the texts that lead to the theorem lexPlays.proved: the conditions stand in each theorem. -/
import Derived.Test.YthdncmagfgoboaaGreatDoorP24
import Derived.Deep.Quiet
set_option linter.unusedSimpArgs false
set_option linter.unusedVariables false
namespace Go.Proofs.YthdncmagfgoboaaGreatDoor
open Go.RowKit
set_option maxRecDepth 100000
set_option maxHeartbeats 8000000
theorem qA (p : Nat) (x : UInt8) (w : World) (hk : Sq.hex x = none) :
 Calls Tryz.prog 66 #[.pointer (some ⟨p, 0, none⟩), .int .u8 x.toNat] w fun e w' => e = .returned (.int .i64 2) ∧ w = w' := by
 have hdg := fun w => tN x hk w
 clear hk
 refine aA Tryz.func66 rfl ?_
 intro Q_ hQ_
 simp only [Tryz.ntmps66, ents_, Nat.reduceAdd, Nat.reduceSub]
 go_wp2_with fail
 refine (hdg _).mono ?_
 rintro e w1 ⟨rfl, rfl⟩
 try go_simp
 go_wp2
 refine hQ_.ret (results_tmp rfl _ _ _) rfl ?_
 exact ⟨rfl, rfl⟩
theorem bJ {w : World} {A : Option Addr} {C n : Nat} {l : List Nat} {g : Option Nat} (h : SlAt w 3 1 (.slice A n C) n (dC l) g) (hn : 0 < n) :
 ∃ k, A = some ⟨k, 0, none⟩ ∧ g = some k ∧ k < w.heap.size ∧ n ≤ C ∧ C ≤ 9223372036854775807 ∧ ∀ w', Touch [] w w' → ∀ (j c : Nat), l[j]? = some c → w'.cell? ⟨k, j, none⟩ = some (.int .i64 c) := by
 obtain ⟨a, cap, e, h1, h2, h3⟩ := h.form
 injection e with e1 e2 e3
 subst e1 e3
 obtain ⟨k, hk, ha⟩ := h3 hn
 refine ⟨k, ha, hk, h.lt hk, h1, h2, fun w' t j c hc => t.cell (h.cell hk ?_) (by simp)⟩
 unfold dC
 rw [List.getElem?_map, hc]
 rfl
def DigR (p : Nat) (vo vb : Value) (esc wait : Nat) (over : Bool) (h : List Nat) (code : Nat) (w : World) (e : Ending) (w' : World) : Prop :=
 e = .returned (.int .i64 code) ∧ (code ≠ 0 → Touch [] w w') ∧ (code = 0 → ∃ vh' gh', aO w' p vo vb esc vh' wait over ∧ SlAt w' 3 1 vh' h.length (dC h) gh' ∧ (∀ k, gh' = some k → w.heap.size ≤ k) ∧ Touch [p] w w')
theorem bT {a b : Nat} (h : a = b) : ((a : Int) == (b : Int)) = true ∧ ((a : Int) != (b : Int)) = false := by subst h; simp
theorem bF {a b : Nat} (h : ¬ a = b) : ((a : Int) == (b : Int)) = false ∧ ((a : Int) != (b : Int)) = true := by
 have h1 : ((a : Int) == (b : Int)) = false := by rw [beq_eq_false_iff_ne]; omega
 exact ⟨h1, by simp [bne, h1]⟩
theorem wT {wait : Nat} (h : 0 < wait) : (wait == 0) = false ∧ ((wait : Int) == 0) = false := ⟨by rw [beq_eq_false_iff_ne]; omega, by rw [beq_eq_false_iff_ne]; omega⟩
theorem wF {wait : Nat} (h : ¬ 0 < wait) : (wait == 0) = true ∧ ((wait : Int) == 0) = true := ⟨by rw [beq_iff_eq]; omega, by rw [beq_iff_eq]; omega⟩
theorem rdg1 (p : Nat) (vo vb vh : Value) (esc wait : Nat) (over : Bool) (gh : Option Nat) (x : UInt8) (k : Nat) (w : World) (h : aO w p vo vb esc vh wait over) (hh : SlAt w 3 1 vh 0 (dC []) gh) (hk : Sq.hex x = some k) :
 Calls Tryz.prog 66 #[.pointer (some ⟨p, 0, none⟩), .int .u8 x.toNat] w (DigR p vo vb esc wait over [k] (if 0 < wait ∧ k ≠ 13 then 5 else 0) w) := by
 have hpl := aB h
 by_cases hw : 0 < wait
 · obtain ⟨e4, e5⟩ := wT hw
   by_cases h13 : k = 13
   · rw [if_neg (by simp [h13])]
     have t1 : ((k : Int) == 13) = true := (bT h13).1
     have t2 : ((k : Int) != 13) = false := (bT h13).2
     clear h13
     have hdg := fun w => bK x k hk w
     have hk16 := Sq.hex_lt hk
     obtain ⟨H1, HC, rfl, _⟩ := hh.form
     have h0 := h
     have hk0 : ¬ ((k : Int) < 0) := by omega
     clear hk
     unfold aO at h
     have ⟨c0,c1,c2,c3,c4,c5⟩ := cs6 h
     have ⟨f0,f1,f2,f3,f4,f5⟩ := fs6 h
     have lb := aB h
     try simp [bC] at c0 c1 c2 c3 c4 c5
     refine aA Tryz.func66 rfl ?_
     intro Q_ hQ_
     simp only [Tryz.ntmps66, ents_, Nat.reduceAdd, Nat.reduceSub]
     go_wp2_with fail
     refine (hdg _).mono ?_
     rintro e w1 ⟨rfl, rfl⟩
     try go_simp
     go_upto_region 5 with (first
      | (at_builtin; refine aJ aP rfl (.tmp 15) (.tmp 19) rfl rfl (bD _ _) rfl (SlAt.src (hh.keep ((Touch.refl [] _).alloc _) (by simp)) (bL _)) (by simp) ?_; intro ad1 c1' w2 g2 hs2 ht2 hn2; simp only [List.nil_append, Nat.zero_add] at hs2 ht2)
      | (at_builtin; refine aJ aP rfl (.tmp 20) (.tmp 22) rfl rfl (hs2.keep ((Touch.refl [] _).alloc _) (by simp)) rfl (aX rfl) (by simp) ?_; intro ad3 c3' w3 g3 hs3 ht3 hn3; rw [← bE] at hs3))
     have hap := bP ht2 hn2 ht3 hn3
     obtain ⟨hT3, hg3⟩ := hap
     have hA3 : aO w3 p vo vb esc (.slice H1 _ HC) wait over := hT3.keep h0 (by simp)
     clear c0 c1 c2 c3 c4 c5 f0 f1 f2 f3 f4 f5 lb h h0 hs2 ht2 hn2 ht3 hn3 hh
     obtain ⟨kb, rfl, hgk, hkl, hC1, hC2, hcl⟩ := bJ hs3 (by omega)
     have hcl3 := hcl w3 (Touch.refl _ _)
     have hA5 := hA3
     have ⟨c0,c1,c2,c3,c4,c5⟩ := cs6 hA5
     have ⟨f0,f1,f2,f3,f4,f5⟩ := fs6 hA5
     have lb := aB hA5
     try simp [bC] at c0 c1 c2 c3 c4 c5
     clear hA5
     have q0 := hcl3 0 k rfl
     clear hcl3 hcl
     go_wp2
     refine hQ_.ret (results_tmp rfl _ _ _) rfl ?_
     refine ⟨rfl, fun q => absurd rfl q, fun _ => ⟨_, g3, aF hA3 3 _, ?_, hg3, (hT3.mono (by simp)).setCell (by simp) _⟩⟩
     exact SlAt.keep (F := [p]) hs3 (Touch.setCell (Touch.refl _ _) (by simp) _) (fun j hj q => by have := hg3 j hj; rw [List.mem_singleton.1 q] at this; omega)
   · rw [if_pos ⟨hw, h13⟩]
     have t1 : ((k : Int) == 13) = false := (bF h13).1
     have t2 : ((k : Int) != 13) = true := (bF h13).2
     clear h13
     have hdg := fun w => bK x k hk w
     have hk16 := Sq.hex_lt hk
     obtain ⟨H1, HC, rfl, _⟩ := hh.form
     have h0 := h
     have hk0 : ¬ ((k : Int) < 0) := by omega
     clear hk
     unfold aO at h
     have ⟨c0,c1,c2,c3,c4,c5⟩ := cs6 h
     have ⟨f0,f1,f2,f3,f4,f5⟩ := fs6 h
     have lb := aB h
     try simp [bC] at c0 c1 c2 c3 c4 c5
     refine aA Tryz.func66 rfl ?_
     intro Q_ hQ_
     simp only [Tryz.ntmps66, ents_, Nat.reduceAdd, Nat.reduceSub]
     go_wp2_with fail
     refine (hdg _).mono ?_
     rintro e w1 ⟨rfl, rfl⟩
     try go_simp
     go_upto_region 5 with (first
      | (at_builtin; refine aJ aP rfl (.tmp 15) (.tmp 19) rfl rfl (bD _ _) rfl (SlAt.src (hh.keep ((Touch.refl [] _).alloc _) (by simp)) (bL _)) (by simp) ?_; intro ad1 c1' w2 g2 hs2 ht2 hn2; simp only [List.nil_append, Nat.zero_add] at hs2 ht2)
      | (at_builtin; refine aJ aP rfl (.tmp 20) (.tmp 22) rfl rfl (hs2.keep ((Touch.refl [] _).alloc _) (by simp)) rfl (aX rfl) (by simp) ?_; intro ad3 c3' w3 g3 hs3 ht3 hn3; rw [← bE] at hs3))
     have hap := bP ht2 hn2 ht3 hn3
     obtain ⟨hT3, hg3⟩ := hap
     have hA3 : aO w3 p vo vb esc (.slice H1 _ HC) wait over := hT3.keep h0 (by simp)
     clear c0 c1 c2 c3 c4 c5 f0 f1 f2 f3 f4 f5 lb h h0 hs2 ht2 hn2 ht3 hn3 hh
     obtain ⟨kb, rfl, hgk, hkl, hC1, hC2, hcl⟩ := bJ hs3 (by omega)
     have hcl3 := hcl w3 (Touch.refl _ _)
     have hA5 := hA3
     have ⟨c0,c1,c2,c3,c4,c5⟩ := cs6 hA5
     have ⟨f0,f1,f2,f3,f4,f5⟩ := fs6 hA5
     have lb := aB hA5
     try simp [bC] at c0 c1 c2 c3 c4 c5
     clear hA5
     have q0 := hcl3 0 k rfl
     clear hcl3 hcl
     go_wp2
     refine hQ_.ret (results_tmp rfl _ _ _) rfl ?_
     exact ⟨rfl, fun _ => hT3, fun q => absurd q (by decide)⟩
 · obtain ⟨e4, e5⟩ := wF hw
   rw [if_neg (by simp [hw])]
   have hdg := fun w => bK x k hk w
   have hk16 := Sq.hex_lt hk
   obtain ⟨H1, HC, rfl, _⟩ := hh.form
   have h0 := h
   have hk0 : ¬ ((k : Int) < 0) := by omega
   clear hk
   unfold aO at h
   have ⟨c0,c1,c2,c3,c4,c5⟩ := cs6 h
   have ⟨f0,f1,f2,f3,f4,f5⟩ := fs6 h
   have lb := aB h
   try simp [bC] at c0 c1 c2 c3 c4 c5
   refine aA Tryz.func66 rfl ?_
   intro Q_ hQ_
   simp only [Tryz.ntmps66, ents_, Nat.reduceAdd, Nat.reduceSub]
   go_wp2_with fail
   refine (hdg _).mono ?_
   rintro e w1 ⟨rfl, rfl⟩
   try go_simp
   go_upto_region 5 with (first
    | (at_builtin; refine aJ aP rfl (.tmp 15) (.tmp 19) rfl rfl (bD _ _) rfl (SlAt.src (hh.keep ((Touch.refl [] _).alloc _) (by simp)) (bL _)) (by simp) ?_; intro ad1 c1' w2 g2 hs2 ht2 hn2; simp only [List.nil_append, Nat.zero_add] at hs2 ht2)
    | (at_builtin; refine aJ aP rfl (.tmp 20) (.tmp 22) rfl rfl (hs2.keep ((Touch.refl [] _).alloc _) (by simp)) rfl (aX rfl) (by simp) ?_; intro ad3 c3' w3 g3 hs3 ht3 hn3; rw [← bE] at hs3))
   have hap := bP ht2 hn2 ht3 hn3
   obtain ⟨hT3, hg3⟩ := hap
   have hA3 : aO w3 p vo vb esc (.slice H1 _ HC) wait over := hT3.keep h0 (by simp)
   clear c0 c1 c2 c3 c4 c5 f0 f1 f2 f3 f4 f5 lb h h0 hs2 ht2 hn2 ht3 hn3 hh
   obtain ⟨kb, rfl, hgk, hkl, hC1, hC2, hcl⟩ := bJ hs3 (by omega)
   have hcl3 := hcl w3 (Touch.refl _ _)
   have hA5 := hA3
   have ⟨c0,c1,c2,c3,c4,c5⟩ := cs6 hA5
   have ⟨f0,f1,f2,f3,f4,f5⟩ := fs6 hA5
   have lb := aB hA5
   try simp [bC] at c0 c1 c2 c3 c4 c5
   clear hA5
   have q0 := hcl3 0 k rfl
   clear hcl3 hcl
   go_wp2
   refine hQ_.ret (results_tmp rfl _ _ _) rfl ?_
   refine ⟨rfl, fun q => absurd rfl q, fun _ => ⟨_, g3, aF hA3 3 _, ?_, hg3, (hT3.mono (by simp)).setCell (by simp) _⟩⟩
   exact SlAt.keep (F := [p]) hs3 (Touch.setCell (Touch.refl _ _) (by simp) _) (fun j hj q => by have := hg3 j hj; rw [List.mem_singleton.1 q] at this; omega)
theorem rdg2 (p : Nat) (vo vb vh : Value) (esc wait : Nat) (over : Bool) (gh : Option Nat) (x : UInt8) (a k code : Nat) (w : World) (h : aO w p vo vb esc vh wait over) (hh : SlAt w 3 1 vh 1 (dC [a]) gh) (hk : Sq.hex x = some k) (hcode : code = if (0 < wait ∧ (a ≠ 13 ∨ ¬ 12 ≤ k)) ∨ (¬ 0 < wait ∧ a = 13 ∧ 12 ≤ k) then 5 else 0) :
 Calls Tryz.prog 66 #[.pointer (some ⟨p, 0, none⟩), .int .u8 x.toNat] w (DigR p vo vb esc wait over [a, k] code w) := by
 have hpl := aB h
 by_cases hw : 0 < wait
 · obtain ⟨e4, e5⟩ := wT hw
   by_cases h13 : a = 13
   · have h13a : ((a : Int) == 13) = true := (bT h13).1
     have h13b : ((a : Int) != 13) = false := (bT h13).2
     by_cases hlo : 12 ≤ k
     · have hlo2 : decide ((12 : Int) ≤ (k : Int)) = true := by simp; omega
       have hc : code = 0 := by rw [hcode]; simp [hw, h13, hlo]
       rw [hc]
       clear hc hcode h13
       have hdg := fun w => bK x k hk w
       have hk16 := Sq.hex_lt hk
       obtain ⟨H1, HC, rfl, _⟩ := hh.form
       have h0 := h
       have hk0 : ¬ ((k : Int) < 0) := by omega
       clear hk
       unfold aO at h
       have ⟨c0,c1,c2,c3,c4,c5⟩ := cs6 h
       have ⟨f0,f1,f2,f3,f4,f5⟩ := fs6 h
       have lb := aB h
       try simp [bC] at c0 c1 c2 c3 c4 c5
       refine aA Tryz.func66 rfl ?_
       intro Q_ hQ_
       simp only [Tryz.ntmps66, ents_, Nat.reduceAdd, Nat.reduceSub]
       go_wp2_with fail
       refine (hdg _).mono ?_
       rintro e w1 ⟨rfl, rfl⟩
       try go_simp
       go_upto_region 5 with (first
        | (at_builtin; refine aJ aP rfl (.tmp 15) (.tmp 19) rfl rfl (bD _ _) rfl (SlAt.src (hh.keep ((Touch.refl [] _).alloc _) (by simp)) (bL _)) (by simp) ?_; intro ad1 c1' w2 g2 hs2 ht2 hn2; simp only [List.nil_append, Nat.zero_add] at hs2 ht2)
        | (at_builtin; refine aJ aP rfl (.tmp 20) (.tmp 22) rfl rfl (hs2.keep ((Touch.refl [] _).alloc _) (by simp)) rfl (aX rfl) (by simp) ?_; intro ad3 c3' w3 g3 hs3 ht3 hn3; rw [← bE] at hs3))
       have hap := bP ht2 hn2 ht3 hn3
       obtain ⟨hT3, hg3⟩ := hap
       have hA3 : aO w3 p vo vb esc (.slice H1 _ HC) wait over := hT3.keep h0 (by simp)
       clear c0 c1 c2 c3 c4 c5 f0 f1 f2 f3 f4 f5 lb h h0 hs2 ht2 hn2 ht3 hn3 hh
       obtain ⟨kb, rfl, hgk, hkl, hC1, hC2, hcl⟩ := bJ hs3 (by omega)
       have hcl3 := hcl w3 (Touch.refl _ _)
       have hA5 := hA3
       have ⟨c0,c1,c2,c3,c4,c5⟩ := cs6 hA5
       have ⟨f0,f1,f2,f3,f4,f5⟩ := fs6 hA5
       have lb := aB hA5
       try simp [bC] at c0 c1 c2 c3 c4 c5
       clear hA5
       have q0 := hcl3 0 a rfl
       have q1 := hcl3 1 k rfl
       clear hcl3 hcl
       go_wp2
       refine hQ_.ret (results_tmp rfl _ _ _) rfl ?_
       refine ⟨rfl, fun q => absurd rfl q, fun _ => ⟨_, g3, aF hA3 3 _, ?_, hg3, (hT3.mono (by simp)).setCell (by simp) _⟩⟩
       exact SlAt.keep (F := [p]) hs3 (Touch.setCell (Touch.refl _ _) (by simp) _) (fun j hj q => by have := hg3 j hj; rw [List.mem_singleton.1 q] at this; omega)
     · have hlo2 : decide ((12 : Int) ≤ (k : Int)) = false := by simp; omega
       have hc : code = 5 := by rw [hcode]; simp [hw, h13, hlo]
       rw [hc]
       clear hc hcode h13
       have hdg := fun w => bK x k hk w
       have hk16 := Sq.hex_lt hk
       obtain ⟨H1, HC, rfl, _⟩ := hh.form
       have h0 := h
       have hk0 : ¬ ((k : Int) < 0) := by omega
       clear hk
       unfold aO at h
       have ⟨c0,c1,c2,c3,c4,c5⟩ := cs6 h
       have ⟨f0,f1,f2,f3,f4,f5⟩ := fs6 h
       have lb := aB h
       try simp [bC] at c0 c1 c2 c3 c4 c5
       refine aA Tryz.func66 rfl ?_
       intro Q_ hQ_
       simp only [Tryz.ntmps66, ents_, Nat.reduceAdd, Nat.reduceSub]
       go_wp2_with fail
       refine (hdg _).mono ?_
       rintro e w1 ⟨rfl, rfl⟩
       try go_simp
       go_upto_region 5 with (first
        | (at_builtin; refine aJ aP rfl (.tmp 15) (.tmp 19) rfl rfl (bD _ _) rfl (SlAt.src (hh.keep ((Touch.refl [] _).alloc _) (by simp)) (bL _)) (by simp) ?_; intro ad1 c1' w2 g2 hs2 ht2 hn2; simp only [List.nil_append, Nat.zero_add] at hs2 ht2)
        | (at_builtin; refine aJ aP rfl (.tmp 20) (.tmp 22) rfl rfl (hs2.keep ((Touch.refl [] _).alloc _) (by simp)) rfl (aX rfl) (by simp) ?_; intro ad3 c3' w3 g3 hs3 ht3 hn3; rw [← bE] at hs3))
       have hap := bP ht2 hn2 ht3 hn3
       obtain ⟨hT3, hg3⟩ := hap
       have hA3 : aO w3 p vo vb esc (.slice H1 _ HC) wait over := hT3.keep h0 (by simp)
       clear c0 c1 c2 c3 c4 c5 f0 f1 f2 f3 f4 f5 lb h h0 hs2 ht2 hn2 ht3 hn3 hh
       obtain ⟨kb, rfl, hgk, hkl, hC1, hC2, hcl⟩ := bJ hs3 (by omega)
       have hcl3 := hcl w3 (Touch.refl _ _)
       have hA5 := hA3
       have ⟨c0,c1,c2,c3,c4,c5⟩ := cs6 hA5
       have ⟨f0,f1,f2,f3,f4,f5⟩ := fs6 hA5
       have lb := aB hA5
       try simp [bC] at c0 c1 c2 c3 c4 c5
       clear hA5
       have q0 := hcl3 0 a rfl
       have q1 := hcl3 1 k rfl
       clear hcl3 hcl
       go_wp2
       refine hQ_.ret (results_tmp rfl _ _ _) rfl ?_
       exact ⟨rfl, fun _ => hT3, fun q => absurd q (by decide)⟩
   · have h13a : ((a : Int) == 13) = false := (bF h13).1
     have h13b : ((a : Int) != 13) = true := (bF h13).2
     have hc : code = 5 := by rw [hcode]; simp [hw, h13]
     rw [hc]
     clear hc hcode h13
     have hdg := fun w => bK x k hk w
     have hk16 := Sq.hex_lt hk
     obtain ⟨H1, HC, rfl, _⟩ := hh.form
     have h0 := h
     have hk0 : ¬ ((k : Int) < 0) := by omega
     clear hk
     unfold aO at h
     have ⟨c0,c1,c2,c3,c4,c5⟩ := cs6 h
     have ⟨f0,f1,f2,f3,f4,f5⟩ := fs6 h
     have lb := aB h
     try simp [bC] at c0 c1 c2 c3 c4 c5
     refine aA Tryz.func66 rfl ?_
     intro Q_ hQ_
     simp only [Tryz.ntmps66, ents_, Nat.reduceAdd, Nat.reduceSub]
     go_wp2_with fail
     refine (hdg _).mono ?_
     rintro e w1 ⟨rfl, rfl⟩
     try go_simp
     go_upto_region 5 with (first
      | (at_builtin; refine aJ aP rfl (.tmp 15) (.tmp 19) rfl rfl (bD _ _) rfl (SlAt.src (hh.keep ((Touch.refl [] _).alloc _) (by simp)) (bL _)) (by simp) ?_; intro ad1 c1' w2 g2 hs2 ht2 hn2; simp only [List.nil_append, Nat.zero_add] at hs2 ht2)
      | (at_builtin; refine aJ aP rfl (.tmp 20) (.tmp 22) rfl rfl (hs2.keep ((Touch.refl [] _).alloc _) (by simp)) rfl (aX rfl) (by simp) ?_; intro ad3 c3' w3 g3 hs3 ht3 hn3; rw [← bE] at hs3))
     have hap := bP ht2 hn2 ht3 hn3
     obtain ⟨hT3, hg3⟩ := hap
     have hA3 : aO w3 p vo vb esc (.slice H1 _ HC) wait over := hT3.keep h0 (by simp)
     clear c0 c1 c2 c3 c4 c5 f0 f1 f2 f3 f4 f5 lb h h0 hs2 ht2 hn2 ht3 hn3 hh
     obtain ⟨kb, rfl, hgk, hkl, hC1, hC2, hcl⟩ := bJ hs3 (by omega)
     have hcl3 := hcl w3 (Touch.refl _ _)
     have hA5 := hA3
     have ⟨c0,c1,c2,c3,c4,c5⟩ := cs6 hA5
     have ⟨f0,f1,f2,f3,f4,f5⟩ := fs6 hA5
     have lb := aB hA5
     try simp [bC] at c0 c1 c2 c3 c4 c5
     clear hA5
     have q0 := hcl3 0 a rfl
     have q1 := hcl3 1 k rfl
     clear hcl3 hcl
     go_wp2
     refine hQ_.ret (results_tmp rfl _ _ _) rfl ?_
     exact ⟨rfl, fun _ => hT3, fun q => absurd q (by decide)⟩
 · obtain ⟨e4, e5⟩ := wF hw
   by_cases h13 : a = 13
   · have h13a : ((a : Int) == 13) = true := (bT h13).1
     have h13b : ((a : Int) != 13) = false := (bT h13).2
     by_cases hlo : 12 ≤ k
     · have hlo2 : decide ((12 : Int) ≤ (k : Int)) = true := by simp; omega
       have hc : code = 5 := by rw [hcode]; simp [hw, h13, hlo]
       rw [hc]
       clear hc hcode h13
       have hdg := fun w => bK x k hk w
       have hk16 := Sq.hex_lt hk
       obtain ⟨H1, HC, rfl, _⟩ := hh.form
       have h0 := h
       have hk0 : ¬ ((k : Int) < 0) := by omega
       clear hk
       unfold aO at h
       have ⟨c0,c1,c2,c3,c4,c5⟩ := cs6 h
       have ⟨f0,f1,f2,f3,f4,f5⟩ := fs6 h
       have lb := aB h
       try simp [bC] at c0 c1 c2 c3 c4 c5
       refine aA Tryz.func66 rfl ?_
       intro Q_ hQ_
       simp only [Tryz.ntmps66, ents_, Nat.reduceAdd, Nat.reduceSub]
       go_wp2_with fail
       refine (hdg _).mono ?_
       rintro e w1 ⟨rfl, rfl⟩
       try go_simp
       go_upto_region 5 with (first
        | (at_builtin; refine aJ aP rfl (.tmp 15) (.tmp 19) rfl rfl (bD _ _) rfl (SlAt.src (hh.keep ((Touch.refl [] _).alloc _) (by simp)) (bL _)) (by simp) ?_; intro ad1 c1' w2 g2 hs2 ht2 hn2; simp only [List.nil_append, Nat.zero_add] at hs2 ht2)
        | (at_builtin; refine aJ aP rfl (.tmp 20) (.tmp 22) rfl rfl (hs2.keep ((Touch.refl [] _).alloc _) (by simp)) rfl (aX rfl) (by simp) ?_; intro ad3 c3' w3 g3 hs3 ht3 hn3; rw [← bE] at hs3))
       have hap := bP ht2 hn2 ht3 hn3
       obtain ⟨hT3, hg3⟩ := hap
       have hA3 : aO w3 p vo vb esc (.slice H1 _ HC) wait over := hT3.keep h0 (by simp)
       clear c0 c1 c2 c3 c4 c5 f0 f1 f2 f3 f4 f5 lb h h0 hs2 ht2 hn2 ht3 hn3 hh
       obtain ⟨kb, rfl, hgk, hkl, hC1, hC2, hcl⟩ := bJ hs3 (by omega)
       have hcl3 := hcl w3 (Touch.refl _ _)
       have hA5 := hA3
       have ⟨c0,c1,c2,c3,c4,c5⟩ := cs6 hA5
       have ⟨f0,f1,f2,f3,f4,f5⟩ := fs6 hA5
       have lb := aB hA5
       try simp [bC] at c0 c1 c2 c3 c4 c5
       clear hA5
       have q0 := hcl3 0 a rfl
       have q1 := hcl3 1 k rfl
       clear hcl3 hcl
       go_wp2
       refine hQ_.ret (results_tmp rfl _ _ _) rfl ?_
       exact ⟨rfl, fun _ => hT3, fun q => absurd q (by decide)⟩
     · have hlo2 : decide ((12 : Int) ≤ (k : Int)) = false := by simp; omega
       have hc : code = 0 := by rw [hcode]; simp [hw, h13, hlo]
       rw [hc]
       clear hc hcode h13
       have hdg := fun w => bK x k hk w
       have hk16 := Sq.hex_lt hk
       obtain ⟨H1, HC, rfl, _⟩ := hh.form
       have h0 := h
       have hk0 : ¬ ((k : Int) < 0) := by omega
       clear hk
       unfold aO at h
       have ⟨c0,c1,c2,c3,c4,c5⟩ := cs6 h
       have ⟨f0,f1,f2,f3,f4,f5⟩ := fs6 h
       have lb := aB h
       try simp [bC] at c0 c1 c2 c3 c4 c5
       refine aA Tryz.func66 rfl ?_
       intro Q_ hQ_
       simp only [Tryz.ntmps66, ents_, Nat.reduceAdd, Nat.reduceSub]
       go_wp2_with fail
       refine (hdg _).mono ?_
       rintro e w1 ⟨rfl, rfl⟩
       try go_simp
       go_upto_region 5 with (first
        | (at_builtin; refine aJ aP rfl (.tmp 15) (.tmp 19) rfl rfl (bD _ _) rfl (SlAt.src (hh.keep ((Touch.refl [] _).alloc _) (by simp)) (bL _)) (by simp) ?_; intro ad1 c1' w2 g2 hs2 ht2 hn2; simp only [List.nil_append, Nat.zero_add] at hs2 ht2)
        | (at_builtin; refine aJ aP rfl (.tmp 20) (.tmp 22) rfl rfl (hs2.keep ((Touch.refl [] _).alloc _) (by simp)) rfl (aX rfl) (by simp) ?_; intro ad3 c3' w3 g3 hs3 ht3 hn3; rw [← bE] at hs3))
       have hap := bP ht2 hn2 ht3 hn3
       obtain ⟨hT3, hg3⟩ := hap
       have hA3 : aO w3 p vo vb esc (.slice H1 _ HC) wait over := hT3.keep h0 (by simp)
       clear c0 c1 c2 c3 c4 c5 f0 f1 f2 f3 f4 f5 lb h h0 hs2 ht2 hn2 ht3 hn3 hh
       obtain ⟨kb, rfl, hgk, hkl, hC1, hC2, hcl⟩ := bJ hs3 (by omega)
       have hcl3 := hcl w3 (Touch.refl _ _)
       have hA5 := hA3
       have ⟨c0,c1,c2,c3,c4,c5⟩ := cs6 hA5
       have ⟨f0,f1,f2,f3,f4,f5⟩ := fs6 hA5
       have lb := aB hA5
       try simp [bC] at c0 c1 c2 c3 c4 c5
       clear hA5
       have q0 := hcl3 0 a rfl
       have q1 := hcl3 1 k rfl
       clear hcl3 hcl
       go_wp2
       refine hQ_.ret (results_tmp rfl _ _ _) rfl ?_
       refine ⟨rfl, fun q => absurd rfl q, fun _ => ⟨_, g3, aF hA3 3 _, ?_, hg3, (hT3.mono (by simp)).setCell (by simp) _⟩⟩
       exact SlAt.keep (F := [p]) hs3 (Touch.setCell (Touch.refl _ _) (by simp) _) (fun j hj q => by have := hg3 j hj; rw [List.mem_singleton.1 q] at this; omega)
   · have h13a : ((a : Int) == 13) = false := (bF h13).1
     have h13b : ((a : Int) != 13) = true := (bF h13).2
     have hc : code = 0 := by rw [hcode]; simp [hw, h13]
     rw [hc]
     clear hc hcode h13
     have hdg := fun w => bK x k hk w
     have hk16 := Sq.hex_lt hk
     obtain ⟨H1, HC, rfl, _⟩ := hh.form
     have h0 := h
     have hk0 : ¬ ((k : Int) < 0) := by omega
     clear hk
     unfold aO at h
     have ⟨c0,c1,c2,c3,c4,c5⟩ := cs6 h
     have ⟨f0,f1,f2,f3,f4,f5⟩ := fs6 h
     have lb := aB h
     try simp [bC] at c0 c1 c2 c3 c4 c5
     refine aA Tryz.func66 rfl ?_
     intro Q_ hQ_
     simp only [Tryz.ntmps66, ents_, Nat.reduceAdd, Nat.reduceSub]
     go_wp2_with fail
     refine (hdg _).mono ?_
     rintro e w1 ⟨rfl, rfl⟩
     try go_simp
     go_upto_region 5 with (first
      | (at_builtin; refine aJ aP rfl (.tmp 15) (.tmp 19) rfl rfl (bD _ _) rfl (SlAt.src (hh.keep ((Touch.refl [] _).alloc _) (by simp)) (bL _)) (by simp) ?_; intro ad1 c1' w2 g2 hs2 ht2 hn2; simp only [List.nil_append, Nat.zero_add] at hs2 ht2)
      | (at_builtin; refine aJ aP rfl (.tmp 20) (.tmp 22) rfl rfl (hs2.keep ((Touch.refl [] _).alloc _) (by simp)) rfl (aX rfl) (by simp) ?_; intro ad3 c3' w3 g3 hs3 ht3 hn3; rw [← bE] at hs3))
     have hap := bP ht2 hn2 ht3 hn3
     obtain ⟨hT3, hg3⟩ := hap
     have hA3 : aO w3 p vo vb esc (.slice H1 _ HC) wait over := hT3.keep h0 (by simp)
     clear c0 c1 c2 c3 c4 c5 f0 f1 f2 f3 f4 f5 lb h h0 hs2 ht2 hn2 ht3 hn3 hh
     obtain ⟨kb, rfl, hgk, hkl, hC1, hC2, hcl⟩ := bJ hs3 (by omega)
     have hcl3 := hcl w3 (Touch.refl _ _)
     have hA5 := hA3
     have ⟨c0,c1,c2,c3,c4,c5⟩ := cs6 hA5
     have ⟨f0,f1,f2,f3,f4,f5⟩ := fs6 hA5
     have lb := aB hA5
     try simp [bC] at c0 c1 c2 c3 c4 c5
     clear hA5
     have q0 := hcl3 0 a rfl
     have q1 := hcl3 1 k rfl
     clear hcl3 hcl
     go_wp2
     refine hQ_.ret (results_tmp rfl _ _ _) rfl ?_
     refine ⟨rfl, fun q => absurd rfl q, fun _ => ⟨_, g3, aF hA3 3 _, ?_, hg3, (hT3.mono (by simp)).setCell (by simp) _⟩⟩
     exact SlAt.keep (F := [p]) hs3 (Touch.setCell (Touch.refl _ _) (by simp) _) (fun j hj q => by have := hg3 j hj; rw [List.mem_singleton.1 q] at this; omega)
theorem rdg3 (p : Nat) (vo vb vh : Value) (esc wait : Nat) (over : Bool) (gh : Option Nat) (x : UInt8) (a b k code : Nat) (w : World) (h : aO w p vo vb esc vh wait over) (hh : SlAt w 3 1 vh 2 (dC [a, b]) gh) (hk : Sq.hex x = some k) (hcode : code = if (0 < wait ∧ (a ≠ 13 ∨ ¬ 12 ≤ b)) ∨ (¬ 0 < wait ∧ a = 13 ∧ 12 ≤ b) then 5 else if ¬ 0 < wait ∧ a = 15 ∧ b = 13 ∧ (k = 13 ∨ k = 14) then 6 else 0) :
 Calls Tryz.prog 66 #[.pointer (some ⟨p, 0, none⟩), .int .u8 x.toNat] w (DigR p vo vb esc wait over [a, b, k] code w) := by
 have hpl := aB h
 by_cases hw : 0 < wait
 · obtain ⟨e4, e5⟩ := wT hw
   by_cases h13 : a = 13
   · have h13a : ((a : Int) == 13) = true := (bT h13).1
     have h13b : ((a : Int) != 13) = false := (bT h13).2
     by_cases hlo : 12 ≤ b
     · have hlo2 : decide ((12 : Int) ≤ (b : Int)) = true := by simp; omega
       have n15 : ¬ a = 15 := by omega
       have n15a : ((a : Int) == 15) = false := (bF n15).1
       have n15b : ((a : Int) != 15) = true := (bF n15).2
       have hc : code = 0 := by rw [hcode]; simp [hw, h13, hlo]
       rw [hc]
       clear hc hcode h13 n15
       have hdg := fun w => bK x k hk w
       have hk16 := Sq.hex_lt hk
       obtain ⟨H1, HC, rfl, _⟩ := hh.form
       have h0 := h
       have hk0 : ¬ ((k : Int) < 0) := by omega
       clear hk
       unfold aO at h
       have ⟨c0,c1,c2,c3,c4,c5⟩ := cs6 h
       have ⟨f0,f1,f2,f3,f4,f5⟩ := fs6 h
       have lb := aB h
       try simp [bC] at c0 c1 c2 c3 c4 c5
       refine aA Tryz.func66 rfl ?_
       intro Q_ hQ_
       simp only [Tryz.ntmps66, ents_, Nat.reduceAdd, Nat.reduceSub]
       go_wp2_with fail
       refine (hdg _).mono ?_
       rintro e w1 ⟨rfl, rfl⟩
       try go_simp
       go_upto_region 5 with (first
        | (at_builtin; refine aJ aP rfl (.tmp 15) (.tmp 19) rfl rfl (bD _ _) rfl (SlAt.src (hh.keep ((Touch.refl [] _).alloc _) (by simp)) (bL _)) (by simp) ?_; intro ad1 c1' w2 g2 hs2 ht2 hn2; simp only [List.nil_append, Nat.zero_add] at hs2 ht2)
        | (at_builtin; refine aJ aP rfl (.tmp 20) (.tmp 22) rfl rfl (hs2.keep ((Touch.refl [] _).alloc _) (by simp)) rfl (aX rfl) (by simp) ?_; intro ad3 c3' w3 g3 hs3 ht3 hn3; rw [← bE] at hs3))
       have hap := bP ht2 hn2 ht3 hn3
       obtain ⟨hT3, hg3⟩ := hap
       have hA3 : aO w3 p vo vb esc (.slice H1 _ HC) wait over := hT3.keep h0 (by simp)
       clear c0 c1 c2 c3 c4 c5 f0 f1 f2 f3 f4 f5 lb h h0 hs2 ht2 hn2 ht3 hn3 hh
       obtain ⟨kb, rfl, hgk, hkl, hC1, hC2, hcl⟩ := bJ hs3 (by omega)
       have hcl3 := hcl w3 (Touch.refl _ _)
       have hA5 := hA3
       have ⟨c0,c1,c2,c3,c4,c5⟩ := cs6 hA5
       have ⟨f0,f1,f2,f3,f4,f5⟩ := fs6 hA5
       have lb := aB hA5
       try simp [bC] at c0 c1 c2 c3 c4 c5
       clear hA5
       have q0 := hcl3 0 a rfl
       have q1 := hcl3 1 b rfl
       have q2 := hcl3 2 k rfl
       clear hcl3 hcl
       go_wp2
       refine hQ_.ret (results_tmp rfl _ _ _) rfl ?_
       refine ⟨rfl, fun q => absurd rfl q, fun _ => ⟨_, g3, aF hA3 3 _, ?_, hg3, (hT3.mono (by simp)).setCell (by simp) _⟩⟩
       exact SlAt.keep (F := [p]) hs3 (Touch.setCell (Touch.refl _ _) (by simp) _) (fun j hj q => by have := hg3 j hj; rw [List.mem_singleton.1 q] at this; omega)
     · have hlo2 : decide ((12 : Int) ≤ (b : Int)) = false := by simp; omega
       have n15 : ¬ a = 15 := by omega
       have n15a : ((a : Int) == 15) = false := (bF n15).1
       have n15b : ((a : Int) != 15) = true := (bF n15).2
       have hc : code = 5 := by rw [hcode]; simp [hw, h13, hlo]
       rw [hc]
       clear hc hcode h13 n15
       have hdg := fun w => bK x k hk w
       have hk16 := Sq.hex_lt hk
       obtain ⟨H1, HC, rfl, _⟩ := hh.form
       have h0 := h
       have hk0 : ¬ ((k : Int) < 0) := by omega
       clear hk
       unfold aO at h
       have ⟨c0,c1,c2,c3,c4,c5⟩ := cs6 h
       have ⟨f0,f1,f2,f3,f4,f5⟩ := fs6 h
       have lb := aB h
       try simp [bC] at c0 c1 c2 c3 c4 c5
       refine aA Tryz.func66 rfl ?_
       intro Q_ hQ_
       simp only [Tryz.ntmps66, ents_, Nat.reduceAdd, Nat.reduceSub]
       go_wp2_with fail
       refine (hdg _).mono ?_
       rintro e w1 ⟨rfl, rfl⟩
       try go_simp
       go_upto_region 5 with (first
        | (at_builtin; refine aJ aP rfl (.tmp 15) (.tmp 19) rfl rfl (bD _ _) rfl (SlAt.src (hh.keep ((Touch.refl [] _).alloc _) (by simp)) (bL _)) (by simp) ?_; intro ad1 c1' w2 g2 hs2 ht2 hn2; simp only [List.nil_append, Nat.zero_add] at hs2 ht2)
        | (at_builtin; refine aJ aP rfl (.tmp 20) (.tmp 22) rfl rfl (hs2.keep ((Touch.refl [] _).alloc _) (by simp)) rfl (aX rfl) (by simp) ?_; intro ad3 c3' w3 g3 hs3 ht3 hn3; rw [← bE] at hs3))
       have hap := bP ht2 hn2 ht3 hn3
       obtain ⟨hT3, hg3⟩ := hap
       have hA3 : aO w3 p vo vb esc (.slice H1 _ HC) wait over := hT3.keep h0 (by simp)
       clear c0 c1 c2 c3 c4 c5 f0 f1 f2 f3 f4 f5 lb h h0 hs2 ht2 hn2 ht3 hn3 hh
       obtain ⟨kb, rfl, hgk, hkl, hC1, hC2, hcl⟩ := bJ hs3 (by omega)
       have hcl3 := hcl w3 (Touch.refl _ _)
       have hA5 := hA3
       have ⟨c0,c1,c2,c3,c4,c5⟩ := cs6 hA5
       have ⟨f0,f1,f2,f3,f4,f5⟩ := fs6 hA5
       have lb := aB hA5
       try simp [bC] at c0 c1 c2 c3 c4 c5
       clear hA5
       have q0 := hcl3 0 a rfl
       have q1 := hcl3 1 b rfl
       have q2 := hcl3 2 k rfl
       clear hcl3 hcl
       go_wp2
       refine hQ_.ret (results_tmp rfl _ _ _) rfl ?_
       exact ⟨rfl, fun _ => hT3, fun q => absurd q (by decide)⟩
   · have h13a : ((a : Int) == 13) = false := (bF h13).1
     have h13b : ((a : Int) != 13) = true := (bF h13).2
     have hc : code = 5 := by rw [hcode]; simp [hw, h13]
     rw [hc]
     clear hc hcode h13
     have hdg := fun w => bK x k hk w
     have hk16 := Sq.hex_lt hk
     obtain ⟨H1, HC, rfl, _⟩ := hh.form
     have h0 := h
     have hk0 : ¬ ((k : Int) < 0) := by omega
     clear hk
     unfold aO at h
     have ⟨c0,c1,c2,c3,c4,c5⟩ := cs6 h
     have ⟨f0,f1,f2,f3,f4,f5⟩ := fs6 h
     have lb := aB h
     try simp [bC] at c0 c1 c2 c3 c4 c5
     refine aA Tryz.func66 rfl ?_
     intro Q_ hQ_
     simp only [Tryz.ntmps66, ents_, Nat.reduceAdd, Nat.reduceSub]
     go_wp2_with fail
     refine (hdg _).mono ?_
     rintro e w1 ⟨rfl, rfl⟩
     try go_simp
     go_upto_region 5 with (first
      | (at_builtin; refine aJ aP rfl (.tmp 15) (.tmp 19) rfl rfl (bD _ _) rfl (SlAt.src (hh.keep ((Touch.refl [] _).alloc _) (by simp)) (bL _)) (by simp) ?_; intro ad1 c1' w2 g2 hs2 ht2 hn2; simp only [List.nil_append, Nat.zero_add] at hs2 ht2)
      | (at_builtin; refine aJ aP rfl (.tmp 20) (.tmp 22) rfl rfl (hs2.keep ((Touch.refl [] _).alloc _) (by simp)) rfl (aX rfl) (by simp) ?_; intro ad3 c3' w3 g3 hs3 ht3 hn3; rw [← bE] at hs3))
     have hap := bP ht2 hn2 ht3 hn3
     obtain ⟨hT3, hg3⟩ := hap
     have hA3 : aO w3 p vo vb esc (.slice H1 _ HC) wait over := hT3.keep h0 (by simp)
     clear c0 c1 c2 c3 c4 c5 f0 f1 f2 f3 f4 f5 lb h h0 hs2 ht2 hn2 ht3 hn3 hh
     obtain ⟨kb, rfl, hgk, hkl, hC1, hC2, hcl⟩ := bJ hs3 (by omega)
     have hcl3 := hcl w3 (Touch.refl _ _)
     have hA5 := hA3
     have ⟨c0,c1,c2,c3,c4,c5⟩ := cs6 hA5
     have ⟨f0,f1,f2,f3,f4,f5⟩ := fs6 hA5
     have lb := aB hA5
     try simp [bC] at c0 c1 c2 c3 c4 c5
     clear hA5
     have q0 := hcl3 0 a rfl
     have q1 := hcl3 1 b rfl
     have q2 := hcl3 2 k rfl
     clear hcl3 hcl
     go_wp2
     refine hQ_.ret (results_tmp rfl _ _ _) rfl ?_
     exact ⟨rfl, fun _ => hT3, fun q => absurd q (by decide)⟩
 · obtain ⟨e4, e5⟩ := wF hw
   by_cases h13 : a = 13
   · have h13a : ((a : Int) == 13) = true := (bT h13).1
     have h13b : ((a : Int) != 13) = false := (bT h13).2
     by_cases hlo : 12 ≤ b
     · have hlo2 : decide ((12 : Int) ≤ (b : Int)) = true := by simp; omega
       have n15 : ¬ a = 15 := by omega
       have n15a : ((a : Int) == 15) = false := (bF n15).1
       have n15b : ((a : Int) != 15) = true := (bF n15).2
       have hc : code = 5 := by rw [hcode]; simp [hw, h13, hlo]
       rw [hc]
       clear hc hcode h13 n15
       have hdg := fun w => bK x k hk w
       have hk16 := Sq.hex_lt hk
       obtain ⟨H1, HC, rfl, _⟩ := hh.form
       have h0 := h
       have hk0 : ¬ ((k : Int) < 0) := by omega
       clear hk
       unfold aO at h
       have ⟨c0,c1,c2,c3,c4,c5⟩ := cs6 h
       have ⟨f0,f1,f2,f3,f4,f5⟩ := fs6 h
       have lb := aB h
       try simp [bC] at c0 c1 c2 c3 c4 c5
       refine aA Tryz.func66 rfl ?_
       intro Q_ hQ_
       simp only [Tryz.ntmps66, ents_, Nat.reduceAdd, Nat.reduceSub]
       go_wp2_with fail
       refine (hdg _).mono ?_
       rintro e w1 ⟨rfl, rfl⟩
       try go_simp
       go_upto_region 5 with (first
        | (at_builtin; refine aJ aP rfl (.tmp 15) (.tmp 19) rfl rfl (bD _ _) rfl (SlAt.src (hh.keep ((Touch.refl [] _).alloc _) (by simp)) (bL _)) (by simp) ?_; intro ad1 c1' w2 g2 hs2 ht2 hn2; simp only [List.nil_append, Nat.zero_add] at hs2 ht2)
        | (at_builtin; refine aJ aP rfl (.tmp 20) (.tmp 22) rfl rfl (hs2.keep ((Touch.refl [] _).alloc _) (by simp)) rfl (aX rfl) (by simp) ?_; intro ad3 c3' w3 g3 hs3 ht3 hn3; rw [← bE] at hs3))
       have hap := bP ht2 hn2 ht3 hn3
       obtain ⟨hT3, hg3⟩ := hap
       have hA3 : aO w3 p vo vb esc (.slice H1 _ HC) wait over := hT3.keep h0 (by simp)
       clear c0 c1 c2 c3 c4 c5 f0 f1 f2 f3 f4 f5 lb h h0 hs2 ht2 hn2 ht3 hn3 hh
       obtain ⟨kb, rfl, hgk, hkl, hC1, hC2, hcl⟩ := bJ hs3 (by omega)
       have hcl3 := hcl w3 (Touch.refl _ _)
       have hA5 := hA3
       have ⟨c0,c1,c2,c3,c4,c5⟩ := cs6 hA5
       have ⟨f0,f1,f2,f3,f4,f5⟩ := fs6 hA5
       have lb := aB hA5
       try simp [bC] at c0 c1 c2 c3 c4 c5
       clear hA5
       have q0 := hcl3 0 a rfl
       have q1 := hcl3 1 b rfl
       have q2 := hcl3 2 k rfl
       clear hcl3 hcl
       go_wp2
       refine hQ_.ret (results_tmp rfl _ _ _) rfl ?_
       exact ⟨rfl, fun _ => hT3, fun q => absurd q (by decide)⟩
     · have hlo2 : decide ((12 : Int) ≤ (b : Int)) = false := by simp; omega
       have n15 : ¬ a = 15 := by omega
       have n15a : ((a : Int) == 15) = false := (bF n15).1
       have n15b : ((a : Int) != 15) = true := (bF n15).2
       have hc : code = 0 := by rw [hcode]; simp [hw, h13, hlo]
       rw [hc]
       clear hc hcode h13 n15
       have hdg := fun w => bK x k hk w
       have hk16 := Sq.hex_lt hk
       obtain ⟨H1, HC, rfl, _⟩ := hh.form
       have h0 := h
       have hk0 : ¬ ((k : Int) < 0) := by omega
       clear hk
       unfold aO at h
       have ⟨c0,c1,c2,c3,c4,c5⟩ := cs6 h
       have ⟨f0,f1,f2,f3,f4,f5⟩ := fs6 h
       have lb := aB h
       try simp [bC] at c0 c1 c2 c3 c4 c5
       refine aA Tryz.func66 rfl ?_
       intro Q_ hQ_
       simp only [Tryz.ntmps66, ents_, Nat.reduceAdd, Nat.reduceSub]
       go_wp2_with fail
       refine (hdg _).mono ?_
       rintro e w1 ⟨rfl, rfl⟩
       try go_simp
       go_upto_region 5 with (first
        | (at_builtin; refine aJ aP rfl (.tmp 15) (.tmp 19) rfl rfl (bD _ _) rfl (SlAt.src (hh.keep ((Touch.refl [] _).alloc _) (by simp)) (bL _)) (by simp) ?_; intro ad1 c1' w2 g2 hs2 ht2 hn2; simp only [List.nil_append, Nat.zero_add] at hs2 ht2)
        | (at_builtin; refine aJ aP rfl (.tmp 20) (.tmp 22) rfl rfl (hs2.keep ((Touch.refl [] _).alloc _) (by simp)) rfl (aX rfl) (by simp) ?_; intro ad3 c3' w3 g3 hs3 ht3 hn3; rw [← bE] at hs3))
       have hap := bP ht2 hn2 ht3 hn3
       obtain ⟨hT3, hg3⟩ := hap
       have hA3 : aO w3 p vo vb esc (.slice H1 _ HC) wait over := hT3.keep h0 (by simp)
       clear c0 c1 c2 c3 c4 c5 f0 f1 f2 f3 f4 f5 lb h h0 hs2 ht2 hn2 ht3 hn3 hh
       obtain ⟨kb, rfl, hgk, hkl, hC1, hC2, hcl⟩ := bJ hs3 (by omega)
       have hcl3 := hcl w3 (Touch.refl _ _)
       have hA5 := hA3
       have ⟨c0,c1,c2,c3,c4,c5⟩ := cs6 hA5
       have ⟨f0,f1,f2,f3,f4,f5⟩ := fs6 hA5
       have lb := aB hA5
       try simp [bC] at c0 c1 c2 c3 c4 c5
       clear hA5
       have q0 := hcl3 0 a rfl
       have q1 := hcl3 1 b rfl
       have q2 := hcl3 2 k rfl
       clear hcl3 hcl
       go_wp2
       refine hQ_.ret (results_tmp rfl _ _ _) rfl ?_
       refine ⟨rfl, fun q => absurd rfl q, fun _ => ⟨_, g3, aF hA3 3 _, ?_, hg3, (hT3.mono (by simp)).setCell (by simp) _⟩⟩
       exact SlAt.keep (F := [p]) hs3 (Touch.setCell (Touch.refl _ _) (by simp) _) (fun j hj q => by have := hg3 j hj; rw [List.mem_singleton.1 q] at this; omega)
   · have h13a : ((a : Int) == 13) = false := (bF h13).1
     have h13b : ((a : Int) != 13) = true := (bF h13).2
     by_cases h15 : a = 15
     · have h15a : ((a : Int) == 15) = true := (bT h15).1
       have h15b : ((a : Int) != 15) = false := (bT h15).2
       by_cases b13 : b = 13
       · have b13a : ((b : Int) == 13) = true := (bT b13).1
         have b13b : ((b : Int) != 13) = false := (bT b13).2
         by_cases k13 : k = 13
         · have k13a : ((k : Int) == 13) = true := (bT k13).1
           have k13b : ((k : Int) != 13) = false := (bT k13).2
           have hc : code = 6 := by rw [hcode]; simp [hw, h15, b13, k13]
           rw [hc]
           clear hc hcode h13 h15 b13 k13
           have hdg := fun w => bK x k hk w
           have hk16 := Sq.hex_lt hk
           obtain ⟨H1, HC, rfl, _⟩ := hh.form
           have h0 := h
           have hk0 : ¬ ((k : Int) < 0) := by omega
           clear hk
           unfold aO at h
           have ⟨c0,c1,c2,c3,c4,c5⟩ := cs6 h
           have ⟨f0,f1,f2,f3,f4,f5⟩ := fs6 h
           have lb := aB h
           try simp [bC] at c0 c1 c2 c3 c4 c5
           refine aA Tryz.func66 rfl ?_
           intro Q_ hQ_
           simp only [Tryz.ntmps66, ents_, Nat.reduceAdd, Nat.reduceSub]
           go_wp2_with fail
           refine (hdg _).mono ?_
           rintro e w1 ⟨rfl, rfl⟩
           try go_simp
           go_upto_region 5 with (first
            | (at_builtin; refine aJ aP rfl (.tmp 15) (.tmp 19) rfl rfl (bD _ _) rfl (SlAt.src (hh.keep ((Touch.refl [] _).alloc _) (by simp)) (bL _)) (by simp) ?_; intro ad1 c1' w2 g2 hs2 ht2 hn2; simp only [List.nil_append, Nat.zero_add] at hs2 ht2)
            | (at_builtin; refine aJ aP rfl (.tmp 20) (.tmp 22) rfl rfl (hs2.keep ((Touch.refl [] _).alloc _) (by simp)) rfl (aX rfl) (by simp) ?_; intro ad3 c3' w3 g3 hs3 ht3 hn3; rw [← bE] at hs3))
           have hap := bP ht2 hn2 ht3 hn3
           obtain ⟨hT3, hg3⟩ := hap
           have hA3 : aO w3 p vo vb esc (.slice H1 _ HC) wait over := hT3.keep h0 (by simp)
           clear c0 c1 c2 c3 c4 c5 f0 f1 f2 f3 f4 f5 lb h h0 hs2 ht2 hn2 ht3 hn3 hh
           obtain ⟨kb, rfl, hgk, hkl, hC1, hC2, hcl⟩ := bJ hs3 (by omega)
           have hcl3 := hcl w3 (Touch.refl _ _)
           have hA5 := hA3
           have ⟨c0,c1,c2,c3,c4,c5⟩ := cs6 hA5
           have ⟨f0,f1,f2,f3,f4,f5⟩ := fs6 hA5
           have lb := aB hA5
           try simp [bC] at c0 c1 c2 c3 c4 c5
           clear hA5
           have q0 := hcl3 0 a rfl
           have q1 := hcl3 1 b rfl
           have q2 := hcl3 2 k rfl
           clear hcl3 hcl
           go_wp2
           refine hQ_.ret (results_tmp rfl _ _ _) rfl ?_
           exact ⟨rfl, fun _ => hT3, fun q => absurd q (by decide)⟩
         · have k13a : ((k : Int) == 13) = false := (bF k13).1
           have k13b : ((k : Int) != 13) = true := (bF k13).2
           by_cases k14 : k = 14
           · have k14a : ((k : Int) == 14) = true := (bT k14).1
             have k14b : ((k : Int) != 14) = false := (bT k14).2
             have hc : code = 6 := by rw [hcode]; simp [hw, h13, h15, b13, k13, k14]
             rw [hc]
             clear hc hcode h13 h15 b13 k13 k14
             have hdg := fun w => bK x k hk w
             have hk16 := Sq.hex_lt hk
             obtain ⟨H1, HC, rfl, _⟩ := hh.form
             have h0 := h
             have hk0 : ¬ ((k : Int) < 0) := by omega
             clear hk
             unfold aO at h
             have ⟨c0,c1,c2,c3,c4,c5⟩ := cs6 h
             have ⟨f0,f1,f2,f3,f4,f5⟩ := fs6 h
             have lb := aB h
             try simp [bC] at c0 c1 c2 c3 c4 c5
             refine aA Tryz.func66 rfl ?_
             intro Q_ hQ_
             simp only [Tryz.ntmps66, ents_, Nat.reduceAdd, Nat.reduceSub]
             go_wp2_with fail
             refine (hdg _).mono ?_
             rintro e w1 ⟨rfl, rfl⟩
             try go_simp
             go_upto_region 5 with (first
              | (at_builtin; refine aJ aP rfl (.tmp 15) (.tmp 19) rfl rfl (bD _ _) rfl (SlAt.src (hh.keep ((Touch.refl [] _).alloc _) (by simp)) (bL _)) (by simp) ?_; intro ad1 c1' w2 g2 hs2 ht2 hn2; simp only [List.nil_append, Nat.zero_add] at hs2 ht2)
              | (at_builtin; refine aJ aP rfl (.tmp 20) (.tmp 22) rfl rfl (hs2.keep ((Touch.refl [] _).alloc _) (by simp)) rfl (aX rfl) (by simp) ?_; intro ad3 c3' w3 g3 hs3 ht3 hn3; rw [← bE] at hs3))
             have hap := bP ht2 hn2 ht3 hn3
             obtain ⟨hT3, hg3⟩ := hap
             have hA3 : aO w3 p vo vb esc (.slice H1 _ HC) wait over := hT3.keep h0 (by simp)
             clear c0 c1 c2 c3 c4 c5 f0 f1 f2 f3 f4 f5 lb h h0 hs2 ht2 hn2 ht3 hn3 hh
             obtain ⟨kb, rfl, hgk, hkl, hC1, hC2, hcl⟩ := bJ hs3 (by omega)
             have hcl3 := hcl w3 (Touch.refl _ _)
             have hA5 := hA3
             have ⟨c0,c1,c2,c3,c4,c5⟩ := cs6 hA5
             have ⟨f0,f1,f2,f3,f4,f5⟩ := fs6 hA5
             have lb := aB hA5
             try simp [bC] at c0 c1 c2 c3 c4 c5
             clear hA5
             have q0 := hcl3 0 a rfl
             have q1 := hcl3 1 b rfl
             have q2 := hcl3 2 k rfl
             clear hcl3 hcl
             go_wp2
             refine hQ_.ret (results_tmp rfl _ _ _) rfl ?_
             exact ⟨rfl, fun _ => hT3, fun q => absurd q (by decide)⟩
           · have k14a : ((k : Int) == 14) = false := (bF k14).1
             have k14b : ((k : Int) != 14) = true := (bF k14).2
             have hc : code = 0 := by rw [hcode]; simp [hw, h13, h15, b13, k13, k14]
             rw [hc]
             clear hc hcode h13 h15 b13 k13 k14
             have hdg := fun w => bK x k hk w
             have hk16 := Sq.hex_lt hk
             obtain ⟨H1, HC, rfl, _⟩ := hh.form
             have h0 := h
             have hk0 : ¬ ((k : Int) < 0) := by omega
             clear hk
             unfold aO at h
             have ⟨c0,c1,c2,c3,c4,c5⟩ := cs6 h
             have ⟨f0,f1,f2,f3,f4,f5⟩ := fs6 h
             have lb := aB h
             try simp [bC] at c0 c1 c2 c3 c4 c5
             refine aA Tryz.func66 rfl ?_
             intro Q_ hQ_
             simp only [Tryz.ntmps66, ents_, Nat.reduceAdd, Nat.reduceSub]
             go_wp2_with fail
             refine (hdg _).mono ?_
             rintro e w1 ⟨rfl, rfl⟩
             try go_simp
             go_upto_region 5 with (first
              | (at_builtin; refine aJ aP rfl (.tmp 15) (.tmp 19) rfl rfl (bD _ _) rfl (SlAt.src (hh.keep ((Touch.refl [] _).alloc _) (by simp)) (bL _)) (by simp) ?_; intro ad1 c1' w2 g2 hs2 ht2 hn2; simp only [List.nil_append, Nat.zero_add] at hs2 ht2)
              | (at_builtin; refine aJ aP rfl (.tmp 20) (.tmp 22) rfl rfl (hs2.keep ((Touch.refl [] _).alloc _) (by simp)) rfl (aX rfl) (by simp) ?_; intro ad3 c3' w3 g3 hs3 ht3 hn3; rw [← bE] at hs3))
             have hap := bP ht2 hn2 ht3 hn3
             obtain ⟨hT3, hg3⟩ := hap
             have hA3 : aO w3 p vo vb esc (.slice H1 _ HC) wait over := hT3.keep h0 (by simp)
             clear c0 c1 c2 c3 c4 c5 f0 f1 f2 f3 f4 f5 lb h h0 hs2 ht2 hn2 ht3 hn3 hh
             obtain ⟨kb, rfl, hgk, hkl, hC1, hC2, hcl⟩ := bJ hs3 (by omega)
             have hcl3 := hcl w3 (Touch.refl _ _)
             have hA5 := hA3
             have ⟨c0,c1,c2,c3,c4,c5⟩ := cs6 hA5
             have ⟨f0,f1,f2,f3,f4,f5⟩ := fs6 hA5
             have lb := aB hA5
             try simp [bC] at c0 c1 c2 c3 c4 c5
             clear hA5
             have q0 := hcl3 0 a rfl
             have q1 := hcl3 1 b rfl
             have q2 := hcl3 2 k rfl
             clear hcl3 hcl
             go_wp2
             refine hQ_.ret (results_tmp rfl _ _ _) rfl ?_
             refine ⟨rfl, fun q => absurd rfl q, fun _ => ⟨_, g3, aF hA3 3 _, ?_, hg3, (hT3.mono (by simp)).setCell (by simp) _⟩⟩
             exact SlAt.keep (F := [p]) hs3 (Touch.setCell (Touch.refl _ _) (by simp) _) (fun j hj q => by have := hg3 j hj; rw [List.mem_singleton.1 q] at this; omega)
       · have b13a : ((b : Int) == 13) = false := (bF b13).1
         have b13b : ((b : Int) != 13) = true := (bF b13).2
         have hc : code = 0 := by rw [hcode]; simp [hw, h13, h15, b13]
         rw [hc]
         clear hc hcode h13 h15 b13
         have hdg := fun w => bK x k hk w
         have hk16 := Sq.hex_lt hk
         obtain ⟨H1, HC, rfl, _⟩ := hh.form
         have h0 := h
         have hk0 : ¬ ((k : Int) < 0) := by omega
         clear hk
         unfold aO at h
         have ⟨c0,c1,c2,c3,c4,c5⟩ := cs6 h
         have ⟨f0,f1,f2,f3,f4,f5⟩ := fs6 h
         have lb := aB h
         try simp [bC] at c0 c1 c2 c3 c4 c5
         refine aA Tryz.func66 rfl ?_
         intro Q_ hQ_
         simp only [Tryz.ntmps66, ents_, Nat.reduceAdd, Nat.reduceSub]
         go_wp2_with fail
         refine (hdg _).mono ?_
         rintro e w1 ⟨rfl, rfl⟩
         try go_simp
         go_upto_region 5 with (first
          | (at_builtin; refine aJ aP rfl (.tmp 15) (.tmp 19) rfl rfl (bD _ _) rfl (SlAt.src (hh.keep ((Touch.refl [] _).alloc _) (by simp)) (bL _)) (by simp) ?_; intro ad1 c1' w2 g2 hs2 ht2 hn2; simp only [List.nil_append, Nat.zero_add] at hs2 ht2)
          | (at_builtin; refine aJ aP rfl (.tmp 20) (.tmp 22) rfl rfl (hs2.keep ((Touch.refl [] _).alloc _) (by simp)) rfl (aX rfl) (by simp) ?_; intro ad3 c3' w3 g3 hs3 ht3 hn3; rw [← bE] at hs3))
         have hap := bP ht2 hn2 ht3 hn3
         obtain ⟨hT3, hg3⟩ := hap
         have hA3 : aO w3 p vo vb esc (.slice H1 _ HC) wait over := hT3.keep h0 (by simp)
         clear c0 c1 c2 c3 c4 c5 f0 f1 f2 f3 f4 f5 lb h h0 hs2 ht2 hn2 ht3 hn3 hh
         obtain ⟨kb, rfl, hgk, hkl, hC1, hC2, hcl⟩ := bJ hs3 (by omega)
         have hcl3 := hcl w3 (Touch.refl _ _)
         have hA5 := hA3
         have ⟨c0,c1,c2,c3,c4,c5⟩ := cs6 hA5
         have ⟨f0,f1,f2,f3,f4,f5⟩ := fs6 hA5
         have lb := aB hA5
         try simp [bC] at c0 c1 c2 c3 c4 c5
         clear hA5
         have q0 := hcl3 0 a rfl
         have q1 := hcl3 1 b rfl
         have q2 := hcl3 2 k rfl
         clear hcl3 hcl
         go_wp2
         refine hQ_.ret (results_tmp rfl _ _ _) rfl ?_
         refine ⟨rfl, fun q => absurd rfl q, fun _ => ⟨_, g3, aF hA3 3 _, ?_, hg3, (hT3.mono (by simp)).setCell (by simp) _⟩⟩
         exact SlAt.keep (F := [p]) hs3 (Touch.setCell (Touch.refl _ _) (by simp) _) (fun j hj q => by have := hg3 j hj; rw [List.mem_singleton.1 q] at this; omega)
     · have h15a : ((a : Int) == 15) = false := (bF h15).1
       have h15b : ((a : Int) != 15) = true := (bF h15).2
       have hc : code = 0 := by rw [hcode]; simp [hw, h13, h15]
       rw [hc]
       clear hc hcode h13 h15
       have hdg := fun w => bK x k hk w
       have hk16 := Sq.hex_lt hk
       obtain ⟨H1, HC, rfl, _⟩ := hh.form
       have h0 := h
       have hk0 : ¬ ((k : Int) < 0) := by omega
       clear hk
       unfold aO at h
       have ⟨c0,c1,c2,c3,c4,c5⟩ := cs6 h
       have ⟨f0,f1,f2,f3,f4,f5⟩ := fs6 h
       have lb := aB h
       try simp [bC] at c0 c1 c2 c3 c4 c5
       refine aA Tryz.func66 rfl ?_
       intro Q_ hQ_
       simp only [Tryz.ntmps66, ents_, Nat.reduceAdd, Nat.reduceSub]
       go_wp2_with fail
       refine (hdg _).mono ?_
       rintro e w1 ⟨rfl, rfl⟩
       try go_simp
       go_upto_region 5 with (first
        | (at_builtin; refine aJ aP rfl (.tmp 15) (.tmp 19) rfl rfl (bD _ _) rfl (SlAt.src (hh.keep ((Touch.refl [] _).alloc _) (by simp)) (bL _)) (by simp) ?_; intro ad1 c1' w2 g2 hs2 ht2 hn2; simp only [List.nil_append, Nat.zero_add] at hs2 ht2)
        | (at_builtin; refine aJ aP rfl (.tmp 20) (.tmp 22) rfl rfl (hs2.keep ((Touch.refl [] _).alloc _) (by simp)) rfl (aX rfl) (by simp) ?_; intro ad3 c3' w3 g3 hs3 ht3 hn3; rw [← bE] at hs3))
       have hap := bP ht2 hn2 ht3 hn3
       obtain ⟨hT3, hg3⟩ := hap
       have hA3 : aO w3 p vo vb esc (.slice H1 _ HC) wait over := hT3.keep h0 (by simp)
       clear c0 c1 c2 c3 c4 c5 f0 f1 f2 f3 f4 f5 lb h h0 hs2 ht2 hn2 ht3 hn3 hh
       obtain ⟨kb, rfl, hgk, hkl, hC1, hC2, hcl⟩ := bJ hs3 (by omega)
       have hcl3 := hcl w3 (Touch.refl _ _)
       have hA5 := hA3
       have ⟨c0,c1,c2,c3,c4,c5⟩ := cs6 hA5
       have ⟨f0,f1,f2,f3,f4,f5⟩ := fs6 hA5
       have lb := aB hA5
       try simp [bC] at c0 c1 c2 c3 c4 c5
       clear hA5
       have q0 := hcl3 0 a rfl
       have q1 := hcl3 1 b rfl
       have q2 := hcl3 2 k rfl
       clear hcl3 hcl
       go_wp2
       refine hQ_.ret (results_tmp rfl _ _ _) rfl ?_
       refine ⟨rfl, fun q => absurd rfl q, fun _ => ⟨_, g3, aF hA3 3 _, ?_, hg3, (hT3.mono (by simp)).setCell (by simp) _⟩⟩
       exact SlAt.keep (F := [p]) hs3 (Touch.setCell (Touch.refl _ _) (by simp) _) (fun j hj q => by have := hg3 j hj; rw [List.mem_singleton.1 q] at this; omega)
end Go.Proofs.YthdncmagfgoboaaGreatDoor
