/- One of the texts that lead to the theorem lexPlays.proved: the conditions stand in each theorem. -/
import Derived.Test.YthdncmagfgoboaaGreatDoorP20
import Derived.Deep.RegionHeld3
import Derived.Deep.Quiet
import Derived.Outline
set_option linter.unusedSimpArgs false
set_option linter.unusedVariables false
namespace Go.Proofs.YthdncmagfgoboaaGreatDoor
open Go.RowKit
set_option maxRecDepth 100000
set_option maxHeartbeats 8000000
theorem tL (x : Nat) (w : World) : Calls Tryz.prog 127 #[.int .u8 x] w fun e w' => e = .returned (.int .i64 (Sq.long x)) ∧ w = w' := by
 obtain ⟨y, hy⟩ : ∃ y : Int, y = (x : Int) := ⟨_, rfl⟩
 obtain ⟨L, hL⟩ : ∃ L : Int, L = (Sq.long x : Int) := ⟨_, rfl⟩
 rw [← hy, ← hL]
 have h : L = if y < 128 then 1 else if 194 ≤ y ∧ y ≤ 223 then 2 else if 224 ≤ y ∧ y ≤ 239 then 3 else if 240 ≤ y ∧ y ≤ 244 then 4 else 0 := by
  rw [hL, hy]
  unfold Sq.long
  repeat' split
  all_goals first | rfl | omega
 replace h := Box.mk h
 clear hL hy
 refine aA Tryz.func127 rfl ?_
 intro Q_ hQ_
 simp only [Tryz.ntmps127, ents_, Nat.reduceAdd, Nat.reduceSub]
 go_wp2
 all_goals
  refine hQ_.ret (results_tmp rfl _ _ _) rfl ?_
  refine ⟨congrArg Ending.returned (congrArg (Value.int .i64) ?_), rfl⟩
  rw [h.out]
  repeat' split
  all_goals first | rfl | (exfalso; omega)
theorem pN (f x : Nat) (w : World) : Calls Tryz.prog 128 #[.int .u8 f, .int .u8 x] w fun e w' => e = .returned (.bool (Sq.second f x)) ∧ w = w' := by
 obtain ⟨y, hy⟩ : ∃ y : Int, y = (x : Int) := ⟨_, rfl⟩
 obtain ⟨g, hg⟩ : ∃ g : Int, g = (f : Int) := ⟨_, rfl⟩
 obtain ⟨S, hS⟩ : ∃ S, S = Sq.second f x := ⟨_, rfl⟩
 rw [← hy, ← hg, ← hS]
 have h : S = if (g == 224) = true then (decide (160 ≤ y) && decide (y ≤ 191)) else if (g == 237) = true then (decide (128 ≤ y) && decide (y ≤ 159)) else if (g == 240) = true then (decide (144 ≤ y) && decide (y ≤ 191)) else if (g == 244) = true then (decide (128 ≤ y) && decide (y ≤ 143)) else (decide (128 ≤ y) && decide (y ≤ 191)) := by
  rw [hS, hy, hg]
  unfold Sq.second
  have k1 : (((f : Int) == 224) = true) ↔ f = 224 := by rw [beq_iff_eq]; omega
  have k2 : (((f : Int) == 237) = true) ↔ f = 237 := by rw [beq_iff_eq]; omega
  have k3 : (((f : Int) == 240) = true) ↔ f = 240 := by rw [beq_iff_eq]; omega
  have k4 : (((f : Int) == 244) = true) ↔ f = 244 := by rw [beq_iff_eq]; omega
  simp only [k1, k2, k3, k4]
  repeat' split
  all_goals (rw [Bool.eq_iff_iff]; simp; try omega)
 replace h := Box.mk h
 clear hS hy hg
 refine aA Tryz.func128 rfl ?_
 intro Q_ hQ_
 simp only [Tryz.ntmps128, ents_, Nat.reduceAdd, Nat.reduceSub]
 go_wp2
 all_goals
  refine hQ_.ret (results_tmp rfl _ _ _) rfl ?_
  refine ⟨congrArg Ending.returned (congrArg Value.bool ?_), rfl⟩
  rw [h.out]
  simp [*]
  try omega
def BAt (w : World) (k : Nat) (b : List UInt8) : Prop := ∀ j c, b[j]? = some c → w.cell? ⟨k, j, none⟩ = some (.int .u8 c.toNat)
theorem qD (f : Nat) (l : List UInt8) (i : Nat) (x : UInt8) (hx : l[i]? = some x) : Sq.okFrom f 1 (l.take (i + 1)) = (Sq.okFrom f 1 (l.take i) && Sq.okAt f (i + 1) x) := by
 have hi : i < l.length := (List.getElem?_eq_some_iff.1 hx).1
 rw [List.take_add_one, hx, Sq.okFrom_append]
 simp only [Option.toList, Sq.okFrom, Bool.and_true, List.length_take]
 rw [show 1 + min i l.length = i + 1 by omega]
theorem gU (f : Nat) (l : List UInt8) (i : Nat) (h : Sq.okFrom f 1 (l.take i) = false) : Sq.okFrom f 1 l = false := by
 have := Sq.okFrom_append f (l.take i) (l.drop i) 1
 rw [List.take_append_drop, h] at this
 simpa using this
theorem fA (k C : Nat) (f : UInt8) (l : List UInt8) (w : World) (hb : ∀ w', Touch [] w w' → BAt w' k (f :: l)) (hl : l.length ≤ 3) (hC : l.length + 1 ≤ C) (hC2 : C ≤ 9223372036854775807) (hk : k < w.heap.size) :
 Calls Tryz.prog 101 #[.slice (some ⟨k, 0, none⟩) (l.length + 1) C] w fun e w' => e = .returned (.int .i64 (Sq.how (f :: l))) ∧ Touch [] w w' := by
 have hlg := fun w => tL f.toNat w
 have hse := fun (x : Nat) w => pN f.toNat x w
 have hb0 := hb w (Touch.refl _ _) 0 f rfl
 obtain ⟨L, hL⟩ : ∃ L, L = Sq.long f.toNat := ⟨_, rfl⟩
 rw [← hL] at hlg
 have hh : Sq.how (f :: l) = if L < l.length + 1 then 0 else if Sq.okFrom f.toNat 1 l = false then 0 else if L = l.length + 1 then 2 else 1 := by
  rw [Sq.how_cons, if_neg (by omega), ← hL]
 rw [hh]
 obtain ⟨F, hF⟩ : ∃ F, F = f.toNat := ⟨_, rfl⟩
 rw [← hF] at hlg hse hb0 ⊢
 clear hh
 replace hL := Box.mk hL
 replace hF := Box.mk hF
 have t0 : (((l.length : Int) + 1) == 0) = false := by rw [beq_eq_false_iff_ne]; omega
 have t4 : decide ((4 : Int) < (l.length : Int) + 1) = false := by simp; omega
 by_cases h1 : L < l.length + 1
 · rw [if_pos h1]
   have t1 : decide ((L : Int) < (l.length : Int) + 1) = true := by simp; omega
   clear h1
   refine aA Tryz.func101 rfl ?_
   intro Q_ hQ_
   simp only [Tryz.ntmps101, ents_, Nat.reduceAdd, Nat.reduceSub]
   go_wp2_with fail
   refine (hlg _).mono ?_
   rintro e w1 ⟨rfl, rfl⟩
   try go_simp
   go_wp2
   refine hQ_.ret (results_tmp rfl _ _ _) rfl ?_
   exact ⟨rfl, Touch.refl _ _⟩
 rw [if_neg h1]
 have t1 : decide ((L : Int) < (l.length : Int) + 1) = false := by simp; omega
 refine aA Tryz.func101 rfl ?_
 intro Q_ hQ_
 simp only [Tryz.ntmps101, ents_, Nat.reduceAdd, Nat.reduceSub]
 go_wp2_with fail
 refine (hlg _).mono ?_
 rintro e w1 ⟨rfl, rfl⟩
 try go_simp
 go_wp2_with fail
 go_loopw [4] (fun v wr => ∃ J : Nat, 1 ≤ J ∧ J ≤ l.length + 1 ∧ v = .int .i64 J ∧ Box (Sq.okFrom F 1 (l.take (J - 1)) = true) ∧ Touch [] w wr) (fun v _ => l.length + 1 - (intOf v).toNat)
 case atStart => exact ⟨1, Nat.le_refl _, by omega, rfl, ⟨rfl⟩, Touch.refl _ _⟩
 case round =>
  obtain ⟨J, hJ1, hJ2, rfl, hok, hT⟩ := hrel
  by_cases hlt : J < l.length + 1
  · have hlt1 : decide ((J : Int) < (l.length : Int) + 1) = true := by simp; omega
    have hx : l[J - 1]? = some l[J - 1] := List.getElem?_eq_getElem (by omega)
    generalize l[J - 1] = x at hx
    have htk := qD F l (J - 1) x hx
    rw [show J - 1 + 1 = J by omega, hok.out, Bool.true_and] at htk
    have hcJ : ∀ w', Touch [] wr w' → w'.cell? ⟨k, J, none⟩ = some (.int .u8 x.toNat) := fun w' h => hb w' (hT.trans h) J x (by
     obtain ⟨j, rfl⟩ : ∃ j, J = j + 1 := ⟨J - 1, by omega⟩
     simpa using hx)
    have hc0 : ∀ w', Touch [] wr w' → w'.cell? ⟨k, 0, none⟩ = some (.int .u8 F) := fun w' h => by rw [hF.out]; exact hb w' (hT.trans h) 0 f rfl
    have hkl : k < wr.heap.size := Nat.lt_of_lt_of_le hk hT.size
    have hJi : (0 : Int) ≤ (J : Int) := by omega
    have hJl : (J : Int) < (l.length : Int) + 1 := by omega
    have hsx := fun w => hse x.toNat w
    have hoa : Sq.okAt F J x = ((decide (J ≠ 1) || Sq.second F x.toNat) && Sq.tailB x.toNat) := rfl
    have hxl := x.toNat_lt
    have hst : Sq.second F x.toNat = true → 128 ≤ x.toNat ∧ x.toNat ≤ 191 := fun q => by
     unfold Sq.second at q
     repeat' split at q
     all_goals (simp at q; omega)
    replace hst := Box.mk hst
    replace hoa := Box.mk hoa
    replace htk := Box.mk htk
    replace hx := Box.mk hx
    clear hse
    generalize hS : Sq.second F x.toNat = S at hsx
    replace hS := Box.mk hS
    obtain ⟨y, hy⟩ : ∃ y, y = x.toNat := ⟨_, rfl⟩
    rw [← hy] at hcJ hsx hxl
    replace hy := Box.mk hy
    by_cases hJe : J = 1
    · have hc1 : ∀ w', Touch [] wr w' → w'.cell? ⟨k, 1, none⟩ = some (.int .u8 y) := fun w' h => by rw [← hJe]; exact hcJ w' h
      have q1 := hc1 _ (Touch.drew (Touch.refl [] wr))
      have hlen1 : (1 : Int) < (l.length : Int) + 1 := by omega
      have e1 : ((J : Int) == 1) = true := by rw [beq_iff_eq]; omega
      cases S
      ·
       have hno : Sq.okFrom F 1 l = false := gU F l J (by
        rw [htk.out, hoa.out]
        have h5 := hS.out
        have h6 := hy.out
        simp [h5, hJe, Sq.tailB]
        try omega)
       replace hno := Box.mk hno
       clear hJe
       have q0 := hc0 _ (Touch.drew (Touch.refl [] wr))
       have qJ := hcJ _ (Touch.drew (Touch.refl [] wr))
       go_upto_region 9 with (fail)
       refine wp_region_noPanic ?_
       refine wp_region_held_drew (S := fun w' => Touch [] wr w') (by kernel_rfl) (Touch.drew (Touch.refl [] wr)) (fun hHeld => ?_)
       refine wpAnyH_take (i := 0) (oi := ?_) (v := ?_) ?_ ?_ ?_ ?_ (fun _ _ _ h => h) ?_ (by assumption) ?_
       rotate_left 2
       · (simp only [getsl_]; rfl)
       · kernel_rfl
       · kernel_rfl
       · kernel_rfl
       · refine Or.inl ⟨by rfl, ?_⟩
         intro w hSw
         (try dsimp only at hSw)
         go_simp
         try with_reducible rfl
       try simp only [Act.put, sets_]
       refine wpAnyH_take (i := 1) (oi := ?_) (v := ?_) ?_ ?_ ?_ ?_ (fun _ _ _ h => h) ?_ (by assumption) ?_
       rotate_left 2
       · (simp only [getsl_]; rfl)
       · kernel_rfl
       · kernel_rfl
       · kernel_rfl
       · refine Or.inl ⟨by rfl, ?_⟩
         intro w hSw
         (try dsimp only at hSw)
         go_simp
         try with_reducible rfl
       try simp only [Act.put, sets_]
       refine wpAnyH_take (i := 2) (oi := ?_) (v := ?_) ?_ ?_ ?_ ?_ (fun _ _ _ h => h) ?_ (by assumption) ?_
       rotate_left 2
       · (simp only [getsl_]; rfl)
       · kernel_rfl
       · kernel_rfl
       · kernel_rfl
       · refine Or.inl ⟨by rfl, ?_⟩
         intro w hSw
         (try dsimp only at hSw)
         go_simp
         try with_reducible rfl
       try simp only [Act.put, sets_]
       refine wpAnyH_take (i := 3) (oi := ?_) (v := ?_) ?_ ?_ ?_ ?_ (fun _ _ _ h => h) ?_ (by assumption) ?_
       rotate_left 2
       · (simp only [getsl_]; rfl)
       · kernel_rfl
       · kernel_rfl
       · kernel_rfl
       · refine Or.inl ⟨by rfl, ?_⟩
         intro w hSw
         (try dsimp only at hSw)
         go_simp
         try with_reducible rfl
       try simp only [Act.put, sets_]
       refine wpAnyH_take (i := 4) (oi := ?_) (v := ?_) ?_ ?_ ?_ ?_ (fun _ _ _ h => h) ?_ (by assumption) ?_
       rotate_left 2
       · (simp only [getsl_]; rfl)
       · kernel_rfl
       · kernel_rfl
       · kernel_rfl
       · refine Or.inl ⟨by rfl, ?_⟩
         intro w hSw
         (try dsimp only at hSw)
         go_simp
         try with_reducible rfl
       try simp only [Act.put, sets_]
       refine wpAnyH_take (i := 5) (oi := ?_) (v := ?_) ?_ ?_ ?_ ?_ (fun _ _ _ h => h) ?_ (by assumption) ?_
       rotate_left 2
       · (simp only [getsl_]; rfl)
       · kernel_rfl
       · kernel_rfl
       · kernel_rfl
       · refine Or.inl ⟨by rfl, ?_⟩
         intro w hSw
         (try dsimp only at hSw)
         go_simp
         try with_reducible rfl
       try simp only [Act.put, sets_]
       refine wpAnyH_take (i := 6) (oi := ?_) (v := ?_) ?_ ?_ ?_ ?_ (fun _ _ _ h => h) ?_ (by assumption) ?_
       rotate_left 2
       · (simp only [getsl_]; rfl)
       · kernel_rfl
       · kernel_rfl
       · kernel_rfl
       · refine Or.inl ⟨by rfl, ?_⟩
         intro w hSw
         (try dsimp only at hSw)
         go_simp
         try with_reducible rfl
       try simp only [Act.put, sets_]
       refine wpAnyH_take (i := 7) (oi := ?_) (v := ?_) ?_ ?_ ?_ ?_ (fun _ _ _ h => h) ?_ (by assumption) ?_
       rotate_left 2
       · (simp only [getsl_]; rfl)
       · kernel_rfl
       · kernel_rfl
       · kernel_rfl
       · refine Or.inl ⟨by rfl, ?_⟩
         intro w hSw
         (try dsimp only at hSw)
         go_simp
         try with_reducible rfl
       try simp only [Act.put, sets_]
       refine wpAnyH_take (i := 8) (oi := ?_) (v := ?_) ?_ ?_ ?_ ?_ (fun _ _ _ h => h) ?_ (by assumption) ?_
       rotate_left 2
       · (simp only [getsl_]; rfl)
       · kernel_rfl
       · kernel_rfl
       · kernel_rfl
       · refine Or.inl ⟨by rfl, ?_⟩
         intro w hSw
         (try dsimp only at hSw)
         go_simp
         try with_reducible rfl
       try simp only [Act.put, sets_]
       refine wpAnyH_ready (rs := [9]) (by kernel_rfl) (by simp) ?_
       refine AllReadyH.cons (o := ?_) ?_ (fun K hK => ?_) AllReadyH.nil
       rotate_left
       · (simp only [getsl_]; rfl)
       go_simp
       refine (hsx _).mono ?_
       rintro e w9 ⟨rfl, rfl⟩
       refine hK.out _ _ (by assumption) (fun hHeld2 => ?_)
       clear hK K
       try simp only [Act.put, sets_]
       refine wpAnyH_take (i := 10) (oi := ?_) (v := ?_) ?_ ?_ ?_ ?_ (fun _ _ _ h => h) ?_ (by assumption) ?_
       rotate_left 2
       · (simp only [getsl_]; rfl)
       · kernel_rfl
       · kernel_rfl
       · kernel_rfl
       · refine Or.inl ⟨by rfl, ?_⟩
         intro w hSw
         (try dsimp only at hSw)
         go_simp
         try with_reducible rfl
       try simp only [Act.put, sets_]
       refine wpAnyH_take (i := 11) (oi := ?_) (v := ?_) ?_ ?_ ?_ ?_ (fun _ _ _ h => h) ?_ (by assumption) ?_
       rotate_left 2
       · (simp only [getsl_]; rfl)
       · kernel_rfl
       · kernel_rfl
       · kernel_rfl
       · refine Or.inl ⟨by rfl, ?_⟩
         intro w hSw
         (try dsimp only at hSw)
         go_simp
         try with_reducible rfl
       try simp only [Act.put, sets_]
       refine wpAnyH_take (i := 12) (oi := ?_) (v := ?_) ?_ ?_ ?_ ?_ (fun _ _ _ h => h) ?_ (by assumption) ?_
       rotate_left 2
       · (simp only [getsl_]; rfl)
       · kernel_rfl
       · kernel_rfl
       · kernel_rfl
       · refine Or.inl ⟨by rfl, ?_⟩
         intro w hSw
         (try dsimp only at hSw)
         go_simp
         try with_reducible rfl
       try simp only [Act.put, sets_]
       refine wpAnyH_take (i := 13) (oi := ?_) (v := undef) ?_ ?_ ?_ ?_ (fun _ _ _ h => h) ?_ (by assumption) ?_
       rotate_left
       · (simp only [getsl_]; rfl)
       · kernel_rfl
       · kernel_rfl
       · kernel_rfl
       · exact Or.inr ⟨by rfl, rfl⟩
       try simp only [Act.put, sets_]
       refine wpAnyH_take (i := 14) (oi := ?_) (v := undef) ?_ ?_ ?_ ?_ (fun _ _ _ h => h) ?_ (by assumption) ?_
       rotate_left
       · (simp only [getsl_]; rfl)
       · kernel_rfl
       · kernel_rfl
       · kernel_rfl
       · exact Or.inr ⟨by rfl, rfl⟩
       try simp only [Act.put, sets_]
       refine wpAnyH_take (i := 15) (oi := ?_) (v := undef) ?_ ?_ ?_ ?_ (fun _ _ _ h => h) ?_ (by assumption) ?_
       rotate_left
       · (simp only [getsl_]; rfl)
       · kernel_rfl
       · kernel_rfl
       · kernel_rfl
       · exact Or.inr ⟨by rfl, rfl⟩
       try simp only [Act.put, sets_]
       refine wpAnyH_take (i := 16) (oi := ?_) (v := undef) ?_ ?_ ?_ ?_ (fun _ _ _ h => h) ?_ (by assumption) ?_
       rotate_left
       · (simp only [getsl_]; rfl)
       · kernel_rfl
       · kernel_rfl
       · kernel_rfl
       · exact Or.inr ⟨by rfl, rfl⟩
       try simp only [Act.put, sets_]
       refine wpAnyH_take (i := 17) (oi := ?_) (v := undef) ?_ ?_ ?_ ?_ (fun _ _ _ h => h) ?_ (by assumption) ?_
       rotate_left
       · (simp only [getsl_]; rfl)
       · kernel_rfl
       · kernel_rfl
       · kernel_rfl
       · exact Or.inr ⟨by rfl, rfl⟩
       try simp only [Act.put, sets_]
       refine wpAnyH_take (i := 18) (oi := ?_) (v := ?_) ?_ ?_ ?_ ?_ (fun _ _ _ h => h) ?_ (by assumption) ?_
       rotate_left 2
       · (simp only [getsl_]; rfl)
       · kernel_rfl
       · kernel_rfl
       · kernel_rfl
       · refine Or.inl ⟨by rfl, ?_⟩
         intro w hSw
         (try dsimp only at hSw)
         go_simp
         try with_reducible rfl
       try simp only [Act.put, sets_]
       refine wpAnyH_take (i := 19) (oi := ?_) (v := ?_) ?_ ?_ ?_ ?_ (fun _ _ _ h => h) ?_ (by assumption) ?_
       rotate_left 2
       · (simp only [getsl_]; rfl)
       · kernel_rfl
       · kernel_rfl
       · kernel_rfl
       · refine Or.inl ⟨by rfl, ?_⟩
         intro w hSw
         (try dsimp only at hSw)
         go_simp
         try with_reducible rfl
       try simp only [Act.put, sets_]
       refine wpAnyH_take (i := 20) (oi := ?_) (v := undef) ?_ ?_ ?_ ?_ (fun _ _ _ h => h) ?_ (by assumption) ?_
       rotate_left
       · (simp only [getsl_]; rfl)
       · kernel_rfl
       · kernel_rfl
       · kernel_rfl
       · exact Or.inr ⟨by rfl, rfl⟩
       try simp only [Act.put, sets_]
       refine wpAnyH_take (i := 21) (oi := ?_) (v := undef) ?_ ?_ ?_ ?_ (fun _ _ _ h => h) ?_ (by assumption) ?_
       rotate_left
       · (simp only [getsl_]; rfl)
       · kernel_rfl
       · kernel_rfl
       · kernel_rfl
       · exact Or.inr ⟨by rfl, rfl⟩
       try simp only [Act.put, sets_]
       refine wpAnyH_take (i := 22) (oi := ?_) (v := undef) ?_ ?_ ?_ ?_ (fun _ _ _ h => h) ?_ (by assumption) ?_
       rotate_left
       · (simp only [getsl_]; rfl)
       · kernel_rfl
       · kernel_rfl
       · kernel_rfl
       · exact Or.inr ⟨by rfl, rfl⟩
       try simp only [Act.put, sets_]
       refine wpAnyH_take (i := 23) (oi := ?_) (v := undef) ?_ ?_ ?_ ?_ (fun _ _ _ h => h) ?_ (by assumption) ?_
       rotate_left
       · (simp only [getsl_]; rfl)
       · kernel_rfl
       · kernel_rfl
       · kernel_rfl
       · exact Or.inr ⟨by rfl, rfl⟩
       try simp only [Act.put, sets_]
       refine wpAnyH_take (i := 24) (oi := ?_) (v := undef) ?_ ?_ ?_ ?_ (fun _ _ _ h => h) ?_ (by assumption) ?_
       rotate_left
       · (simp only [getsl_]; rfl)
       · kernel_rfl
       · kernel_rfl
       · kernel_rfl
       · exact Or.inr ⟨by rfl, rfl⟩
       try simp only [Act.put, sets_]
       refine wpAnyH_take (i := 25) (oi := ?_) (v := ?_) ?_ ?_ ?_ ?_ (fun _ _ _ h => h) ?_ (by assumption) ?_
       rotate_left 2
       · (simp only [getsl_]; rfl)
       · kernel_rfl
       · kernel_rfl
       · kernel_rfl
       · refine Or.inl ⟨by rfl, ?_⟩
         intro w hSw
         (try dsimp only at hSw)
         go_simp
         try with_reducible rfl
       try simp only [Act.put, sets_]
       refine wpAnyH_done (by kernel_rfl) ?_ _
       refine NoPanic.normal ?_
       go_wp2
       refine hQ_.ret (results_tmp rfl _ _ _) rfl ?_
       exact ⟨by rw [hno.out, if_pos rfl]; rfl, hT.drew⟩
      · have hst2 := hst.out hS.out
        rw [← hy.out] at hst2
        have a1 : decide ((y : Int) < 128) = false := by simp; omega
        have a2 : decide ((191 : Int) < (y : Int)) = false := by simp; omega
        have hyes : Sq.okFrom F 1 (l.take (J + 1 - 1)) = true := by
         rw [show J + 1 - 1 = J by omega, htk.out, hoa.out]
         have h5 := hS.out
         have h6 := hy.out
         simp [h5, hJe, Sq.tailB]
         try omega
        clear hJe
        have q0 := hc0 _ (Touch.drew (Touch.refl [] wr))
        have qJ := hcJ _ (Touch.drew (Touch.refl [] wr))
        go_upto_region 9 with (fail)
        refine wp_region_noPanic ?_
        refine wp_region_held_drew (S := fun w' => Touch [] wr w') (by kernel_rfl) (Touch.drew (Touch.refl [] wr)) (fun hHeld => ?_)
        refine wpAnyH_take (i := 0) (oi := ?_) (v := ?_) ?_ ?_ ?_ ?_ (fun _ _ _ h => h) ?_ (by assumption) ?_
        rotate_left 2
        · (simp only [getsl_]; rfl)
        · kernel_rfl
        · kernel_rfl
        · kernel_rfl
        · refine Or.inl ⟨by rfl, ?_⟩
          intro w hSw
          (try dsimp only at hSw)
          go_simp
          try with_reducible rfl
        try simp only [Act.put, sets_]
        refine wpAnyH_take (i := 1) (oi := ?_) (v := ?_) ?_ ?_ ?_ ?_ (fun _ _ _ h => h) ?_ (by assumption) ?_
        rotate_left 2
        · (simp only [getsl_]; rfl)
        · kernel_rfl
        · kernel_rfl
        · kernel_rfl
        · refine Or.inl ⟨by rfl, ?_⟩
          intro w hSw
          (try dsimp only at hSw)
          go_simp
          try with_reducible rfl
        try simp only [Act.put, sets_]
        refine wpAnyH_take (i := 2) (oi := ?_) (v := ?_) ?_ ?_ ?_ ?_ (fun _ _ _ h => h) ?_ (by assumption) ?_
        rotate_left 2
        · (simp only [getsl_]; rfl)
        · kernel_rfl
        · kernel_rfl
        · kernel_rfl
        · refine Or.inl ⟨by rfl, ?_⟩
          intro w hSw
          (try dsimp only at hSw)
          go_simp
          try with_reducible rfl
        try simp only [Act.put, sets_]
        refine wpAnyH_take (i := 3) (oi := ?_) (v := ?_) ?_ ?_ ?_ ?_ (fun _ _ _ h => h) ?_ (by assumption) ?_
        rotate_left 2
        · (simp only [getsl_]; rfl)
        · kernel_rfl
        · kernel_rfl
        · kernel_rfl
        · refine Or.inl ⟨by rfl, ?_⟩
          intro w hSw
          (try dsimp only at hSw)
          go_simp
          try with_reducible rfl
        try simp only [Act.put, sets_]
        refine wpAnyH_take (i := 4) (oi := ?_) (v := ?_) ?_ ?_ ?_ ?_ (fun _ _ _ h => h) ?_ (by assumption) ?_
        rotate_left 2
        · (simp only [getsl_]; rfl)
        · kernel_rfl
        · kernel_rfl
        · kernel_rfl
        · refine Or.inl ⟨by rfl, ?_⟩
          intro w hSw
          (try dsimp only at hSw)
          go_simp
          try with_reducible rfl
        try simp only [Act.put, sets_]
        refine wpAnyH_take (i := 5) (oi := ?_) (v := ?_) ?_ ?_ ?_ ?_ (fun _ _ _ h => h) ?_ (by assumption) ?_
        rotate_left 2
        · (simp only [getsl_]; rfl)
        · kernel_rfl
        · kernel_rfl
        · kernel_rfl
        · refine Or.inl ⟨by rfl, ?_⟩
          intro w hSw
          (try dsimp only at hSw)
          go_simp
          try with_reducible rfl
        try simp only [Act.put, sets_]
        refine wpAnyH_take (i := 6) (oi := ?_) (v := ?_) ?_ ?_ ?_ ?_ (fun _ _ _ h => h) ?_ (by assumption) ?_
        rotate_left 2
        · (simp only [getsl_]; rfl)
        · kernel_rfl
        · kernel_rfl
        · kernel_rfl
        · refine Or.inl ⟨by rfl, ?_⟩
          intro w hSw
          (try dsimp only at hSw)
          go_simp
          try with_reducible rfl
        try simp only [Act.put, sets_]
        refine wpAnyH_take (i := 7) (oi := ?_) (v := ?_) ?_ ?_ ?_ ?_ (fun _ _ _ h => h) ?_ (by assumption) ?_
        rotate_left 2
        · (simp only [getsl_]; rfl)
        · kernel_rfl
        · kernel_rfl
        · kernel_rfl
        · refine Or.inl ⟨by rfl, ?_⟩
          intro w hSw
          (try dsimp only at hSw)
          go_simp
          try with_reducible rfl
        try simp only [Act.put, sets_]
        refine wpAnyH_take (i := 8) (oi := ?_) (v := ?_) ?_ ?_ ?_ ?_ (fun _ _ _ h => h) ?_ (by assumption) ?_
        rotate_left 2
        · (simp only [getsl_]; rfl)
        · kernel_rfl
        · kernel_rfl
        · kernel_rfl
        · refine Or.inl ⟨by rfl, ?_⟩
          intro w hSw
          (try dsimp only at hSw)
          go_simp
          try with_reducible rfl
        try simp only [Act.put, sets_]
        refine wpAnyH_ready (rs := [9]) (by kernel_rfl) (by simp) ?_
        refine AllReadyH.cons (o := ?_) ?_ (fun K hK => ?_) AllReadyH.nil
        rotate_left
        · (simp only [getsl_]; rfl)
        go_simp
        refine (hsx _).mono ?_
        rintro e w9 ⟨rfl, rfl⟩
        refine hK.out _ _ (by assumption) (fun hHeld2 => ?_)
        clear hK K
        try simp only [Act.put, sets_]
        refine wpAnyH_take (i := 10) (oi := ?_) (v := ?_) ?_ ?_ ?_ ?_ (fun _ _ _ h => h) ?_ (by assumption) ?_
        rotate_left 2
        · (simp only [getsl_]; rfl)
        · kernel_rfl
        · kernel_rfl
        · kernel_rfl
        · refine Or.inl ⟨by rfl, ?_⟩
          intro w hSw
          (try dsimp only at hSw)
          go_simp
          try with_reducible rfl
        try simp only [Act.put, sets_]
        refine wpAnyH_take (i := 11) (oi := ?_) (v := ?_) ?_ ?_ ?_ ?_ (fun _ _ _ h => h) ?_ (by assumption) ?_
        rotate_left 2
        · (simp only [getsl_]; rfl)
        · kernel_rfl
        · kernel_rfl
        · kernel_rfl
        · refine Or.inl ⟨by rfl, ?_⟩
          intro w hSw
          (try dsimp only at hSw)
          go_simp
          try with_reducible rfl
        try simp only [Act.put, sets_]
        refine wpAnyH_take (i := 12) (oi := ?_) (v := ?_) ?_ ?_ ?_ ?_ (fun _ _ _ h => h) ?_ (by assumption) ?_
        rotate_left 2
        · (simp only [getsl_]; rfl)
        · kernel_rfl
        · kernel_rfl
        · kernel_rfl
        · refine Or.inl ⟨by rfl, ?_⟩
          intro w hSw
          (try dsimp only at hSw)
          go_simp
          try with_reducible rfl
        try simp only [Act.put, sets_]
        refine wpAnyH_take (i := 13) (oi := ?_) (v := ?_) ?_ ?_ ?_ ?_ (fun _ _ _ h => h) ?_ (by assumption) ?_
        rotate_left 2
        · (simp only [getsl_]; rfl)
        · kernel_rfl
        · kernel_rfl
        · kernel_rfl
        · refine Or.inl ⟨by rfl, ?_⟩
          intro w hSw
          (try dsimp only at hSw)
          go_simp
          try with_reducible rfl
        try simp only [Act.put, sets_]
        refine wpAnyH_take (i := 14) (oi := ?_) (v := ?_) ?_ ?_ ?_ ?_ (fun _ _ _ h => h) ?_ (by assumption) ?_
        rotate_left 2
        · (simp only [getsl_]; rfl)
        · kernel_rfl
        · kernel_rfl
        · kernel_rfl
        · refine Or.inl ⟨by rfl, ?_⟩
          intro w hSw
          (try dsimp only at hSw)
          go_simp
          try with_reducible rfl
        try simp only [Act.put, sets_]
        refine wpAnyH_take (i := 15) (oi := ?_) (v := ?_) ?_ ?_ ?_ ?_ (fun _ _ _ h => h) ?_ (by assumption) ?_
        rotate_left 2
        · (simp only [getsl_]; rfl)
        · kernel_rfl
        · kernel_rfl
        · kernel_rfl
        · refine Or.inl ⟨by rfl, ?_⟩
          intro w hSw
          (try dsimp only at hSw)
          go_simp
          try with_reducible rfl
        try simp only [Act.put, sets_]
        refine wpAnyH_take (i := 16) (oi := ?_) (v := ?_) ?_ ?_ ?_ ?_ (fun _ _ _ h => h) ?_ (by assumption) ?_
        rotate_left 2
        · (simp only [getsl_]; rfl)
        · kernel_rfl
        · kernel_rfl
        · kernel_rfl
        · refine Or.inl ⟨by rfl, ?_⟩
          intro w hSw
          (try dsimp only at hSw)
          go_simp
          try with_reducible rfl
        try simp only [Act.put, sets_]
        refine wpAnyH_take (i := 17) (oi := ?_) (v := ?_) ?_ ?_ ?_ ?_ (fun _ _ _ h => h) ?_ (by assumption) ?_
        rotate_left 2
        · (simp only [getsl_]; rfl)
        · kernel_rfl
        · kernel_rfl
        · kernel_rfl
        · refine Or.inl ⟨by rfl, ?_⟩
          intro w hSw
          (try dsimp only at hSw)
          go_simp
          try with_reducible rfl
        try simp only [Act.put, sets_]
        refine wpAnyH_take (i := 18) (oi := ?_) (v := ?_) ?_ ?_ ?_ ?_ (fun _ _ _ h => h) ?_ (by assumption) ?_
        rotate_left 2
        · (simp only [getsl_]; rfl)
        · kernel_rfl
        · kernel_rfl
        · kernel_rfl
        · refine Or.inl ⟨by rfl, ?_⟩
          intro w hSw
          (try dsimp only at hSw)
          go_simp
          try with_reducible rfl
        try simp only [Act.put, sets_]
        refine wpAnyH_take (i := 19) (oi := ?_) (v := ?_) ?_ ?_ ?_ ?_ (fun _ _ _ h => h) ?_ (by assumption) ?_
        rotate_left 2
        · (simp only [getsl_]; rfl)
        · kernel_rfl
        · kernel_rfl
        · kernel_rfl
        · refine Or.inl ⟨by rfl, ?_⟩
          intro w hSw
          (try dsimp only at hSw)
          go_simp
          try with_reducible rfl
        try simp only [Act.put, sets_]
        refine wpAnyH_take (i := 20) (oi := ?_) (v := ?_) ?_ ?_ ?_ ?_ (fun _ _ _ h => h) ?_ (by assumption) ?_
        rotate_left 2
        · (simp only [getsl_]; rfl)
        · kernel_rfl
        · kernel_rfl
        · kernel_rfl
        · refine Or.inl ⟨by rfl, ?_⟩
          intro w hSw
          (try dsimp only at hSw)
          go_simp
          try with_reducible rfl
        try simp only [Act.put, sets_]
        refine wpAnyH_take (i := 21) (oi := ?_) (v := ?_) ?_ ?_ ?_ ?_ (fun _ _ _ h => h) ?_ (by assumption) ?_
        rotate_left 2
        · (simp only [getsl_]; rfl)
        · kernel_rfl
        · kernel_rfl
        · kernel_rfl
        · refine Or.inl ⟨by rfl, ?_⟩
          intro w hSw
          (try dsimp only at hSw)
          go_simp
          try with_reducible rfl
        try simp only [Act.put, sets_]
        refine wpAnyH_take (i := 22) (oi := ?_) (v := ?_) ?_ ?_ ?_ ?_ (fun _ _ _ h => h) ?_ (by assumption) ?_
        rotate_left 2
        · (simp only [getsl_]; rfl)
        · kernel_rfl
        · kernel_rfl
        · kernel_rfl
        · refine Or.inl ⟨by rfl, ?_⟩
          intro w hSw
          (try dsimp only at hSw)
          go_simp
          try with_reducible rfl
        try simp only [Act.put, sets_]
        refine wpAnyH_take (i := 23) (oi := ?_) (v := ?_) ?_ ?_ ?_ ?_ (fun _ _ _ h => h) ?_ (by assumption) ?_
        rotate_left 2
        · (simp only [getsl_]; rfl)
        · kernel_rfl
        · kernel_rfl
        · kernel_rfl
        · refine Or.inl ⟨by rfl, ?_⟩
          intro w hSw
          (try dsimp only at hSw)
          go_simp
          try with_reducible rfl
        try simp only [Act.put, sets_]
        refine wpAnyH_take (i := 24) (oi := ?_) (v := ?_) ?_ ?_ ?_ ?_ (fun _ _ _ h => h) ?_ (by assumption) ?_
        rotate_left 2
        · (simp only [getsl_]; rfl)
        · kernel_rfl
        · kernel_rfl
        · kernel_rfl
        · refine Or.inl ⟨by rfl, ?_⟩
          intro w hSw
          (try dsimp only at hSw)
          go_simp
          try with_reducible rfl
        try simp only [Act.put, sets_]
        refine wpAnyH_take (i := 25) (oi := ?_) (v := ?_) ?_ ?_ ?_ ?_ (fun _ _ _ h => h) ?_ (by assumption) ?_
        rotate_left 2
        · (simp only [getsl_]; rfl)
        · kernel_rfl
        · kernel_rfl
        · kernel_rfl
        · refine Or.inl ⟨by rfl, ?_⟩
          intro w hSw
          (try dsimp only at hSw)
          go_simp
          try with_reducible rfl
        try simp only [Act.put, sets_]
        refine wpAnyH_done (by kernel_rfl) ?_ _
        refine NoPanic.normal ?_
        go_wp2
        go_roundw
        case measure => simp [intOf]; omega
        case rel => exact ⟨J + 1, by omega, by omega, by go_num, ⟨hyes⟩, hT.drew⟩
    · have e1 : ((J : Int) == 1) = false := by rw [beq_eq_false_iff_ne]; omega
      by_cases b1 : y < 128
      · have a1 : decide ((y : Int) < 128) = true := by simp; omega
        have hno : Sq.okFrom F 1 l = false := gU F l J (by
         rw [htk.out, hoa.out]
         have h5 := hS.out
         have h6 := hy.out
         simp [h5, hJe, Sq.tailB]
         try omega)
        replace hno := Box.mk hno
        clear hJe
        have q0 := hc0 _ (Touch.drew (Touch.refl [] wr))
        have qJ := hcJ _ (Touch.drew (Touch.refl [] wr))
        go_upto_region 9 with (fail)
        refine wp_region_noPanic ?_
        refine wp_region_held_drew (S := fun w' => Touch [] wr w') (by kernel_rfl) (Touch.drew (Touch.refl [] wr)) (fun hHeld => ?_)
        refine wpAnyH_take (i := 0) (oi := ?_) (v := ?_) ?_ ?_ ?_ ?_ (fun _ _ _ h => h) ?_ (by assumption) ?_
        rotate_left 2
        · (simp only [getsl_]; rfl)
        · kernel_rfl
        · kernel_rfl
        · kernel_rfl
        · refine Or.inl ⟨by rfl, ?_⟩
          intro w hSw
          (try dsimp only at hSw)
          go_simp
          try with_reducible rfl
        try simp only [Act.put, sets_]
        refine wpAnyH_take (i := 1) (oi := ?_) (v := ?_) ?_ ?_ ?_ ?_ (fun _ _ _ h => h) ?_ (by assumption) ?_
        rotate_left 2
        · (simp only [getsl_]; rfl)
        · kernel_rfl
        · kernel_rfl
        · kernel_rfl
        · refine Or.inl ⟨by rfl, ?_⟩
          intro w hSw
          (try dsimp only at hSw)
          go_simp
          try with_reducible rfl
        try simp only [Act.put, sets_]
        refine wpAnyH_take (i := 2) (oi := ?_) (v := ?_) ?_ ?_ ?_ ?_ (fun _ _ _ h => h) ?_ (by assumption) ?_
        rotate_left 2
        · (simp only [getsl_]; rfl)
        · kernel_rfl
        · kernel_rfl
        · kernel_rfl
        · refine Or.inl ⟨by rfl, ?_⟩
          intro w hSw
          (try dsimp only at hSw)
          go_simp
          try with_reducible rfl
        try simp only [Act.put, sets_]
        refine wpAnyH_take (i := 3) (oi := ?_) (v := undef) ?_ ?_ ?_ ?_ (fun _ _ _ h => h) ?_ (by assumption) ?_
        rotate_left
        · (simp only [getsl_]; rfl)
        · kernel_rfl
        · kernel_rfl
        · kernel_rfl
        · exact Or.inr ⟨by rfl, rfl⟩
        try simp only [Act.put, sets_]
        refine wpAnyH_take (i := 4) (oi := ?_) (v := undef) ?_ ?_ ?_ ?_ (fun _ _ _ h => h) ?_ (by assumption) ?_
        rotate_left
        · (simp only [getsl_]; rfl)
        · kernel_rfl
        · kernel_rfl
        · kernel_rfl
        · exact Or.inr ⟨by rfl, rfl⟩
        try simp only [Act.put, sets_]
        refine wpAnyH_take (i := 5) (oi := ?_) (v := undef) ?_ ?_ ?_ ?_ (fun _ _ _ h => h) ?_ (by assumption) ?_
        rotate_left
        · (simp only [getsl_]; rfl)
        · kernel_rfl
        · kernel_rfl
        · kernel_rfl
        · exact Or.inr ⟨by rfl, rfl⟩
        try simp only [Act.put, sets_]
        refine wpAnyH_take (i := 6) (oi := ?_) (v := undef) ?_ ?_ ?_ ?_ (fun _ _ _ h => h) ?_ (by assumption) ?_
        rotate_left
        · (simp only [getsl_]; rfl)
        · kernel_rfl
        · kernel_rfl
        · kernel_rfl
        · exact Or.inr ⟨by rfl, rfl⟩
        try simp only [Act.put, sets_]
        refine wpAnyH_take (i := 7) (oi := ?_) (v := undef) ?_ ?_ ?_ ?_ (fun _ _ _ h => h) ?_ (by assumption) ?_
        rotate_left
        · (simp only [getsl_]; rfl)
        · kernel_rfl
        · kernel_rfl
        · kernel_rfl
        · exact Or.inr ⟨by rfl, rfl⟩
        try simp only [Act.put, sets_]
        refine wpAnyH_take (i := 8) (oi := ?_) (v := undef) ?_ ?_ ?_ ?_ (fun _ _ _ h => h) ?_ (by assumption) ?_
        rotate_left
        · (simp only [getsl_]; rfl)
        · kernel_rfl
        · kernel_rfl
        · kernel_rfl
        · exact Or.inr ⟨by rfl, rfl⟩
        try simp only [Act.put, sets_]
        refine wpAnyH_ready (rs := [9]) (by kernel_rfl) (by simp) ?_
        refine AllReadyH.cons (o := ?_) ?_ (fun K hK => ?_) AllReadyH.nil
        rotate_left
        · (simp only [getsl_]; rfl)
        rw [if_neg (by rw [Bool.not_eq_true]; rfl)]
        refine hK.out _ _ (by assumption) (fun hHeld2 => ?_)
        clear hK K
        try simp only [Act.put, sets_]
        refine wpAnyH_take (i := 10) (oi := ?_) (v := undef) ?_ ?_ ?_ ?_ (fun _ _ _ h => h) ?_ (by assumption) ?_
        rotate_left
        · (simp only [getsl_]; rfl)
        · kernel_rfl
        · kernel_rfl
        · kernel_rfl
        · exact Or.inr ⟨by rfl, rfl⟩
        try simp only [Act.put, sets_]
        refine wpAnyH_take (i := 11) (oi := ?_) (v := ?_) ?_ ?_ ?_ ?_ (fun _ _ _ h => h) ?_ (by assumption) ?_
        rotate_left 2
        · (simp only [getsl_]; rfl)
        · kernel_rfl
        · kernel_rfl
        · kernel_rfl
        · refine Or.inl ⟨by rfl, ?_⟩
          intro w hSw
          (try dsimp only at hSw)
          go_simp
          try with_reducible rfl
        try simp only [Act.put, sets_]
        refine wpAnyH_take (i := 12) (oi := ?_) (v := ?_) ?_ ?_ ?_ ?_ (fun _ _ _ h => h) ?_ (by assumption) ?_
        rotate_left 2
        · (simp only [getsl_]; rfl)
        · kernel_rfl
        · kernel_rfl
        · kernel_rfl
        · refine Or.inl ⟨by rfl, ?_⟩
          intro w hSw
          (try dsimp only at hSw)
          go_simp
          try with_reducible rfl
        try simp only [Act.put, sets_]
        refine wpAnyH_take (i := 13) (oi := ?_) (v := ?_) ?_ ?_ ?_ ?_ (fun _ _ _ h => h) ?_ (by assumption) ?_
        rotate_left 2
        · (simp only [getsl_]; rfl)
        · kernel_rfl
        · kernel_rfl
        · kernel_rfl
        · refine Or.inl ⟨by rfl, ?_⟩
          intro w hSw
          (try dsimp only at hSw)
          go_simp
          try with_reducible rfl
        try simp only [Act.put, sets_]
        refine wpAnyH_take (i := 14) (oi := ?_) (v := ?_) ?_ ?_ ?_ ?_ (fun _ _ _ h => h) ?_ (by assumption) ?_
        rotate_left 2
        · (simp only [getsl_]; rfl)
        · kernel_rfl
        · kernel_rfl
        · kernel_rfl
        · refine Or.inl ⟨by rfl, ?_⟩
          intro w hSw
          (try dsimp only at hSw)
          go_simp
          try with_reducible rfl
        try simp only [Act.put, sets_]
        refine wpAnyH_take (i := 15) (oi := ?_) (v := ?_) ?_ ?_ ?_ ?_ (fun _ _ _ h => h) ?_ (by assumption) ?_
        rotate_left 2
        · (simp only [getsl_]; rfl)
        · kernel_rfl
        · kernel_rfl
        · kernel_rfl
        · refine Or.inl ⟨by rfl, ?_⟩
          intro w hSw
          (try dsimp only at hSw)
          go_simp
          try with_reducible rfl
        try simp only [Act.put, sets_]
        refine wpAnyH_take (i := 16) (oi := ?_) (v := ?_) ?_ ?_ ?_ ?_ (fun _ _ _ h => h) ?_ (by assumption) ?_
        rotate_left 2
        · (simp only [getsl_]; rfl)
        · kernel_rfl
        · kernel_rfl
        · kernel_rfl
        · refine Or.inl ⟨by rfl, ?_⟩
          intro w hSw
          (try dsimp only at hSw)
          go_simp
          try with_reducible rfl
        try simp only [Act.put, sets_]
        refine wpAnyH_take (i := 17) (oi := ?_) (v := ?_) ?_ ?_ ?_ ?_ (fun _ _ _ h => h) ?_ (by assumption) ?_
        rotate_left 2
        · (simp only [getsl_]; rfl)
        · kernel_rfl
        · kernel_rfl
        · kernel_rfl
        · refine Or.inl ⟨by rfl, ?_⟩
          intro w hSw
          (try dsimp only at hSw)
          go_simp
          try with_reducible rfl
        try simp only [Act.put, sets_]
        refine wpAnyH_take (i := 18) (oi := ?_) (v := ?_) ?_ ?_ ?_ ?_ (fun _ _ _ h => h) ?_ (by assumption) ?_
        rotate_left 2
        · (simp only [getsl_]; rfl)
        · kernel_rfl
        · kernel_rfl
        · kernel_rfl
        · refine Or.inl ⟨by rfl, ?_⟩
          intro w hSw
          (try dsimp only at hSw)
          go_simp
          try with_reducible rfl
        try simp only [Act.put, sets_]
        refine wpAnyH_take (i := 19) (oi := ?_) (v := ?_) ?_ ?_ ?_ ?_ (fun _ _ _ h => h) ?_ (by assumption) ?_
        rotate_left 2
        · (simp only [getsl_]; rfl)
        · kernel_rfl
        · kernel_rfl
        · kernel_rfl
        · refine Or.inl ⟨by rfl, ?_⟩
          intro w hSw
          (try dsimp only at hSw)
          go_simp
          try with_reducible rfl
        try simp only [Act.put, sets_]
        refine wpAnyH_take (i := 20) (oi := ?_) (v := undef) ?_ ?_ ?_ ?_ (fun _ _ _ h => h) ?_ (by assumption) ?_
        rotate_left
        · (simp only [getsl_]; rfl)
        · kernel_rfl
        · kernel_rfl
        · kernel_rfl
        · exact Or.inr ⟨by rfl, rfl⟩
        try simp only [Act.put, sets_]
        refine wpAnyH_take (i := 21) (oi := ?_) (v := undef) ?_ ?_ ?_ ?_ (fun _ _ _ h => h) ?_ (by assumption) ?_
        rotate_left
        · (simp only [getsl_]; rfl)
        · kernel_rfl
        · kernel_rfl
        · kernel_rfl
        · exact Or.inr ⟨by rfl, rfl⟩
        try simp only [Act.put, sets_]
        refine wpAnyH_take (i := 22) (oi := ?_) (v := undef) ?_ ?_ ?_ ?_ (fun _ _ _ h => h) ?_ (by assumption) ?_
        rotate_left
        · (simp only [getsl_]; rfl)
        · kernel_rfl
        · kernel_rfl
        · kernel_rfl
        · exact Or.inr ⟨by rfl, rfl⟩
        try simp only [Act.put, sets_]
        refine wpAnyH_take (i := 23) (oi := ?_) (v := undef) ?_ ?_ ?_ ?_ (fun _ _ _ h => h) ?_ (by assumption) ?_
        rotate_left
        · (simp only [getsl_]; rfl)
        · kernel_rfl
        · kernel_rfl
        · kernel_rfl
        · exact Or.inr ⟨by rfl, rfl⟩
        try simp only [Act.put, sets_]
        refine wpAnyH_take (i := 24) (oi := ?_) (v := undef) ?_ ?_ ?_ ?_ (fun _ _ _ h => h) ?_ (by assumption) ?_
        rotate_left
        · (simp only [getsl_]; rfl)
        · kernel_rfl
        · kernel_rfl
        · kernel_rfl
        · exact Or.inr ⟨by rfl, rfl⟩
        try simp only [Act.put, sets_]
        refine wpAnyH_take (i := 25) (oi := ?_) (v := ?_) ?_ ?_ ?_ ?_ (fun _ _ _ h => h) ?_ (by assumption) ?_
        rotate_left 2
        · (simp only [getsl_]; rfl)
        · kernel_rfl
        · kernel_rfl
        · kernel_rfl
        · refine Or.inl ⟨by rfl, ?_⟩
          intro w hSw
          (try dsimp only at hSw)
          go_simp
          try with_reducible rfl
        try simp only [Act.put, sets_]
        refine wpAnyH_done (by kernel_rfl) ?_ _
        refine NoPanic.normal ?_
        go_wp2
        refine hQ_.ret (results_tmp rfl _ _ _) rfl ?_
        exact ⟨by rw [hno.out, if_pos rfl]; rfl, hT.drew⟩
      · have a1 : decide ((y : Int) < 128) = false := by simp; omega
        by_cases b2 : 191 < y
        · have a2 : decide ((191 : Int) < (y : Int)) = true := by simp; omega
          have hno : Sq.okFrom F 1 l = false := gU F l J (by
           rw [htk.out, hoa.out]
           have h5 := hS.out
           have h6 := hy.out
           simp [h5, hJe, Sq.tailB]
           try omega)
          replace hno := Box.mk hno
          clear hJe
          have q0 := hc0 _ (Touch.drew (Touch.refl [] wr))
          have qJ := hcJ _ (Touch.drew (Touch.refl [] wr))
          go_upto_region 9 with (fail)
          refine wp_region_noPanic ?_
          refine wp_region_held_drew (S := fun w' => Touch [] wr w') (by kernel_rfl) (Touch.drew (Touch.refl [] wr)) (fun hHeld => ?_)
          refine wpAnyH_take (i := 0) (oi := ?_) (v := ?_) ?_ ?_ ?_ ?_ (fun _ _ _ h => h) ?_ (by assumption) ?_
          rotate_left 2
          · (simp only [getsl_]; rfl)
          · kernel_rfl
          · kernel_rfl
          · kernel_rfl
          · refine Or.inl ⟨by rfl, ?_⟩
            intro w hSw
            (try dsimp only at hSw)
            go_simp
            try with_reducible rfl
          try simp only [Act.put, sets_]
          refine wpAnyH_take (i := 1) (oi := ?_) (v := ?_) ?_ ?_ ?_ ?_ (fun _ _ _ h => h) ?_ (by assumption) ?_
          rotate_left 2
          · (simp only [getsl_]; rfl)
          · kernel_rfl
          · kernel_rfl
          · kernel_rfl
          · refine Or.inl ⟨by rfl, ?_⟩
            intro w hSw
            (try dsimp only at hSw)
            go_simp
            try with_reducible rfl
          try simp only [Act.put, sets_]
          refine wpAnyH_take (i := 2) (oi := ?_) (v := ?_) ?_ ?_ ?_ ?_ (fun _ _ _ h => h) ?_ (by assumption) ?_
          rotate_left 2
          · (simp only [getsl_]; rfl)
          · kernel_rfl
          · kernel_rfl
          · kernel_rfl
          · refine Or.inl ⟨by rfl, ?_⟩
            intro w hSw
            (try dsimp only at hSw)
            go_simp
            try with_reducible rfl
          try simp only [Act.put, sets_]
          refine wpAnyH_take (i := 3) (oi := ?_) (v := undef) ?_ ?_ ?_ ?_ (fun _ _ _ h => h) ?_ (by assumption) ?_
          rotate_left
          · (simp only [getsl_]; rfl)
          · kernel_rfl
          · kernel_rfl
          · kernel_rfl
          · exact Or.inr ⟨by rfl, rfl⟩
          try simp only [Act.put, sets_]
          refine wpAnyH_take (i := 4) (oi := ?_) (v := undef) ?_ ?_ ?_ ?_ (fun _ _ _ h => h) ?_ (by assumption) ?_
          rotate_left
          · (simp only [getsl_]; rfl)
          · kernel_rfl
          · kernel_rfl
          · kernel_rfl
          · exact Or.inr ⟨by rfl, rfl⟩
          try simp only [Act.put, sets_]
          refine wpAnyH_take (i := 5) (oi := ?_) (v := undef) ?_ ?_ ?_ ?_ (fun _ _ _ h => h) ?_ (by assumption) ?_
          rotate_left
          · (simp only [getsl_]; rfl)
          · kernel_rfl
          · kernel_rfl
          · kernel_rfl
          · exact Or.inr ⟨by rfl, rfl⟩
          try simp only [Act.put, sets_]
          refine wpAnyH_take (i := 6) (oi := ?_) (v := undef) ?_ ?_ ?_ ?_ (fun _ _ _ h => h) ?_ (by assumption) ?_
          rotate_left
          · (simp only [getsl_]; rfl)
          · kernel_rfl
          · kernel_rfl
          · kernel_rfl
          · exact Or.inr ⟨by rfl, rfl⟩
          try simp only [Act.put, sets_]
          refine wpAnyH_take (i := 7) (oi := ?_) (v := undef) ?_ ?_ ?_ ?_ (fun _ _ _ h => h) ?_ (by assumption) ?_
          rotate_left
          · (simp only [getsl_]; rfl)
          · kernel_rfl
          · kernel_rfl
          · kernel_rfl
          · exact Or.inr ⟨by rfl, rfl⟩
          try simp only [Act.put, sets_]
          refine wpAnyH_take (i := 8) (oi := ?_) (v := undef) ?_ ?_ ?_ ?_ (fun _ _ _ h => h) ?_ (by assumption) ?_
          rotate_left
          · (simp only [getsl_]; rfl)
          · kernel_rfl
          · kernel_rfl
          · kernel_rfl
          · exact Or.inr ⟨by rfl, rfl⟩
          try simp only [Act.put, sets_]
          refine wpAnyH_ready (rs := [9]) (by kernel_rfl) (by simp) ?_
          refine AllReadyH.cons (o := ?_) ?_ (fun K hK => ?_) AllReadyH.nil
          rotate_left
          · (simp only [getsl_]; rfl)
          rw [if_neg (by rw [Bool.not_eq_true]; rfl)]
          refine hK.out _ _ (by assumption) (fun hHeld2 => ?_)
          clear hK K
          try simp only [Act.put, sets_]
          refine wpAnyH_take (i := 10) (oi := ?_) (v := undef) ?_ ?_ ?_ ?_ (fun _ _ _ h => h) ?_ (by assumption) ?_
          rotate_left
          · (simp only [getsl_]; rfl)
          · kernel_rfl
          · kernel_rfl
          · kernel_rfl
          · exact Or.inr ⟨by rfl, rfl⟩
          try simp only [Act.put, sets_]
          refine wpAnyH_take (i := 11) (oi := ?_) (v := ?_) ?_ ?_ ?_ ?_ (fun _ _ _ h => h) ?_ (by assumption) ?_
          rotate_left 2
          · (simp only [getsl_]; rfl)
          · kernel_rfl
          · kernel_rfl
          · kernel_rfl
          · refine Or.inl ⟨by rfl, ?_⟩
            intro w hSw
            (try dsimp only at hSw)
            go_simp
            try with_reducible rfl
          try simp only [Act.put, sets_]
          refine wpAnyH_take (i := 12) (oi := ?_) (v := ?_) ?_ ?_ ?_ ?_ (fun _ _ _ h => h) ?_ (by assumption) ?_
          rotate_left 2
          · (simp only [getsl_]; rfl)
          · kernel_rfl
          · kernel_rfl
          · kernel_rfl
          · refine Or.inl ⟨by rfl, ?_⟩
            intro w hSw
            (try dsimp only at hSw)
            go_simp
            try with_reducible rfl
          try simp only [Act.put, sets_]
          refine wpAnyH_take (i := 13) (oi := ?_) (v := ?_) ?_ ?_ ?_ ?_ (fun _ _ _ h => h) ?_ (by assumption) ?_
          rotate_left 2
          · (simp only [getsl_]; rfl)
          · kernel_rfl
          · kernel_rfl
          · kernel_rfl
          · refine Or.inl ⟨by rfl, ?_⟩
            intro w hSw
            (try dsimp only at hSw)
            go_simp
            try with_reducible rfl
          try simp only [Act.put, sets_]
          refine wpAnyH_take (i := 14) (oi := ?_) (v := ?_) ?_ ?_ ?_ ?_ (fun _ _ _ h => h) ?_ (by assumption) ?_
          rotate_left 2
          · (simp only [getsl_]; rfl)
          · kernel_rfl
          · kernel_rfl
          · kernel_rfl
          · refine Or.inl ⟨by rfl, ?_⟩
            intro w hSw
            (try dsimp only at hSw)
            go_simp
            try with_reducible rfl
          try simp only [Act.put, sets_]
          refine wpAnyH_take (i := 15) (oi := ?_) (v := ?_) ?_ ?_ ?_ ?_ (fun _ _ _ h => h) ?_ (by assumption) ?_
          rotate_left 2
          · (simp only [getsl_]; rfl)
          · kernel_rfl
          · kernel_rfl
          · kernel_rfl
          · refine Or.inl ⟨by rfl, ?_⟩
            intro w hSw
            (try dsimp only at hSw)
            go_simp
            try with_reducible rfl
          try simp only [Act.put, sets_]
          refine wpAnyH_take (i := 16) (oi := ?_) (v := ?_) ?_ ?_ ?_ ?_ (fun _ _ _ h => h) ?_ (by assumption) ?_
          rotate_left 2
          · (simp only [getsl_]; rfl)
          · kernel_rfl
          · kernel_rfl
          · kernel_rfl
          · refine Or.inl ⟨by rfl, ?_⟩
            intro w hSw
            (try dsimp only at hSw)
            go_simp
            try with_reducible rfl
          try simp only [Act.put, sets_]
          refine wpAnyH_take (i := 17) (oi := ?_) (v := ?_) ?_ ?_ ?_ ?_ (fun _ _ _ h => h) ?_ (by assumption) ?_
          rotate_left 2
          · (simp only [getsl_]; rfl)
          · kernel_rfl
          · kernel_rfl
          · kernel_rfl
          · refine Or.inl ⟨by rfl, ?_⟩
            intro w hSw
            (try dsimp only at hSw)
            go_simp
            try with_reducible rfl
          try simp only [Act.put, sets_]
          refine wpAnyH_take (i := 18) (oi := ?_) (v := ?_) ?_ ?_ ?_ ?_ (fun _ _ _ h => h) ?_ (by assumption) ?_
          rotate_left 2
          · (simp only [getsl_]; rfl)
          · kernel_rfl
          · kernel_rfl
          · kernel_rfl
          · refine Or.inl ⟨by rfl, ?_⟩
            intro w hSw
            (try dsimp only at hSw)
            go_simp
            try with_reducible rfl
          try simp only [Act.put, sets_]
          refine wpAnyH_take (i := 19) (oi := ?_) (v := ?_) ?_ ?_ ?_ ?_ (fun _ _ _ h => h) ?_ (by assumption) ?_
          rotate_left 2
          · (simp only [getsl_]; rfl)
          · kernel_rfl
          · kernel_rfl
          · kernel_rfl
          · refine Or.inl ⟨by rfl, ?_⟩
            intro w hSw
            (try dsimp only at hSw)
            go_simp
            try with_reducible rfl
          try simp only [Act.put, sets_]
          refine wpAnyH_take (i := 20) (oi := ?_) (v := ?_) ?_ ?_ ?_ ?_ (fun _ _ _ h => h) ?_ (by assumption) ?_
          rotate_left 2
          · (simp only [getsl_]; rfl)
          · kernel_rfl
          · kernel_rfl
          · kernel_rfl
          · refine Or.inl ⟨by rfl, ?_⟩
            intro w hSw
            (try dsimp only at hSw)
            go_simp
            try with_reducible rfl
          try simp only [Act.put, sets_]
          refine wpAnyH_take (i := 21) (oi := ?_) (v := ?_) ?_ ?_ ?_ ?_ (fun _ _ _ h => h) ?_ (by assumption) ?_
          rotate_left 2
          · (simp only [getsl_]; rfl)
          · kernel_rfl
          · kernel_rfl
          · kernel_rfl
          · refine Or.inl ⟨by rfl, ?_⟩
            intro w hSw
            (try dsimp only at hSw)
            go_simp
            try with_reducible rfl
          try simp only [Act.put, sets_]
          refine wpAnyH_take (i := 22) (oi := ?_) (v := ?_) ?_ ?_ ?_ ?_ (fun _ _ _ h => h) ?_ (by assumption) ?_
          rotate_left 2
          · (simp only [getsl_]; rfl)
          · kernel_rfl
          · kernel_rfl
          · kernel_rfl
          · refine Or.inl ⟨by rfl, ?_⟩
            intro w hSw
            (try dsimp only at hSw)
            go_simp
            try with_reducible rfl
          try simp only [Act.put, sets_]
          refine wpAnyH_take (i := 23) (oi := ?_) (v := ?_) ?_ ?_ ?_ ?_ (fun _ _ _ h => h) ?_ (by assumption) ?_
          rotate_left 2
          · (simp only [getsl_]; rfl)
          · kernel_rfl
          · kernel_rfl
          · kernel_rfl
          · refine Or.inl ⟨by rfl, ?_⟩
            intro w hSw
            (try dsimp only at hSw)
            go_simp
            try with_reducible rfl
          try simp only [Act.put, sets_]
          refine wpAnyH_take (i := 24) (oi := ?_) (v := ?_) ?_ ?_ ?_ ?_ (fun _ _ _ h => h) ?_ (by assumption) ?_
          rotate_left 2
          · (simp only [getsl_]; rfl)
          · kernel_rfl
          · kernel_rfl
          · kernel_rfl
          · refine Or.inl ⟨by rfl, ?_⟩
            intro w hSw
            (try dsimp only at hSw)
            go_simp
            try with_reducible rfl
          try simp only [Act.put, sets_]
          refine wpAnyH_take (i := 25) (oi := ?_) (v := ?_) ?_ ?_ ?_ ?_ (fun _ _ _ h => h) ?_ (by assumption) ?_
          rotate_left 2
          · (simp only [getsl_]; rfl)
          · kernel_rfl
          · kernel_rfl
          · kernel_rfl
          · refine Or.inl ⟨by rfl, ?_⟩
            intro w hSw
            (try dsimp only at hSw)
            go_simp
            try with_reducible rfl
          try simp only [Act.put, sets_]
          refine wpAnyH_done (by kernel_rfl) ?_ _
          refine NoPanic.normal ?_
          go_wp2
          refine hQ_.ret (results_tmp rfl _ _ _) rfl ?_
          exact ⟨by rw [hno.out, if_pos rfl]; rfl, hT.drew⟩
        · have a2 : decide ((191 : Int) < (y : Int)) = false := by simp; omega
          have hyes : Sq.okFrom F 1 (l.take (J + 1 - 1)) = true := by
           rw [show J + 1 - 1 = J by omega, htk.out, hoa.out]
           have h5 := hS.out
           have h6 := hy.out
           simp [h5, hJe, Sq.tailB]
           try omega
          clear hJe
          have q0 := hc0 _ (Touch.drew (Touch.refl [] wr))
          have qJ := hcJ _ (Touch.drew (Touch.refl [] wr))
          go_upto_region 9 with (fail)
          refine wp_region_noPanic ?_
          refine wp_region_held_drew (S := fun w' => Touch [] wr w') (by kernel_rfl) (Touch.drew (Touch.refl [] wr)) (fun hHeld => ?_)
          refine wpAnyH_take (i := 0) (oi := ?_) (v := ?_) ?_ ?_ ?_ ?_ (fun _ _ _ h => h) ?_ (by assumption) ?_
          rotate_left 2
          · (simp only [getsl_]; rfl)
          · kernel_rfl
          · kernel_rfl
          · kernel_rfl
          · refine Or.inl ⟨by rfl, ?_⟩
            intro w hSw
            (try dsimp only at hSw)
            go_simp
            try with_reducible rfl
          try simp only [Act.put, sets_]
          refine wpAnyH_take (i := 1) (oi := ?_) (v := ?_) ?_ ?_ ?_ ?_ (fun _ _ _ h => h) ?_ (by assumption) ?_
          rotate_left 2
          · (simp only [getsl_]; rfl)
          · kernel_rfl
          · kernel_rfl
          · kernel_rfl
          · refine Or.inl ⟨by rfl, ?_⟩
            intro w hSw
            (try dsimp only at hSw)
            go_simp
            try with_reducible rfl
          try simp only [Act.put, sets_]
          refine wpAnyH_take (i := 2) (oi := ?_) (v := ?_) ?_ ?_ ?_ ?_ (fun _ _ _ h => h) ?_ (by assumption) ?_
          rotate_left 2
          · (simp only [getsl_]; rfl)
          · kernel_rfl
          · kernel_rfl
          · kernel_rfl
          · refine Or.inl ⟨by rfl, ?_⟩
            intro w hSw
            (try dsimp only at hSw)
            go_simp
            try with_reducible rfl
          try simp only [Act.put, sets_]
          refine wpAnyH_take (i := 3) (oi := ?_) (v := undef) ?_ ?_ ?_ ?_ (fun _ _ _ h => h) ?_ (by assumption) ?_
          rotate_left
          · (simp only [getsl_]; rfl)
          · kernel_rfl
          · kernel_rfl
          · kernel_rfl
          · exact Or.inr ⟨by rfl, rfl⟩
          try simp only [Act.put, sets_]
          refine wpAnyH_take (i := 4) (oi := ?_) (v := undef) ?_ ?_ ?_ ?_ (fun _ _ _ h => h) ?_ (by assumption) ?_
          rotate_left
          · (simp only [getsl_]; rfl)
          · kernel_rfl
          · kernel_rfl
          · kernel_rfl
          · exact Or.inr ⟨by rfl, rfl⟩
          try simp only [Act.put, sets_]
          refine wpAnyH_take (i := 5) (oi := ?_) (v := undef) ?_ ?_ ?_ ?_ (fun _ _ _ h => h) ?_ (by assumption) ?_
          rotate_left
          · (simp only [getsl_]; rfl)
          · kernel_rfl
          · kernel_rfl
          · kernel_rfl
          · exact Or.inr ⟨by rfl, rfl⟩
          try simp only [Act.put, sets_]
          refine wpAnyH_take (i := 6) (oi := ?_) (v := undef) ?_ ?_ ?_ ?_ (fun _ _ _ h => h) ?_ (by assumption) ?_
          rotate_left
          · (simp only [getsl_]; rfl)
          · kernel_rfl
          · kernel_rfl
          · kernel_rfl
          · exact Or.inr ⟨by rfl, rfl⟩
          try simp only [Act.put, sets_]
          refine wpAnyH_take (i := 7) (oi := ?_) (v := undef) ?_ ?_ ?_ ?_ (fun _ _ _ h => h) ?_ (by assumption) ?_
          rotate_left
          · (simp only [getsl_]; rfl)
          · kernel_rfl
          · kernel_rfl
          · kernel_rfl
          · exact Or.inr ⟨by rfl, rfl⟩
          try simp only [Act.put, sets_]
          refine wpAnyH_take (i := 8) (oi := ?_) (v := undef) ?_ ?_ ?_ ?_ (fun _ _ _ h => h) ?_ (by assumption) ?_
          rotate_left
          · (simp only [getsl_]; rfl)
          · kernel_rfl
          · kernel_rfl
          · kernel_rfl
          · exact Or.inr ⟨by rfl, rfl⟩
          try simp only [Act.put, sets_]
          refine wpAnyH_ready (rs := [9]) (by kernel_rfl) (by simp) ?_
          refine AllReadyH.cons (o := ?_) ?_ (fun K hK => ?_) AllReadyH.nil
          rotate_left
          · (simp only [getsl_]; rfl)
          rw [if_neg (by rw [Bool.not_eq_true]; rfl)]
          refine hK.out _ _ (by assumption) (fun hHeld2 => ?_)
          clear hK K
          try simp only [Act.put, sets_]
          refine wpAnyH_take (i := 10) (oi := ?_) (v := undef) ?_ ?_ ?_ ?_ (fun _ _ _ h => h) ?_ (by assumption) ?_
          rotate_left
          · (simp only [getsl_]; rfl)
          · kernel_rfl
          · kernel_rfl
          · kernel_rfl
          · exact Or.inr ⟨by rfl, rfl⟩
          try simp only [Act.put, sets_]
          refine wpAnyH_take (i := 11) (oi := ?_) (v := ?_) ?_ ?_ ?_ ?_ (fun _ _ _ h => h) ?_ (by assumption) ?_
          rotate_left 2
          · (simp only [getsl_]; rfl)
          · kernel_rfl
          · kernel_rfl
          · kernel_rfl
          · refine Or.inl ⟨by rfl, ?_⟩
            intro w hSw
            (try dsimp only at hSw)
            go_simp
            try with_reducible rfl
          try simp only [Act.put, sets_]
          refine wpAnyH_take (i := 12) (oi := ?_) (v := ?_) ?_ ?_ ?_ ?_ (fun _ _ _ h => h) ?_ (by assumption) ?_
          rotate_left 2
          · (simp only [getsl_]; rfl)
          · kernel_rfl
          · kernel_rfl
          · kernel_rfl
          · refine Or.inl ⟨by rfl, ?_⟩
            intro w hSw
            (try dsimp only at hSw)
            go_simp
            try with_reducible rfl
          try simp only [Act.put, sets_]
          refine wpAnyH_take (i := 13) (oi := ?_) (v := ?_) ?_ ?_ ?_ ?_ (fun _ _ _ h => h) ?_ (by assumption) ?_
          rotate_left 2
          · (simp only [getsl_]; rfl)
          · kernel_rfl
          · kernel_rfl
          · kernel_rfl
          · refine Or.inl ⟨by rfl, ?_⟩
            intro w hSw
            (try dsimp only at hSw)
            go_simp
            try with_reducible rfl
          try simp only [Act.put, sets_]
          refine wpAnyH_take (i := 14) (oi := ?_) (v := ?_) ?_ ?_ ?_ ?_ (fun _ _ _ h => h) ?_ (by assumption) ?_
          rotate_left 2
          · (simp only [getsl_]; rfl)
          · kernel_rfl
          · kernel_rfl
          · kernel_rfl
          · refine Or.inl ⟨by rfl, ?_⟩
            intro w hSw
            (try dsimp only at hSw)
            go_simp
            try with_reducible rfl
          try simp only [Act.put, sets_]
          refine wpAnyH_take (i := 15) (oi := ?_) (v := ?_) ?_ ?_ ?_ ?_ (fun _ _ _ h => h) ?_ (by assumption) ?_
          rotate_left 2
          · (simp only [getsl_]; rfl)
          · kernel_rfl
          · kernel_rfl
          · kernel_rfl
          · refine Or.inl ⟨by rfl, ?_⟩
            intro w hSw
            (try dsimp only at hSw)
            go_simp
            try with_reducible rfl
          try simp only [Act.put, sets_]
          refine wpAnyH_take (i := 16) (oi := ?_) (v := ?_) ?_ ?_ ?_ ?_ (fun _ _ _ h => h) ?_ (by assumption) ?_
          rotate_left 2
          · (simp only [getsl_]; rfl)
          · kernel_rfl
          · kernel_rfl
          · kernel_rfl
          · refine Or.inl ⟨by rfl, ?_⟩
            intro w hSw
            (try dsimp only at hSw)
            go_simp
            try with_reducible rfl
          try simp only [Act.put, sets_]
          refine wpAnyH_take (i := 17) (oi := ?_) (v := ?_) ?_ ?_ ?_ ?_ (fun _ _ _ h => h) ?_ (by assumption) ?_
          rotate_left 2
          · (simp only [getsl_]; rfl)
          · kernel_rfl
          · kernel_rfl
          · kernel_rfl
          · refine Or.inl ⟨by rfl, ?_⟩
            intro w hSw
            (try dsimp only at hSw)
            go_simp
            try with_reducible rfl
          try simp only [Act.put, sets_]
          refine wpAnyH_take (i := 18) (oi := ?_) (v := ?_) ?_ ?_ ?_ ?_ (fun _ _ _ h => h) ?_ (by assumption) ?_
          rotate_left 2
          · (simp only [getsl_]; rfl)
          · kernel_rfl
          · kernel_rfl
          · kernel_rfl
          · refine Or.inl ⟨by rfl, ?_⟩
            intro w hSw
            (try dsimp only at hSw)
            go_simp
            try with_reducible rfl
          try simp only [Act.put, sets_]
          refine wpAnyH_take (i := 19) (oi := ?_) (v := ?_) ?_ ?_ ?_ ?_ (fun _ _ _ h => h) ?_ (by assumption) ?_
          rotate_left 2
          · (simp only [getsl_]; rfl)
          · kernel_rfl
          · kernel_rfl
          · kernel_rfl
          · refine Or.inl ⟨by rfl, ?_⟩
            intro w hSw
            (try dsimp only at hSw)
            go_simp
            try with_reducible rfl
          try simp only [Act.put, sets_]
          refine wpAnyH_take (i := 20) (oi := ?_) (v := ?_) ?_ ?_ ?_ ?_ (fun _ _ _ h => h) ?_ (by assumption) ?_
          rotate_left 2
          · (simp only [getsl_]; rfl)
          · kernel_rfl
          · kernel_rfl
          · kernel_rfl
          · refine Or.inl ⟨by rfl, ?_⟩
            intro w hSw
            (try dsimp only at hSw)
            go_simp
            try with_reducible rfl
          try simp only [Act.put, sets_]
          refine wpAnyH_take (i := 21) (oi := ?_) (v := ?_) ?_ ?_ ?_ ?_ (fun _ _ _ h => h) ?_ (by assumption) ?_
          rotate_left 2
          · (simp only [getsl_]; rfl)
          · kernel_rfl
          · kernel_rfl
          · kernel_rfl
          · refine Or.inl ⟨by rfl, ?_⟩
            intro w hSw
            (try dsimp only at hSw)
            go_simp
            try with_reducible rfl
          try simp only [Act.put, sets_]
          refine wpAnyH_take (i := 22) (oi := ?_) (v := ?_) ?_ ?_ ?_ ?_ (fun _ _ _ h => h) ?_ (by assumption) ?_
          rotate_left 2
          · (simp only [getsl_]; rfl)
          · kernel_rfl
          · kernel_rfl
          · kernel_rfl
          · refine Or.inl ⟨by rfl, ?_⟩
            intro w hSw
            (try dsimp only at hSw)
            go_simp
            try with_reducible rfl
          try simp only [Act.put, sets_]
          refine wpAnyH_take (i := 23) (oi := ?_) (v := ?_) ?_ ?_ ?_ ?_ (fun _ _ _ h => h) ?_ (by assumption) ?_
          rotate_left 2
          · (simp only [getsl_]; rfl)
          · kernel_rfl
          · kernel_rfl
          · kernel_rfl
          · refine Or.inl ⟨by rfl, ?_⟩
            intro w hSw
            (try dsimp only at hSw)
            go_simp
            try with_reducible rfl
          try simp only [Act.put, sets_]
          refine wpAnyH_take (i := 24) (oi := ?_) (v := ?_) ?_ ?_ ?_ ?_ (fun _ _ _ h => h) ?_ (by assumption) ?_
          rotate_left 2
          · (simp only [getsl_]; rfl)
          · kernel_rfl
          · kernel_rfl
          · kernel_rfl
          · refine Or.inl ⟨by rfl, ?_⟩
            intro w hSw
            (try dsimp only at hSw)
            go_simp
            try with_reducible rfl
          try simp only [Act.put, sets_]
          refine wpAnyH_take (i := 25) (oi := ?_) (v := ?_) ?_ ?_ ?_ ?_ (fun _ _ _ h => h) ?_ (by assumption) ?_
          rotate_left 2
          · (simp only [getsl_]; rfl)
          · kernel_rfl
          · kernel_rfl
          · kernel_rfl
          · refine Or.inl ⟨by rfl, ?_⟩
            intro w hSw
            (try dsimp only at hSw)
            go_simp
            try with_reducible rfl
          try simp only [Act.put, sets_]
          refine wpAnyH_done (by kernel_rfl) ?_ _
          refine NoPanic.normal ?_
          go_wp2
          go_roundw
          case measure => simp [intOf]; omega
          case rel => exact ⟨J + 1, by omega, by omega, by go_num, ⟨hyes⟩, hT.drew⟩
  · have hlt1 : decide ((J : Int) < (l.length : Int) + 1) = false := by simp; omega
    have hall : Sq.okFrom F 1 l = true := by
     have := hok.out
     rwa [show J - 1 = l.length by omega, List.take_length] at this
    replace hall := Box.mk hall
    by_cases hLe : L = l.length + 1
    · have t5 : ((L : Int) == (l.length : Int) + 1) = true := by rw [beq_iff_eq]; omega
      replace hLe := Box.mk hLe
      go_wp2
      refine hQ_.ret (results_tmp rfl _ _ _) rfl ?_
      exact ⟨by rw [hall.out, if_neg (by simp), if_pos hLe.out]; rfl, hT⟩
    · have t5 : ((L : Int) == (l.length : Int) + 1) = false := by rw [beq_eq_false_iff_ne]; omega
      replace hLe := Box.mk hLe
      go_wp2
      refine hQ_.ret (results_tmp rfl _ _ _) rfl ?_
      exact ⟨by rw [hall.out, if_neg (by simp), if_neg hLe.out]; rfl, hT⟩
theorem nC {f : UInt8} {l : List UInt8} (h : Sq.how (f :: l) = 2) : Sq.long f.toNat = l.length + 1 ∧ l.length ≤ 3 ∧ Sq.okFrom f.toNat 1 l = true := by
 have h4 := Sq.long_le f.toNat
 rw [Sq.how_cons] at h
 split at h; · cases h
 split at h; · cases h
 split at h; · cases h
 rename_i h1 h2 h3
 split at h
 · rename_i h5; exact ⟨h5, by omega, by simpa using h3⟩
 · cases h
theorem fU (f : Nat) (l : List UInt8) (i0 : Nat) (h : Sq.okFrom f i0 l = true) (i : Nat) (x : UInt8) (hx : l[i]? = some x) : 128 ≤ x.toNat ∧ x.toNat ≤ 191 := by
 induction l generalizing i0 i with
 | nil => simp at hx
 | cons y l ih =>
  simp only [Sq.okFrom, Bool.and_eq_true] at h
  cases i with
  | zero =>
   simp at hx
   subst hx
   have := h.1
   simp [Sq.okAt, Sq.tailB] at this
   exact this.2
  | succ i => exact ih (i0 + 1) h.2 i (by simpa using hx)
theorem rof_any (k C : Nat) (f : UInt8) (l : List UInt8) (w : World) (hb : ∀ w', Touch [] w w' → BAt w' k (f :: l)) (h2 : Sq.how (f :: l) = 2) (hC : l.length + 1 ≤ C) (hC2 : C ≤ 9223372036854775807) (hk : k < w.heap.size) :
 Calls Tryz.prog 129 #[.slice (some ⟨k, 0, none⟩) (l.length + 1) C] w fun e w' => e = .returned (.int .i32 (Sq.of (f :: l))) ∧ Touch [] w w' := by
 obtain ⟨p1, p2, p3⟩ := nC h2
 have hb0 := hb w (Touch.refl _ _) 0 f rfl
 have hok := Box.mk p3
 show Calls Tryz.prog 129 #[.slice (some ⟨k, 0, none⟩) (l.length + 1) C] w fun e w' => e = .returned (.int .i32 (Sq.cum (f.toNat - Sq.base (l.length + 1)) l)) ∧ Touch [] w w'
 have hF := f.toNat_lt
 obtain ⟨B, hBB⟩ : ∃ B, B = Sq.base (l.length + 1) := ⟨_, rfl⟩
 rw [← hBB]
 have hkey : l.length = 0 ∧ f.toNat < 128 ∧ B = 0 ∨ l.length = 1 ∧ 194 ≤ f.toNat ∧ f.toNat ≤ 223 ∧ B = 192 ∨ l.length = 2 ∧ 224 ≤ f.toNat ∧ f.toNat ≤ 239 ∧ B = 224 ∨ l.length = 3 ∧ 240 ≤ f.toNat ∧ f.toNat ≤ 244 ∧ B = 240 := by
  by_cases h0 : l.length = 0
  · exact .inl ⟨h0, Sq.long_1 (by rw [p1, h0]), by rw [hBB, h0]; rfl⟩
  · rcases Sq.long_two p1 (by omega) with ⟨q1, q2, q3, q4⟩ | ⟨q1, q2, q3, q4⟩ | ⟨q1, q2, q3, q4⟩
    · exact .inr (.inl ⟨by omega, q2, q3, by rw [hBB, q4]⟩)
    · exact .inr (.inr (.inl ⟨by omega, q2, q3, by rw [hBB, q4]⟩))
    · exact .inr (.inr (.inr ⟨by omega, q2, q3, by rw [hBB, q4]⟩))
 obtain ⟨F, hFF⟩ : ∃ F, F = f.toNat := ⟨_, rfl⟩
 rw [← hFF] at hb0 hkey hF ⊢
 clear hBB p1 p3 h2 hFF
 by_cases h0 : l.length = 0
 · have hB : B = 0 ∧ F < 128 := by omega
   have e2 : ((l.length : Int) + 1 == 2) = false := by rw [beq_eq_false_iff_ne]; omega
   have e3 : ((l.length : Int) + 1 == 3) = false := by rw [beq_eq_false_iff_ne]; omega
   have e4 : ((l.length : Int) + 1 == 4) = false := by rw [beq_eq_false_iff_ne]; omega
   have hnil : l = [] := List.eq_nil_of_length_eq_zero h0
   have hlt1 : decide ((1 : Int) < (l.length : Int) + 1) = false := by simp; omega
   have hres : (F : Int) = ((Sq.cum (F - B) l : Nat) : Int) := by rw [hnil, hB.1]; rfl
   clear hkey hnil
   rw [← hres]
   clear hres hB h0
   refine aA Tryz.func129 rfl ?_
   intro Q_ hQ_
   simp only [Tryz.ntmps129, ents_, Nat.reduceAdd, Nat.reduceSub]
   go_wp2_with fail
   refine wp_loop_rounds 1 ?_
   rw [rounds_succ]
   go_wp2
   refine hQ_.ret (results_tmp rfl _ _ _) rfl ?_
   exact ⟨rfl, Touch.refl _ _⟩
 have hFB : Box (F - B < 32) := ⟨by omega⟩
 by_cases h1 : l.length = 1
 · have hB : F = B + (F - B) ∧ B = 192 := by omega
   have e2 : ((l.length : Int) + 1 == 2) = true := by rw [beq_iff_eq]; omega
   have hF2 : (192 : Int) ≤ (F : Int) := by omega
   clear hkey h0 h1
   replace hB := Box.mk hB
   refine aA Tryz.func129 rfl ?_
   intro Q_ hQ_
   simp only [Tryz.ntmps129, ents_, Nat.reduceAdd, Nat.reduceSub]
   go_wp2_with fail
   go_loopw [3, 4] (fun v u wr => ∃ J c : Nat, 1 ≤ J ∧ J ≤ l.length + 1 ∧ v = .int .i32 c ∧ u = .int .i64 J ∧ Box (c = Sq.cum (F - B) (l.take (J - 1))) ∧ c < 100000000 ∧ Touch [] w wr) (fun _ u _ => l.length + 1 - (intOf u).toNat)
   case atStart => exact ⟨1, F - B, Nat.le_refl _, by omega, by have := hB.out; simp; omega, rfl, ⟨rfl⟩, by have := hF; omega, Touch.refl _ _⟩
   case round =>
    obtain ⟨J, c, hJ1, hJ2, rfl, rfl, hc, hcl, hT⟩ := hrel
    by_cases hlt : J < l.length + 1
    · have hlt1 : decide ((J : Int) < (l.length : Int) + 1) = true := by simp; omega
      have hx : l[J - 1]? = some l[J - 1] := List.getElem?_eq_getElem (by omega)
      generalize l[J - 1] = x at hx
      have hxt := fU _ l 1 hok.out (J - 1) x hx
      have hcJ : wr.cell? ⟨k, J, none⟩ = some (.int .u8 x.toNat) := hb wr hT J x (by
       obtain ⟨j, rfl⟩ : ∃ j, J = j + 1 := ⟨J - 1, by omega⟩
       simpa using hx)
      have hkl : k < wr.heap.size := Nat.lt_of_lt_of_le hk hT.size
      have hJi : (0 : Int) ≤ (J : Int) := by omega
      have hJl : (J : Int) < (l.length : Int) + 1 := by omega
      have hxl := x.toNat_lt
      obtain ⟨y, hy⟩ : ∃ y, y = x.toNat := ⟨_, rfl⟩
      rw [← hy] at hcJ hxt hxl
      replace hy := Box.mk hy
      obtain ⟨hx1, hx2⟩ := hxt
      have hcb : c < 1048576 := by
       have h6 : F - B < 32 := hFB.out
       have h7 := Sq.cum_lt (l := l.take (J - 1)) h6
       rw [← hc.out, List.length_take] at h7
       have h8 : 64 ^ min (J - 1) l.length ≤ 64 ^ 2 := Nat.pow_le_pow_right (by decide) (by omega)
       omega
      go_wp2
      go_roundw
      case measure => simp [intOf]; omega
      case rel =>
       refine ⟨J + 1, c * 64 + y - 128, by omega, by omega, by simp; omega, by go_num, ⟨?_⟩, by omega, hT⟩
       rw [show J + 1 - 1 = (J - 1) + 1 by omega, List.take_add_one, hx, hy.out, hc.out]
       exact (Sq.cum_snoc _ _ _).symm
    · have hlt1 : decide ((J : Int) < (l.length : Int) + 1) = false := by simp; omega
      have hfin : c = Sq.cum (F - B) l := by
       have := hc.out
       rwa [show J - 1 = l.length by omega, List.take_length] at this
      replace hfin := Box.mk hfin
      go_wp2
      refine hQ_.ret (results_tmp rfl _ _ _) rfl ?_
      exact ⟨by rw [← hfin.out]; rfl, hT⟩
 by_cases h3 : l.length = 2
 · have hB : F = B + (F - B) ∧ B = 224 := by omega
   have e2 : ((l.length : Int) + 1 == 2) = false := by rw [beq_eq_false_iff_ne]; omega
   have e3 : ((l.length : Int) + 1 == 3) = true := by rw [beq_iff_eq]; omega
   have hF2 : (224 : Int) ≤ (F : Int) := by omega
   clear hkey h0 h1 h3
   replace hB := Box.mk hB
   refine aA Tryz.func129 rfl ?_
   intro Q_ hQ_
   simp only [Tryz.ntmps129, ents_, Nat.reduceAdd, Nat.reduceSub]
   go_wp2_with fail
   go_loopw [3, 4] (fun v u wr => ∃ J c : Nat, 1 ≤ J ∧ J ≤ l.length + 1 ∧ v = .int .i32 c ∧ u = .int .i64 J ∧ Box (c = Sq.cum (F - B) (l.take (J - 1))) ∧ c < 100000000 ∧ Touch [] w wr) (fun _ u _ => l.length + 1 - (intOf u).toNat)
   case atStart => exact ⟨1, F - B, Nat.le_refl _, by omega, by have := hB.out; simp; omega, rfl, ⟨rfl⟩, by have := hF; omega, Touch.refl _ _⟩
   case round =>
    obtain ⟨J, c, hJ1, hJ2, rfl, rfl, hc, hcl, hT⟩ := hrel
    by_cases hlt : J < l.length + 1
    · have hlt1 : decide ((J : Int) < (l.length : Int) + 1) = true := by simp; omega
      have hx : l[J - 1]? = some l[J - 1] := List.getElem?_eq_getElem (by omega)
      generalize l[J - 1] = x at hx
      have hxt := fU _ l 1 hok.out (J - 1) x hx
      have hcJ : wr.cell? ⟨k, J, none⟩ = some (.int .u8 x.toNat) := hb wr hT J x (by
       obtain ⟨j, rfl⟩ : ∃ j, J = j + 1 := ⟨J - 1, by omega⟩
       simpa using hx)
      have hkl : k < wr.heap.size := Nat.lt_of_lt_of_le hk hT.size
      have hJi : (0 : Int) ≤ (J : Int) := by omega
      have hJl : (J : Int) < (l.length : Int) + 1 := by omega
      have hxl := x.toNat_lt
      obtain ⟨y, hy⟩ : ∃ y, y = x.toNat := ⟨_, rfl⟩
      rw [← hy] at hcJ hxt hxl
      replace hy := Box.mk hy
      obtain ⟨hx1, hx2⟩ := hxt
      have hcb : c < 1048576 := by
       have h6 : F - B < 32 := hFB.out
       have h7 := Sq.cum_lt (l := l.take (J - 1)) h6
       rw [← hc.out, List.length_take] at h7
       have h8 : 64 ^ min (J - 1) l.length ≤ 64 ^ 2 := Nat.pow_le_pow_right (by decide) (by omega)
       omega
      go_wp2
      go_roundw
      case measure => simp [intOf]; omega
      case rel =>
       refine ⟨J + 1, c * 64 + y - 128, by omega, by omega, by simp; omega, by go_num, ⟨?_⟩, by omega, hT⟩
       rw [show J + 1 - 1 = (J - 1) + 1 by omega, List.take_add_one, hx, hy.out, hc.out]
       exact (Sq.cum_snoc _ _ _).symm
    · have hlt1 : decide ((J : Int) < (l.length : Int) + 1) = false := by simp; omega
      have hfin : c = Sq.cum (F - B) l := by
       have := hc.out
       rwa [show J - 1 = l.length by omega, List.take_length] at this
      replace hfin := Box.mk hfin
      go_wp2
      refine hQ_.ret (results_tmp rfl _ _ _) rfl ?_
      exact ⟨by rw [← hfin.out]; rfl, hT⟩
 · have hB : F = B + (F - B) ∧ B = 240 := by omega
   have e2 : ((l.length : Int) + 1 == 2) = false := by rw [beq_eq_false_iff_ne]; omega
   have e3 : ((l.length : Int) + 1 == 3) = false := by rw [beq_eq_false_iff_ne]; omega
   have e4 : ((l.length : Int) + 1 == 4) = true := by rw [beq_iff_eq]; omega
   have hF2 : (240 : Int) ≤ (F : Int) := by omega
   clear hkey h0 h1 h3
   replace hB := Box.mk hB
   refine aA Tryz.func129 rfl ?_
   intro Q_ hQ_
   simp only [Tryz.ntmps129, ents_, Nat.reduceAdd, Nat.reduceSub]
   go_wp2_with fail
   go_loopw [3, 4] (fun v u wr => ∃ J c : Nat, 1 ≤ J ∧ J ≤ l.length + 1 ∧ v = .int .i32 c ∧ u = .int .i64 J ∧ Box (c = Sq.cum (F - B) (l.take (J - 1))) ∧ c < 100000000 ∧ Touch [] w wr) (fun _ u _ => l.length + 1 - (intOf u).toNat)
   case atStart => exact ⟨1, F - B, Nat.le_refl _, by omega, by have := hB.out; simp; omega, rfl, ⟨rfl⟩, by have := hF; omega, Touch.refl _ _⟩
   case round =>
    obtain ⟨J, c, hJ1, hJ2, rfl, rfl, hc, hcl, hT⟩ := hrel
    by_cases hlt : J < l.length + 1
    · have hlt1 : decide ((J : Int) < (l.length : Int) + 1) = true := by simp; omega
      have hx : l[J - 1]? = some l[J - 1] := List.getElem?_eq_getElem (by omega)
      generalize l[J - 1] = x at hx
      have hxt := fU _ l 1 hok.out (J - 1) x hx
      have hcJ : wr.cell? ⟨k, J, none⟩ = some (.int .u8 x.toNat) := hb wr hT J x (by
       obtain ⟨j, rfl⟩ : ∃ j, J = j + 1 := ⟨J - 1, by omega⟩
       simpa using hx)
      have hkl : k < wr.heap.size := Nat.lt_of_lt_of_le hk hT.size
      have hJi : (0 : Int) ≤ (J : Int) := by omega
      have hJl : (J : Int) < (l.length : Int) + 1 := by omega
      have hxl := x.toNat_lt
      obtain ⟨y, hy⟩ : ∃ y, y = x.toNat := ⟨_, rfl⟩
      rw [← hy] at hcJ hxt hxl
      replace hy := Box.mk hy
      obtain ⟨hx1, hx2⟩ := hxt
      have hcb : c < 1048576 := by
       have h6 : F - B < 32 := hFB.out
       have h7 := Sq.cum_lt (l := l.take (J - 1)) h6
       rw [← hc.out, List.length_take] at h7
       have h8 : 64 ^ min (J - 1) l.length ≤ 64 ^ 2 := Nat.pow_le_pow_right (by decide) (by omega)
       omega
      go_wp2
      go_roundw
      case measure => simp [intOf]; omega
      case rel =>
       refine ⟨J + 1, c * 64 + y - 128, by omega, by omega, by simp; omega, by go_num, ⟨?_⟩, by omega, hT⟩
       rw [show J + 1 - 1 = (J - 1) + 1 by omega, List.take_add_one, hx, hy.out, hc.out]
       exact (Sq.cum_snoc _ _ _).symm
    · have hlt1 : decide ((J : Int) < (l.length : Int) + 1) = false := by simp; omega
      have hfin : c = Sq.cum (F - B) l := by
       have := hc.out
       rwa [show J - 1 = l.length by omega, List.take_length] at this
      replace hfin := Box.mk hfin
      go_wp2
      refine hQ_.ret (results_tmp rfl _ _ _) rfl ?_
      exact ⟨by rw [← hfin.out]; rfl, hT⟩
theorem lA (k C : Nat) (f : UInt8) (l : List UInt8) (w : World) (hb : ∀ w', Touch [] w w' → BAt w' k (f :: l)) (h2 : Sq.how (f :: l) = 2) (hC : l.length + 1 ≤ C) (hC2 : C ≤ 9223372036854775807) (hk : k < w.heap.size) :
 Calls Tryz.prog 102 #[.slice (some ⟨k, 0, none⟩) (l.length + 1) C] w fun e w' => e = .returned (.tuple #[.int .i32 (Sq.of (f :: l)), .int .i64 (l.length + 1 : Nat), .bool true]) ∧ Touch [] w w' := by
 obtain ⟨p1, p2, p3⟩ := nC h2
 have hpre : ∀ j, j < l.length → Sq.how (f :: l.take j) = 1 := fun j hj => by
  have := Sq.how_take (b := f :: l) (by rw [h2]; decide) (j + 1) (by omega) (by simp; omega)
  simpa using this
 have hhow : ∀ (j : Nat) (W : World), j ≤ l.length → Touch [] w W → Calls Tryz.prog 101 #[.slice (some ⟨k, 0, none⟩) (j + 1) C] W fun e w' => e = .returned (.int .i64 (Sq.how (f :: l.take j))) ∧ Touch [] W w' := fun j W hj hW => by
  have := fA k C f (l.take j) W (fun w' h => fun i c hi => hb w' (hW.trans h) i c (by
   cases i with
   | zero => simpa using hi
   | succ i =>
    simp only [List.getElem?_cons_succ, List.getElem?_take] at hi ⊢
    split at hi
    · exact hi
    · cases hi)) (by rw [List.length_take]; omega) (by rw [List.length_take]; omega) hC2 (Nat.lt_of_lt_of_le hk hW.size)
  rwa [List.length_take, Nat.min_eq_left hj] at this
 have hof := fun W (hW : Touch [] w W) => rof_any k C f l W (fun w' h => hb w' (hW.trans h)) h2 hC hC2 (Nat.lt_of_lt_of_le hk hW.size)
 obtain ⟨V, hV⟩ : ∃ V, V = Sq.of (f :: l) := ⟨_, rfl⟩
 rw [← hV] at hof ⊢
 clear hV p1 p3
 replace hpre := Box.mk hpre
 replace h2 := Box.mk h2
 replace hhow := Box.mk hhow
 replace hof := Box.mk hof
 clear hb
 refine aA Tryz.func102 rfl ?_
 intro Q_ hQ_
 simp only [Tryz.ntmps102, ents_, Nat.reduceAdd, Nat.reduceSub]
 go_wp2_with fail
 go_loopw [5] (fun v wr => ∃ j : Nat, j ≤ l.length ∧ v = .int .i64 j ∧ Touch [] w wr) (fun v _ => l.length + 1 - (intOf v).toNat)
 case atStart => exact ⟨0, by omega, rfl, Touch.refl _ _⟩
 case round =>
  obtain ⟨j, hj, rfl, hT⟩ := hrel
  have hlt1 : decide ((j : Int) < (l.length : Int) + 1) = true := by simp; omega
  have hji : (0 : Int) ≤ (j : Int) + 1 := by omega
  have hjC : (j : Int) + 1 ≤ (C : Int) := by omega
  have hjn : ((j : Int) + 1).toNat = j + 1 := by omega
  have hh := hhow.out j wr hj hT
  by_cases hlt : j < l.length
  · rw [hpre.out j hlt] at hh
    go_wp2_with fail
    refine hh.mono ?_
    rintro e w1 ⟨rfl, ht1⟩
    try go_simp
    go_wp2
    go_roundw
    case measure => simp [intOf]; omega
    case rel => exact ⟨j + 1, by omega, by go_num, hT.trans ht1⟩
  · have hjl : j = l.length := by omega
    subst hjl
    rw [List.take_length, h2.out] at hh
    have hT2 := hT
    go_wp2_with fail
    refine hh.mono ?_
    rintro e w1 ⟨rfl, ht1⟩
    try go_simp
    have hh2 := hhow.out l.length w1 (Nat.le_refl _) (hT.trans ht1)
    rw [List.take_length, h2.out] at hh2
    go_wp2_with fail
    refine hh2.mono ?_
    rintro e w2 ⟨rfl, ht2⟩
    try go_simp
    have ho := hof.out w2 ((hT.trans ht1).trans ht2)
    go_wp2_with fail
    refine ho.mono ?_
    rintro e w3 ⟨rfl, ht3⟩
    try go_simp
    go_wp2
    refine hQ_.ret (results_tmp3 rfl _ _ _) rfl ?_
    exact ⟨rfl, ((hT.trans ht1).trans ht2).trans ht3⟩
end Go.Proofs.YthdncmagfgoboaaGreatDoor
