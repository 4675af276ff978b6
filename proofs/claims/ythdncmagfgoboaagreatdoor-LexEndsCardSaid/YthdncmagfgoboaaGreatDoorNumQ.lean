/- The program's layer of numbers byte by byte: what is asked of a number. -/
import Derived.Test.YthdncmagfgoboaaGreatDoorNumP
import Derived.Deep.RegionHeld3
namespace Go.Proofs.YthdncmagfgoboaaGreatDoor
open Go.RowKit
open Go.Proofs.YthdncmagfgoboaaGreatDoorW.PrintWords (mx mn Drawn0)
set_option maxRecDepth 100000
set_option maxHeartbeats 4000000
set_option linter.unusedVariables false
set_option linter.unusedSimpArgs false

theorem touch_drawn {w w' : World} (h : Drawn0 w w') : Touch [] w w' := by
  obtain ⟨n, rfl⟩ := h.out
  exact (Touch.refl _ _).drewN n

theorem next_no (a x : Nat) (w : World) (ha : a ≤ 8) (h : Num.next a x = none) :
    Calls Tryz.prog 77 #[.int .i64 a, .int .u8 x] w fun e w' => (∃ r : Int, e = .returned (.tuple #[.int .i64 r, .bool false])) ∧ Drawn0 w w' := by
  obtain ⟨r, hr, _⟩ := next_eq a x ha
  rw [h] at hr
  exact (XN1.number_next.calls 5 a x r false w hr).mono fun _ _ h => ⟨⟨r, h.1⟩, h.2⟩
theorem next_yes (a x p : Nat) (w : World) (ha : a ≤ 8) (h : Num.next a x = some p) :
    Calls Tryz.prog 77 #[.int .i64 a, .int .u8 x] w fun e w' => e = .returned (.tuple #[.int .i64 p, .bool true]) ∧ Drawn0 w w' := by
  obtain ⟨r, hr, h2⟩ := next_eq a x ha
  have := h2 p h
  subst this
  rw [h] at hr
  exact XN1.number_next.calls 5 a x _ true w hr


theorem least_any (b : Nat) (tv : Value) (n : Num.St) (w : World) (hN : NumAt w b tv n) (ok : n.Okz) :
    Calls Tryz.prog 104 #[.pointer (some ⟨b, 0, none⟩)] w fun e w' => e = .returned (.int .i64 (Num.least n)) ∧ ∃ k, w' = w.drewN k := by
  have o1 := ok.zeros
  have o2 := ok.behind
  unfold NumAt at hN
  have c0 := cell_at hN 0
  have c1 := cell_at hN 1
  have c2 := cell_at hN 2
  have c3 := cell_at hN 3
  have c4 := cell_at hN 4
  have c5 := cell_at hN 5
  have c6 := cell_at hN 6
  have lb := block_lt hN
  simp [NumC] at c0 c1 c2 c3 c4 c5 c6
  clear hN
  let kp_ : Exit → Act → World → Prop := bodyPost Tryz.prog Tryz.f104 (fun _ _ => True)
  refine calls_post Tryz.func104 rfl ?_
  intro Q_ hQ_
  simp only [Tryz.ntmps104, List.size_toArray, List.length_cons, List.length_nil, Nat.reduceAdd, Nat.reduceSub, Array.replicate_succ, Array.replicate_zero, List.push_toArray, List.append_toArray, List.nil_append, List.cons_append]
  go_wp2
  go_quiet (fail)
  go_wp2
  (try simp only [Exit.inBlock, Exit.then])
  refine hQ_.ret (results_tmp rfl _ _ _) rfl ?_
  exact ⟨rfl, _, rfl⟩

theorem most_any (b : Nat) (tv : Value) (n : Num.St) (w : World) (hN : NumAt w b tv n) (ok : n.Ok) (hm : 0 < n.m) :
    Calls Tryz.prog 105 #[.pointer (some ⟨b, 0, none⟩)] w fun e w' => e = .returned (.int .i64 (Num.most n.m : Nat)) ∧ w' = w := by
  have o1 := ok.m
  unfold Num.maxW at o1
  unfold NumAt at hN
  have c0 := cell_at hN 0
  have c1 := cell_at hN 1
  have c2 := cell_at hN 2
  have c3 := cell_at hN 3
  have c4 := cell_at hN 4
  have c5 := cell_at hN 5
  have c6 := cell_at hN 6
  have lb := block_lt hN
  simp [NumC] at c0 c1 c2 c3 c4 c5 c6
  clear hN
  have hR : Box (Num.most n.m = Num.mostN 16 n.m) := ⟨rfl⟩
  let kp_ : Exit → Act → World → Prop := bodyPost Tryz.prog Tryz.f105 (fun _ _ => True)
  refine calls_post Tryz.func105 rfl ?_
  intro Q_ hQ_
  simp only [Tryz.ntmps105, List.size_toArray, List.length_cons, List.length_nil, Nat.reduceAdd, Nat.reduceSub, Array.replicate_succ, Array.replicate_zero, List.push_toArray, List.append_toArray, List.nil_append, List.cons_append]
  go_wp2
  go_loop [3, 4] (fun k v => ∃ (i M : Nat), i ≤ 16 ∧ k = .int .i64 i ∧ v = .int .u64 M ∧ M ≤ 9007199254740991 ∧ 0 < M ∧ Box (i + Num.mostN (16 - i) M = Num.most n.m) ∧ Box (10 ^ i ≤ M)) (fun _ v => (9007199254740992 - (intOf v).toNat))
  case atStart => exact ⟨0, n.m, by omega, rfl, rfl, o1, hm, ⟨by rw [hR.out]; simp⟩, ⟨by rw [Nat.pow_zero]; exact hm⟩⟩
  case round =>
    obtain ⟨i, M, hi, rfl, rfl, hM, hM0, hrel, hpow⟩ := hrel
    have hi15 : i ≤ 15 := by
      have h1 := hpow.out
      rcases Nat.lt_or_ge i 16 with h2 | h2
      · omega
      · have h3 : 10 ^ 16 ≤ 10 ^ i := Nat.pow_le_pow_right (by omega) h2
        omega
    obtain ⟨f, hf⟩ : ∃ f, 16 - i = f + 1 := ⟨15 - i, by omega⟩
    by_cases h1 : M ≤ 900719925474099
    · have hn : Box ((i + 1) + Num.mostN (16 - (i + 1)) (10 * M) = Num.most n.m) := ⟨by
        rw [← hrel.out, hf, show 16 - (i + 1) = f by omega]
        conv => rhs; unfold Num.mostN
        rw [if_pos h1]
        omega⟩
      have hp : Box (10 ^ (i + 1) ≤ 10 * M) := ⟨by rw [Nat.pow_succ]; have := hpow.out; omega⟩
      clear hf
      go_wp2
      go_round
      case measure => simp [intOf]; omega
      case rel => exact ⟨i + 1, 10 * M, by omega, by go_num, by congr 1; omega, by omega, by omega, hn, hp⟩
    · have hn : Box (i = Num.most n.m) := ⟨by
        rw [← hrel.out, hf]
        unfold Num.mostN
        rw [if_neg h1]
        omega⟩
      clear hf
      go_wp2
      (try simp only [Exit.inBlock, Exit.then])
      refine hQ_.ret (results_tmp rfl _ _ _) rfl ?_
      exact ⟨by rw [hn.out]; rfl, rfl⟩

theorem stands_any (b : Nat) (tv : Value) (n : Num.St) (w : World) (hN : NumAt w b tv n) (ok : n.Okz) :
    Calls Tryz.prog 107 #[.pointer (some ⟨b, 0, none⟩)] w fun e w' => e = .returned (.bool (Num.stands n)) ∧ ∃ k, w' = w.drewN k := by
  have o1 := ok.zeros
  have o2 := ok.behind
  have o3 := ok.e
  unfold Num.far at o3
  have hl := least_any b tv n w hN ok
  have hlb : -1000000 ≤ Num.least n ∧ Num.least n ≤ 1000000 := by unfold Num.least; omega
  obtain ⟨L, hL⟩ : ∃ L, L = Num.least n := ⟨_, rfl⟩
  rw [← hL] at hl hlb
  replace hL : Box (L = Num.least n) := ⟨hL⟩
  obtain ⟨hl1, hl2⟩ := hlb
  unfold NumAt at hN
  have c0 := cell_at hN 0
  have c1 := cell_at hN 1
  have c2 := cell_at hN 2
  have c3 := cell_at hN 3
  have c4 := cell_at hN 4
  have c5 := cell_at hN 5
  have c6 := cell_at hN 6
  have lb := block_lt hN
  simp [NumC] at c0 c1 c2 c3 c4 c5 c6
  cases hb : n.below with
  | true =>
    rw [hb] at c5
    have hr : Box (Num.stands n = decide (L ≤ -(n.e : Int))) := ⟨by unfold Num.stands; rw [hb, hL.out]; rfl⟩
    clear hN hb
    let kp_ : Exit → Act → World → Prop := bodyPost Tryz.prog Tryz.f107 (fun _ _ => True)
    refine calls_post Tryz.func107 rfl ?_
    intro Q_ hQ_
    simp only [Tryz.ntmps107, List.size_toArray, List.length_cons, List.length_nil, Nat.reduceAdd, Nat.reduceSub, Array.replicate_succ, Array.replicate_zero, List.push_toArray, List.append_toArray, List.nil_append, List.cons_append]
    go_wp2_with fail
    refine hl.mono ?_
    rintro e w1 ⟨rfl, k, rfl⟩
    try go_simp
    go_wp2
    (try simp only [Exit.inBlock, Exit.then])
    refine hQ_.ret (results_tmp rfl _ _ _) rfl ?_
    exact ⟨by rw [hr.out]; rfl, _, rfl⟩
  | false =>
    rw [hb] at c5
    have hr : Box (Num.stands n = decide (L ≤ (n.e : Int))) := ⟨by unfold Num.stands; rw [hb, hL.out]; rfl⟩
    clear hN hb
    let kp_ : Exit → Act → World → Prop := bodyPost Tryz.prog Tryz.f107 (fun _ _ => True)
    refine calls_post Tryz.func107 rfl ?_
    intro Q_ hQ_
    simp only [Tryz.ntmps107, List.size_toArray, List.length_cons, List.length_nil, Nat.reduceAdd, Nat.reduceSub, Array.replicate_succ, Array.replicate_zero, List.push_toArray, List.append_toArray, List.nil_append, List.cons_append]
    go_wp2_with fail
    refine hl.mono ?_
    rintro e w1 ⟨rfl, k, rfl⟩
    try go_simp
    go_wp2
    (try simp only [Exit.inBlock, Exit.then])
    refine hQ_.ret (results_tmp rfl _ _ _) rfl ?_
    exact ⟨by rw [hr.out]; rfl, _, rfl⟩

theorem why_any (b : Nat) (tv : Value) (n : Num.St) (w : World) (hN : NumAt w b tv n) (ok : n.Okz) :
    Calls Tryz.prog 80 #[.pointer (some ⟨b, 0, none⟩)] w fun e w' => e = .returned (.int .i64 (Num.why n : Nat)) ∧ ∃ k, w' = w.drewN k := by
  have hs := stands_any b tv n w hN ok
  cases hb : Num.stands n with
  | true =>
    rw [hb] at hs
    have hr : Box (Num.why n = 8) := ⟨by unfold Num.why; rw [hb]; rfl⟩
    clear hb
    let kp_ : Exit → Act → World → Prop := bodyPost Tryz.prog Tryz.f80 (fun _ _ => True)
    refine calls_post Tryz.func80 rfl ?_
    intro Q_ hQ_
    simp only [Tryz.ntmps80, List.size_toArray, List.length_cons, List.length_nil, Nat.reduceAdd, Nat.reduceSub, Array.replicate_succ, Array.replicate_zero, List.push_toArray, List.append_toArray, List.nil_append, List.cons_append]
    go_wp2_with fail
    refine hs.mono ?_
    rintro e w1 ⟨rfl, k, rfl⟩
    try go_simp
    go_wp2
    (try simp only [Exit.inBlock, Exit.then])
    refine hQ_.ret (results_tmp rfl _ _ _) rfl ?_
    exact ⟨by rw [hr.out]; rfl, _, rfl⟩
  | false =>
    rw [hb] at hs
    have hr : Box (Num.why n = 7) := ⟨by unfold Num.why; rw [hb]; rfl⟩
    clear hb
    let kp_ : Exit → Act → World → Prop := bodyPost Tryz.prog Tryz.f80 (fun _ _ => True)
    refine calls_post Tryz.func80 rfl ?_
    intro Q_ hQ_
    simp only [Tryz.ntmps80, List.size_toArray, List.length_cons, List.length_nil, Nat.reduceAdd, Nat.reduceSub, Array.replicate_succ, Array.replicate_zero, List.push_toArray, List.append_toArray, List.nil_append, List.cons_append]
    go_wp2_with fail
    refine hs.mono ?_
    rintro e w1 ⟨rfl, k, rfl⟩
    try go_simp
    go_wp2
    (try simp only [Exit.inBlock, Exit.then])
    refine hQ_.ret (results_tmp rfl _ _ _) rfl ?_
    exact ⟨by rw [hr.out]; rfl, _, rfl⟩

theorem leads_any (e : Nat) (begun : Bool) (a b : Int) (w : World) (he : e ≤ 1000000000) (ha : -10000000 ≤ a) (ha' : a ≤ 10000000) (hb : b ≤ 10000000) :
    Calls Tryz.prog 106 #[.int .i64 e, .bool begun, .int .i64 a, .int .i64 b] w fun r w' => r = .returned (.bool (Num.leads e begun a b)) ∧ Touch [] w w' :=
  (XN1.number_leads.calls 15 e begun a b (Num.leads e begun a b) w (leads_eq e begun a b he ha ha' hb)).mono fun _ _ h => ⟨h.1, Touch.of_below h.2 _⟩

theorem may_any (b : Nat) (tv : Value) (n : Num.St) (w : World) (hN : NumAt w b tv n) (ok : n.Ok) :
    Calls Tryz.prog 79 #[.pointer (some ⟨b, 0, none⟩)] w fun e w' => e = .returned (.bool (Num.may n)) ∧ Touch [] w w' := by
  have o1 := ok.zeros
  have o2 := ok.behind
  have o3 := ok.e
  have o4 := ok.at_
  unfold Num.far at o3
  have hl := fun w hN => least_any b tv n w hN ok.z
  have hm := fun w hN hm => most_any b tv n w hN ok hm
  have hlb : -1000000 ≤ Num.least n ∧ Num.least n ≤ 1000000 := by unfold Num.least; omega
  have hmb : Num.most n.m ≤ 16 := Num.most_le _
  by_cases h0 : n.m = 0
  · have t0 : ((n.m : Int) == 0) = true := by rw [h0]; rfl
    have hr : Box (Num.may n = true) := ⟨by unfold Num.may; rw [if_pos (Or.inl h0)]⟩
    unfold NumAt at hN
    have c0 := cell_at hN 0
    have c1 := cell_at hN 1
    have c2 := cell_at hN 2
    have c3 := cell_at hN 3
    have c4 := cell_at hN 4
    have c5 := cell_at hN 5
    have c6 := cell_at hN 6
    have lb := block_lt hN
    simp [NumC] at c0 c1 c2 c3 c4 c5 c6
    clear hN h0 hl hm
    let kp_ : Exit → Act → World → Prop := bodyPost Tryz.prog Tryz.f79 (fun _ _ => True)
    refine calls_post Tryz.func79 rfl ?_
    intro Q_ hQ_
    simp only [Tryz.ntmps79, List.size_toArray, List.length_cons, List.length_nil, Nat.reduceAdd, Nat.reduceSub, Array.replicate_succ, Array.replicate_zero, List.push_toArray, List.append_toArray, List.nil_append, List.cons_append]
    go_wp2
    (try simp only [Exit.inBlock, Exit.then])
    refine hQ_.ret (results_tmp rfl _ _ _) rfl ?_
    exact ⟨by rw [hr.out]; rfl, Touch.refl _ _⟩
  have t0 : ((n.m : Int) == 0) = false := by simpa using h0
  by_cases h1 : n.at_ < 7
  · have hr : Box (Num.may n = true) := ⟨by unfold Num.may; rw [if_pos (Or.inr h1)]⟩
    unfold NumAt at hN
    have c0 := cell_at hN 0
    have c1 := cell_at hN 1
    have c2 := cell_at hN 2
    have c3 := cell_at hN 3
    have c4 := cell_at hN 4
    have c5 := cell_at hN 5
    have c6 := cell_at hN 6
    have lb := block_lt hN
    simp [NumC] at c0 c1 c2 c3 c4 c5 c6
    clear hN h0 hl hm
    let kp_ : Exit → Act → World → Prop := bodyPost Tryz.prog Tryz.f79 (fun _ _ => True)
    refine calls_post Tryz.func79 rfl ?_
    intro Q_ hQ_
    simp only [Tryz.ntmps79, List.size_toArray, List.length_cons, List.length_nil, Nat.reduceAdd, Nat.reduceSub, Array.replicate_succ, Array.replicate_zero, List.push_toArray, List.append_toArray, List.nil_append, List.cons_append]
    go_wp2
    (try simp only [Exit.inBlock, Exit.then])
    refine hQ_.ret (results_tmp rfl _ _ _) rfl ?_
    exact ⟨by rw [hr.out]; rfl, Touch.refl _ _⟩
  replace hm := fun w hN => hm w hN (Nat.pos_of_ne_zero h0)
  have hc : Box (Num.may n = if n.below = true then Num.leads n.e (n.at_ == 8) (-(Num.least n + Num.most n.m)) (-(Num.least n)) else Num.leads n.e (n.at_ == 8) (Num.least n) (Num.least n + Num.most n.m)) := ⟨by
    unfold Num.may; rw [if_neg (by omega)]⟩
  obtain ⟨L, hL⟩ : ∃ L, L = Num.least n := ⟨_, rfl⟩
  obtain ⟨M, hM⟩ : ∃ M, M = Num.most n.m := ⟨_, rfl⟩
  rw [← hL] at hl hlb hc
  rw [← hM] at hm hmb hc
  obtain ⟨hl1, hl2⟩ := hlb
  have h8 : ((n.at_ : Int) == 8) = (n.at_ == 8) := by rw [Bool.eq_iff_iff]; simp; omega
  have ed := fun a b w h1 h2 h3 => leads_any n.e (n.at_ == 8) a b w o3 h1 h2 h3
  clear hL hM h0
  have hld := hl w hN
  have hk := fun k => hm (w.drewN k) hN
  unfold NumAt at hN
  have hcl : ∀ w', Touch [] w w' → ∀ i, w'.cell? ⟨b, i, none⟩ = (NumC tv n)[i]? := fun w' h => cell_at (h.keep hN (by simp))
  simp only [NumC] at hcl
  cases hb : n.below with
  | true =>
    rw [hb, if_pos rfl] at hc
    have c0 := cell_at hN 0
    have c1 := cell_at hN 1
    have c2 := cell_at hN 2
    have c3 := cell_at hN 3
    have c4 := cell_at hN 4
    have c5 := cell_at hN 5
    have c6 := cell_at hN 6
    have lb := block_lt hN
    simp [NumC] at c0 c1 c2 c3 c4 c5 c6
    rw [hb] at c5
    rw [hb] at hcl
    clear hN hb hl hm
    let kp_ : Exit → Act → World → Prop := bodyPost Tryz.prog Tryz.f79 (fun _ _ => True)
    refine calls_post Tryz.func79 rfl ?_
    intro Q_ hQ_
    simp only [Tryz.ntmps79, List.size_toArray, List.length_cons, List.length_nil, Nat.reduceAdd, Nat.reduceSub, Array.replicate_succ, Array.replicate_zero, List.push_toArray, List.append_toArray, List.nil_append, List.cons_append]
    go_wp2_with fail
    refine hld.mono ?_
    rintro e w1 ⟨rfl, k, rfl⟩
    try go_simp
    go_wp2_with fail
    refine (hk _).mono ?_
    rintro e w1 ⟨rfl, rfl⟩
    try go_simp
    go_upto_region 7 with (fail)
    go_region_held3 (fun w' => Touch [] w w')
      (first | exact Touch.drew (Touch.drewN (Touch.refl _ _) _) | exact Touch.trans (by assumption) ht9)
      (first | (go_at_call 106; (with_reducible refine (ed _ _ _ (by omega) (by omega) (by omega)).mono ?_); rintro e w9 ⟨rfl, ht9⟩; have hT9 : Touch [] w w9 := Touch.trans (by assumption) ht9))
    all_goals
      go_wp2_with fail
      (try simp only [Exit.inBlock, Exit.then])
      refine hQ_.ret (results_tmp rfl _ _ _) rfl ?_
      exact ⟨by rw [hc.out]; rfl, hT9⟩
  | false =>
    rw [hb, if_neg (by simp)] at hc
    have c0 := cell_at hN 0
    have c1 := cell_at hN 1
    have c2 := cell_at hN 2
    have c3 := cell_at hN 3
    have c4 := cell_at hN 4
    have c5 := cell_at hN 5
    have c6 := cell_at hN 6
    have lb := block_lt hN
    simp [NumC] at c0 c1 c2 c3 c4 c5 c6
    rw [hb] at c5
    rw [hb] at hcl
    clear hN hb hl hm
    let kp_ : Exit → Act → World → Prop := bodyPost Tryz.prog Tryz.f79 (fun _ _ => True)
    refine calls_post Tryz.func79 rfl ?_
    intro Q_ hQ_
    simp only [Tryz.ntmps79, List.size_toArray, List.length_cons, List.length_nil, Nat.reduceAdd, Nat.reduceSub, Array.replicate_succ, Array.replicate_zero, List.push_toArray, List.append_toArray, List.nil_append, List.cons_append]
    go_wp2_with fail
    refine hld.mono ?_
    rintro e w1 ⟨rfl, k, rfl⟩
    try go_simp
    go_wp2_with fail
    refine (hk _).mono ?_
    rintro e w1 ⟨rfl, rfl⟩
    try go_simp
    go_upto_region 7 with (fail)
    go_region_held3 (fun w' => Touch [] w w')
      (first | exact Touch.drew (Touch.drewN (Touch.refl _ _) _) | exact Touch.trans (by assumption) ht9)
      (first | (go_at_call 106; (with_reducible refine (ed _ _ _ (by omega) (by omega) (by omega)).mono ?_); rintro e w9 ⟨rfl, ht9⟩; have hT9 : Touch [] w w9 := Touch.trans (by assumption) ht9))
    all_goals
      go_wp2_with fail
      (try simp only [Exit.inBlock, Exit.then])
      refine hQ_.ret (results_tmp rfl _ _ _) rfl ?_
      exact ⟨by rw [hc.out]; rfl, hT9⟩
end Go.Proofs.YthdncmagfgoboaaGreatDoor
