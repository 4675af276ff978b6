/- The program's layer of numbers byte by byte: one more digit. -/
import Derived.Test.YthdncmagfgoboaaGreatDoorNumQ
namespace Go.Proofs.YthdncmagfgoboaaGreatDoor
open Go.RowKit
set_option maxRecDepth 100000
set_option maxHeartbeats 4000000
set_option linter.unusedVariables false
set_option linter.unusedSimpArgs false

theorem Num.digit_B (v : Nat) (bh : Bool) (n : Num.St) : Num.digit v bh n =
    if v = 0 then some (Num.setZ (Num.digB n bh) (if 0 < n.m ∨ bh = true then n.zeros + 1 else n.zeros)) else
    if n.m = 0 then some (Num.setZ (Num.setM (Num.digB n bh) v) 0) else
    if n.m * 10 ^ (n.zeros + 1) + v ≤ 9007199254740991 then some (Num.setZ (Num.setM (Num.digB n bh) (n.m * 10 ^ (n.zeros + 1) + v)) 0) else none := by
  unfold Num.digit Num.digB
  rfl

/-- what is told of one more digit -/
def DigPost (b : Nat) (tv : Value) (v : Nat) (bh : Bool) (n : Num.St) (w : World) (e : Ending) (w' : World) : Prop :=
  Touch [b] w w' ∧ ((∃ n', Num.digit v bh n = some n' ∧ e = .returned (.bool true) ∧ NumAt w' b tv n') ∨
    (Num.digit v bh n = none ∧ e = .returned (.bool false) ∧ ∃ M Z, M < 18446744073709551616 ∧ Z ≤ n.zeros ∧ NumAt w' b tv (Num.setZ (Num.setM (Num.digB n bh) M) Z)))

theorem num_set2 {w : World} {b : Nat} {tv : Value} {n : Num.St} (h : NumAt w b tv n) (x : Nat) : NumAt (w.setCell ⟨b, 2, none⟩ (.int .u64 x)) b tv (Num.setM n x) := set_same h 2 _
theorem num_set3 {w : World} {b : Nat} {tv : Value} {n : Num.St} (h : NumAt w b tv n) (x : Nat) : NumAt (w.setCell ⟨b, 3, none⟩ (.int .i64 x)) b tv (Num.setZ n x) := set_same h 3 _
theorem num_set4 {w : World} {b : Nat} {tv : Value} {n : Num.St} (h : NumAt w b tv n) (x : Nat) : NumAt (w.setCell ⟨b, 4, none⟩ (.int .i64 x)) b tv (Num.setB n x) := set_same h 4 _
theorem num_set1 {w : World} {b : Nat} {tv : Value} {n : Num.St} (h : NumAt w b tv n) (x : Nat) : NumAt (w.setCell ⟨b, 1, none⟩ (.int .i64 x)) b tv (Num.setA n x) := set_same h 1 _
theorem num_set5 {w : World} {b : Nat} {tv : Value} {n : Num.St} (h : NumAt w b tv n) (x : Bool) : NumAt (w.setCell ⟨b, 5, none⟩ (.bool x)) b tv (Num.setW n x) := set_same h 5 _
theorem num_set6 {w : World} {b : Nat} {tv : Value} {n : Num.St} (h : NumAt w b tv n) (x : Nat) : NumAt (w.setCell ⟨b, 6, none⟩ (.int .i64 x)) b tv (Num.setE n x) := set_same h 6 _


theorem digit_any (b : Nat) (tv : Value) (n : Num.St) (v : Nat) (bh : Bool) (w : World) (hN : NumAt w b tv n) (ok : n.Ok) (hv : v ≤ 9) :
    Calls Tryz.prog 78 #[.pointer (some ⟨b, 0, none⟩), .int .u64 v, .bool bh] w (DigPost b tv v bh n w) := by
  have o1 := ok.zeros
  have o2 := ok.behind
  have o3 := ok.m
  unfold Num.maxW at o3
  have hdig := Num.digit_B v bh n
  obtain ⟨D, hD⟩ : ∃ D, D = Num.digit v bh n := ⟨_, rfl⟩
  rw [← hD] at hdig
  have hpost : ∀ e w', Box (Touch [b] w w' ∧ ((∃ n', D = some n' ∧ e = .returned (.bool true) ∧ NumAt w' b tv n') ∨
    (D = none ∧ e = .returned (.bool false) ∧ ∃ M Z, M < 18446744073709551616 ∧ Z ≤ n.zeros ∧ NumAt w' b tv (Num.setZ (Num.setM (Num.digB n bh) M) Z)))) → DigPost b tv v bh n w e w' := fun e w' h => by
    have := h.out
    rw [hD] at this
    exact this
  clear hD
  replace hdig := Box.mk hdig
  refine Calls.mono (R := fun e w' => Box (Touch [b] w w' ∧ ((∃ n', D = some n' ∧ e = .returned (.bool true) ∧ NumAt w' b tv n') ∨
    (D = none ∧ e = .returned (.bool false) ∧ ∃ M Z, M < 18446744073709551616 ∧ Z ≤ n.zeros ∧ NumAt w' b tv (Num.setZ (Num.setM (Num.digB n bh) M) Z))))) ?_ hpost
  clear hpost
  obtain ⟨n1, hn1⟩ : ∃ n1, n1 = Num.digB n bh := ⟨_, rfl⟩
  have k1 : n1.m = n.m := by rw [hn1]; rfl
  have k2 : n1.zeros = n.zeros := by rw [hn1]; rfl
  rw [← hn1] at hdig ⊢
  unfold NumAt at hN
  let kp_ : Exit → Act → World → Prop := bodyPost Tryz.prog Tryz.f78 (fun _ _ => True)
  refine calls_post Tryz.func78 rfl ?_
  intro Q_ hQ_
  simp only [Tryz.ntmps78, List.size_toArray, List.length_cons, List.length_nil, Nat.reduceAdd, Nat.reduceSub, Array.replicate_succ, Array.replicate_zero, List.push_toArray, List.append_toArray, List.nil_append, List.cons_append]
  go_upto_if 8 with (fail)
  go_cut [7] (fun v7 wx => NumAt wx b tv n1 ∧ Touch [b] w wx)
  case first =>
    have c0 := cell_at hN 0
    have c1 := cell_at hN 1
    have c2 := cell_at hN 2
    have c3 := cell_at hN 3
    have c4 := cell_at hN 4
    have c5 := cell_at hN 5
    have c6 := cell_at hN 6
    have f0 := free_at hN 0
    have f1 := free_at hN 1
    have f2 := free_at hN 2
    have f3 := free_at hN 3
    have f4 := free_at hN 4
    have f5 := free_at hN 5
    have f6 := free_at hN 6
    have lb := block_lt hN
    simp [NumC] at c0 c1 c2 c3 c4 c5 c6
    cases bh with
    | true =>
      go_wp2
      go_meet
      refine ⟨?_, (Touch.refl _ _).setCell (by simp) _⟩
      rw [hn1]
      exact num_set4 hN (n.behind + 1)
    | false =>
      go_wp2
      go_meet
      refine ⟨?_, Touch.refl _ _⟩
      rw [hn1]
      exact hN
  case rest =>
    obtain ⟨hN1, hT⟩ := hcut
    clear hN hn1
    by_cases hv0 : v = 0
    · have t0 : ((v : Int) == 0) = true := by rw [hv0]; rfl
      have hd : Box (D = some (Num.setZ n1 (if 0 < n.m ∨ bh = true then n.zeros + 1 else n.zeros))) := ⟨by rw [hdig.out, if_pos hv0]⟩
      have c0 := cell_at hN1 0
      have c1 := cell_at hN1 1
      have c2 := cell_at hN1 2
      have c3 := cell_at hN1 3
      have c4 := cell_at hN1 4
      have c5 := cell_at hN1 5
      have c6 := cell_at hN1 6
      have f0 := free_at hN1 0
      have f1 := free_at hN1 1
      have f2 := free_at hN1 2
      have f3 := free_at hN1 3
      have f4 := free_at hN1 4
      have f5 := free_at hN1 5
      have f6 := free_at hN1 6
      have lb := block_lt hN1
      simp [NumC] at c0 c1 c2 c3 c4 c5 c6
      have hz : Box (Num.setZ n1 n.zeros = n1) := ⟨Num.setZ_self n1 _ k2⟩
      rw [k1] at c2
      rw [k2] at c3
      clear hv0 k1 k2 hdig
      by_cases h1 : 0 < n.m
      · replace hd : Box (D = some (Num.setZ n1 (n.zeros + 1))) := ⟨by rw [hd.out, if_pos (Or.inl h1)]⟩
        go_wp2
        (try simp only [Exit.inBlock, Exit.then])
        refine hQ_.ret (results_tmp rfl _ _ _) rfl ?_
        exact ⟨⟨hT.setCell (by simp) _, .inl ⟨_, hd.out, rfl, num_set3 hN1 (n.zeros + 1)⟩⟩⟩
      · cases bh with
        | true =>
          replace hd : Box (D = some (Num.setZ n1 (n.zeros + 1))) := ⟨by rw [hd.out, if_pos (Or.inr rfl)]⟩
          go_wp2
          (try simp only [Exit.inBlock, Exit.then])
          refine hQ_.ret (results_tmp rfl _ _ _) rfl ?_
          exact ⟨⟨hT.setCell (by simp) _, .inl ⟨_, hd.out, rfl, num_set3 hN1 (n.zeros + 1)⟩⟩⟩
        | false =>
          replace hd : Box (D = some n1) := ⟨by rw [hd.out, if_neg (by simp; omega), hz.out]⟩
          go_wp2
          (try simp only [Exit.inBlock, Exit.then])
          refine hQ_.ret (results_tmp rfl _ _ _) rfl ?_
          exact ⟨⟨hT, .inl ⟨_, hd.out, rfl, hN1⟩⟩⟩
    · have t0 : ((v : Int) == 0) = false := by simpa using hv0
      by_cases hm0 : n.m = 0
      · have t1 : ((n.m : Int) == 0) = true := by rw [hm0]; rfl
        have hd : Box (D = some (Num.setZ (Num.setM n1 v) 0)) := ⟨by rw [hdig.out, if_neg hv0, if_pos hm0]⟩
        have c0 := cell_at hN1 0
        have c1 := cell_at hN1 1
        have c2 := cell_at hN1 2
        have c3 := cell_at hN1 3
        have c4 := cell_at hN1 4
        have c5 := cell_at hN1 5
        have c6 := cell_at hN1 6
        have f0 := free_at hN1 0
        have f1 := free_at hN1 1
        have f2 := free_at hN1 2
        have f3 := free_at hN1 3
        have f4 := free_at hN1 4
        have f5 := free_at hN1 5
        have f6 := free_at hN1 6
        have lb := block_lt hN1
        simp [NumC] at c0 c1 c2 c3 c4 c5 c6
        rw [k1] at c2
        rw [k2] at c3
        clear hv0 k1 k2 hdig hm0
        go_wp2
        (try simp only [Exit.inBlock, Exit.then])
        refine hQ_.ret (results_tmp rfl _ _ _) rfl ?_
        exact ⟨⟨(hT.setCell (by simp) _).setCell (by simp) _, .inl ⟨_, hd.out, rfl, num_set3 (num_set2 hN1 v) 0⟩⟩⟩
      · have t1 : ((n.m : Int) == 0) = false := by simpa using hm0
        have hd : Box (D = if n.m * 10 ^ (n.zeros + 1) + v ≤ 9007199254740991 then some (Num.setZ (Num.setM n1 (n.m * 10 ^ (n.zeros + 1) + v)) 0) else none) := ⟨by rw [hdig.out, if_neg hv0, if_neg hm0]⟩
        have hpos : 0 < n.m := Nat.pos_of_ne_zero hm0
        have hN2 : NumAt wc b tv (Num.setM n1 n.m) := by
          have : Num.setM n1 n.m = n1 := by rw [← k1]; rfl
          rw [this]; exact hN1
        clear hv0 hdig hm0 hN1
        have hle : ∀ k, k ≤ n.zeros → n.m * 10 ^ k * 10 ≤ n.m * 10 ^ (n.zeros + 1) := fun k hk => by
          rw [Nat.mul_assoc, ← Nat.pow_succ]
          exact Nat.mul_le_mul_left _ (Nat.pow_le_pow_right (by omega) (by omega))
        replace hle := Box.mk hle
        have c0 := cell_at hN2 0
        have c1 := cell_at hN2 1
        have c2 := cell_at hN2 2
        have c3 := cell_at hN2 3
        have c4 := cell_at hN2 4
        have c5 := cell_at hN2 5
        have c6 := cell_at hN2 6
        have f0 := free_at hN2 0
        have f1 := free_at hN2 1
        have f2 := free_at hN2 2
        have f3 := free_at hN2 3
        have f4 := free_at hN2 4
        have f5 := free_at hN2 5
        have f6 := free_at hN2 6
        have lb := block_lt hN2
        simp [NumC] at c0 c1 c2 c3 c4 c5 c6
        rw [Num.setM_m] at c2
        rw [Num.setM_zeros, k2] at c3
        go_wp2
        clear c0 c1 c2 c3 c4 c5 c6 f0 f1 f2 f3 f4 f5 f6 lb k1
        replace k2 := Box.mk k2
        go_loopw [7] (fun iv wr => ∃ (k M : Nat), k ≤ n.zeros + 1 ∧ iv = .int .i64 k ∧ M ≤ 9007199254740991 ∧ Box (M = n.m * 10 ^ k) ∧ NumAt wr b tv (Num.setM n1 M) ∧ Touch [b] w wr) (fun iv _ => (n.zeros + 1 - (intOf iv).toNat))
        case atStart => exact ⟨0, n.m, by omega, rfl, o3, ⟨by simp⟩, hN2, hT⟩
        case round =>
          obtain ⟨k, M, hk, rfl, hM, hMe, hN3, hT3⟩ := hrel
          have c0 := cell_at hN3 0
          have c1 := cell_at hN3 1
          have c2 := cell_at hN3 2
          have c3 := cell_at hN3 3
          have c4 := cell_at hN3 4
          have c5 := cell_at hN3 5
          have c6 := cell_at hN3 6
          have f0 := free_at hN3 0
          have f1 := free_at hN3 1
          have f2 := free_at hN3 2
          have f3 := free_at hN3 3
          have f4 := free_at hN3 4
          have f5 := free_at hN3 5
          have f6 := free_at hN3 6
          have lb := block_lt hN3
          simp [NumC] at c0 c1 c2 c3 c4 c5 c6
          rw [Num.setM_m] at c2
          rw [Num.setM_zeros, k2.out] at c3
          clear hN2 hT
          by_cases hlt : k ≤ n.zeros
          · by_cases hbig : 9007199254740991 < M * 10
            · have hno : Box (D = none) := ⟨by
                rw [hd.out, if_neg]
                have := hle.out k hlt
                rw [← hMe.out] at this
                omega⟩
              go_wp2
              (try simp only [Exit.inBlock, Exit.then])
              refine hQ_.ret (results_tmp rfl _ _ _) rfl ?_
              exact ⟨⟨hT3.setCell (by simp) _, .inr ⟨hno.out, rfl, M * 10, n.zeros, by omega, Nat.le_refl _, by
                have := num_set2 hN3 (M * 10)
                rw [Num.setZ_self _ _ (show (Num.setM n1 (M * 10)).zeros = n.zeros from k2.out)]
                exact this⟩⟩⟩
            · have hMe2 : Box (M * 10 = n.m * 10 ^ (k + 1)) := ⟨by rw [hMe.out, Nat.pow_succ, Nat.mul_assoc]⟩
              go_wp2
              go_roundw
              case measure => simp [intOf]; omega
              case rel => exact ⟨k + 1, M * 10, by omega, by go_num, by omega, hMe2, num_set2 hN3 (M * 10), hT3.setCell (by simp) _⟩
          · have hke : k = n.zeros + 1 := by omega
            replace hMe : Box (M = n.m * 10 ^ (n.zeros + 1)) := ⟨by rw [hMe.out, hke]⟩
            clear hke
            by_cases hbig : M + v ≤ 9007199254740991
            · have hyes : Box (D = some (Num.setZ (Num.setM n1 (M + v)) 0)) := ⟨by rw [hd.out, ← hMe.out, if_pos hbig]⟩
              have t2 : decide ((M : Int) + v ≤ 9007199254740991) = true := by simp; omega
              go_wp2
              (try simp only [Exit.inBlock, Exit.then])
              refine hQ_.ret (results_tmp rfl _ _ _) rfl ?_
              exact ⟨⟨(hT3.setCell (by simp) _).setCell (by simp) _, .inl ⟨_, hyes.out, rfl, num_set3 (num_set2 hN3 (M + v)) 0⟩⟩⟩
            · have hno : Box (D = none) := ⟨by rw [hd.out, ← hMe.out, if_neg hbig]⟩
              have t2 : decide ((M : Int) + v ≤ 9007199254740991) = false := by simp; omega
              go_wp2
              (try simp only [Exit.inBlock, Exit.then])
              refine hQ_.ret (results_tmp rfl _ _ _) rfl ?_
              exact ⟨⟨(hT3.setCell (by simp) _).setCell (by simp) _, .inr ⟨hno.out, rfl, M + v, 0, by omega, by omega, num_set3 (num_set2 hN3 (M + v)) 0⟩⟩⟩
end Go.Proofs.YthdncmagfgoboaaGreatDoor
