/- One of the texts that lead to the theorem lexPlays.proved: the conditions stand in each theorem. -/
import Derived.Test.YthdncmagfgoboaaGreatDoorP9
set_option linter.unusedSimpArgs false
set_option linter.unusedVariables false
section
namespace Go.Proofs.YthdncmagfgoboaaGreatDoor
open Go.RowKit
set_option maxRecDepth 100000
set_option maxHeartbeats 4000000
theorem Num.digit_B (v : Nat) (bh : Bool) (n : Num.St) : Num.digit v bh n =
 if v = 0 then some (Num.setZ (Num.digB n bh) (if 0 < n.m ∨ bh = true then n.zeros + 1 else n.zeros)) else
 if n.m = 0 then some (Num.setZ (Num.setM (Num.digB n bh) v) 0) else
 if n.m * 10 ^ (n.zeros + 1) + v ≤ 9007199254740991 then some (Num.setZ (Num.setM (Num.digB n bh) (n.m * 10 ^ (n.zeros + 1) + v)) 0) else none := by
 unfold Num.digit Num.digB
 rfl
def tB (b : Nat) (tv : Value) (v : Nat) (bh : Bool) (n : Num.St) (w : World) (e : Ending) (w' : World) : Prop :=
 Touch [b] w w' ∧ ((∃ n', Num.digit v bh n = some n' ∧ e = .returned (.bool true) ∧ bH w' b tv n') ∨
  (Num.digit v bh n = none ∧ e = .returned (.bool false) ∧ ∃ M Z, M < 18446744073709551616 ∧ Z ≤ n.zeros ∧ bH w' b tv (Num.setZ (Num.setM (Num.digB n bh) M) Z)))
theorem fV {w : World} {b : Nat} {tv : Value} {n : Num.St} (h : bH w b tv n) (x : Nat) : bH (w.setCell ⟨b, 2, none⟩ (.int .u64 x)) b tv (Num.setM n x) := aF h 2 _
theorem dO {w : World} {b : Nat} {tv : Value} {n : Num.St} (h : bH w b tv n) (x : Nat) : bH (w.setCell ⟨b, 3, none⟩ (.int .i64 x)) b tv (Num.setZ n x) := aF h 3 _
theorem wI {w : World} {b : Nat} {tv : Value} {n : Num.St} (h : bH w b tv n) (x : Nat) : bH (w.setCell ⟨b, 4, none⟩ (.int .i64 x)) b tv (Num.setB n x) := aF h 4 _
theorem wJ {w : World} {b : Nat} {tv : Value} {n : Num.St} (h : bH w b tv n) (x : Nat) : bH (w.setCell ⟨b, 1, none⟩ (.int .i64 x)) b tv (Num.setA n x) := aF h 1 _
theorem wH {w : World} {b : Nat} {tv : Value} {n : Num.St} (h : bH w b tv n) (x : Bool) : bH (w.setCell ⟨b, 5, none⟩ (.bool x)) b tv (Num.setW n x) := aF h 5 _
theorem wG {w : World} {b : Nat} {tv : Value} {n : Num.St} (h : bH w b tv n) (x : Nat) : bH (w.setCell ⟨b, 6, none⟩ (.int .i64 x)) b tv (Num.setE n x) := aF h 6 _
theorem iY (b : Nat) (tv : Value) (n : Num.St) (v : Nat) (bh : Bool) (w : World) (hN : bH w b tv n) (ok : n.Ok) (hv : v ≤ 9) :
 Calls Tryz.prog 78 #[.pointer (some ⟨b, 0, none⟩), .int .u64 v, .bool bh] w (tB b tv v bh n w) := by
 have o1 := ok.zeros
 have o2 := ok.behind
 have o3 := ok.m
 unfold Num.maxW at o3
 have hdig := Num.digit_B v bh n
 obtain ⟨D, hD⟩ : ∃ D, D = Num.digit v bh n := ⟨_, rfl⟩
 rw [← hD] at hdig
 have hpost : ∀ e w', Box (Touch [b] w w' ∧ ((∃ n', D = some n' ∧ e = .returned (.bool true) ∧ bH w' b tv n') ∨
  (D = none ∧ e = .returned (.bool false) ∧ ∃ M Z, M < 18446744073709551616 ∧ Z ≤ n.zeros ∧ bH w' b tv (Num.setZ (Num.setM (Num.digB n bh) M) Z)))) → tB b tv v bh n w e w' := fun e w' h => by
  have := h.out
  rw [hD] at this
  exact this
 clear hD
 replace hdig := Box.mk hdig
 refine Calls.mono (R := fun e w' => Box (Touch [b] w w' ∧ ((∃ n', D = some n' ∧ e = .returned (.bool true) ∧ bH w' b tv n') ∨
  (D = none ∧ e = .returned (.bool false) ∧ ∃ M Z, M < 18446744073709551616 ∧ Z ≤ n.zeros ∧ bH w' b tv (Num.setZ (Num.setM (Num.digB n bh) M) Z))))) ?_ hpost
 clear hpost
 obtain ⟨n1, hn1⟩ : ∃ n1, n1 = Num.digB n bh := ⟨_, rfl⟩
 have k1 : n1.m = n.m := by rw [hn1]; rfl
 have k2 : n1.zeros = n.zeros := by rw [hn1]; rfl
 rw [← hn1] at hdig ⊢
 unfold bH at hN
 let kp_ : Exit → Act → World → Prop := bodyPost Tryz.prog Tryz.f78 (fun _ _ => True)
 refine aA Tryz.func78 rfl ?_
 intro Q_ hQ_
 simp only [Tryz.ntmps78, ents_, Nat.reduceAdd, Nat.reduceSub]
 go_upto_if 8 with (fail)
 go_cut [7] (fun v7 wx => bH wx b tv n1 ∧ Touch [b] w wx)
 case first =>
  have ⟨c0,c1,c2,c3,c4,c5,c6⟩ := cs7 hN
  have ⟨f0,f1,f2,f3,f4,f5,f6⟩ := fs7 hN
  have lb := aB hN
  try simp [NumC] at c0 c1 c2 c3 c4 c5 c6
  cases bh with
  | true =>
   go_wp2
   go_meet
   refine ⟨?_, (Touch.refl _ _).setCell (by simp) _⟩
   rw [hn1]
   exact wI hN (n.behind + 1)
  | false =>
   go_wp2
   go_meet
   refine ⟨?_, Touch.refl _ _⟩
   rw [hn1]
   exact hN
 case rest =>
  obtain ⟨hN1, hT⟩ := hcut
  clear hN hn1
  by_cases hv0 : v = 0
  · have t0 : ((v : Int) == 0) = true := by rw [hv0]; rfl
    have hd : Box (D = some (Num.setZ n1 (if 0 < n.m ∨ bh = true then n.zeros + 1 else n.zeros))) := ⟨by rw [hdig.out, if_pos hv0]⟩
    have ⟨c0,c1,c2,c3,c4,c5,c6⟩ := cs7 hN1
    have ⟨f0,f1,f2,f3,f4,f5,f6⟩ := fs7 hN1
    have lb := aB hN1
    try simp [NumC] at c0 c1 c2 c3 c4 c5 c6
    have hz : Box (Num.setZ n1 n.zeros = n1) := ⟨Num.setZ_self n1 _ k2⟩
    rw [k1] at c2
    rw [k2] at c3
    clear hv0 k1 k2 hdig
    by_cases h1 : 0 < n.m
    · replace hd : Box (D = some (Num.setZ n1 (n.zeros + 1))) := ⟨by rw [hd.out, if_pos (Or.inl h1)]⟩
      go_wp2
      refine hQ_.ret (results_tmp rfl _ _ _) rfl ?_
      exact ⟨⟨hT.setCell (by simp) _, .inl ⟨_, hd.out, rfl, dO hN1 (n.zeros + 1)⟩⟩⟩
    · cases bh with
      | true =>
       replace hd : Box (D = some (Num.setZ n1 (n.zeros + 1))) := ⟨by rw [hd.out, if_pos (Or.inr rfl)]⟩
       go_wp2
       refine hQ_.ret (results_tmp rfl _ _ _) rfl ?_
       exact ⟨⟨hT.setCell (by simp) _, .inl ⟨_, hd.out, rfl, dO hN1 (n.zeros + 1)⟩⟩⟩
      | false =>
       replace hd : Box (D = some n1) := ⟨by rw [hd.out, if_neg (by simp; omega), hz.out]⟩
       go_wp2
       refine hQ_.ret (results_tmp rfl _ _ _) rfl ?_
       exact ⟨⟨hT, .inl ⟨_, hd.out, rfl, hN1⟩⟩⟩
  · have t0 : ((v : Int) == 0) = false := by simpa using hv0
    by_cases hm0 : n.m = 0
    · have t1 : ((n.m : Int) == 0) = true := by rw [hm0]; rfl
      have hd : Box (D = some (Num.setZ (Num.setM n1 v) 0)) := ⟨by rw [hdig.out, if_neg hv0, if_pos hm0]⟩
      have ⟨c0,c1,c2,c3,c4,c5,c6⟩ := cs7 hN1
      have ⟨f0,f1,f2,f3,f4,f5,f6⟩ := fs7 hN1
      have lb := aB hN1
      try simp [NumC] at c0 c1 c2 c3 c4 c5 c6
      rw [k1] at c2
      rw [k2] at c3
      clear hv0 k1 k2 hdig hm0
      go_wp2
      refine hQ_.ret (results_tmp rfl _ _ _) rfl ?_
      exact ⟨⟨(hT.setCell (by simp) _).setCell (by simp) _, .inl ⟨_, hd.out, rfl, dO (fV hN1 v) 0⟩⟩⟩
    · have t1 : ((n.m : Int) == 0) = false := by simpa using hm0
      have hd : Box (D = if n.m * 10 ^ (n.zeros + 1) + v ≤ 9007199254740991 then some (Num.setZ (Num.setM n1 (n.m * 10 ^ (n.zeros + 1) + v)) 0) else none) := ⟨by rw [hdig.out, if_neg hv0, if_neg hm0]⟩
      have hpos : 0 < n.m := Nat.pos_of_ne_zero hm0
      have hN2 : bH wc b tv (Num.setM n1 n.m) := by
       have : Num.setM n1 n.m = n1 := by rw [← k1]; rfl
       rw [this]; exact hN1
      clear hv0 hdig hm0 hN1
      have hle : ∀ k, k ≤ n.zeros → n.m * 10 ^ k * 10 ≤ n.m * 10 ^ (n.zeros + 1) := fun k hk => by
       rw [Nat.mul_assoc, ← Nat.pow_succ]
       exact Nat.mul_le_mul_left _ (Nat.pow_le_pow_right (by omega) (by omega))
      replace hle := Box.mk hle
      have ⟨c0,c1,c2,c3,c4,c5,c6⟩ := cs7 hN2
      have ⟨f0,f1,f2,f3,f4,f5,f6⟩ := fs7 hN2
      have lb := aB hN2
      try simp [NumC] at c0 c1 c2 c3 c4 c5 c6
      rw [Num.setM_m] at c2
      rw [Num.setM_zeros, k2] at c3
      go_wp2
      clear c0 c1 c2 c3 c4 c5 c6 f0 f1 f2 f3 f4 f5 f6 lb k1
      replace k2 := Box.mk k2
      go_loopw [7] (fun iv wr => ∃ (k M : Nat), k ≤ n.zeros + 1 ∧ iv = .int .i64 k ∧ M ≤ 9007199254740991 ∧ Box (M = n.m * 10 ^ k) ∧ bH wr b tv (Num.setM n1 M) ∧ Touch [b] w wr) (fun iv _ => (n.zeros + 1 - (intOf iv).toNat))
      case atStart => exact ⟨0, n.m, by omega, rfl, o3, ⟨by simp⟩, hN2, hT⟩
      case round =>
       obtain ⟨k, M, hk, rfl, hM, hMe, hN3, hT3⟩ := hrel
       have ⟨c0,c1,c2,c3,c4,c5,c6⟩ := cs7 hN3
       have ⟨f0,f1,f2,f3,f4,f5,f6⟩ := fs7 hN3
       have lb := aB hN3
       try simp [NumC] at c0 c1 c2 c3 c4 c5 c6
       rw [Num.setM_m] at c2
       rw [Num.setM_zeros, k2.out] at c3
       clear hN2 hT
       by_cases hlt : k ≤ n.zeros
       · by_cases hbig : 9007199254740991 < M * 10
         · have hno : Box (D = none) := ⟨by
            rw [hd.out, if_neg]
            have := hle.out k hlt
            rw [← hMe.out] at this
            omega⟩
           go_wp2
           refine hQ_.ret (results_tmp rfl _ _ _) rfl ?_
           exact ⟨⟨hT3.setCell (by simp) _, .inr ⟨hno.out, rfl, M * 10, n.zeros, by omega, Nat.le_refl _, by
            have := fV hN3 (M * 10)
            rw [Num.setZ_self _ _ (show (Num.setM n1 (M * 10)).zeros = n.zeros from k2.out)]
            exact this⟩⟩⟩
         · have hMe2 : Box (M * 10 = n.m * 10 ^ (k + 1)) := ⟨by rw [hMe.out, Nat.pow_succ, Nat.mul_assoc]⟩
           go_wp2
           go_roundw
           case measure => simp [intOf]; omega
           case rel => exact ⟨k + 1, M * 10, by omega, by go_num, by omega, hMe2, fV hN3 (M * 10), hT3.setCell (by simp) _⟩
       · have hke : k = n.zeros + 1 := by omega
         replace hMe : Box (M = n.m * 10 ^ (n.zeros + 1)) := ⟨by rw [hMe.out, hke]⟩
         clear hke
         by_cases hbig : M + v ≤ 9007199254740991
         · have hyes : Box (D = some (Num.setZ (Num.setM n1 (M + v)) 0)) := ⟨by rw [hd.out, ← hMe.out, if_pos hbig]⟩
           have t2 : decide ((M : Int) + v ≤ 9007199254740991) = true := by simp; omega
           go_wp2
           refine hQ_.ret (results_tmp rfl _ _ _) rfl ?_
           exact ⟨⟨(hT3.setCell (by simp) _).setCell (by simp) _, .inl ⟨_, hyes.out, rfl, dO (fV hN3 (M + v)) 0⟩⟩⟩
         · have hno : Box (D = none) := ⟨by rw [hd.out, ← hMe.out, if_neg hbig]⟩
           have t2 : decide ((M : Int) + v ≤ 9007199254740991) = false := by simp; omega
           go_wp2
           refine hQ_.ret (results_tmp rfl _ _ _) rfl ?_
           exact ⟨⟨(hT3.setCell (by simp) _).setCell (by simp) _, .inr ⟨hno.out, rfl, M + v, 0, by omega, by omega, dO (fV hN3 (M + v)) 0⟩⟩⟩
end Go.Proofs.YthdncmagfgoboaaGreatDoor
end

section
namespace Go.Proofs.YthdncmagfgoboaaGreatDoor
open Go.RowKit
set_option maxRecDepth 100000
set_option maxHeartbeats 4000000
def bM (l : List UInt8) : List Value := l.map fun x => .int .u8 x.toNat
theorem cG (l : List UInt8) (x : UInt8) : bM (l ++ [x]) = bM l ++ [.int .u8 x.toNat] := by unfold bM; simp
structure NumF (w : World) (b : Nat) (l : List UInt8) (n : Num.St) (g : Option Nat) (tv : Value) : Prop where
 n : bH w b tv n
 s : SlAt w 5 1 tv l.length (bM l) g
 g : ∀ k, g = some k → k ≠ b
def dS (b : Nat) (l : List UInt8) (n : Num.St) (g : Option Nat) (x : UInt8) (w : World) (e : Ending) (w' : World) : Prop :=
 match Num.push n x.toNat with
 | .error c => e = .returned (.int .i64 c) ∧ (∃ tv, NumF w' b l n g tv) ∧ Touch [b] w w'
 | .ok n' => e = .returned (.int .i64 0) ∧ (∃ g' tv, NumF w' b (l ++ [x]) n' g' tv ∧ cK w g g') ∧ Touch (b :: g.toList) w w'
theorem cF {b : Nat} {l : List UInt8} {n : Num.St} {g : Option Nat} {x : UInt8} {w w' : World} {c : Nat} {tv : Value} (he : Num.push n x.toNat = .error c) (h : NumF w' b l n g tv) (ht : Touch [b] w w') :
 dS b l n g x w (.returned (.int .i64 c)) w' := by
 unfold dS; rw [he]; exact ⟨rfl, ⟨tv, h⟩, ht⟩
theorem dG {b : Nat} {l : List UInt8} {n n' : Num.St} {g g' : Option Nat} {x : UInt8} {w w' : World} {tv : Value} (he : Num.push n x.toNat = .ok n') (h : NumF w' b (l ++ [x]) n' g' tv) (hg : cK w g g') (ht : Touch (b :: g.toList) w w') :
 dS b l n g x w (.returned (.int .i64 0)) w' := by
 unfold dS; rw [he]; exact ⟨rfl, ⟨g', tv, h, hg⟩, ht⟩
theorem cA : fZ Tryz.prog 22 5 (.int .u8 0) 1 1 := by
 refine ⟨Tryz.underlying22, by rfl, by decide, by decide, ?_⟩
 exact info_parts (by kernel_rfl)
theorem dB {w w' : World} {b : Nat} {l : List UInt8} {n : Num.St} {g : Option Nat} {tv : Value} (hs : SlAt w 5 1 tv l.length (bM l) g) (hg : ∀ k, g = some k → k ≠ b) (h : bH w' b tv n) (ht : Touch [b] w w') : NumF w' b l n g tv :=
 ⟨h, hs.keep ht (fun k hk => by simpa using hg k hk), hg⟩
theorem bX {w : World} {g g' : Option Nat} {b : Nat} (h : cK w g g') (hg : ∀ k, g = some k → k ≠ b) (hb : b < w.heap.size) : ∀ k, g' = some k → k ≠ b := by
 intro k hk
 rcases h with rfl | ⟨k', hk', hle⟩
 · exact hg k hk
 · rw [hk] at hk'
   injection hk' with hk'
   omega
theorem cE {w w' : World} {g g' : Option Nat} (h : cK w' g g') (hs : w.heap.size ≤ w'.heap.size) : cK w g g' := by
 rcases h with h | ⟨k, h1, h2⟩
 · exact .inl h
 · exact .inr ⟨k, h1, Nat.le_trans hs h2⟩
theorem Num.digB_b (n : Num.St) (bh : Bool) : (Num.digB n bh).behind ≤ n.behind + 1 := by
 unfold Num.digB
 dsimp only
 split <;> omega
theorem lG (b : Nat) (l : List UInt8) (n : Num.St) (g : Option Nat) (tv : Value) (x : UInt8) (w : World) (hF : NumF w b l n g tv) (ok : n.OkL l.length) (hl : l.length ≤ 100000) :
 Calls Tryz.prog 53 #[.pointer (some ⟨b, 0, none⟩), .int .u8 x.toNat] w (dS b l n g x w) := by
 obtain ⟨hN, hs, hg⟩ := hF
 obtain ⟨A, C, rfl, hC1, hC2, _⟩ := hs.form
 have o4 := ok.at_
 have hx := x.toNat_lt
 cases hn : Num.next n.at_ x.toNat with
 | none =>
  have hnx := fun w => next_no n.at_ x.toNat w o4 hn
  have he : Box (Num.push n x.toNat = .error 2) := ⟨by unfold Num.push; rw [hn]⟩
  clear hn
  unfold bH at hN
  have ⟨c0,c1,c2,c3,c4,c5,c6⟩ := cs7 hN
  have ⟨f0,f1,f2,f3,f4,f5,f6⟩ := fs7 hN
  have lb := aB hN
  try simp [NumC] at c0 c1 c2 c3 c4 c5 c6
  refine aA Tryz.func53 rfl ?_
  intro Q_ hQ_
  simp only [Tryz.ntmps53, ents_, Nat.reduceAdd, Nat.reduceSub]
  go_wp2_with fail
  refine (hnx _).mono ?_
  rintro e w1 ⟨⟨r, rfl⟩, hd⟩
  have ht1 := jC hd
  clear hd
  try go_simp
  go_wp2
  refine hQ_.ret (results_tmp rfl _ _ _) rfl ?_
  exact cF he.out ⟨ht1.keep hN (by simp), hs.keep ht1 (by simp), hg⟩ (ht1.mono (by simp))
 | some p =>
  have hnx := fun w => wK n.at_ x.toNat p w o4 hn
  have hp8 := Num.next_le _ _ _ hn
  have hfig := Num.next_fig _ _ _ hn
  replace hn : Box (Num.next n.at_ x.toNat = some p) := ⟨hn⟩
  unfold bH at hN
  have ⟨c0,c1,c2,c3,c4,c5,c6⟩ := cs7 hN
  have ⟨f0,f1,f2,f3,f4,f5,f6⟩ := fs7 hN
  have lb := aB hN
  try simp [NumC] at c0 c1 c2 c3 c4 c5 c6
  refine aA Tryz.func53 rfl ?_
  intro Q_ hQ_
  simp only [Tryz.ntmps53, ents_, Nat.reduceAdd, Nat.reduceSub]
  go_wp2_with fail
  refine (hnx _).mono ?_
  rintro e w1 ⟨rfl, hd⟩
  have ht1 := jC hd
  clear hd c0 c1 c2 c3 c4 c5 c6 f0 f1 f2 f3 f4 f5 f6 lb hnx
  try go_simp
  have hN1 := ht1.keep hN (by simp)
  have ⟨c0,c1,c2,c3,c4,c5,c6⟩ := cs7 hN1
  have ⟨f0,f1,f2,f3,f4,f5,f6⟩ := fs7 hN1
  have lb := aB hN1
  try simp [NumC] at c0 c1 c2 c3 c4 c5 c6
  go_upto_region 7 with (fail)
  clear c0 c1 c2 c3 c4 c5 c6 f0 f1 f2 f3 f4 f5 f6
  have hW : ((w1.setCell ⟨b, 1, none⟩ (.int .i64 p)).alloc (Obj.cells (NumC (.slice A l.length C) n) 114)).heap[w1.heap.size]? = some (Obj.cells (NumC (.slice A l.length C) n) 114 (0, 0)) := by
   have := aZ (w1.setCell ⟨b, 1, none⟩ (.int .i64 p)) (Obj.cells (NumC (.slice A l.length C) n) 114)
   simpa using this
  have hN2 : bH ((w1.setCell ⟨b, 1, none⟩ (.int .i64 p)).alloc (Obj.cells (NumC (.slice A l.length C) n) 114)) b (.slice A l.length C) (Num.setA n p) := aW (wJ hN1 p) _
  have hT2 : Touch [b] w ((w1.setCell ⟨b, 1, none⟩ (.int .i64 p)).alloc (Obj.cells (NumC (.slice A l.length C) n) 114)) := ((ht1.mono (by simp)).setCell (by simp) _).alloc _
  obtain ⟨W, hWe⟩ : ∃ W, W = ((w1.setCell ⟨b, 1, none⟩ (.int .i64 p)).alloc (Obj.cells (NumC (.slice A l.length C) n) 114)) := ⟨_, rfl⟩
  rw [← hWe] at hW hN2 hT2
  simp only [NumC] at hWe
  rw [← hWe]
  have hne : b < w1.heap.size := lb
  obtain ⟨B, hB⟩ : ∃ B, B = w1.heap.size := ⟨_, rfl⟩
  rw [← hB] at hW hne ⊢
  clear hWe hB ht1 hN1 lb hN w1
  have hgl : b ∉ g.toList := by
   intro h
   cases hgg : g with
   | none => rw [hgg] at h; simp at h
   | some k => rw [hgg] at h; simp at h; exact hg k hgg h.symm
  have hcase : p = 2 ∨ p = 3 ∨ p = 5 ∨ p = 7 ∨ p = 8 ∨ (p = 0 ∨ p = 1 ∨ p = 4 ∨ p = 6) := by omega
  rcases hcase with rfl | rfl | rfl | rfl | rfl | hpo
  · obtain ⟨hf1, hf2⟩ := hfig (by omega)
    have okA : (Num.setA n 2).Ok := ⟨hp8, ok.m, Nat.le_trans ok.zeros (by omega), Nat.le_trans ok.behind (by omega), ok.e⟩
    have okA2 : Box ((Num.setA n 2).OkL l.length) := ⟨⟨hp8, ok.m, ok.zeros, ok.behind, ok.e⟩⟩
    have hdg := iY b (.slice A l.length C) (Num.setA n 2) (x.toNat - 48) false W hN2 okA (by omega)
    rw [show ((x.toNat - 48 : Nat) : Int) = (x.toNat : Int) - 48 by omega] at hdg
    clear okA
    cases hD : Num.digit (x.toNat - 48) false (Num.setA n 2) with
    | some n2 =>
     have hfin : Box (Num.push n x.toNat = Num.fin n2) := ⟨Num.push_digit_yes hn.out (by omega) hD⟩
     have okL : Box (n2.OkL (l.length + 1)) := ⟨Num.digit_okL okA2.out (by omega) hD⟩
     go_wp2_with fail
     refine hdg.mono ?_
     rintro e w2 ⟨ht5, hh⟩
     rw [hD] at hh
     rcases hh with ⟨n', e1, rfl, hN5⟩ | ⟨e1, _⟩
     · injection e1 with e1
       subst e1
       clear hD
       try go_simp
       have hNx := hN5
       have hWx := ht5.keep hW (by simp; omega)
       have hTx := hT2.trans ht5
       clear hN2 hW hT2 hfig ht5 hN5 hdg
       have hmy := fun w h => gI b (.slice A l.length C) (n2) w h (okL.out.ok (by omega))
       go_wp2_with fail
       cases hmb : Num.may (n2) with
       | true =>
        rw [hmb] at hmy
        have he : Box (Num.push n x.toNat = .ok (n2)) := ⟨by rw [hfin.out]; unfold Num.fin; rw [if_pos hmb]⟩
        clear hmb
        refine (hmy _ hNx).mono ?_
        rintro e w3 ⟨rfl, ht3⟩
        try go_simp
        have hNy := ht3.keep hNx (by simp)
        have hTy := hTx.trans (ht3.mono (by simp))
        have hs3 := hs.keep hTy (fun k hk => by simpa using hg k hk)
        clear ht3 hNx hWx hTx hmy
        unfold bH at hNy
        have ⟨c0,c1,c2,c3,c4,c5,c6⟩ := cs7 hNy
        have ⟨f0,f1,f2,f3,f4,f5,f6⟩ := fs7 hNy
        have lb := aB hNy
        try simp [NumC] at c0 c1 c2 c3 c4 c5 c6
        go_wp2_with (at_builtin; refine aJ cA rfl (.tmp 83) (.tmp 85) rfl rfl (hs3.keep ((Touch.refl [] _).alloc _) (by simp)) rfl (aX rfl) (by omega) ?_; intro ad1 c1' w4 g1 hs4 ht4 hn4; rw [← cG] at hs4; have hN4 := ht4.keep (aW hNy _) hgl; have q0 := aN hN4 0; have p0 := aQ hN4 0; have q4 := aB hN4; simp [NumC] at q0)
        refine hQ_.ret (results_tmp rfl _ _ _) rfl ?_
        refine dG he.out ⟨aF hN4 0 _, ?_, ?_⟩ (g' := g1) ?_ ?_
        · have := hs4.keep (Touch.setCell (F := [b]) (Touch.refl _ _) (p := ⟨b, 0, none⟩) (by simp) (.slice ad1 (l.length + 1) c1')) (fun k hk => by
           have := bX hn4 hg (by have := hTy.size; have := aB hNy; simp; omega) k hk
           simpa using this)
          rw [List.length_append]
          exact this
        · exact bX hn4 hg (by have := aB hNy; simp; omega)
        · exact cE hn4 (by have := hTy.size; simp; omega)
        · refine Touch.setCell (Touch.step ((hTy.mono (by simp)).alloc _) ht4 (fun k hk => .inl (by simp at hk; simp [hk]))) (by simp) _
       | false =>
        rw [hmb] at hmy
        have he : Box (Num.push n x.toNat = .error (Num.why (n2))) := ⟨by rw [hfin.out]; unfold Num.fin; rw [if_neg (by rw [hmb]; simp)]⟩
        clear hmb
        refine (hmy _ hNx).mono ?_
        rintro e w5 ⟨rfl, ht3⟩
        try go_simp
        replace hNx : bH w5 b (.slice A l.length C) (n2) := ht3.keep hNx (by simp)
        replace hWx := ht3.keep hWx (by simp)
        replace hTx := hTx.trans (ht3.mono (by simp))
        have okz : Box (n2).Okz := ⟨(okL.out.ok (by omega)).z⟩
        clear ht3 hmy
        have hok2 : (n2).Okz := okz.out
        have hwy := fun w h => dW b (.slice A l.length C) (n2) w h hok2
        go_wp2_with fail
        refine (hwy _ hNx).mono ?_
        rintro e w4 ⟨rfl, k4, rfl⟩
        try go_simp
        have hNy : bH (w5.drewN k4) b (.slice A l.length C) (n2) := hNx
        have hWy := bA hWx k4
        have hTy := hTx.drewN k4
        generalize w5.drewN k4 = w6 at *
        clear hwy hok2 hNx hWx hTx
        unfold bH at hNy
        have ⟨c0,c1,c2,c3,c4,c5,c6⟩ := cs7 hNy
        have ⟨f0,f1,f2,f3,f4,f5,f6⟩ := fs7 hNy
        have lb := aB hNy
        try simp [NumC] at c0 c1 c2 c3 c4 c5 c6
        have ⟨d0,d1,d2,d3,d4,d5,d6⟩ := cs7 hWy
        have lB := aB hWy
        try simp [NumC] at d0 d1 d2 d3 d4 d5 d6
        go_wp2
        refine hQ_.ret (results_tmp rfl _ _ _) rfl ?_
        refine cF he.out (dB hs hg ?_ ?_) ?_
        · exact aF (aF (aF (aF (aF (aF (aF hNy 0 _) 1 _) 2 _) 3 _) 4 _) 5 _) 6 _
        · exact ((((((hTy.setCell (by simp) _).setCell (by simp) _).setCell (by simp) _).setCell (by simp) _).setCell (by simp) _).setCell (by simp) _).setCell (by simp) _
        · exact ((((((hTy.setCell (by simp) _).setCell (by simp) _).setCell (by simp) _).setCell (by simp) _).setCell (by simp) _).setCell (by simp) _).setCell (by simp) _
     · cases e1
    | none =>
     have hno := Num.push_digit_no hn.out (by omega) hD
     have hfb := Box.mk (Num.digB_b (Num.setA n 2) false)
     go_wp2_with fail
     refine hdg.mono ?_
     rintro e w5 ⟨ht5, hh⟩
     rw [hD] at hh
     rcases hh with ⟨n', e1, _⟩ | ⟨_, rfl, M, Z, hM, hZ, hN5⟩
     · cases e1
     · have he : Box (Num.push n x.toNat = .error (Num.why (Num.setZ (Num.setZ (Num.setM (Num.digB (Num.setA n 2) false) M) Z) 0))) := ⟨hno M Z⟩
       have okz : Box (Num.setZ (Num.setZ (Num.setM (Num.digB (Num.setA n 2) false) M) Z) 0).Okz := ⟨Nat.zero_le _, by
        have h1 : (Num.setZ (Num.setZ (Num.setM (Num.digB (Num.setA n 2) false) M) Z) 0).behind = (Num.digB (Num.setA n 2) false).behind := rfl
        rw [h1]
        have h2 := hfb.out
        have h3 : (Num.setA n 2).behind = n.behind := rfl
        have := ok.behind
        omega, ok.e⟩
       clear hD hno hfb
       try go_simp
       have hWx := ht5.keep hW (by simp; omega)
       have hTx := hT2.trans ht5
       clear hN2 hW hT2 hfig ht5 hdg
       unfold bH at hN5
       have ⟨c0,c1,c2,c3,c4,c5,c6⟩ := cs7 hN5
       have ⟨f0,f1,f2,f3,f4,f5,f6⟩ := fs7 hN5
       have lb := aB hN5
       try simp [NumC] at c0 c1 c2 c3 c4 c5 c6
       go_upto_region 17 with (fail)
       clear c0 c1 c2 c3 c4 c5 c6 f0 f1 f2 f3 f4 f5 f6
       have hNx : bH (w5.setCell ⟨b, 3, none⟩ (.int .i64 0)) b (.slice A l.length C) (Num.setZ (Num.setZ (Num.setM (Num.digB (Num.setA n 2) false) M) Z) 0) := dO hN5 0
       replace hWx := aU (a := ⟨b, 3, none⟩) hWx (by simp; omega) (.int .i64 0)
       replace hTx := hTx.setCell (p := ⟨b, 3, none⟩) (by simp) (.int .i64 0)
       generalize w5.setCell ⟨b, 3, none⟩ (.int .i64 0) = w5 at *
       generalize Num.setZ (Num.setZ (Num.setM (Num.digB (Num.setA n 2) false) M) Z) 0 = n2 at *
       clear hN5 lb
       have hok2 : (n2).Okz := okz.out
       have hwy := fun w h => dW b (.slice A l.length C) (n2) w h hok2
       go_wp2_with fail
       refine (hwy _ hNx).mono ?_
       rintro e w4 ⟨rfl, k4, rfl⟩
       try go_simp
       have hNy : bH (w5.drewN k4) b (.slice A l.length C) (n2) := hNx
       have hWy := bA hWx k4
       have hTy := hTx.drewN k4
       generalize w5.drewN k4 = w6 at *
       clear hwy hok2 hNx hWx hTx
       unfold bH at hNy
       have ⟨c0,c1,c2,c3,c4,c5,c6⟩ := cs7 hNy
       have ⟨f0,f1,f2,f3,f4,f5,f6⟩ := fs7 hNy
       have lb := aB hNy
       try simp [NumC] at c0 c1 c2 c3 c4 c5 c6
       have ⟨d0,d1,d2,d3,d4,d5,d6⟩ := cs7 hWy
       have lB := aB hWy
       try simp [NumC] at d0 d1 d2 d3 d4 d5 d6
       go_wp2
       refine hQ_.ret (results_tmp rfl _ _ _) rfl ?_
       refine cF he.out (dB hs hg ?_ ?_) ?_
       · exact aF (aF (aF (aF (aF (aF (aF hNy 0 _) 1 _) 2 _) 3 _) 4 _) 5 _) 6 _
       · exact ((((((hTy.setCell (by simp) _).setCell (by simp) _).setCell (by simp) _).setCell (by simp) _).setCell (by simp) _).setCell (by simp) _).setCell (by simp) _
       · exact ((((((hTy.setCell (by simp) _).setCell (by simp) _).setCell (by simp) _).setCell (by simp) _).setCell (by simp) _).setCell (by simp) _).setCell (by simp) _
  · obtain ⟨hf1, hf2⟩ := hfig (by omega)
    have okA : (Num.setA n 3).Ok := ⟨hp8, ok.m, Nat.le_trans ok.zeros (by omega), Nat.le_trans ok.behind (by omega), ok.e⟩
    have okA2 : Box ((Num.setA n 3).OkL l.length) := ⟨⟨hp8, ok.m, ok.zeros, ok.behind, ok.e⟩⟩
    have hdg := iY b (.slice A l.length C) (Num.setA n 3) (x.toNat - 48) false W hN2 okA (by omega)
    rw [show ((x.toNat - 48 : Nat) : Int) = (x.toNat : Int) - 48 by omega] at hdg
    clear okA
    cases hD : Num.digit (x.toNat - 48) false (Num.setA n 3) with
    | some n2 =>
     have hfin : Box (Num.push n x.toNat = Num.fin n2) := ⟨Num.push_digit_yes hn.out (by omega) hD⟩
     have okL : Box (n2.OkL (l.length + 1)) := ⟨Num.digit_okL okA2.out (by omega) hD⟩
     go_wp2_with fail
     refine hdg.mono ?_
     rintro e w2 ⟨ht5, hh⟩
     rw [hD] at hh
     rcases hh with ⟨n', e1, rfl, hN5⟩ | ⟨e1, _⟩
     · injection e1 with e1
       subst e1
       clear hD
       try go_simp
       have hNx := hN5
       have hWx := ht5.keep hW (by simp; omega)
       have hTx := hT2.trans ht5
       clear hN2 hW hT2 hfig ht5 hN5 hdg
       have hmy := fun w h => gI b (.slice A l.length C) (n2) w h (okL.out.ok (by omega))
       go_wp2_with fail
       cases hmb : Num.may (n2) with
       | true =>
        rw [hmb] at hmy
        have he : Box (Num.push n x.toNat = .ok (n2)) := ⟨by rw [hfin.out]; unfold Num.fin; rw [if_pos hmb]⟩
        clear hmb
        refine (hmy _ hNx).mono ?_
        rintro e w3 ⟨rfl, ht3⟩
        try go_simp
        have hNy := ht3.keep hNx (by simp)
        have hTy := hTx.trans (ht3.mono (by simp))
        have hs3 := hs.keep hTy (fun k hk => by simpa using hg k hk)
        clear ht3 hNx hWx hTx hmy
        unfold bH at hNy
        have ⟨c0,c1,c2,c3,c4,c5,c6⟩ := cs7 hNy
        have ⟨f0,f1,f2,f3,f4,f5,f6⟩ := fs7 hNy
        have lb := aB hNy
        try simp [NumC] at c0 c1 c2 c3 c4 c5 c6
        go_wp2_with (at_builtin; refine aJ cA rfl (.tmp 83) (.tmp 85) rfl rfl (hs3.keep ((Touch.refl [] _).alloc _) (by simp)) rfl (aX rfl) (by omega) ?_; intro ad1 c1' w4 g1 hs4 ht4 hn4; rw [← cG] at hs4; have hN4 := ht4.keep (aW hNy _) hgl; have q0 := aN hN4 0; have p0 := aQ hN4 0; have q4 := aB hN4; simp [NumC] at q0)
        refine hQ_.ret (results_tmp rfl _ _ _) rfl ?_
        refine dG he.out ⟨aF hN4 0 _, ?_, ?_⟩ (g' := g1) ?_ ?_
        · have := hs4.keep (Touch.setCell (F := [b]) (Touch.refl _ _) (p := ⟨b, 0, none⟩) (by simp) (.slice ad1 (l.length + 1) c1')) (fun k hk => by
           have := bX hn4 hg (by have := hTy.size; have := aB hNy; simp; omega) k hk
           simpa using this)
          rw [List.length_append]
          exact this
        · exact bX hn4 hg (by have := aB hNy; simp; omega)
        · exact cE hn4 (by have := hTy.size; simp; omega)
        · refine Touch.setCell (Touch.step ((hTy.mono (by simp)).alloc _) ht4 (fun k hk => .inl (by simp at hk; simp [hk]))) (by simp) _
       | false =>
        rw [hmb] at hmy
        have he : Box (Num.push n x.toNat = .error (Num.why (n2))) := ⟨by rw [hfin.out]; unfold Num.fin; rw [if_neg (by rw [hmb]; simp)]⟩
        clear hmb
        refine (hmy _ hNx).mono ?_
        rintro e w5 ⟨rfl, ht3⟩
        try go_simp
        replace hNx : bH w5 b (.slice A l.length C) (n2) := ht3.keep hNx (by simp)
        replace hWx := ht3.keep hWx (by simp)
        replace hTx := hTx.trans (ht3.mono (by simp))
        have okz : Box (n2).Okz := ⟨(okL.out.ok (by omega)).z⟩
        clear ht3 hmy
        have hok2 : (n2).Okz := okz.out
        have hwy := fun w h => dW b (.slice A l.length C) (n2) w h hok2
        go_wp2_with fail
        refine (hwy _ hNx).mono ?_
        rintro e w4 ⟨rfl, k4, rfl⟩
        try go_simp
        have hNy : bH (w5.drewN k4) b (.slice A l.length C) (n2) := hNx
        have hWy := bA hWx k4
        have hTy := hTx.drewN k4
        generalize w5.drewN k4 = w6 at *
        clear hwy hok2 hNx hWx hTx
        unfold bH at hNy
        have ⟨c0,c1,c2,c3,c4,c5,c6⟩ := cs7 hNy
        have ⟨f0,f1,f2,f3,f4,f5,f6⟩ := fs7 hNy
        have lb := aB hNy
        try simp [NumC] at c0 c1 c2 c3 c4 c5 c6
        have ⟨d0,d1,d2,d3,d4,d5,d6⟩ := cs7 hWy
        have lB := aB hWy
        try simp [NumC] at d0 d1 d2 d3 d4 d5 d6
        go_wp2
        refine hQ_.ret (results_tmp rfl _ _ _) rfl ?_
        refine cF he.out (dB hs hg ?_ ?_) ?_
        · exact aF (aF (aF (aF (aF (aF (aF hNy 0 _) 1 _) 2 _) 3 _) 4 _) 5 _) 6 _
        · exact ((((((hTy.setCell (by simp) _).setCell (by simp) _).setCell (by simp) _).setCell (by simp) _).setCell (by simp) _).setCell (by simp) _).setCell (by simp) _
        · exact ((((((hTy.setCell (by simp) _).setCell (by simp) _).setCell (by simp) _).setCell (by simp) _).setCell (by simp) _).setCell (by simp) _).setCell (by simp) _
     · cases e1
    | none =>
     have hno := Num.push_digit_no hn.out (by omega) hD
     have hfb := Box.mk (Num.digB_b (Num.setA n 3) false)
     go_wp2_with fail
     refine hdg.mono ?_
     rintro e w5 ⟨ht5, hh⟩
     rw [hD] at hh
     rcases hh with ⟨n', e1, _⟩ | ⟨_, rfl, M, Z, hM, hZ, hN5⟩
     · cases e1
     · have he : Box (Num.push n x.toNat = .error (Num.why (Num.setZ (Num.setZ (Num.setM (Num.digB (Num.setA n 3) false) M) Z) 0))) := ⟨hno M Z⟩
       have okz : Box (Num.setZ (Num.setZ (Num.setM (Num.digB (Num.setA n 3) false) M) Z) 0).Okz := ⟨Nat.zero_le _, by
        have h1 : (Num.setZ (Num.setZ (Num.setM (Num.digB (Num.setA n 3) false) M) Z) 0).behind = (Num.digB (Num.setA n 3) false).behind := rfl
        rw [h1]
        have h2 := hfb.out
        have h3 : (Num.setA n 3).behind = n.behind := rfl
        have := ok.behind
        omega, ok.e⟩
       clear hD hno hfb
       try go_simp
       have hWx := ht5.keep hW (by simp; omega)
       have hTx := hT2.trans ht5
       clear hN2 hW hT2 hfig ht5 hdg
       unfold bH at hN5
       have ⟨c0,c1,c2,c3,c4,c5,c6⟩ := cs7 hN5
       have ⟨f0,f1,f2,f3,f4,f5,f6⟩ := fs7 hN5
       have lb := aB hN5
       try simp [NumC] at c0 c1 c2 c3 c4 c5 c6
       go_upto_region 17 with (fail)
       clear c0 c1 c2 c3 c4 c5 c6 f0 f1 f2 f3 f4 f5 f6
       have hNx : bH (w5.setCell ⟨b, 3, none⟩ (.int .i64 0)) b (.slice A l.length C) (Num.setZ (Num.setZ (Num.setM (Num.digB (Num.setA n 3) false) M) Z) 0) := dO hN5 0
       replace hWx := aU (a := ⟨b, 3, none⟩) hWx (by simp; omega) (.int .i64 0)
       replace hTx := hTx.setCell (p := ⟨b, 3, none⟩) (by simp) (.int .i64 0)
       generalize w5.setCell ⟨b, 3, none⟩ (.int .i64 0) = w5 at *
       generalize Num.setZ (Num.setZ (Num.setM (Num.digB (Num.setA n 3) false) M) Z) 0 = n2 at *
       clear hN5 lb
       have hok2 : (n2).Okz := okz.out
       have hwy := fun w h => dW b (.slice A l.length C) (n2) w h hok2
       go_wp2_with fail
       refine (hwy _ hNx).mono ?_
       rintro e w4 ⟨rfl, k4, rfl⟩
       try go_simp
       have hNy : bH (w5.drewN k4) b (.slice A l.length C) (n2) := hNx
       have hWy := bA hWx k4
       have hTy := hTx.drewN k4
       generalize w5.drewN k4 = w6 at *
       clear hwy hok2 hNx hWx hTx
       unfold bH at hNy
       have ⟨c0,c1,c2,c3,c4,c5,c6⟩ := cs7 hNy
       have ⟨f0,f1,f2,f3,f4,f5,f6⟩ := fs7 hNy
       have lb := aB hNy
       try simp [NumC] at c0 c1 c2 c3 c4 c5 c6
       have ⟨d0,d1,d2,d3,d4,d5,d6⟩ := cs7 hWy
       have lB := aB hWy
       try simp [NumC] at d0 d1 d2 d3 d4 d5 d6
       go_wp2
       refine hQ_.ret (results_tmp rfl _ _ _) rfl ?_
       refine cF he.out (dB hs hg ?_ ?_) ?_
       · exact aF (aF (aF (aF (aF (aF (aF hNy 0 _) 1 _) 2 _) 3 _) 4 _) 5 _) 6 _
       · exact ((((((hTy.setCell (by simp) _).setCell (by simp) _).setCell (by simp) _).setCell (by simp) _).setCell (by simp) _).setCell (by simp) _).setCell (by simp) _
       · exact ((((((hTy.setCell (by simp) _).setCell (by simp) _).setCell (by simp) _).setCell (by simp) _).setCell (by simp) _).setCell (by simp) _).setCell (by simp) _
  · obtain ⟨hf1, hf2⟩ := hfig (by omega)
    have okA : (Num.setA n 5).Ok := ⟨hp8, ok.m, Nat.le_trans ok.zeros (by omega), Nat.le_trans ok.behind (by omega), ok.e⟩
    have okA2 : Box ((Num.setA n 5).OkL l.length) := ⟨⟨hp8, ok.m, ok.zeros, ok.behind, ok.e⟩⟩
    have hdg := iY b (.slice A l.length C) (Num.setA n 5) (x.toNat - 48) true W hN2 okA (by omega)
    rw [show ((x.toNat - 48 : Nat) : Int) = (x.toNat : Int) - 48 by omega] at hdg
    clear okA
    cases hD : Num.digit (x.toNat - 48) true (Num.setA n 5) with
    | some n2 =>
     have hfin : Box (Num.push n x.toNat = Num.fin n2) := ⟨Num.push_digit_yes hn.out (by omega) hD⟩
     have okL : Box (n2.OkL (l.length + 1)) := ⟨Num.digit_okL okA2.out (by omega) hD⟩
     go_wp2_with fail
     refine hdg.mono ?_
     rintro e w2 ⟨ht5, hh⟩
     rw [hD] at hh
     rcases hh with ⟨n', e1, rfl, hN5⟩ | ⟨e1, _⟩
     · injection e1 with e1
       subst e1
       clear hD
       try go_simp
       have hNx := hN5
       have hWx := ht5.keep hW (by simp; omega)
       have hTx := hT2.trans ht5
       clear hN2 hW hT2 hfig ht5 hN5 hdg
       have hmy := fun w h => gI b (.slice A l.length C) (n2) w h (okL.out.ok (by omega))
       go_wp2_with fail
       cases hmb : Num.may (n2) with
       | true =>
        rw [hmb] at hmy
        have he : Box (Num.push n x.toNat = .ok (n2)) := ⟨by rw [hfin.out]; unfold Num.fin; rw [if_pos hmb]⟩
        clear hmb
        refine (hmy _ hNx).mono ?_
        rintro e w3 ⟨rfl, ht3⟩
        try go_simp
        have hNy := ht3.keep hNx (by simp)
        have hTy := hTx.trans (ht3.mono (by simp))
        have hs3 := hs.keep hTy (fun k hk => by simpa using hg k hk)
        clear ht3 hNx hWx hTx hmy
        unfold bH at hNy
        have ⟨c0,c1,c2,c3,c4,c5,c6⟩ := cs7 hNy
        have ⟨f0,f1,f2,f3,f4,f5,f6⟩ := fs7 hNy
        have lb := aB hNy
        try simp [NumC] at c0 c1 c2 c3 c4 c5 c6
        go_wp2_with (at_builtin; refine aJ cA rfl (.tmp 83) (.tmp 85) rfl rfl (hs3.keep ((Touch.refl [] _).alloc _) (by simp)) rfl (aX rfl) (by omega) ?_; intro ad1 c1' w4 g1 hs4 ht4 hn4; rw [← cG] at hs4; have hN4 := ht4.keep (aW hNy _) hgl; have q0 := aN hN4 0; have p0 := aQ hN4 0; have q4 := aB hN4; simp [NumC] at q0)
        refine hQ_.ret (results_tmp rfl _ _ _) rfl ?_
        refine dG he.out ⟨aF hN4 0 _, ?_, ?_⟩ (g' := g1) ?_ ?_
        · have := hs4.keep (Touch.setCell (F := [b]) (Touch.refl _ _) (p := ⟨b, 0, none⟩) (by simp) (.slice ad1 (l.length + 1) c1')) (fun k hk => by
           have := bX hn4 hg (by have := hTy.size; have := aB hNy; simp; omega) k hk
           simpa using this)
          rw [List.length_append]
          exact this
        · exact bX hn4 hg (by have := aB hNy; simp; omega)
        · exact cE hn4 (by have := hTy.size; simp; omega)
        · refine Touch.setCell (Touch.step ((hTy.mono (by simp)).alloc _) ht4 (fun k hk => .inl (by simp at hk; simp [hk]))) (by simp) _
       | false =>
        rw [hmb] at hmy
        have he : Box (Num.push n x.toNat = .error (Num.why (n2))) := ⟨by rw [hfin.out]; unfold Num.fin; rw [if_neg (by rw [hmb]; simp)]⟩
        clear hmb
        refine (hmy _ hNx).mono ?_
        rintro e w5 ⟨rfl, ht3⟩
        try go_simp
        replace hNx : bH w5 b (.slice A l.length C) (n2) := ht3.keep hNx (by simp)
        replace hWx := ht3.keep hWx (by simp)
        replace hTx := hTx.trans (ht3.mono (by simp))
        have okz : Box (n2).Okz := ⟨(okL.out.ok (by omega)).z⟩
        clear ht3 hmy
        have hok2 : (n2).Okz := okz.out
        have hwy := fun w h => dW b (.slice A l.length C) (n2) w h hok2
        go_wp2_with fail
        refine (hwy _ hNx).mono ?_
        rintro e w4 ⟨rfl, k4, rfl⟩
        try go_simp
        have hNy : bH (w5.drewN k4) b (.slice A l.length C) (n2) := hNx
        have hWy := bA hWx k4
        have hTy := hTx.drewN k4
        generalize w5.drewN k4 = w6 at *
        clear hwy hok2 hNx hWx hTx
        unfold bH at hNy
        have ⟨c0,c1,c2,c3,c4,c5,c6⟩ := cs7 hNy
        have ⟨f0,f1,f2,f3,f4,f5,f6⟩ := fs7 hNy
        have lb := aB hNy
        try simp [NumC] at c0 c1 c2 c3 c4 c5 c6
        have ⟨d0,d1,d2,d3,d4,d5,d6⟩ := cs7 hWy
        have lB := aB hWy
        try simp [NumC] at d0 d1 d2 d3 d4 d5 d6
        go_wp2
        refine hQ_.ret (results_tmp rfl _ _ _) rfl ?_
        refine cF he.out (dB hs hg ?_ ?_) ?_
        · exact aF (aF (aF (aF (aF (aF (aF hNy 0 _) 1 _) 2 _) 3 _) 4 _) 5 _) 6 _
        · exact ((((((hTy.setCell (by simp) _).setCell (by simp) _).setCell (by simp) _).setCell (by simp) _).setCell (by simp) _).setCell (by simp) _).setCell (by simp) _
        · exact ((((((hTy.setCell (by simp) _).setCell (by simp) _).setCell (by simp) _).setCell (by simp) _).setCell (by simp) _).setCell (by simp) _).setCell (by simp) _
     · cases e1
    | none =>
     have hno := Num.push_digit_no hn.out (by omega) hD
     have hfb := Box.mk (Num.digB_b (Num.setA n 5) true)
     go_wp2_with fail
     refine hdg.mono ?_
     rintro e w5 ⟨ht5, hh⟩
     rw [hD] at hh
     rcases hh with ⟨n', e1, _⟩ | ⟨_, rfl, M, Z, hM, hZ, hN5⟩
     · cases e1
     · have he : Box (Num.push n x.toNat = .error (Num.why (Num.setZ (Num.setZ (Num.setM (Num.digB (Num.setA n 5) true) M) Z) 0))) := ⟨hno M Z⟩
       have okz : Box (Num.setZ (Num.setZ (Num.setM (Num.digB (Num.setA n 5) true) M) Z) 0).Okz := ⟨Nat.zero_le _, by
        have h1 : (Num.setZ (Num.setZ (Num.setM (Num.digB (Num.setA n 5) true) M) Z) 0).behind = (Num.digB (Num.setA n 5) true).behind := rfl
        rw [h1]
        have h2 := hfb.out
        have h3 : (Num.setA n 5).behind = n.behind := rfl
        have := ok.behind
        omega, ok.e⟩
       clear hD hno hfb
       try go_simp
       have hWx := ht5.keep hW (by simp; omega)
       have hTx := hT2.trans ht5
       clear hN2 hW hT2 hfig ht5 hdg
       unfold bH at hN5
       have ⟨c0,c1,c2,c3,c4,c5,c6⟩ := cs7 hN5
       have ⟨f0,f1,f2,f3,f4,f5,f6⟩ := fs7 hN5
       have lb := aB hN5
       try simp [NumC] at c0 c1 c2 c3 c4 c5 c6
       go_upto_region 17 with (fail)
       clear c0 c1 c2 c3 c4 c5 c6 f0 f1 f2 f3 f4 f5 f6
       have hNx : bH (w5.setCell ⟨b, 3, none⟩ (.int .i64 0)) b (.slice A l.length C) (Num.setZ (Num.setZ (Num.setM (Num.digB (Num.setA n 5) true) M) Z) 0) := dO hN5 0
       replace hWx := aU (a := ⟨b, 3, none⟩) hWx (by simp; omega) (.int .i64 0)
       replace hTx := hTx.setCell (p := ⟨b, 3, none⟩) (by simp) (.int .i64 0)
       generalize w5.setCell ⟨b, 3, none⟩ (.int .i64 0) = w5 at *
       generalize Num.setZ (Num.setZ (Num.setM (Num.digB (Num.setA n 5) true) M) Z) 0 = n2 at *
       clear hN5 lb
       have hok2 : (n2).Okz := okz.out
       have hwy := fun w h => dW b (.slice A l.length C) (n2) w h hok2
       go_wp2_with fail
       refine (hwy _ hNx).mono ?_
       rintro e w4 ⟨rfl, k4, rfl⟩
       try go_simp
       have hNy : bH (w5.drewN k4) b (.slice A l.length C) (n2) := hNx
       have hWy := bA hWx k4
       have hTy := hTx.drewN k4
       generalize w5.drewN k4 = w6 at *
       clear hwy hok2 hNx hWx hTx
       unfold bH at hNy
       have ⟨c0,c1,c2,c3,c4,c5,c6⟩ := cs7 hNy
       have ⟨f0,f1,f2,f3,f4,f5,f6⟩ := fs7 hNy
       have lb := aB hNy
       try simp [NumC] at c0 c1 c2 c3 c4 c5 c6
       have ⟨d0,d1,d2,d3,d4,d5,d6⟩ := cs7 hWy
       have lB := aB hWy
       try simp [NumC] at d0 d1 d2 d3 d4 d5 d6
       go_wp2
       refine hQ_.ret (results_tmp rfl _ _ _) rfl ?_
       refine cF he.out (dB hs hg ?_ ?_) ?_
       · exact aF (aF (aF (aF (aF (aF (aF hNy 0 _) 1 _) 2 _) 3 _) 4 _) 5 _) 6 _
       · exact ((((((hTy.setCell (by simp) _).setCell (by simp) _).setCell (by simp) _).setCell (by simp) _).setCell (by simp) _).setCell (by simp) _).setCell (by simp) _
       · exact ((((((hTy.setCell (by simp) _).setCell (by simp) _).setCell (by simp) _).setCell (by simp) _).setCell (by simp) _).setCell (by simp) _).setCell (by simp) _
  · have e45 : ((x.toNat : Int) == 45) = (x.toNat == 45) := by rw [Bool.eq_iff_iff]; simp; omega
    have hfin : Box (Num.push n x.toNat = Num.fin (Num.setW (Num.setA n 7) (x.toNat == 45))) := ⟨Num.push_sign hn.out⟩
    have okL : Box ((Num.setW (Num.setA n 7) (x.toNat == 45)).OkL (l.length + 1)) := ⟨⟨hp8, ok.m, Nat.le_succ_of_le ok.zeros, Nat.le_succ_of_le ok.behind, ok.e⟩⟩
    unfold bH at hN2
    have ⟨c0,c1,c2,c3,c4,c5,c6⟩ := cs7 hN2
    have ⟨f0,f1,f2,f3,f4,f5,f6⟩ := fs7 hN2
    have lb := aB hN2
    try simp [NumC] at c0 c1 c2 c3 c4 c5 c6
    go_upto_region 17 with (fail)
    clear c0 c1 c2 c3 c4 c5 c6 f0 f1 f2 f3 f4 f5 f6
    have hNx := wH hN2 (x.toNat == 45)
    have hWx := aU (a := ⟨b, 5, none⟩) hW (by simp; omega) (.bool (x.toNat == 45))
    have hTx := hT2.setCell (p := ⟨b, 5, none⟩) (by simp) (.bool (x.toNat == 45))
    clear hN2 hW hT2 hfig e45
    generalize W.setCell ⟨b, 5, none⟩ (.bool (x.toNat == 45)) = W at *
    generalize Num.setW (Num.setA n 7) (x.toNat == 45) = n2 at *
    have hmy := fun w h => gI b (.slice A l.length C) (n2) w h (okL.out.ok (by omega))
    go_wp2_with fail
    cases hmb : Num.may (n2) with
    | true =>
     rw [hmb] at hmy
     have he : Box (Num.push n x.toNat = .ok (n2)) := ⟨by rw [hfin.out]; unfold Num.fin; rw [if_pos hmb]⟩
     clear hmb
     refine (hmy _ hNx).mono ?_
     rintro e w3 ⟨rfl, ht3⟩
     try go_simp
     have hNy := ht3.keep hNx (by simp)
     have hTy := hTx.trans (ht3.mono (by simp))
     have hs3 := hs.keep hTy (fun k hk => by simpa using hg k hk)
     clear ht3 hNx hWx hTx hmy
     unfold bH at hNy
     have ⟨c0,c1,c2,c3,c4,c5,c6⟩ := cs7 hNy
     have ⟨f0,f1,f2,f3,f4,f5,f6⟩ := fs7 hNy
     have lb := aB hNy
     try simp [NumC] at c0 c1 c2 c3 c4 c5 c6
     go_wp2_with (at_builtin; refine aJ cA rfl (.tmp 83) (.tmp 85) rfl rfl (hs3.keep ((Touch.refl [] _).alloc _) (by simp)) rfl (aX rfl) (by omega) ?_; intro ad1 c1' w4 g1 hs4 ht4 hn4; rw [← cG] at hs4; have hN4 := ht4.keep (aW hNy _) hgl; have q0 := aN hN4 0; have p0 := aQ hN4 0; have q4 := aB hN4; simp [NumC] at q0)
     refine hQ_.ret (results_tmp rfl _ _ _) rfl ?_
     refine dG he.out ⟨aF hN4 0 _, ?_, ?_⟩ (g' := g1) ?_ ?_
     · have := hs4.keep (Touch.setCell (F := [b]) (Touch.refl _ _) (p := ⟨b, 0, none⟩) (by simp) (.slice ad1 (l.length + 1) c1')) (fun k hk => by
        have := bX hn4 hg (by have := hTy.size; have := aB hNy; simp; omega) k hk
        simpa using this)
       rw [List.length_append]
       exact this
     · exact bX hn4 hg (by have := aB hNy; simp; omega)
     · exact cE hn4 (by have := hTy.size; simp; omega)
     · refine Touch.setCell (Touch.step ((hTy.mono (by simp)).alloc _) ht4 (fun k hk => .inl (by simp at hk; simp [hk]))) (by simp) _
    | false =>
     rw [hmb] at hmy
     have he : Box (Num.push n x.toNat = .error (Num.why (n2))) := ⟨by rw [hfin.out]; unfold Num.fin; rw [if_neg (by rw [hmb]; simp)]⟩
     clear hmb
     refine (hmy _ hNx).mono ?_
     rintro e w5 ⟨rfl, ht3⟩
     try go_simp
     replace hNx : bH w5 b (.slice A l.length C) (n2) := ht3.keep hNx (by simp)
     replace hWx := ht3.keep hWx (by simp)
     replace hTx := hTx.trans (ht3.mono (by simp))
     have okz : Box (n2).Okz := ⟨(okL.out.ok (by omega)).z⟩
     clear ht3 hmy
     have hok2 : (n2).Okz := okz.out
     have hwy := fun w h => dW b (.slice A l.length C) (n2) w h hok2
     go_wp2_with fail
     refine (hwy _ hNx).mono ?_
     rintro e w4 ⟨rfl, k4, rfl⟩
     try go_simp
     have hNy : bH (w5.drewN k4) b (.slice A l.length C) (n2) := hNx
     have hWy := bA hWx k4
     have hTy := hTx.drewN k4
     generalize w5.drewN k4 = w6 at *
     clear hwy hok2 hNx hWx hTx
     unfold bH at hNy
     have ⟨c0,c1,c2,c3,c4,c5,c6⟩ := cs7 hNy
     have ⟨f0,f1,f2,f3,f4,f5,f6⟩ := fs7 hNy
     have lb := aB hNy
     try simp [NumC] at c0 c1 c2 c3 c4 c5 c6
     have ⟨d0,d1,d2,d3,d4,d5,d6⟩ := cs7 hWy
     have lB := aB hWy
     try simp [NumC] at d0 d1 d2 d3 d4 d5 d6
     go_wp2
     refine hQ_.ret (results_tmp rfl _ _ _) rfl ?_
     refine cF he.out (dB hs hg ?_ ?_) ?_
     · exact aF (aF (aF (aF (aF (aF (aF hNy 0 _) 1 _) 2 _) 3 _) 4 _) 5 _) 6 _
     · exact ((((((hTy.setCell (by simp) _).setCell (by simp) _).setCell (by simp) _).setCell (by simp) _).setCell (by simp) _).setCell (by simp) _).setCell (by simp) _
     · exact ((((((hTy.setCell (by simp) _).setCell (by simp) _).setCell (by simp) _).setCell (by simp) _).setCell (by simp) _).setCell (by simp) _).setCell (by simp) _
  · obtain ⟨hf1, hf2⟩ := hfig (by omega)
    have oe := ok.e
    unfold Num.far at oe
    obtain ⟨E, hE⟩ : ∃ E, E = min (10 * n.e + (x.toNat - 48)) Num.far := ⟨_, rfl⟩
    have hfin : Box (Num.push n x.toNat = Num.fin (Num.setE (Num.setA n 8) E)) := ⟨by rw [hE]; exact Num.push_power hn.out⟩
    have okL : Box ((Num.setE (Num.setA n 8) E).OkL (l.length + 1)) := ⟨⟨hp8, ok.m, Nat.le_succ_of_le ok.zeros, Nat.le_succ_of_le ok.behind, by show E ≤ _; rw [hE]; exact Nat.min_le_right _ _⟩⟩
    unfold bH at hN2
    have ⟨c0,c1,c2,c3,c4,c5,c6⟩ := cs7 hN2
    have ⟨f0,f1,f2,f3,f4,f5,f6⟩ := fs7 hN2
    have lb := aB hN2
    try simp [NumC] at c0 c1 c2 c3 c4 c5 c6
    rw [show (Num.setA n 8).e = n.e from rfl] at c6
    have hmin : min (10 * (n.e : Int) + ((x.toNat : Int) - 48)) 1000000000 = (E : Int) := by rw [hE]; unfold Num.far; omega
    replace hE := Box.mk hE
    go_upto_region 17 with (fail)
    clear c0 c1 c2 c3 c4 c5 c6 f0 f1 f2 f3 f4 f5 f6
    have hNx := wG hN2 E
    have hWx := aU (a := ⟨b, 6, none⟩) hW (by simp; omega) (.int .i64 E)
    have hTx := hT2.setCell (p := ⟨b, 6, none⟩) (by simp) (.int .i64 E)
    clear hN2 hW hT2 hfig hmin hE
    generalize W.setCell ⟨b, 6, none⟩ (.int .i64 E) = W at *
    generalize Num.setE (Num.setA n 8) E = n2 at *
    have hmy := fun w h => gI b (.slice A l.length C) (n2) w h (okL.out.ok (by omega))
    go_wp2_with fail
    cases hmb : Num.may (n2) with
    | true =>
     rw [hmb] at hmy
     have he : Box (Num.push n x.toNat = .ok (n2)) := ⟨by rw [hfin.out]; unfold Num.fin; rw [if_pos hmb]⟩
     clear hmb
     refine (hmy _ hNx).mono ?_
     rintro e w3 ⟨rfl, ht3⟩
     try go_simp
     have hNy := ht3.keep hNx (by simp)
     have hTy := hTx.trans (ht3.mono (by simp))
     have hs3 := hs.keep hTy (fun k hk => by simpa using hg k hk)
     clear ht3 hNx hWx hTx hmy
     unfold bH at hNy
     have ⟨c0,c1,c2,c3,c4,c5,c6⟩ := cs7 hNy
     have ⟨f0,f1,f2,f3,f4,f5,f6⟩ := fs7 hNy
     have lb := aB hNy
     try simp [NumC] at c0 c1 c2 c3 c4 c5 c6
     go_wp2_with (at_builtin; refine aJ cA rfl (.tmp 83) (.tmp 85) rfl rfl (hs3.keep ((Touch.refl [] _).alloc _) (by simp)) rfl (aX rfl) (by omega) ?_; intro ad1 c1' w4 g1 hs4 ht4 hn4; rw [← cG] at hs4; have hN4 := ht4.keep (aW hNy _) hgl; have q0 := aN hN4 0; have p0 := aQ hN4 0; have q4 := aB hN4; simp [NumC] at q0)
     refine hQ_.ret (results_tmp rfl _ _ _) rfl ?_
     refine dG he.out ⟨aF hN4 0 _, ?_, ?_⟩ (g' := g1) ?_ ?_
     · have := hs4.keep (Touch.setCell (F := [b]) (Touch.refl _ _) (p := ⟨b, 0, none⟩) (by simp) (.slice ad1 (l.length + 1) c1')) (fun k hk => by
        have := bX hn4 hg (by have := hTy.size; have := aB hNy; simp; omega) k hk
        simpa using this)
       rw [List.length_append]
       exact this
     · exact bX hn4 hg (by have := aB hNy; simp; omega)
     · exact cE hn4 (by have := hTy.size; simp; omega)
     · refine Touch.setCell (Touch.step ((hTy.mono (by simp)).alloc _) ht4 (fun k hk => .inl (by simp at hk; simp [hk]))) (by simp) _
    | false =>
     rw [hmb] at hmy
     have he : Box (Num.push n x.toNat = .error (Num.why (n2))) := ⟨by rw [hfin.out]; unfold Num.fin; rw [if_neg (by rw [hmb]; simp)]⟩
     clear hmb
     refine (hmy _ hNx).mono ?_
     rintro e w5 ⟨rfl, ht3⟩
     try go_simp
     replace hNx : bH w5 b (.slice A l.length C) (n2) := ht3.keep hNx (by simp)
     replace hWx := ht3.keep hWx (by simp)
     replace hTx := hTx.trans (ht3.mono (by simp))
     have okz : Box (n2).Okz := ⟨(okL.out.ok (by omega)).z⟩
     clear ht3 hmy
     have hok2 : (n2).Okz := okz.out
     have hwy := fun w h => dW b (.slice A l.length C) (n2) w h hok2
     go_wp2_with fail
     refine (hwy _ hNx).mono ?_
     rintro e w4 ⟨rfl, k4, rfl⟩
     try go_simp
     have hNy : bH (w5.drewN k4) b (.slice A l.length C) (n2) := hNx
     have hWy := bA hWx k4
     have hTy := hTx.drewN k4
     generalize w5.drewN k4 = w6 at *
     clear hwy hok2 hNx hWx hTx
     unfold bH at hNy
     have ⟨c0,c1,c2,c3,c4,c5,c6⟩ := cs7 hNy
     have ⟨f0,f1,f2,f3,f4,f5,f6⟩ := fs7 hNy
     have lb := aB hNy
     try simp [NumC] at c0 c1 c2 c3 c4 c5 c6
     have ⟨d0,d1,d2,d3,d4,d5,d6⟩ := cs7 hWy
     have lB := aB hWy
     try simp [NumC] at d0 d1 d2 d3 d4 d5 d6
     go_wp2
     refine hQ_.ret (results_tmp rfl _ _ _) rfl ?_
     refine cF he.out (dB hs hg ?_ ?_) ?_
     · exact aF (aF (aF (aF (aF (aF (aF hNy 0 _) 1 _) 2 _) 3 _) 4 _) 5 _) 6 _
     · exact ((((((hTy.setCell (by simp) _).setCell (by simp) _).setCell (by simp) _).setCell (by simp) _).setCell (by simp) _).setCell (by simp) _).setCell (by simp) _
     · exact ((((((hTy.setCell (by simp) _).setCell (by simp) _).setCell (by simp) _).setCell (by simp) _).setCell (by simp) _).setCell (by simp) _).setCell (by simp) _
  · have e2 : ((p : Int) == 2) = false := by simp; omega
    have e3 : ((p : Int) == 3) = false := by simp; omega
    have e5 : ((p : Int) == 5) = false := by simp; omega
    have e7 : ((p : Int) == 7) = false := by simp; omega
    have e8 : ((p : Int) == 8) = false := by simp; omega
    have hfin : Box (Num.push n x.toNat = Num.fin (Num.setA n p)) := ⟨Num.push_other hn.out (by omega)⟩
    have okL : Box ((Num.setA n p).OkL (l.length + 1)) := ⟨⟨hp8, ok.m, Nat.le_succ_of_le ok.zeros, Nat.le_succ_of_le ok.behind, ok.e⟩⟩
    have hNx := hN2
    have hWx := hW
    have hTx := hT2
    clear hN2 hW hT2 hfig
    have hmy := fun w h => gI b (.slice A l.length C) (Num.setA n p) w h (okL.out.ok (by omega))
    go_wp2_with fail
    cases hmb : Num.may (Num.setA n p) with
    | true =>
     rw [hmb] at hmy
     have he : Box (Num.push n x.toNat = .ok (Num.setA n p)) := ⟨by rw [hfin.out]; unfold Num.fin; rw [if_pos hmb]⟩
     clear hmb
     refine (hmy _ hNx).mono ?_
     rintro e w3 ⟨rfl, ht3⟩
     try go_simp
     have hNy := ht3.keep hNx (by simp)
     have hTy := hTx.trans (ht3.mono (by simp))
     have hs3 := hs.keep hTy (fun k hk => by simpa using hg k hk)
     clear ht3 hNx hWx hTx hmy
     unfold bH at hNy
     have ⟨c0,c1,c2,c3,c4,c5,c6⟩ := cs7 hNy
     have ⟨f0,f1,f2,f3,f4,f5,f6⟩ := fs7 hNy
     have lb := aB hNy
     try simp [NumC] at c0 c1 c2 c3 c4 c5 c6
     go_wp2_with (at_builtin; refine aJ cA rfl (.tmp 83) (.tmp 85) rfl rfl (hs3.keep ((Touch.refl [] _).alloc _) (by simp)) rfl (aX rfl) (by omega) ?_; intro ad1 c1' w4 g1 hs4 ht4 hn4; rw [← cG] at hs4; have hN4 := ht4.keep (aW hNy _) hgl; have q0 := aN hN4 0; have p0 := aQ hN4 0; have q4 := aB hN4; simp [NumC] at q0)
     refine hQ_.ret (results_tmp rfl _ _ _) rfl ?_
     refine dG he.out ⟨aF hN4 0 _, ?_, ?_⟩ (g' := g1) ?_ ?_
     · have := hs4.keep (Touch.setCell (F := [b]) (Touch.refl _ _) (p := ⟨b, 0, none⟩) (by simp) (.slice ad1 (l.length + 1) c1')) (fun k hk => by
        have := bX hn4 hg (by have := hTy.size; have := aB hNy; simp; omega) k hk
        simpa using this)
       rw [List.length_append]
       exact this
     · exact bX hn4 hg (by have := aB hNy; simp; omega)
     · exact cE hn4 (by have := hTy.size; simp; omega)
     · refine Touch.setCell (Touch.step ((hTy.mono (by simp)).alloc _) ht4 (fun k hk => .inl (by simp at hk; simp [hk]))) (by simp) _
    | false =>
     rw [hmb] at hmy
     have he : Box (Num.push n x.toNat = .error (Num.why (Num.setA n p))) := ⟨by rw [hfin.out]; unfold Num.fin; rw [if_neg (by rw [hmb]; simp)]⟩
     clear hmb
     refine (hmy _ hNx).mono ?_
     rintro e w5 ⟨rfl, ht3⟩
     try go_simp
     replace hNx : bH w5 b (.slice A l.length C) (Num.setA n p) := ht3.keep hNx (by simp)
     replace hWx := ht3.keep hWx (by simp)
     replace hTx := hTx.trans (ht3.mono (by simp))
     have okz : Box (Num.setA n p).Okz := ⟨(okL.out.ok (by omega)).z⟩
     clear ht3 hmy
     have hok2 : (Num.setA n p).Okz := okz.out
     have hwy := fun w h => dW b (.slice A l.length C) (Num.setA n p) w h hok2
     go_wp2_with fail
     refine (hwy _ hNx).mono ?_
     rintro e w4 ⟨rfl, k4, rfl⟩
     try go_simp
     have hNy : bH (w5.drewN k4) b (.slice A l.length C) (Num.setA n p) := hNx
     have hWy := bA hWx k4
     have hTy := hTx.drewN k4
     generalize w5.drewN k4 = w6 at *
     clear hwy hok2 hNx hWx hTx
     unfold bH at hNy
     have ⟨c0,c1,c2,c3,c4,c5,c6⟩ := cs7 hNy
     have ⟨f0,f1,f2,f3,f4,f5,f6⟩ := fs7 hNy
     have lb := aB hNy
     try simp [NumC] at c0 c1 c2 c3 c4 c5 c6
     have ⟨d0,d1,d2,d3,d4,d5,d6⟩ := cs7 hWy
     have lB := aB hWy
     try simp [NumC] at d0 d1 d2 d3 d4 d5 d6
     go_wp2
     refine hQ_.ret (results_tmp rfl _ _ _) rfl ?_
     refine cF he.out (dB hs hg ?_ ?_) ?_
     · exact aF (aF (aF (aF (aF (aF (aF hNy 0 _) 1 _) 2 _) 3 _) 4 _) 5 _) 6 _
     · exact ((((((hTy.setCell (by simp) _).setCell (by simp) _).setCell (by simp) _).setCell (by simp) _).setCell (by simp) _).setCell (by simp) _).setCell (by simp) _
     · exact ((((((hTy.setCell (by simp) _).setCell (by simp) _).setCell (by simp) _).setCell (by simp) _).setCell (by simp) _).setCell (by simp) _).setCell (by simp) _
end Go.Proofs.YthdncmagfgoboaaGreatDoor
end
