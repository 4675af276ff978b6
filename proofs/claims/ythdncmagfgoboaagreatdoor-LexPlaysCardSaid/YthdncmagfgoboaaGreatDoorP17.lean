/- One of the texts that lead to the theorem lexPlays.proved: the conditions stand in each theorem. -/
import Derived.Test.YthdncmagfgoboaaGreatDoorP6
import Derived.BigGuardPart
import Derived.Outline
import Derived.Test.YthdncmagfgoboaaGreatDoorP1
import Derived.Laws.BitsAll
import Derived.Laws.Bits
set_option linter.unusedSimpArgs false
set_option linter.unusedVariables false
section
namespace Go.Proofs.YthdncmagfgoboaaGreatDoor
open Go.RowKit
set_option maxRecDepth 100000
def bN (x : Int) : Int :=
 if x = 110 then 1 else if x = 116 then 2 else if x = 102 then 3 else if x = 45 then 4 else if 48 ≤ x ∧ x ≤ 57 then 4 else if x = 34 then 5
 else if x = 91 then 6 else if x = 93 then 7 else if x = 123 then 8 else if x = 125 then 9 else if x = 58 then 10 else if x = 44 then 11 else 0
def cQ (x : Int) : Bool := x == 32 || x == 10 || x == 13 || x == 9
theorem qS {x : Int} (h1 : x ≠ 110) (h2 : x ≠ 116) (h3 : x ≠ 102) (h4 : x ≠ 45) (h5 : ¬ (48 ≤ x ∧ x ≤ 57)) (h6 : x ≠ 34) (h7 : x ≠ 91) (h8 : x ≠ 93) (h9 : x ≠ 123) (h10 : x ≠ 125) (h11 : x ≠ 58) (h12 : x ≠ 44) : bN x = 0 := by
 unfold bN; simp only [*, if_false, ite_self]
set_option maxHeartbeats 2000000 in
theorem eB (x : Int) (w : World) : Calls Tryz.prog 81 #[.int .u8 x] w fun e w' => e = .returned (.int .i64 (bN x)) ∧ w = w' := by
 go_enter Tryz.func81, Tryz.ntmps81
 go_wp2
 all_goals go_ret
 all_goals refine ⟨?_, rfl⟩
 all_goals simp only [beq_iff_eq, beq_eq_false_iff_ne, ne_eq] at *
 all_goals first | (subst x; rfl) | (rw [qS] <;> first | rfl | assumption | omega)
set_option maxHeartbeats 2000000 in
theorem cX (x : Int) (w : World) : Calls Tryz.prog 19 #[.int .u8 x] w fun e w' => e = .returned (.int .i64 (bN x)) ∧ w = w' := by
 go_enter Tryz.func19, Tryz.ntmps19
 go_wp2
 all_goals go_ret
 all_goals refine ⟨?_, rfl⟩
 all_goals simp only [beq_iff_eq, beq_eq_false_iff_ne, ne_eq] at *
 all_goals first | (subst x; rfl) | (rw [qS] <;> first | rfl | assumption | omega) | (have e : bN x = 4 := (by unfold bN; rw [if_neg (by omega), if_neg (by omega), if_neg (by omega), if_neg (by omega), if_pos (by omega)]); rw [e]; rfl)
theorem eC (x : Int) (w : World) : Calls Tryz.prog 82 #[.int .u8 x] w fun e w' => e = .returned (.bool (cQ x)) ∧ w = w' := by
 go_enter Tryz.func82, Tryz.ntmps82
 unfold cQ
 by_cases h1 : x = 32
 · subst h1
   go_wp2
   go_ret
   exact ⟨rfl, rfl⟩
 by_cases h2 : x = 10
 · subst h2
   go_wp2
   go_ret
   exact ⟨rfl, rfl⟩
 by_cases h3 : x = 13
 · subst h3
   go_wp2
   go_ret
   exact ⟨rfl, rfl⟩
 have t1 : (x == 32) = false := by simpa using h1
 have t2 : (x == 10) = false := by simpa using h2
 have t3 : (x == 13) = false := by simpa using h3
 clear h1 h2 h3
 go_wp2
 go_ret
 exact ⟨by simp [t1, t2, t3], rfl⟩
theorem cY (x : Int) (w : World) : Calls Tryz.prog 23 #[.int .u8 x] w fun e w' => e = .returned (.bool (cQ x)) ∧ w = w' := by
 go_enter Tryz.func23, Tryz.ntmps23
 unfold cQ
 by_cases h1 : x = 32
 · subst h1
   go_wp2
   go_ret
   exact ⟨rfl, rfl⟩
 by_cases h2 : x = 10
 · subst h2
   go_wp2
   go_ret
   exact ⟨rfl, rfl⟩
 by_cases h3 : x = 13
 · subst h3
   go_wp2
   go_ret
   exact ⟨rfl, rfl⟩
 have t1 : (x == 32) = false := by simpa using h1
 have t2 : (x == 10) = false := by simpa using h2
 have t3 : (x == 13) = false := by simpa using h3
 clear h1 h2 h3
 go_wp2
 go_ret
 exact ⟨by simp [t1, t2, t3], rfl⟩
end Go.Proofs.YthdncmagfgoboaaGreatDoor
end

section
namespace Go.Proofs.YthdncmagfgoboaaGreatDoor
open Go.RowKit
set_option maxRecDepth 100000
set_option maxHeartbeats 8000000
theorem sis_z (z : Int) (hz : 0 ≤ z) (w : World) : Calls Tryz.prog 141 #[.int .i32 z] w fun e w' => e = .returned (.bool (Sq.isS z.toNat)) ∧ w = w' := by
 refine aA Tryz.func141 rfl ?_
 intro Q_ hQ_
 simp only [Tryz.ntmps141, ents_, Nat.reduceAdd, Nat.reduceSub]
 go_wp2
 all_goals
  refine hQ_.ret (results_tmp rfl _ _ _) rfl ?_
 all_goals refine ⟨?_, rfl⟩
 all_goals refine congrArg Ending.returned (congrArg Value.bool ?_)
 all_goals rw [Bool.eq_iff_iff]
 all_goals simp [Sq.isS]
 all_goals omega
theorem gD (c : Nat) (w : World) : Calls Tryz.prog 114 #[.int .u16 c] w fun e w' => e = .returned (.bool (Sq.high c)) ∧ w = w' := by
 refine aA Tryz.func114 rfl ?_
 intro Q_ hQ_
 simp only [Tryz.ntmps114, ents_, Nat.reduceAdd, Nat.reduceSub]
 go_wp2
 all_goals
  refine hQ_.ret (results_tmp rfl _ _ _) rfl ?_
 all_goals refine ⟨?_, rfl⟩
 all_goals refine congrArg Ending.returned (congrArg Value.bool ?_)
 all_goals rw [Bool.eq_iff_iff]
 all_goals simp [Sq.high]
 all_goals omega
theorem fS (c : Nat) (w : World) : Calls Tryz.prog 137 #[.int .u16 c] w fun e w' => e = .returned (.bool (Sq.low c)) ∧ w = w' := by
 refine aA Tryz.func137 rfl ?_
 intro Q_ hQ_
 simp only [Tryz.ntmps137, ents_, Nat.reduceAdd, Nat.reduceSub]
 go_wp2
 all_goals
  refine hQ_.ret (results_tmp rfl _ _ _) rfl ?_
 all_goals refine ⟨?_, rfl⟩
 all_goals refine congrArg Ending.returned (congrArg Value.bool ?_)
 all_goals rw [Bool.eq_iff_iff]
 all_goals simp [Sq.low]
 all_goals omega
theorem fB (c : Nat) (w : World) : Calls Tryz.prog 98 #[.int .u16 c] w fun e w' => e = .returned (.bool (Sq.high c)) ∧ w = w' := by
 refine aA Tryz.func98 rfl ?_
 intro Q_ hQ_
 simp only [Tryz.ntmps98, ents_, Nat.reduceAdd, Nat.reduceSub]
 go_wp2
 all_goals
  refine hQ_.ret (results_tmp rfl _ _ _) rfl ?_
 all_goals refine ⟨?_, rfl⟩
 all_goals refine congrArg Ending.returned (congrArg Value.bool ?_)
 all_goals rw [Bool.eq_iff_iff]
 all_goals simp [Sq.high]
 all_goals omega
theorem pQ (c : Nat) (w : World) : Calls Tryz.prog 126 #[.int .u16 c] w fun e w' => e = .returned (.bool (Sq.low c)) ∧ w = w' := by
 refine aA Tryz.func126 rfl ?_
 intro Q_ hQ_
 simp only [Tryz.ntmps126, ents_, Nat.reduceAdd, Nat.reduceSub]
 go_wp2
 all_goals
  refine hQ_.ret (results_tmp rfl _ _ _) rfl ?_
 all_goals refine ⟨?_, rfl⟩
 all_goals refine congrArg Ending.returned (congrArg Value.bool ?_)
 all_goals rw [Bool.eq_iff_iff]
 all_goals simp [Sq.low]
 all_goals omega
theorem ris_z (z : Int) (hz : 0 ≤ z) (w : World) : Calls Tryz.prog 72 #[.int .i32 z] w fun e w' => e = .returned (.bool (Sq.isS z.toNat)) ∧ w = w' := by
 refine aA Tryz.func72 rfl ?_
 intro Q_ hQ_
 simp only [Tryz.ntmps72, ents_, Nat.reduceAdd, Nat.reduceSub]
 go_wp2
 all_goals
  refine hQ_.ret (results_tmp rfl _ _ _) rfl ?_
 all_goals refine ⟨?_, rfl⟩
 all_goals refine congrArg Ending.returned (congrArg Value.bool ?_)
 all_goals rw [Bool.eq_iff_iff]
 all_goals simp [Sq.isS]
 all_goals omega
theorem wX (a b : Nat) (ha : a < 2147483648) (hb : b < 2147483648) : bits .and .i32 (a : Int) (b : Int) = ((a &&& b : Nat) : Int) := (bits_nat .i32 31 (by decide) wraps_i32 a b ha hb).1
theorem uZ (c : Nat) : c &&& 65534 = c % 65536 / 2 * 2 := by
 have h1 : c &&& 65534 = (c &&& 65535) &&& 65534 := by rw [Nat.and_assoc]; rfl
 rw [h1, Nat.and_two_pow_sub_one_eq_mod c 16]
 have h2 : ∀ y : Nat, y < 2 ^ 16 → y &&& 65534 = y / 2 * 2 := by
  intro y hy
  apply Nat.eq_of_testBit_eq
  intro i
  rw [Nat.testBit_and]
  cases i with
  | zero => simp [Nat.testBit_zero, Nat.mul_mod_left]
  | succ i =>
   rw [Nat.testBit_succ, Nat.testBit_succ, Nat.testBit_succ, Nat.mul_div_left _ (by decide), show 65534 / 2 = 2 ^ 15 - 1 from rfl, Nat.testBit_two_pow_sub_one]
   by_cases hi : i < 15
   · simp [hi]
   · simp [hi]
     apply Nat.testBit_lt_two_pow
     have : y / 2 < 2 ^ 15 := by omega
     exact Nat.lt_of_lt_of_le this (Nat.pow_le_pow_right (by decide) (by omega))
 exact h2 _ (Nat.mod_lt _ (by decide))
theorem xT (c : Nat) (h : c < 2147483648) : bits .and .i32 (c : Int) 65534 = ((c % 65536 / 2 * 2 : Nat) : Int) := by
 rw [← uZ]; exact wX c 65534 h (by decide)
theorem wW (c : Nat) (h : c < 2147483648) : bits .or .i32 128 (bits .and .i32 (c : Int) 63) = ((128 + c % 64 : Nat) : Int) := by
 have h1 : bits .and .i32 (c : Int) 63 = ((c % 64 : Nat) : Int) := by
  have := bits_mask .i32 31 (by decide) wraps_i32 6 (by decide) c (by omega) (by omega)
  simpa using this
 rw [h1]
 have h2 := bits_join .i32 31 (by decide) wraps_i32 6 128 ((c % 64 : Nat) : Int) (by decide) (by decide) (by decide) (by omega) (by omega) (by omega)
 rw [h2]; omega
theorem lM (a y : Nat) (k : Nat) (ha : a % 2 ^ k = 0) (hy : y < 2 ^ k) (ha1 : a < 2 ^ 31) (hy1 : y < 2 ^ 31): bits .or .i32 (a : Int) (y : Int) = ((a + y : Nat) : Int) := by
 have h2 := bits_join .i32 31 (by decide) wraps_i32 k (a : Int) (y : Int) (by omega) (by exact_mod_cast ha) (by exact_mod_cast ha1) (by omega) (by exact_mod_cast hy) (by exact_mod_cast hy1)
 rw [h2]; omega
theorem hI (z : Int) (hz : 0 ≤ z) (hc : z < 2147483648) (w : World) : Calls Tryz.prog 116 #[.int .i32 z] w fun e w' => e = .returned (.bool (Sq.non z.toNat)) ∧ w = w' := by
 have hf := xT z.toNat (by omega)
 rw [Int.toNat_of_nonneg hz] at hf
 have hf2 : ((z.toNat % 65536 / 2 * 2 : Nat) : Int) = z % 65536 / 2 * 2 := by omega
 rw [hf2] at hf
 clear hf2
 have h0 : Sq.non z.toNat = ((decide (64976 ≤ z) && decide (z ≤ 65007)) || (Sq.isS z.toNat && decide (65534 ≤ z % 65536))) := by
  unfold Sq.non
  rw [show decide (64976 ≤ z.toNat) = decide (64976 ≤ z) from decide_eq_decide.2 (by omega), show decide (z.toNat ≤ 65007) = decide (z ≤ 65007) from decide_eq_decide.2 (by omega), show decide (65534 ≤ z.toNat % 65536) = decide (65534 ≤ z % 65536) from decide_eq_decide.2 (by omega)]
 rw [h0]
 clear h0
 have his := fun w => sis_z z hz w
 generalize Sq.isS z.toNat = s at his ⊢
 cases s
 all_goals
  by_cases h1 : 64976 ≤ z <;> by_cases h2 : z ≤ 65007
  all_goals
   refine aA Tryz.func116 rfl ?_
   intro Q_ hQ_
   simp only [Tryz.ntmps116, ents_, Nat.reduceAdd, Nat.reduceSub]
   go_wp2_with fail
   try (refine (his _).mono ?_; rintro e w1 ⟨rfl, rfl⟩; try go_simp; go_wp2)
   refine hQ_.ret (results_tmp rfl _ _ _) rfl ?_
   refine ⟨congrArg Ending.returned (congrArg Value.bool ?_), rfl⟩
   rw [Bool.eq_iff_iff]
   simp [h1, h2]
   try (have hq := Int.emod_nonneg z (show (65536 : Int) ≠ 0 by decide); omega)
theorem eZ (z : Int) (hz : 0 ≤ z) (hc : z < 2147483648) (w : World) : Calls Tryz.prog 74 #[.int .i32 z] w fun e w' => e = .returned (.bool (Sq.non z.toNat)) ∧ w = w' := by
 have h0 : Sq.non z.toNat = ((decide (64976 ≤ z) && decide (z ≤ 65007)) || (Sq.isS z.toNat && decide (65534 ≤ z % 65536))) := by
  unfold Sq.non
  rw [show decide (64976 ≤ z.toNat) = decide (64976 ≤ z) from decide_eq_decide.2 (by omega), show decide (z.toNat ≤ 65007) = decide (z ≤ 65007) from decide_eq_decide.2 (by omega), show decide (65534 ≤ z.toNat % 65536) = decide (65534 ≤ z % 65536) from decide_eq_decide.2 (by omega)]
 rw [h0]
 clear h0
 have his := fun w => ris_z z hz w
 generalize Sq.isS z.toNat = s at his ⊢
 cases s
 all_goals
  by_cases h1 : 64976 ≤ z <;> by_cases h2 : z ≤ 65007
  all_goals
   refine aA Tryz.func74 rfl ?_
   intro Q_ hQ_
   simp only [Tryz.ntmps74, ents_, Nat.reduceAdd, Nat.reduceSub]
   go_wp2_with fail
   try (refine (his _).mono ?_; rintro e w1 ⟨rfl, rfl⟩; try go_simp; go_wp2)
   refine hQ_.ret (results_tmp rfl _ _ _) rfl ?_
   refine ⟨congrArg Ending.returned (congrArg Value.bool ?_), rfl⟩
   rw [Bool.eq_iff_iff]
   simp [h1, h2]
   try (have hq := Int.emod_nonneg z (show (65536 : Int) ≠ 0 by decide); omega)
end Go.Proofs.YthdncmagfgoboaaGreatDoor
end
