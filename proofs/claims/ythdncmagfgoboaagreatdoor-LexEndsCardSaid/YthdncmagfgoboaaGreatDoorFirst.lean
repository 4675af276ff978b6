/- Which token begins with a byte, in both texts. -/
import Derived.Test.YthdncmagfgoboaaGreatDoorBase
import Derived.BigGuardPart
import Derived.Outline
namespace Go.Proofs.YthdncmagfgoboaaGreatDoor
open Go.RowKit
set_option maxRecDepth 100000
set_option linter.unusedVariables false
set_option linter.unusedSimpArgs false

def firstF (x : Int) : Int :=
  if x = 110 then 1 else if x = 116 then 2 else if x = 102 then 3 else if x = 45 then 4 else if 48 ≤ x ∧ x ≤ 57 then 4 else if x = 34 then 5
  else if x = 91 then 6 else if x = 93 then 7 else if x = 123 then 8 else if x = 125 then 9 else if x = 58 then 10 else if x = 44 then 11 else 0
def blankF (x : Int) : Bool := x == 32 || x == 10 || x == 13 || x == 9

theorem firstF_0 {x : Int} (h1 : x ≠ 110) (h2 : x ≠ 116) (h3 : x ≠ 102) (h4 : x ≠ 45) (h5 : ¬ (48 ≤ x ∧ x ≤ 57)) (h6 : x ≠ 34) (h7 : x ≠ 91) (h8 : x ≠ 93) (h9 : x ≠ 123) (h10 : x ≠ 125) (h11 : x ≠ 58) (h12 : x ≠ 44) : firstF x = 0 := by
  unfold firstF; simp only [*, if_false, ite_self]

set_option maxHeartbeats 2000000 in
theorem first_any (x : Int) (w : World) : Calls Tryz.prog 81 #[.int .u8 x] w fun e w' => e = .returned (.int .i64 (firstF x)) ∧ w = w' := by
  go_enter Tryz.func81, Tryz.ntmps81
  go_wp2
  all_goals go_ret
  all_goals refine ⟨?_, rfl⟩
  all_goals simp only [beq_iff_eq, beq_eq_false_iff_ne, ne_eq] at *
  all_goals first | (subst x; rfl) | (rw [firstF_0] <;> first | rfl | assumption | omega)

set_option maxHeartbeats 2000000 in
theorem rfirst_any (x : Int) (w : World) : Calls Tryz.prog 19 #[.int .u8 x] w fun e w' => e = .returned (.int .i64 (firstF x)) ∧ w = w' := by
  go_enter Tryz.func19, Tryz.ntmps19
  go_wp2
  all_goals go_ret
  all_goals refine ⟨?_, rfl⟩
  all_goals simp only [beq_iff_eq, beq_eq_false_iff_ne, ne_eq] at *
  all_goals first | (subst x; rfl) | (rw [firstF_0] <;> first | rfl | assumption | omega) | (have e : firstF x = 4 := (by unfold firstF; rw [if_neg (by omega), if_neg (by omega), if_neg (by omega), if_neg (by omega), if_pos (by omega)]); rw [e]; rfl)

theorem blank_any (x : Int) (w : World) : Calls Tryz.prog 82 #[.int .u8 x] w fun e w' => e = .returned (.bool (blankF x)) ∧ w = w' := by
  go_enter Tryz.func82, Tryz.ntmps82
  unfold blankF
  by_cases h1 : x = 32
  · subst h1
    go_wp2
    go_ret
    exact ⟨rfl, rfl⟩
  by_cases h2 : x = 10
  · subst h2
    go_wp2
    go_ret
    exact ⟨rfl, rfl⟩
  by_cases h3 : x = 13
  · subst h3
    go_wp2
    go_ret
    exact ⟨rfl, rfl⟩
  have t1 : (x == 32) = false := by simpa using h1
  have t2 : (x == 10) = false := by simpa using h2
  have t3 : (x == 13) = false := by simpa using h3
  clear h1 h2 h3
  go_wp2
  go_ret
  exact ⟨by simp [t1, t2, t3], rfl⟩
theorem rblank_any (x : Int) (w : World) : Calls Tryz.prog 23 #[.int .u8 x] w fun e w' => e = .returned (.bool (blankF x)) ∧ w = w' := by
  go_enter Tryz.func23, Tryz.ntmps23
  unfold blankF
  by_cases h1 : x = 32
  · subst h1
    go_wp2
    go_ret
    exact ⟨rfl, rfl⟩
  by_cases h2 : x = 10
  · subst h2
    go_wp2
    go_ret
    exact ⟨rfl, rfl⟩
  by_cases h3 : x = 13
  · subst h3
    go_wp2
    go_ret
    exact ⟨rfl, rfl⟩
  have t1 : (x == 32) = false := by simpa using h1
  have t2 : (x == 10) = false := by simpa using h2
  have t3 : (x == 13) = false := by simpa using h3
  clear h1 h2 h3
  go_wp2
  go_ret
  exact ⟨by simp [t1, t2, t3], rfl⟩
end Go.Proofs.YthdncmagfgoboaaGreatDoor
