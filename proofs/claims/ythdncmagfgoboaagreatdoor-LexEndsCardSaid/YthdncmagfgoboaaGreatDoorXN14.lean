/- Printed by program out of the translation. Not trusted: Lean checks it. -/
import Derived.Test.YthdncmagfgoboaaGreatDoorXN10
namespace Go.Proofs.YthdncmagfgoboaaGreatDoor.XN1
open Go.RowKit Go.Proofs.YthdncmagfgoboaaGreatDoorW.PrintWords Go.Proofs.YthdncmagfgoboaaGreatDoorW.PrintLast Go.Proofs.YthdncmagfgoboaaGreatDoorW.PrintMore
attribute [local go_sem] max2_int min2_int max_two min_two max_three min_three max_four min_four   -- for this text's walks alone
set_option linter.unusedVariables false
set_option linter.unusedSimpArgs false

/-! ### number_next: function 77 -/
mutual
def number_next.j0 : Nat → Int → Int → Bool → Option (Int × Bool)
  | 0, _, _, _ => none
  | k + 1, x0, x1, x6 => if x0 = 0 then (if x1 = 45 then (some (1, true)) else (if x1 = 48 then (some (2, true)) else (some (3, x6)))) else (if x0 = 1 then (if x1 = 48 then (some (2, true)) else (some (3, x6))) else (if x0 = 3 then (if x6 = true then (some (3, true)) else (if x1 = 46 then (some (4, true)) else (if x1 = 101 then (some (6, true)) else (some (6, (x1 == 69)))))) else (if x0 = 2 then (if x1 = 46 then (some (4, true)) else (if x1 = 101 then (some (6, true)) else (some (6, (x1 == 69))))) else (if x0 = 5 then (if x1 = 101 then (number_next.j1 k x6 true) else (number_next.j1 k x6 (x1 == 69))) else (if x0 = 4 then (some (5, x6)) else (if x0 = 6 then (if x1 = 45 then (some (7, true)) else (if x1 = 43 then (some (7, true)) else (some (8, x6)))) else (some (8, x6))))))))
def number_next.j1 : Nat → Bool → Bool → Option (Int × Bool)
  | 0, _, _ => none
  | k + 1, x6, x47 => if x47 = true then (some (6, true)) else (some (5, x6))
end
def number_next.f (k : Nat) (a0 : Int) (a1 : Int) : Option (Int × Bool) := if a1 ≥ 48 then (number_next.j0 k a0 a1 (decide (a1 ≤ 57))) else (number_next.j0 k a0 a1 false)
theorem number_next.mono_l : ∀ k, (∀ y0 y1 y2, LeO (number_next.j0 k y0 y1 y2) (number_next.j0 (k + 1) y0 y1 y2)) ∧ (∀ y0 y1, LeO (number_next.j1 k y0 y1) (number_next.j1 (k + 1) y0 y1))
  | 0 => ⟨fun _ _ _ r h => by simp [number_next.j0] at h, fun _ _ r h => by simp [number_next.j1] at h⟩
  | k + 1 => by
    obtain ⟨ih0, ih1⟩ := number_next.mono_l k
    refine ⟨?_, ?_⟩
    · intro y0 y1 y2
      unfold number_next.j0
      repeat' first
      | (with_reducible exact ih0 _ _ _)
      | (with_reducible exact ih1 _ _)
      | (with_reducible exact LeO.refl _)
      | (with_reducible exact LeO.none _)
      | (with_reducible refine LeO.ite ?_ ?_)
      | (with_reducible refine LeO.bind ?_ (fun _ => ?_))
      | exact ih0 _ _ _
      | exact ih1 _ _
      | exact LeO.none _
      | refine LeO.ite ?_ ?_
      | refine LeO.bind ?_ (fun _ => ?_)
    · intro y0 y1
      unfold number_next.j1
      repeat' first
      | (with_reducible exact ih0 _ _ _)
      | (with_reducible exact ih1 _ _)
      | (with_reducible exact LeO.refl _)
      | (with_reducible exact LeO.none _)
      | (with_reducible refine LeO.ite ?_ ?_)
      | (with_reducible refine LeO.bind ?_ (fun _ => ?_))
      | exact ih0 _ _ _
      | exact ih1 _ _
      | exact LeO.none _
      | refine LeO.ite ?_ ?_
      | refine LeO.bind ?_ (fun _ => ?_)
theorem number_next.mono : ∀ a0 a1 k, LeO (number_next.f k a0 a1) (number_next.f (k + 1) a0 a1) := by
  intro a0 a1 k
  obtain ⟨ih0, ih1⟩ := number_next.mono_l k
  unfold number_next.f
  repeat' first
      | (with_reducible exact ih0 _ _ _)
      | (with_reducible exact ih1 _ _)
      | (with_reducible exact LeO.refl _)
      | (with_reducible exact LeO.none _)
      | (with_reducible refine LeO.ite ?_ ?_)
      | (with_reducible refine LeO.bind ?_ (fun _ => ?_))
      | exact ih0 _ _ _
      | exact ih1 _ _
      | exact LeO.none _
      | refine LeO.ite ?_ ?_
      | refine LeO.bind ?_ (fun _ => ?_)
set_option maxHeartbeats 8000000 in
set_option maxRecDepth 100000 in
theorem number_next.calls (k : Nat) (a0 : Int) (a1 : Int) (r1 : Int) (r2 : Bool) (w : World) (h : number_next.f k a0 a1 = some (r1, r2)) :
    Calls Tryz.prog 77 #[.int .i64 a0, .int .u8 a1] w fun e w' => e = .returned (.tuple #[.int .i64 r1, .bool r2]) ∧ Drawn0 w w' := by
  have H : (if a1 ≥ 48 then (number_next.j0 k a0 a1 (decide (a1 ≤ 57))) else (number_next.j0 k a0 a1 false)) = some (r1, r2) := h
  clear h
  have HC3 := Aside0.mk H
  clear H
  go_enter Tryz.func77, Tryz.ntmps77
  go_upto_region 1 with (fail)
  go_cut [6] (fun v6 wc => ∃ (kq : Nat) (x6_2 : Bool), v6 = .bool x6_2 ∧ Aside0 (number_next.j0 kq a0 a1 x6_2 = some (r1, r2)) ∧ Aside0 (kq ≤ k) ∧ Drawn0 w wc)
  case first =>
    have H := HC3.out
    clear HC3
    by_cases c4 : a1 ≥ 48
    · rw [if_pos c4] at H
      have c4b0 : decide (48 ≤ a1) = true := decide_eq_true c4
      clear c4
      (first | rw [c4b0] | (simp only [i64_w, i32_w]; rw [c4b0]) | skip)
      have H' := Aside0.mk H
      clear H
      go_wp2
      go_meet
      case rel => exact ⟨_, (decide (a1 ≤ 57)), (by first | rfl | (simp; done) | (simp [*]; done)), H', ⟨by first | omega | exact Nat.le_refl _⟩, by repeat (first | exact Drawn0.refl _ | apply Drawn0.step)⟩
    · rw [if_neg c4] at H
      have c4b0 : decide (48 ≤ a1) = false := decide_eq_false c4
      clear c4
      (first | rw [c4b0] | (simp only [i64_w, i32_w]; rw [c4b0]) | skip)
      have H' := Aside0.mk H
      clear H
      go_wp2
      go_meet
      case rel => exact ⟨_, (false), (by first | rfl | (simp; done) | (simp [*]; done)), H', ⟨by first | omega | exact Nat.le_refl _⟩, by repeat (first | exact Drawn0.refl _ | apply Drawn0.step)⟩
  case rest =>
    clear HC3
    try clear p2
    try clear c4
    try clear c4b0
    obtain ⟨kq, x6_2, rfl, HA, HJ2, ⟨mc2, rfl⟩⟩ := hcut
    cases kq with
    | zero => exact absurd HA.out (by simp [number_next.j0])
    | succ kj2 =>
      have H := HA.out
      clear HA
      simp only [number_next.j0] at H
      by_cases c5 : a0 = 0
      · rw [if_pos c5] at H
        have c5b0 : (a0 == 0) = true := beq_iff_eq.mpr c5
        have c5b1 : (a0 != 0) = false := bne_eq_false_iff_eq.mpr c5
        clear c5
        by_cases c6 : a1 = 45
        · rw [if_pos c6] at H
          have c6b0 : (a1 == 45) = true := beq_iff_eq.mpr c6
          have c6b1 : (a1 != 45) = false := bne_eq_false_iff_eq.mpr c6
          clear c6
          simp only [Option.some.injEq, Prod.mk.injEq] at H
          obtain ⟨rfl, rfl⟩ := H
          go_wp2
          go_ret2
          exact ⟨by first | rfl | (simp; done) | (simp [*]; done), by repeat (first | exact Drawn0.refl _ | apply Drawn0.step)⟩
        · rw [if_neg c6] at H
          have c6b0 : (a1 == 45) = false := beq_eq_false_iff_ne.mpr c6
          have c6b1 : (a1 != 45) = true := bne_iff_ne.mpr c6
          by_cases c7 : a1 = 48
          · rw [if_pos c7] at H
            have c7b0 : (a1 == 48) = true := beq_iff_eq.mpr c7
            have c7b1 : (a1 != 48) = false := bne_eq_false_iff_eq.mpr c7
            clear c7
            simp only [Option.some.injEq, Prod.mk.injEq] at H
            obtain ⟨rfl, rfl⟩ := H
            go_wp2
            go_ret2
            exact ⟨by first | rfl | (simp; done) | (simp [*]; done), by repeat (first | exact Drawn0.refl _ | apply Drawn0.step)⟩
          · rw [if_neg c7] at H
            have c7b0 : (a1 == 48) = false := beq_eq_false_iff_ne.mpr c7
            have c7b1 : (a1 != 48) = true := bne_iff_ne.mpr c7
            simp only [Option.some.injEq, Prod.mk.injEq] at H
            obtain ⟨rfl, rfl⟩ := H
            go_wp2
            go_ret2
            exact ⟨by first | rfl | (simp; done) | (simp [*]; done), by repeat (first | exact Drawn0.refl _ | apply Drawn0.step)⟩
      · rw [if_neg c5] at H
        have c5b0 : (a0 == 0) = false := beq_eq_false_iff_ne.mpr c5
        have c5b1 : (a0 != 0) = true := bne_iff_ne.mpr c5
        by_cases c8 : a0 = 1
        · rw [if_pos c8] at H
          have c8b0 : (a0 == 1) = true := beq_iff_eq.mpr c8
          have c8b1 : (a0 != 1) = false := bne_eq_false_iff_eq.mpr c8
          clear c8
          by_cases c9 : a1 = 48
          · rw [if_pos c9] at H
            have c9b0 : (a1 == 48) = true := beq_iff_eq.mpr c9
            have c9b1 : (a1 != 48) = false := bne_eq_false_iff_eq.mpr c9
            clear c9
            simp only [Option.some.injEq, Prod.mk.injEq] at H
            obtain ⟨rfl, rfl⟩ := H
            go_wp2
            go_ret2
            exact ⟨by first | rfl | (simp; done) | (simp [*]; done), by repeat (first | exact Drawn0.refl _ | apply Drawn0.step)⟩
          · rw [if_neg c9] at H
            have c9b0 : (a1 == 48) = false := beq_eq_false_iff_ne.mpr c9
            have c9b1 : (a1 != 48) = true := bne_iff_ne.mpr c9
            simp only [Option.some.injEq, Prod.mk.injEq] at H
            obtain ⟨rfl, rfl⟩ := H
            go_wp2
            go_ret2
            exact ⟨by first | rfl | (simp; done) | (simp [*]; done), by repeat (first | exact Drawn0.refl _ | apply Drawn0.step)⟩
        · rw [if_neg c8] at H
          have c8b0 : (a0 == 1) = false := beq_eq_false_iff_ne.mpr c8
          have c8b1 : (a0 != 1) = true := bne_iff_ne.mpr c8
          by_cases c10 : a0 = 3
          · rw [if_pos c10] at H
            have c10b0 : (a0 == 3) = true := beq_iff_eq.mpr c10
            have c10b1 : (a0 != 3) = false := bne_eq_false_iff_eq.mpr c10
            clear c10
            by_cases c11 : x6_2 = true
            · subst c11
              have H1 : (some (3, true)) = some (r1, r2) := by rw [if_pos rfl] at H; exact H
              clear H
              have H := H1
              clear H1
              simp only [Option.some.injEq, Prod.mk.injEq] at H
              obtain ⟨rfl, rfl⟩ := H
              go_wp2
              go_ret2
              exact ⟨by first | rfl | (simp; done) | (simp [*]; done), by repeat (first | exact Drawn0.refl _ | apply Drawn0.step)⟩
            · replace c11 := Bool.eq_false_iff.mpr c11
              subst c11
              have H1 : (if a1 = 46 then (some (4, true)) else (if a1 = 101 then (some (6, true)) else (some (6, (a1 == 69))))) = some (r1, r2) := by rw [if_neg (show ¬ (false = true) by decide)] at H; exact H
              clear H
              have H := H1
              clear H1
              by_cases c12 : a1 = 46
              · rw [if_pos c12] at H
                have c12b0 : (a1 == 46) = true := beq_iff_eq.mpr c12
                have c12b1 : (a1 != 46) = false := bne_eq_false_iff_eq.mpr c12
                clear c12
                simp only [Option.some.injEq, Prod.mk.injEq] at H
                obtain ⟨rfl, rfl⟩ := H
                go_wp2
                go_ret2
                exact ⟨by first | rfl | (simp; done) | (simp [*]; done), by repeat (first | exact Drawn0.refl _ | apply Drawn0.step)⟩
              · rw [if_neg c12] at H
                have c12b0 : (a1 == 46) = false := beq_eq_false_iff_ne.mpr c12
                have c12b1 : (a1 != 46) = true := bne_iff_ne.mpr c12
                by_cases c13 : a1 = 101
                · rw [if_pos c13] at H
                  have c13b0 : (a1 == 101) = true := beq_iff_eq.mpr c13
                  have c13b1 : (a1 != 101) = false := bne_eq_false_iff_eq.mpr c13
                  clear c13
                  simp only [Option.some.injEq, Prod.mk.injEq] at H
                  obtain ⟨rfl, rfl⟩ := H
                  go_wp2
                  go_ret2
                  exact ⟨by first | rfl | (simp; done) | (simp [*]; done), by repeat (first | exact Drawn0.refl _ | apply Drawn0.step)⟩
                · rw [if_neg c13] at H
                  have c13b0 : (a1 == 101) = false := beq_eq_false_iff_ne.mpr c13
                  have c13b1 : (a1 != 101) = true := bne_iff_ne.mpr c13
                  simp only [Option.some.injEq, Prod.mk.injEq] at H
                  obtain ⟨rfl, rfl⟩ := H
                  go_wp2
                  go_ret2
                  exact ⟨by first | rfl | (simp; done) | (simp [*]; done), by repeat (first | exact Drawn0.refl _ | apply Drawn0.step)⟩
          · rw [if_neg c10] at H
            have c10b0 : (a0 == 3) = false := beq_eq_false_iff_ne.mpr c10
            have c10b1 : (a0 != 3) = true := bne_iff_ne.mpr c10
            by_cases c14 : a0 = 2
            · rw [if_pos c14] at H
              have c14b0 : (a0 == 2) = true := beq_iff_eq.mpr c14
              have c14b1 : (a0 != 2) = false := bne_eq_false_iff_eq.mpr c14
              clear c14
              by_cases c15 : a1 = 46
              · rw [if_pos c15] at H
                have c15b0 : (a1 == 46) = true := beq_iff_eq.mpr c15
                have c15b1 : (a1 != 46) = false := bne_eq_false_iff_eq.mpr c15
                clear c15
                simp only [Option.some.injEq, Prod.mk.injEq] at H
                obtain ⟨rfl, rfl⟩ := H
                go_wp2
                go_ret2
                exact ⟨by first | rfl | (simp; done) | (simp [*]; done), by repeat (first | exact Drawn0.refl _ | apply Drawn0.step)⟩
              · rw [if_neg c15] at H
                have c15b0 : (a1 == 46) = false := beq_eq_false_iff_ne.mpr c15
                have c15b1 : (a1 != 46) = true := bne_iff_ne.mpr c15
                by_cases c16 : a1 = 101
                · rw [if_pos c16] at H
                  have c16b0 : (a1 == 101) = true := beq_iff_eq.mpr c16
                  have c16b1 : (a1 != 101) = false := bne_eq_false_iff_eq.mpr c16
                  clear c16
                  simp only [Option.some.injEq, Prod.mk.injEq] at H
                  obtain ⟨rfl, rfl⟩ := H
                  go_wp2
                  go_ret2
                  exact ⟨by first | rfl | (simp; done) | (simp [*]; done), by repeat (first | exact Drawn0.refl _ | apply Drawn0.step)⟩
                · rw [if_neg c16] at H
                  have c16b0 : (a1 == 101) = false := beq_eq_false_iff_ne.mpr c16
                  have c16b1 : (a1 != 101) = true := bne_iff_ne.mpr c16
                  simp only [Option.some.injEq, Prod.mk.injEq] at H
                  obtain ⟨rfl, rfl⟩ := H
                  go_wp2
                  go_ret2
                  exact ⟨by first | rfl | (simp; done) | (simp [*]; done), by repeat (first | exact Drawn0.refl _ | apply Drawn0.step)⟩
            · rw [if_neg c14] at H
              have c14b0 : (a0 == 2) = false := beq_eq_false_iff_ne.mpr c14
              have c14b1 : (a0 != 2) = true := bne_iff_ne.mpr c14
              by_cases c17 : a0 = 5
              · rw [if_pos c17] at H
                have c17b0 : (a0 == 5) = true := beq_iff_eq.mpr c17
                have c17b1 : (a0 != 5) = false := bne_eq_false_iff_eq.mpr c17
                clear c17
                have HC18 := Aside0.mk H
                clear H
                go_upto_region 20 with (fail)
                go_cut [47] (fun v47 wc => ∃ (kq : Nat) (x47_17 : Bool), v47 = .bool x47_17 ∧ Aside0 (number_next.j1 kq x6_2 x47_17 = some (r1, r2)) ∧ Aside0 (kq ≤ kj2) ∧ Drawn0 w wc)
                case first =>
                  have H := HC18.out
                  clear HC18
                  by_cases c19 : a1 = 101
                  · rw [if_pos c19] at H
                    have c19b0 : (a1 == 101) = true := beq_iff_eq.mpr c19
                    have c19b1 : (a1 != 101) = false := bne_eq_false_iff_eq.mpr c19
                    clear c19
                    (first | rw [c19b0] | (simp only [i64_w, i32_w]; rw [c19b0]) | skip)
                    have H' := Aside0.mk H
                    clear H
                    go_wp2
                    go_meet
                    case rel => exact ⟨_, (true), (by first | rfl | (simp; done) | (simp [*]; done)), H', ⟨by have := HJ2.out; first | omega | exact Nat.le_refl _⟩, by repeat (first | exact Drawn0.refl _ | apply Drawn0.step)⟩
                  · rw [if_neg c19] at H
                    have c19b0 : (a1 == 101) = false := beq_eq_false_iff_ne.mpr c19
                    have c19b1 : (a1 != 101) = true := bne_iff_ne.mpr c19
                    (first | rw [c19b0] | (simp only [i64_w, i32_w]; rw [c19b0]) | skip)
                    have H' := Aside0.mk H
                    clear H
                    go_wp2
                    go_meet
                    case rel => exact ⟨_, ((a1 == 69)), (by first | rfl | (simp; done) | (simp [*]; done)), H', ⟨by have := HJ2.out; first | omega | exact Nat.le_refl _⟩, by repeat (first | exact Drawn0.refl _ | apply Drawn0.step)⟩
                case rest =>
                  clear HC18
                  try clear c1
                  try clear c2
                  try clear p2
                  try clear c4
                  try clear c4b0
                  try clear c5
                  try clear c5b0
                  try clear c5b1
                  try clear c6
                  try clear c6b0
                  try clear c6b1
                  try clear c7
                  try clear c7b0
                  try clear c7b1
                  try clear c8
                  try clear c8b0
                  try clear c8b1
                  try clear c9
                  try clear c9b0
                  try clear c9b1
                  try clear c10
                  try clear c10b0
                  try clear c10b1
                  try clear c11
                  try clear c12
                  try clear c12b0
                  try clear c12b1
                  try clear c13
                  try clear c13b0
                  try clear c13b1
                  try clear c14
                  try clear c14b0
                  try clear c14b1
                  try clear c15
                  try clear c15b0
                  try clear c15b1
                  try clear c16
                  try clear c16b0
                  try clear c16b1
                  try clear c17
                  try clear c17b0
                  try clear c17b1
                  try clear c19
                  try clear c19b0
                  try clear c19b1
                  try clear p2
                  obtain ⟨kq, x47_17, rfl, HA, HJ17, ⟨mc17, rfl⟩⟩ := hcut
                  cases kq with
                  | zero => exact absurd HA.out (by simp [number_next.j1])
                  | succ kj17 =>
                    have H := HA.out
                    clear HA
                    simp only [number_next.j1] at H
                    by_cases c20 : x47_17 = true
                    · subst c20
                      have H1 : (some (6, true)) = some (r1, r2) := by rw [if_pos rfl] at H; exact H
                      clear H
                      have H := H1
                      clear H1
                      simp only [Option.some.injEq, Prod.mk.injEq] at H
                      obtain ⟨rfl, rfl⟩ := H
                      go_wp2
                      go_ret2
                      exact ⟨by first | rfl | (simp; done) | (simp [*]; done), by repeat (first | exact Drawn0.refl _ | apply Drawn0.step)⟩
                    · replace c20 := Bool.eq_false_iff.mpr c20
                      subst c20
                      have H1 : (some (5, x6_2)) = some (r1, r2) := by rw [if_neg (show ¬ (false = true) by decide)] at H; exact H
                      clear H
                      have H := H1
                      clear H1
                      simp only [Option.some.injEq, Prod.mk.injEq] at H
                      obtain ⟨rfl, rfl⟩ := H
                      go_wp2
                      go_ret2
                      exact ⟨by first | rfl | (simp; done) | (simp [*]; done), by repeat (first | exact Drawn0.refl _ | apply Drawn0.step)⟩
              · rw [if_neg c17] at H
                have c17b0 : (a0 == 5) = false := beq_eq_false_iff_ne.mpr c17
                have c17b1 : (a0 != 5) = true := bne_iff_ne.mpr c17
                by_cases c21 : a0 = 4
                · rw [if_pos c21] at H
                  have c21b0 : (a0 == 4) = true := beq_iff_eq.mpr c21
                  have c21b1 : (a0 != 4) = false := bne_eq_false_iff_eq.mpr c21
                  clear c21
                  simp only [Option.some.injEq, Prod.mk.injEq] at H
                  obtain ⟨rfl, rfl⟩ := H
                  go_wp2
                  go_ret2
                  exact ⟨by first | rfl | (simp; done) | (simp [*]; done), by repeat (first | exact Drawn0.refl _ | apply Drawn0.step)⟩
                · rw [if_neg c21] at H
                  have c21b0 : (a0 == 4) = false := beq_eq_false_iff_ne.mpr c21
                  have c21b1 : (a0 != 4) = true := bne_iff_ne.mpr c21
                  by_cases c22 : a0 = 6
                  · rw [if_pos c22] at H
                    have c22b0 : (a0 == 6) = true := beq_iff_eq.mpr c22
                    have c22b1 : (a0 != 6) = false := bne_eq_false_iff_eq.mpr c22
                    clear c22
                    by_cases c23 : a1 = 45
                    · rw [if_pos c23] at H
                      have c23b0 : (a1 == 45) = true := beq_iff_eq.mpr c23
                      have c23b1 : (a1 != 45) = false := bne_eq_false_iff_eq.mpr c23
                      clear c23
                      simp only [Option.some.injEq, Prod.mk.injEq] at H
                      obtain ⟨rfl, rfl⟩ := H
                      go_wp2
                      go_ret2
                      exact ⟨by first | rfl | (simp; done) | (simp [*]; done), by repeat (first | exact Drawn0.refl _ | apply Drawn0.step)⟩
                    · rw [if_neg c23] at H
                      have c23b0 : (a1 == 45) = false := beq_eq_false_iff_ne.mpr c23
                      have c23b1 : (a1 != 45) = true := bne_iff_ne.mpr c23
                      by_cases c24 : a1 = 43
                      · rw [if_pos c24] at H
                        have c24b0 : (a1 == 43) = true := beq_iff_eq.mpr c24
                        have c24b1 : (a1 != 43) = false := bne_eq_false_iff_eq.mpr c24
                        clear c24
                        simp only [Option.some.injEq, Prod.mk.injEq] at H
                        obtain ⟨rfl, rfl⟩ := H
                        go_wp2
                        go_ret2
                        exact ⟨by first | rfl | (simp; done) | (simp [*]; done), by repeat (first | exact Drawn0.refl _ | apply Drawn0.step)⟩
                      · rw [if_neg c24] at H
                        have c24b0 : (a1 == 43) = false := beq_eq_false_iff_ne.mpr c24
                        have c24b1 : (a1 != 43) = true := bne_iff_ne.mpr c24
                        simp only [Option.some.injEq, Prod.mk.injEq] at H
                        obtain ⟨rfl, rfl⟩ := H
                        go_wp2
                        go_ret2
                        exact ⟨by first | rfl | (simp; done) | (simp [*]; done), by repeat (first | exact Drawn0.refl _ | apply Drawn0.step)⟩
                  · rw [if_neg c22] at H
                    have c22b0 : (a0 == 6) = false := beq_eq_false_iff_ne.mpr c22
                    have c22b1 : (a0 != 6) = true := bne_iff_ne.mpr c22
                    simp only [Option.some.injEq, Prod.mk.injEq] at H
                    obtain ⟨rfl, rfl⟩ := H
                    go_wp2
                    go_ret2
                    exact ⟨by first | rfl | (simp; done) | (simp [*]; done), by repeat (first | exact Drawn0.refl _ | apply Drawn0.step)⟩

/-! ### number_leads: function 106 -/
mutual
def number_leads.j0 : Nat → Int → Int → Int → Bool → Option (Bool)
  | 0, _, _, _, _ => none
  | k + 1, x0, x2, x3, x21 => if x21 = true then (some (decide (x2 ≤ 1000000000))) else (number_leads.l0 k x2 x3 x0 x0)
def number_leads.l0 : Nat → Int → Int → Int → Int → Option (Bool)
  | 0, _, _, _, _ => none
  | k + 1, x2, x3, x9, x10 => if x9 ≤ 1000000000 then (if (mx x9 x2) ≤ (mn (mn x10 x3) 1000000000) then (some true) else (number_leads.l0 k x2 x3 (wrap64 (10 * x9)) (wrap64 ((wrap64 (10 * x10)) + 9)))) else (if x2 ≤ 1000000000 then (some (decide (x3 ≥ 1000000000))) else (some false))
end
def number_leads.f (k : Nat) (a0 : Int) (a1 : Bool) (a2 : Int) (a3 : Int) : Option (Bool) := if (mx a2 0) > a3 then (some false) else (if a1 = true then (number_leads.j0 k a0 (mx a2 0) a3 (a0 == 0)) else (number_leads.j0 k a0 (mx a2 0) a3 true))
theorem number_leads.mono_l : ∀ k, (∀ y0 y1 y2 y3, LeO (number_leads.j0 k y0 y1 y2 y3) (number_leads.j0 (k + 1) y0 y1 y2 y3)) ∧ (∀ y0 y1 y2 y3, LeO (number_leads.l0 k y0 y1 y2 y3) (number_leads.l0 (k + 1) y0 y1 y2 y3))
  | 0 => ⟨fun _ _ _ _ r h => by simp [number_leads.j0] at h, fun _ _ _ _ r h => by simp [number_leads.l0] at h⟩
  | k + 1 => by
    obtain ⟨ih0, ih1⟩ := number_leads.mono_l k
    refine ⟨?_, ?_⟩
    · intro y0 y1 y2 y3
      unfold number_leads.j0
      repeat' first
      | (with_reducible exact ih0 _ _ _ _)
      | (with_reducible exact ih1 _ _ _ _)
      | (with_reducible exact LeO.refl _)
      | (with_reducible exact LeO.none _)
      | (with_reducible refine LeO.ite ?_ ?_)
      | (with_reducible refine LeO.bind ?_ (fun _ => ?_))
      | exact ih0 _ _ _ _
      | exact ih1 _ _ _ _
      | exact LeO.none _
      | refine LeO.ite ?_ ?_
      | refine LeO.bind ?_ (fun _ => ?_)
    · intro y0 y1 y2 y3
      unfold number_leads.l0
      repeat' first
      | (with_reducible exact ih0 _ _ _ _)
      | (with_reducible exact ih1 _ _ _ _)
      | (with_reducible exact LeO.refl _)
      | (with_reducible exact LeO.none _)
      | (with_reducible refine LeO.ite ?_ ?_)
      | (with_reducible refine LeO.bind ?_ (fun _ => ?_))
      | exact ih0 _ _ _ _
      | exact ih1 _ _ _ _
      | exact LeO.none _
      | refine LeO.ite ?_ ?_
      | refine LeO.bind ?_ (fun _ => ?_)
theorem number_leads.mono : ∀ a0 a1 a2 a3 k, LeO (number_leads.f k a0 a1 a2 a3) (number_leads.f (k + 1) a0 a1 a2 a3) := by
  intro a0 a1 a2 a3 k
  obtain ⟨ih0, ih1⟩ := number_leads.mono_l k
  unfold number_leads.f
  repeat' first
      | (with_reducible exact ih0 _ _ _ _)
      | (with_reducible exact ih1 _ _ _ _)
      | (with_reducible exact LeO.refl _)
      | (with_reducible exact LeO.none _)
      | (with_reducible refine LeO.ite ?_ ?_)
      | (with_reducible refine LeO.bind ?_ (fun _ => ?_))
      | exact ih0 _ _ _ _
      | exact ih1 _ _ _ _
      | exact LeO.none _
      | refine LeO.ite ?_ ?_
      | refine LeO.bind ?_ (fun _ => ?_)
set_option maxHeartbeats 8000000 in
set_option maxRecDepth 100000 in
theorem number_leads.calls (k : Nat) (a0 : Int) (a1 : Bool) (a2 : Int) (a3 : Int) (r : Bool) (w : World) (h : number_leads.f k a0 a1 a2 a3 = some r) :
    Calls Tryz.prog 106 #[.int .i64 a0, .bool a1, .int .i64 a2, .int .i64 a3] w fun e w' => e = .returned (.bool r) ∧ Below w.heap.size w w' := by
  have HB := Aside0.mk (Below.refl w.heap.size w)
  have H : (if (mx a2 0) > a3 then (some false) else (if a1 = true then (number_leads.j0 k a0 (mx a2 0) a3 (a0 == 0)) else (number_leads.j0 k a0 (mx a2 0) a3 true))) = some r := h
  clear h
  obtain ⟨ji5, hji5⟩ : ∃ j_ : Int, (mx a2 0) = j_ := ⟨_, rfl⟩
  replace H : (if (ji5) > a3 then (some false) else (if a1 = true then (number_leads.j0 k a0 ji5 a3 (a0 == 0)) else (number_leads.j0 k a0 ji5 a3 true))) = some r := by first | (rw [hji5] at H; exact H) | (simp only [hji5] at H ⊢; exact H)
  (try (have hji5l : 0 ≤ ji5 := by (rw [← hji5]; unfold mx; (repeat' split) <;> omega)))
  (try (have hji5m : 0 ≤ ji5 := by omega))
  have hji5_ : (if a2 < 0 then 0 else a2) = ji5 := hji5
  by_cases c6 : (ji5) > a3
  · rw [if_pos c6] at H
    have c6b0 : decide (a3 < (ji5)) = true := decide_eq_true c6
    clear c6
    obtain rfl := Option.some.inj H
    go_enter Tryz.func106, Tryz.ntmps106
    go_wp2
    go_ret
    exact ⟨by first | rfl | (simp [errW_none, errW_some] <;> rfl) | (simp only [← hji5]; first | rfl | (simp [errW_none, errW_some] <;> rfl)) | (simp [*, errW_none, errW_some] <;> rfl), by repeat (first | (with_reducible first | exact HB.out | apply below_alloc | apply pw_below_drewN | apply below_drew1) | exact HB.out)⟩
  · rw [if_neg c6] at H
    have c6b0 : decide (a3 < (ji5)) = false := decide_eq_false c6
    clear c6
    have HC7 := Aside0.mk H
    clear H
    go_enter Tryz.func106, Tryz.ntmps106
    go_upto_region 4 with (fail)
    go_cut [21] (fun v21 wc => ∃ (kq : Nat) (x21_6 : Bool), v21 = .bool x21_6 ∧ Aside0 (number_leads.j0 kq a0 ji5 a3 x21_6 = some r) ∧ Aside0 (kq ≤ k) ∧ Aside0 (Below w.heap.size w wc))
    case first =>
      have H := HC7.out
      clear HC7
      by_cases c8 : a1 = true
      · subst c8
        have H1 : (number_leads.j0 k a0 ji5 a3 (a0 == 0)) = some r := by rw [if_pos rfl] at H; exact H
        clear H
        have H := H1
        clear H1
        have H' := Aside0.mk H
        clear H
        go_wp2
        go_meet
        case rel => exact ⟨_, ((a0 == 0)), (by first | rfl | (simp; done) | (simp [*]; done)), H', ⟨by first | omega | exact Nat.le_refl _⟩, ⟨by repeat (first | (with_reducible first | exact HB.out | apply below_alloc | apply pw_below_drewN | apply below_drew1) | exact HB.out)⟩⟩
      · replace c8 := Bool.eq_false_iff.mpr c8
        subst c8
        have H1 : (number_leads.j0 k a0 ji5 a3 true) = some r := by rw [if_neg (show ¬ (false = true) by decide)] at H; exact H
        clear H
        have H := H1
        clear H1
        have H' := Aside0.mk H
        clear H
        go_wp2
        go_meet
        case rel => exact ⟨_, (true), (by first | rfl | (simp; done) | (simp [*]; done)), H', ⟨by first | omega | exact Nat.le_refl _⟩, ⟨by repeat (first | (with_reducible first | exact HB.out | apply below_alloc | apply pw_below_drewN | apply below_drew1) | exact HB.out)⟩⟩
    case rest =>
      clear HC7
      try clear c1
      try clear p2
      try clear c6
      try clear c6b0
      try clear c8
      obtain ⟨kq, x21_6, rfl, HA, HJ6, HB⟩ := hcut
      cases kq with
      | zero => exact absurd HA.out (by simp [number_leads.j0])
      | succ kj6 =>
        have H := HA.out
        clear HA
        simp only [number_leads.j0] at H
        by_cases c9 : x21_6 = true
        · subst c9
          have H1 : (some (decide (ji5 ≤ 1000000000))) = some r := by rw [if_pos rfl] at H; exact H
          clear H
          have H := H1
          clear H1
          obtain rfl := Option.some.inj H
          go_wp2
          go_ret
          exact ⟨by first | rfl | (simp [errW_none, errW_some] <;> rfl) | (simp only [← hji5]; first | rfl | (simp [errW_none, errW_some] <;> rfl)) | (simp [*, errW_none, errW_some] <;> rfl), by repeat (first | (with_reducible first | exact HB.out | apply below_alloc | apply pw_below_drewN | apply below_drew1) | exact HB.out)⟩
        · replace c9 := Bool.eq_false_iff.mpr c9
          subst c9
          have H1 : (number_leads.l0 kj6 ji5 a3 a0 a0) = some r := by rw [if_neg (show ¬ (false = true) by decide)] at H; exact H
          clear H
          have H := H1
          clear H1
          have H' := Aside0.mk H
          clear H
          go_wp2
          go_loopg [9, 10] kj6 (fun kq v9 v10 w' => ∃ (x9_2 : Int) (x10_2 : Int), v9 = .int .i64 x9_2 ∧ v10 = .int .i64 x10_2 ∧ Aside0 (number_leads.l0 kq ji5 a3 x9_2 x10_2 = some r) ∧ Aside0 (kq ≤ kj6) ∧ Aside0 (Below w.heap.size w w'))
          case atStart => exact ⟨(a0), (a0), (by first | rfl | (simp; done) | (simp [*]; done)), (by first | rfl | (simp; done) | (simp [*]; done)), H', ⟨Nat.le_refl _⟩, ⟨by repeat (first | (with_reducible first | exact HB.out | apply below_alloc | apply pw_below_drewN | apply below_drew1) | exact HB.out)⟩⟩
          case round =>
            clear H'
            try clear c1
            try clear p2
            try clear c6
            try clear c6b0
            try clear c8
            try clear c9
            try clear p2
            obtain ⟨x9_2, x10_2, rfl, rfl, HA, HK2, HB⟩ := hrel
            cases gk with
            | zero => exact absurd HA.out (by simp [number_leads.l0])
            | succ k2 =>
              have H := HA.out
              clear HA
              simp only [number_leads.l0] at H
              by_cases c10 : x9_2 ≤ 1000000000
              · rw [if_pos c10] at H
                have c10b0 : decide (x9_2 ≤ 1000000000) = true := decide_eq_true c10
                clear c10
                obtain ⟨ji11, hji11⟩ : ∃ j_ : Int, (mx x9_2 ji5) = j_ := ⟨_, rfl⟩
                replace H : (if (ji11) ≤ (mn (mn x10_2 a3) 1000000000) then (some true) else (number_leads.l0 k2 ji5 a3 (wrap64 (10 * x9_2)) (wrap64 ((wrap64 (10 * x10_2)) + 9)))) = some r := by first | (rw [hji11] at H; exact H) | (simp only [hji11] at H ⊢; exact H)
                have hji11_ : (if x9_2 < ji5 then ji5 else x9_2) = ji11 := hji11
                obtain ⟨ji12, hji12⟩ : ∃ j_ : Int, (mn x10_2 a3) = j_ := ⟨_, rfl⟩
                replace H : (if (ji11) ≤ (mn (ji12) 1000000000) then (some true) else (number_leads.l0 k2 ji5 a3 (wrap64 (10 * x9_2)) (wrap64 ((wrap64 (10 * x10_2)) + 9)))) = some r := by first | (rw [hji12] at H; exact H) | (simp only [hji12] at H ⊢; exact H)
                have hji12_ : (if a3 < x10_2 then a3 else x10_2) = ji12 := hji12
                obtain ⟨ji13, hji13⟩ : ∃ j_ : Int, (mn (ji12) 1000000000) = j_ := ⟨_, rfl⟩
                replace H : (if (ji11) ≤ (ji13) then (some true) else (number_leads.l0 k2 ji5 a3 (wrap64 (10 * x9_2)) (wrap64 ((wrap64 (10 * x10_2)) + 9)))) = some r := by first | (rw [hji13] at H; exact H) | (simp only [hji13] at H ⊢; exact H)
                have hji13_ : (if 1000000000 < (ji12) then 1000000000 else (ji12)) = ji13 := hji13
                by_cases c14 : (ji11) ≤ (ji13)
                · rw [if_pos c14] at H
                  have c14b0 : decide ((ji11) ≤ (ji13)) = true := decide_eq_true c14
                  clear c14
                  obtain rfl := Option.some.inj H
                  go_wp2
                  go_ret
                  exact ⟨by first | rfl | (simp [errW_none, errW_some] <;> rfl) | (simp only [← hji5, ← hji11, ← hji12, ← hji13]; first | rfl | (simp [errW_none, errW_some] <;> rfl)) | (simp [*, errW_none, errW_some] <;> rfl), by repeat (first | (with_reducible first | exact HB.out | apply below_alloc | apply pw_below_drewN | apply below_drew1) | exact HB.out)⟩
                · rw [if_neg c14] at H
                  have c14b0 : decide ((ji11) ≤ (ji13)) = false := decide_eq_false c14
                  clear c14
                  have H' := Aside0.mk H
                  clear H
                  go_wp2
                  go_roundg k2
                  case measure => have := HJ6.out; have := HK2.out; omega
                  case rel => exact ⟨(wrap64 (10 * x9_2)), (wrap64 ((wrap64 (10 * x10_2)) + 9)), (by first | rfl | (simp; done) | (simp [*]; done)), (by first | rfl | (simp; done) | (simp [*]; done)), H', ⟨by have := HJ6.out; have := HK2.out; omega⟩, ⟨by repeat (first | (with_reducible first | exact HB.out | apply below_alloc | apply pw_below_drewN | apply below_drew1) | exact HB.out)⟩⟩
              · rw [if_neg c10] at H
                have c10b0 : decide (x9_2 ≤ 1000000000) = false := decide_eq_false c10
                clear c10
                by_cases c15 : ji5 ≤ 1000000000
                · rw [if_pos c15] at H
                  have c15b0 : decide (ji5 ≤ 1000000000) = true := decide_eq_true c15
                  clear c15
                  obtain rfl := Option.some.inj H
                  go_wp2
                  go_ret
                  exact ⟨by first | rfl | (simp [errW_none, errW_some] <;> rfl) | (simp only [← hji5]; first | rfl | (simp [errW_none, errW_some] <;> rfl)) | (simp [*, errW_none, errW_some] <;> rfl), by repeat (first | (with_reducible first | exact HB.out | apply below_alloc | apply pw_below_drewN | apply below_drew1) | exact HB.out)⟩
                · rw [if_neg c15] at H
                  have c15b0 : decide (ji5 ≤ 1000000000) = false := decide_eq_false c15
                  clear c15
                  obtain rfl := Option.some.inj H
                  go_wp2
                  go_ret
                  exact ⟨by first | rfl | (simp [errW_none, errW_some] <;> rfl) | (simp only [← hji5]; first | rfl | (simp [errW_none, errW_some] <;> rfl)) | (simp [*, errW_none, errW_some] <;> rfl), by repeat (first | (with_reducible first | exact HB.out | apply below_alloc | apply pw_below_drewN | apply below_drew1) | exact HB.out)⟩

end Go.Proofs.YthdncmagfgoboaaGreatDoor.XN1
