/- One of the texts that lead to the theorem lexPlays.proved: the conditions stand in each theorem. -/
import Derived.Test.YthdncmagfgoboaaGreatDoorProg
import Derived.Below
import Derived.Deep.Draws
import Derived.Deep.AppendLies
import Derived.Maps.AppendAt
import Derived.OwnWalk
import Derived.Laws.BytesArg
import Derived.Laws.MakeOwn
import Derived.Laws.OwnMore
import Derived.Deep.OwnRows
import Derived.Tactics
import Derived.Lib.ConvBytes
import Derived.Laws.Slices
import Derived.WalkKit
import Derived.KernelRfl
import Derived.RowKit3
import Derived.Deep.LoopGhost
import Derived.Deep.QuietTactic
import Derived.BigQuiet
import Derived.WideLaws
import Derived.Deep.DeepCutAuto
import Derived.Deep.CutBlock
import Derived.Deep.RegionHeld3
import Derived.Laws.Rows
import Derived.Lib.AppendStr
import Derived.ArgAppend
import Derived.Laws.IdiomCopy
import Derived.OrdersHeld
import Derived.Laws.BitsLemmas
import Derived.RowKit
import Derived.Test.YthdncmagfgoboaaGreatDoorP8
import Derived.Test.YthdncmagfgoboaaGreatDoorP7
import Derived.Test.YthdncmagfgoboaaGreatDoorP0
import Derived.Test.YthdncmagfgoboaaGreatDoorP3
import Derived.Test.YthdncmagfgoboaaGreatDoorP4
import Derived.Test.YthdncmagfgoboaaGreatDoorP2
import Derived.Outline
set_option linter.unusedSimpArgs false
set_option linter.unusedVariables false
section
namespace Go.Proofs.YthdncmagfgoboaaGreatDoor.XN1
open Go.RowKit Go.Proofs.YthdncmagfgoboaaGreatDoorW.PrintWords Go.Proofs.YthdncmagfgoboaaGreatDoorW.PrintLast Go.Proofs.YthdncmagfgoboaaGreatDoorW.PrintMore
attribute [local go_sem] yC yA yE yD xY xX yB xZ   -- for this text's walks alone
def errW : Option Int → Value
 | none => .nilIface
 | some c => .iface 0 (.int .i64 c)
theorem aT : errW none = .nilIface := rfl
theorem aS (c : Int) : errW (some c) = .iface 0 (.int .i64 c) := rfl
end Go.Proofs.YthdncmagfgoboaaGreatDoor.XN1
end

section
namespace Go.Proofs.YthdncmagfgoboaaGreatDoor.XN1
open Go.RowKit Go.Proofs.YthdncmagfgoboaaGreatDoorW.PrintWords Go.Proofs.YthdncmagfgoboaaGreatDoorW.PrintLast Go.Proofs.YthdncmagfgoboaaGreatDoorW.PrintMore
attribute [local go_sem] yC yA yE yD xY xX yB xZ   -- for this text's walks alone
mutual
def number_next.j0 : Nat → Int → Int → Bool → Option (Int × Bool)
 | 0, _, _, _ => none
 | k + 1, x0, x1, x6 => if x0 = 0 then (if x1 = 45 then (some (1, true)) else (if x1 = 48 then (some (2, true)) else (some (3, x6)))) else (if x0 = 1 then (if x1 = 48 then (some (2, true)) else (some (3, x6))) else (if x0 = 3 then (if x6 = true then (some (3, true)) else (if x1 = 46 then (some (4, true)) else (if x1 = 101 then (some (6, true)) else (some (6, (x1 == 69)))))) else (if x0 = 2 then (if x1 = 46 then (some (4, true)) else (if x1 = 101 then (some (6, true)) else (some (6, (x1 == 69))))) else (if x0 = 5 then (if x1 = 101 then (number_next.j1 k x6 true) else (number_next.j1 k x6 (x1 == 69))) else (if x0 = 4 then (some (5, x6)) else (if x0 = 6 then (if x1 = 45 then (some (7, true)) else (if x1 = 43 then (some (7, true)) else (some (8, x6)))) else (some (8, x6))))))))
def number_next.j1 : Nat → Bool → Bool → Option (Int × Bool)
 | 0, _, _ => none
 | k + 1, x6, x47 => if x47 = true then (some (6, true)) else (some (5, x6))
end
def number_next.f (k : Nat) (a0 : Int) (a1 : Int) : Option (Int × Bool) := if a1 ≥ 48 then (number_next.j0 k a0 a1 (decide (a1 ≤ 57))) else (number_next.j0 k a0 a1 false)
theorem number_next.mono_l : ∀ k, (∀ y0 y1 y2, LeO (number_next.j0 k y0 y1 y2) (number_next.j0 (k + 1) y0 y1 y2)) ∧ (∀ y0 y1, LeO (number_next.j1 k y0 y1) (number_next.j1 (k + 1) y0 y1))
 | 0 => ⟨fun _ _ _ r h => by simp [number_next.j0] at h, fun _ _ r h => by simp [number_next.j1] at h⟩
 | k + 1 => by
  obtain ⟨ih0, ih1⟩ := number_next.mono_l k
  refine ⟨?_, ?_⟩
  · intro y0 y1 y2
    unfold number_next.j0
    repeat' first
    | (with_reducible exact ih0 _ _ _)
    | (with_reducible exact ih1 _ _)
    | (with_reducible exact LeO.refl _)
    | (with_reducible exact LeO.none _)
    | (with_reducible refine LeO.ite ?_ ?_)
    | (with_reducible refine LeO.bind ?_ (fun _ => ?_))
    | exact ih0 _ _ _
    | exact ih1 _ _
    | exact LeO.none _
    | refine LeO.ite ?_ ?_
    | refine LeO.bind ?_ (fun _ => ?_)
  · intro y0 y1
    unfold number_next.j1
    repeat' first
    | (with_reducible exact ih0 _ _ _)
    | (with_reducible exact ih1 _ _)
    | (with_reducible exact LeO.refl _)
    | (with_reducible exact LeO.none _)
    | (with_reducible refine LeO.ite ?_ ?_)
    | (with_reducible refine LeO.bind ?_ (fun _ => ?_))
    | exact ih0 _ _ _
    | exact ih1 _ _
    | exact LeO.none _
    | refine LeO.ite ?_ ?_
    | refine LeO.bind ?_ (fun _ => ?_)
theorem number_next.mono : ∀ a0 a1 k, LeO (number_next.f k a0 a1) (number_next.f (k + 1) a0 a1) := by
 intro a0 a1 k
 obtain ⟨ih0, ih1⟩ := number_next.mono_l k
 unfold number_next.f
 repeat' first
  | (with_reducible exact ih0 _ _ _)
  | (with_reducible exact ih1 _ _)
  | (with_reducible exact LeO.refl _)
  | (with_reducible exact LeO.none _)
  | (with_reducible refine LeO.ite ?_ ?_)
  | (with_reducible refine LeO.bind ?_ (fun _ => ?_))
  | exact ih0 _ _ _
  | exact ih1 _ _
  | exact LeO.none _
  | refine LeO.ite ?_ ?_
  | refine LeO.bind ?_ (fun _ => ?_)
set_option maxHeartbeats 8000000 in
set_option maxRecDepth 100000 in
theorem number_next.calls (k : Nat) (a0 : Int) (a1 : Int) (r1 : Int) (r2 : Bool) (w : World) (h : number_next.f k a0 a1 = some (r1, r2)) :
 Calls Tryz.prog 77 #[.int .i64 a0, .int .u8 a1] w fun e w' => e = .returned (.tuple #[.int .i64 r1, .bool r2]) ∧ Drawn0 w w' := by
 have H : (if a1 ≥ 48 then (number_next.j0 k a0 a1 (decide (a1 ≤ 57))) else (number_next.j0 k a0 a1 false)) = some (r1, r2) := h
 clear h
 have HC3 := Aside0.mk H
 clear H
 go_enter Tryz.func77, Tryz.ntmps77
 go_upto_region 1 with (fail)
 go_cut [6] (fun v6 wc => ∃ (kq : Nat) (x6_2 : Bool), v6 = .bool x6_2 ∧ Aside0 (number_next.j0 kq a0 a1 x6_2 = some (r1, r2)) ∧ Aside0 (kq ≤ k) ∧ Drawn0 w wc)
 case first =>
  have H := HC3.out
  clear HC3
  by_cases c4 : a1 ≥ 48
  · rw [if_pos c4] at H
    have c4b0 : decide (48 ≤ a1) = true := decide_eq_true c4
    clear c4
    (first | rw [c4b0] | (simp only [bR, bU]; rw [c4b0]) | skip)
    have H' := Aside0.mk H
    clear H
    go_wp2
    go_meet
    case rel => exact ⟨_, (decide (a1 ≤ 57)), (by first | rfl | (simp; done) | (simp [*]; done)), H', ⟨by first | omega | exact Nat.le_refl _⟩, by repeat (first | exact Drawn0.refl _ | apply Drawn0.step)⟩
  · rw [if_neg c4] at H
    have c4b0 : decide (48 ≤ a1) = false := decide_eq_false c4
    clear c4
    (first | rw [c4b0] | (simp only [bR, bU]; rw [c4b0]) | skip)
    have H' := Aside0.mk H
    clear H
    go_wp2
    go_meet
    case rel => exact ⟨_, (false), (by first | rfl | (simp; done) | (simp [*]; done)), H', ⟨by first | omega | exact Nat.le_refl _⟩, by repeat (first | exact Drawn0.refl _ | apply Drawn0.step)⟩
 case rest =>
  clear HC3
  try clear p2
  try clear c4
  try clear c4b0
  obtain ⟨kq, x6_2, rfl, HA, HJ2, ⟨mc2, rfl⟩⟩ := hcut
  cases kq with
  | zero => exact absurd HA.out (by simp [number_next.j0])
  | succ kj2 =>
   have H := HA.out
   clear HA
   simp only [number_next.j0] at H
   by_cases c5 : a0 = 0
   · rw [if_pos c5] at H
     have c5b0 : (a0 == 0) = true := beq_iff_eq.mpr c5
     have c5b1 : (a0 != 0) = false := bne_eq_false_iff_eq.mpr c5
     clear c5
     by_cases c6 : a1 = 45
     · rw [if_pos c6] at H
       have c6b0 : (a1 == 45) = true := beq_iff_eq.mpr c6
       have c6b1 : (a1 != 45) = false := bne_eq_false_iff_eq.mpr c6
       clear c6
       simp only [Option.some.injEq, Prod.mk.injEq] at H
       obtain ⟨rfl, rfl⟩ := H
       go_wp2
       go_ret2
       exact ⟨by first | rfl | (simp; done) | (simp [*]; done), by repeat (first | exact Drawn0.refl _ | apply Drawn0.step)⟩
     · rw [if_neg c6] at H
       have c6b0 : (a1 == 45) = false := beq_eq_false_iff_ne.mpr c6
       have c6b1 : (a1 != 45) = true := bne_iff_ne.mpr c6
       by_cases c7 : a1 = 48
       · rw [if_pos c7] at H
         have c7b0 : (a1 == 48) = true := beq_iff_eq.mpr c7
         have c7b1 : (a1 != 48) = false := bne_eq_false_iff_eq.mpr c7
         clear c7
         simp only [Option.some.injEq, Prod.mk.injEq] at H
         obtain ⟨rfl, rfl⟩ := H
         go_wp2
         go_ret2
         exact ⟨by first | rfl | (simp; done) | (simp [*]; done), by repeat (first | exact Drawn0.refl _ | apply Drawn0.step)⟩
       · rw [if_neg c7] at H
         have c7b0 : (a1 == 48) = false := beq_eq_false_iff_ne.mpr c7
         have c7b1 : (a1 != 48) = true := bne_iff_ne.mpr c7
         simp only [Option.some.injEq, Prod.mk.injEq] at H
         obtain ⟨rfl, rfl⟩ := H
         go_wp2
         go_ret2
         exact ⟨by first | rfl | (simp; done) | (simp [*]; done), by repeat (first | exact Drawn0.refl _ | apply Drawn0.step)⟩
   · rw [if_neg c5] at H
     have c5b0 : (a0 == 0) = false := beq_eq_false_iff_ne.mpr c5
     have c5b1 : (a0 != 0) = true := bne_iff_ne.mpr c5
     by_cases c8 : a0 = 1
     · rw [if_pos c8] at H
       have c8b0 : (a0 == 1) = true := beq_iff_eq.mpr c8
       have c8b1 : (a0 != 1) = false := bne_eq_false_iff_eq.mpr c8
       clear c8
       by_cases c9 : a1 = 48
       · rw [if_pos c9] at H
         have c9b0 : (a1 == 48) = true := beq_iff_eq.mpr c9
         have c9b1 : (a1 != 48) = false := bne_eq_false_iff_eq.mpr c9
         clear c9
         simp only [Option.some.injEq, Prod.mk.injEq] at H
         obtain ⟨rfl, rfl⟩ := H
         go_wp2
         go_ret2
         exact ⟨by first | rfl | (simp; done) | (simp [*]; done), by repeat (first | exact Drawn0.refl _ | apply Drawn0.step)⟩
       · rw [if_neg c9] at H
         have c9b0 : (a1 == 48) = false := beq_eq_false_iff_ne.mpr c9
         have c9b1 : (a1 != 48) = true := bne_iff_ne.mpr c9
         simp only [Option.some.injEq, Prod.mk.injEq] at H
         obtain ⟨rfl, rfl⟩ := H
         go_wp2
         go_ret2
         exact ⟨by first | rfl | (simp; done) | (simp [*]; done), by repeat (first | exact Drawn0.refl _ | apply Drawn0.step)⟩
     · rw [if_neg c8] at H
       have c8b0 : (a0 == 1) = false := beq_eq_false_iff_ne.mpr c8
       have c8b1 : (a0 != 1) = true := bne_iff_ne.mpr c8
       by_cases c10 : a0 = 3
       · rw [if_pos c10] at H
         have c10b0 : (a0 == 3) = true := beq_iff_eq.mpr c10
         have c10b1 : (a0 != 3) = false := bne_eq_false_iff_eq.mpr c10
         clear c10
         by_cases c11 : x6_2 = true
         · subst c11
           have H1 : (some (3, true)) = some (r1, r2) := by rw [if_pos rfl] at H; exact H
           clear H
           have H := H1
           clear H1
           simp only [Option.some.injEq, Prod.mk.injEq] at H
           obtain ⟨rfl, rfl⟩ := H
           go_wp2
           go_ret2
           exact ⟨by first | rfl | (simp; done) | (simp [*]; done), by repeat (first | exact Drawn0.refl _ | apply Drawn0.step)⟩
         · replace c11 := Bool.eq_false_iff.mpr c11
           subst c11
           have H1 : (if a1 = 46 then (some (4, true)) else (if a1 = 101 then (some (6, true)) else (some (6, (a1 == 69))))) = some (r1, r2) := by rw [if_neg (show ¬ (false = true) by decide)] at H; exact H
           clear H
           have H := H1
           clear H1
           by_cases c12 : a1 = 46
           · rw [if_pos c12] at H
             have c12b0 : (a1 == 46) = true := beq_iff_eq.mpr c12
             have c12b1 : (a1 != 46) = false := bne_eq_false_iff_eq.mpr c12
             clear c12
             simp only [Option.some.injEq, Prod.mk.injEq] at H
             obtain ⟨rfl, rfl⟩ := H
             go_wp2
             go_ret2
             exact ⟨by first | rfl | (simp; done) | (simp [*]; done), by repeat (first | exact Drawn0.refl _ | apply Drawn0.step)⟩
           · rw [if_neg c12] at H
             have c12b0 : (a1 == 46) = false := beq_eq_false_iff_ne.mpr c12
             have c12b1 : (a1 != 46) = true := bne_iff_ne.mpr c12
             by_cases c13 : a1 = 101
             · rw [if_pos c13] at H
               have c13b0 : (a1 == 101) = true := beq_iff_eq.mpr c13
               have c13b1 : (a1 != 101) = false := bne_eq_false_iff_eq.mpr c13
               clear c13
               simp only [Option.some.injEq, Prod.mk.injEq] at H
               obtain ⟨rfl, rfl⟩ := H
               go_wp2
               go_ret2
               exact ⟨by first | rfl | (simp; done) | (simp [*]; done), by repeat (first | exact Drawn0.refl _ | apply Drawn0.step)⟩
             · rw [if_neg c13] at H
               have c13b0 : (a1 == 101) = false := beq_eq_false_iff_ne.mpr c13
               have c13b1 : (a1 != 101) = true := bne_iff_ne.mpr c13
               simp only [Option.some.injEq, Prod.mk.injEq] at H
               obtain ⟨rfl, rfl⟩ := H
               go_wp2
               go_ret2
               exact ⟨by first | rfl | (simp; done) | (simp [*]; done), by repeat (first | exact Drawn0.refl _ | apply Drawn0.step)⟩
       · rw [if_neg c10] at H
         have c10b0 : (a0 == 3) = false := beq_eq_false_iff_ne.mpr c10
         have c10b1 : (a0 != 3) = true := bne_iff_ne.mpr c10
         by_cases c14 : a0 = 2
         · rw [if_pos c14] at H
           have c14b0 : (a0 == 2) = true := beq_iff_eq.mpr c14
           have c14b1 : (a0 != 2) = false := bne_eq_false_iff_eq.mpr c14
           clear c14
           by_cases c15 : a1 = 46
           · rw [if_pos c15] at H
             have c15b0 : (a1 == 46) = true := beq_iff_eq.mpr c15
             have c15b1 : (a1 != 46) = false := bne_eq_false_iff_eq.mpr c15
             clear c15
             simp only [Option.some.injEq, Prod.mk.injEq] at H
             obtain ⟨rfl, rfl⟩ := H
             go_wp2
             go_ret2
             exact ⟨by first | rfl | (simp; done) | (simp [*]; done), by repeat (first | exact Drawn0.refl _ | apply Drawn0.step)⟩
           · rw [if_neg c15] at H
             have c15b0 : (a1 == 46) = false := beq_eq_false_iff_ne.mpr c15
             have c15b1 : (a1 != 46) = true := bne_iff_ne.mpr c15
             by_cases c16 : a1 = 101
             · rw [if_pos c16] at H
               have c16b0 : (a1 == 101) = true := beq_iff_eq.mpr c16
               have c16b1 : (a1 != 101) = false := bne_eq_false_iff_eq.mpr c16
               clear c16
               simp only [Option.some.injEq, Prod.mk.injEq] at H
               obtain ⟨rfl, rfl⟩ := H
               go_wp2
               go_ret2
               exact ⟨by first | rfl | (simp; done) | (simp [*]; done), by repeat (first | exact Drawn0.refl _ | apply Drawn0.step)⟩
             · rw [if_neg c16] at H
               have c16b0 : (a1 == 101) = false := beq_eq_false_iff_ne.mpr c16
               have c16b1 : (a1 != 101) = true := bne_iff_ne.mpr c16
               simp only [Option.some.injEq, Prod.mk.injEq] at H
               obtain ⟨rfl, rfl⟩ := H
               go_wp2
               go_ret2
               exact ⟨by first | rfl | (simp; done) | (simp [*]; done), by repeat (first | exact Drawn0.refl _ | apply Drawn0.step)⟩
         · rw [if_neg c14] at H
           have c14b0 : (a0 == 2) = false := beq_eq_false_iff_ne.mpr c14
           have c14b1 : (a0 != 2) = true := bne_iff_ne.mpr c14
           by_cases c17 : a0 = 5
           · rw [if_pos c17] at H
             have c17b0 : (a0 == 5) = true := beq_iff_eq.mpr c17
             have c17b1 : (a0 != 5) = false := bne_eq_false_iff_eq.mpr c17
             clear c17
             have HC18 := Aside0.mk H
             clear H
             go_upto_region 20 with (fail)
             go_cut [47] (fun v47 wc => ∃ (kq : Nat) (x47_17 : Bool), v47 = .bool x47_17 ∧ Aside0 (number_next.j1 kq x6_2 x47_17 = some (r1, r2)) ∧ Aside0 (kq ≤ kj2) ∧ Drawn0 w wc)
             case first =>
              have H := HC18.out
              clear HC18
              by_cases c19 : a1 = 101
              · rw [if_pos c19] at H
                have c19b0 : (a1 == 101) = true := beq_iff_eq.mpr c19
                have c19b1 : (a1 != 101) = false := bne_eq_false_iff_eq.mpr c19
                clear c19
                (first | rw [c19b0] | (simp only [bR, bU]; rw [c19b0]) | skip)
                have H' := Aside0.mk H
                clear H
                go_wp2
                go_meet
                case rel => exact ⟨_, (true), (by first | rfl | (simp; done) | (simp [*]; done)), H', ⟨by have := HJ2.out; first | omega | exact Nat.le_refl _⟩, by repeat (first | exact Drawn0.refl _ | apply Drawn0.step)⟩
              · rw [if_neg c19] at H
                have c19b0 : (a1 == 101) = false := beq_eq_false_iff_ne.mpr c19
                have c19b1 : (a1 != 101) = true := bne_iff_ne.mpr c19
                (first | rw [c19b0] | (simp only [bR, bU]; rw [c19b0]) | skip)
                have H' := Aside0.mk H
                clear H
                go_wp2
                go_meet
                case rel => exact ⟨_, ((a1 == 69)), (by first | rfl | (simp; done) | (simp [*]; done)), H', ⟨by have := HJ2.out; first | omega | exact Nat.le_refl _⟩, by repeat (first | exact Drawn0.refl _ | apply Drawn0.step)⟩
             case rest =>
              clear HC18
              try clear c1
              try clear c2
              try clear p2
              try clear c4
              try clear c4b0
              try clear c5
              try clear c5b0
              try clear c5b1
              try clear c6
              try clear c6b0
              try clear c6b1
              try clear c7
              try clear c7b0
              try clear c7b1
              try clear c8
              try clear c8b0
              try clear c8b1
              try clear c9
              try clear c9b0
              try clear c9b1
              try clear c10
              try clear c10b0
              try clear c10b1
              try clear c11
              try clear c12
              try clear c12b0
              try clear c12b1
              try clear c13
              try clear c13b0
              try clear c13b1
              try clear c14
              try clear c14b0
              try clear c14b1
              try clear c15
              try clear c15b0
              try clear c15b1
              try clear c16
              try clear c16b0
              try clear c16b1
              try clear c17
              try clear c17b0
              try clear c17b1
              try clear c19
              try clear c19b0
              try clear c19b1
              try clear p2
              obtain ⟨kq, x47_17, rfl, HA, HJ17, ⟨mc17, rfl⟩⟩ := hcut
              cases kq with
              | zero => exact absurd HA.out (by simp [number_next.j1])
              | succ kj17 =>
               have H := HA.out
               clear HA
               simp only [number_next.j1] at H
               by_cases c20 : x47_17 = true
               · subst c20
                 have H1 : (some (6, true)) = some (r1, r2) := by rw [if_pos rfl] at H; exact H
                 clear H
                 have H := H1
                 clear H1
                 simp only [Option.some.injEq, Prod.mk.injEq] at H
                 obtain ⟨rfl, rfl⟩ := H
                 go_wp2
                 go_ret2
                 exact ⟨by first | rfl | (simp; done) | (simp [*]; done), by repeat (first | exact Drawn0.refl _ | apply Drawn0.step)⟩
               · replace c20 := Bool.eq_false_iff.mpr c20
                 subst c20
                 have H1 : (some (5, x6_2)) = some (r1, r2) := by rw [if_neg (show ¬ (false = true) by decide)] at H; exact H
                 clear H
                 have H := H1
                 clear H1
                 simp only [Option.some.injEq, Prod.mk.injEq] at H
                 obtain ⟨rfl, rfl⟩ := H
                 go_wp2
                 go_ret2
                 exact ⟨by first | rfl | (simp; done) | (simp [*]; done), by repeat (first | exact Drawn0.refl _ | apply Drawn0.step)⟩
           · rw [if_neg c17] at H
             have c17b0 : (a0 == 5) = false := beq_eq_false_iff_ne.mpr c17
             have c17b1 : (a0 != 5) = true := bne_iff_ne.mpr c17
             by_cases c21 : a0 = 4
             · rw [if_pos c21] at H
               have c21b0 : (a0 == 4) = true := beq_iff_eq.mpr c21
               have c21b1 : (a0 != 4) = false := bne_eq_false_iff_eq.mpr c21
               clear c21
               simp only [Option.some.injEq, Prod.mk.injEq] at H
               obtain ⟨rfl, rfl⟩ := H
               go_wp2
               go_ret2
               exact ⟨by first | rfl | (simp; done) | (simp [*]; done), by repeat (first | exact Drawn0.refl _ | apply Drawn0.step)⟩
             · rw [if_neg c21] at H
               have c21b0 : (a0 == 4) = false := beq_eq_false_iff_ne.mpr c21
               have c21b1 : (a0 != 4) = true := bne_iff_ne.mpr c21
               by_cases c22 : a0 = 6
               · rw [if_pos c22] at H
                 have c22b0 : (a0 == 6) = true := beq_iff_eq.mpr c22
                 have c22b1 : (a0 != 6) = false := bne_eq_false_iff_eq.mpr c22
                 clear c22
                 by_cases c23 : a1 = 45
                 · rw [if_pos c23] at H
                   have c23b0 : (a1 == 45) = true := beq_iff_eq.mpr c23
                   have c23b1 : (a1 != 45) = false := bne_eq_false_iff_eq.mpr c23
                   clear c23
                   simp only [Option.some.injEq, Prod.mk.injEq] at H
                   obtain ⟨rfl, rfl⟩ := H
                   go_wp2
                   go_ret2
                   exact ⟨by first | rfl | (simp; done) | (simp [*]; done), by repeat (first | exact Drawn0.refl _ | apply Drawn0.step)⟩
                 · rw [if_neg c23] at H
                   have c23b0 : (a1 == 45) = false := beq_eq_false_iff_ne.mpr c23
                   have c23b1 : (a1 != 45) = true := bne_iff_ne.mpr c23
                   by_cases c24 : a1 = 43
                   · rw [if_pos c24] at H
                     have c24b0 : (a1 == 43) = true := beq_iff_eq.mpr c24
                     have c24b1 : (a1 != 43) = false := bne_eq_false_iff_eq.mpr c24
                     clear c24
                     simp only [Option.some.injEq, Prod.mk.injEq] at H
                     obtain ⟨rfl, rfl⟩ := H
                     go_wp2
                     go_ret2
                     exact ⟨by first | rfl | (simp; done) | (simp [*]; done), by repeat (first | exact Drawn0.refl _ | apply Drawn0.step)⟩
                   · rw [if_neg c24] at H
                     have c24b0 : (a1 == 43) = false := beq_eq_false_iff_ne.mpr c24
                     have c24b1 : (a1 != 43) = true := bne_iff_ne.mpr c24
                     simp only [Option.some.injEq, Prod.mk.injEq] at H
                     obtain ⟨rfl, rfl⟩ := H
                     go_wp2
                     go_ret2
                     exact ⟨by first | rfl | (simp; done) | (simp [*]; done), by repeat (first | exact Drawn0.refl _ | apply Drawn0.step)⟩
               · rw [if_neg c22] at H
                 have c22b0 : (a0 == 6) = false := beq_eq_false_iff_ne.mpr c22
                 have c22b1 : (a0 != 6) = true := bne_iff_ne.mpr c22
                 simp only [Option.some.injEq, Prod.mk.injEq] at H
                 obtain ⟨rfl, rfl⟩ := H
                 go_wp2
                 go_ret2
                 exact ⟨by first | rfl | (simp; done) | (simp [*]; done), by repeat (first | exact Drawn0.refl _ | apply Drawn0.step)⟩
mutual
def number_leads.j0 : Nat → Int → Int → Int → Bool → Option (Bool)
 | 0, _, _, _, _ => none
 | k + 1, x0, x2, x3, x21 => if x21 = true then (some (decide (x2 ≤ 1000000000))) else (number_leads.l0 k x2 x3 x0 x0)
def number_leads.l0 : Nat → Int → Int → Int → Int → Option (Bool)
 | 0, _, _, _, _ => none
 | k + 1, x2, x3, x9, x10 => if x9 ≤ 1000000000 then (if (mx x9 x2) ≤ (mn (mn x10 x3) 1000000000) then (some true) else (number_leads.l0 k x2 x3 (wrap64 (10 * x9)) (wrap64 ((wrap64 (10 * x10)) + 9)))) else (if x2 ≤ 1000000000 then (some (decide (x3 ≥ 1000000000))) else (some false))
end
def number_leads.f (k : Nat) (a0 : Int) (a1 : Bool) (a2 : Int) (a3 : Int) : Option (Bool) := if (mx a2 0) > a3 then (some false) else (if a1 = true then (number_leads.j0 k a0 (mx a2 0) a3 (a0 == 0)) else (number_leads.j0 k a0 (mx a2 0) a3 true))
theorem number_leads.mono_l : ∀ k, (∀ y0 y1 y2 y3, LeO (number_leads.j0 k y0 y1 y2 y3) (number_leads.j0 (k + 1) y0 y1 y2 y3)) ∧ (∀ y0 y1 y2 y3, LeO (number_leads.l0 k y0 y1 y2 y3) (number_leads.l0 (k + 1) y0 y1 y2 y3))
 | 0 => ⟨fun _ _ _ _ r h => by simp [number_leads.j0] at h, fun _ _ _ _ r h => by simp [number_leads.l0] at h⟩
 | k + 1 => by
  obtain ⟨ih0, ih1⟩ := number_leads.mono_l k
  refine ⟨?_, ?_⟩
  · intro y0 y1 y2 y3
    unfold number_leads.j0
    repeat' first
    | (with_reducible exact ih0 _ _ _ _)
    | (with_reducible exact ih1 _ _ _ _)
    | (with_reducible exact LeO.refl _)
    | (with_reducible exact LeO.none _)
    | (with_reducible refine LeO.ite ?_ ?_)
    | (with_reducible refine LeO.bind ?_ (fun _ => ?_))
    | exact ih0 _ _ _ _
    | exact ih1 _ _ _ _
    | exact LeO.none _
    | refine LeO.ite ?_ ?_
    | refine LeO.bind ?_ (fun _ => ?_)
  · intro y0 y1 y2 y3
    unfold number_leads.l0
    repeat' first
    | (with_reducible exact ih0 _ _ _ _)
    | (with_reducible exact ih1 _ _ _ _)
    | (with_reducible exact LeO.refl _)
    | (with_reducible exact LeO.none _)
    | (with_reducible refine LeO.ite ?_ ?_)
    | (with_reducible refine LeO.bind ?_ (fun _ => ?_))
    | exact ih0 _ _ _ _
    | exact ih1 _ _ _ _
    | exact LeO.none _
    | refine LeO.ite ?_ ?_
    | refine LeO.bind ?_ (fun _ => ?_)
theorem number_leads.mono : ∀ a0 a1 a2 a3 k, LeO (number_leads.f k a0 a1 a2 a3) (number_leads.f (k + 1) a0 a1 a2 a3) := by
 intro a0 a1 a2 a3 k
 obtain ⟨ih0, ih1⟩ := number_leads.mono_l k
 unfold number_leads.f
 repeat' first
  | (with_reducible exact ih0 _ _ _ _)
  | (with_reducible exact ih1 _ _ _ _)
  | (with_reducible exact LeO.refl _)
  | (with_reducible exact LeO.none _)
  | (with_reducible refine LeO.ite ?_ ?_)
  | (with_reducible refine LeO.bind ?_ (fun _ => ?_))
  | exact ih0 _ _ _ _
  | exact ih1 _ _ _ _
  | exact LeO.none _
  | refine LeO.ite ?_ ?_
  | refine LeO.bind ?_ (fun _ => ?_)
set_option maxHeartbeats 8000000 in
set_option maxRecDepth 100000 in
theorem number_leads.calls (k : Nat) (a0 : Int) (a1 : Bool) (a2 : Int) (a3 : Int) (r : Bool) (w : World) (h : number_leads.f k a0 a1 a2 a3 = some r) :
 Calls Tryz.prog 106 #[.int .i64 a0, .bool a1, .int .i64 a2, .int .i64 a3] w fun e w' => e = .returned (.bool r) ∧ Below w.heap.size w w' := by
 have HB := Aside0.mk (Below.refl w.heap.size w)
 have H : (if (mx a2 0) > a3 then (some false) else (if a1 = true then (number_leads.j0 k a0 (mx a2 0) a3 (a0 == 0)) else (number_leads.j0 k a0 (mx a2 0) a3 true))) = some r := h
 clear h
 obtain ⟨ji5, hji5⟩ : ∃ j_ : Int, (mx a2 0) = j_ := ⟨_, rfl⟩
 replace H : (if (ji5) > a3 then (some false) else (if a1 = true then (number_leads.j0 k a0 ji5 a3 (a0 == 0)) else (number_leads.j0 k a0 ji5 a3 true))) = some r := by first | (rw [hji5] at H; exact H) | (simp only [hji5] at H ⊢; exact H)
 (try (have hji5l : 0 ≤ ji5 := by (rw [← hji5]; unfold mx; (repeat' split) <;> omega)))
 (try (have hji5m : 0 ≤ ji5 := by omega))
 have hji5_ : (if a2 < 0 then 0 else a2) = ji5 := hji5
 by_cases c6 : (ji5) > a3
 · rw [if_pos c6] at H
   have c6b0 : decide (a3 < (ji5)) = true := decide_eq_true c6
   clear c6
   obtain rfl := Option.some.inj H
   go_enter Tryz.func106, Tryz.ntmps106
   go_wp2
   go_ret
   exact ⟨by first | rfl | (simp [aT, aS] <;> rfl) | (simp only [← hji5]; first | rfl | (simp [aT, aS] <;> rfl)) | (simp [*, aT, aS] <;> rfl), by repeat (first | (with_reducible first | exact HB.out | apply aL | apply aI | apply aK) | exact HB.out)⟩
 · rw [if_neg c6] at H
   have c6b0 : decide (a3 < (ji5)) = false := decide_eq_false c6
   clear c6
   have HC7 := Aside0.mk H
   clear H
   go_enter Tryz.func106, Tryz.ntmps106
   go_upto_region 4 with (fail)
   go_cut [21] (fun v21 wc => ∃ (kq : Nat) (x21_6 : Bool), v21 = .bool x21_6 ∧ Aside0 (number_leads.j0 kq a0 ji5 a3 x21_6 = some r) ∧ Aside0 (kq ≤ k) ∧ Aside0 (Below w.heap.size w wc))
   case first =>
    have H := HC7.out
    clear HC7
    by_cases c8 : a1 = true
    · subst c8
      have H1 : (number_leads.j0 k a0 ji5 a3 (a0 == 0)) = some r := by rw [if_pos rfl] at H; exact H
      clear H
      have H := H1
      clear H1
      have H' := Aside0.mk H
      clear H
      go_wp2
      go_meet
      case rel => exact ⟨_, ((a0 == 0)), (by first | rfl | (simp; done) | (simp [*]; done)), H', ⟨by first | omega | exact Nat.le_refl _⟩, ⟨by repeat (first | (with_reducible first | exact HB.out | apply aL | apply aI | apply aK) | exact HB.out)⟩⟩
    · replace c8 := Bool.eq_false_iff.mpr c8
      subst c8
      have H1 : (number_leads.j0 k a0 ji5 a3 true) = some r := by rw [if_neg (show ¬ (false = true) by decide)] at H; exact H
      clear H
      have H := H1
      clear H1
      have H' := Aside0.mk H
      clear H
      go_wp2
      go_meet
      case rel => exact ⟨_, (true), (by first | rfl | (simp; done) | (simp [*]; done)), H', ⟨by first | omega | exact Nat.le_refl _⟩, ⟨by repeat (first | (with_reducible first | exact HB.out | apply aL | apply aI | apply aK) | exact HB.out)⟩⟩
   case rest =>
    clear HC7
    try clear c1
    try clear p2
    try clear c6
    try clear c6b0
    try clear c8
    obtain ⟨kq, x21_6, rfl, HA, HJ6, HB⟩ := hcut
    cases kq with
    | zero => exact absurd HA.out (by simp [number_leads.j0])
    | succ kj6 =>
     have H := HA.out
     clear HA
     simp only [number_leads.j0] at H
     by_cases c9 : x21_6 = true
     · subst c9
       have H1 : (some (decide (ji5 ≤ 1000000000))) = some r := by rw [if_pos rfl] at H; exact H
       clear H
       have H := H1
       clear H1
       obtain rfl := Option.some.inj H
       go_wp2
       go_ret
       exact ⟨by first | rfl | (simp [aT, aS] <;> rfl) | (simp only [← hji5]; first | rfl | (simp [aT, aS] <;> rfl)) | (simp [*, aT, aS] <;> rfl), by repeat (first | (with_reducible first | exact HB.out | apply aL | apply aI | apply aK) | exact HB.out)⟩
     · replace c9 := Bool.eq_false_iff.mpr c9
       subst c9
       have H1 : (number_leads.l0 kj6 ji5 a3 a0 a0) = some r := by rw [if_neg (show ¬ (false = true) by decide)] at H; exact H
       clear H
       have H := H1
       clear H1
       have H' := Aside0.mk H
       clear H
       go_wp2
       go_loopg [9, 10] kj6 (fun kq v9 v10 w' => ∃ (x9_2 : Int) (x10_2 : Int), v9 = .int .i64 x9_2 ∧ v10 = .int .i64 x10_2 ∧ Aside0 (number_leads.l0 kq ji5 a3 x9_2 x10_2 = some r) ∧ Aside0 (kq ≤ kj6) ∧ Aside0 (Below w.heap.size w w'))
       case atStart => exact ⟨(a0), (a0), (by first | rfl | (simp; done) | (simp [*]; done)), (by first | rfl | (simp; done) | (simp [*]; done)), H', ⟨Nat.le_refl _⟩, ⟨by repeat (first | (with_reducible first | exact HB.out | apply aL | apply aI | apply aK) | exact HB.out)⟩⟩
       case round =>
        clear H'
        try clear c1
        try clear p2
        try clear c6
        try clear c6b0
        try clear c8
        try clear c9
        try clear p2
        obtain ⟨x9_2, x10_2, rfl, rfl, HA, HK2, HB⟩ := hrel
        cases gk with
        | zero => exact absurd HA.out (by simp [number_leads.l0])
        | succ k2 =>
         have H := HA.out
         clear HA
         simp only [number_leads.l0] at H
         by_cases c10 : x9_2 ≤ 1000000000
         · rw [if_pos c10] at H
           have c10b0 : decide (x9_2 ≤ 1000000000) = true := decide_eq_true c10
           clear c10
           obtain ⟨ji11, hji11⟩ : ∃ j_ : Int, (mx x9_2 ji5) = j_ := ⟨_, rfl⟩
           replace H : (if (ji11) ≤ (mn (mn x10_2 a3) 1000000000) then (some true) else (number_leads.l0 k2 ji5 a3 (wrap64 (10 * x9_2)) (wrap64 ((wrap64 (10 * x10_2)) + 9)))) = some r := by first | (rw [hji11] at H; exact H) | (simp only [hji11] at H ⊢; exact H)
           have hji11_ : (if x9_2 < ji5 then ji5 else x9_2) = ji11 := hji11
           obtain ⟨ji12, hji12⟩ : ∃ j_ : Int, (mn x10_2 a3) = j_ := ⟨_, rfl⟩
           replace H : (if (ji11) ≤ (mn (ji12) 1000000000) then (some true) else (number_leads.l0 k2 ji5 a3 (wrap64 (10 * x9_2)) (wrap64 ((wrap64 (10 * x10_2)) + 9)))) = some r := by first | (rw [hji12] at H; exact H) | (simp only [hji12] at H ⊢; exact H)
           have hji12_ : (if a3 < x10_2 then a3 else x10_2) = ji12 := hji12
           obtain ⟨ji13, hji13⟩ : ∃ j_ : Int, (mn (ji12) 1000000000) = j_ := ⟨_, rfl⟩
           replace H : (if (ji11) ≤ (ji13) then (some true) else (number_leads.l0 k2 ji5 a3 (wrap64 (10 * x9_2)) (wrap64 ((wrap64 (10 * x10_2)) + 9)))) = some r := by first | (rw [hji13] at H; exact H) | (simp only [hji13] at H ⊢; exact H)
           have hji13_ : (if 1000000000 < (ji12) then 1000000000 else (ji12)) = ji13 := hji13
           by_cases c14 : (ji11) ≤ (ji13)
           · rw [if_pos c14] at H
             have c14b0 : decide ((ji11) ≤ (ji13)) = true := decide_eq_true c14
             clear c14
             obtain rfl := Option.some.inj H
             go_wp2
             go_ret
             exact ⟨by first | rfl | (simp [aT, aS] <;> rfl) | (simp only [← hji5, ← hji11, ← hji12, ← hji13]; first | rfl | (simp [aT, aS] <;> rfl)) | (simp [*, aT, aS] <;> rfl), by repeat (first | (with_reducible first | exact HB.out | apply aL | apply aI | apply aK) | exact HB.out)⟩
           · rw [if_neg c14] at H
             have c14b0 : decide ((ji11) ≤ (ji13)) = false := decide_eq_false c14
             clear c14
             have H' := Aside0.mk H
             clear H
             go_wp2
             go_roundg k2
             case measure => have := HJ6.out; have := HK2.out; omega
             case rel => exact ⟨(wrap64 (10 * x9_2)), (wrap64 ((wrap64 (10 * x10_2)) + 9)), (by first | rfl | (simp; done) | (simp [*]; done)), (by first | rfl | (simp; done) | (simp [*]; done)), H', ⟨by have := HJ6.out; have := HK2.out; omega⟩, ⟨by repeat (first | (with_reducible first | exact HB.out | apply aL | apply aI | apply aK) | exact HB.out)⟩⟩
         · rw [if_neg c10] at H
           have c10b0 : decide (x9_2 ≤ 1000000000) = false := decide_eq_false c10
           clear c10
           by_cases c15 : ji5 ≤ 1000000000
           · rw [if_pos c15] at H
             have c15b0 : decide (ji5 ≤ 1000000000) = true := decide_eq_true c15
             clear c15
             obtain rfl := Option.some.inj H
             go_wp2
             go_ret
             exact ⟨by first | rfl | (simp [aT, aS] <;> rfl) | (simp only [← hji5]; first | rfl | (simp [aT, aS] <;> rfl)) | (simp [*, aT, aS] <;> rfl), by repeat (first | (with_reducible first | exact HB.out | apply aL | apply aI | apply aK) | exact HB.out)⟩
           · rw [if_neg c15] at H
             have c15b0 : decide (ji5 ≤ 1000000000) = false := decide_eq_false c15
             clear c15
             obtain rfl := Option.some.inj H
             go_wp2
             go_ret
             exact ⟨by first | rfl | (simp [aT, aS] <;> rfl) | (simp only [← hji5]; first | rfl | (simp [aT, aS] <;> rfl)) | (simp [*, aT, aS] <;> rfl), by repeat (first | (with_reducible first | exact HB.out | apply aL | apply aI | apply aK) | exact HB.out)⟩
end Go.Proofs.YthdncmagfgoboaaGreatDoor.XN1
end

section
namespace Go.Proofs.YthdncmagfgoboaaGreatDoor
open Go.RowKit
open Go.Proofs.YthdncmagfgoboaaGreatDoorW.PrintWords (mx mn Drawn0)
set_option maxRecDepth 100000
set_option maxHeartbeats 4000000
def NumC (tv : Value) (n : Num.St) : Array Value := #[tv, .int .i64 n.at_, .int .u64 n.m, .int .i64 n.zeros, .int .i64 n.behind, .bool n.below, .int .i64 n.e]
def bH (w : World) (b : Nat) (tv : Value) (n : Num.St) : Prop := w.heap[b]? = some (.cells (NumC tv n) 114 (0, 0))
theorem sV (a x : Nat) (ha : a ≤ 8) : ∃ r : Int, XN1.number_next.f 5 a x = some (r, (Num.next a x).isSome) ∧ (∀ p : Nat, Num.next a x = some p → r = p) := by
 have e43 : ((x : Int) == 43) = decide (x = 43) := by rw [Bool.eq_iff_iff]; simp; omega
 have e69 : ((x : Int) == 69) = decide (x = 69) := by rw [Bool.eq_iff_iff]; simp; omega
 have e45 : ((x : Int) = 45) = (x = 45) := by simp; omega
 have e48 : ((x : Int) = 48) = (x = 48) := by simp; omega
 have e46 : ((x : Int) = 46) = (x = 46) := by simp; omega
 have e101 : ((x : Int) = 101) = (x = 101) := by simp; omega
 have e43' : ((x : Int) = 43) = (x = 43) := by simp; omega
 have g48 : ((x : Int) ≥ 48) = (48 ≤ x) := by simp; omega
 have g57 : ((x : Int) ≤ 57) = (x ≤ 57) := by simp; omega
 have hc : a = 0 ∨ a = 1 ∨ a = 2 ∨ a = 3 ∨ a = 4 ∨ a = 5 ∨ a = 6 ∨ a = 7 ∨ a = 8 := by omega
 unfold XN1.number_next.f Num.next
 simp only [XN1.number_next.j0, XN1.number_next.j1, e43, e69, e45, e48, e46, e101, e43', g48, g57]
 rcases hc with rfl | rfl | rfl | rfl | rfl | rfl | rfl | rfl | rfl
 all_goals
  simp
  try (by_cases h1 : 48 ≤ x <;> by_cases h2 : x ≤ 57 <;> by_cases h3 : x = 45 <;> by_cases h4 : x = 46 <;> by_cases h5 : x = 101 <;> by_cases h6 : x = 69 <;> by_cases h7 : x = 43 <;> by_cases h8 : x = 48 <;> first | (exfalso; omega) | (simp [h1, h2, h3, h4, h5, h6, h7, h8]; done) | (subst x; simp; done) | skip)
theorem fX (a b : Int) (ha : 0 ≤ a) (hb : b ≤ 10000000) : ∀ (f low high : Nat), 1 ≤ low → high < 2 * low → b < low → Num.far < low * 10 ^ f →
 XN1.number_leads.l0 (f + 1) a b low high = some false
 | 0, low, high, h1, h2, h3, h4 => by
  unfold XN1.number_leads.l0
  rw [if_neg (by unfold Num.far at h4; omega)]
  split
  · rw [decide_eq_false (by omega)]
  · rfl
 | f + 1, low, high, h1, h2, h3, h4 => by
  unfold XN1.number_leads.l0
  by_cases hl : (low : Int) ≤ 1000000000
  · rw [if_pos hl, if_neg (by unfold mx mn; split <;> split <;> (try split) <;> omega)]
    have e1 : wrap64 (10 * (low : Int)) = ((10 * low : Nat) : Int) := by unfold wrap64; omega
    have e2 : wrap64 (wrap64 (10 * (high : Int)) + 9) = ((10 * high + 9 : Nat) : Int) := by unfold wrap64; omega
    rw [e1, e2]
    exact fX a b ha hb f (10 * low) (10 * high + 9) (by omega) (by omega) (by omega) (by rw [Nat.pow_succ] at h4; rw [show 10 * low * 10 ^ f = low * (10 ^ f * 10) by rw [Nat.mul_comm 10 low, Nat.mul_assoc, Nat.mul_comm 10]]; exact h4)
  · rw [if_neg hl]
    split
    · rw [decide_eq_false (by omega)]
    · rfl
theorem jO (a b : Int) (ha : 0 ≤ a) (hab : a ≤ b) (hb : b ≤ 10000000) : ∀ (f low high : Nat), 1 ≤ low → low ≤ high → high < 2 * low → Num.far < low * 10 ^ f →
 XN1.number_leads.l0 (f + 1) a b low high = some (Num.meets f low high a b)
 | 0, low, high, h1, h0, h2, h4 => by
  rw [fX a b ha hb 0 low high h1 h2 (by unfold Num.far at h4; omega) h4]
  rfl
 | f + 1, low, high, h1, h0, h2, h4 => by
  by_cases h3 : b < low
  · rw [fX a b ha hb (f + 1) low high h1 h2 h3 h4]
    unfold Num.meets
    rw [if_neg (by omega)]
  · unfold XN1.number_leads.l0 Num.meets
    have p1 : (low : Int) ≤ 1000000000 := by omega
    have p2 : (low : Int) ≤ b := by omega
    rw [if_pos p1, if_pos p2]
    by_cases h5 : a ≤ (high : Int)
    · rw [if_pos h5, if_pos (by unfold mx mn; split <;> split <;> (try split) <;> omega)]
    · rw [if_neg h5, if_neg (by unfold mx mn; split <;> split <;> (try split) <;> omega)]
      have e1 : wrap64 (10 * (low : Int)) = ((10 * low : Nat) : Int) := by unfold wrap64; omega
      have e2 : wrap64 (wrap64 (10 * (high : Int)) + 9) = ((10 * high + 9 : Nat) : Int) := by unfold wrap64; omega
      rw [e1, e2]
      exact jO a b ha hab hb f (10 * low) (10 * high + 9) (by omega) (by omega) (by omega) (by rw [Nat.pow_succ] at h4; rw [show 10 * low * 10 ^ f = low * (10 ^ f * 10) by rw [Nat.mul_comm 10 low, Nat.mul_assoc, Nat.mul_comm 10]]; exact h4)
theorem wU (e : Nat) (begun : Bool) (a b : Int) (he : e ≤ 1000000000) (ha : -10000000 ≤ a) (ha' : a ≤ 10000000) (hb : b ≤ 10000000) :
 XN1.number_leads.f 15 e begun a b = some (Num.leads e begun a b) := by
 have hm : mx a 0 = max a 0 := by unfold mx; split <;> omega
 unfold XN1.number_leads.f Num.leads
 rw [hm]
 by_cases h1 : b < max a 0
 · rw [if_pos (by omega), if_pos h1]
 · rw [if_neg (by omega), if_neg h1]
   cases begun with
   | false =>
    rw [if_neg (by simp), if_pos (Or.inl rfl)]
    simp only [XN1.number_leads.j0, if_true]
    rw [decide_eq_true (by omega)]
   | true =>
    rw [if_pos rfl]
    simp only [XN1.number_leads.j0]
    by_cases h2 : e = 0
    · rw [if_pos (by rw [h2]; rfl), if_pos (Or.inr h2), decide_eq_true (by omega)]
    · rw [if_neg (by simpa using h2), if_neg (by simp [h2])]
      rw [show (14 : Nat) = 13 + 1 from rfl]
      have hx := jO (max a 0) b (by omega) (by omega) hb 12 e e (by omega) (Nat.le_refl _) (by omega) (by unfold Num.far; omega)
      exact (XN1.number_leads.mono_l 13).2 (max a 0) b e e _ hx
end Go.Proofs.YthdncmagfgoboaaGreatDoor
end

section
namespace Go.Proofs.YthdncmagfgoboaaGreatDoor
open Go.RowKit
open Go.Proofs.YthdncmagfgoboaaGreatDoorW.PrintWords (mx mn Drawn0)
set_option maxRecDepth 100000
set_option maxHeartbeats 4000000
theorem jC {w w' : World} (h : Drawn0 w w') : Touch [] w w' := by
 obtain ⟨n, rfl⟩ := h.out
 exact (Touch.refl _ _).drewN n
theorem next_no (a x : Nat) (w : World) (ha : a ≤ 8) (h : Num.next a x = none) :
 Calls Tryz.prog 77 #[.int .i64 a, .int .u8 x] w fun e w' => (∃ r : Int, e = .returned (.tuple #[.int .i64 r, .bool false])) ∧ Drawn0 w w' := by
 obtain ⟨r, hr, _⟩ := sV a x ha
 rw [h] at hr
 exact (XN1.number_next.calls 5 a x r false w hr).mono fun _ _ h => ⟨⟨r, h.1⟩, h.2⟩
theorem wK (a x p : Nat) (w : World) (ha : a ≤ 8) (h : Num.next a x = some p) :
 Calls Tryz.prog 77 #[.int .i64 a, .int .u8 x] w fun e w' => e = .returned (.tuple #[.int .i64 p, .bool true]) ∧ Drawn0 w w' := by
 obtain ⟨r, hr, h2⟩ := sV a x ha
 have := h2 p h
 subst this
 rw [h] at hr
 exact XN1.number_next.calls 5 a x _ true w hr
theorem nA (b : Nat) (tv : Value) (n : Num.St) (w : World) (hN : bH w b tv n) (ok : n.Okz) :
 Calls Tryz.prog 104 #[.pointer (some ⟨b, 0, none⟩)] w fun e w' => e = .returned (.int .i64 (Num.least n)) ∧ ∃ k, w' = w.drewN k := by
 have o1 := ok.zeros
 have o2 := ok.behind
 unfold bH at hN
 have ⟨c0,c1,c2,c3,c4,c5,c6⟩ := cs7 hN
 have lb := aB hN
 try simp [NumC] at c0 c1 c2 c3 c4 c5 c6
 clear hN
 refine aA Tryz.func104 rfl ?_
 intro Q_ hQ_
 simp only [Tryz.ntmps104, ents_, Nat.reduceAdd, Nat.reduceSub]
 go_wp2
 go_quiet (fail)
 go_wp2
 refine hQ_.ret (results_tmp rfl _ _ _) rfl ?_
 exact ⟨rfl, _, rfl⟩
theorem wM (b : Nat) (tv : Value) (n : Num.St) (w : World) (hN : bH w b tv n) (ok : n.Ok) (hm : 0 < n.m) :
 Calls Tryz.prog 105 #[.pointer (some ⟨b, 0, none⟩)] w fun e w' => e = .returned (.int .i64 (Num.most n.m : Nat)) ∧ w' = w := by
 have o1 := ok.m
 unfold Num.maxW at o1
 unfold bH at hN
 have ⟨c0,c1,c2,c3,c4,c5,c6⟩ := cs7 hN
 have lb := aB hN
 try simp [NumC] at c0 c1 c2 c3 c4 c5 c6
 clear hN
 have hR : Box (Num.most n.m = Num.mostN 16 n.m) := ⟨rfl⟩
 refine aA Tryz.func105 rfl ?_
 intro Q_ hQ_
 simp only [Tryz.ntmps105, ents_, Nat.reduceAdd, Nat.reduceSub]
 go_wp2
 go_loop [3, 4] (fun k v => ∃ (i M : Nat), i ≤ 16 ∧ k = .int .i64 i ∧ v = .int .u64 M ∧ M ≤ 9007199254740991 ∧ 0 < M ∧ Box (i + Num.mostN (16 - i) M = Num.most n.m) ∧ Box (10 ^ i ≤ M)) (fun _ v => (9007199254740992 - (intOf v).toNat))
 case atStart => exact ⟨0, n.m, by omega, rfl, rfl, o1, hm, ⟨by rw [hR.out]; simp⟩, ⟨by rw [Nat.pow_zero]; exact hm⟩⟩
 case round =>
  obtain ⟨i, M, hi, rfl, rfl, hM, hM0, hrel, hpow⟩ := hrel
  have hi15 : i ≤ 15 := by
   have h1 := hpow.out
   rcases Nat.lt_or_ge i 16 with h2 | h2
   · omega
   · have h3 : 10 ^ 16 ≤ 10 ^ i := Nat.pow_le_pow_right (by omega) h2
     omega
  obtain ⟨f, hf⟩ : ∃ f, 16 - i = f + 1 := ⟨15 - i, by omega⟩
  by_cases h1 : M ≤ 900719925474099
  · have hn : Box ((i + 1) + Num.mostN (16 - (i + 1)) (10 * M) = Num.most n.m) := ⟨by
     rw [← hrel.out, hf, show 16 - (i + 1) = f by omega]
     conv => rhs; unfold Num.mostN
     rw [if_pos h1]
     omega⟩
    have hp : Box (10 ^ (i + 1) ≤ 10 * M) := ⟨by rw [Nat.pow_succ]; have := hpow.out; omega⟩
    clear hf
    go_wp2
    go_round
    case measure => simp [intOf]; omega
    case rel => exact ⟨i + 1, 10 * M, by omega, by go_num, by congr 1; omega, by omega, by omega, hn, hp⟩
  · have hn : Box (i = Num.most n.m) := ⟨by
     rw [← hrel.out, hf]
     unfold Num.mostN
     rw [if_neg h1]
     omega⟩
    clear hf
    go_wp2
    refine hQ_.ret (results_tmp rfl _ _ _) rfl ?_
    exact ⟨by rw [hn.out]; rfl, rfl⟩
theorem rJ (b : Nat) (tv : Value) (n : Num.St) (w : World) (hN : bH w b tv n) (ok : n.Okz) :
 Calls Tryz.prog 107 #[.pointer (some ⟨b, 0, none⟩)] w fun e w' => e = .returned (.bool (Num.stands n)) ∧ ∃ k, w' = w.drewN k := by
 have o1 := ok.zeros
 have o2 := ok.behind
 have o3 := ok.e
 unfold Num.far at o3
 have hl := nA b tv n w hN ok
 have hlb : -1000000 ≤ Num.least n ∧ Num.least n ≤ 1000000 := by unfold Num.least; omega
 obtain ⟨L, hL⟩ : ∃ L, L = Num.least n := ⟨_, rfl⟩
 rw [← hL] at hl hlb
 replace hL : Box (L = Num.least n) := ⟨hL⟩
 obtain ⟨hl1, hl2⟩ := hlb
 unfold bH at hN
 have ⟨c0,c1,c2,c3,c4,c5,c6⟩ := cs7 hN
 have lb := aB hN
 try simp [NumC] at c0 c1 c2 c3 c4 c5 c6
 cases hb : n.below with
 | true =>
  rw [hb] at c5
  have hr : Box (Num.stands n = decide (L ≤ -(n.e : Int))) := ⟨by unfold Num.stands; rw [hb, hL.out]; rfl⟩
  clear hN hb
  refine aA Tryz.func107 rfl ?_
  intro Q_ hQ_
  simp only [Tryz.ntmps107, ents_, Nat.reduceAdd, Nat.reduceSub]
  go_wp2_with fail
  refine hl.mono ?_
  rintro e w1 ⟨rfl, k, rfl⟩
  try go_simp
  go_wp2
  refine hQ_.ret (results_tmp rfl _ _ _) rfl ?_
  exact ⟨by rw [hr.out]; rfl, _, rfl⟩
 | false =>
  rw [hb] at c5
  have hr : Box (Num.stands n = decide (L ≤ (n.e : Int))) := ⟨by unfold Num.stands; rw [hb, hL.out]; rfl⟩
  clear hN hb
  refine aA Tryz.func107 rfl ?_
  intro Q_ hQ_
  simp only [Tryz.ntmps107, ents_, Nat.reduceAdd, Nat.reduceSub]
  go_wp2_with fail
  refine hl.mono ?_
  rintro e w1 ⟨rfl, k, rfl⟩
  try go_simp
  go_wp2
  refine hQ_.ret (results_tmp rfl _ _ _) rfl ?_
  exact ⟨by rw [hr.out]; rfl, _, rfl⟩
theorem dW (b : Nat) (tv : Value) (n : Num.St) (w : World) (hN : bH w b tv n) (ok : n.Okz) :
 Calls Tryz.prog 80 #[.pointer (some ⟨b, 0, none⟩)] w fun e w' => e = .returned (.int .i64 (Num.why n : Nat)) ∧ ∃ k, w' = w.drewN k := by
 have hs := rJ b tv n w hN ok
 cases hb : Num.stands n with
 | true =>
  rw [hb] at hs
  have hr : Box (Num.why n = 8) := ⟨by unfold Num.why; rw [hb]; rfl⟩
  clear hb
  refine aA Tryz.func80 rfl ?_
  intro Q_ hQ_
  simp only [Tryz.ntmps80, ents_, Nat.reduceAdd, Nat.reduceSub]
  go_wp2_with fail
  refine hs.mono ?_
  rintro e w1 ⟨rfl, k, rfl⟩
  try go_simp
  go_wp2
  refine hQ_.ret (results_tmp rfl _ _ _) rfl ?_
  exact ⟨by rw [hr.out]; rfl, _, rfl⟩
 | false =>
  rw [hb] at hs
  have hr : Box (Num.why n = 7) := ⟨by unfold Num.why; rw [hb]; rfl⟩
  clear hb
  refine aA Tryz.func80 rfl ?_
  intro Q_ hQ_
  simp only [Tryz.ntmps80, ents_, Nat.reduceAdd, Nat.reduceSub]
  go_wp2_with fail
  refine hs.mono ?_
  rintro e w1 ⟨rfl, k, rfl⟩
  try go_simp
  go_wp2
  refine hQ_.ret (results_tmp rfl _ _ _) rfl ?_
  exact ⟨by rw [hr.out]; rfl, _, rfl⟩
theorem uI (e : Nat) (begun : Bool) (a b : Int) (w : World) (he : e ≤ 1000000000) (ha : -10000000 ≤ a) (ha' : a ≤ 10000000) (hb : b ≤ 10000000) :
 Calls Tryz.prog 106 #[.int .i64 e, .bool begun, .int .i64 a, .int .i64 b] w fun r w' => r = .returned (.bool (Num.leads e begun a b)) ∧ Touch [] w w' :=
 (XN1.number_leads.calls 15 e begun a b (Num.leads e begun a b) w (wU e begun a b he ha ha' hb)).mono fun _ _ h => ⟨h.1, Touch.of_below h.2 _⟩
theorem gI (b : Nat) (tv : Value) (n : Num.St) (w : World) (hN : bH w b tv n) (ok : n.Ok) :
 Calls Tryz.prog 79 #[.pointer (some ⟨b, 0, none⟩)] w fun e w' => e = .returned (.bool (Num.may n)) ∧ Touch [] w w' := by
 have o1 := ok.zeros
 have o2 := ok.behind
 have o3 := ok.e
 have o4 := ok.at_
 unfold Num.far at o3
 have hl := fun w hN => nA b tv n w hN ok.z
 have hm := fun w hN hm => wM b tv n w hN ok hm
 have hlb : -1000000 ≤ Num.least n ∧ Num.least n ≤ 1000000 := by unfold Num.least; omega
 have hmb : Num.most n.m ≤ 16 := Num.most_le _
 by_cases h0 : n.m = 0
 · have t0 : ((n.m : Int) == 0) = true := by rw [h0]; rfl
   have hr : Box (Num.may n = true) := ⟨by unfold Num.may; rw [if_pos (Or.inl h0)]⟩
   unfold bH at hN
   have ⟨c0,c1,c2,c3,c4,c5,c6⟩ := cs7 hN
   have lb := aB hN
   try simp [NumC] at c0 c1 c2 c3 c4 c5 c6
   clear hN h0 hl hm
   refine aA Tryz.func79 rfl ?_
   intro Q_ hQ_
   simp only [Tryz.ntmps79, ents_, Nat.reduceAdd, Nat.reduceSub]
   go_wp2
   refine hQ_.ret (results_tmp rfl _ _ _) rfl ?_
   exact ⟨by rw [hr.out]; rfl, Touch.refl _ _⟩
 have t0 : ((n.m : Int) == 0) = false := by simpa using h0
 by_cases h1 : n.at_ < 7
 · have hr : Box (Num.may n = true) := ⟨by unfold Num.may; rw [if_pos (Or.inr h1)]⟩
   unfold bH at hN
   have ⟨c0,c1,c2,c3,c4,c5,c6⟩ := cs7 hN
   have lb := aB hN
   try simp [NumC] at c0 c1 c2 c3 c4 c5 c6
   clear hN h0 hl hm
   refine aA Tryz.func79 rfl ?_
   intro Q_ hQ_
   simp only [Tryz.ntmps79, ents_, Nat.reduceAdd, Nat.reduceSub]
   go_wp2
   refine hQ_.ret (results_tmp rfl _ _ _) rfl ?_
   exact ⟨by rw [hr.out]; rfl, Touch.refl _ _⟩
 replace hm := fun w hN => hm w hN (Nat.pos_of_ne_zero h0)
 have hc : Box (Num.may n = if n.below = true then Num.leads n.e (n.at_ == 8) (-(Num.least n + Num.most n.m)) (-(Num.least n)) else Num.leads n.e (n.at_ == 8) (Num.least n) (Num.least n + Num.most n.m)) := ⟨by
  unfold Num.may; rw [if_neg (by omega)]⟩
 obtain ⟨L, hL⟩ : ∃ L, L = Num.least n := ⟨_, rfl⟩
 obtain ⟨M, hM⟩ : ∃ M, M = Num.most n.m := ⟨_, rfl⟩
 rw [← hL] at hl hlb hc
 rw [← hM] at hm hmb hc
 obtain ⟨hl1, hl2⟩ := hlb
 have h8 : ((n.at_ : Int) == 8) = (n.at_ == 8) := by rw [Bool.eq_iff_iff]; simp; omega
 have ed := fun a b w h1 h2 h3 => uI n.e (n.at_ == 8) a b w o3 h1 h2 h3
 clear hL hM h0
 have hld := hl w hN
 have hk := fun k => hm (w.drewN k) hN
 unfold bH at hN
 have hcl : ∀ w', Touch [] w w' → ∀ i, w'.cell? ⟨b, i, none⟩ = (NumC tv n)[i]? := fun w' h => aN (h.keep hN (by simp))
 simp only [NumC] at hcl
 cases hb : n.below with
 | true =>
  rw [hb, if_pos rfl] at hc
  have ⟨c0,c1,c2,c3,c4,c5,c6⟩ := cs7 hN
  have lb := aB hN
  try simp [NumC] at c0 c1 c2 c3 c4 c5 c6
  rw [hb] at c5
  rw [hb] at hcl
  clear hN hb hl hm
  refine aA Tryz.func79 rfl ?_
  intro Q_ hQ_
  simp only [Tryz.ntmps79, ents_, Nat.reduceAdd, Nat.reduceSub]
  go_wp2_with fail
  refine hld.mono ?_
  rintro e w1 ⟨rfl, k, rfl⟩
  try go_simp
  go_wp2_with fail
  refine (hk _).mono ?_
  rintro e w1 ⟨rfl, rfl⟩
  try go_simp
  go_upto_region 7 with (fail)
  go_region_held3 (fun w' => Touch [] w w')
   (first | exact Touch.drew (Touch.drewN (Touch.refl _ _) _) | exact Touch.trans (by assumption) ht9)
   (first | (go_at_call 106; (with_reducible refine (ed _ _ _ (by omega) (by omega) (by omega)).mono ?_); rintro e w9 ⟨rfl, ht9⟩; have hT9 : Touch [] w w9 := Touch.trans (by assumption) ht9))
  all_goals
   go_wp2_with fail
   refine hQ_.ret (results_tmp rfl _ _ _) rfl ?_
   exact ⟨by rw [hc.out]; rfl, hT9⟩
 | false =>
  rw [hb, if_neg (by simp)] at hc
  have ⟨c0,c1,c2,c3,c4,c5,c6⟩ := cs7 hN
  have lb := aB hN
  try simp [NumC] at c0 c1 c2 c3 c4 c5 c6
  rw [hb] at c5
  rw [hb] at hcl
  clear hN hb hl hm
  refine aA Tryz.func79 rfl ?_
  intro Q_ hQ_
  simp only [Tryz.ntmps79, ents_, Nat.reduceAdd, Nat.reduceSub]
  go_wp2_with fail
  refine hld.mono ?_
  rintro e w1 ⟨rfl, k, rfl⟩
  try go_simp
  go_wp2_with fail
  refine (hk _).mono ?_
  rintro e w1 ⟨rfl, rfl⟩
  try go_simp
  go_upto_region 7 with (fail)
  go_region_held3 (fun w' => Touch [] w w')
   (first | exact Touch.drew (Touch.drewN (Touch.refl _ _) _) | exact Touch.trans (by assumption) ht9)
   (first | (go_at_call 106; (with_reducible refine (ed _ _ _ (by omega) (by omega) (by omega)).mono ?_); rintro e w9 ⟨rfl, ht9⟩; have hT9 : Touch [] w w9 := Touch.trans (by assumption) ht9))
  all_goals
   go_wp2_with fail
   refine hQ_.ret (results_tmp rfl _ _ _) rfl ?_
   exact ⟨by rw [hc.out]; rfl, hT9⟩
end Go.Proofs.YthdncmagfgoboaaGreatDoor
end
