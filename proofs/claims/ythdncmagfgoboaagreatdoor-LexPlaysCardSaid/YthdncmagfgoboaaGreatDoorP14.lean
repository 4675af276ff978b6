/- One of the texts that lead to the theorem lexPlays.proved: the conditions stand in each theorem. -/
import Derived.Test.YthdncmagfgoboaaGreatDoorP13
set_option linter.unusedSimpArgs false
set_option linter.unusedVariables false
namespace Go.Proofs.YthdncmagfgoboaaGreatDoor.XN2
open Go.RowKit Go.Proofs.YthdncmagfgoboaaGreatDoorW.PrintWords Go.Proofs.YthdncmagfgoboaaGreatDoorW.PrintLast Go.Proofs.YthdncmagfgoboaaGreatDoorW.PrintMore
attribute [local go_sem] yC yA yE yD xY xX yB xZ   -- for this text's walks alone
mutual
def orthoepyref11_cut.j0 : Nat → ByteArray → Int → Bool → ByteArray → Int → Bool → Int → ByteArray → Option (ByteArray × Int × Bool × Int × ByteArray × Bool)
 | 0, _, _, _, _, _, _, _, _ => none
 | k + 1, x0, x5, x17, x103000, x103001, x103002, x103003, x103004 => if x17 = true then (orthoepyref11_cut.j1 k x0 (wrap64 (x5 + 1)) x103000 x103001 x103002 x103003 x103004) else (orthoepyref11_cut.j1 k x0 x5 x103000 x103001 x103002 x103003 x103004)
def orthoepyref11_cut.j1 : Nat → ByteArray → Int → ByteArray → Int → Bool → Int → ByteArray → Option (ByteArray × Int × Bool × Int × ByteArray × Bool)
 | 0, _, _, _, _, _, _, _ => none
 | k + 1, x0, x5, x103000, x103001, x103002, x103003, x103004 => orthoepyref11_cut.l0 k x0 x5 x5 x103000 x103001 x103002 x103003 x103004
def orthoepyref11_cut.j3 : Nat → ByteArray → Int → Int → ByteArray → Int → Bool → Int → ByteArray → Option (ByteArray × Int × Bool × Int × ByteArray × Bool)
 | 0, _, _, _, _, _, _, _, _ => none
 | k + 1, x0, x5, x6, x103000, x103001, x103002, x103003, x103004 => if (wrap64 (x5 - x6)) > 1 then (if 0 ≤ x6 then (if x6 < (x0.size : Int) then (orthoepyref11_cut.j4 k x0 x5 x6 ((bt x0 x6) == 48) x103000 x103001 x103002 x103003 x103004) else (none)) else (none)) else (orthoepyref11_cut.j4 k x0 x5 x6 false x103000 x103001 x103002 x103003 x103004)
def orthoepyref11_cut.j4 : Nat → ByteArray → Int → Int → Bool → ByteArray → Int → Bool → Int → ByteArray → Option (ByteArray × Int × Bool × Int × ByteArray × Bool)
 | 0, _, _, _, _, _, _, _, _, _ => none
 | k + 1, x0, x5, x6, x48, x103000, x103001, x103002, x103003, x103004 => if x48 = true then (some (x103000, x103001, x103002, x103003, x103004, false)) else (if 0 ≤ x6 then (if x6 ≤ x5 then (if x5 ≤ (x0.size : Int) then (if x5 = (x0.size : Int) then (some (x0.extract (x6 : Int).toNat (x5 : Int).toNat, x103001, x103002, x103003, x103004, true)) else (if ((x0.extract (x6 : Int).toNat (x5 : Int).toNat).size : Int) = 0 then (some (x0.extract (x6 : Int).toNat (x5 : Int).toNat, x103001, x103002, x103003, x103004, false)) else (if 0 ≤ x5 then (if x5 < (x0.size : Int) then (if (bt x0 x5) = 46 then (orthoepyref11_cut.l1 k x0 (wrap64 (x5 + 1)) (wrap64 (x5 + 1)) (x0.extract (x6 : Int).toNat (x5 : Int).toNat) x103001 x103002 x103003 x103004) else (orthoepyref11_cut.j7 k x0 x5 (x0.extract (x6 : Int).toNat (x5 : Int).toNat) x103001 x103002 x103003 x103004)) else (none)) else (none)))) else (none)) else (none)) else (none))
def orthoepyref11_cut.j7 : Nat → ByteArray → Int → ByteArray → Int → Bool → Int → ByteArray → Option (ByteArray × Int × Bool × Int × ByteArray × Bool)
 | 0, _, _, _, _, _, _, _ => none
 | k + 1, x0, x5, x103000, x103001, x103002, x103003, x103004 => if 0 ≤ x5 then (if x5 < (x0.size : Int) then (if (bt x0 x5) = 101 then (orthoepyref11_cut.j8 k x0 x5 false x103000 x103001 x103002 x103003 x103004) else (orthoepyref11_cut.j8 k x0 x5 ((bt x0 x5) != 69) x103000 x103001 x103002 x103003 x103004)) else (none)) else (none)
def orthoepyref11_cut.j8 : Nat → ByteArray → Int → Bool → ByteArray → Int → Bool → Int → ByteArray → Option (ByteArray × Int × Bool × Int × ByteArray × Bool)
 | 0, _, _, _, _, _, _, _, _ => none
 | k + 1, x0, x5, x120, x103000, x103001, x103002, x103003, x103004 => if x120 = true then (some (x103000, x103001, x103002, x103003, x103004, false)) else (if (wrap64 (x5 + 1)) < (x0.size : Int) then (if 0 ≤ (wrap64 (x5 + 1)) then (if (bt x0 (wrap64 (x5 + 1))) = 45 then (orthoepyref11_cut.j9 k x0 (wrap64 (x5 + 1)) true x103000 x103001 true x103003 x103004) else (orthoepyref11_cut.j9 k x0 (wrap64 (x5 + 1)) ((bt x0 (wrap64 (x5 + 1))) == 43) x103000 x103001 true x103003 x103004)) else (none)) else (orthoepyref11_cut.j9 k x0 (wrap64 (x5 + 1)) false x103000 x103001 true x103003 x103004))
def orthoepyref11_cut.j9 : Nat → ByteArray → Int → Bool → ByteArray → Int → Bool → Int → ByteArray → Option (ByteArray × Int × Bool × Int × ByteArray × Bool)
 | 0, _, _, _, _, _, _, _, _ => none
 | k + 1, x0, x5, x140, x103000, x103001, x103002, x103003, x103004 => if x140 = true then (if 0 ≤ x5 then (if x5 < (x0.size : Int) then (orthoepyref11_cut.j10 k x0 (wrap64 (x5 + 1)) x103000 x103001 x103002 (bt x0 x5) x103004) else (none)) else (none)) else (orthoepyref11_cut.j10 k x0 x5 x103000 x103001 x103002 x103003 x103004)
def orthoepyref11_cut.j10 : Nat → ByteArray → Int → ByteArray → Int → Bool → Int → ByteArray → Option (ByteArray × Int × Bool × Int × ByteArray × Bool)
 | 0, _, _, _, _, _, _, _ => none
 | k + 1, x0, x5, x103000, x103001, x103002, x103003, x103004 => if 0 ≤ x5 then (if x5 ≤ (x0.size : Int) then (orthoepyref11_cut.l2 k x0 x5 x103000 x103001 x103002 x103003 (x0.extract (x5 : Int).toNat x0.size)) else (none)) else (none)
def orthoepyref11_cut.l2 : Nat → ByteArray → Int → ByteArray → Int → Bool → Int → ByteArray → Option (ByteArray × Int × Bool × Int × ByteArray × Bool)
 | 0, _, _, _, _, _, _, _ => none
 | k + 1, x0, x5, x103000, x103001, x103002, x103003, x103004 => if x5 < (x0.size : Int) then (if 0 ≤ x5 then (if (bt x0 x5) < 48 then (some (x103000, x103001, x103002, x103003, x103004, false)) else (if (bt x0 x5) > 57 then (some (x103000, x103001, x103002, x103003, x103004, false)) else (orthoepyref11_cut.l2 k x0 (wrap64 (x5 + 1)) x103000 x103001 x103002 x103003 x103004))) else (none)) else (some (x103000, x103001, x103002, x103003, x103004, true))
def orthoepyref11_cut.j6 : Nat → ByteArray → Int → Int → ByteArray → Int → Bool → Int → ByteArray → Option (ByteArray × Int × Bool × Int × ByteArray × Bool)
 | 0, _, _, _, _, _, _, _, _ => none
 | k + 1, x0, x5, x6, x103000, x103001, x103002, x103003, x103004 => if 0 ≤ x6 then (if x6 ≤ x5 then (if x5 ≤ (x0.size : Int) then (if x103000.size + (x0.extract (x6 : Int).toNat (x5 : Int).toNat).size ≤ 9223372036854775807 then (if x5 = (x0.size : Int) then (some (x103000 ++ (x0.extract (x6 : Int).toNat (x5 : Int).toNat), wrap64 (x5 - x6), x103002, x103003, x103004, true)) else (if (wrap64 (x5 - x6)) = 0 then (some (x103000 ++ (x0.extract (x6 : Int).toNat (x5 : Int).toNat), wrap64 (x5 - x6), x103002, x103003, x103004, false)) else (orthoepyref11_cut.j7 k x0 x5 (x103000 ++ (x0.extract (x6 : Int).toNat (x5 : Int).toNat)) (wrap64 (x5 - x6)) x103002 x103003 x103004))) else (none)) else (none)) else (none)) else (none)
def orthoepyref11_cut.l1 : Nat → ByteArray → Int → Int → ByteArray → Int → Bool → Int → ByteArray → Option (ByteArray × Int × Bool × Int × ByteArray × Bool)
 | 0, _, _, _, _, _, _, _, _ => none
 | k + 1, x0, x5, x6, x103000, x103001, x103002, x103003, x103004 => if x5 < (x0.size : Int) then (if 0 ≤ x5 then (if (bt x0 x5) ≥ 48 then (if (bt x0 x5) ≤ 57 then (orthoepyref11_cut.l1 k x0 (wrap64 (x5 + 1)) x6 x103000 x103001 x103002 x103003 x103004) else (orthoepyref11_cut.j6 k x0 x5 x6 x103000 x103001 x103002 x103003 x103004)) else (orthoepyref11_cut.j6 k x0 x5 x6 x103000 x103001 x103002 x103003 x103004)) else (none)) else (orthoepyref11_cut.j6 k x0 x5 x6 x103000 x103001 x103002 x103003 x103004)
def orthoepyref11_cut.l0 : Nat → ByteArray → Int → Int → ByteArray → Int → Bool → Int → ByteArray → Option (ByteArray × Int × Bool × Int × ByteArray × Bool)
 | 0, _, _, _, _, _, _, _, _ => none
 | k + 1, x0, x5, x6, x103000, x103001, x103002, x103003, x103004 => if x5 < (x0.size : Int) then (if 0 ≤ x5 then (if (bt x0 x5) ≥ 48 then (if (bt x0 x5) ≤ 57 then (orthoepyref11_cut.l0 k x0 (wrap64 (x5 + 1)) x6 x103000 x103001 x103002 x103003 x103004) else (orthoepyref11_cut.j3 k x0 x5 x6 x103000 x103001 x103002 x103003 x103004)) else (orthoepyref11_cut.j3 k x0 x5 x6 x103000 x103001 x103002 x103003 x103004)) else (none)) else (orthoepyref11_cut.j3 k x0 x5 x6 x103000 x103001 x103002 x103003 x103004)
end
def orthoepyref11_cut.f (k : Nat) (a0 : ByteArray) : Option (ByteArray × Int × Bool × Int × ByteArray × Bool) := if 0 < (a0.size : Int) then (orthoepyref11_cut.j0 k a0 0 ((bt a0 0) == 45) (⟨#[]⟩ : ByteArray) 0 false 0 (⟨#[]⟩ : ByteArray)) else (orthoepyref11_cut.j0 k a0 0 false (⟨#[]⟩ : ByteArray) 0 false 0 (⟨#[]⟩ : ByteArray))
theorem orthoepyref11_cut.mono_l : ∀ k, (∀ y0 y1 y2 y3 y4 y5 y6 y7, LeO (orthoepyref11_cut.j0 k y0 y1 y2 y3 y4 y5 y6 y7) (orthoepyref11_cut.j0 (k + 1) y0 y1 y2 y3 y4 y5 y6 y7)) ∧ (∀ y0 y1 y2 y3 y4 y5 y6, LeO (orthoepyref11_cut.j1 k y0 y1 y2 y3 y4 y5 y6) (orthoepyref11_cut.j1 (k + 1) y0 y1 y2 y3 y4 y5 y6)) ∧ (∀ y0 y1 y2 y3 y4 y5 y6 y7, LeO (orthoepyref11_cut.j3 k y0 y1 y2 y3 y4 y5 y6 y7) (orthoepyref11_cut.j3 (k + 1) y0 y1 y2 y3 y4 y5 y6 y7)) ∧ (∀ y0 y1 y2 y3 y4 y5 y6 y7 y8, LeO (orthoepyref11_cut.j4 k y0 y1 y2 y3 y4 y5 y6 y7 y8) (orthoepyref11_cut.j4 (k + 1) y0 y1 y2 y3 y4 y5 y6 y7 y8)) ∧ (∀ y0 y1 y2 y3 y4 y5 y6, LeO (orthoepyref11_cut.j7 k y0 y1 y2 y3 y4 y5 y6) (orthoepyref11_cut.j7 (k + 1) y0 y1 y2 y3 y4 y5 y6)) ∧ (∀ y0 y1 y2 y3 y4 y5 y6 y7, LeO (orthoepyref11_cut.j8 k y0 y1 y2 y3 y4 y5 y6 y7) (orthoepyref11_cut.j8 (k + 1) y0 y1 y2 y3 y4 y5 y6 y7)) ∧ (∀ y0 y1 y2 y3 y4 y5 y6 y7, LeO (orthoepyref11_cut.j9 k y0 y1 y2 y3 y4 y5 y6 y7) (orthoepyref11_cut.j9 (k + 1) y0 y1 y2 y3 y4 y5 y6 y7)) ∧ (∀ y0 y1 y2 y3 y4 y5 y6, LeO (orthoepyref11_cut.j10 k y0 y1 y2 y3 y4 y5 y6) (orthoepyref11_cut.j10 (k + 1) y0 y1 y2 y3 y4 y5 y6)) ∧ (∀ y0 y1 y2 y3 y4 y5 y6, LeO (orthoepyref11_cut.l2 k y0 y1 y2 y3 y4 y5 y6) (orthoepyref11_cut.l2 (k + 1) y0 y1 y2 y3 y4 y5 y6)) ∧ (∀ y0 y1 y2 y3 y4 y5 y6 y7, LeO (orthoepyref11_cut.j6 k y0 y1 y2 y3 y4 y5 y6 y7) (orthoepyref11_cut.j6 (k + 1) y0 y1 y2 y3 y4 y5 y6 y7)) ∧ (∀ y0 y1 y2 y3 y4 y5 y6 y7, LeO (orthoepyref11_cut.l1 k y0 y1 y2 y3 y4 y5 y6 y7) (orthoepyref11_cut.l1 (k + 1) y0 y1 y2 y3 y4 y5 y6 y7)) ∧ (∀ y0 y1 y2 y3 y4 y5 y6 y7, LeO (orthoepyref11_cut.l0 k y0 y1 y2 y3 y4 y5 y6 y7) (orthoepyref11_cut.l0 (k + 1) y0 y1 y2 y3 y4 y5 y6 y7))
 | 0 => ⟨fun _ _ _ _ _ _ _ _ r h => by simp [orthoepyref11_cut.j0] at h, fun _ _ _ _ _ _ _ r h => by simp [orthoepyref11_cut.j1] at h, fun _ _ _ _ _ _ _ _ r h => by simp [orthoepyref11_cut.j3] at h, fun _ _ _ _ _ _ _ _ _ r h => by simp [orthoepyref11_cut.j4] at h, fun _ _ _ _ _ _ _ r h => by simp [orthoepyref11_cut.j7] at h, fun _ _ _ _ _ _ _ _ r h => by simp [orthoepyref11_cut.j8] at h, fun _ _ _ _ _ _ _ _ r h => by simp [orthoepyref11_cut.j9] at h, fun _ _ _ _ _ _ _ r h => by simp [orthoepyref11_cut.j10] at h, fun _ _ _ _ _ _ _ r h => by simp [orthoepyref11_cut.l2] at h, fun _ _ _ _ _ _ _ _ r h => by simp [orthoepyref11_cut.j6] at h, fun _ _ _ _ _ _ _ _ r h => by simp [orthoepyref11_cut.l1] at h, fun _ _ _ _ _ _ _ _ r h => by simp [orthoepyref11_cut.l0] at h⟩
 | k + 1 => by
  obtain ⟨ih0, ih1, ih2, ih3, ih4, ih5, ih6, ih7, ih8, ih9, ih10, ih11⟩ := orthoepyref11_cut.mono_l k
  refine ⟨?_, ?_, ?_, ?_, ?_, ?_, ?_, ?_, ?_, ?_, ?_, ?_⟩
  · intro y0 y1 y2 y3 y4 y5 y6 y7
    unfold orthoepyref11_cut.j0
    repeat' first
    | (with_reducible exact ih0 _ _ _ _ _ _ _ _)
    | (with_reducible exact ih1 _ _ _ _ _ _ _)
    | (with_reducible exact ih2 _ _ _ _ _ _ _ _)
    | (with_reducible exact ih3 _ _ _ _ _ _ _ _ _)
    | (with_reducible exact ih4 _ _ _ _ _ _ _)
    | (with_reducible exact ih5 _ _ _ _ _ _ _ _)
    | (with_reducible exact ih6 _ _ _ _ _ _ _ _)
    | (with_reducible exact ih7 _ _ _ _ _ _ _)
    | (with_reducible exact ih8 _ _ _ _ _ _ _)
    | (with_reducible exact ih9 _ _ _ _ _ _ _ _)
    | (with_reducible exact ih10 _ _ _ _ _ _ _ _)
    | (with_reducible exact ih11 _ _ _ _ _ _ _ _)
    | (with_reducible exact LeO.refl _)
    | (with_reducible exact LeO.none _)
    | (with_reducible refine LeO.ite ?_ ?_)
    | (with_reducible refine LeO.bind ?_ (fun _ => ?_))
    | exact ih0 _ _ _ _ _ _ _ _
    | exact ih1 _ _ _ _ _ _ _
    | exact ih2 _ _ _ _ _ _ _ _
    | exact ih3 _ _ _ _ _ _ _ _ _
    | exact ih4 _ _ _ _ _ _ _
    | exact ih5 _ _ _ _ _ _ _ _
    | exact ih6 _ _ _ _ _ _ _ _
    | exact ih7 _ _ _ _ _ _ _
    | exact ih8 _ _ _ _ _ _ _
    | exact ih9 _ _ _ _ _ _ _ _
    | exact ih10 _ _ _ _ _ _ _ _
    | exact ih11 _ _ _ _ _ _ _ _
    | exact LeO.none _
    | refine LeO.ite ?_ ?_
    | refine LeO.bind ?_ (fun _ => ?_)
  · intro y0 y1 y2 y3 y4 y5 y6
    unfold orthoepyref11_cut.j1
    repeat' first
    | (with_reducible exact ih0 _ _ _ _ _ _ _ _)
    | (with_reducible exact ih1 _ _ _ _ _ _ _)
    | (with_reducible exact ih2 _ _ _ _ _ _ _ _)
    | (with_reducible exact ih3 _ _ _ _ _ _ _ _ _)
    | (with_reducible exact ih4 _ _ _ _ _ _ _)
    | (with_reducible exact ih5 _ _ _ _ _ _ _ _)
    | (with_reducible exact ih6 _ _ _ _ _ _ _ _)
    | (with_reducible exact ih7 _ _ _ _ _ _ _)
    | (with_reducible exact ih8 _ _ _ _ _ _ _)
    | (with_reducible exact ih9 _ _ _ _ _ _ _ _)
    | (with_reducible exact ih10 _ _ _ _ _ _ _ _)
    | (with_reducible exact ih11 _ _ _ _ _ _ _ _)
    | (with_reducible exact LeO.refl _)
    | (with_reducible exact LeO.none _)
    | (with_reducible refine LeO.ite ?_ ?_)
    | (with_reducible refine LeO.bind ?_ (fun _ => ?_))
    | exact ih0 _ _ _ _ _ _ _ _
    | exact ih1 _ _ _ _ _ _ _
    | exact ih2 _ _ _ _ _ _ _ _
    | exact ih3 _ _ _ _ _ _ _ _ _
    | exact ih4 _ _ _ _ _ _ _
    | exact ih5 _ _ _ _ _ _ _ _
    | exact ih6 _ _ _ _ _ _ _ _
    | exact ih7 _ _ _ _ _ _ _
    | exact ih8 _ _ _ _ _ _ _
    | exact ih9 _ _ _ _ _ _ _ _
    | exact ih10 _ _ _ _ _ _ _ _
    | exact ih11 _ _ _ _ _ _ _ _
    | exact LeO.none _
    | refine LeO.ite ?_ ?_
    | refine LeO.bind ?_ (fun _ => ?_)
  · intro y0 y1 y2 y3 y4 y5 y6 y7
    unfold orthoepyref11_cut.j3
    repeat' first
    | (with_reducible exact ih0 _ _ _ _ _ _ _ _)
    | (with_reducible exact ih1 _ _ _ _ _ _ _)
    | (with_reducible exact ih2 _ _ _ _ _ _ _ _)
    | (with_reducible exact ih3 _ _ _ _ _ _ _ _ _)
    | (with_reducible exact ih4 _ _ _ _ _ _ _)
    | (with_reducible exact ih5 _ _ _ _ _ _ _ _)
    | (with_reducible exact ih6 _ _ _ _ _ _ _ _)
    | (with_reducible exact ih7 _ _ _ _ _ _ _)
    | (with_reducible exact ih8 _ _ _ _ _ _ _)
    | (with_reducible exact ih9 _ _ _ _ _ _ _ _)
    | (with_reducible exact ih10 _ _ _ _ _ _ _ _)
    | (with_reducible exact ih11 _ _ _ _ _ _ _ _)
    | (with_reducible exact LeO.refl _)
    | (with_reducible exact LeO.none _)
    | (with_reducible refine LeO.ite ?_ ?_)
    | (with_reducible refine LeO.bind ?_ (fun _ => ?_))
    | exact ih0 _ _ _ _ _ _ _ _
    | exact ih1 _ _ _ _ _ _ _
    | exact ih2 _ _ _ _ _ _ _ _
    | exact ih3 _ _ _ _ _ _ _ _ _
    | exact ih4 _ _ _ _ _ _ _
    | exact ih5 _ _ _ _ _ _ _ _
    | exact ih6 _ _ _ _ _ _ _ _
    | exact ih7 _ _ _ _ _ _ _
    | exact ih8 _ _ _ _ _ _ _
    | exact ih9 _ _ _ _ _ _ _ _
    | exact ih10 _ _ _ _ _ _ _ _
    | exact ih11 _ _ _ _ _ _ _ _
    | exact LeO.none _
    | refine LeO.ite ?_ ?_
    | refine LeO.bind ?_ (fun _ => ?_)
  · intro y0 y1 y2 y3 y4 y5 y6 y7 y8
    unfold orthoepyref11_cut.j4
    repeat' first
    | (with_reducible exact ih0 _ _ _ _ _ _ _ _)
    | (with_reducible exact ih1 _ _ _ _ _ _ _)
    | (with_reducible exact ih2 _ _ _ _ _ _ _ _)
    | (with_reducible exact ih3 _ _ _ _ _ _ _ _ _)
    | (with_reducible exact ih4 _ _ _ _ _ _ _)
    | (with_reducible exact ih5 _ _ _ _ _ _ _ _)
    | (with_reducible exact ih6 _ _ _ _ _ _ _ _)
    | (with_reducible exact ih7 _ _ _ _ _ _ _)
    | (with_reducible exact ih8 _ _ _ _ _ _ _)
    | (with_reducible exact ih9 _ _ _ _ _ _ _ _)
    | (with_reducible exact ih10 _ _ _ _ _ _ _ _)
    | (with_reducible exact ih11 _ _ _ _ _ _ _ _)
    | (with_reducible exact LeO.refl _)
    | (with_reducible exact LeO.none _)
    | (with_reducible refine LeO.ite ?_ ?_)
    | (with_reducible refine LeO.bind ?_ (fun _ => ?_))
    | exact ih0 _ _ _ _ _ _ _ _
    | exact ih1 _ _ _ _ _ _ _
    | exact ih2 _ _ _ _ _ _ _ _
    | exact ih3 _ _ _ _ _ _ _ _ _
    | exact ih4 _ _ _ _ _ _ _
    | exact ih5 _ _ _ _ _ _ _ _
    | exact ih6 _ _ _ _ _ _ _ _
    | exact ih7 _ _ _ _ _ _ _
    | exact ih8 _ _ _ _ _ _ _
    | exact ih9 _ _ _ _ _ _ _ _
    | exact ih10 _ _ _ _ _ _ _ _
    | exact ih11 _ _ _ _ _ _ _ _
    | exact LeO.none _
    | refine LeO.ite ?_ ?_
    | refine LeO.bind ?_ (fun _ => ?_)
  · intro y0 y1 y2 y3 y4 y5 y6
    unfold orthoepyref11_cut.j7
    repeat' first
    | (with_reducible exact ih0 _ _ _ _ _ _ _ _)
    | (with_reducible exact ih1 _ _ _ _ _ _ _)
    | (with_reducible exact ih2 _ _ _ _ _ _ _ _)
    | (with_reducible exact ih3 _ _ _ _ _ _ _ _ _)
    | (with_reducible exact ih4 _ _ _ _ _ _ _)
    | (with_reducible exact ih5 _ _ _ _ _ _ _ _)
    | (with_reducible exact ih6 _ _ _ _ _ _ _ _)
    | (with_reducible exact ih7 _ _ _ _ _ _ _)
    | (with_reducible exact ih8 _ _ _ _ _ _ _)
    | (with_reducible exact ih9 _ _ _ _ _ _ _ _)
    | (with_reducible exact ih10 _ _ _ _ _ _ _ _)
    | (with_reducible exact ih11 _ _ _ _ _ _ _ _)
    | (with_reducible exact LeO.refl _)
    | (with_reducible exact LeO.none _)
    | (with_reducible refine LeO.ite ?_ ?_)
    | (with_reducible refine LeO.bind ?_ (fun _ => ?_))
    | exact ih0 _ _ _ _ _ _ _ _
    | exact ih1 _ _ _ _ _ _ _
    | exact ih2 _ _ _ _ _ _ _ _
    | exact ih3 _ _ _ _ _ _ _ _ _
    | exact ih4 _ _ _ _ _ _ _
    | exact ih5 _ _ _ _ _ _ _ _
    | exact ih6 _ _ _ _ _ _ _ _
    | exact ih7 _ _ _ _ _ _ _
    | exact ih8 _ _ _ _ _ _ _
    | exact ih9 _ _ _ _ _ _ _ _
    | exact ih10 _ _ _ _ _ _ _ _
    | exact ih11 _ _ _ _ _ _ _ _
    | exact LeO.none _
    | refine LeO.ite ?_ ?_
    | refine LeO.bind ?_ (fun _ => ?_)
  · intro y0 y1 y2 y3 y4 y5 y6 y7
    unfold orthoepyref11_cut.j8
    repeat' first
    | (with_reducible exact ih0 _ _ _ _ _ _ _ _)
    | (with_reducible exact ih1 _ _ _ _ _ _ _)
    | (with_reducible exact ih2 _ _ _ _ _ _ _ _)
    | (with_reducible exact ih3 _ _ _ _ _ _ _ _ _)
    | (with_reducible exact ih4 _ _ _ _ _ _ _)
    | (with_reducible exact ih5 _ _ _ _ _ _ _ _)
    | (with_reducible exact ih6 _ _ _ _ _ _ _ _)
    | (with_reducible exact ih7 _ _ _ _ _ _ _)
    | (with_reducible exact ih8 _ _ _ _ _ _ _)
    | (with_reducible exact ih9 _ _ _ _ _ _ _ _)
    | (with_reducible exact ih10 _ _ _ _ _ _ _ _)
    | (with_reducible exact ih11 _ _ _ _ _ _ _ _)
    | (with_reducible exact LeO.refl _)
    | (with_reducible exact LeO.none _)
    | (with_reducible refine LeO.ite ?_ ?_)
    | (with_reducible refine LeO.bind ?_ (fun _ => ?_))
    | exact ih0 _ _ _ _ _ _ _ _
    | exact ih1 _ _ _ _ _ _ _
    | exact ih2 _ _ _ _ _ _ _ _
    | exact ih3 _ _ _ _ _ _ _ _ _
    | exact ih4 _ _ _ _ _ _ _
    | exact ih5 _ _ _ _ _ _ _ _
    | exact ih6 _ _ _ _ _ _ _ _
    | exact ih7 _ _ _ _ _ _ _
    | exact ih8 _ _ _ _ _ _ _
    | exact ih9 _ _ _ _ _ _ _ _
    | exact ih10 _ _ _ _ _ _ _ _
    | exact ih11 _ _ _ _ _ _ _ _
    | exact LeO.none _
    | refine LeO.ite ?_ ?_
    | refine LeO.bind ?_ (fun _ => ?_)
  · intro y0 y1 y2 y3 y4 y5 y6 y7
    unfold orthoepyref11_cut.j9
    repeat' first
    | (with_reducible exact ih0 _ _ _ _ _ _ _ _)
    | (with_reducible exact ih1 _ _ _ _ _ _ _)
    | (with_reducible exact ih2 _ _ _ _ _ _ _ _)
    | (with_reducible exact ih3 _ _ _ _ _ _ _ _ _)
    | (with_reducible exact ih4 _ _ _ _ _ _ _)
    | (with_reducible exact ih5 _ _ _ _ _ _ _ _)
    | (with_reducible exact ih6 _ _ _ _ _ _ _ _)
    | (with_reducible exact ih7 _ _ _ _ _ _ _)
    | (with_reducible exact ih8 _ _ _ _ _ _ _)
    | (with_reducible exact ih9 _ _ _ _ _ _ _ _)
    | (with_reducible exact ih10 _ _ _ _ _ _ _ _)
    | (with_reducible exact ih11 _ _ _ _ _ _ _ _)
    | (with_reducible exact LeO.refl _)
    | (with_reducible exact LeO.none _)
    | (with_reducible refine LeO.ite ?_ ?_)
    | (with_reducible refine LeO.bind ?_ (fun _ => ?_))
    | exact ih0 _ _ _ _ _ _ _ _
    | exact ih1 _ _ _ _ _ _ _
    | exact ih2 _ _ _ _ _ _ _ _
    | exact ih3 _ _ _ _ _ _ _ _ _
    | exact ih4 _ _ _ _ _ _ _
    | exact ih5 _ _ _ _ _ _ _ _
    | exact ih6 _ _ _ _ _ _ _ _
    | exact ih7 _ _ _ _ _ _ _
    | exact ih8 _ _ _ _ _ _ _
    | exact ih9 _ _ _ _ _ _ _ _
    | exact ih10 _ _ _ _ _ _ _ _
    | exact ih11 _ _ _ _ _ _ _ _
    | exact LeO.none _
    | refine LeO.ite ?_ ?_
    | refine LeO.bind ?_ (fun _ => ?_)
  · intro y0 y1 y2 y3 y4 y5 y6
    unfold orthoepyref11_cut.j10
    repeat' first
    | (with_reducible exact ih0 _ _ _ _ _ _ _ _)
    | (with_reducible exact ih1 _ _ _ _ _ _ _)
    | (with_reducible exact ih2 _ _ _ _ _ _ _ _)
    | (with_reducible exact ih3 _ _ _ _ _ _ _ _ _)
    | (with_reducible exact ih4 _ _ _ _ _ _ _)
    | (with_reducible exact ih5 _ _ _ _ _ _ _ _)
    | (with_reducible exact ih6 _ _ _ _ _ _ _ _)
    | (with_reducible exact ih7 _ _ _ _ _ _ _)
    | (with_reducible exact ih8 _ _ _ _ _ _ _)
    | (with_reducible exact ih9 _ _ _ _ _ _ _ _)
    | (with_reducible exact ih10 _ _ _ _ _ _ _ _)
    | (with_reducible exact ih11 _ _ _ _ _ _ _ _)
    | (with_reducible exact LeO.refl _)
    | (with_reducible exact LeO.none _)
    | (with_reducible refine LeO.ite ?_ ?_)
    | (with_reducible refine LeO.bind ?_ (fun _ => ?_))
    | exact ih0 _ _ _ _ _ _ _ _
    | exact ih1 _ _ _ _ _ _ _
    | exact ih2 _ _ _ _ _ _ _ _
    | exact ih3 _ _ _ _ _ _ _ _ _
    | exact ih4 _ _ _ _ _ _ _
    | exact ih5 _ _ _ _ _ _ _ _
    | exact ih6 _ _ _ _ _ _ _ _
    | exact ih7 _ _ _ _ _ _ _
    | exact ih8 _ _ _ _ _ _ _
    | exact ih9 _ _ _ _ _ _ _ _
    | exact ih10 _ _ _ _ _ _ _ _
    | exact ih11 _ _ _ _ _ _ _ _
    | exact LeO.none _
    | refine LeO.ite ?_ ?_
    | refine LeO.bind ?_ (fun _ => ?_)
  · intro y0 y1 y2 y3 y4 y5 y6
    unfold orthoepyref11_cut.l2
    repeat' first
    | (with_reducible exact ih0 _ _ _ _ _ _ _ _)
    | (with_reducible exact ih1 _ _ _ _ _ _ _)
    | (with_reducible exact ih2 _ _ _ _ _ _ _ _)
    | (with_reducible exact ih3 _ _ _ _ _ _ _ _ _)
    | (with_reducible exact ih4 _ _ _ _ _ _ _)
    | (with_reducible exact ih5 _ _ _ _ _ _ _ _)
    | (with_reducible exact ih6 _ _ _ _ _ _ _ _)
    | (with_reducible exact ih7 _ _ _ _ _ _ _)
    | (with_reducible exact ih8 _ _ _ _ _ _ _)
    | (with_reducible exact ih9 _ _ _ _ _ _ _ _)
    | (with_reducible exact ih10 _ _ _ _ _ _ _ _)
    | (with_reducible exact ih11 _ _ _ _ _ _ _ _)
    | (with_reducible exact LeO.refl _)
    | (with_reducible exact LeO.none _)
    | (with_reducible refine LeO.ite ?_ ?_)
    | (with_reducible refine LeO.bind ?_ (fun _ => ?_))
    | exact ih0 _ _ _ _ _ _ _ _
    | exact ih1 _ _ _ _ _ _ _
    | exact ih2 _ _ _ _ _ _ _ _
    | exact ih3 _ _ _ _ _ _ _ _ _
    | exact ih4 _ _ _ _ _ _ _
    | exact ih5 _ _ _ _ _ _ _ _
    | exact ih6 _ _ _ _ _ _ _ _
    | exact ih7 _ _ _ _ _ _ _
    | exact ih8 _ _ _ _ _ _ _
    | exact ih9 _ _ _ _ _ _ _ _
    | exact ih10 _ _ _ _ _ _ _ _
    | exact ih11 _ _ _ _ _ _ _ _
    | exact LeO.none _
    | refine LeO.ite ?_ ?_
    | refine LeO.bind ?_ (fun _ => ?_)
  · intro y0 y1 y2 y3 y4 y5 y6 y7
    unfold orthoepyref11_cut.j6
    repeat' first
    | (with_reducible exact ih0 _ _ _ _ _ _ _ _)
    | (with_reducible exact ih1 _ _ _ _ _ _ _)
    | (with_reducible exact ih2 _ _ _ _ _ _ _ _)
    | (with_reducible exact ih3 _ _ _ _ _ _ _ _ _)
    | (with_reducible exact ih4 _ _ _ _ _ _ _)
    | (with_reducible exact ih5 _ _ _ _ _ _ _ _)
    | (with_reducible exact ih6 _ _ _ _ _ _ _ _)
    | (with_reducible exact ih7 _ _ _ _ _ _ _)
    | (with_reducible exact ih8 _ _ _ _ _ _ _)
    | (with_reducible exact ih9 _ _ _ _ _ _ _ _)
    | (with_reducible exact ih10 _ _ _ _ _ _ _ _)
    | (with_reducible exact ih11 _ _ _ _ _ _ _ _)
    | (with_reducible exact LeO.refl _)
    | (with_reducible exact LeO.none _)
    | (with_reducible refine LeO.ite ?_ ?_)
    | (with_reducible refine LeO.bind ?_ (fun _ => ?_))
    | exact ih0 _ _ _ _ _ _ _ _
    | exact ih1 _ _ _ _ _ _ _
    | exact ih2 _ _ _ _ _ _ _ _
    | exact ih3 _ _ _ _ _ _ _ _ _
    | exact ih4 _ _ _ _ _ _ _
    | exact ih5 _ _ _ _ _ _ _ _
    | exact ih6 _ _ _ _ _ _ _ _
    | exact ih7 _ _ _ _ _ _ _
    | exact ih8 _ _ _ _ _ _ _
    | exact ih9 _ _ _ _ _ _ _ _
    | exact ih10 _ _ _ _ _ _ _ _
    | exact ih11 _ _ _ _ _ _ _ _
    | exact LeO.none _
    | refine LeO.ite ?_ ?_
    | refine LeO.bind ?_ (fun _ => ?_)
  · intro y0 y1 y2 y3 y4 y5 y6 y7
    unfold orthoepyref11_cut.l1
    repeat' first
    | (with_reducible exact ih0 _ _ _ _ _ _ _ _)
    | (with_reducible exact ih1 _ _ _ _ _ _ _)
    | (with_reducible exact ih2 _ _ _ _ _ _ _ _)
    | (with_reducible exact ih3 _ _ _ _ _ _ _ _ _)
    | (with_reducible exact ih4 _ _ _ _ _ _ _)
    | (with_reducible exact ih5 _ _ _ _ _ _ _ _)
    | (with_reducible exact ih6 _ _ _ _ _ _ _ _)
    | (with_reducible exact ih7 _ _ _ _ _ _ _)
    | (with_reducible exact ih8 _ _ _ _ _ _ _)
    | (with_reducible exact ih9 _ _ _ _ _ _ _ _)
    | (with_reducible exact ih10 _ _ _ _ _ _ _ _)
    | (with_reducible exact ih11 _ _ _ _ _ _ _ _)
    | (with_reducible exact LeO.refl _)
    | (with_reducible exact LeO.none _)
    | (with_reducible refine LeO.ite ?_ ?_)
    | (with_reducible refine LeO.bind ?_ (fun _ => ?_))
    | exact ih0 _ _ _ _ _ _ _ _
    | exact ih1 _ _ _ _ _ _ _
    | exact ih2 _ _ _ _ _ _ _ _
    | exact ih3 _ _ _ _ _ _ _ _ _
    | exact ih4 _ _ _ _ _ _ _
    | exact ih5 _ _ _ _ _ _ _ _
    | exact ih6 _ _ _ _ _ _ _ _
    | exact ih7 _ _ _ _ _ _ _
    | exact ih8 _ _ _ _ _ _ _
    | exact ih9 _ _ _ _ _ _ _ _
    | exact ih10 _ _ _ _ _ _ _ _
    | exact ih11 _ _ _ _ _ _ _ _
    | exact LeO.none _
    | refine LeO.ite ?_ ?_
    | refine LeO.bind ?_ (fun _ => ?_)
  · intro y0 y1 y2 y3 y4 y5 y6 y7
    unfold orthoepyref11_cut.l0
    repeat' first
    | (with_reducible exact ih0 _ _ _ _ _ _ _ _)
    | (with_reducible exact ih1 _ _ _ _ _ _ _)
    | (with_reducible exact ih2 _ _ _ _ _ _ _ _)
    | (with_reducible exact ih3 _ _ _ _ _ _ _ _ _)
    | (with_reducible exact ih4 _ _ _ _ _ _ _)
    | (with_reducible exact ih5 _ _ _ _ _ _ _ _)
    | (with_reducible exact ih6 _ _ _ _ _ _ _ _)
    | (with_reducible exact ih7 _ _ _ _ _ _ _)
    | (with_reducible exact ih8 _ _ _ _ _ _ _)
    | (with_reducible exact ih9 _ _ _ _ _ _ _ _)
    | (with_reducible exact ih10 _ _ _ _ _ _ _ _)
    | (with_reducible exact ih11 _ _ _ _ _ _ _ _)
    | (with_reducible exact LeO.refl _)
    | (with_reducible exact LeO.none _)
    | (with_reducible refine LeO.ite ?_ ?_)
    | (with_reducible refine LeO.bind ?_ (fun _ => ?_))
    | exact ih0 _ _ _ _ _ _ _ _
    | exact ih1 _ _ _ _ _ _ _
    | exact ih2 _ _ _ _ _ _ _ _
    | exact ih3 _ _ _ _ _ _ _ _ _
    | exact ih4 _ _ _ _ _ _ _
    | exact ih5 _ _ _ _ _ _ _ _
    | exact ih6 _ _ _ _ _ _ _ _
    | exact ih7 _ _ _ _ _ _ _
    | exact ih8 _ _ _ _ _ _ _
    | exact ih9 _ _ _ _ _ _ _ _
    | exact ih10 _ _ _ _ _ _ _ _
    | exact ih11 _ _ _ _ _ _ _ _
    | exact LeO.none _
    | refine LeO.ite ?_ ?_
    | refine LeO.bind ?_ (fun _ => ?_)
theorem orthoepyref11_cut.mono : ∀ a0 k, LeO (orthoepyref11_cut.f k a0) (orthoepyref11_cut.f (k + 1) a0) := by
 intro a0 k
 obtain ⟨ih0, ih1, ih2, ih3, ih4, ih5, ih6, ih7, ih8, ih9, ih10, ih11⟩ := orthoepyref11_cut.mono_l k
 unfold orthoepyref11_cut.f
 repeat' first
  | (with_reducible exact ih0 _ _ _ _ _ _ _ _)
  | (with_reducible exact ih1 _ _ _ _ _ _ _)
  | (with_reducible exact ih2 _ _ _ _ _ _ _ _)
  | (with_reducible exact ih3 _ _ _ _ _ _ _ _ _)
  | (with_reducible exact ih4 _ _ _ _ _ _ _)
  | (with_reducible exact ih5 _ _ _ _ _ _ _ _)
  | (with_reducible exact ih6 _ _ _ _ _ _ _ _)
  | (with_reducible exact ih7 _ _ _ _ _ _ _)
  | (with_reducible exact ih8 _ _ _ _ _ _ _)
  | (with_reducible exact ih9 _ _ _ _ _ _ _ _)
  | (with_reducible exact ih10 _ _ _ _ _ _ _ _)
  | (with_reducible exact ih11 _ _ _ _ _ _ _ _)
  | (with_reducible exact LeO.refl _)
  | (with_reducible exact LeO.none _)
  | (with_reducible refine LeO.ite ?_ ?_)
  | (with_reducible refine LeO.bind ?_ (fun _ => ?_))
  | exact ih0 _ _ _ _ _ _ _ _
  | exact ih1 _ _ _ _ _ _ _
  | exact ih2 _ _ _ _ _ _ _ _
  | exact ih3 _ _ _ _ _ _ _ _ _
  | exact ih4 _ _ _ _ _ _ _
  | exact ih5 _ _ _ _ _ _ _ _
  | exact ih6 _ _ _ _ _ _ _ _
  | exact ih7 _ _ _ _ _ _ _
  | exact ih8 _ _ _ _ _ _ _
  | exact ih9 _ _ _ _ _ _ _ _
  | exact ih10 _ _ _ _ _ _ _ _
  | exact ih11 _ _ _ _ _ _ _ _
  | exact LeO.none _
  | refine LeO.ite ?_ ?_
  | refine LeO.bind ?_ (fun _ => ?_)
def orthoepyref11_cut.T21 : Bool × List (List Nat × List Nat) := (true, [([], []), ([0], [0]), ([], []), ([], []), ([], []), ([2, 3, 4], [2, 3, 4]), ([1, 5], [1, 5]), ([0, 1, 2, 3, 4, 5, 6], []), ([7, 6, 0, 1, 2, 3, 4, 5, 6], [6, 7])])
def orthoepyref11_cut.B21 : List Nat := [0, 1, 0, 0, 0, 28, 63, 127, 255]
theorem orthoepyref11_cut.tab21 : rtab .any (opsOf Tryz.f61 21) = orthoepyref11_cut.T21 := by kernel_rfl
theorem orthoepyref11_cut.bits21 : gX orthoepyref11_cut.T21.2 orthoepyref11_cut.B21 = true := by kernel_rfl
set_option maxHeartbeats 8000000 in
set_option maxRecDepth 100000 in
theorem orthoepyref11_cut.calls (k : Nat) (a0 : ByteArray) (r1 : ByteArray) (r2 : Int) (r3 : Bool) (r4 : Int) (r5 : ByteArray) (r6 : Bool) (w : World) (h : orthoepyref11_cut.f k a0 = some (r1, r2, r3, r4, r5, r6)) :
 Calls Tryz.prog 61 #[.string a0] w fun e w' => e = .returned (.tuple #[.agg #[.string r1, .int .i64 r2, .bool r3, .int .u8 r4, .string r5], .bool r6]) ∧ Below w.heap.size w w' := by
 have hu123 := Tryz.underlying123
 have HB := Aside0.mk (Below.refl w.heap.size w)
 have H : (if 0 < (a0.size : Int) then (orthoepyref11_cut.j0 k a0 0 ((bt a0 0) == 45) (⟨#[]⟩ : ByteArray) 0 false 0 (⟨#[]⟩ : ByteArray)) else (orthoepyref11_cut.j0 k a0 0 false (⟨#[]⟩ : ByteArray) 0 false 0 (⟨#[]⟩ : ByteArray))) = some (r1, r2, r3, r4, r5, r6) := h
 clear h
 have HC2 := Aside0.mk H
 clear H
 let kp_ : Exit → Act → World → Prop := bodyPost Tryz.prog Tryz.f61 (fun _ _ => True)
 refine aA Tryz.func61 rfl ?_
 intro Q_ hQ_
 simp only [Tryz.ntmps61, ents_, Nat.reduceAdd, Nat.reduceSub]
 go_upto_region 3 with (first | ((with_reducible refine dQ (N := 2) rfl ?_); refine dH ?hg (N := 2) ?hd (cs := #[.string (⟨#[]⟩ : ByteArray), .int .i64 0, .bool false, .int .u8 0, .string (⟨#[]⟩ : ByteArray)]) (t := 123) ?hr ?_; (case hd => rfl); (case hg => rfl); (case hr => first | (go_simp; done) | (go_simp; rfl)); intro gb101 hg w3 hbox hb; have n0_ := Aside0.mk (bV (by repeat (first | (with_reducible first | exact HB.out | apply aL | apply aI | apply aK) | exact HB.out)) hb); have n1_ := Aside0.mk (hbox); have n2_ := Aside0.mk ((by rw [hg]; exact (bY (by repeat (first | (with_reducible first | exact HB.out | apply aL | apply aI | apply aK) | exact HB.out))) : w.heap.size ≤ gb101)); have n3_ := Aside0.mk ((by rw [hg]; exact (bY (by repeat (first | (with_reducible first | exact HB.out | apply aL | apply aI | apply aK) | exact HB.out))) : w.heap.size ≤ gb101)); clear HB; have HB := n0_; have BK101 := n1_; have GW101 := n2_; have GE101 := n3_; clear n0_ n1_ n2_ n3_; clear hb hbox hg) | ((with_reducible refine dQ (N := 4) rfl ?_); refine dH ?hg (N := 4) ?hd (cs := #[.string (⟨#[]⟩ : ByteArray), .int .i64 0, .bool false, .int .u8 0, .string (⟨#[]⟩ : ByteArray)]) (t := 123) ?hr ?_; (case hd => rfl); (case hg => rfl); (case hr => first | (go_simp; done) | (go_simp; rfl)); intro gb102 hg w4 hbox hb; have n0_ := Aside0.mk (bW (g := gb101) (o := .cells #[.string (⟨#[]⟩ : ByteArray), .int .i64 0, .bool false, .int .u8 0, .string (⟨#[]⟩ : ByteArray)] 123 (0, 0)) (by (with_reducible repeat (first | refine aD ?_ _ | refine aG ?_ | refine aE ?_ _)); exact BK101.out) hb); have n1_ := Aside0.mk (bV (by repeat (first | (with_reducible first | exact HB.out | apply aL | apply aI | apply aK | refine aM ?_ GE101.out) | exact HB.out)) hb); have n2_ := Aside0.mk (hbox); have n3_ := Aside0.mk ((by rw [hg]; exact (bY (by repeat (first | (with_reducible first | exact HB.out | apply aL | apply aI | apply aK | refine aM ?_ GE101.out) | exact HB.out))) : w.heap.size ≤ gb102)); have n4_ := Aside0.mk ((by rw [hg]; exact (bY (by repeat (first | (with_reducible first | exact HB.out | apply aL | apply aI | apply aK | refine aM ?_ GE101.out) | exact HB.out))) : w.heap.size ≤ gb102)); have n5_ := Aside0.mk ((by rw [hg]; exact Nat.ne_of_lt (eM (g := gb101) (o := .cells #[.string (⟨#[]⟩ : ByteArray), .int .i64 0, .bool false, .int .u8 0, .string (⟨#[]⟩ : ByteArray)] 123 (0, 0)) (by (with_reducible repeat (first | refine aD ?_ _ | refine aG ?_ | refine aE ?_ _)); exact BK101.out)) : gb101 ≠ gb102)); have n6_ := Aside0.mk ((by rw [hg]; exact Nat.ne_of_gt (eM (g := gb101) (o := .cells #[.string (⟨#[]⟩ : ByteArray), .int .i64 0, .bool false, .int .u8 0, .string (⟨#[]⟩ : ByteArray)] 123 (0, 0)) (by (with_reducible repeat (first | refine aD ?_ _ | refine aG ?_ | refine aE ?_ _)); exact BK101.out)) : gb102 ≠ gb101)); clear BK101; clear HB; have BK101 := n0_; have HB := n1_; have BK102 := n2_; have GW102 := n3_; have GE102 := n4_; have NB101_102 := n5_; have NB102_101 := n6_; clear n0_ n1_ n2_ n3_ n4_ n5_ n6_; clear hb hbox hg; have hnb5 := NB102_101.out; have hnc5 := NB101_102.out; have y6_0 : w4.cell? ⟨gb102, 0, none⟩ = some (.string (⟨#[]⟩ : ByteArray)) := (aH BK102.out 0).trans rfl; have y6_1 : w4.cell? ⟨gb102, 1, none⟩ = some (.int .i64 0) := (aH BK102.out 1).trans rfl; have y6_2 : w4.cell? ⟨gb102, 2, none⟩ = some (.bool false) := (aH BK102.out 2).trans rfl; have y6_3 : w4.cell? ⟨gb102, 3, none⟩ = some (.int .u8 0) := (aH BK102.out 3).trans rfl; have y6_4 : w4.cell? ⟨gb102, 4, none⟩ = some (.string (⟨#[]⟩ : ByteArray)) := (aH BK102.out 4).trans rfl; have z6_0 := aC BK102.out 0; have z6_1 := aC BK102.out 1; have z6_2 := aC BK102.out 2; have z6_3 := aC BK102.out 3; have z6_4 := aC BK102.out 4))
 (try simp only [Act.put, sets_])
 go_cut [17] (fun v17 wc => ∃ (kq : Nat) (x17_1 : Bool), v17 = .bool x17_1 ∧ Aside0 (orthoepyref11_cut.j0 kq a0 0 x17_1 (⟨#[]⟩ : ByteArray) 0 false 0 (⟨#[]⟩ : ByteArray) = some (r1, r2, r3, r4, r5, r6)) ∧ Aside0 (kq ≤ k) ∧ Aside0 (wc.heap[gb101]? = some (.cells #[.string (⟨#[]⟩ : ByteArray), .int .i64 0, .bool false, .int .u8 0, .string (⟨#[]⟩ : ByteArray)] 123 (0, 0))) ∧ Aside0 (wc.heap[gb102]? = some (.cells #[.string (⟨#[]⟩ : ByteArray), .int .i64 0, .bool false, .int .u8 0, .string (⟨#[]⟩ : ByteArray)] 123 (0, 0))) ∧ Aside0 (Below w.heap.size w wc))
 case first => as_aux_lemma =>
  have H := HC2.out
  clear HC2
  by_cases c7 : 0 < (a0.size : Int)
  · rw [if_pos c7] at H
    have c7b0 : decide (0 < (a0.size : Int)) = true := decide_eq_true c7
    have c7b1 : decide (0 < a0.size) = true := decide_eq_true (by omega)
    clear c7
    (first | rw [c7b0] | (simp only [bR, bU]; rw [c7b0]) | skip)
    have H' := Aside0.mk H
    clear H
    have p8 : 0 ≤ (0 : Int) := (by omega)
    have q8 : 0 < a0.size := (by have : (0 : Int) < (a0.size : Int) := of_decide_eq_true (by first | (with_reducible assumption) | assumption); omega)
    have hx8 : ∀ h : 0 < a0.size, ((a0[0]'h).toNat : Int) = bt a0 0 := cH a0 0
    clear p8
    have qi8 : (0 < (a0.size : Int)) = True := eq_true (of_decide_eq_true (by first | (with_reducible assumption) | assumption))
    replace q8 := eq_true q8
    go_wp2
    go_meet
    case rel => exact ⟨_, (((bt a0 0) == 45)), (by first | rfl | (simp; done) | (simp [*]; done) | (simp [wrap64]; done)), H', ⟨by first | omega | exact Nat.le_refl _⟩, ⟨by (with_reducible repeat (first | refine aD ?_ _ | refine aG ?_ | refine aE ?_ _)); refine bQ ?_ NB101_102.out _; (with_reducible repeat (first | refine aD ?_ _ | refine aG ?_ | refine aE ?_ _)); refine bQ ?_ NB101_102.out _; (with_reducible repeat (first | refine aD ?_ _ | refine aG ?_ | refine aE ?_ _)); refine bQ ?_ NB101_102.out _; (with_reducible repeat (first | refine aD ?_ _ | refine aG ?_ | refine aE ?_ _)); refine bQ ?_ NB101_102.out _; (with_reducible repeat (first | refine aD ?_ _ | refine aG ?_ | refine aE ?_ _)); refine bQ ?_ NB101_102.out _; (with_reducible repeat (first | refine aD ?_ _ | refine aG ?_ | refine aE ?_ _)); exact BK101.out⟩, ⟨by (with_reducible repeat (first | refine aD ?_ _ | refine aG ?_ | refine aE ?_ _)); refine aV (cs := #[.string (⟨#[]⟩ : ByteArray), .int .i64 0, .bool false, .int .u8 0, .string (⟨#[]⟩ : ByteArray)]) ?_ 4 _ rfl; (with_reducible repeat (first | refine aD ?_ _ | refine aG ?_ | refine aE ?_ _)); refine aV (cs := #[.string (⟨#[]⟩ : ByteArray), .int .i64 0, .bool false, .int .u8 0, .string (⟨#[]⟩ : ByteArray)]) ?_ 3 _ rfl; (with_reducible repeat (first | refine aD ?_ _ | refine aG ?_ | refine aE ?_ _)); refine aV (cs := #[.string (⟨#[]⟩ : ByteArray), .int .i64 0, .bool false, .int .u8 0, .string (⟨#[]⟩ : ByteArray)]) ?_ 2 _ rfl; (with_reducible repeat (first | refine aD ?_ _ | refine aG ?_ | refine aE ?_ _)); refine aV (cs := #[.string (⟨#[]⟩ : ByteArray), .int .i64 0, .bool false, .int .u8 0, .string (⟨#[]⟩ : ByteArray)]) ?_ 1 _ rfl; (with_reducible repeat (first | refine aD ?_ _ | refine aG ?_ | refine aE ?_ _)); refine aV (cs := #[.string (⟨#[]⟩ : ByteArray), .int .i64 0, .bool false, .int .u8 0, .string (⟨#[]⟩ : ByteArray)]) ?_ 0 _ rfl; (with_reducible repeat (first | refine aD ?_ _ | refine aG ?_ | refine aE ?_ _)); exact BK102.out⟩, ⟨by repeat (first | (with_reducible first | exact HB.out | apply aL | apply aI | apply aK | refine aM ?_ GE101.out | refine aM ?_ GE102.out) | exact HB.out)⟩⟩
  · rw [if_neg c7] at H
    have c7b0 : decide (0 < (a0.size : Int)) = false := decide_eq_false c7
    have c7b1 : decide (0 < a0.size) = false := decide_eq_false (by omega)
    clear c7
    (first | rw [c7b0] | (simp only [bR, bU]; rw [c7b0]) | skip)
    have H' := Aside0.mk H
    clear H
    go_wp2
    go_meet
    case rel => exact ⟨_, (false), (by first | rfl | (simp; done) | (simp [*]; done) | (simp [wrap64]; done)), H', ⟨by first | omega | exact Nat.le_refl _⟩, ⟨by (with_reducible repeat (first | refine aD ?_ _ | refine aG ?_ | refine aE ?_ _)); refine bQ ?_ NB101_102.out _; (with_reducible repeat (first | refine aD ?_ _ | refine aG ?_ | refine aE ?_ _)); refine bQ ?_ NB101_102.out _; (with_reducible repeat (first | refine aD ?_ _ | refine aG ?_ | refine aE ?_ _)); refine bQ ?_ NB101_102.out _; (with_reducible repeat (first | refine aD ?_ _ | refine aG ?_ | refine aE ?_ _)); refine bQ ?_ NB101_102.out _; (with_reducible repeat (first | refine aD ?_ _ | refine aG ?_ | refine aE ?_ _)); refine bQ ?_ NB101_102.out _; (with_reducible repeat (first | refine aD ?_ _ | refine aG ?_ | refine aE ?_ _)); exact BK101.out⟩, ⟨by (with_reducible repeat (first | refine aD ?_ _ | refine aG ?_ | refine aE ?_ _)); refine aV (cs := #[.string (⟨#[]⟩ : ByteArray), .int .i64 0, .bool false, .int .u8 0, .string (⟨#[]⟩ : ByteArray)]) ?_ 4 _ rfl; (with_reducible repeat (first | refine aD ?_ _ | refine aG ?_ | refine aE ?_ _)); refine aV (cs := #[.string (⟨#[]⟩ : ByteArray), .int .i64 0, .bool false, .int .u8 0, .string (⟨#[]⟩ : ByteArray)]) ?_ 3 _ rfl; (with_reducible repeat (first | refine aD ?_ _ | refine aG ?_ | refine aE ?_ _)); refine aV (cs := #[.string (⟨#[]⟩ : ByteArray), .int .i64 0, .bool false, .int .u8 0, .string (⟨#[]⟩ : ByteArray)]) ?_ 2 _ rfl; (with_reducible repeat (first | refine aD ?_ _ | refine aG ?_ | refine aE ?_ _)); refine aV (cs := #[.string (⟨#[]⟩ : ByteArray), .int .i64 0, .bool false, .int .u8 0, .string (⟨#[]⟩ : ByteArray)]) ?_ 1 _ rfl; (with_reducible repeat (first | refine aD ?_ _ | refine aG ?_ | refine aE ?_ _)); refine aV (cs := #[.string (⟨#[]⟩ : ByteArray), .int .i64 0, .bool false, .int .u8 0, .string (⟨#[]⟩ : ByteArray)]) ?_ 0 _ rfl; (with_reducible repeat (first | refine aD ?_ _ | refine aG ?_ | refine aE ?_ _)); exact BK102.out⟩, ⟨by repeat (first | (with_reducible first | exact HB.out | apply aL | apply aI | apply aK | refine aM ?_ GE101.out | refine aM ?_ GE102.out) | exact HB.out)⟩⟩
 case rest =>
  clear HC2
  (try clear p2); (try clear c5); (try clear c6); (try clear c7); (try clear c7b0); (try clear c7b1); (try clear p8); (try clear q8); (try clear hx8); (try clear qi8); (try clear y6_0); (try clear y6_1); (try clear y6_2); (try clear y6_3); (try clear y6_4); (try clear z6_0); (try clear z6_1); (try clear z6_2); (try clear z6_3); (try clear z6_4); (try clear p8); (try clear q8)
  obtain ⟨kq, x17_1, rfl, HA, HJ1, BK101, BK102, HB⟩ := hcut
  cases kq with
  | zero => exact absurd HA.out (by simp [orthoepyref11_cut.j0])
  | succ kj1 =>
   have H := HA.out
   clear HA
   simp only [orthoepyref11_cut.j0] at H
   have HC9 := Aside0.mk H
   clear H
   go_upto_if 17 with (fail)
   go_cut [5] (fun v5 wc => ∃ (kq : Nat) (x5_8 : Int), v5 = .int .i64 x5_8 ∧ Aside0 (orthoepyref11_cut.j1 kq a0 x5_8 (⟨#[]⟩ : ByteArray) 0 false 0 (⟨#[]⟩ : ByteArray) = some (r1, r2, r3, r4, r5, r6)) ∧ Aside0 (kq ≤ kj1) ∧ Aside0 (wc.heap[gb101]? = some (.cells #[.string (⟨#[]⟩ : ByteArray), .int .i64 0, .bool false, .int .u8 0, .string (⟨#[]⟩ : ByteArray)] 123 (0, 0))) ∧ Aside0 (wc.heap[gb102]? = some (.cells #[.string (⟨#[]⟩ : ByteArray), .int .i64 0, .bool false, .int .u8 0, .string (⟨#[]⟩ : ByteArray)] 123 (0, 0))) ∧ Aside0 (Below w.heap.size w wc))
   case first => as_aux_lemma =>
    have H := HC9.out
    clear HC9
    by_cases c10 : x17_1 = true
    · subst c10
      have H1 : (orthoepyref11_cut.j1 kj1 a0 (wrap64 (0 + 1)) (⟨#[]⟩ : ByteArray) 0 false 0 (⟨#[]⟩ : ByteArray)) = some (r1, r2, r3, r4, r5, r6) := by rw [if_pos rfl] at H; exact H
      clear H
      have H := H1
      clear H1
      have H' := Aside0.mk H
      clear H
      go_wp2
      go_meet
      case rel => exact ⟨_, (wrap64 (0 + 1)), (by first | rfl | (simp; done) | (simp [*]; done) | (simp [wrap64]; done)), H', ⟨by have := HJ1.out; first | omega | exact Nat.le_refl _⟩, ⟨by (with_reducible repeat (first | refine aD ?_ _ | refine aG ?_ | refine aE ?_ _)); exact BK101.out⟩, ⟨by (with_reducible repeat (first | refine aD ?_ _ | refine aG ?_ | refine aE ?_ _)); exact BK102.out⟩, ⟨by repeat (first | (with_reducible first | exact HB.out | apply aL | apply aI | apply aK | refine aM ?_ GE101.out | refine aM ?_ GE102.out) | exact HB.out)⟩⟩
    · replace c10 := Bool.eq_false_iff.mpr c10
      subst c10
      have H1 : (orthoepyref11_cut.j1 kj1 a0 0 (⟨#[]⟩ : ByteArray) 0 false 0 (⟨#[]⟩ : ByteArray)) = some (r1, r2, r3, r4, r5, r6) := by rw [if_neg (show ¬ (false = true) by decide)] at H; exact H
      clear H
      have H := H1
      clear H1
      have H' := Aside0.mk H
      clear H
      go_wp2
      go_meet
      case rel => exact ⟨_, (0), (by first | rfl | (simp; done) | (simp [*]; done) | (simp [wrap64]; done)), H', ⟨by have := HJ1.out; first | omega | exact Nat.le_refl _⟩, ⟨by (with_reducible repeat (first | refine aD ?_ _ | refine aG ?_ | refine aE ?_ _)); exact BK101.out⟩, ⟨by (with_reducible repeat (first | refine aD ?_ _ | refine aG ?_ | refine aE ?_ _)); exact BK102.out⟩, ⟨by repeat (first | (with_reducible first | exact HB.out | apply aL | apply aI | apply aK | refine aM ?_ GE101.out | refine aM ?_ GE102.out) | exact HB.out)⟩⟩
   case rest =>
    clear HC9
    (try clear c1); (try clear p2); (try clear c5); (try clear c6); (try clear p6); (try clear c7); (try clear c7b0); (try clear c7b1); (try clear p8); (try clear q8); (try clear hx8); (try clear qi8); (try clear c10); (try clear y6_0); (try clear y6_1); (try clear y6_2); (try clear y6_3); (try clear y6_4); (try clear z6_0); (try clear z6_1); (try clear z6_2); (try clear z6_3); (try clear z6_4)
    (try clear p2); (try clear p8); (try clear q8)
    obtain ⟨kq, x5_8, rfl, HA, HJ8, BK101, BK102, HB⟩ := hcut
    cases kq with
    | zero => exact absurd HA.out (by simp [orthoepyref11_cut.j1])
    | succ kj8 =>
     have H := HA.out
     clear HA
     simp only [orthoepyref11_cut.j1] at H
     have HC11 := Aside0.mk H
     clear H
     go_upto_block 0 with (fail)
     go_cut [5] (fun v5 wc => ∃ (kq : Nat) (x5_10 : Int), v5 = .int .i64 x5_10 ∧ Aside0 (orthoepyref11_cut.j3 kq a0 x5_10 x5_8 (⟨#[]⟩ : ByteArray) 0 false 0 (⟨#[]⟩ : ByteArray) = some (r1, r2, r3, r4, r5, r6)) ∧ Aside0 (kq ≤ kj8) ∧ Aside0 (wc.heap[gb101]? = some (.cells #[.string (⟨#[]⟩ : ByteArray), .int .i64 0, .bool false, .int .u8 0, .string (⟨#[]⟩ : ByteArray)] 123 (0, 0))) ∧ Aside0 (wc.heap[gb102]? = some (.cells #[.string (⟨#[]⟩ : ByteArray), .int .i64 0, .bool false, .int .u8 0, .string (⟨#[]⟩ : ByteArray)] 123 (0, 0))) ∧ Aside0 (Below w.heap.size w wc))
     case first => as_aux_lemma =>
      have H := HC11.out
      clear HC11
      have H' := Aside0.mk H
      clear H
      go_wp2
      go_loopg [5] kj8 (fun kq v5 w' => ∃ (x5_3 : Int), v5 = .int .i64 x5_3 ∧ Aside0 (orthoepyref11_cut.l0 kq a0 x5_3 x5_8 (⟨#[]⟩ : ByteArray) 0 false 0 (⟨#[]⟩ : ByteArray) = some (r1, r2, r3, r4, r5, r6)) ∧ Aside0 (kq ≤ kj8) ∧ Aside0 (w'.heap[gb101]? = some (.cells #[.string (⟨#[]⟩ : ByteArray), .int .i64 0, .bool false, .int .u8 0, .string (⟨#[]⟩ : ByteArray)] 123 (0, 0))) ∧ Aside0 (w'.heap[gb102]? = some (.cells #[.string (⟨#[]⟩ : ByteArray), .int .i64 0, .bool false, .int .u8 0, .string (⟨#[]⟩ : ByteArray)] 123 (0, 0))) ∧ Aside0 (Below w.heap.size w w'))
      case atStart => exact ⟨(x5_8), (by first | rfl | (simp; done) | (simp [*]; done) | (simp [wrap64]; done)), H', ⟨Nat.le_refl _⟩, ⟨by (with_reducible repeat (first | refine aD ?_ _ | refine aG ?_ | refine aE ?_ _)); exact BK101.out⟩, ⟨by (with_reducible repeat (first | refine aD ?_ _ | refine aG ?_ | refine aE ?_ _)); exact BK102.out⟩, ⟨by repeat (first | (with_reducible first | exact HB.out | apply aL | apply aI | apply aK | refine aM ?_ GE101.out | refine aM ?_ GE102.out) | exact HB.out)⟩⟩
      case round =>
       clear H'
       (try clear c1); (try clear p2); (try clear c5); (try clear c6); (try clear p6); (try clear c7); (try clear c7b0); (try clear c7b1); (try clear p8); (try clear q8); (try clear hx8); (try clear qi8); (try clear c10); (try clear y6_0); (try clear y6_1); (try clear y6_2); (try clear y6_3); (try clear y6_4); (try clear z6_0); (try clear z6_1); (try clear z6_2); (try clear z6_3)
       (try clear z6_4); (try clear p2); (try clear p6); (try clear p8); (try clear q8)
       obtain ⟨x5_3, rfl, HA, HK3, BK101, BK102, HB⟩ := hrel
       cases gk with
       | zero => exact absurd HA.out (by simp [orthoepyref11_cut.l0])
       | succ k3 =>
        have H := HA.out
        clear HA
        simp only [orthoepyref11_cut.l0] at H
        by_cases c12 : x5_3 < (a0.size : Int)
        · rw [if_pos c12] at H
          have c12b0 : decide (x5_3 < (a0.size : Int)) = true := decide_eq_true c12
          clear c12
          (first | rw [c12b0] | (simp only [bR, bU]; rw [c12b0]) | skip)
          by_cases c13 : 0 ≤ x5_3
          · rw [if_pos c13] at H
            have c13b0 : decide (0 ≤ x5_3) = true := decide_eq_true c13
            clear c13
            by_cases c15 : (bt a0 x5_3) ≥ 48
            · rw [if_pos c15] at H
              have c15b0 : decide (48 ≤ (bt a0 x5_3)) = true := decide_eq_true c15
              clear c15
              by_cases c17 : (bt a0 x5_3) ≤ 57
              · rw [if_pos c17] at H
                have c17b0 : decide ((bt a0 x5_3) ≤ 57) = true := decide_eq_true c17
                clear c17
                have H' := Aside0.mk H
                clear H
                have p14 : 0 ≤ (x5_3 : Int) := of_decide_eq_true (by first | (with_reducible assumption) | assumption)
                have q14 : x5_3 < (a0.size : Int) := of_decide_eq_true (by first | (with_reducible assumption) | assumption)
                have hx14 := cH a0 x5_3
                replace p14 := eq_true p14
                replace q14 := eq_true q14
                have p16 : 0 ≤ (x5_3 : Int) := of_decide_eq_true (by first | (with_reducible assumption) | assumption)
                have q16 : x5_3 < (a0.size : Int) := of_decide_eq_true (by first | (with_reducible assumption) | assumption)
                have hx16 := cH a0 x5_3
                replace p16 := eq_true p16
                replace q16 := eq_true q16
                go_wp2
                go_roundg k3
                case measure => have := HJ1.out; have := HJ8.out; have := HK3.out; omega
                case rel => exact ⟨(wrap64 (x5_3 + 1)), (by first | rfl | (simp; done) | (simp [*]; done) | (simp [wrap64]; done)), H', ⟨by have := HJ1.out; have := HJ8.out; have := HK3.out; omega⟩, ⟨by (with_reducible repeat (first | refine aD ?_ _ | refine aG ?_ | refine aE ?_ _)); exact BK101.out⟩, ⟨by (with_reducible repeat (first | refine aD ?_ _ | refine aG ?_ | refine aE ?_ _)); exact BK102.out⟩, ⟨by repeat (first | (with_reducible first | exact HB.out | apply aL | apply aI | apply aK | refine aM ?_ GE101.out | refine aM ?_ GE102.out) | exact HB.out)⟩⟩
              · rw [if_neg c17] at H
                have c17b0 : decide ((bt a0 x5_3) ≤ 57) = false := decide_eq_false c17
                clear c17
                have H' := Aside0.mk H
                clear H
                have p14 : 0 ≤ (x5_3 : Int) := of_decide_eq_true (by first | (with_reducible assumption) | assumption)
                have q14 : x5_3 < (a0.size : Int) := of_decide_eq_true (by first | (with_reducible assumption) | assumption)
                have hx14 := cH a0 x5_3
                replace p14 := eq_true p14
                replace q14 := eq_true q14
                have p16 : 0 ≤ (x5_3 : Int) := of_decide_eq_true (by first | (with_reducible assumption) | assumption)
                have q16 : x5_3 < (a0.size : Int) := of_decide_eq_true (by first | (with_reducible assumption) | assumption)
                have hx16 := cH a0 x5_3
                replace p16 := eq_true p16
                replace q16 := eq_true q16
                go_wp2
                go_meet
                case rel => exact ⟨_, (x5_3), (by first | rfl | (simp; done) | (simp [*]; done) | (simp [wrap64]; done)), H', ⟨by have := HJ1.out; have := HJ8.out; have := HK3.out; first | omega | exact Nat.le_refl _⟩, ⟨by (with_reducible repeat (first | refine aD ?_ _ | refine aG ?_ | refine aE ?_ _)); exact BK101.out⟩, ⟨by (with_reducible repeat (first | refine aD ?_ _ | refine aG ?_ | refine aE ?_ _)); exact BK102.out⟩, ⟨by repeat (first | (with_reducible first | exact HB.out | apply aL | apply aI | apply aK | refine aM ?_ GE101.out | refine aM ?_ GE102.out) | exact HB.out)⟩⟩
            · rw [if_neg c15] at H
              have c15b0 : decide (48 ≤ (bt a0 x5_3)) = false := decide_eq_false c15
              clear c15
              have H' := Aside0.mk H
              clear H
              have p14 : 0 ≤ (x5_3 : Int) := of_decide_eq_true (by first | (with_reducible assumption) | assumption)
              have q14 : x5_3 < (a0.size : Int) := of_decide_eq_true (by first | (with_reducible assumption) | assumption)
              have hx14 := cH a0 x5_3
              replace p14 := eq_true p14
              replace q14 := eq_true q14
              go_wp2
              go_meet
              case rel => exact ⟨_, (x5_3), (by first | rfl | (simp; done) | (simp [*]; done) | (simp [wrap64]; done)), H', ⟨by have := HJ1.out; have := HJ8.out; have := HK3.out; first | omega | exact Nat.le_refl _⟩, ⟨by (with_reducible repeat (first | refine aD ?_ _ | refine aG ?_ | refine aE ?_ _)); exact BK101.out⟩, ⟨by (with_reducible repeat (first | refine aD ?_ _ | refine aG ?_ | refine aE ?_ _)); exact BK102.out⟩, ⟨by repeat (first | (with_reducible first | exact HB.out | apply aL | apply aI | apply aK | refine aM ?_ GE101.out | refine aM ?_ GE102.out) | exact HB.out)⟩⟩
          · rw [if_neg c13] at H
            exact absurd H (by simp)
        · rw [if_neg c12] at H
          have c12b0 : decide (x5_3 < (a0.size : Int)) = false := decide_eq_false c12
          clear c12
          (first | rw [c12b0] | (simp only [bR, bU]; rw [c12b0]) | skip)
          have H' := Aside0.mk H
          clear H
          go_wp2
          go_meet
          case rel => exact ⟨_, (x5_3), (by first | rfl | (simp; done) | (simp [*]; done) | (simp [wrap64]; done)), H', ⟨by have := HJ1.out; have := HJ8.out; have := HK3.out; first | omega | exact Nat.le_refl _⟩, ⟨by (with_reducible repeat (first | refine aD ?_ _ | refine aG ?_ | refine aE ?_ _)); exact BK101.out⟩, ⟨by (with_reducible repeat (first | refine aD ?_ _ | refine aG ?_ | refine aE ?_ _)); exact BK102.out⟩, ⟨by repeat (first | (with_reducible first | exact HB.out | apply aL | apply aI | apply aK | refine aM ?_ GE101.out | refine aM ?_ GE102.out) | exact HB.out)⟩⟩
     case rest =>
      clear HC11
      (try clear c1); (try clear p1); (try clear q1); (try clear hx1); (try clear p2); (try clear c5); (try clear c6); (try clear p6); (try clear c7); (try clear c7b0); (try clear c7b1); (try clear p8); (try clear q8); (try clear hx8); (try clear qi8); (try clear c10); (try clear c12); (try clear c12b0); (try clear c13); (try clear c13b0); (try clear p14); (try clear q14); (try clear hx14); (try clear c15)
      (try clear c15b0); (try clear p16); (try clear q16); (try clear hx16); (try clear c17); (try clear c17b0); (try clear y6_0); (try clear y6_1); (try clear y6_2); (try clear y6_3); (try clear y6_4); (try clear z6_0); (try clear z6_1); (try clear z6_2); (try clear z6_3); (try clear z6_4); (try clear p14); (try clear p16); (try clear p2); (try clear p6); (try clear p8); (try clear q14)
      (try clear q16); (try clear q8)
      obtain ⟨kq, x5_10, rfl, HA, HJ10, BK101, BK102, HB⟩ := hcut
      cases kq with
      | zero => exact absurd HA.out (by simp [orthoepyref11_cut.j3])
      | succ kj10 =>
       have H := HA.out
       clear HA
       simp only [orthoepyref11_cut.j3] at H
       have HC18 := Aside0.mk H
       clear H
       go_upto_region 8 with (fail)
       go_cut [48] (fun v48 wc => ∃ (kq : Nat) (x48_17 : Bool), v48 = .bool x48_17 ∧ Aside0 (orthoepyref11_cut.j4 kq a0 x5_10 x5_8 x48_17 (⟨#[]⟩ : ByteArray) 0 false 0 (⟨#[]⟩ : ByteArray) = some (r1, r2, r3, r4, r5, r6)) ∧ Aside0 (kq ≤ kj10) ∧ Aside0 (wc.heap[gb101]? = some (.cells #[.string (⟨#[]⟩ : ByteArray), .int .i64 0, .bool false, .int .u8 0, .string (⟨#[]⟩ : ByteArray)] 123 (0, 0))) ∧ Aside0 (wc.heap[gb102]? = some (.cells #[.string (⟨#[]⟩ : ByteArray), .int .i64 0, .bool false, .int .u8 0, .string (⟨#[]⟩ : ByteArray)] 123 (0, 0))) ∧ Aside0 (Below w.heap.size w wc))
       case first => as_aux_lemma =>
        have H := HC18.out
        clear HC18
        by_cases c19 : (wrap64 (x5_10 - x5_8)) > 1
        · rw [if_pos c19] at H
          have c19b0 : decide (1 < (wrap64 (x5_10 - x5_8))) = true := decide_eq_true c19
          clear c19
          (first | rw [c19b0] | (simp only [bR, bU]; rw [c19b0]) | skip)
          by_cases c20 : 0 ≤ x5_8
          · rw [if_pos c20] at H
            have c20b0 : decide (0 ≤ x5_8) = true := decide_eq_true c20
            clear c20
            by_cases c21 : x5_8 < (a0.size : Int)
            · rw [if_pos c21] at H
              have c21b0 : decide (x5_8 < (a0.size : Int)) = true := decide_eq_true c21
              clear c21
              have H' := Aside0.mk H
              clear H
              have p22 : 0 ≤ (x5_8 : Int) := of_decide_eq_true (by first | (with_reducible assumption) | assumption)
              have q22 : x5_8 < (a0.size : Int) := of_decide_eq_true (by first | (with_reducible assumption) | assumption)
              have hx22 := cH a0 x5_8
              replace p22 := eq_true p22
              replace q22 := eq_true q22
              go_wp2
              go_meet
              case rel => exact ⟨_, (((bt a0 x5_8) == 48)), (by first | rfl | (simp; done) | (simp [*]; done) | (simp [wrap64]; done)), H', ⟨by have := HJ1.out; have := HJ8.out; have := HJ10.out; first | omega | exact Nat.le_refl _⟩, ⟨by (with_reducible repeat (first | refine aD ?_ _ | refine aG ?_ | refine aE ?_ _)); exact BK101.out⟩, ⟨by (with_reducible repeat (first | refine aD ?_ _ | refine aG ?_ | refine aE ?_ _)); exact BK102.out⟩, ⟨by repeat (first | (with_reducible first | exact HB.out | apply aL | apply aI | apply aK | refine aM ?_ GE101.out | refine aM ?_ GE102.out) | exact HB.out)⟩⟩
            · rw [if_neg c21] at H
              exact absurd H (by simp)
          · rw [if_neg c20] at H
            exact absurd H (by simp)
        · rw [if_neg c19] at H
          have c19b0 : decide (1 < (wrap64 (x5_10 - x5_8))) = false := decide_eq_false c19
          clear c19
          (first | rw [c19b0] | (simp only [bR, bU]; rw [c19b0]) | skip)
          have H' := Aside0.mk H
          clear H
          go_wp2
          go_meet
          case rel => exact ⟨_, (false), (by first | rfl | (simp; done) | (simp [*]; done) | (simp [wrap64]; done)), H', ⟨by have := HJ1.out; have := HJ8.out; have := HJ10.out; first | omega | exact Nat.le_refl _⟩, ⟨by (with_reducible repeat (first | refine aD ?_ _ | refine aG ?_ | refine aE ?_ _)); exact BK101.out⟩, ⟨by (with_reducible repeat (first | refine aD ?_ _ | refine aG ?_ | refine aE ?_ _)); exact BK102.out⟩, ⟨by repeat (first | (with_reducible first | exact HB.out | apply aL | apply aI | apply aK | refine aM ?_ GE101.out | refine aM ?_ GE102.out) | exact HB.out)⟩⟩
       case rest =>
        clear HC18
        (try clear c1); (try clear p1); (try clear q1); (try clear hx1); (try clear c2); (try clear p2); (try clear q2); (try clear hx2); (try clear c5); (try clear c6); (try clear p6); (try clear c7); (try clear c7b0); (try clear c7b1); (try clear p8); (try clear q8); (try clear hx8); (try clear qi8); (try clear c10); (try clear c12); (try clear c12b0); (try clear c13); (try clear c13b0); (try clear p14)
        (try clear q14); (try clear hx14); (try clear c15); (try clear c15b0); (try clear p16); (try clear q16); (try clear hx16); (try clear c17); (try clear c17b0); (try clear c19); (try clear c19b0); (try clear c20); (try clear c20b0); (try clear c21); (try clear c21b0); (try clear p22); (try clear q22); (try clear hx22); (try clear y6_0); (try clear y6_1); (try clear y6_2); (try clear y6_3)
        (try clear y6_4); (try clear z6_0); (try clear z6_1); (try clear z6_2); (try clear z6_3); (try clear z6_4); (try clear p1); (try clear p14); (try clear p16); (try clear p2); (try clear p22); (try clear p6); (try clear p8); (try clear q1); (try clear q14); (try clear q16); (try clear q22); (try clear q8)
        obtain ⟨kq, x48_17, rfl, HA, HJ17, BK101, BK102, HB⟩ := hcut
        cases kq with
        | zero => exact absurd HA.out (by simp [orthoepyref11_cut.j4])
        | succ kj17 =>
         have H := HA.out
         clear HA
         simp only [orthoepyref11_cut.j4] at H
         by_cases c23 : x48_17 = true
         · subst c23
           have H1 : (some ((⟨#[]⟩ : ByteArray), 0, false, 0, (⟨#[]⟩ : ByteArray), false)) = some (r1, r2, r3, r4, r5, r6) := by rw [if_pos rfl] at H; exact H
           clear H
           have H := H1
           clear H1
           simp only [Option.some.injEq, Prod.mk.injEq] at H
           obtain ⟨rfl, rfl, rfl, rfl, rfl, rfl⟩ := H
           have hnb24 := NB102_101.out
           have hnc24 := NB101_102.out
           have y25_0 : wc.cell? ⟨gb102, 0, none⟩ = some (.string (⟨#[]⟩ : ByteArray)) := (aH BK102.out 0).trans rfl
           have y25_1 : wc.cell? ⟨gb102, 1, none⟩ = some (.int .i64 0) := (aH BK102.out 1).trans rfl
           have y25_2 : wc.cell? ⟨gb102, 2, none⟩ = some (.bool false) := (aH BK102.out 2).trans rfl
           have y25_3 : wc.cell? ⟨gb102, 3, none⟩ = some (.int .u8 0) := (aH BK102.out 3).trans rfl
           have y25_4 : wc.cell? ⟨gb102, 4, none⟩ = some (.string (⟨#[]⟩ : ByteArray)) := (aH BK102.out 4).trans rfl
           have z25_0 := aC BK102.out 0
           have z25_1 := aC BK102.out 1
           have z25_2 := aC BK102.out 2
           have z25_3 := aC BK102.out 3
           have z25_4 := aC BK102.out 4
           have y26_0 : wc.cell? ⟨gb101, 0, none⟩ = some (.string (⟨#[]⟩ : ByteArray)) := (aH BK101.out 0).trans rfl
           have y26_1 : wc.cell? ⟨gb101, 1, none⟩ = some (.int .i64 0) := (aH BK101.out 1).trans rfl
           have y26_2 : wc.cell? ⟨gb101, 2, none⟩ = some (.bool false) := (aH BK101.out 2).trans rfl
           have y26_3 : wc.cell? ⟨gb101, 3, none⟩ = some (.int .u8 0) := (aH BK101.out 3).trans rfl
           have y26_4 : wc.cell? ⟨gb101, 4, none⟩ = some (.string (⟨#[]⟩ : ByteArray)) := (aH BK101.out 4).trans rfl
           have z26_0 := aC BK101.out 0
           have z26_1 := aC BK101.out 1
           have z26_2 := aC BK101.out 2
           have z26_3 := aC BK101.out 3
           have z26_4 := aC BK101.out 4
           go_wp2
           refine hQ_.ret (cU rfl _ _ gb101 123 #[.string (⟨#[]⟩ : ByteArray), .int .i64 0, .bool false, .int .u8 0, .string (⟨#[]⟩ : ByteArray)] (0, 0) _ rfl (by (with_reducible repeat (first | refine aD ?_ _ | refine aG ?_ | refine aE ?_ _)); refine aV (cs := #[.string (⟨#[]⟩ : ByteArray), .int .i64 0, .bool false, .int .u8 0, .string (⟨#[]⟩ : ByteArray)]) ?_ 4 _ rfl; (with_reducible repeat (first | refine aD ?_ _ | refine aG ?_ | refine aE ?_ _)); refine aV (cs := #[.string (⟨#[]⟩ : ByteArray), .int .i64 0, .bool false, .int .u8 0, .string (⟨#[]⟩ : ByteArray)]) ?_ 3 _ rfl; (with_reducible repeat (first | refine aD ?_ _ | refine aG ?_ | refine aE ?_ _)); refine aV (cs := #[.string (⟨#[]⟩ : ByteArray), .int .i64 0, .bool false, .int .u8 0, .string (⟨#[]⟩ : ByteArray)]) ?_ 2 _ rfl; (with_reducible repeat (first | refine aD ?_ _ | refine aG ?_ | refine aE ?_ _)); refine aV (cs := #[.string (⟨#[]⟩ : ByteArray), .int .i64 0, .bool false, .int .u8 0, .string (⟨#[]⟩ : ByteArray)]) ?_ 1 _ rfl; (with_reducible repeat (first | refine aD ?_ _ | refine aG ?_ | refine aE ?_ _)); refine aV (cs := #[.string (⟨#[]⟩ : ByteArray), .int .i64 0, .bool false, .int .u8 0, .string (⟨#[]⟩ : ByteArray)]) ?_ 0 _ rfl; (with_reducible repeat (first | refine aD ?_ _ | refine aG ?_ | refine aE ?_ _)); exact BK101.out) Tryz.underlying123 rfl (by kernel_rfl)) rfl ?_
           exact ⟨by first | rfl | (simp [aT, aS] <;> rfl) | (simp [*, aT, aS] <;> rfl), by repeat (first | (with_reducible first | exact HB.out | apply aL | apply aI | apply aK | refine aM ?_ GE101.out | refine aM ?_ GE102.out) | exact HB.out)⟩
         · replace c23 := Bool.eq_false_iff.mpr c23
           subst c23
           have H1 : (if 0 ≤ x5_8 then (if x5_8 ≤ x5_10 then (if x5_10 ≤ (a0.size : Int) then (if x5_10 = (a0.size : Int) then (some (a0.extract (x5_8 : Int).toNat (x5_10 : Int).toNat, 0, false, 0, (⟨#[]⟩ : ByteArray), true)) else (if ((a0.extract (x5_8 : Int).toNat (x5_10 : Int).toNat).size : Int) = 0 then (some (a0.extract (x5_8 : Int).toNat (x5_10 : Int).toNat, 0, false, 0, (⟨#[]⟩ : ByteArray), false)) else (if 0 ≤ x5_10 then (if x5_10 < (a0.size : Int) then (if (bt a0 x5_10) = 46 then (orthoepyref11_cut.l1 kj17 a0 (wrap64 (x5_10 + 1)) (wrap64 (x5_10 + 1)) (a0.extract (x5_8 : Int).toNat (x5_10 : Int).toNat) 0 false 0 (⟨#[]⟩ : ByteArray)) else (orthoepyref11_cut.j7 kj17 a0 x5_10 (a0.extract (x5_8 : Int).toNat (x5_10 : Int).toNat) 0 false 0 (⟨#[]⟩ : ByteArray))) else (none)) else (none)))) else (none)) else (none)) else (none)) = some (r1, r2, r3, r4, r5, r6) := by rw [if_neg (show ¬ (false = true) by decide)] at H; exact H
           clear H
           have H := H1
           clear H1
           by_cases c27 : 0 ≤ x5_8
           · rw [if_pos c27] at H
             have c27b0 := eq_true c27
             have c27b1 : decide (0 ≤ x5_8) = true := decide_eq_true c27
             clear c27
             by_cases c28 : x5_8 ≤ x5_10
             · rw [if_pos c28] at H
               have c28b0 := eq_true c28
               have c28b1 : decide (x5_8 ≤ x5_10) = true := decide_eq_true c28
               clear c28
               by_cases c29 : x5_10 ≤ (a0.size : Int)
               · rw [if_pos c29] at H
                 have c29b0 := eq_true c29
                 have c29b1 : decide (x5_10 ≤ (a0.size : Int)) = true := decide_eq_true c29
                 clear c29
                 by_cases c30 : x5_10 = (a0.size : Int)
                 · rw [if_pos c30] at H
                   have c30b0 : (x5_10 == (a0.size : Int)) = true := beq_iff_eq.mpr c30
                   have c30b1 : (x5_10 != (a0.size : Int)) = false := bne_eq_false_iff_eq.mpr c30
                   clear c30
                   simp only [Option.some.injEq, Prod.mk.injEq] at H
                   obtain ⟨rfl, rfl, rfl, rfl, rfl, rfl⟩ := H
                   have hnb31 := NB102_101.out
                   have hnc31 := NB101_102.out
                   have y32_0 : wc.cell? ⟨gb102, 0, none⟩ = some (.string (⟨#[]⟩ : ByteArray)) := (aH BK102.out 0).trans rfl
                   have y32_1 : wc.cell? ⟨gb102, 1, none⟩ = some (.int .i64 0) := (aH BK102.out 1).trans rfl
                   have y32_2 : wc.cell? ⟨gb102, 2, none⟩ = some (.bool false) := (aH BK102.out 2).trans rfl
                   have y32_3 : wc.cell? ⟨gb102, 3, none⟩ = some (.int .u8 0) := (aH BK102.out 3).trans rfl
                   have y32_4 : wc.cell? ⟨gb102, 4, none⟩ = some (.string (⟨#[]⟩ : ByteArray)) := (aH BK102.out 4).trans rfl
                   have z32_0 := aC BK102.out 0
                   have z32_1 := aC BK102.out 1
                   have z32_2 := aC BK102.out 2
                   have z32_3 := aC BK102.out 3
                   have z32_4 := aC BK102.out 4
                   have y33_0 : wc.cell? ⟨gb101, 0, none⟩ = some (.string (⟨#[]⟩ : ByteArray)) := (aH BK101.out 0).trans rfl
                   have y33_1 : wc.cell? ⟨gb101, 1, none⟩ = some (.int .i64 0) := (aH BK101.out 1).trans rfl
                   have y33_2 : wc.cell? ⟨gb101, 2, none⟩ = some (.bool false) := (aH BK101.out 2).trans rfl
                   have y33_3 : wc.cell? ⟨gb101, 3, none⟩ = some (.int .u8 0) := (aH BK101.out 3).trans rfl
                   have y33_4 : wc.cell? ⟨gb101, 4, none⟩ = some (.string (⟨#[]⟩ : ByteArray)) := (aH BK101.out 4).trans rfl
                   have z33_0 := aC BK101.out 0
                   have z33_1 := aC BK101.out 1
                   have z33_2 := aC BK101.out 2
                   have z33_3 := aC BK101.out 3
                   have z33_4 := aC BK101.out 4
                   go_wp2
                   refine hQ_.ret (cU rfl _ _ gb101 123 #[.string (a0.extract (x5_8 : Int).toNat (x5_10 : Int).toNat), .int .i64 0, .bool false, .int .u8 0, .string (⟨#[]⟩ : ByteArray)] (0, 0) _ rfl (by (with_reducible repeat (first | refine aD ?_ _ | refine aG ?_ | refine aE ?_ _)); refine aV (cs := #[.string (a0.extract (x5_8 : Int).toNat (x5_10 : Int).toNat), .int .i64 0, .bool false, .int .u8 0, .string (⟨#[]⟩ : ByteArray)]) ?_ 4 _ rfl; (with_reducible repeat (first | refine aD ?_ _ | refine aG ?_ | refine aE ?_ _)); refine aV (cs := #[.string (a0.extract (x5_8 : Int).toNat (x5_10 : Int).toNat), .int .i64 0, .bool false, .int .u8 0, .string (⟨#[]⟩ : ByteArray)]) ?_ 3 _ rfl; (with_reducible repeat (first | refine aD ?_ _ | refine aG ?_ | refine aE ?_ _)); refine aV (cs := #[.string (a0.extract (x5_8 : Int).toNat (x5_10 : Int).toNat), .int .i64 0, .bool false, .int .u8 0, .string (⟨#[]⟩ : ByteArray)]) ?_ 2 _ rfl; (with_reducible repeat (first | refine aD ?_ _ | refine aG ?_ | refine aE ?_ _)); refine aV (cs := #[.string (a0.extract (x5_8 : Int).toNat (x5_10 : Int).toNat), .int .i64 0, .bool false, .int .u8 0, .string (⟨#[]⟩ : ByteArray)]) ?_ 1 _ rfl; (with_reducible repeat (first | refine aD ?_ _ | refine aG ?_ | refine aE ?_ _)); refine aV (cs := #[.string (⟨#[]⟩ : ByteArray), .int .i64 0, .bool false, .int .u8 0, .string (⟨#[]⟩ : ByteArray)]) ?_ 0 _ rfl; (with_reducible repeat (first | refine aD ?_ _ | refine aG ?_ | refine aE ?_ _)); refine bQ ?_ NB101_102.out _; (with_reducible repeat (first | refine aD ?_ _ | refine aG ?_ | refine aE ?_ _)); exact BK101.out) Tryz.underlying123 rfl (by kernel_rfl)) rfl ?_
                   exact ⟨by first | rfl | (simp [aT, aS] <;> rfl) | (simp [*, aT, aS] <;> rfl), by repeat (first | (with_reducible first | exact HB.out | apply aL | apply aI | apply aK | refine aM ?_ GE101.out | refine aM ?_ GE102.out) | exact HB.out)⟩
                 · rw [if_neg c30] at H
                   have c30b0 : (x5_10 == (a0.size : Int)) = false := beq_eq_false_iff_ne.mpr c30
                   have c30b1 : (x5_10 != (a0.size : Int)) = true := bne_iff_ne.mpr c30
                   by_cases c34 : ((a0.extract (x5_8 : Int).toNat (x5_10 : Int).toNat).size : Int) = 0
                   · rw [if_pos c34] at H
                     have c34b0 : (((a0.extract (x5_8 : Int).toNat (x5_10 : Int).toNat).size : Int) == 0) = true := beq_iff_eq.mpr c34
                     have c34z : (((x5_10.toNat - x5_8.toNat : Nat) : Int) == 0) = true := by rw [← show (a0.extract (x5_8 : Int).toNat (x5_10 : Int).toNat).size = x5_10.toNat - x5_8.toNat from by rw [ByteArray.size_extract, Nat.min_eq_left (by have := of_decide_eq_true c29b1; omega)]]; exact c34b0
                     have c34y : (((x5_10.toNat - x5_8.toNat : Nat) : Int) != 0) = false := by rw [bne, c34z]; rfl
                     have c34b1 : (((a0.extract (x5_8 : Int).toNat (x5_10 : Int).toNat).size : Int) != 0) = false := bne_eq_false_iff_eq.mpr c34
                     clear c34
                     simp only [Option.some.injEq, Prod.mk.injEq] at H
                     obtain ⟨rfl, rfl, rfl, rfl, rfl, rfl⟩ := H
                     have hnb35 := NB102_101.out
                     have hnc35 := NB101_102.out
                     have y36_0 : wc.cell? ⟨gb102, 0, none⟩ = some (.string (⟨#[]⟩ : ByteArray)) := (aH BK102.out 0).trans rfl
                     have y36_1 : wc.cell? ⟨gb102, 1, none⟩ = some (.int .i64 0) := (aH BK102.out 1).trans rfl
                     have y36_2 : wc.cell? ⟨gb102, 2, none⟩ = some (.bool false) := (aH BK102.out 2).trans rfl
                     have y36_3 : wc.cell? ⟨gb102, 3, none⟩ = some (.int .u8 0) := (aH BK102.out 3).trans rfl
                     have y36_4 : wc.cell? ⟨gb102, 4, none⟩ = some (.string (⟨#[]⟩ : ByteArray)) := (aH BK102.out 4).trans rfl
                     have z36_0 := aC BK102.out 0
                     have z36_1 := aC BK102.out 1
                     have z36_2 := aC BK102.out 2
                     have z36_3 := aC BK102.out 3
                     have z36_4 := aC BK102.out 4
                     have y37_0 : wc.cell? ⟨gb101, 0, none⟩ = some (.string (⟨#[]⟩ : ByteArray)) := (aH BK101.out 0).trans rfl
                     have y37_1 : wc.cell? ⟨gb101, 1, none⟩ = some (.int .i64 0) := (aH BK101.out 1).trans rfl
                     have y37_2 : wc.cell? ⟨gb101, 2, none⟩ = some (.bool false) := (aH BK101.out 2).trans rfl
                     have y37_3 : wc.cell? ⟨gb101, 3, none⟩ = some (.int .u8 0) := (aH BK101.out 3).trans rfl
                     have y37_4 : wc.cell? ⟨gb101, 4, none⟩ = some (.string (⟨#[]⟩ : ByteArray)) := (aH BK101.out 4).trans rfl
                     have z37_0 := aC BK101.out 0
                     have z37_1 := aC BK101.out 1
                     have z37_2 := aC BK101.out 2
                     have z37_3 := aC BK101.out 3
                     have z37_4 := aC BK101.out 4
                     go_wp2
                     refine hQ_.ret (cU rfl _ _ gb101 123 #[.string (a0.extract (x5_8 : Int).toNat (x5_10 : Int).toNat), .int .i64 0, .bool false, .int .u8 0, .string (⟨#[]⟩ : ByteArray)] (0, 0) _ rfl (by (with_reducible repeat (first | refine aD ?_ _ | refine aG ?_ | refine aE ?_ _)); refine aV (cs := #[.string (a0.extract (x5_8 : Int).toNat (x5_10 : Int).toNat), .int .i64 0, .bool false, .int .u8 0, .string (⟨#[]⟩ : ByteArray)]) ?_ 4 _ rfl; (with_reducible repeat (first | refine aD ?_ _ | refine aG ?_ | refine aE ?_ _)); refine aV (cs := #[.string (a0.extract (x5_8 : Int).toNat (x5_10 : Int).toNat), .int .i64 0, .bool false, .int .u8 0, .string (⟨#[]⟩ : ByteArray)]) ?_ 3 _ rfl; (with_reducible repeat (first | refine aD ?_ _ | refine aG ?_ | refine aE ?_ _)); refine aV (cs := #[.string (a0.extract (x5_8 : Int).toNat (x5_10 : Int).toNat), .int .i64 0, .bool false, .int .u8 0, .string (⟨#[]⟩ : ByteArray)]) ?_ 2 _ rfl; (with_reducible repeat (first | refine aD ?_ _ | refine aG ?_ | refine aE ?_ _)); refine aV (cs := #[.string (a0.extract (x5_8 : Int).toNat (x5_10 : Int).toNat), .int .i64 0, .bool false, .int .u8 0, .string (⟨#[]⟩ : ByteArray)]) ?_ 1 _ rfl; (with_reducible repeat (first | refine aD ?_ _ | refine aG ?_ | refine aE ?_ _)); refine aV (cs := #[.string (⟨#[]⟩ : ByteArray), .int .i64 0, .bool false, .int .u8 0, .string (⟨#[]⟩ : ByteArray)]) ?_ 0 _ rfl; (with_reducible repeat (first | refine aD ?_ _ | refine aG ?_ | refine aE ?_ _)); refine bQ ?_ NB101_102.out _; (with_reducible repeat (first | refine aD ?_ _ | refine aG ?_ | refine aE ?_ _)); exact BK101.out) Tryz.underlying123 rfl (by kernel_rfl)) rfl ?_
                     exact ⟨by first | rfl | (simp [aT, aS] <;> rfl) | (simp [*, aT, aS] <;> rfl), by repeat (first | (with_reducible first | exact HB.out | apply aL | apply aI | apply aK | refine aM ?_ GE101.out | refine aM ?_ GE102.out) | exact HB.out)⟩
                   · rw [if_neg c34] at H
                     have c34b0 : (((a0.extract (x5_8 : Int).toNat (x5_10 : Int).toNat).size : Int) == 0) = false := beq_eq_false_iff_ne.mpr c34
                     have c34z : (((x5_10.toNat - x5_8.toNat : Nat) : Int) == 0) = false := by rw [← show (a0.extract (x5_8 : Int).toNat (x5_10 : Int).toNat).size = x5_10.toNat - x5_8.toNat from by rw [ByteArray.size_extract, Nat.min_eq_left (by have := of_decide_eq_true c29b1; omega)]]; exact c34b0
                     have c34y : (((x5_10.toNat - x5_8.toNat : Nat) : Int) != 0) = true := by rw [bne, c34z]; rfl
                     have c34b1 : (((a0.extract (x5_8 : Int).toNat (x5_10 : Int).toNat).size : Int) != 0) = true := bne_iff_ne.mpr c34
                     by_cases c38 : 0 ≤ x5_10
                     · rw [if_pos c38] at H
                       have c38b0 : decide (0 ≤ x5_10) = true := decide_eq_true c38
                       clear c38
                       by_cases c39 : x5_10 < (a0.size : Int)
                       · rw [if_pos c39] at H
                         have c39b0 : decide (x5_10 < (a0.size : Int)) = true := decide_eq_true c39
                         clear c39
                         have HC41 := Aside0.mk H
                         clear H
                         have hnb42 := NB102_101.out
                         have hnc42 := NB101_102.out
                         have y43_0 : wc.cell? ⟨gb102, 0, none⟩ = some (.string (⟨#[]⟩ : ByteArray)) := (aH BK102.out 0).trans rfl
                         have y43_1 : wc.cell? ⟨gb102, 1, none⟩ = some (.int .i64 0) := (aH BK102.out 1).trans rfl
                         have y43_2 : wc.cell? ⟨gb102, 2, none⟩ = some (.bool false) := (aH BK102.out 2).trans rfl
                         have y43_3 : wc.cell? ⟨gb102, 3, none⟩ = some (.int .u8 0) := (aH BK102.out 3).trans rfl
                         have y43_4 : wc.cell? ⟨gb102, 4, none⟩ = some (.string (⟨#[]⟩ : ByteArray)) := (aH BK102.out 4).trans rfl
                         have z43_0 := aC BK102.out 0
                         have z43_1 := aC BK102.out 1
                         have z43_2 := aC BK102.out 2
                         have z43_3 := aC BK102.out 3
                         have z43_4 := aC BK102.out 4
                         have p40 : 0 ≤ (x5_10 : Int) := of_decide_eq_true (by first | (with_reducible assumption) | assumption)
                         have q40 : x5_10 < (a0.size : Int) := of_decide_eq_true (by first | (with_reducible assumption) | assumption)
                         have hx40 := cH a0 x5_10
                         replace p40 := eq_true p40
                         replace q40 := eq_true q40
                         go_upto_if 68 with (fail)
                         go_cut [5] (fun v5 wc => ∃ (kq : Nat) (x5_40 : Int) (x102000_40 : ByteArray) (x102001_40 : Int) (x102002_40 : Bool) (x102003_40 : Int) (x102004_40 : ByteArray) (x103000_40 : ByteArray) (x103001_40 : Int), v5 = .int .i64 x5_40 ∧ Aside0 (orthoepyref11_cut.j7 kq a0 x5_40 x103000_40 x103001_40 false 0 (⟨#[]⟩ : ByteArray) = some (r1, r2, r3, r4, r5, r6)) ∧ Aside0 (kq ≤ kj17) ∧ Aside0 (wc.heap[gb101]? = some (.cells #[.string x102000_40, .int .i64 x102001_40, .bool x102002_40, .int .u8 x102003_40, .string x102004_40] 123 (0, 0))) ∧ Aside0 (wc.heap[gb102]? = some (.cells #[.string x103000_40, .int .i64 x103001_40, .bool false, .int .u8 0, .string (⟨#[]⟩ : ByteArray)] 123 (0, 0))) ∧ Aside0 (Below w.heap.size w wc))
                         case first => as_aux_lemma =>
                          have H := HC41.out
                          clear HC41
                          by_cases c44 : (bt a0 x5_10) = 46
                          · rw [if_pos c44] at H
                            have c44b0 : ((bt a0 x5_10) == 46) = true := beq_iff_eq.mpr c44
                            have c44b1 : ((bt a0 x5_10) != 46) = false := bne_eq_false_iff_eq.mpr c44
                            clear c44
                            (first | rw [c44b0] | (simp only [bR, bU]; rw [c44b0]) | skip)
                            have HC45 := Aside0.mk H
                            clear H
                            go_upto_block 2 with (fail)
                            go_cut [5] (fun v5 wc => ∃ (kq : Nat) (x5_44 : Int), v5 = .int .i64 x5_44 ∧ Aside0 (orthoepyref11_cut.j6 kq a0 x5_44 (wrap64 (x5_10 + 1)) (a0.extract (x5_8 : Int).toNat (x5_10 : Int).toNat) 0 false 0 (⟨#[]⟩ : ByteArray) = some (r1, r2, r3, r4, r5, r6)) ∧ Aside0 (kq ≤ kj17) ∧ Aside0 (wc.heap[gb101]? = some (.cells #[.string (⟨#[]⟩ : ByteArray), .int .i64 0, .bool false, .int .u8 0, .string (⟨#[]⟩ : ByteArray)] 123 (0, 0))) ∧ Aside0 (wc.heap[gb102]? = some (.cells #[.string (a0.extract (x5_8 : Int).toNat (x5_10 : Int).toNat), .int .i64 0, .bool false, .int .u8 0, .string (⟨#[]⟩ : ByteArray)] 123 (0, 0))) ∧ Aside0 (Below w.heap.size w wc))
                            case first => as_aux_lemma =>
                             have H := HC45.out
                             clear HC45
                             have H' := Aside0.mk H
                             clear H
                             go_wp2
                             go_loopg [5] kj17 (fun kq v5 w' => ∃ (x5_5 : Int), v5 = .int .i64 x5_5 ∧ Aside0 (orthoepyref11_cut.l1 kq a0 x5_5 (wrap64 (x5_10 + 1)) (a0.extract (x5_8 : Int).toNat (x5_10 : Int).toNat) 0 false 0 (⟨#[]⟩ : ByteArray) = some (r1, r2, r3, r4, r5, r6)) ∧ Aside0 (kq ≤ kj17) ∧ Aside0 (w'.heap[gb101]? = some (.cells #[.string (⟨#[]⟩ : ByteArray), .int .i64 0, .bool false, .int .u8 0, .string (⟨#[]⟩ : ByteArray)] 123 (0, 0))) ∧ Aside0 (w'.heap[gb102]? = some (.cells #[.string (a0.extract (x5_8 : Int).toNat (x5_10 : Int).toNat), .int .i64 0, .bool false, .int .u8 0, .string (⟨#[]⟩ : ByteArray)] 123 (0, 0))) ∧ Aside0 (Below w.heap.size w w'))
                             case atStart => exact ⟨(wrap64 (x5_10 + 1)), (by first | rfl | (simp; done) | (simp [*]; done) | (simp [wrap64]; done)), H', ⟨Nat.le_refl _⟩, ⟨by (with_reducible repeat (first | refine aD ?_ _ | refine aG ?_ | refine aE ?_ _)); refine bQ ?_ NB101_102.out _; (with_reducible repeat (first | refine aD ?_ _ | refine aG ?_ | refine aE ?_ _)); exact BK101.out⟩, ⟨by (with_reducible repeat (first | refine aD ?_ _ | refine aG ?_ | refine aE ?_ _)); refine aV (cs := #[.string (⟨#[]⟩ : ByteArray), .int .i64 0, .bool false, .int .u8 0, .string (⟨#[]⟩ : ByteArray)]) ?_ 0 _ rfl; (with_reducible repeat (first | refine aD ?_ _ | refine aG ?_ | refine aE ?_ _)); exact BK102.out⟩, ⟨by repeat (first | (with_reducible first | exact HB.out | apply aL | apply aI | apply aK | refine aM ?_ GE101.out | refine aM ?_ GE102.out) | exact HB.out)⟩⟩
                             case round =>
                              clear H'
                              (try clear c1); (try clear p1); (try clear q1); (try clear hx1); (try clear c2); (try clear p2); (try clear q2); (try clear hx2); (try clear c3); (try clear c4); (try clear p4); (try clear q4); (try clear hx4); (try clear c5); (try clear c6); (try clear p6); (try clear c7); (try clear c7b0); (try clear c7b1); (try clear p8); (try clear q8); (try clear hx8); (try clear qi8)
                              (try clear c10); (try clear c12); (try clear c12b0); (try clear c13); (try clear c13b0); (try clear p14); (try clear q14); (try clear hx14); (try clear c15); (try clear c15b0); (try clear p16); (try clear q16); (try clear hx16); (try clear c17); (try clear c17b0); (try clear c19); (try clear c19b0); (try clear c20); (try clear c20b0); (try clear c21); (try clear c21b0)
                              (try clear p22); (try clear q22); (try clear hx22); (try clear c23); (try clear c24); (try clear c27); (try clear c27b0); (try clear c27b1); (try clear c28); (try clear c28b0); (try clear c28b1); (try clear c29); (try clear c29b0); (try clear c29b1); (try clear c30); (try clear c30b0); (try clear c30b1); (try clear c31); (try clear c34); (try clear c34b0); (try clear c34b1)
                              (try clear c35); (try clear c38); (try clear c38b0); (try clear c39); (try clear c39b0); (try clear p40); (try clear q40); (try clear hx40); (try clear c42); (try clear c44); (try clear c44b0); (try clear c44b1); (try clear y25_0); (try clear y25_1); (try clear y25_2); (try clear y25_3); (try clear y25_4); (try clear y26_0); (try clear y26_1); (try clear y26_2)
                              (try clear y26_3); (try clear y26_4); (try clear y32_0); (try clear y32_1); (try clear y32_2); (try clear y32_3); (try clear y32_4); (try clear y33_0); (try clear y33_1); (try clear y33_2); (try clear y33_3); (try clear y33_4); (try clear y36_0); (try clear y36_1); (try clear y36_2); (try clear y36_3); (try clear y36_4); (try clear y37_0)
                              (try clear y37_1); (try clear y37_2); (try clear y37_3); (try clear y37_4); (try clear y43_0); (try clear y43_1); (try clear y43_2); (try clear y43_3); (try clear y43_4); (try clear y6_0); (try clear y6_1); (try clear y6_2); (try clear y6_3); (try clear y6_4); (try clear z25_0); (try clear z25_1); (try clear z25_2); (try clear z25_3)
                              (try clear z25_4); (try clear z26_0); (try clear z26_1); (try clear z26_2); (try clear z26_3); (try clear z26_4); (try clear z32_0); (try clear z32_1); (try clear z32_2); (try clear z32_3); (try clear z32_4); (try clear z33_0); (try clear z33_1); (try clear z33_2); (try clear z33_3); (try clear z33_4); (try clear z36_0); (try clear z36_1)
                              (try clear z36_2); (try clear z36_3); (try clear z36_4); (try clear z37_0); (try clear z37_1); (try clear z37_2); (try clear z37_3); (try clear z37_4); (try clear z43_0); (try clear z43_1); (try clear z43_2); (try clear z43_3); (try clear z43_4); (try clear z6_0); (try clear z6_1); (try clear z6_2); (try clear z6_3); (try clear z6_4)
                              (try clear p1); (try clear p14); (try clear p16); (try clear p2); (try clear p22); (try clear p40); (try clear p6); (try clear p8); (try clear q1); (try clear q14); (try clear q16); (try clear q2); (try clear q22); (try clear q40); (try clear q8)
                              obtain ⟨x5_5, rfl, HA, HK5, BK101, BK102, HB⟩ := hrel
                              cases gk with
                              | zero => exact absurd HA.out (by simp [orthoepyref11_cut.l1])
                              | succ k5 =>
                               have H := HA.out
                               clear HA
                               simp only [orthoepyref11_cut.l1] at H
                               by_cases c46 : x5_5 < (a0.size : Int)
                               · rw [if_pos c46] at H
                                 have c46b0 : decide (x5_5 < (a0.size : Int)) = true := decide_eq_true c46
                                 clear c46
                                 (first | rw [c46b0] | (simp only [bR, bU]; rw [c46b0]) | skip)
                                 by_cases c47 : 0 ≤ x5_5
                                 · rw [if_pos c47] at H
                                   have c47b0 : decide (0 ≤ x5_5) = true := decide_eq_true c47
                                   clear c47
                                   by_cases c49 : (bt a0 x5_5) ≥ 48
                                   · rw [if_pos c49] at H
                                     have c49b0 : decide (48 ≤ (bt a0 x5_5)) = true := decide_eq_true c49
                                     clear c49
                                     by_cases c51 : (bt a0 x5_5) ≤ 57
                                     · rw [if_pos c51] at H
                                       have c51b0 : decide ((bt a0 x5_5) ≤ 57) = true := decide_eq_true c51
                                       clear c51
                                       have H' := Aside0.mk H
                                       clear H
                                       have p48 : 0 ≤ (x5_5 : Int) := of_decide_eq_true (by first | (with_reducible assumption) | assumption)
                                       have q48 : x5_5 < (a0.size : Int) := of_decide_eq_true (by first | (with_reducible assumption) | assumption)
                                       have hx48 := cH a0 x5_5
                                       replace p48 := eq_true p48
                                       replace q48 := eq_true q48
                                       have p50 : 0 ≤ (x5_5 : Int) := of_decide_eq_true (by first | (with_reducible assumption) | assumption)
                                       have q50 : x5_5 < (a0.size : Int) := of_decide_eq_true (by first | (with_reducible assumption) | assumption)
                                       have hx50 := cH a0 x5_5
                                       replace p50 := eq_true p50
                                       replace q50 := eq_true q50
                                       go_wp2
                                       go_roundg k5
                                       case measure => have := HJ1.out; have := HJ8.out; have := HJ10.out; have := HJ17.out; have := HK5.out; omega
                                       case rel => exact ⟨(wrap64 (x5_5 + 1)), (by first | rfl | (simp; done) | (simp [*]; done) | (simp [wrap64]; done)), H', ⟨by have := HJ1.out; have := HJ8.out; have := HJ10.out; have := HJ17.out; have := HK5.out; omega⟩, ⟨by (with_reducible repeat (first | refine aD ?_ _ | refine aG ?_ | refine aE ?_ _)); exact BK101.out⟩, ⟨by (with_reducible repeat (first | refine aD ?_ _ | refine aG ?_ | refine aE ?_ _)); exact BK102.out⟩, ⟨by repeat (first | (with_reducible first | exact HB.out | apply aL | apply aI | apply aK | refine aM ?_ GE101.out | refine aM ?_ GE102.out) | exact HB.out)⟩⟩
                                     · rw [if_neg c51] at H
                                       have c51b0 : decide ((bt a0 x5_5) ≤ 57) = false := decide_eq_false c51
                                       clear c51
                                       have H' := Aside0.mk H
                                       clear H
                                       have p48 : 0 ≤ (x5_5 : Int) := of_decide_eq_true (by first | (with_reducible assumption) | assumption)
                                       have q48 : x5_5 < (a0.size : Int) := of_decide_eq_true (by first | (with_reducible assumption) | assumption)
                                       have hx48 := cH a0 x5_5
                                       replace p48 := eq_true p48
                                       replace q48 := eq_true q48
                                       have p50 : 0 ≤ (x5_5 : Int) := of_decide_eq_true (by first | (with_reducible assumption) | assumption)
                                       have q50 : x5_5 < (a0.size : Int) := of_decide_eq_true (by first | (with_reducible assumption) | assumption)
                                       have hx50 := cH a0 x5_5
                                       replace p50 := eq_true p50
                                       replace q50 := eq_true q50
                                       go_wp2
                                       go_meet
                                       case rel => exact ⟨_, (x5_5), (by first | rfl | (simp; done) | (simp [*]; done) | (simp [wrap64]; done)), H', ⟨by have := HJ1.out; have := HJ8.out; have := HJ10.out; have := HJ17.out; have := HK5.out; first | omega | exact Nat.le_refl _⟩, ⟨by (with_reducible repeat (first | refine aD ?_ _ | refine aG ?_ | refine aE ?_ _)); exact BK101.out⟩, ⟨by (with_reducible repeat (first | refine aD ?_ _ | refine aG ?_ | refine aE ?_ _)); exact BK102.out⟩, ⟨by repeat (first | (with_reducible first | exact HB.out | apply aL | apply aI | apply aK | refine aM ?_ GE101.out | refine aM ?_ GE102.out) | exact HB.out)⟩⟩
                                   · rw [if_neg c49] at H
                                     have c49b0 : decide (48 ≤ (bt a0 x5_5)) = false := decide_eq_false c49
                                     clear c49
                                     have H' := Aside0.mk H
                                     clear H
                                     have p48 : 0 ≤ (x5_5 : Int) := of_decide_eq_true (by first | (with_reducible assumption) | assumption)
                                     have q48 : x5_5 < (a0.size : Int) := of_decide_eq_true (by first | (with_reducible assumption) | assumption)
                                     have hx48 := cH a0 x5_5
                                     replace p48 := eq_true p48
                                     replace q48 := eq_true q48
                                     go_wp2
                                     go_meet
                                     case rel => exact ⟨_, (x5_5), (by first | rfl | (simp; done) | (simp [*]; done) | (simp [wrap64]; done)), H', ⟨by have := HJ1.out; have := HJ8.out; have := HJ10.out; have := HJ17.out; have := HK5.out; first | omega | exact Nat.le_refl _⟩, ⟨by (with_reducible repeat (first | refine aD ?_ _ | refine aG ?_ | refine aE ?_ _)); exact BK101.out⟩, ⟨by (with_reducible repeat (first | refine aD ?_ _ | refine aG ?_ | refine aE ?_ _)); exact BK102.out⟩, ⟨by repeat (first | (with_reducible first | exact HB.out | apply aL | apply aI | apply aK | refine aM ?_ GE101.out | refine aM ?_ GE102.out) | exact HB.out)⟩⟩
                                 · rw [if_neg c47] at H
                                   exact absurd H (by simp)
                               · rw [if_neg c46] at H
                                 have c46b0 : decide (x5_5 < (a0.size : Int)) = false := decide_eq_false c46
                                 clear c46
                                 (first | rw [c46b0] | (simp only [bR, bU]; rw [c46b0]) | skip)
                                 have H' := Aside0.mk H
                                 clear H
                                 go_wp2
                                 go_meet
                                 case rel => exact ⟨_, (x5_5), (by first | rfl | (simp; done) | (simp [*]; done) | (simp [wrap64]; done)), H', ⟨by have := HJ1.out; have := HJ8.out; have := HJ10.out; have := HJ17.out; have := HK5.out; first | omega | exact Nat.le_refl _⟩, ⟨by (with_reducible repeat (first | refine aD ?_ _ | refine aG ?_ | refine aE ?_ _)); exact BK101.out⟩, ⟨by (with_reducible repeat (first | refine aD ?_ _ | refine aG ?_ | refine aE ?_ _)); exact BK102.out⟩, ⟨by repeat (first | (with_reducible first | exact HB.out | apply aL | apply aI | apply aK | refine aM ?_ GE101.out | refine aM ?_ GE102.out) | exact HB.out)⟩⟩
                            case rest =>
                             clear HC45
                             (try clear c1); (try clear p1); (try clear q1); (try clear hx1); (try clear c2); (try clear p2); (try clear q2); (try clear hx2); (try clear c3); (try clear c4); (try clear p4); (try clear q4); (try clear hx4); (try clear c5); (try clear p5); (try clear q5); (try clear hx5); (try clear c6); (try clear p6); (try clear c7); (try clear c7b0); (try clear c7b1); (try clear p8)
                             (try clear q8); (try clear hx8); (try clear qi8); (try clear c10); (try clear c12); (try clear c12b0); (try clear c13); (try clear c13b0); (try clear p14); (try clear q14); (try clear hx14); (try clear c15); (try clear c15b0); (try clear p16); (try clear q16); (try clear hx16); (try clear c17); (try clear c17b0); (try clear c19); (try clear c19b0); (try clear c20); (try clear c20b0)
                             (try clear c21); (try clear c21b0); (try clear p22); (try clear q22); (try clear hx22); (try clear c23); (try clear c24); (try clear c27); (try clear c27b0); (try clear c27b1); (try clear c28); (try clear c28b0); (try clear c28b1); (try clear c29); (try clear c29b0); (try clear c29b1); (try clear c30); (try clear c30b0); (try clear c30b1); (try clear c31); (try clear c34)
                             (try clear c34b0); (try clear c34b1); (try clear c35); (try clear c38); (try clear c38b0); (try clear c39); (try clear c39b0); (try clear p40); (try clear q40); (try clear hx40); (try clear c42); (try clear c44); (try clear c44b0); (try clear c44b1); (try clear c46); (try clear c46b0); (try clear c47); (try clear c47b0); (try clear p48); (try clear q48); (try clear hx48)
                             (try clear c49); (try clear c49b0); (try clear p50); (try clear q50); (try clear hx50); (try clear c51); (try clear c51b0); (try clear y25_0); (try clear y25_1); (try clear y25_2); (try clear y25_3); (try clear y25_4); (try clear y26_0); (try clear y26_1); (try clear y26_2); (try clear y26_3); (try clear y26_4); (try clear y32_0); (try clear y32_1)
                             (try clear y32_2); (try clear y32_3); (try clear y32_4); (try clear y33_0); (try clear y33_1); (try clear y33_2); (try clear y33_3); (try clear y33_4); (try clear y36_0); (try clear y36_1); (try clear y36_2); (try clear y36_3); (try clear y36_4); (try clear y37_0); (try clear y37_1); (try clear y37_2); (try clear y37_3); (try clear y37_4)
                             (try clear y43_0); (try clear y43_1); (try clear y43_2); (try clear y43_3); (try clear y43_4); (try clear y6_0); (try clear y6_1); (try clear y6_2); (try clear y6_3); (try clear y6_4); (try clear z25_0); (try clear z25_1); (try clear z25_2); (try clear z25_3); (try clear z25_4); (try clear z26_0); (try clear z26_1); (try clear z26_2)
                             (try clear z26_3); (try clear z26_4); (try clear z32_0); (try clear z32_1); (try clear z32_2); (try clear z32_3); (try clear z32_4); (try clear z33_0); (try clear z33_1); (try clear z33_2); (try clear z33_3); (try clear z33_4); (try clear z36_0); (try clear z36_1); (try clear z36_2); (try clear z36_3); (try clear z36_4); (try clear z37_0)
                             (try clear z37_1); (try clear z37_2); (try clear z37_3); (try clear z37_4); (try clear z43_0); (try clear z43_1); (try clear z43_2); (try clear z43_3); (try clear z43_4); (try clear z6_0); (try clear z6_1); (try clear z6_2); (try clear z6_3); (try clear z6_4); (try clear p1); (try clear p14); (try clear p16); (try clear p2); (try clear p22); (try clear p4)
                             (try clear p40); (try clear p48); (try clear p50); (try clear p6); (try clear p8); (try clear q1); (try clear q14); (try clear q16); (try clear q2); (try clear q22); (try clear q4); (try clear q40); (try clear q48); (try clear q50); (try clear q8)
                             obtain ⟨kq, x5_44, rfl, HA, HJ44, BK101, BK102, HB⟩ := hcut
                             cases kq with
                             | zero => exact absurd HA.out (by simp [orthoepyref11_cut.j6])
                             | succ kj44 =>
                              have H := HA.out
                              clear HA
                              simp only [orthoepyref11_cut.j6] at H
                              obtain ⟨ji52, hji52⟩ : ∃ j_ : Int, (wrap64 (x5_10 + 1)) = j_ := ⟨_, rfl⟩
                              replace H : (if 0 ≤ (ji52) then (if (ji52) ≤ x5_44 then (if x5_44 ≤ (a0.size : Int) then (if (a0.extract (x5_8 : Int).toNat (x5_10 : Int).toNat).size + (a0.extract ((ji52) : Int).toNat (x5_44 : Int).toNat).size ≤ 9223372036854775807 then (if x5_44 = (a0.size : Int) then (some ((a0.extract (x5_8 : Int).toNat (x5_10 : Int).toNat) ++ (a0.extract ((ji52) : Int).toNat (x5_44 : Int).toNat), wrap64 (x5_44 - (ji52)), false, 0, (⟨#[]⟩ : ByteArray), true)) else (if (wrap64 (x5_44 - (ji52))) = 0 then (some ((a0.extract (x5_8 : Int).toNat (x5_10 : Int).toNat) ++ (a0.extract ((ji52) : Int).toNat (x5_44 : Int).toNat), wrap64 (x5_44 - (ji52)), false, 0, (⟨#[]⟩ : ByteArray), false)) else (orthoepyref11_cut.j7 kj44 a0 x5_44 ((a0.extract (x5_8 : Int).toNat (x5_10 : Int).toNat) ++ (a0.extract ((ji52) : Int).toNat (x5_44 : Int).toNat)) (wrap64 (x5_44 - (ji52))) false 0 (⟨#[]⟩ : ByteArray)))) else (none)) else (none)) else (none)) else (none)) = some (r1, r2, r3, r4, r5, r6) := by first | (rw [hji52] at H; exact H) | (simp only [hji52] at H ⊢; exact H)
                              have hji52w : (IntKind.i64.wrap (x5_10 + 1)) = ji52 := (bR _).trans hji52
                              by_cases c53 : 0 ≤ (ji52)
                              · rw [if_pos c53] at H
                                have c53b0 := eq_true c53
                                have c53b1 : decide (0 ≤ (ji52)) = true := decide_eq_true c53
                                clear c53
                                by_cases c54 : (ji52) ≤ x5_44
                                · rw [if_pos c54] at H
                                  have c54b0 := eq_true c54
                                  have c54b1 : decide ((ji52) ≤ x5_44) = true := decide_eq_true c54
                                  clear c54
                                  by_cases c55 : x5_44 ≤ (a0.size : Int)
                                  · rw [if_pos c55] at H
                                    have c55b0 := eq_true c55
                                    have c55b1 : decide (x5_44 ≤ (a0.size : Int)) = true := decide_eq_true c55
                                    clear c55
                                    by_cases c56 : (a0.extract (x5_8 : Int).toNat (x5_10 : Int).toNat).size + (a0.extract ((ji52) : Int).toNat (x5_44 : Int).toNat).size ≤ 9223372036854775807
                                    · rw [if_pos c56] at H
                                      have c56b0 := eq_true c56
                                      have c56b1 : decide ((a0.extract (x5_8 : Int).toNat (x5_10 : Int).toNat).size + (a0.extract ((ji52) : Int).toNat (x5_44 : Int).toNat).size ≤ 9223372036854775807) = true := decide_eq_true c56
                                      try have c56b2 : (9223372036854775807 < (a0.extract (x5_8 : Int).toNat (x5_10 : Int).toNat).size + (a0.extract ((ji52) : Int).toNat (x5_44 : Int).toNat).size) = False := eq_false (Nat.not_lt.2 c56)
                                      by_cases c57 : x5_44 = (a0.size : Int)
                                      · rw [if_pos c57] at H
                                        have c57b0 : (x5_44 == (a0.size : Int)) = true := beq_iff_eq.mpr c57
                                        have c57b1 : (x5_44 != (a0.size : Int)) = false := bne_eq_false_iff_eq.mpr c57
                                        clear c57
                                        simp only [Option.some.injEq, Prod.mk.injEq] at H
                                        obtain ⟨rfl, rfl, rfl, rfl, rfl, rfl⟩ := H
                                        have hnb58 := NB102_101.out
                                        have hnc58 := NB101_102.out
                                        have y59_0 : wc.cell? ⟨gb102, 0, none⟩ = some (.string (a0.extract (x5_8 : Int).toNat (x5_10 : Int).toNat)) := (aH BK102.out 0).trans rfl
                                        have y59_1 : wc.cell? ⟨gb102, 1, none⟩ = some (.int .i64 0) := (aH BK102.out 1).trans rfl
                                        have y59_2 : wc.cell? ⟨gb102, 2, none⟩ = some (.bool false) := (aH BK102.out 2).trans rfl
                                        have y59_3 : wc.cell? ⟨gb102, 3, none⟩ = some (.int .u8 0) := (aH BK102.out 3).trans rfl
                                        have y59_4 : wc.cell? ⟨gb102, 4, none⟩ = some (.string (⟨#[]⟩ : ByteArray)) := (aH BK102.out 4).trans rfl
                                        have z59_0 := aC BK102.out 0
                                        have z59_1 := aC BK102.out 1
                                        have z59_2 := aC BK102.out 2
                                        have z59_3 := aC BK102.out 3
                                        have z59_4 := aC BK102.out 4
                                        try go_wp2
                                        have n0_ : Aside0 ((wc.setCell ⟨gb102, 1, none⟩ (.int .i64 (wrap64 (x5_44 - (ji52))))).heap[gb101]? = some (.cells #[.string (⟨#[]⟩ : ByteArray), .int .i64 0, .bool false, .int .u8 0, .string (⟨#[]⟩ : ByteArray)] 123 (0, 0))) := ⟨by (with_reducible repeat (first | refine aD ?_ _ | refine aG ?_ | refine aE ?_ _)); refine bQ ?_ NB101_102.out _; (with_reducible repeat (first | refine aD ?_ _ | refine aG ?_ | refine aE ?_ _)); exact BK101.out⟩
                                        have n1_ : Aside0 ((wc.setCell ⟨gb102, 1, none⟩ (.int .i64 (wrap64 (x5_44 - (ji52))))).heap[gb102]? = some (.cells #[.string (a0.extract (x5_8 : Int).toNat (x5_10 : Int).toNat), .int .i64 (wrap64 (x5_44 - (ji52))), .bool false, .int .u8 0, .string (⟨#[]⟩ : ByteArray)] 123 (0, 0))) := ⟨by (with_reducible repeat (first | refine aD ?_ _ | refine aG ?_ | refine aE ?_ _)); refine aV (cs := #[.string (a0.extract (x5_8 : Int).toNat (x5_10 : Int).toNat), .int .i64 0, .bool false, .int .u8 0, .string (⟨#[]⟩ : ByteArray)]) ?_ 1 _ rfl; (with_reducible repeat (first | refine aD ?_ _ | refine aG ?_ | refine aE ?_ _)); exact BK102.out⟩
                                        have n2_ : Aside0 (Below w.heap.size w (wc.setCell ⟨gb102, 1, none⟩ (.int .i64 (wrap64 (x5_44 - (ji52)))))) := ⟨by repeat (first | (with_reducible first | exact HB.out | apply aL | apply aI | apply aK | refine aM ?_ GE101.out | refine aM ?_ GE102.out) | exact HB.out)⟩
                                        (try clear BK101)
                                        (try clear BK102)
                                        (try clear HB)
                                        generalize (wc.setCell ⟨gb102, 1, none⟩ (.int .i64 (wrap64 (x5_44 - (ji52))))) = w60 at n0_ n1_ n2_ ⊢
                                        have BK101 := n0_
                                        have BK102 := n1_
                                        have HB := n2_
                                        clear n0_ n1_ n2_
                                        have n0_ := Aside0.mk (aG BK101.out)
                                        have n1_ := Aside0.mk (aG BK102.out)
                                        have n2_ := Aside0.mk (aK HB.out)
                                        clear BK101
                                        clear BK102
                                        clear HB
                                        have BK101 := n0_
                                        have BK102 := n1_
                                        have HB := n2_
                                        clear n0_ n1_ n2_
                                        refine rG (n := 9) (S := fun w' => w'.cell? ⟨gb102, 0, none⟩ = some (.string (a0.extract (x5_8 : Int).toNat (x5_10 : Int).toNat)) ∧ w'.cell? ⟨gb102, 1, none⟩ = some (.int .i64 (wrap64 (x5_44 - (ji52)))) ∧ w'.cell? ⟨gb102, 2, none⟩ = some (.bool false) ∧ w'.cell? ⟨gb102, 3, none⟩ = some (.int .u8 0) ∧ w'.cell? ⟨gb102, 4, none⟩ = some (.string (⟨#[]⟩ : ByteArray))) (ds := [8]) #[false, false, false, false, false, false, false, false, false] (by kernel_rfl) rfl rfl ⟨(aH BK102.out 0).trans rfl, (aH BK102.out 1).trans rfl, (aH BK102.out 2).trans rfl, (aH BK102.out 3).trans rfl, (aH BK102.out 4).trans rfl⟩ (fun hHeld => ?_); refine iJ orthoepyref11_cut.tab21 orthoepyref11_cut.bits21 (fun HT_ HW_ => ?_)
                                        generalize w60.drew = w61 at BK101 BK102 HB hHeld ⊢
                                        refine dD (i := 0) (N := some 94) (v := ?_) (a' := ?_) #[true, false, false, false, false, false, false, false, false] rfl rfl (cR HT_.out (by kernel_rfl)) (fun _ _ _ h => hQ_.pan h) (Or.inl ⟨by rfl, ?_⟩) ?_ ?_
                                        rotate_left
                                        · intro w'
                                          go_simp
                                          first | with_reducible rfl | (rw [if_neg (by have q_ := Nat.not_lt.1 (of_eq_false c56b2); simp only [ByteArray.size_extract] at q_; have u_ := of_decide_eq_true c55b1; omega)])
                                        rotate_left
                                        · simp only [Act.put, List.setIfInBounds_toArray, List.set_cons_zero, List.set_cons_succ, bR, bU]
                                          rfl
                                        refine dD (i := 2) (N := some 96) (v := ?_) (a' := ?_) #[true, false, true, false, false, false, false, false, false] rfl rfl (cR HT_.out (by kernel_rfl)) (fun _ _ _ h => hQ_.pan h) (Or.inl ⟨by rfl, ?_⟩) ?_ ?_
                                        rotate_left
                                        · intro w'
                                          go_simp
                                          first | with_reducible rfl | (rw [if_neg (by have q_ := Nat.not_lt.1 (of_eq_false c56b2); simp only [ByteArray.size_extract] at q_; have u_ := of_decide_eq_true c55b1; omega)])
                                        rotate_left
                                        · simp only [Act.put, List.setIfInBounds_toArray, List.set_cons_zero, List.set_cons_succ, bR, bU]
                                          rfl
                                        refine dD (i := 3) (N := some 97) (v := ?_) (a' := ?_) #[true, false, true, true, false, false, false, false, false] rfl rfl (cR HT_.out (by kernel_rfl)) (fun _ _ _ h => hQ_.pan h) (Or.inl ⟨by rfl, ?_⟩) ?_ ?_
                                        rotate_left
                                        · intro w'
                                          go_simp
                                          first | with_reducible rfl | (rw [if_neg (by have q_ := Nat.not_lt.1 (of_eq_false c56b2); simp only [ByteArray.size_extract] at q_; have u_ := of_decide_eq_true c55b1; omega)])
                                        rotate_left
                                        · simp only [Act.put, List.setIfInBounds_toArray, List.set_cons_zero, List.set_cons_succ, bR, bU]
                                          rfl
                                        refine dD (i := 4) (N := some 98) (v := ?_) (a' := ?_) #[true, false, true, true, true, false, false, false, false] rfl rfl (cR HT_.out (by kernel_rfl)) (fun _ _ _ h => hQ_.pan h) (Or.inl ⟨by rfl, ?_⟩) ?_ ?_
                                        rotate_left
                                        · intro w'
                                          go_simp
                                          first | with_reducible rfl | (rw [if_neg (by have q_ := Nat.not_lt.1 (of_eq_false c56b2); simp only [ByteArray.size_extract] at q_; have u_ := of_decide_eq_true c55b1; omega)])
                                        rotate_left
                                        · simp only [Act.put, List.setIfInBounds_toArray, List.set_cons_zero, List.set_cons_succ, bR, bU]
                                          rfl
                                        refine dD (i := 5) (N := some 99) (v := ?_) (a' := ?_) #[true, false, true, true, true, true, false, false, false] rfl rfl (cR HT_.out (by kernel_rfl)) (fun _ _ _ h => hQ_.pan h) (Or.inl ⟨by rfl, ?_⟩) ?_ ?_
                                        rotate_left
                                        · intro w'
                                          go_simp
                                          first | with_reducible rfl | (rw [if_neg (by have q_ := Nat.not_lt.1 (of_eq_false c56b2); simp only [ByteArray.size_extract] at q_; have u_ := of_decide_eq_true c55b1; omega)])
                                        rotate_left
                                        · simp only [Act.put, List.setIfInBounds_toArray, List.set_cons_zero, List.set_cons_succ, bR, bU]
                                          rfl
                                        refine take_ (i := 1) (N := some 95) (v := ?_) (a' := ?_) #[true, true, true, true, true, true, false, false, false] rfl rfl (kL HT_.out HW_.out (by kernel_rfl)) (fun _ _ _ h => hQ_.pan h) (Or.inl ⟨by rfl, ?_⟩) hHeld ?_ ?_
                                        rotate_left
                                        · rintro w' ⟨s0, s1, s2, s3, s4⟩
                                          go_simp
                                          first | with_reducible rfl | (rw [if_neg (by have q_ := Nat.not_lt.1 (of_eq_false c56b2); simp only [ByteArray.size_extract] at q_; have u_ := of_decide_eq_true c55b1; omega)])
                                        rotate_left
                                        · simp only [Act.put, List.setIfInBounds_toArray, List.set_cons_zero, List.set_cons_succ, bR, bU]
                                          rfl
                                        refine dD (i := 6) (N := some 100) (v := ?_) (a' := ?_) #[true, true, true, true, true, true, true, false, false] rfl rfl (cR HT_.out (by kernel_rfl)) (fun _ _ _ h => hQ_.pan h) (Or.inl ⟨by rfl, ?_⟩) ?_ ?_
                                        rotate_left
                                        · intro w'
                                          go_simp
                                          first | with_reducible rfl | (rw [if_neg (by have q_ := Nat.not_lt.1 (of_eq_false c56b2); simp only [ByteArray.size_extract] at q_; have u_ := of_decide_eq_true c55b1; omega)])
                                        rotate_left
                                        · simp only [Act.put, List.setIfInBounds_toArray, List.set_cons_zero, List.set_cons_succ, bR, bU]
                                          rfl
                                        refine dD (i := 7) (N := some 101) (v := ?_) (a' := ?_) #[true, true, true, true, true, true, true, true, false] rfl rfl (cR HT_.out (by kernel_rfl)) (fun _ _ _ h => hQ_.pan h) (Or.inl ⟨by rfl, ?_⟩) ?_ ?_
                                        rotate_left
                                        · intro w'
                                          go_simp
                                          first | with_reducible rfl | (rw [if_neg (by have q_ := Nat.not_lt.1 (of_eq_false c56b2); simp only [ByteArray.size_extract] at q_; have u_ := of_decide_eq_true c55b1; omega)])
                                        rotate_left
                                        · simp only [Act.put, List.setIfInBounds_toArray, List.set_cons_zero, List.set_cons_succ, bR, bU]
                                          rfl
                                        refine wV (i := 8) (N := none) #[true, true, true, true, true, true, true, true, true] rfl rfl (sC HT_.out (by kernel_rfl)) (by decide) (fun K hK => ?_)
                                        have hs62 : w61.cell? ⟨gb102, 0, none⟩ = some (.string (a0.extract (x5_8 : Int).toNat (x5_10 : Int).toNat)) := (aH BK102.out 0).trans rfl
                                        have hfs62 := aC BK102.out 0
                                        have hns62_0 := NB101_102.out
                                        have hms62_0 := NB102_101.out
                                        refine vH (w1 := ?_) (by rfl) rfl ?_ ?_
                                        rotate_left
                                        · go_simp
                                          rfl
                                        refine hK.out _ _ ?_
                                        clear hK K
                                        refine xI (oS HT_.out (by kernel_rfl)) ?_
                                        have y63_0 : w61.cell? ⟨gb102, 0, none⟩ = some (.string (a0.extract (x5_8 : Int).toNat (x5_10 : Int).toNat)) := (aH BK102.out 0).trans rfl
                                        have y63_1 : w61.cell? ⟨gb102, 1, none⟩ = some (.int .i64 (wrap64 (x5_44 - (ji52)))) := (aH BK102.out 1).trans rfl
                                        have y63_2 : w61.cell? ⟨gb102, 2, none⟩ = some (.bool false) := (aH BK102.out 2).trans rfl
                                        have y63_3 : w61.cell? ⟨gb102, 3, none⟩ = some (.int .u8 0) := (aH BK102.out 3).trans rfl
                                        have y63_4 : w61.cell? ⟨gb102, 4, none⟩ = some (.string (⟨#[]⟩ : ByteArray)) := (aH BK102.out 4).trans rfl
                                        have z63_0 := aC BK102.out 0
                                        have z63_1 := aC BK102.out 1
                                        have z63_2 := aC BK102.out 2
                                        have z63_3 := aC BK102.out 3
                                        have z63_4 := aC BK102.out 4
                                        have y64_0 : w61.cell? ⟨gb101, 0, none⟩ = some (.string (⟨#[]⟩ : ByteArray)) := (aH BK101.out 0).trans rfl
                                        have y64_1 : w61.cell? ⟨gb101, 1, none⟩ = some (.int .i64 0) := (aH BK101.out 1).trans rfl
                                        have y64_2 : w61.cell? ⟨gb101, 2, none⟩ = some (.bool false) := (aH BK101.out 2).trans rfl
                                        have y64_3 : w61.cell? ⟨gb101, 3, none⟩ = some (.int .u8 0) := (aH BK101.out 3).trans rfl
                                        have y64_4 : w61.cell? ⟨gb101, 4, none⟩ = some (.string (⟨#[]⟩ : ByteArray)) := (aH BK101.out 4).trans rfl
                                        have z64_0 := aC BK101.out 0
                                        have z64_1 := aC BK101.out 1
                                        have z64_2 := aC BK101.out 2
                                        have z64_3 := aC BK101.out 3
                                        have z64_4 := aC BK101.out 4
                                        try go_wp2
                                        refine hQ_.ret (cU rfl _ _ gb101 123 #[.string ((a0.extract (x5_8 : Int).toNat (x5_10 : Int).toNat) ++ (a0.extract ((ji52) : Int).toNat (x5_44 : Int).toNat)), .int .i64 (wrap64 (x5_44 - (ji52))), .bool false, .int .u8 0, .string (⟨#[]⟩ : ByteArray)] (0, 0) _ rfl (by (with_reducible repeat (first | refine aD ?_ _ | refine aG ?_ | refine aE ?_ _)); refine aV (cs := #[.string ((a0.extract (x5_8 : Int).toNat (x5_10 : Int).toNat) ++ (a0.extract ((ji52) : Int).toNat (x5_44 : Int).toNat)), .int .i64 (wrap64 (x5_44 - (ji52))), .bool false, .int .u8 0, .string (⟨#[]⟩ : ByteArray)]) ?_ 4 _ rfl; (with_reducible repeat (first | refine aD ?_ _ | refine aG ?_ | refine aE ?_ _)); refine aV (cs := #[.string ((a0.extract (x5_8 : Int).toNat (x5_10 : Int).toNat) ++ (a0.extract ((ji52) : Int).toNat (x5_44 : Int).toNat)), .int .i64 (wrap64 (x5_44 - (ji52))), .bool false, .int .u8 0, .string (⟨#[]⟩ : ByteArray)]) ?_ 3 _ rfl; (with_reducible repeat (first | refine aD ?_ _ | refine aG ?_ | refine aE ?_ _)); refine aV (cs := #[.string ((a0.extract (x5_8 : Int).toNat (x5_10 : Int).toNat) ++ (a0.extract ((ji52) : Int).toNat (x5_44 : Int).toNat)), .int .i64 (wrap64 (x5_44 - (ji52))), .bool false, .int .u8 0, .string (⟨#[]⟩ : ByteArray)]) ?_ 2 _ rfl; (with_reducible repeat (first | refine aD ?_ _ | refine aG ?_ | refine aE ?_ _)); refine aV (cs := #[.string ((a0.extract (x5_8 : Int).toNat (x5_10 : Int).toNat) ++ (a0.extract ((ji52) : Int).toNat (x5_44 : Int).toNat)), .int .i64 0, .bool false, .int .u8 0, .string (⟨#[]⟩ : ByteArray)]) ?_ 1 _ rfl; (with_reducible repeat (first | refine aD ?_ _ | refine aG ?_ | refine aE ?_ _)); refine aV (cs := #[.string (⟨#[]⟩ : ByteArray), .int .i64 0, .bool false, .int .u8 0, .string (⟨#[]⟩ : ByteArray)]) ?_ 0 _ rfl; (with_reducible repeat (first | refine aD ?_ _ | refine aG ?_ | refine aE ?_ _)); refine bQ ?_ NB101_102.out _; (with_reducible repeat (first | refine aD ?_ _ | refine aG ?_ | refine aE ?_ _)); exact BK101.out) Tryz.underlying123 rfl (by kernel_rfl)) rfl ?_
                                        exact ⟨by first | rfl | (simp [aT, aS] <;> rfl) | (simp only [← hji52]; first | rfl | (simp [aT, aS] <;> rfl)) | (simp [*, aT, aS] <;> rfl), by repeat (first | (with_reducible first | exact HB.out | apply aL | apply aI | apply aK | refine aM ?_ GE101.out | refine aM ?_ GE102.out) | exact HB.out)⟩
                                      · rw [if_neg c57] at H
                                        have c57b0 : (x5_44 == (a0.size : Int)) = false := beq_eq_false_iff_ne.mpr c57
                                        have c57b1 : (x5_44 != (a0.size : Int)) = true := bne_iff_ne.mpr c57
                                        by_cases c65 : (wrap64 (x5_44 - (ji52))) = 0
                                        · rw [if_pos c65] at H
                                          have c65b0 : ((wrap64 (x5_44 - (ji52))) == 0) = true := beq_iff_eq.mpr c65
                                          have c65b1 : ((wrap64 (x5_44 - (ji52))) != 0) = false := bne_eq_false_iff_eq.mpr c65
                                          clear c65
                                          simp only [Option.some.injEq, Prod.mk.injEq] at H
                                          obtain ⟨rfl, rfl, rfl, rfl, rfl, rfl⟩ := H
                                          have hnb66 := NB102_101.out
                                          have hnc66 := NB101_102.out
                                          have y67_0 : wc.cell? ⟨gb102, 0, none⟩ = some (.string (a0.extract (x5_8 : Int).toNat (x5_10 : Int).toNat)) := (aH BK102.out 0).trans rfl
                                          have y67_1 : wc.cell? ⟨gb102, 1, none⟩ = some (.int .i64 0) := (aH BK102.out 1).trans rfl
                                          have y67_2 : wc.cell? ⟨gb102, 2, none⟩ = some (.bool false) := (aH BK102.out 2).trans rfl
                                          have y67_3 : wc.cell? ⟨gb102, 3, none⟩ = some (.int .u8 0) := (aH BK102.out 3).trans rfl
                                          have y67_4 : wc.cell? ⟨gb102, 4, none⟩ = some (.string (⟨#[]⟩ : ByteArray)) := (aH BK102.out 4).trans rfl
                                          have z67_0 := aC BK102.out 0
                                          have z67_1 := aC BK102.out 1
                                          have z67_2 := aC BK102.out 2
                                          have z67_3 := aC BK102.out 3
                                          have z67_4 := aC BK102.out 4
                                          try go_wp2
                                          have n0_ : Aside0 ((wc.setCell ⟨gb102, 1, none⟩ (.int .i64 (wrap64 (x5_44 - (ji52))))).heap[gb101]? = some (.cells #[.string (⟨#[]⟩ : ByteArray), .int .i64 0, .bool false, .int .u8 0, .string (⟨#[]⟩ : ByteArray)] 123 (0, 0))) := ⟨by (with_reducible repeat (first | refine aD ?_ _ | refine aG ?_ | refine aE ?_ _)); refine bQ ?_ NB101_102.out _; (with_reducible repeat (first | refine aD ?_ _ | refine aG ?_ | refine aE ?_ _)); exact BK101.out⟩
                                          have n1_ : Aside0 ((wc.setCell ⟨gb102, 1, none⟩ (.int .i64 (wrap64 (x5_44 - (ji52))))).heap[gb102]? = some (.cells #[.string (a0.extract (x5_8 : Int).toNat (x5_10 : Int).toNat), .int .i64 (wrap64 (x5_44 - (ji52))), .bool false, .int .u8 0, .string (⟨#[]⟩ : ByteArray)] 123 (0, 0))) := ⟨by (with_reducible repeat (first | refine aD ?_ _ | refine aG ?_ | refine aE ?_ _)); refine aV (cs := #[.string (a0.extract (x5_8 : Int).toNat (x5_10 : Int).toNat), .int .i64 0, .bool false, .int .u8 0, .string (⟨#[]⟩ : ByteArray)]) ?_ 1 _ rfl; (with_reducible repeat (first | refine aD ?_ _ | refine aG ?_ | refine aE ?_ _)); exact BK102.out⟩
                                          have n2_ : Aside0 (Below w.heap.size w (wc.setCell ⟨gb102, 1, none⟩ (.int .i64 (wrap64 (x5_44 - (ji52)))))) := ⟨by repeat (first | (with_reducible first | exact HB.out | apply aL | apply aI | apply aK | refine aM ?_ GE101.out | refine aM ?_ GE102.out) | exact HB.out)⟩
                                          (try clear BK101)
                                          (try clear BK102)
                                          (try clear HB)
                                          generalize (wc.setCell ⟨gb102, 1, none⟩ (.int .i64 (wrap64 (x5_44 - (ji52))))) = w68 at n0_ n1_ n2_ ⊢
                                          have BK101 := n0_
                                          have BK102 := n1_
                                          have HB := n2_
                                          clear n0_ n1_ n2_
                                          have n0_ := Aside0.mk (aG BK101.out)
                                          have n1_ := Aside0.mk (aG BK102.out)
                                          have n2_ := Aside0.mk (aK HB.out)
                                          clear BK101
                                          clear BK102
                                          clear HB
                                          have BK101 := n0_
                                          have BK102 := n1_
                                          have HB := n2_
                                          clear n0_ n1_ n2_
                                          refine rG (n := 9) (S := fun w' => w'.cell? ⟨gb102, 0, none⟩ = some (.string (a0.extract (x5_8 : Int).toNat (x5_10 : Int).toNat)) ∧ w'.cell? ⟨gb102, 1, none⟩ = some (.int .i64 (wrap64 (x5_44 - (ji52)))) ∧ w'.cell? ⟨gb102, 2, none⟩ = some (.bool false) ∧ w'.cell? ⟨gb102, 3, none⟩ = some (.int .u8 0) ∧ w'.cell? ⟨gb102, 4, none⟩ = some (.string (⟨#[]⟩ : ByteArray))) (ds := [8]) #[false, false, false, false, false, false, false, false, false] (by kernel_rfl) rfl rfl ⟨(aH BK102.out 0).trans rfl, (aH BK102.out 1).trans rfl, (aH BK102.out 2).trans rfl, (aH BK102.out 3).trans rfl, (aH BK102.out 4).trans rfl⟩ (fun hHeld => ?_); refine iJ orthoepyref11_cut.tab21 orthoepyref11_cut.bits21 (fun HT_ HW_ => ?_)
                                          generalize w68.drew = w69 at BK101 BK102 HB hHeld ⊢
                                          refine dD (i := 0) (N := some 94) (v := ?_) (a' := ?_) #[true, false, false, false, false, false, false, false, false] rfl rfl (cR HT_.out (by kernel_rfl)) (fun _ _ _ h => hQ_.pan h) (Or.inl ⟨by rfl, ?_⟩) ?_ ?_
                                          rotate_left
                                          · intro w'
                                            go_simp
                                            first | with_reducible rfl | (rw [if_neg (by have q_ := Nat.not_lt.1 (of_eq_false c56b2); simp only [ByteArray.size_extract] at q_; have u_ := of_decide_eq_true c55b1; omega)])
                                          rotate_left
                                          · simp only [Act.put, List.setIfInBounds_toArray, List.set_cons_zero, List.set_cons_succ, bR, bU]
                                            rfl
                                          refine dD (i := 2) (N := some 96) (v := ?_) (a' := ?_) #[true, false, true, false, false, false, false, false, false] rfl rfl (cR HT_.out (by kernel_rfl)) (fun _ _ _ h => hQ_.pan h) (Or.inl ⟨by rfl, ?_⟩) ?_ ?_
                                          rotate_left
                                          · intro w'
                                            go_simp
                                            first | with_reducible rfl | (rw [if_neg (by have q_ := Nat.not_lt.1 (of_eq_false c56b2); simp only [ByteArray.size_extract] at q_; have u_ := of_decide_eq_true c55b1; omega)])
                                          rotate_left
                                          · simp only [Act.put, List.setIfInBounds_toArray, List.set_cons_zero, List.set_cons_succ, bR, bU]
                                            rfl
                                          refine dD (i := 3) (N := some 97) (v := ?_) (a' := ?_) #[true, false, true, true, false, false, false, false, false] rfl rfl (cR HT_.out (by kernel_rfl)) (fun _ _ _ h => hQ_.pan h) (Or.inl ⟨by rfl, ?_⟩) ?_ ?_
                                          rotate_left
                                          · intro w'
                                            go_simp
                                            first | with_reducible rfl | (rw [if_neg (by have q_ := Nat.not_lt.1 (of_eq_false c56b2); simp only [ByteArray.size_extract] at q_; have u_ := of_decide_eq_true c55b1; omega)])
                                          rotate_left
                                          · simp only [Act.put, List.setIfInBounds_toArray, List.set_cons_zero, List.set_cons_succ, bR, bU]
                                            rfl
                                          refine dD (i := 4) (N := some 98) (v := ?_) (a' := ?_) #[true, false, true, true, true, false, false, false, false] rfl rfl (cR HT_.out (by kernel_rfl)) (fun _ _ _ h => hQ_.pan h) (Or.inl ⟨by rfl, ?_⟩) ?_ ?_
                                          rotate_left
                                          · intro w'
                                            go_simp
                                            first | with_reducible rfl | (rw [if_neg (by have q_ := Nat.not_lt.1 (of_eq_false c56b2); simp only [ByteArray.size_extract] at q_; have u_ := of_decide_eq_true c55b1; omega)])
                                          rotate_left
                                          · simp only [Act.put, List.setIfInBounds_toArray, List.set_cons_zero, List.set_cons_succ, bR, bU]
                                            rfl
                                          refine dD (i := 5) (N := some 99) (v := ?_) (a' := ?_) #[true, false, true, true, true, true, false, false, false] rfl rfl (cR HT_.out (by kernel_rfl)) (fun _ _ _ h => hQ_.pan h) (Or.inl ⟨by rfl, ?_⟩) ?_ ?_
                                          rotate_left
                                          · intro w'
                                            go_simp
                                            first | with_reducible rfl | (rw [if_neg (by have q_ := Nat.not_lt.1 (of_eq_false c56b2); simp only [ByteArray.size_extract] at q_; have u_ := of_decide_eq_true c55b1; omega)])
                                          rotate_left
                                          · simp only [Act.put, List.setIfInBounds_toArray, List.set_cons_zero, List.set_cons_succ, bR, bU]
                                            rfl
                                          refine take_ (i := 1) (N := some 95) (v := ?_) (a' := ?_) #[true, true, true, true, true, true, false, false, false] rfl rfl (kL HT_.out HW_.out (by kernel_rfl)) (fun _ _ _ h => hQ_.pan h) (Or.inl ⟨by rfl, ?_⟩) hHeld ?_ ?_
                                          rotate_left
                                          · rintro w' ⟨s0, s1, s2, s3, s4⟩
                                            go_simp
                                            first | with_reducible rfl | (rw [if_neg (by have q_ := Nat.not_lt.1 (of_eq_false c56b2); simp only [ByteArray.size_extract] at q_; have u_ := of_decide_eq_true c55b1; omega)])
                                          rotate_left
                                          · simp only [Act.put, List.setIfInBounds_toArray, List.set_cons_zero, List.set_cons_succ, bR, bU]
                                            rfl
                                          refine dD (i := 6) (N := some 100) (v := ?_) (a' := ?_) #[true, true, true, true, true, true, true, false, false] rfl rfl (cR HT_.out (by kernel_rfl)) (fun _ _ _ h => hQ_.pan h) (Or.inl ⟨by rfl, ?_⟩) ?_ ?_
                                          rotate_left
                                          · intro w'
                                            go_simp
                                            first | with_reducible rfl | (rw [if_neg (by have q_ := Nat.not_lt.1 (of_eq_false c56b2); simp only [ByteArray.size_extract] at q_; have u_ := of_decide_eq_true c55b1; omega)])
                                          rotate_left
                                          · simp only [Act.put, List.setIfInBounds_toArray, List.set_cons_zero, List.set_cons_succ, bR, bU]
                                            rfl
                                          refine dD (i := 7) (N := some 101) (v := ?_) (a' := ?_) #[true, true, true, true, true, true, true, true, false] rfl rfl (cR HT_.out (by kernel_rfl)) (fun _ _ _ h => hQ_.pan h) (Or.inl ⟨by rfl, ?_⟩) ?_ ?_
                                          rotate_left
                                          · intro w'
                                            go_simp
                                            first | with_reducible rfl | (rw [if_neg (by have q_ := Nat.not_lt.1 (of_eq_false c56b2); simp only [ByteArray.size_extract] at q_; have u_ := of_decide_eq_true c55b1; omega)])
                                          rotate_left
                                          · simp only [Act.put, List.setIfInBounds_toArray, List.set_cons_zero, List.set_cons_succ, bR, bU]
                                            rfl
                                          refine wV (i := 8) (N := none) #[true, true, true, true, true, true, true, true, true] rfl rfl (sC HT_.out (by kernel_rfl)) (by decide) (fun K hK => ?_)
                                          have hs70 : w69.cell? ⟨gb102, 0, none⟩ = some (.string (a0.extract (x5_8 : Int).toNat (x5_10 : Int).toNat)) := (aH BK102.out 0).trans rfl
                                          have hfs70 := aC BK102.out 0
                                          have hns70_0 := NB101_102.out
                                          have hms70_0 := NB102_101.out
                                          refine vH (w1 := ?_) (by rfl) rfl ?_ ?_
                                          rotate_left
                                          · go_simp
                                            rfl
                                          refine hK.out _ _ ?_
                                          clear hK K
                                          refine xI (oS HT_.out (by kernel_rfl)) ?_
                                          have y71_0 : w69.cell? ⟨gb102, 0, none⟩ = some (.string (a0.extract (x5_8 : Int).toNat (x5_10 : Int).toNat)) := (aH BK102.out 0).trans rfl
                                          have y71_1 : w69.cell? ⟨gb102, 1, none⟩ = some (.int .i64 (wrap64 (x5_44 - (ji52)))) := (aH BK102.out 1).trans rfl
                                          have y71_2 : w69.cell? ⟨gb102, 2, none⟩ = some (.bool false) := (aH BK102.out 2).trans rfl
                                          have y71_3 : w69.cell? ⟨gb102, 3, none⟩ = some (.int .u8 0) := (aH BK102.out 3).trans rfl
                                          have y71_4 : w69.cell? ⟨gb102, 4, none⟩ = some (.string (⟨#[]⟩ : ByteArray)) := (aH BK102.out 4).trans rfl
                                          have z71_0 := aC BK102.out 0
                                          have z71_1 := aC BK102.out 1
                                          have z71_2 := aC BK102.out 2
                                          have z71_3 := aC BK102.out 3
                                          have z71_4 := aC BK102.out 4
                                          have y72_0 : w69.cell? ⟨gb101, 0, none⟩ = some (.string (⟨#[]⟩ : ByteArray)) := (aH BK101.out 0).trans rfl
                                          have y72_1 : w69.cell? ⟨gb101, 1, none⟩ = some (.int .i64 0) := (aH BK101.out 1).trans rfl
                                          have y72_2 : w69.cell? ⟨gb101, 2, none⟩ = some (.bool false) := (aH BK101.out 2).trans rfl
                                          have y72_3 : w69.cell? ⟨gb101, 3, none⟩ = some (.int .u8 0) := (aH BK101.out 3).trans rfl
                                          have y72_4 : w69.cell? ⟨gb101, 4, none⟩ = some (.string (⟨#[]⟩ : ByteArray)) := (aH BK101.out 4).trans rfl
                                          have z72_0 := aC BK101.out 0
                                          have z72_1 := aC BK101.out 1
                                          have z72_2 := aC BK101.out 2
                                          have z72_3 := aC BK101.out 3
                                          have z72_4 := aC BK101.out 4
                                          try go_wp2
                                          refine hQ_.ret (cU rfl _ _ gb101 123 #[.string ((a0.extract (x5_8 : Int).toNat (x5_10 : Int).toNat) ++ (a0.extract ((ji52) : Int).toNat (x5_44 : Int).toNat)), .int .i64 (wrap64 (x5_44 - (ji52))), .bool false, .int .u8 0, .string (⟨#[]⟩ : ByteArray)] (0, 0) _ rfl (by (with_reducible repeat (first | refine aD ?_ _ | refine aG ?_ | refine aE ?_ _)); refine aV (cs := #[.string ((a0.extract (x5_8 : Int).toNat (x5_10 : Int).toNat) ++ (a0.extract ((ji52) : Int).toNat (x5_44 : Int).toNat)), .int .i64 (wrap64 (x5_44 - (ji52))), .bool false, .int .u8 0, .string (⟨#[]⟩ : ByteArray)]) ?_ 4 _ rfl; (with_reducible repeat (first | refine aD ?_ _ | refine aG ?_ | refine aE ?_ _)); refine aV (cs := #[.string ((a0.extract (x5_8 : Int).toNat (x5_10 : Int).toNat) ++ (a0.extract ((ji52) : Int).toNat (x5_44 : Int).toNat)), .int .i64 (wrap64 (x5_44 - (ji52))), .bool false, .int .u8 0, .string (⟨#[]⟩ : ByteArray)]) ?_ 3 _ rfl; (with_reducible repeat (first | refine aD ?_ _ | refine aG ?_ | refine aE ?_ _)); refine aV (cs := #[.string ((a0.extract (x5_8 : Int).toNat (x5_10 : Int).toNat) ++ (a0.extract ((ji52) : Int).toNat (x5_44 : Int).toNat)), .int .i64 (wrap64 (x5_44 - (ji52))), .bool false, .int .u8 0, .string (⟨#[]⟩ : ByteArray)]) ?_ 2 _ rfl; (with_reducible repeat (first | refine aD ?_ _ | refine aG ?_ | refine aE ?_ _)); refine aV (cs := #[.string ((a0.extract (x5_8 : Int).toNat (x5_10 : Int).toNat) ++ (a0.extract ((ji52) : Int).toNat (x5_44 : Int).toNat)), .int .i64 0, .bool false, .int .u8 0, .string (⟨#[]⟩ : ByteArray)]) ?_ 1 _ rfl; (with_reducible repeat (first | refine aD ?_ _ | refine aG ?_ | refine aE ?_ _)); refine aV (cs := #[.string (⟨#[]⟩ : ByteArray), .int .i64 0, .bool false, .int .u8 0, .string (⟨#[]⟩ : ByteArray)]) ?_ 0 _ rfl; (with_reducible repeat (first | refine aD ?_ _ | refine aG ?_ | refine aE ?_ _)); refine bQ ?_ NB101_102.out _; (with_reducible repeat (first | refine aD ?_ _ | refine aG ?_ | refine aE ?_ _)); exact BK101.out) Tryz.underlying123 rfl (by kernel_rfl)) rfl ?_
                                          exact ⟨by first | rfl | (simp [aT, aS] <;> rfl) | (simp only [← hji52]; first | rfl | (simp [aT, aS] <;> rfl)) | (simp [*, aT, aS] <;> rfl), by repeat (first | (with_reducible first | exact HB.out | apply aL | apply aI | apply aK | refine aM ?_ GE101.out | refine aM ?_ GE102.out) | exact HB.out)⟩
                                        · rw [if_neg c65] at H
                                          have c65b0 : ((wrap64 (x5_44 - (ji52))) == 0) = false := beq_eq_false_iff_ne.mpr c65
                                          have c65b1 : ((wrap64 (x5_44 - (ji52))) != 0) = true := bne_iff_ne.mpr c65
                                          have H' := Aside0.mk H
                                          clear H
                                          have hnb73 := NB102_101.out
                                          have hnc73 := NB101_102.out
                                          have y74_0 : wc.cell? ⟨gb102, 0, none⟩ = some (.string (a0.extract (x5_8 : Int).toNat (x5_10 : Int).toNat)) := (aH BK102.out 0).trans rfl
                                          have y74_1 : wc.cell? ⟨gb102, 1, none⟩ = some (.int .i64 0) := (aH BK102.out 1).trans rfl
                                          have y74_2 : wc.cell? ⟨gb102, 2, none⟩ = some (.bool false) := (aH BK102.out 2).trans rfl
                                          have y74_3 : wc.cell? ⟨gb102, 3, none⟩ = some (.int .u8 0) := (aH BK102.out 3).trans rfl
                                          have y74_4 : wc.cell? ⟨gb102, 4, none⟩ = some (.string (⟨#[]⟩ : ByteArray)) := (aH BK102.out 4).trans rfl
                                          have z74_0 := aC BK102.out 0
                                          have z74_1 := aC BK102.out 1
                                          have z74_2 := aC BK102.out 2
                                          have z74_3 := aC BK102.out 3
                                          have z74_4 := aC BK102.out 4
                                          try go_wp2
                                          have n0_ : Aside0 ((wc.setCell ⟨gb102, 1, none⟩ (.int .i64 (wrap64 (x5_44 - (ji52))))).heap[gb101]? = some (.cells #[.string (⟨#[]⟩ : ByteArray), .int .i64 0, .bool false, .int .u8 0, .string (⟨#[]⟩ : ByteArray)] 123 (0, 0))) := ⟨by (with_reducible repeat (first | refine aD ?_ _ | refine aG ?_ | refine aE ?_ _)); refine bQ ?_ NB101_102.out _; (with_reducible repeat (first | refine aD ?_ _ | refine aG ?_ | refine aE ?_ _)); exact BK101.out⟩
                                          have n1_ : Aside0 ((wc.setCell ⟨gb102, 1, none⟩ (.int .i64 (wrap64 (x5_44 - (ji52))))).heap[gb102]? = some (.cells #[.string (a0.extract (x5_8 : Int).toNat (x5_10 : Int).toNat), .int .i64 (wrap64 (x5_44 - (ji52))), .bool false, .int .u8 0, .string (⟨#[]⟩ : ByteArray)] 123 (0, 0))) := ⟨by (with_reducible repeat (first | refine aD ?_ _ | refine aG ?_ | refine aE ?_ _)); refine aV (cs := #[.string (a0.extract (x5_8 : Int).toNat (x5_10 : Int).toNat), .int .i64 0, .bool false, .int .u8 0, .string (⟨#[]⟩ : ByteArray)]) ?_ 1 _ rfl; (with_reducible repeat (first | refine aD ?_ _ | refine aG ?_ | refine aE ?_ _)); exact BK102.out⟩
                                          have n2_ : Aside0 (Below w.heap.size w (wc.setCell ⟨gb102, 1, none⟩ (.int .i64 (wrap64 (x5_44 - (ji52)))))) := ⟨by repeat (first | (with_reducible first | exact HB.out | apply aL | apply aI | apply aK | refine aM ?_ GE101.out | refine aM ?_ GE102.out) | exact HB.out)⟩
                                          (try clear BK101)
                                          (try clear BK102)
                                          (try clear HB)
                                          generalize (wc.setCell ⟨gb102, 1, none⟩ (.int .i64 (wrap64 (x5_44 - (ji52))))) = w75 at n0_ n1_ n2_ ⊢
                                          have BK101 := n0_
                                          have BK102 := n1_
                                          have HB := n2_
                                          clear n0_ n1_ n2_
                                          have n0_ := Aside0.mk (aG BK101.out)
                                          have n1_ := Aside0.mk (aG BK102.out)
                                          have n2_ := Aside0.mk (aK HB.out)
                                          clear BK101
                                          clear BK102
                                          clear HB
                                          have BK101 := n0_
                                          have BK102 := n1_
                                          have HB := n2_
                                          clear n0_ n1_ n2_
                                          refine rG (n := 9) (S := fun w' => w'.cell? ⟨gb102, 0, none⟩ = some (.string (a0.extract (x5_8 : Int).toNat (x5_10 : Int).toNat)) ∧ w'.cell? ⟨gb102, 1, none⟩ = some (.int .i64 (wrap64 (x5_44 - (ji52)))) ∧ w'.cell? ⟨gb102, 2, none⟩ = some (.bool false) ∧ w'.cell? ⟨gb102, 3, none⟩ = some (.int .u8 0) ∧ w'.cell? ⟨gb102, 4, none⟩ = some (.string (⟨#[]⟩ : ByteArray))) (ds := [8]) #[false, false, false, false, false, false, false, false, false] (by kernel_rfl) rfl rfl ⟨(aH BK102.out 0).trans rfl, (aH BK102.out 1).trans rfl, (aH BK102.out 2).trans rfl, (aH BK102.out 3).trans rfl, (aH BK102.out 4).trans rfl⟩ (fun hHeld => ?_); refine iJ orthoepyref11_cut.tab21 orthoepyref11_cut.bits21 (fun HT_ HW_ => ?_)
                                          generalize w75.drew = w76 at BK101 BK102 HB hHeld ⊢
                                          refine dD (i := 0) (N := some 94) (v := ?_) (a' := ?_) #[true, false, false, false, false, false, false, false, false] rfl rfl (cR HT_.out (by kernel_rfl)) (fun _ _ _ h => hQ_.pan h) (Or.inl ⟨by rfl, ?_⟩) ?_ ?_
                                          rotate_left
                                          · intro w'
                                            go_simp
                                            first | with_reducible rfl | (rw [if_neg (by have q_ := Nat.not_lt.1 (of_eq_false c56b2); simp only [ByteArray.size_extract] at q_; have u_ := of_decide_eq_true c55b1; omega)])
                                          rotate_left
                                          · simp only [Act.put, List.setIfInBounds_toArray, List.set_cons_zero, List.set_cons_succ, bR, bU]
                                            rfl
                                          refine dD (i := 2) (N := some 96) (v := ?_) (a' := ?_) #[true, false, true, false, false, false, false, false, false] rfl rfl (cR HT_.out (by kernel_rfl)) (fun _ _ _ h => hQ_.pan h) (Or.inl ⟨by rfl, ?_⟩) ?_ ?_
                                          rotate_left
                                          · intro w'
                                            go_simp
                                            first | with_reducible rfl | (rw [if_neg (by have q_ := Nat.not_lt.1 (of_eq_false c56b2); simp only [ByteArray.size_extract] at q_; have u_ := of_decide_eq_true c55b1; omega)])
                                          rotate_left
                                          · simp only [Act.put, List.setIfInBounds_toArray, List.set_cons_zero, List.set_cons_succ, bR, bU]
                                            rfl
                                          refine dD (i := 3) (N := some 97) (v := ?_) (a' := ?_) #[true, false, true, true, false, false, false, false, false] rfl rfl (cR HT_.out (by kernel_rfl)) (fun _ _ _ h => hQ_.pan h) (Or.inl ⟨by rfl, ?_⟩) ?_ ?_
                                          rotate_left
                                          · intro w'
                                            go_simp
                                            first | with_reducible rfl | (rw [if_neg (by have q_ := Nat.not_lt.1 (of_eq_false c56b2); simp only [ByteArray.size_extract] at q_; have u_ := of_decide_eq_true c55b1; omega)])
                                          rotate_left
                                          · simp only [Act.put, List.setIfInBounds_toArray, List.set_cons_zero, List.set_cons_succ, bR, bU]
                                            rfl
                                          refine dD (i := 4) (N := some 98) (v := ?_) (a' := ?_) #[true, false, true, true, true, false, false, false, false] rfl rfl (cR HT_.out (by kernel_rfl)) (fun _ _ _ h => hQ_.pan h) (Or.inl ⟨by rfl, ?_⟩) ?_ ?_
                                          rotate_left
                                          · intro w'
                                            go_simp
                                            first | with_reducible rfl | (rw [if_neg (by have q_ := Nat.not_lt.1 (of_eq_false c56b2); simp only [ByteArray.size_extract] at q_; have u_ := of_decide_eq_true c55b1; omega)])
                                          rotate_left
                                          · simp only [Act.put, List.setIfInBounds_toArray, List.set_cons_zero, List.set_cons_succ, bR, bU]
                                            rfl
                                          refine dD (i := 5) (N := some 99) (v := ?_) (a' := ?_) #[true, false, true, true, true, true, false, false, false] rfl rfl (cR HT_.out (by kernel_rfl)) (fun _ _ _ h => hQ_.pan h) (Or.inl ⟨by rfl, ?_⟩) ?_ ?_
                                          rotate_left
                                          · intro w'
                                            go_simp
                                            first | with_reducible rfl | (rw [if_neg (by have q_ := Nat.not_lt.1 (of_eq_false c56b2); simp only [ByteArray.size_extract] at q_; have u_ := of_decide_eq_true c55b1; omega)])
                                          rotate_left
                                          · simp only [Act.put, List.setIfInBounds_toArray, List.set_cons_zero, List.set_cons_succ, bR, bU]
                                            rfl
                                          refine take_ (i := 1) (N := some 95) (v := ?_) (a' := ?_) #[true, true, true, true, true, true, false, false, false] rfl rfl (kL HT_.out HW_.out (by kernel_rfl)) (fun _ _ _ h => hQ_.pan h) (Or.inl ⟨by rfl, ?_⟩) hHeld ?_ ?_
                                          rotate_left
                                          · rintro w' ⟨s0, s1, s2, s3, s4⟩
                                            go_simp
                                            first | with_reducible rfl | (rw [if_neg (by have q_ := Nat.not_lt.1 (of_eq_false c56b2); simp only [ByteArray.size_extract] at q_; have u_ := of_decide_eq_true c55b1; omega)])
                                          rotate_left
                                          · simp only [Act.put, List.setIfInBounds_toArray, List.set_cons_zero, List.set_cons_succ, bR, bU]
                                            rfl
                                          refine dD (i := 6) (N := some 100) (v := ?_) (a' := ?_) #[true, true, true, true, true, true, true, false, false] rfl rfl (cR HT_.out (by kernel_rfl)) (fun _ _ _ h => hQ_.pan h) (Or.inl ⟨by rfl, ?_⟩) ?_ ?_
                                          rotate_left
                                          · intro w'
                                            go_simp
                                            first | with_reducible rfl | (rw [if_neg (by have q_ := Nat.not_lt.1 (of_eq_false c56b2); simp only [ByteArray.size_extract] at q_; have u_ := of_decide_eq_true c55b1; omega)])
                                          rotate_left
                                          · simp only [Act.put, List.setIfInBounds_toArray, List.set_cons_zero, List.set_cons_succ, bR, bU]
                                            rfl
                                          refine dD (i := 7) (N := some 101) (v := ?_) (a' := ?_) #[true, true, true, true, true, true, true, true, false] rfl rfl (cR HT_.out (by kernel_rfl)) (fun _ _ _ h => hQ_.pan h) (Or.inl ⟨by rfl, ?_⟩) ?_ ?_
                                          rotate_left
                                          · intro w'
                                            go_simp
                                            first | with_reducible rfl | (rw [if_neg (by have q_ := Nat.not_lt.1 (of_eq_false c56b2); simp only [ByteArray.size_extract] at q_; have u_ := of_decide_eq_true c55b1; omega)])
                                          rotate_left
                                          · simp only [Act.put, List.setIfInBounds_toArray, List.set_cons_zero, List.set_cons_succ, bR, bU]
                                            rfl
                                          refine wV (i := 8) (N := none) #[true, true, true, true, true, true, true, true, true] rfl rfl (sC HT_.out (by kernel_rfl)) (by decide) (fun K hK => ?_)
                                          have hs77 : w76.cell? ⟨gb102, 0, none⟩ = some (.string (a0.extract (x5_8 : Int).toNat (x5_10 : Int).toNat)) := (aH BK102.out 0).trans rfl
                                          have hfs77 := aC BK102.out 0
                                          have hns77_0 := NB101_102.out
                                          have hms77_0 := NB102_101.out
                                          refine vH (w1 := ?_) (by rfl) rfl ?_ ?_
                                          rotate_left
                                          · go_simp
                                            rfl
                                          refine hK.out _ _ ?_
                                          clear hK K
                                          refine xI (oS HT_.out (by kernel_rfl)) ?_
                                          have y78_0 : w76.cell? ⟨gb102, 0, none⟩ = some (.string (a0.extract (x5_8 : Int).toNat (x5_10 : Int).toNat)) := (aH BK102.out 0).trans rfl
                                          have y78_1 : w76.cell? ⟨gb102, 1, none⟩ = some (.int .i64 (wrap64 (x5_44 - (ji52)))) := (aH BK102.out 1).trans rfl
                                          have y78_2 : w76.cell? ⟨gb102, 2, none⟩ = some (.bool false) := (aH BK102.out 2).trans rfl
                                          have y78_3 : w76.cell? ⟨gb102, 3, none⟩ = some (.int .u8 0) := (aH BK102.out 3).trans rfl
                                          have y78_4 : w76.cell? ⟨gb102, 4, none⟩ = some (.string (⟨#[]⟩ : ByteArray)) := (aH BK102.out 4).trans rfl
                                          have z78_0 := aC BK102.out 0
                                          have z78_1 := aC BK102.out 1
                                          have z78_2 := aC BK102.out 2
                                          have z78_3 := aC BK102.out 3
                                          have z78_4 := aC BK102.out 4
                                          try go_wp2
                                          go_meet
                                          case rel => exact ⟨_, (x5_44), ((⟨#[]⟩ : ByteArray)), (0), (false), (0), ((⟨#[]⟩ : ByteArray)), ((a0.extract (x5_8 : Int).toNat (x5_10 : Int).toNat) ++ (a0.extract ((ji52) : Int).toNat (x5_44 : Int).toNat)), (wrap64 (x5_44 - (ji52))), (by first | rfl | (simp; done) | (simp [*]; done) | (simp [wrap64]; done)), (by first | exact H' | (rw [hji52]; exact H')), ⟨by have := HJ1.out; have := HJ8.out; have := HJ10.out; have := HJ17.out; have := HJ44.out; first | omega | exact Nat.le_refl _⟩, ⟨by (with_reducible repeat (first | refine aD ?_ _ | refine aG ?_ | refine aE ?_ _)); refine bQ ?_ NB101_102.out _; (with_reducible repeat (first | refine aD ?_ _ | refine aG ?_ | refine aE ?_ _)); exact BK101.out⟩, ⟨by (with_reducible repeat (first | refine aD ?_ _ | refine aG ?_ | refine aE ?_ _)); refine aV (cs := #[.string (a0.extract (x5_8 : Int).toNat (x5_10 : Int).toNat), .int .i64 (wrap64 (x5_44 - (ji52))), .bool false, .int .u8 0, .string (⟨#[]⟩ : ByteArray)]) ?_ 0 _ rfl; (with_reducible repeat (first | refine aD ?_ _ | refine aG ?_ | refine aE ?_ _)); exact BK102.out⟩, ⟨by repeat (first | (with_reducible first | exact HB.out | apply aL | apply aI | apply aK | refine aM ?_ GE101.out | refine aM ?_ GE102.out) | exact HB.out)⟩⟩
                                    · rw [if_neg c56] at H
                                      exact absurd H (by simp)
                                  · rw [if_neg c55] at H
                                    exact absurd H (by simp)
                                · rw [if_neg c54] at H
                                  exact absurd H (by simp)
                              · rw [if_neg c53] at H
                                exact absurd H (by simp)
                          · rw [if_neg c44] at H
                            have c44b0 : ((bt a0 x5_10) == 46) = false := beq_eq_false_iff_ne.mpr c44
                            have c44b1 : ((bt a0 x5_10) != 46) = true := bne_iff_ne.mpr c44
                            (first | rw [c44b0] | (simp only [bR, bU]; rw [c44b0]) | skip)
                            have H' := Aside0.mk H
                            clear H
                            go_wp2
                            go_meet
                            case rel => exact ⟨_, (x5_10), ((⟨#[]⟩ : ByteArray)), (0), (false), (0), ((⟨#[]⟩ : ByteArray)), (a0.extract (x5_8 : Int).toNat (x5_10 : Int).toNat), (0), (by first | rfl | (simp; done) | (simp [*]; done) | (simp [wrap64]; done)), (by first | exact H' | (rw [hji52]; exact H')), ⟨by have := HJ1.out; have := HJ8.out; have := HJ10.out; have := HJ17.out; first | omega | exact Nat.le_refl _⟩, ⟨by (with_reducible repeat (first | refine aD ?_ _ | refine aG ?_ | refine aE ?_ _)); refine bQ ?_ NB101_102.out _; (with_reducible repeat (first | refine aD ?_ _ | refine aG ?_ | refine aE ?_ _)); exact BK101.out⟩, ⟨by (with_reducible repeat (first | refine aD ?_ _ | refine aG ?_ | refine aE ?_ _)); refine aV (cs := #[.string (⟨#[]⟩ : ByteArray), .int .i64 0, .bool false, .int .u8 0, .string (⟨#[]⟩ : ByteArray)]) ?_ 0 _ rfl; (with_reducible repeat (first | refine aD ?_ _ | refine aG ?_ | refine aE ?_ _)); exact BK102.out⟩, ⟨by repeat (first | (with_reducible first | exact HB.out | apply aL | apply aI | apply aK | refine aM ?_ GE101.out | refine aM ?_ GE102.out) | exact HB.out)⟩⟩
                         case rest =>
                          clear HC41
                          (try clear p1); (try clear q1); (try clear p2); (try clear q2); (try clear c3); (try clear c4); (try clear p4); (try clear q4); (try clear hx4); (try clear c5); (try clear p5); (try clear q5); (try clear hx5); (try clear c6); (try clear p6); (try clear c7); (try clear p8); (try clear q8); (try clear p14); (try clear q14); (try clear p16); (try clear q16); (try clear p22); (try clear q22)
                          (try clear c30); (try clear c30b0); (try clear c30b1); (try clear c31); (try clear c34); (try clear c34b0); (try clear c34b1); (try clear c35); (try clear c38); (try clear c38b0); (try clear c39); (try clear c39b0); (try clear p40); (try clear q40); (try clear hx40); (try clear c42); (try clear c44); (try clear c44b0); (try clear c44b1); (try clear c46); (try clear c46b0)
                          (try clear c47); (try clear c47b0); (try clear p48); (try clear q48); (try clear hx48); (try clear c49); (try clear c49b0); (try clear p50); (try clear q50); (try clear hx50); (try clear c51); (try clear c51b0); (try clear c53); (try clear c53b0); (try clear c53b1); (try clear c54); (try clear c54b0); (try clear c54b1); (try clear c55); (try clear c55b0); (try clear c55b1)
                          (try clear c56); (try clear c56b0); (try clear c56b1); (try clear c56b2); (try clear c57); (try clear c57b0); (try clear c57b1); (try clear c58); (try clear p64); (try clear c65); (try clear c65b0); (try clear c65b1); (try clear c66); (try clear c73); (try clear y25_0); (try clear y25_1); (try clear y25_2); (try clear y25_3); (try clear y25_4); (try clear y26_0)
                          (try clear y26_1); (try clear y26_2); (try clear y26_3); (try clear y26_4); (try clear y32_0); (try clear y32_1); (try clear y32_2); (try clear y32_3); (try clear y32_4); (try clear y33_0); (try clear y33_1); (try clear y33_2); (try clear y33_3); (try clear y33_4); (try clear y36_0); (try clear y36_1); (try clear y36_2); (try clear y36_3)
                          (try clear y36_4); (try clear y37_0); (try clear y37_1); (try clear y37_2); (try clear y37_3); (try clear y37_4); (try clear y43_0); (try clear y43_1); (try clear y43_2); (try clear y43_3); (try clear y43_4); (try clear y59_0); (try clear y59_1); (try clear y59_2); (try clear y59_3); (try clear y59_4); (try clear y63_0); (try clear y63_1)
                          (try clear y63_2); (try clear y63_3); (try clear y63_4); (try clear y64_0); (try clear y64_1); (try clear y64_2); (try clear y64_3); (try clear y64_4); (try clear y67_0); (try clear y67_1); (try clear y67_2); (try clear y67_3); (try clear y67_4); (try clear y6_0); (try clear y6_1); (try clear y6_2); (try clear y6_3); (try clear y6_4); (try clear y71_0)
                          (try clear y71_1); (try clear y71_2); (try clear y71_3); (try clear y71_4); (try clear y72_0); (try clear y72_1); (try clear y72_2); (try clear y72_3); (try clear y72_4); (try clear y74_0); (try clear y74_1); (try clear y74_2); (try clear y74_3); (try clear y74_4); (try clear y78_0); (try clear y78_1); (try clear y78_2); (try clear y78_3)
                          (try clear y78_4); (try clear z25_0); (try clear z25_1); (try clear z25_2); (try clear z25_3); (try clear z25_4); (try clear z26_0); (try clear z26_1); (try clear z26_2); (try clear z26_3); (try clear z26_4); (try clear z32_0); (try clear z32_1); (try clear z32_2); (try clear z32_3); (try clear z32_4); (try clear z33_0); (try clear z33_1)
                          (try clear z33_2); (try clear z33_3); (try clear z33_4); (try clear z36_0); (try clear z36_1); (try clear z36_2); (try clear z36_3); (try clear z36_4); (try clear z37_0); (try clear z37_1); (try clear z37_2); (try clear z37_3); (try clear z37_4); (try clear z43_0); (try clear z43_1); (try clear z43_2); (try clear z43_3); (try clear z43_4)
                          (try clear z59_0); (try clear z59_1); (try clear z59_2); (try clear z59_3); (try clear z59_4); (try clear z63_0); (try clear z63_1); (try clear z63_2); (try clear z63_3); (try clear z63_4); (try clear z64_0); (try clear z64_1); (try clear z64_2); (try clear z64_3); (try clear z64_4); (try clear z67_0); (try clear z67_1); (try clear z67_2)
                          (try clear z67_3); (try clear z67_4); (try clear z6_0); (try clear z6_1); (try clear z6_2); (try clear z6_3); (try clear z6_4); (try clear z71_0); (try clear z71_1); (try clear z71_2); (try clear z71_3); (try clear z71_4); (try clear z72_0); (try clear z72_1); (try clear z72_2); (try clear z72_3); (try clear z72_4); (try clear z74_0); (try clear z74_1)
                          (try clear z74_2); (try clear z74_3); (try clear z74_4); (try clear z78_0); (try clear z78_1); (try clear z78_2); (try clear z78_3); (try clear z78_4); (try clear p1); (try clear p14); (try clear p16); (try clear p2); (try clear p22); (try clear p4); (try clear p40); (try clear p48); (try clear p50); (try clear p6); (try clear p8); (try clear q1); (try clear q14)
                          (try clear q16); (try clear q2); (try clear q22); (try clear q4); (try clear q40); (try clear q48); (try clear q50); (try clear q8)
                          obtain ⟨kq, x5_40, x102000_40, x102001_40, x102002_40, x102003_40, x102004_40, x103000_40, x103001_40, rfl, HA, HJ40, BK101, BK102, HB⟩ := hcut
                          cases kq with
                          | zero => exact absurd HA.out (by simp [orthoepyref11_cut.j7])
                          | succ kj40 =>
                           have H := HA.out
                           clear HA
                           simp only [orthoepyref11_cut.j7] at H
                           have HC79 := Aside0.mk H
                           clear H
                           go_upto_region 26 with (fail)
                           go_cut [120] (fun v120 wc => ∃ (kq : Nat) (x120_78 : Bool), v120 = .bool x120_78 ∧ Aside0 (orthoepyref11_cut.j8 kq a0 x5_40 x120_78 x103000_40 x103001_40 false 0 (⟨#[]⟩ : ByteArray) = some (r1, r2, r3, r4, r5, r6)) ∧ Aside0 (kq ≤ kj40) ∧ Aside0 (wc.heap[gb101]? = some (.cells #[.string x102000_40, .int .i64 x102001_40, .bool x102002_40, .int .u8 x102003_40, .string x102004_40] 123 (0, 0))) ∧ Aside0 (wc.heap[gb102]? = some (.cells #[.string x103000_40, .int .i64 x103001_40, .bool false, .int .u8 0, .string (⟨#[]⟩ : ByteArray)] 123 (0, 0))) ∧ Aside0 (Below w.heap.size w wc))
                           case first => as_aux_lemma =>
                            have H := HC79.out
                            clear HC79
                            by_cases c80 : 0 ≤ x5_40
                            · rw [if_pos c80] at H
                              have c80b0 : decide (0 ≤ x5_40) = true := decide_eq_true c80
                              clear c80
                              (first | rw [c80b0] | (simp only [bR, bU]; rw [c80b0]) | skip)
                              by_cases c81 : x5_40 < (a0.size : Int)
                              · rw [if_pos c81] at H
                                have c81b0 : decide (x5_40 < (a0.size : Int)) = true := decide_eq_true c81
                                clear c81
                                by_cases c83 : (bt a0 x5_40) = 101
                                · rw [if_pos c83] at H
                                  have c83b0 : ((bt a0 x5_40) == 101) = true := beq_iff_eq.mpr c83
                                  have c83b1 : ((bt a0 x5_40) != 101) = false := bne_eq_false_iff_eq.mpr c83
                                  clear c83
                                  have H' := Aside0.mk H
                                  clear H
                                  have p82 : 0 ≤ (x5_40 : Int) := of_decide_eq_true (by first | (with_reducible assumption) | assumption)
                                  have q82 : x5_40 < (a0.size : Int) := of_decide_eq_true (by first | (with_reducible assumption) | assumption)
                                  have hx82 := cH a0 x5_40
                                  replace p82 := eq_true p82
                                  replace q82 := eq_true q82
                                  go_wp2
                                  go_meet
                                  case rel => exact ⟨_, (false), (by first | rfl | (simp; done) | (simp [*]; done) | (simp [wrap64]; done)), (by first | exact H' | (rw [hji52]; exact H')), ⟨by have := HJ1.out; have := HJ8.out; have := HJ10.out; have := HJ17.out; have := HJ40.out; first | omega | exact Nat.le_refl _⟩, ⟨by (with_reducible repeat (first | refine aD ?_ _ | refine aG ?_ | refine aE ?_ _)); exact BK101.out⟩, ⟨by (with_reducible repeat (first | refine aD ?_ _ | refine aG ?_ | refine aE ?_ _)); exact BK102.out⟩, ⟨by repeat (first | (with_reducible first | exact HB.out | apply aL | apply aI | apply aK | refine aM ?_ GE101.out | refine aM ?_ GE102.out) | exact HB.out)⟩⟩
                                · rw [if_neg c83] at H
                                  have c83b0 : ((bt a0 x5_40) == 101) = false := beq_eq_false_iff_ne.mpr c83
                                  have c83b1 : ((bt a0 x5_40) != 101) = true := bne_iff_ne.mpr c83
                                  have H' := Aside0.mk H
                                  clear H
                                  have p82 : 0 ≤ (x5_40 : Int) := of_decide_eq_true (by first | (with_reducible assumption) | assumption)
                                  have q82 : x5_40 < (a0.size : Int) := of_decide_eq_true (by first | (with_reducible assumption) | assumption)
                                  have hx82 := cH a0 x5_40
                                  replace p82 := eq_true p82
                                  replace q82 := eq_true q82
                                  have p84 : 0 ≤ (x5_40 : Int) := of_decide_eq_true (by first | (with_reducible assumption) | assumption)
                                  have q84 : x5_40 < (a0.size : Int) := of_decide_eq_true (by first | (with_reducible assumption) | assumption)
                                  have hx84 := cH a0 x5_40
                                  replace p84 := eq_true p84
                                  replace q84 := eq_true q84
                                  go_wp2
                                  go_meet
                                  case rel => exact ⟨_, (((bt a0 x5_40) != 69)), (by first | rfl | (simp; done) | (simp [*]; done) | (simp [wrap64]; done)), (by first | exact H' | (rw [hji52]; exact H')), ⟨by have := HJ1.out; have := HJ8.out; have := HJ10.out; have := HJ17.out; have := HJ40.out; first | omega | exact Nat.le_refl _⟩, ⟨by (with_reducible repeat (first | refine aD ?_ _ | refine aG ?_ | refine aE ?_ _)); exact BK101.out⟩, ⟨by (with_reducible repeat (first | refine aD ?_ _ | refine aG ?_ | refine aE ?_ _)); exact BK102.out⟩, ⟨by repeat (first | (with_reducible first | exact HB.out | apply aL | apply aI | apply aK | refine aM ?_ GE101.out | refine aM ?_ GE102.out) | exact HB.out)⟩⟩
                              · rw [if_neg c81] at H
                                exact absurd H (by simp)
                            · rw [if_neg c80] at H
                              exact absurd H (by simp)
                           case rest =>
                            clear HC79
                            (try clear p1); (try clear q1); (try clear p2); (try clear q2); (try clear c3); (try clear c4); (try clear p4); (try clear q4); (try clear hx4); (try clear c5); (try clear p5); (try clear q5); (try clear hx5); (try clear c6); (try clear p6); (try clear c7); (try clear c8); (try clear p8); (try clear q8); (try clear hx8); (try clear p14); (try clear q14); (try clear p16)
                            (try clear q16); (try clear p22); (try clear q22); (try clear c30); (try clear c30b0); (try clear c30b1); (try clear c31); (try clear c34); (try clear c34b0); (try clear c34b1); (try clear c35); (try clear c38); (try clear c38b0); (try clear c39); (try clear c39b0); (try clear p40); (try clear q40); (try clear hx40); (try clear c42); (try clear c44); (try clear c44b0); (try clear c44b1)
                            (try clear c46); (try clear c46b0); (try clear c47); (try clear c47b0); (try clear p48); (try clear q48); (try clear hx48); (try clear c49); (try clear c49b0); (try clear p50); (try clear q50); (try clear hx50); (try clear c51); (try clear c51b0); (try clear c53); (try clear c53b0); (try clear c53b1); (try clear c54); (try clear c54b0); (try clear c54b1); (try clear c55)
                            (try clear c55b0); (try clear c55b1); (try clear c56); (try clear c56b0); (try clear c56b1); (try clear c56b2); (try clear c57); (try clear c57b0); (try clear c57b1); (try clear c58); (try clear p64); (try clear c65); (try clear c65b0); (try clear c65b1); (try clear c66); (try clear c73); (try clear c80); (try clear c80b0); (try clear c81); (try clear c81b0); (try clear p82)
                            (try clear q82); (try clear hx82); (try clear c83); (try clear c83b0); (try clear c83b1); (try clear p84); (try clear q84); (try clear hx84); (try clear y25_0); (try clear y25_1); (try clear y25_2); (try clear y25_3); (try clear y25_4); (try clear y26_0); (try clear y26_1); (try clear y26_2); (try clear y26_3); (try clear y26_4); (try clear y32_0); (try clear y32_1)
                            (try clear y32_2); (try clear y32_3); (try clear y32_4); (try clear y33_0); (try clear y33_1); (try clear y33_2); (try clear y33_3); (try clear y33_4); (try clear y36_0); (try clear y36_1); (try clear y36_2); (try clear y36_3); (try clear y36_4); (try clear y37_0); (try clear y37_1); (try clear y37_2); (try clear y37_3); (try clear y37_4)
                            (try clear y43_0); (try clear y43_1); (try clear y43_2); (try clear y43_3); (try clear y43_4); (try clear y59_0); (try clear y59_1); (try clear y59_2); (try clear y59_3); (try clear y59_4); (try clear y63_0); (try clear y63_1); (try clear y63_2); (try clear y63_3); (try clear y63_4); (try clear y64_0); (try clear y64_1); (try clear y64_2)
                            (try clear y64_3); (try clear y64_4); (try clear y67_0); (try clear y67_1); (try clear y67_2); (try clear y67_3); (try clear y67_4); (try clear y6_0); (try clear y6_1); (try clear y6_2); (try clear y6_3); (try clear y6_4); (try clear y71_0); (try clear y71_1); (try clear y71_2); (try clear y71_3); (try clear y71_4); (try clear y72_0); (try clear y72_1)
                            (try clear y72_2); (try clear y72_3); (try clear y72_4); (try clear y74_0); (try clear y74_1); (try clear y74_2); (try clear y74_3); (try clear y74_4); (try clear y78_0); (try clear y78_1); (try clear y78_2); (try clear y78_3); (try clear y78_4); (try clear z25_0); (try clear z25_1); (try clear z25_2); (try clear z25_3); (try clear z25_4)
                            (try clear z26_0); (try clear z26_1); (try clear z26_2); (try clear z26_3); (try clear z26_4); (try clear z32_0); (try clear z32_1); (try clear z32_2); (try clear z32_3); (try clear z32_4); (try clear z33_0); (try clear z33_1); (try clear z33_2); (try clear z33_3); (try clear z33_4); (try clear z36_0); (try clear z36_1); (try clear z36_2)
                            (try clear z36_3); (try clear z36_4); (try clear z37_0); (try clear z37_1); (try clear z37_2); (try clear z37_3); (try clear z37_4); (try clear z43_0); (try clear z43_1); (try clear z43_2); (try clear z43_3); (try clear z43_4); (try clear z59_0); (try clear z59_1); (try clear z59_2); (try clear z59_3); (try clear z59_4); (try clear z63_0)
                            (try clear z63_1); (try clear z63_2); (try clear z63_3); (try clear z63_4); (try clear z64_0); (try clear z64_1); (try clear z64_2); (try clear z64_3); (try clear z64_4); (try clear z67_0); (try clear z67_1); (try clear z67_2); (try clear z67_3); (try clear z67_4); (try clear z6_0); (try clear z6_1); (try clear z6_2); (try clear z6_3)
                            (try clear z6_4); (try clear z71_0); (try clear z71_1); (try clear z71_2); (try clear z71_3); (try clear z71_4); (try clear z72_0); (try clear z72_1); (try clear z72_2); (try clear z72_3); (try clear z72_4); (try clear z74_0); (try clear z74_1); (try clear z74_2); (try clear z74_3); (try clear z74_4); (try clear z78_0); (try clear z78_1)
                            (try clear z78_2); (try clear z78_3); (try clear z78_4); (try clear p1); (try clear p14); (try clear p16); (try clear p2); (try clear p22); (try clear p4); (try clear p40); (try clear p48); (try clear p5); (try clear p50); (try clear p6); (try clear p64); (try clear p8); (try clear p82); (try clear p84); (try clear q1); (try clear q14); (try clear q16); (try clear q2)
                            (try clear q22); (try clear q4); (try clear q40); (try clear q48); (try clear q5); (try clear q50); (try clear q8); (try clear q82); (try clear q84)
                            obtain ⟨kq, x120_78, rfl, HA, HJ78, BK101, BK102, HB⟩ := hcut
                            cases kq with
                            | zero => exact absurd HA.out (by simp [orthoepyref11_cut.j8])
                            | succ kj78 =>
                             have H := HA.out
                             clear HA
                             simp only [orthoepyref11_cut.j8] at H
                             by_cases c85 : x120_78 = true
                             · subst c85
                               have H1 : (some (x103000_40, x103001_40, false, 0, (⟨#[]⟩ : ByteArray), false)) = some (r1, r2, r3, r4, r5, r6) := by rw [if_pos rfl] at H; exact H
                               clear H
                               have H := H1
                               clear H1
                               simp only [Option.some.injEq, Prod.mk.injEq] at H
                               obtain ⟨rfl, rfl, rfl, rfl, rfl, rfl⟩ := H
                               have hnb86 := NB102_101.out
                               have hnc86 := NB101_102.out
                               have y87_0 : wc.cell? ⟨gb102, 0, none⟩ = some (.string x103000_40) := (aH BK102.out 0).trans rfl
                               have y87_1 : wc.cell? ⟨gb102, 1, none⟩ = some (.int .i64 x103001_40) := (aH BK102.out 1).trans rfl
                               have y87_2 : wc.cell? ⟨gb102, 2, none⟩ = some (.bool false) := (aH BK102.out 2).trans rfl
                               have y87_3 : wc.cell? ⟨gb102, 3, none⟩ = some (.int .u8 0) := (aH BK102.out 3).trans rfl
                               have y87_4 : wc.cell? ⟨gb102, 4, none⟩ = some (.string (⟨#[]⟩ : ByteArray)) := (aH BK102.out 4).trans rfl
                               have z87_0 := aC BK102.out 0
                               have z87_1 := aC BK102.out 1
                               have z87_2 := aC BK102.out 2
                               have z87_3 := aC BK102.out 3
                               have z87_4 := aC BK102.out 4
                               have y88_0 : wc.cell? ⟨gb101, 0, none⟩ = some (.string x102000_40) := (aH BK101.out 0).trans rfl
                               have y88_1 : wc.cell? ⟨gb101, 1, none⟩ = some (.int .i64 x102001_40) := (aH BK101.out 1).trans rfl
                               have y88_2 : wc.cell? ⟨gb101, 2, none⟩ = some (.bool x102002_40) := (aH BK101.out 2).trans rfl
                               have y88_3 : wc.cell? ⟨gb101, 3, none⟩ = some (.int .u8 x102003_40) := (aH BK101.out 3).trans rfl
                               have y88_4 : wc.cell? ⟨gb101, 4, none⟩ = some (.string x102004_40) := (aH BK101.out 4).trans rfl
                               have z88_0 := aC BK101.out 0
                               have z88_1 := aC BK101.out 1
                               have z88_2 := aC BK101.out 2
                               have z88_3 := aC BK101.out 3
                               have z88_4 := aC BK101.out 4
                               go_wp2
                               refine hQ_.ret (cU rfl _ _ gb101 123 #[.string x103000_40, .int .i64 x103001_40, .bool false, .int .u8 0, .string (⟨#[]⟩ : ByteArray)] (0, 0) _ rfl (by (with_reducible repeat (first | refine aD ?_ _ | refine aG ?_ | refine aE ?_ _)); refine aV (cs := #[.string x103000_40, .int .i64 x103001_40, .bool false, .int .u8 0, .string x102004_40]) ?_ 4 _ rfl; (with_reducible repeat (first | refine aD ?_ _ | refine aG ?_ | refine aE ?_ _)); refine aV (cs := #[.string x103000_40, .int .i64 x103001_40, .bool false, .int .u8 x102003_40, .string x102004_40]) ?_ 3 _ rfl; (with_reducible repeat (first | refine aD ?_ _ | refine aG ?_ | refine aE ?_ _)); refine aV (cs := #[.string x103000_40, .int .i64 x103001_40, .bool x102002_40, .int .u8 x102003_40, .string x102004_40]) ?_ 2 _ rfl; (with_reducible repeat (first | refine aD ?_ _ | refine aG ?_ | refine aE ?_ _)); refine aV (cs := #[.string x103000_40, .int .i64 x102001_40, .bool x102002_40, .int .u8 x102003_40, .string x102004_40]) ?_ 1 _ rfl; (with_reducible repeat (first | refine aD ?_ _ | refine aG ?_ | refine aE ?_ _)); refine aV (cs := #[.string x102000_40, .int .i64 x102001_40, .bool x102002_40, .int .u8 x102003_40, .string x102004_40]) ?_ 0 _ rfl; (with_reducible repeat (first | refine aD ?_ _ | refine aG ?_ | refine aE ?_ _)); exact BK101.out) Tryz.underlying123 rfl (by kernel_rfl)) rfl ?_
                               exact ⟨by first | rfl | (simp [aT, aS] <;> rfl) | (simp [*, aT, aS] <;> rfl), by repeat (first | (with_reducible first | exact HB.out | apply aL | apply aI | apply aK | refine aM ?_ GE101.out | refine aM ?_ GE102.out) | exact HB.out)⟩
                             · replace c85 := Bool.eq_false_iff.mpr c85
                               subst c85
                               have H1 : (if (wrap64 (x5_40 + 1)) < (a0.size : Int) then (if 0 ≤ (wrap64 (x5_40 + 1)) then (if (bt a0 (wrap64 (x5_40 + 1))) = 45 then (orthoepyref11_cut.j9 kj78 a0 (wrap64 (x5_40 + 1)) true x103000_40 x103001_40 true 0 (⟨#[]⟩ : ByteArray)) else (orthoepyref11_cut.j9 kj78 a0 (wrap64 (x5_40 + 1)) ((bt a0 (wrap64 (x5_40 + 1))) == 43) x103000_40 x103001_40 true 0 (⟨#[]⟩ : ByteArray))) else (none)) else (orthoepyref11_cut.j9 kj78 a0 (wrap64 (x5_40 + 1)) false x103000_40 x103001_40 true 0 (⟨#[]⟩ : ByteArray))) = some (r1, r2, r3, r4, r5, r6) := by rw [if_neg (show ¬ (false = true) by decide)] at H; exact H
                               clear H
                               have H := H1
                               clear H1
                               have HC89 := Aside0.mk H
                               clear H
                               have hnb90 := NB102_101.out
                               have hnc90 := NB101_102.out
                               have y91_0 : wc.cell? ⟨gb102, 0, none⟩ = some (.string x103000_40) := (aH BK102.out 0).trans rfl
                               have y91_1 : wc.cell? ⟨gb102, 1, none⟩ = some (.int .i64 x103001_40) := (aH BK102.out 1).trans rfl
                               have y91_2 : wc.cell? ⟨gb102, 2, none⟩ = some (.bool false) := (aH BK102.out 2).trans rfl
                               have y91_3 : wc.cell? ⟨gb102, 3, none⟩ = some (.int .u8 0) := (aH BK102.out 3).trans rfl
                               have y91_4 : wc.cell? ⟨gb102, 4, none⟩ = some (.string (⟨#[]⟩ : ByteArray)) := (aH BK102.out 4).trans rfl
                               have z91_0 := aC BK102.out 0
                               have z91_1 := aC BK102.out 1
                               have z91_2 := aC BK102.out 2
                               have z91_3 := aC BK102.out 3
                               have z91_4 := aC BK102.out 4
                               go_upto_region 30 with (fail)
                               go_cut [140] (fun v140 wc => ∃ (kq : Nat) (x140_88 : Bool), v140 = .bool x140_88 ∧ Aside0 (orthoepyref11_cut.j9 kq a0 (wrap64 (x5_40 + 1)) x140_88 x103000_40 x103001_40 true 0 (⟨#[]⟩ : ByteArray) = some (r1, r2, r3, r4, r5, r6)) ∧ Aside0 (kq ≤ kj78) ∧ Aside0 (wc.heap[gb101]? = some (.cells #[.string x102000_40, .int .i64 x102001_40, .bool x102002_40, .int .u8 x102003_40, .string x102004_40] 123 (0, 0))) ∧ Aside0 (wc.heap[gb102]? = some (.cells #[.string x103000_40, .int .i64 x103001_40, .bool true, .int .u8 0, .string (⟨#[]⟩ : ByteArray)] 123 (0, 0))) ∧ Aside0 (Below w.heap.size w wc))
                               case first => as_aux_lemma =>
                                have H := HC89.out
                                clear HC89
                                by_cases c92 : (wrap64 (x5_40 + 1)) < (a0.size : Int)
                                · rw [if_pos c92] at H
                                  have c92b0 : decide ((wrap64 (x5_40 + 1)) < (a0.size : Int)) = true := decide_eq_true c92
                                  clear c92
                                  (first | rw [c92b0] | (simp only [bR, bU]; rw [c92b0]) | skip)
                                  obtain ⟨ji93, hji93⟩ : ∃ j_ : Int, (wrap64 (x5_40 + 1)) = j_ := ⟨_, rfl⟩
                                  replace H : (if 0 ≤ (ji93) then (if (bt a0 (ji93)) = 45 then (orthoepyref11_cut.j9 kj78 a0 ji93 true x103000_40 x103001_40 true 0 (⟨#[]⟩ : ByteArray)) else (orthoepyref11_cut.j9 kj78 a0 ji93 ((bt a0 (ji93)) == 43) x103000_40 x103001_40 true 0 (⟨#[]⟩ : ByteArray))) else (none)) = some (r1, r2, r3, r4, r5, r6) := by first | (rw [hji93] at H; exact H) | (simp only [hji93] at H ⊢; exact H)
                                  (try rw [hji93] at c92b0)
                                  have hji93w : (IntKind.i64.wrap (x5_40 + 1)) = ji93 := (bR _).trans hji93
                                  by_cases c94 : 0 ≤ (ji93)
                                  · rw [if_pos c94] at H
                                    have c94b0 : decide (0 ≤ (ji93)) = true := decide_eq_true c94
                                    clear c94
                                    by_cases c96 : (bt a0 (ji93)) = 45
                                    · rw [if_pos c96] at H
                                      have c96b0 : ((bt a0 (ji93)) == 45) = true := beq_iff_eq.mpr c96
                                      have c96b1 : ((bt a0 (ji93)) != 45) = false := bne_eq_false_iff_eq.mpr c96
                                      clear c96
                                      have H' := Aside0.mk H
                                      clear H
                                      have p95 : 0 ≤ ((ji93) : Int) := of_decide_eq_true (by first | (with_reducible assumption) | assumption)
                                      have q95 : (ji93) < (a0.size : Int) := of_decide_eq_true (by first | (with_reducible assumption) | assumption)
                                      have hx95 := cH a0 (ji93)
                                      replace p95 := eq_true p95
                                      replace q95 := eq_true q95
                                      go_wp2
                                      go_meet
                                      case rel => exact ⟨_, (true), (by first | rfl | (simp; done) | (simp [*]; done) | (simp [wrap64]; done)), (by first | exact H' | (rw [hji93]; exact H')), ⟨by have := HJ1.out; have := HJ8.out; have := HJ10.out; have := HJ17.out; have := HJ40.out; have := HJ78.out; first | omega | exact Nat.le_refl _⟩, ⟨by (with_reducible repeat (first | refine aD ?_ _ | refine aG ?_ | refine aE ?_ _)); refine bQ ?_ NB101_102.out _; (with_reducible repeat (first | refine aD ?_ _ | refine aG ?_ | refine aE ?_ _)); exact BK101.out⟩, ⟨by (with_reducible repeat (first | refine aD ?_ _ | refine aG ?_ | refine aE ?_ _)); refine aV (cs := #[.string x103000_40, .int .i64 x103001_40, .bool false, .int .u8 0, .string (⟨#[]⟩ : ByteArray)]) ?_ 2 _ rfl; (with_reducible repeat (first | refine aD ?_ _ | refine aG ?_ | refine aE ?_ _)); exact BK102.out⟩, ⟨by repeat (first | (with_reducible first | exact HB.out | apply aL | apply aI | apply aK | refine aM ?_ GE101.out | refine aM ?_ GE102.out) | exact HB.out)⟩⟩
                                    · rw [if_neg c96] at H
                                      have c96b0 : ((bt a0 (ji93)) == 45) = false := beq_eq_false_iff_ne.mpr c96
                                      have c96b1 : ((bt a0 (ji93)) != 45) = true := bne_iff_ne.mpr c96
                                      have H' := Aside0.mk H
                                      clear H
                                      have p95 : 0 ≤ ((ji93) : Int) := of_decide_eq_true (by first | (with_reducible assumption) | assumption)
                                      have q95 : (ji93) < (a0.size : Int) := of_decide_eq_true (by first | (with_reducible assumption) | assumption)
                                      have hx95 := cH a0 (ji93)
                                      replace p95 := eq_true p95
                                      replace q95 := eq_true q95
                                      have p97 : 0 ≤ ((ji93) : Int) := of_decide_eq_true (by first | (with_reducible assumption) | assumption)
                                      have q97 : (ji93) < (a0.size : Int) := of_decide_eq_true (by first | (with_reducible assumption) | assumption)
                                      have hx97 := cH a0 (ji93)
                                      replace p97 := eq_true p97
                                      replace q97 := eq_true q97
                                      go_wp2
                                      go_meet
                                      case rel => exact ⟨_, (((bt a0 (ji93)) == 43)), (by first | rfl | (simp; done) | (simp only [← hji93] <;> (first | rfl | simp)) | (simp [*]; done) | (simp [wrap64]; done)), (by first | exact H' | (rw [hji93]; exact H')), ⟨by have := HJ1.out; have := HJ8.out; have := HJ10.out; have := HJ17.out; have := HJ40.out; have := HJ78.out; first | omega | exact Nat.le_refl _⟩, ⟨by (with_reducible repeat (first | refine aD ?_ _ | refine aG ?_ | refine aE ?_ _)); refine bQ ?_ NB101_102.out _; (with_reducible repeat (first | refine aD ?_ _ | refine aG ?_ | refine aE ?_ _)); exact BK101.out⟩, ⟨by (with_reducible repeat (first | refine aD ?_ _ | refine aG ?_ | refine aE ?_ _)); refine aV (cs := #[.string x103000_40, .int .i64 x103001_40, .bool false, .int .u8 0, .string (⟨#[]⟩ : ByteArray)]) ?_ 2 _ rfl; (with_reducible repeat (first | refine aD ?_ _ | refine aG ?_ | refine aE ?_ _)); exact BK102.out⟩, ⟨by repeat (first | (with_reducible first | exact HB.out | apply aL | apply aI | apply aK | refine aM ?_ GE101.out | refine aM ?_ GE102.out) | exact HB.out)⟩⟩
                                  · rw [if_neg c94] at H
                                    exact absurd H (by simp)
                                · rw [if_neg c92] at H
                                  have c92b0 : decide ((wrap64 (x5_40 + 1)) < (a0.size : Int)) = false := decide_eq_false c92
                                  clear c92
                                  (first | rw [c92b0] | (simp only [bR, bU]; rw [c92b0]) | skip)
                                  have H' := Aside0.mk H
                                  clear H
                                  go_wp2
                                  go_meet
                                  case rel => exact ⟨_, (false), (by first | rfl | (simp; done) | (simp [*]; done) | (simp [wrap64]; done)), (by first | exact H' | (rw [hji93]; exact H')), ⟨by have := HJ1.out; have := HJ8.out; have := HJ10.out; have := HJ17.out; have := HJ40.out; have := HJ78.out; first | omega | exact Nat.le_refl _⟩, ⟨by (with_reducible repeat (first | refine aD ?_ _ | refine aG ?_ | refine aE ?_ _)); refine bQ ?_ NB101_102.out _; (with_reducible repeat (first | refine aD ?_ _ | refine aG ?_ | refine aE ?_ _)); exact BK101.out⟩, ⟨by (with_reducible repeat (first | refine aD ?_ _ | refine aG ?_ | refine aE ?_ _)); refine aV (cs := #[.string x103000_40, .int .i64 x103001_40, .bool false, .int .u8 0, .string (⟨#[]⟩ : ByteArray)]) ?_ 2 _ rfl; (with_reducible repeat (first | refine aD ?_ _ | refine aG ?_ | refine aE ?_ _)); exact BK102.out⟩, ⟨by repeat (first | (with_reducible first | exact HB.out | apply aL | apply aI | apply aK | refine aM ?_ GE101.out | refine aM ?_ GE102.out) | exact HB.out)⟩⟩
                               case rest =>
                                clear HC89
                                (try clear p1); (try clear q1); (try clear p2); (try clear q2); (try clear c3); (try clear c4); (try clear p4); (try clear q4); (try clear hx4); (try clear c5); (try clear p5); (try clear q5); (try clear hx5); (try clear c6); (try clear p6); (try clear c7); (try clear c8); (try clear p8); (try clear q8); (try clear hx8); (try clear c9); (try clear p9); (try clear q9)
                                (try clear hx9); (try clear p14); (try clear q14); (try clear p16); (try clear q16); (try clear p22); (try clear q22); (try clear c30); (try clear c30b0); (try clear c30b1); (try clear c31); (try clear c34); (try clear c34b0); (try clear c34b1); (try clear c35); (try clear c38); (try clear c38b0); (try clear c39); (try clear c39b0); (try clear p40); (try clear q40); (try clear hx40)
                                (try clear c42); (try clear c44); (try clear c44b0); (try clear c44b1); (try clear c46); (try clear c46b0); (try clear c47); (try clear c47b0); (try clear p48); (try clear q48); (try clear hx48); (try clear c49); (try clear c49b0); (try clear p50); (try clear q50); (try clear hx50); (try clear c51); (try clear c51b0); (try clear c53); (try clear c53b0); (try clear c53b1)
                                (try clear c54); (try clear c54b0); (try clear c54b1); (try clear c55); (try clear c55b0); (try clear c55b1); (try clear c56); (try clear c56b0); (try clear c56b1); (try clear c56b2); (try clear c57); (try clear c57b0); (try clear c57b1); (try clear c58); (try clear p64); (try clear c65); (try clear c65b0); (try clear c65b1); (try clear c66); (try clear c73); (try clear c80)
                                (try clear c80b0); (try clear c81); (try clear c81b0); (try clear p82); (try clear q82); (try clear hx82); (try clear c83); (try clear c83b0); (try clear c83b1); (try clear p84); (try clear q84); (try clear hx84); (try clear c85); (try clear c86); (try clear c90); (try clear c92); (try clear c92b0); (try clear c94); (try clear c94b0); (try clear p95); (try clear q95)
                                (try clear hx95); (try clear c96); (try clear c96b0); (try clear c96b1); (try clear p97); (try clear q97); (try clear hx97); (try clear y25_0); (try clear y25_1); (try clear y25_2); (try clear y25_3); (try clear y25_4); (try clear y26_0); (try clear y26_1); (try clear y26_2); (try clear y26_3); (try clear y26_4); (try clear y32_0); (try clear y32_1)
                                (try clear y32_2); (try clear y32_3); (try clear y32_4); (try clear y33_0); (try clear y33_1); (try clear y33_2); (try clear y33_3); (try clear y33_4); (try clear y36_0); (try clear y36_1); (try clear y36_2); (try clear y36_3); (try clear y36_4); (try clear y37_0); (try clear y37_1); (try clear y37_2); (try clear y37_3); (try clear y37_4)
                                (try clear y43_0); (try clear y43_1); (try clear y43_2); (try clear y43_3); (try clear y43_4); (try clear y59_0); (try clear y59_1); (try clear y59_2); (try clear y59_3); (try clear y59_4); (try clear y63_0); (try clear y63_1); (try clear y63_2); (try clear y63_3); (try clear y63_4); (try clear y64_0); (try clear y64_1); (try clear y64_2)
                                (try clear y64_3); (try clear y64_4); (try clear y67_0); (try clear y67_1); (try clear y67_2); (try clear y67_3); (try clear y67_4); (try clear y6_0); (try clear y6_1); (try clear y6_2); (try clear y6_3); (try clear y6_4); (try clear y71_0); (try clear y71_1); (try clear y71_2); (try clear y71_3); (try clear y71_4); (try clear y72_0)
                                (try clear y72_1); (try clear y72_2); (try clear y72_3); (try clear y72_4); (try clear y74_0); (try clear y74_1); (try clear y74_2); (try clear y74_3); (try clear y74_4); (try clear y78_0); (try clear y78_1); (try clear y78_2); (try clear y78_3); (try clear y78_4); (try clear y87_0); (try clear y87_1); (try clear y87_2); (try clear y87_3)
                                (try clear y87_4); (try clear y88_0); (try clear y88_1); (try clear y88_2); (try clear y88_3); (try clear y88_4); (try clear y91_0); (try clear y91_1); (try clear y91_2); (try clear y91_3); (try clear y91_4); (try clear z25_0); (try clear z25_1); (try clear z25_2); (try clear z25_3); (try clear z25_4); (try clear z26_0); (try clear z26_1)
                                (try clear z26_2); (try clear z26_3); (try clear z26_4); (try clear z32_0); (try clear z32_1); (try clear z32_2); (try clear z32_3); (try clear z32_4); (try clear z33_0); (try clear z33_1); (try clear z33_2); (try clear z33_3); (try clear z33_4); (try clear z36_0); (try clear z36_1); (try clear z36_2); (try clear z36_3); (try clear z36_4)
                                (try clear z37_0); (try clear z37_1); (try clear z37_2); (try clear z37_3); (try clear z37_4); (try clear z43_0); (try clear z43_1); (try clear z43_2); (try clear z43_3); (try clear z43_4); (try clear z59_0); (try clear z59_1); (try clear z59_2); (try clear z59_3); (try clear z59_4); (try clear z63_0); (try clear z63_1); (try clear z63_2)
                                (try clear z63_3); (try clear z63_4); (try clear z64_0); (try clear z64_1); (try clear z64_2); (try clear z64_3); (try clear z64_4); (try clear z67_0); (try clear z67_1); (try clear z67_2); (try clear z67_3); (try clear z67_4); (try clear z6_0); (try clear z6_1); (try clear z6_2); (try clear z6_3); (try clear z6_4); (try clear z71_0)
                                (try clear z71_1); (try clear z71_2); (try clear z71_3); (try clear z71_4); (try clear z72_0); (try clear z72_1); (try clear z72_2); (try clear z72_3); (try clear z72_4); (try clear z74_0); (try clear z74_1); (try clear z74_2); (try clear z74_3); (try clear z74_4); (try clear z78_0); (try clear z78_1); (try clear z78_2); (try clear z78_3)
                                (try clear z78_4); (try clear z87_0); (try clear z87_1); (try clear z87_2); (try clear z87_3); (try clear z87_4); (try clear z88_0); (try clear z88_1); (try clear z88_2); (try clear z88_3); (try clear z88_4); (try clear z91_0); (try clear z91_1); (try clear z91_2); (try clear z91_3); (try clear z91_4); (try clear p1); (try clear p14); (try clear p16)
                                (try clear p2); (try clear p22); (try clear p4); (try clear p40); (try clear p48); (try clear p5); (try clear p50); (try clear p6); (try clear p64); (try clear p8); (try clear p82); (try clear p84); (try clear p95); (try clear p97); (try clear q1); (try clear q14); (try clear q16); (try clear q2); (try clear q22); (try clear q4); (try clear q40); (try clear q48); (try clear q5)
                                (try clear q50); (try clear q8); (try clear q82); (try clear q84); (try clear q95); (try clear q97)
                                obtain ⟨kq, x140_88, rfl, HA, HJ88, BK101, BK102, HB⟩ := hcut
                                cases kq with
                                | zero => exact absurd HA.out (by simp [orthoepyref11_cut.j9])
                                | succ kj88 =>
                                 have H := HA.out
                                 clear HA
                                 simp only [orthoepyref11_cut.j9] at H
                                 have HC98 := Aside0.mk H
                                 clear H
                                 go_upto_if 140 with (fail)
                                 go_cut [5] (fun v5 wc => ∃ (kq : Nat) (x5_97 : Int) (x103003_97 : Int), v5 = .int .i64 x5_97 ∧ Aside0 (orthoepyref11_cut.j10 kq a0 x5_97 x103000_40 x103001_40 true x103003_97 (⟨#[]⟩ : ByteArray) = some (r1, r2, r3, r4, r5, r6)) ∧ Aside0 (kq ≤ kj88) ∧ Aside0 (wc.heap[gb101]? = some (.cells #[.string x102000_40, .int .i64 x102001_40, .bool x102002_40, .int .u8 x102003_40, .string x102004_40] 123 (0, 0))) ∧ Aside0 (wc.heap[gb102]? = some (.cells #[.string x103000_40, .int .i64 x103001_40, .bool true, .int .u8 x103003_97, .string (⟨#[]⟩ : ByteArray)] 123 (0, 0))) ∧ Aside0 (Below w.heap.size w wc))
                                 case first => as_aux_lemma =>
                                  have H := HC98.out
                                  clear HC98
                                  by_cases c99 : x140_88 = true
                                  · subst c99
                                    have H1 : (if 0 ≤ (wrap64 (x5_40 + 1)) then (if (wrap64 (x5_40 + 1)) < (a0.size : Int) then (orthoepyref11_cut.j10 kj88 a0 (wrap64 ((wrap64 (x5_40 + 1)) + 1)) x103000_40 x103001_40 true (bt a0 (wrap64 (x5_40 + 1))) (⟨#[]⟩ : ByteArray)) else (none)) else (none)) = some (r1, r2, r3, r4, r5, r6) := by rw [if_pos rfl] at H; exact H
                                    clear H
                                    have H := H1
                                    clear H1
                                    obtain ⟨ji100, hji100⟩ : ∃ j_ : Int, (wrap64 (x5_40 + 1)) = j_ := ⟨_, rfl⟩
                                    replace H : (if 0 ≤ (ji100) then (if (ji100) < (a0.size : Int) then (orthoepyref11_cut.j10 kj88 a0 (wrap64 ((ji100) + 1)) x103000_40 x103001_40 true (bt a0 (ji100)) (⟨#[]⟩ : ByteArray)) else (none)) else (none)) = some (r1, r2, r3, r4, r5, r6) := by first | (rw [hji100] at H; exact H) | (simp only [hji100] at H ⊢; exact H)
                                    have hji100w : (IntKind.i64.wrap (x5_40 + 1)) = ji100 := (bR _).trans hji100
                                    by_cases c101 : 0 ≤ (ji100)
                                    · rw [if_pos c101] at H
                                      have c101b0 : decide (0 ≤ (ji100)) = true := decide_eq_true c101
                                      clear c101
                                      (first | rw [c101b0] | (simp only [bR, bU]; rw [c101b0]) | skip)
                                      by_cases c102 : (ji100) < (a0.size : Int)
                                      · rw [if_pos c102] at H
                                        have c102b0 : decide ((ji100) < (a0.size : Int)) = true := decide_eq_true c102
                                        clear c102
                                        have H' := Aside0.mk H
                                        clear H
                                        have p103 : 0 ≤ ((ji100) : Int) := of_decide_eq_true (by first | (with_reducible assumption) | assumption)
                                        have q103 : (ji100) < (a0.size : Int) := of_decide_eq_true (by first | (with_reducible assumption) | assumption)
                                        have hx103 := cH a0 (ji100)
                                        replace p103 := eq_true p103
                                        replace q103 := eq_true q103
                                        have hnb104 := NB102_101.out
                                        have hnc104 := NB101_102.out
                                        have y105_0 : wc.cell? ⟨gb102, 0, none⟩ = some (.string x103000_40) := (aH BK102.out 0).trans rfl
                                        have y105_1 : wc.cell? ⟨gb102, 1, none⟩ = some (.int .i64 x103001_40) := (aH BK102.out 1).trans rfl
                                        have y105_2 : wc.cell? ⟨gb102, 2, none⟩ = some (.bool true) := (aH BK102.out 2).trans rfl
                                        have y105_3 : wc.cell? ⟨gb102, 3, none⟩ = some (.int .u8 0) := (aH BK102.out 3).trans rfl
                                        have y105_4 : wc.cell? ⟨gb102, 4, none⟩ = some (.string (⟨#[]⟩ : ByteArray)) := (aH BK102.out 4).trans rfl
                                        have z105_0 := aC BK102.out 0
                                        have z105_1 := aC BK102.out 1
                                        have z105_2 := aC BK102.out 2
                                        have z105_3 := aC BK102.out 3
                                        have z105_4 := aC BK102.out 4
                                        go_wp2
                                        go_meet
                                        case rel => exact ⟨_, (wrap64 ((ji100) + 1)), (bt a0 (ji100)), (by first | rfl | (simp; done) | (simp only [← hji100] <;> (first | rfl | simp)) | (simp [*]; done) | (simp [wrap64]; done)), (by first | exact H' | (rw [hji100]; exact H')), ⟨by have := HJ1.out; have := HJ8.out; have := HJ10.out; have := HJ17.out; have := HJ40.out; have := HJ78.out; have := HJ88.out; first | omega | exact Nat.le_refl _⟩, ⟨by (with_reducible repeat (first | refine aD ?_ _ | refine aG ?_ | refine aE ?_ _)); refine bQ ?_ NB101_102.out _; (with_reducible repeat (first | refine aD ?_ _ | refine aG ?_ | refine aE ?_ _)); exact BK101.out⟩, ⟨by (with_reducible repeat (first | refine aD ?_ _ | refine aG ?_ | refine aE ?_ _)); refine aV (cs := #[.string x103000_40, .int .i64 x103001_40, .bool true, .int .u8 0, .string (⟨#[]⟩ : ByteArray)]) ?_ 3 _ rfl; (with_reducible repeat (first | refine aD ?_ _ | refine aG ?_ | refine aE ?_ _)); exact BK102.out⟩, ⟨by repeat (first | (with_reducible first | exact HB.out | apply aL | apply aI | apply aK | refine aM ?_ GE101.out | refine aM ?_ GE102.out) | exact HB.out)⟩⟩
                                      · rw [if_neg c102] at H
                                        exact absurd H (by simp)
                                    · rw [if_neg c101] at H
                                      exact absurd H (by simp)
                                  · replace c99 := Bool.eq_false_iff.mpr c99
                                    subst c99
                                    have H1 : (orthoepyref11_cut.j10 kj88 a0 (wrap64 (x5_40 + 1)) x103000_40 x103001_40 true 0 (⟨#[]⟩ : ByteArray)) = some (r1, r2, r3, r4, r5, r6) := by rw [if_neg (show ¬ (false = true) by decide)] at H; exact H
                                    clear H
                                    have H := H1
                                    clear H1
                                    have H' := Aside0.mk H
                                    clear H
                                    go_wp2
                                    go_meet
                                    case rel => exact ⟨_, ((wrap64 (x5_40 + 1))), (0), (by first | rfl | (simp; done) | (simp [*]; done) | (simp [wrap64]; done)), (by first | exact H' | (rw [hji100]; exact H')), ⟨by have := HJ1.out; have := HJ8.out; have := HJ10.out; have := HJ17.out; have := HJ40.out; have := HJ78.out; have := HJ88.out; first | omega | exact Nat.le_refl _⟩, ⟨by (with_reducible repeat (first | refine aD ?_ _ | refine aG ?_ | refine aE ?_ _)); exact BK101.out⟩, ⟨by (with_reducible repeat (first | refine aD ?_ _ | refine aG ?_ | refine aE ?_ _)); exact BK102.out⟩, ⟨by repeat (first | (with_reducible first | exact HB.out | apply aL | apply aI | apply aK | refine aM ?_ GE101.out | refine aM ?_ GE102.out) | exact HB.out)⟩⟩
                                 case rest =>
                                  clear HC98
                                  (try clear c1); (try clear p1); (try clear q1); (try clear hx1); (try clear p2); (try clear q2); (try clear c3); (try clear c4); (try clear p4); (try clear q4); (try clear hx4); (try clear c5); (try clear p5); (try clear q5); (try clear hx5); (try clear c6); (try clear p6); (try clear c7); (try clear c8); (try clear p8); (try clear q8); (try clear hx8); (try clear c9)
                                  (try clear p9); (try clear q9); (try clear hx9); (try clear c10); (try clear p10); (try clear q10); (try clear hx10); (try clear p14); (try clear q14); (try clear p16); (try clear q16); (try clear p22); (try clear q22); (try clear c30); (try clear c30b0); (try clear c30b1); (try clear c31); (try clear c34); (try clear c34b0); (try clear c34b1); (try clear c35); (try clear c38)
                                  (try clear c38b0); (try clear c39); (try clear c39b0); (try clear p40); (try clear q40); (try clear hx40); (try clear c42); (try clear c44); (try clear c44b0); (try clear c44b1); (try clear c46); (try clear c46b0); (try clear c47); (try clear c47b0); (try clear p48); (try clear q48); (try clear hx48); (try clear c49); (try clear c49b0); (try clear p50); (try clear q50)
                                  (try clear hx50); (try clear c51); (try clear c51b0); (try clear c53); (try clear c53b0); (try clear c53b1); (try clear c54); (try clear c54b0); (try clear c54b1); (try clear c55); (try clear c55b0); (try clear c55b1); (try clear c56); (try clear c56b0); (try clear c56b1); (try clear c56b2); (try clear c57); (try clear c57b0); (try clear c57b1); (try clear c58); (try clear p64)
                                  (try clear c65); (try clear c65b0); (try clear c65b1); (try clear c66); (try clear c73); (try clear c80); (try clear c80b0); (try clear c81); (try clear c81b0); (try clear p82); (try clear q82); (try clear hx82); (try clear c83); (try clear c83b0); (try clear c83b1); (try clear p84); (try clear q84); (try clear hx84); (try clear c85); (try clear c86); (try clear c90)
                                  (try clear c92); (try clear c92b0); (try clear c94); (try clear c94b0); (try clear p95); (try clear q95); (try clear hx95); (try clear c96); (try clear c96b0); (try clear c96b1); (try clear p97); (try clear q97); (try clear hx97); (try clear c99); (try clear c101); (try clear c101b0); (try clear c102); (try clear c102b0); (try clear p103); (try clear q103); (try clear hx103)
                                  (try clear c104); (try clear y105_0); (try clear y105_1); (try clear y105_2); (try clear y105_3); (try clear y105_4); (try clear y25_0); (try clear y25_1); (try clear y25_2); (try clear y25_3); (try clear y25_4); (try clear y26_0); (try clear y26_1); (try clear y26_2); (try clear y26_3); (try clear y26_4); (try clear y32_0); (try clear y32_1)
                                  (try clear y32_2); (try clear y32_3); (try clear y32_4); (try clear y33_0); (try clear y33_1); (try clear y33_2); (try clear y33_3); (try clear y33_4); (try clear y36_0); (try clear y36_1); (try clear y36_2); (try clear y36_3); (try clear y36_4); (try clear y37_0); (try clear y37_1); (try clear y37_2); (try clear y37_3); (try clear y37_4)
                                  (try clear y43_0); (try clear y43_1); (try clear y43_2); (try clear y43_3); (try clear y43_4); (try clear y59_0); (try clear y59_1); (try clear y59_2); (try clear y59_3); (try clear y59_4); (try clear y63_0); (try clear y63_1); (try clear y63_2); (try clear y63_3); (try clear y63_4); (try clear y64_0); (try clear y64_1); (try clear y64_2)
                                  (try clear y64_3); (try clear y64_4); (try clear y67_0); (try clear y67_1); (try clear y67_2); (try clear y67_3); (try clear y67_4); (try clear y6_0); (try clear y6_1); (try clear y6_2); (try clear y6_3); (try clear y6_4); (try clear y71_0); (try clear y71_1); (try clear y71_2); (try clear y71_3); (try clear y71_4); (try clear y72_0)
                                  (try clear y72_1); (try clear y72_2); (try clear y72_3); (try clear y72_4); (try clear y74_0); (try clear y74_1); (try clear y74_2); (try clear y74_3); (try clear y74_4); (try clear y78_0); (try clear y78_1); (try clear y78_2); (try clear y78_3); (try clear y78_4); (try clear y87_0); (try clear y87_1); (try clear y87_2); (try clear y87_3)
                                  (try clear y87_4); (try clear y88_0); (try clear y88_1); (try clear y88_2); (try clear y88_3); (try clear y88_4); (try clear y91_0); (try clear y91_1); (try clear y91_2); (try clear y91_3); (try clear y91_4); (try clear z105_0); (try clear z105_1); (try clear z105_2); (try clear z105_3); (try clear z105_4); (try clear z25_0); (try clear z25_1)
                                  (try clear z25_2); (try clear z25_3); (try clear z25_4); (try clear z26_0); (try clear z26_1); (try clear z26_2); (try clear z26_3); (try clear z26_4); (try clear z32_0); (try clear z32_1); (try clear z32_2); (try clear z32_3); (try clear z32_4); (try clear z33_0); (try clear z33_1); (try clear z33_2); (try clear z33_3); (try clear z33_4)
                                  (try clear z36_0); (try clear z36_1); (try clear z36_2); (try clear z36_3); (try clear z36_4); (try clear z37_0); (try clear z37_1); (try clear z37_2); (try clear z37_3); (try clear z37_4); (try clear z43_0); (try clear z43_1); (try clear z43_2); (try clear z43_3); (try clear z43_4); (try clear z59_0); (try clear z59_1); (try clear z59_2)
                                  (try clear z59_3); (try clear z59_4); (try clear z63_0); (try clear z63_1); (try clear z63_2); (try clear z63_3); (try clear z63_4); (try clear z64_0); (try clear z64_1); (try clear z64_2); (try clear z64_3); (try clear z64_4); (try clear z67_0); (try clear z67_1); (try clear z67_2); (try clear z67_3); (try clear z67_4); (try clear z6_0)
                                  (try clear z6_1); (try clear z6_2); (try clear z6_3); (try clear z6_4); (try clear z71_0); (try clear z71_1); (try clear z71_2); (try clear z71_3); (try clear z71_4); (try clear z72_0); (try clear z72_1); (try clear z72_2); (try clear z72_3); (try clear z72_4); (try clear z74_0); (try clear z74_1); (try clear z74_2); (try clear z74_3)
                                  (try clear z74_4); (try clear z78_0); (try clear z78_1); (try clear z78_2); (try clear z78_3); (try clear z78_4); (try clear z87_0); (try clear z87_1); (try clear z87_2); (try clear z87_3); (try clear z87_4); (try clear z88_0); (try clear z88_1); (try clear z88_2); (try clear z88_3); (try clear z88_4); (try clear z91_0); (try clear z91_1)
                                  (try clear z91_2); (try clear z91_3); (try clear z91_4); (try clear p1); (try clear p103); (try clear p14); (try clear p16); (try clear p2); (try clear p22); (try clear p4); (try clear p40); (try clear p48); (try clear p5); (try clear p50); (try clear p6); (try clear p64); (try clear p8); (try clear p82); (try clear p84); (try clear p9); (try clear p95); (try clear p97)
                                  (try clear q1); (try clear q103); (try clear q14); (try clear q16); (try clear q2); (try clear q22); (try clear q4); (try clear q40); (try clear q48); (try clear q5); (try clear q50); (try clear q8); (try clear q82); (try clear q84); (try clear q9); (try clear q95); (try clear q97)
                                  obtain ⟨kq, x5_97, x103003_97, rfl, HA, HJ97, BK101, BK102, HB⟩ := hcut
                                  cases kq with
                                  | zero => exact absurd HA.out (by simp [orthoepyref11_cut.j10])
                                  | succ kj97 =>
                                   have H := HA.out
                                   clear HA
                                   simp only [orthoepyref11_cut.j10] at H
                                   by_cases c106 : 0 ≤ x5_97
                                   · rw [if_pos c106] at H
                                     have c106b0 := eq_true c106
                                     have c106b1 : decide (0 ≤ x5_97) = true := decide_eq_true c106
                                     clear c106
                                     by_cases c107 : x5_97 ≤ (a0.size : Int)
                                     · rw [if_pos c107] at H
                                       have c107b0 := eq_true c107
                                       have c107b1 : decide (x5_97 ≤ (a0.size : Int)) = true := decide_eq_true c107
                                       clear c107
                                       have H' := Aside0.mk H
                                       clear H
                                       have hnb108 := NB102_101.out
                                       have hnc108 := NB101_102.out
                                       have y109_0 : wc.cell? ⟨gb102, 0, none⟩ = some (.string x103000_40) := (aH BK102.out 0).trans rfl
                                       have y109_1 : wc.cell? ⟨gb102, 1, none⟩ = some (.int .i64 x103001_40) := (aH BK102.out 1).trans rfl
                                       have y109_2 : wc.cell? ⟨gb102, 2, none⟩ = some (.bool true) := (aH BK102.out 2).trans rfl
                                       have y109_3 : wc.cell? ⟨gb102, 3, none⟩ = some (.int .u8 x103003_97) := (aH BK102.out 3).trans rfl
                                       have y109_4 : wc.cell? ⟨gb102, 4, none⟩ = some (.string (⟨#[]⟩ : ByteArray)) := (aH BK102.out 4).trans rfl
                                       have z109_0 := aC BK102.out 0
                                       have z109_1 := aC BK102.out 1
                                       have z109_2 := aC BK102.out 2
                                       have z109_3 := aC BK102.out 3
                                       have z109_4 := aC BK102.out 4
                                       go_wp2
                                       go_loopg [5] kj97 (fun kq v5 w' => ∃ (x5_9 : Int) (x102000_9 : ByteArray) (x102001_9 : Int) (x102002_9 : Bool) (x102003_9 : Int) (x102004_9 : ByteArray), v5 = .int .i64 x5_9 ∧ Aside0 (orthoepyref11_cut.l2 kq a0 x5_9 x103000_40 x103001_40 true x103003_97 (a0.extract (x5_97 : Int).toNat a0.size) = some (r1, r2, r3, r4, r5, r6)) ∧ Aside0 (kq ≤ kj97) ∧ Aside0 (w'.heap[gb101]? = some (.cells #[.string x102000_9, .int .i64 x102001_9, .bool x102002_9, .int .u8 x102003_9, .string x102004_9] 123 (0, 0))) ∧ Aside0 (w'.heap[gb102]? = some (.cells #[.string x103000_40, .int .i64 x103001_40, .bool true, .int .u8 x103003_97, .string (a0.extract (x5_97 : Int).toNat a0.size)] 123 (0, 0))) ∧ Aside0 (Below w.heap.size w w'))
                                       case atStart => exact ⟨(x5_97), (x102000_40), (x102001_40), (x102002_40), (x102003_40), (x102004_40), (by first | rfl | (simp; done) | (simp [*]; done) | (simp [wrap64]; done)), H', ⟨Nat.le_refl _⟩, ⟨by (with_reducible repeat (first | refine aD ?_ _ | refine aG ?_ | refine aE ?_ _)); refine bQ ?_ NB101_102.out _; (with_reducible repeat (first | refine aD ?_ _ | refine aG ?_ | refine aE ?_ _)); exact BK101.out⟩, ⟨by (with_reducible repeat (first | refine aD ?_ _ | refine aG ?_ | refine aE ?_ _)); refine aV (cs := #[.string x103000_40, .int .i64 x103001_40, .bool true, .int .u8 x103003_97, .string (⟨#[]⟩ : ByteArray)]) ?_ 4 _ rfl; (with_reducible repeat (first | refine aD ?_ _ | refine aG ?_ | refine aE ?_ _)); exact BK102.out⟩, ⟨by repeat (first | (with_reducible first | exact HB.out | apply aL | apply aI | apply aK | refine aM ?_ GE101.out | refine aM ?_ GE102.out) | exact HB.out)⟩⟩
                                       case round =>
                                        clear H'
                                        (try clear c1); (try clear p1); (try clear q1); (try clear hx1); (try clear p2); (try clear q2); (try clear c3); (try clear c4); (try clear p4); (try clear q4); (try clear hx4); (try clear c5); (try clear p5); (try clear q5); (try clear hx5); (try clear c6); (try clear p6); (try clear c7); (try clear c8); (try clear p8); (try clear q8); (try clear hx8); (try clear c9)
                                        (try clear p9); (try clear q9); (try clear hx9); (try clear c10); (try clear p10); (try clear q10); (try clear hx10); (try clear p14); (try clear q14); (try clear p16); (try clear q16); (try clear p22); (try clear q22); (try clear c30); (try clear c30b0); (try clear c30b1); (try clear c31); (try clear c34); (try clear c34b0); (try clear c34b1); (try clear c35)
                                        (try clear c38); (try clear c38b0); (try clear c39); (try clear c39b0); (try clear p40); (try clear q40); (try clear hx40); (try clear c42); (try clear c44); (try clear c44b0); (try clear c44b1); (try clear c46); (try clear c46b0); (try clear c47); (try clear c47b0); (try clear p48); (try clear q48); (try clear hx48); (try clear c49); (try clear c49b0); (try clear p50)
                                        (try clear q50); (try clear hx50); (try clear c51); (try clear c51b0); (try clear c53); (try clear c53b0); (try clear c53b1); (try clear c54); (try clear c54b0); (try clear c54b1); (try clear c55); (try clear c55b0); (try clear c55b1); (try clear c56); (try clear c56b0); (try clear c56b1); (try clear c56b2); (try clear c57); (try clear c57b0); (try clear c57b1)
                                        (try clear c58); (try clear p64); (try clear c65); (try clear c65b0); (try clear c65b1); (try clear c66); (try clear c73); (try clear c80); (try clear c80b0); (try clear c81); (try clear c81b0); (try clear p82); (try clear q82); (try clear hx82); (try clear c83); (try clear c83b0); (try clear c83b1); (try clear p84); (try clear q84); (try clear hx84); (try clear c85)
                                        (try clear c86); (try clear c90); (try clear c92); (try clear c92b0); (try clear c94); (try clear c94b0); (try clear p95); (try clear q95); (try clear hx95); (try clear c96); (try clear c96b0); (try clear c96b1); (try clear p97); (try clear q97); (try clear hx97); (try clear c99); (try clear c101); (try clear c101b0); (try clear c102); (try clear c102b0); (try clear p103)
                                        (try clear q103); (try clear hx103); (try clear c104); (try clear c106); (try clear c106b0); (try clear c106b1); (try clear c107); (try clear c107b0); (try clear c107b1); (try clear c108); (try clear y105_0); (try clear y105_1); (try clear y105_2); (try clear y105_3); (try clear y105_4); (try clear y109_0); (try clear y109_1); (try clear y109_2)
                                        (try clear y109_3); (try clear y109_4); (try clear y25_0); (try clear y25_1); (try clear y25_2); (try clear y25_3); (try clear y25_4); (try clear y26_0); (try clear y26_1); (try clear y26_2); (try clear y26_3); (try clear y26_4); (try clear y32_0); (try clear y32_1); (try clear y32_2); (try clear y32_3); (try clear y32_4); (try clear y33_0)
                                        (try clear y33_1); (try clear y33_2); (try clear y33_3); (try clear y33_4); (try clear y36_0); (try clear y36_1); (try clear y36_2); (try clear y36_3); (try clear y36_4); (try clear y37_0); (try clear y37_1); (try clear y37_2); (try clear y37_3); (try clear y37_4); (try clear y43_0); (try clear y43_1); (try clear y43_2); (try clear y43_3)
                                        (try clear y43_4); (try clear y59_0); (try clear y59_1); (try clear y59_2); (try clear y59_3); (try clear y59_4); (try clear y63_0); (try clear y63_1); (try clear y63_2); (try clear y63_3); (try clear y63_4); (try clear y64_0); (try clear y64_1); (try clear y64_2); (try clear y64_3); (try clear y64_4); (try clear y67_0); (try clear y67_1)
                                        (try clear y67_2); (try clear y67_3); (try clear y67_4); (try clear y6_0); (try clear y6_1); (try clear y6_2); (try clear y6_3); (try clear y6_4); (try clear y71_0); (try clear y71_1); (try clear y71_2); (try clear y71_3); (try clear y71_4); (try clear y72_0); (try clear y72_1); (try clear y72_2); (try clear y72_3); (try clear y72_4)
                                        (try clear y74_0); (try clear y74_1); (try clear y74_2); (try clear y74_3); (try clear y74_4); (try clear y78_0); (try clear y78_1); (try clear y78_2); (try clear y78_3); (try clear y78_4); (try clear y87_0); (try clear y87_1); (try clear y87_2); (try clear y87_3); (try clear y87_4); (try clear y88_0); (try clear y88_1); (try clear y88_2)
                                        (try clear y88_3); (try clear y88_4); (try clear y91_0); (try clear y91_1); (try clear y91_2); (try clear y91_3); (try clear y91_4); (try clear z105_0); (try clear z105_1); (try clear z105_2); (try clear z105_3); (try clear z105_4); (try clear z109_0); (try clear z109_1); (try clear z109_2); (try clear z109_3); (try clear z109_4)
                                        (try clear z25_0); (try clear z25_1); (try clear z25_2); (try clear z25_3); (try clear z25_4); (try clear z26_0); (try clear z26_1); (try clear z26_2); (try clear z26_3); (try clear z26_4); (try clear z32_0); (try clear z32_1); (try clear z32_2); (try clear z32_3); (try clear z32_4); (try clear z33_0); (try clear z33_1); (try clear z33_2)
                                        (try clear z33_3); (try clear z33_4); (try clear z36_0); (try clear z36_1); (try clear z36_2); (try clear z36_3); (try clear z36_4); (try clear z37_0); (try clear z37_1); (try clear z37_2); (try clear z37_3); (try clear z37_4); (try clear z43_0); (try clear z43_1); (try clear z43_2); (try clear z43_3); (try clear z43_4); (try clear z59_0)
                                        (try clear z59_1); (try clear z59_2); (try clear z59_3); (try clear z59_4); (try clear z63_0); (try clear z63_1); (try clear z63_2); (try clear z63_3); (try clear z63_4); (try clear z64_0); (try clear z64_1); (try clear z64_2); (try clear z64_3); (try clear z64_4); (try clear z67_0); (try clear z67_1); (try clear z67_2); (try clear z67_3)
                                        (try clear z67_4); (try clear z6_0); (try clear z6_1); (try clear z6_2); (try clear z6_3); (try clear z6_4); (try clear z71_0); (try clear z71_1); (try clear z71_2); (try clear z71_3); (try clear z71_4); (try clear z72_0); (try clear z72_1); (try clear z72_2); (try clear z72_3); (try clear z72_4); (try clear z74_0); (try clear z74_1)
                                        (try clear z74_2); (try clear z74_3); (try clear z74_4); (try clear z78_0); (try clear z78_1); (try clear z78_2); (try clear z78_3); (try clear z78_4); (try clear z87_0); (try clear z87_1); (try clear z87_2); (try clear z87_3); (try clear z87_4); (try clear z88_0); (try clear z88_1); (try clear z88_2); (try clear z88_3); (try clear z88_4)
                                        (try clear z91_0); (try clear z91_1); (try clear z91_2); (try clear z91_3); (try clear z91_4); (try clear p1); (try clear p10); (try clear p103); (try clear p14); (try clear p16); (try clear p2); (try clear p22); (try clear p4); (try clear p40); (try clear p48); (try clear p5); (try clear p50); (try clear p6); (try clear p64); (try clear p8); (try clear p82)
                                        (try clear p84); (try clear p9); (try clear p95); (try clear p97); (try clear q1); (try clear q10); (try clear q103); (try clear q14); (try clear q16); (try clear q2); (try clear q22); (try clear q4); (try clear q40); (try clear q48); (try clear q5); (try clear q50); (try clear q8); (try clear q82); (try clear q84); (try clear q9); (try clear q95); (try clear q97)
                                        obtain ⟨x5_9, x102000_9, x102001_9, x102002_9, x102003_9, x102004_9, rfl, HA, HK9, BK101, BK102, HB⟩ := hrel
                                        cases gk with
                                        | zero => exact absurd HA.out (by simp [orthoepyref11_cut.l2])
                                        | succ k9 =>
                                         have H := HA.out
                                         clear HA
                                         simp only [orthoepyref11_cut.l2] at H
                                         by_cases c110 : x5_9 < (a0.size : Int)
                                         · rw [if_pos c110] at H
                                           have c110b0 : decide (x5_9 < (a0.size : Int)) = true := decide_eq_true c110
                                           clear c110
                                           by_cases c111 : 0 ≤ x5_9
                                           · rw [if_pos c111] at H
                                             have c111b0 : decide (0 ≤ x5_9) = true := decide_eq_true c111
                                             clear c111
                                             by_cases c113 : (bt a0 x5_9) < 48
                                             · rw [if_pos c113] at H
                                               have c113b0 : decide ((bt a0 x5_9) < 48) = true := decide_eq_true c113
                                               clear c113
                                               simp only [Option.some.injEq, Prod.mk.injEq] at H
                                               obtain ⟨rfl, rfl, rfl, rfl, rfl, rfl⟩ := H
                                               have p112 : 0 ≤ (x5_9 : Int) := of_decide_eq_true (by first | (with_reducible assumption) | assumption)
                                               have q112 : x5_9 < (a0.size : Int) := of_decide_eq_true (by first | (with_reducible assumption) | assumption)
                                               have hx112 := cH a0 x5_9
                                               replace p112 := eq_true p112
                                               replace q112 := eq_true q112
                                               have hnb114 := NB102_101.out
                                               have hnc114 := NB101_102.out
                                               have y115_0 : wr.cell? ⟨gb102, 0, none⟩ = some (.string x103000_40) := (aH BK102.out 0).trans rfl
                                               have y115_1 : wr.cell? ⟨gb102, 1, none⟩ = some (.int .i64 x103001_40) := (aH BK102.out 1).trans rfl
                                               have y115_2 : wr.cell? ⟨gb102, 2, none⟩ = some (.bool true) := (aH BK102.out 2).trans rfl
                                               have y115_3 : wr.cell? ⟨gb102, 3, none⟩ = some (.int .u8 x103003_97) := (aH BK102.out 3).trans rfl
                                               have y115_4 : wr.cell? ⟨gb102, 4, none⟩ = some (.string (a0.extract (x5_97 : Int).toNat a0.size)) := (aH BK102.out 4).trans rfl
                                               have z115_0 := aC BK102.out 0
                                               have z115_1 := aC BK102.out 1
                                               have z115_2 := aC BK102.out 2
                                               have z115_3 := aC BK102.out 3
                                               have z115_4 := aC BK102.out 4
                                               have y116_0 : wr.cell? ⟨gb101, 0, none⟩ = some (.string x102000_9) := (aH BK101.out 0).trans rfl
                                               have y116_1 : wr.cell? ⟨gb101, 1, none⟩ = some (.int .i64 x102001_9) := (aH BK101.out 1).trans rfl
                                               have y116_2 : wr.cell? ⟨gb101, 2, none⟩ = some (.bool x102002_9) := (aH BK101.out 2).trans rfl
                                               have y116_3 : wr.cell? ⟨gb101, 3, none⟩ = some (.int .u8 x102003_9) := (aH BK101.out 3).trans rfl
                                               have y116_4 : wr.cell? ⟨gb101, 4, none⟩ = some (.string x102004_9) := (aH BK101.out 4).trans rfl
                                               have z116_0 := aC BK101.out 0
                                               have z116_1 := aC BK101.out 1
                                               have z116_2 := aC BK101.out 2
                                               have z116_3 := aC BK101.out 3
                                               have z116_4 := aC BK101.out 4
                                               go_wp2
                                               refine hQ_.ret (cU rfl _ _ gb101 123 #[.string x103000_40, .int .i64 x103001_40, .bool true, .int .u8 x103003_97, .string (a0.extract (x5_97 : Int).toNat a0.size)] (0, 0) _ rfl (by (with_reducible repeat (first | refine aD ?_ _ | refine aG ?_ | refine aE ?_ _)); refine aV (cs := #[.string x103000_40, .int .i64 x103001_40, .bool true, .int .u8 x103003_97, .string x102004_9]) ?_ 4 _ rfl; (with_reducible repeat (first | refine aD ?_ _ | refine aG ?_ | refine aE ?_ _)); refine aV (cs := #[.string x103000_40, .int .i64 x103001_40, .bool true, .int .u8 x102003_9, .string x102004_9]) ?_ 3 _ rfl; (with_reducible repeat (first | refine aD ?_ _ | refine aG ?_ | refine aE ?_ _)); refine aV (cs := #[.string x103000_40, .int .i64 x103001_40, .bool x102002_9, .int .u8 x102003_9, .string x102004_9]) ?_ 2 _ rfl; (with_reducible repeat (first | refine aD ?_ _ | refine aG ?_ | refine aE ?_ _)); refine aV (cs := #[.string x103000_40, .int .i64 x102001_9, .bool x102002_9, .int .u8 x102003_9, .string x102004_9]) ?_ 1 _ rfl; (with_reducible repeat (first | refine aD ?_ _ | refine aG ?_ | refine aE ?_ _)); refine aV (cs := #[.string x102000_9, .int .i64 x102001_9, .bool x102002_9, .int .u8 x102003_9, .string x102004_9]) ?_ 0 _ rfl; (with_reducible repeat (first | refine aD ?_ _ | refine aG ?_ | refine aE ?_ _)); exact BK101.out) Tryz.underlying123 rfl (by kernel_rfl)) rfl ?_
                                               exact ⟨by first | rfl | (simp [aT, aS] <;> rfl) | (simp [*, aT, aS] <;> rfl), by repeat (first | (with_reducible first | exact HB.out | apply aL | apply aI | apply aK | refine aM ?_ GE101.out | refine aM ?_ GE102.out) | exact HB.out)⟩
                                             · rw [if_neg c113] at H
                                               have c113b0 : decide ((bt a0 x5_9) < 48) = false := decide_eq_false c113
                                               clear c113
                                               by_cases c118 : (bt a0 x5_9) > 57
                                               · rw [if_pos c118] at H
                                                 have c118b0 : decide (57 < (bt a0 x5_9)) = true := decide_eq_true c118
                                                 clear c118
                                                 simp only [Option.some.injEq, Prod.mk.injEq] at H
                                                 obtain ⟨rfl, rfl, rfl, rfl, rfl, rfl⟩ := H
                                                 have p112 : 0 ≤ (x5_9 : Int) := of_decide_eq_true (by first | (with_reducible assumption) | assumption)
                                                 have q112 : x5_9 < (a0.size : Int) := of_decide_eq_true (by first | (with_reducible assumption) | assumption)
                                                 have hx112 := cH a0 x5_9
                                                 replace p112 := eq_true p112
                                                 replace q112 := eq_true q112
                                                 have p117 : 0 ≤ (x5_9 : Int) := of_decide_eq_true (by first | (with_reducible assumption) | assumption)
                                                 have q117 : x5_9 < (a0.size : Int) := of_decide_eq_true (by first | (with_reducible assumption) | assumption)
                                                 have hx117 := cH a0 x5_9
                                                 replace p117 := eq_true p117
                                                 replace q117 := eq_true q117
                                                 have hnb119 := NB102_101.out
                                                 have hnc119 := NB101_102.out
                                                 have y120_0 : wr.cell? ⟨gb102, 0, none⟩ = some (.string x103000_40) := (aH BK102.out 0).trans rfl
                                                 have y120_1 : wr.cell? ⟨gb102, 1, none⟩ = some (.int .i64 x103001_40) := (aH BK102.out 1).trans rfl
                                                 have y120_2 : wr.cell? ⟨gb102, 2, none⟩ = some (.bool true) := (aH BK102.out 2).trans rfl
                                                 have y120_3 : wr.cell? ⟨gb102, 3, none⟩ = some (.int .u8 x103003_97) := (aH BK102.out 3).trans rfl
                                                 have y120_4 : wr.cell? ⟨gb102, 4, none⟩ = some (.string (a0.extract (x5_97 : Int).toNat a0.size)) := (aH BK102.out 4).trans rfl
                                                 have z120_0 := aC BK102.out 0
                                                 have z120_1 := aC BK102.out 1
                                                 have z120_2 := aC BK102.out 2
                                                 have z120_3 := aC BK102.out 3
                                                 have z120_4 := aC BK102.out 4
                                                 have y121_0 : wr.cell? ⟨gb101, 0, none⟩ = some (.string x102000_9) := (aH BK101.out 0).trans rfl
                                                 have y121_1 : wr.cell? ⟨gb101, 1, none⟩ = some (.int .i64 x102001_9) := (aH BK101.out 1).trans rfl
                                                 have y121_2 : wr.cell? ⟨gb101, 2, none⟩ = some (.bool x102002_9) := (aH BK101.out 2).trans rfl
                                                 have y121_3 : wr.cell? ⟨gb101, 3, none⟩ = some (.int .u8 x102003_9) := (aH BK101.out 3).trans rfl
                                                 have y121_4 : wr.cell? ⟨gb101, 4, none⟩ = some (.string x102004_9) := (aH BK101.out 4).trans rfl
                                                 have z121_0 := aC BK101.out 0
                                                 have z121_1 := aC BK101.out 1
                                                 have z121_2 := aC BK101.out 2
                                                 have z121_3 := aC BK101.out 3
                                                 have z121_4 := aC BK101.out 4
                                                 go_wp2
                                                 refine hQ_.ret (cU rfl _ _ gb101 123 #[.string x103000_40, .int .i64 x103001_40, .bool true, .int .u8 x103003_97, .string (a0.extract (x5_97 : Int).toNat a0.size)] (0, 0) _ rfl (by (with_reducible repeat (first | refine aD ?_ _ | refine aG ?_ | refine aE ?_ _)); refine aV (cs := #[.string x103000_40, .int .i64 x103001_40, .bool true, .int .u8 x103003_97, .string x102004_9]) ?_ 4 _ rfl; (with_reducible repeat (first | refine aD ?_ _ | refine aG ?_ | refine aE ?_ _)); refine aV (cs := #[.string x103000_40, .int .i64 x103001_40, .bool true, .int .u8 x102003_9, .string x102004_9]) ?_ 3 _ rfl; (with_reducible repeat (first | refine aD ?_ _ | refine aG ?_ | refine aE ?_ _)); refine aV (cs := #[.string x103000_40, .int .i64 x103001_40, .bool x102002_9, .int .u8 x102003_9, .string x102004_9]) ?_ 2 _ rfl; (with_reducible repeat (first | refine aD ?_ _ | refine aG ?_ | refine aE ?_ _)); refine aV (cs := #[.string x103000_40, .int .i64 x102001_9, .bool x102002_9, .int .u8 x102003_9, .string x102004_9]) ?_ 1 _ rfl; (with_reducible repeat (first | refine aD ?_ _ | refine aG ?_ | refine aE ?_ _)); refine aV (cs := #[.string x102000_9, .int .i64 x102001_9, .bool x102002_9, .int .u8 x102003_9, .string x102004_9]) ?_ 0 _ rfl; (with_reducible repeat (first | refine aD ?_ _ | refine aG ?_ | refine aE ?_ _)); exact BK101.out) Tryz.underlying123 rfl (by kernel_rfl)) rfl ?_
                                                 exact ⟨by first | rfl | (simp [aT, aS] <;> rfl) | (simp [*, aT, aS] <;> rfl), by repeat (first | (with_reducible first | exact HB.out | apply aL | apply aI | apply aK | refine aM ?_ GE101.out | refine aM ?_ GE102.out) | exact HB.out)⟩
                                               · rw [if_neg c118] at H
                                                 have c118b0 : decide (57 < (bt a0 x5_9)) = false := decide_eq_false c118
                                                 clear c118
                                                 have H' := Aside0.mk H
                                                 clear H
                                                 have p112 : 0 ≤ (x5_9 : Int) := of_decide_eq_true (by first | (with_reducible assumption) | assumption)
                                                 have q112 : x5_9 < (a0.size : Int) := of_decide_eq_true (by first | (with_reducible assumption) | assumption)
                                                 have hx112 := cH a0 x5_9
                                                 replace p112 := eq_true p112
                                                 replace q112 := eq_true q112
                                                 have p117 : 0 ≤ (x5_9 : Int) := of_decide_eq_true (by first | (with_reducible assumption) | assumption)
                                                 have q117 : x5_9 < (a0.size : Int) := of_decide_eq_true (by first | (with_reducible assumption) | assumption)
                                                 have hx117 := cH a0 x5_9
                                                 replace p117 := eq_true p117
                                                 replace q117 := eq_true q117
                                                 go_wp2
                                                 go_roundg k9
                                                 case measure => have := HJ1.out; have := HJ8.out; have := HJ10.out; have := HJ17.out; have := HJ40.out; have := HJ78.out; have := HJ88.out; have := HJ97.out; have := HK9.out; omega
                                                 case rel => exact ⟨(wrap64 (x5_9 + 1)), (x102000_9), (x102001_9), (x102002_9), (x102003_9), (x102004_9), (by first | rfl | (simp; done) | (simp [*]; done) | (simp [wrap64]; done)), (by first | exact H' | (rw [hji100]; exact H')), ⟨by have := HJ1.out; have := HJ8.out; have := HJ10.out; have := HJ17.out; have := HJ40.out; have := HJ78.out; have := HJ88.out; have := HJ97.out; have := HK9.out; omega⟩, ⟨by (with_reducible repeat (first | refine aD ?_ _ | refine aG ?_ | refine aE ?_ _)); exact BK101.out⟩, ⟨by (with_reducible repeat (first | refine aD ?_ _ | refine aG ?_ | refine aE ?_ _)); exact BK102.out⟩, ⟨by repeat (first | (with_reducible first | exact HB.out | apply aL | apply aI | apply aK | refine aM ?_ GE101.out | refine aM ?_ GE102.out) | exact HB.out)⟩⟩
                                           · rw [if_neg c111] at H
                                             exact absurd H (by simp)
                                         · rw [if_neg c110] at H
                                           have c110b0 : decide (x5_9 < (a0.size : Int)) = false := decide_eq_false c110
                                           clear c110
                                           simp only [Option.some.injEq, Prod.mk.injEq] at H
                                           obtain ⟨rfl, rfl, rfl, rfl, rfl, rfl⟩ := H
                                           have hnb122 := NB102_101.out
                                           have hnc122 := NB101_102.out
                                           have y123_0 : wr.cell? ⟨gb102, 0, none⟩ = some (.string x103000_40) := (aH BK102.out 0).trans rfl
                                           have y123_1 : wr.cell? ⟨gb102, 1, none⟩ = some (.int .i64 x103001_40) := (aH BK102.out 1).trans rfl
                                           have y123_2 : wr.cell? ⟨gb102, 2, none⟩ = some (.bool true) := (aH BK102.out 2).trans rfl
                                           have y123_3 : wr.cell? ⟨gb102, 3, none⟩ = some (.int .u8 x103003_97) := (aH BK102.out 3).trans rfl
                                           have y123_4 : wr.cell? ⟨gb102, 4, none⟩ = some (.string (a0.extract (x5_97 : Int).toNat a0.size)) := (aH BK102.out 4).trans rfl
                                           have z123_0 := aC BK102.out 0
                                           have z123_1 := aC BK102.out 1
                                           have z123_2 := aC BK102.out 2
                                           have z123_3 := aC BK102.out 3
                                           have z123_4 := aC BK102.out 4
                                           have y124_0 : wr.cell? ⟨gb101, 0, none⟩ = some (.string x102000_9) := (aH BK101.out 0).trans rfl
                                           have y124_1 : wr.cell? ⟨gb101, 1, none⟩ = some (.int .i64 x102001_9) := (aH BK101.out 1).trans rfl
                                           have y124_2 : wr.cell? ⟨gb101, 2, none⟩ = some (.bool x102002_9) := (aH BK101.out 2).trans rfl
                                           have y124_3 : wr.cell? ⟨gb101, 3, none⟩ = some (.int .u8 x102003_9) := (aH BK101.out 3).trans rfl
                                           have y124_4 : wr.cell? ⟨gb101, 4, none⟩ = some (.string x102004_9) := (aH BK101.out 4).trans rfl
                                           have z124_0 := aC BK101.out 0
                                           have z124_1 := aC BK101.out 1
                                           have z124_2 := aC BK101.out 2
                                           have z124_3 := aC BK101.out 3
                                           have z124_4 := aC BK101.out 4
                                           go_wp2
                                           refine hQ_.ret (cU rfl _ _ gb101 123 #[.string x103000_40, .int .i64 x103001_40, .bool true, .int .u8 x103003_97, .string (a0.extract (x5_97 : Int).toNat a0.size)] (0, 0) _ rfl (by (with_reducible repeat (first | refine aD ?_ _ | refine aG ?_ | refine aE ?_ _)); refine aV (cs := #[.string x103000_40, .int .i64 x103001_40, .bool true, .int .u8 x103003_97, .string x102004_9]) ?_ 4 _ rfl; (with_reducible repeat (first | refine aD ?_ _ | refine aG ?_ | refine aE ?_ _)); refine aV (cs := #[.string x103000_40, .int .i64 x103001_40, .bool true, .int .u8 x102003_9, .string x102004_9]) ?_ 3 _ rfl; (with_reducible repeat (first | refine aD ?_ _ | refine aG ?_ | refine aE ?_ _)); refine aV (cs := #[.string x103000_40, .int .i64 x103001_40, .bool x102002_9, .int .u8 x102003_9, .string x102004_9]) ?_ 2 _ rfl; (with_reducible repeat (first | refine aD ?_ _ | refine aG ?_ | refine aE ?_ _)); refine aV (cs := #[.string x103000_40, .int .i64 x102001_9, .bool x102002_9, .int .u8 x102003_9, .string x102004_9]) ?_ 1 _ rfl; (with_reducible repeat (first | refine aD ?_ _ | refine aG ?_ | refine aE ?_ _)); refine aV (cs := #[.string x102000_9, .int .i64 x102001_9, .bool x102002_9, .int .u8 x102003_9, .string x102004_9]) ?_ 0 _ rfl; (with_reducible repeat (first | refine aD ?_ _ | refine aG ?_ | refine aE ?_ _)); exact BK101.out) Tryz.underlying123 rfl (by kernel_rfl)) rfl ?_
                                           exact ⟨by first | rfl | (simp [aT, aS] <;> rfl) | (simp [*, aT, aS] <;> rfl), by repeat (first | (with_reducible first | exact HB.out | apply aL | apply aI | apply aK | refine aM ?_ GE101.out | refine aM ?_ GE102.out) | exact HB.out)⟩
                                     · rw [if_neg c107] at H
                                       exact absurd H (by simp)
                                   · rw [if_neg c106] at H
                                     exact absurd H (by simp)
                       · rw [if_neg c39] at H
                         exact absurd H (by simp)
                     · rw [if_neg c38] at H
                       exact absurd H (by simp)
               · rw [if_neg c29] at H
                 exact absurd H (by simp)
             · rw [if_neg c28] at H
               exact absurd H (by simp)
           · rw [if_neg c27] at H
             exact absurd H (by simp)
end Go.Proofs.YthdncmagfgoboaaGreatDoor.XN2
