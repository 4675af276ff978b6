/- One of the texts that lead to the theorem lexPlays.proved: the conditions stand in each theorem. -/
import Derived.Test.YthdncmagfgoboaaGreatDoorP9
set_option linter.unusedSimpArgs false
set_option linter.unusedVariables false
namespace Go.Proofs.YthdncmagfgoboaaGreatDoor.XN1
open Go.RowKit Go.Proofs.YthdncmagfgoboaaGreatDoorW.PrintWords Go.Proofs.YthdncmagfgoboaaGreatDoorW.PrintLast Go.Proofs.YthdncmagfgoboaaGreatDoorW.PrintMore
attribute [local go_sem] yC yA yE yD xY xX yB xZ   -- for this text's walks alone
mutual
def orthoepyref11_has.j1 : Nat → ByteArray → Int → Int → Option (Bool)
 | 0, _, _, _ => none
 | k + 1, x0, x1, x2 => if (x0.size : Int) = 0 then (some (decide ((mx x1 0) ≤ x2))) else (if (x0.size : Int) > 9 then (some false) else (orthoepyref11_has.l1 k x0 (mx x1 0) x2 0 0))
def orthoepyref11_has.l1 : Nat → ByteArray → Int → Int → Int → Int → Option (Bool)
 | 0, _, _, _, _, _ => none
 | k + 1, x0, x1, x2, x7, x8 => if x8 < (x0.size : Int) then (if 0 ≤ x8 then (orthoepyref11_has.l1 k x0 x1 x2 (wrap64 ((wrap64 (10 * x7)) + (((bt x0 x8) - 48) % 256))) (wrap64 (x8 + 1))) else (none)) else (orthoepyref11_has.l2 k x1 x2 x7 x7)
def orthoepyref11_has.l2 : Nat → Int → Int → Int → Int → Option (Bool)
 | 0, _, _, _, _ => none
 | k + 1, x1, x2, x7, x9 => if x7 ≤ x2 then (if x9 ≥ x1 then (some true) else (orthoepyref11_has.l2 k x1 x2 (wrap64 (10 * x7)) (wrap64 ((wrap64 (10 * x9)) + 9)))) else (some false)
def orthoepyref11_has.l0 : Nat → ByteArray → Int → Int → Option (Bool)
 | 0, _, _, _ => none
 | k + 1, x0, x1, x2 => if (x0.size : Int) > 0 then (if 0 < (x0.size : Int) then (if (bt x0 0) = 48 then (if 1 ≤ (x0.size : Int) then (orthoepyref11_has.l0 k (x0.extract 1 x0.size) x1 x2) else (none)) else (orthoepyref11_has.j1 k x0 x1 x2)) else (none)) else (orthoepyref11_has.j1 k x0 x1 x2)
end
def orthoepyref11_has.f (k : Nat) (a0 : ByteArray) (a1 : Int) (a2 : Int) : Option (Bool) := orthoepyref11_has.l0 k a0 a1 a2
theorem orthoepyref11_has.mono_l : ∀ k, (∀ y0 y1 y2, LeO (orthoepyref11_has.j1 k y0 y1 y2) (orthoepyref11_has.j1 (k + 1) y0 y1 y2)) ∧ (∀ y0 y1 y2 y3 y4, LeO (orthoepyref11_has.l1 k y0 y1 y2 y3 y4) (orthoepyref11_has.l1 (k + 1) y0 y1 y2 y3 y4)) ∧ (∀ y0 y1 y2 y3, LeO (orthoepyref11_has.l2 k y0 y1 y2 y3) (orthoepyref11_has.l2 (k + 1) y0 y1 y2 y3)) ∧ (∀ y0 y1 y2, LeO (orthoepyref11_has.l0 k y0 y1 y2) (orthoepyref11_has.l0 (k + 1) y0 y1 y2))
 | 0 => ⟨fun _ _ _ r h => by simp [orthoepyref11_has.j1] at h, fun _ _ _ _ _ r h => by simp [orthoepyref11_has.l1] at h, fun _ _ _ _ r h => by simp [orthoepyref11_has.l2] at h, fun _ _ _ r h => by simp [orthoepyref11_has.l0] at h⟩
 | k + 1 => by
  obtain ⟨ih0, ih1, ih2, ih3⟩ := orthoepyref11_has.mono_l k
  refine ⟨?_, ?_, ?_, ?_⟩
  · intro y0 y1 y2
    unfold orthoepyref11_has.j1
    repeat' first
    | (with_reducible exact ih0 _ _ _)
    | (with_reducible exact ih1 _ _ _ _ _)
    | (with_reducible exact ih2 _ _ _ _)
    | (with_reducible exact ih3 _ _ _)
    | (with_reducible exact LeO.refl _)
    | (with_reducible exact LeO.none _)
    | (with_reducible refine LeO.ite ?_ ?_)
    | (with_reducible refine LeO.bind ?_ (fun _ => ?_))
    | exact ih0 _ _ _
    | exact ih1 _ _ _ _ _
    | exact ih2 _ _ _ _
    | exact ih3 _ _ _
    | exact LeO.none _
    | refine LeO.ite ?_ ?_
    | refine LeO.bind ?_ (fun _ => ?_)
  · intro y0 y1 y2 y3 y4
    unfold orthoepyref11_has.l1
    repeat' first
    | (with_reducible exact ih0 _ _ _)
    | (with_reducible exact ih1 _ _ _ _ _)
    | (with_reducible exact ih2 _ _ _ _)
    | (with_reducible exact ih3 _ _ _)
    | (with_reducible exact LeO.refl _)
    | (with_reducible exact LeO.none _)
    | (with_reducible refine LeO.ite ?_ ?_)
    | (with_reducible refine LeO.bind ?_ (fun _ => ?_))
    | exact ih0 _ _ _
    | exact ih1 _ _ _ _ _
    | exact ih2 _ _ _ _
    | exact ih3 _ _ _
    | exact LeO.none _
    | refine LeO.ite ?_ ?_
    | refine LeO.bind ?_ (fun _ => ?_)
  · intro y0 y1 y2 y3
    unfold orthoepyref11_has.l2
    repeat' first
    | (with_reducible exact ih0 _ _ _)
    | (with_reducible exact ih1 _ _ _ _ _)
    | (with_reducible exact ih2 _ _ _ _)
    | (with_reducible exact ih3 _ _ _)
    | (with_reducible exact LeO.refl _)
    | (with_reducible exact LeO.none _)
    | (with_reducible refine LeO.ite ?_ ?_)
    | (with_reducible refine LeO.bind ?_ (fun _ => ?_))
    | exact ih0 _ _ _
    | exact ih1 _ _ _ _ _
    | exact ih2 _ _ _ _
    | exact ih3 _ _ _
    | exact LeO.none _
    | refine LeO.ite ?_ ?_
    | refine LeO.bind ?_ (fun _ => ?_)
  · intro y0 y1 y2
    unfold orthoepyref11_has.l0
    repeat' first
    | (with_reducible exact ih0 _ _ _)
    | (with_reducible exact ih1 _ _ _ _ _)
    | (with_reducible exact ih2 _ _ _ _)
    | (with_reducible exact ih3 _ _ _)
    | (with_reducible exact LeO.refl _)
    | (with_reducible exact LeO.none _)
    | (with_reducible refine LeO.ite ?_ ?_)
    | (with_reducible refine LeO.bind ?_ (fun _ => ?_))
    | exact ih0 _ _ _
    | exact ih1 _ _ _ _ _
    | exact ih2 _ _ _ _
    | exact ih3 _ _ _
    | exact LeO.none _
    | refine LeO.ite ?_ ?_
    | refine LeO.bind ?_ (fun _ => ?_)
theorem orthoepyref11_has.mono : ∀ a0 a1 a2 k, LeO (orthoepyref11_has.f k a0 a1 a2) (orthoepyref11_has.f (k + 1) a0 a1 a2) := by
 intro a0 a1 a2 k
 obtain ⟨ih0, ih1, ih2, ih3⟩ := orthoepyref11_has.mono_l k
 unfold orthoepyref11_has.f
 repeat' first
  | (with_reducible exact ih0 _ _ _)
  | (with_reducible exact ih1 _ _ _ _ _)
  | (with_reducible exact ih2 _ _ _ _)
  | (with_reducible exact ih3 _ _ _)
  | (with_reducible exact LeO.refl _)
  | (with_reducible exact LeO.none _)
  | (with_reducible refine LeO.ite ?_ ?_)
  | (with_reducible refine LeO.bind ?_ (fun _ => ?_))
  | exact ih0 _ _ _
  | exact ih1 _ _ _ _ _
  | exact ih2 _ _ _ _
  | exact ih3 _ _ _
  | exact LeO.none _
  | refine LeO.ite ?_ ?_
  | refine LeO.bind ?_ (fun _ => ?_)
set_option maxHeartbeats 8000000 in
set_option maxRecDepth 100000 in
theorem orthoepyref11_has.calls (k : Nat) (a0 : ByteArray) (a1 : Int) (a2 : Int) (r : Bool) (w : World) (h : orthoepyref11_has.f k a0 a1 a2 = some r) :
 Calls Tryz.prog 95 #[.string a0, .int .i64 a1, .int .i64 a2] w fun e w' => e = .returned (.bool r) ∧ Below w.heap.size w w' := by
 have HB := Aside0.mk (Below.refl w.heap.size w)
 have H : (orthoepyref11_has.l0 k a0 a1 a2) = some r := h
 clear h
 have HC4 := Aside0.mk H
 clear H
 go_enter Tryz.func95, Tryz.ntmps95
 go_upto_block 0 with (fail)
 go_cut [0] (fun v0 wc => ∃ (kq : Nat) (x0_3 : ByteArray), v0 = .string x0_3 ∧ Aside0 (orthoepyref11_has.j1 kq x0_3 a1 a2 = some r) ∧ Aside0 (kq ≤ k) ∧ Aside0 (Below w.heap.size w wc))
 case first =>
  have H := HC4.out
  clear HC4
  have H' := Aside0.mk H
  clear H
  go_wp2
  go_loopg [0] k (fun kq v0 w' => ∃ (x0_1 : ByteArray), v0 = .string x0_1 ∧ Aside0 (orthoepyref11_has.l0 kq x0_1 a1 a2 = some r) ∧ Aside0 (kq ≤ k) ∧ Aside0 (Below w.heap.size w w'))
  case atStart => exact ⟨(a0), (by first | rfl | (simp; done) | (simp [*]; done)), H', ⟨Nat.le_refl _⟩, ⟨by repeat (first | (with_reducible first | exact HB.out | apply aL | apply aI | apply aK) | exact HB.out)⟩⟩
  case round =>
   clear H'
   try clear p2
   obtain ⟨x0_1, rfl, HA, HK1, HB⟩ := hrel
   cases gk with
   | zero => exact absurd HA.out (by simp [orthoepyref11_has.l0])
   | succ k1 =>
    have H := HA.out
    clear HA
    simp only [orthoepyref11_has.l0] at H
    by_cases c5 : (x0_1.size : Int) > 0
    · rw [if_pos c5] at H
      have c5b0 : decide (0 < (x0_1.size : Int)) = true := decide_eq_true c5
      have c5b1 : decide (0 < x0_1.size) = true := decide_eq_true (by omega)
      clear c5
      (first | rw [c5b0] | (simp only [bR, bU]; rw [c5b0]) | skip)
      by_cases c6 : 0 < (x0_1.size : Int)
      · rw [if_pos c6] at H
        have c6b0 : decide (0 < (x0_1.size : Int)) = true := decide_eq_true c6
        have c6b1 : decide (0 < x0_1.size) = true := decide_eq_true (by omega)
        clear c6
        by_cases c8 : (bt x0_1 0) = 48
        · rw [if_pos c8] at H
          have c8b0 : ((bt x0_1 0) == 48) = true := beq_iff_eq.mpr c8
          have c8b1 : ((bt x0_1 0) != 48) = false := bne_eq_false_iff_eq.mpr c8
          clear c8
          by_cases c9 : 1 ≤ (x0_1.size : Int)
          · rw [if_pos c9] at H
            have c9b0 := eq_true c9
            have c9b1 : decide (1 ≤ (x0_1.size : Int)) = true := decide_eq_true c9
            clear c9
            have H' := Aside0.mk H
            clear H
            have p7 : 0 ≤ (0 : Int) := (by omega)
            have q7 : 0 < x0_1.size := (by have : (0 : Int) < (x0_1.size : Int) := of_decide_eq_true (by first | (with_reducible assumption) | assumption); omega)
            have hx7 : ∀ h : 0 < x0_1.size, ((x0_1[0]'h).toNat : Int) = bt x0_1 0 := cH x0_1 0
            clear p7
            have qi7 : (0 < (x0_1.size : Int)) = True := eq_true (of_decide_eq_true (by first | (with_reducible assumption) | assumption))
            replace q7 := eq_true q7
            go_wp2
            go_roundg k1
            case measure => have := HK1.out; omega
            case rel => exact ⟨(x0_1.extract 1 x0_1.size), (by first | rfl | (simp; done) | (simp [*]; done)), H', ⟨by have := HK1.out; omega⟩, ⟨by repeat (first | (with_reducible first | exact HB.out | apply aL | apply aI | apply aK) | exact HB.out)⟩⟩
          · rw [if_neg c9] at H
            exact absurd H (by simp)
        · rw [if_neg c8] at H
          have c8b0 : ((bt x0_1 0) == 48) = false := beq_eq_false_iff_ne.mpr c8
          have c8b1 : ((bt x0_1 0) != 48) = true := bne_iff_ne.mpr c8
          have H' := Aside0.mk H
          clear H
          have p7 : 0 ≤ (0 : Int) := (by omega)
          have q7 : 0 < x0_1.size := (by have : (0 : Int) < (x0_1.size : Int) := of_decide_eq_true (by first | (with_reducible assumption) | assumption); omega)
          have hx7 : ∀ h : 0 < x0_1.size, ((x0_1[0]'h).toNat : Int) = bt x0_1 0 := cH x0_1 0
          clear p7
          have qi7 : (0 < (x0_1.size : Int)) = True := eq_true (of_decide_eq_true (by first | (with_reducible assumption) | assumption))
          replace q7 := eq_true q7
          go_wp2
          go_meet
          case rel => exact ⟨_, (x0_1), (by first | rfl | (simp; done) | (simp [*]; done)), H', ⟨by have := HK1.out; first | omega | exact Nat.le_refl _⟩, ⟨by repeat (first | (with_reducible first | exact HB.out | apply aL | apply aI | apply aK) | exact HB.out)⟩⟩
      · rw [if_neg c6] at H
        exact absurd H (by simp)
    · rw [if_neg c5] at H
      have c5b0 : decide (0 < (x0_1.size : Int)) = false := decide_eq_false c5
      have c5b1 : decide (0 < x0_1.size) = false := decide_eq_false (by omega)
      clear c5
      (first | rw [c5b0] | (simp only [bR, bU]; rw [c5b0]) | skip)
      have H' := Aside0.mk H
      clear H
      go_wp2
      go_meet
      case rel => exact ⟨_, (x0_1), (by first | rfl | (simp; done) | (simp [*]; done)), H', ⟨by have := HK1.out; first | omega | exact Nat.le_refl _⟩, ⟨by repeat (first | (with_reducible first | exact HB.out | apply aL | apply aI | apply aK) | exact HB.out)⟩⟩
 case rest =>
  clear HC4
  try clear p2
  try clear c5
  try clear c5b0
  try clear c5b1
  try clear c6
  try clear c6b0
  try clear c6b1
  try clear p7
  try clear q7
  try clear hx7
  try clear qi7
  try clear c8
  try clear c8b0
  try clear c8b1
  try clear c9
  try clear c9b0
  try clear c9b1
  try clear p2
  try clear p7
  try clear q7
  obtain ⟨kq, x0_3, rfl, HA, HJ3, HB⟩ := hcut
  cases kq with
  | zero => exact absurd HA.out (by simp [orthoepyref11_has.j1])
  | succ kj3 =>
   have H := HA.out
   clear HA
   simp only [orthoepyref11_has.j1] at H
   obtain ⟨ji10, hji10⟩ : ∃ j_ : Int, (mx a1 0) = j_ := ⟨_, rfl⟩
   replace H : (if (x0_3.size : Int) = 0 then (some (decide ((ji10) ≤ a2))) else (if (x0_3.size : Int) > 9 then (some false) else (orthoepyref11_has.l1 kj3 x0_3 ji10 a2 0 0))) = some r := by first | (rw [hji10] at H; exact H) | (simp only [hji10] at H ⊢; exact H)
   have hji10_ : (if a1 < 0 then 0 else a1) = ji10 := hji10
   by_cases c11 : (x0_3.size : Int) = 0
   · rw [if_pos c11] at H
     have c11b0 : ((x0_3.size : Int) == 0) = true := beq_iff_eq.mpr c11
     have c11b1 : ((x0_3.size : Int) != 0) = false := bne_eq_false_iff_eq.mpr c11
     clear c11
     obtain rfl := Option.some.inj H
     go_wp2
     go_ret
     exact ⟨by first | rfl | (simp [aT, aS] <;> rfl) | (simp only [← hji10]; first | rfl | (simp [aT, aS] <;> rfl)) | (simp [*, aT, aS] <;> rfl), by repeat (first | (with_reducible first | exact HB.out | apply aL | apply aI | apply aK) | exact HB.out)⟩
   · rw [if_neg c11] at H
     have c11b0 : ((x0_3.size : Int) == 0) = false := beq_eq_false_iff_ne.mpr c11
     have c11b1 : ((x0_3.size : Int) != 0) = true := bne_iff_ne.mpr c11
     by_cases c12 : (x0_3.size : Int) > 9
     · rw [if_pos c12] at H
       have c12b0 : decide (9 < (x0_3.size : Int)) = true := decide_eq_true c12
       have c12b1 : decide (9 < x0_3.size) = true := decide_eq_true (by omega)
       clear c12
       obtain rfl := Option.some.inj H
       go_wp2
       go_ret
       exact ⟨by first | rfl | (simp [aT, aS] <;> rfl) | (simp only [← hji10]; first | rfl | (simp [aT, aS] <;> rfl)) | (simp [*, aT, aS] <;> rfl), by repeat (first | (with_reducible first | exact HB.out | apply aL | apply aI | apply aK) | exact HB.out)⟩
     · rw [if_neg c12] at H
       have c12b0 : decide (9 < (x0_3.size : Int)) = false := decide_eq_false c12
       have c12b1 : decide (9 < x0_3.size) = false := decide_eq_false (by omega)
       clear c12
       have H' := Aside0.mk H
       clear H
       go_wp2
       go_loopg [7, 8] kj3 (fun kq v7 v8 w' => ∃ (x7_2 : Int) (x8_2 : Int), v7 = .int .i64 x7_2 ∧ v8 = .int .i64 x8_2 ∧ Aside0 (orthoepyref11_has.l1 kq x0_3 ji10 a2 x7_2 x8_2 = some r) ∧ Aside0 (kq ≤ kj3) ∧ Aside0 (Below w.heap.size w w'))
       case atStart => exact ⟨(0), (0), (by first | rfl | (simp; done) | (simp [*]; done)), (by first | rfl | (simp; done) | (simp [*]; done)), H', ⟨Nat.le_refl _⟩, ⟨by repeat (first | (with_reducible first | exact HB.out | apply aL | apply aI | apply aK) | exact HB.out)⟩⟩
       case round =>
        clear H'
        try clear c1
        try clear p2
        try clear c5
        try clear c5b0
        try clear c5b1
        try clear c6
        try clear c6b0
        try clear c6b1
        try clear p7
        try clear q7
        try clear hx7
        try clear qi7
        try clear c8
        try clear c8b0
        try clear c8b1
        try clear c9
        try clear c9b0
        try clear c9b1
        try clear c11
        try clear c11b0
        try clear c11b1
        try clear c12
        try clear c12b0
        try clear c12b1
        try clear p2
        try clear p7
        try clear q7
        obtain ⟨x7_2, x8_2, rfl, rfl, HA, HK2, HB⟩ := hrel
        cases gk with
        | zero => exact absurd HA.out (by simp [orthoepyref11_has.l1])
        | succ k2 =>
         have H := HA.out
         clear HA
         simp only [orthoepyref11_has.l1] at H
         by_cases c13 : x8_2 < (x0_3.size : Int)
         · rw [if_pos c13] at H
           have c13b0 : decide (x8_2 < (x0_3.size : Int)) = true := decide_eq_true c13
           clear c13
           by_cases c14 : 0 ≤ x8_2
           · rw [if_pos c14] at H
             have c14b0 : decide (0 ≤ x8_2) = true := decide_eq_true c14
             clear c14
             have H' := Aside0.mk H
             clear H
             have p15 : 0 ≤ (x8_2 : Int) := of_decide_eq_true (by first | (with_reducible assumption) | assumption)
             have q15 : x8_2 < (x0_3.size : Int) := of_decide_eq_true (by first | (with_reducible assumption) | assumption)
             have hx15 := cH x0_3 x8_2
             replace p15 := eq_true p15
             replace q15 := eq_true q15
             go_wp2
             go_roundg k2
             case measure => have := HJ3.out; have := HK2.out; omega
             case rel => exact ⟨(wrap64 ((wrap64 (10 * x7_2)) + (((bt x0_3 x8_2) - 48) % 256))), (wrap64 (x8_2 + 1)), (by first | rfl | (simp; done) | (simp [*]; done)), (by first | rfl | (simp; done) | (simp [*]; done)), H', ⟨by have := HJ3.out; have := HK2.out; omega⟩, ⟨by repeat (first | (with_reducible first | exact HB.out | apply aL | apply aI | apply aK) | exact HB.out)⟩⟩
           · rw [if_neg c14] at H
             exact absurd H (by simp)
         · rw [if_neg c13] at H
           have c13b0 : decide (x8_2 < (x0_3.size : Int)) = false := decide_eq_false c13
           clear c13
           have H' := Aside0.mk H
           clear H
           go_wp2
           go_loopg [7, 9] k2 (fun kq v7 v9 w' => ∃ (x7_3 : Int) (x9_3 : Int), v7 = .int .i64 x7_3 ∧ v9 = .int .i64 x9_3 ∧ Aside0 (orthoepyref11_has.l2 kq ji10 a2 x7_3 x9_3 = some r) ∧ Aside0 (kq ≤ k2) ∧ Aside0 (Below w.heap.size w w'))
           case atStart => exact ⟨(x7_2), (x7_2), (by first | rfl | (simp; done) | (simp [*]; done)), (by first | rfl | (simp; done) | (simp [*]; done)), H', ⟨Nat.le_refl _⟩, ⟨by repeat (first | (with_reducible first | exact HB.out | apply aL | apply aI | apply aK) | exact HB.out)⟩⟩
           case round =>
            clear H'
            try clear c1
            try clear p1
            try clear q1
            try clear hx1
            try clear p2
            try clear c5
            try clear c5b0
            try clear c5b1
            try clear c6
            try clear c6b0
            try clear c6b1
            try clear p6
            try clear p7
            try clear q7
            try clear hx7
            try clear qi7
            try clear c8
            try clear c8b0
            try clear c8b1
            try clear c9
            try clear c9b0
            try clear c9b1
            try clear c11
            try clear c11b0
            try clear c11b1
            try clear c12
            try clear c12b0
            try clear c12b1
            try clear c13
            try clear c13b0
            try clear c14
            try clear c14b0
            try clear p15
            try clear q15
            try clear hx15
            try clear p15
            try clear p2
            try clear p7
            try clear q15
            try clear q7
            obtain ⟨x7_3, x9_3, rfl, rfl, HA, HK3, HB⟩ := hrel
            cases gk with
            | zero => exact absurd HA.out (by simp [orthoepyref11_has.l2])
            | succ k3 =>
             have H := HA.out
             clear HA
             simp only [orthoepyref11_has.l2] at H
             by_cases c16 : x7_3 ≤ a2
             · rw [if_pos c16] at H
               have c16b0 : decide (x7_3 ≤ a2) = true := decide_eq_true c16
               clear c16
               by_cases c17 : x9_3 ≥ ji10
               · rw [if_pos c17] at H
                 have c17b0 : decide (ji10 ≤ x9_3) = true := decide_eq_true c17
                 clear c17
                 obtain rfl := Option.some.inj H
                 go_wp2
                 go_ret
                 exact ⟨by first | rfl | (simp [aT, aS] <;> rfl) | (simp only [← hji10]; first | rfl | (simp [aT, aS] <;> rfl)) | (simp [*, aT, aS] <;> rfl), by repeat (first | (with_reducible first | exact HB.out | apply aL | apply aI | apply aK) | exact HB.out)⟩
               · rw [if_neg c17] at H
                 have c17b0 : decide (ji10 ≤ x9_3) = false := decide_eq_false c17
                 clear c17
                 have H' := Aside0.mk H
                 clear H
                 go_wp2
                 go_roundg k3
                 case measure => have := HJ3.out; have := HK2.out; have := HK3.out; omega
                 case rel => exact ⟨(wrap64 (10 * x7_3)), (wrap64 ((wrap64 (10 * x9_3)) + 9)), (by first | rfl | (simp; done) | (simp [*]; done)), (by first | rfl | (simp; done) | (simp [*]; done)), H', ⟨by have := HJ3.out; have := HK2.out; have := HK3.out; omega⟩, ⟨by repeat (first | (with_reducible first | exact HB.out | apply aL | apply aI | apply aK) | exact HB.out)⟩⟩
             · rw [if_neg c16] at H
               have c16b0 : decide (x7_3 ≤ a2) = false := decide_eq_false c16
               clear c16
               obtain rfl := Option.some.inj H
               go_wp2
               go_ret
               exact ⟨by first | rfl | (simp [aT, aS] <;> rfl) | (simp only [← hji10]; first | rfl | (simp [aT, aS] <;> rfl)) | (simp [*, aT, aS] <;> rfl), by repeat (first | (with_reducible first | exact HB.out | apply aL | apply aI | apply aK) | exact HB.out)⟩
def orthoepyref10_Int.f (a0_0 : Bool) (a0_1 : ByteArray) (a0_2 : Int) : Option (Int × Int) := if In a0_1 a0_2 ∧ (DD a0_0 a0_1 a0_2).d.all Dig.dig = true then some ((Dig.int (DD a0_0 a0_1 a0_2)).1, (Dig.int (DD a0_0 a0_1 a0_2)).2) else none
theorem orthoepyref10_Int.calls (a0_0 : Bool) (a0_1 : ByteArray) (a0_2 : Int) (r1 : Int) (r2 : Int) (w : World) (h : orthoepyref10_Int.f a0_0 a0_1 a0_2 = some (r1, r2)) :
 Calls Tryz.prog 69 #[.agg #[.bool a0_0, .string a0_1, .int .i64 a0_2]] w fun e w' => e = .returned (.tuple #[.int .i64 r1, .int .i64 r2]) ∧ Below w.heap.size w w' := by
 unfold orthoepyref10_Int.f at h
 split at h
 · rename_i hi
   cases h
   rw [← xJ]
   exact (pS (DD a0_0 a0_1 a0_2) w (by rw [xW]; exact hi.1.1) hi.1.2.1 hi.1.2.2 hi.2).mono fun _ _ h => ⟨h.1, h.2.below⟩
 · cases h
def orthoepyref10_Norm.f (a0_0 : Bool) (a0_1 : ByteArray) (a0_2 : Int) : Option (Bool × ByteArray × Int) := if In a0_1 a0_2 then some ((Dig.norm (DD a0_0 a0_1 a0_2)).neg, str (Dig.norm (DD a0_0 a0_1 a0_2)).d, (Dig.norm (DD a0_0 a0_1 a0_2)).e) else none
theorem orthoepyref10_Norm.calls (a0_0 : Bool) (a0_1 : ByteArray) (a0_2 : Int) (r1 : Bool) (r2 : ByteArray) (r3 : Int) (w : World) (h : orthoepyref10_Norm.f a0_0 a0_1 a0_2 = some (r1, r2, r3)) :
 Calls Tryz.prog 94 #[.agg #[.bool a0_0, .string a0_1, .int .i64 a0_2]] w fun e w' => e = .returned (.agg #[.bool r1, .string r2, .int .i64 r3]) ∧ Below w.heap.size w w' := by
 unfold orthoepyref10_Norm.f at h
 split at h
 · rename_i hi
   cases h
   rw [← xJ]
   exact (iS (DD a0_0 a0_1 a0_2) w (by rw [xW]; exact hi.1) hi.2.1 hi.2.2).mono fun _ _ h => ⟨h.1, h.2.below⟩
 · cases h
end Go.Proofs.YthdncmagfgoboaaGreatDoor.XN1
