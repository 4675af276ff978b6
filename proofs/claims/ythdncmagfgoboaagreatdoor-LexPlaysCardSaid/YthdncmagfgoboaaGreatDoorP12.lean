/- One of the texts that lead to the theorem lexPlays.proved: the conditions stand in each theorem. -/
import Derived.Test.YthdncmagfgoboaaGreatDoorP9
import Derived.Test.YthdncmagfgoboaaGreatDoorP11
set_option linter.unusedSimpArgs false
set_option linter.unusedVariables false
namespace Go.Proofs.YthdncmagfgoboaaGreatDoor.XN1
open Go.RowKit Go.Proofs.YthdncmagfgoboaaGreatDoorW.PrintWords Go.Proofs.YthdncmagfgoboaaGreatDoorW.PrintLast Go.Proofs.YthdncmagfgoboaaGreatDoorW.PrintMore
attribute [local go_sem] yC yA yE yD xY xX yB xZ   -- for this text's walks alone
mutual
def orthoepyref11_may.j0 : Nat → Bool → ByteArray → Int → Bool → Int → ByteArray → Bool → ByteArray → Int → Option (Bool)
 | 0, _, _, _, _, _, _, _, _, _ => none
 | k + 1, x43, x102000, x102001, x102002, x102003, x102004, x106000, x106001, x106002 => if x43 = true then (some true) else (orthoepyref11_may.l0 k 0 x102000 x102001 x102002 x102003 x102004 x106000 x106001 x106002)
def orthoepyref11_may.j2 : Nat → Int → ByteArray → Int → Bool → Int → ByteArray → Bool → ByteArray → Int → Option (Bool)
 | 0, _, _, _, _, _, _, _, _, _ => none
 | k + 1, x6, x102000, x102001, x102002, x102003, x102004, x106000, x106001, x106002 => if x102003 = 45 then ((orthoepyref11_has.f k x102004 (wrap64 ((wrap64 (-(wrap64 (-x106002)))) - x6)) (wrap64 (-(wrap64 (-x106002))))).bind fun t110 => (some t110)) else ((orthoepyref11_has.f k x102004 (wrap64 (-x106002)) (wrap64 ((wrap64 (-x106002)) + x6))).bind fun t111 => (some t111))
def orthoepyref11_may.l0 : Nat → Int → ByteArray → Int → Bool → Int → ByteArray → Bool → ByteArray → Int → Option (Bool)
 | 0, _, _, _, _, _, _, _, _, _ => none
 | k + 1, x6, x102000, x102001, x102002, x102003, x102004, x106000, x106001, x106002 => if x6 < 16 then ((orthoepyref10_Int.f false x106001 (wrap64 (x6 + 1))).bind fun bt108 => (if bt108.2 = 0 then (orthoepyref11_may.l0 k (wrap64 (x6 + 1)) x102000 x102001 x102002 x102003 x102004 x106000 x106001 x106002) else (orthoepyref11_may.j2 k x6 x102000 x102001 x102002 x102003 x102004 x106000 x106001 x106002))) else (orthoepyref11_may.j2 k x6 x102000 x102001 x102002 x102003 x102004 x106000 x106001 x106002)
end
def orthoepyref11_may.f (k : Nat) (a0_0 : ByteArray) (a0_1 : Int) (a0_2 : Bool) (a0_3 : Int) (a0_4 : ByteArray) : Option (Bool) := (orthoepyref10_Norm.f false a0_0 (wrap64 (-a0_1))).bind fun bt102 => (if (bt102.2.1.size : Int) = 0 then (some true) else ((orthoepyref10_Int.f false bt102.2.1 0).bind fun bt106 => (if bt106.2 = 0 then (if a0_2 = true then (if a0_3 = 0 then (orthoepyref11_may.j0 k ((a0_4.size : Int) == 0) a0_0 a0_1 a0_2 a0_3 a0_4 bt102.1 bt102.2.1 bt102.2.2) else (orthoepyref11_may.j0 k false a0_0 a0_1 a0_2 a0_3 a0_4 bt102.1 bt102.2.1 bt102.2.2)) else (orthoepyref11_may.j0 k true a0_0 a0_1 a0_2 a0_3 a0_4 bt102.1 bt102.2.1 bt102.2.2)) else (some false))))
theorem orthoepyref11_may.mono_l : ∀ k, (∀ y0 y1 y2 y3 y4 y5 y6 y7 y8, LeO (orthoepyref11_may.j0 k y0 y1 y2 y3 y4 y5 y6 y7 y8) (orthoepyref11_may.j0 (k + 1) y0 y1 y2 y3 y4 y5 y6 y7 y8)) ∧ (∀ y0 y1 y2 y3 y4 y5 y6 y7 y8, LeO (orthoepyref11_may.j2 k y0 y1 y2 y3 y4 y5 y6 y7 y8) (orthoepyref11_may.j2 (k + 1) y0 y1 y2 y3 y4 y5 y6 y7 y8)) ∧ (∀ y0 y1 y2 y3 y4 y5 y6 y7 y8, LeO (orthoepyref11_may.l0 k y0 y1 y2 y3 y4 y5 y6 y7 y8) (orthoepyref11_may.l0 (k + 1) y0 y1 y2 y3 y4 y5 y6 y7 y8))
 | 0 => ⟨fun _ _ _ _ _ _ _ _ _ r h => by simp [orthoepyref11_may.j0] at h, fun _ _ _ _ _ _ _ _ _ r h => by simp [orthoepyref11_may.j2] at h, fun _ _ _ _ _ _ _ _ _ r h => by simp [orthoepyref11_may.l0] at h⟩
 | k + 1 => by
  obtain ⟨ih0, ih1, ih2⟩ := orthoepyref11_may.mono_l k
  refine ⟨?_, ?_, ?_⟩
  · intro y0 y1 y2 y3 y4 y5 y6 y7 y8
    unfold orthoepyref11_may.j0
    repeat' first
    | (with_reducible exact ih0 _ _ _ _ _ _ _ _ _)
    | (with_reducible exact ih1 _ _ _ _ _ _ _ _ _)
    | (with_reducible exact ih2 _ _ _ _ _ _ _ _ _)
    | (with_reducible exact orthoepyref11_has.mono _ _ _ _)
    | (with_reducible exact LeO.refl _)
    | (with_reducible exact LeO.none _)
    | (with_reducible refine LeO.ite ?_ ?_)
    | (with_reducible refine LeO.bind ?_ (fun _ => ?_))
    | exact ih0 _ _ _ _ _ _ _ _ _
    | exact ih1 _ _ _ _ _ _ _ _ _
    | exact ih2 _ _ _ _ _ _ _ _ _
    | exact orthoepyref11_has.mono _ _ _ _
    | exact LeO.none _
    | refine LeO.ite ?_ ?_
    | refine LeO.bind ?_ (fun _ => ?_)
  · intro y0 y1 y2 y3 y4 y5 y6 y7 y8
    unfold orthoepyref11_may.j2
    repeat' first
    | (with_reducible exact ih0 _ _ _ _ _ _ _ _ _)
    | (with_reducible exact ih1 _ _ _ _ _ _ _ _ _)
    | (with_reducible exact ih2 _ _ _ _ _ _ _ _ _)
    | (with_reducible exact orthoepyref11_has.mono _ _ _ _)
    | (with_reducible exact LeO.refl _)
    | (with_reducible exact LeO.none _)
    | (with_reducible refine LeO.ite ?_ ?_)
    | (with_reducible refine LeO.bind ?_ (fun _ => ?_))
    | exact ih0 _ _ _ _ _ _ _ _ _
    | exact ih1 _ _ _ _ _ _ _ _ _
    | exact ih2 _ _ _ _ _ _ _ _ _
    | exact orthoepyref11_has.mono _ _ _ _
    | exact LeO.none _
    | refine LeO.ite ?_ ?_
    | refine LeO.bind ?_ (fun _ => ?_)
  · intro y0 y1 y2 y3 y4 y5 y6 y7 y8
    unfold orthoepyref11_may.l0
    repeat' first
    | (with_reducible exact ih0 _ _ _ _ _ _ _ _ _)
    | (with_reducible exact ih1 _ _ _ _ _ _ _ _ _)
    | (with_reducible exact ih2 _ _ _ _ _ _ _ _ _)
    | (with_reducible exact orthoepyref11_has.mono _ _ _ _)
    | (with_reducible exact LeO.refl _)
    | (with_reducible exact LeO.none _)
    | (with_reducible refine LeO.ite ?_ ?_)
    | (with_reducible refine LeO.bind ?_ (fun _ => ?_))
    | exact ih0 _ _ _ _ _ _ _ _ _
    | exact ih1 _ _ _ _ _ _ _ _ _
    | exact ih2 _ _ _ _ _ _ _ _ _
    | exact orthoepyref11_has.mono _ _ _ _
    | exact LeO.none _
    | refine LeO.ite ?_ ?_
    | refine LeO.bind ?_ (fun _ => ?_)
theorem orthoepyref11_may.mono : ∀ a0 a1 a2 a3 a4 k, LeO (orthoepyref11_may.f k a0 a1 a2 a3 a4) (orthoepyref11_may.f (k + 1) a0 a1 a2 a3 a4) := by
 intro a0 a1 a2 a3 a4 k
 obtain ⟨ih0, ih1, ih2⟩ := orthoepyref11_may.mono_l k
 unfold orthoepyref11_may.f
 repeat' first
  | (with_reducible exact ih0 _ _ _ _ _ _ _ _ _)
  | (with_reducible exact ih1 _ _ _ _ _ _ _ _ _)
  | (with_reducible exact ih2 _ _ _ _ _ _ _ _ _)
  | (with_reducible exact orthoepyref11_has.mono _ _ _ _)
  | (with_reducible exact LeO.refl _)
  | (with_reducible exact LeO.none _)
  | (with_reducible refine LeO.ite ?_ ?_)
  | (with_reducible refine LeO.bind ?_ (fun _ => ?_))
  | exact ih0 _ _ _ _ _ _ _ _ _
  | exact ih1 _ _ _ _ _ _ _ _ _
  | exact ih2 _ _ _ _ _ _ _ _ _
  | exact orthoepyref11_has.mono _ _ _ _
  | exact LeO.none _
  | refine LeO.ite ?_ ?_
  | refine LeO.bind ?_ (fun _ => ?_)
set_option maxHeartbeats 8000000 in
set_option maxRecDepth 100000 in
theorem orthoepyref11_may.calls (k : Nat) (a0_0 : ByteArray) (a0_1 : Int) (a0_2 : Bool) (a0_3 : Int) (a0_4 : ByteArray) (r : Bool) (w : World) (h : orthoepyref11_may.f k a0_0 a0_1 a0_2 a0_3 a0_4 = some r) :
 Calls Tryz.prog 62 #[.agg #[.string a0_0, .int .i64 a0_1, .bool a0_2, .int .u8 a0_3, .string a0_4]] w fun e w' => e = .returned (.bool r) ∧ Below w.heap.size w w' := by
 have hu123 := Tryz.underlying123
 have hu116 := Tryz.underlying116
 have HB := Aside0.mk (Below.refl w.heap.size w)
 have H : ((orthoepyref10_Norm.f false a0_0 (wrap64 (-a0_1))).bind fun bt102 => (if (bt102.2.1.size : Int) = 0 then (some true) else ((orthoepyref10_Int.f false bt102.2.1 0).bind fun bt106 => (if bt106.2 = 0 then (if a0_2 = true then (if a0_3 = 0 then (orthoepyref11_may.j0 k ((a0_4.size : Int) == 0) a0_0 a0_1 a0_2 a0_3 a0_4 bt102.1 bt102.2.1 bt102.2.2) else (orthoepyref11_may.j0 k false a0_0 a0_1 a0_2 a0_3 a0_4 bt102.1 bt102.2.1 bt102.2.2)) else (orthoepyref11_may.j0 k true a0_0 a0_1 a0_2 a0_3 a0_4 bt102.1 bt102.2.1 bt102.2.2)) else (some false))))) = some r := h
 clear h
 replace H := Option.bind_eq_some_iff.mp H
 obtain ⟨⟨t102, t103, t104⟩, A20, H⟩ := H
 replace H : (if (t103.size : Int) = 0 then (some true) else ((orthoepyref10_Int.f false t103 0).bind fun bt106 => (if bt106.2 = 0 then (if a0_2 = true then (if a0_3 = 0 then (orthoepyref11_may.j0 k ((a0_4.size : Int) == 0) a0_0 a0_1 a0_2 a0_3 a0_4 t102 t103 t104) else (orthoepyref11_may.j0 k false a0_0 a0_1 a0_2 a0_3 a0_4 t102 t103 t104)) else (orthoepyref11_may.j0 k true a0_0 a0_1 a0_2 a0_3 a0_4 t102 t103 t104)) else (some false)))) = some r := H
 have A2 := Aside0.mk A20
 clear A20
 by_cases c3 : (t103.size : Int) = 0
 · rw [if_pos c3] at H
   have c3b0 : ((t103.size : Int) == 0) = true := beq_iff_eq.mpr c3
   have c3b1 : ((t103.size : Int) != 0) = false := bne_eq_false_iff_eq.mpr c3
   clear c3
   obtain rfl := Option.some.inj H
   go_enter Tryz.func62, Tryz.ntmps62
   go_wp2_with (first | ((with_reducible refine dQ (N := 1) rfl ?_); (try (refine gate_guard (by rfl) ?_; dsimp only)); refine dH ?hg (N := 1) ?hd (cs := #[.string a0_0, .int .i64 a0_1, .bool a0_2, .int .u8 a0_3, .string a0_4]) (t := 123) ?hr ?_; (case hd => rfl); (case hg => rfl); (case hr => first | (go_simp; done) | (go_simp; rfl)); intro gb101 hg w4 hbox hb; have n0_ := Aside0.mk (bV (by repeat (first | (with_reducible first | exact HB.out | apply aL | apply aI | apply aK) | exact HB.out)) hb); have n1_ := Aside0.mk (hbox); have n2_ := Aside0.mk ((by rw [hg]; exact (bY (by repeat (first | (with_reducible first | exact HB.out | apply aL | apply aI | apply aK) | exact HB.out))) : w.heap.size ≤ gb101)); have n3_ := Aside0.mk ((by rw [hg]; exact (bY (by repeat (first | (with_reducible first | exact HB.out | apply aL | apply aI | apply aK) | exact HB.out))) : w.heap.size ≤ gb101)); clear HB; have HB := n0_; have BK101 := n1_; have GW101 := n2_; have GE101 := n3_; clear n0_ n1_ n2_ n3_; clear hb hbox hg; have y5_0 : w4.cell? ⟨gb101, 0, none⟩ = some (.string a0_0) := (aH BK101.out 0).trans rfl; have y5_1 : w4.cell? ⟨gb101, 1, none⟩ = some (.int .i64 a0_1) := (aH BK101.out 1).trans rfl; have y5_2 : w4.cell? ⟨gb101, 2, none⟩ = some (.bool a0_2) := (aH BK101.out 2).trans rfl; have y5_3 : w4.cell? ⟨gb101, 3, none⟩ = some (.int .u8 a0_3) := (aH BK101.out 3).trans rfl; have y5_4 : w4.cell? ⟨gb101, 4, none⟩ = some (.string a0_4) := (aH BK101.out 4).trans rfl; have z5_0 := aC BK101.out 0; have z5_1 := aC BK101.out 1; have z5_2 := aC BK101.out 2; have z5_3 := aC BK101.out 3; have z5_4 := aC BK101.out 4) | ((with_reducible refine cN (f := 94) rfl ?_); refine fI (some 16) rfl rfl Tryz.func94 (by kernel_rfl) rfl #[.agg #[.bool false, .string a0_0, .int .i64 (wrap64 (-a0_1))]] rfl (by (try simp only [List.map_toArray, List.map_cons, List.map_nil]); first | done | rfl | (simp only [List.length_drop, List.length_take]; rfl)) ?_; (with_reducible refine (orthoepyref10_Norm.calls false a0_0 (wrap64 (-a0_1)) t102 t103 t104 _ A2.out).mono ?_); rintro e w6 ⟨rfl, hb⟩; refine ⟨_, rfl, ?_⟩; have n0_ := Aside0.mk (bW (g := gb101) (o := .cells #[.string a0_0, .int .i64 a0_1, .bool a0_2, .int .u8 a0_3, .string a0_4] 123 (0, 0)) (by (with_reducible repeat (first | refine aD ?_ _ | refine aG ?_ | refine aE ?_ _)); exact BK101.out) hb); have n1_ := Aside0.mk (bV (by repeat (first | (with_reducible first | exact HB.out | apply aL | apply aI | apply aK | refine aM ?_ GE101.out) | exact HB.out)) hb); clear BK101; clear HB; have BK101 := n0_; have HB := n1_; clear n0_ n1_; (try clear hb); (try clear hb2); (try clear hk); (try clear hi)) | ((with_reducible refine dQ (N := 3) rfl ?_); (try (refine gate_guard (by rfl) ?_; dsimp only)); refine dH ?hg (N := 3) ?hd (cs := #[.bool false, .string (⟨#[]⟩ : ByteArray), .int .i64 0]) (t := 116) ?hr ?_; (case hd => rfl); (case hg => rfl); (case hr => first | (go_simp; done) | (go_simp; rfl)); intro gb105 hg w7 hbox hb; have n0_ := Aside0.mk (bW (g := gb101) (o := .cells #[.string a0_0, .int .i64 a0_1, .bool a0_2, .int .u8 a0_3, .string a0_4] 123 (0, 0)) (by (with_reducible repeat (first | refine aD ?_ _ | refine aG ?_ | refine aE ?_ _)); exact BK101.out) hb); have n1_ := Aside0.mk (bV (by repeat (first | (with_reducible first | exact HB.out | apply aL | apply aI | apply aK | refine aM ?_ GE101.out) | exact HB.out)) hb); have n2_ := Aside0.mk (hbox); have n3_ := Aside0.mk ((by rw [hg]; exact (bY (by repeat (first | (with_reducible first | exact HB.out | apply aL | apply aI | apply aK | refine aM ?_ GE101.out) | exact HB.out))) : w.heap.size ≤ gb105)); have n4_ := Aside0.mk ((by rw [hg]; exact (bY (by repeat (first | (with_reducible first | exact HB.out | apply aL | apply aI | apply aK | refine aM ?_ GE101.out) | exact HB.out))) : w.heap.size ≤ gb105)); have n5_ := Aside0.mk ((by rw [hg]; exact Nat.ne_of_lt (eM (g := gb101) (o := .cells #[.string a0_0, .int .i64 a0_1, .bool a0_2, .int .u8 a0_3, .string a0_4] 123 (0, 0)) (by (with_reducible repeat (first | refine aD ?_ _ | refine aG ?_ | refine aE ?_ _)); exact BK101.out)) : gb101 ≠ gb105)); have n6_ := Aside0.mk ((by rw [hg]; exact Nat.ne_of_gt (eM (g := gb101) (o := .cells #[.string a0_0, .int .i64 a0_1, .bool a0_2, .int .u8 a0_3, .string a0_4] 123 (0, 0)) (by (with_reducible repeat (first | refine aD ?_ _ | refine aG ?_ | refine aE ?_ _)); exact BK101.out)) : gb105 ≠ gb101)); clear BK101; clear HB; have BK101 := n0_; have HB := n1_; have BK105 := n2_; have GW105 := n3_; have GE105 := n4_; have NB101_105 := n5_; have NB105_101 := n6_; clear n0_ n1_ n2_ n3_ n4_ n5_ n6_; clear hb hbox hg; have hnb8 := NB105_101.out; have hnc8 := NB101_105.out; have y9_0 : w7.cell? ⟨gb105, 0, none⟩ = some (.bool false) := (aH BK105.out 0).trans rfl; have y9_1 : w7.cell? ⟨gb105, 1, none⟩ = some (.string (⟨#[]⟩ : ByteArray)) := (aH BK105.out 1).trans rfl; have y9_2 : w7.cell? ⟨gb105, 2, none⟩ = some (.int .i64 0) := (aH BK105.out 2).trans rfl; have z9_0 := aC BK105.out 0; have z9_1 := aC BK105.out 1; have z9_2 := aC BK105.out 2))
   go_ret
   exact ⟨by first | rfl | (simp [aT, aS] <;> rfl) | (simp [*, aT, aS] <;> rfl), by repeat (first | (with_reducible first | exact HB.out | apply aL | apply aI | apply aK | refine aM ?_ GE101.out | refine aM ?_ GE105.out) | exact HB.out)⟩
 · rw [if_neg c3] at H
   have c3b0 : ((t103.size : Int) == 0) = false := beq_eq_false_iff_ne.mpr c3
   have c3b1 : ((t103.size : Int) != 0) = true := bne_iff_ne.mpr c3
   replace H := Option.bind_eq_some_iff.mp H
   obtain ⟨⟨t106, t107⟩, A100, H⟩ := H
   replace H : (if t107 = 0 then (if a0_2 = true then (if a0_3 = 0 then (orthoepyref11_may.j0 k ((a0_4.size : Int) == 0) a0_0 a0_1 a0_2 a0_3 a0_4 t102 t103 t104) else (orthoepyref11_may.j0 k false a0_0 a0_1 a0_2 a0_3 a0_4 t102 t103 t104)) else (orthoepyref11_may.j0 k true a0_0 a0_1 a0_2 a0_3 a0_4 t102 t103 t104)) else (some false)) = some r := H
   have A10 := Aside0.mk A100
   clear A100
   by_cases c11 : t107 = 0
   · rw [if_pos c11] at H
     have c11b0 : (t107 == 0) = true := beq_iff_eq.mpr c11
     have c11b1 : (t107 != 0) = false := bne_eq_false_iff_eq.mpr c11
     clear c11
     have HC12 := Aside0.mk H
     clear H
     go_enter Tryz.func62, Tryz.ntmps62
     go_upto_region 7 with (first | ((with_reducible refine dQ (N := 1) rfl ?_); (try (refine gate_guard (by rfl) ?_; dsimp only)); refine dH ?hg (N := 1) ?hd (cs := #[.string a0_0, .int .i64 a0_1, .bool a0_2, .int .u8 a0_3, .string a0_4]) (t := 123) ?hr ?_; (case hd => rfl); (case hg => rfl); (case hr => first | (go_simp; done) | (go_simp; rfl)); intro gb101 hg w13 hbox hb; have n0_ := Aside0.mk (bV (by repeat (first | (with_reducible first | exact HB.out | apply aL | apply aI | apply aK) | exact HB.out)) hb); have n1_ := Aside0.mk (hbox); have n2_ := Aside0.mk ((by rw [hg]; exact (bY (by repeat (first | (with_reducible first | exact HB.out | apply aL | apply aI | apply aK) | exact HB.out))) : w.heap.size ≤ gb101)); have n3_ := Aside0.mk ((by rw [hg]; exact (bY (by repeat (first | (with_reducible first | exact HB.out | apply aL | apply aI | apply aK) | exact HB.out))) : w.heap.size ≤ gb101)); clear HB; have HB := n0_; have BK101 := n1_; have GW101 := n2_; have GE101 := n3_; clear n0_ n1_ n2_ n3_; clear hb hbox hg; have y14_0 : w13.cell? ⟨gb101, 0, none⟩ = some (.string a0_0) := (aH BK101.out 0).trans rfl; have y14_1 : w13.cell? ⟨gb101, 1, none⟩ = some (.int .i64 a0_1) := (aH BK101.out 1).trans rfl; have y14_2 : w13.cell? ⟨gb101, 2, none⟩ = some (.bool a0_2) := (aH BK101.out 2).trans rfl; have y14_3 : w13.cell? ⟨gb101, 3, none⟩ = some (.int .u8 a0_3) := (aH BK101.out 3).trans rfl; have y14_4 : w13.cell? ⟨gb101, 4, none⟩ = some (.string a0_4) := (aH BK101.out 4).trans rfl; have z14_0 := aC BK101.out 0; have z14_1 := aC BK101.out 1; have z14_2 := aC BK101.out 2; have z14_3 := aC BK101.out 3; have z14_4 := aC BK101.out 4) | ((with_reducible refine cN (f := 94) rfl ?_); refine fI (some 16) rfl rfl Tryz.func94 (by kernel_rfl) rfl #[.agg #[.bool false, .string a0_0, .int .i64 (wrap64 (-a0_1))]] rfl (by (try simp only [List.map_toArray, List.map_cons, List.map_nil]); first | done | rfl | (simp only [List.length_drop, List.length_take]; rfl)) ?_; (with_reducible refine (orthoepyref10_Norm.calls false a0_0 (wrap64 (-a0_1)) t102 t103 t104 _ A2.out).mono ?_); rintro e w15 ⟨rfl, hb⟩; refine ⟨_, rfl, ?_⟩; have n0_ := Aside0.mk (bW (g := gb101) (o := .cells #[.string a0_0, .int .i64 a0_1, .bool a0_2, .int .u8 a0_3, .string a0_4] 123 (0, 0)) (by (with_reducible repeat (first | refine aD ?_ _ | refine aG ?_ | refine aE ?_ _)); exact BK101.out) hb); have n1_ := Aside0.mk (bV (by repeat (first | (with_reducible first | exact HB.out | apply aL | apply aI | apply aK | refine aM ?_ GE101.out) | exact HB.out)) hb); clear BK101; clear HB; have BK101 := n0_; have HB := n1_; clear n0_ n1_; (try clear hb); (try clear hb2); (try clear hk); (try clear hi)) | ((with_reducible refine dQ (N := 3) rfl ?_); (try (refine gate_guard (by rfl) ?_; dsimp only)); refine dH ?hg (N := 3) ?hd (cs := #[.bool false, .string (⟨#[]⟩ : ByteArray), .int .i64 0]) (t := 116) ?hr ?_; (case hd => rfl); (case hg => rfl); (case hr => first | (go_simp; done) | (go_simp; rfl)); intro gb105 hg w16 hbox hb; have n0_ := Aside0.mk (bW (g := gb101) (o := .cells #[.string a0_0, .int .i64 a0_1, .bool a0_2, .int .u8 a0_3, .string a0_4] 123 (0, 0)) (by (with_reducible repeat (first | refine aD ?_ _ | refine aG ?_ | refine aE ?_ _)); exact BK101.out) hb); have n1_ := Aside0.mk (bV (by repeat (first | (with_reducible first | exact HB.out | apply aL | apply aI | apply aK | refine aM ?_ GE101.out) | exact HB.out)) hb); have n2_ := Aside0.mk (hbox); have n3_ := Aside0.mk ((by rw [hg]; exact (bY (by repeat (first | (with_reducible first | exact HB.out | apply aL | apply aI | apply aK | refine aM ?_ GE101.out) | exact HB.out))) : w.heap.size ≤ gb105)); have n4_ := Aside0.mk ((by rw [hg]; exact (bY (by repeat (first | (with_reducible first | exact HB.out | apply aL | apply aI | apply aK | refine aM ?_ GE101.out) | exact HB.out))) : w.heap.size ≤ gb105)); have n5_ := Aside0.mk ((by rw [hg]; exact Nat.ne_of_lt (eM (g := gb101) (o := .cells #[.string a0_0, .int .i64 a0_1, .bool a0_2, .int .u8 a0_3, .string a0_4] 123 (0, 0)) (by (with_reducible repeat (first | refine aD ?_ _ | refine aG ?_ | refine aE ?_ _)); exact BK101.out)) : gb101 ≠ gb105)); have n6_ := Aside0.mk ((by rw [hg]; exact Nat.ne_of_gt (eM (g := gb101) (o := .cells #[.string a0_0, .int .i64 a0_1, .bool a0_2, .int .u8 a0_3, .string a0_4] 123 (0, 0)) (by (with_reducible repeat (first | refine aD ?_ _ | refine aG ?_ | refine aE ?_ _)); exact BK101.out)) : gb105 ≠ gb101)); clear BK101; clear HB; have BK101 := n0_; have HB := n1_; have BK105 := n2_; have GW105 := n3_; have GE105 := n4_; have NB101_105 := n5_; have NB105_101 := n6_; clear n0_ n1_ n2_ n3_ n4_ n5_ n6_; clear hb hbox hg; have hnb17 := NB105_101.out; have hnc17 := NB101_105.out; have y18_0 : w16.cell? ⟨gb105, 0, none⟩ = some (.bool false) := (aH BK105.out 0).trans rfl; have y18_1 : w16.cell? ⟨gb105, 1, none⟩ = some (.string (⟨#[]⟩ : ByteArray)) := (aH BK105.out 1).trans rfl; have y18_2 : w16.cell? ⟨gb105, 2, none⟩ = some (.int .i64 0) := (aH BK105.out 2).trans rfl; have z18_0 := aC BK105.out 0; have z18_1 := aC BK105.out 1; have z18_2 := aC BK105.out 2) | ((with_reducible refine cN (f := 69) rfl ?_); refine fI (some 25) rfl rfl Tryz.func69 (by kernel_rfl) rfl #[.agg #[.bool false, .string t103, .int .i64 0]] rfl (by (try simp only [List.map_toArray, List.map_cons, List.map_nil]); first | done | rfl | (simp only [List.length_drop, List.length_take]; rfl)) ?_; (with_reducible refine (orthoepyref10_Int.calls false t103 0 t106 t107 _ A10.out).mono ?_); rintro e w19 ⟨rfl, hb⟩; refine ⟨_, rfl, ?_⟩; have n0_ := Aside0.mk (bW (g := gb101) (o := .cells #[.string a0_0, .int .i64 a0_1, .bool a0_2, .int .u8 a0_3, .string a0_4] 123 (0, 0)) (by (with_reducible repeat (first | refine aD ?_ _ | refine aG ?_ | refine aE ?_ _)); refine bQ ?_ NB101_105.out _; (with_reducible repeat (first | refine aD ?_ _ | refine aG ?_ | refine aE ?_ _)); refine bQ ?_ NB101_105.out _; (with_reducible repeat (first | refine aD ?_ _ | refine aG ?_ | refine aE ?_ _)); refine bQ ?_ NB101_105.out _; (with_reducible repeat (first | refine aD ?_ _ | refine aG ?_ | refine aE ?_ _)); exact BK101.out) hb); have n1_ := Aside0.mk (bW (g := gb105) (o := .cells #[.bool t102, .string t103, .int .i64 t104] 116 (0, 0)) (by (with_reducible repeat (first | refine aD ?_ _ | refine aG ?_ | refine aE ?_ _)); refine aV (cs := #[.bool t102, .string t103, .int .i64 0]) ?_ 2 _ rfl; (with_reducible repeat (first | refine aD ?_ _ | refine aG ?_ | refine aE ?_ _)); refine aV (cs := #[.bool t102, .string (⟨#[]⟩ : ByteArray), .int .i64 0]) ?_ 1 _ rfl; (with_reducible repeat (first | refine aD ?_ _ | refine aG ?_ | refine aE ?_ _)); refine aV (cs := #[.bool false, .string (⟨#[]⟩ : ByteArray), .int .i64 0]) ?_ 0 _ rfl; (with_reducible repeat (first | refine aD ?_ _ | refine aG ?_ | refine aE ?_ _)); exact BK105.out) hb); have n2_ := Aside0.mk (bV (by repeat (first | (with_reducible first | exact HB.out | apply aL | apply aI | apply aK | refine aM ?_ GE101.out | refine aM ?_ GE105.out) | exact HB.out)) hb); clear BK101; clear BK105; clear HB; have BK101 := n0_; have BK105 := n1_; have HB := n2_; clear n0_ n1_ n2_; (try clear hb); (try clear hb2); (try clear hk); (try clear hi)))
     (try simp only [Act.put, sets_])
     go_cut [43] (fun v43 wc => ∃ (kq : Nat) (x43_11 : Bool), v43 = .bool x43_11 ∧ Aside0 (orthoepyref11_may.j0 kq x43_11 a0_0 a0_1 a0_2 a0_3 a0_4 t102 t103 t104 = some r) ∧ Aside0 (kq ≤ k) ∧ Aside0 (wc.heap[gb101]? = some (.cells #[.string a0_0, .int .i64 a0_1, .bool a0_2, .int .u8 a0_3, .string a0_4] 123 (0, 0))) ∧ Aside0 (wc.heap[gb105]? = some (.cells #[.bool t102, .string t103, .int .i64 t104] 116 (0, 0))) ∧ Aside0 (Below w.heap.size w wc))
     case first =>
      have H := HC12.out
      clear HC12
      by_cases c20 : a0_2 = true
      · subst c20
        have H1 : (if a0_3 = 0 then (orthoepyref11_may.j0 k ((a0_4.size : Int) == 0) a0_0 a0_1 true a0_3 a0_4 t102 t103 t104) else (orthoepyref11_may.j0 k false a0_0 a0_1 true a0_3 a0_4 t102 t103 t104)) = some r := by rw [if_pos rfl] at H; exact H
        clear H
        have H := H1
        clear H1
        by_cases c21 : a0_3 = 0
        · rw [if_pos c21] at H
          have c21b0 : (a0_3 == 0) = true := beq_iff_eq.mpr c21
          have c21b1 : (a0_3 != 0) = false := bne_eq_false_iff_eq.mpr c21
          clear c21
          (first | rw [c21b0] | (simp only [bR, bU]; rw [c21b0]) | skip)
          have H' := Aside0.mk H
          clear H
          have hnb22 := NB101_105.out
          have hnc22 := NB105_101.out
          have y23_0 : w19.cell? ⟨gb101, 0, none⟩ = some (.string a0_0) := (aH BK101.out 0).trans rfl
          have y23_1 : w19.cell? ⟨gb101, 1, none⟩ = some (.int .i64 a0_1) := (aH BK101.out 1).trans rfl
          have y23_2 : w19.cell? ⟨gb101, 2, none⟩ = some (.bool true) := (aH BK101.out 2).trans rfl
          have y23_3 : w19.cell? ⟨gb101, 3, none⟩ = some (.int .u8 a0_3) := (aH BK101.out 3).trans rfl
          have y23_4 : w19.cell? ⟨gb101, 4, none⟩ = some (.string a0_4) := (aH BK101.out 4).trans rfl
          have z23_0 := aC BK101.out 0
          have z23_1 := aC BK101.out 1
          have z23_2 := aC BK101.out 2
          have z23_3 := aC BK101.out 3
          have z23_4 := aC BK101.out 4
          go_wp2
          go_meet
          case rel => exact ⟨_, (((a0_4.size : Int) == 0)), (by first | rfl | (simp; done) | (simp [*]; done)), H', ⟨by first | omega | exact Nat.le_refl _⟩, ⟨by (with_reducible repeat (first | refine aD ?_ _ | refine aG ?_ | refine aE ?_ _)); exact BK101.out⟩, ⟨by (with_reducible repeat (first | refine aD ?_ _ | refine aG ?_ | refine aE ?_ _)); exact BK105.out⟩, ⟨by repeat (first | (with_reducible first | exact HB.out | apply aL | apply aI | apply aK | refine aM ?_ GE101.out | refine aM ?_ GE105.out) | exact HB.out)⟩⟩
        · rw [if_neg c21] at H
          have c21b0 : (a0_3 == 0) = false := beq_eq_false_iff_ne.mpr c21
          have c21b1 : (a0_3 != 0) = true := bne_iff_ne.mpr c21
          (first | rw [c21b0] | (simp only [bR, bU]; rw [c21b0]) | skip)
          have H' := Aside0.mk H
          clear H
          have hnb24 := NB101_105.out
          have hnc24 := NB105_101.out
          have y25_0 : w19.cell? ⟨gb101, 0, none⟩ = some (.string a0_0) := (aH BK101.out 0).trans rfl
          have y25_1 : w19.cell? ⟨gb101, 1, none⟩ = some (.int .i64 a0_1) := (aH BK101.out 1).trans rfl
          have y25_2 : w19.cell? ⟨gb101, 2, none⟩ = some (.bool true) := (aH BK101.out 2).trans rfl
          have y25_3 : w19.cell? ⟨gb101, 3, none⟩ = some (.int .u8 a0_3) := (aH BK101.out 3).trans rfl
          have y25_4 : w19.cell? ⟨gb101, 4, none⟩ = some (.string a0_4) := (aH BK101.out 4).trans rfl
          have z25_0 := aC BK101.out 0
          have z25_1 := aC BK101.out 1
          have z25_2 := aC BK101.out 2
          have z25_3 := aC BK101.out 3
          have z25_4 := aC BK101.out 4
          go_wp2
          go_meet
          case rel => exact ⟨_, (false), (by first | rfl | (simp; done) | (simp [*]; done)), H', ⟨by first | omega | exact Nat.le_refl _⟩, ⟨by (with_reducible repeat (first | refine aD ?_ _ | refine aG ?_ | refine aE ?_ _)); exact BK101.out⟩, ⟨by (with_reducible repeat (first | refine aD ?_ _ | refine aG ?_ | refine aE ?_ _)); exact BK105.out⟩, ⟨by repeat (first | (with_reducible first | exact HB.out | apply aL | apply aI | apply aK | refine aM ?_ GE101.out | refine aM ?_ GE105.out) | exact HB.out)⟩⟩
      · replace c20 := Bool.eq_false_iff.mpr c20
        subst c20
        have H1 : (orthoepyref11_may.j0 k true a0_0 a0_1 false a0_3 a0_4 t102 t103 t104) = some r := by rw [if_neg (show ¬ (false = true) by decide)] at H; exact H
        clear H
        have H := H1
        clear H1
        have H' := Aside0.mk H
        clear H
        have hnb26 := NB101_105.out
        have hnc26 := NB105_101.out
        have y27_0 : w19.cell? ⟨gb101, 0, none⟩ = some (.string a0_0) := (aH BK101.out 0).trans rfl
        have y27_1 : w19.cell? ⟨gb101, 1, none⟩ = some (.int .i64 a0_1) := (aH BK101.out 1).trans rfl
        have y27_2 : w19.cell? ⟨gb101, 2, none⟩ = some (.bool false) := (aH BK101.out 2).trans rfl
        have y27_3 : w19.cell? ⟨gb101, 3, none⟩ = some (.int .u8 a0_3) := (aH BK101.out 3).trans rfl
        have y27_4 : w19.cell? ⟨gb101, 4, none⟩ = some (.string a0_4) := (aH BK101.out 4).trans rfl
        have z27_0 := aC BK101.out 0
        have z27_1 := aC BK101.out 1
        have z27_2 := aC BK101.out 2
        have z27_3 := aC BK101.out 3
        have z27_4 := aC BK101.out 4
        go_wp2
        go_meet
        case rel => exact ⟨_, (true), (by first | rfl | (simp; done) | (simp [*]; done)), H', ⟨by first | omega | exact Nat.le_refl _⟩, ⟨by (with_reducible repeat (first | refine aD ?_ _ | refine aG ?_ | refine aE ?_ _)); exact BK101.out⟩, ⟨by (with_reducible repeat (first | refine aD ?_ _ | refine aG ?_ | refine aE ?_ _)); exact BK105.out⟩, ⟨by repeat (first | (with_reducible first | exact HB.out | apply aL | apply aI | apply aK | refine aM ?_ GE101.out | refine aM ?_ GE105.out) | exact HB.out)⟩⟩
     case rest =>
      clear HC12
      try clear c1
      try clear c2
      try clear p2
      try clear c3
      try clear c3b0
      try clear c3b1
      try clear c6
      try clear p6
      try clear c8
      try clear c9
      try clear c11
      try clear c11b0
      try clear c11b1
      try clear c17
      try clear c20
      try clear c21
      try clear c21b0
      try clear c21b1
      try clear c22
      try clear c24
      try clear c26
      try clear y14_0
      try clear y14_1
      try clear y14_2
      try clear y14_3
      try clear y14_4
      try clear y18_0
      try clear y18_1
      try clear y18_2
      try clear y23_0
      try clear y23_1
      try clear y23_2
      try clear y23_3
      try clear y23_4
      try clear y25_0
      try clear y25_1
      try clear y25_2
      try clear y25_3
      try clear y25_4
      try clear y27_0
      try clear y27_1
      try clear y27_2
      try clear y27_3
      try clear y27_4
      try clear y5_0
      try clear y5_1
      try clear y5_2
      try clear y5_3
      try clear y5_4
      try clear y9_0
      try clear y9_1
      try clear y9_2
      try clear z14_0
      try clear z14_1
      try clear z14_2
      try clear z14_3
      try clear z14_4
      try clear z18_0
      try clear z18_1
      try clear z18_2
      try clear z23_0
      try clear z23_1
      try clear z23_2
      try clear z23_3
      try clear z23_4
      try clear z25_0
      try clear z25_1
      try clear z25_2
      try clear z25_3
      try clear z25_4
      try clear z27_0
      try clear z27_1
      try clear z27_2
      try clear z27_3
      try clear z27_4
      try clear z5_0
      try clear z5_1
      try clear z5_2
      try clear z5_3
      try clear z5_4
      try clear z9_0
      try clear z9_1
      try clear z9_2
      obtain ⟨kq, x43_11, rfl, HA, HJ11, BK101, BK105, HB⟩ := hcut
      cases kq with
      | zero => exact absurd HA.out (by simp [orthoepyref11_may.j0])
      | succ kj11 =>
       have H := HA.out
       clear HA
       simp only [orthoepyref11_may.j0] at H
       by_cases c28 : x43_11 = true
       · subst c28
         have H1 : (some true) = some r := by rw [if_pos rfl] at H; exact H
         clear H
         have H := H1
         clear H1
         obtain rfl := Option.some.inj H
         go_wp2
         go_ret
         exact ⟨by first | rfl | (simp [aT, aS] <;> rfl) | (simp [*, aT, aS] <;> rfl), by repeat (first | (with_reducible first | exact HB.out | apply aL | apply aI | apply aK | refine aM ?_ GE101.out | refine aM ?_ GE105.out) | exact HB.out)⟩
       · replace c28 := Bool.eq_false_iff.mpr c28
         subst c28
         have H1 : (orthoepyref11_may.l0 kj11 0 a0_0 a0_1 a0_2 a0_3 a0_4 t102 t103 t104) = some r := by rw [if_neg (show ¬ (false = true) by decide)] at H; exact H
         clear H
         have H := H1
         clear H1
         have HC29 := Aside0.mk H
         clear H
         go_upto_block 0 with (fail)
         go_cut [6] (fun v6 wc => ∃ (kq : Nat) (x6_28 : Int), v6 = .int .i64 x6_28 ∧ Aside0 (orthoepyref11_may.j2 kq x6_28 a0_0 a0_1 a0_2 a0_3 a0_4 t102 t103 t104 = some r) ∧ Aside0 (kq ≤ kj11) ∧ Aside0 (wc.heap[gb101]? = some (.cells #[.string a0_0, .int .i64 a0_1, .bool a0_2, .int .u8 a0_3, .string a0_4] 123 (0, 0))) ∧ Aside0 (wc.heap[gb105]? = some (.cells #[.bool t102, .string t103, .int .i64 t104] 116 (0, 0))) ∧ Aside0 (Below w.heap.size w wc))
         case first =>
          have H := HC29.out
          clear HC29
          have H' := Aside0.mk H
          clear H
          go_wp2
          go_loopg [6] kj11 (fun kq v6 w' => ∃ (x6_2 : Int), v6 = .int .i64 x6_2 ∧ Aside0 (orthoepyref11_may.l0 kq x6_2 a0_0 a0_1 a0_2 a0_3 a0_4 t102 t103 t104 = some r) ∧ Aside0 (kq ≤ kj11) ∧ Aside0 (w'.heap[gb101]? = some (.cells #[.string a0_0, .int .i64 a0_1, .bool a0_2, .int .u8 a0_3, .string a0_4] 123 (0, 0))) ∧ Aside0 (w'.heap[gb105]? = some (.cells #[.bool t102, .string t103, .int .i64 t104] 116 (0, 0))) ∧ Aside0 (Below w.heap.size w w'))
          case atStart => exact ⟨(0), (by first | rfl | (simp; done) | (simp [*]; done)), H', ⟨Nat.le_refl _⟩, ⟨by (with_reducible repeat (first | refine aD ?_ _ | refine aG ?_ | refine aE ?_ _)); exact BK101.out⟩, ⟨by (with_reducible repeat (first | refine aD ?_ _ | refine aG ?_ | refine aE ?_ _)); exact BK105.out⟩, ⟨by repeat (first | (with_reducible first | exact HB.out | apply aL | apply aI | apply aK | refine aM ?_ GE101.out | refine aM ?_ GE105.out) | exact HB.out)⟩⟩
          case round =>
           clear H'
           try clear c1
           try clear c2
           try clear p2
           try clear c3
           try clear c3b0
           try clear c3b1
           try clear c6
           try clear p6
           try clear c8
           try clear c9
           try clear c11
           try clear c11b0
           try clear c11b1
           try clear c17
           try clear c20
           try clear c21
           try clear c21b0
           try clear c21b1
           try clear c22
           try clear c24
           try clear c26
           try clear c28
           try clear y14_0
           try clear y14_1
           try clear y14_2
           try clear y14_3
           try clear y14_4
           try clear y18_0
           try clear y18_1
           try clear y18_2
           try clear y23_0
           try clear y23_1
           try clear y23_2
           try clear y23_3
           try clear y23_4
           try clear y25_0
           try clear y25_1
           try clear y25_2
           try clear y25_3
           try clear y25_4
           try clear y27_0
           try clear y27_1
           try clear y27_2
           try clear y27_3
           try clear y27_4
           try clear y5_0
           try clear y5_1
           try clear y5_2
           try clear y5_3
           try clear y5_4
           try clear y9_0
           try clear y9_1
           try clear y9_2
           try clear z14_0
           try clear z14_1
           try clear z14_2
           try clear z14_3
           try clear z14_4
           try clear z18_0
           try clear z18_1
           try clear z18_2
           try clear z23_0
           try clear z23_1
           try clear z23_2
           try clear z23_3
           try clear z23_4
           try clear z25_0
           try clear z25_1
           try clear z25_2
           try clear z25_3
           try clear z25_4
           try clear z27_0
           try clear z27_1
           try clear z27_2
           try clear z27_3
           try clear z27_4
           try clear z5_0
           try clear z5_1
           try clear z5_2
           try clear z5_3
           try clear z5_4
           try clear z9_0
           try clear z9_1
           try clear z9_2
           try clear p2
           try clear p6
           obtain ⟨x6_2, rfl, HA, HK2, BK101, BK105, HB⟩ := hrel
           cases gk with
           | zero => exact absurd HA.out (by simp [orthoepyref11_may.l0])
           | succ k2 =>
            have H := HA.out
            clear HA
            simp only [orthoepyref11_may.l0] at H
            by_cases c30 : x6_2 < 16
            · rw [if_pos c30] at H
              have c30b0 : decide (x6_2 < 16) = true := decide_eq_true c30
              clear c30
              (first | rw [c30b0] | (simp only [bR, bU]; rw [c30b0]) | skip)
              replace H := Option.bind_eq_some_iff.mp H
              obtain ⟨⟨t108, t109⟩, A310, H⟩ := H
              replace H : (if t109 = 0 then (orthoepyref11_may.l0 k2 (wrap64 (x6_2 + 1)) a0_0 a0_1 a0_2 a0_3 a0_4 t102 t103 t104) else (orthoepyref11_may.j2 k2 x6_2 a0_0 a0_1 a0_2 a0_3 a0_4 t102 t103 t104)) = some r := H
              have A31 := Aside0.mk A310
              clear A310
              by_cases c32 : t109 = 0
              · rw [if_pos c32] at H
                have c32b0 : (t109 == 0) = true := beq_iff_eq.mpr c32
                have c32b1 : (t109 != 0) = false := bne_eq_false_iff_eq.mpr c32
                clear c32
                have H' := Aside0.mk H
                clear H
                have hnb33 := NB105_101.out
                have hnc33 := NB101_105.out
                have y34_0 : wr.cell? ⟨gb105, 0, none⟩ = some (.bool t102) := (aH BK105.out 0).trans rfl
                have y34_1 : wr.cell? ⟨gb105, 1, none⟩ = some (.string t103) := (aH BK105.out 1).trans rfl
                have y34_2 : wr.cell? ⟨gb105, 2, none⟩ = some (.int .i64 t104) := (aH BK105.out 2).trans rfl
                have z34_0 := aC BK105.out 0
                have z34_1 := aC BK105.out 1
                have z34_2 := aC BK105.out 2
                go_wp2_with (first | ((with_reducible refine cN (f := 69) rfl ?_); refine fI (some 52) rfl rfl Tryz.func69 (by kernel_rfl) rfl #[.agg #[.bool false, .string t103, .int .i64 (wrap64 (x6_2 + 1))]] rfl (by (try simp only [List.map_toArray, List.map_cons, List.map_nil]); first | done | rfl | (simp only [List.length_drop, List.length_take]; rfl)) ?_; (with_reducible refine (orthoepyref10_Int.calls false t103 (wrap64 (x6_2 + 1)) t108 t109 _ A31.out).mono ?_); rintro e w35 ⟨rfl, hb⟩; refine ⟨_, rfl, ?_⟩; have n0_ := Aside0.mk (bW (g := gb101) (o := .cells #[.string a0_0, .int .i64 a0_1, .bool a0_2, .int .u8 a0_3, .string a0_4] 123 (0, 0)) (by (with_reducible repeat (first | refine aD ?_ _ | refine aG ?_ | refine aE ?_ _)); exact BK101.out) hb); have n1_ := Aside0.mk (bW (g := gb105) (o := .cells #[.bool t102, .string t103, .int .i64 t104] 116 (0, 0)) (by (with_reducible repeat (first | refine aD ?_ _ | refine aG ?_ | refine aE ?_ _)); exact BK105.out) hb); have n2_ := Aside0.mk (bV (by repeat (first | (with_reducible first | exact HB.out | apply aL | apply aI | apply aK | refine aM ?_ GE101.out | refine aM ?_ GE105.out) | exact HB.out)) hb); clear BK101; clear BK105; clear HB; have BK101 := n0_; have BK105 := n1_; have HB := n2_; clear n0_ n1_ n2_; (try clear hb); (try clear hb2); (try clear hk); (try clear hi)))
                go_roundg k2
                case measure => have := HJ11.out; have := HK2.out; omega
                case rel => exact ⟨(wrap64 (x6_2 + 1)), (by first | rfl | (simp; done) | (simp [*]; done)), H', ⟨by have := HJ11.out; have := HK2.out; omega⟩, ⟨by (with_reducible repeat (first | refine aD ?_ _ | refine aG ?_ | refine aE ?_ _)); exact BK101.out⟩, ⟨by (with_reducible repeat (first | refine aD ?_ _ | refine aG ?_ | refine aE ?_ _)); exact BK105.out⟩, ⟨by repeat (first | (with_reducible first | exact HB.out | apply aL | apply aI | apply aK | refine aM ?_ GE101.out | refine aM ?_ GE105.out) | exact HB.out)⟩⟩
              · rw [if_neg c32] at H
                have c32b0 : (t109 == 0) = false := beq_eq_false_iff_ne.mpr c32
                have c32b1 : (t109 != 0) = true := bne_iff_ne.mpr c32
                have H' := Aside0.mk H
                clear H
                have hnb36 := NB105_101.out
                have hnc36 := NB101_105.out
                have y37_0 : wr.cell? ⟨gb105, 0, none⟩ = some (.bool t102) := (aH BK105.out 0).trans rfl
                have y37_1 : wr.cell? ⟨gb105, 1, none⟩ = some (.string t103) := (aH BK105.out 1).trans rfl
                have y37_2 : wr.cell? ⟨gb105, 2, none⟩ = some (.int .i64 t104) := (aH BK105.out 2).trans rfl
                have z37_0 := aC BK105.out 0
                have z37_1 := aC BK105.out 1
                have z37_2 := aC BK105.out 2
                go_wp2_with (first | ((with_reducible refine cN (f := 69) rfl ?_); refine fI (some 52) rfl rfl Tryz.func69 (by kernel_rfl) rfl #[.agg #[.bool false, .string t103, .int .i64 (wrap64 (x6_2 + 1))]] rfl (by (try simp only [List.map_toArray, List.map_cons, List.map_nil]); first | done | rfl | (simp only [List.length_drop, List.length_take]; rfl)) ?_; (with_reducible refine (orthoepyref10_Int.calls false t103 (wrap64 (x6_2 + 1)) t108 t109 _ A31.out).mono ?_); rintro e w38 ⟨rfl, hb⟩; refine ⟨_, rfl, ?_⟩; have n0_ := Aside0.mk (bW (g := gb101) (o := .cells #[.string a0_0, .int .i64 a0_1, .bool a0_2, .int .u8 a0_3, .string a0_4] 123 (0, 0)) (by (with_reducible repeat (first | refine aD ?_ _ | refine aG ?_ | refine aE ?_ _)); exact BK101.out) hb); have n1_ := Aside0.mk (bW (g := gb105) (o := .cells #[.bool t102, .string t103, .int .i64 t104] 116 (0, 0)) (by (with_reducible repeat (first | refine aD ?_ _ | refine aG ?_ | refine aE ?_ _)); exact BK105.out) hb); have n2_ := Aside0.mk (bV (by repeat (first | (with_reducible first | exact HB.out | apply aL | apply aI | apply aK | refine aM ?_ GE101.out | refine aM ?_ GE105.out) | exact HB.out)) hb); clear BK101; clear BK105; clear HB; have BK101 := n0_; have BK105 := n1_; have HB := n2_; clear n0_ n1_ n2_; (try clear hb); (try clear hb2); (try clear hk); (try clear hi)))
                go_meet
                case rel => exact ⟨_, (x6_2), (by first | rfl | (simp; done) | (simp [*]; done)), H', ⟨by have := HJ11.out; have := HK2.out; first | omega | exact Nat.le_refl _⟩, ⟨by (with_reducible repeat (first | refine aD ?_ _ | refine aG ?_ | refine aE ?_ _)); exact BK101.out⟩, ⟨by (with_reducible repeat (first | refine aD ?_ _ | refine aG ?_ | refine aE ?_ _)); exact BK105.out⟩, ⟨by repeat (first | (with_reducible first | exact HB.out | apply aL | apply aI | apply aK | refine aM ?_ GE101.out | refine aM ?_ GE105.out) | exact HB.out)⟩⟩
            · rw [if_neg c30] at H
              have c30b0 : decide (x6_2 < 16) = false := decide_eq_false c30
              clear c30
              (first | rw [c30b0] | (simp only [bR, bU]; rw [c30b0]) | skip)
              have H' := Aside0.mk H
              clear H
              go_wp2
              go_meet
              case rel => exact ⟨_, (x6_2), (by first | rfl | (simp; done) | (simp [*]; done)), H', ⟨by have := HJ11.out; have := HK2.out; first | omega | exact Nat.le_refl _⟩, ⟨by (with_reducible repeat (first | refine aD ?_ _ | refine aG ?_ | refine aE ?_ _)); exact BK101.out⟩, ⟨by (with_reducible repeat (first | refine aD ?_ _ | refine aG ?_ | refine aE ?_ _)); exact BK105.out⟩, ⟨by repeat (first | (with_reducible first | exact HB.out | apply aL | apply aI | apply aK | refine aM ?_ GE101.out | refine aM ?_ GE105.out) | exact HB.out)⟩⟩
         case rest =>
          clear HC29
          try clear c1
          try clear c2
          try clear p2
          try clear c3
          try clear c3b0
          try clear c3b1
          try clear c6
          try clear p6
          try clear c8
          try clear c9
          try clear c11
          try clear c11b0
          try clear c11b1
          try clear c17
          try clear c20
          try clear c21
          try clear c21b0
          try clear c21b1
          try clear c22
          try clear c24
          try clear c26
          try clear c28
          try clear c30
          try clear c30b0
          try clear c32
          try clear c32b0
          try clear c32b1
          try clear c33
          try clear c36
          try clear y14_0
          try clear y14_1
          try clear y14_2
          try clear y14_3
          try clear y14_4
          try clear y18_0
          try clear y18_1
          try clear y18_2
          try clear y23_0
          try clear y23_1
          try clear y23_2
          try clear y23_3
          try clear y23_4
          try clear y25_0
          try clear y25_1
          try clear y25_2
          try clear y25_3
          try clear y25_4
          try clear y27_0
          try clear y27_1
          try clear y27_2
          try clear y27_3
          try clear y27_4
          try clear y34_0
          try clear y34_1
          try clear y34_2
          try clear y37_0
          try clear y37_1
          try clear y37_2
          try clear y5_0
          try clear y5_1
          try clear y5_2
          try clear y5_3
          try clear y5_4
          try clear y9_0
          try clear y9_1
          try clear y9_2
          try clear z14_0
          try clear z14_1
          try clear z14_2
          try clear z14_3
          try clear z14_4
          try clear z18_0
          try clear z18_1
          try clear z18_2
          try clear z23_0
          try clear z23_1
          try clear z23_2
          try clear z23_3
          try clear z23_4
          try clear z25_0
          try clear z25_1
          try clear z25_2
          try clear z25_3
          try clear z25_4
          try clear z27_0
          try clear z27_1
          try clear z27_2
          try clear z27_3
          try clear z27_4
          try clear z34_0
          try clear z34_1
          try clear z34_2
          try clear z37_0
          try clear z37_1
          try clear z37_2
          try clear z5_0
          try clear z5_1
          try clear z5_2
          try clear z5_3
          try clear z5_4
          try clear z9_0
          try clear z9_1
          try clear z9_2
          try clear p2
          try clear p6
          obtain ⟨kq, x6_28, rfl, HA, HJ28, BK101, BK105, HB⟩ := hcut
          cases kq with
          | zero => exact absurd HA.out (by simp [orthoepyref11_may.j2])
          | succ kj28 =>
           have H := HA.out
           clear HA
           simp only [orthoepyref11_may.j2] at H
           by_cases c39 : a0_3 = 45
           · rw [if_pos c39] at H
             have c39b0 : (a0_3 == 45) = true := beq_iff_eq.mpr c39
             have c39b1 : (a0_3 != 45) = false := bne_eq_false_iff_eq.mpr c39
             clear c39
             replace H := Option.bind_eq_some_iff.mp H
             obtain ⟨t110, A400, H⟩ := H
             replace H : (some t110) = some r := H
             have A40 := Aside0.mk A400
             clear A400
             obtain rfl := Option.some.inj H
             have hnb41 := NB105_101.out
             have hnc41 := NB101_105.out
             have y42_0 : wc.cell? ⟨gb105, 0, none⟩ = some (.bool t102) := (aH BK105.out 0).trans rfl
             have y42_1 : wc.cell? ⟨gb105, 1, none⟩ = some (.string t103) := (aH BK105.out 1).trans rfl
             have y42_2 : wc.cell? ⟨gb105, 2, none⟩ = some (.int .i64 t104) := (aH BK105.out 2).trans rfl
             have z42_0 := aC BK105.out 0
             have z42_1 := aC BK105.out 1
             have z42_2 := aC BK105.out 2
             have y43_0 : wc.cell? ⟨gb101, 0, none⟩ = some (.string a0_0) := (aH BK101.out 0).trans rfl
             have y43_1 : wc.cell? ⟨gb101, 1, none⟩ = some (.int .i64 a0_1) := (aH BK101.out 1).trans rfl
             have y43_2 : wc.cell? ⟨gb101, 2, none⟩ = some (.bool a0_2) := (aH BK101.out 2).trans rfl
             have y43_3 : wc.cell? ⟨gb101, 3, none⟩ = some (.int .u8 a0_3) := (aH BK101.out 3).trans rfl
             have y43_4 : wc.cell? ⟨gb101, 4, none⟩ = some (.string a0_4) := (aH BK101.out 4).trans rfl
             have z43_0 := aC BK101.out 0
             have z43_1 := aC BK101.out 1
             have z43_2 := aC BK101.out 2
             have z43_3 := aC BK101.out 3
             have z43_4 := aC BK101.out 4
             go_wp2_with (first | ((with_reducible refine cN (f := 95) rfl ?_); refine fI (some 73) rfl rfl Tryz.func95 (by kernel_rfl) rfl #[.string a0_4, .int .i64 (wrap64 ((wrap64 (-(wrap64 (-t104)))) - x6_28)), .int .i64 (wrap64 (-(wrap64 (-t104))))] rfl (by (try simp only [List.map_toArray, List.map_cons, List.map_nil]); first | done | rfl | (simp only [List.length_drop, List.length_take]; rfl)) ?_; (with_reducible refine (orthoepyref11_has.calls kj28 a0_4 (wrap64 ((wrap64 (-(wrap64 (-t104)))) - x6_28)) (wrap64 (-(wrap64 (-t104)))) t110 _ A40.out).mono ?_); rintro e w44 ⟨rfl, hb⟩; refine ⟨_, rfl, ?_⟩; have n0_ := Aside0.mk (bW (g := gb101) (o := .cells #[.string a0_0, .int .i64 a0_1, .bool a0_2, .int .u8 a0_3, .string a0_4] 123 (0, 0)) (by (with_reducible repeat (first | refine aD ?_ _ | refine aG ?_ | refine aE ?_ _)); exact BK101.out) hb); have n1_ := Aside0.mk (bW (g := gb105) (o := .cells #[.bool t102, .string t103, .int .i64 t104] 116 (0, 0)) (by (with_reducible repeat (first | refine aD ?_ _ | refine aG ?_ | refine aE ?_ _)); exact BK105.out) hb); have n2_ := Aside0.mk (bV (by repeat (first | (with_reducible first | exact HB.out | apply aL | apply aI | apply aK | refine aM ?_ GE101.out | refine aM ?_ GE105.out) | exact HB.out)) hb); clear BK101; clear BK105; clear HB; have BK101 := n0_; have BK105 := n1_; have HB := n2_; clear n0_ n1_ n2_; (try clear hb); (try clear hb2); (try clear hk); (try clear hi)))
             go_ret
             exact ⟨by first | rfl | (simp [aT, aS] <;> rfl) | (simp [*, aT, aS] <;> rfl), by repeat (first | (with_reducible first | exact HB.out | apply aL | apply aI | apply aK | refine aM ?_ GE101.out | refine aM ?_ GE105.out) | exact HB.out)⟩
           · rw [if_neg c39] at H
             have c39b0 : (a0_3 == 45) = false := beq_eq_false_iff_ne.mpr c39
             have c39b1 : (a0_3 != 45) = true := bne_iff_ne.mpr c39
             replace H := Option.bind_eq_some_iff.mp H
             obtain ⟨t111, A450, H⟩ := H
             replace H : (some t111) = some r := H
             have A45 := Aside0.mk A450
             clear A450
             obtain rfl := Option.some.inj H
             have hnb46 := NB105_101.out
             have hnc46 := NB101_105.out
             have y47_0 : wc.cell? ⟨gb105, 0, none⟩ = some (.bool t102) := (aH BK105.out 0).trans rfl
             have y47_1 : wc.cell? ⟨gb105, 1, none⟩ = some (.string t103) := (aH BK105.out 1).trans rfl
             have y47_2 : wc.cell? ⟨gb105, 2, none⟩ = some (.int .i64 t104) := (aH BK105.out 2).trans rfl
             have z47_0 := aC BK105.out 0
             have z47_1 := aC BK105.out 1
             have z47_2 := aC BK105.out 2
             have y48_0 : wc.cell? ⟨gb101, 0, none⟩ = some (.string a0_0) := (aH BK101.out 0).trans rfl
             have y48_1 : wc.cell? ⟨gb101, 1, none⟩ = some (.int .i64 a0_1) := (aH BK101.out 1).trans rfl
             have y48_2 : wc.cell? ⟨gb101, 2, none⟩ = some (.bool a0_2) := (aH BK101.out 2).trans rfl
             have y48_3 : wc.cell? ⟨gb101, 3, none⟩ = some (.int .u8 a0_3) := (aH BK101.out 3).trans rfl
             have y48_4 : wc.cell? ⟨gb101, 4, none⟩ = some (.string a0_4) := (aH BK101.out 4).trans rfl
             have z48_0 := aC BK101.out 0
             have z48_1 := aC BK101.out 1
             have z48_2 := aC BK101.out 2
             have z48_3 := aC BK101.out 3
             have z48_4 := aC BK101.out 4
             go_wp2_with (first | ((with_reducible refine cN (f := 95) rfl ?_); refine fI (some 80) rfl rfl Tryz.func95 (by kernel_rfl) rfl #[.string a0_4, .int .i64 (wrap64 (-t104)), .int .i64 (wrap64 ((wrap64 (-t104)) + x6_28))] rfl (by (try simp only [List.map_toArray, List.map_cons, List.map_nil]); first | done | rfl | (simp only [List.length_drop, List.length_take]; rfl)) ?_; (with_reducible refine (orthoepyref11_has.calls kj28 a0_4 (wrap64 (-t104)) (wrap64 ((wrap64 (-t104)) + x6_28)) t111 _ A45.out).mono ?_); rintro e w49 ⟨rfl, hb⟩; refine ⟨_, rfl, ?_⟩; have n0_ := Aside0.mk (bW (g := gb101) (o := .cells #[.string a0_0, .int .i64 a0_1, .bool a0_2, .int .u8 a0_3, .string a0_4] 123 (0, 0)) (by (with_reducible repeat (first | refine aD ?_ _ | refine aG ?_ | refine aE ?_ _)); exact BK101.out) hb); have n1_ := Aside0.mk (bW (g := gb105) (o := .cells #[.bool t102, .string t103, .int .i64 t104] 116 (0, 0)) (by (with_reducible repeat (first | refine aD ?_ _ | refine aG ?_ | refine aE ?_ _)); exact BK105.out) hb); have n2_ := Aside0.mk (bV (by repeat (first | (with_reducible first | exact HB.out | apply aL | apply aI | apply aK | refine aM ?_ GE101.out | refine aM ?_ GE105.out) | exact HB.out)) hb); clear BK101; clear BK105; clear HB; have BK101 := n0_; have BK105 := n1_; have HB := n2_; clear n0_ n1_ n2_; (try clear hb); (try clear hb2); (try clear hk); (try clear hi)))
             go_ret
             exact ⟨by first | rfl | (simp [aT, aS] <;> rfl) | (simp [*, aT, aS] <;> rfl), by repeat (first | (with_reducible first | exact HB.out | apply aL | apply aI | apply aK | refine aM ?_ GE101.out | refine aM ?_ GE105.out) | exact HB.out)⟩
   · rw [if_neg c11] at H
     have c11b0 : (t107 == 0) = false := beq_eq_false_iff_ne.mpr c11
     have c11b1 : (t107 != 0) = true := bne_iff_ne.mpr c11
     obtain rfl := Option.some.inj H
     go_enter Tryz.func62, Tryz.ntmps62
     go_wp2_with (first | ((with_reducible refine dQ (N := 1) rfl ?_); (try (refine gate_guard (by rfl) ?_; dsimp only)); refine dH ?hg (N := 1) ?hd (cs := #[.string a0_0, .int .i64 a0_1, .bool a0_2, .int .u8 a0_3, .string a0_4]) (t := 123) ?hr ?_; (case hd => rfl); (case hg => rfl); (case hr => first | (go_simp; done) | (go_simp; rfl)); intro gb101 hg w50 hbox hb; have n0_ := Aside0.mk (bV (by repeat (first | (with_reducible first | exact HB.out | apply aL | apply aI | apply aK) | exact HB.out)) hb); have n1_ := Aside0.mk (hbox); have n2_ := Aside0.mk ((by rw [hg]; exact (bY (by repeat (first | (with_reducible first | exact HB.out | apply aL | apply aI | apply aK) | exact HB.out))) : w.heap.size ≤ gb101)); have n3_ := Aside0.mk ((by rw [hg]; exact (bY (by repeat (first | (with_reducible first | exact HB.out | apply aL | apply aI | apply aK) | exact HB.out))) : w.heap.size ≤ gb101)); clear HB; have HB := n0_; have BK101 := n1_; have GW101 := n2_; have GE101 := n3_; clear n0_ n1_ n2_ n3_; clear hb hbox hg; have y51_0 : w50.cell? ⟨gb101, 0, none⟩ = some (.string a0_0) := (aH BK101.out 0).trans rfl; have y51_1 : w50.cell? ⟨gb101, 1, none⟩ = some (.int .i64 a0_1) := (aH BK101.out 1).trans rfl; have y51_2 : w50.cell? ⟨gb101, 2, none⟩ = some (.bool a0_2) := (aH BK101.out 2).trans rfl; have y51_3 : w50.cell? ⟨gb101, 3, none⟩ = some (.int .u8 a0_3) := (aH BK101.out 3).trans rfl; have y51_4 : w50.cell? ⟨gb101, 4, none⟩ = some (.string a0_4) := (aH BK101.out 4).trans rfl; have z51_0 := aC BK101.out 0; have z51_1 := aC BK101.out 1; have z51_2 := aC BK101.out 2; have z51_3 := aC BK101.out 3; have z51_4 := aC BK101.out 4) | ((with_reducible refine cN (f := 94) rfl ?_); refine fI (some 16) rfl rfl Tryz.func94 (by kernel_rfl) rfl #[.agg #[.bool false, .string a0_0, .int .i64 (wrap64 (-a0_1))]] rfl (by (try simp only [List.map_toArray, List.map_cons, List.map_nil]); first | done | rfl | (simp only [List.length_drop, List.length_take]; rfl)) ?_; (with_reducible refine (orthoepyref10_Norm.calls false a0_0 (wrap64 (-a0_1)) t102 t103 t104 _ A2.out).mono ?_); rintro e w52 ⟨rfl, hb⟩; refine ⟨_, rfl, ?_⟩; have n0_ := Aside0.mk (bW (g := gb101) (o := .cells #[.string a0_0, .int .i64 a0_1, .bool a0_2, .int .u8 a0_3, .string a0_4] 123 (0, 0)) (by (with_reducible repeat (first | refine aD ?_ _ | refine aG ?_ | refine aE ?_ _)); exact BK101.out) hb); have n1_ := Aside0.mk (bV (by repeat (first | (with_reducible first | exact HB.out | apply aL | apply aI | apply aK | refine aM ?_ GE101.out) | exact HB.out)) hb); clear BK101; clear HB; have BK101 := n0_; have HB := n1_; clear n0_ n1_; (try clear hb); (try clear hb2); (try clear hk); (try clear hi)) | ((with_reducible refine dQ (N := 3) rfl ?_); (try (refine gate_guard (by rfl) ?_; dsimp only)); refine dH ?hg (N := 3) ?hd (cs := #[.bool false, .string (⟨#[]⟩ : ByteArray), .int .i64 0]) (t := 116) ?hr ?_; (case hd => rfl); (case hg => rfl); (case hr => first | (go_simp; done) | (go_simp; rfl)); intro gb105 hg w53 hbox hb; have n0_ := Aside0.mk (bW (g := gb101) (o := .cells #[.string a0_0, .int .i64 a0_1, .bool a0_2, .int .u8 a0_3, .string a0_4] 123 (0, 0)) (by (with_reducible repeat (first | refine aD ?_ _ | refine aG ?_ | refine aE ?_ _)); exact BK101.out) hb); have n1_ := Aside0.mk (bV (by repeat (first | (with_reducible first | exact HB.out | apply aL | apply aI | apply aK | refine aM ?_ GE101.out) | exact HB.out)) hb); have n2_ := Aside0.mk (hbox); have n3_ := Aside0.mk ((by rw [hg]; exact (bY (by repeat (first | (with_reducible first | exact HB.out | apply aL | apply aI | apply aK | refine aM ?_ GE101.out) | exact HB.out))) : w.heap.size ≤ gb105)); have n4_ := Aside0.mk ((by rw [hg]; exact (bY (by repeat (first | (with_reducible first | exact HB.out | apply aL | apply aI | apply aK | refine aM ?_ GE101.out) | exact HB.out))) : w.heap.size ≤ gb105)); have n5_ := Aside0.mk ((by rw [hg]; exact Nat.ne_of_lt (eM (g := gb101) (o := .cells #[.string a0_0, .int .i64 a0_1, .bool a0_2, .int .u8 a0_3, .string a0_4] 123 (0, 0)) (by (with_reducible repeat (first | refine aD ?_ _ | refine aG ?_ | refine aE ?_ _)); exact BK101.out)) : gb101 ≠ gb105)); have n6_ := Aside0.mk ((by rw [hg]; exact Nat.ne_of_gt (eM (g := gb101) (o := .cells #[.string a0_0, .int .i64 a0_1, .bool a0_2, .int .u8 a0_3, .string a0_4] 123 (0, 0)) (by (with_reducible repeat (first | refine aD ?_ _ | refine aG ?_ | refine aE ?_ _)); exact BK101.out)) : gb105 ≠ gb101)); clear BK101; clear HB; have BK101 := n0_; have HB := n1_; have BK105 := n2_; have GW105 := n3_; have GE105 := n4_; have NB101_105 := n5_; have NB105_101 := n6_; clear n0_ n1_ n2_ n3_ n4_ n5_ n6_; clear hb hbox hg; have hnb54 := NB105_101.out; have hnc54 := NB101_105.out; have y55_0 : w53.cell? ⟨gb105, 0, none⟩ = some (.bool false) := (aH BK105.out 0).trans rfl; have y55_1 : w53.cell? ⟨gb105, 1, none⟩ = some (.string (⟨#[]⟩ : ByteArray)) := (aH BK105.out 1).trans rfl; have y55_2 : w53.cell? ⟨gb105, 2, none⟩ = some (.int .i64 0) := (aH BK105.out 2).trans rfl; have z55_0 := aC BK105.out 0; have z55_1 := aC BK105.out 1; have z55_2 := aC BK105.out 2) | ((with_reducible refine cN (f := 69) rfl ?_); refine fI (some 25) rfl rfl Tryz.func69 (by kernel_rfl) rfl #[.agg #[.bool false, .string t103, .int .i64 0]] rfl (by (try simp only [List.map_toArray, List.map_cons, List.map_nil]); first | done | rfl | (simp only [List.length_drop, List.length_take]; rfl)) ?_; (with_reducible refine (orthoepyref10_Int.calls false t103 0 t106 t107 _ A10.out).mono ?_); rintro e w56 ⟨rfl, hb⟩; refine ⟨_, rfl, ?_⟩; have n0_ := Aside0.mk (bW (g := gb101) (o := .cells #[.string a0_0, .int .i64 a0_1, .bool a0_2, .int .u8 a0_3, .string a0_4] 123 (0, 0)) (by (with_reducible repeat (first | refine aD ?_ _ | refine aG ?_ | refine aE ?_ _)); refine bQ ?_ NB101_105.out _; (with_reducible repeat (first | refine aD ?_ _ | refine aG ?_ | refine aE ?_ _)); refine bQ ?_ NB101_105.out _; (with_reducible repeat (first | refine aD ?_ _ | refine aG ?_ | refine aE ?_ _)); refine bQ ?_ NB101_105.out _; (with_reducible repeat (first | refine aD ?_ _ | refine aG ?_ | refine aE ?_ _)); exact BK101.out) hb); have n1_ := Aside0.mk (bW (g := gb105) (o := .cells #[.bool t102, .string t103, .int .i64 t104] 116 (0, 0)) (by (with_reducible repeat (first | refine aD ?_ _ | refine aG ?_ | refine aE ?_ _)); refine aV (cs := #[.bool t102, .string t103, .int .i64 0]) ?_ 2 _ rfl; (with_reducible repeat (first | refine aD ?_ _ | refine aG ?_ | refine aE ?_ _)); refine aV (cs := #[.bool t102, .string (⟨#[]⟩ : ByteArray), .int .i64 0]) ?_ 1 _ rfl; (with_reducible repeat (first | refine aD ?_ _ | refine aG ?_ | refine aE ?_ _)); refine aV (cs := #[.bool false, .string (⟨#[]⟩ : ByteArray), .int .i64 0]) ?_ 0 _ rfl; (with_reducible repeat (first | refine aD ?_ _ | refine aG ?_ | refine aE ?_ _)); exact BK105.out) hb); have n2_ := Aside0.mk (bV (by repeat (first | (with_reducible first | exact HB.out | apply aL | apply aI | apply aK | refine aM ?_ GE101.out | refine aM ?_ GE105.out) | exact HB.out)) hb); clear BK101; clear BK105; clear HB; have BK101 := n0_; have BK105 := n1_; have HB := n2_; clear n0_ n1_ n2_; (try clear hb); (try clear hb2); (try clear hk); (try clear hi)))
     go_ret
     exact ⟨by first | rfl | (simp [aT, aS] <;> rfl) | (simp [*, aT, aS] <;> rfl), by repeat (first | (with_reducible first | exact HB.out | apply aL | apply aI | apply aK | refine aM ?_ GE101.out | refine aM ?_ GE105.out) | exact HB.out)⟩
def orthoepyref11_stands.l0 : Nat → ByteArray → Option (ByteArray)
 | 0, _ => none
 | k + 1, x0 => if (x0.size : Int) > 0 then (if 0 ≤ (wrap64 ((x0.size : Int) - 1)) then (if (wrap64 ((x0.size : Int) - 1)) < (x0.size : Int) then (if (bt x0 (wrap64 ((x0.size : Int) - 1))) < 48 then (if (wrap64 ((x0.size : Int) - 1)) ≤ (x0.size : Int) then (orthoepyref11_stands.l0 k (x0.extract 0 ((wrap64 ((x0.size : Int) - 1)) : Int).toNat)) else (none)) else (if (bt x0 (wrap64 ((x0.size : Int) - 1))) > 57 then (if (wrap64 ((x0.size : Int) - 1)) ≤ (x0.size : Int) then (orthoepyref11_stands.l0 k (x0.extract 0 ((wrap64 ((x0.size : Int) - 1)) : Int).toNat)) else (none)) else (some x0))) else (none)) else (none)) else (some x0)
def orthoepyref11_stands.f (k : Nat) (a0 : ByteArray) : Option (ByteArray) := orthoepyref11_stands.l0 k a0
theorem orthoepyref11_stands.mono_l : ∀ k, (∀ y0, LeO (orthoepyref11_stands.l0 k y0) (orthoepyref11_stands.l0 (k + 1) y0))
 | 0 => fun _ r h => by simp [orthoepyref11_stands.l0] at h
 | k + 1 => by
  have ih0 := orthoepyref11_stands.mono_l k
  · intro y0
    unfold orthoepyref11_stands.l0
    repeat' first
    | (with_reducible exact ih0 _)
    | (with_reducible exact LeO.refl _)
    | (with_reducible exact LeO.none _)
    | (with_reducible refine LeO.ite ?_ ?_)
    | (with_reducible refine LeO.bind ?_ (fun _ => ?_))
    | exact ih0 _
    | exact LeO.none _
    | refine LeO.ite ?_ ?_
    | refine LeO.bind ?_ (fun _ => ?_)
theorem orthoepyref11_stands.mono : ∀ a0 k, LeO (orthoepyref11_stands.f k a0) (orthoepyref11_stands.f (k + 1) a0) := by
 intro a0 k
 have ih0 := orthoepyref11_stands.mono_l k
 unfold orthoepyref11_stands.f
 repeat' first
  | (with_reducible exact ih0 _)
  | (with_reducible exact LeO.refl _)
  | (with_reducible exact LeO.none _)
  | (with_reducible refine LeO.ite ?_ ?_)
  | (with_reducible refine LeO.bind ?_ (fun _ => ?_))
  | exact ih0 _
  | exact LeO.none _
  | refine LeO.ite ?_ ?_
  | refine LeO.bind ?_ (fun _ => ?_)
set_option maxHeartbeats 8000000 in
set_option maxRecDepth 100000 in
theorem orthoepyref11_stands.calls (k : Nat) (a0 : ByteArray) (r : ByteArray) (w : World) (h : orthoepyref11_stands.f k a0 = some r) :
 Calls Tryz.prog 64 #[.string a0] w fun e w' => e = .returned (.string r) ∧ Drawn0 w w' := by
 have H : (orthoepyref11_stands.l0 k a0) = some r := h
 clear h
 have H' := Aside0.mk H
 clear H
 go_enter Tryz.func64, Tryz.ntmps64
 go_wp2
 go_loopg [0] k (fun kq v0 w' => ∃ (x0_1 : ByteArray), v0 = .string x0_1 ∧ Aside0 (orthoepyref11_stands.l0 kq x0_1 = some r) ∧ Aside0 (kq ≤ k) ∧ Drawn0 w w')
 case atStart => exact ⟨(a0), (by first | rfl | (simp; done) | (simp [*]; done)), H', ⟨Nat.le_refl _⟩, by repeat (first | exact Drawn0.refl _ | apply Drawn0.step)⟩
 case round =>
  clear H'
  obtain ⟨x0_1, rfl, HA, HK1, ⟨m1, rfl⟩⟩ := hrel
  cases gk with
  | zero => exact absurd HA.out (by simp [orthoepyref11_stands.l0])
  | succ k1 =>
   have H := HA.out
   clear HA
   simp only [orthoepyref11_stands.l0] at H
   by_cases c2 : (x0_1.size : Int) > 0
   · rw [if_pos c2] at H
     have c2b0 : decide (0 < (x0_1.size : Int)) = true := decide_eq_true c2
     have c2b1 : decide (0 < x0_1.size) = true := decide_eq_true (by omega)
     clear c2
     obtain ⟨ji3, hji3⟩ : ∃ j_ : Int, (wrap64 ((x0_1.size : Int) - 1)) = j_ := ⟨_, rfl⟩
     replace H : (if 0 ≤ (ji3) then (if (ji3) < (x0_1.size : Int) then (if (bt x0_1 (ji3)) < 48 then (if (ji3) ≤ (x0_1.size : Int) then (orthoepyref11_stands.l0 k1 (x0_1.extract 0 ((ji3) : Int).toNat)) else (none)) else (if (bt x0_1 (ji3)) > 57 then (if (ji3) ≤ (x0_1.size : Int) then (orthoepyref11_stands.l0 k1 (x0_1.extract 0 ((ji3) : Int).toNat)) else (none)) else (some x0_1))) else (none)) else (none)) = some r := by first | (rw [hji3] at H; exact H) | (simp only [hji3] at H ⊢; exact H)
     have hji3w : (IntKind.i64.wrap ((x0_1.size : Int) - 1)) = ji3 := (bR _).trans hji3
     by_cases c4 : 0 ≤ (ji3)
     · rw [if_pos c4] at H
       have c4b0 : decide (0 ≤ (ji3)) = true := decide_eq_true c4
       clear c4
       by_cases c5 : (ji3) < (x0_1.size : Int)
       · rw [if_pos c5] at H
         have c5b0 : decide ((ji3) < (x0_1.size : Int)) = true := decide_eq_true c5
         clear c5
         by_cases c7 : (bt x0_1 (ji3)) < 48
         · rw [if_pos c7] at H
           have c7b0 : decide ((bt x0_1 (ji3)) < 48) = true := decide_eq_true c7
           clear c7
           have c8b0 := eq_true (of_decide_eq_true (by first | (with_reducible assumption) | assumption) : 0 ≤ (ji3))
           by_cases c9 : (ji3) ≤ (x0_1.size : Int)
           · rw [if_pos c9] at H
             have c9b0 := eq_true c9
             have c9b1 : decide ((ji3) ≤ (x0_1.size : Int)) = true := decide_eq_true c9
             clear c9
             have H' := Aside0.mk H
             clear H
             have p6 : 0 ≤ ((ji3) : Int) := of_decide_eq_true (by first | (with_reducible assumption) | assumption)
             have q6 : (ji3) < (x0_1.size : Int) := of_decide_eq_true (by first | (with_reducible assumption) | assumption)
             have hx6 := cH x0_1 (ji3)
             replace p6 := eq_true p6
             replace q6 := eq_true q6
             go_wp2
             go_roundg k1
             case measure => have := HK1.out; omega
             case rel => exact ⟨(x0_1.extract 0 ((ji3) : Int).toNat), (by first | rfl | (simp; done) | (simp only [← hji3] <;> (first | rfl | simp)) | (simp [*]; done)), H', ⟨by have := HK1.out; omega⟩, by repeat (first | exact Drawn0.refl _ | apply Drawn0.step)⟩
           · rw [if_neg c9] at H
             exact absurd H (by simp)
         · rw [if_neg c7] at H
           have c7b0 : decide ((bt x0_1 (ji3)) < 48) = false := decide_eq_false c7
           clear c7
           by_cases c11 : (bt x0_1 (ji3)) > 57
           · rw [if_pos c11] at H
             have c11b0 : decide (57 < (bt x0_1 (ji3))) = true := decide_eq_true c11
             clear c11
             have c12b0 := eq_true (of_decide_eq_true (by first | (with_reducible assumption) | assumption) : 0 ≤ (ji3))
             by_cases c13 : (ji3) ≤ (x0_1.size : Int)
             · rw [if_pos c13] at H
               have c13b0 := eq_true c13
               have c13b1 : decide ((ji3) ≤ (x0_1.size : Int)) = true := decide_eq_true c13
               clear c13
               have H' := Aside0.mk H
               clear H
               have p6 : 0 ≤ ((ji3) : Int) := of_decide_eq_true (by first | (with_reducible assumption) | assumption)
               have q6 : (ji3) < (x0_1.size : Int) := of_decide_eq_true (by first | (with_reducible assumption) | assumption)
               have hx6 := cH x0_1 (ji3)
               replace p6 := eq_true p6
               replace q6 := eq_true q6
               have p10 : 0 ≤ ((ji3) : Int) := of_decide_eq_true (by first | (with_reducible assumption) | assumption)
               have q10 : (ji3) < (x0_1.size : Int) := of_decide_eq_true (by first | (with_reducible assumption) | assumption)
               have hx10 := cH x0_1 (ji3)
               replace p10 := eq_true p10
               replace q10 := eq_true q10
               go_wp2
               go_roundg k1
               case measure => have := HK1.out; omega
               case rel => exact ⟨(x0_1.extract 0 ((ji3) : Int).toNat), (by first | rfl | (simp; done) | (simp only [← hji3] <;> (first | rfl | simp)) | (simp [*]; done)), H', ⟨by have := HK1.out; omega⟩, by repeat (first | exact Drawn0.refl _ | apply Drawn0.step)⟩
             · rw [if_neg c13] at H
               exact absurd H (by simp)
           · rw [if_neg c11] at H
             have c11b0 : decide (57 < (bt x0_1 (ji3))) = false := decide_eq_false c11
             clear c11
             obtain rfl := Option.some.inj H
             have p6 : 0 ≤ ((ji3) : Int) := of_decide_eq_true (by first | (with_reducible assumption) | assumption)
             have q6 : (ji3) < (x0_1.size : Int) := of_decide_eq_true (by first | (with_reducible assumption) | assumption)
             have hx6 := cH x0_1 (ji3)
             replace p6 := eq_true p6
             replace q6 := eq_true q6
             have p10 : 0 ≤ ((ji3) : Int) := of_decide_eq_true (by first | (with_reducible assumption) | assumption)
             have q10 : (ji3) < (x0_1.size : Int) := of_decide_eq_true (by first | (with_reducible assumption) | assumption)
             have hx10 := cH x0_1 (ji3)
             replace p10 := eq_true p10
             replace q10 := eq_true q10
             go_wp2
             go_ret
             exact ⟨by first | rfl | (simp; done) | (simp only [← hji3] <;> (first | rfl | simp)) | (simp [*]; done), by repeat (first | exact Drawn0.refl _ | apply Drawn0.step)⟩
       · rw [if_neg c5] at H
         exact absurd H (by simp)
     · rw [if_neg c4] at H
       exact absurd H (by simp)
   · rw [if_neg c2] at H
     have c2b0 : decide (0 < (x0_1.size : Int)) = false := decide_eq_false c2
     have c2b1 : decide (0 < x0_1.size) = false := decide_eq_false (by omega)
     clear c2
     obtain rfl := Option.some.inj H
     go_wp2
     go_ret
     exact ⟨by first | rfl | (simp; done) | (simp [*]; done), by repeat (first | exact Drawn0.refl _ | apply Drawn0.step)⟩
def orthoepyref10_Read.f (a0 : ByteArray) : Option (Bool × ByteArray × Int × Bool) := if a0.size ≤ 100000000000 then some (((Dig.read a0.data.toList).getD Dig.zero).neg, str ((Dig.read a0.data.toList).getD Dig.zero).d, ((Dig.read a0.data.toList).getD Dig.zero).e, (Dig.read a0.data.toList).isSome) else none
theorem orthoepyref10_Read.calls (a0 : ByteArray) (r1 : Bool) (r2 : ByteArray) (r3 : Int) (r4 : Bool) (w : World) (h : orthoepyref10_Read.f a0 = some (r1, r2, r3, r4)) :
 Calls Tryz.prog 63 #[.string a0] w fun e w' => e = .returned (.tuple #[.agg #[.bool r1, .string r2, .int .i64 r3], .bool r4]) ∧ Below w.heap.size w w' := by
 unfold orthoepyref10_Read.f at h
 split at h
 · rename_i hi
   cases h
   have := gG a0.data.toList w (by rw [← Lib.size_eq]; exact hi)
   rw [← vF] at this
   exact this.mono fun _ _ h => ⟨h.1, h.2.below⟩
 · cases h
end Go.Proofs.YthdncmagfgoboaaGreatDoor.XN1
