/- Printed by program out of the translation. Not trusted: Lean checks it. -/
import Derived.Test.YtcpfooceadgccaaDoorXDC0
namespace Go.Proofs.YtcpfooceadgccaaDoor.XDC
open Go.RowKit Go.Proofs.YtcpfooceadgccaaDoorW.PrintWords Go.Proofs.YtcpfooceadgccaaDoorW.PrintLast Go.Proofs.YtcpfooceadgccaaDoorW.PrintMore
attribute [local go_sem] max2_int min2_int max_two min_two max_three min_three max_four min_four   -- for this text's walks alone
set_option linter.unusedVariables false
set_option linter.unusedSimpArgs false

/-! ### digits_Norm: function 24 -/
def digits_Norm.f (a0_0 : Bool) (a0_1 : ByteArray) (a0_2 : Int) : Option (Bool × ByteArray × Int) := if In a0_1 a0_2 then some ((Dig.norm (DD a0_0 a0_1 a0_2)).neg, str (Dig.norm (DD a0_0 a0_1 a0_2)).d, (Dig.norm (DD a0_0 a0_1 a0_2)).e) else none
theorem digits_Norm.calls (a0_0 : Bool) (a0_1 : ByteArray) (a0_2 : Int) (r1 : Bool) (r2 : ByteArray) (r3 : Int) (w : World) (h : digits_Norm.f a0_0 a0_1 a0_2 = some (r1, r2, r3)) :
    Calls Tryd.prog 24 #[.agg #[.bool a0_0, .string a0_1, .int .i64 a0_2]] w fun e w' => e = .returned (.agg #[.bool r1, .string r2, .int .i64 r3]) ∧ Below w.heap.size w w' := by
  unfold digits_Norm.f at h
  split at h
  · rename_i hi
    cases h
    rw [← dec_DD]
    exact (pnorm_any (DD a0_0 a0_1 a0_2) w (by rw [DD_len]; exact hi.1) hi.2.1 hi.2.2).mono fun _ _ h => ⟨h.1, h.2.below⟩
  · cases h

/-! ### digits_size: function 48 -/
def digits_size.f (a0_0 : Bool) (a0_1 : ByteArray) (a0_2 : Int) (a1_0 : Bool) (a1_1 : ByteArray) (a1_2 : Int) : Option Int := if (a0_1.size ≤ 1000000000000 ∧ a0_2 ≤ 2000000000000 ∧ -2000000000000 ≤ a0_2) ∧ (a1_1.size ≤ 1000000000000 ∧ a1_2 ≤ 2000000000000 ∧ -2000000000000 ≤ a1_2) then some (Dig.psize (DD a0_0 a0_1 a0_2) (DD a1_0 a1_1 a1_2)) else none
theorem digits_size.calls (a0_0 : Bool) (a0_1 : ByteArray) (a0_2 : Int) (a1_0 : Bool) (a1_1 : ByteArray) (a1_2 : Int) (r : Int) (w : World) (h : digits_size.f a0_0 a0_1 a0_2 a1_0 a1_1 a1_2 = some r) :
    Calls Tryd.prog 48 #[.agg #[.bool a0_0, .string a0_1, .int .i64 a0_2], .agg #[.bool a1_0, .string a1_1, .int .i64 a1_2]] w fun e w' => e = .returned (.int .i64 r) ∧ Below w.heap.size w w' := by
  unfold digits_size.f at h
  split at h
  · rename_i hi
    cases h
    rw [← dec_DD, ← dec_DD]
    exact (psize_any (DD a0_0 a0_1 a0_2) (DD a1_0 a1_1 a1_2) w (by rw [DD_len]; exact hi.1.1) hi.1.2.1 hi.1.2.2 (by rw [DD_len]; exact hi.2.1) hi.2.2.1 hi.2.2.2).mono fun _ _ h => ⟨h.1, h.2.below⟩
  · cases h

/-! ### digits_Cmp: function 26 -/
def digits_Cmp.j0 : Nat → Bool → Bool → ByteArray → Int → Bool → ByteArray → Int → Option (Int)
  | 0, _, _, _, _, _, _, _ => none
  | k + 1, x9, x102000, x102001, x102002, x103000, x103001, x103002 => if x9 = true then ((digits_size.f x103000 x103001 x103002 x102000 x102001 x102002).bind fun t109 => (some t109)) else (if x102000 = true then (some (-1)) else (if x103000 = true then (some 1) else ((digits_size.f x102000 x102001 x102002 x103000 x103001 x103002).bind fun t110 => (some t110))))
def digits_Cmp.f (k : Nat) (a0_0 : Bool) (a0_1 : ByteArray) (a0_2 : Int) (a1_0 : Bool) (a1_1 : ByteArray) (a1_2 : Int) : Option (Int) := (digits_Norm.f a0_0 a0_1 a0_2).bind fun bt103 => ((digits_Norm.f a1_0 a1_1 a1_2).bind fun bt106 => (if bt103.1 = true then (digits_Cmp.j0 k bt106.1 bt103.1 bt103.2.1 bt103.2.2 bt106.1 bt106.2.1 bt106.2.2) else (digits_Cmp.j0 k false bt103.1 bt103.2.1 bt103.2.2 bt106.1 bt106.2.1 bt106.2.2)))
theorem digits_Cmp.mono_l : ∀ k, (∀ y0 y1 y2 y3 y4 y5 y6, LeO (digits_Cmp.j0 k y0 y1 y2 y3 y4 y5 y6) (digits_Cmp.j0 (k + 1) y0 y1 y2 y3 y4 y5 y6))
  | 0 => fun _ _ _ _ _ _ _ r h => by simp [digits_Cmp.j0] at h
  | k + 1 => by
    have ih0 := digits_Cmp.mono_l k
    · intro y0 y1 y2 y3 y4 y5 y6
      unfold digits_Cmp.j0
      repeat' first
      | (with_reducible exact ih0 _ _ _ _ _ _ _)
      | (with_reducible exact LeO.refl _)
      | (with_reducible exact LeO.none _)
      | (with_reducible refine LeO.ite ?_ ?_)
      | (with_reducible refine LeO.bind ?_ (fun _ => ?_))
      | exact ih0 _ _ _ _ _ _ _
      | exact LeO.none _
      | refine LeO.ite ?_ ?_
      | refine LeO.bind ?_ (fun _ => ?_)
theorem digits_Cmp.mono : ∀ a0 a1 a2 a3 a4 a5 k, LeO (digits_Cmp.f k a0 a1 a2 a3 a4 a5) (digits_Cmp.f (k + 1) a0 a1 a2 a3 a4 a5) := by
  intro a0 a1 a2 a3 a4 a5 k
  have ih0 := digits_Cmp.mono_l k
  unfold digits_Cmp.f
  repeat' first
      | (with_reducible exact ih0 _ _ _ _ _ _ _)
      | (with_reducible exact LeO.refl _)
      | (with_reducible exact LeO.none _)
      | (with_reducible refine LeO.ite ?_ ?_)
      | (with_reducible refine LeO.bind ?_ (fun _ => ?_))
      | exact ih0 _ _ _ _ _ _ _
      | exact LeO.none _
      | refine LeO.ite ?_ ?_
      | refine LeO.bind ?_ (fun _ => ?_)
set_option maxHeartbeats 8000000 in
set_option maxRecDepth 100000 in
theorem digits_Cmp.calls (k : Nat) (a0_0 : Bool) (a0_1 : ByteArray) (a0_2 : Int) (a1_0 : Bool) (a1_1 : ByteArray) (a1_2 : Int) (r : Int) (w : World) (h : digits_Cmp.f k a0_0 a0_1 a0_2 a1_0 a1_1 a1_2 = some r) :
    Calls Tryd.prog 26 #[.agg #[.bool a0_0, .string a0_1, .int .i64 a0_2], .agg #[.bool a1_0, .string a1_1, .int .i64 a1_2]] w fun e w' => e = .returned (.int .i64 r) ∧ Below w.heap.size w w' := by
  have hu23 := Tryd.underlying23
  have HB := Aside0.mk (Below.refl w.heap.size w)
  have H : ((digits_Norm.f a0_0 a0_1 a0_2).bind fun bt103 => ((digits_Norm.f a1_0 a1_1 a1_2).bind fun bt106 => (if bt103.1 = true then (digits_Cmp.j0 k bt106.1 bt103.1 bt103.2.1 bt103.2.2 bt106.1 bt106.2.1 bt106.2.2) else (digits_Cmp.j0 k false bt103.1 bt103.2.1 bt103.2.2 bt106.1 bt106.2.1 bt106.2.2)))) = some r := h
  clear h
  replace H := Option.bind_eq_some_iff.mp H
  obtain ⟨⟨t103, t104, t105⟩, A30, H⟩ := H
  replace H : ((digits_Norm.f a1_0 a1_1 a1_2).bind fun bt106 => (if t103 = true then (digits_Cmp.j0 k bt106.1 t103 t104 t105 bt106.1 bt106.2.1 bt106.2.2) else (digits_Cmp.j0 k false t103 t104 t105 bt106.1 bt106.2.1 bt106.2.2))) = some r := H
  have A3 := Aside0.mk A30
  clear A30
  replace H := Option.bind_eq_some_iff.mp H
  obtain ⟨⟨t106, t107, t108⟩, A40, H⟩ := H
  replace H : (if t103 = true then (digits_Cmp.j0 k t106 t103 t104 t105 t106 t107 t108) else (digits_Cmp.j0 k false t103 t104 t105 t106 t107 t108)) = some r := H
  have A4 := Aside0.mk A40
  clear A40
  have HC5 := Aside0.mk H
  clear H
  go_enter Tryd.func26, Tryd.ntmps26
  try go_wp2_with (first | ((with_reducible refine gate_dst (N := 2) rfl ?_); refine box_event ?hg (N := 2) ?hd (cs := #[.bool a0_0, .string a0_1, .int .i64 a0_2]) (t := 23) ?hr ?_; (case hd => rfl); (case hg => rfl); (case hr => first | (go_simp; done) | (go_simp; rfl)); intro gb101 hg w6 hbox hb; have n0_ := Aside0.mk (below_step (by repeat (first | (with_reducible first | exact HB.out | apply below_alloc | apply pw_below_drewN | apply below_drew1) | exact HB.out)) hb); have n1_ := Aside0.mk (hbox); have n2_ := Aside0.mk ((by rw [hg]; exact (below_size (by repeat (first | (with_reducible first | exact HB.out | apply below_alloc | apply pw_below_drewN | apply below_drew1) | exact HB.out))) : w.heap.size ≤ gb101)); have n3_ := Aside0.mk ((by rw [hg]; exact (below_size (by repeat (first | (with_reducible first | exact HB.out | apply below_alloc | apply pw_below_drewN | apply below_drew1) | exact HB.out))) : w.heap.size ≤ gb101)); clear HB; have HB := n0_; have BK101 := n1_; have GW101 := n2_; have GE101 := n3_; clear n0_ n1_ n2_ n3_; clear hb hbox hg) | ((with_reducible refine gate_dst (N := 3) rfl ?_); refine box_event ?hg (N := 3) ?hd (cs := #[.bool a1_0, .string a1_1, .int .i64 a1_2]) (t := 23) ?hr ?_; (case hd => rfl); (case hg => rfl); (case hr => first | (go_simp; done) | (go_simp; rfl)); intro gb102 hg w7 hbox hb; have n0_ := Aside0.mk (blk_below (g := gb101) (o := .cells #[.bool a0_0, .string a0_1, .int .i64 a0_2] 23 (0, 0)) (by (with_reducible repeat (first | refine blk_drewN ?_ _ | refine blk_drew ?_ | refine blk_alloc ?_ _)); exact BK101.out) hb); have n1_ := Aside0.mk (below_step (by repeat (first | (with_reducible first | exact HB.out | apply below_alloc | apply pw_below_drewN | apply below_drew1 | refine below_set ?_ GE101.out) | exact HB.out)) hb); have n2_ := Aside0.mk (hbox); have n3_ := Aside0.mk ((by rw [hg]; exact (below_size (by repeat (first | (with_reducible first | exact HB.out | apply below_alloc | apply pw_below_drewN | apply below_drew1 | refine below_set ?_ GE101.out) | exact HB.out))) : w.heap.size ≤ gb102)); have n4_ := Aside0.mk ((by rw [hg]; exact (below_size (by repeat (first | (with_reducible first | exact HB.out | apply below_alloc | apply pw_below_drewN | apply below_drew1 | refine below_set ?_ GE101.out) | exact HB.out))) : w.heap.size ≤ gb102)); have n5_ := Aside0.mk ((by rw [hg]; exact Nat.ne_of_lt (blk_lt (g := gb101) (o := .cells #[.bool a0_0, .string a0_1, .int .i64 a0_2] 23 (0, 0)) (by (with_reducible repeat (first | refine blk_drewN ?_ _ | refine blk_drew ?_ | refine blk_alloc ?_ _)); exact BK101.out)) : gb101 ≠ gb102)); have n6_ := Aside0.mk ((by rw [hg]; exact Nat.ne_of_gt (blk_lt (g := gb101) (o := .cells #[.bool a0_0, .string a0_1, .int .i64 a0_2] 23 (0, 0)) (by (with_reducible repeat (first | refine blk_drewN ?_ _ | refine blk_drew ?_ | refine blk_alloc ?_ _)); exact BK101.out)) : gb102 ≠ gb101)); clear BK101; clear HB; have BK101 := n0_; have HB := n1_; have BK102 := n2_; have GW102 := n3_; have GE102 := n4_; have NB101_102 := n5_; have NB102_101 := n6_; clear n0_ n1_ n2_ n3_ n4_ n5_ n6_; clear hb hbox hg))
  have n0_ := Aside0.mk (blk_drew BK101.out)
  have n1_ := Aside0.mk (blk_drew BK102.out)
  have n2_ := Aside0.mk (below_drew1 HB.out)
  clear BK101
  clear BK102
  clear HB
  have BK101 := n0_
  have BK102 := n1_
  have HB := n2_
  clear n0_ n1_ n2_
  refine start_ (n := 6) (S := fun w' => w'.cell? ⟨gb101, 0, none⟩ = some (.bool a0_0) ∧ w'.cell? ⟨gb101, 1, none⟩ = some (.string a0_1) ∧ w'.cell? ⟨gb101, 2, none⟩ = some (.int .i64 a0_2) ∧ w'.cell? ⟨gb102, 0, none⟩ = some (.bool a1_0) ∧ w'.cell? ⟨gb102, 1, none⟩ = some (.string a1_1) ∧ w'.cell? ⟨gb102, 2, none⟩ = some (.int .i64 a1_2)) (ds := [4, 5]) #[false, false, false, false, false, false] (by kernel_rfl) rfl rfl ⟨(blk_cell BK101.out 0).trans rfl, (blk_cell BK101.out 1).trans rfl, (blk_cell BK101.out 2).trans rfl, (blk_cell BK102.out 0).trans rfl, (blk_cell BK102.out 1).trans rfl, (blk_cell BK102.out 2).trans rfl⟩ (fun hHeld => ?_)
  generalize w7.drew = w8 at BK101 BK102 HB hHeld ⊢
  refine take_ (i := 0) (N := some 5) (v := ?_) (a' := ?_) #[true, false, false, false, false, false] rfl rfl (by kernel_rfl) (fun _ _ _ h => h) (Or.inl ⟨by rfl, ?_⟩) hHeld ?_ ?_
  rotate_left
  · rintro w' ⟨s0, s1, s2, s3, s4, s5⟩
    go_simp
    with_reducible rfl
  rotate_left
  · simp only [Act.put, List.setIfInBounds_toArray, List.set_cons_zero, List.set_cons_succ, i64_w, i32_w]
    rfl
  refine take_ (i := 2) (N := some 7) (v := ?_) (a' := ?_) #[true, false, true, false, false, false] rfl rfl (by kernel_rfl) (fun _ _ _ h => h) (Or.inl ⟨by rfl, ?_⟩) hHeld ?_ ?_
  rotate_left
  · rintro w' ⟨s0, s1, s2, s3, s4, s5⟩
    go_simp
    with_reducible rfl
  rotate_left
  · simp only [Act.put, List.setIfInBounds_toArray, List.set_cons_zero, List.set_cons_succ, i64_w, i32_w]
    rfl
  refine one_ (i := 1) (N := some 6) #[true, true, true, false, false, false] rfl rfl (by kernel_rfl) (by decide) (fun K hK => ?_)
  refine goes_ Tryd.func24 (by kernel_rfl) rfl #[.agg #[.bool a0_0, .string a0_1, .int .i64 a0_2]] (by rfl) rfl rfl (by (try simp only [List.map_toArray, List.map_cons, List.map_nil]); first | done | rfl | (simp only [List.length_drop, List.length_take]; rfl)) ?_
  with_reducible refine (digits_Norm.calls a0_0 a0_1 a0_2 t103 t104 t105 _ A3.out).mono ?_
  rintro e w9 ⟨rfl, hb⟩
  refine ⟨_, rfl, ?_⟩
  have n0_ := Aside0.mk (blk_below (g := gb101) (o := .cells #[.bool a0_0, .string a0_1, .int .i64 a0_2] 23 (0, 0)) (by (with_reducible repeat (first | refine blk_drewN ?_ _ | refine blk_drew ?_ | refine blk_alloc ?_ _)); exact BK101.out) hb)
  have n1_ := Aside0.mk (blk_below (g := gb102) (o := .cells #[.bool a1_0, .string a1_1, .int .i64 a1_2] 23 (0, 0)) (by (with_reducible repeat (first | refine blk_drewN ?_ _ | refine blk_drew ?_ | refine blk_alloc ?_ _)); exact BK102.out) hb)
  have n2_ := Aside0.mk (below_step (by repeat (first | (with_reducible first | exact HB.out | apply below_alloc | apply pw_below_drewN | apply below_drew1 | refine below_set ?_ GE101.out | refine below_set ?_ GE102.out) | exact HB.out)) hb)
  clear BK101
  clear BK102
  clear HB
  have BK101 := n0_
  have BK102 := n1_
  have HB := n2_
  clear n0_ n1_ n2_
  (try clear hb)
  (try clear hb2)
  (try clear hk)
  (try clear hi)
  refine hK.out _ _ ⟨(blk_cell BK101.out 0).trans rfl, (blk_cell BK101.out 1).trans rfl, (blk_cell BK101.out 2).trans rfl, (blk_cell BK102.out 0).trans rfl, (blk_cell BK102.out 1).trans rfl, (blk_cell BK102.out 2).trans rfl⟩ (fun hHeld => ?_)
  clear hK K
  refine norm_ (a' := ?_) ?_ ?_
  rotate_left
  · show Act.put _ (some 6) _ = _
    simp only [Act.put, List.setIfInBounds_toArray, List.set_cons_zero, List.set_cons_succ, i64_w, i32_w]
    rfl
  refine one_ (i := 3) (N := some 8) #[true, true, true, true, false, false] rfl rfl (by kernel_rfl) (by decide) (fun K hK => ?_)
  refine goes_ Tryd.func24 (by kernel_rfl) rfl #[.agg #[.bool a1_0, .string a1_1, .int .i64 a1_2]] (by rfl) rfl rfl (by (try simp only [List.map_toArray, List.map_cons, List.map_nil]); first | done | rfl | (simp only [List.length_drop, List.length_take]; rfl)) ?_
  with_reducible refine (digits_Norm.calls a1_0 a1_1 a1_2 t106 t107 t108 _ A4.out).mono ?_
  rintro e w10 ⟨rfl, hb⟩
  refine ⟨_, rfl, ?_⟩
  have n0_ := Aside0.mk (blk_below (g := gb101) (o := .cells #[.bool a0_0, .string a0_1, .int .i64 a0_2] 23 (0, 0)) (by (with_reducible repeat (first | refine blk_drewN ?_ _ | refine blk_drew ?_ | refine blk_alloc ?_ _)); exact BK101.out) hb)
  have n1_ := Aside0.mk (blk_below (g := gb102) (o := .cells #[.bool a1_0, .string a1_1, .int .i64 a1_2] 23 (0, 0)) (by (with_reducible repeat (first | refine blk_drewN ?_ _ | refine blk_drew ?_ | refine blk_alloc ?_ _)); exact BK102.out) hb)
  have n2_ := Aside0.mk (below_step (by repeat (first | (with_reducible first | exact HB.out | apply below_alloc | apply pw_below_drewN | apply below_drew1 | refine below_set ?_ GE101.out | refine below_set ?_ GE102.out) | exact HB.out)) hb)
  clear BK101
  clear BK102
  clear HB
  have BK101 := n0_
  have BK102 := n1_
  have HB := n2_
  clear n0_ n1_ n2_
  (try clear hb)
  (try clear hb2)
  (try clear hk)
  (try clear hi)
  refine hK.out _ _ ⟨(blk_cell BK101.out 0).trans rfl, (blk_cell BK101.out 1).trans rfl, (blk_cell BK101.out 2).trans rfl, (blk_cell BK102.out 0).trans rfl, (blk_cell BK102.out 1).trans rfl, (blk_cell BK102.out 2).trans rfl⟩ (fun hHeld => ?_)
  clear hK K
  refine norm_ (a' := ?_) ?_ ?_
  rotate_left
  · show Act.put _ (some 8) _ = _
    simp only [Act.put, List.setIfInBounds_toArray, List.set_cons_zero, List.set_cons_succ, i64_w, i32_w]
    rfl
  refine last_ (i := 4) (N := none) #[true, true, true, true, true, false] rfl rfl (by kernel_rfl) (by decide) (fun K hK => ?_)
  have hs11 : w10.cell? ⟨gb101, 0, none⟩ = some (.bool a0_0) := (blk_cell BK101.out 0).trans rfl
  have hfs11 := blk_frozen BK101.out 0
  have hns11_1 := NB102_101.out
  have hms11_1 := NB101_102.out
  have hs12 : w10.cell? ⟨gb101, 1, none⟩ = some (.string a0_1) := (blk_cell BK101.out 1).trans rfl
  have hfs12 := blk_frozen BK101.out 1
  have hns12_1 := NB102_101.out
  have hms12_1 := NB101_102.out
  have hs13 : w10.cell? ⟨gb101, 2, none⟩ = some (.int .i64 a0_2) := (blk_cell BK101.out 2).trans rfl
  have hfs13 := blk_frozen BK101.out 2
  have hns13_1 := NB102_101.out
  have hms13_1 := NB101_102.out
  refine skip_ (w1 := ?_) (by rfl) rfl ?_ ?_
  rotate_left
  · go_simp
    rfl
  refine hK.out _ _ ?_
  clear hK K
  refine last_ (i := 5) (N := none) #[true, true, true, true, true, true] rfl rfl (by kernel_rfl) (by decide) (fun K hK => ?_)
  have hs14 : w10.cell? ⟨gb102, 0, none⟩ = some (.bool a1_0) := (blk_cell BK102.out 0).trans rfl
  have hfs14 := blk_frozen BK102.out 0
  have hns14_0 := NB101_102.out
  have hms14_0 := NB102_101.out
  have hs15 : w10.cell? ⟨gb102, 1, none⟩ = some (.string a1_1) := (blk_cell BK102.out 1).trans rfl
  have hfs15 := blk_frozen BK102.out 1
  have hns15_0 := NB101_102.out
  have hms15_0 := NB102_101.out
  have hs16 : w10.cell? ⟨gb102, 2, none⟩ = some (.int .i64 a1_2) := (blk_cell BK102.out 2).trans rfl
  have hfs16 := blk_frozen BK102.out 2
  have hns16_0 := NB101_102.out
  have hms16_0 := NB102_101.out
  refine skip_ (w1 := ?_) (by rfl) rfl ?_ ?_
  rotate_left
  · go_simp
    rfl
  refine hK.out _ _ ?_
  clear hK K
  refine done_ (by kernel_rfl) ?_
  go_upto_region 2 with (fail)
  go_cut [9] (fun v9 wc => ∃ (kq : Nat) (x9_4 : Bool), v9 = .bool x9_4 ∧ Aside0 (digits_Cmp.j0 kq x9_4 t103 t104 t105 t106 t107 t108 = some r) ∧ Aside0 (kq ≤ k) ∧ Aside0 (wc.heap[gb101]? = some (.cells #[.bool t103, .string t104, .int .i64 t105] 23 (0, 0))) ∧ Aside0 (wc.heap[gb102]? = some (.cells #[.bool t106, .string t107, .int .i64 t108] 23 (0, 0))) ∧ Aside0 (Below w.heap.size w wc))
  case first =>
    have H := HC5.out
    clear HC5
    by_cases c17 : t103 = true
    · subst c17
      have H1 : (digits_Cmp.j0 k t106 true t104 t105 t106 t107 t108) = some r := by rw [if_pos rfl] at H; exact H
      clear H
      have H := H1
      clear H1
      have H' := Aside0.mk H
      clear H
      have hnb18 := NB101_102.out
      have hnc18 := NB102_101.out
      have hcz19_0 : w10.cell? ⟨gb101, 0, none⟩ = some (.bool a0_0) := (blk_cell BK101.out 0).trans rfl
      have hcz19_1 : w10.cell? ⟨gb101, 1, none⟩ = some (.string a0_1) := (blk_cell BK101.out 1).trans rfl
      have hcz19_2 : w10.cell? ⟨gb101, 2, none⟩ = some (.int .i64 a0_2) := (blk_cell BK101.out 2).trans rfl
      have hfz19_0 := blk_frozen BK101.out 0
      have hfz19_1 := blk_frozen BK101.out 1
      have hfz19_2 := blk_frozen BK101.out 2
      have hcz20_0 : w10.cell? ⟨gb102, 0, none⟩ = some (.bool a1_0) := (blk_cell BK102.out 0).trans rfl
      have hcz20_1 : w10.cell? ⟨gb102, 1, none⟩ = some (.string a1_1) := (blk_cell BK102.out 1).trans rfl
      have hcz20_2 : w10.cell? ⟨gb102, 2, none⟩ = some (.int .i64 a1_2) := (blk_cell BK102.out 2).trans rfl
      have hfz20_0 := blk_frozen BK102.out 0
      have hfz20_1 := blk_frozen BK102.out 1
      have hfz20_2 := blk_frozen BK102.out 2
      go_wp2
      go_meet
      case rel => exact ⟨_, (t106), (by first | rfl | (simp; done) | (simp [*]; done)), H', ⟨by first | omega | exact Nat.le_refl _⟩, ⟨by (with_reducible repeat (first | refine blk_drewN ?_ _ | refine blk_drew ?_ | refine blk_alloc ?_ _)); refine blk_far ?_ NB101_102.out _; (with_reducible repeat (first | refine blk_drewN ?_ _ | refine blk_drew ?_ | refine blk_alloc ?_ _)); refine blk_far ?_ NB101_102.out _; (with_reducible repeat (first | refine blk_drewN ?_ _ | refine blk_drew ?_ | refine blk_alloc ?_ _)); refine blk_far ?_ NB101_102.out _; (with_reducible repeat (first | refine blk_drewN ?_ _ | refine blk_drew ?_ | refine blk_alloc ?_ _)); refine blk_put (cs := #[.bool true, .string t104, .int .i64 a0_2]) ?_ 2 _ rfl; (with_reducible repeat (first | refine blk_drewN ?_ _ | refine blk_drew ?_ | refine blk_alloc ?_ _)); refine blk_put (cs := #[.bool true, .string a0_1, .int .i64 a0_2]) ?_ 1 _ rfl; (with_reducible repeat (first | refine blk_drewN ?_ _ | refine blk_drew ?_ | refine blk_alloc ?_ _)); refine blk_put (cs := #[.bool a0_0, .string a0_1, .int .i64 a0_2]) ?_ 0 _ rfl; (with_reducible repeat (first | refine blk_drewN ?_ _ | refine blk_drew ?_ | refine blk_alloc ?_ _)); exact BK101.out⟩, ⟨by (with_reducible repeat (first | refine blk_drewN ?_ _ | refine blk_drew ?_ | refine blk_alloc ?_ _)); refine blk_put (cs := #[.bool t106, .string t107, .int .i64 a1_2]) ?_ 2 _ rfl; (with_reducible repeat (first | refine blk_drewN ?_ _ | refine blk_drew ?_ | refine blk_alloc ?_ _)); refine blk_put (cs := #[.bool t106, .string a1_1, .int .i64 a1_2]) ?_ 1 _ rfl; (with_reducible repeat (first | refine blk_drewN ?_ _ | refine blk_drew ?_ | refine blk_alloc ?_ _)); refine blk_put (cs := #[.bool a1_0, .string a1_1, .int .i64 a1_2]) ?_ 0 _ rfl; (with_reducible repeat (first | refine blk_drewN ?_ _ | refine blk_drew ?_ | refine blk_alloc ?_ _)); refine blk_far ?_ NB102_101.out _; (with_reducible repeat (first | refine blk_drewN ?_ _ | refine blk_drew ?_ | refine blk_alloc ?_ _)); refine blk_far ?_ NB102_101.out _; (with_reducible repeat (first | refine blk_drewN ?_ _ | refine blk_drew ?_ | refine blk_alloc ?_ _)); refine blk_far ?_ NB102_101.out _; (with_reducible repeat (first | refine blk_drewN ?_ _ | refine blk_drew ?_ | refine blk_alloc ?_ _)); exact BK102.out⟩, ⟨by repeat (first | (with_reducible first | exact HB.out | apply below_alloc | apply pw_below_drewN | apply below_drew1 | refine below_set ?_ GE101.out | refine below_set ?_ GE102.out) | exact HB.out)⟩⟩
    · replace c17 := Bool.eq_false_iff.mpr c17
      subst c17
      have H1 : (digits_Cmp.j0 k false false t104 t105 t106 t107 t108) = some r := by rw [if_neg (show ¬ (false = true) by decide)] at H; exact H
      clear H
      have H := H1
      clear H1
      have H' := Aside0.mk H
      clear H
      have hnb21 := NB101_102.out
      have hnc21 := NB102_101.out
      have hcz22_0 : w10.cell? ⟨gb101, 0, none⟩ = some (.bool a0_0) := (blk_cell BK101.out 0).trans rfl
      have hcz22_1 : w10.cell? ⟨gb101, 1, none⟩ = some (.string a0_1) := (blk_cell BK101.out 1).trans rfl
      have hcz22_2 : w10.cell? ⟨gb101, 2, none⟩ = some (.int .i64 a0_2) := (blk_cell BK101.out 2).trans rfl
      have hfz22_0 := blk_frozen BK101.out 0
      have hfz22_1 := blk_frozen BK101.out 1
      have hfz22_2 := blk_frozen BK101.out 2
      go_wp2
      go_meet
      case rel => exact ⟨_, (false), (by first | rfl | (simp; done) | (simp [*]; done)), H', ⟨by first | omega | exact Nat.le_refl _⟩, ⟨by (with_reducible repeat (first | refine blk_drewN ?_ _ | refine blk_drew ?_ | refine blk_alloc ?_ _)); refine blk_far ?_ NB101_102.out _; (with_reducible repeat (first | refine blk_drewN ?_ _ | refine blk_drew ?_ | refine blk_alloc ?_ _)); refine blk_far ?_ NB101_102.out _; (with_reducible repeat (first | refine blk_drewN ?_ _ | refine blk_drew ?_ | refine blk_alloc ?_ _)); refine blk_far ?_ NB101_102.out _; (with_reducible repeat (first | refine blk_drewN ?_ _ | refine blk_drew ?_ | refine blk_alloc ?_ _)); refine blk_put (cs := #[.bool false, .string t104, .int .i64 a0_2]) ?_ 2 _ rfl; (with_reducible repeat (first | refine blk_drewN ?_ _ | refine blk_drew ?_ | refine blk_alloc ?_ _)); refine blk_put (cs := #[.bool false, .string a0_1, .int .i64 a0_2]) ?_ 1 _ rfl; (with_reducible repeat (first | refine blk_drewN ?_ _ | refine blk_drew ?_ | refine blk_alloc ?_ _)); refine blk_put (cs := #[.bool a0_0, .string a0_1, .int .i64 a0_2]) ?_ 0 _ rfl; (with_reducible repeat (first | refine blk_drewN ?_ _ | refine blk_drew ?_ | refine blk_alloc ?_ _)); exact BK101.out⟩, ⟨by (with_reducible repeat (first | refine blk_drewN ?_ _ | refine blk_drew ?_ | refine blk_alloc ?_ _)); refine blk_put (cs := #[.bool t106, .string t107, .int .i64 a1_2]) ?_ 2 _ rfl; (with_reducible repeat (first | refine blk_drewN ?_ _ | refine blk_drew ?_ | refine blk_alloc ?_ _)); refine blk_put (cs := #[.bool t106, .string a1_1, .int .i64 a1_2]) ?_ 1 _ rfl; (with_reducible repeat (first | refine blk_drewN ?_ _ | refine blk_drew ?_ | refine blk_alloc ?_ _)); refine blk_put (cs := #[.bool a1_0, .string a1_1, .int .i64 a1_2]) ?_ 0 _ rfl; (with_reducible repeat (first | refine blk_drewN ?_ _ | refine blk_drew ?_ | refine blk_alloc ?_ _)); refine blk_far ?_ NB102_101.out _; (with_reducible repeat (first | refine blk_drewN ?_ _ | refine blk_drew ?_ | refine blk_alloc ?_ _)); refine blk_far ?_ NB102_101.out _; (with_reducible repeat (first | refine blk_drewN ?_ _ | refine blk_drew ?_ | refine blk_alloc ?_ _)); refine blk_far ?_ NB102_101.out _; (with_reducible repeat (first | refine blk_drewN ?_ _ | refine blk_drew ?_ | refine blk_alloc ?_ _)); exact BK102.out⟩, ⟨by repeat (first | (with_reducible first | exact HB.out | apply below_alloc | apply pw_below_drewN | apply below_drew1 | refine below_set ?_ GE101.out | refine below_set ?_ GE102.out) | exact HB.out)⟩⟩
  case rest =>
    clear HC5
    try clear c1
    try clear c2
    try clear p2
    try clear c17
    try clear c18
    try clear c21
    try clear hcz19_0
    try clear hcz19_1
    try clear hcz19_2
    try clear hcz20_0
    try clear hcz20_1
    try clear hcz20_2
    try clear hcz22_0
    try clear hcz22_1
    try clear hcz22_2
    try clear hfz19_0
    try clear hfz19_1
    try clear hfz19_2
    try clear hfz20_0
    try clear hfz20_1
    try clear hfz20_2
    try clear hfz22_0
    try clear hfz22_1
    try clear hfz22_2
    obtain ⟨kq, x9_4, rfl, HA, HJ4, BK101, BK102, HB⟩ := hcut
    cases kq with
    | zero => exact absurd HA.out (by simp [digits_Cmp.j0])
    | succ kj4 =>
      have H := HA.out
      clear HA
      simp only [digits_Cmp.j0] at H
      by_cases c23 : x9_4 = true
      · subst c23
        have H1 : ((digits_size.f t106 t107 t108 t103 t104 t105).bind fun t109 => (some t109)) = some r := by rw [if_pos rfl] at H; exact H
        clear H
        have H := H1
        clear H1
        replace H := Option.bind_eq_some_iff.mp H
        obtain ⟨t109, A240, H⟩ := H
        replace H : (some t109) = some r := H
        have A24 := Aside0.mk A240
        clear A240
        obtain rfl := Option.some.inj H
        have hnb25 := NB102_101.out
        have hnc25 := NB101_102.out
        have hcz26_0 : wc.cell? ⟨gb102, 0, none⟩ = some (.bool t106) := (blk_cell BK102.out 0).trans rfl
        have hcz26_1 : wc.cell? ⟨gb102, 1, none⟩ = some (.string t107) := (blk_cell BK102.out 1).trans rfl
        have hcz26_2 : wc.cell? ⟨gb102, 2, none⟩ = some (.int .i64 t108) := (blk_cell BK102.out 2).trans rfl
        have hfz26_0 := blk_frozen BK102.out 0
        have hfz26_1 := blk_frozen BK102.out 1
        have hfz26_2 := blk_frozen BK102.out 2
        have hcz27_0 : wc.cell? ⟨gb101, 0, none⟩ = some (.bool t103) := (blk_cell BK101.out 0).trans rfl
        have hcz27_1 : wc.cell? ⟨gb101, 1, none⟩ = some (.string t104) := (blk_cell BK101.out 1).trans rfl
        have hcz27_2 : wc.cell? ⟨gb101, 2, none⟩ = some (.int .i64 t105) := (blk_cell BK101.out 2).trans rfl
        have hfz27_0 := blk_frozen BK101.out 0
        have hfz27_1 := blk_frozen BK101.out 1
        have hfz27_2 := blk_frozen BK101.out 2
        go_wp2_with (first | ((with_reducible refine gate_callee (f := 48) rfl ?_); refine goesL_ (some 18) rfl rfl Tryd.func48 (by kernel_rfl) rfl #[.agg #[.bool t106, .string t107, .int .i64 t108], .agg #[.bool t103, .string t104, .int .i64 t105]] rfl (by (try simp only [List.map_toArray, List.map_cons, List.map_nil]); first | done | rfl | (simp only [List.length_drop, List.length_take]; rfl)) ?_; (with_reducible refine (digits_size.calls t106 t107 t108 t103 t104 t105 t109 _ A24.out).mono ?_); rintro e w28 ⟨rfl, hb⟩; refine ⟨_, rfl, ?_⟩; have n0_ := Aside0.mk (blk_below (g := gb101) (o := .cells #[.bool t103, .string t104, .int .i64 t105] 23 (0, 0)) (by (with_reducible repeat (first | refine blk_drewN ?_ _ | refine blk_drew ?_ | refine blk_alloc ?_ _)); exact BK101.out) hb); have n1_ := Aside0.mk (blk_below (g := gb102) (o := .cells #[.bool t106, .string t107, .int .i64 t108] 23 (0, 0)) (by (with_reducible repeat (first | refine blk_drewN ?_ _ | refine blk_drew ?_ | refine blk_alloc ?_ _)); exact BK102.out) hb); have n2_ := Aside0.mk (below_step (by repeat (first | (with_reducible first | exact HB.out | apply below_alloc | apply pw_below_drewN | apply below_drew1 | refine below_set ?_ GE101.out | refine below_set ?_ GE102.out) | exact HB.out)) hb); clear BK101; clear BK102; clear HB; have BK101 := n0_; have BK102 := n1_; have HB := n2_; clear n0_ n1_ n2_; (try clear hb); (try clear hb2); (try clear hk); (try clear hi)))
        go_ret
        exact ⟨by first | rfl | (simp [errW_none, errW_some] <;> rfl) | (simp [*, errW_none, errW_some] <;> rfl), by repeat (first | (with_reducible first | exact HB.out | apply below_alloc | apply pw_below_drewN | apply below_drew1 | refine below_set ?_ GE101.out | refine below_set ?_ GE102.out) | exact HB.out)⟩
      · replace c23 := Bool.eq_false_iff.mpr c23
        subst c23
        have H1 : (if t103 = true then (some (-1)) else (if t106 = true then (some 1) else ((digits_size.f t103 t104 t105 t106 t107 t108).bind fun t110 => (some t110)))) = some r := by rw [if_neg (show ¬ (false = true) by decide)] at H; exact H
        clear H
        have H := H1
        clear H1
        by_cases c29 : t103 = true
        · subst c29
          have H1 : (some (-1)) = some r := by rw [if_pos rfl] at H; exact H
          clear H
          have H := H1
          clear H1
          obtain rfl := Option.some.inj H
          have hnb30 := NB101_102.out
          have hnc30 := NB102_101.out
          have hcz31_0 : wc.cell? ⟨gb101, 0, none⟩ = some (.bool true) := (blk_cell BK101.out 0).trans rfl
          have hcz31_1 : wc.cell? ⟨gb101, 1, none⟩ = some (.string t104) := (blk_cell BK101.out 1).trans rfl
          have hcz31_2 : wc.cell? ⟨gb101, 2, none⟩ = some (.int .i64 t105) := (blk_cell BK101.out 2).trans rfl
          have hfz31_0 := blk_frozen BK101.out 0
          have hfz31_1 := blk_frozen BK101.out 1
          have hfz31_2 := blk_frozen BK101.out 2
          go_wp2
          go_ret
          exact ⟨by first | rfl | (simp [errW_none, errW_some] <;> rfl) | (simp [*, errW_none, errW_some] <;> rfl), by repeat (first | (with_reducible first | exact HB.out | apply below_alloc | apply pw_below_drewN | apply below_drew1 | refine below_set ?_ GE101.out | refine below_set ?_ GE102.out) | exact HB.out)⟩
        · replace c29 := Bool.eq_false_iff.mpr c29
          subst c29
          have H1 : (if t106 = true then (some 1) else ((digits_size.f false t104 t105 t106 t107 t108).bind fun t110 => (some t110))) = some r := by rw [if_neg (show ¬ (false = true) by decide)] at H; exact H
          clear H
          have H := H1
          clear H1
          by_cases c32 : t106 = true
          · subst c32
            have H1 : (some 1) = some r := by rw [if_pos rfl] at H; exact H
            clear H
            have H := H1
            clear H1
            obtain rfl := Option.some.inj H
            have hnb33 := NB101_102.out
            have hnc33 := NB102_101.out
            have hcz34_0 : wc.cell? ⟨gb101, 0, none⟩ = some (.bool false) := (blk_cell BK101.out 0).trans rfl
            have hcz34_1 : wc.cell? ⟨gb101, 1, none⟩ = some (.string t104) := (blk_cell BK101.out 1).trans rfl
            have hcz34_2 : wc.cell? ⟨gb101, 2, none⟩ = some (.int .i64 t105) := (blk_cell BK101.out 2).trans rfl
            have hfz34_0 := blk_frozen BK101.out 0
            have hfz34_1 := blk_frozen BK101.out 1
            have hfz34_2 := blk_frozen BK101.out 2
            have hcz35_0 : wc.cell? ⟨gb102, 0, none⟩ = some (.bool true) := (blk_cell BK102.out 0).trans rfl
            have hcz35_1 : wc.cell? ⟨gb102, 1, none⟩ = some (.string t107) := (blk_cell BK102.out 1).trans rfl
            have hcz35_2 : wc.cell? ⟨gb102, 2, none⟩ = some (.int .i64 t108) := (blk_cell BK102.out 2).trans rfl
            have hfz35_0 := blk_frozen BK102.out 0
            have hfz35_1 := blk_frozen BK102.out 1
            have hfz35_2 := blk_frozen BK102.out 2
            go_wp2
            go_ret
            exact ⟨by first | rfl | (simp [errW_none, errW_some] <;> rfl) | (simp [*, errW_none, errW_some] <;> rfl), by repeat (first | (with_reducible first | exact HB.out | apply below_alloc | apply pw_below_drewN | apply below_drew1 | refine below_set ?_ GE101.out | refine below_set ?_ GE102.out) | exact HB.out)⟩
          · replace c32 := Bool.eq_false_iff.mpr c32
            subst c32
            have H1 : ((digits_size.f false t104 t105 false t107 t108).bind fun t110 => (some t110)) = some r := by rw [if_neg (show ¬ (false = true) by decide)] at H; exact H
            clear H
            have H := H1
            clear H1
            replace H := Option.bind_eq_some_iff.mp H
            obtain ⟨t110, A360, H⟩ := H
            replace H : (some t110) = some r := H
            have A36 := Aside0.mk A360
            clear A360
            obtain rfl := Option.some.inj H
            have hnb37 := NB101_102.out
            have hnc37 := NB102_101.out
            have hcz38_0 : wc.cell? ⟨gb101, 0, none⟩ = some (.bool false) := (blk_cell BK101.out 0).trans rfl
            have hcz38_1 : wc.cell? ⟨gb101, 1, none⟩ = some (.string t104) := (blk_cell BK101.out 1).trans rfl
            have hcz38_2 : wc.cell? ⟨gb101, 2, none⟩ = some (.int .i64 t105) := (blk_cell BK101.out 2).trans rfl
            have hfz38_0 := blk_frozen BK101.out 0
            have hfz38_1 := blk_frozen BK101.out 1
            have hfz38_2 := blk_frozen BK101.out 2
            have hcz39_0 : wc.cell? ⟨gb102, 0, none⟩ = some (.bool false) := (blk_cell BK102.out 0).trans rfl
            have hcz39_1 : wc.cell? ⟨gb102, 1, none⟩ = some (.string t107) := (blk_cell BK102.out 1).trans rfl
            have hcz39_2 : wc.cell? ⟨gb102, 2, none⟩ = some (.int .i64 t108) := (blk_cell BK102.out 2).trans rfl
            have hfz39_0 := blk_frozen BK102.out 0
            have hfz39_1 := blk_frozen BK102.out 1
            have hfz39_2 := blk_frozen BK102.out 2
            go_wp2_with (first | ((with_reducible refine gate_callee (f := 48) rfl ?_); refine goesL_ (some 27) rfl rfl Tryd.func48 (by kernel_rfl) rfl #[.agg #[.bool false, .string t104, .int .i64 t105], .agg #[.bool false, .string t107, .int .i64 t108]] rfl (by (try simp only [List.map_toArray, List.map_cons, List.map_nil]); first | done | rfl | (simp only [List.length_drop, List.length_take]; rfl)) ?_; (with_reducible refine (digits_size.calls false t104 t105 false t107 t108 t110 _ A36.out).mono ?_); rintro e w40 ⟨rfl, hb⟩; refine ⟨_, rfl, ?_⟩; have n0_ := Aside0.mk (blk_below (g := gb101) (o := .cells #[.bool false, .string t104, .int .i64 t105] 23 (0, 0)) (by (with_reducible repeat (first | refine blk_drewN ?_ _ | refine blk_drew ?_ | refine blk_alloc ?_ _)); exact BK101.out) hb); have n1_ := Aside0.mk (blk_below (g := gb102) (o := .cells #[.bool false, .string t107, .int .i64 t108] 23 (0, 0)) (by (with_reducible repeat (first | refine blk_drewN ?_ _ | refine blk_drew ?_ | refine blk_alloc ?_ _)); exact BK102.out) hb); have n2_ := Aside0.mk (below_step (by repeat (first | (with_reducible first | exact HB.out | apply below_alloc | apply pw_below_drewN | apply below_drew1 | refine below_set ?_ GE101.out | refine below_set ?_ GE102.out) | exact HB.out)) hb); clear BK101; clear BK102; clear HB; have BK101 := n0_; have BK102 := n1_; have HB := n2_; clear n0_ n1_ n2_; (try clear hb); (try clear hb2); (try clear hk); (try clear hi)))
            go_ret
            exact ⟨by first | rfl | (simp [errW_none, errW_some] <;> rfl) | (simp [*, errW_none, errW_some] <;> rfl), by repeat (first | (with_reducible first | exact HB.out | apply below_alloc | apply pw_below_drewN | apply below_drew1 | refine below_set ?_ GE101.out | refine below_set ?_ GE102.out) | exact HB.out)⟩

end Go.Proofs.YtcpfooceadgccaaDoor.XDC
