/- Printed by program out of the translation. Not trusted: Lean checks it. -/
import Derived.Test.YtcpfooceadgccaaDoorXDR0
import Derived.Test.YtcpfooceadgccaaDoorXDR1
namespace Go.Proofs.YtcpfooceadgccaaDoor.XDR
open Go.RowKit Go.Proofs.YtcpfooceadgccaaDoorW.PrintWords Go.Proofs.YtcpfooceadgccaaDoorW.PrintLast Go.Proofs.YtcpfooceadgccaaDoorW.PrintMore
attribute [local go_sem] max2_int min2_int max_two min_two max_three min_three max_four min_four   -- for this text's walks alone
set_option linter.unusedVariables false
set_option linter.unusedSimpArgs false

/-! ### orthoepyref10_Cmp: function 27 -/
mutual
def orthoepyref10_Cmp.j0 : Nat → Bool → Bool → ByteArray → Int → Bool → ByteArray → Int → Option (Int)
  | 0, _, _, _, _, _, _, _ => none
  | k + 1, x11, x110000, x110001, x110002, x111000, x111001, x111002 => if x11 = true then (some 0) else (if (x110001.size : Int) = 0 then (if x111000 = true then (orthoepyref10_Cmp.j1 k true x110000 x110001 x110002 x111000 x111001 x111002) else (if (x111001.size : Int) = 0 then (orthoepyref10_Cmp.j1 k (!x110000) x110000 x110001 x110002 x111000 x111001 x111002) else (orthoepyref10_Cmp.j1 k false x110000 x110001 x110002 x111000 x111001 x111002))) else (if (x111001.size : Int) = 0 then (orthoepyref10_Cmp.j1 k (!x110000) x110000 x110001 x110002 x111000 x111001 x111002) else (orthoepyref10_Cmp.j1 k false x110000 x110001 x110002 x111000 x111001 x111002)))
def orthoepyref10_Cmp.j1 : Nat → Bool → Bool → ByteArray → Int → Bool → ByteArray → Int → Option (Int)
  | 0, _, _, _, _, _, _, _ => none
  | k + 1, x22, x110000, x110001, x110002, x111000, x111001, x111002 => if x22 = true then (some 1) else (if (x110001.size : Int) = 0 then (orthoepyref10_Cmp.j2 k true x110000 x110001 x110002 x111000 x111001 x111002) else (orthoepyref10_Cmp.j2 k ((x111001.size : Int) == 0) x110000 x110001 x110002 x111000 x111001 x111002))
def orthoepyref10_Cmp.j2 : Nat → Bool → Bool → ByteArray → Int → Bool → ByteArray → Int → Option (Int)
  | 0, _, _, _, _, _, _, _ => none
  | k + 1, x42, x110000, x110001, x110002, x111000, x111001, x111002 => if x42 = true then (some (-1)) else (if (x110000 != x111000) = true then (orthoepyref10_Cmp.j3 k x110000 x110000 x110001 x110002 x111000 x111001 x111002) else (orthoepyref10_Cmp.j3 k false x110000 x110001 x110002 x111000 x111001 x111002))
def orthoepyref10_Cmp.j3 : Nat → Bool → Bool → ByteArray → Int → Bool → ByteArray → Int → Option (Int)
  | 0, _, _, _, _, _, _, _ => none
  | k + 1, x53, x110000, x110001, x110002, x111000, x111001, x111002 => if x53 = true then (some (-1)) else (if (x110000 != x111000) = true then (some 1) else (if x110000 = true then ((orthoepyref10_size.f x111000 x111001 x111002 x110000 x110001 x110002).bind fun t111 => (some t111)) else ((orthoepyref10_size.f x110000 x110001 x110002 x111000 x111001 x111002).bind fun t112 => (some t112))))
end
def orthoepyref10_Cmp.f (k : Nat) (a0_0 : Bool) (a0_1 : ByteArray) (a0_2 : Int) (a1_0 : Bool) (a1_1 : ByteArray) (a1_2 : Int) : Option (Int) := (orthoepyref10_Norm.f a0_0 a0_1 a0_2).bind fun bt103 => ((orthoepyref10_Norm.f a1_0 a1_1 a1_2).bind fun bt106 => (if (bt103.2.1.size : Int) = 0 then (orthoepyref10_Cmp.j0 k ((bt106.2.1.size : Int) == 0) bt103.1 bt103.2.1 bt103.2.2 bt106.1 bt106.2.1 bt106.2.2) else (orthoepyref10_Cmp.j0 k false bt103.1 bt103.2.1 bt103.2.2 bt106.1 bt106.2.1 bt106.2.2)))
theorem orthoepyref10_Cmp.mono_l : ∀ k, (∀ y0 y1 y2 y3 y4 y5 y6, LeO (orthoepyref10_Cmp.j0 k y0 y1 y2 y3 y4 y5 y6) (orthoepyref10_Cmp.j0 (k + 1) y0 y1 y2 y3 y4 y5 y6)) ∧ (∀ y0 y1 y2 y3 y4 y5 y6, LeO (orthoepyref10_Cmp.j1 k y0 y1 y2 y3 y4 y5 y6) (orthoepyref10_Cmp.j1 (k + 1) y0 y1 y2 y3 y4 y5 y6)) ∧ (∀ y0 y1 y2 y3 y4 y5 y6, LeO (orthoepyref10_Cmp.j2 k y0 y1 y2 y3 y4 y5 y6) (orthoepyref10_Cmp.j2 (k + 1) y0 y1 y2 y3 y4 y5 y6)) ∧ (∀ y0 y1 y2 y3 y4 y5 y6, LeO (orthoepyref10_Cmp.j3 k y0 y1 y2 y3 y4 y5 y6) (orthoepyref10_Cmp.j3 (k + 1) y0 y1 y2 y3 y4 y5 y6))
  | 0 => ⟨fun _ _ _ _ _ _ _ r h => by simp [orthoepyref10_Cmp.j0] at h, fun _ _ _ _ _ _ _ r h => by simp [orthoepyref10_Cmp.j1] at h, fun _ _ _ _ _ _ _ r h => by simp [orthoepyref10_Cmp.j2] at h, fun _ _ _ _ _ _ _ r h => by simp [orthoepyref10_Cmp.j3] at h⟩
  | k + 1 => by
    obtain ⟨ih0, ih1, ih2, ih3⟩ := orthoepyref10_Cmp.mono_l k
    refine ⟨?_, ?_, ?_, ?_⟩
    · intro y0 y1 y2 y3 y4 y5 y6
      unfold orthoepyref10_Cmp.j0
      repeat' first
      | (with_reducible exact ih0 _ _ _ _ _ _ _)
      | (with_reducible exact ih1 _ _ _ _ _ _ _)
      | (with_reducible exact ih2 _ _ _ _ _ _ _)
      | (with_reducible exact ih3 _ _ _ _ _ _ _)
      | (with_reducible exact LeO.refl _)
      | (with_reducible exact LeO.none _)
      | (with_reducible refine LeO.ite ?_ ?_)
      | (with_reducible refine LeO.bind ?_ (fun _ => ?_))
      | exact ih0 _ _ _ _ _ _ _
      | exact ih1 _ _ _ _ _ _ _
      | exact ih2 _ _ _ _ _ _ _
      | exact ih3 _ _ _ _ _ _ _
      | exact LeO.none _
      | refine LeO.ite ?_ ?_
      | refine LeO.bind ?_ (fun _ => ?_)
    · intro y0 y1 y2 y3 y4 y5 y6
      unfold orthoepyref10_Cmp.j1
      repeat' first
      | (with_reducible exact ih0 _ _ _ _ _ _ _)
      | (with_reducible exact ih1 _ _ _ _ _ _ _)
      | (with_reducible exact ih2 _ _ _ _ _ _ _)
      | (with_reducible exact ih3 _ _ _ _ _ _ _)
      | (with_reducible exact LeO.refl _)
      | (with_reducible exact LeO.none _)
      | (with_reducible refine LeO.ite ?_ ?_)
      | (with_reducible refine LeO.bind ?_ (fun _ => ?_))
      | exact ih0 _ _ _ _ _ _ _
      | exact ih1 _ _ _ _ _ _ _
      | exact ih2 _ _ _ _ _ _ _
      | exact ih3 _ _ _ _ _ _ _
      | exact LeO.none _
      | refine LeO.ite ?_ ?_
      | refine LeO.bind ?_ (fun _ => ?_)
    · intro y0 y1 y2 y3 y4 y5 y6
      unfold orthoepyref10_Cmp.j2
      repeat' first
      | (with_reducible exact ih0 _ _ _ _ _ _ _)
      | (with_reducible exact ih1 _ _ _ _ _ _ _)
      | (with_reducible exact ih2 _ _ _ _ _ _ _)
      | (with_reducible exact ih3 _ _ _ _ _ _ _)
      | (with_reducible exact LeO.refl _)
      | (with_reducible exact LeO.none _)
      | (with_reducible refine LeO.ite ?_ ?_)
      | (with_reducible refine LeO.bind ?_ (fun _ => ?_))
      | exact ih0 _ _ _ _ _ _ _
      | exact ih1 _ _ _ _ _ _ _
      | exact ih2 _ _ _ _ _ _ _
      | exact ih3 _ _ _ _ _ _ _
      | exact LeO.none _
      | refine LeO.ite ?_ ?_
      | refine LeO.bind ?_ (fun _ => ?_)
    · intro y0 y1 y2 y3 y4 y5 y6
      unfold orthoepyref10_Cmp.j3
      repeat' first
      | (with_reducible exact ih0 _ _ _ _ _ _ _)
      | (with_reducible exact ih1 _ _ _ _ _ _ _)
      | (with_reducible exact ih2 _ _ _ _ _ _ _)
      | (with_reducible exact ih3 _ _ _ _ _ _ _)
      | (with_reducible exact LeO.refl _)
      | (with_reducible exact LeO.none _)
      | (with_reducible refine LeO.ite ?_ ?_)
      | (with_reducible refine LeO.bind ?_ (fun _ => ?_))
      | exact ih0 _ _ _ _ _ _ _
      | exact ih1 _ _ _ _ _ _ _
      | exact ih2 _ _ _ _ _ _ _
      | exact ih3 _ _ _ _ _ _ _
      | exact LeO.none _
      | refine LeO.ite ?_ ?_
      | refine LeO.bind ?_ (fun _ => ?_)
theorem orthoepyref10_Cmp.mono : ∀ a0 a1 a2 a3 a4 a5 k, LeO (orthoepyref10_Cmp.f k a0 a1 a2 a3 a4 a5) (orthoepyref10_Cmp.f (k + 1) a0 a1 a2 a3 a4 a5) := by
  intro a0 a1 a2 a3 a4 a5 k
  obtain ⟨ih0, ih1, ih2, ih3⟩ := orthoepyref10_Cmp.mono_l k
  unfold orthoepyref10_Cmp.f
  repeat' first
      | (with_reducible exact ih0 _ _ _ _ _ _ _)
      | (with_reducible exact ih1 _ _ _ _ _ _ _)
      | (with_reducible exact ih2 _ _ _ _ _ _ _)
      | (with_reducible exact ih3 _ _ _ _ _ _ _)
      | (with_reducible exact LeO.refl _)
      | (with_reducible exact LeO.none _)
      | (with_reducible refine LeO.ite ?_ ?_)
      | (with_reducible refine LeO.bind ?_ (fun _ => ?_))
      | exact ih0 _ _ _ _ _ _ _
      | exact ih1 _ _ _ _ _ _ _
      | exact ih2 _ _ _ _ _ _ _
      | exact ih3 _ _ _ _ _ _ _
      | exact LeO.none _
      | refine LeO.ite ?_ ?_
      | refine LeO.bind ?_ (fun _ => ?_)
def orthoepyref10_Cmp.T1 : Bool × List (List Nat × List Nat) := (true, [([], []), ([0], [0]), ([], []), ([2, 1], [2]), ([], []), ([], []), ([4, 1, 3, 0, 1, 4, 5], [1, 4]), ([5, 3, 6, 0, 1, 2, 3, 4, 5, 6], [3, 5])])
def orthoepyref10_Cmp.B1 : List Nat := [0, 1, 0, 7, 0, 0, 63, 127]
theorem orthoepyref10_Cmp.tab1 : rtab .any (opsOf Tryd.f27 1) = orthoepyref10_Cmp.T1 := by kernel_rfl
theorem orthoepyref10_Cmp.bits1 : waitsOk orthoepyref10_Cmp.T1.2 orthoepyref10_Cmp.B1 = true := by kernel_rfl
set_option maxHeartbeats 8000000 in
set_option maxRecDepth 100000 in
theorem orthoepyref10_Cmp.calls (k : Nat) (a0_0 : Bool) (a0_1 : ByteArray) (a0_2 : Int) (a1_0 : Bool) (a1_1 : ByteArray) (a1_2 : Int) (r : Int) (w : World) (h : orthoepyref10_Cmp.f k a0_0 a0_1 a0_2 a1_0 a1_1 a1_2 = some r) :
    Calls Tryd.prog 27 #[.agg #[.bool a0_0, .string a0_1, .int .i64 a0_2], .agg #[.bool a1_0, .string a1_1, .int .i64 a1_2]] w fun e w' => e = .returned (.int .i64 r) ∧ Below w.heap.size w w' := by
  have hu23 := Tryd.underlying23
  have HB := Aside0.mk (Below.refl w.heap.size w)
  have H : ((orthoepyref10_Norm.f a0_0 a0_1 a0_2).bind fun bt103 => ((orthoepyref10_Norm.f a1_0 a1_1 a1_2).bind fun bt106 => (if (bt103.2.1.size : Int) = 0 then (orthoepyref10_Cmp.j0 k ((bt106.2.1.size : Int) == 0) bt103.1 bt103.2.1 bt103.2.2 bt106.1 bt106.2.1 bt106.2.2) else (orthoepyref10_Cmp.j0 k false bt103.1 bt103.2.1 bt103.2.2 bt106.1 bt106.2.1 bt106.2.2)))) = some r := h
  clear h
  replace H := Option.bind_eq_some_iff.mp H
  obtain ⟨⟨t103, t104, t105⟩, A30, H⟩ := H
  replace H : ((orthoepyref10_Norm.f a1_0 a1_1 a1_2).bind fun bt106 => (if (t104.size : Int) = 0 then (orthoepyref10_Cmp.j0 k ((bt106.2.1.size : Int) == 0) t103 t104 t105 bt106.1 bt106.2.1 bt106.2.2) else (orthoepyref10_Cmp.j0 k false t103 t104 t105 bt106.1 bt106.2.1 bt106.2.2))) = some r := H
  have A3 := Aside0.mk A30
  clear A30
  replace H := Option.bind_eq_some_iff.mp H
  obtain ⟨⟨t106, t107, t108⟩, A40, H⟩ := H
  replace H : (if (t104.size : Int) = 0 then (orthoepyref10_Cmp.j0 k ((t107.size : Int) == 0) t103 t104 t105 t106 t107 t108) else (orthoepyref10_Cmp.j0 k false t103 t104 t105 t106 t107 t108)) = some r := H
  have A4 := Aside0.mk A40
  clear A40
  have HC5 := Aside0.mk H
  clear H
  go_enter Tryd.func27, Tryd.ntmps27
  try go_wp2_with (first | ((with_reducible refine gate_dst (N := 2) rfl ?_); (try (refine gate_guard (by rfl) ?_; dsimp only)); refine box_event ?hg (N := 2) ?hd (cs := #[.bool a0_0, .string a0_1, .int .i64 a0_2]) (t := 23) ?hr ?_; (case hd => rfl); (case hg => rfl); (case hr => first | (go_simp; done) | (go_simp; rfl)); intro gb101 hg w6 hbox hb; have n0_ := Aside0.mk (below_step (by repeat (first | (with_reducible first | exact HB.out | apply below_alloc | apply pw_below_drewN | apply below_drew1) | exact HB.out)) hb); have n1_ := Aside0.mk (hbox); have n2_ := Aside0.mk ((by rw [hg]; exact (below_size (by repeat (first | (with_reducible first | exact HB.out | apply below_alloc | apply pw_below_drewN | apply below_drew1) | exact HB.out))) : w.heap.size ≤ gb101)); have n3_ := Aside0.mk ((by rw [hg]; exact (below_size (by repeat (first | (with_reducible first | exact HB.out | apply below_alloc | apply pw_below_drewN | apply below_drew1) | exact HB.out))) : w.heap.size ≤ gb101)); clear HB; have HB := n0_; have BK101 := n1_; have GW101 := n2_; have GE101 := n3_; clear n0_ n1_ n2_ n3_; clear hb hbox hg) | ((with_reducible refine gate_dst (N := 3) rfl ?_); (try (refine gate_guard (by rfl) ?_; dsimp only)); refine box_event ?hg (N := 3) ?hd (cs := #[.bool a1_0, .string a1_1, .int .i64 a1_2]) (t := 23) ?hr ?_; (case hd => rfl); (case hg => rfl); (case hr => first | (go_simp; done) | (go_simp; rfl)); intro gb102 hg w7 hbox hb; have n0_ := Aside0.mk (blk_below (g := gb101) (o := .cells #[.bool a0_0, .string a0_1, .int .i64 a0_2] 23 (0, 0)) (by (with_reducible repeat (first | refine blk_drewN ?_ _ | refine blk_drew ?_ | refine blk_alloc ?_ _)); exact BK101.out) hb); have n1_ := Aside0.mk (below_step (by repeat (first | (with_reducible first | exact HB.out | apply below_alloc | apply pw_below_drewN | apply below_drew1 | refine below_set ?_ GE101.out) | exact HB.out)) hb); have n2_ := Aside0.mk (hbox); have n3_ := Aside0.mk ((by rw [hg]; exact (below_size (by repeat (first | (with_reducible first | exact HB.out | apply below_alloc | apply pw_below_drewN | apply below_drew1 | refine below_set ?_ GE101.out) | exact HB.out))) : w.heap.size ≤ gb102)); have n4_ := Aside0.mk ((by rw [hg]; exact (below_size (by repeat (first | (with_reducible first | exact HB.out | apply below_alloc | apply pw_below_drewN | apply below_drew1 | refine below_set ?_ GE101.out) | exact HB.out))) : w.heap.size ≤ gb102)); have n5_ := Aside0.mk ((by rw [hg]; exact Nat.ne_of_lt (blk_lt (g := gb101) (o := .cells #[.bool a0_0, .string a0_1, .int .i64 a0_2] 23 (0, 0)) (by (with_reducible repeat (first | refine blk_drewN ?_ _ | refine blk_drew ?_ | refine blk_alloc ?_ _)); exact BK101.out)) : gb101 ≠ gb102)); have n6_ := Aside0.mk ((by rw [hg]; exact Nat.ne_of_gt (blk_lt (g := gb101) (o := .cells #[.bool a0_0, .string a0_1, .int .i64 a0_2] 23 (0, 0)) (by (with_reducible repeat (first | refine blk_drewN ?_ _ | refine blk_drew ?_ | refine blk_alloc ?_ _)); exact BK101.out)) : gb102 ≠ gb101)); clear BK101; clear HB; have BK101 := n0_; have HB := n1_; have BK102 := n2_; have GW102 := n3_; have GE102 := n4_; have NB101_102 := n5_; have NB102_101 := n6_; clear n0_ n1_ n2_ n3_ n4_ n5_ n6_; clear hb hbox hg))
  have n0_ := Aside0.mk (blk_drew BK101.out)
  have n1_ := Aside0.mk (blk_drew BK102.out)
  have n2_ := Aside0.mk (below_drew1 HB.out)
  clear BK101
  clear BK102
  clear HB
  have BK101 := n0_
  have BK102 := n1_
  have HB := n2_
  clear n0_ n1_ n2_
  refine start_ (n := 8) (S := fun w' => w'.cell? ⟨gb101, 0, none⟩ = some (.bool a0_0) ∧ w'.cell? ⟨gb101, 1, none⟩ = some (.string a0_1) ∧ w'.cell? ⟨gb101, 2, none⟩ = some (.int .i64 a0_2) ∧ w'.cell? ⟨gb102, 0, none⟩ = some (.bool a1_0) ∧ w'.cell? ⟨gb102, 1, none⟩ = some (.string a1_1) ∧ w'.cell? ⟨gb102, 2, none⟩ = some (.int .i64 a1_2)) (ds := []) #[false, false, false, false, false, false, false, false] (by kernel_rfl) rfl rfl ⟨(blk_cell BK101.out 0).trans rfl, (blk_cell BK101.out 1).trans rfl, (blk_cell BK101.out 2).trans rfl, (blk_cell BK102.out 0).trans rfl, (blk_cell BK102.out 1).trans rfl, (blk_cell BK102.out 2).trans rfl⟩ (fun hHeld => ?_); refine with_tabW orthoepyref10_Cmp.tab1 orthoepyref10_Cmp.bits1 (fun HT_ HW_ => ?_)
  generalize w7.drew = w8 at BK101 BK102 HB hHeld ⊢
  refine take_ (i := 0) (N := some 7) (v := ?_) (a' := ?_) #[true, false, false, false, false, false, false, false] rfl rfl (take_ofW HT_.out HW_.out (by kernel_rfl)) (fun _ _ _ h => h) (Or.inl ⟨by rfl, ?_⟩) hHeld ?_ ?_
  rotate_left
  · rintro w' ⟨s0, s1, s2, s3, s4, s5⟩
    go_simp
    with_reducible rfl
  rotate_left
  · simp only [Act.put, List.setIfInBounds_toArray, List.set_cons_zero, List.set_cons_succ, i64_w, i32_w]
    rfl
  refine take_ (i := 2) (N := some 9) (v := ?_) (a' := ?_) #[true, false, true, false, false, false, false, false] rfl rfl (take_ofW HT_.out HW_.out (by kernel_rfl)) (fun _ _ _ h => h) (Or.inl ⟨by rfl, ?_⟩) hHeld ?_ ?_
  rotate_left
  · rintro w' ⟨s0, s1, s2, s3, s4, s5⟩
    go_simp
    with_reducible rfl
  rotate_left
  · simp only [Act.put, List.setIfInBounds_toArray, List.set_cons_zero, List.set_cons_succ, i64_w, i32_w]
    rfl
  refine join_ (σ := Nat × Nat) 2 #[true, true, true, true, true, true, false, false] (fun s_ => [(8, .agg #[.bool t103, .string t104, .int .i64 t105]), (10, .agg #[.bool t106, .string t107, .int .i64 t108]), (5, .pointer (some ⟨s_.1, 0, none⟩)), (6, .pointer (some ⟨s_.2, 0, none⟩))]) (fun s_ w' => (w'.cell? ⟨gb101, 0, none⟩ = some (.bool a0_0) ∧ w'.cell? ⟨gb101, 1, none⟩ = some (.string a0_1) ∧ w'.cell? ⟨gb101, 2, none⟩ = some (.int .i64 a0_2) ∧ w'.cell? ⟨gb102, 0, none⟩ = some (.bool a1_0) ∧ w'.cell? ⟨gb102, 1, none⟩ = some (.string a1_1) ∧ w'.cell? ⟨gb102, 2, none⟩ = some (.int .i64 a1_2)) ∧ (w'.heap[gb101]? = some (.cells #[.bool a0_0, .string a0_1, .int .i64 a0_2] 23 (0, 0))) ∧ (w'.heap[gb102]? = some (.cells #[.bool a1_0, .string a1_1, .int .i64 a1_2] 23 (0, 0))) ∧ (w'.heap[s_.1]? = some (.cells #[.bool false, .string (⟨#[]⟩ : ByteArray), .int .i64 0] 23 (0, 0))) ∧ (w'.heap[s_.2]? = some (.cells #[.bool false, .string (⟨#[]⟩ : ByteArray), .int .i64 0] 23 (0, 0))) ∧ (w.heap.size ≤ s_.1) ∧ (w.heap.size ≤ s_.1) ∧ (gb101 ≠ s_.1) ∧ (s_.1 ≠ gb101) ∧ (gb102 ≠ s_.1) ∧ (s_.1 ≠ gb102) ∧ (s_.2 ≠ s_.1) ∧ (s_.1 ≠ s_.2) ∧ (w.heap.size ≤ s_.2) ∧ (w.heap.size ≤ s_.2) ∧ (gb101 ≠ s_.2) ∧ (s_.2 ≠ gb101) ∧ (gb102 ≠ s_.2) ∧ (s_.2 ≠ gb102) ∧ (Below w.heap.size w w')) ?_ ?_
  rotate_left
  · intro hJ1_3_4_5
    refine join_ (σ := Nat) 3 #[true, true, true, true, true, false, false, false] (fun s_ => [(8, .agg #[.bool t103, .string t104, .int .i64 t105]), (10, .agg #[.bool t106, .string t107, .int .i64 t108]), (5, .pointer (some ⟨s_, 0, none⟩))]) (fun s_ w' => (w'.cell? ⟨gb101, 0, none⟩ = some (.bool a0_0) ∧ w'.cell? ⟨gb101, 1, none⟩ = some (.string a0_1) ∧ w'.cell? ⟨gb101, 2, none⟩ = some (.int .i64 a0_2) ∧ w'.cell? ⟨gb102, 0, none⟩ = some (.bool a1_0) ∧ w'.cell? ⟨gb102, 1, none⟩ = some (.string a1_1) ∧ w'.cell? ⟨gb102, 2, none⟩ = some (.int .i64 a1_2)) ∧ (w'.heap[gb101]? = some (.cells #[.bool a0_0, .string a0_1, .int .i64 a0_2] 23 (0, 0))) ∧ (w'.heap[gb102]? = some (.cells #[.bool a1_0, .string a1_1, .int .i64 a1_2] 23 (0, 0))) ∧ (w'.heap[s_]? = some (.cells #[.bool false, .string (⟨#[]⟩ : ByteArray), .int .i64 0] 23 (0, 0))) ∧ (w.heap.size ≤ s_) ∧ (w.heap.size ≤ s_) ∧ (gb101 ≠ s_) ∧ (s_ ≠ gb101) ∧ (gb102 ≠ s_) ∧ (s_ ≠ gb102) ∧ (Below w.heap.size w w')) ?_ ?_
    rotate_left
    · intro hJ1_3_4
      refine join_ (σ := Nat) 3 #[true, true, true, true, false, true, false, false] (fun s_ => [(8, .agg #[.bool t103, .string t104, .int .i64 t105]), (10, .agg #[.bool t106, .string t107, .int .i64 t108]), (6, .pointer (some ⟨s_, 0, none⟩))]) (fun s_ w' => (w'.cell? ⟨gb101, 0, none⟩ = some (.bool a0_0) ∧ w'.cell? ⟨gb101, 1, none⟩ = some (.string a0_1) ∧ w'.cell? ⟨gb101, 2, none⟩ = some (.int .i64 a0_2) ∧ w'.cell? ⟨gb102, 0, none⟩ = some (.bool a1_0) ∧ w'.cell? ⟨gb102, 1, none⟩ = some (.string a1_1) ∧ w'.cell? ⟨gb102, 2, none⟩ = some (.int .i64 a1_2)) ∧ (w'.heap[gb101]? = some (.cells #[.bool a0_0, .string a0_1, .int .i64 a0_2] 23 (0, 0))) ∧ (w'.heap[gb102]? = some (.cells #[.bool a1_0, .string a1_1, .int .i64 a1_2] 23 (0, 0))) ∧ (w'.heap[s_]? = some (.cells #[.bool false, .string (⟨#[]⟩ : ByteArray), .int .i64 0] 23 (0, 0))) ∧ (w.heap.size ≤ s_) ∧ (w.heap.size ≤ s_) ∧ (gb101 ≠ s_) ∧ (s_ ≠ gb101) ∧ (gb102 ≠ s_) ∧ (s_ ≠ gb102) ∧ (Below w.heap.size w w')) ?_ ?_
      rotate_left
      · intro hJ1_3_5
        refine join_ (σ := Nat × Nat) 3 #[true, true, true, false, true, true, false, false] (fun s_ => [(8, .agg #[.bool t103, .string t104, .int .i64 t105]), (5, .pointer (some ⟨s_.1, 0, none⟩)), (6, .pointer (some ⟨s_.2, 0, none⟩))]) (fun s_ w' => (w'.cell? ⟨gb101, 0, none⟩ = some (.bool a0_0) ∧ w'.cell? ⟨gb101, 1, none⟩ = some (.string a0_1) ∧ w'.cell? ⟨gb101, 2, none⟩ = some (.int .i64 a0_2) ∧ w'.cell? ⟨gb102, 0, none⟩ = some (.bool a1_0) ∧ w'.cell? ⟨gb102, 1, none⟩ = some (.string a1_1) ∧ w'.cell? ⟨gb102, 2, none⟩ = some (.int .i64 a1_2)) ∧ (w'.heap[gb101]? = some (.cells #[.bool a0_0, .string a0_1, .int .i64 a0_2] 23 (0, 0))) ∧ (w'.heap[gb102]? = some (.cells #[.bool a1_0, .string a1_1, .int .i64 a1_2] 23 (0, 0))) ∧ (w'.heap[s_.1]? = some (.cells #[.bool false, .string (⟨#[]⟩ : ByteArray), .int .i64 0] 23 (0, 0))) ∧ (w'.heap[s_.2]? = some (.cells #[.bool false, .string (⟨#[]⟩ : ByteArray), .int .i64 0] 23 (0, 0))) ∧ (w.heap.size ≤ s_.1) ∧ (w.heap.size ≤ s_.1) ∧ (gb101 ≠ s_.1) ∧ (s_.1 ≠ gb101) ∧ (gb102 ≠ s_.1) ∧ (s_.1 ≠ gb102) ∧ (s_.2 ≠ s_.1) ∧ (s_.1 ≠ s_.2) ∧ (w.heap.size ≤ s_.2) ∧ (w.heap.size ≤ s_.2) ∧ (gb101 ≠ s_.2) ∧ (s_.2 ≠ gb101) ∧ (gb102 ≠ s_.2) ∧ (s_.2 ≠ gb102) ∧ (Below w.heap.size w w')) ?_ ?_
        rotate_left
        · intro hJ1_4_5
          refine join_ (σ := Unit) 4 #[true, true, true, true, false, false, false, false] (fun s_ => [(8, .agg #[.bool t103, .string t104, .int .i64 t105]), (10, .agg #[.bool t106, .string t107, .int .i64 t108])]) (fun s_ w' => (w'.cell? ⟨gb101, 0, none⟩ = some (.bool a0_0) ∧ w'.cell? ⟨gb101, 1, none⟩ = some (.string a0_1) ∧ w'.cell? ⟨gb101, 2, none⟩ = some (.int .i64 a0_2) ∧ w'.cell? ⟨gb102, 0, none⟩ = some (.bool a1_0) ∧ w'.cell? ⟨gb102, 1, none⟩ = some (.string a1_1) ∧ w'.cell? ⟨gb102, 2, none⟩ = some (.int .i64 a1_2)) ∧ (w'.heap[gb101]? = some (.cells #[.bool a0_0, .string a0_1, .int .i64 a0_2] 23 (0, 0))) ∧ (w'.heap[gb102]? = some (.cells #[.bool a1_0, .string a1_1, .int .i64 a1_2] 23 (0, 0))) ∧ (Below w.heap.size w w')) ?_ ?_
          rotate_left
          · intro hJ1_3
            refine join_ (σ := Nat) 4 #[true, true, true, false, true, false, false, false] (fun s_ => [(8, .agg #[.bool t103, .string t104, .int .i64 t105]), (5, .pointer (some ⟨s_, 0, none⟩))]) (fun s_ w' => (w'.cell? ⟨gb101, 0, none⟩ = some (.bool a0_0) ∧ w'.cell? ⟨gb101, 1, none⟩ = some (.string a0_1) ∧ w'.cell? ⟨gb101, 2, none⟩ = some (.int .i64 a0_2) ∧ w'.cell? ⟨gb102, 0, none⟩ = some (.bool a1_0) ∧ w'.cell? ⟨gb102, 1, none⟩ = some (.string a1_1) ∧ w'.cell? ⟨gb102, 2, none⟩ = some (.int .i64 a1_2)) ∧ (w'.heap[gb101]? = some (.cells #[.bool a0_0, .string a0_1, .int .i64 a0_2] 23 (0, 0))) ∧ (w'.heap[gb102]? = some (.cells #[.bool a1_0, .string a1_1, .int .i64 a1_2] 23 (0, 0))) ∧ (w'.heap[s_]? = some (.cells #[.bool false, .string (⟨#[]⟩ : ByteArray), .int .i64 0] 23 (0, 0))) ∧ (w.heap.size ≤ s_) ∧ (w.heap.size ≤ s_) ∧ (gb101 ≠ s_) ∧ (s_ ≠ gb101) ∧ (gb102 ≠ s_) ∧ (s_ ≠ gb102) ∧ (Below w.heap.size w w')) ?_ ?_
            rotate_left
            · intro hJ1_4
              refine join_ (σ := Nat) 4 #[true, true, true, false, false, true, false, false] (fun s_ => [(8, .agg #[.bool t103, .string t104, .int .i64 t105]), (6, .pointer (some ⟨s_, 0, none⟩))]) (fun s_ w' => (w'.cell? ⟨gb101, 0, none⟩ = some (.bool a0_0) ∧ w'.cell? ⟨gb101, 1, none⟩ = some (.string a0_1) ∧ w'.cell? ⟨gb101, 2, none⟩ = some (.int .i64 a0_2) ∧ w'.cell? ⟨gb102, 0, none⟩ = some (.bool a1_0) ∧ w'.cell? ⟨gb102, 1, none⟩ = some (.string a1_1) ∧ w'.cell? ⟨gb102, 2, none⟩ = some (.int .i64 a1_2)) ∧ (w'.heap[gb101]? = some (.cells #[.bool a0_0, .string a0_1, .int .i64 a0_2] 23 (0, 0))) ∧ (w'.heap[gb102]? = some (.cells #[.bool a1_0, .string a1_1, .int .i64 a1_2] 23 (0, 0))) ∧ (w'.heap[s_]? = some (.cells #[.bool false, .string (⟨#[]⟩ : ByteArray), .int .i64 0] 23 (0, 0))) ∧ (w.heap.size ≤ s_) ∧ (w.heap.size ≤ s_) ∧ (gb101 ≠ s_) ∧ (s_ ≠ gb101) ∧ (gb102 ≠ s_) ∧ (s_ ≠ gb102) ∧ (Below w.heap.size w w')) ?_ ?_
              rotate_left
              · intro hJ1_5
                refine join_ (σ := Nat × Nat) 4 #[true, false, true, false, true, true, false, false] (fun s_ => [(5, .pointer (some ⟨s_.1, 0, none⟩)), (6, .pointer (some ⟨s_.2, 0, none⟩))]) (fun s_ w' => (w'.cell? ⟨gb101, 0, none⟩ = some (.bool a0_0) ∧ w'.cell? ⟨gb101, 1, none⟩ = some (.string a0_1) ∧ w'.cell? ⟨gb101, 2, none⟩ = some (.int .i64 a0_2) ∧ w'.cell? ⟨gb102, 0, none⟩ = some (.bool a1_0) ∧ w'.cell? ⟨gb102, 1, none⟩ = some (.string a1_1) ∧ w'.cell? ⟨gb102, 2, none⟩ = some (.int .i64 a1_2)) ∧ (w'.heap[gb101]? = some (.cells #[.bool a0_0, .string a0_1, .int .i64 a0_2] 23 (0, 0))) ∧ (w'.heap[gb102]? = some (.cells #[.bool a1_0, .string a1_1, .int .i64 a1_2] 23 (0, 0))) ∧ (w'.heap[s_.1]? = some (.cells #[.bool false, .string (⟨#[]⟩ : ByteArray), .int .i64 0] 23 (0, 0))) ∧ (w'.heap[s_.2]? = some (.cells #[.bool false, .string (⟨#[]⟩ : ByteArray), .int .i64 0] 23 (0, 0))) ∧ (w.heap.size ≤ s_.1) ∧ (w.heap.size ≤ s_.1) ∧ (gb101 ≠ s_.1) ∧ (s_.1 ≠ gb101) ∧ (gb102 ≠ s_.1) ∧ (s_.1 ≠ gb102) ∧ (s_.2 ≠ s_.1) ∧ (s_.1 ≠ s_.2) ∧ (w.heap.size ≤ s_.2) ∧ (w.heap.size ≤ s_.2) ∧ (gb101 ≠ s_.2) ∧ (s_.2 ≠ gb101) ∧ (gb102 ≠ s_.2) ∧ (s_.2 ≠ gb102) ∧ (Below w.heap.size w w')) ?_ ?_
                rotate_left
                · intro hJ4_5
                  refine join_ (σ := Unit) 5 #[true, true, true, false, false, false, false, false] (fun s_ => [(8, .agg #[.bool t103, .string t104, .int .i64 t105])]) (fun s_ w' => (w'.cell? ⟨gb101, 0, none⟩ = some (.bool a0_0) ∧ w'.cell? ⟨gb101, 1, none⟩ = some (.string a0_1) ∧ w'.cell? ⟨gb101, 2, none⟩ = some (.int .i64 a0_2) ∧ w'.cell? ⟨gb102, 0, none⟩ = some (.bool a1_0) ∧ w'.cell? ⟨gb102, 1, none⟩ = some (.string a1_1) ∧ w'.cell? ⟨gb102, 2, none⟩ = some (.int .i64 a1_2)) ∧ (w'.heap[gb101]? = some (.cells #[.bool a0_0, .string a0_1, .int .i64 a0_2] 23 (0, 0))) ∧ (w'.heap[gb102]? = some (.cells #[.bool a1_0, .string a1_1, .int .i64 a1_2] 23 (0, 0))) ∧ (Below w.heap.size w w')) ?_ ?_
                  rotate_left
                  · intro hJ1
                    refine join_ (σ := Nat) 5 #[true, false, true, false, true, false, false, false] (fun s_ => [(5, .pointer (some ⟨s_, 0, none⟩))]) (fun s_ w' => (w'.cell? ⟨gb101, 0, none⟩ = some (.bool a0_0) ∧ w'.cell? ⟨gb101, 1, none⟩ = some (.string a0_1) ∧ w'.cell? ⟨gb101, 2, none⟩ = some (.int .i64 a0_2) ∧ w'.cell? ⟨gb102, 0, none⟩ = some (.bool a1_0) ∧ w'.cell? ⟨gb102, 1, none⟩ = some (.string a1_1) ∧ w'.cell? ⟨gb102, 2, none⟩ = some (.int .i64 a1_2)) ∧ (w'.heap[gb101]? = some (.cells #[.bool a0_0, .string a0_1, .int .i64 a0_2] 23 (0, 0))) ∧ (w'.heap[gb102]? = some (.cells #[.bool a1_0, .string a1_1, .int .i64 a1_2] 23 (0, 0))) ∧ (w'.heap[s_]? = some (.cells #[.bool false, .string (⟨#[]⟩ : ByteArray), .int .i64 0] 23 (0, 0))) ∧ (w.heap.size ≤ s_) ∧ (w.heap.size ≤ s_) ∧ (gb101 ≠ s_) ∧ (s_ ≠ gb101) ∧ (gb102 ≠ s_) ∧ (s_ ≠ gb102) ∧ (Below w.heap.size w w')) ?_ ?_
                    rotate_left
                    · intro hJ4
                      refine join_ (σ := Nat) 5 #[true, false, true, false, false, true, false, false] (fun s_ => [(6, .pointer (some ⟨s_, 0, none⟩))]) (fun s_ w' => (w'.cell? ⟨gb101, 0, none⟩ = some (.bool a0_0) ∧ w'.cell? ⟨gb101, 1, none⟩ = some (.string a0_1) ∧ w'.cell? ⟨gb101, 2, none⟩ = some (.int .i64 a0_2) ∧ w'.cell? ⟨gb102, 0, none⟩ = some (.bool a1_0) ∧ w'.cell? ⟨gb102, 1, none⟩ = some (.string a1_1) ∧ w'.cell? ⟨gb102, 2, none⟩ = some (.int .i64 a1_2)) ∧ (w'.heap[gb101]? = some (.cells #[.bool a0_0, .string a0_1, .int .i64 a0_2] 23 (0, 0))) ∧ (w'.heap[gb102]? = some (.cells #[.bool a1_0, .string a1_1, .int .i64 a1_2] 23 (0, 0))) ∧ (w'.heap[s_]? = some (.cells #[.bool false, .string (⟨#[]⟩ : ByteArray), .int .i64 0] 23 (0, 0))) ∧ (w.heap.size ≤ s_) ∧ (w.heap.size ≤ s_) ∧ (gb101 ≠ s_) ∧ (s_ ≠ gb101) ∧ (gb102 ≠ s_) ∧ (s_ ≠ gb102) ∧ (Below w.heap.size w w')) ?_ ?_
                      rotate_left
                      · intro hJ5
                        refine three_ (i := 1) (j := 4) (k := 5) (Ni := some 8) (Nj := some 5) (Nk := some 6) #[true, true, true, false, false, false, false, false] #[true, false, true, false, true, false, false, false] #[true, false, true, false, false, true, false, false] rfl rfl rfl rfl rfl rfl (three_of HT_.out (by kernel_rfl)) (by decide) (by decide) (by decide) (fun K hK => ?_) (fun K hK => ?_) (fun K hK => ?_)
                        · skip
                          refine goes_ Tryd.func25 (by kernel_rfl) rfl #[.agg #[.bool a0_0, .string a0_1, .int .i64 a0_2]] (by rfl) rfl rfl (by (try simp only [List.map_toArray, List.map_cons, List.map_nil]); first | done | rfl | (simp only [List.length_drop, List.length_take]; rfl)) ?_
                          with_reducible refine (orthoepyref10_Norm.calls a0_0 a0_1 a0_2 t103 t104 t105 _ A3.out).mono ?_
                          rintro e w9 ⟨rfl, hb⟩
                          refine ⟨_, rfl, ?_⟩
                          have n0_ := Aside0.mk (blk_below (g := gb101) (o := .cells #[.bool a0_0, .string a0_1, .int .i64 a0_2] 23 (0, 0)) (by (with_reducible repeat (first | refine blk_drewN ?_ _ | refine blk_drew ?_ | refine blk_alloc ?_ _)); exact BK101.out) hb)
                          have n1_ := Aside0.mk (blk_below (g := gb102) (o := .cells #[.bool a1_0, .string a1_1, .int .i64 a1_2] 23 (0, 0)) (by (with_reducible repeat (first | refine blk_drewN ?_ _ | refine blk_drew ?_ | refine blk_alloc ?_ _)); exact BK102.out) hb)
                          have n2_ := Aside0.mk (below_step (by repeat (first | (with_reducible first | exact HB.out | apply below_alloc | apply pw_below_drewN | apply below_drew1 | refine below_set ?_ GE101.out | refine below_set ?_ GE102.out) | exact HB.out)) hb)
                          clear BK101
                          clear BK102
                          clear HB
                          have BK101 := n0_
                          have BK102 := n1_
                          have HB := n2_
                          clear n0_ n1_ n2_
                          (try clear hb)
                          (try clear hb2)
                          (try clear hk)
                          (try clear hi)
                          refine hK.out _ _ ⟨(blk_cell BK101.out 0).trans rfl, (blk_cell BK101.out 1).trans rfl, (blk_cell BK101.out 2).trans rfl, (blk_cell BK102.out 0).trans rfl, (blk_cell BK102.out 1).trans rfl, (blk_cell BK102.out 2).trans rfl⟩ (fun hHeld => ?_)
                          clear hK K
                          refine norm_ (a' := ?_) ?_ ?_
                          rotate_left
                          · show Act.put _ (some 8) _ = _
                            simp only [Act.put, List.setIfInBounds_toArray, List.set_cons_zero, List.set_cons_succ, i64_w, i32_w]
                            rfl
                          exact norm_ (by first | (simp only [putAll, Act.put, List.setIfInBounds_toArray, List.set_cons_zero, List.set_cons_succ]; done) | (simp only [putAll, Act.put, List.setIfInBounds_toArray, List.set_cons_zero, List.set_cons_succ]; rfl)) (hJ1 () _ ⟨hHeld, (by (with_reducible repeat (first | refine blk_drewN ?_ _ | refine blk_drew ?_ | refine blk_alloc ?_ _)); exact BK101.out), (by (with_reducible repeat (first | refine blk_drewN ?_ _ | refine blk_drew ?_ | refine blk_alloc ?_ _)); exact BK102.out), (by repeat (first | (with_reducible first | exact HB.out | apply below_alloc | apply pw_below_drewN | apply below_drew1 | refine below_set ?_ GE101.out | refine below_set ?_ GE102.out) | exact HB.out))⟩)
                        · skip
                          refine box_step ?hg (N := 5) ?hd (cs := #[.bool false, .string (⟨#[]⟩ : ByteArray), .int .i64 0]) (t := 23) ?hr ?_; (case hd => rfl); (case hg => rfl); (case hr => first | (go_simp; done) | (go_simp; rfl))
                          intro gb109 hg w9 hbox hb
                          have n0_ := Aside0.mk (blk_below (g := gb101) (o := .cells #[.bool a0_0, .string a0_1, .int .i64 a0_2] 23 (0, 0)) (by (with_reducible repeat (first | refine blk_drewN ?_ _ | refine blk_drew ?_ | refine blk_alloc ?_ _)); exact BK101.out) hb)
                          have n1_ := Aside0.mk (blk_below (g := gb102) (o := .cells #[.bool a1_0, .string a1_1, .int .i64 a1_2] 23 (0, 0)) (by (with_reducible repeat (first | refine blk_drewN ?_ _ | refine blk_drew ?_ | refine blk_alloc ?_ _)); exact BK102.out) hb)
                          have n2_ := Aside0.mk (below_step (by repeat (first | (with_reducible first | exact HB.out | apply below_alloc | apply pw_below_drewN | apply below_drew1 | refine below_set ?_ GE101.out | refine below_set ?_ GE102.out) | exact HB.out)) hb)
                          have n3_ := Aside0.mk (hbox)
                          have n4_ := Aside0.mk ((by rw [hg]; exact (below_size (by repeat (first | (with_reducible first | exact HB.out | apply below_alloc | apply pw_below_drewN | apply below_drew1 | refine below_set ?_ GE101.out | refine below_set ?_ GE102.out) | exact HB.out))) : w.heap.size ≤ gb109))
                          have n5_ := Aside0.mk ((by rw [hg]; exact (below_size (by repeat (first | (with_reducible first | exact HB.out | apply below_alloc | apply pw_below_drewN | apply below_drew1 | refine below_set ?_ GE101.out | refine below_set ?_ GE102.out) | exact HB.out))) : w.heap.size ≤ gb109))
                          have n6_ := Aside0.mk ((by rw [hg]; exact Nat.ne_of_lt (blk_lt (g := gb101) (o := .cells #[.bool a0_0, .string a0_1, .int .i64 a0_2] 23 (0, 0)) (by (with_reducible repeat (first | refine blk_drewN ?_ _ | refine blk_drew ?_ | refine blk_alloc ?_ _)); exact BK101.out)) : gb101 ≠ gb109))
                          have n7_ := Aside0.mk ((by rw [hg]; exact Nat.ne_of_gt (blk_lt (g := gb101) (o := .cells #[.bool a0_0, .string a0_1, .int .i64 a0_2] 23 (0, 0)) (by (with_reducible repeat (first | refine blk_drewN ?_ _ | refine blk_drew ?_ | refine blk_alloc ?_ _)); exact BK101.out)) : gb109 ≠ gb101))
                          have n8_ := Aside0.mk ((by rw [hg]; exact Nat.ne_of_lt (blk_lt (g := gb102) (o := .cells #[.bool a1_0, .string a1_1, .int .i64 a1_2] 23 (0, 0)) (by (with_reducible repeat (first | refine blk_drewN ?_ _ | refine blk_drew ?_ | refine blk_alloc ?_ _)); exact BK102.out)) : gb102 ≠ gb109))
                          have n9_ := Aside0.mk ((by rw [hg]; exact Nat.ne_of_gt (blk_lt (g := gb102) (o := .cells #[.bool a1_0, .string a1_1, .int .i64 a1_2] 23 (0, 0)) (by (with_reducible repeat (first | refine blk_drewN ?_ _ | refine blk_drew ?_ | refine blk_alloc ?_ _)); exact BK102.out)) : gb109 ≠ gb102))
                          clear BK101
                          clear BK102
                          clear HB
                          have BK101 := n0_
                          have BK102 := n1_
                          have HB := n2_
                          have BK109 := n3_
                          have GW109 := n4_
                          have GE109 := n5_
                          have NB101_109 := n6_
                          have NB109_101 := n7_
                          have NB102_109 := n8_
                          have NB109_102 := n9_
                          clear n0_ n1_ n2_ n3_ n4_ n5_ n6_ n7_ n8_ n9_
                          clear hb hbox hg
                          refine hK.out _ _ ⟨(blk_cell BK101.out 0).trans rfl, (blk_cell BK101.out 1).trans rfl, (blk_cell BK101.out 2).trans rfl, (blk_cell BK102.out 0).trans rfl, (blk_cell BK102.out 1).trans rfl, (blk_cell BK102.out 2).trans rfl⟩ (fun hHeld => ?_)
                          clear hK K
                          refine norm_ (a' := ?_) ?_ ?_
                          rotate_left
                          · show Act.put _ (some 5) _ = _
                            simp only [Act.put, List.setIfInBounds_toArray, List.set_cons_zero, List.set_cons_succ, i64_w, i32_w]
                            rfl
                          exact norm_ (by first | (simp only [putAll, Act.put, List.setIfInBounds_toArray, List.set_cons_zero, List.set_cons_succ]; done) | (simp only [putAll, Act.put, List.setIfInBounds_toArray, List.set_cons_zero, List.set_cons_succ]; rfl)) (hJ4 (gb109) _ ⟨hHeld, (by (with_reducible repeat (first | refine blk_drewN ?_ _ | refine blk_drew ?_ | refine blk_alloc ?_ _)); exact BK101.out), (by (with_reducible repeat (first | refine blk_drewN ?_ _ | refine blk_drew ?_ | refine blk_alloc ?_ _)); exact BK102.out), (by (with_reducible repeat (first | refine blk_drewN ?_ _ | refine blk_drew ?_ | refine blk_alloc ?_ _)); exact BK109.out), GW109.out, GE109.out, NB101_109.out, NB109_101.out, NB102_109.out, NB109_102.out, (by repeat (first | (with_reducible first | exact HB.out | apply below_alloc | apply pw_below_drewN | apply below_drew1 | refine below_set ?_ GE101.out | refine below_set ?_ GE102.out | refine below_set ?_ GE109.out) | exact HB.out))⟩)
                        · skip
                          refine box_step ?hg (N := 6) ?hd (cs := #[.bool false, .string (⟨#[]⟩ : ByteArray), .int .i64 0]) (t := 23) ?hr ?_; (case hd => rfl); (case hg => rfl); (case hr => first | (go_simp; done) | (go_simp; rfl))
                          intro gb110 hg w9 hbox hb
                          have n0_ := Aside0.mk (blk_below (g := gb101) (o := .cells #[.bool a0_0, .string a0_1, .int .i64 a0_2] 23 (0, 0)) (by (with_reducible repeat (first | refine blk_drewN ?_ _ | refine blk_drew ?_ | refine blk_alloc ?_ _)); exact BK101.out) hb)
                          have n1_ := Aside0.mk (blk_below (g := gb102) (o := .cells #[.bool a1_0, .string a1_1, .int .i64 a1_2] 23 (0, 0)) (by (with_reducible repeat (first | refine blk_drewN ?_ _ | refine blk_drew ?_ | refine blk_alloc ?_ _)); exact BK102.out) hb)
                          have n2_ := Aside0.mk (below_step (by repeat (first | (with_reducible first | exact HB.out | apply below_alloc | apply pw_below_drewN | apply below_drew1 | refine below_set ?_ GE101.out | refine below_set ?_ GE102.out) | exact HB.out)) hb)
                          have n3_ := Aside0.mk (hbox)
                          have n4_ := Aside0.mk ((by rw [hg]; exact (below_size (by repeat (first | (with_reducible first | exact HB.out | apply below_alloc | apply pw_below_drewN | apply below_drew1 | refine below_set ?_ GE101.out | refine below_set ?_ GE102.out) | exact HB.out))) : w.heap.size ≤ gb110))
                          have n5_ := Aside0.mk ((by rw [hg]; exact (below_size (by repeat (first | (with_reducible first | exact HB.out | apply below_alloc | apply pw_below_drewN | apply below_drew1 | refine below_set ?_ GE101.out | refine below_set ?_ GE102.out) | exact HB.out))) : w.heap.size ≤ gb110))
                          have n6_ := Aside0.mk ((by rw [hg]; exact Nat.ne_of_lt (blk_lt (g := gb101) (o := .cells #[.bool a0_0, .string a0_1, .int .i64 a0_2] 23 (0, 0)) (by (with_reducible repeat (first | refine blk_drewN ?_ _ | refine blk_drew ?_ | refine blk_alloc ?_ _)); exact BK101.out)) : gb101 ≠ gb110))
                          have n7_ := Aside0.mk ((by rw [hg]; exact Nat.ne_of_gt (blk_lt (g := gb101) (o := .cells #[.bool a0_0, .string a0_1, .int .i64 a0_2] 23 (0, 0)) (by (with_reducible repeat (first | refine blk_drewN ?_ _ | refine blk_drew ?_ | refine blk_alloc ?_ _)); exact BK101.out)) : gb110 ≠ gb101))
                          have n8_ := Aside0.mk ((by rw [hg]; exact Nat.ne_of_lt (blk_lt (g := gb102) (o := .cells #[.bool a1_0, .string a1_1, .int .i64 a1_2] 23 (0, 0)) (by (with_reducible repeat (first | refine blk_drewN ?_ _ | refine blk_drew ?_ | refine blk_alloc ?_ _)); exact BK102.out)) : gb102 ≠ gb110))
                          have n9_ := Aside0.mk ((by rw [hg]; exact Nat.ne_of_gt (blk_lt (g := gb102) (o := .cells #[.bool a1_0, .string a1_1, .int .i64 a1_2] 23 (0, 0)) (by (with_reducible repeat (first | refine blk_drewN ?_ _ | refine blk_drew ?_ | refine blk_alloc ?_ _)); exact BK102.out)) : gb110 ≠ gb102))
                          clear BK101
                          clear BK102
                          clear HB
                          have BK101 := n0_
                          have BK102 := n1_
                          have HB := n2_
                          have BK110 := n3_
                          have GW110 := n4_
                          have GE110 := n5_
                          have NB101_110 := n6_
                          have NB110_101 := n7_
                          have NB102_110 := n8_
                          have NB110_102 := n9_
                          clear n0_ n1_ n2_ n3_ n4_ n5_ n6_ n7_ n8_ n9_
                          clear hb hbox hg
                          refine hK.out _ _ ⟨(blk_cell BK101.out 0).trans rfl, (blk_cell BK101.out 1).trans rfl, (blk_cell BK101.out 2).trans rfl, (blk_cell BK102.out 0).trans rfl, (blk_cell BK102.out 1).trans rfl, (blk_cell BK102.out 2).trans rfl⟩ (fun hHeld => ?_)
                          clear hK K
                          refine norm_ (a' := ?_) ?_ ?_
                          rotate_left
                          · show Act.put _ (some 6) _ = _
                            simp only [Act.put, List.setIfInBounds_toArray, List.set_cons_zero, List.set_cons_succ, i64_w, i32_w]
                            rfl
                          exact norm_ (by first | (simp only [putAll, Act.put, List.setIfInBounds_toArray, List.set_cons_zero, List.set_cons_succ]; done) | (simp only [putAll, Act.put, List.setIfInBounds_toArray, List.set_cons_zero, List.set_cons_succ]; rfl)) (hJ5 (gb110) _ ⟨hHeld, (by (with_reducible repeat (first | refine blk_drewN ?_ _ | refine blk_drew ?_ | refine blk_alloc ?_ _)); exact BK101.out), (by (with_reducible repeat (first | refine blk_drewN ?_ _ | refine blk_drew ?_ | refine blk_alloc ?_ _)); exact BK102.out), (by (with_reducible repeat (first | refine blk_drewN ?_ _ | refine blk_drew ?_ | refine blk_alloc ?_ _)); exact BK110.out), GW110.out, GE110.out, NB101_110.out, NB110_101.out, NB102_110.out, NB110_102.out, (by repeat (first | (with_reducible first | exact HB.out | apply below_alloc | apply pw_below_drewN | apply below_drew1 | refine below_set ?_ GE101.out | refine below_set ?_ GE102.out | refine below_set ?_ GE110.out) | exact HB.out))⟩)
                      · skip
                        rintro gb110 w10 ⟨hS_, h0_, h1_, h2_, h3_, h4_, h5_, h6_, h7_, h8_, h9_⟩
                        have n0_ : Aside0 (w10.heap[gb101]? = some (.cells #[.bool a0_0, .string a0_1, .int .i64 a0_2] 23 (0, 0))) := ⟨h0_⟩
                        have n1_ : Aside0 (w10.heap[gb102]? = some (.cells #[.bool a1_0, .string a1_1, .int .i64 a1_2] 23 (0, 0))) := ⟨h1_⟩
                        have n2_ : Aside0 (w10.heap[gb110]? = some (.cells #[.bool false, .string (⟨#[]⟩ : ByteArray), .int .i64 0] 23 (0, 0))) := ⟨h2_⟩
                        have n3_ : Aside0 (w.heap.size ≤ gb110) := ⟨h3_⟩
                        have n4_ : Aside0 (w.heap.size ≤ gb110) := ⟨h4_⟩
                        have n5_ : Aside0 (gb101 ≠ gb110) := ⟨h5_⟩
                        have n6_ : Aside0 (gb110 ≠ gb101) := ⟨h6_⟩
                        have n7_ : Aside0 (gb102 ≠ gb110) := ⟨h7_⟩
                        have n8_ : Aside0 (gb110 ≠ gb102) := ⟨h8_⟩
                        have n9_ : Aside0 (Below w.heap.size w w10) := ⟨h9_⟩
                        clear BK101
                        clear BK102
                        clear HB
                        clear h0_ h1_ h2_ h3_ h4_ h5_ h6_ h7_ h8_ h9_
                        have BK101 := n0_
                        have BK102 := n1_
                        have BK110 := n2_
                        have GW110 := n3_
                        have GE110 := n4_
                        have NB101_110 := n5_
                        have NB110_101 := n6_
                        have NB102_110 := n7_
                        have NB110_102 := n8_
                        have HB := n9_
                        clear n0_ n1_ n2_ n3_ n4_ n5_ n6_ n7_ n8_ n9_
                        have hHeld : w10.cell? ⟨gb101, 0, none⟩ = some (.bool a0_0) ∧ w10.cell? ⟨gb101, 1, none⟩ = some (.string a0_1) ∧ w10.cell? ⟨gb101, 2, none⟩ = some (.int .i64 a0_2) ∧ w10.cell? ⟨gb102, 0, none⟩ = some (.bool a1_0) ∧ w10.cell? ⟨gb102, 1, none⟩ = some (.string a1_1) ∧ w10.cell? ⟨gb102, 2, none⟩ = some (.int .i64 a1_2) := hS_
                        refine norm_ (a' := ?_) ?_ ?_
                        rotate_left
                        · simp only [putAll, Act.put, List.setIfInBounds_toArray, List.set_cons_zero, List.set_cons_succ]
                          rfl
                        refine two_ (i := 1) (j := 4) (Ni := some 8) (Nj := some 5) #[true, true, true, false, false, true, false, false] #[true, false, true, false, true, true, false, false] rfl rfl rfl rfl (two_of HT_.out (by kernel_rfl)) (by decide) (by decide) (fun K hK => ?_) (fun K hK => ?_)
                        · skip
                          refine goes_ Tryd.func25 (by kernel_rfl) rfl #[.agg #[.bool a0_0, .string a0_1, .int .i64 a0_2]] (by rfl) rfl rfl (by (try simp only [List.map_toArray, List.map_cons, List.map_nil]); first | done | rfl | (simp only [List.length_drop, List.length_take]; rfl)) ?_
                          with_reducible refine (orthoepyref10_Norm.calls a0_0 a0_1 a0_2 t103 t104 t105 _ A3.out).mono ?_
                          rintro e w11 ⟨rfl, hb⟩
                          refine ⟨_, rfl, ?_⟩
                          have n0_ := Aside0.mk (blk_below (g := gb101) (o := .cells #[.bool a0_0, .string a0_1, .int .i64 a0_2] 23 (0, 0)) (by (with_reducible repeat (first | refine blk_drewN ?_ _ | refine blk_drew ?_ | refine blk_alloc ?_ _)); exact BK101.out) hb)
                          have n1_ := Aside0.mk (blk_below (g := gb102) (o := .cells #[.bool a1_0, .string a1_1, .int .i64 a1_2] 23 (0, 0)) (by (with_reducible repeat (first | refine blk_drewN ?_ _ | refine blk_drew ?_ | refine blk_alloc ?_ _)); exact BK102.out) hb)
                          have n2_ := Aside0.mk (blk_below (g := gb110) (o := .cells #[.bool false, .string (⟨#[]⟩ : ByteArray), .int .i64 0] 23 (0, 0)) (by (with_reducible repeat (first | refine blk_drewN ?_ _ | refine blk_drew ?_ | refine blk_alloc ?_ _)); exact BK110.out) hb)
                          have n3_ := Aside0.mk (below_step (by repeat (first | (with_reducible first | exact HB.out | apply below_alloc | apply pw_below_drewN | apply below_drew1 | refine below_set ?_ GE101.out | refine below_set ?_ GE102.out | refine below_set ?_ GE110.out) | exact HB.out)) hb)
                          clear BK101
                          clear BK102
                          clear BK110
                          clear HB
                          have BK101 := n0_
                          have BK102 := n1_
                          have BK110 := n2_
                          have HB := n3_
                          clear n0_ n1_ n2_ n3_
                          (try clear hb)
                          (try clear hb2)
                          (try clear hk)
                          (try clear hi)
                          refine hK.out _ _ ⟨(blk_cell BK101.out 0).trans rfl, (blk_cell BK101.out 1).trans rfl, (blk_cell BK101.out 2).trans rfl, (blk_cell BK102.out 0).trans rfl, (blk_cell BK102.out 1).trans rfl, (blk_cell BK102.out 2).trans rfl⟩ (fun hHeld => ?_)
                          clear hK K
                          refine norm_ (a' := ?_) ?_ ?_
                          rotate_left
                          · show Act.put _ (some 8) _ = _
                            simp only [Act.put, List.setIfInBounds_toArray, List.set_cons_zero, List.set_cons_succ, i64_w, i32_w]
                            rfl
                          exact norm_ (by first | (simp only [putAll, Act.put, List.setIfInBounds_toArray, List.set_cons_zero, List.set_cons_succ]; done) | (simp only [putAll, Act.put, List.setIfInBounds_toArray, List.set_cons_zero, List.set_cons_succ]; rfl)) (hJ1_5 (gb110) _ ⟨hHeld, (by (with_reducible repeat (first | refine blk_drewN ?_ _ | refine blk_drew ?_ | refine blk_alloc ?_ _)); exact BK101.out), (by (with_reducible repeat (first | refine blk_drewN ?_ _ | refine blk_drew ?_ | refine blk_alloc ?_ _)); exact BK102.out), (by (with_reducible repeat (first | refine blk_drewN ?_ _ | refine blk_drew ?_ | refine blk_alloc ?_ _)); exact BK110.out), GW110.out, GE110.out, NB101_110.out, NB110_101.out, NB102_110.out, NB110_102.out, (by repeat (first | (with_reducible first | exact HB.out | apply below_alloc | apply pw_below_drewN | apply below_drew1 | refine below_set ?_ GE101.out | refine below_set ?_ GE102.out | refine below_set ?_ GE110.out) | exact HB.out))⟩)
                        · skip
                          refine box_step ?hg (N := 5) ?hd (cs := #[.bool false, .string (⟨#[]⟩ : ByteArray), .int .i64 0]) (t := 23) ?hr ?_; (case hd => rfl); (case hg => rfl); (case hr => first | (go_simp; done) | (go_simp; rfl))
                          intro gb109 hg w11 hbox hb
                          have n0_ := Aside0.mk (blk_below (g := gb101) (o := .cells #[.bool a0_0, .string a0_1, .int .i64 a0_2] 23 (0, 0)) (by (with_reducible repeat (first | refine blk_drewN ?_ _ | refine blk_drew ?_ | refine blk_alloc ?_ _)); exact BK101.out) hb)
                          have n1_ := Aside0.mk (blk_below (g := gb102) (o := .cells #[.bool a1_0, .string a1_1, .int .i64 a1_2] 23 (0, 0)) (by (with_reducible repeat (first | refine blk_drewN ?_ _ | refine blk_drew ?_ | refine blk_alloc ?_ _)); exact BK102.out) hb)
                          have n2_ := Aside0.mk (blk_below (g := gb110) (o := .cells #[.bool false, .string (⟨#[]⟩ : ByteArray), .int .i64 0] 23 (0, 0)) (by (with_reducible repeat (first | refine blk_drewN ?_ _ | refine blk_drew ?_ | refine blk_alloc ?_ _)); exact BK110.out) hb)
                          have n3_ := Aside0.mk (below_step (by repeat (first | (with_reducible first | exact HB.out | apply below_alloc | apply pw_below_drewN | apply below_drew1 | refine below_set ?_ GE101.out | refine below_set ?_ GE102.out | refine below_set ?_ GE110.out) | exact HB.out)) hb)
                          have n4_ := Aside0.mk (hbox)
                          have n5_ := Aside0.mk ((by rw [hg]; exact (below_size (by repeat (first | (with_reducible first | exact HB.out | apply below_alloc | apply pw_below_drewN | apply below_drew1 | refine below_set ?_ GE101.out | refine below_set ?_ GE102.out | refine below_set ?_ GE110.out) | exact HB.out))) : w.heap.size ≤ gb109))
                          have n6_ := Aside0.mk ((by rw [hg]; exact (below_size (by repeat (first | (with_reducible first | exact HB.out | apply below_alloc | apply pw_below_drewN | apply below_drew1 | refine below_set ?_ GE101.out | refine below_set ?_ GE102.out | refine below_set ?_ GE110.out) | exact HB.out))) : w.heap.size ≤ gb109))
                          have n7_ := Aside0.mk ((by rw [hg]; exact Nat.ne_of_lt (blk_lt (g := gb101) (o := .cells #[.bool a0_0, .string a0_1, .int .i64 a0_2] 23 (0, 0)) (by (with_reducible repeat (first | refine blk_drewN ?_ _ | refine blk_drew ?_ | refine blk_alloc ?_ _)); exact BK101.out)) : gb101 ≠ gb109))
                          have n8_ := Aside0.mk ((by rw [hg]; exact Nat.ne_of_gt (blk_lt (g := gb101) (o := .cells #[.bool a0_0, .string a0_1, .int .i64 a0_2] 23 (0, 0)) (by (with_reducible repeat (first | refine blk_drewN ?_ _ | refine blk_drew ?_ | refine blk_alloc ?_ _)); exact BK101.out)) : gb109 ≠ gb101))
                          have n9_ := Aside0.mk ((by rw [hg]; exact Nat.ne_of_lt (blk_lt (g := gb102) (o := .cells #[.bool a1_0, .string a1_1, .int .i64 a1_2] 23 (0, 0)) (by (with_reducible repeat (first | refine blk_drewN ?_ _ | refine blk_drew ?_ | refine blk_alloc ?_ _)); exact BK102.out)) : gb102 ≠ gb109))
                          have n10_ := Aside0.mk ((by rw [hg]; exact Nat.ne_of_gt (blk_lt (g := gb102) (o := .cells #[.bool a1_0, .string a1_1, .int .i64 a1_2] 23 (0, 0)) (by (with_reducible repeat (first | refine blk_drewN ?_ _ | refine blk_drew ?_ | refine blk_alloc ?_ _)); exact BK102.out)) : gb109 ≠ gb102))
                          have n11_ := Aside0.mk ((by rw [hg]; exact Nat.ne_of_lt (blk_lt (g := gb110) (o := .cells #[.bool false, .string (⟨#[]⟩ : ByteArray), .int .i64 0] 23 (0, 0)) (by (with_reducible repeat (first | refine blk_drewN ?_ _ | refine blk_drew ?_ | refine blk_alloc ?_ _)); exact BK110.out)) : gb110 ≠ gb109))
                          have n12_ := Aside0.mk ((by rw [hg]; exact Nat.ne_of_gt (blk_lt (g := gb110) (o := .cells #[.bool false, .string (⟨#[]⟩ : ByteArray), .int .i64 0] 23 (0, 0)) (by (with_reducible repeat (first | refine blk_drewN ?_ _ | refine blk_drew ?_ | refine blk_alloc ?_ _)); exact BK110.out)) : gb109 ≠ gb110))
                          clear BK101
                          clear BK102
                          clear BK110
                          clear HB
                          have BK101 := n0_
                          have BK102 := n1_
                          have BK110 := n2_
                          have HB := n3_
                          have BK109 := n4_
                          have GW109 := n5_
                          have GE109 := n6_
                          have NB101_109 := n7_
                          have NB109_101 := n8_
                          have NB102_109 := n9_
                          have NB109_102 := n10_
                          have NB110_109 := n11_
                          have NB109_110 := n12_
                          clear n0_ n1_ n2_ n3_ n4_ n5_ n6_ n7_ n8_ n9_ n10_ n11_ n12_
                          clear hb hbox hg
                          refine hK.out _ _ ⟨(blk_cell BK101.out 0).trans rfl, (blk_cell BK101.out 1).trans rfl, (blk_cell BK101.out 2).trans rfl, (blk_cell BK102.out 0).trans rfl, (blk_cell BK102.out 1).trans rfl, (blk_cell BK102.out 2).trans rfl⟩ (fun hHeld => ?_)
                          clear hK K
                          refine norm_ (a' := ?_) ?_ ?_
                          rotate_left
                          · show Act.put _ (some 5) _ = _
                            simp only [Act.put, List.setIfInBounds_toArray, List.set_cons_zero, List.set_cons_succ, i64_w, i32_w]
                            rfl
                          exact norm_ (by first | (simp only [putAll, Act.put, List.setIfInBounds_toArray, List.set_cons_zero, List.set_cons_succ]; done) | (simp only [putAll, Act.put, List.setIfInBounds_toArray, List.set_cons_zero, List.set_cons_succ]; rfl)) (hJ4_5 (gb109, gb110) _ ⟨hHeld, (by (with_reducible repeat (first | refine blk_drewN ?_ _ | refine blk_drew ?_ | refine blk_alloc ?_ _)); exact BK101.out), (by (with_reducible repeat (first | refine blk_drewN ?_ _ | refine blk_drew ?_ | refine blk_alloc ?_ _)); exact BK102.out), (by (with_reducible repeat (first | refine blk_drewN ?_ _ | refine blk_drew ?_ | refine blk_alloc ?_ _)); exact BK109.out), (by (with_reducible repeat (first | refine blk_drewN ?_ _ | refine blk_drew ?_ | refine blk_alloc ?_ _)); exact BK110.out), GW109.out, GE109.out, NB101_109.out, NB109_101.out, NB102_109.out, NB109_102.out, NB110_109.out, NB109_110.out, GW110.out, GE110.out, NB101_110.out, NB110_101.out, NB102_110.out, NB110_102.out, (by repeat (first | (with_reducible first | exact HB.out | apply below_alloc | apply pw_below_drewN | apply below_drew1 | refine below_set ?_ GE101.out | refine below_set ?_ GE102.out | refine below_set ?_ GE110.out | refine below_set ?_ GE109.out) | exact HB.out))⟩)
                    · skip
                      rintro gb109 w10 ⟨hS_, h0_, h1_, h2_, h3_, h4_, h5_, h6_, h7_, h8_, h9_⟩
                      have n0_ : Aside0 (w10.heap[gb101]? = some (.cells #[.bool a0_0, .string a0_1, .int .i64 a0_2] 23 (0, 0))) := ⟨h0_⟩
                      have n1_ : Aside0 (w10.heap[gb102]? = some (.cells #[.bool a1_0, .string a1_1, .int .i64 a1_2] 23 (0, 0))) := ⟨h1_⟩
                      have n2_ : Aside0 (w10.heap[gb109]? = some (.cells #[.bool false, .string (⟨#[]⟩ : ByteArray), .int .i64 0] 23 (0, 0))) := ⟨h2_⟩
                      have n3_ : Aside0 (w.heap.size ≤ gb109) := ⟨h3_⟩
                      have n4_ : Aside0 (w.heap.size ≤ gb109) := ⟨h4_⟩
                      have n5_ : Aside0 (gb101 ≠ gb109) := ⟨h5_⟩
                      have n6_ : Aside0 (gb109 ≠ gb101) := ⟨h6_⟩
                      have n7_ : Aside0 (gb102 ≠ gb109) := ⟨h7_⟩
                      have n8_ : Aside0 (gb109 ≠ gb102) := ⟨h8_⟩
                      have n9_ : Aside0 (Below w.heap.size w w10) := ⟨h9_⟩
                      clear BK101
                      clear BK102
                      clear HB
                      clear h0_ h1_ h2_ h3_ h4_ h5_ h6_ h7_ h8_ h9_
                      have BK101 := n0_
                      have BK102 := n1_
                      have BK109 := n2_
                      have GW109 := n3_
                      have GE109 := n4_
                      have NB101_109 := n5_
                      have NB109_101 := n6_
                      have NB102_109 := n7_
                      have NB109_102 := n8_
                      have HB := n9_
                      clear n0_ n1_ n2_ n3_ n4_ n5_ n6_ n7_ n8_ n9_
                      have hHeld : w10.cell? ⟨gb101, 0, none⟩ = some (.bool a0_0) ∧ w10.cell? ⟨gb101, 1, none⟩ = some (.string a0_1) ∧ w10.cell? ⟨gb101, 2, none⟩ = some (.int .i64 a0_2) ∧ w10.cell? ⟨gb102, 0, none⟩ = some (.bool a1_0) ∧ w10.cell? ⟨gb102, 1, none⟩ = some (.string a1_1) ∧ w10.cell? ⟨gb102, 2, none⟩ = some (.int .i64 a1_2) := hS_
                      refine norm_ (a' := ?_) ?_ ?_
                      rotate_left
                      · simp only [putAll, Act.put, List.setIfInBounds_toArray, List.set_cons_zero, List.set_cons_succ]
                        rfl
                      refine two_ (i := 1) (j := 5) (Ni := some 8) (Nj := some 6) #[true, true, true, false, true, false, false, false] #[true, false, true, false, true, true, false, false] rfl rfl rfl rfl (two_of HT_.out (by kernel_rfl)) (by decide) (by decide) (fun K hK => ?_) (fun K hK => ?_)
                      · skip
                        refine goes_ Tryd.func25 (by kernel_rfl) rfl #[.agg #[.bool a0_0, .string a0_1, .int .i64 a0_2]] (by rfl) rfl rfl (by (try simp only [List.map_toArray, List.map_cons, List.map_nil]); first | done | rfl | (simp only [List.length_drop, List.length_take]; rfl)) ?_
                        with_reducible refine (orthoepyref10_Norm.calls a0_0 a0_1 a0_2 t103 t104 t105 _ A3.out).mono ?_
                        rintro e w11 ⟨rfl, hb⟩
                        refine ⟨_, rfl, ?_⟩
                        have n0_ := Aside0.mk (blk_below (g := gb101) (o := .cells #[.bool a0_0, .string a0_1, .int .i64 a0_2] 23 (0, 0)) (by (with_reducible repeat (first | refine blk_drewN ?_ _ | refine blk_drew ?_ | refine blk_alloc ?_ _)); exact BK101.out) hb)
                        have n1_ := Aside0.mk (blk_below (g := gb102) (o := .cells #[.bool a1_0, .string a1_1, .int .i64 a1_2] 23 (0, 0)) (by (with_reducible repeat (first | refine blk_drewN ?_ _ | refine blk_drew ?_ | refine blk_alloc ?_ _)); exact BK102.out) hb)
                        have n2_ := Aside0.mk (blk_below (g := gb109) (o := .cells #[.bool false, .string (⟨#[]⟩ : ByteArray), .int .i64 0] 23 (0, 0)) (by (with_reducible repeat (first | refine blk_drewN ?_ _ | refine blk_drew ?_ | refine blk_alloc ?_ _)); exact BK109.out) hb)
                        have n3_ := Aside0.mk (below_step (by repeat (first | (with_reducible first | exact HB.out | apply below_alloc | apply pw_below_drewN | apply below_drew1 | refine below_set ?_ GE101.out | refine below_set ?_ GE102.out | refine below_set ?_ GE109.out) | exact HB.out)) hb)
                        clear BK101
                        clear BK102
                        clear BK109
                        clear HB
                        have BK101 := n0_
                        have BK102 := n1_
                        have BK109 := n2_
                        have HB := n3_
                        clear n0_ n1_ n2_ n3_
                        (try clear hb)
                        (try clear hb2)
                        (try clear hk)
                        (try clear hi)
                        refine hK.out _ _ ⟨(blk_cell BK101.out 0).trans rfl, (blk_cell BK101.out 1).trans rfl, (blk_cell BK101.out 2).trans rfl, (blk_cell BK102.out 0).trans rfl, (blk_cell BK102.out 1).trans rfl, (blk_cell BK102.out 2).trans rfl⟩ (fun hHeld => ?_)
                        clear hK K
                        refine norm_ (a' := ?_) ?_ ?_
                        rotate_left
                        · show Act.put _ (some 8) _ = _
                          simp only [Act.put, List.setIfInBounds_toArray, List.set_cons_zero, List.set_cons_succ, i64_w, i32_w]
                          rfl
                        exact norm_ (by first | (simp only [putAll, Act.put, List.setIfInBounds_toArray, List.set_cons_zero, List.set_cons_succ]; done) | (simp only [putAll, Act.put, List.setIfInBounds_toArray, List.set_cons_zero, List.set_cons_succ]; rfl)) (hJ1_4 (gb109) _ ⟨hHeld, (by (with_reducible repeat (first | refine blk_drewN ?_ _ | refine blk_drew ?_ | refine blk_alloc ?_ _)); exact BK101.out), (by (with_reducible repeat (first | refine blk_drewN ?_ _ | refine blk_drew ?_ | refine blk_alloc ?_ _)); exact BK102.out), (by (with_reducible repeat (first | refine blk_drewN ?_ _ | refine blk_drew ?_ | refine blk_alloc ?_ _)); exact BK109.out), GW109.out, GE109.out, NB101_109.out, NB109_101.out, NB102_109.out, NB109_102.out, (by repeat (first | (with_reducible first | exact HB.out | apply below_alloc | apply pw_below_drewN | apply below_drew1 | refine below_set ?_ GE101.out | refine below_set ?_ GE102.out | refine below_set ?_ GE109.out) | exact HB.out))⟩)
                      · skip
                        refine box_step ?hg (N := 6) ?hd (cs := #[.bool false, .string (⟨#[]⟩ : ByteArray), .int .i64 0]) (t := 23) ?hr ?_; (case hd => rfl); (case hg => rfl); (case hr => first | (go_simp; done) | (go_simp; rfl))
                        intro gb110 hg w11 hbox hb
                        have n0_ := Aside0.mk (blk_below (g := gb101) (o := .cells #[.bool a0_0, .string a0_1, .int .i64 a0_2] 23 (0, 0)) (by (with_reducible repeat (first | refine blk_drewN ?_ _ | refine blk_drew ?_ | refine blk_alloc ?_ _)); exact BK101.out) hb)
                        have n1_ := Aside0.mk (blk_below (g := gb102) (o := .cells #[.bool a1_0, .string a1_1, .int .i64 a1_2] 23 (0, 0)) (by (with_reducible repeat (first | refine blk_drewN ?_ _ | refine blk_drew ?_ | refine blk_alloc ?_ _)); exact BK102.out) hb)
                        have n2_ := Aside0.mk (blk_below (g := gb109) (o := .cells #[.bool false, .string (⟨#[]⟩ : ByteArray), .int .i64 0] 23 (0, 0)) (by (with_reducible repeat (first | refine blk_drewN ?_ _ | refine blk_drew ?_ | refine blk_alloc ?_ _)); exact BK109.out) hb)
                        have n3_ := Aside0.mk (below_step (by repeat (first | (with_reducible first | exact HB.out | apply below_alloc | apply pw_below_drewN | apply below_drew1 | refine below_set ?_ GE101.out | refine below_set ?_ GE102.out | refine below_set ?_ GE109.out) | exact HB.out)) hb)
                        have n4_ := Aside0.mk (hbox)
                        have n5_ := Aside0.mk ((by rw [hg]; exact (below_size (by repeat (first | (with_reducible first | exact HB.out | apply below_alloc | apply pw_below_drewN | apply below_drew1 | refine below_set ?_ GE101.out | refine below_set ?_ GE102.out | refine below_set ?_ GE109.out) | exact HB.out))) : w.heap.size ≤ gb110))
                        have n6_ := Aside0.mk ((by rw [hg]; exact (below_size (by repeat (first | (with_reducible first | exact HB.out | apply below_alloc | apply pw_below_drewN | apply below_drew1 | refine below_set ?_ GE101.out | refine below_set ?_ GE102.out | refine below_set ?_ GE109.out) | exact HB.out))) : w.heap.size ≤ gb110))
                        have n7_ := Aside0.mk ((by rw [hg]; exact Nat.ne_of_lt (blk_lt (g := gb101) (o := .cells #[.bool a0_0, .string a0_1, .int .i64 a0_2] 23 (0, 0)) (by (with_reducible repeat (first | refine blk_drewN ?_ _ | refine blk_drew ?_ | refine blk_alloc ?_ _)); exact BK101.out)) : gb101 ≠ gb110))
                        have n8_ := Aside0.mk ((by rw [hg]; exact Nat.ne_of_gt (blk_lt (g := gb101) (o := .cells #[.bool a0_0, .string a0_1, .int .i64 a0_2] 23 (0, 0)) (by (with_reducible repeat (first | refine blk_drewN ?_ _ | refine blk_drew ?_ | refine blk_alloc ?_ _)); exact BK101.out)) : gb110 ≠ gb101))
                        have n9_ := Aside0.mk ((by rw [hg]; exact Nat.ne_of_lt (blk_lt (g := gb102) (o := .cells #[.bool a1_0, .string a1_1, .int .i64 a1_2] 23 (0, 0)) (by (with_reducible repeat (first | refine blk_drewN ?_ _ | refine blk_drew ?_ | refine blk_alloc ?_ _)); exact BK102.out)) : gb102 ≠ gb110))
                        have n10_ := Aside0.mk ((by rw [hg]; exact Nat.ne_of_gt (blk_lt (g := gb102) (o := .cells #[.bool a1_0, .string a1_1, .int .i64 a1_2] 23 (0, 0)) (by (with_reducible repeat (first | refine blk_drewN ?_ _ | refine blk_drew ?_ | refine blk_alloc ?_ _)); exact BK102.out)) : gb110 ≠ gb102))
                        have n11_ := Aside0.mk ((by rw [hg]; exact Nat.ne_of_lt (blk_lt (g := gb109) (o := .cells #[.bool false, .string (⟨#[]⟩ : ByteArray), .int .i64 0] 23 (0, 0)) (by (with_reducible repeat (first | refine blk_drewN ?_ _ | refine blk_drew ?_ | refine blk_alloc ?_ _)); exact BK109.out)) : gb109 ≠ gb110))
                        have n12_ := Aside0.mk ((by rw [hg]; exact Nat.ne_of_gt (blk_lt (g := gb109) (o := .cells #[.bool false, .string (⟨#[]⟩ : ByteArray), .int .i64 0] 23 (0, 0)) (by (with_reducible repeat (first | refine blk_drewN ?_ _ | refine blk_drew ?_ | refine blk_alloc ?_ _)); exact BK109.out)) : gb110 ≠ gb109))
                        clear BK101
                        clear BK102
                        clear BK109
                        clear HB
                        have BK101 := n0_
                        have BK102 := n1_
                        have BK109 := n2_
                        have HB := n3_
                        have BK110 := n4_
                        have GW110 := n5_
                        have GE110 := n6_
                        have NB101_110 := n7_
                        have NB110_101 := n8_
                        have NB102_110 := n9_
                        have NB110_102 := n10_
                        have NB109_110 := n11_
                        have NB110_109 := n12_
                        clear n0_ n1_ n2_ n3_ n4_ n5_ n6_ n7_ n8_ n9_ n10_ n11_ n12_
                        clear hb hbox hg
                        refine hK.out _ _ ⟨(blk_cell BK101.out 0).trans rfl, (blk_cell BK101.out 1).trans rfl, (blk_cell BK101.out 2).trans rfl, (blk_cell BK102.out 0).trans rfl, (blk_cell BK102.out 1).trans rfl, (blk_cell BK102.out 2).trans rfl⟩ (fun hHeld => ?_)
                        clear hK K
                        refine norm_ (a' := ?_) ?_ ?_
                        rotate_left
                        · show Act.put _ (some 6) _ = _
                          simp only [Act.put, List.setIfInBounds_toArray, List.set_cons_zero, List.set_cons_succ, i64_w, i32_w]
                          rfl
                        exact norm_ (by first | (simp only [putAll, Act.put, List.setIfInBounds_toArray, List.set_cons_zero, List.set_cons_succ]; done) | (simp only [putAll, Act.put, List.setIfInBounds_toArray, List.set_cons_zero, List.set_cons_succ]; rfl)) (hJ4_5 (gb109, gb110) _ ⟨hHeld, (by (with_reducible repeat (first | refine blk_drewN ?_ _ | refine blk_drew ?_ | refine blk_alloc ?_ _)); exact BK101.out), (by (with_reducible repeat (first | refine blk_drewN ?_ _ | refine blk_drew ?_ | refine blk_alloc ?_ _)); exact BK102.out), (by (with_reducible repeat (first | refine blk_drewN ?_ _ | refine blk_drew ?_ | refine blk_alloc ?_ _)); exact BK109.out), (by (with_reducible repeat (first | refine blk_drewN ?_ _ | refine blk_drew ?_ | refine blk_alloc ?_ _)); exact BK110.out), GW109.out, GE109.out, NB101_109.out, NB109_101.out, NB102_109.out, NB109_102.out, NB110_109.out, NB109_110.out, GW110.out, GE110.out, NB101_110.out, NB110_101.out, NB102_110.out, NB110_102.out, (by repeat (first | (with_reducible first | exact HB.out | apply below_alloc | apply pw_below_drewN | apply below_drew1 | refine below_set ?_ GE101.out | refine below_set ?_ GE102.out | refine below_set ?_ GE109.out | refine below_set ?_ GE110.out) | exact HB.out))⟩)
                  · skip
                    rintro _ w10 ⟨hS_, h0_, h1_, h2_⟩
                    have n0_ : Aside0 (w10.heap[gb101]? = some (.cells #[.bool a0_0, .string a0_1, .int .i64 a0_2] 23 (0, 0))) := ⟨h0_⟩
                    have n1_ : Aside0 (w10.heap[gb102]? = some (.cells #[.bool a1_0, .string a1_1, .int .i64 a1_2] 23 (0, 0))) := ⟨h1_⟩
                    have n2_ : Aside0 (Below w.heap.size w w10) := ⟨h2_⟩
                    clear BK101
                    clear BK102
                    clear HB
                    clear h0_ h1_ h2_
                    have BK101 := n0_
                    have BK102 := n1_
                    have HB := n2_
                    clear n0_ n1_ n2_
                    have hHeld : w10.cell? ⟨gb101, 0, none⟩ = some (.bool a0_0) ∧ w10.cell? ⟨gb101, 1, none⟩ = some (.string a0_1) ∧ w10.cell? ⟨gb101, 2, none⟩ = some (.int .i64 a0_2) ∧ w10.cell? ⟨gb102, 0, none⟩ = some (.bool a1_0) ∧ w10.cell? ⟨gb102, 1, none⟩ = some (.string a1_1) ∧ w10.cell? ⟨gb102, 2, none⟩ = some (.int .i64 a1_2) := hS_
                    refine norm_ (a' := ?_) ?_ ?_
                    rotate_left
                    · simp only [putAll, Act.put, List.setIfInBounds_toArray, List.set_cons_zero, List.set_cons_succ]
                      rfl
                    refine three_ (i := 3) (j := 4) (k := 5) (Ni := some 10) (Nj := some 5) (Nk := some 6) #[true, true, true, true, false, false, false, false] #[true, true, true, false, true, false, false, false] #[true, true, true, false, false, true, false, false] rfl rfl rfl rfl rfl rfl (three_of HT_.out (by kernel_rfl)) (by decide) (by decide) (by decide) (fun K hK => ?_) (fun K hK => ?_) (fun K hK => ?_)
                    · skip
                      refine goes_ Tryd.func25 (by kernel_rfl) rfl #[.agg #[.bool a1_0, .string a1_1, .int .i64 a1_2]] (by rfl) rfl rfl (by (try simp only [List.map_toArray, List.map_cons, List.map_nil]); first | done | rfl | (simp only [List.length_drop, List.length_take]; rfl)) ?_
                      with_reducible refine (orthoepyref10_Norm.calls a1_0 a1_1 a1_2 t106 t107 t108 _ A4.out).mono ?_
                      rintro e w11 ⟨rfl, hb⟩
                      refine ⟨_, rfl, ?_⟩
                      have n0_ := Aside0.mk (blk_below (g := gb101) (o := .cells #[.bool a0_0, .string a0_1, .int .i64 a0_2] 23 (0, 0)) (by (with_reducible repeat (first | refine blk_drewN ?_ _ | refine blk_drew ?_ | refine blk_alloc ?_ _)); exact BK101.out) hb)
                      have n1_ := Aside0.mk (blk_below (g := gb102) (o := .cells #[.bool a1_0, .string a1_1, .int .i64 a1_2] 23 (0, 0)) (by (with_reducible repeat (first | refine blk_drewN ?_ _ | refine blk_drew ?_ | refine blk_alloc ?_ _)); exact BK102.out) hb)
                      have n2_ := Aside0.mk (below_step (by repeat (first | (with_reducible first | exact HB.out | apply below_alloc | apply pw_below_drewN | apply below_drew1 | refine below_set ?_ GE101.out | refine below_set ?_ GE102.out) | exact HB.out)) hb)
                      clear BK101
                      clear BK102
                      clear HB
                      have BK101 := n0_
                      have BK102 := n1_
                      have HB := n2_
                      clear n0_ n1_ n2_
                      (try clear hb)
                      (try clear hb2)
                      (try clear hk)
                      (try clear hi)
                      refine hK.out _ _ ⟨(blk_cell BK101.out 0).trans rfl, (blk_cell BK101.out 1).trans rfl, (blk_cell BK101.out 2).trans rfl, (blk_cell BK102.out 0).trans rfl, (blk_cell BK102.out 1).trans rfl, (blk_cell BK102.out 2).trans rfl⟩ (fun hHeld => ?_)
                      clear hK K
                      refine norm_ (a' := ?_) ?_ ?_
                      rotate_left
                      · show Act.put _ (some 10) _ = _
                        simp only [Act.put, List.setIfInBounds_toArray, List.set_cons_zero, List.set_cons_succ, i64_w, i32_w]
                        rfl
                      exact norm_ (by first | (simp only [putAll, Act.put, List.setIfInBounds_toArray, List.set_cons_zero, List.set_cons_succ]; done) | (simp only [putAll, Act.put, List.setIfInBounds_toArray, List.set_cons_zero, List.set_cons_succ]; rfl)) (hJ1_3 () _ ⟨hHeld, (by (with_reducible repeat (first | refine blk_drewN ?_ _ | refine blk_drew ?_ | refine blk_alloc ?_ _)); exact BK101.out), (by (with_reducible repeat (first | refine blk_drewN ?_ _ | refine blk_drew ?_ | refine blk_alloc ?_ _)); exact BK102.out), (by repeat (first | (with_reducible first | exact HB.out | apply below_alloc | apply pw_below_drewN | apply below_drew1 | refine below_set ?_ GE101.out | refine below_set ?_ GE102.out) | exact HB.out))⟩)
                    · skip
                      refine box_step ?hg (N := 5) ?hd (cs := #[.bool false, .string (⟨#[]⟩ : ByteArray), .int .i64 0]) (t := 23) ?hr ?_; (case hd => rfl); (case hg => rfl); (case hr => first | (go_simp; done) | (go_simp; rfl))
                      intro gb109 hg w11 hbox hb
                      have n0_ := Aside0.mk (blk_below (g := gb101) (o := .cells #[.bool a0_0, .string a0_1, .int .i64 a0_2] 23 (0, 0)) (by (with_reducible repeat (first | refine blk_drewN ?_ _ | refine blk_drew ?_ | refine blk_alloc ?_ _)); exact BK101.out) hb)
                      have n1_ := Aside0.mk (blk_below (g := gb102) (o := .cells #[.bool a1_0, .string a1_1, .int .i64 a1_2] 23 (0, 0)) (by (with_reducible repeat (first | refine blk_drewN ?_ _ | refine blk_drew ?_ | refine blk_alloc ?_ _)); exact BK102.out) hb)
                      have n2_ := Aside0.mk (below_step (by repeat (first | (with_reducible first | exact HB.out | apply below_alloc | apply pw_below_drewN | apply below_drew1 | refine below_set ?_ GE101.out | refine below_set ?_ GE102.out) | exact HB.out)) hb)
                      have n3_ := Aside0.mk (hbox)
                      have n4_ := Aside0.mk ((by rw [hg]; exact (below_size (by repeat (first | (with_reducible first | exact HB.out | apply below_alloc | apply pw_below_drewN | apply below_drew1 | refine below_set ?_ GE101.out | refine below_set ?_ GE102.out) | exact HB.out))) : w.heap.size ≤ gb109))
                      have n5_ := Aside0.mk ((by rw [hg]; exact (below_size (by repeat (first | (with_reducible first | exact HB.out | apply below_alloc | apply pw_below_drewN | apply below_drew1 | refine below_set ?_ GE101.out | refine below_set ?_ GE102.out) | exact HB.out))) : w.heap.size ≤ gb109))
                      have n6_ := Aside0.mk ((by rw [hg]; exact Nat.ne_of_lt (blk_lt (g := gb101) (o := .cells #[.bool a0_0, .string a0_1, .int .i64 a0_2] 23 (0, 0)) (by (with_reducible repeat (first | refine blk_drewN ?_ _ | refine blk_drew ?_ | refine blk_alloc ?_ _)); exact BK101.out)) : gb101 ≠ gb109))
                      have n7_ := Aside0.mk ((by rw [hg]; exact Nat.ne_of_gt (blk_lt (g := gb101) (o := .cells #[.bool a0_0, .string a0_1, .int .i64 a0_2] 23 (0, 0)) (by (with_reducible repeat (first | refine blk_drewN ?_ _ | refine blk_drew ?_ | refine blk_alloc ?_ _)); exact BK101.out)) : gb109 ≠ gb101))
                      have n8_ := Aside0.mk ((by rw [hg]; exact Nat.ne_of_lt (blk_lt (g := gb102) (o := .cells #[.bool a1_0, .string a1_1, .int .i64 a1_2] 23 (0, 0)) (by (with_reducible repeat (first | refine blk_drewN ?_ _ | refine blk_drew ?_ | refine blk_alloc ?_ _)); exact BK102.out)) : gb102 ≠ gb109))
                      have n9_ := Aside0.mk ((by rw [hg]; exact Nat.ne_of_gt (blk_lt (g := gb102) (o := .cells #[.bool a1_0, .string a1_1, .int .i64 a1_2] 23 (0, 0)) (by (with_reducible repeat (first | refine blk_drewN ?_ _ | refine blk_drew ?_ | refine blk_alloc ?_ _)); exact BK102.out)) : gb109 ≠ gb102))
                      clear BK101
                      clear BK102
                      clear HB
                      have BK101 := n0_
                      have BK102 := n1_
                      have HB := n2_
                      have BK109 := n3_
                      have GW109 := n4_
                      have GE109 := n5_
                      have NB101_109 := n6_
                      have NB109_101 := n7_
                      have NB102_109 := n8_
                      have NB109_102 := n9_
                      clear n0_ n1_ n2_ n3_ n4_ n5_ n6_ n7_ n8_ n9_
                      clear hb hbox hg
                      refine hK.out _ _ ⟨(blk_cell BK101.out 0).trans rfl, (blk_cell BK101.out 1).trans rfl, (blk_cell BK101.out 2).trans rfl, (blk_cell BK102.out 0).trans rfl, (blk_cell BK102.out 1).trans rfl, (blk_cell BK102.out 2).trans rfl⟩ (fun hHeld => ?_)
                      clear hK K
                      refine norm_ (a' := ?_) ?_ ?_
                      rotate_left
                      · show Act.put _ (some 5) _ = _
                        simp only [Act.put, List.setIfInBounds_toArray, List.set_cons_zero, List.set_cons_succ, i64_w, i32_w]
                        rfl
                      exact norm_ (by first | (simp only [putAll, Act.put, List.setIfInBounds_toArray, List.set_cons_zero, List.set_cons_succ]; done) | (simp only [putAll, Act.put, List.setIfInBounds_toArray, List.set_cons_zero, List.set_cons_succ]; rfl)) (hJ1_4 (gb109) _ ⟨hHeld, (by (with_reducible repeat (first | refine blk_drewN ?_ _ | refine blk_drew ?_ | refine blk_alloc ?_ _)); exact BK101.out), (by (with_reducible repeat (first | refine blk_drewN ?_ _ | refine blk_drew ?_ | refine blk_alloc ?_ _)); exact BK102.out), (by (with_reducible repeat (first | refine blk_drewN ?_ _ | refine blk_drew ?_ | refine blk_alloc ?_ _)); exact BK109.out), GW109.out, GE109.out, NB101_109.out, NB109_101.out, NB102_109.out, NB109_102.out, (by repeat (first | (with_reducible first | exact HB.out | apply below_alloc | apply pw_below_drewN | apply below_drew1 | refine below_set ?_ GE101.out | refine below_set ?_ GE102.out | refine below_set ?_ GE109.out) | exact HB.out))⟩)
                    · skip
                      refine box_step ?hg (N := 6) ?hd (cs := #[.bool false, .string (⟨#[]⟩ : ByteArray), .int .i64 0]) (t := 23) ?hr ?_; (case hd => rfl); (case hg => rfl); (case hr => first | (go_simp; done) | (go_simp; rfl))
                      intro gb110 hg w11 hbox hb
                      have n0_ := Aside0.mk (blk_below (g := gb101) (o := .cells #[.bool a0_0, .string a0_1, .int .i64 a0_2] 23 (0, 0)) (by (with_reducible repeat (first | refine blk_drewN ?_ _ | refine blk_drew ?_ | refine blk_alloc ?_ _)); exact BK101.out) hb)
                      have n1_ := Aside0.mk (blk_below (g := gb102) (o := .cells #[.bool a1_0, .string a1_1, .int .i64 a1_2] 23 (0, 0)) (by (with_reducible repeat (first | refine blk_drewN ?_ _ | refine blk_drew ?_ | refine blk_alloc ?_ _)); exact BK102.out) hb)
                      have n2_ := Aside0.mk (below_step (by repeat (first | (with_reducible first | exact HB.out | apply below_alloc | apply pw_below_drewN | apply below_drew1 | refine below_set ?_ GE101.out | refine below_set ?_ GE102.out) | exact HB.out)) hb)
                      have n3_ := Aside0.mk (hbox)
                      have n4_ := Aside0.mk ((by rw [hg]; exact (below_size (by repeat (first | (with_reducible first | exact HB.out | apply below_alloc | apply pw_below_drewN | apply below_drew1 | refine below_set ?_ GE101.out | refine below_set ?_ GE102.out) | exact HB.out))) : w.heap.size ≤ gb110))
                      have n5_ := Aside0.mk ((by rw [hg]; exact (below_size (by repeat (first | (with_reducible first | exact HB.out | apply below_alloc | apply pw_below_drewN | apply below_drew1 | refine below_set ?_ GE101.out | refine below_set ?_ GE102.out) | exact HB.out))) : w.heap.size ≤ gb110))
                      have n6_ := Aside0.mk ((by rw [hg]; exact Nat.ne_of_lt (blk_lt (g := gb101) (o := .cells #[.bool a0_0, .string a0_1, .int .i64 a0_2] 23 (0, 0)) (by (with_reducible repeat (first | refine blk_drewN ?_ _ | refine blk_drew ?_ | refine blk_alloc ?_ _)); exact BK101.out)) : gb101 ≠ gb110))
                      have n7_ := Aside0.mk ((by rw [hg]; exact Nat.ne_of_gt (blk_lt (g := gb101) (o := .cells #[.bool a0_0, .string a0_1, .int .i64 a0_2] 23 (0, 0)) (by (with_reducible repeat (first | refine blk_drewN ?_ _ | refine blk_drew ?_ | refine blk_alloc ?_ _)); exact BK101.out)) : gb110 ≠ gb101))
                      have n8_ := Aside0.mk ((by rw [hg]; exact Nat.ne_of_lt (blk_lt (g := gb102) (o := .cells #[.bool a1_0, .string a1_1, .int .i64 a1_2] 23 (0, 0)) (by (with_reducible repeat (first | refine blk_drewN ?_ _ | refine blk_drew ?_ | refine blk_alloc ?_ _)); exact BK102.out)) : gb102 ≠ gb110))
                      have n9_ := Aside0.mk ((by rw [hg]; exact Nat.ne_of_gt (blk_lt (g := gb102) (o := .cells #[.bool a1_0, .string a1_1, .int .i64 a1_2] 23 (0, 0)) (by (with_reducible repeat (first | refine blk_drewN ?_ _ | refine blk_drew ?_ | refine blk_alloc ?_ _)); exact BK102.out)) : gb110 ≠ gb102))
                      clear BK101
                      clear BK102
                      clear HB
                      have BK101 := n0_
                      have BK102 := n1_
                      have HB := n2_
                      have BK110 := n3_
                      have GW110 := n4_
                      have GE110 := n5_
                      have NB101_110 := n6_
                      have NB110_101 := n7_
                      have NB102_110 := n8_
                      have NB110_102 := n9_
                      clear n0_ n1_ n2_ n3_ n4_ n5_ n6_ n7_ n8_ n9_
                      clear hb hbox hg
                      refine hK.out _ _ ⟨(blk_cell BK101.out 0).trans rfl, (blk_cell BK101.out 1).trans rfl, (blk_cell BK101.out 2).trans rfl, (blk_cell BK102.out 0).trans rfl, (blk_cell BK102.out 1).trans rfl, (blk_cell BK102.out 2).trans rfl⟩ (fun hHeld => ?_)
                      clear hK K
                      refine norm_ (a' := ?_) ?_ ?_
                      rotate_left
                      · show Act.put _ (some 6) _ = _
                        simp only [Act.put, List.setIfInBounds_toArray, List.set_cons_zero, List.set_cons_succ, i64_w, i32_w]
                        rfl
                      exact norm_ (by first | (simp only [putAll, Act.put, List.setIfInBounds_toArray, List.set_cons_zero, List.set_cons_succ]; done) | (simp only [putAll, Act.put, List.setIfInBounds_toArray, List.set_cons_zero, List.set_cons_succ]; rfl)) (hJ1_5 (gb110) _ ⟨hHeld, (by (with_reducible repeat (first | refine blk_drewN ?_ _ | refine blk_drew ?_ | refine blk_alloc ?_ _)); exact BK101.out), (by (with_reducible repeat (first | refine blk_drewN ?_ _ | refine blk_drew ?_ | refine blk_alloc ?_ _)); exact BK102.out), (by (with_reducible repeat (first | refine blk_drewN ?_ _ | refine blk_drew ?_ | refine blk_alloc ?_ _)); exact BK110.out), GW110.out, GE110.out, NB101_110.out, NB110_101.out, NB102_110.out, NB110_102.out, (by repeat (first | (with_reducible first | exact HB.out | apply below_alloc | apply pw_below_drewN | apply below_drew1 | refine below_set ?_ GE101.out | refine below_set ?_ GE102.out | refine below_set ?_ GE110.out) | exact HB.out))⟩)
                · skip
                  rintro ⟨gb109, gb110⟩ w11 ⟨hS_, h0_, h1_, h2_, h3_, h4_, h5_, h6_, h7_, h8_, h9_, h10_, h11_, h12_, h13_, h14_, h15_, h16_, h17_, h18_⟩
                  have n0_ : Aside0 (w11.heap[gb101]? = some (.cells #[.bool a0_0, .string a0_1, .int .i64 a0_2] 23 (0, 0))) := ⟨h0_⟩
                  have n1_ : Aside0 (w11.heap[gb102]? = some (.cells #[.bool a1_0, .string a1_1, .int .i64 a1_2] 23 (0, 0))) := ⟨h1_⟩
                  have n2_ : Aside0 (w11.heap[gb109]? = some (.cells #[.bool false, .string (⟨#[]⟩ : ByteArray), .int .i64 0] 23 (0, 0))) := ⟨h2_⟩
                  have n3_ : Aside0 (w11.heap[gb110]? = some (.cells #[.bool false, .string (⟨#[]⟩ : ByteArray), .int .i64 0] 23 (0, 0))) := ⟨h3_⟩
                  have n4_ : Aside0 (w.heap.size ≤ gb109) := ⟨h4_⟩
                  have n5_ : Aside0 (w.heap.size ≤ gb109) := ⟨h5_⟩
                  have n6_ : Aside0 (gb101 ≠ gb109) := ⟨h6_⟩
                  have n7_ : Aside0 (gb109 ≠ gb101) := ⟨h7_⟩
                  have n8_ : Aside0 (gb102 ≠ gb109) := ⟨h8_⟩
                  have n9_ : Aside0 (gb109 ≠ gb102) := ⟨h9_⟩
                  have n10_ : Aside0 (gb110 ≠ gb109) := ⟨h10_⟩
                  have n11_ : Aside0 (gb109 ≠ gb110) := ⟨h11_⟩
                  have n12_ : Aside0 (w.heap.size ≤ gb110) := ⟨h12_⟩
                  have n13_ : Aside0 (w.heap.size ≤ gb110) := ⟨h13_⟩
                  have n14_ : Aside0 (gb101 ≠ gb110) := ⟨h14_⟩
                  have n15_ : Aside0 (gb110 ≠ gb101) := ⟨h15_⟩
                  have n16_ : Aside0 (gb102 ≠ gb110) := ⟨h16_⟩
                  have n17_ : Aside0 (gb110 ≠ gb102) := ⟨h17_⟩
                  have n18_ : Aside0 (Below w.heap.size w w11) := ⟨h18_⟩
                  clear BK101
                  clear BK102
                  clear HB
                  clear h0_ h1_ h2_ h3_ h4_ h5_ h6_ h7_ h8_ h9_ h10_ h11_ h12_ h13_ h14_ h15_ h16_ h17_ h18_
                  have BK101 := n0_
                  have BK102 := n1_
                  have BK109 := n2_
                  have BK110 := n3_
                  have GW109 := n4_
                  have GE109 := n5_
                  have NB101_109 := n6_
                  have NB109_101 := n7_
                  have NB102_109 := n8_
                  have NB109_102 := n9_
                  have NB110_109 := n10_
                  have NB109_110 := n11_
                  have GW110 := n12_
                  have GE110 := n13_
                  have NB101_110 := n14_
                  have NB110_101 := n15_
                  have NB102_110 := n16_
                  have NB110_102 := n17_
                  have HB := n18_
                  clear n0_ n1_ n2_ n3_ n4_ n5_ n6_ n7_ n8_ n9_ n10_ n11_ n12_ n13_ n14_ n15_ n16_ n17_ n18_
                  have hHeld : w11.cell? ⟨gb101, 0, none⟩ = some (.bool a0_0) ∧ w11.cell? ⟨gb101, 1, none⟩ = some (.string a0_1) ∧ w11.cell? ⟨gb101, 2, none⟩ = some (.int .i64 a0_2) ∧ w11.cell? ⟨gb102, 0, none⟩ = some (.bool a1_0) ∧ w11.cell? ⟨gb102, 1, none⟩ = some (.string a1_1) ∧ w11.cell? ⟨gb102, 2, none⟩ = some (.int .i64 a1_2) := hS_
                  refine norm_ (a' := ?_) ?_ ?_
                  rotate_left
                  · simp only [putAll, Act.put, List.setIfInBounds_toArray, List.set_cons_zero, List.set_cons_succ]
                    rfl
                  refine one_ (i := 1) (N := some 8) #[true, true, true, false, true, true, false, false] rfl rfl (one_of HT_.out (by kernel_rfl)) (by decide) (fun K hK => ?_)
                  refine goes_ Tryd.func25 (by kernel_rfl) rfl #[.agg #[.bool a0_0, .string a0_1, .int .i64 a0_2]] (by rfl) rfl rfl (by (try simp only [List.map_toArray, List.map_cons, List.map_nil]); first | done | rfl | (simp only [List.length_drop, List.length_take]; rfl)) ?_
                  with_reducible refine (orthoepyref10_Norm.calls a0_0 a0_1 a0_2 t103 t104 t105 _ A3.out).mono ?_
                  rintro e w12 ⟨rfl, hb⟩
                  refine ⟨_, rfl, ?_⟩
                  have n0_ := Aside0.mk (blk_below (g := gb101) (o := .cells #[.bool a0_0, .string a0_1, .int .i64 a0_2] 23 (0, 0)) (by (with_reducible repeat (first | refine blk_drewN ?_ _ | refine blk_drew ?_ | refine blk_alloc ?_ _)); exact BK101.out) hb)
                  have n1_ := Aside0.mk (blk_below (g := gb102) (o := .cells #[.bool a1_0, .string a1_1, .int .i64 a1_2] 23 (0, 0)) (by (with_reducible repeat (first | refine blk_drewN ?_ _ | refine blk_drew ?_ | refine blk_alloc ?_ _)); exact BK102.out) hb)
                  have n2_ := Aside0.mk (blk_below (g := gb109) (o := .cells #[.bool false, .string (⟨#[]⟩ : ByteArray), .int .i64 0] 23 (0, 0)) (by (with_reducible repeat (first | refine blk_drewN ?_ _ | refine blk_drew ?_ | refine blk_alloc ?_ _)); exact BK109.out) hb)
                  have n3_ := Aside0.mk (blk_below (g := gb110) (o := .cells #[.bool false, .string (⟨#[]⟩ : ByteArray), .int .i64 0] 23 (0, 0)) (by (with_reducible repeat (first | refine blk_drewN ?_ _ | refine blk_drew ?_ | refine blk_alloc ?_ _)); exact BK110.out) hb)
                  have n4_ := Aside0.mk (below_step (by repeat (first | (with_reducible first | exact HB.out | apply below_alloc | apply pw_below_drewN | apply below_drew1 | refine below_set ?_ GE101.out | refine below_set ?_ GE102.out | refine below_set ?_ GE109.out | refine below_set ?_ GE110.out) | exact HB.out)) hb)
                  clear BK101
                  clear BK102
                  clear BK109
                  clear BK110
                  clear HB
                  have BK101 := n0_
                  have BK102 := n1_
                  have BK109 := n2_
                  have BK110 := n3_
                  have HB := n4_
                  clear n0_ n1_ n2_ n3_ n4_
                  (try clear hb)
                  (try clear hb2)
                  (try clear hk)
                  (try clear hi)
                  refine hK.out _ _ ⟨(blk_cell BK101.out 0).trans rfl, (blk_cell BK101.out 1).trans rfl, (blk_cell BK101.out 2).trans rfl, (blk_cell BK102.out 0).trans rfl, (blk_cell BK102.out 1).trans rfl, (blk_cell BK102.out 2).trans rfl⟩ (fun hHeld => ?_)
                  clear hK K
                  refine norm_ (a' := ?_) ?_ ?_
                  rotate_left
                  · show Act.put _ (some 8) _ = _
                    simp only [Act.put, List.setIfInBounds_toArray, List.set_cons_zero, List.set_cons_succ, i64_w, i32_w]
                    rfl
                  exact norm_ (by first | (simp only [putAll, Act.put, List.setIfInBounds_toArray, List.set_cons_zero, List.set_cons_succ]; done) | (simp only [putAll, Act.put, List.setIfInBounds_toArray, List.set_cons_zero, List.set_cons_succ]; rfl)) (hJ1_4_5 (gb109, gb110) _ ⟨hHeld, (by (with_reducible repeat (first | refine blk_drewN ?_ _ | refine blk_drew ?_ | refine blk_alloc ?_ _)); exact BK101.out), (by (with_reducible repeat (first | refine blk_drewN ?_ _ | refine blk_drew ?_ | refine blk_alloc ?_ _)); exact BK102.out), (by (with_reducible repeat (first | refine blk_drewN ?_ _ | refine blk_drew ?_ | refine blk_alloc ?_ _)); exact BK109.out), (by (with_reducible repeat (first | refine blk_drewN ?_ _ | refine blk_drew ?_ | refine blk_alloc ?_ _)); exact BK110.out), GW109.out, GE109.out, NB101_109.out, NB109_101.out, NB102_109.out, NB109_102.out, NB110_109.out, NB109_110.out, GW110.out, GE110.out, NB101_110.out, NB110_101.out, NB102_110.out, NB110_102.out, (by repeat (first | (with_reducible first | exact HB.out | apply below_alloc | apply pw_below_drewN | apply below_drew1 | refine below_set ?_ GE101.out | refine below_set ?_ GE102.out | refine below_set ?_ GE109.out | refine below_set ?_ GE110.out) | exact HB.out))⟩)
              · skip
                rintro gb110 w11 ⟨hS_, h0_, h1_, h2_, h3_, h4_, h5_, h6_, h7_, h8_, h9_⟩
                have n0_ : Aside0 (w11.heap[gb101]? = some (.cells #[.bool a0_0, .string a0_1, .int .i64 a0_2] 23 (0, 0))) := ⟨h0_⟩
                have n1_ : Aside0 (w11.heap[gb102]? = some (.cells #[.bool a1_0, .string a1_1, .int .i64 a1_2] 23 (0, 0))) := ⟨h1_⟩
                have n2_ : Aside0 (w11.heap[gb110]? = some (.cells #[.bool false, .string (⟨#[]⟩ : ByteArray), .int .i64 0] 23 (0, 0))) := ⟨h2_⟩
                have n3_ : Aside0 (w.heap.size ≤ gb110) := ⟨h3_⟩
                have n4_ : Aside0 (w.heap.size ≤ gb110) := ⟨h4_⟩
                have n5_ : Aside0 (gb101 ≠ gb110) := ⟨h5_⟩
                have n6_ : Aside0 (gb110 ≠ gb101) := ⟨h6_⟩
                have n7_ : Aside0 (gb102 ≠ gb110) := ⟨h7_⟩
                have n8_ : Aside0 (gb110 ≠ gb102) := ⟨h8_⟩
                have n9_ : Aside0 (Below w.heap.size w w11) := ⟨h9_⟩
                clear BK101
                clear BK102
                clear HB
                clear h0_ h1_ h2_ h3_ h4_ h5_ h6_ h7_ h8_ h9_
                have BK101 := n0_
                have BK102 := n1_
                have BK110 := n2_
                have GW110 := n3_
                have GE110 := n4_
                have NB101_110 := n5_
                have NB110_101 := n6_
                have NB102_110 := n7_
                have NB110_102 := n8_
                have HB := n9_
                clear n0_ n1_ n2_ n3_ n4_ n5_ n6_ n7_ n8_ n9_
                have hHeld : w11.cell? ⟨gb101, 0, none⟩ = some (.bool a0_0) ∧ w11.cell? ⟨gb101, 1, none⟩ = some (.string a0_1) ∧ w11.cell? ⟨gb101, 2, none⟩ = some (.int .i64 a0_2) ∧ w11.cell? ⟨gb102, 0, none⟩ = some (.bool a1_0) ∧ w11.cell? ⟨gb102, 1, none⟩ = some (.string a1_1) ∧ w11.cell? ⟨gb102, 2, none⟩ = some (.int .i64 a1_2) := hS_
                refine norm_ (a' := ?_) ?_ ?_
                rotate_left
                · simp only [putAll, Act.put, List.setIfInBounds_toArray, List.set_cons_zero, List.set_cons_succ]
                  rfl
                refine two_ (i := 3) (j := 4) (Ni := some 10) (Nj := some 5) #[true, true, true, true, false, true, false, false] #[true, true, true, false, true, true, false, false] rfl rfl rfl rfl (two_of HT_.out (by kernel_rfl)) (by decide) (by decide) (fun K hK => ?_) (fun K hK => ?_)
                · skip
                  refine goes_ Tryd.func25 (by kernel_rfl) rfl #[.agg #[.bool a1_0, .string a1_1, .int .i64 a1_2]] (by rfl) rfl rfl (by (try simp only [List.map_toArray, List.map_cons, List.map_nil]); first | done | rfl | (simp only [List.length_drop, List.length_take]; rfl)) ?_
                  with_reducible refine (orthoepyref10_Norm.calls a1_0 a1_1 a1_2 t106 t107 t108 _ A4.out).mono ?_
                  rintro e w12 ⟨rfl, hb⟩
                  refine ⟨_, rfl, ?_⟩
                  have n0_ := Aside0.mk (blk_below (g := gb101) (o := .cells #[.bool a0_0, .string a0_1, .int .i64 a0_2] 23 (0, 0)) (by (with_reducible repeat (first | refine blk_drewN ?_ _ | refine blk_drew ?_ | refine blk_alloc ?_ _)); exact BK101.out) hb)
                  have n1_ := Aside0.mk (blk_below (g := gb102) (o := .cells #[.bool a1_0, .string a1_1, .int .i64 a1_2] 23 (0, 0)) (by (with_reducible repeat (first | refine blk_drewN ?_ _ | refine blk_drew ?_ | refine blk_alloc ?_ _)); exact BK102.out) hb)
                  have n2_ := Aside0.mk (blk_below (g := gb110) (o := .cells #[.bool false, .string (⟨#[]⟩ : ByteArray), .int .i64 0] 23 (0, 0)) (by (with_reducible repeat (first | refine blk_drewN ?_ _ | refine blk_drew ?_ | refine blk_alloc ?_ _)); exact BK110.out) hb)
                  have n3_ := Aside0.mk (below_step (by repeat (first | (with_reducible first | exact HB.out | apply below_alloc | apply pw_below_drewN | apply below_drew1 | refine below_set ?_ GE101.out | refine below_set ?_ GE102.out | refine below_set ?_ GE110.out) | exact HB.out)) hb)
                  clear BK101
                  clear BK102
                  clear BK110
                  clear HB
                  have BK101 := n0_
                  have BK102 := n1_
                  have BK110 := n2_
                  have HB := n3_
                  clear n0_ n1_ n2_ n3_
                  (try clear hb)
                  (try clear hb2)
                  (try clear hk)
                  (try clear hi)
                  refine hK.out _ _ ⟨(blk_cell BK101.out 0).trans rfl, (blk_cell BK101.out 1).trans rfl, (blk_cell BK101.out 2).trans rfl, (blk_cell BK102.out 0).trans rfl, (blk_cell BK102.out 1).trans rfl, (blk_cell BK102.out 2).trans rfl⟩ (fun hHeld => ?_)
                  clear hK K
                  refine norm_ (a' := ?_) ?_ ?_
                  rotate_left
                  · show Act.put _ (some 10) _ = _
                    simp only [Act.put, List.setIfInBounds_toArray, List.set_cons_zero, List.set_cons_succ, i64_w, i32_w]
                    rfl
                  exact norm_ (by first | (simp only [putAll, Act.put, List.setIfInBounds_toArray, List.set_cons_zero, List.set_cons_succ]; done) | (simp only [putAll, Act.put, List.setIfInBounds_toArray, List.set_cons_zero, List.set_cons_succ]; rfl)) (hJ1_3_5 (gb110) _ ⟨hHeld, (by (with_reducible repeat (first | refine blk_drewN ?_ _ | refine blk_drew ?_ | refine blk_alloc ?_ _)); exact BK101.out), (by (with_reducible repeat (first | refine blk_drewN ?_ _ | refine blk_drew ?_ | refine blk_alloc ?_ _)); exact BK102.out), (by (with_reducible repeat (first | refine blk_drewN ?_ _ | refine blk_drew ?_ | refine blk_alloc ?_ _)); exact BK110.out), GW110.out, GE110.out, NB101_110.out, NB110_101.out, NB102_110.out, NB110_102.out, (by repeat (first | (with_reducible first | exact HB.out | apply below_alloc | apply pw_below_drewN | apply below_drew1 | refine below_set ?_ GE101.out | refine below_set ?_ GE102.out | refine below_set ?_ GE110.out) | exact HB.out))⟩)
                · skip
                  refine box_step ?hg (N := 5) ?hd (cs := #[.bool false, .string (⟨#[]⟩ : ByteArray), .int .i64 0]) (t := 23) ?hr ?_; (case hd => rfl); (case hg => rfl); (case hr => first | (go_simp; done) | (go_simp; rfl))
                  intro gb109 hg w12 hbox hb
                  have n0_ := Aside0.mk (blk_below (g := gb101) (o := .cells #[.bool a0_0, .string a0_1, .int .i64 a0_2] 23 (0, 0)) (by (with_reducible repeat (first | refine blk_drewN ?_ _ | refine blk_drew ?_ | refine blk_alloc ?_ _)); exact BK101.out) hb)
                  have n1_ := Aside0.mk (blk_below (g := gb102) (o := .cells #[.bool a1_0, .string a1_1, .int .i64 a1_2] 23 (0, 0)) (by (with_reducible repeat (first | refine blk_drewN ?_ _ | refine blk_drew ?_ | refine blk_alloc ?_ _)); exact BK102.out) hb)
                  have n2_ := Aside0.mk (blk_below (g := gb110) (o := .cells #[.bool false, .string (⟨#[]⟩ : ByteArray), .int .i64 0] 23 (0, 0)) (by (with_reducible repeat (first | refine blk_drewN ?_ _ | refine blk_drew ?_ | refine blk_alloc ?_ _)); exact BK110.out) hb)
                  have n3_ := Aside0.mk (below_step (by repeat (first | (with_reducible first | exact HB.out | apply below_alloc | apply pw_below_drewN | apply below_drew1 | refine below_set ?_ GE101.out | refine below_set ?_ GE102.out | refine below_set ?_ GE110.out) | exact HB.out)) hb)
                  have n4_ := Aside0.mk (hbox)
                  have n5_ := Aside0.mk ((by rw [hg]; exact (below_size (by repeat (first | (with_reducible first | exact HB.out | apply below_alloc | apply pw_below_drewN | apply below_drew1 | refine below_set ?_ GE101.out | refine below_set ?_ GE102.out | refine below_set ?_ GE110.out) | exact HB.out))) : w.heap.size ≤ gb109))
                  have n6_ := Aside0.mk ((by rw [hg]; exact (below_size (by repeat (first | (with_reducible first | exact HB.out | apply below_alloc | apply pw_below_drewN | apply below_drew1 | refine below_set ?_ GE101.out | refine below_set ?_ GE102.out | refine below_set ?_ GE110.out) | exact HB.out))) : w.heap.size ≤ gb109))
                  have n7_ := Aside0.mk ((by rw [hg]; exact Nat.ne_of_lt (blk_lt (g := gb101) (o := .cells #[.bool a0_0, .string a0_1, .int .i64 a0_2] 23 (0, 0)) (by (with_reducible repeat (first | refine blk_drewN ?_ _ | refine blk_drew ?_ | refine blk_alloc ?_ _)); exact BK101.out)) : gb101 ≠ gb109))
                  have n8_ := Aside0.mk ((by rw [hg]; exact Nat.ne_of_gt (blk_lt (g := gb101) (o := .cells #[.bool a0_0, .string a0_1, .int .i64 a0_2] 23 (0, 0)) (by (with_reducible repeat (first | refine blk_drewN ?_ _ | refine blk_drew ?_ | refine blk_alloc ?_ _)); exact BK101.out)) : gb109 ≠ gb101))
                  have n9_ := Aside0.mk ((by rw [hg]; exact Nat.ne_of_lt (blk_lt (g := gb102) (o := .cells #[.bool a1_0, .string a1_1, .int .i64 a1_2] 23 (0, 0)) (by (with_reducible repeat (first | refine blk_drewN ?_ _ | refine blk_drew ?_ | refine blk_alloc ?_ _)); exact BK102.out)) : gb102 ≠ gb109))
                  have n10_ := Aside0.mk ((by rw [hg]; exact Nat.ne_of_gt (blk_lt (g := gb102) (o := .cells #[.bool a1_0, .string a1_1, .int .i64 a1_2] 23 (0, 0)) (by (with_reducible repeat (first | refine blk_drewN ?_ _ | refine blk_drew ?_ | refine blk_alloc ?_ _)); exact BK102.out)) : gb109 ≠ gb102))
                  have n11_ := Aside0.mk ((by rw [hg]; exact Nat.ne_of_lt (blk_lt (g := gb110) (o := .cells #[.bool false, .string (⟨#[]⟩ : ByteArray), .int .i64 0] 23 (0, 0)) (by (with_reducible repeat (first | refine blk_drewN ?_ _ | refine blk_drew ?_ | refine blk_alloc ?_ _)); exact BK110.out)) : gb110 ≠ gb109))
                  have n12_ := Aside0.mk ((by rw [hg]; exact Nat.ne_of_gt (blk_lt (g := gb110) (o := .cells #[.bool false, .string (⟨#[]⟩ : ByteArray), .int .i64 0] 23 (0, 0)) (by (with_reducible repeat (first | refine blk_drewN ?_ _ | refine blk_drew ?_ | refine blk_alloc ?_ _)); exact BK110.out)) : gb109 ≠ gb110))
                  clear BK101
                  clear BK102
                  clear BK110
                  clear HB
                  have BK101 := n0_
                  have BK102 := n1_
                  have BK110 := n2_
                  have HB := n3_
                  have BK109 := n4_
                  have GW109 := n5_
                  have GE109 := n6_
                  have NB101_109 := n7_
                  have NB109_101 := n8_
                  have NB102_109 := n9_
                  have NB109_102 := n10_
                  have NB110_109 := n11_
                  have NB109_110 := n12_
                  clear n0_ n1_ n2_ n3_ n4_ n5_ n6_ n7_ n8_ n9_ n10_ n11_ n12_
                  clear hb hbox hg
                  refine hK.out _ _ ⟨(blk_cell BK101.out 0).trans rfl, (blk_cell BK101.out 1).trans rfl, (blk_cell BK101.out 2).trans rfl, (blk_cell BK102.out 0).trans rfl, (blk_cell BK102.out 1).trans rfl, (blk_cell BK102.out 2).trans rfl⟩ (fun hHeld => ?_)
                  clear hK K
                  refine norm_ (a' := ?_) ?_ ?_
                  rotate_left
                  · show Act.put _ (some 5) _ = _
                    simp only [Act.put, List.setIfInBounds_toArray, List.set_cons_zero, List.set_cons_succ, i64_w, i32_w]
                    rfl
                  exact norm_ (by first | (simp only [putAll, Act.put, List.setIfInBounds_toArray, List.set_cons_zero, List.set_cons_succ]; done) | (simp only [putAll, Act.put, List.setIfInBounds_toArray, List.set_cons_zero, List.set_cons_succ]; rfl)) (hJ1_4_5 (gb109, gb110) _ ⟨hHeld, (by (with_reducible repeat (first | refine blk_drewN ?_ _ | refine blk_drew ?_ | refine blk_alloc ?_ _)); exact BK101.out), (by (with_reducible repeat (first | refine blk_drewN ?_ _ | refine blk_drew ?_ | refine blk_alloc ?_ _)); exact BK102.out), (by (with_reducible repeat (first | refine blk_drewN ?_ _ | refine blk_drew ?_ | refine blk_alloc ?_ _)); exact BK109.out), (by (with_reducible repeat (first | refine blk_drewN ?_ _ | refine blk_drew ?_ | refine blk_alloc ?_ _)); exact BK110.out), GW109.out, GE109.out, NB101_109.out, NB109_101.out, NB102_109.out, NB109_102.out, NB110_109.out, NB109_110.out, GW110.out, GE110.out, NB101_110.out, NB110_101.out, NB102_110.out, NB110_102.out, (by repeat (first | (with_reducible first | exact HB.out | apply below_alloc | apply pw_below_drewN | apply below_drew1 | refine below_set ?_ GE101.out | refine below_set ?_ GE102.out | refine below_set ?_ GE110.out | refine below_set ?_ GE109.out) | exact HB.out))⟩)
            · skip
              rintro gb109 w11 ⟨hS_, h0_, h1_, h2_, h3_, h4_, h5_, h6_, h7_, h8_, h9_⟩
              have n0_ : Aside0 (w11.heap[gb101]? = some (.cells #[.bool a0_0, .string a0_1, .int .i64 a0_2] 23 (0, 0))) := ⟨h0_⟩
              have n1_ : Aside0 (w11.heap[gb102]? = some (.cells #[.bool a1_0, .string a1_1, .int .i64 a1_2] 23 (0, 0))) := ⟨h1_⟩
              have n2_ : Aside0 (w11.heap[gb109]? = some (.cells #[.bool false, .string (⟨#[]⟩ : ByteArray), .int .i64 0] 23 (0, 0))) := ⟨h2_⟩
              have n3_ : Aside0 (w.heap.size ≤ gb109) := ⟨h3_⟩
              have n4_ : Aside0 (w.heap.size ≤ gb109) := ⟨h4_⟩
              have n5_ : Aside0 (gb101 ≠ gb109) := ⟨h5_⟩
              have n6_ : Aside0 (gb109 ≠ gb101) := ⟨h6_⟩
              have n7_ : Aside0 (gb102 ≠ gb109) := ⟨h7_⟩
              have n8_ : Aside0 (gb109 ≠ gb102) := ⟨h8_⟩
              have n9_ : Aside0 (Below w.heap.size w w11) := ⟨h9_⟩
              clear BK101
              clear BK102
              clear HB
              clear h0_ h1_ h2_ h3_ h4_ h5_ h6_ h7_ h8_ h9_
              have BK101 := n0_
              have BK102 := n1_
              have BK109 := n2_
              have GW109 := n3_
              have GE109 := n4_
              have NB101_109 := n5_
              have NB109_101 := n6_
              have NB102_109 := n7_
              have NB109_102 := n8_
              have HB := n9_
              clear n0_ n1_ n2_ n3_ n4_ n5_ n6_ n7_ n8_ n9_
              have hHeld : w11.cell? ⟨gb101, 0, none⟩ = some (.bool a0_0) ∧ w11.cell? ⟨gb101, 1, none⟩ = some (.string a0_1) ∧ w11.cell? ⟨gb101, 2, none⟩ = some (.int .i64 a0_2) ∧ w11.cell? ⟨gb102, 0, none⟩ = some (.bool a1_0) ∧ w11.cell? ⟨gb102, 1, none⟩ = some (.string a1_1) ∧ w11.cell? ⟨gb102, 2, none⟩ = some (.int .i64 a1_2) := hS_
              refine norm_ (a' := ?_) ?_ ?_
              rotate_left
              · simp only [putAll, Act.put, List.setIfInBounds_toArray, List.set_cons_zero, List.set_cons_succ]
                rfl
              refine two_ (i := 3) (j := 5) (Ni := some 10) (Nj := some 6) #[true, true, true, true, true, false, false, false] #[true, true, true, false, true, true, false, false] rfl rfl rfl rfl (two_of HT_.out (by kernel_rfl)) (by decide) (by decide) (fun K hK => ?_) (fun K hK => ?_)
              · skip
                refine goes_ Tryd.func25 (by kernel_rfl) rfl #[.agg #[.bool a1_0, .string a1_1, .int .i64 a1_2]] (by rfl) rfl rfl (by (try simp only [List.map_toArray, List.map_cons, List.map_nil]); first | done | rfl | (simp only [List.length_drop, List.length_take]; rfl)) ?_
                with_reducible refine (orthoepyref10_Norm.calls a1_0 a1_1 a1_2 t106 t107 t108 _ A4.out).mono ?_
                rintro e w12 ⟨rfl, hb⟩
                refine ⟨_, rfl, ?_⟩
                have n0_ := Aside0.mk (blk_below (g := gb101) (o := .cells #[.bool a0_0, .string a0_1, .int .i64 a0_2] 23 (0, 0)) (by (with_reducible repeat (first | refine blk_drewN ?_ _ | refine blk_drew ?_ | refine blk_alloc ?_ _)); exact BK101.out) hb)
                have n1_ := Aside0.mk (blk_below (g := gb102) (o := .cells #[.bool a1_0, .string a1_1, .int .i64 a1_2] 23 (0, 0)) (by (with_reducible repeat (first | refine blk_drewN ?_ _ | refine blk_drew ?_ | refine blk_alloc ?_ _)); exact BK102.out) hb)
                have n2_ := Aside0.mk (blk_below (g := gb109) (o := .cells #[.bool false, .string (⟨#[]⟩ : ByteArray), .int .i64 0] 23 (0, 0)) (by (with_reducible repeat (first | refine blk_drewN ?_ _ | refine blk_drew ?_ | refine blk_alloc ?_ _)); exact BK109.out) hb)
                have n3_ := Aside0.mk (below_step (by repeat (first | (with_reducible first | exact HB.out | apply below_alloc | apply pw_below_drewN | apply below_drew1 | refine below_set ?_ GE101.out | refine below_set ?_ GE102.out | refine below_set ?_ GE109.out) | exact HB.out)) hb)
                clear BK101
                clear BK102
                clear BK109
                clear HB
                have BK101 := n0_
                have BK102 := n1_
                have BK109 := n2_
                have HB := n3_
                clear n0_ n1_ n2_ n3_
                (try clear hb)
                (try clear hb2)
                (try clear hk)
                (try clear hi)
                refine hK.out _ _ ⟨(blk_cell BK101.out 0).trans rfl, (blk_cell BK101.out 1).trans rfl, (blk_cell BK101.out 2).trans rfl, (blk_cell BK102.out 0).trans rfl, (blk_cell BK102.out 1).trans rfl, (blk_cell BK102.out 2).trans rfl⟩ (fun hHeld => ?_)
                clear hK K
                refine norm_ (a' := ?_) ?_ ?_
                rotate_left
                · show Act.put _ (some 10) _ = _
                  simp only [Act.put, List.setIfInBounds_toArray, List.set_cons_zero, List.set_cons_succ, i64_w, i32_w]
                  rfl
                exact norm_ (by first | (simp only [putAll, Act.put, List.setIfInBounds_toArray, List.set_cons_zero, List.set_cons_succ]; done) | (simp only [putAll, Act.put, List.setIfInBounds_toArray, List.set_cons_zero, List.set_cons_succ]; rfl)) (hJ1_3_4 (gb109) _ ⟨hHeld, (by (with_reducible repeat (first | refine blk_drewN ?_ _ | refine blk_drew ?_ | refine blk_alloc ?_ _)); exact BK101.out), (by (with_reducible repeat (first | refine blk_drewN ?_ _ | refine blk_drew ?_ | refine blk_alloc ?_ _)); exact BK102.out), (by (with_reducible repeat (first | refine blk_drewN ?_ _ | refine blk_drew ?_ | refine blk_alloc ?_ _)); exact BK109.out), GW109.out, GE109.out, NB101_109.out, NB109_101.out, NB102_109.out, NB109_102.out, (by repeat (first | (with_reducible first | exact HB.out | apply below_alloc | apply pw_below_drewN | apply below_drew1 | refine below_set ?_ GE101.out | refine below_set ?_ GE102.out | refine below_set ?_ GE109.out) | exact HB.out))⟩)
              · skip
                refine box_step ?hg (N := 6) ?hd (cs := #[.bool false, .string (⟨#[]⟩ : ByteArray), .int .i64 0]) (t := 23) ?hr ?_; (case hd => rfl); (case hg => rfl); (case hr => first | (go_simp; done) | (go_simp; rfl))
                intro gb110 hg w12 hbox hb
                have n0_ := Aside0.mk (blk_below (g := gb101) (o := .cells #[.bool a0_0, .string a0_1, .int .i64 a0_2] 23 (0, 0)) (by (with_reducible repeat (first | refine blk_drewN ?_ _ | refine blk_drew ?_ | refine blk_alloc ?_ _)); exact BK101.out) hb)
                have n1_ := Aside0.mk (blk_below (g := gb102) (o := .cells #[.bool a1_0, .string a1_1, .int .i64 a1_2] 23 (0, 0)) (by (with_reducible repeat (first | refine blk_drewN ?_ _ | refine blk_drew ?_ | refine blk_alloc ?_ _)); exact BK102.out) hb)
                have n2_ := Aside0.mk (blk_below (g := gb109) (o := .cells #[.bool false, .string (⟨#[]⟩ : ByteArray), .int .i64 0] 23 (0, 0)) (by (with_reducible repeat (first | refine blk_drewN ?_ _ | refine blk_drew ?_ | refine blk_alloc ?_ _)); exact BK109.out) hb)
                have n3_ := Aside0.mk (below_step (by repeat (first | (with_reducible first | exact HB.out | apply below_alloc | apply pw_below_drewN | apply below_drew1 | refine below_set ?_ GE101.out | refine below_set ?_ GE102.out | refine below_set ?_ GE109.out) | exact HB.out)) hb)
                have n4_ := Aside0.mk (hbox)
                have n5_ := Aside0.mk ((by rw [hg]; exact (below_size (by repeat (first | (with_reducible first | exact HB.out | apply below_alloc | apply pw_below_drewN | apply below_drew1 | refine below_set ?_ GE101.out | refine below_set ?_ GE102.out | refine below_set ?_ GE109.out) | exact HB.out))) : w.heap.size ≤ gb110))
                have n6_ := Aside0.mk ((by rw [hg]; exact (below_size (by repeat (first | (with_reducible first | exact HB.out | apply below_alloc | apply pw_below_drewN | apply below_drew1 | refine below_set ?_ GE101.out | refine below_set ?_ GE102.out | refine below_set ?_ GE109.out) | exact HB.out))) : w.heap.size ≤ gb110))
                have n7_ := Aside0.mk ((by rw [hg]; exact Nat.ne_of_lt (blk_lt (g := gb101) (o := .cells #[.bool a0_0, .string a0_1, .int .i64 a0_2] 23 (0, 0)) (by (with_reducible repeat (first | refine blk_drewN ?_ _ | refine blk_drew ?_ | refine blk_alloc ?_ _)); exact BK101.out)) : gb101 ≠ gb110))
                have n8_ := Aside0.mk ((by rw [hg]; exact Nat.ne_of_gt (blk_lt (g := gb101) (o := .cells #[.bool a0_0, .string a0_1, .int .i64 a0_2] 23 (0, 0)) (by (with_reducible repeat (first | refine blk_drewN ?_ _ | refine blk_drew ?_ | refine blk_alloc ?_ _)); exact BK101.out)) : gb110 ≠ gb101))
                have n9_ := Aside0.mk ((by rw [hg]; exact Nat.ne_of_lt (blk_lt (g := gb102) (o := .cells #[.bool a1_0, .string a1_1, .int .i64 a1_2] 23 (0, 0)) (by (with_reducible repeat (first | refine blk_drewN ?_ _ | refine blk_drew ?_ | refine blk_alloc ?_ _)); exact BK102.out)) : gb102 ≠ gb110))
                have n10_ := Aside0.mk ((by rw [hg]; exact Nat.ne_of_gt (blk_lt (g := gb102) (o := .cells #[.bool a1_0, .string a1_1, .int .i64 a1_2] 23 (0, 0)) (by (with_reducible repeat (first | refine blk_drewN ?_ _ | refine blk_drew ?_ | refine blk_alloc ?_ _)); exact BK102.out)) : gb110 ≠ gb102))
                have n11_ := Aside0.mk ((by rw [hg]; exact Nat.ne_of_lt (blk_lt (g := gb109) (o := .cells #[.bool false, .string (⟨#[]⟩ : ByteArray), .int .i64 0] 23 (0, 0)) (by (with_reducible repeat (first | refine blk_drewN ?_ _ | refine blk_drew ?_ | refine blk_alloc ?_ _)); exact BK109.out)) : gb109 ≠ gb110))
                have n12_ := Aside0.mk ((by rw [hg]; exact Nat.ne_of_gt (blk_lt (g := gb109) (o := .cells #[.bool false, .string (⟨#[]⟩ : ByteArray), .int .i64 0] 23 (0, 0)) (by (with_reducible repeat (first | refine blk_drewN ?_ _ | refine blk_drew ?_ | refine blk_alloc ?_ _)); exact BK109.out)) : gb110 ≠ gb109))
                clear BK101
                clear BK102
                clear BK109
                clear HB
                have BK101 := n0_
                have BK102 := n1_
                have BK109 := n2_
                have HB := n3_
                have BK110 := n4_
                have GW110 := n5_
                have GE110 := n6_
                have NB101_110 := n7_
                have NB110_101 := n8_
                have NB102_110 := n9_
                have NB110_102 := n10_
                have NB109_110 := n11_
                have NB110_109 := n12_
                clear n0_ n1_ n2_ n3_ n4_ n5_ n6_ n7_ n8_ n9_ n10_ n11_ n12_
                clear hb hbox hg
                refine hK.out _ _ ⟨(blk_cell BK101.out 0).trans rfl, (blk_cell BK101.out 1).trans rfl, (blk_cell BK101.out 2).trans rfl, (blk_cell BK102.out 0).trans rfl, (blk_cell BK102.out 1).trans rfl, (blk_cell BK102.out 2).trans rfl⟩ (fun hHeld => ?_)
                clear hK K
                refine norm_ (a' := ?_) ?_ ?_
                rotate_left
                · show Act.put _ (some 6) _ = _
                  simp only [Act.put, List.setIfInBounds_toArray, List.set_cons_zero, List.set_cons_succ, i64_w, i32_w]
                  rfl
                exact norm_ (by first | (simp only [putAll, Act.put, List.setIfInBounds_toArray, List.set_cons_zero, List.set_cons_succ]; done) | (simp only [putAll, Act.put, List.setIfInBounds_toArray, List.set_cons_zero, List.set_cons_succ]; rfl)) (hJ1_4_5 (gb109, gb110) _ ⟨hHeld, (by (with_reducible repeat (first | refine blk_drewN ?_ _ | refine blk_drew ?_ | refine blk_alloc ?_ _)); exact BK101.out), (by (with_reducible repeat (first | refine blk_drewN ?_ _ | refine blk_drew ?_ | refine blk_alloc ?_ _)); exact BK102.out), (by (with_reducible repeat (first | refine blk_drewN ?_ _ | refine blk_drew ?_ | refine blk_alloc ?_ _)); exact BK109.out), (by (with_reducible repeat (first | refine blk_drewN ?_ _ | refine blk_drew ?_ | refine blk_alloc ?_ _)); exact BK110.out), GW109.out, GE109.out, NB101_109.out, NB109_101.out, NB102_109.out, NB109_102.out, NB110_109.out, NB109_110.out, GW110.out, GE110.out, NB101_110.out, NB110_101.out, NB102_110.out, NB110_102.out, (by repeat (first | (with_reducible first | exact HB.out | apply below_alloc | apply pw_below_drewN | apply below_drew1 | refine below_set ?_ GE101.out | refine below_set ?_ GE102.out | refine below_set ?_ GE109.out | refine below_set ?_ GE110.out) | exact HB.out))⟩)
          · skip
            rintro _ w11 ⟨hS_, h0_, h1_, h2_⟩
            have n0_ : Aside0 (w11.heap[gb101]? = some (.cells #[.bool a0_0, .string a0_1, .int .i64 a0_2] 23 (0, 0))) := ⟨h0_⟩
            have n1_ : Aside0 (w11.heap[gb102]? = some (.cells #[.bool a1_0, .string a1_1, .int .i64 a1_2] 23 (0, 0))) := ⟨h1_⟩
            have n2_ : Aside0 (Below w.heap.size w w11) := ⟨h2_⟩
            clear BK101
            clear BK102
            clear HB
            clear h0_ h1_ h2_
            have BK101 := n0_
            have BK102 := n1_
            have HB := n2_
            clear n0_ n1_ n2_
            have hHeld : w11.cell? ⟨gb101, 0, none⟩ = some (.bool a0_0) ∧ w11.cell? ⟨gb101, 1, none⟩ = some (.string a0_1) ∧ w11.cell? ⟨gb101, 2, none⟩ = some (.int .i64 a0_2) ∧ w11.cell? ⟨gb102, 0, none⟩ = some (.bool a1_0) ∧ w11.cell? ⟨gb102, 1, none⟩ = some (.string a1_1) ∧ w11.cell? ⟨gb102, 2, none⟩ = some (.int .i64 a1_2) := hS_
            refine norm_ (a' := ?_) ?_ ?_
            rotate_left
            · simp only [putAll, Act.put, List.setIfInBounds_toArray, List.set_cons_zero, List.set_cons_succ]
              rfl
            refine two_ (i := 4) (j := 5) (Ni := some 5) (Nj := some 6) #[true, true, true, true, true, false, false, false] #[true, true, true, true, false, true, false, false] rfl rfl rfl rfl (two_of HT_.out (by kernel_rfl)) (by decide) (by decide) (fun K hK => ?_) (fun K hK => ?_)
            · skip
              refine box_step ?hg (N := 5) ?hd (cs := #[.bool false, .string (⟨#[]⟩ : ByteArray), .int .i64 0]) (t := 23) ?hr ?_; (case hd => rfl); (case hg => rfl); (case hr => first | (go_simp; done) | (go_simp; rfl))
              intro gb109 hg w12 hbox hb
              have n0_ := Aside0.mk (blk_below (g := gb101) (o := .cells #[.bool a0_0, .string a0_1, .int .i64 a0_2] 23 (0, 0)) (by (with_reducible repeat (first | refine blk_drewN ?_ _ | refine blk_drew ?_ | refine blk_alloc ?_ _)); exact BK101.out) hb)
              have n1_ := Aside0.mk (blk_below (g := gb102) (o := .cells #[.bool a1_0, .string a1_1, .int .i64 a1_2] 23 (0, 0)) (by (with_reducible repeat (first | refine blk_drewN ?_ _ | refine blk_drew ?_ | refine blk_alloc ?_ _)); exact BK102.out) hb)
              have n2_ := Aside0.mk (below_step (by repeat (first | (with_reducible first | exact HB.out | apply below_alloc | apply pw_below_drewN | apply below_drew1 | refine below_set ?_ GE101.out | refine below_set ?_ GE102.out) | exact HB.out)) hb)
              have n3_ := Aside0.mk (hbox)
              have n4_ := Aside0.mk ((by rw [hg]; exact (below_size (by repeat (first | (with_reducible first | exact HB.out | apply below_alloc | apply pw_below_drewN | apply below_drew1 | refine below_set ?_ GE101.out | refine below_set ?_ GE102.out) | exact HB.out))) : w.heap.size ≤ gb109))
              have n5_ := Aside0.mk ((by rw [hg]; exact (below_size (by repeat (first | (with_reducible first | exact HB.out | apply below_alloc | apply pw_below_drewN | apply below_drew1 | refine below_set ?_ GE101.out | refine below_set ?_ GE102.out) | exact HB.out))) : w.heap.size ≤ gb109))
              have n6_ := Aside0.mk ((by rw [hg]; exact Nat.ne_of_lt (blk_lt (g := gb101) (o := .cells #[.bool a0_0, .string a0_1, .int .i64 a0_2] 23 (0, 0)) (by (with_reducible repeat (first | refine blk_drewN ?_ _ | refine blk_drew ?_ | refine blk_alloc ?_ _)); exact BK101.out)) : gb101 ≠ gb109))
              have n7_ := Aside0.mk ((by rw [hg]; exact Nat.ne_of_gt (blk_lt (g := gb101) (o := .cells #[.bool a0_0, .string a0_1, .int .i64 a0_2] 23 (0, 0)) (by (with_reducible repeat (first | refine blk_drewN ?_ _ | refine blk_drew ?_ | refine blk_alloc ?_ _)); exact BK101.out)) : gb109 ≠ gb101))
              have n8_ := Aside0.mk ((by rw [hg]; exact Nat.ne_of_lt (blk_lt (g := gb102) (o := .cells #[.bool a1_0, .string a1_1, .int .i64 a1_2] 23 (0, 0)) (by (with_reducible repeat (first | refine blk_drewN ?_ _ | refine blk_drew ?_ | refine blk_alloc ?_ _)); exact BK102.out)) : gb102 ≠ gb109))
              have n9_ := Aside0.mk ((by rw [hg]; exact Nat.ne_of_gt (blk_lt (g := gb102) (o := .cells #[.bool a1_0, .string a1_1, .int .i64 a1_2] 23 (0, 0)) (by (with_reducible repeat (first | refine blk_drewN ?_ _ | refine blk_drew ?_ | refine blk_alloc ?_ _)); exact BK102.out)) : gb109 ≠ gb102))
              clear BK101
              clear BK102
              clear HB
              have BK101 := n0_
              have BK102 := n1_
              have HB := n2_
              have BK109 := n3_
              have GW109 := n4_
              have GE109 := n5_
              have NB101_109 := n6_
              have NB109_101 := n7_
              have NB102_109 := n8_
              have NB109_102 := n9_
              clear n0_ n1_ n2_ n3_ n4_ n5_ n6_ n7_ n8_ n9_
              clear hb hbox hg
              refine hK.out _ _ ⟨(blk_cell BK101.out 0).trans rfl, (blk_cell BK101.out 1).trans rfl, (blk_cell BK101.out 2).trans rfl, (blk_cell BK102.out 0).trans rfl, (blk_cell BK102.out 1).trans rfl, (blk_cell BK102.out 2).trans rfl⟩ (fun hHeld => ?_)
              clear hK K
              refine norm_ (a' := ?_) ?_ ?_
              rotate_left
              · show Act.put _ (some 5) _ = _
                simp only [Act.put, List.setIfInBounds_toArray, List.set_cons_zero, List.set_cons_succ, i64_w, i32_w]
                rfl
              exact norm_ (by first | (simp only [putAll, Act.put, List.setIfInBounds_toArray, List.set_cons_zero, List.set_cons_succ]; done) | (simp only [putAll, Act.put, List.setIfInBounds_toArray, List.set_cons_zero, List.set_cons_succ]; rfl)) (hJ1_3_4 (gb109) _ ⟨hHeld, (by (with_reducible repeat (first | refine blk_drewN ?_ _ | refine blk_drew ?_ | refine blk_alloc ?_ _)); exact BK101.out), (by (with_reducible repeat (first | refine blk_drewN ?_ _ | refine blk_drew ?_ | refine blk_alloc ?_ _)); exact BK102.out), (by (with_reducible repeat (first | refine blk_drewN ?_ _ | refine blk_drew ?_ | refine blk_alloc ?_ _)); exact BK109.out), GW109.out, GE109.out, NB101_109.out, NB109_101.out, NB102_109.out, NB109_102.out, (by repeat (first | (with_reducible first | exact HB.out | apply below_alloc | apply pw_below_drewN | apply below_drew1 | refine below_set ?_ GE101.out | refine below_set ?_ GE102.out | refine below_set ?_ GE109.out) | exact HB.out))⟩)
            · skip
              refine box_step ?hg (N := 6) ?hd (cs := #[.bool false, .string (⟨#[]⟩ : ByteArray), .int .i64 0]) (t := 23) ?hr ?_; (case hd => rfl); (case hg => rfl); (case hr => first | (go_simp; done) | (go_simp; rfl))
              intro gb110 hg w12 hbox hb
              have n0_ := Aside0.mk (blk_below (g := gb101) (o := .cells #[.bool a0_0, .string a0_1, .int .i64 a0_2] 23 (0, 0)) (by (with_reducible repeat (first | refine blk_drewN ?_ _ | refine blk_drew ?_ | refine blk_alloc ?_ _)); exact BK101.out) hb)
              have n1_ := Aside0.mk (blk_below (g := gb102) (o := .cells #[.bool a1_0, .string a1_1, .int .i64 a1_2] 23 (0, 0)) (by (with_reducible repeat (first | refine blk_drewN ?_ _ | refine blk_drew ?_ | refine blk_alloc ?_ _)); exact BK102.out) hb)
              have n2_ := Aside0.mk (below_step (by repeat (first | (with_reducible first | exact HB.out | apply below_alloc | apply pw_below_drewN | apply below_drew1 | refine below_set ?_ GE101.out | refine below_set ?_ GE102.out) | exact HB.out)) hb)
              have n3_ := Aside0.mk (hbox)
              have n4_ := Aside0.mk ((by rw [hg]; exact (below_size (by repeat (first | (with_reducible first | exact HB.out | apply below_alloc | apply pw_below_drewN | apply below_drew1 | refine below_set ?_ GE101.out | refine below_set ?_ GE102.out) | exact HB.out))) : w.heap.size ≤ gb110))
              have n5_ := Aside0.mk ((by rw [hg]; exact (below_size (by repeat (first | (with_reducible first | exact HB.out | apply below_alloc | apply pw_below_drewN | apply below_drew1 | refine below_set ?_ GE101.out | refine below_set ?_ GE102.out) | exact HB.out))) : w.heap.size ≤ gb110))
              have n6_ := Aside0.mk ((by rw [hg]; exact Nat.ne_of_lt (blk_lt (g := gb101) (o := .cells #[.bool a0_0, .string a0_1, .int .i64 a0_2] 23 (0, 0)) (by (with_reducible repeat (first | refine blk_drewN ?_ _ | refine blk_drew ?_ | refine blk_alloc ?_ _)); exact BK101.out)) : gb101 ≠ gb110))
              have n7_ := Aside0.mk ((by rw [hg]; exact Nat.ne_of_gt (blk_lt (g := gb101) (o := .cells #[.bool a0_0, .string a0_1, .int .i64 a0_2] 23 (0, 0)) (by (with_reducible repeat (first | refine blk_drewN ?_ _ | refine blk_drew ?_ | refine blk_alloc ?_ _)); exact BK101.out)) : gb110 ≠ gb101))
              have n8_ := Aside0.mk ((by rw [hg]; exact Nat.ne_of_lt (blk_lt (g := gb102) (o := .cells #[.bool a1_0, .string a1_1, .int .i64 a1_2] 23 (0, 0)) (by (with_reducible repeat (first | refine blk_drewN ?_ _ | refine blk_drew ?_ | refine blk_alloc ?_ _)); exact BK102.out)) : gb102 ≠ gb110))
              have n9_ := Aside0.mk ((by rw [hg]; exact Nat.ne_of_gt (blk_lt (g := gb102) (o := .cells #[.bool a1_0, .string a1_1, .int .i64 a1_2] 23 (0, 0)) (by (with_reducible repeat (first | refine blk_drewN ?_ _ | refine blk_drew ?_ | refine blk_alloc ?_ _)); exact BK102.out)) : gb110 ≠ gb102))
              clear BK101
              clear BK102
              clear HB
              have BK101 := n0_
              have BK102 := n1_
              have HB := n2_
              have BK110 := n3_
              have GW110 := n4_
              have GE110 := n5_
              have NB101_110 := n6_
              have NB110_101 := n7_
              have NB102_110 := n8_
              have NB110_102 := n9_
              clear n0_ n1_ n2_ n3_ n4_ n5_ n6_ n7_ n8_ n9_
              clear hb hbox hg
              refine hK.out _ _ ⟨(blk_cell BK101.out 0).trans rfl, (blk_cell BK101.out 1).trans rfl, (blk_cell BK101.out 2).trans rfl, (blk_cell BK102.out 0).trans rfl, (blk_cell BK102.out 1).trans rfl, (blk_cell BK102.out 2).trans rfl⟩ (fun hHeld => ?_)
              clear hK K
              refine norm_ (a' := ?_) ?_ ?_
              rotate_left
              · show Act.put _ (some 6) _ = _
                simp only [Act.put, List.setIfInBounds_toArray, List.set_cons_zero, List.set_cons_succ, i64_w, i32_w]
                rfl
              exact norm_ (by first | (simp only [putAll, Act.put, List.setIfInBounds_toArray, List.set_cons_zero, List.set_cons_succ]; done) | (simp only [putAll, Act.put, List.setIfInBounds_toArray, List.set_cons_zero, List.set_cons_succ]; rfl)) (hJ1_3_5 (gb110) _ ⟨hHeld, (by (with_reducible repeat (first | refine blk_drewN ?_ _ | refine blk_drew ?_ | refine blk_alloc ?_ _)); exact BK101.out), (by (with_reducible repeat (first | refine blk_drewN ?_ _ | refine blk_drew ?_ | refine blk_alloc ?_ _)); exact BK102.out), (by (with_reducible repeat (first | refine blk_drewN ?_ _ | refine blk_drew ?_ | refine blk_alloc ?_ _)); exact BK110.out), GW110.out, GE110.out, NB101_110.out, NB110_101.out, NB102_110.out, NB110_102.out, (by repeat (first | (with_reducible first | exact HB.out | apply below_alloc | apply pw_below_drewN | apply below_drew1 | refine below_set ?_ GE101.out | refine below_set ?_ GE102.out | refine below_set ?_ GE110.out) | exact HB.out))⟩)
        · skip
          rintro ⟨gb109, gb110⟩ w12 ⟨hS_, h0_, h1_, h2_, h3_, h4_, h5_, h6_, h7_, h8_, h9_, h10_, h11_, h12_, h13_, h14_, h15_, h16_, h17_, h18_⟩
          have n0_ : Aside0 (w12.heap[gb101]? = some (.cells #[.bool a0_0, .string a0_1, .int .i64 a0_2] 23 (0, 0))) := ⟨h0_⟩
          have n1_ : Aside0 (w12.heap[gb102]? = some (.cells #[.bool a1_0, .string a1_1, .int .i64 a1_2] 23 (0, 0))) := ⟨h1_⟩
          have n2_ : Aside0 (w12.heap[gb109]? = some (.cells #[.bool false, .string (⟨#[]⟩ : ByteArray), .int .i64 0] 23 (0, 0))) := ⟨h2_⟩
          have n3_ : Aside0 (w12.heap[gb110]? = some (.cells #[.bool false, .string (⟨#[]⟩ : ByteArray), .int .i64 0] 23 (0, 0))) := ⟨h3_⟩
          have n4_ : Aside0 (w.heap.size ≤ gb109) := ⟨h4_⟩
          have n5_ : Aside0 (w.heap.size ≤ gb109) := ⟨h5_⟩
          have n6_ : Aside0 (gb101 ≠ gb109) := ⟨h6_⟩
          have n7_ : Aside0 (gb109 ≠ gb101) := ⟨h7_⟩
          have n8_ : Aside0 (gb102 ≠ gb109) := ⟨h8_⟩
          have n9_ : Aside0 (gb109 ≠ gb102) := ⟨h9_⟩
          have n10_ : Aside0 (gb110 ≠ gb109) := ⟨h10_⟩
          have n11_ : Aside0 (gb109 ≠ gb110) := ⟨h11_⟩
          have n12_ : Aside0 (w.heap.size ≤ gb110) := ⟨h12_⟩
          have n13_ : Aside0 (w.heap.size ≤ gb110) := ⟨h13_⟩
          have n14_ : Aside0 (gb101 ≠ gb110) := ⟨h14_⟩
          have n15_ : Aside0 (gb110 ≠ gb101) := ⟨h15_⟩
          have n16_ : Aside0 (gb102 ≠ gb110) := ⟨h16_⟩
          have n17_ : Aside0 (gb110 ≠ gb102) := ⟨h17_⟩
          have n18_ : Aside0 (Below w.heap.size w w12) := ⟨h18_⟩
          clear BK101
          clear BK102
          clear HB
          clear h0_ h1_ h2_ h3_ h4_ h5_ h6_ h7_ h8_ h9_ h10_ h11_ h12_ h13_ h14_ h15_ h16_ h17_ h18_
          have BK101 := n0_
          have BK102 := n1_
          have BK109 := n2_
          have BK110 := n3_
          have GW109 := n4_
          have GE109 := n5_
          have NB101_109 := n6_
          have NB109_101 := n7_
          have NB102_109 := n8_
          have NB109_102 := n9_
          have NB110_109 := n10_
          have NB109_110 := n11_
          have GW110 := n12_
          have GE110 := n13_
          have NB101_110 := n14_
          have NB110_101 := n15_
          have NB102_110 := n16_
          have NB110_102 := n17_
          have HB := n18_
          clear n0_ n1_ n2_ n3_ n4_ n5_ n6_ n7_ n8_ n9_ n10_ n11_ n12_ n13_ n14_ n15_ n16_ n17_ n18_
          have hHeld : w12.cell? ⟨gb101, 0, none⟩ = some (.bool a0_0) ∧ w12.cell? ⟨gb101, 1, none⟩ = some (.string a0_1) ∧ w12.cell? ⟨gb101, 2, none⟩ = some (.int .i64 a0_2) ∧ w12.cell? ⟨gb102, 0, none⟩ = some (.bool a1_0) ∧ w12.cell? ⟨gb102, 1, none⟩ = some (.string a1_1) ∧ w12.cell? ⟨gb102, 2, none⟩ = some (.int .i64 a1_2) := hS_
          refine norm_ (a' := ?_) ?_ ?_
          rotate_left
          · simp only [putAll, Act.put, List.setIfInBounds_toArray, List.set_cons_zero, List.set_cons_succ]
            rfl
          refine one_ (i := 3) (N := some 10) #[true, true, true, true, true, true, false, false] rfl rfl (one_of HT_.out (by kernel_rfl)) (by decide) (fun K hK => ?_)
          refine goes_ Tryd.func25 (by kernel_rfl) rfl #[.agg #[.bool a1_0, .string a1_1, .int .i64 a1_2]] (by rfl) rfl rfl (by (try simp only [List.map_toArray, List.map_cons, List.map_nil]); first | done | rfl | (simp only [List.length_drop, List.length_take]; rfl)) ?_
          with_reducible refine (orthoepyref10_Norm.calls a1_0 a1_1 a1_2 t106 t107 t108 _ A4.out).mono ?_
          rintro e w13 ⟨rfl, hb⟩
          refine ⟨_, rfl, ?_⟩
          have n0_ := Aside0.mk (blk_below (g := gb101) (o := .cells #[.bool a0_0, .string a0_1, .int .i64 a0_2] 23 (0, 0)) (by (with_reducible repeat (first | refine blk_drewN ?_ _ | refine blk_drew ?_ | refine blk_alloc ?_ _)); exact BK101.out) hb)
          have n1_ := Aside0.mk (blk_below (g := gb102) (o := .cells #[.bool a1_0, .string a1_1, .int .i64 a1_2] 23 (0, 0)) (by (with_reducible repeat (first | refine blk_drewN ?_ _ | refine blk_drew ?_ | refine blk_alloc ?_ _)); exact BK102.out) hb)
          have n2_ := Aside0.mk (blk_below (g := gb109) (o := .cells #[.bool false, .string (⟨#[]⟩ : ByteArray), .int .i64 0] 23 (0, 0)) (by (with_reducible repeat (first | refine blk_drewN ?_ _ | refine blk_drew ?_ | refine blk_alloc ?_ _)); exact BK109.out) hb)
          have n3_ := Aside0.mk (blk_below (g := gb110) (o := .cells #[.bool false, .string (⟨#[]⟩ : ByteArray), .int .i64 0] 23 (0, 0)) (by (with_reducible repeat (first | refine blk_drewN ?_ _ | refine blk_drew ?_ | refine blk_alloc ?_ _)); exact BK110.out) hb)
          have n4_ := Aside0.mk (below_step (by repeat (first | (with_reducible first | exact HB.out | apply below_alloc | apply pw_below_drewN | apply below_drew1 | refine below_set ?_ GE101.out | refine below_set ?_ GE102.out | refine below_set ?_ GE109.out | refine below_set ?_ GE110.out) | exact HB.out)) hb)
          clear BK101
          clear BK102
          clear BK109
          clear BK110
          clear HB
          have BK101 := n0_
          have BK102 := n1_
          have BK109 := n2_
          have BK110 := n3_
          have HB := n4_
          clear n0_ n1_ n2_ n3_ n4_
          (try clear hb)
          (try clear hb2)
          (try clear hk)
          (try clear hi)
          refine hK.out _ _ ⟨(blk_cell BK101.out 0).trans rfl, (blk_cell BK101.out 1).trans rfl, (blk_cell BK101.out 2).trans rfl, (blk_cell BK102.out 0).trans rfl, (blk_cell BK102.out 1).trans rfl, (blk_cell BK102.out 2).trans rfl⟩ (fun hHeld => ?_)
          clear hK K
          refine norm_ (a' := ?_) ?_ ?_
          rotate_left
          · show Act.put _ (some 10) _ = _
            simp only [Act.put, List.setIfInBounds_toArray, List.set_cons_zero, List.set_cons_succ, i64_w, i32_w]
            rfl
          exact norm_ (by first | (simp only [putAll, Act.put, List.setIfInBounds_toArray, List.set_cons_zero, List.set_cons_succ]; done) | (simp only [putAll, Act.put, List.setIfInBounds_toArray, List.set_cons_zero, List.set_cons_succ]; rfl)) (hJ1_3_4_5 (gb109, gb110) _ ⟨hHeld, (by (with_reducible repeat (first | refine blk_drewN ?_ _ | refine blk_drew ?_ | refine blk_alloc ?_ _)); exact BK101.out), (by (with_reducible repeat (first | refine blk_drewN ?_ _ | refine blk_drew ?_ | refine blk_alloc ?_ _)); exact BK102.out), (by (with_reducible repeat (first | refine blk_drewN ?_ _ | refine blk_drew ?_ | refine blk_alloc ?_ _)); exact BK109.out), (by (with_reducible repeat (first | refine blk_drewN ?_ _ | refine blk_drew ?_ | refine blk_alloc ?_ _)); exact BK110.out), GW109.out, GE109.out, NB101_109.out, NB109_101.out, NB102_109.out, NB109_102.out, NB110_109.out, NB109_110.out, GW110.out, GE110.out, NB101_110.out, NB110_101.out, NB102_110.out, NB110_102.out, (by repeat (first | (with_reducible first | exact HB.out | apply below_alloc | apply pw_below_drewN | apply below_drew1 | refine below_set ?_ GE101.out | refine below_set ?_ GE102.out | refine below_set ?_ GE109.out | refine below_set ?_ GE110.out) | exact HB.out))⟩)
      · skip
        rintro gb110 w12 ⟨hS_, h0_, h1_, h2_, h3_, h4_, h5_, h6_, h7_, h8_, h9_⟩
        have n0_ : Aside0 (w12.heap[gb101]? = some (.cells #[.bool a0_0, .string a0_1, .int .i64 a0_2] 23 (0, 0))) := ⟨h0_⟩
        have n1_ : Aside0 (w12.heap[gb102]? = some (.cells #[.bool a1_0, .string a1_1, .int .i64 a1_2] 23 (0, 0))) := ⟨h1_⟩
        have n2_ : Aside0 (w12.heap[gb110]? = some (.cells #[.bool false, .string (⟨#[]⟩ : ByteArray), .int .i64 0] 23 (0, 0))) := ⟨h2_⟩
        have n3_ : Aside0 (w.heap.size ≤ gb110) := ⟨h3_⟩
        have n4_ : Aside0 (w.heap.size ≤ gb110) := ⟨h4_⟩
        have n5_ : Aside0 (gb101 ≠ gb110) := ⟨h5_⟩
        have n6_ : Aside0 (gb110 ≠ gb101) := ⟨h6_⟩
        have n7_ : Aside0 (gb102 ≠ gb110) := ⟨h7_⟩
        have n8_ : Aside0 (gb110 ≠ gb102) := ⟨h8_⟩
        have n9_ : Aside0 (Below w.heap.size w w12) := ⟨h9_⟩
        clear BK101
        clear BK102
        clear HB
        clear h0_ h1_ h2_ h3_ h4_ h5_ h6_ h7_ h8_ h9_
        have BK101 := n0_
        have BK102 := n1_
        have BK110 := n2_
        have GW110 := n3_
        have GE110 := n4_
        have NB101_110 := n5_
        have NB110_101 := n6_
        have NB102_110 := n7_
        have NB110_102 := n8_
        have HB := n9_
        clear n0_ n1_ n2_ n3_ n4_ n5_ n6_ n7_ n8_ n9_
        have hHeld : w12.cell? ⟨gb101, 0, none⟩ = some (.bool a0_0) ∧ w12.cell? ⟨gb101, 1, none⟩ = some (.string a0_1) ∧ w12.cell? ⟨gb101, 2, none⟩ = some (.int .i64 a0_2) ∧ w12.cell? ⟨gb102, 0, none⟩ = some (.bool a1_0) ∧ w12.cell? ⟨gb102, 1, none⟩ = some (.string a1_1) ∧ w12.cell? ⟨gb102, 2, none⟩ = some (.int .i64 a1_2) := hS_
        refine norm_ (a' := ?_) ?_ ?_
        rotate_left
        · simp only [putAll, Act.put, List.setIfInBounds_toArray, List.set_cons_zero, List.set_cons_succ]
          rfl
        refine one_ (i := 4) (N := some 5) #[true, true, true, true, true, true, false, false] rfl rfl (one_of HT_.out (by kernel_rfl)) (by decide) (fun K hK => ?_)
        refine box_step ?hg (N := 5) ?hd (cs := #[.bool false, .string (⟨#[]⟩ : ByteArray), .int .i64 0]) (t := 23) ?hr ?_; (case hd => rfl); (case hg => rfl); (case hr => first | (go_simp; done) | (go_simp; rfl))
        intro gb109 hg w13 hbox hb
        have n0_ := Aside0.mk (blk_below (g := gb101) (o := .cells #[.bool a0_0, .string a0_1, .int .i64 a0_2] 23 (0, 0)) (by (with_reducible repeat (first | refine blk_drewN ?_ _ | refine blk_drew ?_ | refine blk_alloc ?_ _)); exact BK101.out) hb)
        have n1_ := Aside0.mk (blk_below (g := gb102) (o := .cells #[.bool a1_0, .string a1_1, .int .i64 a1_2] 23 (0, 0)) (by (with_reducible repeat (first | refine blk_drewN ?_ _ | refine blk_drew ?_ | refine blk_alloc ?_ _)); exact BK102.out) hb)
        have n2_ := Aside0.mk (blk_below (g := gb110) (o := .cells #[.bool false, .string (⟨#[]⟩ : ByteArray), .int .i64 0] 23 (0, 0)) (by (with_reducible repeat (first | refine blk_drewN ?_ _ | refine blk_drew ?_ | refine blk_alloc ?_ _)); exact BK110.out) hb)
        have n3_ := Aside0.mk (below_step (by repeat (first | (with_reducible first | exact HB.out | apply below_alloc | apply pw_below_drewN | apply below_drew1 | refine below_set ?_ GE101.out | refine below_set ?_ GE102.out | refine below_set ?_ GE110.out) | exact HB.out)) hb)
        have n4_ := Aside0.mk (hbox)
        have n5_ := Aside0.mk ((by rw [hg]; exact (below_size (by repeat (first | (with_reducible first | exact HB.out | apply below_alloc | apply pw_below_drewN | apply below_drew1 | refine below_set ?_ GE101.out | refine below_set ?_ GE102.out | refine below_set ?_ GE110.out) | exact HB.out))) : w.heap.size ≤ gb109))
        have n6_ := Aside0.mk ((by rw [hg]; exact (below_size (by repeat (first | (with_reducible first | exact HB.out | apply below_alloc | apply pw_below_drewN | apply below_drew1 | refine below_set ?_ GE101.out | refine below_set ?_ GE102.out | refine below_set ?_ GE110.out) | exact HB.out))) : w.heap.size ≤ gb109))
        have n7_ := Aside0.mk ((by rw [hg]; exact Nat.ne_of_lt (blk_lt (g := gb101) (o := .cells #[.bool a0_0, .string a0_1, .int .i64 a0_2] 23 (0, 0)) (by (with_reducible repeat (first | refine blk_drewN ?_ _ | refine blk_drew ?_ | refine blk_alloc ?_ _)); exact BK101.out)) : gb101 ≠ gb109))
        have n8_ := Aside0.mk ((by rw [hg]; exact Nat.ne_of_gt (blk_lt (g := gb101) (o := .cells #[.bool a0_0, .string a0_1, .int .i64 a0_2] 23 (0, 0)) (by (with_reducible repeat (first | refine blk_drewN ?_ _ | refine blk_drew ?_ | refine blk_alloc ?_ _)); exact BK101.out)) : gb109 ≠ gb101))
        have n9_ := Aside0.mk ((by rw [hg]; exact Nat.ne_of_lt (blk_lt (g := gb102) (o := .cells #[.bool a1_0, .string a1_1, .int .i64 a1_2] 23 (0, 0)) (by (with_reducible repeat (first | refine blk_drewN ?_ _ | refine blk_drew ?_ | refine blk_alloc ?_ _)); exact BK102.out)) : gb102 ≠ gb109))
        have n10_ := Aside0.mk ((by rw [hg]; exact Nat.ne_of_gt (blk_lt (g := gb102) (o := .cells #[.bool a1_0, .string a1_1, .int .i64 a1_2] 23 (0, 0)) (by (with_reducible repeat (first | refine blk_drewN ?_ _ | refine blk_drew ?_ | refine blk_alloc ?_ _)); exact BK102.out)) : gb109 ≠ gb102))
        have n11_ := Aside0.mk ((by rw [hg]; exact Nat.ne_of_lt (blk_lt (g := gb110) (o := .cells #[.bool false, .string (⟨#[]⟩ : ByteArray), .int .i64 0] 23 (0, 0)) (by (with_reducible repeat (first | refine blk_drewN ?_ _ | refine blk_drew ?_ | refine blk_alloc ?_ _)); exact BK110.out)) : gb110 ≠ gb109))
        have n12_ := Aside0.mk ((by rw [hg]; exact Nat.ne_of_gt (blk_lt (g := gb110) (o := .cells #[.bool false, .string (⟨#[]⟩ : ByteArray), .int .i64 0] 23 (0, 0)) (by (with_reducible repeat (first | refine blk_drewN ?_ _ | refine blk_drew ?_ | refine blk_alloc ?_ _)); exact BK110.out)) : gb109 ≠ gb110))
        clear BK101
        clear BK102
        clear BK110
        clear HB
        have BK101 := n0_
        have BK102 := n1_
        have BK110 := n2_
        have HB := n3_
        have BK109 := n4_
        have GW109 := n5_
        have GE109 := n6_
        have NB101_109 := n7_
        have NB109_101 := n8_
        have NB102_109 := n9_
        have NB109_102 := n10_
        have NB110_109 := n11_
        have NB109_110 := n12_
        clear n0_ n1_ n2_ n3_ n4_ n5_ n6_ n7_ n8_ n9_ n10_ n11_ n12_
        clear hb hbox hg
        refine hK.out _ _ ⟨(blk_cell BK101.out 0).trans rfl, (blk_cell BK101.out 1).trans rfl, (blk_cell BK101.out 2).trans rfl, (blk_cell BK102.out 0).trans rfl, (blk_cell BK102.out 1).trans rfl, (blk_cell BK102.out 2).trans rfl⟩ (fun hHeld => ?_)
        clear hK K
        refine norm_ (a' := ?_) ?_ ?_
        rotate_left
        · show Act.put _ (some 5) _ = _
          simp only [Act.put, List.setIfInBounds_toArray, List.set_cons_zero, List.set_cons_succ, i64_w, i32_w]
          rfl
        exact norm_ (by first | (simp only [putAll, Act.put, List.setIfInBounds_toArray, List.set_cons_zero, List.set_cons_succ]; done) | (simp only [putAll, Act.put, List.setIfInBounds_toArray, List.set_cons_zero, List.set_cons_succ]; rfl)) (hJ1_3_4_5 (gb109, gb110) _ ⟨hHeld, (by (with_reducible repeat (first | refine blk_drewN ?_ _ | refine blk_drew ?_ | refine blk_alloc ?_ _)); exact BK101.out), (by (with_reducible repeat (first | refine blk_drewN ?_ _ | refine blk_drew ?_ | refine blk_alloc ?_ _)); exact BK102.out), (by (with_reducible repeat (first | refine blk_drewN ?_ _ | refine blk_drew ?_ | refine blk_alloc ?_ _)); exact BK109.out), (by (with_reducible repeat (first | refine blk_drewN ?_ _ | refine blk_drew ?_ | refine blk_alloc ?_ _)); exact BK110.out), GW109.out, GE109.out, NB101_109.out, NB109_101.out, NB102_109.out, NB109_102.out, NB110_109.out, NB109_110.out, GW110.out, GE110.out, NB101_110.out, NB110_101.out, NB102_110.out, NB110_102.out, (by repeat (first | (with_reducible first | exact HB.out | apply below_alloc | apply pw_below_drewN | apply below_drew1 | refine below_set ?_ GE101.out | refine below_set ?_ GE102.out | refine below_set ?_ GE110.out | refine below_set ?_ GE109.out) | exact HB.out))⟩)
    · skip
      rintro gb109 w12 ⟨hS_, h0_, h1_, h2_, h3_, h4_, h5_, h6_, h7_, h8_, h9_⟩
      have n0_ : Aside0 (w12.heap[gb101]? = some (.cells #[.bool a0_0, .string a0_1, .int .i64 a0_2] 23 (0, 0))) := ⟨h0_⟩
      have n1_ : Aside0 (w12.heap[gb102]? = some (.cells #[.bool a1_0, .string a1_1, .int .i64 a1_2] 23 (0, 0))) := ⟨h1_⟩
      have n2_ : Aside0 (w12.heap[gb109]? = some (.cells #[.bool false, .string (⟨#[]⟩ : ByteArray), .int .i64 0] 23 (0, 0))) := ⟨h2_⟩
      have n3_ : Aside0 (w.heap.size ≤ gb109) := ⟨h3_⟩
      have n4_ : Aside0 (w.heap.size ≤ gb109) := ⟨h4_⟩
      have n5_ : Aside0 (gb101 ≠ gb109) := ⟨h5_⟩
      have n6_ : Aside0 (gb109 ≠ gb101) := ⟨h6_⟩
      have n7_ : Aside0 (gb102 ≠ gb109) := ⟨h7_⟩
      have n8_ : Aside0 (gb109 ≠ gb102) := ⟨h8_⟩
      have n9_ : Aside0 (Below w.heap.size w w12) := ⟨h9_⟩
      clear BK101
      clear BK102
      clear HB
      clear h0_ h1_ h2_ h3_ h4_ h5_ h6_ h7_ h8_ h9_
      have BK101 := n0_
      have BK102 := n1_
      have BK109 := n2_
      have GW109 := n3_
      have GE109 := n4_
      have NB101_109 := n5_
      have NB109_101 := n6_
      have NB102_109 := n7_
      have NB109_102 := n8_
      have HB := n9_
      clear n0_ n1_ n2_ n3_ n4_ n5_ n6_ n7_ n8_ n9_
      have hHeld : w12.cell? ⟨gb101, 0, none⟩ = some (.bool a0_0) ∧ w12.cell? ⟨gb101, 1, none⟩ = some (.string a0_1) ∧ w12.cell? ⟨gb101, 2, none⟩ = some (.int .i64 a0_2) ∧ w12.cell? ⟨gb102, 0, none⟩ = some (.bool a1_0) ∧ w12.cell? ⟨gb102, 1, none⟩ = some (.string a1_1) ∧ w12.cell? ⟨gb102, 2, none⟩ = some (.int .i64 a1_2) := hS_
      refine norm_ (a' := ?_) ?_ ?_
      rotate_left
      · simp only [putAll, Act.put, List.setIfInBounds_toArray, List.set_cons_zero, List.set_cons_succ]
        rfl
      refine one_ (i := 5) (N := some 6) #[true, true, true, true, true, true, false, false] rfl rfl (one_of HT_.out (by kernel_rfl)) (by decide) (fun K hK => ?_)
      refine box_step ?hg (N := 6) ?hd (cs := #[.bool false, .string (⟨#[]⟩ : ByteArray), .int .i64 0]) (t := 23) ?hr ?_; (case hd => rfl); (case hg => rfl); (case hr => first | (go_simp; done) | (go_simp; rfl))
      intro gb110 hg w13 hbox hb
      have n0_ := Aside0.mk (blk_below (g := gb101) (o := .cells #[.bool a0_0, .string a0_1, .int .i64 a0_2] 23 (0, 0)) (by (with_reducible repeat (first | refine blk_drewN ?_ _ | refine blk_drew ?_ | refine blk_alloc ?_ _)); exact BK101.out) hb)
      have n1_ := Aside0.mk (blk_below (g := gb102) (o := .cells #[.bool a1_0, .string a1_1, .int .i64 a1_2] 23 (0, 0)) (by (with_reducible repeat (first | refine blk_drewN ?_ _ | refine blk_drew ?_ | refine blk_alloc ?_ _)); exact BK102.out) hb)
      have n2_ := Aside0.mk (blk_below (g := gb109) (o := .cells #[.bool false, .string (⟨#[]⟩ : ByteArray), .int .i64 0] 23 (0, 0)) (by (with_reducible repeat (first | refine blk_drewN ?_ _ | refine blk_drew ?_ | refine blk_alloc ?_ _)); exact BK109.out) hb)
      have n3_ := Aside0.mk (below_step (by repeat (first | (with_reducible first | exact HB.out | apply below_alloc | apply pw_below_drewN | apply below_drew1 | refine below_set ?_ GE101.out | refine below_set ?_ GE102.out | refine below_set ?_ GE109.out) | exact HB.out)) hb)
      have n4_ := Aside0.mk (hbox)
      have n5_ := Aside0.mk ((by rw [hg]; exact (below_size (by repeat (first | (with_reducible first | exact HB.out | apply below_alloc | apply pw_below_drewN | apply below_drew1 | refine below_set ?_ GE101.out | refine below_set ?_ GE102.out | refine below_set ?_ GE109.out) | exact HB.out))) : w.heap.size ≤ gb110))
      have n6_ := Aside0.mk ((by rw [hg]; exact (below_size (by repeat (first | (with_reducible first | exact HB.out | apply below_alloc | apply pw_below_drewN | apply below_drew1 | refine below_set ?_ GE101.out | refine below_set ?_ GE102.out | refine below_set ?_ GE109.out) | exact HB.out))) : w.heap.size ≤ gb110))
      have n7_ := Aside0.mk ((by rw [hg]; exact Nat.ne_of_lt (blk_lt (g := gb101) (o := .cells #[.bool a0_0, .string a0_1, .int .i64 a0_2] 23 (0, 0)) (by (with_reducible repeat (first | refine blk_drewN ?_ _ | refine blk_drew ?_ | refine blk_alloc ?_ _)); exact BK101.out)) : gb101 ≠ gb110))
      have n8_ := Aside0.mk ((by rw [hg]; exact Nat.ne_of_gt (blk_lt (g := gb101) (o := .cells #[.bool a0_0, .string a0_1, .int .i64 a0_2] 23 (0, 0)) (by (with_reducible repeat (first | refine blk_drewN ?_ _ | refine blk_drew ?_ | refine blk_alloc ?_ _)); exact BK101.out)) : gb110 ≠ gb101))
      have n9_ := Aside0.mk ((by rw [hg]; exact Nat.ne_of_lt (blk_lt (g := gb102) (o := .cells #[.bool a1_0, .string a1_1, .int .i64 a1_2] 23 (0, 0)) (by (with_reducible repeat (first | refine blk_drewN ?_ _ | refine blk_drew ?_ | refine blk_alloc ?_ _)); exact BK102.out)) : gb102 ≠ gb110))
      have n10_ := Aside0.mk ((by rw [hg]; exact Nat.ne_of_gt (blk_lt (g := gb102) (o := .cells #[.bool a1_0, .string a1_1, .int .i64 a1_2] 23 (0, 0)) (by (with_reducible repeat (first | refine blk_drewN ?_ _ | refine blk_drew ?_ | refine blk_alloc ?_ _)); exact BK102.out)) : gb110 ≠ gb102))
      have n11_ := Aside0.mk ((by rw [hg]; exact Nat.ne_of_lt (blk_lt (g := gb109) (o := .cells #[.bool false, .string (⟨#[]⟩ : ByteArray), .int .i64 0] 23 (0, 0)) (by (with_reducible repeat (first | refine blk_drewN ?_ _ | refine blk_drew ?_ | refine blk_alloc ?_ _)); exact BK109.out)) : gb109 ≠ gb110))
      have n12_ := Aside0.mk ((by rw [hg]; exact Nat.ne_of_gt (blk_lt (g := gb109) (o := .cells #[.bool false, .string (⟨#[]⟩ : ByteArray), .int .i64 0] 23 (0, 0)) (by (with_reducible repeat (first | refine blk_drewN ?_ _ | refine blk_drew ?_ | refine blk_alloc ?_ _)); exact BK109.out)) : gb110 ≠ gb109))
      clear BK101
      clear BK102
      clear BK109
      clear HB
      have BK101 := n0_
      have BK102 := n1_
      have BK109 := n2_
      have HB := n3_
      have BK110 := n4_
      have GW110 := n5_
      have GE110 := n6_
      have NB101_110 := n7_
      have NB110_101 := n8_
      have NB102_110 := n9_
      have NB110_102 := n10_
      have NB109_110 := n11_
      have NB110_109 := n12_
      clear n0_ n1_ n2_ n3_ n4_ n5_ n6_ n7_ n8_ n9_ n10_ n11_ n12_
      clear hb hbox hg
      refine hK.out _ _ ⟨(blk_cell BK101.out 0).trans rfl, (blk_cell BK101.out 1).trans rfl, (blk_cell BK101.out 2).trans rfl, (blk_cell BK102.out 0).trans rfl, (blk_cell BK102.out 1).trans rfl, (blk_cell BK102.out 2).trans rfl⟩ (fun hHeld => ?_)
      clear hK K
      refine norm_ (a' := ?_) ?_ ?_
      rotate_left
      · show Act.put _ (some 6) _ = _
        simp only [Act.put, List.setIfInBounds_toArray, List.set_cons_zero, List.set_cons_succ, i64_w, i32_w]
        rfl
      exact norm_ (by first | (simp only [putAll, Act.put, List.setIfInBounds_toArray, List.set_cons_zero, List.set_cons_succ]; done) | (simp only [putAll, Act.put, List.setIfInBounds_toArray, List.set_cons_zero, List.set_cons_succ]; rfl)) (hJ1_3_4_5 (gb109, gb110) _ ⟨hHeld, (by (with_reducible repeat (first | refine blk_drewN ?_ _ | refine blk_drew ?_ | refine blk_alloc ?_ _)); exact BK101.out), (by (with_reducible repeat (first | refine blk_drewN ?_ _ | refine blk_drew ?_ | refine blk_alloc ?_ _)); exact BK102.out), (by (with_reducible repeat (first | refine blk_drewN ?_ _ | refine blk_drew ?_ | refine blk_alloc ?_ _)); exact BK109.out), (by (with_reducible repeat (first | refine blk_drewN ?_ _ | refine blk_drew ?_ | refine blk_alloc ?_ _)); exact BK110.out), GW109.out, GE109.out, NB101_109.out, NB109_101.out, NB102_109.out, NB109_102.out, NB110_109.out, NB109_110.out, GW110.out, GE110.out, NB101_110.out, NB110_101.out, NB102_110.out, NB110_102.out, (by repeat (first | (with_reducible first | exact HB.out | apply below_alloc | apply pw_below_drewN | apply below_drew1 | refine below_set ?_ GE101.out | refine below_set ?_ GE102.out | refine below_set ?_ GE109.out | refine below_set ?_ GE110.out) | exact HB.out))⟩)
  rintro ⟨gb109, gb110⟩ w13 ⟨hS_, h0_, h1_, h2_, h3_, h4_, h5_, h6_, h7_, h8_, h9_, h10_, h11_, h12_, h13_, h14_, h15_, h16_, h17_, h18_⟩
  have n0_ : Aside0 (w13.heap[gb101]? = some (.cells #[.bool a0_0, .string a0_1, .int .i64 a0_2] 23 (0, 0))) := ⟨h0_⟩
  have n1_ : Aside0 (w13.heap[gb102]? = some (.cells #[.bool a1_0, .string a1_1, .int .i64 a1_2] 23 (0, 0))) := ⟨h1_⟩
  have n2_ : Aside0 (w13.heap[gb109]? = some (.cells #[.bool false, .string (⟨#[]⟩ : ByteArray), .int .i64 0] 23 (0, 0))) := ⟨h2_⟩
  have n3_ : Aside0 (w13.heap[gb110]? = some (.cells #[.bool false, .string (⟨#[]⟩ : ByteArray), .int .i64 0] 23 (0, 0))) := ⟨h3_⟩
  have n4_ : Aside0 (w.heap.size ≤ gb109) := ⟨h4_⟩
  have n5_ : Aside0 (w.heap.size ≤ gb109) := ⟨h5_⟩
  have n6_ : Aside0 (gb101 ≠ gb109) := ⟨h6_⟩
  have n7_ : Aside0 (gb109 ≠ gb101) := ⟨h7_⟩
  have n8_ : Aside0 (gb102 ≠ gb109) := ⟨h8_⟩
  have n9_ : Aside0 (gb109 ≠ gb102) := ⟨h9_⟩
  have n10_ : Aside0 (gb110 ≠ gb109) := ⟨h10_⟩
  have n11_ : Aside0 (gb109 ≠ gb110) := ⟨h11_⟩
  have n12_ : Aside0 (w.heap.size ≤ gb110) := ⟨h12_⟩
  have n13_ : Aside0 (w.heap.size ≤ gb110) := ⟨h13_⟩
  have n14_ : Aside0 (gb101 ≠ gb110) := ⟨h14_⟩
  have n15_ : Aside0 (gb110 ≠ gb101) := ⟨h15_⟩
  have n16_ : Aside0 (gb102 ≠ gb110) := ⟨h16_⟩
  have n17_ : Aside0 (gb110 ≠ gb102) := ⟨h17_⟩
  have n18_ : Aside0 (Below w.heap.size w w13) := ⟨h18_⟩
  clear BK101
  clear BK102
  clear HB
  clear h0_ h1_ h2_ h3_ h4_ h5_ h6_ h7_ h8_ h9_ h10_ h11_ h12_ h13_ h14_ h15_ h16_ h17_ h18_
  have BK101 := n0_
  have BK102 := n1_
  have BK109 := n2_
  have BK110 := n3_
  have GW109 := n4_
  have GE109 := n5_
  have NB101_109 := n6_
  have NB109_101 := n7_
  have NB102_109 := n8_
  have NB109_102 := n9_
  have NB110_109 := n10_
  have NB109_110 := n11_
  have GW110 := n12_
  have GE110 := n13_
  have NB101_110 := n14_
  have NB110_101 := n15_
  have NB102_110 := n16_
  have NB110_102 := n17_
  have HB := n18_
  clear n0_ n1_ n2_ n3_ n4_ n5_ n6_ n7_ n8_ n9_ n10_ n11_ n12_ n13_ n14_ n15_ n16_ n17_ n18_
  have hHeld : w13.cell? ⟨gb101, 0, none⟩ = some (.bool a0_0) ∧ w13.cell? ⟨gb101, 1, none⟩ = some (.string a0_1) ∧ w13.cell? ⟨gb101, 2, none⟩ = some (.int .i64 a0_2) ∧ w13.cell? ⟨gb102, 0, none⟩ = some (.bool a1_0) ∧ w13.cell? ⟨gb102, 1, none⟩ = some (.string a1_1) ∧ w13.cell? ⟨gb102, 2, none⟩ = some (.int .i64 a1_2) := hS_
  refine norm_ (a' := ?_) ?_ ?_
  rotate_left
  · simp only [putAll, Act.put, List.setIfInBounds_toArray, List.set_cons_zero, List.set_cons_succ]
    rfl
  refine one_ (i := 6) (N := none) #[true, true, true, true, true, true, true, false] rfl rfl (one_of HT_.out (by kernel_rfl)) (by decide) (fun K hK => ?_)
  have hs14 : w13.cell? ⟨gb109, 0, none⟩ = some (.bool false) := (blk_cell BK109.out 0).trans rfl
  have hfs14 := blk_frozen BK109.out 0
  have hns14_0 := NB101_109.out
  have hns14_1 := NB102_109.out
  have hns14_3 := NB110_109.out
  have hms14_0 := NB109_101.out
  have hms14_1 := NB109_102.out
  have hms14_3 := NB109_110.out
  have hs15 : w13.cell? ⟨gb109, 1, none⟩ = some (.string (⟨#[]⟩ : ByteArray)) := (blk_cell BK109.out 1).trans rfl
  have hfs15 := blk_frozen BK109.out 1
  have hns15_0 := NB101_109.out
  have hns15_1 := NB102_109.out
  have hns15_3 := NB110_109.out
  have hms15_0 := NB109_101.out
  have hms15_1 := NB109_102.out
  have hms15_3 := NB109_110.out
  have hs16 : w13.cell? ⟨gb109, 2, none⟩ = some (.int .i64 0) := (blk_cell BK109.out 2).trans rfl
  have hfs16 := blk_frozen BK109.out 2
  have hns16_0 := NB101_109.out
  have hns16_1 := NB102_109.out
  have hns16_3 := NB110_109.out
  have hms16_0 := NB109_101.out
  have hms16_1 := NB109_102.out
  have hms16_3 := NB109_110.out
  refine skip_ (w1 := ?_) (by rfl) rfl ?_ ?_
  rotate_left
  · go_simp
    rfl
  refine hK.out _ _ ⟨((cell_far (p := ⟨gb109, _, none⟩) NB101_109.out _).trans (((cell_far (p := ⟨gb109, _, none⟩) NB101_109.out _).trans (((cell_far (p := ⟨gb109, _, none⟩) NB101_109.out _).trans (hHeld.1)))))), ((cell_far (p := ⟨gb109, _, none⟩) NB101_109.out _).trans (((cell_far (p := ⟨gb109, _, none⟩) NB101_109.out _).trans (((cell_far (p := ⟨gb109, _, none⟩) NB101_109.out _).trans (hHeld.2.1)))))), ((cell_far (p := ⟨gb109, _, none⟩) NB101_109.out _).trans (((cell_far (p := ⟨gb109, _, none⟩) NB101_109.out _).trans (((cell_far (p := ⟨gb109, _, none⟩) NB101_109.out _).trans (hHeld.2.2.1)))))), ((cell_far (p := ⟨gb109, _, none⟩) NB102_109.out _).trans (((cell_far (p := ⟨gb109, _, none⟩) NB102_109.out _).trans (((cell_far (p := ⟨gb109, _, none⟩) NB102_109.out _).trans (hHeld.2.2.2.1)))))), ((cell_far (p := ⟨gb109, _, none⟩) NB102_109.out _).trans (((cell_far (p := ⟨gb109, _, none⟩) NB102_109.out _).trans (((cell_far (p := ⟨gb109, _, none⟩) NB102_109.out _).trans (hHeld.2.2.2.2.1)))))), ((cell_far (p := ⟨gb109, _, none⟩) NB102_109.out _).trans (((cell_far (p := ⟨gb109, _, none⟩) NB102_109.out _).trans (((cell_far (p := ⟨gb109, _, none⟩) NB102_109.out _).trans (hHeld.2.2.2.2.2))))))⟩ (fun hHeld => ?_)
  clear hK K
  refine one_ (i := 7) (N := none) #[true, true, true, true, true, true, true, true] rfl rfl (one_of HT_.out (by kernel_rfl)) (by decide) (fun K hK => ?_)
  have hs17 : w13.cell? ⟨gb110, 0, none⟩ = some (.bool false) := (blk_cell BK110.out 0).trans rfl
  have hfs17 := blk_frozen BK110.out 0
  have hns17_0 := NB101_110.out
  have hns17_1 := NB102_110.out
  have hns17_2 := NB109_110.out
  have hms17_0 := NB110_101.out
  have hms17_1 := NB110_102.out
  have hms17_2 := NB110_109.out
  have hs18 : w13.cell? ⟨gb110, 1, none⟩ = some (.string (⟨#[]⟩ : ByteArray)) := (blk_cell BK110.out 1).trans rfl
  have hfs18 := blk_frozen BK110.out 1
  have hns18_0 := NB101_110.out
  have hns18_1 := NB102_110.out
  have hns18_2 := NB109_110.out
  have hms18_0 := NB110_101.out
  have hms18_1 := NB110_102.out
  have hms18_2 := NB110_109.out
  have hs19 : w13.cell? ⟨gb110, 2, none⟩ = some (.int .i64 0) := (blk_cell BK110.out 2).trans rfl
  have hfs19 := blk_frozen BK110.out 2
  have hns19_0 := NB101_110.out
  have hns19_1 := NB102_110.out
  have hns19_2 := NB109_110.out
  have hms19_0 := NB110_101.out
  have hms19_1 := NB110_102.out
  have hms19_2 := NB110_109.out
  refine skip_ (w1 := ?_) (by rfl) rfl ?_ ?_
  rotate_left
  · go_simp
    rfl
  refine hK.out _ _ ⟨((cell_far (p := ⟨gb110, _, none⟩) NB101_110.out _).trans (((cell_far (p := ⟨gb110, _, none⟩) NB101_110.out _).trans (((cell_far (p := ⟨gb110, _, none⟩) NB101_110.out _).trans (hHeld.1)))))), ((cell_far (p := ⟨gb110, _, none⟩) NB101_110.out _).trans (((cell_far (p := ⟨gb110, _, none⟩) NB101_110.out _).trans (((cell_far (p := ⟨gb110, _, none⟩) NB101_110.out _).trans (hHeld.2.1)))))), ((cell_far (p := ⟨gb110, _, none⟩) NB101_110.out _).trans (((cell_far (p := ⟨gb110, _, none⟩) NB101_110.out _).trans (((cell_far (p := ⟨gb110, _, none⟩) NB101_110.out _).trans (hHeld.2.2.1)))))), ((cell_far (p := ⟨gb110, _, none⟩) NB102_110.out _).trans (((cell_far (p := ⟨gb110, _, none⟩) NB102_110.out _).trans (((cell_far (p := ⟨gb110, _, none⟩) NB102_110.out _).trans (hHeld.2.2.2.1)))))), ((cell_far (p := ⟨gb110, _, none⟩) NB102_110.out _).trans (((cell_far (p := ⟨gb110, _, none⟩) NB102_110.out _).trans (((cell_far (p := ⟨gb110, _, none⟩) NB102_110.out _).trans (hHeld.2.2.2.2.1)))))), ((cell_far (p := ⟨gb110, _, none⟩) NB102_110.out _).trans (((cell_far (p := ⟨gb110, _, none⟩) NB102_110.out _).trans (((cell_far (p := ⟨gb110, _, none⟩) NB102_110.out _).trans (hHeld.2.2.2.2.2))))))⟩ (fun hHeld => ?_)
  clear hK K
  refine done_ (done_of HT_.out (by kernel_rfl)) ?_
  go_upto_region 2 with (fail)
  go_cut [11] (fun v11 wc => ∃ (kq : Nat) (x11_4 : Bool), v11 = .bool x11_4 ∧ Aside0 (orthoepyref10_Cmp.j0 kq x11_4 t103 t104 t105 t106 t107 t108 = some r) ∧ Aside0 (kq ≤ k) ∧ Aside0 (wc.heap[gb101]? = some (.cells #[.bool a0_0, .string a0_1, .int .i64 a0_2] 23 (0, 0))) ∧ Aside0 (wc.heap[gb102]? = some (.cells #[.bool a1_0, .string a1_1, .int .i64 a1_2] 23 (0, 0))) ∧ Aside0 (wc.heap[gb109]? = some (.cells #[.bool t103, .string t104, .int .i64 t105] 23 (0, 0))) ∧ Aside0 (wc.heap[gb110]? = some (.cells #[.bool t106, .string t107, .int .i64 t108] 23 (0, 0))) ∧ Aside0 (Below w.heap.size w wc))
  case first =>
    have H := HC5.out
    clear HC5
    by_cases c20 : (t104.size : Int) = 0
    · rw [if_pos c20] at H
      have c20b0 : ((t104.size : Int) == 0) = true := beq_iff_eq.mpr c20
      have c20b1 : ((t104.size : Int) != 0) = false := bne_eq_false_iff_eq.mpr c20
      clear c20
      (first | rw [c20b0] | (simp only [i64_w, i32_w]; rw [c20b0]) | skip)
      have H' := Aside0.mk H
      clear H
      have hnb21 := NB109_101.out
      have hnc21 := NB101_109.out
      have hnb22 := NB109_102.out
      have hnc22 := NB102_109.out
      have hnb23 := NB109_110.out
      have hnc23 := NB110_109.out
      have hcz24_0 : w13.cell? ⟨gb109, 0, none⟩ = some (.bool false) := (blk_cell BK109.out 0).trans rfl
      have hcz24_1 : w13.cell? ⟨gb109, 1, none⟩ = some (.string (⟨#[]⟩ : ByteArray)) := (blk_cell BK109.out 1).trans rfl
      have hcz24_2 : w13.cell? ⟨gb109, 2, none⟩ = some (.int .i64 0) := (blk_cell BK109.out 2).trans rfl
      have hfz24_0 := blk_frozen BK109.out 0
      have hfz24_1 := blk_frozen BK109.out 1
      have hfz24_2 := blk_frozen BK109.out 2
      have hnb25 := NB110_101.out
      have hnc25 := NB101_110.out
      have hnb26 := NB110_102.out
      have hnc26 := NB102_110.out
      have hcz27_0 : w13.cell? ⟨gb110, 0, none⟩ = some (.bool false) := (blk_cell BK110.out 0).trans rfl
      have hcz27_1 : w13.cell? ⟨gb110, 1, none⟩ = some (.string (⟨#[]⟩ : ByteArray)) := (blk_cell BK110.out 1).trans rfl
      have hcz27_2 : w13.cell? ⟨gb110, 2, none⟩ = some (.int .i64 0) := (blk_cell BK110.out 2).trans rfl
      have hfz27_0 := blk_frozen BK110.out 0
      have hfz27_1 := blk_frozen BK110.out 1
      have hfz27_2 := blk_frozen BK110.out 2
      go_wp2
      go_meet
      case rel => exact ⟨_, (((t107.size : Int) == 0)), (by first | rfl | (simp; done) | (simp [*]; done)), H', ⟨by first | omega | exact Nat.le_refl _⟩, ⟨by (with_reducible repeat (first | refine blk_drewN ?_ _ | refine blk_drew ?_ | refine blk_alloc ?_ _)); refine blk_far ?_ NB101_110.out _; (with_reducible repeat (first | refine blk_drewN ?_ _ | refine blk_drew ?_ | refine blk_alloc ?_ _)); refine blk_far ?_ NB101_110.out _; (with_reducible repeat (first | refine blk_drewN ?_ _ | refine blk_drew ?_ | refine blk_alloc ?_ _)); refine blk_far ?_ NB101_110.out _; (with_reducible repeat (first | refine blk_drewN ?_ _ | refine blk_drew ?_ | refine blk_alloc ?_ _)); refine blk_far ?_ NB101_109.out _; (with_reducible repeat (first | refine blk_drewN ?_ _ | refine blk_drew ?_ | refine blk_alloc ?_ _)); refine blk_far ?_ NB101_109.out _; (with_reducible repeat (first | refine blk_drewN ?_ _ | refine blk_drew ?_ | refine blk_alloc ?_ _)); refine blk_far ?_ NB101_109.out _; (with_reducible repeat (first | refine blk_drewN ?_ _ | refine blk_drew ?_ | refine blk_alloc ?_ _)); exact BK101.out⟩, ⟨by (with_reducible repeat (first | refine blk_drewN ?_ _ | refine blk_drew ?_ | refine blk_alloc ?_ _)); refine blk_far ?_ NB102_110.out _; (with_reducible repeat (first | refine blk_drewN ?_ _ | refine blk_drew ?_ | refine blk_alloc ?_ _)); refine blk_far ?_ NB102_110.out _; (with_reducible repeat (first | refine blk_drewN ?_ _ | refine blk_drew ?_ | refine blk_alloc ?_ _)); refine blk_far ?_ NB102_110.out _; (with_reducible repeat (first | refine blk_drewN ?_ _ | refine blk_drew ?_ | refine blk_alloc ?_ _)); refine blk_far ?_ NB102_109.out _; (with_reducible repeat (first | refine blk_drewN ?_ _ | refine blk_drew ?_ | refine blk_alloc ?_ _)); refine blk_far ?_ NB102_109.out _; (with_reducible repeat (first | refine blk_drewN ?_ _ | refine blk_drew ?_ | refine blk_alloc ?_ _)); refine blk_far ?_ NB102_109.out _; (with_reducible repeat (first | refine blk_drewN ?_ _ | refine blk_drew ?_ | refine blk_alloc ?_ _)); exact BK102.out⟩, ⟨by (with_reducible repeat (first | refine blk_drewN ?_ _ | refine blk_drew ?_ | refine blk_alloc ?_ _)); refine blk_far ?_ NB109_110.out _; (with_reducible repeat (first | refine blk_drewN ?_ _ | refine blk_drew ?_ | refine blk_alloc ?_ _)); refine blk_far ?_ NB109_110.out _; (with_reducible repeat (first | refine blk_drewN ?_ _ | refine blk_drew ?_ | refine blk_alloc ?_ _)); refine blk_far ?_ NB109_110.out _; (with_reducible repeat (first | refine blk_drewN ?_ _ | refine blk_drew ?_ | refine blk_alloc ?_ _)); refine blk_put (cs := #[.bool t103, .string t104, .int .i64 0]) ?_ 2 _ rfl; (with_reducible repeat (first | refine blk_drewN ?_ _ | refine blk_drew ?_ | refine blk_alloc ?_ _)); refine blk_put (cs := #[.bool t103, .string (⟨#[]⟩ : ByteArray), .int .i64 0]) ?_ 1 _ rfl; (with_reducible repeat (first | refine blk_drewN ?_ _ | refine blk_drew ?_ | refine blk_alloc ?_ _)); refine blk_put (cs := #[.bool false, .string (⟨#[]⟩ : ByteArray), .int .i64 0]) ?_ 0 _ rfl; (with_reducible repeat (first | refine blk_drewN ?_ _ | refine blk_drew ?_ | refine blk_alloc ?_ _)); exact BK109.out⟩, ⟨by (with_reducible repeat (first | refine blk_drewN ?_ _ | refine blk_drew ?_ | refine blk_alloc ?_ _)); refine blk_put (cs := #[.bool t106, .string t107, .int .i64 0]) ?_ 2 _ rfl; (with_reducible repeat (first | refine blk_drewN ?_ _ | refine blk_drew ?_ | refine blk_alloc ?_ _)); refine blk_put (cs := #[.bool t106, .string (⟨#[]⟩ : ByteArray), .int .i64 0]) ?_ 1 _ rfl; (with_reducible repeat (first | refine blk_drewN ?_ _ | refine blk_drew ?_ | refine blk_alloc ?_ _)); refine blk_put (cs := #[.bool false, .string (⟨#[]⟩ : ByteArray), .int .i64 0]) ?_ 0 _ rfl; (with_reducible repeat (first | refine blk_drewN ?_ _ | refine blk_drew ?_ | refine blk_alloc ?_ _)); refine blk_far ?_ NB110_109.out _; (with_reducible repeat (first | refine blk_drewN ?_ _ | refine blk_drew ?_ | refine blk_alloc ?_ _)); refine blk_far ?_ NB110_109.out _; (with_reducible repeat (first | refine blk_drewN ?_ _ | refine blk_drew ?_ | refine blk_alloc ?_ _)); refine blk_far ?_ NB110_109.out _; (with_reducible repeat (first | refine blk_drewN ?_ _ | refine blk_drew ?_ | refine blk_alloc ?_ _)); exact BK110.out⟩, ⟨by repeat (first | (with_reducible first | exact HB.out | apply below_alloc | apply pw_below_drewN | apply below_drew1 | refine below_set ?_ GE101.out | refine below_set ?_ GE102.out | refine below_set ?_ GE109.out | refine below_set ?_ GE110.out) | exact HB.out)⟩⟩
    · rw [if_neg c20] at H
      have c20b0 : ((t104.size : Int) == 0) = false := beq_eq_false_iff_ne.mpr c20
      have c20b1 : ((t104.size : Int) != 0) = true := bne_iff_ne.mpr c20
      (first | rw [c20b0] | (simp only [i64_w, i32_w]; rw [c20b0]) | skip)
      have H' := Aside0.mk H
      clear H
      have hnb28 := NB109_101.out
      have hnc28 := NB101_109.out
      have hnb29 := NB109_102.out
      have hnc29 := NB102_109.out
      have hnb30 := NB109_110.out
      have hnc30 := NB110_109.out
      have hcz31_0 : w13.cell? ⟨gb109, 0, none⟩ = some (.bool false) := (blk_cell BK109.out 0).trans rfl
      have hcz31_1 : w13.cell? ⟨gb109, 1, none⟩ = some (.string (⟨#[]⟩ : ByteArray)) := (blk_cell BK109.out 1).trans rfl
      have hcz31_2 : w13.cell? ⟨gb109, 2, none⟩ = some (.int .i64 0) := (blk_cell BK109.out 2).trans rfl
      have hfz31_0 := blk_frozen BK109.out 0
      have hfz31_1 := blk_frozen BK109.out 1
      have hfz31_2 := blk_frozen BK109.out 2
      go_wp2
      go_meet
      case rel => exact ⟨_, (false), (by first | rfl | (simp; done) | (simp [*]; done)), H', ⟨by first | omega | exact Nat.le_refl _⟩, ⟨by (with_reducible repeat (first | refine blk_drewN ?_ _ | refine blk_drew ?_ | refine blk_alloc ?_ _)); refine blk_far ?_ NB101_110.out _; (with_reducible repeat (first | refine blk_drewN ?_ _ | refine blk_drew ?_ | refine blk_alloc ?_ _)); refine blk_far ?_ NB101_110.out _; (with_reducible repeat (first | refine blk_drewN ?_ _ | refine blk_drew ?_ | refine blk_alloc ?_ _)); refine blk_far ?_ NB101_110.out _; (with_reducible repeat (first | refine blk_drewN ?_ _ | refine blk_drew ?_ | refine blk_alloc ?_ _)); refine blk_far ?_ NB101_109.out _; (with_reducible repeat (first | refine blk_drewN ?_ _ | refine blk_drew ?_ | refine blk_alloc ?_ _)); refine blk_far ?_ NB101_109.out _; (with_reducible repeat (first | refine blk_drewN ?_ _ | refine blk_drew ?_ | refine blk_alloc ?_ _)); refine blk_far ?_ NB101_109.out _; (with_reducible repeat (first | refine blk_drewN ?_ _ | refine blk_drew ?_ | refine blk_alloc ?_ _)); exact BK101.out⟩, ⟨by (with_reducible repeat (first | refine blk_drewN ?_ _ | refine blk_drew ?_ | refine blk_alloc ?_ _)); refine blk_far ?_ NB102_110.out _; (with_reducible repeat (first | refine blk_drewN ?_ _ | refine blk_drew ?_ | refine blk_alloc ?_ _)); refine blk_far ?_ NB102_110.out _; (with_reducible repeat (first | refine blk_drewN ?_ _ | refine blk_drew ?_ | refine blk_alloc ?_ _)); refine blk_far ?_ NB102_110.out _; (with_reducible repeat (first | refine blk_drewN ?_ _ | refine blk_drew ?_ | refine blk_alloc ?_ _)); refine blk_far ?_ NB102_109.out _; (with_reducible repeat (first | refine blk_drewN ?_ _ | refine blk_drew ?_ | refine blk_alloc ?_ _)); refine blk_far ?_ NB102_109.out _; (with_reducible repeat (first | refine blk_drewN ?_ _ | refine blk_drew ?_ | refine blk_alloc ?_ _)); refine blk_far ?_ NB102_109.out _; (with_reducible repeat (first | refine blk_drewN ?_ _ | refine blk_drew ?_ | refine blk_alloc ?_ _)); exact BK102.out⟩, ⟨by (with_reducible repeat (first | refine blk_drewN ?_ _ | refine blk_drew ?_ | refine blk_alloc ?_ _)); refine blk_far ?_ NB109_110.out _; (with_reducible repeat (first | refine blk_drewN ?_ _ | refine blk_drew ?_ | refine blk_alloc ?_ _)); refine blk_far ?_ NB109_110.out _; (with_reducible repeat (first | refine blk_drewN ?_ _ | refine blk_drew ?_ | refine blk_alloc ?_ _)); refine blk_far ?_ NB109_110.out _; (with_reducible repeat (first | refine blk_drewN ?_ _ | refine blk_drew ?_ | refine blk_alloc ?_ _)); refine blk_put (cs := #[.bool t103, .string t104, .int .i64 0]) ?_ 2 _ rfl; (with_reducible repeat (first | refine blk_drewN ?_ _ | refine blk_drew ?_ | refine blk_alloc ?_ _)); refine blk_put (cs := #[.bool t103, .string (⟨#[]⟩ : ByteArray), .int .i64 0]) ?_ 1 _ rfl; (with_reducible repeat (first | refine blk_drewN ?_ _ | refine blk_drew ?_ | refine blk_alloc ?_ _)); refine blk_put (cs := #[.bool false, .string (⟨#[]⟩ : ByteArray), .int .i64 0]) ?_ 0 _ rfl; (with_reducible repeat (first | refine blk_drewN ?_ _ | refine blk_drew ?_ | refine blk_alloc ?_ _)); exact BK109.out⟩, ⟨by (with_reducible repeat (first | refine blk_drewN ?_ _ | refine blk_drew ?_ | refine blk_alloc ?_ _)); refine blk_put (cs := #[.bool t106, .string t107, .int .i64 0]) ?_ 2 _ rfl; (with_reducible repeat (first | refine blk_drewN ?_ _ | refine blk_drew ?_ | refine blk_alloc ?_ _)); refine blk_put (cs := #[.bool t106, .string (⟨#[]⟩ : ByteArray), .int .i64 0]) ?_ 1 _ rfl; (with_reducible repeat (first | refine blk_drewN ?_ _ | refine blk_drew ?_ | refine blk_alloc ?_ _)); refine blk_put (cs := #[.bool false, .string (⟨#[]⟩ : ByteArray), .int .i64 0]) ?_ 0 _ rfl; (with_reducible repeat (first | refine blk_drewN ?_ _ | refine blk_drew ?_ | refine blk_alloc ?_ _)); refine blk_far ?_ NB110_109.out _; (with_reducible repeat (first | refine blk_drewN ?_ _ | refine blk_drew ?_ | refine blk_alloc ?_ _)); refine blk_far ?_ NB110_109.out _; (with_reducible repeat (first | refine blk_drewN ?_ _ | refine blk_drew ?_ | refine blk_alloc ?_ _)); refine blk_far ?_ NB110_109.out _; (with_reducible repeat (first | refine blk_drewN ?_ _ | refine blk_drew ?_ | refine blk_alloc ?_ _)); exact BK110.out⟩, ⟨by repeat (first | (with_reducible first | exact HB.out | apply below_alloc | apply pw_below_drewN | apply below_drew1 | refine below_set ?_ GE101.out | refine below_set ?_ GE102.out | refine below_set ?_ GE109.out | refine below_set ?_ GE110.out) | exact HB.out)⟩⟩
  case rest =>
    clear HC5
    try clear c2
    try clear p2
    try clear c3
    try clear c20
    try clear c20b0
    try clear c20b1
    try clear c21
    try clear c22
    try clear c23
    try clear c25
    try clear c26
    try clear c28
    try clear c29
    try clear c30
    try clear hcz24_0
    try clear hcz24_1
    try clear hcz24_2
    try clear hcz27_0
    try clear hcz27_1
    try clear hcz27_2
    try clear hcz31_0
    try clear hcz31_1
    try clear hcz31_2
    try clear hfz24_0
    try clear hfz24_1
    try clear hfz24_2
    try clear hfz27_0
    try clear hfz27_1
    try clear hfz27_2
    try clear hfz31_0
    try clear hfz31_1
    try clear hfz31_2
    obtain ⟨kq, x11_4, rfl, HA, HJ4, BK101, BK102, BK109, BK110, HB⟩ := hcut
    cases kq with
    | zero => exact absurd HA.out (by simp [orthoepyref10_Cmp.j0])
    | succ kj4 =>
      have H := HA.out
      clear HA
      simp only [orthoepyref10_Cmp.j0] at H
      by_cases c32 : x11_4 = true
      · subst c32
        have H1 : (some 0) = some r := by rw [if_pos rfl] at H; exact H
        clear H
        have H := H1
        clear H1
        obtain rfl := Option.some.inj H
        go_wp2
        go_ret
        exact ⟨by first | rfl | (simp [errW_none, errW_some] <;> rfl) | (simp [*, errW_none, errW_some] <;> rfl), by repeat (first | (with_reducible first | exact HB.out | apply below_alloc | apply pw_below_drewN | apply below_drew1 | refine below_set ?_ GE101.out | refine below_set ?_ GE102.out | refine below_set ?_ GE109.out | refine below_set ?_ GE110.out) | exact HB.out)⟩
      · replace c32 := Bool.eq_false_iff.mpr c32
        subst c32
        have H1 : (if (t104.size : Int) = 0 then (if t106 = true then (orthoepyref10_Cmp.j1 kj4 true t103 t104 t105 t106 t107 t108) else (if (t107.size : Int) = 0 then (orthoepyref10_Cmp.j1 kj4 (!t103) t103 t104 t105 t106 t107 t108) else (orthoepyref10_Cmp.j1 kj4 false t103 t104 t105 t106 t107 t108))) else (if (t107.size : Int) = 0 then (orthoepyref10_Cmp.j1 kj4 (!t103) t103 t104 t105 t106 t107 t108) else (orthoepyref10_Cmp.j1 kj4 false t103 t104 t105 t106 t107 t108))) = some r := by rw [if_neg (show ¬ (false = true) by decide)] at H; exact H
        clear H
        have H := H1
        clear H1
        have HC33 := Aside0.mk H
        clear H
        go_upto_region 4 with (fail)
        go_cut [22] (fun v22 wc => ∃ (kq : Nat) (x22_32 : Bool), v22 = .bool x22_32 ∧ Aside0 (orthoepyref10_Cmp.j1 kq x22_32 t103 t104 t105 t106 t107 t108 = some r) ∧ Aside0 (kq ≤ kj4) ∧ Aside0 (wc.heap[gb101]? = some (.cells #[.bool a0_0, .string a0_1, .int .i64 a0_2] 23 (0, 0))) ∧ Aside0 (wc.heap[gb102]? = some (.cells #[.bool a1_0, .string a1_1, .int .i64 a1_2] 23 (0, 0))) ∧ Aside0 (wc.heap[gb109]? = some (.cells #[.bool t103, .string t104, .int .i64 t105] 23 (0, 0))) ∧ Aside0 (wc.heap[gb110]? = some (.cells #[.bool t106, .string t107, .int .i64 t108] 23 (0, 0))) ∧ Aside0 (Below w.heap.size w wc))
        case first =>
          have H := HC33.out
          clear HC33
          by_cases c34 : (t104.size : Int) = 0
          · rw [if_pos c34] at H
            have c34b0 : ((t104.size : Int) == 0) = true := beq_iff_eq.mpr c34
            have c34b1 : ((t104.size : Int) != 0) = false := bne_eq_false_iff_eq.mpr c34
            clear c34
            (first | rw [c34b0] | (simp only [i64_w, i32_w]; rw [c34b0]) | skip)
            by_cases c35 : t106 = true
            · subst c35
              have H1 : (orthoepyref10_Cmp.j1 kj4 true t103 t104 t105 true t107 t108) = some r := by rw [if_pos rfl] at H; exact H
              clear H
              have H := H1
              clear H1
              have H' := Aside0.mk H
              clear H
              have hnb36 := NB109_101.out
              have hnc36 := NB101_109.out
              have hnb37 := NB109_102.out
              have hnc37 := NB102_109.out
              have hnb38 := NB109_110.out
              have hnc38 := NB110_109.out
              have hcz39_0 : wc.cell? ⟨gb109, 0, none⟩ = some (.bool t103) := (blk_cell BK109.out 0).trans rfl
              have hcz39_1 : wc.cell? ⟨gb109, 1, none⟩ = some (.string t104) := (blk_cell BK109.out 1).trans rfl
              have hcz39_2 : wc.cell? ⟨gb109, 2, none⟩ = some (.int .i64 t105) := (blk_cell BK109.out 2).trans rfl
              have hfz39_0 := blk_frozen BK109.out 0
              have hfz39_1 := blk_frozen BK109.out 1
              have hfz39_2 := blk_frozen BK109.out 2
              have hnb40 := NB110_101.out
              have hnc40 := NB101_110.out
              have hnb41 := NB110_102.out
              have hnc41 := NB102_110.out
              have hcz42_0 : wc.cell? ⟨gb110, 0, none⟩ = some (.bool true) := (blk_cell BK110.out 0).trans rfl
              have hcz42_1 : wc.cell? ⟨gb110, 1, none⟩ = some (.string t107) := (blk_cell BK110.out 1).trans rfl
              have hcz42_2 : wc.cell? ⟨gb110, 2, none⟩ = some (.int .i64 t108) := (blk_cell BK110.out 2).trans rfl
              have hfz42_0 := blk_frozen BK110.out 0
              have hfz42_1 := blk_frozen BK110.out 1
              have hfz42_2 := blk_frozen BK110.out 2
              go_wp2
              go_meet
              case rel => exact ⟨_, (true), (by first | rfl | (simp; done) | (simp [*]; done)), H', ⟨by have := HJ4.out; first | omega | exact Nat.le_refl _⟩, ⟨by (with_reducible repeat (first | refine blk_drewN ?_ _ | refine blk_drew ?_ | refine blk_alloc ?_ _)); exact BK101.out⟩, ⟨by (with_reducible repeat (first | refine blk_drewN ?_ _ | refine blk_drew ?_ | refine blk_alloc ?_ _)); exact BK102.out⟩, ⟨by (with_reducible repeat (first | refine blk_drewN ?_ _ | refine blk_drew ?_ | refine blk_alloc ?_ _)); exact BK109.out⟩, ⟨by (with_reducible repeat (first | refine blk_drewN ?_ _ | refine blk_drew ?_ | refine blk_alloc ?_ _)); exact BK110.out⟩, ⟨by repeat (first | (with_reducible first | exact HB.out | apply below_alloc | apply pw_below_drewN | apply below_drew1 | refine below_set ?_ GE101.out | refine below_set ?_ GE102.out | refine below_set ?_ GE109.out | refine below_set ?_ GE110.out) | exact HB.out)⟩⟩
            · replace c35 := Bool.eq_false_iff.mpr c35
              subst c35
              have H1 : (if (t107.size : Int) = 0 then (orthoepyref10_Cmp.j1 kj4 (!t103) t103 t104 t105 false t107 t108) else (orthoepyref10_Cmp.j1 kj4 false t103 t104 t105 false t107 t108)) = some r := by rw [if_neg (show ¬ (false = true) by decide)] at H; exact H
              clear H
              have H := H1
              clear H1
              by_cases c43 : (t107.size : Int) = 0
              · rw [if_pos c43] at H
                have c43b0 : ((t107.size : Int) == 0) = true := beq_iff_eq.mpr c43
                have c43b1 : ((t107.size : Int) != 0) = false := bne_eq_false_iff_eq.mpr c43
                clear c43
                have H' := Aside0.mk H
                clear H
                have hnb44 := NB109_101.out
                have hnc44 := NB101_109.out
                have hnb45 := NB109_102.out
                have hnc45 := NB102_109.out
                have hnb46 := NB109_110.out
                have hnc46 := NB110_109.out
                have hcz47_0 : wc.cell? ⟨gb109, 0, none⟩ = some (.bool t103) := (blk_cell BK109.out 0).trans rfl
                have hcz47_1 : wc.cell? ⟨gb109, 1, none⟩ = some (.string t104) := (blk_cell BK109.out 1).trans rfl
                have hcz47_2 : wc.cell? ⟨gb109, 2, none⟩ = some (.int .i64 t105) := (blk_cell BK109.out 2).trans rfl
                have hfz47_0 := blk_frozen BK109.out 0
                have hfz47_1 := blk_frozen BK109.out 1
                have hfz47_2 := blk_frozen BK109.out 2
                have hnb48 := NB110_101.out
                have hnc48 := NB101_110.out
                have hnb49 := NB110_102.out
                have hnc49 := NB102_110.out
                have hcz50_0 : wc.cell? ⟨gb110, 0, none⟩ = some (.bool false) := (blk_cell BK110.out 0).trans rfl
                have hcz50_1 : wc.cell? ⟨gb110, 1, none⟩ = some (.string t107) := (blk_cell BK110.out 1).trans rfl
                have hcz50_2 : wc.cell? ⟨gb110, 2, none⟩ = some (.int .i64 t108) := (blk_cell BK110.out 2).trans rfl
                have hfz50_0 := blk_frozen BK110.out 0
                have hfz50_1 := blk_frozen BK110.out 1
                have hfz50_2 := blk_frozen BK110.out 2
                go_wp2
                go_meet
                case rel => exact ⟨_, (!t103), (by first | rfl | (simp; done) | (simp [*]; done)), H', ⟨by have := HJ4.out; first | omega | exact Nat.le_refl _⟩, ⟨by (with_reducible repeat (first | refine blk_drewN ?_ _ | refine blk_drew ?_ | refine blk_alloc ?_ _)); exact BK101.out⟩, ⟨by (with_reducible repeat (first | refine blk_drewN ?_ _ | refine blk_drew ?_ | refine blk_alloc ?_ _)); exact BK102.out⟩, ⟨by (with_reducible repeat (first | refine blk_drewN ?_ _ | refine blk_drew ?_ | refine blk_alloc ?_ _)); exact BK109.out⟩, ⟨by (with_reducible repeat (first | refine blk_drewN ?_ _ | refine blk_drew ?_ | refine blk_alloc ?_ _)); exact BK110.out⟩, ⟨by repeat (first | (with_reducible first | exact HB.out | apply below_alloc | apply pw_below_drewN | apply below_drew1 | refine below_set ?_ GE101.out | refine below_set ?_ GE102.out | refine below_set ?_ GE109.out | refine below_set ?_ GE110.out) | exact HB.out)⟩⟩
              · rw [if_neg c43] at H
                have c43b0 : ((t107.size : Int) == 0) = false := beq_eq_false_iff_ne.mpr c43
                have c43b1 : ((t107.size : Int) != 0) = true := bne_iff_ne.mpr c43
                have H' := Aside0.mk H
                clear H
                have hnb51 := NB109_101.out
                have hnc51 := NB101_109.out
                have hnb52 := NB109_102.out
                have hnc52 := NB102_109.out
                have hnb53 := NB109_110.out
                have hnc53 := NB110_109.out
                have hcz54_0 : wc.cell? ⟨gb109, 0, none⟩ = some (.bool t103) := (blk_cell BK109.out 0).trans rfl
                have hcz54_1 : wc.cell? ⟨gb109, 1, none⟩ = some (.string t104) := (blk_cell BK109.out 1).trans rfl
                have hcz54_2 : wc.cell? ⟨gb109, 2, none⟩ = some (.int .i64 t105) := (blk_cell BK109.out 2).trans rfl
                have hfz54_0 := blk_frozen BK109.out 0
                have hfz54_1 := blk_frozen BK109.out 1
                have hfz54_2 := blk_frozen BK109.out 2
                have hnb55 := NB110_101.out
                have hnc55 := NB101_110.out
                have hnb56 := NB110_102.out
                have hnc56 := NB102_110.out
                have hcz57_0 : wc.cell? ⟨gb110, 0, none⟩ = some (.bool false) := (blk_cell BK110.out 0).trans rfl
                have hcz57_1 : wc.cell? ⟨gb110, 1, none⟩ = some (.string t107) := (blk_cell BK110.out 1).trans rfl
                have hcz57_2 : wc.cell? ⟨gb110, 2, none⟩ = some (.int .i64 t108) := (blk_cell BK110.out 2).trans rfl
                have hfz57_0 := blk_frozen BK110.out 0
                have hfz57_1 := blk_frozen BK110.out 1
                have hfz57_2 := blk_frozen BK110.out 2
                go_wp2
                go_meet
                case rel => exact ⟨_, (false), (by first | rfl | (simp; done) | (simp [*]; done)), H', ⟨by have := HJ4.out; first | omega | exact Nat.le_refl _⟩, ⟨by (with_reducible repeat (first | refine blk_drewN ?_ _ | refine blk_drew ?_ | refine blk_alloc ?_ _)); exact BK101.out⟩, ⟨by (with_reducible repeat (first | refine blk_drewN ?_ _ | refine blk_drew ?_ | refine blk_alloc ?_ _)); exact BK102.out⟩, ⟨by (with_reducible repeat (first | refine blk_drewN ?_ _ | refine blk_drew ?_ | refine blk_alloc ?_ _)); exact BK109.out⟩, ⟨by (with_reducible repeat (first | refine blk_drewN ?_ _ | refine blk_drew ?_ | refine blk_alloc ?_ _)); exact BK110.out⟩, ⟨by repeat (first | (with_reducible first | exact HB.out | apply below_alloc | apply pw_below_drewN | apply below_drew1 | refine below_set ?_ GE101.out | refine below_set ?_ GE102.out | refine below_set ?_ GE109.out | refine below_set ?_ GE110.out) | exact HB.out)⟩⟩
          · rw [if_neg c34] at H
            have c34b0 : ((t104.size : Int) == 0) = false := beq_eq_false_iff_ne.mpr c34
            have c34b1 : ((t104.size : Int) != 0) = true := bne_iff_ne.mpr c34
            (first | rw [c34b0] | (simp only [i64_w, i32_w]; rw [c34b0]) | skip)
            by_cases c58 : (t107.size : Int) = 0
            · rw [if_pos c58] at H
              have c58b0 : ((t107.size : Int) == 0) = true := beq_iff_eq.mpr c58
              have c58b1 : ((t107.size : Int) != 0) = false := bne_eq_false_iff_eq.mpr c58
              clear c58
              have H' := Aside0.mk H
              clear H
              have hnb59 := NB109_101.out
              have hnc59 := NB101_109.out
              have hnb60 := NB109_102.out
              have hnc60 := NB102_109.out
              have hnb61 := NB109_110.out
              have hnc61 := NB110_109.out
              have hcz62_0 : wc.cell? ⟨gb109, 0, none⟩ = some (.bool t103) := (blk_cell BK109.out 0).trans rfl
              have hcz62_1 : wc.cell? ⟨gb109, 1, none⟩ = some (.string t104) := (blk_cell BK109.out 1).trans rfl
              have hcz62_2 : wc.cell? ⟨gb109, 2, none⟩ = some (.int .i64 t105) := (blk_cell BK109.out 2).trans rfl
              have hfz62_0 := blk_frozen BK109.out 0
              have hfz62_1 := blk_frozen BK109.out 1
              have hfz62_2 := blk_frozen BK109.out 2
              have hnb63 := NB110_101.out
              have hnc63 := NB101_110.out
              have hnb64 := NB110_102.out
              have hnc64 := NB102_110.out
              have hcz65_0 : wc.cell? ⟨gb110, 0, none⟩ = some (.bool t106) := (blk_cell BK110.out 0).trans rfl
              have hcz65_1 : wc.cell? ⟨gb110, 1, none⟩ = some (.string t107) := (blk_cell BK110.out 1).trans rfl
              have hcz65_2 : wc.cell? ⟨gb110, 2, none⟩ = some (.int .i64 t108) := (blk_cell BK110.out 2).trans rfl
              have hfz65_0 := blk_frozen BK110.out 0
              have hfz65_1 := blk_frozen BK110.out 1
              have hfz65_2 := blk_frozen BK110.out 2
              go_wp2
              go_meet
              case rel => exact ⟨_, (!t103), (by first | rfl | (simp; done) | (simp [*]; done)), H', ⟨by have := HJ4.out; first | omega | exact Nat.le_refl _⟩, ⟨by (with_reducible repeat (first | refine blk_drewN ?_ _ | refine blk_drew ?_ | refine blk_alloc ?_ _)); exact BK101.out⟩, ⟨by (with_reducible repeat (first | refine blk_drewN ?_ _ | refine blk_drew ?_ | refine blk_alloc ?_ _)); exact BK102.out⟩, ⟨by (with_reducible repeat (first | refine blk_drewN ?_ _ | refine blk_drew ?_ | refine blk_alloc ?_ _)); exact BK109.out⟩, ⟨by (with_reducible repeat (first | refine blk_drewN ?_ _ | refine blk_drew ?_ | refine blk_alloc ?_ _)); exact BK110.out⟩, ⟨by repeat (first | (with_reducible first | exact HB.out | apply below_alloc | apply pw_below_drewN | apply below_drew1 | refine below_set ?_ GE101.out | refine below_set ?_ GE102.out | refine below_set ?_ GE109.out | refine below_set ?_ GE110.out) | exact HB.out)⟩⟩
            · rw [if_neg c58] at H
              have c58b0 : ((t107.size : Int) == 0) = false := beq_eq_false_iff_ne.mpr c58
              have c58b1 : ((t107.size : Int) != 0) = true := bne_iff_ne.mpr c58
              have H' := Aside0.mk H
              clear H
              have hnb66 := NB109_101.out
              have hnc66 := NB101_109.out
              have hnb67 := NB109_102.out
              have hnc67 := NB102_109.out
              have hnb68 := NB109_110.out
              have hnc68 := NB110_109.out
              have hcz69_0 : wc.cell? ⟨gb109, 0, none⟩ = some (.bool t103) := (blk_cell BK109.out 0).trans rfl
              have hcz69_1 : wc.cell? ⟨gb109, 1, none⟩ = some (.string t104) := (blk_cell BK109.out 1).trans rfl
              have hcz69_2 : wc.cell? ⟨gb109, 2, none⟩ = some (.int .i64 t105) := (blk_cell BK109.out 2).trans rfl
              have hfz69_0 := blk_frozen BK109.out 0
              have hfz69_1 := blk_frozen BK109.out 1
              have hfz69_2 := blk_frozen BK109.out 2
              have hnb70 := NB110_101.out
              have hnc70 := NB101_110.out
              have hnb71 := NB110_102.out
              have hnc71 := NB102_110.out
              have hcz72_0 : wc.cell? ⟨gb110, 0, none⟩ = some (.bool t106) := (blk_cell BK110.out 0).trans rfl
              have hcz72_1 : wc.cell? ⟨gb110, 1, none⟩ = some (.string t107) := (blk_cell BK110.out 1).trans rfl
              have hcz72_2 : wc.cell? ⟨gb110, 2, none⟩ = some (.int .i64 t108) := (blk_cell BK110.out 2).trans rfl
              have hfz72_0 := blk_frozen BK110.out 0
              have hfz72_1 := blk_frozen BK110.out 1
              have hfz72_2 := blk_frozen BK110.out 2
              go_wp2
              go_meet
              case rel => exact ⟨_, (false), (by first | rfl | (simp; done) | (simp [*]; done)), H', ⟨by have := HJ4.out; first | omega | exact Nat.le_refl _⟩, ⟨by (with_reducible repeat (first | refine blk_drewN ?_ _ | refine blk_drew ?_ | refine blk_alloc ?_ _)); exact BK101.out⟩, ⟨by (with_reducible repeat (first | refine blk_drewN ?_ _ | refine blk_drew ?_ | refine blk_alloc ?_ _)); exact BK102.out⟩, ⟨by (with_reducible repeat (first | refine blk_drewN ?_ _ | refine blk_drew ?_ | refine blk_alloc ?_ _)); exact BK109.out⟩, ⟨by (with_reducible repeat (first | refine blk_drewN ?_ _ | refine blk_drew ?_ | refine blk_alloc ?_ _)); exact BK110.out⟩, ⟨by repeat (first | (with_reducible first | exact HB.out | apply below_alloc | apply pw_below_drewN | apply below_drew1 | refine below_set ?_ GE101.out | refine below_set ?_ GE102.out | refine below_set ?_ GE109.out | refine below_set ?_ GE110.out) | exact HB.out)⟩⟩
        case rest =>
          clear HC33
          try clear c2
          try clear p2
          try clear c3
          try clear c4
          try clear c5
          try clear c6
          try clear c7
          try clear c20
          try clear c20b0
          try clear c20b1
          try clear c21
          try clear c22
          try clear c23
          try clear c25
          try clear c26
          try clear c28
          try clear c29
          try clear c30
          try clear c32
          try clear c34
          try clear c34b0
          try clear c34b1
          try clear c35
          try clear c36
          try clear c37
          try clear c38
          try clear c40
          try clear c41
          try clear c43
          try clear c43b0
          try clear c43b1
          try clear c44
          try clear c45
          try clear c46
          try clear c48
          try clear c49
          try clear c51
          try clear c52
          try clear c53
          try clear c55
          try clear c56
          try clear c58
          try clear c58b0
          try clear c58b1
          try clear c59
          try clear c60
          try clear c61
          try clear c63
          try clear c64
          try clear c66
          try clear c67
          try clear c68
          try clear c70
          try clear c71
          try clear hcz24_0
          try clear hcz24_1
          try clear hcz24_2
          try clear hcz27_0
          try clear hcz27_1
          try clear hcz27_2
          try clear hcz31_0
          try clear hcz31_1
          try clear hcz31_2
          try clear hcz39_0
          try clear hcz39_1
          try clear hcz39_2
          try clear hcz42_0
          try clear hcz42_1
          try clear hcz42_2
          try clear hcz47_0
          try clear hcz47_1
          try clear hcz47_2
          try clear hcz50_0
          try clear hcz50_1
          try clear hcz50_2
          try clear hcz54_0
          try clear hcz54_1
          try clear hcz54_2
          try clear hcz57_0
          try clear hcz57_1
          try clear hcz57_2
          try clear hcz62_0
          try clear hcz62_1
          try clear hcz62_2
          try clear hcz65_0
          try clear hcz65_1
          try clear hcz65_2
          try clear hcz69_0
          try clear hcz69_1
          try clear hcz69_2
          try clear hcz72_0
          try clear hcz72_1
          try clear hcz72_2
          try clear hfz24_0
          try clear hfz24_1
          try clear hfz24_2
          try clear hfz27_0
          try clear hfz27_1
          try clear hfz27_2
          try clear hfz31_0
          try clear hfz31_1
          try clear hfz31_2
          try clear hfz39_0
          try clear hfz39_1
          try clear hfz39_2
          try clear hfz42_0
          try clear hfz42_1
          try clear hfz42_2
          try clear hfz47_0
          try clear hfz47_1
          try clear hfz47_2
          try clear hfz50_0
          try clear hfz50_1
          try clear hfz50_2
          try clear hfz54_0
          try clear hfz54_1
          try clear hfz54_2
          try clear hfz57_0
          try clear hfz57_1
          try clear hfz57_2
          try clear hfz62_0
          try clear hfz62_1
          try clear hfz62_2
          try clear hfz65_0
          try clear hfz65_1
          try clear hfz65_2
          try clear hfz69_0
          try clear hfz69_1
          try clear hfz69_2
          try clear hfz72_0
          try clear hfz72_1
          try clear hfz72_2
          try clear p2
          obtain ⟨kq, x22_32, rfl, HA, HJ32, BK101, BK102, BK109, BK110, HB⟩ := hcut
          cases kq with
          | zero => exact absurd HA.out (by simp [orthoepyref10_Cmp.j1])
          | succ kj32 =>
            have H := HA.out
            clear HA
            simp only [orthoepyref10_Cmp.j1] at H
            by_cases c73 : x22_32 = true
            · subst c73
              have H1 : (some 1) = some r := by rw [if_pos rfl] at H; exact H
              clear H
              have H := H1
              clear H1
              obtain rfl := Option.some.inj H
              go_wp2
              go_ret
              exact ⟨by first | rfl | (simp [errW_none, errW_some] <;> rfl) | (simp [*, errW_none, errW_some] <;> rfl), by repeat (first | (with_reducible first | exact HB.out | apply below_alloc | apply pw_below_drewN | apply below_drew1 | refine below_set ?_ GE101.out | refine below_set ?_ GE102.out | refine below_set ?_ GE109.out | refine below_set ?_ GE110.out) | exact HB.out)⟩
            · replace c73 := Bool.eq_false_iff.mpr c73
              subst c73
              have H1 : (if (t104.size : Int) = 0 then (orthoepyref10_Cmp.j2 kj32 true t103 t104 t105 t106 t107 t108) else (orthoepyref10_Cmp.j2 kj32 ((t107.size : Int) == 0) t103 t104 t105 t106 t107 t108)) = some r := by rw [if_neg (show ¬ (false = true) by decide)] at H; exact H
              clear H
              have H := H1
              clear H1
              have HC74 := Aside0.mk H
              clear H
              go_upto_region 6 with (fail)
              go_cut [42] (fun v42 wc => ∃ (kq : Nat) (x42_73 : Bool), v42 = .bool x42_73 ∧ Aside0 (orthoepyref10_Cmp.j2 kq x42_73 t103 t104 t105 t106 t107 t108 = some r) ∧ Aside0 (kq ≤ kj32) ∧ Aside0 (wc.heap[gb101]? = some (.cells #[.bool a0_0, .string a0_1, .int .i64 a0_2] 23 (0, 0))) ∧ Aside0 (wc.heap[gb102]? = some (.cells #[.bool a1_0, .string a1_1, .int .i64 a1_2] 23 (0, 0))) ∧ Aside0 (wc.heap[gb109]? = some (.cells #[.bool t103, .string t104, .int .i64 t105] 23 (0, 0))) ∧ Aside0 (wc.heap[gb110]? = some (.cells #[.bool t106, .string t107, .int .i64 t108] 23 (0, 0))) ∧ Aside0 (Below w.heap.size w wc))
              case first =>
                have H := HC74.out
                clear HC74
                by_cases c75 : (t104.size : Int) = 0
                · rw [if_pos c75] at H
                  have c75b0 : ((t104.size : Int) == 0) = true := beq_iff_eq.mpr c75
                  have c75b1 : ((t104.size : Int) != 0) = false := bne_eq_false_iff_eq.mpr c75
                  clear c75
                  (first | rw [c75b0] | (simp only [i64_w, i32_w]; rw [c75b0]) | skip)
                  have H' := Aside0.mk H
                  clear H
                  have hnb76 := NB109_101.out
                  have hnc76 := NB101_109.out
                  have hnb77 := NB109_102.out
                  have hnc77 := NB102_109.out
                  have hnb78 := NB109_110.out
                  have hnc78 := NB110_109.out
                  have hcz79_0 : wc.cell? ⟨gb109, 0, none⟩ = some (.bool t103) := (blk_cell BK109.out 0).trans rfl
                  have hcz79_1 : wc.cell? ⟨gb109, 1, none⟩ = some (.string t104) := (blk_cell BK109.out 1).trans rfl
                  have hcz79_2 : wc.cell? ⟨gb109, 2, none⟩ = some (.int .i64 t105) := (blk_cell BK109.out 2).trans rfl
                  have hfz79_0 := blk_frozen BK109.out 0
                  have hfz79_1 := blk_frozen BK109.out 1
                  have hfz79_2 := blk_frozen BK109.out 2
                  go_wp2
                  go_meet
                  case rel => exact ⟨_, (true), (by first | rfl | (simp; done) | (simp [*]; done)), H', ⟨by have := HJ4.out; have := HJ32.out; first | omega | exact Nat.le_refl _⟩, ⟨by (with_reducible repeat (first | refine blk_drewN ?_ _ | refine blk_drew ?_ | refine blk_alloc ?_ _)); exact BK101.out⟩, ⟨by (with_reducible repeat (first | refine blk_drewN ?_ _ | refine blk_drew ?_ | refine blk_alloc ?_ _)); exact BK102.out⟩, ⟨by (with_reducible repeat (first | refine blk_drewN ?_ _ | refine blk_drew ?_ | refine blk_alloc ?_ _)); exact BK109.out⟩, ⟨by (with_reducible repeat (first | refine blk_drewN ?_ _ | refine blk_drew ?_ | refine blk_alloc ?_ _)); exact BK110.out⟩, ⟨by repeat (first | (with_reducible first | exact HB.out | apply below_alloc | apply pw_below_drewN | apply below_drew1 | refine below_set ?_ GE101.out | refine below_set ?_ GE102.out | refine below_set ?_ GE109.out | refine below_set ?_ GE110.out) | exact HB.out)⟩⟩
                · rw [if_neg c75] at H
                  have c75b0 : ((t104.size : Int) == 0) = false := beq_eq_false_iff_ne.mpr c75
                  have c75b1 : ((t104.size : Int) != 0) = true := bne_iff_ne.mpr c75
                  (first | rw [c75b0] | (simp only [i64_w, i32_w]; rw [c75b0]) | skip)
                  have H' := Aside0.mk H
                  clear H
                  have hnb80 := NB109_101.out
                  have hnc80 := NB101_109.out
                  have hnb81 := NB109_102.out
                  have hnc81 := NB102_109.out
                  have hnb82 := NB109_110.out
                  have hnc82 := NB110_109.out
                  have hcz83_0 : wc.cell? ⟨gb109, 0, none⟩ = some (.bool t103) := (blk_cell BK109.out 0).trans rfl
                  have hcz83_1 : wc.cell? ⟨gb109, 1, none⟩ = some (.string t104) := (blk_cell BK109.out 1).trans rfl
                  have hcz83_2 : wc.cell? ⟨gb109, 2, none⟩ = some (.int .i64 t105) := (blk_cell BK109.out 2).trans rfl
                  have hfz83_0 := blk_frozen BK109.out 0
                  have hfz83_1 := blk_frozen BK109.out 1
                  have hfz83_2 := blk_frozen BK109.out 2
                  have hnb84 := NB110_101.out
                  have hnc84 := NB101_110.out
                  have hnb85 := NB110_102.out
                  have hnc85 := NB102_110.out
                  have hcz86_0 : wc.cell? ⟨gb110, 0, none⟩ = some (.bool t106) := (blk_cell BK110.out 0).trans rfl
                  have hcz86_1 : wc.cell? ⟨gb110, 1, none⟩ = some (.string t107) := (blk_cell BK110.out 1).trans rfl
                  have hcz86_2 : wc.cell? ⟨gb110, 2, none⟩ = some (.int .i64 t108) := (blk_cell BK110.out 2).trans rfl
                  have hfz86_0 := blk_frozen BK110.out 0
                  have hfz86_1 := blk_frozen BK110.out 1
                  have hfz86_2 := blk_frozen BK110.out 2
                  go_wp2
                  go_meet
                  case rel => exact ⟨_, (((t107.size : Int) == 0)), (by first | rfl | (simp; done) | (simp [*]; done)), H', ⟨by have := HJ4.out; have := HJ32.out; first | omega | exact Nat.le_refl _⟩, ⟨by (with_reducible repeat (first | refine blk_drewN ?_ _ | refine blk_drew ?_ | refine blk_alloc ?_ _)); exact BK101.out⟩, ⟨by (with_reducible repeat (first | refine blk_drewN ?_ _ | refine blk_drew ?_ | refine blk_alloc ?_ _)); exact BK102.out⟩, ⟨by (with_reducible repeat (first | refine blk_drewN ?_ _ | refine blk_drew ?_ | refine blk_alloc ?_ _)); exact BK109.out⟩, ⟨by (with_reducible repeat (first | refine blk_drewN ?_ _ | refine blk_drew ?_ | refine blk_alloc ?_ _)); exact BK110.out⟩, ⟨by repeat (first | (with_reducible first | exact HB.out | apply below_alloc | apply pw_below_drewN | apply below_drew1 | refine below_set ?_ GE101.out | refine below_set ?_ GE102.out | refine below_set ?_ GE109.out | refine below_set ?_ GE110.out) | exact HB.out)⟩⟩
              case rest =>
                clear HC74
                try clear c2
                try clear p2
                try clear c3
                try clear c4
                try clear c5
                try clear c6
                try clear c7
                try clear c8
                try clear c20
                try clear c20b0
                try clear c20b1
                try clear c21
                try clear c22
                try clear c23
                try clear c25
                try clear c26
                try clear c28
                try clear c29
                try clear c30
                try clear c32
                try clear c34
                try clear c34b0
                try clear c34b1
                try clear c35
                try clear c36
                try clear c37
                try clear c38
                try clear c40
                try clear c41
                try clear c43
                try clear c43b0
                try clear c43b1
                try clear c44
                try clear c45
                try clear c46
                try clear c48
                try clear c49
                try clear c51
                try clear c52
                try clear c53
                try clear c55
                try clear c56
                try clear c58
                try clear c58b0
                try clear c58b1
                try clear c59
                try clear c60
                try clear c61
                try clear c63
                try clear c64
                try clear c66
                try clear c67
                try clear c68
                try clear c70
                try clear c71
                try clear c73
                try clear c75
                try clear c75b0
                try clear c75b1
                try clear c76
                try clear c77
                try clear c78
                try clear c80
                try clear c81
                try clear c82
                try clear c84
                try clear c85
                try clear hcz24_0
                try clear hcz24_1
                try clear hcz24_2
                try clear hcz27_0
                try clear hcz27_1
                try clear hcz27_2
                try clear hcz31_0
                try clear hcz31_1
                try clear hcz31_2
                try clear hcz39_0
                try clear hcz39_1
                try clear hcz39_2
                try clear hcz42_0
                try clear hcz42_1
                try clear hcz42_2
                try clear hcz47_0
                try clear hcz47_1
                try clear hcz47_2
                try clear hcz50_0
                try clear hcz50_1
                try clear hcz50_2
                try clear hcz54_0
                try clear hcz54_1
                try clear hcz54_2
                try clear hcz57_0
                try clear hcz57_1
                try clear hcz57_2
                try clear hcz62_0
                try clear hcz62_1
                try clear hcz62_2
                try clear hcz65_0
                try clear hcz65_1
                try clear hcz65_2
                try clear hcz69_0
                try clear hcz69_1
                try clear hcz69_2
                try clear hcz72_0
                try clear hcz72_1
                try clear hcz72_2
                try clear hcz79_0
                try clear hcz79_1
                try clear hcz79_2
                try clear hcz83_0
                try clear hcz83_1
                try clear hcz83_2
                try clear hcz86_0
                try clear hcz86_1
                try clear hcz86_2
                try clear hfz24_0
                try clear hfz24_1
                try clear hfz24_2
                try clear hfz27_0
                try clear hfz27_1
                try clear hfz27_2
                try clear hfz31_0
                try clear hfz31_1
                try clear hfz31_2
                try clear hfz39_0
                try clear hfz39_1
                try clear hfz39_2
                try clear hfz42_0
                try clear hfz42_1
                try clear hfz42_2
                try clear hfz47_0
                try clear hfz47_1
                try clear hfz47_2
                try clear hfz50_0
                try clear hfz50_1
                try clear hfz50_2
                try clear hfz54_0
                try clear hfz54_1
                try clear hfz54_2
                try clear hfz57_0
                try clear hfz57_1
                try clear hfz57_2
                try clear hfz62_0
                try clear hfz62_1
                try clear hfz62_2
                try clear hfz65_0
                try clear hfz65_1
                try clear hfz65_2
                try clear hfz69_0
                try clear hfz69_1
                try clear hfz69_2
                try clear hfz72_0
                try clear hfz72_1
                try clear hfz72_2
                try clear hfz79_0
                try clear hfz79_1
                try clear hfz79_2
                try clear hfz83_0
                try clear hfz83_1
                try clear hfz83_2
                try clear hfz86_0
                try clear hfz86_1
                try clear hfz86_2
                try clear p2
                obtain ⟨kq, x42_73, rfl, HA, HJ73, BK101, BK102, BK109, BK110, HB⟩ := hcut
                cases kq with
                | zero => exact absurd HA.out (by simp [orthoepyref10_Cmp.j2])
                | succ kj73 =>
                  have H := HA.out
                  clear HA
                  simp only [orthoepyref10_Cmp.j2] at H
                  by_cases c87 : x42_73 = true
                  · subst c87
                    have H1 : (some (-1)) = some r := by rw [if_pos rfl] at H; exact H
                    clear H
                    have H := H1
                    clear H1
                    obtain rfl := Option.some.inj H
                    go_wp2
                    go_ret
                    exact ⟨by first | rfl | (simp [errW_none, errW_some] <;> rfl) | (simp [*, errW_none, errW_some] <;> rfl), by repeat (first | (with_reducible first | exact HB.out | apply below_alloc | apply pw_below_drewN | apply below_drew1 | refine below_set ?_ GE101.out | refine below_set ?_ GE102.out | refine below_set ?_ GE109.out | refine below_set ?_ GE110.out) | exact HB.out)⟩
                  · replace c87 := Bool.eq_false_iff.mpr c87
                    subst c87
                    have H1 : (if (t103 != t106) = true then (orthoepyref10_Cmp.j3 kj73 t103 t103 t104 t105 t106 t107 t108) else (orthoepyref10_Cmp.j3 kj73 false t103 t104 t105 t106 t107 t108)) = some r := by rw [if_neg (show ¬ (false = true) by decide)] at H; exact H
                    clear H
                    have H := H1
                    clear H1
                    have HC88 := Aside0.mk H
                    clear H
                    go_upto_region 8 with (fail)
                    go_cut [53] (fun v53 wc => ∃ (kq : Nat) (x53_87 : Bool), v53 = .bool x53_87 ∧ Aside0 (orthoepyref10_Cmp.j3 kq x53_87 t103 t104 t105 t106 t107 t108 = some r) ∧ Aside0 (kq ≤ kj73) ∧ Aside0 (wc.heap[gb101]? = some (.cells #[.bool a0_0, .string a0_1, .int .i64 a0_2] 23 (0, 0))) ∧ Aside0 (wc.heap[gb102]? = some (.cells #[.bool a1_0, .string a1_1, .int .i64 a1_2] 23 (0, 0))) ∧ Aside0 (wc.heap[gb109]? = some (.cells #[.bool t103, .string t104, .int .i64 t105] 23 (0, 0))) ∧ Aside0 (wc.heap[gb110]? = some (.cells #[.bool t106, .string t107, .int .i64 t108] 23 (0, 0))) ∧ Aside0 (Below w.heap.size w wc))
                    case first =>
                      have H := HC88.out
                      clear HC88
                      by_cases c89 : (t103 != t106) = true
                      · rw [if_pos c89] at H
                        have c89b0 : (t103 != t106) = true := c89
                        (try (have c89b1 : decide (t103 = t106) = false := by simpa using c89))
                        (try (have c89b2 : (t103 == t106) = false := by simpa using c89))
                        (try (have c89b3 : ¬ (t103 = t106) := by simpa using c89))
                        clear c89
                        (first | rw [c89b0] | (simp only [i64_w, i32_w]; rw [c89b0]) | skip)
                        have H' := Aside0.mk H
                        clear H
                        have hnb90 := NB109_101.out
                        have hnc90 := NB101_109.out
                        have hnb91 := NB109_102.out
                        have hnc91 := NB102_109.out
                        have hnb92 := NB109_110.out
                        have hnc92 := NB110_109.out
                        have hcz93_0 : wc.cell? ⟨gb109, 0, none⟩ = some (.bool t103) := (blk_cell BK109.out 0).trans rfl
                        have hcz93_1 : wc.cell? ⟨gb109, 1, none⟩ = some (.string t104) := (blk_cell BK109.out 1).trans rfl
                        have hcz93_2 : wc.cell? ⟨gb109, 2, none⟩ = some (.int .i64 t105) := (blk_cell BK109.out 2).trans rfl
                        have hfz93_0 := blk_frozen BK109.out 0
                        have hfz93_1 := blk_frozen BK109.out 1
                        have hfz93_2 := blk_frozen BK109.out 2
                        have hnb94 := NB110_101.out
                        have hnc94 := NB101_110.out
                        have hnb95 := NB110_102.out
                        have hnc95 := NB102_110.out
                        have hcz96_0 : wc.cell? ⟨gb110, 0, none⟩ = some (.bool t106) := (blk_cell BK110.out 0).trans rfl
                        have hcz96_1 : wc.cell? ⟨gb110, 1, none⟩ = some (.string t107) := (blk_cell BK110.out 1).trans rfl
                        have hcz96_2 : wc.cell? ⟨gb110, 2, none⟩ = some (.int .i64 t108) := (blk_cell BK110.out 2).trans rfl
                        have hfz96_0 := blk_frozen BK110.out 0
                        have hfz96_1 := blk_frozen BK110.out 1
                        have hfz96_2 := blk_frozen BK110.out 2
                        go_wp2
                        go_meet
                        case rel => exact ⟨_, (t103), (by first | rfl | (simp; done) | (simp [*]; done)), H', ⟨by have := HJ4.out; have := HJ32.out; have := HJ73.out; first | omega | exact Nat.le_refl _⟩, ⟨by (with_reducible repeat (first | refine blk_drewN ?_ _ | refine blk_drew ?_ | refine blk_alloc ?_ _)); exact BK101.out⟩, ⟨by (with_reducible repeat (first | refine blk_drewN ?_ _ | refine blk_drew ?_ | refine blk_alloc ?_ _)); exact BK102.out⟩, ⟨by (with_reducible repeat (first | refine blk_drewN ?_ _ | refine blk_drew ?_ | refine blk_alloc ?_ _)); exact BK109.out⟩, ⟨by (with_reducible repeat (first | refine blk_drewN ?_ _ | refine blk_drew ?_ | refine blk_alloc ?_ _)); exact BK110.out⟩, ⟨by repeat (first | (with_reducible first | exact HB.out | apply below_alloc | apply pw_below_drewN | apply below_drew1 | refine below_set ?_ GE101.out | refine below_set ?_ GE102.out | refine below_set ?_ GE109.out | refine below_set ?_ GE110.out) | exact HB.out)⟩⟩
                      · rw [if_neg c89] at H
                        have c89b0 : (t103 != t106) = false := by simpa using c89
                        (try (have c89b1 : decide (t103 = t106) = true := by simpa using c89))
                        (try (have c89b2 : (t103 == t106) = true := by simpa using c89))
                        clear c89
                        (first | rw [c89b0] | (simp only [i64_w, i32_w]; rw [c89b0]) | skip)
                        have H' := Aside0.mk H
                        clear H
                        have hnb97 := NB109_101.out
                        have hnc97 := NB101_109.out
                        have hnb98 := NB109_102.out
                        have hnc98 := NB102_109.out
                        have hnb99 := NB109_110.out
                        have hnc99 := NB110_109.out
                        have hcz100_0 : wc.cell? ⟨gb109, 0, none⟩ = some (.bool t103) := (blk_cell BK109.out 0).trans rfl
                        have hcz100_1 : wc.cell? ⟨gb109, 1, none⟩ = some (.string t104) := (blk_cell BK109.out 1).trans rfl
                        have hcz100_2 : wc.cell? ⟨gb109, 2, none⟩ = some (.int .i64 t105) := (blk_cell BK109.out 2).trans rfl
                        have hfz100_0 := blk_frozen BK109.out 0
                        have hfz100_1 := blk_frozen BK109.out 1
                        have hfz100_2 := blk_frozen BK109.out 2
                        have hnb101 := NB110_101.out
                        have hnc101 := NB101_110.out
                        have hnb102 := NB110_102.out
                        have hnc102 := NB102_110.out
                        have hcz103_0 : wc.cell? ⟨gb110, 0, none⟩ = some (.bool t106) := (blk_cell BK110.out 0).trans rfl
                        have hcz103_1 : wc.cell? ⟨gb110, 1, none⟩ = some (.string t107) := (blk_cell BK110.out 1).trans rfl
                        have hcz103_2 : wc.cell? ⟨gb110, 2, none⟩ = some (.int .i64 t108) := (blk_cell BK110.out 2).trans rfl
                        have hfz103_0 := blk_frozen BK110.out 0
                        have hfz103_1 := blk_frozen BK110.out 1
                        have hfz103_2 := blk_frozen BK110.out 2
                        go_wp2
                        go_meet
                        case rel => exact ⟨_, (false), (by first | rfl | (simp; done) | (simp [*]; done)), H', ⟨by have := HJ4.out; have := HJ32.out; have := HJ73.out; first | omega | exact Nat.le_refl _⟩, ⟨by (with_reducible repeat (first | refine blk_drewN ?_ _ | refine blk_drew ?_ | refine blk_alloc ?_ _)); exact BK101.out⟩, ⟨by (with_reducible repeat (first | refine blk_drewN ?_ _ | refine blk_drew ?_ | refine blk_alloc ?_ _)); exact BK102.out⟩, ⟨by (with_reducible repeat (first | refine blk_drewN ?_ _ | refine blk_drew ?_ | refine blk_alloc ?_ _)); exact BK109.out⟩, ⟨by (with_reducible repeat (first | refine blk_drewN ?_ _ | refine blk_drew ?_ | refine blk_alloc ?_ _)); exact BK110.out⟩, ⟨by repeat (first | (with_reducible first | exact HB.out | apply below_alloc | apply pw_below_drewN | apply below_drew1 | refine below_set ?_ GE101.out | refine below_set ?_ GE102.out | refine below_set ?_ GE109.out | refine below_set ?_ GE110.out) | exact HB.out)⟩⟩
                    case rest =>
                      clear HC88
                      try clear c1
                      try clear c2
                      try clear p2
                      try clear c3
                      try clear c4
                      try clear c5
                      try clear c6
                      try clear c7
                      try clear c8
                      try clear c9
                      try clear c10
                      try clear c20
                      try clear c20b0
                      try clear c20b1
                      try clear c21
                      try clear c22
                      try clear c23
                      try clear c25
                      try clear c26
                      try clear c28
                      try clear c29
                      try clear c30
                      try clear c32
                      try clear c34
                      try clear c34b0
                      try clear c34b1
                      try clear c35
                      try clear c36
                      try clear c37
                      try clear c38
                      try clear c40
                      try clear c41
                      try clear c43
                      try clear c43b0
                      try clear c43b1
                      try clear c44
                      try clear c45
                      try clear c46
                      try clear c48
                      try clear c49
                      try clear c51
                      try clear c52
                      try clear c53
                      try clear c55
                      try clear c56
                      try clear c58
                      try clear c58b0
                      try clear c58b1
                      try clear c59
                      try clear c60
                      try clear c61
                      try clear c63
                      try clear c64
                      try clear c66
                      try clear c67
                      try clear c68
                      try clear c70
                      try clear c71
                      try clear c73
                      try clear c75
                      try clear c75b0
                      try clear c75b1
                      try clear c76
                      try clear c77
                      try clear c78
                      try clear c80
                      try clear c81
                      try clear c82
                      try clear c84
                      try clear c85
                      try clear c87
                      try clear c89
                      try clear c89b0
                      try clear c89b1
                      try clear c89b2
                      try clear c90
                      try clear c91
                      try clear c92
                      try clear c94
                      try clear c95
                      try clear c97
                      try clear c98
                      try clear c99
                      try clear c101
                      try clear c102
                      try clear hcz100_0
                      try clear hcz100_1
                      try clear hcz100_2
                      try clear hcz103_0
                      try clear hcz103_1
                      try clear hcz103_2
                      try clear hcz24_0
                      try clear hcz24_1
                      try clear hcz24_2
                      try clear hcz27_0
                      try clear hcz27_1
                      try clear hcz27_2
                      try clear hcz31_0
                      try clear hcz31_1
                      try clear hcz31_2
                      try clear hcz39_0
                      try clear hcz39_1
                      try clear hcz39_2
                      try clear hcz42_0
                      try clear hcz42_1
                      try clear hcz42_2
                      try clear hcz47_0
                      try clear hcz47_1
                      try clear hcz47_2
                      try clear hcz50_0
                      try clear hcz50_1
                      try clear hcz50_2
                      try clear hcz54_0
                      try clear hcz54_1
                      try clear hcz54_2
                      try clear hcz57_0
                      try clear hcz57_1
                      try clear hcz57_2
                      try clear hcz62_0
                      try clear hcz62_1
                      try clear hcz62_2
                      try clear hcz65_0
                      try clear hcz65_1
                      try clear hcz65_2
                      try clear hcz69_0
                      try clear hcz69_1
                      try clear hcz69_2
                      try clear hcz72_0
                      try clear hcz72_1
                      try clear hcz72_2
                      try clear hcz79_0
                      try clear hcz79_1
                      try clear hcz79_2
                      try clear hcz83_0
                      try clear hcz83_1
                      try clear hcz83_2
                      try clear hcz86_0
                      try clear hcz86_1
                      try clear hcz86_2
                      try clear hcz93_0
                      try clear hcz93_1
                      try clear hcz93_2
                      try clear hcz96_0
                      try clear hcz96_1
                      try clear hcz96_2
                      try clear hfz100_0
                      try clear hfz100_1
                      try clear hfz100_2
                      try clear hfz103_0
                      try clear hfz103_1
                      try clear hfz103_2
                      try clear hfz24_0
                      try clear hfz24_1
                      try clear hfz24_2
                      try clear hfz27_0
                      try clear hfz27_1
                      try clear hfz27_2
                      try clear hfz31_0
                      try clear hfz31_1
                      try clear hfz31_2
                      try clear hfz39_0
                      try clear hfz39_1
                      try clear hfz39_2
                      try clear hfz42_0
                      try clear hfz42_1
                      try clear hfz42_2
                      try clear hfz47_0
                      try clear hfz47_1
                      try clear hfz47_2
                      try clear hfz50_0
                      try clear hfz50_1
                      try clear hfz50_2
                      try clear hfz54_0
                      try clear hfz54_1
                      try clear hfz54_2
                      try clear hfz57_0
                      try clear hfz57_1
                      try clear hfz57_2
                      try clear hfz62_0
                      try clear hfz62_1
                      try clear hfz62_2
                      try clear hfz65_0
                      try clear hfz65_1
                      try clear hfz65_2
                      try clear hfz69_0
                      try clear hfz69_1
                      try clear hfz69_2
                      try clear hfz72_0
                      try clear hfz72_1
                      try clear hfz72_2
                      try clear hfz79_0
                      try clear hfz79_1
                      try clear hfz79_2
                      try clear hfz83_0
                      try clear hfz83_1
                      try clear hfz83_2
                      try clear hfz86_0
                      try clear hfz86_1
                      try clear hfz86_2
                      try clear hfz93_0
                      try clear hfz93_1
                      try clear hfz93_2
                      try clear hfz96_0
                      try clear hfz96_1
                      try clear hfz96_2
                      try clear p2
                      obtain ⟨kq, x53_87, rfl, HA, HJ87, BK101, BK102, BK109, BK110, HB⟩ := hcut
                      cases kq with
                      | zero => exact absurd HA.out (by simp [orthoepyref10_Cmp.j3])
                      | succ kj87 =>
                        have H := HA.out
                        clear HA
                        simp only [orthoepyref10_Cmp.j3] at H
                        by_cases c104 : x53_87 = true
                        · subst c104
                          have H1 : (some (-1)) = some r := by rw [if_pos rfl] at H; exact H
                          clear H
                          have H := H1
                          clear H1
                          obtain rfl := Option.some.inj H
                          go_wp2
                          go_ret
                          exact ⟨by first | rfl | (simp [errW_none, errW_some] <;> rfl) | (simp [*, errW_none, errW_some] <;> rfl), by repeat (first | (with_reducible first | exact HB.out | apply below_alloc | apply pw_below_drewN | apply below_drew1 | refine below_set ?_ GE101.out | refine below_set ?_ GE102.out | refine below_set ?_ GE109.out | refine below_set ?_ GE110.out) | exact HB.out)⟩
                        · replace c104 := Bool.eq_false_iff.mpr c104
                          subst c104
                          have H1 : (if (t103 != t106) = true then (some 1) else (if t103 = true then ((orthoepyref10_size.f t106 t107 t108 t103 t104 t105).bind fun t111 => (some t111)) else ((orthoepyref10_size.f t103 t104 t105 t106 t107 t108).bind fun t112 => (some t112)))) = some r := by rw [if_neg (show ¬ (false = true) by decide)] at H; exact H
                          clear H
                          have H := H1
                          clear H1
                          by_cases c105 : (t103 != t106) = true
                          · rw [if_pos c105] at H
                            have c105b0 : (t103 != t106) = true := c105
                            (try (have c105b1 : decide (t103 = t106) = false := by simpa using c105))
                            (try (have c105b2 : (t103 == t106) = false := by simpa using c105))
                            (try (have c105b3 : ¬ (t103 = t106) := by simpa using c105))
                            clear c105
                            obtain rfl := Option.some.inj H
                            have hnb106 := NB109_101.out
                            have hnc106 := NB101_109.out
                            have hnb107 := NB109_102.out
                            have hnc107 := NB102_109.out
                            have hnb108 := NB109_110.out
                            have hnc108 := NB110_109.out
                            have hcz109_0 : wc.cell? ⟨gb109, 0, none⟩ = some (.bool t103) := (blk_cell BK109.out 0).trans rfl
                            have hcz109_1 : wc.cell? ⟨gb109, 1, none⟩ = some (.string t104) := (blk_cell BK109.out 1).trans rfl
                            have hcz109_2 : wc.cell? ⟨gb109, 2, none⟩ = some (.int .i64 t105) := (blk_cell BK109.out 2).trans rfl
                            have hfz109_0 := blk_frozen BK109.out 0
                            have hfz109_1 := blk_frozen BK109.out 1
                            have hfz109_2 := blk_frozen BK109.out 2
                            have hnb110 := NB110_101.out
                            have hnc110 := NB101_110.out
                            have hnb111 := NB110_102.out
                            have hnc111 := NB102_110.out
                            have hcz112_0 : wc.cell? ⟨gb110, 0, none⟩ = some (.bool t106) := (blk_cell BK110.out 0).trans rfl
                            have hcz112_1 : wc.cell? ⟨gb110, 1, none⟩ = some (.string t107) := (blk_cell BK110.out 1).trans rfl
                            have hcz112_2 : wc.cell? ⟨gb110, 2, none⟩ = some (.int .i64 t108) := (blk_cell BK110.out 2).trans rfl
                            have hfz112_0 := blk_frozen BK110.out 0
                            have hfz112_1 := blk_frozen BK110.out 1
                            have hfz112_2 := blk_frozen BK110.out 2
                            go_wp2
                            go_ret
                            exact ⟨by first | rfl | (simp [errW_none, errW_some] <;> rfl) | (simp [*, errW_none, errW_some] <;> rfl), by repeat (first | (with_reducible first | exact HB.out | apply below_alloc | apply pw_below_drewN | apply below_drew1 | refine below_set ?_ GE101.out | refine below_set ?_ GE102.out | refine below_set ?_ GE109.out | refine below_set ?_ GE110.out) | exact HB.out)⟩
                          · rw [if_neg c105] at H
                            have c105b0 : (t103 != t106) = false := by simpa using c105
                            (try (have c105b1 : decide (t103 = t106) = true := by simpa using c105))
                            (try (have c105b2 : (t103 == t106) = true := by simpa using c105))
                            clear c105
                            by_cases c113 : t103 = true
                            · subst c113
                              have H1 : ((orthoepyref10_size.f t106 t107 t108 true t104 t105).bind fun t111 => (some t111)) = some r := by rw [if_pos rfl] at H; exact H
                              clear H
                              have H := H1
                              clear H1
                              replace H := Option.bind_eq_some_iff.mp H
                              obtain ⟨t111, A1140, H⟩ := H
                              replace H : (some t111) = some r := H
                              have A114 := Aside0.mk A1140
                              clear A1140
                              obtain rfl := Option.some.inj H
                              have hnb115 := NB109_101.out
                              have hnc115 := NB101_109.out
                              have hnb116 := NB109_102.out
                              have hnc116 := NB102_109.out
                              have hnb117 := NB109_110.out
                              have hnc117 := NB110_109.out
                              have hcz118_0 : wc.cell? ⟨gb109, 0, none⟩ = some (.bool true) := (blk_cell BK109.out 0).trans rfl
                              have hcz118_1 : wc.cell? ⟨gb109, 1, none⟩ = some (.string t104) := (blk_cell BK109.out 1).trans rfl
                              have hcz118_2 : wc.cell? ⟨gb109, 2, none⟩ = some (.int .i64 t105) := (blk_cell BK109.out 2).trans rfl
                              have hfz118_0 := blk_frozen BK109.out 0
                              have hfz118_1 := blk_frozen BK109.out 1
                              have hfz118_2 := blk_frozen BK109.out 2
                              have hnb119 := NB110_101.out
                              have hnc119 := NB101_110.out
                              have hnb120 := NB110_102.out
                              have hnc120 := NB102_110.out
                              have hcz121_0 : wc.cell? ⟨gb110, 0, none⟩ = some (.bool t106) := (blk_cell BK110.out 0).trans rfl
                              have hcz121_1 : wc.cell? ⟨gb110, 1, none⟩ = some (.string t107) := (blk_cell BK110.out 1).trans rfl
                              have hcz121_2 : wc.cell? ⟨gb110, 2, none⟩ = some (.int .i64 t108) := (blk_cell BK110.out 2).trans rfl
                              have hfz121_0 := blk_frozen BK110.out 0
                              have hfz121_1 := blk_frozen BK110.out 1
                              have hfz121_2 := blk_frozen BK110.out 2
                              go_wp2_with (first | ((with_reducible refine gate_callee (f := 49) rfl ?_); refine goesL_ (some 74) rfl rfl Tryd.func49 (by kernel_rfl) rfl #[.agg #[.bool t106, .string t107, .int .i64 t108], .agg #[.bool true, .string t104, .int .i64 t105]] rfl (by (try simp only [List.map_toArray, List.map_cons, List.map_nil]); first | done | rfl | (simp only [List.length_drop, List.length_take]; rfl)) ?_; (with_reducible refine (orthoepyref10_size.calls t106 t107 t108 true t104 t105 t111 _ A114.out).mono ?_); rintro e w122 ⟨rfl, hb⟩; refine ⟨_, rfl, ?_⟩; have n0_ := Aside0.mk (blk_below (g := gb101) (o := .cells #[.bool a0_0, .string a0_1, .int .i64 a0_2] 23 (0, 0)) (by (with_reducible repeat (first | refine blk_drewN ?_ _ | refine blk_drew ?_ | refine blk_alloc ?_ _)); exact BK101.out) hb); have n1_ := Aside0.mk (blk_below (g := gb102) (o := .cells #[.bool a1_0, .string a1_1, .int .i64 a1_2] 23 (0, 0)) (by (with_reducible repeat (first | refine blk_drewN ?_ _ | refine blk_drew ?_ | refine blk_alloc ?_ _)); exact BK102.out) hb); have n2_ := Aside0.mk (blk_below (g := gb109) (o := .cells #[.bool true, .string t104, .int .i64 t105] 23 (0, 0)) (by (with_reducible repeat (first | refine blk_drewN ?_ _ | refine blk_drew ?_ | refine blk_alloc ?_ _)); exact BK109.out) hb); have n3_ := Aside0.mk (blk_below (g := gb110) (o := .cells #[.bool t106, .string t107, .int .i64 t108] 23 (0, 0)) (by (with_reducible repeat (first | refine blk_drewN ?_ _ | refine blk_drew ?_ | refine blk_alloc ?_ _)); exact BK110.out) hb); have n4_ := Aside0.mk (below_step (by repeat (first | (with_reducible first | exact HB.out | apply below_alloc | apply pw_below_drewN | apply below_drew1 | refine below_set ?_ GE101.out | refine below_set ?_ GE102.out | refine below_set ?_ GE109.out | refine below_set ?_ GE110.out) | exact HB.out)) hb); clear BK101; clear BK102; clear BK109; clear BK110; clear HB; have BK101 := n0_; have BK102 := n1_; have BK109 := n2_; have BK110 := n3_; have HB := n4_; clear n0_ n1_ n2_ n3_ n4_; (try clear hb); (try clear hb2); (try clear hk); (try clear hi)))
                              go_ret
                              exact ⟨by first | rfl | (simp [errW_none, errW_some] <;> rfl) | (simp [*, errW_none, errW_some] <;> rfl), by repeat (first | (with_reducible first | exact HB.out | apply below_alloc | apply pw_below_drewN | apply below_drew1 | refine below_set ?_ GE101.out | refine below_set ?_ GE102.out | refine below_set ?_ GE109.out | refine below_set ?_ GE110.out) | exact HB.out)⟩
                            · replace c113 := Bool.eq_false_iff.mpr c113
                              subst c113
                              have H1 : ((orthoepyref10_size.f false t104 t105 t106 t107 t108).bind fun t112 => (some t112)) = some r := by rw [if_neg (show ¬ (false = true) by decide)] at H; exact H
                              clear H
                              have H := H1
                              clear H1
                              replace H := Option.bind_eq_some_iff.mp H
                              obtain ⟨t112, A1230, H⟩ := H
                              replace H : (some t112) = some r := H
                              have A123 := Aside0.mk A1230
                              clear A1230
                              obtain rfl := Option.some.inj H
                              have hnb124 := NB109_101.out
                              have hnc124 := NB101_109.out
                              have hnb125 := NB109_102.out
                              have hnc125 := NB102_109.out
                              have hnb126 := NB109_110.out
                              have hnc126 := NB110_109.out
                              have hcz127_0 : wc.cell? ⟨gb109, 0, none⟩ = some (.bool false) := (blk_cell BK109.out 0).trans rfl
                              have hcz127_1 : wc.cell? ⟨gb109, 1, none⟩ = some (.string t104) := (blk_cell BK109.out 1).trans rfl
                              have hcz127_2 : wc.cell? ⟨gb109, 2, none⟩ = some (.int .i64 t105) := (blk_cell BK109.out 2).trans rfl
                              have hfz127_0 := blk_frozen BK109.out 0
                              have hfz127_1 := blk_frozen BK109.out 1
                              have hfz127_2 := blk_frozen BK109.out 2
                              have hnb128 := NB110_101.out
                              have hnc128 := NB101_110.out
                              have hnb129 := NB110_102.out
                              have hnc129 := NB102_110.out
                              have hcz130_0 : wc.cell? ⟨gb110, 0, none⟩ = some (.bool t106) := (blk_cell BK110.out 0).trans rfl
                              have hcz130_1 : wc.cell? ⟨gb110, 1, none⟩ = some (.string t107) := (blk_cell BK110.out 1).trans rfl
                              have hcz130_2 : wc.cell? ⟨gb110, 2, none⟩ = some (.int .i64 t108) := (blk_cell BK110.out 2).trans rfl
                              have hfz130_0 := blk_frozen BK110.out 0
                              have hfz130_1 := blk_frozen BK110.out 1
                              have hfz130_2 := blk_frozen BK110.out 2
                              go_wp2_with (first | ((with_reducible refine gate_callee (f := 49) rfl ?_); refine goesL_ (some 77) rfl rfl Tryd.func49 (by kernel_rfl) rfl #[.agg #[.bool false, .string t104, .int .i64 t105], .agg #[.bool t106, .string t107, .int .i64 t108]] rfl (by (try simp only [List.map_toArray, List.map_cons, List.map_nil]); first | done | rfl | (simp only [List.length_drop, List.length_take]; rfl)) ?_; (with_reducible refine (orthoepyref10_size.calls false t104 t105 t106 t107 t108 t112 _ A123.out).mono ?_); rintro e w131 ⟨rfl, hb⟩; refine ⟨_, rfl, ?_⟩; have n0_ := Aside0.mk (blk_below (g := gb101) (o := .cells #[.bool a0_0, .string a0_1, .int .i64 a0_2] 23 (0, 0)) (by (with_reducible repeat (first | refine blk_drewN ?_ _ | refine blk_drew ?_ | refine blk_alloc ?_ _)); exact BK101.out) hb); have n1_ := Aside0.mk (blk_below (g := gb102) (o := .cells #[.bool a1_0, .string a1_1, .int .i64 a1_2] 23 (0, 0)) (by (with_reducible repeat (first | refine blk_drewN ?_ _ | refine blk_drew ?_ | refine blk_alloc ?_ _)); exact BK102.out) hb); have n2_ := Aside0.mk (blk_below (g := gb109) (o := .cells #[.bool false, .string t104, .int .i64 t105] 23 (0, 0)) (by (with_reducible repeat (first | refine blk_drewN ?_ _ | refine blk_drew ?_ | refine blk_alloc ?_ _)); exact BK109.out) hb); have n3_ := Aside0.mk (blk_below (g := gb110) (o := .cells #[.bool t106, .string t107, .int .i64 t108] 23 (0, 0)) (by (with_reducible repeat (first | refine blk_drewN ?_ _ | refine blk_drew ?_ | refine blk_alloc ?_ _)); exact BK110.out) hb); have n4_ := Aside0.mk (below_step (by repeat (first | (with_reducible first | exact HB.out | apply below_alloc | apply pw_below_drewN | apply below_drew1 | refine below_set ?_ GE101.out | refine below_set ?_ GE102.out | refine below_set ?_ GE109.out | refine below_set ?_ GE110.out) | exact HB.out)) hb); clear BK101; clear BK102; clear BK109; clear BK110; clear HB; have BK101 := n0_; have BK102 := n1_; have BK109 := n2_; have BK110 := n3_; have HB := n4_; clear n0_ n1_ n2_ n3_ n4_; (try clear hb); (try clear hb2); (try clear hk); (try clear hi)))
                              go_ret
                              exact ⟨by first | rfl | (simp [errW_none, errW_some] <;> rfl) | (simp [*, errW_none, errW_some] <;> rfl), by repeat (first | (with_reducible first | exact HB.out | apply below_alloc | apply pw_below_drewN | apply below_drew1 | refine below_set ?_ GE101.out | refine below_set ?_ GE102.out | refine below_set ?_ GE109.out | refine below_set ?_ GE110.out) | exact HB.out)⟩

end Go.Proofs.YtcpfooceadgccaaDoor.XDR
