/- Proved: for every input, the law DigitsNorms returns true, and its arguments read behind the call as before. Conditions: none. -/
import Derived.Test.YtcpfooceadgccaaDoorTie
import Derived.Test.YtcpfooceadgccaaDoorCards
import Derived.LaidMore
import Derived.Lay
import Derived.SevenTiedAt
import Derived.Stop.Joined
import Derived.Test.YtcpfooceadgccaaDoorRowKit
import Derived.Test.YtcpfooceadgccaaDoorDigLN
namespace Go.Proofs.YtcpfooceadgccaaDoor.digitsNorms
open Go.ChangeShapes Go.WideShapes Go.ChangeAt Go.RowKit Go.Joins Go.Deep
open Go.ChangeMaps (open_string shut_string)
set_option linter.unusedVariables false
set_option linter.unusedSimpArgs false

theorem own : ownKnob Tryd.prog.godebug = none := by kernel_rfl
theorem laidOut : laidOutB Tryd.prog = true := by kernel_rfl

set_option maxRecDepth 100000 in
theorem lifted (os : Os) (started : os.Started) (H : Type) (enc : TypeId × Value → H) :
    ReturnsInHanded {} Tryd.checked os 6 .any (fun w args => (Rows.digitsNormsSpec.pre enc Tryd.prog Tryd.f6 Rows.digitsNormsRow.domain false w args ∧ laidMetH Tryd.prog Rows.digitsNormsRow.laid w) ∧ sizedMet enc Tryd.prog Tryd.f6 (OpenSpec.ofChange Rows.digitsNormsSpec) false w args)
      (Rows.digitsNormsSpec.post enc Tryd.prog Tryd.f6 false true false false) := by
  refine returnsInHanded_of_change_and (C := Tryd.checked) (X := fun w _ => laidMetH Tryd.prog Rows.digitsNormsRow.laid w) (fun _ _ _ hh h => h.of_heap hh) own started (by kernel_rfl) Tryd.func6
    (ChangeSpec.witness_shaped (enc := enc) (C := Tryd.checked) (os := os) (X := fun w _ => laidMetH Tryd.prog Rows.digitsNormsRow.laid w) false (World.laidAll Tryd.prog os Rows.digitsNormsRow.laid) #[.agg #[.bool false, .string ByteArray.empty, .int .i64 0], .int .u8 0, .int .u8 0] 8 (World.laidAll_os _ _ _)
      (World.shaped_of_ZipB (by kernel_rfl) (by kernel_rfl)) (by kernel_rfl) (by kernel_rfl) (by kernel_rfl)
      (by rw [MakeChecks.laidMetH_plain _ _ _ (by kernel_rfl)]; exact laidMet_laidAll _ (by kernel_rfl) (by kernel_rfl))) ?_
  intro W base args ds gs before hval0 hW hcnd _ hL _
  have hval : ∀ (j : Nat) t v, Tryd.f6.params[j]? = some t → args[j]? = some v → Value.okWide Tryd.prog W .any base t v := hval0
  have hW' := hW
  obtain ⟨p, q, hA0, hV, rfl, hfz, hnd⟩ := hW
  have hA : DataW.TrodAll enc Tryd.prog W 0 (fun _ => true) true Tryd.f6.params.toList args.toList ds p := hA0
  rw [Tryd.params6] at hA hval
  obtain ⟨v0, vs0, d0, ds0, p0, q0, hargs, rfl, rfl, h0, r0⟩ := trodAll_cons hA
  obtain ⟨v1, vs1, d1, ds1, p1, q1, rfl, rfl, rfl, h1, r1⟩ := trodAll_cons r0
  obtain ⟨v2, vs2, d2, ds2, p2, q2, rfl, rfl, rfl, h2, r2⟩ := trodAll_cons r1
  obtain ⟨rfl, rfl, rfl⟩ := trodAll_nil r2
  obtain rfl : args = #[v0, v1, v2] := by cases args; simp_all
  obtain ⟨rfl, rfl⟩ := trodVars_none hV
  have k0 := h0
  have lt0 : ∀ x ∈ p0, x.block < W.heap.size := by obtain ⟨m, hm⟩ := k0; exact DataW.trod_lt m _ _ _ hm
  have k1 := h1
  have lt1 : ∀ x ∈ p1, x.block < W.heap.size := by obtain ⟨m, hm⟩ := k1; exact DataW.trod_lt m _ _ _ hm
  have k2 := h2
  have lt2 : ∀ x ∈ p2, x.block < W.heap.size := by obtain ⟨m, hm⟩ := k2; exact DataW.trod_lt m _ _ _ hm
  obtain ⟨s0_0, s0_1, s0_2, y0_0, y0_1, y0_2, m0, e0, _, _, t0_0, t0_1, t0_2⟩ := open_agg3 Tryd.underlying23 (by kernel_rfl) (by kernel_rfl) (hval 0 23 v0 rfl rfl) h0
  subst e0
  obtain ⟨a0_0, g0_0, _⟩ := DataW.trod_bool Tryd.underlying4 t0_0
  simp only [List.cons.injEq, and_true] at g0_0
  subst g0_0
  obtain ⟨a0_1, g0_1, _, w0_1⟩ := DataW.trod_string Tryd.underlying9 t0_1
  simp only [List.cons.injEq, and_true] at g0_1
  subst g0_1
  unfold maxLen at w0_1
  obtain ⟨a0_2, g0_2, _, w0_2⟩ := DataW.trod_int Tryd.underlying3 t0_2
  simp only [List.cons.injEq, and_true] at g0_2
  subst g0_2
  obtain ⟨a1, e1, _, _, w1⟩ := open_int Tryd.underlying5 (hval 1 5 v1 rfl rfl) h1
  subst e1
  obtain ⟨a2, e2, _, _, w2⟩ := open_int Tryd.underlying5 (hval 2 5 v2 rfl rfl) h2
  subst e2
  clear hA0 hval0
  refine (digitsnorms_walk a0_0 a0_1 a0_2 a1 a2 W w0_1 w0_2 w1 w2).mono fun e W' ⟨he, ht⟩ => ?_
  have bel := ht.below
  subst he
  exact ⟨_, rfl, _, _, _, [], _, [], hW', trodAll_mk1 (shut_bool Tryd.underlying4 _), (trodAll_cons_mk (Below.trod laidOut (by kernel_rfl) (of_decide_eq_true (by kernel_rfl)) k0 bel lt0) (trodAll_cons_mk (Below.trod laidOut (by kernel_rfl) (of_decide_eq_true (by kernel_rfl)) k1 bel lt1) (trodAll_cons_mk (Below.trod laidOut (by kernel_rfl) (of_decide_eq_true (by kernel_rfl)) k2 bel lt2) trodAll_mk0))), rfl, bel.frame _, fun h => by cases h⟩

theorem over : Rows.digitsNormsRow.holds Tryd.pinned (OpenSpec.ofChange Rows.digitsNormsSpec) :=
  OpenClaim.holds_of_wide 6 Tryd.f6 rfl rfl rfl rfl rfl rfl rfl ⟨rfl, rfl, rfl, rfl, rfl⟩ rfl rfl rfl rfl rfl (by kernel_rfl) Tryd.func6 (by kernel_rfl)
    (of_decide_eq_true (by kernel_rfl)) (by unfold Func.isWrapper; first | (rw [if_pos (by decide +kernel)]; kernel_rfl) | (rw [if_neg (by decide +kernel)]; exact ⟨rfl, rfl⟩))
    (fun os started H enc _ => lifted os started H enc)

theorem proved : Rows.DigitsNormsCardSaid :=
  Claim7.holds_tied_plain_at .later [] [.data, .pinned] true (true, "f5886647a843d832a6e53524f09939855d05e35e89979a924b2102ff58d3e52e") false over (fun _ h => by cases h) (by kernel_rfl) (fun _ h => by cases h) digitsNorms_row_tie rfl ⟨rfl, rfl⟩ (by kernel_rfl) rfl
    (fun f fn hf hfn => by
      obtain rfl : f = 6 := Option.some.inj ((show Tryd.prog.funcNamed "orthoepy/orthoepylaw10.DigitsNorms" = some 6 by kernel_rfl).symm.trans hf) |>.symm
      obtain rfl : fn = Tryd.f6 := (Option.some.inj (Tryd.func6.symm.trans hfn)).symm
      exact ⟨by kernel_rfl, fun j t ht => by
        rw [Tryd.params6] at ht
        have hm : t ∈ [23, 5, 5] := by simpa using Array.mem_of_getElem? ht
        have hall : ([23, 5, 5].all fun u => !Tryd.prog.wantsStandIn u) = true := by kernel_rfl
        exact (show Tryd.prog.wantsStandIn t = false by simpa using List.all_eq_true.1 hall t hm)⟩)
    (by kernel_rfl)
#print axioms proved
end Go.Proofs.YtcpfooceadgccaaDoor.digitsNorms
