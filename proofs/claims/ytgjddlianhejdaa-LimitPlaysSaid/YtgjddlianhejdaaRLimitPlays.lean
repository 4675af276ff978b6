/- Proved: for every input, the law LimitPlays returns true, and its arguments read behind the call as before. Conditions: none. -/
import Derived.Test.YtgjddlianhejdaaRowKit
import Derived.Test.YtgjddlianhejdaaLimPlays
namespace Go.Proofs.Ytgjddlianhejdaa.limitPlays
open Go.ChangeShapes Go.WideShapes Go.ChangeAt Go.RowKit Go.Joins Go.Deep
open Go.ChangeMaps (open_string shut_string)
set_option linter.unusedVariables false
set_option linter.unusedSimpArgs false

theorem own : ownKnob Try.prog.godebug = none := by kernel_rfl
theorem laidOut : laidOutB Try.prog = true := by kernel_rfl

set_option maxRecDepth 100000 in
theorem lifted (os : Os) (started : os.Started) (H : Type) (enc : TypeId × Value → H) :
    ReturnsInHanded {} Try.checked os 7 .any (Rows.limitPlaysSpec.pre6 enc Try.prog Try.f7 Rows.limitPlaysRow.domain false) (Rows.limitPlaysSpec.post enc Try.prog Try.f7 false true false false) := by
  refine returnsInHanded_of_change (C := Try.checked) own started (by kernel_rfl) Try.func7
    (ChangeSpec.witness6 (enc := enc) (C := Try.checked) false ⟨#[], #[.agg #[.int .i64 0, .int .i64 0, .int .i64 0, .int .i64 0, .int .i64 0], .slice none 0 0], []⟩ 8 (by kernel_rfl) (by kernel_rfl) (by kernel_rfl) (by kernel_rfl)) ?_
  intro W base args ds gs before hval0 hW hcnd _
  have hval : ∀ (j : Nat) t v, Try.f7.params[j]? = some t → args[j]? = some v → Value.okWide Try.prog W .any base t v := hval0
  have hW' := hW
  obtain ⟨p, q, hA0, hV, rfl, hfz, hnd⟩ := hW
  have hA : DataW.TrodAll enc Try.prog W 0 (fun _ => true) true Try.f7.params.toList args.toList ds p := hA0
  rw [Try.params7] at hA hval
  obtain ⟨v0, vs0, d0, ds0, p0, q0, hargs, rfl, rfl, h0, r0⟩ := trodAll_cons hA
  obtain ⟨v1, vs1, d1, ds1, p1, q1, rfl, rfl, rfl, h1, r1⟩ := trodAll_cons r0
  obtain ⟨rfl, rfl, rfl⟩ := trodAll_nil r1
  obtain rfl : args = #[v0, v1] := by cases args; simp_all
  obtain ⟨rfl, rfl⟩ := trodVars_none hV
  have k0 := h0
  have lt0 : ∀ x ∈ p0, x.block < W.heap.size := by obtain ⟨m, hm⟩ := k0; exact DataW.trod_lt m _ _ _ hm
  have k1 := h1
  have lt1 : ∀ x ∈ p1, x.block < W.heap.size := by obtain ⟨m, hm⟩ := k1; exact DataW.trod_lt m _ _ _ hm
  obtain ⟨s0_0, s0_1, s0_2, s0_3, s0_4, y0_0, y0_1, y0_2, y0_3, y0_4, m0, e0, t0_0, t0_1, t0_2, t0_3, t0_4⟩ := open_agg5 Try.underlying23 (by kernel_rfl) (by kernel_rfl) (hval 0 23 v0 rfl rfl) h0
  subst e0
  obtain ⟨a0_0, g0_0, _, w0_0⟩ := DataW.trod_int Try.underlying3 t0_0
  simp only [List.cons.injEq, and_true] at g0_0
  subst g0_0
  obtain ⟨a0_1, g0_1, _, w0_1⟩ := DataW.trod_int Try.underlying3 t0_1
  simp only [List.cons.injEq, and_true] at g0_1
  subst g0_1
  obtain ⟨a0_2, g0_2, _, w0_2⟩ := DataW.trod_int Try.underlying3 t0_2
  simp only [List.cons.injEq, and_true] at g0_2
  subst g0_2
  obtain ⟨a0_3, g0_3, _, w0_3⟩ := DataW.trod_int Try.underlying3 t0_3
  simp only [List.cons.injEq, and_true] at g0_3
  subst g0_3
  obtain ⟨a0_4, g0_4, _, w0_4⟩ := DataW.trod_int Try.underlying3 t0_4
  simp only [List.cons.injEq, and_true] at g0_4
  subst g0_4
  obtain ⟨a1, n1, c1, e1⟩ := okWide_slice Try.underlying46 (hval 1 46 v1 rfl rfl)
  subst e1
  obtain ⟨z1, w1⟩ := pairsIn_of Try.underlying46 Try.underlying50 (by kernel_rfl) rfl rfl (by kernel_rfl) (by kernel_rfl) Try.underlying3 Try.underlying3 h1
  clear hA0 hval0
  refine (plays_walk a0_0 a0_1 a0_2 a0_3 a0_4 a1 n1 c1 z1 W w0_0 w0_1 w0_2 w0_3 w0_4 w1).mono fun e W' ⟨he, ht⟩ => ?_
  have bel := ht.below
  subst he
  exact ⟨_, rfl, _, _, _, [], _, [], hW', trodAll_mk1 (shut_bool Try.underlying4 _), (trodAll_cons_mk (Below.trod laidOut (by kernel_rfl) (of_decide_eq_true (by kernel_rfl)) k0 bel lt0) (trodAll_cons_mk (Below.trod laidOut (by kernel_rfl) (of_decide_eq_true (by kernel_rfl)) k1 bel lt1) trodAll_mk0)), rfl, bel.frame _, fun h => by cases h⟩

theorem over : Rows.limitPlaysRow.holds Try.pinned (OpenSpec.ofChange Rows.limitPlaysSpec) :=
  OpenClaim.holds_of_wide 7 Try.f7 rfl rfl rfl rfl rfl rfl rfl ⟨rfl, rfl, rfl, rfl, rfl⟩ rfl rfl rfl rfl rfl (by kernel_rfl) Try.func7 (by kernel_rfl)
    (of_decide_eq_true (by kernel_rfl)) (by unfold Func.isWrapper; first | (rw [if_pos (by decide +kernel)]; kernel_rfl) | (rw [if_neg (by decide +kernel)]; exact ⟨rfl, rfl⟩))
    (fun os started H enc _ => lifted os started H enc)

theorem proved : Rows.LimitPlaysSaid := over
#print axioms proved
end Go.Proofs.Ytgjddlianhejdaa.limitPlays
