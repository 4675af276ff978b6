/- Proved: for every input, LimitChecks returns true, and its arguments read behind the call as before. Conditions: none. -/
import Derived.Test.YtgjddlianhejdaaRowKit
import Derived.Test.YtgjddlianhejdaaLimAwake
namespace Go.Proofs.Ytgjddlianhejdaa.limitChecks
open Go.ChangeShapes Go.WideShapes Go.ChangeAt Go.RowKit
set_option linter.unusedVariables false
set_option linter.unusedSimpArgs false
set_option maxRecDepth 100000

theorem own : ownKnob Try.prog.godebug = none := by kernel_rfl

theorem limok_field {n : Int} (h0 : 1 ≤ n) (h1 : n ≤ 1048576) : LimOk n 1048576 1048576 1048576 1048576 ∧ LimOk 1048576 n 1048576 1048576 1048576 ∧ LimOk 1048576 1048576 n 1048576 1048576 ∧ LimOk 1048576 1048576 1048576 n 1048576 ∧ LimOk 1048576 1048576 1048576 1048576 n := by
  unfold LimOk; omega
theorem limno_field {n : Int} (h0 : n < 1 ∨ 1048576 < n) : ¬ LimOk n 1048576 1048576 1048576 1048576 ∧ ¬ LimOk 1048576 n 1048576 1048576 1048576 ∧ ¬ LimOk 1048576 1048576 n 1048576 1048576 ∧ ¬ LimOk 1048576 1048576 1048576 n 1048576 ∧ ¬ LimOk 1048576 1048576 1048576 1048576 n := by
  unfold LimOk; omega

theorem cases5 (k : Int) : k % 5 = 0 ∨ k % 5 = 1 ∨ k % 5 = 2 ∨ k % 5 = 3 ∨ k % 5 = 4 := by omega

set_option maxHeartbeats 4000000 in
theorem walk_yes (a0 : Int) (a1 : Int) (l0 : -9223372036854775808 ≤ a0) (l1 : a0 ≤ 9223372036854775807) (h0 : 1 ≤ a1) (h1 : a1 ≤ 1048576) (w : World) :
    Calls Try.prog 3 #[.int .i64 a0, .int .i64 a1] w fun e w' => e = .returned (.bool true) ∧ Touch [] w w' := by
  have HL := Lib.hid (limok_field h0 h1)
  rcases cases5 a0 with hk | hk | hk | hk | hk
  all_goals
    go_enter Try.func3, Try.ntmps3
    go_wp2_with fail
    refine (wide_any _).mono ?_; rintro e w1 ⟨rfl, ht1⟩
    go_simp
    go_wp2_with fail
    refine (place_any _ _ _ (by omega) (by omega) (by omega) (by omega)).mono ?_; rintro e w2 ⟨rfl, rfl⟩
    go_simp
    go_wp2_with fail
    refine (check_yes _ _ _ _ _ _ (by first | exact HL.out.1 | exact HL.out.2.1 | exact HL.out.2.2.1 | exact HL.out.2.2.2.1 | exact HL.out.2.2.2.2)).mono ?_; rintro e w3 ⟨rfl, ht3⟩
    have hB := ht3.keep (alloc_new _ _) (by simp)
    have hc := cell_at hB
    go_simp
    go_wp2_with fail
    refine (new_yes _ _ _ _ _ _ (by first | exact HL.out.1 | exact HL.out.2.1 | exact HL.out.2.2.1 | exact HL.out.2.2.2.1 | exact HL.out.2.2.2.2)).mono ?_; rintro e w4 ⟨p, rfl, hp, hm, ht4⟩
    clear hc
    go_simp
    go_wp2_with fail
    refine (awake15 _).mono ?_; rintro e w5 ⟨rfl, ht5⟩
    go_simp
    go_wp2_with fail
    go_ret
    exact ⟨rfl, (((ht1.alloc _).trans ht3).trans ht4).trans ht5⟩

set_option maxHeartbeats 4000000 in
theorem walk_no (a0 : Int) (a1 : Int) (l0 : -9223372036854775808 ≤ a0) (l1 : a0 ≤ 9223372036854775807) (h0 : a1 < 1 ∨ 1048576 < a1) (w : World) :
    Calls Try.prog 3 #[.int .i64 a0, .int .i64 a1] w fun e w' => e = .returned (.bool true) ∧ Touch [] w w' := by
  have HL := Lib.hid (limno_field h0)
  rcases cases5 a0 with hk | hk | hk | hk | hk <;> rcases h0 with h0 | h0
  all_goals
    first | (have h1 : 1 ≤ a1 := (by omega); have hd : decide (a1 ≤ 1048576) = false := (by simp; omega)) | (have hd : decide (1 ≤ a1) = false := (by simp; omega))
    go_enter Try.func3, Try.ntmps3
    go_wp2_with fail
    refine (wide_any _).mono ?_; rintro e w1 ⟨rfl, ht1⟩
    go_simp
    go_wp2_with fail
    refine (place_any _ _ _ (by omega) (by omega) (by omega) (by omega)).mono ?_; rintro e w2 ⟨rfl, rfl⟩
    go_simp
    go_wp2_with fail
    refine (check_no _ _ _ _ _ _ (by first | exact HL.out.1 | exact HL.out.2.1 | exact HL.out.2.2.1 | exact HL.out.2.2.2.1 | exact HL.out.2.2.2.2)).mono ?_; rintro e w3 ⟨rfl, ht3⟩
    have hB := ht3.keep (alloc_new _ _) (by simp)
    have hc := cell_at hB
    go_simp
    go_wp2_with fail
    refine (new_no _ _ _ _ _ _ (by first | exact HL.out.1 | exact HL.out.2.1 | exact HL.out.2.2.1 | exact HL.out.2.2.2.1 | exact HL.out.2.2.2.2)).mono ?_; rintro e w4 ⟨rfl, ht4⟩
    clear hc
    go_simp
    go_wp2_with fail
    refine (awake15 _).mono ?_; rintro e w5 ⟨rfl, ht5⟩
    go_simp
    go_wp2_with fail
    go_ret
    exact ⟨rfl, (((ht1.alloc _).trans ht3).trans ht4).trans ht5⟩

theorem walk (a0 : Int) (a1 : Int) (w0 : (Lit.int .i64 a0).wf = true) (w : World) :
    Calls Try.prog 3 #[.int .i64 a0, .int .i64 a1] w fun e w' => e = .returned (.bool true) ∧ Touch [] w w' := by
  have hb := i64_bounds w0
  by_cases h : 1 ≤ a1 ∧ a1 ≤ 1048576
  · exact walk_yes a0 a1 hb.1 hb.2 h.1 h.2 w
  · exact walk_no a0 a1 hb.1 hb.2 (by omega) w

set_option maxRecDepth 100000 in
theorem lifted (os : Os) (started : os.Started) (H : Type) (enc : TypeId × Value → H) :
    ReturnsInHanded {} Try.checked os 3 .any (Rows.limitChecksSpec.pre6 enc Try.prog Try.f3 Rows.limitChecksRow.domain false) (Rows.limitChecksSpec.post enc Try.prog Try.f3 false true false false) := by
  refine returnsInHanded_of_change (C := Try.checked) own started (by kernel_rfl) Try.func3
    (ChangeSpec.witness6 (enc := enc) (C := Try.checked) false ⟨#[], #[.int .i64 0, .int .i64 0], []⟩ 8 (by kernel_rfl) (by kernel_rfl) (by kernel_rfl) (by kernel_rfl)) ?_
  intro W base args ds gs before hval0 hW hcnd _
  have hval : ∀ (j : Nat) t v, Try.f3.params[j]? = some t → args[j]? = some v → Value.okWide Try.prog W .any base t v := hval0
  have hW' := hW
  obtain ⟨p, q, hA0, hV, rfl, hfz, hnd⟩ := hW
  have hA : DataW.TrodAll enc Try.prog W 0 (fun _ => true) true Try.f3.params.toList args.toList ds p := hA0
  rw [Try.params3] at hA hval
  obtain ⟨v0, vs0, d0, ds0, p0, q0, hargs, rfl, rfl, h0, r0⟩ := trodAll_cons hA
  obtain ⟨v1, vs1, d1, ds1, p1, q1, rfl, rfl, rfl, h1, r1⟩ := trodAll_cons r0
  obtain ⟨rfl, rfl, rfl⟩ := trodAll_nil r1
  obtain rfl : args = #[v0, v1] := by cases args; simp_all
  obtain ⟨rfl, rfl⟩ := trodVars_none hV
  obtain ⟨a0, rfl, rfl, rfl, w0⟩ := open_int Try.underlying3 (hval 0 3 v0 rfl rfl) h0
  obtain ⟨a1, rfl, rfl, rfl, w1⟩ := open_int Try.underlying3 (hval 1 3 v1 rfl rfl) h1
  clear hA0 hval0
  simp only [List.append_nil] at hW'
  refine (walk a0 a1 w0 W).mono fun e W' ⟨he, hg⟩ => ?_
  subst he
  exact ⟨_, rfl, post_of_touch (pa := []) (pv := []) hW' (fun _ _ _ => (trodAll_cons_mk (shut_bool Try.underlying4 _) trodAll_mk0)) (fun sp _ => (trodAll_cons_mk (shut_int Try.underlying3 w0) (trodAll_cons_mk (shut_int Try.underlying3 w1) trodAll_mk0))) (fun _ _ => rfl) rfl
    hg (ok_one (by kernel_rfl) rfl (okWide_bool_mk Try.underlying4 _))⟩

theorem over : Rows.limitChecksRow.holds Try.pinned (OpenSpec.ofChange Rows.limitChecksSpec) :=
  OpenClaim.holds_of_wide 3 Try.f3 rfl rfl rfl rfl rfl rfl rfl ⟨rfl, rfl, rfl, rfl, rfl⟩ rfl rfl rfl rfl rfl (by kernel_rfl) Try.func3 (by kernel_rfl)
    (of_decide_eq_true (by kernel_rfl)) (by unfold Func.isWrapper; first | (rw [if_pos (by decide +kernel)]; kernel_rfl) | (rw [if_neg (by decide +kernel)]; exact ⟨rfl, rfl⟩))
    (fun os started H enc _ => lifted os started H enc)

theorem proved : Rows.LimitChecksSaid :=
  over
#print axioms proved
end Go.Proofs.Ytgjddlianhejdaa.limitChecks
