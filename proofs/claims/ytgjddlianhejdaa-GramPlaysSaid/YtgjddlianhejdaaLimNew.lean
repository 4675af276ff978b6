/- Place, Wide, Check, New of the limit layer and its reference. -/
import Derived.Test.YtgjddlianhejdaaLim
import Derived.BigGuardPart
namespace Go.Proofs.Ytgjddlianhejdaa
open Go.RowKit
set_option maxRecDepth 100000
set_option linter.unusedVariables false
set_option linter.unusedSimpArgs false

theorem wide_any (w : World) : Calls Try.prog 13 #[] w fun e w' => e = .returned (lim 1048576 1048576 1048576 1048576 1048576) ∧ Touch [] w w' := by
  go_enter Try.func13, Try.ntmps13
  go_wp2
  exact bodyPost_ret (v := lim 1048576 1048576 1048576 1048576 1048576) (by simp [results, Try.results13, go_sem]) rfl ⟨rfl, (Touch.refl _ _).alloc _⟩

theorem place_neg (v n : Int) (h0 : 1 ≤ n) (h : v.tmod n < 0) : v % n = v.tmod n + n ∧ -n < v.tmod n := by
  have h1 := Int.emod_eq_tmod (a := v) (b := n)
  have h2 : 0 ≤ v % n := Int.emod_nonneg _ (by omega)
  have h3 : v % n < n := Int.emod_lt_of_pos _ (by omega)
  split at h1 <;> omega
theorem place_pos (v n : Int) (h0 : 1 ≤ n) (h : 0 ≤ v.tmod n) : v.tmod n = v % n := by
  have h1 := Int.emod_eq_tmod (a := v) (b := n)
  have h2 : 0 ≤ v % n := Int.emod_nonneg _ (by omega)
  have h3 : v % n < n := Int.emod_lt_of_pos _ (by omega)
  have h4 : v.tmod n < n := Int.tmod_lt_of_pos _ (by omega)
  split at h1 <;> omega
theorem place_any (v n : Int) (w : World) (h0 : 1 ≤ n) (h1 : n ≤ 4611686018427387904) (h2 : -9223372036854775808 ≤ v) (h3 : v ≤ 9223372036854775807) :
    Calls Try.prog 14 #[.int .i64 v, .int .i64 n] w fun e w' => e = .returned (.int .i64 (v % n)) ∧ w = w' := by
  go_enter Try.func14, Try.ntmps14
  go_wp2
  all_goals go_ret
  · have hlt : v.tmod n < 0 := by assumption
    have e := place_neg v n h0 hlt
    have hw : wrap64 (v.tmod n + n) = v % n := by unfold wrap64; omega
    exact ⟨by simp [hw], rfl⟩
  · have hge : 0 ≤ v.tmod n := by assumption
    have e := place_pos v n h0 hge
    exact ⟨by simp [e], rfl⟩

theorem check_yes (a b c d f : Int) (w : World) (hl : LimOk a b c d f) :
    Calls Try.prog 15 #[lim a b c d f] w fun e w' => e = .returned (.bool true) ∧ Touch [] w w' := by
  obtain ⟨l1, l2, l3, l4, l5, l6, l7, l8, l9, l10⟩ := hl
  have i0 : ∀ w, (Instr.index 70 (lim a b c d f) (.int .i64 0)).run Try.prog w = .ok (.int .i64 a) w := fun _ => by kernel_rfl
  have i1 : ∀ w, (Instr.index 70 (lim a b c d f) (.int .i64 1)).run Try.prog w = .ok (.int .i64 b) w := fun _ => by kernel_rfl
  have i2 : ∀ w, (Instr.index 70 (lim a b c d f) (.int .i64 2)).run Try.prog w = .ok (.int .i64 c) w := fun _ => by kernel_rfl
  have i3 : ∀ w, (Instr.index 70 (lim a b c d f) (.int .i64 3)).run Try.prog w = .ok (.int .i64 d) w := fun _ => by kernel_rfl
  have i4 : ∀ w, (Instr.index 70 (lim a b c d f) (.int .i64 4)).run Try.prog w = .ok (.int .i64 f) w := fun _ => by kernel_rfl
  go_enter Try.func15, Try.ntmps15
  go_wp2
  go_rounds 6
  go_ret
  exact ⟨rfl, (Touch.refl _ _).alloc _⟩

set_option maxHeartbeats 1000000 in
theorem check_no (a b c d f : Int) (w : World) (hl : ¬ LimOk a b c d f) :
    Calls Try.prog 15 #[lim a b c d f] w fun e w' => e = .returned (.bool false) ∧ Touch [] w w' := by
  unfold LimOk at hl
  have i0 : ∀ w, (Instr.index 70 (lim a b c d f) (.int .i64 0)).run Try.prog w = .ok (.int .i64 a) w := fun _ => by kernel_rfl
  have i1 : ∀ w, (Instr.index 70 (lim a b c d f) (.int .i64 1)).run Try.prog w = .ok (.int .i64 b) w := fun _ => by kernel_rfl
  have i2 : ∀ w, (Instr.index 70 (lim a b c d f) (.int .i64 2)).run Try.prog w = .ok (.int .i64 c) w := fun _ => by kernel_rfl
  have i3 : ∀ w, (Instr.index 70 (lim a b c d f) (.int .i64 3)).run Try.prog w = .ok (.int .i64 d) w := fun _ => by kernel_rfl
  have i4 : ∀ w, (Instr.index 70 (lim a b c d f) (.int .i64 4)).run Try.prog w = .ok (.int .i64 f) w := fun _ => by kernel_rfl
  have hl := Lib.hid hl
  go_enter Try.func15, Try.ntmps15
  go_wp2
  go_rounds 6
  all_goals go_ret
  all_goals exact ⟨rfl, (Touch.refl _ _).alloc _⟩

theorem new_yes (a b c d f : Int) (w : World) (hl : LimOk a b c d f) :
    Calls Try.prog 16 #[lim a b c d f] w fun e w' => ∃ p, e = .returned (.pointer (some ⟨p, 0, none⟩)) ∧ w.heap.size ≤ p ∧ MetAt w' p ⟨0, 0, 0, 0, 0, a, b, c, d, f, 0⟩ ∧ Touch [] w w' := by
  go_enter Try.func16, Try.ntmps16
  go_wp2_with (go_at_call 15; refine (check_yes a b c d f _ hl).mono ?_; rintro e w1 ⟨rfl, ht⟩; have hB := ht.keep (alloc_new _ _) (by simp); have hc := cell_at hB)
  go_ret
  exact ⟨_, rfl, (Touch.refl _ _ |>.alloc _ |>.trans ht).size, alloc_new _ _, ((Touch.refl _ _ |>.alloc _).trans ht).alloc _⟩
theorem new_no (a b c d f : Int) (w : World) (hl : ¬ LimOk a b c d f) :
    Calls Try.prog 16 #[lim a b c d f] w fun e w' => e = .returned (.pointer none) ∧ Touch [] w w' := by
  go_enter Try.func16, Try.ntmps16
  go_wp2_with (go_at_call 15; refine (check_no a b c d f _ hl).mono ?_; rintro e w1 ⟨rfl, ht⟩)
  go_ret
  exact ⟨rfl, (((Touch.refl _ _).alloc _)).trans ht⟩
end Go.Proofs.Ytgjddlianhejdaa
