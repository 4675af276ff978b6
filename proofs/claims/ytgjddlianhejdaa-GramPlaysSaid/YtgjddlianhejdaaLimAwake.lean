/- The reference's Check and New; the law's awake. -/
import Derived.Test.YtgjddlianhejdaaLimNew
namespace Go.Proofs.Ytgjddlianhejdaa
open Go.RowKit
set_option maxRecDepth 100000
set_option linter.unusedVariables false
set_option linter.unusedSimpArgs false

theorem in_yes (n : Int) (w : World) (h0 : 1 ≤ n) (h1 : n ≤ 1048576) : Calls Try.prog 56 #[.int .i64 n] w fun e w' => e = .returned (.bool true) ∧ w = w' := by
  go_enter Try.func56, Try.ntmps56
  go_wp2
  go_ret
  exact ⟨rfl, rfl⟩
theorem in_no (n : Int) (w : World) (h : n < 1 ∨ 1048576 < n) : Calls Try.prog 56 #[.int .i64 n] w fun e w' => e = .returned (.bool false) ∧ w = w' := by
  rcases h with h | h
  · go_enter Try.func56, Try.ntmps56
    go_wp2
    go_ret
    exact ⟨rfl, rfl⟩
  · have h0 : 1 ≤ n := by omega
    have hd : decide (n ≤ 1048576) = false := by simp; omega
    go_enter Try.func56, Try.ntmps56
    go_wp2
    go_ret
    exact ⟨rfl, rfl⟩

theorem rcheck_yes (a b c d f : Int) (w : World) (hl : LimOk a b c d f) :
    Calls Try.prog 26 #[lim a b c d f] w fun e w' => e = .returned (.bool true) ∧ Touch [] w w' := by
  obtain ⟨l1, l2, l3, l4, l5, l6, l7, l8, l9, l10⟩ := hl
  go_enter Try.func26, Try.ntmps26
  go_wp2_with (go_at_call 56; refine (in_yes _ _ (by assumption) (by assumption)).mono ?_; rintro e w1 ⟨rfl, rfl⟩)
  go_ret
  exact ⟨rfl, (Touch.refl _ _).alloc _⟩

theorem in_dec (n : Int) : (1 ≤ n ∧ n ≤ 1048576) ∨ (n < 1 ∨ 1048576 < n) := by omega
theorem rcheck_no (a b c d f : Int) (w : World) (hl : ¬ LimOk a b c d f) :
    Calls Try.prog 26 #[lim a b c d f] w fun e w' => e = .returned (.bool false) ∧ Touch [] w w' := by
  unfold LimOk at hl
  have HL := Lib.hid hl
  clear hl
  rcases in_dec a with ⟨a1, a2⟩ | a0
  · rcases in_dec b with ⟨b1, b2⟩ | b0
    · rcases in_dec c with ⟨c1, c2⟩ | c0
      · rcases in_dec d with ⟨d1, d2⟩ | d0
        · rcases in_dec f with ⟨f1, f2⟩ | f0
          · exact absurd ⟨a1, a2, b1, b2, c1, c2, d1, d2, f1, f2⟩ HL.out
          · go_enter Try.func26, Try.ntmps26
            go_wp2_with (go_at_call 56; first | (refine (in_yes _ _ (by assumption) (by assumption)).mono ?_; rintro e w1 ⟨rfl, rfl⟩) | (refine (in_no _ _ (by assumption)).mono ?_; rintro e w1 ⟨rfl, rfl⟩))
            go_ret
            exact ⟨rfl, (Touch.refl _ _).alloc _⟩
        · go_enter Try.func26, Try.ntmps26
          go_wp2_with (go_at_call 56; first | (refine (in_yes _ _ (by assumption) (by assumption)).mono ?_; rintro e w1 ⟨rfl, rfl⟩) | (refine (in_no _ _ (by assumption)).mono ?_; rintro e w1 ⟨rfl, rfl⟩))
          go_ret
          exact ⟨rfl, (Touch.refl _ _).alloc _⟩
      · go_enter Try.func26, Try.ntmps26
        go_wp2_with (go_at_call 56; first | (refine (in_yes _ _ (by assumption) (by assumption)).mono ?_; rintro e w1 ⟨rfl, rfl⟩) | (refine (in_no _ _ (by assumption)).mono ?_; rintro e w1 ⟨rfl, rfl⟩))
        go_ret
        exact ⟨rfl, (Touch.refl _ _).alloc _⟩
    · go_enter Try.func26, Try.ntmps26
      go_wp2_with (go_at_call 56; first | (refine (in_yes _ _ (by assumption) (by assumption)).mono ?_; rintro e w1 ⟨rfl, rfl⟩) | (refine (in_no _ _ (by assumption)).mono ?_; rintro e w1 ⟨rfl, rfl⟩))
      go_ret
      exact ⟨rfl, (Touch.refl _ _).alloc _⟩
  · go_enter Try.func26, Try.ntmps26
    go_wp2_with (go_at_call 56; first | (refine (in_yes _ _ (by assumption) (by assumption)).mono ?_; rintro e w1 ⟨rfl, rfl⟩) | (refine (in_no _ _ (by assumption)).mono ?_; rintro e w1 ⟨rfl, rfl⟩))
    go_ret
    exact ⟨rfl, (Touch.refl _ _).alloc _⟩

theorem rnew_yes (a b c d f : Int) (w : World) (hl : LimOk a b c d f) :
    Calls Try.prog 25 #[lim a b c d f] w fun e w' => ∃ p, e = .returned (.pointer (some ⟨p, 0, none⟩)) ∧ w.heap.size ≤ p ∧ RetAt w' p ⟨0, 0, 0, 0, 0, a, b, c, d, f, 0⟩ ∧ Touch [] w w' := by
  go_enter Try.func25, Try.ntmps25
  go_wp2_with (go_at_call 26; refine (rcheck_yes a b c d f _ hl).mono ?_; rintro e w1 ⟨rfl, ht⟩; have hB := ht.keep (alloc_new _ _) (by simp); have hc := cell_at hB)
  go_ret
  exact ⟨_, rfl, (Touch.refl _ _ |>.alloc _ |>.trans ht).size, alloc_new _ _, ((Touch.refl _ _ |>.alloc _).trans ht).alloc _⟩
theorem rnew_no (a b c d f : Int) (w : World) (hl : ¬ LimOk a b c d f) :
    Calls Try.prog 25 #[lim a b c d f] w fun e w' => e = .returned (.pointer none) ∧ Touch [] w w' := by
  go_enter Try.func25, Try.ntmps25
  go_wp2_with (go_at_call 26; refine (rcheck_no a b c d f _ hl).mono ?_; rintro e w1 ⟨rfl, ht⟩)
  go_ret
  exact ⟨rfl, (((Touch.refl _ _).alloc _)).trans ht⟩

theorem open_at {w : World} {b : Nat} {M : Met} (hA : MetAt w b M) (ok : M.Ok) (r : Int) (M' : Met) (hr : openR M = r) (hs : openS M = M') :
    Calls Try.prog 31 #[.pointer (some ⟨b, 0, none⟩)] w fun e w' => e = .returned (.int .i64 r) ∧ MetAt w' b M' ∧ Touch [b] w w' := by
  subst hr; subst hs; exact open_any hA ok
theorem close_at {w : World} {b : Nat} {M : Met} (hA : MetAt w b M) (ok : M.Ok) (M' : Met) (hs : closeS M = M') :
    Calls Try.prog 33 #[.pointer (some ⟨b, 0, none⟩)] w fun e w' => e = .returned (.tuple #[]) ∧ MetAt w' b M' ∧ Touch [b] w w' := by
  subst hs; exact close_any hA ok
theorem name_at {w : World} {b : Nat} {M : Met} (hA : MetAt w b M) (ok : M.Ok) (n r : Int) (M' : Met) (hr : nameR M n = r) (hs : nameS M n = M') :
    Calls Try.prog 35 #[.pointer (some ⟨b, 0, none⟩), .int .i64 n] w fun e w' => e = .returned (.int .i64 r) ∧ MetAt w' b M' ∧ Touch [b] w w' := by
  subst hr; subst hs; exact name_any hA ok n
theorem text_at {w : World} {b : Nat} {M : Met} (hA : MetAt w b M) (ok : M.Ok) (n r : Int) (M' : Met) (hr : textR M n = r) (hs : textS M n = M') :
    Calls Try.prog 37 #[.pointer (some ⟨b, 0, none⟩), .int .i64 n] w fun e w' => e = .returned (.int .i64 r) ∧ MetAt w' b M' ∧ Touch [b] w w' := by
  subst hr; subst hs; exact text_any hA ok n

theorem used_at {w : World} {b : Nat} {M : Met} (hA : MetAt w b M) (a1 a2 a3 a4 a5 : Int) (h1 : M.uB = a1) (h2 : M.uD = a2) (h3 : M.uN = a3) (h4 : M.uK = a4) (h5 : M.uT = a5) :
    Calls Try.prog 39 #[.pointer (some ⟨b, 0, none⟩)] w fun e w' => e = .returned (.agg #[.int .i64 a1, .int .i64 a2, .int .i64 a3, .int .i64 a4, .int .i64 a5]) ∧ Touch [] w w' := by
  subst h1; subst h2; subst h3; subst h4; subst h5; exact used_any hA
set_option maxHeartbeats 2000000 in
theorem awake15 (w : World) : Calls Try.prog 17 #[] w fun e w' => e = .returned (.bool true) ∧ Touch [] w w' := by
  have ok0 : Met.Ok ⟨0, 0, 0, 0, 0, 2, 1, 1, 1, 1, 0⟩ := by constructor <;> decide
  have ok1 : Met.Ok ⟨0, 1, 0, 0, 0, 2, 1, 1, 1, 1, 1⟩ := by constructor <;> decide
  have ok2 : Met.Ok ⟨0, 1, 0, 0, 0, 2, 1, 1, 1, 1, 0⟩ := by constructor <;> decide
  go_enter Try.func17, Try.ntmps17
  go_wp2_with fail
  refine (new_yes _ _ _ _ _ _ (by decide)).mono ?_; rintro e w1 ⟨p, rfl, hp, hm, ht⟩
  have hB := ht.keep (alloc_new _ _) (by simp)
  have hc := cell_at hB
  go_wp2_with fail
  refine (check_yes _ _ _ _ _ _ (by decide)).mono ?_; rintro e w2 ⟨rfl, ht2⟩
  go_wp2_with fail
  refine (check_no _ _ _ _ _ _ (by decide)).mono ?_; rintro e w3 ⟨rfl, ht3⟩
  go_wp2_with fail
  refine (new_no _ _ _ _ _ _ (by decide)).mono ?_; rintro e w4 ⟨rfl, ht4⟩
  have hp4 := ((ht2.trans ht3).trans ht4).keep hm (by simp)
  have T4 := (((((Touch.refl [] w).alloc _).trans ht).trans ht2).trans ht3).trans ht4
  clear hm hc hB ht ht2 ht3 ht4
  go_wp2_with fail
  refine (open_at hp4 ok0 0 ⟨0, 1, 0, 0, 0, 2, 1, 1, 1, 1, 1⟩ rfl rfl).mono ?_; rintro e w5 ⟨rfl, hm5, ht5⟩
  go_wp2_with fail
  refine (open_at hm5 ok1 11 ⟨0, 1, 0, 0, 0, 2, 1, 1, 1, 1, 1⟩ rfl rfl).mono ?_; rintro e w6 ⟨rfl, hm6, ht6⟩
  go_wp2_with fail
  refine (close_at hm6 ok1 ⟨0, 1, 0, 0, 0, 2, 1, 1, 1, 1, 0⟩ rfl).mono ?_; rintro e w7 ⟨rfl, hm7, ht7⟩
  go_wp2_with fail
  refine (open_at hm7 ok2 0 ⟨0, 1, 0, 0, 0, 2, 1, 1, 1, 1, 1⟩ rfl rfl).mono ?_; rintro e w8 ⟨rfl, hm8, ht8⟩
  go_wp2_with fail
  refine (used_at hm8 0 1 0 0 0 rfl rfl rfl rfl rfl).mono ?_; rintro e w9 ⟨rfl, ht9⟩
  go_simp
  go_wp2_with fail
  refine (name_at (ht9.keep hm8 (by simp)) ok1 2 13 ⟨0, 1, 0, 0, 0, 2, 1, 1, 1, 1, 1⟩ rfl rfl).mono ?_; rintro e w10 ⟨rfl, hm10, ht10⟩
  go_wp2_with fail
  refine (text_at hm10 ok1 1 0 ⟨0, 1, 0, 0, 1, 2, 1, 1, 1, 1, 1⟩ rfl rfl).mono ?_; rintro e w11 ⟨rfl, hm11, ht11⟩
  go_wp2_with fail
  go_ret
  refine ⟨rfl, ?_⟩
  have T := (((((ht5.trans ht6).trans ht7).trans ht8).trans (ht9.mono (by simp))).trans ht10).trans ht11
  exact T4.step T (by simp at hp; simp; omega)
end Go.Proofs.Ytgjddlianhejdaa
