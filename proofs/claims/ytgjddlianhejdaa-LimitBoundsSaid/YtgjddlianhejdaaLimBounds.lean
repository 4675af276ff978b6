/- LimitBounds' walk. -/
import Derived.Test.YtgjddlianhejdaaLimAts
namespace Go.Proofs.Ytgjddlianhejdaa
open Go.RowKit
set_option maxRecDepth 100000
set_option linter.unusedVariables false
set_option linter.unusedSimpArgs false

def bSt (k j : Int) : Met := ⟨j, j, j, j, j, k, k, k, k, k, j⟩
theorem bSt_ok (k j : Int) (h0 : 1 ≤ k) (h1 : k ≤ 60) (h2 : 0 ≤ j) (h3 : j ≤ k) : (bSt k j).Ok := by
  constructor <;> simp only [bSt, LimOk] <;> omega

set_option maxHeartbeats 4000000 in
theorem bounds_walk (a0 : Int) (a1 : Int) (w : World) (w0 : (Lit.int .i64 a0).wf = true) (w1 : (Lit.int .u8 a1).wf = true) :
    Calls Try.prog 8 #[.int .i64 a0, .int .u8 a1] w fun e w' => e = .returned (.bool true) ∧ Touch [] w w' := by
  have hb := i64_bounds w0
  have hu := u8_bounds w1
  obtain ⟨q, hq⟩ : ∃ q, a0 % 60 = q := ⟨_, rfl⟩
  have q0 : 0 ≤ q := by omega
  have q1 : q < 60 := by omega
  obtain ⟨m0, m1⟩ := hu
  obtain ⟨n0, n1⟩ := hb
  have HQ := Lib.hid hq
  clear hq w0 w1
  go_enter Try.func8, Try.ntmps8
  go_wp2_with fail
  refine (place_at _ _ q _ HQ.out (by omega) (by omega) (by omega) (by omega)).mono ?_
  rintro e w1 ⟨rfl, rfl⟩
  try go_simp
  go_wp2_with fail
  refine (new_yes _ _ _ _ _ _ (by unfold LimOk; omega)).mono ?_
  rintro e w2 ⟨p, rfl, hp, hm, ht⟩
  try go_simp
  go_wp2_with fail
  have hm0 : MetAt w2 p (bSt (1 + q) (min 0 (1 + q))) := by rw [show min 0 (1 + q) = 0 by omega]; exact hm
  clear hm
  go_loopw [7] (fun v wr => ∃ i : Int, 0 ≤ i ∧ i ≤ 1 + q + a1 % 5 ∧ v = .int .i64 i ∧ MetAt wr p (bSt (1 + q) (min i (1 + q))) ∧ Touch [p] w2 wr) (fun v _ => (1 + q + 5 - intOf v).toNat)
  case atStart => exact ⟨0, by omega, by omega, rfl, hm0, Touch.refl _ _⟩
  case round =>
    clear hm0
    obtain ⟨i, i0, i1, rfl, hA, hT⟩ := hrel
    have r0 : 0 ≤ a1 % 5 := by omega
    have r1 : a1 % 5 < 5 := by omega
    by_cases c1 : i < 1 + q
    · rw [show min i (1 + q) = i by omega] at hA
      have ok := bSt_ok (1 + q) i (by omega) (by omega) (by omega) (by omega)
      have c0 : i < 1 + q + a1 % 5 := by omega
      go_wp2_with fail
      refine (byte_lt hA ok (by simp only [bSt]; omega)).mono ?_
      rintro e v1 ⟨rfl, hA1, ht1, ok1⟩
      try go_simp
      go_wp2_with fail
      refine (node_lt hA1 ok1 (by simp only [bSt]; omega)).mono ?_
      rintro e v2 ⟨rfl, hA2, ht2, ok2⟩
      try go_simp
      go_wp2_with fail
      refine (open_lt hA2 ok2 (by simp only [bSt]; omega) (by simp only [bSt]; omega)).mono ?_
      rintro e v3 ⟨rfl, hA3, ht3, ok3⟩
      try go_simp
      go_wp2_with fail
      refine (name_lt hA3 ok3 (i + 1) (by simp only [bSt]; omega) (by simp only [bSt]; omega)).mono ?_
      rintro e v4 ⟨rfl, hA4, ht4, ok4⟩
      try go_simp
      go_wp2_with fail
      refine (text_lt hA4 ok4 (i + 1) (by simp only [bSt]; omega) (by simp only [bSt]; omega)).mono ?_
      rintro e v5 ⟨rfl, hA5, ht5, ok5⟩
      try go_simp
      go_wp2_with fail
      go_roundw
      case rel => exact ⟨i + 1, by omega, by omega, rfl, by rw [show min (i + 1) (1 + q) = i + 1 by omega]; exact hA5, ((((hT.trans ht1).trans ht2).trans ht3).trans ht4).trans ht5⟩
      case measure => simp [intOf]; omega
    · rw [show min i (1 + q) = 1 + q by omega] at hA
      have ok := bSt_ok (1 + q) (1 + q) (by omega) (by omega) (by omega) (by omega)
      by_cases c0 : i < 1 + q + a1 % 5
      · go_wp2_with fail
        refine (byte_ge hA ok (by simp only [bSt]; omega)).mono ?_
        rintro e v1 ⟨rfl, hA1, ht1⟩
        try go_simp
        go_wp2_with fail
        refine (node_ge hA1 ok (by simp only [bSt]; omega)).mono ?_
        rintro e v2 ⟨rfl, hA2, ht2⟩
        try go_simp
        go_wp2_with fail
        refine (open_ge hA2 ok (by simp only [bSt]; omega)).mono ?_
        rintro e v3 ⟨rfl, hA3, ht3⟩
        try go_simp
        go_wp2_with fail
        refine (name_ge hA3 ok (i + 1) (by simp only [bSt]; omega)).mono ?_
        rintro e v4 ⟨rfl, hA4, ht4⟩
        try go_simp
        go_wp2_with fail
        refine (text_ge hA4 ok (i + 1) (by simp only [bSt]; omega)).mono ?_
        rintro e v5 ⟨rfl, hA5, ht5⟩
        try go_simp
        go_wp2_with fail
        go_roundw
        case rel => exact ⟨i + 1, by omega, by omega, rfl, by rw [show min (i + 1) (1 + q) = 1 + q by omega]; exact hA5, ((((hT.trans ht1).trans ht2).trans ht3).trans ht4).trans ht5⟩
        case measure => simp [intOf]; omega
      · go_wp2_with fail
        refine (used_at hA (1 + q) (1 + q) (1 + q) (1 + q) (1 + q) rfl rfl rfl rfl rfl).mono ?_
        rintro e v0 ⟨rfl, ht0⟩
        try go_simp
        go_wp2_with fail
        refine (byte_ge (ht0.keep hA (by simp)) ok (by simp only [bSt]; omega)).mono ?_
        rintro e v1 ⟨rfl, hA1, ht1⟩
        try go_simp
        go_wp2_with fail
        refine (node_ge hA1 ok (by simp only [bSt]; omega)).mono ?_
        rintro e v2 ⟨rfl, hA2, ht2⟩
        try go_simp
        go_wp2_with fail
        refine (open_ge hA2 ok (by simp only [bSt]; omega)).mono ?_
        rintro e v3 ⟨rfl, hA3, ht3⟩
        try go_simp
        go_wp2_with fail
        refine (name_ge hA3 ok (1 + q + 1) (by simp only [bSt]; omega)).mono ?_
        rintro e v4 ⟨rfl, hA4, ht4⟩
        try go_simp
        go_wp2_with fail
        refine (text_ge hA4 ok (1 + q + 1) (by simp only [bSt]; omega)).mono ?_
        rintro e v5 ⟨rfl, hA5, ht5⟩
        try go_simp
        go_wp2_with fail
        refine (awake15 _).mono ?_
        rintro e v6 ⟨rfl, ht6⟩
        try go_simp
        go_wp2_with fail
        go_ret
        refine ⟨rfl, ?_⟩
        have T := ((((((hT.trans (ht0.mono (by simp))).trans ht1).trans ht2).trans ht3).trans ht4).trans ht5).trans (ht6.mono (by simp))
        exact ht.step T (by simp; omega)
end Go.Proofs.Ytgjddlianhejdaa
