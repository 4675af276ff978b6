/- The law NumberHopeless. -/
import Derived.Test.YtcpfooceadgccaaDoorNumLR
import Derived.Deep.RegionHeld3
import Derived.Deep.DeepCutAuto
import Derived.StillTailTactics
namespace Go.Proofs.YtcpfooceadgccaaDoor
open Go.RowKit
set_option maxRecDepth 100000
set_option maxHeartbeats 8000000
set_option linter.unusedVariables false
set_option linter.unusedSimpArgs false

theorem int_snd (x : Dig.Dec) : (Dig.int x).2 = 0 ∨ (Dig.int x).2 = 7 ∨ (Dig.int x).2 = 8 := by
  unfold Dig.int Dig.intN
  repeat' split
  all_goals simp

theorem numberhopeless_walk (a0 : ByteArray) (a1 : ByteArray) (w : World) (w0 : a0.size ≤ 9223372036854775807) (w1 : a1.size ≤ 9223372036854775807) :
    Calls Tryd.prog 10 #[.string a0, .string a1] w fun e w' => e = .returned (.bool true) ∧ Touch [] w w' := by
  rw [str_of a0, str_of a1]
  have ls : a0.data.toList.length ≤ 9223372036854775807 := by rw [← Lib.size_eq]; exact w0
  have lm : a1.data.toList.length ≤ 9223372036854775807 := by rw [← Lib.size_eq]; exact w1
  clear w0 w1
  generalize a0.data.toList = s at *
  generalize a1.data.toList = more at *
  have zs := str_size s
  have zm := str_size more
  go_enter Tryd.func10, Tryd.ntmps10
  go_wp2_with fail
  refine (numnew_any _).mono ?_
  rintro e w1 ⟨⟨p, rfl, hp, hA⟩, ht1⟩
  try go_simp
  by_cases hn : 60 < s.length
  · go_wp2_with fail
    refine (awake11 _).mono ?_
    rintro e w2 ⟨rfl, ht⟩
    try go_simp
    go_wp2
    go_ret
    exact ⟨rfl, ht1.trans ht⟩
  by_cases hm : 20 < more.length
  · go_wp2_with fail
    refine (awake11 _).mono ?_
    rintro e w2 ⟨rfl, ht⟩
    try go_simp
    go_wp2
    go_ret
    exact ⟨rfl, ht1.trans ht⟩
  rcases Num.pushAll_go s Num.St.start Num.T.start Num.start_V Num.start_tells (by rw [Num.start_text]; simp; omega) with ⟨m, t, g1, _⟩ | ⟨i, k, m, t, c, r, g1, g2, g3, g4, g5, g6, g7⟩
  · go_wp2_with fail
    refine (pushes_any p [] _ none _ s _ hA Num.start_ok (by simp; omega) _ _ m g1).mono ?_
    rintro e w2 ⟨rfl, _, ht2⟩
    try go_simp
    have hT2 : Touch [] w w2 := ht1.step ht2 (fun x hx => .inr (by simp at hx; omega))
    go_wp2_with fail
    refine (awake11 _).mono ?_
    rintro e w3 ⟨rfl, ht⟩
    try go_simp
    go_wp2
    go_ret
    exact ⟨rfl, hT2.trans ht⟩
  · rw [Num.start_text, List.nil_append] at g4
    have hgd := Num.hopeless m t g2 g3 c more (by rw [g4]; simp; omega) k g7
    have hk := Num.push_err_k _ _ _ g7
    rw [g4] at hgd
    have htk : s.take (i + 1) = s.take i ++ [c] := by
      conv => lhs; rw [g5]
      have : (s.take i).length = i := by rw [List.length_take]; omega
      rw [List.take_append, this, List.take_of_length_le (by omega), show i + 1 - i = 1 by omega]
      rfl
    have s1 : ∀ w, (Instr.slice 9 (.string (str s)) none (some (.int .i64 ((i : Int) + 1))) none).run Tryd.prog w = .ok (.string (str (s.take (i + 1)))) w := fun w => by
      have := run_to Tryd.underlying9 s .i64 (i + 1) (by omega) w
      rwa [Int.natCast_add] at this
    have s2 : ∀ w, (Instr.slice 9 (.string (str s)) none (some (.int .i64 (i : Int))) none).run Tryd.prog w = .ok (.string (str (s.take i))) w := fun w => run_to Tryd.underlying9 s .i64 i (by omega) w
    have lA : (s.take (i + 1)).length = i + 1 := by rw [List.length_take]; omega
    obtain ⟨A, hAd⟩ : ∃ A, s.take (i + 1) = A := ⟨_, rfl⟩
    rw [hAd] at s1 lA htk
    have c1 : ∀ w, (Op.stringOp .add (str A) (str more)).run Tryd.prog w = .ok (.string (str (A ++ more))) w := fun w => run_cat A more (by omega) w
    have hlS1 : (A ++ more).length ≤ 90 := by rw [List.length_append]; omega
    obtain ⟨S1, hS1⟩ : ∃ S, A ++ more = S := ⟨_, rfl⟩
    rw [hS1] at c1 hlS1
    rw [htk, List.append_assoc, List.singleton_append] at hS1
    rw [hS1] at hgd
    have b1 : ((k : Int) == 0) = false := by simp; omega
    have hRd := fun w => rread_any S1 w (by omega)
    have hwb := Num.read_bounds S1 (by omega)
    have hdd : ((Dig.read S1).getD Dig.zero).d.all Dig.dig = true := by
      cases h : Dig.read S1 with
      | none => rfl
      | some d => exact Num.read_digits S1 d h (by omega)
    have hgd2 : (Dig.read S1).isSome = true → (Dig.int ((Dig.read S1).getD Dig.zero)).2 ≠ 0 := by
      unfold Num.Good at hgd
      cases h : Dig.read S1 with
      | none => simp
      | some d => rw [h] at hgd; simpa using hgd
    have h78 := int_snd ((Dig.read S1).getD Dig.zero)
    generalize (Dig.read S1).getD Dig.zero = y at *
    generalize (Dig.read S1).isSome = ok at *
    obtain ⟨hw1, hw2, hw3⟩ := hwb
    have hIn := fun w => rint_any y w hw1 hw2 hw3 hdd
    generalize Dig.int y = I at *
    obtain ⟨y1, y2⟩ := I
    obtain ⟨ys, yd, ye⟩ := y
    simp only [dec] at hIn hRd
    have b2 : ok = false ∨ (ok = true ∧ y2 = 7) ∨ (ok = true ∧ y2 = 8) := by
      cases ok with
      | false => exact .inl rfl
      | true =>
        have := hgd2 rfl
        simp only at h78 this
        rcases h78 with h | h | h
        · exact absurd h this
        · exact .inr (.inl ⟨rfl, h⟩)
        · exact .inr (.inr ⟨rfl, h⟩)
    clear hw1 hw2 hw3 hdd hgd hgd2 g2 g3 g4 g5 g7 hk htk hAd hS1
    go_wp2_with fail
    refine (pushes_any p [] _ none _ s _ hA Num.start_ok (by simp; omega) i k m g1).mono ?_
    rintro e w2 ⟨rfl, ⟨g', tv', hF, hnew, hok⟩, ht2⟩
    try go_simp
    have hT2 : Touch [] w w2 := ht1.step ht2 (fun x hx => .inr (by simp at hx; omega))
    rw [List.nil_append] at hF
    clear g1 ht2 hnew
    go_wp2_with fail
    refine (hRd _).mono ?_
    rintro e w3 ⟨rfl, ht3⟩
    try go_simp
    go_wp2_with fail
    refine (hIn _).mono ?_
    rintro e w4 ⟨rfl, ht4⟩
    try go_simp
    have hT4 := ((hT2.trans ht3).alloc (.cells #[.bool ys, .string (str yd), .int .i64 ye] 23)).trans ht4
    have hF4 := ((hF.keep ht3 (by simp) (by simp)).keep ((Touch.refl [] _).alloc (.cells #[.bool ys, .string (str yd), .int .i64 ye] 23)) (by simp) (by simp)).keep ht4 (by simp) (by simp)
    clear hT2 hF ht3 ht4 hRd hIn c1 s1
    rcases b2 with rfl | ⟨rfl, rfl⟩ | ⟨rfl, rfl⟩
    all_goals
      go_upto_region 11 with (fail)
      go_still_tail 15, (by kernel_rfl)
      still_call (numtext_any p _ m g' tv' _ (hF4.keep (Touch.drew (Touch.refl [] _)) (by simp) (by simp)))
      repeat still_step
      refine wpStill_nil ?_
      go_wp2_with fail
      refine (awake11 _).mono ?_
      rintro e w8 ⟨rfl, ht8⟩
      try go_simp
      go_wp2
      go_ret
      exact ⟨rfl, (Touch.drew hT4).trans ht8⟩
end Go.Proofs.YtcpfooceadgccaaDoor
