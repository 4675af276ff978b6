/- The law NumberReads; what is pushed whole. -/
import Derived.Test.YtcpfooceadgccaaDoorNumW
import Derived.Test.YtcpfooceadgccaaDoorNumD
import Derived.Test.YtcpfooceadgccaaDoorNumG
namespace Go.Proofs.YtcpfooceadgccaaDoor
open Go.RowKit
set_option maxRecDepth 100000
set_option maxHeartbeats 8000000
set_option linter.unusedVariables false
set_option linter.unusedSimpArgs false

namespace Num
open Go.Proofs.YtcpfooceadgccaaDoor.Dig (Bs)
/-- bytes one by one: all of them, or up to the first that is refused -/
theorem pushAll_go : ∀ (s : Bs) (n : St) (t : T), t.V → Tells n t → t.text.length + s.length ≤ 80000 →
    (∃ m t', pushAll n s = (s.length, 0, m) ∧ t'.V ∧ Tells m t' ∧ t'.text = t.text ++ s) ∨
    (∃ i k m t' c r, pushAll n s = (i, k, m) ∧ t'.V ∧ Tells m t' ∧ t'.text = t.text ++ s.take i ∧ s = s.take i ++ c :: r ∧ i < s.length ∧ push m c.toNat = .error k)
  | [], n, t, v, h, _ => .inl ⟨n, t, rfl, v, h, by simp⟩
  | c :: r, n, t, v, h, hl => by
    rw [List.length_cons] at hl
    rcases sim n t v h c (by omega) with ⟨k, h1, h2⟩ | ⟨n', t', h1, h2, hv, he, ht⟩
    · right
      refine ⟨0, k, n, t, c, r, ?_, v, h, by simp, by simp, by simp, h1⟩
      simp only [pushAll, h1]
    · have hlen : t'.text.length + r.length ≤ 80000 := by rw [he, List.length_append, List.length_singleton]; omega
      rcases pushAll_go r n' t' hv ht hlen with ⟨m, t2, g1, g2, g3, g4⟩ | ⟨i, k, m, t2, c2, r2, g1, g2, g3, g4, g5, g6, g7⟩
      · refine .inl ⟨m, t2, ?_, g2, g3, by rw [g4, he]; simp⟩
        simp only [pushAll, h1, g1, List.length_cons]
      · refine .inr ⟨i + 1, k, m, t2, c2, r2, ?_, g2, g3, by rw [g4, he]; simp, ?_, by simp; omega, g7⟩
        · simp only [pushAll, h1, g1]
        · rw [List.take_succ_cons, List.cons_append, ← g5]

theorem push_err_k (n : St) (x k : Nat) (h : push n x = .error k) : k = 2 ∨ k = 7 ∨ k = 8 := by
  unfold push at h
  have hw := fun a => why_or a
  dsimp only at h
  repeat' split at h
  all_goals first
    | (injection h with h; rw [← h]; exact .inr (hw _))
    | (injection h with h; rw [← h]; exact .inl rfl)
    | cases h

/-- of a text pushed: taken whole and one at its end just if it is good -/
theorem pushAll_good (s : Bs) (hl : s.length ≤ 70000) : ∃ (i k : Nat) (m : St) (t : T), pushAll St.start s = (i, k, m) ∧ t.V ∧ Tells m t ∧ t.text = s.take i ∧ (k ≠ 0 → ¬ Good s) ∧ (k = 0 → i = s.length ∧ t.text = s) := by
  rcases pushAll_go s St.start T.start start_V start_tells (by rw [start_text]; simp; omega) with ⟨m, t, g1, g2, g3, g4⟩ | ⟨i, k, m, t, c, r, g1, g2, g3, g4, g5, g6, g7⟩
  · rw [start_text, List.nil_append] at g4
    exact ⟨_, _, _, t, g1, g2, g3, by rw [g4, List.take_length], fun h => absurd rfl h, fun _ => ⟨rfl, g4⟩⟩
  · rw [start_text, List.nil_append] at g4
    refine ⟨i, k, m, t, g1, g2, g3, g4, fun _ => ?_, fun hk => ?_⟩
    · have := hopeless m t g2 g3 c r (by rw [g4, ← g5]; omega) k g7
      rw [g4, ← g5] at this
      exact this
    · have := push_err_k _ _ _ g7
      omega
/-- what it is at its end, where it was taken whole -/
theorem rend_good (s : Bs) : (rend s).2 = 0 ↔ Good s := by
  unfold rend Good
  cases hr : Dig.read s with
  | none => simp
  | some d => simp
end Num

theorem numberreads_walk (a0 : ByteArray) (w : World) (w0 : a0.size ≤ 9223372036854775807) :
    Calls Tryd.prog 9 #[.string a0] w fun e w' => e = .returned (.bool true) ∧ Touch [] w w' := by
  rw [str_of a0]
  have ls : a0.data.toList.length ≤ 9223372036854775807 := by rw [← Lib.size_eq]; exact w0
  clear w0
  generalize a0.data.toList = s at *
  have zs := str_size s
  let kp_ : Exit → Act → World → Prop := bodyPost Tryd.prog Tryd.f9 (fun _ _ => True)
  refine calls_post Tryd.func9 rfl ?_
  intro Q_ hQ_
  simp only [Tryd.ntmps9, List.size_toArray, List.length_cons, List.length_nil, Nat.reduceAdd, Nat.reduceSub, Array.replicate_succ, Array.replicate_zero, List.push_toArray, List.append_toArray, List.nil_append, List.cons_append]
  go_wp2_with fail
  refine (numnew_any _).mono ?_
  rintro e w1 ⟨⟨p, rfl, hp, hA⟩, ht1⟩
  try go_simp
  by_cases hn : 100 < s.length
  · go_wp2_with fail
    refine (awake11 _).mono ?_
    rintro e w2 ⟨rfl, ht⟩
    try go_simp
    go_wp2
    (try simp only [Exit.inBlock, Exit.then])
    refine hQ_.ret (results_tmp rfl _ _ _) rfl ?_
    exact ⟨rfl, ht1.trans ht⟩
  obtain ⟨i, k, m, t, g1, g2, g3, g4, g5, g6⟩ := Num.pushAll_good s (by omega)
  have hE := Num.pend_eq m t g2 g3
  rw [g4] at hE
  have hRd := fun w => rread_any s w (by omega)
  have hwb := Num.read_bounds s (by omega)
  have hrg := Num.rend_good s
  have hre : Num.rend s = match Dig.read s with | none => (0, 3) | some d => Dig.int d := rfl
  have hgd : Num.Good s ↔ (Dig.read s).isSome = true ∧ (Dig.int ((Dig.read s).getD Dig.zero)).2 = 0 := by
    unfold Num.Good
    cases Dig.read s with
    | none => simp
    | some d => simp
  have hdd : ((Dig.read s).getD Dig.zero).d.all Dig.dig = true := by
    cases h : Dig.read s with
    | none => rfl
    | some d => exact Num.read_digits s d h (by omega)
  have hre2 : (Dig.read s).isSome = true → Num.rend s = Dig.int ((Dig.read s).getD Dig.zero) := by
    rw [hre]
    cases Dig.read s with
    | none => simp
    | some d => simp
  have hre3 : (Dig.read s).isSome = false → (Num.rend s).2 = 3 := by
    rw [hre]
    cases Dig.read s with
    | none => simp
    | some d => simp
  clear hre
  generalize hRs : Num.rend s = Rs at *
  generalize (Dig.read s).getD Dig.zero = y at *
  generalize (Dig.read s).isSome = ok at *
  obtain ⟨hw1, hw2, hw3⟩ := hwb
  have hIn := fun w => rint_any y w hw1 hw2 hw3 hdd
  generalize Dig.int y = I at *
  obtain ⟨y1, y2⟩ := I
  obtain ⟨x1, x2⟩ := Rs
  obtain ⟨ys, yd, ye⟩ := y
  simp only [dec] at hIn hRd
  simp only at hrg hgd hre2 hre3
  clear hw1 hw2 hw3 hdd g2 g3
  by_cases hk : k = 0
  · obtain ⟨h1, h2⟩ := g6 hk
    subst h1 hk
    rw [List.take_length, hRs] at hE
    clear g4 g5 g6 h2 hRs t
    cases ok with
    | false =>
      have := hre3 rfl
      subst this
      clear hre2 hre3 hrg hgd
      go_wp2_with fail
      refine (pushes_any p [] _ none _ s _ hA Num.start_ok (by simp; omega) _ _ m g1).mono ?_
      rintro e w2 ⟨rfl, ⟨g', tv', hF, hnew, hok⟩, ht2⟩
      try go_simp
      have hT2 : Touch [] w w2 := ht1.step ht2 (fun x hx => .inr (by simp at hx; omega))
      have hEn := numend_any p _ m g' tv' w2 hF (by simp; omega) hok.at_
      rw [List.nil_append] at hEn
      (try rw [List.take_length] at hEn)
      rw [hE] at hEn
      clear hE g1 ht2 hnew
      go_wp2_with fail
      refine hEn.mono ?_
      rintro e w3 ⟨rfl, ht3⟩
      try go_simp
      go_wp2_with fail
      refine (hRd _).mono ?_
      rintro e w4 ⟨rfl, ht4⟩
      try go_simp
      go_wp2_with fail
      refine (hIn _).mono ?_
      rintro e w5 ⟨rfl, ht5⟩
      try go_simp
      go_wp2_with fail
      refine (awake11 _).mono ?_
      rintro e w6 ⟨rfl, ht6⟩
      try go_simp
      go_wp2
      (try simp only [Exit.inBlock, Exit.then])
      refine hQ_.ret (results_tmp rfl _ _ _) rfl ?_
      exact ⟨rfl, ((((hT2.trans ht3).trans ht4).alloc _).trans ht5).trans ht6⟩
    | true =>
      have := hre2 rfl
      injection this with e1 e2
      subst e1 e2
      clear hre2 hre3 hrg hgd
      by_cases hz : x2 = 0
      · subst hz
        have b5 : (x1 == x1) = true := by simp
        go_wp2_with fail
        refine (pushes_any p [] _ none _ s _ hA Num.start_ok (by simp; omega) _ _ m g1).mono ?_
        rintro e w2 ⟨rfl, ⟨g', tv', hF, hnew, hok⟩, ht2⟩
        try go_simp
        have hT2 : Touch [] w w2 := ht1.step ht2 (fun x hx => .inr (by simp at hx; omega))
        have hEn := numend_any p _ m g' tv' w2 hF (by simp; omega) hok.at_
        rw [List.nil_append] at hEn
        (try rw [List.take_length] at hEn)
        rw [hE] at hEn
        clear hE g1 ht2 hnew
        go_wp2_with fail
        refine hEn.mono ?_
        rintro e w3 ⟨rfl, ht3⟩
        try go_simp
        go_wp2_with fail
        refine (hRd _).mono ?_
        rintro e w4 ⟨rfl, ht4⟩
        try go_simp
        go_wp2_with fail
        refine (hIn _).mono ?_
        rintro e w5 ⟨rfl, ht5⟩
        try go_simp
        go_wp2_with fail
        refine (awake11 _).mono ?_
        rintro e w6 ⟨rfl, ht6⟩
        try go_simp
        go_wp2
        (try simp only [Exit.inBlock, Exit.then])
        refine hQ_.ret (results_tmp rfl _ _ _) rfl ?_
        exact ⟨rfl, ((((hT2.trans ht3).trans ht4).alloc _).trans ht5).trans ht6⟩
      · have b4 : (x2 == 0) = false := by simpa using hz
        clear hz
        go_wp2_with fail
        refine (pushes_any p [] _ none _ s _ hA Num.start_ok (by simp; omega) _ _ m g1).mono ?_
        rintro e w2 ⟨rfl, ⟨g', tv', hF, hnew, hok⟩, ht2⟩
        try go_simp
        have hT2 : Touch [] w w2 := ht1.step ht2 (fun x hx => .inr (by simp at hx; omega))
        have hEn := numend_any p _ m g' tv' w2 hF (by simp; omega) hok.at_
        rw [List.nil_append] at hEn
        (try rw [List.take_length] at hEn)
        rw [hE] at hEn
        clear hE g1 ht2 hnew
        go_wp2_with fail
        refine hEn.mono ?_
        rintro e w3 ⟨rfl, ht3⟩
        try go_simp
        go_wp2_with fail
        refine (hRd _).mono ?_
        rintro e w4 ⟨rfl, ht4⟩
        try go_simp
        go_wp2_with fail
        refine (hIn _).mono ?_
        rintro e w5 ⟨rfl, ht5⟩
        try go_simp
        go_wp2_with fail
        refine (awake11 _).mono ?_
        rintro e w6 ⟨rfl, ht6⟩
        try go_simp
        go_wp2
        (try simp only [Exit.inBlock, Exit.then])
        refine hQ_.ret (results_tmp rfl _ _ _) rfl ?_
        exact ⟨rfl, ((((hT2.trans ht3).trans ht4).alloc _).trans ht5).trans ht6⟩
  · have hng := g5 hk
    rw [hgd] at hng
    have b1 : ((k : Int) == 0) = false := by simp; omega
    clear g4 g5 g6 hgd hrg hre2 hre3 hRs t hk
    generalize Num.rend (s.take i) = R2 at hE
    obtain ⟨z1, z2⟩ := R2
    cases ok with
    | false =>
      clear hng
      go_wp2_with fail
      refine (pushes_any p [] _ none _ s _ hA Num.start_ok (by simp; omega) _ _ m g1).mono ?_
      rintro e w2 ⟨rfl, ⟨g', tv', hF, hnew, hok⟩, ht2⟩
      try go_simp
      have hT2 : Touch [] w w2 := ht1.step ht2 (fun x hx => .inr (by simp at hx; omega))
      have hEn := numend_any p _ m g' tv' w2 hF (by simp; omega) hok.at_
      rw [List.nil_append] at hEn
      (try rw [List.take_length] at hEn)
      rw [hE] at hEn
      clear hE g1 ht2 hnew
      go_wp2_with fail
      refine hEn.mono ?_
      rintro e w3 ⟨rfl, ht3⟩
      try go_simp
      go_wp2_with fail
      refine (hRd _).mono ?_
      rintro e w4 ⟨rfl, ht4⟩
      try go_simp
      go_wp2_with fail
      refine (hIn _).mono ?_
      rintro e w5 ⟨rfl, ht5⟩
      try go_simp
      go_wp2_with fail
      refine (awake11 _).mono ?_
      rintro e w6 ⟨rfl, ht6⟩
      try go_simp
      go_wp2
      (try simp only [Exit.inBlock, Exit.then])
      refine hQ_.ret (results_tmp rfl _ _ _) rfl ?_
      exact ⟨rfl, ((((hT2.trans ht3).trans ht4).alloc _).trans ht5).trans ht6⟩
    | true =>
      have b4 : (y2 == 0) = false := by simp at hng; simpa using hng
      clear hng
      go_wp2_with fail
      refine (pushes_any p [] _ none _ s _ hA Num.start_ok (by simp; omega) _ _ m g1).mono ?_
      rintro e w2 ⟨rfl, ⟨g', tv', hF, hnew, hok⟩, ht2⟩
      try go_simp
      have hT2 : Touch [] w w2 := ht1.step ht2 (fun x hx => .inr (by simp at hx; omega))
      have hEn := numend_any p _ m g' tv' w2 hF (by simp; omega) hok.at_
      rw [List.nil_append] at hEn
      (try rw [List.take_length] at hEn)
      rw [hE] at hEn
      clear hE g1 ht2 hnew
      go_wp2_with fail
      refine hEn.mono ?_
      rintro e w3 ⟨rfl, ht3⟩
      try go_simp
      go_wp2_with fail
      refine (hRd _).mono ?_
      rintro e w4 ⟨rfl, ht4⟩
      try go_simp
      go_wp2_with fail
      refine (hIn _).mono ?_
      rintro e w5 ⟨rfl, ht5⟩
      try go_simp
      go_wp2_with fail
      refine (awake11 _).mono ?_
      rintro e w6 ⟨rfl, ht6⟩
      try go_simp
      go_wp2
      (try simp only [Exit.inBlock, Exit.then])
      refine hQ_.ret (results_tmp rfl _ _ _) rfl ?_
      exact ⟨rfl, ((((hT2.trans ht3).trans ht4).alloc _).trans ht5).trans ht6⟩
end Go.Proofs.YtcpfooceadgccaaDoor
