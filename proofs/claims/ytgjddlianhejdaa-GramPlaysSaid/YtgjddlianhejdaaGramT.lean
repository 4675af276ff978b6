/- The grammar's machine: Take. -/
import Derived.Test.YtgjddlianhejdaaGram
namespace Go.Proofs.Ytgjddlianhejdaa
open Go.RowKit
set_option maxRecDepth 100000
set_option linter.unusedVariables false
set_option linter.unusedSimpArgs false

theorem gtake_no {w : World} {b : Nat} {g : Option Nat} {G : Gr} (h0 : GramAt w b g G) (k : Int) (hm : G.may k = false) :
    Calls Try.prog 45 #[.pointer (some ⟨b, 0, none⟩), .int .i64 k] w fun e w' => e = .returned (.bool false) ∧ Touch [] w w' := by
  go_enter Try.func45, Try.ntmps45
  go_wp2_with fail
  refine (gmay_any h0 k).mono ?_
  rintro e w1 ⟨rfl, ht⟩
  try go_simp
  go_wp2_with fail
  go_ret
  exact ⟨rfl, ht⟩


theorem gtake_push6 {w : World} {b : Nat} {g : Option Nat} {G : Gr} (h0 : GramAt w b g G) (hlen : G.op.length ≤ 1000000) (hm : G.may 6 = true) :
    Calls Try.prog 45 #[.pointer (some ⟨b, 0, none⟩), .int .i64 6] w fun e w' => ∃ g', e = .returned (.bool true) ∧ GramAt w' b g' ⟨G.op ++ [6], 1⟩ ∧ Touch (b :: g.toList) w w' ∧ NewOr w g g' := by
  obtain ⟨sv, hb, hs, hg⟩ := id h0
  have hbl := block_lt hb
  have hgb : b ∉ g.toList := by intro hx; apply hg; simpa using hx
  go_enter Try.func45, Try.ntmps45
  go_wp2_with fail
  refine (gmay_any h0 6).mono ?_
  rintro e w1 ⟨rfl, ht⟩
  try go_simp
  have hb1 := ht.keep hb (by simp)
  have hs1 := hs.keep ht (by simp)
  have hc1 := cell_at hb1
  go_wp2_with (at_builtin; refine wpList_append_sl sliceT_int rfl (.tmp 28) (.tmp 30) rfl rfl (hs1.keep ((Touch.refl [] _).alloc _) (by simp)) rfl (srcAt_one rfl) (by omega) ?_; intro ad' c' w2 g' hs2 ht2 hn2; have hb2 := ht2.keep (alloc_old hb1 _) hgb; have hc2 := cell_at hb2; have hf2 := free_at hb2)
  go_ret
  have T2 : Touch (b :: g.toList) w w2 := ((ht.mono (by simp)).alloc _).trans (ht2.mono (by intro x hx; exact .inl (List.mem_cons_of_mem _ hx)))
  have T3 : Touch (b :: g.toList) w ((w2.setCell ⟨b, 0, none⟩ (.slice ad' (G.op.length + 1) c')).setCell ⟨b, 1, none⟩ (.int .i64 1)) := (T2.setCell (.inl (by simp)) _).setCell (.inl (by simp)) _
  have T23 : Touch [b] w2 ((w2.setCell ⟨b, 0, none⟩ (.slice ad' (G.op.length + 1) c')).setCell ⟨b, 1, none⟩ (.int .i64 1)) := ((Touch.refl _ _).setCell (.inl (by simp)) _).setCell (.inl (by simp)) _
  have hg' : g' ≠ some b := by
    rintro rfl
    rcases hn2 with h | ⟨k, h, hk⟩
    · exact hg h.symm
    · injection h with h; subst h
      have := ht.size
      simp at hk
      omega
  refine ⟨g', rfl, ⟨_, set_same (set_same hb2 _ _) _ _, ?_, hg'⟩, T3, ?_⟩
  · have := hs2.keep T23 (by rintro k rfl; simpa using hg')
    simpa using this
  · rcases hn2 with h | ⟨k, h, hk⟩
    · exact .inl h
    · refine .inr ⟨k, h, ?_⟩
      have := ht.size
      simp at hk
      omega

theorem gtake_push8 {w : World} {b : Nat} {g : Option Nat} {G : Gr} (h0 : GramAt w b g G) (hlen : G.op.length ≤ 1000000) (hm : G.may 8 = true) :
    Calls Try.prog 45 #[.pointer (some ⟨b, 0, none⟩), .int .i64 8] w fun e w' => ∃ g', e = .returned (.bool true) ∧ GramAt w' b g' ⟨G.op ++ [8], 2⟩ ∧ Touch (b :: g.toList) w w' ∧ NewOr w g g' := by
  obtain ⟨sv, hb, hs, hg⟩ := id h0
  have hbl := block_lt hb
  have hgb : b ∉ g.toList := by intro hx; apply hg; simpa using hx
  go_enter Try.func45, Try.ntmps45
  go_wp2_with fail
  refine (gmay_any h0 8).mono ?_
  rintro e w1 ⟨rfl, ht⟩
  try go_simp
  have hb1 := ht.keep hb (by simp)
  have hs1 := hs.keep ht (by simp)
  have hc1 := cell_at hb1
  go_wp2_with (at_builtin; refine wpList_append_sl sliceT_int rfl (.tmp 41) (.tmp 43) rfl rfl (hs1.keep ((Touch.refl [] _).alloc _) (by simp)) rfl (srcAt_one rfl) (by omega) ?_; intro ad' c' w2 g' hs2 ht2 hn2; have hb2 := ht2.keep (alloc_old hb1 _) hgb; have hc2 := cell_at hb2; have hf2 := free_at hb2)
  go_ret
  have T2 : Touch (b :: g.toList) w w2 := ((ht.mono (by simp)).alloc _).trans (ht2.mono (by intro x hx; exact .inl (List.mem_cons_of_mem _ hx)))
  have T3 : Touch (b :: g.toList) w ((w2.setCell ⟨b, 0, none⟩ (.slice ad' (G.op.length + 1) c')).setCell ⟨b, 1, none⟩ (.int .i64 2)) := (T2.setCell (.inl (by simp)) _).setCell (.inl (by simp)) _
  have T23 : Touch [b] w2 ((w2.setCell ⟨b, 0, none⟩ (.slice ad' (G.op.length + 1) c')).setCell ⟨b, 1, none⟩ (.int .i64 2)) := ((Touch.refl _ _).setCell (.inl (by simp)) _).setCell (.inl (by simp)) _
  have hg' : g' ≠ some b := by
    rintro rfl
    rcases hn2 with h | ⟨k, h, hk⟩
    · exact hg h.symm
    · injection h with h; subst h
      have := ht.size
      simp at hk
      omega
  refine ⟨g', rfl, ⟨_, set_same (set_same hb2 _ _) _ _, ?_, hg'⟩, T3, ?_⟩
  · have := hs2.keep T23 (by rintro k rfl; simpa using hg')
    simpa using this
  · rcases hn2 with h | ⟨k, h, hk⟩
    · exact .inl h
    · refine .inr ⟨k, h, ?_⟩
      have := ht.size
      simp at hk
      omega

theorem ints_dropLast (l : List Int) : (ints l).take (l.length - 1) = ints l.dropLast := by
  rw [List.dropLast_eq_take, ints, ints, List.map_take]

set_option maxHeartbeats 1000000 in
theorem gtake_close {w : World} {b : Nat} {g : Option Nat} {G : Gr} (h0 : GramAt w b g G) (hlen : G.op.length ≤ 1000000) (k : Int) (hk : k = 7 ∨ k = 9) (hne : G.op ≠ []) (hm : G.may k = true) :
    Calls Try.prog 45 #[.pointer (some ⟨b, 0, none⟩), .int .i64 k] w fun e w' => e = .returned (.bool true) ∧ GramAt w' b g (Gr.done G.op.dropLast) ∧ Touch [b] w w' := by
  obtain ⟨op, want⟩ := G
  obtain ⟨sv, hb, hs, hg⟩ := id h0
  obtain ⟨a, cap, rfl, hle, hcm, hf⟩ := hs.form
  have hpos : 0 < op.length := List.length_pos_iff.2 hne
  obtain ⟨kk, rfl, rfl⟩ := hf hpos
  have hcut := hs.cut (n' := op.length - 1) (by simp)
  rw [Nat.mul_one] at hcut
  simp only [ints_dropLast] at hcut
  have hd : op.dropLast.length = op.length - 1 := by simp
  obtain ⟨n, hn⟩ : ∃ n, op.length = n := ⟨_, rfl⟩
  simp only [hn] at hb hle hpos hcut hd hlen
  have key : ∀ w1, Touch [] w w1 → ∀ w3, w3 = w1.drew.setCell ⟨b, 0, none⟩ (.slice (some ⟨kk, 0, none⟩) (n - 1) cap) → GramAt w3 b (some kk) ⟨op.dropLast, want⟩ ∧ Touch [b] w w3 := by
    rintro w1 ht w3 rfl
    have T : Touch [b] w (w1.drew.setCell ⟨b, 0, none⟩ (.slice (some ⟨kk, 0, none⟩) (n - 1) cap)) := ((ht.mono (by simp)).drew).setCell (.inl (by simp)) _
    refine ⟨⟨_, set_same (drew_heap (ht.keep hb (by simp))) _ _, ?_, hg⟩, T⟩
    have := hcut.keep T (by rintro k h; simp at h; subst h; simpa using hg)
    simpa [hd] using this
  clear hf hcut hn hd hs
  have K := Lib.hid key
  clear key
  have hnn : (0 : Int) ≤ (n : Int) - 1 := by omega
  have hnl : (n : Int) - 1 ≤ (cap : Int) := by omega
  rcases hk with rfl | rfl
  all_goals
    go_enter Try.func45, Try.ntmps45
    go_wp2_with fail
    refine (gmay_any h0 _).mono ?_
    rintro e w1 ⟨rfl, ht⟩
    try go_simp
    have hb1 := ht.keep hb (by simp)
    have hc1 := cell_at hb1
    have hf1 := free_at hb1
    go_wp2_with fail
    go_region
    go_wp2_with fail
    refine (gdone_any (K.out w1 ht _ rfl).1).mono ?_
    rintro e w4 ⟨rfl, hG4, ht4⟩
    try go_simp
    go_wp2_with fail
    go_ret
    exact ⟨rfl, hG4, (K.out w1 ht _ rfl).2.trans ht4⟩

theorem gtake_rest {w : World} {b : Nat} {g : Option Nat} {G : Gr} (h0 : GramAt w b g G) (k : Int) (h6 : k ≠ 6) (h8 : k ≠ 8) (h7 : k ≠ 7) (h9 : k ≠ 9) (hm : G.may k = true) :
    Calls Try.prog 45 #[.pointer (some ⟨b, 0, none⟩), .int .i64 k] w fun e w' => e = .returned (.bool true) ∧ GramAt w' b g (G.take k) ∧ Touch [b] w w' := by
  have set : ∀ (w1 : World) (want : Int), Touch [] w w1 → GramAt (w1.setCell ⟨b, 1, none⟩ (.int .i64 want)) b g ⟨G.op, want⟩ ∧ Touch [b] w (w1.setCell ⟨b, 1, none⟩ (.int .i64 want)) := by
    intro w1 want ht
    obtain ⟨sv, hb, hs, hg⟩ := h0
    have T : Touch [b] w (w1.setCell ⟨b, 1, none⟩ (.int .i64 want)) := ((ht.mono (by simp))).setCell (.inl (by simp)) _
    exact ⟨⟨_, set_same (ht.keep hb (by simp)) _ _, hs.keep T (by rintro k rfl; simpa using hg), hg⟩, T⟩
  have set2 : ∀ (w1 : World) (want0 want : Int), Touch [b] w w1 → GramAt w1 b g ⟨G.op, want0⟩ → GramAt (w1.setCell ⟨b, 1, none⟩ (.int .i64 want)) b g ⟨G.op, want⟩ ∧ Touch [b] w (w1.setCell ⟨b, 1, none⟩ (.int .i64 want)) := by
    intro w1 want0 want ht h1
    obtain ⟨sv, hb, hs, hg⟩ := h1
    have T : Touch [b] w1 (w1.setCell ⟨b, 1, none⟩ (.int .i64 want)) := (Touch.refl _ _).setCell (.inl (by simp)) _
    exact ⟨⟨_, set_same hb _ _, hs.keep T (by rintro k rfl; simpa using hg), hg⟩, ht.trans T⟩
  have S := Lib.hid set
  have S2 := Lib.hid set2
  clear set set2
  have b6 : (k == 6) = false := by simpa using h6
  have b8 : (k == 8) = false := by simpa using h8
  have b7 : (k == 7) = false := by simpa using h7
  have b9 : (k == 9) = false := by simpa using h9
  by_cases h10 : k = 10
  · subst h10
    have e : G.take 10 = ⟨G.op, 0⟩ := by unfold Gr.take; simp [hm]
    rw [e]
    clear e
    go_enter Try.func45, Try.ntmps45
    go_wp2_with fail
    refine (gmay_any h0 _).mono ?_
    rintro e w1 ⟨rfl, ht⟩
    try go_simp
    obtain ⟨sv, hb, hs, hg⟩ := id h0
    have hb1 := ht.keep hb (by simp)
    have hc1 := cell_at hb1
    have hf1 := free_at hb1
    go_wp2_with fail
    go_ret
    exact ⟨rfl, S.out _ _ ht⟩
  have b10 : (k == 10) = false := by simpa using h10
  by_cases h11 : k = 11
  · subst h11
    have e : G.take 11 = ⟨G.op, if G.top = 8 then 3 else 0⟩ := by unfold Gr.take; simp [hm]
    rw [e]
    clear e
    by_cases ht8 : G.top = 8
    · rw [if_pos ht8]
      have bt8 : (Gr.top ⟨G.op, 0⟩ == 8) = true := by rw [beq_iff_eq]; exact ht8
      go_enter Try.func45, Try.ntmps45
      go_wp2_with fail
      refine (gmay_any h0 _).mono ?_
      rintro e w1 ⟨rfl, ht⟩
      try go_simp
      obtain ⟨sv, hb, hs, hg⟩ := id h0
      have hb1 := ht.keep hb (by simp)
      have hc1 := cell_at hb1
      have hf1 := free_at hb1
      go_wp2_with fail
      go_wp2_with fail
      refine (gtop_any (S.out _ 0 ht).1).mono ?_
      rintro e w2 ⟨rfl, ht2⟩
      try go_simp
      have hb2 := ht2.keep (set_same hb1 1 (.int .i64 0)) (by simp)
      have hc2 := cell_at hb2
      have hf2 := free_at hb2
      go_wp2_with fail
      go_ret
      exact ⟨rfl, S2.out _ 0 3 ((S.out _ 0 ht).2.trans (ht2.mono (by simp))) ((S.out _ 0 ht).1.keep ht2 (by simp) (by simp))⟩
    · rw [if_neg ht8]
      have bt8 : (Gr.top ⟨G.op, 0⟩ == 8) = false := by rw [beq_eq_false_iff_ne]; exact ht8
      go_enter Try.func45, Try.ntmps45
      go_wp2_with fail
      refine (gmay_any h0 _).mono ?_
      rintro e w1 ⟨rfl, ht⟩
      try go_simp
      obtain ⟨sv, hb, hs, hg⟩ := id h0
      have hb1 := ht.keep hb (by simp)
      have hc1 := cell_at hb1
      have hf1 := free_at hb1
      go_wp2_with fail
      go_wp2_with fail
      refine (gtop_any (S.out _ 0 ht).1).mono ?_
      rintro e w2 ⟨rfl, ht2⟩
      try go_simp
      go_wp2_with fail
      go_ret
      exact ⟨rfl, (S.out _ 0 ht).1.keep ht2 (by simp) (by simp), (S.out _ 0 ht).2.trans (ht2.mono (by simp))⟩
  have b11 : (k == 11) = false := by simpa using h11
  by_cases h5 : k = 5
  · subst h5
    by_cases hn : G.name = true
    · have e : G.take 5 = ⟨G.op, 4⟩ := by unfold Gr.take; simp [hm, hn]
      rw [e]
      clear e
      go_enter Try.func45, Try.ntmps45
      go_wp2_with fail
      refine (gmay_any h0 _).mono ?_
      rintro e w1 ⟨rfl, ht⟩
      try go_simp
      go_wp2_with fail
      refine (gname_any (h0.keep ht (by simp) (by simp))).mono ?_
      rintro e w2 ⟨rfl, ht2⟩
      try go_simp
      obtain ⟨sv, hb, hs, hg⟩ := id h0
      have hb1 := (ht.trans ht2).keep hb (by simp)
      have hc1 := cell_at hb1
      have hf1 := free_at hb1
      go_wp2_with fail
      go_ret
      exact ⟨rfl, S.out _ 4 (ht.trans ht2)⟩
    · have hn' : G.name = false := by simpa using hn
      have e : G.take 5 = Gr.done G.op := by unfold Gr.take; simp [hm, hn']
      rw [e]
      clear e
      go_enter Try.func45, Try.ntmps45
      go_wp2_with fail
      refine (gmay_any h0 _).mono ?_
      rintro e w1 ⟨rfl, ht⟩
      try go_simp
      go_wp2_with fail
      refine (gname_any (h0.keep ht (by simp) (by simp))).mono ?_
      rintro e w2 ⟨rfl, ht2⟩
      try go_simp
      go_wp2_with fail
      refine (gdone_any (h0.keep (ht.trans ht2) (by simp) (by simp))).mono ?_
      rintro e w3 ⟨rfl, hG3, ht3⟩
      try go_simp
      go_wp2_with fail
      go_ret
      exact ⟨rfl, hG3, ((ht.trans ht2).mono (by simp)).trans ht3⟩
  have b5 : (k == 5) = false := by simpa using h5
  have e : G.take k = Gr.done G.op := by unfold Gr.take; simp [hm, h6, h8, h7, h9, h10, h11, h5]
  rw [e]
  clear e
  go_enter Try.func45, Try.ntmps45
  go_wp2_with fail
  refine (gmay_any h0 _).mono ?_
  rintro e w1 ⟨rfl, ht⟩
  try go_simp
  go_wp2_with fail
  refine (gdone_any (h0.keep ht (by simp) (by simp))).mono ?_
  rintro e w3 ⟨rfl, hG3, ht3⟩
  try go_simp
  go_wp2_with fail
  go_ret
  exact ⟨rfl, hG3, (ht.mono (by simp)).trans ht3⟩

theorem gtake_any {w : World} {b : Nat} {g : Option Nat} {G : Gr} (h0 : GramAt w b g G) (ok : G.Ok) (hlen : G.op.length ≤ 1000000) (k : Int) :
    Calls Try.prog 45 #[.pointer (some ⟨b, 0, none⟩), .int .i64 k] w fun e w' => ∃ g', e = .returned (.bool (G.may k)) ∧ GramAt w' b g' (G.take k) ∧ Touch (b :: g.toList) w w' ∧ NewOr w g g' := by
  cases hm : G.may k with
  | false =>
    have e : G.take k = G := by unfold Gr.take; simp [hm]
    rw [e]
    exact (gtake_no h0 k hm).mono fun e w' ⟨h1, h2⟩ => ⟨g, h1, h0.keep h2 (by simp) (by simp), h2.mono (by simp), .inl rfl⟩
  | true =>
    by_cases h6 : k = 6
    · subst h6
      have e : G.take 6 = ⟨G.op ++ [6], 1⟩ := by unfold Gr.take; simp [hm]
      rw [e]
      exact gtake_push6 h0 hlen hm
    by_cases h8 : k = 8
    · subst h8
      have e : G.take 8 = ⟨G.op ++ [8], 2⟩ := by unfold Gr.take; simp [hm]
      rw [e]
      exact gtake_push8 h0 hlen hm
    by_cases h79 : k = 7 ∨ k = 9
    · have e : G.take k = Gr.done G.op.dropLast := by unfold Gr.take; simp [hm, h6, h8, h79]
      rw [e]
      exact (gtake_close h0 hlen k h79 (Gr.close_open ok hm h79) hm).mono fun e w' ⟨h1, h2, h3⟩ => ⟨g, h1, h2, h3.mono (by simp), .inl rfl⟩
    · exact (gtake_rest h0 k h6 h8 (by omega) (by omega) hm).mono fun e w' ⟨h1, h2, h3⟩ => ⟨g, h1, h2, h3.mono (by simp), .inl rfl⟩
end Go.Proofs.Ytgjddlianhejdaa
