/- The reference's machine: Take, all of it. -/
import Derived.Test.YtgjddlianhejdaaGramRT
import Derived.Test.YtgjddlianhejdaaGramHM
namespace Go.Proofs.Ytgjddlianhejdaa
open Go.RowKit
set_option maxRecDepth 100000
set_option linter.unusedVariables false
set_option linter.unusedSimpArgs false


set_option maxHeartbeats 2000000 in
theorem rgtake_rest {w : World} {b : Nat} {g : Option Nat} {G : Gr} (h0 : RGramAt w b g G) (ok : G.Ok) (k : Int) (h6 : k ≠ 6) (h8 : k ≠ 8) (h7 : k ≠ 7) (h9 : k ≠ 9) (hm : G.may k = true) :
    Calls Try.prog 51 #[.pointer (some ⟨b, 0, none⟩), .int .i64 k] w fun e w' => e = .returned (.bool true) ∧ RGramAt w' b g (G.take k) ∧ Touch [b] w w' := by
  have set : ∀ (w1 : World) (a want : Int), atOf want = a → Touch [] w w1 → RGramAt (w1.setCell ⟨b, 1, none⟩ (.int .i64 a)) b g ⟨G.op, want⟩ ∧ Touch [b] w (w1.setCell ⟨b, 1, none⟩ (.int .i64 a)) := by
    intro w1 a want ha ht
    obtain ⟨sv, hb, hs, hg⟩ := h0
    have T : Touch [b] w (w1.setCell ⟨b, 1, none⟩ (.int .i64 a)) := ((ht.mono (by simp))).setCell (.inl (by simp)) _
    subst ha
    exact ⟨⟨_, set_same (ht.keep hb (by simp)) _ _, hs.keep T (by rintro k rfl; simpa using hg), hg⟩, T⟩
  have set2 : ∀ (w1 : World) (want0 a want : Int), atOf want = a → Touch [b] w w1 → RGramAt w1 b g ⟨G.op, want0⟩ → RGramAt (w1.setCell ⟨b, 1, none⟩ (.int .i64 a)) b g ⟨G.op, want⟩ ∧ Touch [b] w (w1.setCell ⟨b, 1, none⟩ (.int .i64 a)) := by
    intro w1 want0 a want ha ht h1
    obtain ⟨sv, hb, hs, hg⟩ := h1
    have T : Touch [b] w1 (w1.setCell ⟨b, 1, none⟩ (.int .i64 a)) := (Touch.refl _ _).setCell (.inl (by simp)) _
    subst ha
    exact ⟨⟨_, set_same hb _ _, hs.keep T (by rintro k rfl; simpa using hg), hg⟩, ht.trans T⟩
  have S := Box.mk set
  have S2 := Box.mk set2
  clear set set2
  have b6 : (k == 6) = false := by simpa using h6
  have b8 : (k == 8) = false := by simpa using h8
  have b7 : (k == 7) = false := by simpa using h7
  have b9 : (k == 9) = false := by simpa using h9
  by_cases h10 : k = 10
  · subst h10
    have e : G.take 10 = ⟨G.op, 0⟩ := by unfold Gr.take; simp [hm]
    rw [e]
    clear e
    go_enter Try.func51, Try.ntmps51
    go_wp2_with fail
    refine (rgmay_any h0 ok _).mono ?_
    rintro e w1 ⟨rfl, ht⟩
    try go_simp
    go_wp2_with fail
    refine (rgname_any (h0.keep ht (by simp) (by simp)) ok).mono ?_
    rintro e w1a ⟨rfl, hta⟩
    try go_simp
    have htb := ht.trans hta
    obtain ⟨sv, hb, hs, hg⟩ := id h0
    have hb1 := htb.keep hb (by simp)
    have hc1 := cell_at hb1
    have hf1 := free_at hb1
    have hbl1 := block_lt hb1
    clear hb hs hg
    go_wp2_with fail
    go_ret
    exact ⟨rfl, S.out _ 0 0 rfl htb⟩
  have b10 : (k == 10) = false := by simpa using h10
  by_cases h11 : k = 11
  · subst h11
    have e : G.take 11 = ⟨G.op, if G.top = 8 then 3 else 0⟩ := by unfold Gr.take; simp [hm]
    rw [e]
    clear e
    by_cases ht8 : G.top = 8
    · rw [if_pos ht8]
      have bt8 : (Gr.top ⟨G.op, 0⟩ == 8) = true := by rw [beq_iff_eq]; exact ht8
      clear ht8
      go_enter Try.func51, Try.ntmps51
      go_wp2_with fail
      refine (rgmay_any h0 ok _).mono ?_
      rintro e w1 ⟨rfl, ht⟩
      try go_simp
      go_wp2_with fail
      refine (rgname_any (h0.keep ht (by simp) (by simp)) ok).mono ?_
      rintro e w1a ⟨rfl, hta⟩
      try go_simp
      have htb := ht.trans hta
      obtain ⟨sv, hb, hs, hg⟩ := id h0
      have hb1 := htb.keep hb (by simp)
      have hc1 := cell_at hb1
      have hf1 := free_at hb1
      have hbl1 := block_lt hb1
      clear hb hs hg
      go_wp2_with fail
      go_wp2_with fail
      refine (rglast_any (S.out _ 0 0 rfl htb).1).mono ?_
      rintro e w2 ⟨rfl, ht2⟩
      try go_simp
      have hb2 := ht2.keep (set_same hb1 1 (.int .i64 0)) (by simp)
      have hc2 := cell_at hb2
      have hf2 := free_at hb2
      go_wp2_with fail
      go_ret
      exact ⟨rfl, S2.out _ 0 5 3 rfl ((S.out _ 0 0 rfl htb).2.trans (ht2.mono (by simp))) ((S.out _ 0 0 rfl htb).1.keep ht2 (by simp) (by simp))⟩
    · rw [if_neg ht8]
      have bt8 : (Gr.top ⟨G.op, 0⟩ == 8) = false := by rw [beq_eq_false_iff_ne]; exact ht8
      clear ht8
      go_enter Try.func51, Try.ntmps51
      go_wp2_with fail
      refine (rgmay_any h0 ok _).mono ?_
      rintro e w1 ⟨rfl, ht⟩
      try go_simp
      go_wp2_with fail
      refine (rgname_any (h0.keep ht (by simp) (by simp)) ok).mono ?_
      rintro e w1a ⟨rfl, hta⟩
      try go_simp
      have htb := ht.trans hta
      obtain ⟨sv, hb, hs, hg⟩ := id h0
      have hb1 := htb.keep hb (by simp)
      have hc1 := cell_at hb1
      have hf1 := free_at hb1
      have hbl1 := block_lt hb1
      clear hb hs hg
      go_wp2_with fail
      go_wp2_with fail
      refine (rglast_any (S.out _ 0 0 rfl htb).1).mono ?_
      rintro e w2 ⟨rfl, ht2⟩
      try go_simp
      go_wp2_with fail
      go_ret
      exact ⟨rfl, (S.out _ 0 0 rfl htb).1.keep ht2 (by simp) (by simp), (S.out _ 0 0 rfl htb).2.trans (ht2.mono (by simp))⟩
  have b11 : (k == 11) = false := by simpa using h11
  have hwant := ok.want
  by_cases hn : G.name = true
  · have h5 : k = 5 := by
      have hw : G.want = 2 ∨ G.want = 3 := by simpa [Gr.name] using hn
      rcases hw with h | h <;> simp [Gr.may, h] at hm <;> omega
    subst h5
    have e : G.take 5 = ⟨G.op, 4⟩ := by unfold Gr.take; simp [hm, hn]
    rw [e]
    clear e hwant
    go_enter Try.func51, Try.ntmps51
    go_wp2_with fail
    refine (rgmay_any h0 ok _).mono ?_
    rintro e w1 ⟨rfl, ht⟩
    try go_simp
    go_wp2_with fail
    refine (rgname_any (h0.keep ht (by simp) (by simp)) ok).mono ?_
    rintro e w1a ⟨rfl, hta⟩
    try go_simp
    have htb := ht.trans hta
    obtain ⟨sv, hb, hs, hg⟩ := id h0
    have hb1 := htb.keep hb (by simp)
    have hc1 := cell_at hb1
    have hf1 := free_at hb1
    have hbl1 := block_lt hb1
    clear hb hs hg
    go_wp2_with fail
    go_ret
    exact ⟨rfl, S2.out _ 5 4 4 rfl (S.out _ 1 5 rfl htb).2 (S.out _ 1 5 rfl htb).1⟩
  · have hn' : G.name = false := by simpa using hn
    have e : G.take k = Gr.done G.op := by unfold Gr.take; simp [hm, h6, h8, h7, h9, h10, h11, hn']
    rw [e]
    clear e hwant hn
    go_enter Try.func51, Try.ntmps51
    go_wp2_with fail
    refine (rgmay_any h0 ok _).mono ?_
    rintro e w1 ⟨rfl, ht⟩
    try go_simp
    go_wp2_with fail
    refine (rgname_any (h0.keep ht (by simp) (by simp)) ok).mono ?_
    rintro e w1a ⟨rfl, hta⟩
    try go_simp
    have htb := ht.trans hta
    obtain ⟨sv, hb, hs, hg⟩ := id h0
    have hb1 := htb.keep hb (by simp)
    have hc1 := cell_at hb1
    have hf1 := free_at hb1
    have hbl1 := block_lt hb1
    clear hb hs hg
    go_wp2_with fail
    go_ret
    exact ⟨rfl, S.out _ 1 _ rgdone_at htb⟩

theorem rgtake_any {w : World} {b : Nat} {g : Option Nat} {G : Gr} (h0 : RGramAt w b g G) (ok : G.Ok) (hlen : G.op.length ≤ 1000000) (k : Int) :
    Calls Try.prog 51 #[.pointer (some ⟨b, 0, none⟩), .int .i64 k] w fun e w' => ∃ g', e = .returned (.bool (G.may k)) ∧ RGramAt w' b g' (G.take k) ∧ Touch [b] w w' ∧ NewOr w g g' := by
  cases hm : G.may k with
  | false =>
    rw [Gr.take_no hm]
    exact (rgtake_no h0 ok k hm).mono fun e w' ⟨h1, h2⟩ => ⟨g, h1, h0.keep h2 (by simp) (by simp), h2.mono (by simp), .inl rfl⟩
  | true =>
    by_cases h6 : k = 6
    · subst h6
      have e : G.take 6 = ⟨G.op ++ [6], 1⟩ := by unfold Gr.take; simp [hm]
      rw [e]
      exact rgtake_push6 h0 ok hlen hm 1 rfl
    by_cases h8 : k = 8
    · subst h8
      have e : G.take 8 = ⟨G.op ++ [8], 2⟩ := by unfold Gr.take; simp [hm]
      rw [e]
      exact rgtake_push8 h0 ok hlen hm 2 rfl
    by_cases h79 : k = 7 ∨ k = 9
    · have e : G.take k = Gr.done G.op.dropLast := by unfold Gr.take; simp [hm, h6, h8, h79]
      rw [e]
      exact rgtake_close h0 ok hlen k h79 (Gr.close_open ok hm h79) hm
    · exact (rgtake_rest h0 ok k h6 h8 (by omega) (by omega) hm).mono fun e w' ⟨h1, h2, h3⟩ => ⟨g, h1, h2, h3, .inl rfl⟩
end Go.Proofs.Ytgjddlianhejdaa
