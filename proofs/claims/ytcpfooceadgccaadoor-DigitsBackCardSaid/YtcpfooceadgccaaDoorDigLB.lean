/- The law DigitsBack. -/
import Derived.Test.YtcpfooceadgccaaDoorDigA
import Derived.Test.YtcpfooceadgccaaDoorDigLW
import Derived.Outline
namespace Go.Proofs.YtcpfooceadgccaaDoor
open Go.RowKit
set_option maxRecDepth 100000
set_option maxHeartbeats 4000000
set_option linter.unusedVariables false
set_option linter.unusedSimpArgs false


theorem digitsback_walk (n : Int) (w : World) (hn : (Lit.int .i64 n).wf = true) :
    Calls Tryd.prog 4 #[.int .i64 n] w fun e w' => e = .returned (.bool true) ∧ Touch [] w w' := by
  obtain ⟨h1, h2⟩ := i64_bounds hn
  clear hn
  obtain ⟨s, hs⟩ : ∃ s, s = Dig.print n := ⟨_, rfl⟩
  have hP := fun w => pprint_any n w h1 h2
  rw [← hs] at hP
  have hlen : (Dig.digs n.natAbs).length ≤ 20 := Dig.digs_length_le 19 _ (by omega)
  obtain ⟨y, hy⟩ : ∃ y, y = Dig.norm ⟨decide (n < 0), Dig.digs n.natAbs, 0⟩ := ⟨_, rfl⟩
  have hpl : s.length ≤ 21 := by
    rw [hs]
    unfold Dig.print; split
    · rw [List.length_cons]; omega
    · omega
  have hRd := fun w => pread_at s y w (by rw [hs, hy]; exact Dig.read_print n) (by omega)
  have hyl : y.d.length ≤ 20 := by rw [hy, Dig.norm_d]; exact Nat.le_trans (Dig.core_le _) hlen
  have hye : y.e ≤ 1000000000000 ∧ -1000000000000 ≤ y.e := by
    rw [hy]
    have h3 := Dig.cutL_le (Dig.digs n.natAbs)
    have h4 : (Dig.core (Dig.digs n.natAbs)).length ≤ (Dig.cutL (Dig.digs n.natAbs)).length := Dig.cutR_le _
    unfold Dig.norm
    split
    · exact ⟨by decide, by decide⟩
    · dsimp only
      omega
  have hyd : y.d.all Dig.dig = true := by rw [hy]; exact Dig.norm_all _ (Dig.digs_all _)
  have hi : Dig.int y = if 9007199254740991 < n.natAbs then (0, 8) else (n, 0) := by
    rw [hy, Dig.int_print]
    by_cases hm : 9007199254740991 < n.natAbs
    · rw [if_pos hm, if_pos hm]
    · rw [if_neg hm, if_neg hm]
      by_cases h0 : n < 0
      · rw [if_pos (by simpa using h0)]; congr 1; omega
      · rw [if_neg (by simpa using h0)]; congr 1; omega
  clear hlen hy
  -- the first byte
  by_cases h0 : n < 0
  · have hc : s = 45 :: Dig.digs n.natAbs := by rw [hs]; unfold Dig.print; rw [if_pos h0]
    obtain ⟨t, ht⟩ : ∃ t, t = Dig.digs n.natAbs := ⟨_, rfl⟩
    rw [← ht] at hc
    have z1 : ((str s).toList == [48]) = false := by rw [str_toList, hc]; rfl
    have i0 : ∀ w, (Instr.index 9 (.string (str s)) (.int .i64 0)).run Tryd.prog w = .ok (.int .u8 45) w := fun w => run_ix Tryd.underlying9 s .i64 0 45 (by rw [hc]; rfl) w
    have l0 : 0 < s.length := by rw [hc]; simp
    have sz := str_size s
    have tn : decide (n < 0) = true := by simpa using h0
    clear hc ht hs h0
    by_cases hm : n < -9007199254740991
    · have hI := fun w => pint_at y 0 8 w (by rw [hi, if_pos (by have : n < 0 := (by simpa using tn); omega)]) (by omega) hye.1 hye.2 hyd
      have t1 : decide (-9007199254740991 ≤ n) = false := by simpa using hm
      clear hye hi hyd hyl
      go_enter Tryd.func4, Tryd.ntmps4
      go_wp2_with fail
      refine (hP _).mono ?_
      rintro e w1 ⟨rfl, ht1⟩
      try go_simp
      go_wp2_with fail
      refine (hRd _).mono ?_
      rintro e w2 ⟨rfl, ht2⟩
      try go_simp
      go_wp2_with fail
      refine (hI _).mono ?_
      rintro e w3 ⟨rfl, ht3⟩
      try go_simp
      go_wp2_with fail
      refine (awake10 _).mono ?_
      rintro e w4 ⟨rfl, ht4⟩
      try go_simp
      go_wp2
      go_ret
      exact ⟨rfl, (((ht1.trans ht2).alloc _).trans ht3).trans ht4⟩
    · have hI := fun w => pint_at y n 0 w (by rw [hi, if_neg (by have : n < 0 := (by simpa using tn); omega)]) (by omega) hye.1 hye.2 hyd
      have t1 : decide (-9007199254740991 ≤ n) = true := by simp; omega
      have t2 : decide (n ≤ 9007199254740991) = true := by have : n < 0 := (by simpa using tn); simp; omega
      clear hye hi hyd hyl
      go_enter Tryd.func4, Tryd.ntmps4
      go_wp2_with fail
      refine (hP _).mono ?_
      rintro e w1 ⟨rfl, ht1⟩
      try go_simp
      go_wp2_with fail
      refine (hRd _).mono ?_
      rintro e w2 ⟨rfl, ht2⟩
      try go_simp
      go_wp2_with fail
      refine (hI _).mono ?_
      rintro e w3 ⟨rfl, ht3⟩
      try go_simp
      go_wp2_with fail
      refine (awake10 _).mono ?_
      rintro e w4 ⟨rfl, ht4⟩
      try go_simp
      go_wp2
      go_ret
      exact ⟨rfl, (((ht1.trans ht2).alloc _).trans ht3).trans ht4⟩
  · have hc : s = Dig.digs n.natAbs := by rw [hs]; unfold Dig.print; rw [if_neg h0]
    have tn : decide (n < 0) = false := by simpa using h0
    have t1 : decide (-9007199254740991 ≤ n) = true := by simp; omega
    have sz := str_size s
    by_cases hz : n = 0
    · have hc0 : s = [48] := by rw [hc, hz]; exact Dig.digs_zero
      have z1 : ((str s).toList == [48]) = true := by rw [str_toList, hc0]; rfl
      have i0 : ∀ w, (Instr.index 9 (.string (str s)) (.int .i64 0)).run Tryd.prog w = .ok (.int .u8 48) w := fun w => run_ix Tryd.underlying9 s .i64 0 48 (by rw [hc0]; rfl) w
      have l0 : 0 < s.length := by rw [hc0]; simp
      have hI := fun w => pint_at y n 0 w (by rw [hi, if_neg (by omega)]) (by omega) hye.1 hye.2 hyd
      have t2 : decide (n ≤ 9007199254740991) = true := by simp; omega
      clear hye hi hyd hyl hc hs hc0 h0 hz
      go_enter Tryd.func4, Tryd.ntmps4
      go_wp2_with fail
      refine (hP _).mono ?_
      rintro e w1 ⟨rfl, ht1⟩
      try go_simp
      go_wp2_with fail
      refine (hRd _).mono ?_
      rintro e w2 ⟨rfl, ht2⟩
      try go_simp
      go_wp2_with fail
      refine (hI _).mono ?_
      rintro e w3 ⟨rfl, ht3⟩
      try go_simp
      go_wp2_with fail
      refine (awake10 _).mono ?_
      rintro e w4 ⟨rfl, ht4⟩
      try go_simp
      go_wp2
      go_ret
      exact ⟨rfl, (((ht1.trans ht2).alloc _).trans ht3).trans ht4⟩
    · obtain ⟨c, t, hct⟩ : ∃ c t, s = c :: t := by
        cases h : s with
        | nil => rw [hc] at h; exact absurd h (Dig.digs_ne _)
        | cons c t => exact ⟨c, t, rfl⟩
      have hd := Dig.digs_pos_head n.natAbs c (by rw [← hc, hct]; rfl)
      have h48 : c ≠ 48 := fun e => Dig.digs_head n.natAbs (by omega) (by rw [← hc, hct, e]; rfl)
      have q45 : ((c.toNat : Int) == 45) = false := by rw [byte_45]; simp; intro e; rw [e] at hd; exact absurd hd (by decide)
      have q48 : ((c.toNat : Int) == 48) = false := by rw [byte_48]; simpa using h48
      have q48' : ((c.toNat : Int) != 48) = true := by rw [bne, q48]; rfl
      have z1 : ((str s).toList == [48]) = false := by rw [str_toList, hct]; simp; intro e; exact absurd e h48
      have i0 : ∀ w, (Instr.index 9 (.string (str s)) (.int .i64 0)).run Tryd.prog w = .ok (.int .u8 c.toNat) w := fun w => run_ix Tryd.underlying9 s .i64 0 c (by rw [hct]; rfl) w
      have l0 : 0 < s.length := by rw [hct]; simp
      clear hct hc hs hd h48
      by_cases hm : 9007199254740991 < n
      · have hI := fun w => pint_at y 0 8 w (by rw [hi, if_pos (by omega)]) (by omega) hye.1 hye.2 hyd
        have t2 : decide (n ≤ 9007199254740991) = false := by simpa using hm
        clear hye hi hyd hyl hz
        go_enter Tryd.func4, Tryd.ntmps4
        go_wp2_with fail
        refine (hP _).mono ?_
        rintro e w1 ⟨rfl, ht1⟩
        try go_simp
        go_wp2_with fail
        refine (hRd _).mono ?_
        rintro e w2 ⟨rfl, ht2⟩
        try go_simp
        go_wp2_with fail
        refine (hI _).mono ?_
        rintro e w3 ⟨rfl, ht3⟩
        try go_simp
        go_wp2_with fail
        refine (awake10 _).mono ?_
        rintro e w4 ⟨rfl, ht4⟩
        try go_simp
        go_wp2
        go_ret
        exact ⟨rfl, (((ht1.trans ht2).alloc _).trans ht3).trans ht4⟩
      · have hI := fun w => pint_at y n 0 w (by rw [hi, if_neg (by omega)]) (by omega) hye.1 hye.2 hyd
        have t2 : decide (n ≤ 9007199254740991) = true := by simp; omega
        clear hye hi hyd hyl hz
        go_enter Tryd.func4, Tryd.ntmps4
        go_wp2_with fail
        refine (hP _).mono ?_
        rintro e w1 ⟨rfl, ht1⟩
        try go_simp
        go_wp2_with fail
        refine (hRd _).mono ?_
        rintro e w2 ⟨rfl, ht2⟩
        try go_simp
        go_wp2_with fail
        refine (hI _).mono ?_
        rintro e w3 ⟨rfl, ht3⟩
        try go_simp
        go_wp2_with fail
        refine (awake10 _).mono ?_
        rintro e w4 ⟨rfl, ht4⟩
        try go_simp
        go_wp2
        go_ret
        exact ⟨rfl, (((ht1.trans ht2).alloc _).trans ht3).trans ht4⟩
end Go.Proofs.YtcpfooceadgccaaDoor
