/- The reference's reading of what is printed. -/
import Derived.Test.YtcpfooceadgccaaDoorDigRC
import Derived.Test.YtcpfooceadgccaaDoorDigRX
import Derived.Test.YtcpfooceadgccaaDoorDigLW
import Derived.Outline
namespace Go.Proofs.YtcpfooceadgccaaDoor
open Go.RowKit
set_option maxRecDepth 100000
set_option maxHeartbeats 4000000
set_option linter.unusedVariables false
set_option linter.unusedSimpArgs false


theorem rread_print (n : Int) (y : Dig.Dec) (w : World) (hy : y = Dig.norm ⟨decide (n < 0), Dig.digs n.natAbs, 0⟩) (hb : n.natAbs < 100000000000000000000) :
    Calls Tryd.prog 18 #[.string (str (Dig.print n))] w fun e w' => e = .returned (.tuple #[.agg #[.bool y.neg, .string (str y.d), .int .i64 y.e], .bool true]) ∧ Touch [] w w' := by
  obtain ⟨D, hD⟩ : ∃ D, D = Dig.digs n.natAbs := ⟨_, rfl⟩
  have hDl : D.length ≤ 20 := by rw [hD]; exact Dig.digs_length_le 19 _ hb
  have hDd : D.all Dig.dig = true := by rw [hD]; exact Dig.digs_all _
  have hrunD : Dig.run D = D.length := Dig.run_all D hDd
  obtain ⟨c, t, hct⟩ : ∃ c t, D = c :: t := by
    cases h : D with
    | nil => rw [hD] at h; exact absurd h (Dig.digs_ne _)
    | cons c t => exact ⟨c, t, rfl⟩
  have hdc : Dig.dig c = true := by rw [hct, List.all_cons, Bool.and_eq_true] at hDd; exact hDd.1
  have hlead : 1 < D.length → c ≠ 48 := fun h e => by
    rcases Nat.eq_zero_or_pos n.natAbs with h0 | h0
    · rw [hD, h0, Dig.digs_zero] at h; simp at h
    · exact Dig.digs_head _ h0 (by rw [← hD, hct, e]; rfl)
  rw [← hD] at hy
  have hpos : 0 < D.length := by rw [hct]; simp
  by_cases h0 : n < 0
  · have hp : Dig.print n = 45 :: D := by unfold Dig.print; rw [if_pos h0, hD]
    rw [hp]
    rw [decide_eq_true h0] at hy
    have hnc : ∀ w, Calls Tryd.prog 25 #[.agg #[.bool true, .string (str D), .int .i64 0]] w fun r w' => r = .returned (.agg #[.bool y.neg, .string (str y.d), .int .i64 y.e]) ∧ Touch [] w w' := fun w => rnorm_y true D 0 y w ⟨hy⟩ (by omega) (by omega) (by omega)
    clear hy hp
    obtain ⟨s', d', e'⟩ := y
    have hrun : ∀ w, Calls Tryd.prog 45 #[.string (str (45 :: D)), .int .i64 1] w fun e w' => e = .returned (.int .i64 D.length) ∧ Touch [] w w' := fun w => by
      have := rrun_any (45 :: D) 1 w (by simp) (by simp; omega)
      rw [show (45 :: D).drop 1 = D from rfl, hrunD] at this
      exact this
    have i0 : ∀ w, (Instr.index 9 (.string (str (45 :: D))) (.int .i64 0)).run Tryd.prog w = .ok (.int .u8 45) w := fun w => run_ix Tryd.underlying9 (45 :: D) .i64 0 45 rfl w
    have i1 : ∀ w, (Instr.index 9 (.string (str (45 :: D))) (.int .i64 1)).run Tryd.prog w = .ok (.int .u8 c.toNat) w := fun w => run_ix Tryd.underlying9 (45 :: D) .i64 1 c (by rw [hct]; rfl) w
    have i2 : ∀ w, (Instr.slice 9 (.string (str (45 :: D))) (some (.int .i64 1)) (some (.int .i64 (1 + (D.length : Int)))) none).run Tryd.prog w = .ok (.string (str D)) w := fun w => by
      have := run_mid Tryd.underlying9 (45 :: D) .i64 .i64 1 (1 + D.length) (by omega) (by simp; omega) w
      rw [show ((1 + D.length : Nat) : Int) = 1 + (D.length : Int) by omega] at this
      have e : ((45 :: D).drop 1).take (1 + D.length - 1) = D := by rw [show (45 :: D).drop 1 = D from rfl]; exact List.take_of_length_le (by omega)
      rw [e] at this
      exact this
    have sz : (str (45 :: D)).size = D.length + 1 := rfl
    have z1 : ((D.length : Int) == 0) = false := by rw [beq_eq_false_iff_ne]; omega
    clear hrunD hdc h0 hD hDd
    by_cases h1 : 1 < D.length
    · have z2 : ((c.toNat : Int) == 48) = false := by rw [byte_48]; simpa using hlead h1
      clear hlead hct
      go_enter Tryd.func18, Tryd.ntmps18
      go_wp2_with fail
      refine (hrun _).mono ?_
      rintro e w1 ⟨rfl, ht1⟩
      try go_simp
      have hR := ht1.keep (alloc_old (alloc_new w (Obj.cells #[.bool false, .string ⟨#[]⟩, .int .i64 0] 23)) _) (by simp)
      have hB := ht1.keep (alloc_new1 w (Obj.cells #[.bool false, .string ⟨#[]⟩, .int .i64 0] 23) _) (by simp)
      have hT := (((Touch.refl [] w).alloc _).alloc _).trans ht1
      have hz1 : w.heap.size + 1 < w1.heap.size := block_lt hB
      have hz0 : w.heap.size < w1.heap.size := by omega
      have c0 := cell_at hB 0
      have c1 := cell_at hB 1
      have c2 := cell_at hB 2
      have f1 := free_at hB 1
      simp at c0 c1 c2
      clear ht1
      go_wp2_with fail
      refine (hnc _).mono ?_
      rintro r w2 ⟨rfl, ht2⟩
      try go_simp
      have hR2 := ht2.keep (set_other hR (a := ⟨w.heap.size + 1, 1, none⟩) (by simp) (.string (str D))) (by simp)
      have hT2 := (hT.setCell (p := ⟨w.heap.size + 1, 1, none⟩) (by simp) (.string (str D))).trans ht2
      have q0 := cell_at hR2 0
      have q1 := cell_at hR2 1
      have q2 := cell_at hR2 2
      have p0 := free_at hR2 0
      have p1 := free_at hR2 1
      have p2 := free_at hR2 2
      have hz2 : w.heap.size < w2.heap.size := block_lt hR2
      simp at q0 q1 q2
      clear c0 c1 c2 f1 hz0 hz1
      go_wp2
      exact bodyPost_ret (v := .tuple #[.agg #[.bool s', .string (str d'), .int .i64 e'], .bool true]) (by simp [results, Tryd.results18, go_sem, q0, q1, q2]) rfl ⟨rfl, ((hT2.setCell (by simp) _).setCell (by simp) _).setCell (by simp) _⟩
    · clear hlead hct
      go_enter Tryd.func18, Tryd.ntmps18
      go_wp2_with fail
      refine (hrun _).mono ?_
      rintro e w1 ⟨rfl, ht1⟩
      try go_simp
      have hR := ht1.keep (alloc_old (alloc_new w (Obj.cells #[.bool false, .string ⟨#[]⟩, .int .i64 0] 23)) _) (by simp)
      have hB := ht1.keep (alloc_new1 w (Obj.cells #[.bool false, .string ⟨#[]⟩, .int .i64 0] 23) _) (by simp)
      have hT := (((Touch.refl [] w).alloc _).alloc _).trans ht1
      have hz1 : w.heap.size + 1 < w1.heap.size := block_lt hB
      have hz0 : w.heap.size < w1.heap.size := by omega
      have c0 := cell_at hB 0
      have c1 := cell_at hB 1
      have c2 := cell_at hB 2
      have f1 := free_at hB 1
      simp at c0 c1 c2
      clear ht1
      go_wp2_with fail
      refine (hnc _).mono ?_
      rintro r w2 ⟨rfl, ht2⟩
      try go_simp
      have hR2 := ht2.keep (set_other hR (a := ⟨w.heap.size + 1, 1, none⟩) (by simp) (.string (str D))) (by simp)
      have hT2 := (hT.setCell (p := ⟨w.heap.size + 1, 1, none⟩) (by simp) (.string (str D))).trans ht2
      have q0 := cell_at hR2 0
      have q1 := cell_at hR2 1
      have q2 := cell_at hR2 2
      have p0 := free_at hR2 0
      have p1 := free_at hR2 1
      have p2 := free_at hR2 2
      have hz2 : w.heap.size < w2.heap.size := block_lt hR2
      simp at q0 q1 q2
      clear c0 c1 c2 f1 hz0 hz1
      go_wp2
      exact bodyPost_ret (v := .tuple #[.agg #[.bool s', .string (str d'), .int .i64 e'], .bool true]) (by simp [results, Tryd.results18, go_sem, q0, q1, q2]) rfl ⟨rfl, ((hT2.setCell (by simp) _).setCell (by simp) _).setCell (by simp) _⟩
  · have hp : Dig.print n = D := by unfold Dig.print; rw [if_neg h0, hD]
    rw [hp]
    rw [decide_eq_false h0] at hy
    have hnc : ∀ w, Calls Tryd.prog 25 #[.agg #[.bool false, .string (str D), .int .i64 0]] w fun r w' => r = .returned (.agg #[.bool y.neg, .string (str y.d), .int .i64 y.e]) ∧ Touch [] w w' := fun w => rnorm_y false D 0 y w ⟨hy⟩ (by omega) (by omega) (by omega)
    clear hy hp
    obtain ⟨s', d', e'⟩ := y
    have hrun : ∀ w, Calls Tryd.prog 45 #[.string (str D), .int .i64 0] w fun e w' => e = .returned (.int .i64 D.length) ∧ Touch [] w w' := fun w => by
      have := rrun_any D 0 w (by omega) (by omega)
      rw [show D.drop 0 = D from rfl, hrunD] at this
      exact this
    have i0 : ∀ w, (Instr.index 9 (.string (str D)) (.int .i64 0)).run Tryd.prog w = .ok (.int .u8 c.toNat) w := fun w => run_ix Tryd.underlying9 D .i64 0 c (by rw [hct]; rfl) w
    have i2 : ∀ w, (Instr.slice 9 (.string (str D)) (some (.int .i64 0)) (some (.int .i64 (D.length : Int))) none).run Tryd.prog w = .ok (.string (str D)) w := fun w => by
      have := run_mid Tryd.underlying9 D .i64 .i64 0 D.length (by omega) (by omega) w
      have e : ((D.drop 0).take (D.length - 0)) = D := by rw [show D.drop 0 = D from rfl]; exact List.take_of_length_le (by omega)
      rw [e] at this
      exact this
    have sz := str_size D
    have z1 : ((D.length : Int) == 0) = false := by rw [beq_eq_false_iff_ne]; omega
    have z3 : ((c.toNat : Int) == 45) = false := by
      rw [byte_45]; simp; intro e; rw [e] at hdc; exact absurd hdc (by decide)
    clear hrunD hdc h0 hD hDd
    by_cases h1 : 1 < D.length
    · have z2 : ((c.toNat : Int) == 48) = false := by rw [byte_48]; simpa using hlead h1
      clear hlead hct
      go_enter Tryd.func18, Tryd.ntmps18
      go_wp2_with fail
      refine (hrun _).mono ?_
      rintro e w1 ⟨rfl, ht1⟩
      try go_simp
      have hR := ht1.keep (alloc_old (alloc_new w (Obj.cells #[.bool false, .string ⟨#[]⟩, .int .i64 0] 23)) _) (by simp)
      have hB := ht1.keep (alloc_new1 w (Obj.cells #[.bool false, .string ⟨#[]⟩, .int .i64 0] 23) _) (by simp)
      have hT := (((Touch.refl [] w).alloc _).alloc _).trans ht1
      have hz1 : w.heap.size + 1 < w1.heap.size := block_lt hB
      have hz0 : w.heap.size < w1.heap.size := by omega
      have c0 := cell_at hB 0
      have c1 := cell_at hB 1
      have c2 := cell_at hB 2
      have f1 := free_at hB 1
      simp at c0 c1 c2
      clear ht1
      go_wp2_with fail
      refine (hnc _).mono ?_
      rintro r w2 ⟨rfl, ht2⟩
      try go_simp
      have hR2 := ht2.keep (set_other hR (a := ⟨w.heap.size + 1, 1, none⟩) (by simp) (.string (str D))) (by simp)
      have hT2 := (hT.setCell (p := ⟨w.heap.size + 1, 1, none⟩) (by simp) (.string (str D))).trans ht2
      have q0 := cell_at hR2 0
      have q1 := cell_at hR2 1
      have q2 := cell_at hR2 2
      have p0 := free_at hR2 0
      have p1 := free_at hR2 1
      have p2 := free_at hR2 2
      have hz2 : w.heap.size < w2.heap.size := block_lt hR2
      simp at q0 q1 q2
      clear c0 c1 c2 f1 hz0 hz1
      go_wp2
      exact bodyPost_ret (v := .tuple #[.agg #[.bool s', .string (str d'), .int .i64 e'], .bool true]) (by simp [results, Tryd.results18, go_sem, q0, q1, q2]) rfl ⟨rfl, ((hT2.setCell (by simp) _).setCell (by simp) _).setCell (by simp) _⟩
    · clear hlead hct
      go_enter Tryd.func18, Tryd.ntmps18
      go_wp2_with fail
      refine (hrun _).mono ?_
      rintro e w1 ⟨rfl, ht1⟩
      try go_simp
      have hR := ht1.keep (alloc_old (alloc_new w (Obj.cells #[.bool false, .string ⟨#[]⟩, .int .i64 0] 23)) _) (by simp)
      have hB := ht1.keep (alloc_new1 w (Obj.cells #[.bool false, .string ⟨#[]⟩, .int .i64 0] 23) _) (by simp)
      have hT := (((Touch.refl [] w).alloc _).alloc _).trans ht1
      have hz1 : w.heap.size + 1 < w1.heap.size := block_lt hB
      have hz0 : w.heap.size < w1.heap.size := by omega
      have c0 := cell_at hB 0
      have c1 := cell_at hB 1
      have c2 := cell_at hB 2
      have f1 := free_at hB 1
      simp at c0 c1 c2
      clear ht1
      go_wp2_with fail
      refine (hnc _).mono ?_
      rintro r w2 ⟨rfl, ht2⟩
      try go_simp
      have hR2 := ht2.keep (set_other hR (a := ⟨w.heap.size + 1, 1, none⟩) (by simp) (.string (str D))) (by simp)
      have hT2 := (hT.setCell (p := ⟨w.heap.size + 1, 1, none⟩) (by simp) (.string (str D))).trans ht2
      have q0 := cell_at hR2 0
      have q1 := cell_at hR2 1
      have q2 := cell_at hR2 2
      have p0 := free_at hR2 0
      have p1 := free_at hR2 1
      have p2 := free_at hR2 2
      have hz2 : w.heap.size < w2.heap.size := block_lt hR2
      simp at q0 q1 q2
      clear c0 c1 c2 f1 hz0 hz1
      go_wp2
      exact bodyPost_ret (v := .tuple #[.agg #[.bool s', .string (str d'), .int .i64 e'], .bool true]) (by simp [results, Tryd.results18, go_sem, q0, q1, q2]) rfl ⟨rfl, ((hT2.setCell (by simp) _).setCell (by simp) _).setCell (by simp) _⟩
end Go.Proofs.YtcpfooceadgccaaDoor
