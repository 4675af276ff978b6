/- The program's layer of digits: what is read. -/
import Derived.Test.YtcpfooceadgccaaDoorDigQ
import Derived.Deep.DeepCutAuto
import Derived.Deep.RegionHeld3
import Derived.StillTailTactics
import Derived.Outline
namespace Go.Proofs.YtcpfooceadgccaaDoor
open Go.RowKit Go.Shelf
set_option maxRecDepth 100000
set_option maxHeartbeats 4000000
set_option linter.unusedVariables false
set_option linter.unusedSimpArgs false


theorem pread_any (l : List UInt8) (w : World) (hl : l.length ≤ 100000000000) :
    Calls Tryd.prog 17 #[.string (str l)] w fun e w' => e = .returned (.tuple #[dec ((Dig.read l).getD Dig.zero), .bool (Dig.read l).isSome]) ∧ Touch [] w w' := by
  have sz := str_size l
  go_enter Tryd.func17, Tryd.ntmps17
  go_upto_region 2 with (fail)
  go_cut [0] (fun v wx => ∃ (t : List UInt8) (sg : Bool), v = .string (str t) ∧ t.length ≤ l.length ∧ Box (Dig.read l = Dig.readBody sg t) ∧ RSt w wx sg [] 0)
  case first =>
    have hst : RSt w ((w.alloc (Obj.cells #[.bool false, .string ⟨#[]⟩, .int .i64 0] 23)).alloc (Obj.cells #[.bool false, .string ⟨#[]⟩, .int .i64 0] 23)) false [] 0 := ⟨alloc_old (alloc_new _ _) _, alloc_new1 _ _ _, by simp, ((Touch.refl _ _).alloc _).alloc _⟩
    by_cases h1 : l.head? = some 45
    · obtain ⟨t, ht⟩ : ∃ t, l = 45 :: t := by cases l with | nil => simp at h1 | cons b u => exact ⟨u, by simp at h1; rw [h1]⟩
      have hsp : Box (Dig.read (45 :: t) = Dig.readBody true t) := ⟨rfl⟩
      subst ht
      have hcp := cutp_yes 45 t
      clear h1
      go_wp2_with fail
      refine (hcp _).mono ?_
      rintro e w0 ⟨rfl, rfl⟩
      try go_simp
      go_wp2
      go_meet
      have hst : RSt w ((w.alloc (Obj.cells #[.bool false, .string ⟨#[]⟩, .int .i64 0] 23)).alloc (Obj.cells #[.bool true, .string ⟨#[]⟩, .int .i64 0] 23)) true [] 0 := ⟨alloc_old (alloc_new _ _) _, alloc_new1 _ _ _, by simp, ((Touch.refl _ _).alloc _).alloc _⟩
      exact ⟨t, true, rfl, by simp, hsp, hst⟩
    · have hcp := cutp_no 45 l h1
      have hsp : Box (Dig.read l = Dig.readBody false l) := ⟨by unfold Dig.read; rw [if_neg h1]⟩
      clear h1
      go_wp2_with fail
      refine (hcp _).mono ?_
      rintro e w0 ⟨rfl, rfl⟩
      try go_simp
      go_wp2
      go_meet
      exact ⟨l, false, rfl, by simp, hsp, hst⟩
  case rest =>
    obtain ⟨t, sg, rfl, htl, hsp, hst⟩ := hcut
    have szt := str_size t
    obtain ⟨n, hn0⟩ : ∃ n, n = Dig.run t := ⟨_, rfl⟩
    have hin : n ≤ t.length := by rw [hn0]; exact Dig.run_le t
    have hn : Box (n = Dig.run (t.drop 0)) := ⟨hn0⟩
    have hcall := fun w => prun_any t w (by omega)
    rw [← hn0] at hcall
    clear hn0
    obtain ⟨hR, hB, hs, hT⟩ := hst
    go_wp2_with fail
    refine (hcall _).mono ?_
    rintro e w1 ⟨rfl, ht1⟩
    try go_simp
    have hst : RSt w w1 sg [] 0 := ⟨ht1.keep hR (by simp), ht1.keep hB (by simp), Nat.le_trans hs ht1.size, hT.trans ht1⟩
    clear ht1 hcall hR hB hs hT
    go_upto_region 4 with (fail)
    go_cut [29] (fun v wx => (∃ b : Bool, v = .bool b ∧ Box (b = decide (n = 0 ∨ (1 < n ∧ t[0]? = some 48)))) ∧ RSt w wx sg [] 0)
    case first =>
      by_cases h0 : n = 0
      · have t1 : ((n : Int) == 0) = true := by rw [h0]; rfl
        have hb : Box (true = decide (n = 0 ∨ (1 < n ∧ t[0]? = some 48))) := ⟨by simp [h0]⟩
        clear h0
        go_wp2
        go_meet
        exact ⟨⟨_, rfl, hb⟩, hst⟩
      have t1 : ((n : Int) == 0) = false := by rw [beq_eq_false_iff_ne]; omega
      by_cases h1 : 1 < n
      · obtain ⟨c, hc⟩ : ∃ c, t[0]? = some c := ⟨t[0]'(by omega), by simp⟩
        have i0 : ∀ w, (Instr.index 9 (.string (str t)) (.int .i64 0)).run Tryd.prog w = .ok (.int .u8 c.toNat) w := fun w => run_ix Tryd.underlying9 t .i64 0 c hc w
        have hb : Box (((c.toNat : Int) == 48) = decide (n = 0 ∨ (1 < n ∧ t[0]? = some 48))) := ⟨by rw [byte_48, hc]; simp [h0, h1]⟩
        clear hc
        go_wp2
        go_meet
        exact ⟨⟨_, rfl, hb⟩, hst⟩
      · have hb : Box (false = decide (n = 0 ∨ (1 < n ∧ t[0]? = some 48))) := ⟨by simp [h0, h1]⟩
        go_wp2
        go_meet
        exact ⟨⟨_, rfl, hb⟩, hst⟩
    case rest =>
      obtain ⟨⟨b, rfl, hb⟩, hst⟩ := hcut
      cases hbb : b with
      | true =>
        replace hsp : Box (Dig.read l = none) := ⟨by rw [hsp.out]; exact Dig.readBody_bad sg t 0 n hn.out (by have := hb.out; rw [hbb] at this; simpa using this.symm)⟩
        subst hbb
        clear hb
        obtain ⟨hR, hB, hs, hT⟩ := hst
        have c0 := cell_at hB 0
        have c1 := cell_at hB 1
        have c2 := cell_at hB 2
        have f0 := free_at hB 0
        have f1 := free_at hB 1
        have f2 := free_at hB 2
        have r0 := cell_at hR 0
        have r1 := cell_at hR 1
        have r2 := cell_at hR 2
        have g0 := free_at hR 0
        have g1 := free_at hR 1
        have g2 := free_at hR 2
        have hz0 : w.heap.size < (wc).heap.size := by omega
        have hz1 : w.heap.size + 1 < (wc).heap.size := by omega
        simp at c0 c1 c2 r0 r1 r2
        go_wp2
        exact bodyPost_ret (v := .tuple #[dec Dig.zero, .bool false]) (by simp [results, Tryd.results17, go_sem, Dig.zero, str, r0, r1, r2]) rfl ⟨by rw [hsp.out]; rfl, ((hT.setCell (by simp) _).setCell (by simp) _).setCell (by simp) _⟩
      | false =>
        have hok : Box (¬ (n = 0 ∨ (1 < n ∧ t[0]? = some 48))) := ⟨by have := hb.out; rw [hbb] at this; simpa using this⟩
        subst hbb
        clear hb
        have i1 : ∀ w, (Instr.slice 9 (.string (str t)) none (some (.int .i64 (n : Int))) none).run Tryd.prog w = .ok (.string (str (t.take n))) w := fun w => run_to Tryd.underlying9 t .i64 n hin w
        have i2 : ∀ w, (Instr.slice 9 (.string (str t)) (some (.int .i64 (n : Int))) none none).run Tryd.prog w = .ok (.string (str (t.drop n))) w := fun w => run_from Tryd.underlying9 t .i64 n hin w
        go_upto_region 6 with (fail)
        go_cut [0] (fun v wx => v = .string (str (t.drop n)) ∧ RSt w wx sg (t.take n) 0)
        case first =>
          obtain ⟨hR, hB, hs, hT⟩ := hst
          have c0 := cell_at hB 0
          have c1 := cell_at hB 1
          have c2 := cell_at hB 2
          have f0 := free_at hB 0
          have f1 := free_at hB 1
          have f2 := free_at hB 2
          have r0 := cell_at hR 0
          have r1 := cell_at hR 1
          have r2 := cell_at hR 2
          have g0 := free_at hR 0
          have g1 := free_at hR 1
          have g2 := free_at hR 2
          have hz0 : w.heap.size < (wc).heap.size := by omega
          have hz1 : w.heap.size + 1 < (wc).heap.size := by omega
          simp at c0 c1 c2 r0 r1 r2
          go_region
          all_goals
            go_wp2_with fail
            go_meet
            exact ⟨rfl, set_other hR (by simp) _, set_same hB 1 _, by simpa using hs, (hT.setCell (by simp) _).drew⟩
        case rest =>
          obtain ⟨rfl, hst⟩ := hcut
          obtain ⟨D0, hD0⟩ : ∃ D0, D0 = t.take n := ⟨_, rfl⟩
          obtain ⟨t2, ht2⟩ : ∃ t2, t2 = t.drop n := ⟨_, rfl⟩
          rw [← ht2]
          rw [← hD0] at hst
          have hD0l : D0.length ≤ l.length := by rw [hD0]; simp; omega
          have ht2l : t2.length ≤ l.length := by rw [ht2]; simp; omega
          have hpt : Box (t2.head? = t[n]?) := ⟨by rw [ht2, Dig.head_drop]⟩
          replace hD0 : Box (D0 = t.take n) := ⟨hD0⟩
          replace ht2 : Box (t2 = t.drop n) := ⟨ht2⟩
          clear i1 i2
          go_upto_region 7 with (fail)
          go_cut [6, 7] (fun v6 v7 wx => ∃ (t' : List UInt8) (b : Bool), v6 = .string (str t') ∧ v7 = .bool b ∧ t'.length ≤ l.length ∧ Box (b = decide (t2.head? = some 46) ∧ (b = false ∨ t2 = 46 :: t')) ∧ RSt w wx sg D0 0)
          case first =>
            by_cases h1 : t2.head? = some 46
            · obtain ⟨t', ht'⟩ : ∃ t', t2 = 46 :: t' := by cases t2 with | nil => simp at h1 | cons b u => exact ⟨u, by simp at h1; rw [h1]⟩
              have hbx : Box (true = decide (t2.head? = some 46) ∧ (true = false ∨ t2 = 46 :: t')) := ⟨by simp [h1], Or.inr ht'⟩
              have hl' : t'.length ≤ l.length := by rw [ht'] at ht2l; simp at ht2l; omega
              have hcp : ∀ w, Calls Tryd.prog 42 #[.string (str t2), .string ⟨#[46]⟩] w fun e w' => e = .returned (.tuple #[.string (str t'), .bool true]) ∧ w = w' := by rw [ht']; exact cutp_yes 46 t'
              clear h1 ht'
              go_wp2_with fail
              refine (hcp _).mono ?_
              rintro e w0 ⟨rfl, rfl⟩
              try go_simp
              go_wp2
              go_meet
              exact ⟨t', true, rfl, rfl, hl', hbx, hst⟩
            · have hbx : Box (false = decide (t2.head? = some 46) ∧ (false = false ∨ t2 = 46 :: t2)) := ⟨by simpa using h1, Or.inl rfl⟩
              have hcp := cutp_no 46 t2 h1
              clear h1
              go_wp2_with fail
              refine (hcp _).mono ?_
              rintro e w0 ⟨rfl, rfl⟩
              try go_simp
              go_wp2
              go_meet
              exact ⟨t2, false, rfl, rfl, ht2l, ⟨⟨hbx.out.1, Or.inl rfl⟩⟩, hst⟩
          case rest =>
            obtain ⟨t', b, rfl, rfl, hl', hbx, hst⟩ := hcut
            have szt' := str_size t'
            go_upto_if 43 with (fail)
            go_cut [0] (fun v wx => ∃ (t3 D : List UInt8) (E : Int), v = .string (str t3) ∧ t3.length ≤ l.length ∧ D.length ≤ 2 * l.length ∧ -100000000000 ≤ E ∧ E ≤ 0 ∧ Box (Dig.read l = (Dig.readExp t3).map fun e => Dig.norm ⟨sg, D, E + e⟩) ∧ RSt w wx sg D E)
            case first =>
              cases hbb : b with
              | false =>
                have hp : ¬ t[0 + n]? = some 46 := by
                  have h1 := hbx.out.1
                  rw [hbb, hpt.out] at h1
                  simpa using h1
                have hsp1 : Box (Dig.read l = (Dig.readExp t2).map fun e => Dig.norm ⟨sg, D0, 0 + e⟩) := ⟨by
                  have := Dig.readBody_plain sg t 0 n hn.out hok.out hp
                  rw [hsp.out, hD0.out, ht2.out]
                  simpa using this⟩
                clear hp
                subst hbb
                go_wp2
                go_meet
                exact ⟨t2, D0, 0, rfl, ht2l, by omega, by omega, by omega, hsp1, hst⟩
              | true =>
                have hp : t[0 + n]? = some 46 := by
                  have h1 := hbx.out.1
                  rw [hbb, hpt.out] at h1
                  simpa using h1.symm
                have ht2' : t2 = 46 :: t' := hbx.out.2.resolve_left (by rw [hbb]; simp)
                have htd : t.drop (0 + n + 1) = t' := by
                  have := ht2.out
                  rw [ht2'] at this
                  rw [← List.drop_drop (i := 1) (j := 0 + n), Nat.zero_add, ← this]; rfl
                obtain ⟨m, hm0⟩ : ∃ m, m = Dig.run t' := ⟨_, rfl⟩
                have hml : m ≤ t'.length := by rw [hm0]; exact Dig.run_le _
                have hcall := fun w => prun_any t' w (by omega)
                rw [← hm0] at hcall
                replace hp : Box (t[0 + n]? = some 46) := ⟨hp⟩
                have hm : Box (m = Dig.run t') := ⟨hm0⟩
                replace htd : Box (t.drop (0 + n + 1) = t') := ⟨htd⟩
                subst hbb
                clear hm0 ht2' hbx
                obtain ⟨hR, hB, hs, hT⟩ := hst
                go_wp2_with fail
                refine (hcall _).mono ?_
                rintro e w1 ⟨rfl, ht1⟩
                try go_simp
                have hst : RSt w w1 sg D0 0 := ⟨ht1.keep hR (by simp), ht1.keep hB (by simp), Nat.le_trans hs ht1.size, hT.trans ht1⟩
                clear ht1 hcall hR hB hs hT
                obtain ⟨hR, hB, hs, hT⟩ := hst
                have c0 := cell_at hB 0
                have c1 := cell_at hB 1
                have c2 := cell_at hB 2
                have f0 := free_at hB 0
                have f1 := free_at hB 1
                have f2 := free_at hB 2
                have r0 := cell_at hR 0
                have r1 := cell_at hR 1
                have r2 := cell_at hR 2
                have g0 := free_at hR 0
                have g1 := free_at hR 1
                have g2 := free_at hR 2
                have hz0 : w.heap.size < (w1).heap.size := by omega
                have hz1 : w.heap.size + 1 < (w1).heap.size := by omega
                simp at c0 c1 c2 r0 r1 r2
                by_cases hm0 : m = 0
                · have t1 : ((m : Int) == 0) = true := by rw [hm0]; rfl
                  replace hsp : Box (Dig.read l = none) := ⟨by
                    rw [hsp.out]
                    exact Dig.readBody_point_bad sg t 0 n hn.out hok.out hp.out (by rw [htd.out, ← hm.out]; exact hm0)⟩
                  clear hm0
                  go_wp2
                  exact bodyPost_ret (v := .tuple #[dec Dig.zero, .bool false]) (by simp [results, Tryd.results17, go_sem, Dig.zero, str, r0, r1, r2]) rfl ⟨by rw [hsp.out]; rfl, ((hT.setCell (by simp) _).setCell (by simp) _).setCell (by simp) _⟩
                · have t1 : ((m : Int) == 0) = false := by rw [beq_eq_false_iff_ne]; omega
                  have hsp1 : Box (Dig.read l = (Dig.readExp (t'.drop m)).map fun e => Dig.norm ⟨sg, D0 ++ t'.take m, -(m : Int) + e⟩) := ⟨by
                    have := Dig.readBody_point sg t 0 n m hn.out hok.out hp.out (by rw [htd.out]; exact hm.out) hm0
                    rw [← List.drop_drop (i := m) (j := 0 + n + 1), htd.out] at this
                    rw [hsp.out, hD0.out]
                    simpa using this⟩
                  clear hm0
                  have i1 : ∀ w, (Instr.slice 9 (.string (str t')) none (some (.int .i64 (m : Int))) none).run Tryd.prog w = .ok (.string (str (t'.take m))) w := fun w => run_to Tryd.underlying9 t' .i64 m hml w
                  have i2 : ∀ w, (Instr.slice 9 (.string (str t')) (some (.int .i64 (m : Int))) none none).run Tryd.prog w = .ok (.string (str (t'.drop m))) w := fun w => run_from Tryd.underlying9 t' .i64 m hml w
                  have hcat := run_cat (P := Tryd.prog) D0 (t'.take m) (by simp; omega)
                  have e1 : IntKind.i64.wrap (-(m : Int)) = -(m : Int) := IntWalk.i64_in _ (by omega)
                  go_wp2
                  go_region
                  all_goals
                    go_wp2_with fail
                    go_meet
                    exact ⟨t'.drop m, D0 ++ t'.take m, -(m : Int), rfl, by simp; omega, by simp; omega, by omega, by omega, hsp1, set_other (set_other hR (by simp) _) (by simp) _, set_same (set_same hB 1 _) 2 _, by simpa using hs, ((hT.setCell (by simp) _).setCell (by simp) _).drew⟩
            case rest =>
              obtain ⟨t3, D, E, rfl, ht3, hD, hE1, hE2, hsp, hst⟩ := hcut
              have hcall := fun w => pexp_any t3 w (by omega)
              cases hx : Dig.readExp t3 with
              | none =>
                rw [hx] at hcall
                replace hcall : ∀ w, Calls Tryd.prog 44 #[.string (str t3)] w fun e w' => e = .returned (.tuple #[.int .i64 0, .bool false]) ∧ Touch [] w w' := hcall
                replace hsp : Box (Dig.read l = none) := ⟨by rw [hsp.out, hx]; rfl⟩
                clear hx
                obtain ⟨hR, hB, hs, hT⟩ := hst
                go_wp2_with fail
                refine (hcall _).mono ?_
                rintro e w1 ⟨rfl, ht1⟩
                try go_simp
                have hst : RSt w w1 sg D E := ⟨ht1.keep hR (by simp), ht1.keep hB (by simp), Nat.le_trans hs ht1.size, hT.trans ht1⟩
                clear ht1 hcall hR hB hs hT
                obtain ⟨hR, hB, hs, hT⟩ := hst
                have c0 := cell_at hB 0
                have c1 := cell_at hB 1
                have c2 := cell_at hB 2
                have f0 := free_at hB 0
                have f1 := free_at hB 1
                have f2 := free_at hB 2
                have r0 := cell_at hR 0
                have r1 := cell_at hR 1
                have r2 := cell_at hR 2
                have g0 := free_at hR 0
                have g1 := free_at hR 1
                have g2 := free_at hR 2
                have hz0 : w.heap.size < (w1).heap.size := by omega
                have hz1 : w.heap.size + 1 < (w1).heap.size := by omega
                simp at c0 c1 c2 r0 r1 r2
                go_wp2
                exact bodyPost_ret (v := .tuple #[dec Dig.zero, .bool false]) (by simp [results, Tryd.results17, go_sem, Dig.zero, str, r0, r1, r2]) rfl ⟨by rw [hsp.out]; rfl, ((hT.setCell (by simp) _).setCell (by simp) _).setCell (by simp) _⟩
              | some e =>
                have heb := Dig.readExp_bound t3 e hx
                rw [hx] at hcall
                replace hcall : ∀ w, Calls Tryd.prog 44 #[.string (str t3)] w fun r w' => r = .returned (.tuple #[.int .i64 e, .bool true]) ∧ Touch [] w w' := hcall
                replace hsp : Box (Dig.read l = some (Dig.norm ⟨sg, D, E + e⟩)) := ⟨by rw [hsp.out, hx]; rfl⟩
                clear hx
                obtain ⟨hR, hB, hs, hT⟩ := hst
                go_wp2_with fail
                refine (hcall _).mono ?_
                rintro e w1 ⟨rfl, ht1⟩
                try go_simp
                have hst : RSt w w1 sg D E := ⟨ht1.keep hR (by simp), ht1.keep hB (by simp), Nat.le_trans hs ht1.size, hT.trans ht1⟩
                clear ht1 hcall hR hB hs hT
                obtain ⟨hE3, hE4⟩ := heb
                have e1 : IntKind.i64.wrap (E + e) = E + e := IntWalk.i64_in _ (by omega)
                obtain ⟨y, hy⟩ : ∃ y, y = Dig.norm ⟨sg, D, E + e⟩ := ⟨_, rfl⟩
                have hnc := fun w => pnorm_any ⟨sg, D, E + e⟩ w (show D.length ≤ _ by omega) (show E + e ≤ _ by omega) (show _ ≤ E + e by omega)
                rw [← hy] at hnc
                replace hnc : ∀ w, Calls Tryd.prog 24 #[.agg #[.bool sg, .string (str D), .int .i64 (E + e)]] w fun r w' => r = .returned (.agg #[.bool y.neg, .string (str y.d), .int .i64 y.e]) ∧ Touch [] w w' := hnc
                replace hsp : Box (Dig.read l = some y) := ⟨by rw [hsp.out, hy]⟩
                clear hy
                obtain ⟨s', d', e'⟩ := y
                obtain ⟨hR, hB, hs, hT⟩ := hst
                have c0 := cell_at hB 0
                have c1 := cell_at hB 1
                have c2 := cell_at hB 2
                have f0 := free_at hB 0
                have f1 := free_at hB 1
                have f2 := free_at hB 2
                have r0 := cell_at hR 0
                have r1 := cell_at hR 1
                have r2 := cell_at hR 2
                have g0 := free_at hR 0
                have g1 := free_at hR 1
                have g2 := free_at hR 2
                have hz0 : w.heap.size < (w1).heap.size := by omega
                have hz1 : w.heap.size + 1 < (w1).heap.size := by omega
                simp at c0 c1 c2 r0 r1 r2
                go_wp2_with fail
                refine (hnc _).mono ?_
                rintro r w2 ⟨rfl, ht2⟩
                try go_simp
                have hR2 := ht2.keep (set_other hR (a := ⟨w.heap.size + 1, 2, none⟩) (by simp) (.int .i64 (E + e))) (by simp)
                have hT2 := (hT.setCell (p := ⟨w.heap.size + 1, 2, none⟩) (by simp) (.int .i64 (E + e))).trans ht2
                have q0 := cell_at hR2 0
                have q1 := cell_at hR2 1
                have q2 := cell_at hR2 2
                have p0 := free_at hR2 0
                have p1 := free_at hR2 1
                have p2 := free_at hR2 2
                have hz2 : w.heap.size < w2.heap.size := block_lt hR2
                simp at q0 q1 q2
                clear c0 c1 c2 f0 f1 f2 r0 r1 r2 g0 g1 g2 hz0 hz1
                go_wp2
                exact bodyPost_ret (v := .tuple #[dec ⟨s', d', e'⟩, .bool true]) (by simp [results, Tryd.results17, go_sem, q0, q1, q2]) rfl ⟨by rw [hsp.out]; rfl, ((hT2.setCell (by simp) _).setCell (by simp) _).setCell (by simp) _⟩
end Go.Proofs.YtcpfooceadgccaaDoor
