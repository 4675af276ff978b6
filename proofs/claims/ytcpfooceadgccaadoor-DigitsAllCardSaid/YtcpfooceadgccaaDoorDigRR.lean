/- The reference's layer of digits: what is read. -/
import Derived.Test.YtcpfooceadgccaaDoorDigRC
import Derived.Test.YtcpfooceadgccaaDoorDigRX
import Derived.Deep.DeepCutAuto
import Derived.StillTailTactics
import Derived.Outline
namespace Go.Proofs.YtcpfooceadgccaaDoor
open Go.RowKit
set_option maxRecDepth 100000
set_option maxHeartbeats 4000000
set_option linter.unusedVariables false
set_option linter.unusedSimpArgs false




theorem rread_any (l : List UInt8) (w : World) (hl : l.length ≤ 100000000000) :
    Calls Tryd.prog 18 #[.string (str l)] w fun e w' => e = .returned (.tuple #[dec ((Dig.read l).getD Dig.zero), .bool (Dig.read l).isSome]) ∧ Touch [] w w' := by
  have sz := str_size l
  let kp : Exit → Act → World → Prop := bodyPost Tryd.prog Tryd.f18 (fun _ _ => True)
  refine calls_post Tryd.func18 rfl ?_
  intro Q hQ
  simp only [Tryd.ntmps18, List.size_toArray, List.length_cons, List.length_nil, Nat.reduceAdd, Nat.reduceSub, Array.replicate_succ, Array.replicate_zero, List.push_toArray, List.append_toArray, List.nil_append, List.cons_append]
  go_upto_region 3 with (fail)
  go_cut [20] (fun v wx => (∃ b : Bool, v = .bool b ∧ Box (b = decide (l[0]? = some 45))) ∧ RSt w wx false [] 0)
  case first => as_aux_lemma =>
    have hst : RSt w ((w.alloc (Obj.cells #[.bool false, .string ⟨#[]⟩, .int .i64 0] 23)).alloc (Obj.cells #[.bool false, .string ⟨#[]⟩, .int .i64 0] 23)) false [] 0 := ⟨alloc_old (alloc_new _ _) _, alloc_new1 _ _ _, by simp, ((Touch.refl _ _).alloc _).alloc _⟩
    cases l with
    | nil =>
      go_wp2
      go_meet
      exact ⟨⟨false, rfl, ⟨rfl⟩⟩, hst⟩
    | cons c t =>
      have i0 : ∀ w, (Instr.index 9 (.string (str (c :: t))) (.int .i64 0)).run Tryd.prog w = .ok (.int .u8 c.toNat) w := fun w => run_ix Tryd.underlying9 (c :: t) .i64 0 c rfl w
      have t0 : 0 < (c :: t).length := by simp
      go_wp2
      go_meet
      exact ⟨⟨_, rfl, ⟨by simp [byte_45]⟩⟩, hst⟩
  case rest =>
    obtain ⟨⟨b, rfl, hb⟩, hst⟩ := hcut
    go_upto_if 20 with (fail)
    go_cut [4] (fun v wx => ∃ (i : Nat) (sg : Bool), v = .int .i64 i ∧ i ≤ l.length ∧ Box (Dig.read l = Dig.readBody sg (l.drop i)) ∧ RSt w wx sg [] 0)
    case first => as_aux_lemma =>
      obtain ⟨hR, hB, hs, hT⟩ := hst
      have c0 := cell_at hB 0
      have c1 := cell_at hB 1
      have c2 := cell_at hB 2
      have f0 := free_at hB 0
      have f1 := free_at hB 1
      have f2 := free_at hB 2
      have r0 := cell_at hR 0
      have r1 := cell_at hR 1
      have r2 := cell_at hR 2
      have g0 := free_at hR 0
      have g1 := free_at hR 1
      have g2 := free_at hR 2
      have hz0 : w.heap.size < (wc).heap.size := by omega
      have hz1 : w.heap.size + 1 < (wc).heap.size := by omega
      simp at c0 c1 c2 r0 r1 r2
      cases hbb : b with
      | true =>
        have h1 : l[0]? = some 45 := by rw [hbb] at hb; simpa using hb.out.symm
        have hsp : Box (Dig.read l = Dig.readBody true (l.drop 1)) := ⟨Dig.read_neg l h1⟩
        have hl1 : 1 ≤ l.length := by have := (List.getElem?_eq_some_iff.1 h1).1; omega
        clear h1 hb
        subst hbb
        go_wp2
        go_meet
        exact ⟨1, true, rfl, hl1, hsp, set_other hR (by simp) _, set_same hB 0 _, by simpa using hs, hT.setCell (by simp) _⟩
      | false =>
        have h1 : ¬ l[0]? = some 45 := by rw [hbb] at hb; simpa using hb.out
        have hsp : Box (Dig.read l = Dig.readBody false (l.drop 0)) := ⟨Dig.read_pos l h1⟩
        clear h1 hb
        subst hbb
        go_wp2
        go_meet
        exact ⟨0, false, rfl, by omega, hsp, hR, hB, hs, hT⟩
    case rest =>
      obtain ⟨i, sg, rfl, hi, hsp, hst⟩ := hcut
      obtain ⟨n, hn0⟩ : ∃ n, n = Dig.run (l.drop i) := ⟨_, rfl⟩
      have hin : i + n ≤ l.length := by have := Dig.run_le (l.drop i); rw [List.length_drop] at this; omega
      have hn : Box (n = Dig.run (l.drop i)) := ⟨hn0⟩
      have hcall : ∀ w, Calls Tryd.prog 45 #[.string (str l), .int .i64 i] w fun e w' => e = .returned (.int .i64 n) ∧ Touch [] w w' := fun w => by rw [hn0]; exact rrun_any l i w hi (by omega)
      clear hn0
      obtain ⟨hR, hB, hs, hT⟩ := hst
      go_wp2_with fail
      refine (hcall _).mono ?_
      rintro e w1 ⟨rfl, ht1⟩
      try go_simp
      replace hR := ht1.keep hR (by simp)
      replace hB := ht1.keep hB (by simp)
      replace hs : w.heap.size + 2 ≤ w1.heap.size := Nat.le_trans hs ht1.size
      replace hT := hT.trans ht1
      clear ht1 hcall
      go_upto_region 7 with (fail)
      go_cut [38] (fun v wx => (∃ b : Bool, v = .bool b ∧ Box (b = decide (n = 0 ∨ (1 < n ∧ l[i]? = some 48)))) ∧ RSt w wx sg [] 0)
      case first => as_aux_lemma =>
        by_cases h0 : n = 0
        · have t1 : ((n : Int) == 0) = true := by rw [h0]; rfl
          have hb : Box (true = decide (n = 0 ∨ (1 < n ∧ l[i]? = some 48))) := ⟨by simp [h0]⟩
          clear h0
          go_wp2
          go_meet
          exact ⟨⟨_, rfl, hb⟩, hR, hB, hs, hT⟩
        have t1 : ((n : Int) == 0) = false := by rw [beq_eq_false_iff_ne]; omega
        by_cases h1 : 1 < n
        · obtain ⟨c, hcb⟩ : ∃ c, Box (l[i]? = some c) := ⟨l[i]'(by omega), ⟨by simp⟩⟩
          have i0 : ∀ w, (Instr.index 9 (.string (str l)) (.int .i64 i)).run Tryd.prog w = .ok (.int .u8 (c).toNat) w := fun w => by
            have := run_ix Tryd.underlying9 l .i64 _ c hcb.out w
            simpa using this
          have hb : Box (((c.toNat : Int) == 48) = decide (n = 0 ∨ (1 < n ∧ l[i]? = some 48))) := ⟨by rw [byte_48, hcb.out]; simp [h0, h1]⟩
          go_wp2
          go_meet
          exact ⟨⟨_, rfl, hb⟩, hR, hB, hs, hT⟩
        · have hb : Box (false = decide (n = 0 ∨ (1 < n ∧ l[i]? = some 48))) := ⟨by simp [h0, h1]⟩
          go_wp2
          go_meet
          exact ⟨⟨_, rfl, hb⟩, hR, hB, hs, hT⟩
      case rest =>
        obtain ⟨⟨b, rfl, hb⟩, hst⟩ := hcut
        obtain ⟨hR, hB, hs, hT⟩ := hst
        have c0 := cell_at hB 0
        have c1 := cell_at hB 1
        have c2 := cell_at hB 2
        have f0 := free_at hB 0
        have f1 := free_at hB 1
        have f2 := free_at hB 2
        have r0 := cell_at hR 0
        have r1 := cell_at hR 1
        have r2 := cell_at hR 2
        have g0 := free_at hR 0
        have g1 := free_at hR 1
        have g2 := free_at hR 2
        have hz0 : w.heap.size < (wc).heap.size := by omega
        have hz1 : w.heap.size + 1 < (wc).heap.size := by omega
        simp at c0 c1 c2 r0 r1 r2
        cases hbb : b with
        | true =>
          replace hsp : Box (Dig.read l = none) := ⟨by rw [hsp.out]; exact Dig.readBody_bad sg l i n hn.out (by have := hb.out; rw [hbb] at this; simpa using this.symm)⟩
          subst hbb
          clear hb
          go_wp2
          exact hQ.ret (v := .tuple #[dec Dig.zero, .bool false]) (by simp [results, Tryd.results18, go_sem, Dig.zero, str, r0, r1, r2]) rfl ⟨by rw [hsp.out]; rfl, ((hT.setCell (by simp) _).setCell (by simp) _).setCell (by simp) _⟩
        | false =>
          have hok : Box (¬ (n = 0 ∨ (1 < n ∧ l[i]? = some 48))) := ⟨by have := hb.out; rw [hbb] at this; simpa using this⟩
          subst hbb
          clear hb
          have i1 : ∀ w, (Instr.slice 9 (.string (str l)) (some (.int .i64 i)) (some (.int .i64 ((i : Int) + n))) none).run Tryd.prog w = .ok (.string (str ((l.drop i).take n))) w := fun w => by
            have := run_mid Tryd.underlying9 l .i64 .i64 i (i + n) (by omega) hin w
            rw [show ((i + n : Nat) : Int) = (i : Int) + n by omega, show i + n - i = n by omega] at this
            exact this
          go_upto_region 11 with (fail)
          obtain ⟨J, hJ⟩ : ∃ J, J = i + n := ⟨_, rfl⟩
          have eJ : (i : Int) + (n : Int) = (J : Int) := by omega
          have hJl : J ≤ l.length := by omega
          rw [eJ]
          replace hJ : Box (J = i + n) := ⟨hJ⟩
          clear eJ i1
          obtain ⟨D0, hD0⟩ : ∃ D0, D0 = (l.drop i).take n := ⟨_, rfl⟩
          rw [← hD0]
          have hD0l : D0.length ≤ l.length := by rw [hD0]; simp; omega
          replace hD0 : Box (D0 = (l.drop i).take n) := ⟨hD0⟩
          go_cut [59] (fun v wx => (∃ b : Bool, v = .bool b ∧ Box (b = decide (l[J]? = some 46))) ∧ RSt w wx sg D0 0)
          case first => as_aux_lemma =>
            have hst : RSt w (wc.setCell ⟨w.heap.size + 1, 1, none⟩ (.string (str D0))) sg D0 0 := ⟨set_other hR (by simp) _, set_same hB 1 _, by simpa using hs, hT.setCell (by simp) _⟩
            by_cases hlt : J < l.length
            · obtain ⟨c, hcb⟩ : ∃ c, Box (l[J]? = some c) := ⟨l[J]'hlt, ⟨by simp⟩⟩
              have i0 : ∀ w, (Instr.index 9 (.string (str l)) (.int .i64 J)).run Tryd.prog w = .ok (.int .u8 (c).toNat) w := fun w => by
                have := run_ix Tryd.underlying9 l .i64 _ c hcb.out w
                simpa using this
              have hb : Box (((c.toNat : Int) == 46) = decide (l[J]? = some 46)) := ⟨by rw [byte_46, hcb.out]; simp⟩
              go_wp2
              go_meet
              exact ⟨⟨_, rfl, hb⟩, hst⟩
            · have hb : Box (false = decide (l[J]? = some 46)) := ⟨by rw [List.getElem?_eq_none (by omega)]; simp⟩
              go_wp2
              go_meet
              exact ⟨⟨_, rfl, hb⟩, hst⟩
          case rest =>
            obtain ⟨⟨b, rfl, hb⟩, hst⟩ := hcut
            go_upto_if 59 with (fail)
            go_cut [4] (fun v wx => ∃ (j : Nat) (D : List UInt8) (E : Int), v = .int .i64 j ∧ j ≤ l.length ∧ D.length ≤ 2 * l.length ∧ -100000000000 ≤ E ∧ E ≤ 0 ∧ Box (Dig.read l = (Dig.readExp (l.drop j)).map fun e => Dig.norm ⟨sg, D, E + e⟩) ∧ RSt w wx sg D E)
            case first => as_aux_lemma =>
              obtain ⟨hR, hB, hs, hT⟩ := hst
              have c0 := cell_at hB 0
              have c1 := cell_at hB 1
              have c2 := cell_at hB 2
              have f0 := free_at hB 0
              have f1 := free_at hB 1
              have f2 := free_at hB 2
              have r0 := cell_at hR 0
              have r1 := cell_at hR 1
              have r2 := cell_at hR 2
              have g0 := free_at hR 0
              have g1 := free_at hR 1
              have g2 := free_at hR 2
              have hz0 : w.heap.size < (wc).heap.size := by omega
              have hz1 : w.heap.size + 1 < (wc).heap.size := by omega
              simp at c0 c1 c2 r0 r1 r2
              cases hbb : b with
              | true =>
                have hp : l[J]? = some 46 := by have := hb.out; rw [hbb] at this; simpa using this.symm
                have hJ1 : J + 1 ≤ l.length := (List.getElem?_eq_some_iff.1 hp).1
                subst hbb
                clear hb
                obtain ⟨m, hm0⟩ : ∃ m, m = Dig.run (l.drop (J + 1)) := ⟨_, rfl⟩
                have hJm : J + 1 + m ≤ l.length := by have := Dig.run_le (l.drop (J + 1)); rw [List.length_drop] at this; omega
                have hcall : ∀ w, Calls Tryd.prog 45 #[.string (str l), .int .i64 ((J : Int) + 1)] w fun e w' => e = .returned (.int .i64 m) ∧ Touch [] w w' := fun w => by rw [hm0]; exact rrun_any l (J + 1) w hJ1 (by omega)
                replace hp : Box (l[J]? = some 46) := ⟨hp⟩
                have hm : Box (m = Dig.run (l.drop (J + 1))) := ⟨hm0⟩
                clear hm0
                clear c0 c1 c2 f0 f1 f2 r0 r1 r2 g0 g1 g2
                go_wp2_with fail
                refine (hcall _).mono ?_
                rintro e w1 ⟨rfl, ht1⟩
                try go_simp
                have hst : RSt w w1 sg D0 0 := ⟨ht1.keep hR (by simp), ht1.keep hB (by simp), Nat.le_trans hs ht1.size, hT.trans ht1⟩
                clear hR hB hs hT ht1 hcall hz0 hz1
                obtain ⟨hR, hB, hs, hT⟩ := hst
                have c0 := cell_at hB 0
                have c1 := cell_at hB 1
                have c2 := cell_at hB 2
                have f0 := free_at hB 0
                have f1 := free_at hB 1
                have f2 := free_at hB 2
                have r0 := cell_at hR 0
                have r1 := cell_at hR 1
                have r2 := cell_at hR 2
                have g0 := free_at hR 0
                have g1 := free_at hR 1
                have g2 := free_at hR 2
                have hz0 : w.heap.size < (w1).heap.size := by omega
                have hz1 : w.heap.size + 1 < (w1).heap.size := by omega
                simp at c0 c1 c2 r0 r1 r2
                by_cases hm0 : m = 0
                · have t1 : ((m : Int) == 0) = true := by rw [hm0]; rfl
                  replace hsp : Box (Dig.read l = none) := ⟨by
                    have := Dig.readBody_point_bad sg l i n hn.out hok.out (by rw [← hJ.out]; exact hp.out) (by rw [← hJ.out, ← hm.out]; exact hm0)
                    rw [hsp.out, this]⟩
                  clear hm0
                  go_wp2
                  exact hQ.ret (v := .tuple #[dec Dig.zero, .bool false]) (by simp [results, Tryd.results18, go_sem, Dig.zero, str, r0, r1, r2]) rfl ⟨by rw [hsp.out]; rfl, ((hT.setCell (by simp) _).setCell (by simp) _).setCell (by simp) _⟩
                · have t1 : ((m : Int) == 0) = false := by rw [beq_eq_false_iff_ne]; omega
                  have hsp1 : Box (Dig.read l = (Dig.readExp (l.drop (J + 1 + m))).map fun e => Dig.norm ⟨sg, D0 ++ (l.drop (J + 1)).take m, -(m : Int) + e⟩) := ⟨by
                    have := Dig.readBody_point sg l i n m hn.out hok.out (by rw [← hJ.out]; exact hp.out) (by rw [← hJ.out]; exact hm.out) hm0
                    rw [← hJ.out] at this
                    rw [hsp.out, this, hD0.out]⟩
                  clear hm0 hsp
                  have i1 : ∀ w, (Instr.slice 9 (.string (str l)) (some (.int .i64 ((J : Int) + 1))) (some (.int .i64 ((J : Int) + 1 + m))) none).run Tryd.prog w = .ok (.string (str ((l.drop (J + 1)).take m))) w := fun w => by
                    have := run_mid Tryd.underlying9 l .i64 .i64 (J + 1) (J + 1 + m) (by omega) hJm w
                    rw [show ((J + 1 + m : Nat) : Int) = (J : Int) + 1 + m by omega, show ((J + 1 : Nat) : Int) = (J : Int) + 1 by omega, show J + 1 + m - (J + 1) = m by omega] at this
                    exact this
                  have hXl : ((l.drop (J + 1)).take m).length ≤ l.length := by simp; omega
                  have hcat := run_cat (P := Tryd.prog) D0 ((l.drop (J + 1)).take m) (by omega)
                  have e1 : IntKind.i64.wrap ((J : Int) + 1) = (J : Int) + 1 := IntWalk.i64_in _ (by omega)
                  have e2 : IntKind.i64.wrap ((J : Int) + 1 + m) = (J : Int) + 1 + m := IntWalk.i64_in _ (by omega)
                  go_wp2
                  go_still_tail 12, (by kernel_rfl)
                  go_wp2
                  go_meet
                  refine ⟨J + 1 + m, D0 ++ (l.drop (J + 1)).take m, -(m : Int), ?_, hJm, by rw [List.length_append]; omega, by omega, by omega, hsp1, ?_⟩
                  · go_num
                  · exact ⟨set_other (set_other (drewN_heap hR _) (by simp) _) (by simp) _, set_same (set_same (drewN_heap hB _) 1 _) 2 _, by simpa using hs, ((hT.drewN _).setCell (by simp) _).setCell (by simp) _⟩
              | false =>
                have hp : ¬ l[J]? = some 46 := by have := hb.out; rw [hbb] at this; simpa using this
                have hsp1 : Box (Dig.read l = (Dig.readExp (l.drop J)).map fun e => Dig.norm ⟨sg, D0, 0 + e⟩) := ⟨by
                  have := Dig.readBody_plain sg l i n hn.out hok.out (by rw [← hJ.out]; exact hp)
                  rw [hsp.out, this, hJ.out, hD0.out]⟩
                subst hbb
                clear hp hb
                go_wp2
                go_meet
                exact ⟨J, D0, 0, rfl, hJl, by omega, by omega, by omega, hsp1, hR, hB, hs, hT⟩
            case rest =>
              obtain ⟨j, D, E, rfl, hj, hD, hE1, hE2, hsp, hst⟩ := hcut
              go_upto_region 18 with (fail)
              go_cut [101] (fun v wx => (∃ b : Bool, v = .bool b ∧ Box (b = decide (l[j]? = some 101 ∨ l[j]? = some 69))) ∧ RSt w wx sg D E)
              case first => as_aux_lemma =>
                by_cases hlt : j < l.length
                · obtain ⟨c, hcb⟩ : ∃ c, Box (l[j]? = some c) := ⟨l[j]'hlt, ⟨by simp⟩⟩
                  have i0 : ∀ w, (Instr.index 9 (.string (str l)) (.int .i64 j)).run Tryd.prog w = .ok (.int .u8 (c).toNat) w := fun w => by
                    have := run_ix Tryd.underlying9 l .i64 _ c hcb.out w
                    simpa using this
                  by_cases h1 : c = 101
                  · have t1 : ((c.toNat : Int) == 101) = true := by rw [h1]; rfl
                    have hb : Box (true = decide (l[j]? = some 101 ∨ l[j]? = some 69)) := ⟨by rw [hcb.out, h1]; simp⟩
                    clear h1
                    go_wp2
                    go_meet
                    exact ⟨⟨_, rfl, hb⟩, hst⟩
                  · have t1 : ((c.toNat : Int) == 101) = false := by rw [byte_101]; simpa using h1
                    have hb : Box (((c.toNat : Int) == 69) = decide (l[j]? = some 101 ∨ l[j]? = some 69)) := ⟨by rw [byte_69, hcb.out]; simp [h1]⟩
                    clear h1
                    go_wp2
                    go_meet
                    exact ⟨⟨_, rfl, hb⟩, hst⟩
                · have hb : Box (false = decide (l[j]? = some 101 ∨ l[j]? = some 69)) := ⟨by rw [List.getElem?_eq_none (by omega)]; simp⟩
                  go_wp2
                  go_meet
                  exact ⟨⟨_, rfl, hb⟩, hst⟩
              case rest =>
                obtain ⟨⟨b, rfl, hb⟩, hst⟩ := hcut
                go_upto_if 101 with (fail)
                go_cut [4] (fun v wx => ∃ (p : Nat) (E' : Int), v = .int .i64 p ∧ p ≤ l.length ∧ -200000000000 ≤ E' ∧ E' ≤ 1000000000 ∧ Box (Dig.read l = if p < l.length then none else some (Dig.norm ⟨sg, D, E'⟩)) ∧ RSt w wx sg D E')
                case first => as_aux_lemma =>
                  cases hbb : b with
                  | false =>
                    have hp : ¬ (l[j]? = some 101 ∨ l[j]? = some 69) := by have := hb.out; rw [hbb] at this; simpa using this
                    have hsp1 : Box (Dig.read l = if j < l.length then none else some (Dig.norm ⟨sg, D, E⟩)) := ⟨by
                      rw [hsp.out, Dig.readExp_none l j hp]
                      by_cases h2 : j < l.length
                      · rw [if_pos h2, if_pos h2]; rfl
                      · rw [if_neg h2, if_neg h2]; simp⟩
                    subst hbb
                    clear hp hb
                    go_wp2
                    go_meet
                    exact ⟨j, E, rfl, hj, by omega, by omega, hsp1, hst⟩
                  | true =>
                    have hp : l[j]? = some 101 ∨ l[j]? = some 69 := by have := hb.out; rw [hbb] at this; simpa using this.symm
                    have hj1 : j + 1 ≤ l.length := by rcases hp with hp | hp <;> exact (List.getElem?_eq_some_iff.1 hp).1
                    replace hsp : Box (Dig.read l = ((Dig.expDigits (l.drop (Dig.expSign l (j + 1)))).map fun n => if l[j + 1]? = some 45 then -(n : Int) else (n : Int)).map fun e => Dig.norm ⟨sg, D, E + e⟩) := ⟨by rw [hsp.out, Dig.readExp_e l j hp]⟩
                    subst hbb
                    clear hp hb
                    go_upto_region 20 with (fail)
                    obtain ⟨k, hk⟩ : ∃ k, k = j + 1 := ⟨_, rfl⟩
                    have ek : (j : Int) + 1 = (k : Int) := by omega
                    rw [← hk] at hj1 hsp
                    rw [ek]
                    clear ek hk
                    go_cut [7] (fun v wx => (∃ b : Bool, v = .bool b ∧ Box (b = decide (l[k]? = some 45))) ∧ RSt w wx sg D E)
                    case first => as_aux_lemma =>
                      by_cases hlt : k < l.length
                      · obtain ⟨c, hcb⟩ : ∃ c, Box (l[k]? = some c) := ⟨l[k]'hlt, ⟨by simp⟩⟩
                        have i0 : ∀ w, (Instr.index 9 (.string (str l)) (.int .i64 k)).run Tryd.prog w = .ok (.int .u8 (c).toNat) w := fun w => by
                          have := run_ix Tryd.underlying9 l .i64 _ c hcb.out w
                          simpa using this
                        have hb : Box (((c.toNat : Int) == 45) = decide (l[k]? = some 45)) := ⟨by rw [byte_45, hcb.out]; simp⟩
                        go_wp2
                        go_meet
                        exact ⟨⟨_, rfl, hb⟩, hst⟩
                      · have hb : Box (false = decide (l[k]? = some 45)) := ⟨by rw [List.getElem?_eq_none (by omega)]; simp⟩
                        go_wp2
                        go_meet
                        exact ⟨⟨_, rfl, hb⟩, hst⟩
                    case rest =>
                      obtain ⟨⟨mi, rfl, hmi⟩, hst⟩ := hcut
                      go_upto_region 21 with (fail)
                      go_cut [129] (fun v wx => (∃ b : Bool, v = .bool b ∧ Box (b = decide (l[k]? = some 45 ∨ l[k]? = some 43))) ∧ RSt w wx sg D E)
                      case first => as_aux_lemma =>
                        by_cases hlt : k < l.length
                        · obtain ⟨c, hcb⟩ : ∃ c, Box (l[k]? = some c) := ⟨l[k]'hlt, ⟨by simp⟩⟩
                          have i0 : ∀ w, (Instr.index 9 (.string (str l)) (.int .i64 k)).run Tryd.prog w = .ok (.int .u8 (c).toNat) w := fun w => by
                            have := run_ix Tryd.underlying9 l .i64 _ c hcb.out w
                            simpa using this
                          by_cases h1 : c = 45
                          · have t1 : ((c.toNat : Int) == 45) = true := by rw [h1]; rfl
                            have hb : Box (true = decide (l[k]? = some 45 ∨ l[k]? = some 43)) := ⟨by rw [hcb.out, h1]; simp⟩
                            clear h1
                            go_wp2
                            go_meet
                            exact ⟨⟨_, rfl, hb⟩, hst⟩
                          · have t1 : ((c.toNat : Int) == 45) = false := by rw [byte_45]; simpa using h1
                            have hb : Box (((c.toNat : Int) == 43) = decide (l[k]? = some 45 ∨ l[k]? = some 43)) := ⟨by rw [byte_43, hcb.out]; simp [h1]⟩
                            clear h1
                            go_wp2
                            go_meet
                            exact ⟨⟨_, rfl, hb⟩, hst⟩
                        · have hb : Box (false = decide (l[k]? = some 45 ∨ l[k]? = some 43)) := ⟨by rw [List.getElem?_eq_none (by omega)]; simp⟩
                          go_wp2
                          go_meet
                          exact ⟨⟨_, rfl, hb⟩, hst⟩
                      case rest =>
                        obtain ⟨⟨b, rfl, hb⟩, hst⟩ := hcut
                        go_upto_if 129 with (fail)
                        go_cut [4] (fun v wx => (∃ q : Nat, v = .int .i64 q ∧ q ≤ l.length ∧ Box (q = Dig.expSign l k)) ∧ RSt w wx sg D E)
                        case first => as_aux_lemma =>
                          cases hbb : b with
                          | true =>
                            have hp : l[k]? = some 45 ∨ l[k]? = some 43 := by have := hb.out; rw [hbb] at this; simpa using this.symm
                            have hk1 : k + 1 ≤ l.length := by rcases hp with hp | hp <;> exact (List.getElem?_eq_some_iff.1 hp).1
                            have hq : Box (k + 1 = Dig.expSign l k) := ⟨by unfold Dig.expSign; rw [if_pos hp]⟩
                            subst hbb
                            clear hp hb
                            go_wp2
                            go_meet
                            exact ⟨⟨k + 1, by go_num, hk1, hq⟩, hst⟩
                          | false =>
                            have hp : ¬ (l[k]? = some 45 ∨ l[k]? = some 43) := by have := hb.out; rw [hbb] at this; simpa using this
                            have hq : Box (k = Dig.expSign l k) := ⟨by unfold Dig.expSign; rw [if_neg hp]⟩
                            subst hbb
                            clear hp hb
                            go_wp2
                            go_meet
                            exact ⟨⟨k, rfl, hj1, hq⟩, hst⟩
                        case rest =>
                          obtain ⟨⟨q, rfl, hq, hqe⟩, hst⟩ := hcut
                          obtain ⟨m, hm0⟩ : ∃ m, m = Dig.run (l.drop q) := ⟨_, rfl⟩
                          have hqm : q + m ≤ l.length := by have := Dig.run_le (l.drop q); rw [List.length_drop] at this; omega
                          have hcall : ∀ w, Calls Tryd.prog 45 #[.string (str l), .int .i64 q] w fun e w' => e = .returned (.int .i64 m) ∧ Touch [] w w' := fun w => by rw [hm0]; exact rrun_any l q w hq (by omega)
                          have hm : Box (m = Dig.run (l.drop q)) := ⟨hm0⟩
                          clear hm0
                          obtain ⟨hR, hB, hs, hT⟩ := hst
                          go_wp2_with fail
                          refine (hcall _).mono ?_
                          rintro e w1 ⟨rfl, ht1⟩
                          try go_simp
                          have hst : RSt w w1 sg D E := ⟨ht1.keep hR (by simp), ht1.keep hB (by simp), Nat.le_trans hs ht1.size, hT.trans ht1⟩
                          clear hR hB hs hT ht1 hcall
                          obtain ⟨hR, hB, hs, hT⟩ := hst
                          have c0 := cell_at hB 0
                          have c1 := cell_at hB 1
                          have c2 := cell_at hB 2
                          have f0 := free_at hB 0
                          have f1 := free_at hB 1
                          have f2 := free_at hB 2
                          have r0 := cell_at hR 0
                          have r1 := cell_at hR 1
                          have r2 := cell_at hR 2
                          have g0 := free_at hR 0
                          have g1 := free_at hR 1
                          have g2 := free_at hR 2
                          have hz0 : w.heap.size < (w1).heap.size := by omega
                          have hz1 : w.heap.size + 1 < (w1).heap.size := by omega
                          simp at c0 c1 c2 r0 r1 r2
                          by_cases hm0 : m = 0
                          · have t1 : ((m : Int) == 0) = true := by rw [hm0]; rfl
                            replace hsp : Box (Dig.read l = none) := ⟨by
                              rw [hsp.out, ← hqe.out, Dig.expDigits_eq _ m hm.out, if_pos (Or.inl hm0)]; rfl⟩
                            clear hm0
                            go_wp2
                            exact hQ.ret (v := .tuple #[dec Dig.zero, .bool false]) (by simp [results, Tryd.results18, go_sem, Dig.zero, str, r0, r1, r2]) rfl ⟨by rw [hsp.out]; rfl, ((hT.setCell (by simp) _).setCell (by simp) _).setCell (by simp) _⟩
                          · have t1 : ((m : Int) == 0) = false := by rw [beq_eq_false_iff_ne]; omega
                            have hsp1 : Box (Dig.read l = if q + m < l.length then none else some (Dig.norm ⟨sg, D, E + if l[k]? = some 45 then -((((l.drop q).take m).foldl Dig.expo 0 : Nat) : Int) else ((((l.drop q).take m).foldl Dig.expo 0 : Nat) : Int)⟩)) := ⟨by
                              rw [hsp.out, ← hqe.out, Dig.expDigits_eq _ m hm.out]
                              by_cases h2 : q + m < l.length
                              · rw [if_pos (Or.inr (by simp; omega)), if_pos h2]; rfl
                              · rw [if_neg (by simp; omega), if_neg h2]; rfl⟩
                            clear hm0 hsp
                            have eqm : IntKind.i64.wrap ((q : Int) + m) = (q : Int) + m := IntWalk.i64_in _ (by omega)
                            go_wp2
                            go_loop [8, 9] (fun n i => ∃ (a s : Nat), s ≤ m ∧ a ≤ 1000000000 ∧ i = .int .i64 ((q : Int) + s) ∧ n = .int .i64 a ∧ Box (a = ((l.drop q).take s).foldl Dig.expo 0)) (fun _ i => q + m - (intOf i).toNat)
                            case atStart => exact ⟨0, 0, by omega, by omega, by simp, rfl, ⟨rfl⟩⟩
                            case round =>
                              obtain ⟨a, s, hsm, ha, rfl, rfl, hae⟩ := hrel
                              by_cases hlt : s < m
                              · obtain ⟨c, hc0, hc1, hc2⟩ := Dig.run_lt (l.drop q) s (by rw [← hm.out]; exact hlt)
                                have hcb : Box (l[q + s]? = some c) := ⟨by rw [← hc0, List.getElem?_drop]⟩
                                have i0 : ∀ w, (Instr.index 9 (.string (str l)) (.int .i64 ((q : Int) + s))).run Tryd.prog w = .ok (.int .u8 c.toNat) w := fun w => by
                                  have := run_ix Tryd.underlying9 l .i64 _ c hcb.out w
                                  rw [show ((q + s : Nat) : Int) = (q : Int) + s by omega] at this
                                  exact this
                                have hcd : Box ((l.drop q)[s]? = some c) := ⟨hc0⟩
                                clear hc0
                                go_wp2
                                all_goals
                                  go_round
                                  case measure => simp [intOf]; omega
                                  case rel =>
                                    refine ⟨Dig.expo a c, s + 1, by omega, Nat.min_le_right _ _, by go_num, ?_, ⟨?_⟩⟩
                                    · unfold Dig.expo
                                      congr 1
                                      omega
                                    · rw [List.take_add_one, hcd.out, Option.toList_some, List.foldl_append, ← hae.out]; rfl
                              · have hsm2 : s = m := by omega
                                replace hae : Box (a = ((l.drop q).take m).foldl Dig.expo 0) := ⟨by rw [hae.out, hsm2]⟩
                                subst hsm2
                                clear hlt
                                cases hmm : mi with
                                | true =>
                                  have h45 : l[k]? = some 45 := by have := hmi.out; rw [hmm] at this; simpa using this.symm
                                  rw [if_pos h45, ← hae.out] at hsp1
                                  go_wp2
                                  go_meet
                                  exact ⟨q + s, E + -(a : Int), by go_num, hqm, by omega, by omega, hsp1, set_other hR (by simp) _, set_same hB 2 _, by simpa using hs, hT.setCell (by simp) _⟩
                                | false =>
                                  have h45 : ¬ l[k]? = some 45 := by have := hmi.out; rw [hmm] at this; simpa using this
                                  rw [if_neg h45, ← hae.out] at hsp1
                                  go_wp2
                                  go_meet
                                  exact ⟨q + s, E + (a : Int), by go_num, hqm, by omega, by omega, hsp1, set_other hR (by simp) _, set_same hB 2 _, by simpa using hs, hT.setCell (by simp) _⟩
                case rest =>
                  obtain ⟨p, E', rfl, hp, hE3, hE4, hsp, hst⟩ := hcut
                  obtain ⟨hR, hB, hs, hT⟩ := hst
                  have c0 := cell_at hB 0
                  have c1 := cell_at hB 1
                  have c2 := cell_at hB 2
                  have f0 := free_at hB 0
                  have f1 := free_at hB 1
                  have f2 := free_at hB 2
                  have r0 := cell_at hR 0
                  have r1 := cell_at hR 1
                  have r2 := cell_at hR 2
                  have g0 := free_at hR 0
                  have g1 := free_at hR 1
                  have g2 := free_at hR 2
                  have hz0 : w.heap.size < (wc).heap.size := by omega
                  have hz1 : w.heap.size + 1 < (wc).heap.size := by omega
                  simp at c0 c1 c2 r0 r1 r2
                  by_cases hpl : p < l.length
                  · replace hsp : Box (Dig.read l = none) := ⟨by rw [hsp.out, if_pos hpl]⟩
                    go_wp2
                    exact hQ.ret (v := .tuple #[dec Dig.zero, .bool false]) (by simp [results, Tryd.results18, go_sem, Dig.zero, str, r0, r1, r2]) rfl ⟨by rw [hsp.out]; rfl, ((hT.setCell (by simp) _).setCell (by simp) _).setCell (by simp) _⟩
                  · obtain ⟨y, hy⟩ : ∃ y, y = Dig.norm ⟨sg, D, E'⟩ := ⟨_, rfl⟩
                    replace hsp : Box (Dig.read l = some y) := ⟨by rw [hsp.out, if_neg hpl, hy]⟩
                    have hnc : ∀ w, Calls Tryd.prog 25 #[.agg #[.bool sg, .string (str D), .int .i64 E']] w fun r w' => r = .returned (.agg #[.bool y.neg, .string (str y.d), .int .i64 y.e]) ∧ Touch [] w w' := fun w => rnorm_y sg D E' y w ⟨hy⟩ (by omega) (by omega) (by omega)
                    clear hy
                    obtain ⟨s', d', e'⟩ := y
                    go_wp2_with fail
                    refine (hnc _).mono ?_
                    rintro r w2 ⟨rfl, ht2⟩
                    try go_simp
                    have hR2 := ht2.keep hR (by simp)
                    have hT2 := hT.trans ht2
                    have q0 := cell_at hR2 0
                    have q1 := cell_at hR2 1
                    have q2 := cell_at hR2 2
                    have p0 := free_at hR2 0
                    have p1 := free_at hR2 1
                    have p2 := free_at hR2 2
                    have hz2 : w.heap.size < w2.heap.size := block_lt hR2
                    simp at q0 q1 q2
                    clear c0 c1 c2 f0 f1 f2 r0 r1 r2 g0 g1 g2 hz0 hz1
                    go_wp2
                    exact hQ.ret (v := .tuple #[dec ⟨s', d', e'⟩, .bool true]) (by simp [results, Tryd.results18, go_sem, q0, q1, q2]) rfl ⟨by rw [hsp.out]; rfl, ((hT2.setCell (by simp) _).setCell (by simp) _).setCell (by simp) _⟩
end Go.Proofs.YtcpfooceadgccaaDoor
