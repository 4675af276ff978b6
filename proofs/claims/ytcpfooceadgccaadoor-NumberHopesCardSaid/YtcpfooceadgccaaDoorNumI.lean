/- The reference's fit and More. -/
import Derived.Test.YtcpfooceadgccaaDoorNumD
import Derived.Test.YtcpfooceadgccaaDoorNumH
import Derived.Test.YtcpfooceadgccaaDoorBA
import Derived.Deep.RegionHeld3
import Derived.Deep.DeepCutAuto
import Derived.BigQuiet
import Derived.MapKept
namespace Go.Proofs.YtcpfooceadgccaaDoor
open Go.RowKit
set_option maxRecDepth 100000
set_option maxHeartbeats 8000000
set_option linter.unusedVariables false
set_option linter.unusedSimpArgs false

theorem Num.fit_of (P : Num.Parts) (e E : Int) (hE : (if P.sign = 45 then -e else e) = E) : Num.fit P e =
  (if E < 0 then none else
  if Dig.cutL P.x = [] ∧ P.x ≠ [] ∧ E = 0 then some [] else
  if Dig.cutL P.x = [] then some (Dig.print E) else
  if (Dig.cutL P.x).length ≤ (Dig.print E).length ∧ (Dig.print E).take (Dig.cutL P.x).length = Dig.cutL P.x then some ((Dig.print E).drop (Dig.cutL P.x).length) else none) := by
  unfold Num.fit
  rw [hE]


theorem rfit_any (d : List UInt8) (m : Nat) (ex : Bool) (sg : Nat) (x : List UInt8) (e : Int) (w : World) (h1 : -1000000 ≤ e) (h2 : e ≤ 1000000) (hx : x.length ≤ 1000000) :
    Calls Tryd.prog 58 #[.agg #[.string (str d), .int .i64 m, .bool ex, .int .u8 sg, .string (str x)], .int .i64 e] w fun r w' => r = .returned (.string (str ((Num.fit ⟨d, m, ex, sg, x⟩ e).getD [110, 111, 110, 101]))) ∧ Touch [] w w' := by
  have sx := str_size x
  obtain ⟨E, hE⟩ : ∃ E, (if sg = 45 then -e else e) = E := ⟨_, rfl⟩
  have hfit := Box.mk (Num.fit_of ⟨d, m, ex, sg, x⟩ e E hE)
  dsimp only at hfit
  let kp_ : Exit → Act → World → Prop := bodyPost Tryd.prog Tryd.f58 (fun _ _ => True)
  refine calls_post Tryd.func58 rfl ?_
  intro Q_ hQ_
  simp only [Tryd.ntmps58, List.size_toArray, List.length_cons, List.length_nil, Nat.reduceAdd, Nat.reduceSub, Array.replicate_succ, Array.replicate_zero, List.push_toArray, List.append_toArray, List.nil_append, List.cons_append]
  by_cases hs : sg = 45
  · have ts : ((sg : Int) == 45) = true := by rw [hs]; rfl
    rw [if_pos hs] at hE
    have hw : IntKind.i64.wrap (-e) = E := by rw [← hE]; exact IntWalk.i64_in _ (by omega)
    have hEb : -1000000 ≤ E ∧ E ≤ 1000000 := by omega
    clear hE hs
    by_cases h0 : E < 0
    · go_wp2
      (try simp only [Exit.inBlock, Exit.then])
      refine hQ_.ret (results_tmp rfl _ _ _) rfl ?_
      exact ⟨by rw [hfit.out, if_pos h0]; rfl, (Touch.refl _ _).alloc _⟩
    · go_wp2_with fail
      refine (rprint_t E _ (by omega) (by omega)).mono ?_
      rintro r w1 ⟨rfl, ht1⟩
      try go_simp
      have hB : w1.heap[w.heap.size]? = some (.cells #[.string (str d), .int .i64 m, .bool ex, .int .u8 sg, .string (str x)] 77) := ht1.keep (alloc_new _ _) (by simp)
      have hT : Touch [] w w1 := ((Touch.refl _ _).alloc _).trans ht1
      have c4 := cell_at hB 4
      simp at c4
      clear ht1
      go_wp2_with fail
      go_loopg [6] x.length (fun k v wr => ∃ y, y.length ≤ k ∧ v = .string (str y) ∧ Dig.cutL y = Dig.cutL x ∧ y.length ≤ x.length ∧ wr = w1)
      case atStart => exact ⟨x, Nat.le_refl _, rfl, rfl, Nat.le_refl _, rfl⟩
      case round =>
        obtain ⟨y, hk, rfl, hy, hyl, rfl⟩ := hrel
        have sz := str_size y
        by_cases h00 : y = []
        · have t0 : ¬ 0 < y.length := by rw [h00]; simp
          have hX : Dig.cutL x = [] := by rw [← hy, h00]; rfl
          have tl : y.length = 0 := by rw [h00]; rfl
          rw [hX] at hfit
          clear h00 hy
          by_cases hx0 : x = []
          · have tx : ¬ 0 < x.length := by rw [hx0]; simp
            have hf2 : Box (Num.fit ⟨d, m, ex, sg, x⟩ e = some (Dig.print E)) := ⟨by rw [hfit.out, if_neg (show ¬ E < 0 by omega), if_neg (fun q => q.2.1 hx0), if_pos rfl]⟩
            clear hx0
            go_wp2
            (try simp only [Exit.inBlock, Exit.then])
            refine hQ_.ret (results_tmp rfl _ _ _) rfl ?_
            exact ⟨by rw [hf2.out]; rfl, hT⟩
          · have tx : 0 < x.length := List.length_pos_iff.2 hx0
            by_cases hE0 : E = 0
            · have te : (E == 0) = true := by rw [hE0]; rfl
              have hf2 : Box (Num.fit ⟨d, m, ex, sg, x⟩ e = some []) := ⟨by rw [hfit.out, if_neg (show ¬ E < 0 by omega), if_pos ⟨rfl, hx0, hE0⟩]⟩
              clear hx0 hE0
              go_wp2
              (try simp only [Exit.inBlock, Exit.then])
              refine hQ_.ret (results_tmp rfl _ _ _) rfl ?_
              exact ⟨by rw [hf2.out]; rfl, hT⟩
            · have te : (E == 0) = false := by simpa using hE0
              have hf2 : Box (Num.fit ⟨d, m, ex, sg, x⟩ e = some (Dig.print E)) := ⟨by rw [hfit.out, if_neg (show ¬ E < 0 by omega), if_neg (fun q => hE0 q.2.2), if_pos rfl]⟩
              clear hx0 hE0
              go_wp2
              (try simp only [Exit.inBlock, Exit.then])
              refine hQ_.ret (results_tmp rfl _ _ _) rfl ?_
              exact ⟨by rw [hf2.out]; rfl, hT⟩
        · obtain ⟨c, t, hct⟩ : ∃ c t, y = c :: t := by cases y with | nil => exact absurd rfl h00 | cons c t => exact ⟨c, t, rfl⟩
          have t0 : 0 < y.length := by rw [hct]; simp
          have i0 : ∀ w, (Instr.index 9 (.string (str y)) (.int .i64 0)).run Tryd.prog w = .ok (.int .u8 c.toNat) w := fun w => run_ix Tryd.underlying9 y .i64 0 c (by rw [hct]; rfl) w
          have i1 : ∀ w, (Instr.slice 9 (.string (str y)) (some (.int .i64 1)) none none).run Tryd.prog w = .ok (.string (str t)) w := fun w => by
            have := run_from Tryd.underlying9 y .i64 1 (by rw [hct]; simp) w
            rw [show y.drop 1 = t by rw [hct]; rfl] at this
            exact this
          by_cases hc : c = 48
          · have t1 : ((c.toNat : Int) == 48) = true := by rw [hc]; rfl
            have bx : Box (y = 48 :: t) := ⟨by rw [hct, hc]⟩
            clear hct hc h00
            go_wp2
            go_roundg t.length
            case measure => have := bx.out; rw [this] at hk; simp at hk; omega
            case rel =>
              have := bx.out
              subst this
              exact ⟨t, Nat.le_refl _, rfl, by rw [← hy]; rfl, by simp at hyl; omega, rfl⟩
          · have t1 : ((c.toNat : Int) == 48) = false := by
              rw [beq_eq_false_iff_ne]
              intro q
              exact hc (UInt8.toNat_inj.1 (by have : (48 : UInt8).toNat = 48 := rfl; omega))
            have hX : Dig.cutL x = y := by rw [← hy, Dig.cutL_of_head y (by rw [hct]; simpa using hc)]
            rw [hX] at hfit
            have tl : (( y.length : Int) == 0) = false := by simp; omega
            obtain ⟨W, hW⟩ : ∃ W, Dig.print E = W := ⟨_, rfl⟩
            rw [hW] at hfit ⊢
            have sW := str_size W
            by_cases hle : y.length ≤ W.length
            · have s1 : ∀ w, (Instr.slice 9 (.string (str W)) none (some (.int .i64 (y.length : Int))) none).run Tryd.prog w = .ok (.string (str (W.take y.length))) w := fun w => run_to Tryd.underlying9 W .i64 y.length hle w
              have s2 : ∀ w, (Instr.slice 9 (.string (str W)) (some (.int .i64 (y.length : Int))) none none).run Tryd.prog w = .ok (.string (str (W.drop y.length))) w := fun w => run_from Tryd.underlying9 W .i64 y.length hle w
              by_cases hpre : W.take y.length = y
              · have hf2 : Box (Num.fit ⟨d, m, ex, sg, x⟩ e = some (W.drop y.length)) := ⟨by rw [hfit.out, if_neg (show ¬ E < 0 by omega), if_neg (fun q => h00 q.1), if_neg h00, if_pos ⟨hle, hpre⟩]⟩
                rw [hpre] at s1
                clear hct hc h00 hpre hX hW hy
                go_wp2
                (try simp only [Exit.inBlock, Exit.then])
                refine hQ_.ret (results_tmp rfl _ _ _) rfl ?_
                exact ⟨by rw [hf2.out]; rfl, hT⟩
              · have hf2 : Box (Num.fit ⟨d, m, ex, sg, x⟩ e = none) := ⟨by rw [hfit.out, if_neg (show ¬ E < 0 by omega), if_neg (fun q => h00 q.1), if_neg h00, if_neg (fun q => hpre q.2)]⟩
                have tq : ((str (W.take y.length)).toList == (str y).toList) = false := by
                  rw [str_toList, str_toList]
                  simpa using hpre
                generalize W.take y.length = V at *
                clear hct hc h00 hpre hX hW hy
                go_wp2
                (try simp only [Exit.inBlock, Exit.then])
                refine hQ_.ret (results_tmp rfl _ _ _) rfl ?_
                exact ⟨by rw [hf2.out]; rfl, hT⟩
            · have hf2 : Box (Num.fit ⟨d, m, ex, sg, x⟩ e = none) := ⟨by rw [hfit.out, if_neg (show ¬ E < 0 by omega), if_neg (fun q => h00 q.1), if_neg h00, if_neg (fun q => hle q.1)]⟩
              clear hct hc h00 hX hW hy
              go_wp2
              (try simp only [Exit.inBlock, Exit.then])
              refine hQ_.ret (results_tmp rfl _ _ _) rfl ?_
              exact ⟨by rw [hf2.out]; rfl, hT⟩
  · have ts : ((sg : Int) == 45) = false := by simp; omega
    rw [if_neg hs] at hE
    have hE2 : E = e := hE.symm
    subst hE2
    have hEb : -1000000 ≤ E ∧ E ≤ 1000000 := ⟨h1, h2⟩
    clear hs hE
    by_cases h0 : E < 0
    · go_wp2
      (try simp only [Exit.inBlock, Exit.then])
      refine hQ_.ret (results_tmp rfl _ _ _) rfl ?_
      exact ⟨by rw [hfit.out, if_pos h0]; rfl, (Touch.refl _ _).alloc _⟩
    · go_wp2_with fail
      refine (rprint_t E _ (by omega) (by omega)).mono ?_
      rintro r w1 ⟨rfl, ht1⟩
      try go_simp
      have hB : w1.heap[w.heap.size]? = some (.cells #[.string (str d), .int .i64 m, .bool ex, .int .u8 sg, .string (str x)] 77) := ht1.keep (alloc_new _ _) (by simp)
      have hT : Touch [] w w1 := ((Touch.refl _ _).alloc _).trans ht1
      have c4 := cell_at hB 4
      simp at c4
      clear ht1
      go_wp2_with fail
      go_loopg [6] x.length (fun k v wr => ∃ y, y.length ≤ k ∧ v = .string (str y) ∧ Dig.cutL y = Dig.cutL x ∧ y.length ≤ x.length ∧ wr = w1)
      case atStart => exact ⟨x, Nat.le_refl _, rfl, rfl, Nat.le_refl _, rfl⟩
      case round =>
        obtain ⟨y, hk, rfl, hy, hyl, rfl⟩ := hrel
        have sz := str_size y
        by_cases h00 : y = []
        · have t0 : ¬ 0 < y.length := by rw [h00]; simp
          have hX : Dig.cutL x = [] := by rw [← hy, h00]; rfl
          have tl : y.length = 0 := by rw [h00]; rfl
          rw [hX] at hfit
          clear h00 hy
          by_cases hx0 : x = []
          · have tx : ¬ 0 < x.length := by rw [hx0]; simp
            have hf2 : Box (Num.fit ⟨d, m, ex, sg, x⟩ E = some (Dig.print E)) := ⟨by rw [hfit.out, if_neg (show ¬ E < 0 by omega), if_neg (fun q => q.2.1 hx0), if_pos rfl]⟩
            clear hx0
            go_wp2
            (try simp only [Exit.inBlock, Exit.then])
            refine hQ_.ret (results_tmp rfl _ _ _) rfl ?_
            exact ⟨by rw [hf2.out]; rfl, hT⟩
          · have tx : 0 < x.length := List.length_pos_iff.2 hx0
            by_cases hE0 : E = 0
            · have te : (E == 0) = true := by rw [hE0]; rfl
              have hf2 : Box (Num.fit ⟨d, m, ex, sg, x⟩ E = some []) := ⟨by rw [hfit.out, if_neg (show ¬ E < 0 by omega), if_pos ⟨rfl, hx0, hE0⟩]⟩
              clear hx0 hE0
              go_wp2
              (try simp only [Exit.inBlock, Exit.then])
              refine hQ_.ret (results_tmp rfl _ _ _) rfl ?_
              exact ⟨by rw [hf2.out]; rfl, hT⟩
            · have te : (E == 0) = false := by simpa using hE0
              have hf2 : Box (Num.fit ⟨d, m, ex, sg, x⟩ E = some (Dig.print E)) := ⟨by rw [hfit.out, if_neg (show ¬ E < 0 by omega), if_neg (fun q => hE0 q.2.2), if_pos rfl]⟩
              clear hx0 hE0
              go_wp2
              (try simp only [Exit.inBlock, Exit.then])
              refine hQ_.ret (results_tmp rfl _ _ _) rfl ?_
              exact ⟨by rw [hf2.out]; rfl, hT⟩
        · obtain ⟨c, t, hct⟩ : ∃ c t, y = c :: t := by cases y with | nil => exact absurd rfl h00 | cons c t => exact ⟨c, t, rfl⟩
          have t0 : 0 < y.length := by rw [hct]; simp
          have i0 : ∀ w, (Instr.index 9 (.string (str y)) (.int .i64 0)).run Tryd.prog w = .ok (.int .u8 c.toNat) w := fun w => run_ix Tryd.underlying9 y .i64 0 c (by rw [hct]; rfl) w
          have i1 : ∀ w, (Instr.slice 9 (.string (str y)) (some (.int .i64 1)) none none).run Tryd.prog w = .ok (.string (str t)) w := fun w => by
            have := run_from Tryd.underlying9 y .i64 1 (by rw [hct]; simp) w
            rw [show y.drop 1 = t by rw [hct]; rfl] at this
            exact this
          by_cases hc : c = 48
          · have t1 : ((c.toNat : Int) == 48) = true := by rw [hc]; rfl
            have bx : Box (y = 48 :: t) := ⟨by rw [hct, hc]⟩
            clear hct hc h00
            go_wp2
            go_roundg t.length
            case measure => have := bx.out; rw [this] at hk; simp at hk; omega
            case rel =>
              have := bx.out
              subst this
              exact ⟨t, Nat.le_refl _, rfl, by rw [← hy]; rfl, by simp at hyl; omega, rfl⟩
          · have t1 : ((c.toNat : Int) == 48) = false := by
              rw [beq_eq_false_iff_ne]
              intro q
              exact hc (UInt8.toNat_inj.1 (by have : (48 : UInt8).toNat = 48 := rfl; omega))
            have hX : Dig.cutL x = y := by rw [← hy, Dig.cutL_of_head y (by rw [hct]; simpa using hc)]
            rw [hX] at hfit
            have tl : (( y.length : Int) == 0) = false := by simp; omega
            obtain ⟨W, hW⟩ : ∃ W, Dig.print E = W := ⟨_, rfl⟩
            rw [hW] at hfit ⊢
            have sW := str_size W
            by_cases hle : y.length ≤ W.length
            · have s1 : ∀ w, (Instr.slice 9 (.string (str W)) none (some (.int .i64 (y.length : Int))) none).run Tryd.prog w = .ok (.string (str (W.take y.length))) w := fun w => run_to Tryd.underlying9 W .i64 y.length hle w
              have s2 : ∀ w, (Instr.slice 9 (.string (str W)) (some (.int .i64 (y.length : Int))) none none).run Tryd.prog w = .ok (.string (str (W.drop y.length))) w := fun w => run_from Tryd.underlying9 W .i64 y.length hle w
              by_cases hpre : W.take y.length = y
              · have hf2 : Box (Num.fit ⟨d, m, ex, sg, x⟩ E = some (W.drop y.length)) := ⟨by rw [hfit.out, if_neg (show ¬ E < 0 by omega), if_neg (fun q => h00 q.1), if_neg h00, if_pos ⟨hle, hpre⟩]⟩
                rw [hpre] at s1
                clear hct hc h00 hpre hX hW hy
                go_wp2
                (try simp only [Exit.inBlock, Exit.then])
                refine hQ_.ret (results_tmp rfl _ _ _) rfl ?_
                exact ⟨by rw [hf2.out]; rfl, hT⟩
              · have hf2 : Box (Num.fit ⟨d, m, ex, sg, x⟩ E = none) := ⟨by rw [hfit.out, if_neg (show ¬ E < 0 by omega), if_neg (fun q => h00 q.1), if_neg h00, if_neg (fun q => hpre q.2)]⟩
                have tq : ((str (W.take y.length)).toList == (str y).toList) = false := by
                  rw [str_toList, str_toList]
                  simpa using hpre
                generalize W.take y.length = V at *
                clear hct hc h00 hpre hX hW hy
                go_wp2
                (try simp only [Exit.inBlock, Exit.then])
                refine hQ_.ret (results_tmp rfl _ _ _) rfl ?_
                exact ⟨by rw [hf2.out]; rfl, hT⟩
            · have hf2 : Box (Num.fit ⟨d, m, ex, sg, x⟩ E = none) := ⟨by rw [hfit.out, if_neg (show ¬ E < 0 by omega), if_neg (fun q => h00 q.1), if_neg h00, if_neg (fun q => hle q.1)]⟩
              clear hct hc h00 hX hW hy
              go_wp2
              (try simp only [Exit.inBlock, Exit.then])
              refine hQ_.ret (results_tmp rfl _ _ _) rfl ?_
              exact ⟨by rw [hf2.out]; rfl, hT⟩
end Go.Proofs.YtcpfooceadgccaaDoor
