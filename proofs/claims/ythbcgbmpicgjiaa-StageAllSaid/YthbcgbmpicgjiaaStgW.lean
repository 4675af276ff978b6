/- The laws of tables: the examples. -/
import Derived.Test.YthbcgbmpicgjiaaStgC
import Derived.Test.YthbcgbmpicgjiaaPlace
namespace Go.Proofs.Ythbcgbmpicgjiaa
open Go.RowKit
set_option maxRecDepth 100000
set_option maxHeartbeats 8000000
set_option linter.unusedVariables false
set_option linter.unusedSimpArgs false

theorem kinds_nil : Stg.kinds [] = 1 := Stg.kinds_of [] [Stg.zero] (by simp) fun b => by
  simp only [List.mem_singleton]
  constructor
  · rintro rfl
    exact ⟨0, by omega, Stg.blk_nil 0⟩
  · rintro ⟨n, _, rfl⟩
    exact Stg.blk_nil n
theorem entsIn_nil (w : World) : EntsIn w none [] := fun h => absurd h (by simp)
def ex3 : List (Int × Int) := [(65, 3), (65, 7), (-1, 9)]
theorem ex3_lst (c : Int) : Stg.lst ex3 c = if c = -1 then 9 else if c = 65 then 7 else 0 := by
  unfold Stg.lst ex3
  simp only [List.foldl_cons, List.foldl_nil]
  by_cases h1 : c = -1
  · subst h1; rfl
  · rw [if_neg (Ne.symm h1), if_neg h1]
    by_cases h2 : c = 65
    · subst h2; rfl
    · rw [if_neg (Ne.symm h2), if_neg h2, if_neg (Ne.symm h2)]
theorem kinds_ex3 : Stg.kinds ex3 = 2 := by
  have hz : ∀ n : Nat, 0 < n → Stg.blk ex3 n = Stg.zero := fun n hn => by
    rw [← Stg.blk_nil n]
    exact Stg.blk_ext fun j hj => by rw [ex3_lst, Stg.lst_nil, if_neg (by omega), if_neg (by omega)]
  have hne : Stg.blk ex3 0 ≠ Stg.zero := fun q => by
    rw [← Stg.blk_nil 0] at q
    have := Stg.blk_inj q 65 (by omega)
    rw [ex3_lst, Stg.lst_nil] at this
    simp at this
  refine Stg.kinds_of ex3 [Stg.blk ex3 0, Stg.zero] (by simp [hne]) fun b => ?_
  simp only [List.mem_cons, List.not_mem_nil, or_false]
  constructor
  · rintro (rfl | rfl)
    · exact ⟨0, by omega, rfl⟩
    · exact ⟨1, by omega, hz 1 (by omega)⟩
  · rintro ⟨n, _, rfl⟩
    by_cases h : n = 0
    · subst h; exact .inl rfl
    · exact .inr (hz n (by omega))
theorem awake04 (w : World) : Calls Try.prog 6 #[] w fun e w' => e = .returned (.bool true) ∧ Touch [] w w' := by
  have k1 := kinds_nil
  have k2 := kinds_ex3
  have g1 : Stg.tget ex3 65 = 7 := by unfold Stg.tget; rw [if_pos (by omega), ex3_lst]; rfl
  have g2 : Stg.tget ex3 64 = 0 := by unfold Stg.tget; rw [if_pos (by omega), ex3_lst]; rfl
  have g3 : Stg.tget ex3 (-1) = 0 := by unfold Stg.tget; rw [if_neg (by omega)]
  have hb1 := build_any none 0 [] w (entsIn_nil w) (by intro e he; cases he) (by simp) (by omega)
  rw [List.length_nil] at hb1
  have hok : EntsOk ex3 := by
    intro e he
    unfold ex3 at he
    simp only [List.mem_cons, List.not_mem_nil, or_false] at he
    rcases he with rfl | rfl | rfl <;> exact ⟨by decide, by decide⟩
  have hb2 : ∀ (W : World) (b : Nat), W.heap[b]? = some (.cells #[.int .i32 65, .int .i64 3, .int .i32 65, .int .i64 7, .int .i32 (-1), .int .i64 9] 31 (0, 0)) → Calls Try.prog 7 #[.slice (some ⟨b, 0, none⟩) 3 3] W fun e w' => ∃ t, e = .returned (.pointer (some ⟨t, 0, none⟩)) ∧ W.heap.size ≤ t ∧ TabAt w' t ex3 ∧ Touch [] W w' := fun W b hb =>
    build_any (some ⟨b, 0, none⟩) 3 ex3 W (fun _ => ⟨b, 0, rfl, fun w' t i hi => by
      have hc := cell_at (t.keep hb (by simp))
      match i, hi with
      | 0, _ => exact ⟨hc 0, hc 1⟩
      | 1, _ => exact ⟨hc 2, hc 3⟩
      | 2, _ => exact ⟨hc 4, hc 5⟩⟩) hok (by decide) (by decide)
  replace g1 := Box.mk g1
  replace g2 := Box.mk g2
  replace g3 := Box.mk g3
  replace k1 := Box.mk k1
  replace k2 := Box.mk k2
  clear hok
  let kp_ : Exit → Act → World → Prop := bodyPost Try.prog Try.f6 (fun _ _ => True)
  refine calls_post Try.func6 rfl ?_
  intro Q_ hQ_
  simp only [Try.ntmps6, List.size_toArray, List.length_cons, List.length_nil, Nat.reduceAdd, Nat.reduceSub, Array.replicate_succ, Array.replicate_zero, List.push_toArray, List.append_toArray, List.nil_append, List.cons_append]
  go_wp2_with fail
  refine hb1.mono ?_
  rintro e w1 ⟨t, rfl, hts, hta, ht1⟩
  try go_simp
  clear hb1
  go_wp2_with fail
  refine (hb2 _ _ (alloc_new _ _)).mono ?_
  rintro e w2 ⟨u, rfl, hus, hua, ht2⟩
  try go_simp
  clear hb2 hts hus
  have ht12 : Touch [] w1 w2 := ((Touch.refl [] _).alloc _).trans ht2
  replace hta := hta.keep ht12
  have ht := ht1.trans ht12
  clear ht2 ht12 ht1
  have hB1 : Calls Try.prog 11 #[.pointer (some ⟨t, 0, none⟩)] w2 fun e w' => e = .returned (.int .i64 1) ∧ w2 = w' := (blocks_any t [] w2 hta).mono fun e w' q => ⟨by rw [q.1, k1.out]; rfl, q.2⟩
  have hB2 : Calls Try.prog 11 #[.pointer (some ⟨u, 0, none⟩)] w2 fun e w' => e = .returned (.int .i64 2) ∧ w2 = w' := (blocks_any u ex3 w2 hua).mono fun e w' q => ⟨by rw [q.1, k2.out]; rfl, q.2⟩
  have hG : ∀ (c z : Int) W, Touch [] w2 W → Stg.tget ex3 c = z → Calls Try.prog 9 #[.pointer (some ⟨u, 0, none⟩), .int .i32 c] W fun e w' => e = .returned (.int .i64 z) ∧ ∃ n, w' = W.drewN n := fun c z W tt hz => by rw [← hz]; exact tget_any u ex3 c W (hua.keep tt)
  go_wp2_with fail
  refine hB1.mono ?_
  rintro e w3 ⟨rfl, rfl⟩
  try go_simp
  go_wp2_with fail
  refine hB2.mono ?_
  rintro e w3 ⟨rfl, rfl⟩
  try go_simp
  go_wp2_with fail
  refine (hG 65 7 _ (Touch.refl _ _) g1.out).mono ?_
  rintro e w3 ⟨rfl, n1, rfl⟩
  try go_simp
  go_wp2_with fail
  refine (hG 64 0 _ ((Touch.refl _ _).drewN _) g2.out).mono ?_
  rintro e w3 ⟨rfl, n2, rfl⟩
  try go_simp
  go_wp2_with fail
  refine (hG (-1) 0 _ (by first | exact (Touch.refl _ _).drewN _ | exact ((Touch.refl _ _).drewN _).drewN _) g3.out).mono ?_
  rintro e w3 ⟨rfl, n3, rfl⟩
  try go_simp
  go_wp2
  (try simp only [Exit.inBlock, Exit.then])
  refine hQ_.ret (results_tmp rfl _ _ _) rfl ?_
  exact ⟨rfl, by first | exact ht.drewN _ | exact (ht.drewN _).drewN _ | exact ((ht.drewN _).drewN _).drewN _⟩
end Go.Proofs.Ythbcgbmpicgjiaa
