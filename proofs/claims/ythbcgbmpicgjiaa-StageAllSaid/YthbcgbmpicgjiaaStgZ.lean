/- The laws of tables: StageAll. -/
import Derived.Test.YthbcgbmpicgjiaaStgW
import Derived.Test.YthbcgbmpicgjiaaStgR
namespace Go.Proofs.Ythbcgbmpicgjiaa
open Go.RowKit
set_option maxRecDepth 100000
set_option maxHeartbeats 8000000
set_option linter.unusedVariables false
set_option linter.unusedSimpArgs false

theorem entsIn_pairs {w : World} {a : Option Addr} {n c : Nat} {zs : List (Int × Int)} (h : PairsIn .i32 .i64 w a n c zs) : EntsIn w a zs := fun h0 => by
  obtain ⟨b, off, e, hc⟩ := h.cells (by rw [← h.len]; exact h0)
  refine ⟨b, off, e, fun w' t i hi => ?_⟩
  have q := hc i (by rw [← h.len]; exact hi)
  rw [List.getD_eq_getElem?_getD, List.getElem?_eq_getElem hi] at q
  exact ⟨t.cell q.1 (by simp), t.cell q.2 (by simp)⟩
theorem stageall_walk (a0 : Option Addr) (n0 c0 : Nat) (z0 : List (Int × Int)) (a1 : Option Addr) (n1 c1 : Nat) (z1 : List Int) (w : World) (w0 : PairsIn .i32 .i64 w a0 n0 c0 z0) (w1 : IntsIn .i32 w a1 n1 c1 z1) :
    Calls Try.prog 3 #[.slice a0 n0 c0, .slice a1 n1 c1] w fun e w' => e = .returned (.bool true) ∧ Touch [] w w' := by
  have hEI := entsIn_pairs w0
  have hok : EntsOk z0 := w0.wf
  obtain ⟨zl, zle, zmx, _, _⟩ := w0
  obtain ⟨yl, yle, ymx, ywf, yc⟩ := w1
  have yc2 : 0 < n1 → ∃ b off, a1 = some ⟨b, off, none⟩ ∧ ∀ w', Touch [] w w' → ∀ i, i < n1 → w'.cell? ⟨b, off + i, none⟩ = some (.int .i32 (z1.getD i 0)) := fun h0 => by
    obtain ⟨b, off, e, hc⟩ := yc h0
    exact ⟨b, off, e, fun w' t i hi => t.cell (hc i hi) (by simp)⟩
  have ywf2 : ∀ i, i < n1 → (Lit.int .i32 (z1.getD i 0)).wf = true := fun i hi => by
    rw [List.getD_eq_getElem?_getD, List.getElem?_eq_getElem (by omega)]
    exact ywf _ (List.getElem_mem _)
  subst zl
  clear yc ywf
  by_cases h1 : 400 < z0.length
  · have t1 : decide (400 < (z0.length : Int)) = true := by simp; omega
    clear hEI hok yc2 ywf2
    let kp_ : Exit → Act → World → Prop := bodyPost Try.prog Try.f3 (fun _ _ => True)
    refine calls_post Try.func3 rfl ?_
    intro Q_ hQ_
    simp only [Try.ntmps3, List.size_toArray, List.length_cons, List.length_nil, Nat.reduceAdd, Nat.reduceSub, Array.replicate_succ, Array.replicate_zero, List.push_toArray, List.append_toArray, List.nil_append, List.cons_append]
    go_wp2_with fail
    refine (awake04 _).mono ?_
    rintro e w9 ⟨rfl, ht9⟩
    try go_simp
    go_wp2
    (try simp only [Exit.inBlock, Exit.then])
    refine hQ_.ret (results_tmp rfl _ _ _) rfl ?_
    exact ⟨rfl, ht9⟩
  have t1 : decide (400 < (z0.length : Int)) = false := by simp; omega
  by_cases h2 : 100 < n1
  · have t2 : decide (100 < (n1 : Int)) = true := by simp; omega
    clear hEI hok yc2 ywf2
    let kp_ : Exit → Act → World → Prop := bodyPost Try.prog Try.f3 (fun _ _ => True)
    refine calls_post Try.func3 rfl ?_
    intro Q_ hQ_
    simp only [Try.ntmps3, List.size_toArray, List.length_cons, List.length_nil, Nat.reduceAdd, Nat.reduceSub, Array.replicate_succ, Array.replicate_zero, List.push_toArray, List.append_toArray, List.nil_append, List.cons_append]
    go_wp2_with fail
    refine (awake04 _).mono ?_
    rintro e w9 ⟨rfl, ht9⟩
    try go_simp
    go_wp2
    (try simp only [Exit.inBlock, Exit.then])
    refine hQ_.ret (results_tmp rfl _ _ _) rfl ?_
    exact ⟨rfl, ht9⟩
  have t2 : decide (100 < (n1 : Int)) = false := by simp; omega
  have hB1 := build_any a0 c0 z0 w hEI hok zle zmx
  let kp_ : Exit → Act → World → Prop := bodyPost Try.prog Try.f3 (fun _ _ => True)
  refine calls_post Try.func3 rfl ?_
  intro Q_ hQ_
  simp only [Try.ntmps3, List.size_toArray, List.length_cons, List.length_nil, Nat.reduceAdd, Nat.reduceSub, Array.replicate_succ, Array.replicate_zero, List.push_toArray, List.append_toArray, List.nil_append, List.cons_append]
  go_wp2_with fail
  refine hB1.mono ?_
  rintro e w5 ⟨ta, rfl, hts, hta, ht5⟩
  try go_simp
  have hB2 := rbuild_any a0 c0 z0 w5 (hEI.keep ht5) hok zle zmx
  clear hB1
  go_wp2_with fail
  refine hB2.mono ?_
  rintro e w6 ⟨tb, rfl, hts2, htb, ht6⟩
  try go_simp
  have hTf := ht5.trans ht6
  replace hta := hta.keep ht6
  have hB3 := fun W (tt : Touch [] w6 W) => rblocks_any a0 c0 z0 W ((hEI.keep hTf).keep tt) hok zle zmx
  have hGa : ∀ (c z : Int) W, Touch [] w6 W → Stg.tget z0 c = z → Calls Try.prog 9 #[.pointer (some ⟨ta, 0, none⟩), .int .i32 c] W fun e w' => e = .returned (.int .i64 z) ∧ ∃ n, w' = W.drewN n := fun c z W tt hz => by rw [← hz]; exact tget_any ta z0 c W (hta.keep tt)
  have hGb : ∀ (c z : Int) W, Touch [] w6 W → (Lit.int .i32 c).wf = true → Stg.tget z0 c = z → Calls Try.prog 10 #[.pointer (some ⟨tb, 0, none⟩), .int .i32 c] W fun e w' => e = .returned (.int .i64 z) ∧ W = w' := fun c z W tt hw hz => by rw [← hz]; exact rget_any tb z0 c W (htb.keep tt) hw
  have hKa : ∀ W, Touch [] w6 W → Calls Try.prog 11 #[.pointer (some ⟨ta, 0, none⟩)] W fun e w' => e = .returned (.int .i64 (Stg.kinds z0)) ∧ W = w' := fun W tt => blocks_any ta z0 W (hta.keep tt)
  have hEI6 := hEI.keep hTf
  clear hB2 hta htb hts hts2 ht5 ht6 hEI
  generalize Stg.kinds z0 = KK at hKa hB3
  go_wp2_with fail
  go_loopw [7] (fun v wr => ∃ i : Nat, i ≤ z0.length ∧ v = .int .i64 i ∧ Touch [] w6 wr) (fun v _ => z0.length - (intOf v).toNat)
  case atStart => exact ⟨0, by omega, rfl, Touch.refl _ _⟩
  case round =>
    obtain ⟨i, hi, rfl, hT⟩ := hrel
    by_cases hlt : i < z0.length
    · obtain ⟨b, off, rfl, hc⟩ := hEI6 (by omega)
      have hcz : ∀ w', Touch [] wr w' → w'.cell? ⟨b, off + i * 2, none⟩ = some (.int .i32 z0[i].1) := fun w' t => (hc w' (hT.trans t) i hlt).1
      have hwc := (hok z0[i] (List.getElem_mem hlt)).1
      generalize z0[i].1 = c at hcz hwc
      have hcb := i32_bounds hwc
      obtain ⟨Z, hZ⟩ : ∃ Z, Stg.tget z0 c = Z := ⟨_, rfl⟩
      have hga := fun W (tt : Touch [] wr W) => hGa c Z W (hT.trans tt) hZ
      have hgb := fun W (tt : Touch [] wr W) => hGb c Z W (hT.trans tt) hwc hZ
      have hzz : (Z != Z) = false := by simp
      by_cases hlc : c < 1114111
      · have t5 : decide (c < 1114111) = true := by simpa using hlc
        have wc1 : IntKind.i32.wrap (c + 1) = c + 1 := IntWalk.i32_in _ (by omega)
        have hwc2 : (Lit.int .i32 (c + 1)).wf = true := by
          have hmin2 : IntKind.i32.min = -2147483648 := rfl
          have hmax2 : IntKind.i32.max = 2147483647 := rfl
          simp only [Lit.wf, Bool.and_eq_true, decide_eq_true_eq]
          omega
        obtain ⟨Y, hY⟩ : ∃ Y, Stg.tget z0 (c + 1) = Y := ⟨_, rfl⟩
        have hga2 := fun W (tt : Touch [] wr W) => hGa (c + 1) Y W (hT.trans tt) hY
        have hgb2 := fun W (tt : Touch [] wr W) => hGb (c + 1) Y W (hT.trans tt) hwc2 hY
        have hyy : (Y != Y) = false := by simp
        clear hZ hY hc hEI6 hGa hGb hKa hB3 hwc hwc2
        go_upto_region 9 with (fail)
        refine wp_region_noPanic ?_
        refine wp_region_held_drew (S := fun w' => Touch [] wr w') (by kernel_rfl) (Touch.drew (Touch.refl _ wr)) (fun hHeld => ?_)
        refine wpAnyH_take (i := 0) (oi := ?_) (v := ?_) ?_ ?_ ?_ ?_ (fun _ _ _ h => h) ?_ (by first | assumption | exact (Touch.refl _ _).drewN _ | exact (Touch.refl _ _).drew) ?_
        rotate_left 2
        · (simp only [List.getElem?_toArray, List.getElem?_cons_succ, List.getElem?_cons_zero]; rfl)
        · kernel_rfl
        · kernel_rfl
        · kernel_rfl
        · refine Or.inl ⟨by rfl, ?_⟩
          intro w hSw
          (try dsimp only at hSw)
          go_simp
          try with_reducible rfl
        try simp only [Act.put, List.setIfInBounds_toArray, List.set_cons_zero, List.set_cons_succ]
        refine wpAnyH_take (i := 1) (oi := ?_) (v := ?_) ?_ ?_ ?_ ?_ (fun _ _ _ h => h) ?_ (by first | assumption | exact (Touch.refl _ _).drewN _ | exact (Touch.refl _ _).drew) ?_
        rotate_left 2
        · (simp only [List.getElem?_toArray, List.getElem?_cons_succ, List.getElem?_cons_zero]; rfl)
        · kernel_rfl
        · kernel_rfl
        · kernel_rfl
        · refine Or.inl ⟨by rfl, ?_⟩
          intro w hSw
          (try dsimp only at hSw)
          go_simp
          try with_reducible rfl
        try simp only [Act.put, List.setIfInBounds_toArray, List.set_cons_zero, List.set_cons_succ]
        refine wpAnyH_take (i := 2) (oi := ?_) (v := ?_) ?_ ?_ ?_ ?_ (fun _ _ _ h => h) ?_ (by first | assumption | exact (Touch.refl _ _).drewN _ | exact (Touch.refl _ _).drew) ?_
        rotate_left 2
        · (simp only [List.getElem?_toArray, List.getElem?_cons_succ, List.getElem?_cons_zero]; rfl)
        · kernel_rfl
        · kernel_rfl
        · kernel_rfl
        · refine Or.inl ⟨by rfl, ?_⟩
          intro w hSw
          (try dsimp only at hSw)
          go_simp
          try with_reducible rfl
        try simp only [Act.put, List.setIfInBounds_toArray, List.set_cons_zero, List.set_cons_succ]
        refine wpAnyH_take (i := 3) (oi := ?_) (v := ?_) ?_ ?_ ?_ ?_ (fun _ _ _ h => h) ?_ (by first | assumption | exact (Touch.refl _ _).drewN _ | exact (Touch.refl _ _).drew) ?_
        rotate_left 2
        · (simp only [List.getElem?_toArray, List.getElem?_cons_succ, List.getElem?_cons_zero]; rfl)
        · kernel_rfl
        · kernel_rfl
        · kernel_rfl
        · refine Or.inl ⟨by rfl, ?_⟩
          intro w hSw
          (try dsimp only at hSw)
          go_simp
          try with_reducible rfl
        try simp only [Act.put, List.setIfInBounds_toArray, List.set_cons_zero, List.set_cons_succ]
        refine wpAnyH_take (i := 4) (oi := ?_) (v := ?_) ?_ ?_ ?_ ?_ (fun _ _ _ h => h) ?_ (by first | assumption | exact (Touch.refl _ _).drewN _ | exact (Touch.refl _ _).drew) ?_
        rotate_left 2
        · (simp only [List.getElem?_toArray, List.getElem?_cons_succ, List.getElem?_cons_zero]; rfl)
        · kernel_rfl
        · kernel_rfl
        · kernel_rfl
        · refine Or.inl ⟨by rfl, ?_⟩
          intro w hSw
          (try dsimp only at hSw)
          go_simp
          try with_reducible rfl
        try simp only [Act.put, List.setIfInBounds_toArray, List.set_cons_zero, List.set_cons_succ]
        refine wpAnyH_take (i := 5) (oi := ?_) (v := ?_) ?_ ?_ ?_ ?_ (fun _ _ _ h => h) ?_ (by first | assumption | exact (Touch.refl _ _).drewN _ | exact (Touch.refl _ _).drew) ?_
        rotate_left 2
        · (simp only [List.getElem?_toArray, List.getElem?_cons_succ, List.getElem?_cons_zero]; rfl)
        · kernel_rfl
        · kernel_rfl
        · kernel_rfl
        · refine Or.inl ⟨by rfl, ?_⟩
          intro w hSw
          (try dsimp only at hSw)
          go_simp
          try with_reducible rfl
        try simp only [Act.put, List.setIfInBounds_toArray, List.set_cons_zero, List.set_cons_succ]
        refine wpAnyH_take (i := 7) (oi := ?_) (v := ?_) ?_ ?_ ?_ ?_ (fun _ _ _ h => h) ?_ (by first | assumption | exact (Touch.refl _ _).drewN _ | exact (Touch.refl _ _).drew) ?_
        rotate_left 2
        · (simp only [List.getElem?_toArray, List.getElem?_cons_succ, List.getElem?_cons_zero]; rfl)
        · kernel_rfl
        · kernel_rfl
        · kernel_rfl
        · refine Or.inl ⟨by rfl, ?_⟩
          intro w hSw
          (try dsimp only at hSw)
          go_simp
          try with_reducible rfl
        try simp only [Act.put, List.setIfInBounds_toArray, List.set_cons_zero, List.set_cons_succ]
        refine wpAnyH_take (i := 8) (oi := ?_) (v := ?_) ?_ ?_ ?_ ?_ (fun _ _ _ h => h) ?_ (by first | assumption | exact (Touch.refl _ _).drewN _ | exact (Touch.refl _ _).drew) ?_
        rotate_left 2
        · (simp only [List.getElem?_toArray, List.getElem?_cons_succ, List.getElem?_cons_zero]; rfl)
        · kernel_rfl
        · kernel_rfl
        · kernel_rfl
        · refine Or.inl ⟨by rfl, ?_⟩
          intro w hSw
          (try dsimp only at hSw)
          go_simp
          try with_reducible rfl
        try simp only [Act.put, List.setIfInBounds_toArray, List.set_cons_zero, List.set_cons_succ]
        refine wpAnyH_take (i := 9) (oi := ?_) (v := ?_) ?_ ?_ ?_ ?_ (fun _ _ _ h => h) ?_ (by first | assumption | exact (Touch.refl _ _).drewN _ | exact (Touch.refl _ _).drew) ?_
        rotate_left 2
        · (simp only [List.getElem?_toArray, List.getElem?_cons_succ, List.getElem?_cons_zero]; rfl)
        · kernel_rfl
        · kernel_rfl
        · kernel_rfl
        · refine Or.inl ⟨by rfl, ?_⟩
          intro w hSw
          (try dsimp only at hSw)
          go_simp
          try with_reducible rfl
        try simp only [Act.put, List.setIfInBounds_toArray, List.set_cons_zero, List.set_cons_succ]
        refine wpAnyH_take (i := 10) (oi := ?_) (v := ?_) ?_ ?_ ?_ ?_ (fun _ _ _ h => h) ?_ (by first | assumption | exact (Touch.refl _ _).drewN _ | exact (Touch.refl _ _).drew) ?_
        rotate_left 2
        · (simp only [List.getElem?_toArray, List.getElem?_cons_succ, List.getElem?_cons_zero]; rfl)
        · kernel_rfl
        · kernel_rfl
        · kernel_rfl
        · refine Or.inl ⟨by rfl, ?_⟩
          intro w hSw
          (try dsimp only at hSw)
          go_simp
          try with_reducible rfl
        try simp only [Act.put, List.setIfInBounds_toArray, List.set_cons_zero, List.set_cons_succ]
        refine wpAnyH_take (i := 11) (oi := ?_) (v := ?_) ?_ ?_ ?_ ?_ (fun _ _ _ h => h) ?_ (by first | assumption | exact (Touch.refl _ _).drewN _ | exact (Touch.refl _ _).drew) ?_
        rotate_left 2
        · (simp only [List.getElem?_toArray, List.getElem?_cons_succ, List.getElem?_cons_zero]; rfl)
        · kernel_rfl
        · kernel_rfl
        · kernel_rfl
        · refine Or.inl ⟨by rfl, ?_⟩
          intro w hSw
          (try dsimp only at hSw)
          go_simp
          try with_reducible rfl
        try simp only [Act.put, List.setIfInBounds_toArray, List.set_cons_zero, List.set_cons_succ]
        refine wpAnyH_take (i := 12) (oi := ?_) (v := ?_) ?_ ?_ ?_ ?_ (fun _ _ _ h => h) ?_ (by first | assumption | exact (Touch.refl _ _).drewN _ | exact (Touch.refl _ _).drew) ?_
        rotate_left 2
        · (simp only [List.getElem?_toArray, List.getElem?_cons_succ, List.getElem?_cons_zero]; rfl)
        · kernel_rfl
        · kernel_rfl
        · kernel_rfl
        · refine Or.inl ⟨by rfl, ?_⟩
          intro w hSw
          (try dsimp only at hSw)
          go_simp
          try with_reducible rfl
        try simp only [Act.put, List.setIfInBounds_toArray, List.set_cons_zero, List.set_cons_succ]
        refine wpAnyH_ready (rs := [6]) (by kernel_rfl) (by simp) ?_
        refine AllReadyH.cons (o := ?_) ?_ (fun K hK => ?_) AllReadyH.nil
        rotate_left
        · (simp only [List.getElem?_toArray, List.getElem?_cons_succ, List.getElem?_cons_zero]; rfl)
        go_simp
        refine (hga _ (by first | assumption | exact (Touch.refl _ _).drewN _ | exact (Touch.refl _ _).drew)).mono ?_
        rintro e w9 ⟨rfl, n9, rfl⟩
        refine hK.out _ _ (by first | exact Touch.drewN (by assumption) _ | exact ((Touch.refl _ _).drewN _).drewN _ | exact (Touch.refl _ _).drewN _) (fun hHeld => ?_)
        clear hK K
        try simp only [Act.put, List.setIfInBounds_toArray, List.set_cons_zero, List.set_cons_succ]
        refine wpAnyH_ready (rs := [13]) (by kernel_rfl) (by simp) ?_
        refine AllReadyH.cons (o := ?_) ?_ (fun K hK => ?_) AllReadyH.nil
        rotate_left
        · (simp only [List.getElem?_toArray, List.getElem?_cons_succ, List.getElem?_cons_zero]; rfl)
        go_simp
        refine (hgb _ (by first | assumption | exact (Touch.refl _ _).drewN _ | exact (Touch.refl _ _).drew)).mono ?_
        rintro e w9 ⟨rfl, rfl⟩
        refine hK.out _ _ (by first | assumption | exact (Touch.refl _ _).drewN _ | exact (Touch.refl _ _).drew) (fun hHeld => ?_)
        clear hK K
        try simp only [Act.put, List.setIfInBounds_toArray, List.set_cons_zero, List.set_cons_succ]
        refine wpAnyH_take (i := 14) (oi := ?_) (v := ?_) ?_ ?_ ?_ ?_ (fun _ _ _ h => h) ?_ (by first | assumption | exact (Touch.refl _ _).drewN _ | exact (Touch.refl _ _).drew) ?_
        rotate_left 2
        · (simp only [List.getElem?_toArray, List.getElem?_cons_succ, List.getElem?_cons_zero]; rfl)
        · kernel_rfl
        · kernel_rfl
        · kernel_rfl
        · refine Or.inl ⟨by rfl, ?_⟩
          intro w hSw
          (try dsimp only at hSw)
          go_simp
          try with_reducible rfl
        try simp only [Act.put, List.setIfInBounds_toArray, List.set_cons_zero, List.set_cons_succ]
        refine wpAnyH_take (i := 15) (oi := ?_) (v := ?_) ?_ ?_ ?_ ?_ (fun _ _ _ h => h) ?_ (by first | assumption | exact (Touch.refl _ _).drewN _ | exact (Touch.refl _ _).drew) ?_
        rotate_left 2
        · (simp only [List.getElem?_toArray, List.getElem?_cons_succ, List.getElem?_cons_zero]; rfl)
        · kernel_rfl
        · kernel_rfl
        · kernel_rfl
        · refine Or.inl ⟨by rfl, ?_⟩
          intro w hSw
          (try dsimp only at hSw)
          go_simp
          try with_reducible rfl
        try simp only [Act.put, List.setIfInBounds_toArray, List.set_cons_zero, List.set_cons_succ]
        refine wpAnyH_take (i := 16) (oi := ?_) (v := ?_) ?_ ?_ ?_ ?_ (fun _ _ _ h => h) ?_ (by first | assumption | exact (Touch.refl _ _).drewN _ | exact (Touch.refl _ _).drew) ?_
        rotate_left 2
        · (simp only [List.getElem?_toArray, List.getElem?_cons_succ, List.getElem?_cons_zero]; rfl)
        · kernel_rfl
        · kernel_rfl
        · kernel_rfl
        · refine Or.inl ⟨by rfl, ?_⟩
          intro w hSw
          (try dsimp only at hSw)
          go_simp
          try with_reducible rfl
        try simp only [Act.put, List.setIfInBounds_toArray, List.set_cons_zero, List.set_cons_succ]
        refine wpAnyH_take (i := 17) (oi := ?_) (v := ?_) ?_ ?_ ?_ ?_ (fun _ _ _ h => h) ?_ (by first | assumption | exact (Touch.refl _ _).drewN _ | exact (Touch.refl _ _).drew) ?_
        rotate_left 2
        · (simp only [List.getElem?_toArray, List.getElem?_cons_succ, List.getElem?_cons_zero]; rfl)
        · kernel_rfl
        · kernel_rfl
        · kernel_rfl
        · refine Or.inl ⟨by rfl, ?_⟩
          intro w hSw
          (try dsimp only at hSw)
          go_simp
          try with_reducible rfl
        try simp only [Act.put, List.setIfInBounds_toArray, List.set_cons_zero, List.set_cons_succ]
        refine wpAnyH_take (i := 18) (oi := ?_) (v := ?_) ?_ ?_ ?_ ?_ (fun _ _ _ h => h) ?_ (by first | assumption | exact (Touch.refl _ _).drewN _ | exact (Touch.refl _ _).drew) ?_
        rotate_left 2
        · (simp only [List.getElem?_toArray, List.getElem?_cons_succ, List.getElem?_cons_zero]; rfl)
        · kernel_rfl
        · kernel_rfl
        · kernel_rfl
        · refine Or.inl ⟨by rfl, ?_⟩
          intro w hSw
          (try dsimp only at hSw)
          go_simp
          try with_reducible rfl
        try simp only [Act.put, List.setIfInBounds_toArray, List.set_cons_zero, List.set_cons_succ]
        refine wpAnyH_take (i := 19) (oi := ?_) (v := ?_) ?_ ?_ ?_ ?_ (fun _ _ _ h => h) ?_ (by first | assumption | exact (Touch.refl _ _).drewN _ | exact (Touch.refl _ _).drew) ?_
        rotate_left 2
        · (simp only [List.getElem?_toArray, List.getElem?_cons_succ, List.getElem?_cons_zero]; rfl)
        · kernel_rfl
        · kernel_rfl
        · kernel_rfl
        · refine Or.inl ⟨by rfl, ?_⟩
          intro w hSw
          (try dsimp only at hSw)
          go_simp
          try with_reducible rfl
        try simp only [Act.put, List.setIfInBounds_toArray, List.set_cons_zero, List.set_cons_succ]
        refine wpAnyH_take (i := 20) (oi := ?_) (v := ?_) ?_ ?_ ?_ ?_ (fun _ _ _ h => h) ?_ (by first | assumption | exact (Touch.refl _ _).drewN _ | exact (Touch.refl _ _).drew) ?_
        rotate_left 2
        · (simp only [List.getElem?_toArray, List.getElem?_cons_succ, List.getElem?_cons_zero]; rfl)
        · kernel_rfl
        · kernel_rfl
        · kernel_rfl
        · refine Or.inl ⟨by rfl, ?_⟩
          intro w hSw
          (try dsimp only at hSw)
          go_simp
          try with_reducible rfl
        try simp only [Act.put, List.setIfInBounds_toArray, List.set_cons_zero, List.set_cons_succ]
        refine wpAnyH_take (i := 21) (oi := ?_) (v := ?_) ?_ ?_ ?_ ?_ (fun _ _ _ h => h) ?_ (by first | assumption | exact (Touch.refl _ _).drewN _ | exact (Touch.refl _ _).drew) ?_
        rotate_left 2
        · (simp only [List.getElem?_toArray, List.getElem?_cons_succ, List.getElem?_cons_zero]; rfl)
        · kernel_rfl
        · kernel_rfl
        · kernel_rfl
        · refine Or.inl ⟨by rfl, ?_⟩
          intro w hSw
          (try dsimp only at hSw)
          go_simp
          try with_reducible rfl
        try simp only [Act.put, List.setIfInBounds_toArray, List.set_cons_zero, List.set_cons_succ]
        refine wpAnyH_take (i := 22) (oi := ?_) (v := ?_) ?_ ?_ ?_ ?_ (fun _ _ _ h => h) ?_ (by first | assumption | exact (Touch.refl _ _).drewN _ | exact (Touch.refl _ _).drew) ?_
        rotate_left 2
        · (simp only [List.getElem?_toArray, List.getElem?_cons_succ, List.getElem?_cons_zero]; rfl)
        · kernel_rfl
        · kernel_rfl
        · kernel_rfl
        · refine Or.inl ⟨by rfl, ?_⟩
          intro w hSw
          (try dsimp only at hSw)
          go_simp
          try with_reducible rfl
        try simp only [Act.put, List.setIfInBounds_toArray, List.set_cons_zero, List.set_cons_succ]
        refine wpAnyH_take (i := 23) (oi := ?_) (v := ?_) ?_ ?_ ?_ ?_ (fun _ _ _ h => h) ?_ (by first | assumption | exact (Touch.refl _ _).drewN _ | exact (Touch.refl _ _).drew) ?_
        rotate_left 2
        · (simp only [List.getElem?_toArray, List.getElem?_cons_succ, List.getElem?_cons_zero]; rfl)
        · kernel_rfl
        · kernel_rfl
        · kernel_rfl
        · refine Or.inl ⟨by rfl, ?_⟩
          intro w hSw
          (try dsimp only at hSw)
          go_simp
          try with_reducible rfl
        try simp only [Act.put, List.setIfInBounds_toArray, List.set_cons_zero, List.set_cons_succ]
        refine wpAnyH_take (i := 24) (oi := ?_) (v := ?_) ?_ ?_ ?_ ?_ (fun _ _ _ h => h) ?_ (by first | assumption | exact (Touch.refl _ _).drewN _ | exact (Touch.refl _ _).drew) ?_
        rotate_left 2
        · (simp only [List.getElem?_toArray, List.getElem?_cons_succ, List.getElem?_cons_zero]; rfl)
        · kernel_rfl
        · kernel_rfl
        · kernel_rfl
        · refine Or.inl ⟨by rfl, ?_⟩
          intro w hSw
          (try dsimp only at hSw)
          go_simp
          try with_reducible rfl
        try simp only [Act.put, List.setIfInBounds_toArray, List.set_cons_zero, List.set_cons_succ]
        refine wpAnyH_take (i := 25) (oi := ?_) (v := ?_) ?_ ?_ ?_ ?_ (fun _ _ _ h => h) ?_ (by first | assumption | exact (Touch.refl _ _).drewN _ | exact (Touch.refl _ _).drew) ?_
        rotate_left 2
        · (simp only [List.getElem?_toArray, List.getElem?_cons_succ, List.getElem?_cons_zero]; rfl)
        · kernel_rfl
        · kernel_rfl
        · kernel_rfl
        · refine Or.inl ⟨by rfl, ?_⟩
          intro w hSw
          (try dsimp only at hSw)
          go_simp
          try with_reducible rfl
        try simp only [Act.put, List.setIfInBounds_toArray, List.set_cons_zero, List.set_cons_succ]
        refine wpAnyH_take (i := 26) (oi := ?_) (v := ?_) ?_ ?_ ?_ ?_ (fun _ _ _ h => h) ?_ (by first | assumption | exact (Touch.refl _ _).drewN _ | exact (Touch.refl _ _).drew) ?_
        rotate_left 2
        · (simp only [List.getElem?_toArray, List.getElem?_cons_succ, List.getElem?_cons_zero]; rfl)
        · kernel_rfl
        · kernel_rfl
        · kernel_rfl
        · refine Or.inl ⟨by rfl, ?_⟩
          intro w hSw
          (try dsimp only at hSw)
          go_simp
          try with_reducible rfl
        try simp only [Act.put, List.setIfInBounds_toArray, List.set_cons_zero, List.set_cons_succ]
        refine wpAnyH_take (i := 27) (oi := ?_) (v := ?_) ?_ ?_ ?_ ?_ (fun _ _ _ h => h) ?_ (by first | assumption | exact (Touch.refl _ _).drewN _ | exact (Touch.refl _ _).drew) ?_
        rotate_left 2
        · (simp only [List.getElem?_toArray, List.getElem?_cons_succ, List.getElem?_cons_zero]; rfl)
        · kernel_rfl
        · kernel_rfl
        · kernel_rfl
        · refine Or.inl ⟨by rfl, ?_⟩
          intro w hSw
          (try dsimp only at hSw)
          go_simp
          try with_reducible rfl
        try simp only [Act.put, List.setIfInBounds_toArray, List.set_cons_zero, List.set_cons_succ]
        refine wpAnyH_take (i := 28) (oi := ?_) (v := ?_) ?_ ?_ ?_ ?_ (fun _ _ _ h => h) ?_ (by first | assumption | exact (Touch.refl _ _).drewN _ | exact (Touch.refl _ _).drew) ?_
        rotate_left 2
        · (simp only [List.getElem?_toArray, List.getElem?_cons_succ, List.getElem?_cons_zero]; rfl)
        · kernel_rfl
        · kernel_rfl
        · kernel_rfl
        · refine Or.inl ⟨by rfl, ?_⟩
          intro w hSw
          (try dsimp only at hSw)
          go_simp
          try with_reducible rfl
        try simp only [Act.put, List.setIfInBounds_toArray, List.set_cons_zero, List.set_cons_succ]
        refine wpAnyH_take (i := 29) (oi := ?_) (v := ?_) ?_ ?_ ?_ ?_ (fun _ _ _ h => h) ?_ (by first | assumption | exact (Touch.refl _ _).drewN _ | exact (Touch.refl _ _).drew) ?_
        rotate_left 2
        · (simp only [List.getElem?_toArray, List.getElem?_cons_succ, List.getElem?_cons_zero]; rfl)
        · kernel_rfl
        · kernel_rfl
        · kernel_rfl
        · refine Or.inl ⟨by rfl, ?_⟩
          intro w hSw
          (try dsimp only at hSw)
          go_simp
          try with_reducible rfl
        try simp only [Act.put, List.setIfInBounds_toArray, List.set_cons_zero, List.set_cons_succ]
        refine wpAnyH_take (i := 31) (oi := ?_) (v := ?_) ?_ ?_ ?_ ?_ (fun _ _ _ h => h) ?_ (by first | assumption | exact (Touch.refl _ _).drewN _ | exact (Touch.refl _ _).drew) ?_
        rotate_left 2
        · (simp only [List.getElem?_toArray, List.getElem?_cons_succ, List.getElem?_cons_zero]; rfl)
        · kernel_rfl
        · kernel_rfl
        · kernel_rfl
        · refine Or.inl ⟨by rfl, ?_⟩
          intro w hSw
          (try dsimp only at hSw)
          go_simp
          try with_reducible rfl
        try simp only [Act.put, List.setIfInBounds_toArray, List.set_cons_zero, List.set_cons_succ]
        refine wpAnyH_take (i := 32) (oi := ?_) (v := ?_) ?_ ?_ ?_ ?_ (fun _ _ _ h => h) ?_ (by first | assumption | exact (Touch.refl _ _).drewN _ | exact (Touch.refl _ _).drew) ?_
        rotate_left 2
        · (simp only [List.getElem?_toArray, List.getElem?_cons_succ, List.getElem?_cons_zero]; rfl)
        · kernel_rfl
        · kernel_rfl
        · kernel_rfl
        · refine Or.inl ⟨by rfl, ?_⟩
          intro w hSw
          (try dsimp only at hSw)
          go_simp
          try with_reducible rfl
        try simp only [Act.put, List.setIfInBounds_toArray, List.set_cons_zero, List.set_cons_succ]
        refine wpAnyH_take (i := 33) (oi := ?_) (v := ?_) ?_ ?_ ?_ ?_ (fun _ _ _ h => h) ?_ (by first | assumption | exact (Touch.refl _ _).drewN _ | exact (Touch.refl _ _).drew) ?_
        rotate_left 2
        · (simp only [List.getElem?_toArray, List.getElem?_cons_succ, List.getElem?_cons_zero]; rfl)
        · kernel_rfl
        · kernel_rfl
        · kernel_rfl
        · refine Or.inl ⟨by rfl, ?_⟩
          intro w hSw
          (try dsimp only at hSw)
          go_simp
          try with_reducible rfl
        try simp only [Act.put, List.setIfInBounds_toArray, List.set_cons_zero, List.set_cons_succ]
        refine wpAnyH_take (i := 34) (oi := ?_) (v := ?_) ?_ ?_ ?_ ?_ (fun _ _ _ h => h) ?_ (by first | assumption | exact (Touch.refl _ _).drewN _ | exact (Touch.refl _ _).drew) ?_
        rotate_left 2
        · (simp only [List.getElem?_toArray, List.getElem?_cons_succ, List.getElem?_cons_zero]; rfl)
        · kernel_rfl
        · kernel_rfl
        · kernel_rfl
        · refine Or.inl ⟨by rfl, ?_⟩
          intro w hSw
          (try dsimp only at hSw)
          go_simp
          try with_reducible rfl
        try simp only [Act.put, List.setIfInBounds_toArray, List.set_cons_zero, List.set_cons_succ]
        refine wpAnyH_take (i := 35) (oi := ?_) (v := ?_) ?_ ?_ ?_ ?_ (fun _ _ _ h => h) ?_ (by first | assumption | exact (Touch.refl _ _).drewN _ | exact (Touch.refl _ _).drew) ?_
        rotate_left 2
        · (simp only [List.getElem?_toArray, List.getElem?_cons_succ, List.getElem?_cons_zero]; rfl)
        · kernel_rfl
        · kernel_rfl
        · kernel_rfl
        · refine Or.inl ⟨by rfl, ?_⟩
          intro w hSw
          (try dsimp only at hSw)
          go_simp
          try with_reducible rfl
        try simp only [Act.put, List.setIfInBounds_toArray, List.set_cons_zero, List.set_cons_succ]
        refine wpAnyH_take (i := 36) (oi := ?_) (v := ?_) ?_ ?_ ?_ ?_ (fun _ _ _ h => h) ?_ (by first | assumption | exact (Touch.refl _ _).drewN _ | exact (Touch.refl _ _).drew) ?_
        rotate_left 2
        · (simp only [List.getElem?_toArray, List.getElem?_cons_succ, List.getElem?_cons_zero]; rfl)
        · kernel_rfl
        · kernel_rfl
        · kernel_rfl
        · refine Or.inl ⟨by rfl, ?_⟩
          intro w hSw
          (try dsimp only at hSw)
          go_simp
          try with_reducible rfl
        try simp only [Act.put, List.setIfInBounds_toArray, List.set_cons_zero, List.set_cons_succ]
        refine wpAnyH_take (i := 37) (oi := ?_) (v := ?_) ?_ ?_ ?_ ?_ (fun _ _ _ h => h) ?_ (by first | assumption | exact (Touch.refl _ _).drewN _ | exact (Touch.refl _ _).drew) ?_
        rotate_left 2
        · (simp only [List.getElem?_toArray, List.getElem?_cons_succ, List.getElem?_cons_zero]; rfl)
        · kernel_rfl
        · kernel_rfl
        · kernel_rfl
        · refine Or.inl ⟨by rfl, ?_⟩
          intro w hSw
          (try dsimp only at hSw)
          go_simp
          try with_reducible rfl
        try simp only [Act.put, List.setIfInBounds_toArray, List.set_cons_zero, List.set_cons_succ]
        refine wpAnyH_ready (rs := [30]) (by kernel_rfl) (by simp) ?_
        refine AllReadyH.cons (o := ?_) ?_ (fun K hK => ?_) AllReadyH.nil
        rotate_left
        · (simp only [List.getElem?_toArray, List.getElem?_cons_succ, List.getElem?_cons_zero]; rfl)
        go_simp
        refine (hga2 _ (by first | assumption | exact (Touch.refl _ _).drewN _ | exact (Touch.refl _ _).drew)).mono ?_
        rintro e w9 ⟨rfl, n9, rfl⟩
        refine hK.out _ _ (by first | exact Touch.drewN (by assumption) _ | exact ((Touch.refl _ _).drewN _).drewN _ | exact (Touch.refl _ _).drewN _) (fun hHeld => ?_)
        clear hK K
        try simp only [Act.put, List.setIfInBounds_toArray, List.set_cons_zero, List.set_cons_succ]
        refine wpAnyH_ready (rs := [38]) (by kernel_rfl) (by simp) ?_
        refine AllReadyH.cons (o := ?_) ?_ (fun K hK => ?_) AllReadyH.nil
        rotate_left
        · (simp only [List.getElem?_toArray, List.getElem?_cons_succ, List.getElem?_cons_zero]; rfl)
        go_simp
        refine (hgb2 _ (by first | assumption | exact (Touch.refl _ _).drewN _ | exact (Touch.refl _ _).drew)).mono ?_
        rintro e w9 ⟨rfl, rfl⟩
        refine hK.out _ _ (by first | assumption | exact (Touch.refl _ _).drewN _ | exact (Touch.refl _ _).drew) (fun hHeld => ?_)
        clear hK K
        try simp only [Act.put, List.setIfInBounds_toArray, List.set_cons_zero, List.set_cons_succ]
        refine wpAnyH_take (i := 39) (oi := ?_) (v := ?_) ?_ ?_ ?_ ?_ (fun _ _ _ h => h) ?_ (by first | assumption | exact (Touch.refl _ _).drewN _ | exact (Touch.refl _ _).drew) ?_
        rotate_left 2
        · (simp only [List.getElem?_toArray, List.getElem?_cons_succ, List.getElem?_cons_zero]; rfl)
        · kernel_rfl
        · kernel_rfl
        · kernel_rfl
        · refine Or.inl ⟨by rfl, ?_⟩
          intro w hSw
          (try dsimp only at hSw)
          go_simp
          try with_reducible rfl
        try simp only [Act.put, List.setIfInBounds_toArray, List.set_cons_zero, List.set_cons_succ]
        refine wpAnyH_take (i := 40) (oi := ?_) (v := ?_) ?_ ?_ ?_ ?_ (fun _ _ _ h => h) ?_ (by first | assumption | exact (Touch.refl _ _).drewN _ | exact (Touch.refl _ _).drew) ?_
        rotate_left 2
        · (simp only [List.getElem?_toArray, List.getElem?_cons_succ, List.getElem?_cons_zero]; rfl)
        · kernel_rfl
        · kernel_rfl
        · kernel_rfl
        · refine Or.inl ⟨by rfl, ?_⟩
          intro w hSw
          (try dsimp only at hSw)
          go_simp
          try with_reducible rfl
        try simp only [Act.put, List.setIfInBounds_toArray, List.set_cons_zero, List.set_cons_succ]
        refine wpAnyH_take (i := 41) (oi := ?_) (v := ?_) ?_ ?_ ?_ ?_ (fun _ _ _ h => h) ?_ (by first | assumption | exact (Touch.refl _ _).drewN _ | exact (Touch.refl _ _).drew) ?_
        rotate_left 2
        · (simp only [List.getElem?_toArray, List.getElem?_cons_succ, List.getElem?_cons_zero]; rfl)
        · kernel_rfl
        · kernel_rfl
        · kernel_rfl
        · refine Or.inl ⟨by rfl, ?_⟩
          intro w hSw
          (try dsimp only at hSw)
          go_simp
          try with_reducible rfl
        try simp only [Act.put, List.setIfInBounds_toArray, List.set_cons_zero, List.set_cons_succ]
        refine wpAnyH_done (by kernel_rfl) ?_ _
        refine NoPanic.normal ?_
        go_wp2
        exact ⟨⟨i + 1, hlt, by go_num, hT.trans (by first | assumption | exact (Touch.refl _ _).drewN _)⟩, by simp [intOf]; omega⟩
      · have t5 : decide (c < 1114111) = false := by simpa using hlc
        clear hZ hc hEI6 hGa hGb hKa hB3 hwc
        go_upto_region 9 with (fail)
        refine wp_region_noPanic ?_
        refine wp_region_held_drew (S := fun w' => Touch [] wr w') (by kernel_rfl) (Touch.drew (Touch.refl _ wr)) (fun hHeld => ?_)
        refine wpAnyH_take (i := 0) (oi := ?_) (v := ?_) ?_ ?_ ?_ ?_ (fun _ _ _ h => h) ?_ (by first | assumption | exact (Touch.refl _ _).drewN _ | exact (Touch.refl _ _).drew) ?_
        rotate_left 2
        · (simp only [List.getElem?_toArray, List.getElem?_cons_succ, List.getElem?_cons_zero]; rfl)
        · kernel_rfl
        · kernel_rfl
        · kernel_rfl
        · refine Or.inl ⟨by rfl, ?_⟩
          intro w hSw
          (try dsimp only at hSw)
          go_simp
          try with_reducible rfl
        try simp only [Act.put, List.setIfInBounds_toArray, List.set_cons_zero, List.set_cons_succ]
        refine wpAnyH_take (i := 1) (oi := ?_) (v := ?_) ?_ ?_ ?_ ?_ (fun _ _ _ h => h) ?_ (by first | assumption | exact (Touch.refl _ _).drewN _ | exact (Touch.refl _ _).drew) ?_
        rotate_left 2
        · (simp only [List.getElem?_toArray, List.getElem?_cons_succ, List.getElem?_cons_zero]; rfl)
        · kernel_rfl
        · kernel_rfl
        · kernel_rfl
        · refine Or.inl ⟨by rfl, ?_⟩
          intro w hSw
          (try dsimp only at hSw)
          go_simp
          try with_reducible rfl
        try simp only [Act.put, List.setIfInBounds_toArray, List.set_cons_zero, List.set_cons_succ]
        refine wpAnyH_take (i := 2) (oi := ?_) (v := ?_) ?_ ?_ ?_ ?_ (fun _ _ _ h => h) ?_ (by first | assumption | exact (Touch.refl _ _).drewN _ | exact (Touch.refl _ _).drew) ?_
        rotate_left 2
        · (simp only [List.getElem?_toArray, List.getElem?_cons_succ, List.getElem?_cons_zero]; rfl)
        · kernel_rfl
        · kernel_rfl
        · kernel_rfl
        · refine Or.inl ⟨by rfl, ?_⟩
          intro w hSw
          (try dsimp only at hSw)
          go_simp
          try with_reducible rfl
        try simp only [Act.put, List.setIfInBounds_toArray, List.set_cons_zero, List.set_cons_succ]
        refine wpAnyH_take (i := 3) (oi := ?_) (v := ?_) ?_ ?_ ?_ ?_ (fun _ _ _ h => h) ?_ (by first | assumption | exact (Touch.refl _ _).drewN _ | exact (Touch.refl _ _).drew) ?_
        rotate_left 2
        · (simp only [List.getElem?_toArray, List.getElem?_cons_succ, List.getElem?_cons_zero]; rfl)
        · kernel_rfl
        · kernel_rfl
        · kernel_rfl
        · refine Or.inl ⟨by rfl, ?_⟩
          intro w hSw
          (try dsimp only at hSw)
          go_simp
          try with_reducible rfl
        try simp only [Act.put, List.setIfInBounds_toArray, List.set_cons_zero, List.set_cons_succ]
        refine wpAnyH_take (i := 4) (oi := ?_) (v := ?_) ?_ ?_ ?_ ?_ (fun _ _ _ h => h) ?_ (by first | assumption | exact (Touch.refl _ _).drewN _ | exact (Touch.refl _ _).drew) ?_
        rotate_left 2
        · (simp only [List.getElem?_toArray, List.getElem?_cons_succ, List.getElem?_cons_zero]; rfl)
        · kernel_rfl
        · kernel_rfl
        · kernel_rfl
        · refine Or.inl ⟨by rfl, ?_⟩
          intro w hSw
          (try dsimp only at hSw)
          go_simp
          try with_reducible rfl
        try simp only [Act.put, List.setIfInBounds_toArray, List.set_cons_zero, List.set_cons_succ]
        refine wpAnyH_take (i := 5) (oi := ?_) (v := ?_) ?_ ?_ ?_ ?_ (fun _ _ _ h => h) ?_ (by first | assumption | exact (Touch.refl _ _).drewN _ | exact (Touch.refl _ _).drew) ?_
        rotate_left 2
        · (simp only [List.getElem?_toArray, List.getElem?_cons_succ, List.getElem?_cons_zero]; rfl)
        · kernel_rfl
        · kernel_rfl
        · kernel_rfl
        · refine Or.inl ⟨by rfl, ?_⟩
          intro w hSw
          (try dsimp only at hSw)
          go_simp
          try with_reducible rfl
        try simp only [Act.put, List.setIfInBounds_toArray, List.set_cons_zero, List.set_cons_succ]
        refine wpAnyH_take (i := 7) (oi := ?_) (v := ?_) ?_ ?_ ?_ ?_ (fun _ _ _ h => h) ?_ (by first | assumption | exact (Touch.refl _ _).drewN _ | exact (Touch.refl _ _).drew) ?_
        rotate_left 2
        · (simp only [List.getElem?_toArray, List.getElem?_cons_succ, List.getElem?_cons_zero]; rfl)
        · kernel_rfl
        · kernel_rfl
        · kernel_rfl
        · refine Or.inl ⟨by rfl, ?_⟩
          intro w hSw
          (try dsimp only at hSw)
          go_simp
          try with_reducible rfl
        try simp only [Act.put, List.setIfInBounds_toArray, List.set_cons_zero, List.set_cons_succ]
        refine wpAnyH_take (i := 8) (oi := ?_) (v := ?_) ?_ ?_ ?_ ?_ (fun _ _ _ h => h) ?_ (by first | assumption | exact (Touch.refl _ _).drewN _ | exact (Touch.refl _ _).drew) ?_
        rotate_left 2
        · (simp only [List.getElem?_toArray, List.getElem?_cons_succ, List.getElem?_cons_zero]; rfl)
        · kernel_rfl
        · kernel_rfl
        · kernel_rfl
        · refine Or.inl ⟨by rfl, ?_⟩
          intro w hSw
          (try dsimp only at hSw)
          go_simp
          try with_reducible rfl
        try simp only [Act.put, List.setIfInBounds_toArray, List.set_cons_zero, List.set_cons_succ]
        refine wpAnyH_take (i := 9) (oi := ?_) (v := ?_) ?_ ?_ ?_ ?_ (fun _ _ _ h => h) ?_ (by first | assumption | exact (Touch.refl _ _).drewN _ | exact (Touch.refl _ _).drew) ?_
        rotate_left 2
        · (simp only [List.getElem?_toArray, List.getElem?_cons_succ, List.getElem?_cons_zero]; rfl)
        · kernel_rfl
        · kernel_rfl
        · kernel_rfl
        · refine Or.inl ⟨by rfl, ?_⟩
          intro w hSw
          (try dsimp only at hSw)
          go_simp
          try with_reducible rfl
        try simp only [Act.put, List.setIfInBounds_toArray, List.set_cons_zero, List.set_cons_succ]
        refine wpAnyH_take (i := 10) (oi := ?_) (v := ?_) ?_ ?_ ?_ ?_ (fun _ _ _ h => h) ?_ (by first | assumption | exact (Touch.refl _ _).drewN _ | exact (Touch.refl _ _).drew) ?_
        rotate_left 2
        · (simp only [List.getElem?_toArray, List.getElem?_cons_succ, List.getElem?_cons_zero]; rfl)
        · kernel_rfl
        · kernel_rfl
        · kernel_rfl
        · refine Or.inl ⟨by rfl, ?_⟩
          intro w hSw
          (try dsimp only at hSw)
          go_simp
          try with_reducible rfl
        try simp only [Act.put, List.setIfInBounds_toArray, List.set_cons_zero, List.set_cons_succ]
        refine wpAnyH_take (i := 11) (oi := ?_) (v := ?_) ?_ ?_ ?_ ?_ (fun _ _ _ h => h) ?_ (by first | assumption | exact (Touch.refl _ _).drewN _ | exact (Touch.refl _ _).drew) ?_
        rotate_left 2
        · (simp only [List.getElem?_toArray, List.getElem?_cons_succ, List.getElem?_cons_zero]; rfl)
        · kernel_rfl
        · kernel_rfl
        · kernel_rfl
        · refine Or.inl ⟨by rfl, ?_⟩
          intro w hSw
          (try dsimp only at hSw)
          go_simp
          try with_reducible rfl
        try simp only [Act.put, List.setIfInBounds_toArray, List.set_cons_zero, List.set_cons_succ]
        refine wpAnyH_take (i := 12) (oi := ?_) (v := ?_) ?_ ?_ ?_ ?_ (fun _ _ _ h => h) ?_ (by first | assumption | exact (Touch.refl _ _).drewN _ | exact (Touch.refl _ _).drew) ?_
        rotate_left 2
        · (simp only [List.getElem?_toArray, List.getElem?_cons_succ, List.getElem?_cons_zero]; rfl)
        · kernel_rfl
        · kernel_rfl
        · kernel_rfl
        · refine Or.inl ⟨by rfl, ?_⟩
          intro w hSw
          (try dsimp only at hSw)
          go_simp
          try with_reducible rfl
        try simp only [Act.put, List.setIfInBounds_toArray, List.set_cons_zero, List.set_cons_succ]
        refine wpAnyH_ready (rs := [6]) (by kernel_rfl) (by simp) ?_
        refine AllReadyH.cons (o := ?_) ?_ (fun K hK => ?_) AllReadyH.nil
        rotate_left
        · (simp only [List.getElem?_toArray, List.getElem?_cons_succ, List.getElem?_cons_zero]; rfl)
        go_simp
        refine (hga _ (by first | assumption | exact (Touch.refl _ _).drewN _ | exact (Touch.refl _ _).drew)).mono ?_
        rintro e w9 ⟨rfl, n9, rfl⟩
        refine hK.out _ _ (by first | exact Touch.drewN (by assumption) _ | exact ((Touch.refl _ _).drewN _).drewN _ | exact (Touch.refl _ _).drewN _) (fun hHeld => ?_)
        clear hK K
        try simp only [Act.put, List.setIfInBounds_toArray, List.set_cons_zero, List.set_cons_succ]
        refine wpAnyH_ready (rs := [13]) (by kernel_rfl) (by simp) ?_
        refine AllReadyH.cons (o := ?_) ?_ (fun K hK => ?_) AllReadyH.nil
        rotate_left
        · (simp only [List.getElem?_toArray, List.getElem?_cons_succ, List.getElem?_cons_zero]; rfl)
        go_simp
        refine (hgb _ (by first | assumption | exact (Touch.refl _ _).drewN _ | exact (Touch.refl _ _).drew)).mono ?_
        rintro e w9 ⟨rfl, rfl⟩
        refine hK.out _ _ (by first | assumption | exact (Touch.refl _ _).drewN _ | exact (Touch.refl _ _).drew) (fun hHeld => ?_)
        clear hK K
        try simp only [Act.put, List.setIfInBounds_toArray, List.set_cons_zero, List.set_cons_succ]
        refine wpAnyH_take (i := 14) (oi := ?_) (v := ?_) ?_ ?_ ?_ ?_ (fun _ _ _ h => h) ?_ (by first | assumption | exact (Touch.refl _ _).drewN _ | exact (Touch.refl _ _).drew) ?_
        rotate_left 2
        · (simp only [List.getElem?_toArray, List.getElem?_cons_succ, List.getElem?_cons_zero]; rfl)
        · kernel_rfl
        · kernel_rfl
        · kernel_rfl
        · refine Or.inl ⟨by rfl, ?_⟩
          intro w hSw
          (try dsimp only at hSw)
          go_simp
          try with_reducible rfl
        try simp only [Act.put, List.setIfInBounds_toArray, List.set_cons_zero, List.set_cons_succ]
        refine wpAnyH_take (i := 15) (oi := ?_) (v := ?_) ?_ ?_ ?_ ?_ (fun _ _ _ h => h) ?_ (by first | assumption | exact (Touch.refl _ _).drewN _ | exact (Touch.refl _ _).drew) ?_
        rotate_left 2
        · (simp only [List.getElem?_toArray, List.getElem?_cons_succ, List.getElem?_cons_zero]; rfl)
        · kernel_rfl
        · kernel_rfl
        · kernel_rfl
        · refine Or.inl ⟨by rfl, ?_⟩
          intro w hSw
          (try dsimp only at hSw)
          go_simp
          try with_reducible rfl
        try simp only [Act.put, List.setIfInBounds_toArray, List.set_cons_zero, List.set_cons_succ]
        refine wpAnyH_take (i := 16) (oi := ?_) (v := ?_) ?_ ?_ ?_ ?_ (fun _ _ _ h => h) ?_ (by first | assumption | exact (Touch.refl _ _).drewN _ | exact (Touch.refl _ _).drew) ?_
        rotate_left 2
        · (simp only [List.getElem?_toArray, List.getElem?_cons_succ, List.getElem?_cons_zero]; rfl)
        · kernel_rfl
        · kernel_rfl
        · kernel_rfl
        · refine Or.inl ⟨by rfl, ?_⟩
          intro w hSw
          (try dsimp only at hSw)
          go_simp
          try with_reducible rfl
        try simp only [Act.put, List.setIfInBounds_toArray, List.set_cons_zero, List.set_cons_succ]
        refine wpAnyH_take (i := 17) (oi := ?_) (v := ?_) ?_ ?_ ?_ ?_ (fun _ _ _ h => h) ?_ (by first | assumption | exact (Touch.refl _ _).drewN _ | exact (Touch.refl _ _).drew) ?_
        rotate_left 2
        · (simp only [List.getElem?_toArray, List.getElem?_cons_succ, List.getElem?_cons_zero]; rfl)
        · kernel_rfl
        · kernel_rfl
        · kernel_rfl
        · refine Or.inl ⟨by rfl, ?_⟩
          intro w hSw
          (try dsimp only at hSw)
          go_simp
          try with_reducible rfl
        try simp only [Act.put, List.setIfInBounds_toArray, List.set_cons_zero, List.set_cons_succ]
        refine wpAnyH_take (i := 18) (oi := ?_) (v := ?_) ?_ ?_ ?_ ?_ (fun _ _ _ h => h) ?_ (by first | assumption | exact (Touch.refl _ _).drewN _ | exact (Touch.refl _ _).drew) ?_
        rotate_left 2
        · (simp only [List.getElem?_toArray, List.getElem?_cons_succ, List.getElem?_cons_zero]; rfl)
        · kernel_rfl
        · kernel_rfl
        · kernel_rfl
        · refine Or.inl ⟨by rfl, ?_⟩
          intro w hSw
          (try dsimp only at hSw)
          go_simp
          try with_reducible rfl
        try simp only [Act.put, List.setIfInBounds_toArray, List.set_cons_zero, List.set_cons_succ]
        refine wpAnyH_take (i := 19) (oi := ?_) (v := ?_) ?_ ?_ ?_ ?_ (fun _ _ _ h => h) ?_ (by first | assumption | exact (Touch.refl _ _).drewN _ | exact (Touch.refl _ _).drew) ?_
        rotate_left 2
        · (simp only [List.getElem?_toArray, List.getElem?_cons_succ, List.getElem?_cons_zero]; rfl)
        · kernel_rfl
        · kernel_rfl
        · kernel_rfl
        · refine Or.inl ⟨by rfl, ?_⟩
          intro w hSw
          (try dsimp only at hSw)
          go_simp
          try with_reducible rfl
        try simp only [Act.put, List.setIfInBounds_toArray, List.set_cons_zero, List.set_cons_succ]
        refine wpAnyH_take (i := 20) (oi := ?_) (v := ?_) ?_ ?_ ?_ ?_ (fun _ _ _ h => h) ?_ (by first | assumption | exact (Touch.refl _ _).drewN _ | exact (Touch.refl _ _).drew) ?_
        rotate_left 2
        · (simp only [List.getElem?_toArray, List.getElem?_cons_succ, List.getElem?_cons_zero]; rfl)
        · kernel_rfl
        · kernel_rfl
        · kernel_rfl
        · refine Or.inl ⟨by rfl, ?_⟩
          intro w hSw
          (try dsimp only at hSw)
          go_simp
          try with_reducible rfl
        try simp only [Act.put, List.setIfInBounds_toArray, List.set_cons_zero, List.set_cons_succ]
        refine wpAnyH_take (i := 21) (oi := ?_) (v := ?_) ?_ ?_ ?_ ?_ (fun _ _ _ h => h) ?_ (by first | assumption | exact (Touch.refl _ _).drewN _ | exact (Touch.refl _ _).drew) ?_
        rotate_left 2
        · (simp only [List.getElem?_toArray, List.getElem?_cons_succ, List.getElem?_cons_zero]; rfl)
        · kernel_rfl
        · kernel_rfl
        · kernel_rfl
        · refine Or.inl ⟨by rfl, ?_⟩
          intro w hSw
          (try dsimp only at hSw)
          go_simp
          try with_reducible rfl
        try simp only [Act.put, List.setIfInBounds_toArray, List.set_cons_zero, List.set_cons_succ]
        refine wpAnyH_take (i := 22) (oi := ?_) (v := ?_) ?_ ?_ ?_ ?_ (fun _ _ _ h => h) ?_ (by first | assumption | exact (Touch.refl _ _).drewN _ | exact (Touch.refl _ _).drew) ?_
        rotate_left 2
        · (simp only [List.getElem?_toArray, List.getElem?_cons_succ, List.getElem?_cons_zero]; rfl)
        · kernel_rfl
        · kernel_rfl
        · kernel_rfl
        · refine Or.inl ⟨by rfl, ?_⟩
          intro w hSw
          (try dsimp only at hSw)
          go_simp
          try with_reducible rfl
        try simp only [Act.put, List.setIfInBounds_toArray, List.set_cons_zero, List.set_cons_succ]
        refine wpAnyH_take (i := 23) (oi := ?_) (v := undef) ?_ ?_ ?_ ?_ (fun _ _ _ h => h) ?_ (by first | assumption | exact (Touch.refl _ _).drewN _ | exact (Touch.refl _ _).drew) ?_
        rotate_left
        · (simp only [List.getElem?_toArray, List.getElem?_cons_succ, List.getElem?_cons_zero]; rfl)
        · kernel_rfl
        · kernel_rfl
        · kernel_rfl
        · exact Or.inr ⟨by rfl, rfl⟩
        try simp only [Act.put, List.setIfInBounds_toArray, List.set_cons_zero, List.set_cons_succ]
        refine wpAnyH_take (i := 24) (oi := ?_) (v := undef) ?_ ?_ ?_ ?_ (fun _ _ _ h => h) ?_ (by first | assumption | exact (Touch.refl _ _).drewN _ | exact (Touch.refl _ _).drew) ?_
        rotate_left
        · (simp only [List.getElem?_toArray, List.getElem?_cons_succ, List.getElem?_cons_zero]; rfl)
        · kernel_rfl
        · kernel_rfl
        · kernel_rfl
        · exact Or.inr ⟨by rfl, rfl⟩
        try simp only [Act.put, List.setIfInBounds_toArray, List.set_cons_zero, List.set_cons_succ]
        refine wpAnyH_take (i := 25) (oi := ?_) (v := undef) ?_ ?_ ?_ ?_ (fun _ _ _ h => h) ?_ (by first | assumption | exact (Touch.refl _ _).drewN _ | exact (Touch.refl _ _).drew) ?_
        rotate_left
        · (simp only [List.getElem?_toArray, List.getElem?_cons_succ, List.getElem?_cons_zero]; rfl)
        · kernel_rfl
        · kernel_rfl
        · kernel_rfl
        · exact Or.inr ⟨by rfl, rfl⟩
        try simp only [Act.put, List.setIfInBounds_toArray, List.set_cons_zero, List.set_cons_succ]
        refine wpAnyH_take (i := 26) (oi := ?_) (v := undef) ?_ ?_ ?_ ?_ (fun _ _ _ h => h) ?_ (by first | assumption | exact (Touch.refl _ _).drewN _ | exact (Touch.refl _ _).drew) ?_
        rotate_left
        · (simp only [List.getElem?_toArray, List.getElem?_cons_succ, List.getElem?_cons_zero]; rfl)
        · kernel_rfl
        · kernel_rfl
        · kernel_rfl
        · exact Or.inr ⟨by rfl, rfl⟩
        try simp only [Act.put, List.setIfInBounds_toArray, List.set_cons_zero, List.set_cons_succ]
        refine wpAnyH_take (i := 27) (oi := ?_) (v := undef) ?_ ?_ ?_ ?_ (fun _ _ _ h => h) ?_ (by first | assumption | exact (Touch.refl _ _).drewN _ | exact (Touch.refl _ _).drew) ?_
        rotate_left
        · (simp only [List.getElem?_toArray, List.getElem?_cons_succ, List.getElem?_cons_zero]; rfl)
        · kernel_rfl
        · kernel_rfl
        · kernel_rfl
        · exact Or.inr ⟨by rfl, rfl⟩
        try simp only [Act.put, List.setIfInBounds_toArray, List.set_cons_zero, List.set_cons_succ]
        refine wpAnyH_take (i := 28) (oi := ?_) (v := undef) ?_ ?_ ?_ ?_ (fun _ _ _ h => h) ?_ (by first | assumption | exact (Touch.refl _ _).drewN _ | exact (Touch.refl _ _).drew) ?_
        rotate_left
        · (simp only [List.getElem?_toArray, List.getElem?_cons_succ, List.getElem?_cons_zero]; rfl)
        · kernel_rfl
        · kernel_rfl
        · kernel_rfl
        · exact Or.inr ⟨by rfl, rfl⟩
        try simp only [Act.put, List.setIfInBounds_toArray, List.set_cons_zero, List.set_cons_succ]
        refine wpAnyH_take (i := 29) (oi := ?_) (v := undef) ?_ ?_ ?_ ?_ (fun _ _ _ h => h) ?_ (by first | assumption | exact (Touch.refl _ _).drewN _ | exact (Touch.refl _ _).drew) ?_
        rotate_left
        · (simp only [List.getElem?_toArray, List.getElem?_cons_succ, List.getElem?_cons_zero]; rfl)
        · kernel_rfl
        · kernel_rfl
        · kernel_rfl
        · exact Or.inr ⟨by rfl, rfl⟩
        try simp only [Act.put, List.setIfInBounds_toArray, List.set_cons_zero, List.set_cons_succ]
        refine wpAnyH_take (i := 30) (oi := ?_) (v := undef) ?_ ?_ ?_ ?_ (fun _ _ _ h => h) ?_ (by first | assumption | exact (Touch.refl _ _).drewN _ | exact (Touch.refl _ _).drew) ?_
        rotate_left
        · (simp only [List.getElem?_toArray, List.getElem?_cons_succ, List.getElem?_cons_zero]; rfl)
        · kernel_rfl
        · kernel_rfl
        · kernel_rfl
        · exact Or.inr ⟨by rfl, rfl⟩
        try simp only [Act.put, List.setIfInBounds_toArray, List.set_cons_zero, List.set_cons_succ]
        refine wpAnyH_take (i := 31) (oi := ?_) (v := undef) ?_ ?_ ?_ ?_ (fun _ _ _ h => h) ?_ (by first | assumption | exact (Touch.refl _ _).drewN _ | exact (Touch.refl _ _).drew) ?_
        rotate_left
        · (simp only [List.getElem?_toArray, List.getElem?_cons_succ, List.getElem?_cons_zero]; rfl)
        · kernel_rfl
        · kernel_rfl
        · kernel_rfl
        · exact Or.inr ⟨by rfl, rfl⟩
        try simp only [Act.put, List.setIfInBounds_toArray, List.set_cons_zero, List.set_cons_succ]
        refine wpAnyH_take (i := 32) (oi := ?_) (v := undef) ?_ ?_ ?_ ?_ (fun _ _ _ h => h) ?_ (by first | assumption | exact (Touch.refl _ _).drewN _ | exact (Touch.refl _ _).drew) ?_
        rotate_left
        · (simp only [List.getElem?_toArray, List.getElem?_cons_succ, List.getElem?_cons_zero]; rfl)
        · kernel_rfl
        · kernel_rfl
        · kernel_rfl
        · exact Or.inr ⟨by rfl, rfl⟩
        try simp only [Act.put, List.setIfInBounds_toArray, List.set_cons_zero, List.set_cons_succ]
        refine wpAnyH_take (i := 33) (oi := ?_) (v := undef) ?_ ?_ ?_ ?_ (fun _ _ _ h => h) ?_ (by first | assumption | exact (Touch.refl _ _).drewN _ | exact (Touch.refl _ _).drew) ?_
        rotate_left
        · (simp only [List.getElem?_toArray, List.getElem?_cons_succ, List.getElem?_cons_zero]; rfl)
        · kernel_rfl
        · kernel_rfl
        · kernel_rfl
        · exact Or.inr ⟨by rfl, rfl⟩
        try simp only [Act.put, List.setIfInBounds_toArray, List.set_cons_zero, List.set_cons_succ]
        refine wpAnyH_take (i := 34) (oi := ?_) (v := undef) ?_ ?_ ?_ ?_ (fun _ _ _ h => h) ?_ (by first | assumption | exact (Touch.refl _ _).drewN _ | exact (Touch.refl _ _).drew) ?_
        rotate_left
        · (simp only [List.getElem?_toArray, List.getElem?_cons_succ, List.getElem?_cons_zero]; rfl)
        · kernel_rfl
        · kernel_rfl
        · kernel_rfl
        · exact Or.inr ⟨by rfl, rfl⟩
        try simp only [Act.put, List.setIfInBounds_toArray, List.set_cons_zero, List.set_cons_succ]
        refine wpAnyH_take (i := 35) (oi := ?_) (v := undef) ?_ ?_ ?_ ?_ (fun _ _ _ h => h) ?_ (by first | assumption | exact (Touch.refl _ _).drewN _ | exact (Touch.refl _ _).drew) ?_
        rotate_left
        · (simp only [List.getElem?_toArray, List.getElem?_cons_succ, List.getElem?_cons_zero]; rfl)
        · kernel_rfl
        · kernel_rfl
        · kernel_rfl
        · exact Or.inr ⟨by rfl, rfl⟩
        try simp only [Act.put, List.setIfInBounds_toArray, List.set_cons_zero, List.set_cons_succ]
        refine wpAnyH_take (i := 36) (oi := ?_) (v := undef) ?_ ?_ ?_ ?_ (fun _ _ _ h => h) ?_ (by first | assumption | exact (Touch.refl _ _).drewN _ | exact (Touch.refl _ _).drew) ?_
        rotate_left
        · (simp only [List.getElem?_toArray, List.getElem?_cons_succ, List.getElem?_cons_zero]; rfl)
        · kernel_rfl
        · kernel_rfl
        · kernel_rfl
        · exact Or.inr ⟨by rfl, rfl⟩
        try simp only [Act.put, List.setIfInBounds_toArray, List.set_cons_zero, List.set_cons_succ]
        refine wpAnyH_take (i := 37) (oi := ?_) (v := undef) ?_ ?_ ?_ ?_ (fun _ _ _ h => h) ?_ (by first | assumption | exact (Touch.refl _ _).drewN _ | exact (Touch.refl _ _).drew) ?_
        rotate_left
        · (simp only [List.getElem?_toArray, List.getElem?_cons_succ, List.getElem?_cons_zero]; rfl)
        · kernel_rfl
        · kernel_rfl
        · kernel_rfl
        · exact Or.inr ⟨by rfl, rfl⟩
        try simp only [Act.put, List.setIfInBounds_toArray, List.set_cons_zero, List.set_cons_succ]
        refine wpAnyH_take (i := 38) (oi := ?_) (v := undef) ?_ ?_ ?_ ?_ (fun _ _ _ h => h) ?_ (by first | assumption | exact (Touch.refl _ _).drewN _ | exact (Touch.refl _ _).drew) ?_
        rotate_left
        · (simp only [List.getElem?_toArray, List.getElem?_cons_succ, List.getElem?_cons_zero]; rfl)
        · kernel_rfl
        · kernel_rfl
        · kernel_rfl
        · exact Or.inr ⟨by rfl, rfl⟩
        try simp only [Act.put, List.setIfInBounds_toArray, List.set_cons_zero, List.set_cons_succ]
        refine wpAnyH_take (i := 39) (oi := ?_) (v := undef) ?_ ?_ ?_ ?_ (fun _ _ _ h => h) ?_ (by first | assumption | exact (Touch.refl _ _).drewN _ | exact (Touch.refl _ _).drew) ?_
        rotate_left
        · (simp only [List.getElem?_toArray, List.getElem?_cons_succ, List.getElem?_cons_zero]; rfl)
        · kernel_rfl
        · kernel_rfl
        · kernel_rfl
        · exact Or.inr ⟨by rfl, rfl⟩
        try simp only [Act.put, List.setIfInBounds_toArray, List.set_cons_zero, List.set_cons_succ]
        refine wpAnyH_take (i := 40) (oi := ?_) (v := ?_) ?_ ?_ ?_ ?_ (fun _ _ _ h => h) ?_ (by first | assumption | exact (Touch.refl _ _).drewN _ | exact (Touch.refl _ _).drew) ?_
        rotate_left 2
        · (simp only [List.getElem?_toArray, List.getElem?_cons_succ, List.getElem?_cons_zero]; rfl)
        · kernel_rfl
        · kernel_rfl
        · kernel_rfl
        · refine Or.inl ⟨by rfl, ?_⟩
          intro w hSw
          (try dsimp only at hSw)
          go_simp
          try with_reducible rfl
        try simp only [Act.put, List.setIfInBounds_toArray, List.set_cons_zero, List.set_cons_succ]
        refine wpAnyH_take (i := 41) (oi := ?_) (v := ?_) ?_ ?_ ?_ ?_ (fun _ _ _ h => h) ?_ (by first | assumption | exact (Touch.refl _ _).drewN _ | exact (Touch.refl _ _).drew) ?_
        rotate_left 2
        · (simp only [List.getElem?_toArray, List.getElem?_cons_succ, List.getElem?_cons_zero]; rfl)
        · kernel_rfl
        · kernel_rfl
        · kernel_rfl
        · refine Or.inl ⟨by rfl, ?_⟩
          intro w hSw
          (try dsimp only at hSw)
          go_simp
          try with_reducible rfl
        try simp only [Act.put, List.setIfInBounds_toArray, List.set_cons_zero, List.set_cons_succ]
        refine wpAnyH_done (by kernel_rfl) ?_ _
        refine NoPanic.normal ?_
        go_wp2
        exact ⟨⟨i + 1, hlt, by go_num, hT.trans (by first | assumption | exact (Touch.refl _ _).drewN _)⟩, by simp [intOf]; omega⟩
    · go_wp2_with fail
      go_loopw [8] (fun v wr => ∃ i : Nat, i ≤ n1 ∧ v = .int .i64 i ∧ Touch [] w6 wr) (fun v _ => n1 - (intOf v).toNat)
      case atStart => exact ⟨0, by omega, rfl, hT⟩
      case round =>
        clear hT hlt hi
        obtain ⟨i2, hi2, rfl, hT⟩ := hrel
        by_cases hlt2 : i2 < n1
        · obtain ⟨b, off, rfl, hc⟩ := yc2 (by omega)
          have hcz : ∀ w', Touch [] wr w' → w'.cell? ⟨b, off + i2, none⟩ = some (.int .i32 (z1.getD i2 0)) := fun w' t => hc w' (hTf.trans (hT.trans t)) i2 hlt2
          have hwc := ywf2 i2 hlt2
          generalize z1.getD i2 0 = c at hcz hwc
          obtain ⟨Z, hZ⟩ : ∃ Z, Stg.tget z0 c = Z := ⟨_, rfl⟩
          have hga := fun W (tt : Touch [] wr W) => hGa c Z W (hT.trans tt) hZ
          have hgb := fun W (tt : Touch [] wr W) => hGb c Z W (hT.trans tt) hwc hZ
          have hzz : (Z != Z) = false := by simp
          clear hZ hc hEI6 hGa hGb hKa hB3 hwc
          go_upto_region 14 with (fail)
          refine wp_region_noPanic ?_
          refine wp_region_held_drew (S := fun w' => Touch [] wr w') (by kernel_rfl) (Touch.drew (Touch.refl _ wr)) (fun hHeld => ?_)
          refine wpAnyH_take (i := 0) (oi := ?_) (v := ?_) ?_ ?_ ?_ ?_ (fun _ _ _ h => h) ?_ (by first | assumption | exact (Touch.refl _ _).drewN _ | exact (Touch.refl _ _).drew) ?_
          rotate_left 2
          · (simp only [List.getElem?_toArray, List.getElem?_cons_succ, List.getElem?_cons_zero]; rfl)
          · kernel_rfl
          · kernel_rfl
          · kernel_rfl
          · refine Or.inl ⟨by rfl, ?_⟩
            intro w hSw
            (try dsimp only at hSw)
            go_simp
            try with_reducible rfl
          try simp only [Act.put, List.setIfInBounds_toArray, List.set_cons_zero, List.set_cons_succ]
          refine wpAnyH_take (i := 1) (oi := ?_) (v := ?_) ?_ ?_ ?_ ?_ (fun _ _ _ h => h) ?_ (by first | assumption | exact (Touch.refl _ _).drewN _ | exact (Touch.refl _ _).drew) ?_
          rotate_left 2
          · (simp only [List.getElem?_toArray, List.getElem?_cons_succ, List.getElem?_cons_zero]; rfl)
          · kernel_rfl
          · kernel_rfl
          · kernel_rfl
          · refine Or.inl ⟨by rfl, ?_⟩
            intro w hSw
            (try dsimp only at hSw)
            go_simp
            try with_reducible rfl
          try simp only [Act.put, List.setIfInBounds_toArray, List.set_cons_zero, List.set_cons_succ]
          refine wpAnyH_take (i := 2) (oi := ?_) (v := ?_) ?_ ?_ ?_ ?_ (fun _ _ _ h => h) ?_ (by first | assumption | exact (Touch.refl _ _).drewN _ | exact (Touch.refl _ _).drew) ?_
          rotate_left 2
          · (simp only [List.getElem?_toArray, List.getElem?_cons_succ, List.getElem?_cons_zero]; rfl)
          · kernel_rfl
          · kernel_rfl
          · kernel_rfl
          · refine Or.inl ⟨by rfl, ?_⟩
            intro w hSw
            (try dsimp only at hSw)
            go_simp
            try with_reducible rfl
          try simp only [Act.put, List.setIfInBounds_toArray, List.set_cons_zero, List.set_cons_succ]
          refine wpAnyH_take (i := 3) (oi := ?_) (v := ?_) ?_ ?_ ?_ ?_ (fun _ _ _ h => h) ?_ (by first | assumption | exact (Touch.refl _ _).drewN _ | exact (Touch.refl _ _).drew) ?_
          rotate_left 2
          · (simp only [List.getElem?_toArray, List.getElem?_cons_succ, List.getElem?_cons_zero]; rfl)
          · kernel_rfl
          · kernel_rfl
          · kernel_rfl
          · refine Or.inl ⟨by rfl, ?_⟩
            intro w hSw
            (try dsimp only at hSw)
            go_simp
            try with_reducible rfl
          try simp only [Act.put, List.setIfInBounds_toArray, List.set_cons_zero, List.set_cons_succ]
          refine wpAnyH_take (i := 4) (oi := ?_) (v := ?_) ?_ ?_ ?_ ?_ (fun _ _ _ h => h) ?_ (by first | assumption | exact (Touch.refl _ _).drewN _ | exact (Touch.refl _ _).drew) ?_
          rotate_left 2
          · (simp only [List.getElem?_toArray, List.getElem?_cons_succ, List.getElem?_cons_zero]; rfl)
          · kernel_rfl
          · kernel_rfl
          · kernel_rfl
          · refine Or.inl ⟨by rfl, ?_⟩
            intro w hSw
            (try dsimp only at hSw)
            go_simp
            try with_reducible rfl
          try simp only [Act.put, List.setIfInBounds_toArray, List.set_cons_zero, List.set_cons_succ]
          refine wpAnyH_take (i := 6) (oi := ?_) (v := ?_) ?_ ?_ ?_ ?_ (fun _ _ _ h => h) ?_ (by first | assumption | exact (Touch.refl _ _).drewN _ | exact (Touch.refl _ _).drew) ?_
          rotate_left 2
          · (simp only [List.getElem?_toArray, List.getElem?_cons_succ, List.getElem?_cons_zero]; rfl)
          · kernel_rfl
          · kernel_rfl
          · kernel_rfl
          · refine Or.inl ⟨by rfl, ?_⟩
            intro w hSw
            (try dsimp only at hSw)
            go_simp
            try with_reducible rfl
          try simp only [Act.put, List.setIfInBounds_toArray, List.set_cons_zero, List.set_cons_succ]
          refine wpAnyH_take (i := 7) (oi := ?_) (v := ?_) ?_ ?_ ?_ ?_ (fun _ _ _ h => h) ?_ (by first | assumption | exact (Touch.refl _ _).drewN _ | exact (Touch.refl _ _).drew) ?_
          rotate_left 2
          · (simp only [List.getElem?_toArray, List.getElem?_cons_succ, List.getElem?_cons_zero]; rfl)
          · kernel_rfl
          · kernel_rfl
          · kernel_rfl
          · refine Or.inl ⟨by rfl, ?_⟩
            intro w hSw
            (try dsimp only at hSw)
            go_simp
            try with_reducible rfl
          try simp only [Act.put, List.setIfInBounds_toArray, List.set_cons_zero, List.set_cons_succ]
          refine wpAnyH_take (i := 8) (oi := ?_) (v := ?_) ?_ ?_ ?_ ?_ (fun _ _ _ h => h) ?_ (by first | assumption | exact (Touch.refl _ _).drewN _ | exact (Touch.refl _ _).drew) ?_
          rotate_left 2
          · (simp only [List.getElem?_toArray, List.getElem?_cons_succ, List.getElem?_cons_zero]; rfl)
          · kernel_rfl
          · kernel_rfl
          · kernel_rfl
          · refine Or.inl ⟨by rfl, ?_⟩
            intro w hSw
            (try dsimp only at hSw)
            go_simp
            try with_reducible rfl
          try simp only [Act.put, List.setIfInBounds_toArray, List.set_cons_zero, List.set_cons_succ]
          refine wpAnyH_take (i := 9) (oi := ?_) (v := ?_) ?_ ?_ ?_ ?_ (fun _ _ _ h => h) ?_ (by first | assumption | exact (Touch.refl _ _).drewN _ | exact (Touch.refl _ _).drew) ?_
          rotate_left 2
          · (simp only [List.getElem?_toArray, List.getElem?_cons_succ, List.getElem?_cons_zero]; rfl)
          · kernel_rfl
          · kernel_rfl
          · kernel_rfl
          · refine Or.inl ⟨by rfl, ?_⟩
            intro w hSw
            (try dsimp only at hSw)
            go_simp
            try with_reducible rfl
          try simp only [Act.put, List.setIfInBounds_toArray, List.set_cons_zero, List.set_cons_succ]
          refine wpAnyH_take (i := 10) (oi := ?_) (v := ?_) ?_ ?_ ?_ ?_ (fun _ _ _ h => h) ?_ (by first | assumption | exact (Touch.refl _ _).drewN _ | exact (Touch.refl _ _).drew) ?_
          rotate_left 2
          · (simp only [List.getElem?_toArray, List.getElem?_cons_succ, List.getElem?_cons_zero]; rfl)
          · kernel_rfl
          · kernel_rfl
          · kernel_rfl
          · refine Or.inl ⟨by rfl, ?_⟩
            intro w hSw
            (try dsimp only at hSw)
            go_simp
            try with_reducible rfl
          try simp only [Act.put, List.setIfInBounds_toArray, List.set_cons_zero, List.set_cons_succ]
          refine wpAnyH_ready (rs := [5]) (by kernel_rfl) (by simp) ?_
          refine AllReadyH.cons (o := ?_) ?_ (fun K hK => ?_) AllReadyH.nil
          rotate_left
          · (simp only [List.getElem?_toArray, List.getElem?_cons_succ, List.getElem?_cons_zero]; rfl)
          go_simp
          refine (hga _ (by first | assumption | exact (Touch.refl _ _).drewN _ | exact (Touch.refl _ _).drew)).mono ?_
          rintro e w9 ⟨rfl, n9, rfl⟩
          refine hK.out _ _ (by first | exact Touch.drewN (by assumption) _ | exact ((Touch.refl _ _).drewN _).drewN _ | exact (Touch.refl _ _).drewN _) (fun hHeld => ?_)
          clear hK K
          try simp only [Act.put, List.setIfInBounds_toArray, List.set_cons_zero, List.set_cons_succ]
          refine wpAnyH_ready (rs := [11]) (by kernel_rfl) (by simp) ?_
          refine AllReadyH.cons (o := ?_) ?_ (fun K hK => ?_) AllReadyH.nil
          rotate_left
          · (simp only [List.getElem?_toArray, List.getElem?_cons_succ, List.getElem?_cons_zero]; rfl)
          go_simp
          refine (hgb _ (by first | assumption | exact (Touch.refl _ _).drewN _ | exact (Touch.refl _ _).drew)).mono ?_
          rintro e w9 ⟨rfl, rfl⟩
          refine hK.out _ _ (by first | assumption | exact (Touch.refl _ _).drewN _ | exact (Touch.refl _ _).drew) (fun hHeld => ?_)
          clear hK K
          try simp only [Act.put, List.setIfInBounds_toArray, List.set_cons_zero, List.set_cons_succ]
          refine wpAnyH_take (i := 12) (oi := ?_) (v := ?_) ?_ ?_ ?_ ?_ (fun _ _ _ h => h) ?_ (by first | assumption | exact (Touch.refl _ _).drewN _ | exact (Touch.refl _ _).drew) ?_
          rotate_left 2
          · (simp only [List.getElem?_toArray, List.getElem?_cons_succ, List.getElem?_cons_zero]; rfl)
          · kernel_rfl
          · kernel_rfl
          · kernel_rfl
          · refine Or.inl ⟨by rfl, ?_⟩
            intro w hSw
            (try dsimp only at hSw)
            go_simp
            try with_reducible rfl
          try simp only [Act.put, List.setIfInBounds_toArray, List.set_cons_zero, List.set_cons_succ]
          refine wpAnyH_done (by kernel_rfl) ?_ _
          refine NoPanic.normal ?_
          go_wp2
          exact ⟨⟨i2 + 1, hlt2, by go_num, hT.trans (by first | assumption | exact (Touch.refl _ _).drewN _)⟩, by simp [intOf]; omega⟩
        · have hkk := hKa wr hT
          have hrb := hB3 wr hT
          clear hEI6 hGa hGb hKa hB3 yc2 ywf2
          go_wp2_with fail
          refine hkk.mono ?_
          rintro e w9 ⟨rfl, rfl⟩
          try go_simp
          go_wp2_with fail
          refine hrb.mono ?_
          rintro e w10 ⟨rfl, ht10⟩
          try go_simp
          go_wp2_with fail
          refine (awake04 _).mono ?_
          rintro e w11 ⟨rfl, ht11⟩
          try go_simp
          go_wp2
          (try simp only [Exit.inBlock, Exit.then])
          refine hQ_.ret (results_tmp rfl _ _ _) rfl ?_
          exact ⟨rfl, ((hTf.trans hT).trans ht10).trans ht11⟩
end Go.Proofs.Ythbcgbmpicgjiaa
