/- The laws of tables: StageBlocks. -/
import Derived.Test.YthbcgbmpicgjiaaStgW
import Derived.Test.YthbcgbmpicgjiaaStgN
namespace Go.Proofs.Ythbcgbmpicgjiaa
open Go.RowKit
set_option maxRecDepth 100000
set_option maxHeartbeats 8000000
set_option linter.unusedVariables false
set_option linter.unusedSimpArgs false

theorem sliceT_ent : SliceT Try.prog 22 31 (.agg #[.int .i32 0, .int .i64 0]) 2 16 := ⟨Try.underlying22, rfl, by decide, by decide, ⟨_, rfl, by kernel_rfl, by kernel_rfl, by kernel_rfl⟩⟩
/-- entries' cells -/
def entsV (l : List (Int × Int)) : List Value := l.flatMap fun e => [Value.int .i32 e.1, Value.int .i64 e.2]
theorem entsV_app (l m : List (Int × Int)) : entsV (l ++ m) = entsV l ++ entsV m := by simp [entsV]
theorem entsV_one (c v : Int) : entsV [(c, v)] = [Value.int .i32 c, Value.int .i64 v] := rfl
theorem entsV_get : ∀ (l : List (Int × Int)) (i : Nat) (h : i < l.length), (entsV l)[i * 2]? = some (.int .i32 l[i].1) ∧ (entsV l)[i * 2 + 1]? = some (.int .i64 l[i].2)
  | e :: l, 0, _ => ⟨rfl, rfl⟩
  | e :: l, i + 1, h => by
    have ih := entsV_get l i (by simpa using h)
    have h1 : entsV (e :: l) = Value.int .i32 e.1 :: Value.int .i64 e.2 :: entsV l := rfl
    rw [h1, show (i + 1) * 2 = i * 2 + 1 + 1 by omega, show i * 2 + 1 + 1 + 1 = (i * 2 + 1) + 1 + 1 by omega]
    simp only [List.getElem?_cons_succ, List.getElem_cons_succ]
    exact ih
theorem entsIn_of {w : World} {A : Option Addr} {C : Nat} {l : List (Int × Int)} {g : Option Nat} (h : SlAt w 31 2 (.slice A l.length C) l.length (entsV l) g) : EntsIn w A l := fun h0 => by
  obtain ⟨A', C', hv, _, _, hgo⟩ := h.form
  injection hv with e1 e2 e3
  obtain ⟨k, hk, hA⟩ := hgo h0
  refine ⟨k, 0, by rw [e1, hA], fun w' t i hi => ?_⟩
  have h2 := h.keep t (fun _ _ => by simp)
  obtain ⟨q1, q2⟩ := entsV_get l i hi
  rw [Nat.zero_add]
  exact ⟨h2.cell hk q1, h2.cell hk q2⟩
theorem ents_one (c v : Int) : ∀ u ∈ (#[Value.int .i32 c, Value.int .i64 v] : Array Value).toList, u.oneCell' = true := by
  intro u hu
  simp only [List.mem_cons, List.not_mem_nil, or_false] at hu
  rcases hu with rfl | rfl <;> rfl
theorem placeS (a n : Int) (w : World) (hn : 1 ≤ n) (hb : n ≤ 1000000000000000) : Calls Try.prog 13 #[.int .i64 a, .int .i64 n] w fun e w' => e = .returned (.int .i64 (placeE a n)) ∧ w' = w :=
  (placeE_any a n w hn hb).mono fun e w' q => ⟨q.1, q.2.symm⟩
def pP (x : Int) : Int := placeE x 256
def pQ (x : Int) : Int := 1 + placeE x 9
theorem pP_bd (x : Int) : 0 ≤ pP x ∧ pP x < 256 := placeE_bound x 256 (by decide)
theorem pQ_bd (x : Int) : 1 ≤ pQ x ∧ pQ x ≤ 9 := by
  have := placeE_bound x 9 (by decide)
  unfold pQ; omega
theorem rows_ok (v : List Int) (k : Nat) (hk : k ≤ 40) : EntsOk (Stg.rows pP pQ v k) := by
  induction k with
  | zero => intro e he; cases he
  | succ k ih =>
    intro e he
    rw [Stg.rows, List.mem_append] at he
    rcases he with he | he
    · exact ih (by omega) e he
    · unfold Stg.row at he
      rw [List.mem_map] at he
      obtain ⟨x, _, rfl⟩ := he
      have h1 := pP_bd x
      have h2 := pQ_bd x
      have hmin : IntKind.i64.min = -9223372036854775808 := rfl
      have hmax : IntKind.i64.max = 9223372036854775807 := rfl
      have hmin2 : IntKind.i32.min = -2147483648 := rfl
      have hmax2 : IntKind.i32.max = 2147483647 := rfl
      simp only [Lit.wf, Bool.and_eq_true, decide_eq_true_eq]
      omega

theorem stageblocks_walk (a0 : Int) (a1 : Option Addr) (n1 c1 : Nat) (z1 : List Int) (a2 : Bool) (w : World) (w0 : (Lit.int .i64 a0).wf = true) (w1 : IntsIn .i64 w a1 n1 c1 z1) :
    Calls Try.prog 5 #[.int .i64 a0, .slice a1 n1 c1, .bool a2] w fun e w' => e = .returned (.bool true) ∧ Touch [] w w' := by
  obtain ⟨h1, h2⟩ := placeE_bound a0 40 (by decide)
  have hpl := fun w => placeE_any a0 40 w (by decide) (by decide)
  obtain ⟨kk, hkk⟩ : ∃ kk : Nat, placeE a0 40 = (kk : Int) := ⟨(placeE a0 40).toNat, by omega⟩
  rw [hkk] at hpl h1 h2
  have hkb : kk ≤ 39 := by omega
  clear hkk h1 h2 w0
  obtain ⟨zl, zle, zmx, zwf, zc⟩ := w1
  have zc2 : 0 < n1 → ∃ b off, a1 = some ⟨b, off, none⟩ ∧ ∀ w', Touch [] w w' → ∀ i, i < n1 → w'.cell? ⟨b, off + i, none⟩ = some (.int .i64 (z1.getD i 0)) := fun h0 => by
    obtain ⟨b, off, e, hc⟩ := zc h0
    exact ⟨b, off, e, fun w' t i hi => t.cell (hc i hi) (by simp)⟩
  clear zc zwf
  let kp_ : Exit → Act → World → Prop := bodyPost Try.prog Try.f5 (fun _ _ => True)
  refine calls_post Try.func5 rfl ?_
  intro Q_ hQ_
  simp only [Try.ntmps5, List.size_toArray, List.length_cons, List.length_nil, Nat.reduceAdd, Nat.reduceSub, Array.replicate_succ, Array.replicate_zero, List.push_toArray, List.append_toArray, List.nil_append, List.cons_append]
  go_wp2_with fail
  refine (hpl _).mono ?_
  rintro e w2 ⟨rfl, rfl⟩
  try go_simp
  clear hpl
  go_wp2_with fail
  go_loopw [8, 9] (fun v8 v9 wr => ∃ (i : Nat) (g : Option Nat), i ≤ 1 + kk ∧ v9 = .int .i64 i ∧ (∃ A C, v8 = .slice A (Stg.rows pP pQ (z1.take 10) i).length C) ∧ SlAt wr 31 2 v8 (Stg.rows pP pQ (z1.take 10) i).length (entsV (Stg.rows pP pQ (z1.take 10) i)) g ∧ (∀ k, g = some k → w.heap.size ≤ k) ∧ Touch [] w wr) (fun _ v _ => 1 + kk - (intOf v).toNat)
  case atStart => exact ⟨0, none, by omega, rfl, ⟨none, 0, rfl⟩, SlAt.nil _ _ _, (fun k q => by cases q), Touch.refl _ _⟩
  case round =>
    obtain ⟨i, g, hi, rfl, ⟨A, C, rfl⟩, hs, hg, hT⟩ := hrel
    by_cases hlt : i < 1 + kk
    · have tlt : decide ((i : Int) < 1 + (kk : Int)) = true := by simp; omega
      go_wp2_with fail
      obtain ⟨wo, rfl⟩ : ∃ wo : World, wo = wr := ⟨_, rfl⟩
      go_loopw [8, 10] (fun v8 v10 wr => ∃ (j : Nat) (g : Option Nat) (L : List (Int × Int)), L = Stg.rows pP pQ (z1.take 10) i ++ Stg.row pP pQ (z1.take j) i ∧ j ≤ n1 ∧ j ≤ 10 ∧ v10 = .int .i64 j ∧ (∃ A C, v8 = .slice A L.length C) ∧ SlAt wr 31 2 v8 L.length (entsV L) g ∧ (∀ k, g = some k → w.heap.size ≤ k) ∧ Touch [] w wr) (fun _ v _ => 10 - (intOf v).toNat)
      case atStart => exact ⟨0, g, _, by simp [Stg.row], by omega, by omega, rfl, ⟨A, C, rfl⟩, hs, hg, hT⟩
      case round =>
        clear hs hg hT
        obtain ⟨j, g5, L, hL, hj, hj10, rfl, ⟨A5, C5, rfl⟩, hs, hg, hT⟩ := hrel
        have hLl : L.length = i * (z1.take 10).length + j := by
          have q : (z1.take j).length = j := by rw [List.length_take]; omega
          rw [hL, List.length_append, Stg.rows_len, Stg.row_len, q]
        have hLb : L.length ≤ 500 := by
          have : (z1.take 10).length ≤ 10 := by rw [List.length_take]; omega
          have h3 : i * (z1.take 10).length ≤ 40 * 10 := Nat.mul_le_mul (by omega) this
          omega
        by_cases hlt2 : j < n1 ∧ j < 10
        · obtain ⟨hl1, hl2⟩ := hlt2
          obtain ⟨b, off, rfl, hc⟩ := zc2 (by omega)
          have zx := hc _ hT j hl1
          have zw := hc _ (Touch.refl _ _) j hl1
          have hLx := Box.mk hL
          have hsnoc : z1.take (j + 1) = z1.take j ++ [z1.getD j 0] := by rw [List.take_succ_eq_append_getElem (by omega)]; simp [List.getD_eq_getElem?_getD, List.getElem?_eq_getElem (show j < z1.length by omega)]
          generalize z1.getD j 0 = x at zx zw hsnoc
          have hsx := Box.mk hsnoc
          obtain ⟨px, hpx⟩ : ∃ px : Nat, placeE x 256 = (px : Int) := ⟨(placeE x 256).toNat, by have := placeE_bound x 256 (by decide); omega⟩
          obtain ⟨qx, hqx⟩ : ∃ qx : Nat, placeE x 9 = (qx : Int) := ⟨(placeE x 9).toNat, by have := placeE_bound x 9 (by decide); omega⟩
          have hpb : px < 256 := by have := placeE_bound x 256 (by decide); omega
          have hqb : qx < 9 := by have := placeE_bound x 9 (by decide); omega
          have hP := fun W => placeS x 256 W (by decide) (by decide)
          have hQ := fun W => placeS x 9 W (by decide) (by decide)
          rw [hpx] at hP
          rw [hqx] at hQ
          have hpx2 := Box.mk hpx
          have hqx2 := Box.mk hqx
          have s1 : IntKind.i64.wrap (7 * (i : Int)) = 7 * (i : Int) := IntWalk.i64_in _ (by omega)
          have s2 : IntKind.i64.wrap (7 * (i : Int) + 3) = 7 * (i : Int) + 3 := IntWalk.i64_in _ (by omega)
          have s3 : IntKind.i64.wrap (256 * (7 * (i : Int) + 3)) = 256 * (7 * (i : Int) + 3) := IntWalk.i64_in _ (by omega)
          have s4 : IntKind.i64.wrap (256 * (7 * (i : Int) + 3) + (px : Int)) = 256 * (7 * (i : Int) + 3) + (px : Int) := IntWalk.i64_in _ (by omega)
          have s5 : IntKind.i32.wrap (256 * (7 * (i : Int) + 3) + (px : Int)) = 256 * (7 * (i : Int) + 3) + (px : Int) := IntWalk.i32_in _ (by omega)
          have s6 : IntKind.i64.wrap (1 + (qx : Int)) = 1 + (qx : Int) := IntWalk.i64_in _ (by omega)
          clear hL hsnoc hpx hqx hc hLl
          go_upto_region 9 with (fail)
          have hcz : ∀ w', Touch g5.toList wr w' → w'.cell? ⟨b, off + j, none⟩ = some (.int .i64 x) := fun w' t => t.cell zx (by
            intro q
            have := hg b (by simpa using q)
            have hl := World.block_lt_of_cell? w _ zw
            dsimp only at hl
            omega)
          clear zx zw
          refine wp_region_noPanic ?_
          refine wp_region_held_drew (S := fun w' => Touch g5.toList wr w') (by kernel_rfl) (Touch.drew (Touch.refl _ wr)) (fun hHeld => ?_)
          refine wpAnyH_take (i := 0) (oi := ?_) (v := ?_) ?_ ?_ ?_ ?_ (fun _ _ _ h => h) ?_ (by assumption) ?_
          rotate_left 2
          · (simp only [List.getElem?_toArray, List.getElem?_cons_succ, List.getElem?_cons_zero]; rfl)
          · kernel_rfl
          · kernel_rfl
          · kernel_rfl
          · refine Or.inl ⟨by rfl, ?_⟩
            intro w hSw
            (try dsimp only at hSw)
            go_simp
            try with_reducible rfl
          try simp only [Act.put, List.setIfInBounds_toArray, List.set_cons_zero, List.set_cons_succ]
          refine wpAnyH_take (i := 1) (oi := ?_) (v := ?_) ?_ ?_ ?_ ?_ (fun _ _ _ h => h) ?_ (by assumption) ?_
          rotate_left 2
          · (simp only [List.getElem?_toArray, List.getElem?_cons_succ, List.getElem?_cons_zero]; rfl)
          · kernel_rfl
          · kernel_rfl
          · kernel_rfl
          · refine Or.inl ⟨by rfl, ?_⟩
            intro w hSw
            (try dsimp only at hSw)
            go_simp
            try with_reducible rfl
          try simp only [Act.put, List.setIfInBounds_toArray, List.set_cons_zero, List.set_cons_succ]
          refine wpAnyH_take (i := 2) (oi := ?_) (v := ?_) ?_ ?_ ?_ ?_ (fun _ _ _ h => h) ?_ (by assumption) ?_
          rotate_left 2
          · (simp only [List.getElem?_toArray, List.getElem?_cons_succ, List.getElem?_cons_zero]; rfl)
          · kernel_rfl
          · kernel_rfl
          · kernel_rfl
          · refine Or.inl ⟨by rfl, ?_⟩
            intro w hSw
            (try dsimp only at hSw)
            go_simp
            try with_reducible rfl
          try simp only [Act.put, List.setIfInBounds_toArray, List.set_cons_zero, List.set_cons_succ]
          refine wpAnyH_take (i := 3) (oi := ?_) (v := ?_) ?_ ?_ ?_ ?_ (fun _ _ _ h => h) ?_ (by assumption) ?_
          rotate_left 2
          · (simp only [List.getElem?_toArray, List.getElem?_cons_succ, List.getElem?_cons_zero]; rfl)
          · kernel_rfl
          · kernel_rfl
          · kernel_rfl
          · refine Or.inl ⟨by rfl, ?_⟩
            intro w hSw
            (try dsimp only at hSw)
            go_simp
            try with_reducible rfl
          try simp only [Act.put, List.setIfInBounds_toArray, List.set_cons_zero, List.set_cons_succ]
          refine wpAnyH_take (i := 4) (oi := ?_) (v := ?_) ?_ ?_ ?_ ?_ (fun _ _ _ h => h) ?_ (by assumption) ?_
          rotate_left 2
          · (simp only [List.getElem?_toArray, List.getElem?_cons_succ, List.getElem?_cons_zero]; rfl)
          · kernel_rfl
          · kernel_rfl
          · kernel_rfl
          · refine Or.inl ⟨by rfl, ?_⟩
            intro w hSw
            (try dsimp only at hSw)
            go_simp
            try with_reducible rfl
          try simp only [Act.put, List.setIfInBounds_toArray, List.set_cons_zero, List.set_cons_succ]
          refine wpAnyH_take (i := 5) (oi := ?_) (v := ?_) ?_ ?_ ?_ ?_ (fun _ _ _ h => h) ?_ (by assumption) ?_
          rotate_left 2
          · (simp only [List.getElem?_toArray, List.getElem?_cons_succ, List.getElem?_cons_zero]; rfl)
          · kernel_rfl
          · kernel_rfl
          · kernel_rfl
          · refine Or.inl ⟨by rfl, ?_⟩
            intro w hSw
            (try dsimp only at hSw)
            go_simp
            try with_reducible rfl
          try simp only [Act.put, List.setIfInBounds_toArray, List.set_cons_zero, List.set_cons_succ]
          refine wpAnyH_take (i := 6) (oi := ?_) (v := ?_) ?_ ?_ ?_ ?_ (fun _ _ _ h => h) ?_ (by assumption) ?_
          rotate_left 2
          · (simp only [List.getElem?_toArray, List.getElem?_cons_succ, List.getElem?_cons_zero]; rfl)
          · kernel_rfl
          · kernel_rfl
          · kernel_rfl
          · refine Or.inl ⟨by rfl, ?_⟩
            intro w hSw
            (try dsimp only at hSw)
            go_simp
            try with_reducible rfl
          try simp only [Act.put, List.setIfInBounds_toArray, List.set_cons_zero, List.set_cons_succ]
          refine wpAnyH_take (i := 7) (oi := ?_) (v := ?_) ?_ ?_ ?_ ?_ (fun _ _ _ h => h) ?_ (by assumption) ?_
          rotate_left 2
          · (simp only [List.getElem?_toArray, List.getElem?_cons_succ, List.getElem?_cons_zero]; rfl)
          · kernel_rfl
          · kernel_rfl
          · kernel_rfl
          · refine Or.inl ⟨by rfl, ?_⟩
            intro w hSw
            (try dsimp only at hSw)
            go_simp
            try with_reducible rfl
          try simp only [Act.put, List.setIfInBounds_toArray, List.set_cons_zero, List.set_cons_succ]
          refine wpAnyH_take (i := 8) (oi := ?_) (v := ?_) ?_ ?_ ?_ ?_ (fun _ _ _ h => h) ?_ (by assumption) ?_
          rotate_left 2
          · (simp only [List.getElem?_toArray, List.getElem?_cons_succ, List.getElem?_cons_zero]; rfl)
          · kernel_rfl
          · kernel_rfl
          · kernel_rfl
          · refine Or.inl ⟨by rfl, ?_⟩
            intro w hSw
            (try dsimp only at hSw)
            go_simp
            try with_reducible rfl
          try simp only [Act.put, List.setIfInBounds_toArray, List.set_cons_zero, List.set_cons_succ]
          refine wpAnyH_take (i := 12) (oi := ?_) (v := ?_) ?_ ?_ ?_ ?_ (fun _ _ _ h => h) ?_ (by assumption) ?_
          rotate_left 2
          · (simp only [List.getElem?_toArray, List.getElem?_cons_succ, List.getElem?_cons_zero]; rfl)
          · kernel_rfl
          · kernel_rfl
          · kernel_rfl
          · refine Or.inl ⟨by rfl, ?_⟩
            intro w hSw
            (try dsimp only at hSw)
            go_simp
            try with_reducible rfl
          try simp only [Act.put, List.setIfInBounds_toArray, List.set_cons_zero, List.set_cons_succ]
          refine wpAnyH_take (i := 13) (oi := ?_) (v := ?_) ?_ ?_ ?_ ?_ (fun _ _ _ h => h) ?_ (by assumption) ?_
          rotate_left 2
          · (simp only [List.getElem?_toArray, List.getElem?_cons_succ, List.getElem?_cons_zero]; rfl)
          · kernel_rfl
          · kernel_rfl
          · kernel_rfl
          · refine Or.inl ⟨by rfl, ?_⟩
            intro w hSw
            (try dsimp only at hSw)
            go_simp
            try with_reducible rfl
          try simp only [Act.put, List.setIfInBounds_toArray, List.set_cons_zero, List.set_cons_succ]
          refine wpAnyH_take (i := 14) (oi := ?_) (v := ?_) ?_ ?_ ?_ ?_ (fun _ _ _ h => h) ?_ (by assumption) ?_
          rotate_left 2
          · (simp only [List.getElem?_toArray, List.getElem?_cons_succ, List.getElem?_cons_zero]; rfl)
          · kernel_rfl
          · kernel_rfl
          · kernel_rfl
          · refine Or.inl ⟨by rfl, ?_⟩
            intro w hSw
            (try dsimp only at hSw)
            go_simp
            try with_reducible rfl
          try simp only [Act.put, List.setIfInBounds_toArray, List.set_cons_zero, List.set_cons_succ]
          refine wpAnyH_take (i := 15) (oi := ?_) (v := ?_) ?_ ?_ ?_ ?_ (fun _ _ _ h => h) ?_ (by assumption) ?_
          rotate_left 2
          · (simp only [List.getElem?_toArray, List.getElem?_cons_succ, List.getElem?_cons_zero]; rfl)
          · kernel_rfl
          · kernel_rfl
          · kernel_rfl
          · refine Or.inl ⟨by rfl, ?_⟩
            intro w hSw
            (try dsimp only at hSw)
            go_simp
            try with_reducible rfl
          try simp only [Act.put, List.setIfInBounds_toArray, List.set_cons_zero, List.set_cons_succ]
          refine wpAnyH_ready (rs := [9]) (by kernel_rfl) (by simp) ?_
          refine AllReadyH.cons (o := ?_) ?_ (fun K hK => ?_) AllReadyH.nil
          rotate_left
          · (simp only [List.getElem?_toArray, List.getElem?_cons_succ, List.getElem?_cons_zero]; rfl)
          go_simp
          refine (hP _).mono ?_
          rintro e w9 ⟨rfl, rfl⟩
          refine hK.out _ _ (by assumption) (fun hHeld => ?_)
          clear hK K
          try simp only [Act.put, List.setIfInBounds_toArray, List.set_cons_zero, List.set_cons_succ]
          refine wpAnyH_take (i := 10) (oi := ?_) (v := ?_) ?_ ?_ ?_ ?_ (fun _ _ _ h => h) ?_ (by assumption) ?_
          rotate_left 2
          · (simp only [List.getElem?_toArray, List.getElem?_cons_succ, List.getElem?_cons_zero]; rfl)
          · kernel_rfl
          · kernel_rfl
          · kernel_rfl
          · refine Or.inl ⟨by rfl, ?_⟩
            intro w hSw
            (try dsimp only at hSw)
            go_simp
            try with_reducible rfl
          try simp only [Act.put, List.setIfInBounds_toArray, List.set_cons_zero, List.set_cons_succ]
          refine wpAnyH_take (i := 11) (oi := ?_) (v := ?_) ?_ ?_ ?_ ?_ (fun _ _ _ h => h) ?_ (by assumption) ?_
          rotate_left 2
          · (simp only [List.getElem?_toArray, List.getElem?_cons_succ, List.getElem?_cons_zero]; rfl)
          · kernel_rfl
          · kernel_rfl
          · kernel_rfl
          · refine Or.inl ⟨by rfl, ?_⟩
            intro w hSw
            (try dsimp only at hSw)
            go_simp
            try with_reducible rfl
          try simp only [Act.put, List.setIfInBounds_toArray, List.set_cons_zero, List.set_cons_succ]
          refine wpAnyH_ready (rs := [16]) (by kernel_rfl) (by simp) ?_
          refine AllReadyH.cons (o := ?_) ?_ (fun K hK => ?_) AllReadyH.nil
          rotate_left
          · (simp only [List.getElem?_toArray, List.getElem?_cons_succ, List.getElem?_cons_zero]; rfl)
          go_simp
          refine (hQ _).mono ?_
          rintro e w9 ⟨rfl, rfl⟩
          refine hK.out _ _ (by assumption) (fun hHeld => ?_)
          clear hK K
          try simp only [Act.put, List.setIfInBounds_toArray, List.set_cons_zero, List.set_cons_succ]
          refine wpAnyH_take (i := 17) (oi := ?_) (v := ?_) ?_ ?_ ?_ ?_ (fun _ _ _ h => h) ?_ (by assumption) ?_
          rotate_left 2
          · (simp only [List.getElem?_toArray, List.getElem?_cons_succ, List.getElem?_cons_zero]; rfl)
          · kernel_rfl
          · kernel_rfl
          · kernel_rfl
          · refine Or.inl ⟨by rfl, ?_⟩
            intro w hSw
            (try dsimp only at hSw)
            go_simp
            try with_reducible rfl
          try simp only [Act.put, List.setIfInBounds_toArray, List.set_cons_zero, List.set_cons_succ]
          refine wpAnyH_take (i := 18) (oi := ?_) (v := ?_) ?_ ?_ ?_ ?_ (fun _ _ _ h => h) ?_ (by assumption) ?_
          rotate_left 2
          · (simp only [List.getElem?_toArray, List.getElem?_cons_succ, List.getElem?_cons_zero]; rfl)
          · kernel_rfl
          · kernel_rfl
          · kernel_rfl
          · refine Or.inl ⟨by rfl, ?_⟩
            intro w hSw
            (try dsimp only at hSw)
            go_simp
            try with_reducible rfl
          try simp only [Act.put, List.setIfInBounds_toArray, List.set_cons_zero, List.set_cons_succ]
          refine wpAnyH_ready (rs := [19]) (by kernel_rfl) (by simp) ?_
          refine AllReadyH.cons (o := ?_) ?_ (fun K hK => ?_) AllReadyH.nil
          rotate_left
          · (simp only [List.getElem?_toArray, List.getElem?_cons_succ, List.getElem?_cons_zero]; rfl)
          go_simp
          refine hK.out _ _ (Touch.alloc (by assumption) _) (fun hHeld => ?_)
          clear hK K
          try simp only [Act.put, List.setIfInBounds_toArray, List.set_cons_zero, List.set_cons_succ]
          refine wpAnyH_ready (rs := [20]) (by kernel_rfl) (by simp) ?_
          refine AllReadyH.cons (o := ?_) ?_ (fun K hK => ?_) AllReadyH.nil
          rotate_left
          · (simp only [List.getElem?_toArray, List.getElem?_cons_succ, List.getElem?_cons_zero]; rfl)
          refine step_append_sl sliceT_ent rfl (.tmp 31) (.tmp 50) rfl rfl (hs.keep (((Touch.refl [] _).drew).alloc _) (by simp)) rfl (srcAt_block (m := 1) (alloc_new _ _) rfl (ents_one _ _)) (by omega) ?_
          intro ad2 c2 w4 g2 hs4 ht4 hn4
          have hHn := Touch.step (F := g5.toList) hHeld ht4 (fun x hx => .inl hx)
          refine hK.out _ _ hHn (fun hHeld => ?_)
          clear hK K
          try simp only [Act.put, List.setIfInBounds_toArray, List.set_cons_zero, List.set_cons_succ]
          refine wpAnyH_take (i := 21) (oi := ?_) (v := ?_) ?_ ?_ ?_ ?_ (fun _ _ _ h => h) ?_ (by assumption) ?_
          rotate_left 2
          · (simp only [List.getElem?_toArray, List.getElem?_cons_succ, List.getElem?_cons_zero]; rfl)
          · kernel_rfl
          · kernel_rfl
          · kernel_rfl
          · refine Or.inl ⟨by rfl, ?_⟩
            intro w hSw
            (try dsimp only at hSw)
            go_simp
            try with_reducible rfl
          try simp only [Act.put, List.setIfInBounds_toArray, List.set_cons_zero, List.set_cons_succ]
          refine wpAnyH_done (by kernel_rfl) ?_ _
          refine NoPanic.normal ?_
          go_wp2
          have hN : L ++ [(256 * (7 * (i : Int) + 3) + (px : Int), 1 + (qx : Int))] = Stg.rows pP pQ (z1.take 10) i ++ Stg.row pP pQ (z1.take (j + 1)) i := by
            rw [hLx.out, hsx.out, Stg.row_snoc, List.append_assoc]
            unfold pP pQ
            rw [hpx2.out, hqx2.out]
          have hlen : (L ++ [(256 * (7 * (i : Int) + 3) + (px : Int), 1 + (qx : Int))]).length = L.length + 1 := by simp
          have hcl : entsV (L ++ [(256 * (7 * (i : Int) + 3) + (px : Int), 1 + (qx : Int))]) = entsV L ++ [Value.int .i32 (256 * (7 * (i : Int) + 3) + (px : Int)), Value.int .i64 (1 + (qx : Int))] := by rw [entsV_app]; rfl
          have hg2 : ∀ k, g2 = some k → w.heap.size ≤ k := fun k hk => by
            rcases hn4 with q | ⟨y, y1, y2⟩
            · exact hg k (by rw [← q, hk])
            · rw [hk] at y1; injection y1 with y1; subst y1
              have := hT.size
              have y3 : wr.heap.size + 1 ≤ k := by simpa using y2
              omega
          have hT4 : Touch [] w w4 := Touch.step (hT.drew.alloc _) ht4 (fun y hy => .inr (by
            cases hgo : g5 with
            | none => rw [hgo] at hy; simp at hy
            | some q => rw [hgo] at hy; simp at hy; subst hy; exact hg y hgo))
          refine ⟨⟨j + 1, g2, L ++ [(256 * (7 * (i : Int) + 3) + (px : Int), 1 + (qx : Int))], hN, hl1, hl2, by go_num, ⟨ad2, c2, by rw [hlen]⟩, ?_, hg2, hT4⟩, by simp [intOf]; omega⟩
          rw [hlen, hcl]
          exact hs4
        · have htk : z1.take 10 = z1.take j := by
            by_cases hj2 : j = 10
            · subst hj2; rfl
            · have : j = n1 := by omega
              rw [List.take_of_length_le (by omega), List.take_of_length_le (by omega)]
          have hL2 : L = Stg.rows pP pQ (z1.take 10) (i + 1) := by rw [hL, Stg.rows, ← htk]
          clear hL
          subst hL2
          by_cases hl1 : j < n1
          · have hl2 : ¬ j < 10 := fun q => hlt2 ⟨hl1, q⟩
            clear hlt2
            go_wp2
            exact ⟨⟨i + 1, g5, by omega, by go_num, ⟨A5, C5, rfl⟩, hs, hg, hT⟩, by simp [intOf]; omega⟩
          · clear hlt2
            go_wp2
            exact ⟨⟨i + 1, g5, by omega, by go_num, ⟨A5, C5, rfl⟩, hs, hg, hT⟩, by simp [intOf]; omega⟩
    · have hik : i = 1 + kk := by omega
      subst hik
      have tlt : decide (((1 + kk : Nat) : Int) < 1 + (kk : Int)) = false := by simp
      have hok := rows_ok (z1.take 10) (1 + kk) (by omega)
      have hk1 := Stg.kinds_rows pP pQ (z1.take 10) pP_bd pQ_bd (1 + kk) (by omega) (by omega)
      have hk2 := Stg.kinds_rows_other pP pQ (z1.take 10) pP_bd pQ_bd (1 + kk) (by omega) (by omega)
      have hLb : (Stg.rows pP pQ (z1.take 10) (1 + kk)).length ≤ 500 := by
        rw [Stg.rows_len]
        have : (z1.take 10).length ≤ 10 := by rw [List.length_take]; omega
        have h3 : (1 + kk) * (z1.take 10).length ≤ 40 * 10 := Nat.mul_le_mul (by omega) this
        omega
      obtain ⟨Z, hZ⟩ : ∃ Z : Nat, Z = (if z1.take 10 = [] then 1 else 2) := ⟨_, rfl⟩
      have hZ2 : (if z1.take 10 = [] then 2 else 3) = Z + 1 := by rw [hZ]; split <;> rfl
      rw [← hZ] at hk1
      rw [hZ2] at hk2
      have hZn : n1 = 0 ∧ Z = 1 ∨ n1 ≠ 0 ∧ Z = 2 := by
        by_cases q : n1 = 0
        · left
          refine ⟨q, ?_⟩
          rw [hZ, List.eq_nil_of_length_eq_zero (show z1.length = 0 by omega)]
          rfl
        · right
          refine ⟨q, ?_⟩
          rw [hZ, if_neg]
          intro x
          have := congrArg List.length x
          rw [List.length_take, List.length_nil] at this
          omega
      clear hZ hZ2 hlt hi
      generalize Stg.rows pP pQ (z1.take 10) (1 + kk) = L at *
      have hkx := Box.mk hk1
      have hky := Box.mk hk2
      clear hk1 hk2
      cases a2 with
      | false =>
        rcases hZn with ⟨hn, rfl⟩ | ⟨hn, rfl⟩
        · have t0 : ((n1 : Int) == 0) = true := by simp [hn]
          clear hn
          obtain ⟨A9, C9, hv9, hle9, hmx9, _⟩ := hs.form
          injection hv9 with v1 v2 v3
          subst v1; subst v3
          have hB := build_any A C L wr (entsIn_of hs) hok hle9 hmx9
          clear hs tlt
          go_wp2_with fail
          refine hB.mono ?_
          rintro e w5 ⟨t, rfl, hts, hta, ht5⟩
          try go_simp
          have hbl := blocks_any t L _ hta
          rw [hkx.out] at hbl
          replace hbl : Calls Try.prog 11 #[.pointer (some ⟨t, 0, none⟩)] w5 fun e w' => e = .returned (.int .i64 1) ∧ w5 = w' := hbl
          go_wp2_with fail
          refine hbl.mono ?_
          rintro e w6 ⟨rfl, rfl⟩
          try go_simp
          go_wp2_with fail
          refine (awake04 _).mono ?_
          rintro e w7 ⟨rfl, ht7⟩
          try go_simp
          go_wp2
          (try simp only [Exit.inBlock, Exit.then])
          refine hQ_.ret (results_tmp rfl _ _ _) rfl ?_
          exact ⟨rfl, (hT.trans ht5).trans ht7⟩
        · have t0 : ((n1 : Int) == 0) = false := by simp [hn]
          clear hn
          obtain ⟨A9, C9, hv9, hle9, hmx9, _⟩ := hs.form
          injection hv9 with v1 v2 v3
          subst v1; subst v3
          have hB := build_any A C L wr (entsIn_of hs) hok hle9 hmx9
          clear hs tlt
          go_wp2_with fail
          refine hB.mono ?_
          rintro e w5 ⟨t, rfl, hts, hta, ht5⟩
          try go_simp
          have hbl := blocks_any t L _ hta
          rw [hkx.out] at hbl
          replace hbl : Calls Try.prog 11 #[.pointer (some ⟨t, 0, none⟩)] w5 fun e w' => e = .returned (.int .i64 2) ∧ w5 = w' := hbl
          go_wp2_with fail
          refine hbl.mono ?_
          rintro e w6 ⟨rfl, rfl⟩
          try go_simp
          go_wp2_with fail
          refine (awake04 _).mono ?_
          rintro e w7 ⟨rfl, ht7⟩
          try go_simp
          go_wp2
          (try simp only [Exit.inBlock, Exit.then])
          refine hQ_.ret (results_tmp rfl _ _ _) rfl ?_
          exact ⟨rfl, (hT.trans ht5).trans ht7⟩
      | true =>
        rcases hZn with ⟨hn, rfl⟩ | ⟨hn, rfl⟩
        · have t0 : ((n1 : Int) == 0) = true := by simp [hn]
          clear hn
          go_wp2_with (at_builtin; refine wpList_append_sl sliceT_ent rfl (.tmp 56) (.tmp 58) rfl rfl (hs.keep ((Touch.refl [] _).alloc _) (by simp)) rfl (srcAt_block (m := 1) (alloc_new _ _) rfl (ents_one _ _)) (by omega) ?_; intro ad2 c2 w4 g2 hs4 ht4 hn4)
          have hlen : (L ++ [((1114111 : Int), (77 : Int))]).length = L.length + 1 := by simp
          have hcl : entsV (L ++ [((1114111 : Int), (77 : Int))]) = entsV L ++ [Value.int .i32 1114111, Value.int .i64 77] := by rw [entsV_app]; rfl
          have hs5 : SlAt w4 31 2 (.slice ad2 (L ++ [((1114111 : Int), (77 : Int))]).length c2) (L ++ [((1114111 : Int), (77 : Int))]).length (entsV (L ++ [((1114111 : Int), (77 : Int))])) g2 := by
            rw [hlen, hcl]
            exact hs4
          have hok5 : EntsOk (L ++ [((1114111 : Int), (77 : Int))]) := fun e he => by
            rw [List.mem_append, List.mem_singleton] at he
            rcases he with he | rfl
            · exact hok e he
            · exact ⟨by decide, by decide⟩
          obtain ⟨A9, C9, hv9, hle9, hmx9, _⟩ := hs5.form
          injection hv9 with v1 v2 v3
          subst v1; subst v3
          have hB := build_any ad2 c2 _ w4 (entsIn_of hs5) hok5 hle9 hmx9
          rw [hlen] at hB
          have hT4 : Touch [] w w4 := Touch.step (hT.alloc _) ht4 (fun y hy => .inr (by
            cases hgo : g with
            | none => rw [hgo] at hy; simp at hy
            | some q => rw [hgo] at hy; simp at hy; subst hy; exact hg y hgo))
          clear hs tlt hs4 hs5 hcl hlen hn4 hok hok5
          refine hB.mono ?_
          rintro e w5 ⟨t, rfl, hts, hta, ht5⟩
          try go_simp
          have hbl := blocks_any t _ _ hta
          rw [hky.out] at hbl
          replace hbl : Calls Try.prog 11 #[.pointer (some ⟨t, 0, none⟩)] w5 fun e w' => e = .returned (.int .i64 2) ∧ w5 = w' := hbl
          go_wp2_with fail
          refine hbl.mono ?_
          rintro e w6 ⟨rfl, rfl⟩
          try go_simp
          go_wp2_with fail
          refine (awake04 _).mono ?_
          rintro e w7 ⟨rfl, ht7⟩
          try go_simp
          go_wp2
          (try simp only [Exit.inBlock, Exit.then])
          refine hQ_.ret (results_tmp rfl _ _ _) rfl ?_
          exact ⟨rfl, (hT4.trans ht5).trans ht7⟩
        · have t0 : ((n1 : Int) == 0) = false := by simp [hn]
          clear hn
          go_wp2_with (at_builtin; refine wpList_append_sl sliceT_ent rfl (.tmp 56) (.tmp 58) rfl rfl (hs.keep ((Touch.refl [] _).alloc _) (by simp)) rfl (srcAt_block (m := 1) (alloc_new _ _) rfl (ents_one _ _)) (by omega) ?_; intro ad2 c2 w4 g2 hs4 ht4 hn4)
          have hlen : (L ++ [((1114111 : Int), (77 : Int))]).length = L.length + 1 := by simp
          have hcl : entsV (L ++ [((1114111 : Int), (77 : Int))]) = entsV L ++ [Value.int .i32 1114111, Value.int .i64 77] := by rw [entsV_app]; rfl
          have hs5 : SlAt w4 31 2 (.slice ad2 (L ++ [((1114111 : Int), (77 : Int))]).length c2) (L ++ [((1114111 : Int), (77 : Int))]).length (entsV (L ++ [((1114111 : Int), (77 : Int))])) g2 := by
            rw [hlen, hcl]
            exact hs4
          have hok5 : EntsOk (L ++ [((1114111 : Int), (77 : Int))]) := fun e he => by
            rw [List.mem_append, List.mem_singleton] at he
            rcases he with he | rfl
            · exact hok e he
            · exact ⟨by decide, by decide⟩
          obtain ⟨A9, C9, hv9, hle9, hmx9, _⟩ := hs5.form
          injection hv9 with v1 v2 v3
          subst v1; subst v3
          have hB := build_any ad2 c2 _ w4 (entsIn_of hs5) hok5 hle9 hmx9
          rw [hlen] at hB
          have hT4 : Touch [] w w4 := Touch.step (hT.alloc _) ht4 (fun y hy => .inr (by
            cases hgo : g with
            | none => rw [hgo] at hy; simp at hy
            | some q => rw [hgo] at hy; simp at hy; subst hy; exact hg y hgo))
          clear hs tlt hs4 hs5 hcl hlen hn4 hok hok5
          refine hB.mono ?_
          rintro e w5 ⟨t, rfl, hts, hta, ht5⟩
          try go_simp
          have hbl := blocks_any t _ _ hta
          rw [hky.out] at hbl
          replace hbl : Calls Try.prog 11 #[.pointer (some ⟨t, 0, none⟩)] w5 fun e w' => e = .returned (.int .i64 3) ∧ w5 = w' := hbl
          go_wp2_with fail
          refine hbl.mono ?_
          rintro e w6 ⟨rfl, rfl⟩
          try go_simp
          go_wp2_with fail
          refine (awake04 _).mono ?_
          rintro e w7 ⟨rfl, ht7⟩
          try go_simp
          go_wp2
          (try simp only [Exit.inBlock, Exit.then])
          refine hQ_.ret (results_tmp rfl _ _ _) rfl ?_
          exact ⟨rfl, (hT4.trans ht5).trans ht7⟩
end Go.Proofs.Ythbcgbmpicgjiaa
