/- The laws of tables: StageLast. -/
import Derived.Test.YthbcgbmpicgjiaaStgX
namespace Go.Proofs.Ythbcgbmpicgjiaa
open Go.RowKit
set_option maxRecDepth 100000
set_option maxHeartbeats 8000000
set_option linter.unusedVariables false
set_option linter.unusedSimpArgs false

namespace Stg
def seqE (f : Int → Int) (v : List Int) : Nat → List (Int × Int)
  | 0 => []
  | i + 1 => seqE f v i ++ [(f (v.getD i 0), (i : Int) + 1)]
theorem seqE_len (f : Int → Int) (v : List Int) : ∀ i, (seqE f v i).length = i
  | 0 => rfl
  | i + 1 => by rw [seqE, List.length_append, seqE_len f v i]; rfl
theorem last_alike (s : List (Int × Int)) (k old : Int) (c : Int) (h0 : 0 ≤ c) (h1 : c ≤ 1114111) : lst (s ++ [(k, 1000)]) c = lst ([(k, old), (-5, 8), (1114112, 8)] ++ s ++ [(k, 1000)]) c := by
  rw [lst_snoc, lst_snoc]
  by_cases hk : k = c
  · rw [if_pos hk, if_pos hk]
  · rw [if_neg hk, if_neg hk]
    by_cases h : ∃ e ∈ s, e.1 = c
    · rw [lst_app_some _ _ _ h]
    · have hn : ∀ e ∈ s, e.1 ≠ c := fun e he x => h ⟨e, he, x⟩
      rw [lst_app_none _ _ _ hn, lst_none _ _ hn, lst_none]
      intro e he x
      simp only [List.mem_cons, List.not_mem_nil, or_false] at he
      rcases he with rfl | rfl | rfl
      · exact hk x
      · dsimp only at x; omega
      · dsimp only at x; omega
theorem last_tget (s : List (Int × Int)) (k old : Int) (c : Int) : tget (s ++ [(k, 1000)]) c = tget ([(k, old), (-5, 8), (1114112, 8)] ++ s ++ [(k, 1000)]) c := by
  unfold tget
  by_cases h : 0 ≤ c ∧ c ≤ 1114111
  · rw [if_pos h, if_pos h, last_alike s k old c h.1 h.2]
  · rw [if_neg h, if_neg h]
theorem last_kinds (s : List (Int × Int)) (k old : Int) : kinds (s ++ [(k, 1000)]) = kinds ([(k, old), (-5, 8), (1114112, 8)] ++ s ++ [(k, 1000)]) := alike_kinds fun c h0 h1 => last_alike s k old c h0 h1
theorem last_k (s : List (Int × Int)) (k : Int) (h0 : 0 ≤ k) (h1 : k ≤ 1114111) : tget (s ++ [(k, 1000)]) k = 1000 := by
  unfold tget
  rw [if_pos ⟨h0, h1⟩, lst_snoc, if_pos rfl]
end Stg
theorem own_notin {w : World} {E : TypeId} {sz n k : Nat} {v : Value} {xs : List Value} {g : Option Nat} (h : SlAt w E sz v n xs g) (hk : w.heap.size ≤ k) : k ∉ g.toList := fun q => by
  have := h.lt (k := k) (by simpa using q)
  omega
theorem two_fin {wr wa w4 wb w6 : World} {E : TypeId} {sz nA nB nA' base : Nat} {vA vB vA' : Value} {xA xB xA' : List Value} {gA gB gA2 gB2 : Option Nat}
    (hA : SlAt wr E sz vA nA xA gA) (hB : SlAt wr E sz vB nB xB gB) (hd : ∀ k, gA = some k → gB = some k → False) (ta : Touch [] wr wa) (hsA : SlAt w4 E sz vA' nA' xA' gA2) (htA : Touch gA.toList wa w4) (hnA : NewOr wa gA gA2)
    (tb : Touch [] w4 wb) (htB : Touch gB.toList wb w6) (hnB : NewOr wb gB gB2) (bA : ∀ k, gA = some k → base ≤ k) (bB : ∀ k, gB = some k → base ≤ k) (hbs : base ≤ wr.heap.size) :
    SlAt w6 E sz vA' nA' xA' gA2 ∧ (∀ k, gA2 = some k → gB2 = some k → False) ∧ (∀ k, gA2 = some k → base ≤ k) ∧ (∀ k, gB2 = some k → base ≤ k) ∧ Touch (gA.toList ++ gB.toList) wr w6 := by
  have s1 := ta.size
  have s2 := htA.size
  have s3 := tb.size
  have hltA : ∀ k, gA = some k → k < wr.heap.size := fun k hk => hA.lt hk
  have hltB : ∀ k, gB = some k → k < wr.heap.size := fun k hk => hB.lt hk
  have hltA2 : ∀ k, gA2 = some k → k < w4.heap.size := fun k hk => hsA.lt hk
  refine ⟨(hsA.keep tb (fun _ _ => by simp)).keep htB (fun k hk q => ?_), fun k h1 h2 => ?_, fun k hk => ?_, fun k hk => ?_, ?_⟩
  · have hq : gB = some k := by simpa using q
    rcases hnA with e | ⟨j, j1, j2⟩
    · exact hd k (by rw [← e, hk]) hq
    · rw [hk] at j1; injection j1 with j1; subst j1
      have := hltB k hq; omega
  · rcases hnA with e | ⟨j, j1, j2⟩
    · rcases hnB with e2 | ⟨j, j1, j2⟩
      · exact hd k (by rw [← e, h1]) (by rw [← e2, h2])
      · rw [h2] at j1; injection j1 with j1; subst j1
        have := hltA k (by rw [← e, h1]); omega
    · rw [h1] at j1; injection j1 with j1; subst j1
      rcases hnB with e2 | ⟨j, k1, k2⟩
      · have := hltB k (by rw [← e2, h2]); omega
      · rw [h2] at k1; injection k1 with k1; subst k1
        have := hltA2 k h1; omega
  · rcases hnA with e | ⟨j, j1, j2⟩
    · exact bA k (by rw [← e, hk])
    · rw [hk] at j1; injection j1 with j1; subst j1; omega
  · rcases hnB with e | ⟨j, j1, j2⟩
    · exact bB k (by rw [← e, hk])
    · rw [hk] at j1; injection j1 with j1; subst j1; omega
  · exact (((ta.mono (G := gA.toList ++ gB.toList) (fun k hk => by cases hk)).step htA (fun x hx => .inl (List.mem_append_left _ hx))).step tb (fun x hx => by cases hx)).step htB (fun x hx => .inl (List.mem_append_right _ hx))

theorem seqE_ok (z : List Int) : ∀ i, i ≤ 100 → EntsOk (Stg.seqE (fun x => placeE x 1114112) z i)
  | 0, _ => fun e he => by cases he
  | i + 1, hi => fun e he => by
    rw [Stg.seqE, List.mem_append, List.mem_singleton] at he
    rcases he with he | rfl
    · exact seqE_ok z i (by omega) e he
    · have h1 := placeE_bound (z.getD i 0) 1114112 (by decide)
      have hmin : IntKind.i64.min = -9223372036854775808 := rfl
      have hmax : IntKind.i64.max = 9223372036854775807 := rfl
      have hmin2 : IntKind.i32.min = -2147483648 := rfl
      have hmax2 : IntKind.i32.max = 2147483647 := rfl
      simp only [Lit.wf, Bool.and_eq_true, decide_eq_true_eq]
      omega
theorem stagelast_walk (a0 : Option Addr) (n0 c0 : Nat) (z0 : List Int) (a1 : Int) (a2 : Int) (w : World) (w0 : IntsIn .i64 w a0 n0 c0 z0) (w1 : (Lit.int .i64 a1).wf = true) (w2 : (Lit.int .i64 a2).wf = true) :
    Calls Try.prog 4 #[.slice a0 n0 c0, .int .i64 a1, .int .i64 a2] w fun e w' => e = .returned (.bool true) ∧ Touch [] w w' := by
  obtain ⟨h1, h2⟩ := placeE_bound a1 1114112 (by decide)
  have hpl := fun w => placeE_any a1 1114112 w (by decide) (by decide)
  obtain ⟨kk, hkk⟩ : ∃ kk : Nat, placeE a1 1114112 = (kk : Int) := ⟨(placeE a1 1114112).toNat, by omega⟩
  rw [hkk] at hpl h1 h2
  have hkb : kk ≤ 1114111 := by omega
  have wk : IntKind.i32.wrap (kk : Int) = (kk : Int) := IntWalk.i32_in _ (by omega)
  have kw : (Lit.int .i32 (kk : Int)).wf = true := by
    have hmin2 : IntKind.i32.min = -2147483648 := rfl
    have hmax2 : IntKind.i32.max = 2147483647 := rfl
    simp only [Lit.wf, Bool.and_eq_true, decide_eq_true_eq]
    omega
  clear hkk h1 h2 w1
  obtain ⟨zl, zle, zmx, zwf, zc⟩ := w0
  have zc2 : 0 < n0 → ∃ b off, a0 = some ⟨b, off, none⟩ ∧ ∀ w', Touch [] w w' → ∀ i, i < n0 → w'.cell? ⟨b, off + i, none⟩ = some (.int .i64 (z0.getD i 0)) := fun h0 => by
    obtain ⟨b, off, e, hc⟩ := zc h0
    exact ⟨b, off, e, fun w' t i hi => t.cell (hc i hi) (by simp)⟩
  clear zc zwf
  let kp_ : Exit → Act → World → Prop := bodyPost Try.prog Try.f4 (fun _ _ => True)
  refine calls_post Try.func4 rfl ?_
  intro Q_ hQ_
  simp only [Try.ntmps4, List.size_toArray, List.length_cons, List.length_nil, Nat.reduceAdd, Nat.reduceSub, Array.replicate_succ, Array.replicate_zero, List.push_toArray, List.append_toArray, List.nil_append, List.cons_append]
  go_wp2_with fail
  refine (hpl _).mono ?_
  rintro e w2 ⟨rfl, rfl⟩
  try go_simp
  clear hpl
  go_wp2_with (at_builtin; refine wpList_append_sl sliceT_ent rfl (.tmp 18) (.tmp 25) rfl rfl (SlAt.nil _ _ _) rfl (srcAt_block (m := 3) (alloc_new _ _) rfl (by intro u hu; simp only [List.mem_cons, List.not_mem_nil, or_false] at hu; rcases hu with rfl | rfl | rfl | rfl | rfl | rfl <;> rfl)) (by omega) ?_; intro ad2 c2 w4 g2 hs4 ht4 hn4; simp only [List.nil_append, Nat.zero_add] at hs4 ht4)
  obtain ⟨pre, hpre⟩ : ∃ pre : List (Int × Int), pre = [((kk : Int), a2), (-5, 8), (1114112, 8)] := ⟨_, rfl⟩
  have hs0 : SlAt w4 31 2 (.slice ad2 3 c2) 3 (entsV pre) g2 := by rw [hpre]; exact hs4
  have hT0 : Touch [] w w4 := ((Touch.refl [] w).alloc _).trans ht4
  have hg0 : ∀ k, g2 = some k → w.heap.size ≤ k := fun k hk => by
    rcases hn4 with q | ⟨y, y1, y2⟩
    · rw [hk] at q; cases q
    · rw [hk] at y1; injection y1 with y1; subst y1; simp at y2; omega
  have hprl : pre.length = 3 := by rw [hpre]; rfl
  replace hpre := Box.mk hpre
  clear hs4 ht4 hn4
  go_loopw [7, 8, 10] (fun v7 v8 v10 wr => ∃ (i : Nat) (gA gB : Option Nat), i ≤ n0 ∧ i ≤ 100 ∧ v10 = .int .i64 i ∧ (∃ A C, v7 = .slice A i C) ∧ (∃ A C, v8 = .slice A (3 + i) C) ∧
    SlAt wr 31 2 v7 i (entsV (Stg.seqE (fun x => placeE x 1114112) z0 i)) gA ∧ SlAt wr 31 2 v8 (3 + i) (entsV (pre ++ Stg.seqE (fun x => placeE x 1114112) z0 i)) gB ∧ (∀ k, gA = some k → gB = some k → False) ∧ (∀ k, gA = some k → w.heap.size ≤ k) ∧ (∀ k, gB = some k → w.heap.size ≤ k) ∧ Touch [] w wr) (fun _ _ v _ => 100 - (intOf v).toNat)
  case atStart => exact ⟨0, none, g2, by omega, by omega, rfl, ⟨none, 0, rfl⟩, ⟨ad2, c2, rfl⟩, SlAt.nil _ _ _, by rw [Stg.seqE, List.append_nil]; exact hs0, (fun k q => by cases q), (fun k q => by cases q), hg0, hT0⟩
  case round =>
    clear hs0 hT0 hg0
    obtain ⟨i, gA, gB, hi, hi2, rfl, ⟨A1, C1, rfl⟩, ⟨A2, C2, rfl⟩, hA, hB, hd, bA, bB, hT⟩ := hrel
    by_cases hlt : i < n0 ∧ i < 100
    · obtain ⟨hl1, hl2⟩ := hlt
      obtain ⟨b, off, rfl, hc⟩ := zc2 (by omega)
      have zx := hc _ hT i hl1
      have hsx : Box (Stg.seqE (fun x => placeE x 1114112) z0 (i + 1) = Stg.seqE (fun x => placeE x 1114112) z0 i ++ [(placeE (z0.getD i 0) 1114112, (i : Int) + 1)]) := ⟨rfl⟩
      generalize z0.getD i 0 = x at zx hsx
      generalize Stg.seqE (fun x => placeE x 1114112) z0 i = L at hA hB hsx
      obtain ⟨px, hpx⟩ : ∃ px : Nat, placeE x 1114112 = (px : Int) := ⟨(placeE x 1114112).toNat, by have := placeE_bound x 1114112 (by decide); omega⟩
      have hpb : px < 1114112 := by have := placeE_bound x 1114112 (by decide); omega
      have hP := fun W => placeE_any x 1114112 W (by decide) (by decide)
      rw [hpx] at hP hsx
      have wp1 : IntKind.i32.wrap (px : Int) = (px : Int) := IntWalk.i32_in _ (by omega)
      clear hpx hc
      go_wp2_with fail
      refine (hP _).mono ?_
      rintro e w5 ⟨rfl, rfl⟩
      try go_simp
      go_upto_region 8 with (fail)
      have hE := alloc_new wr (.cells #[.int .i32 (px : Int), .int .i64 ((i : Int) + 1)] 31)
      have hTW := hT.alloc (.cells #[.int .i32 (px : Int), .int .i64 ((i : Int) + 1)] 31)
      have hbs : w.heap.size ≤ (wr.alloc (.cells #[.int .i32 (px : Int), .int .i64 ((i : Int) + 1)] 31)).heap.size := hTW.size
      have hAl : ∀ k, gA = some k → k < wr.heap.size := fun k hk => hA.lt hk
      have hBl : ∀ k, gB = some k → k < wr.heap.size := fun k hk => hB.lt hk
      replace hA := hA.keep ((Touch.refl [] wr).alloc (.cells #[.int .i32 (px : Int), .int .i64 ((i : Int) + 1)] 31)) (by simp)
      replace hB := hB.keep ((Touch.refl [] wr).alloc (.cells #[.int .i32 (px : Int), .int .i64 ((i : Int) + 1)] 31)) (by simp)
      generalize wr.alloc (.cells #[.int .i32 (px : Int), .int .i64 ((i : Int) + 1)] 31) = W at hE hTW hbs hA hB ⊢
      have hcz : ∀ w', Touch (gA.toList ++ gB.toList) W w' → ∀ j, w'.cell? ⟨wr.heap.size, j, none⟩ = (#[.int .i32 (px : Int), .int .i64 ((i : Int) + 1)] : Array Value)[j]? := fun w' t => cell_at (t.keep hE (by
        intro q
        rcases List.mem_append.1 q with q | q
        · have := hAl _ (by simpa using q); omega
        · have := hBl _ (by simpa using q); omega))
      clear zx hE
      refine wp_region_noPanic ?_
      refine wp_region_held_drew (S := fun w' => Touch (gA.toList ++ gB.toList) W w') (by kernel_rfl) (Touch.drew (Touch.refl _ W)) (fun hHeld => ?_)
      refine wpAnyH_take (i := 0) (oi := ?_) (v := ?_) ?_ ?_ ?_ ?_ (fun _ _ _ h => h) ?_ (by assumption) ?_
      rotate_left 2
      · (simp only [List.getElem?_toArray, List.getElem?_cons_succ, List.getElem?_cons_zero]; rfl)
      · kernel_rfl
      · kernel_rfl
      · kernel_rfl
      · refine Or.inl ⟨by rfl, ?_⟩
        intro w hSw
        (try dsimp only at hSw)
        go_simp
        try with_reducible rfl
      try simp only [Act.put, List.setIfInBounds_toArray, List.set_cons_zero, List.set_cons_succ]
      refine wpAnyH_take (i := 1) (oi := ?_) (v := ?_) ?_ ?_ ?_ ?_ (fun _ _ _ h => h) ?_ (by assumption) ?_
      rotate_left 2
      · (simp only [List.getElem?_toArray, List.getElem?_cons_succ, List.getElem?_cons_zero]; rfl)
      · kernel_rfl
      · kernel_rfl
      · kernel_rfl
      · refine Or.inl ⟨by rfl, ?_⟩
        intro w hSw
        (try dsimp only at hSw)
        go_simp
        try with_reducible rfl
      try simp only [Act.put, List.setIfInBounds_toArray, List.set_cons_zero, List.set_cons_succ]
      refine wpAnyH_take (i := 4) (oi := ?_) (v := ?_) ?_ ?_ ?_ ?_ (fun _ _ _ h => h) ?_ (by assumption) ?_
      rotate_left 2
      · (simp only [List.getElem?_toArray, List.getElem?_cons_succ, List.getElem?_cons_zero]; rfl)
      · kernel_rfl
      · kernel_rfl
      · kernel_rfl
      · refine Or.inl ⟨by rfl, ?_⟩
        intro w hSw
        (try dsimp only at hSw)
        go_simp
        try with_reducible rfl
      try simp only [Act.put, List.setIfInBounds_toArray, List.set_cons_zero, List.set_cons_succ]
      refine wpAnyH_take (i := 5) (oi := ?_) (v := ?_) ?_ ?_ ?_ ?_ (fun _ _ _ h => h) ?_ (by assumption) ?_
      rotate_left 2
      · (simp only [List.getElem?_toArray, List.getElem?_cons_succ, List.getElem?_cons_zero]; rfl)
      · kernel_rfl
      · kernel_rfl
      · kernel_rfl
      · refine Or.inl ⟨by rfl, ?_⟩
        intro w hSw
        (try dsimp only at hSw)
        go_simp
        try with_reducible rfl
      try simp only [Act.put, List.setIfInBounds_toArray, List.set_cons_zero, List.set_cons_succ]
      refine wpAnyH_ready (rs := [2, 6]) (by kernel_rfl) (by simp) ?_
      refine AllReadyH.cons (o := ?_) ?_ (fun K hK => ?_) ?_
      rotate_left
      · (simp only [List.getElem?_toArray, List.getElem?_cons_succ, List.getElem?_cons_zero]; rfl)
      · go_simp
        refine hK.out _ _ (Touch.alloc (by assumption) _) (fun hHeld => ?_)
        clear hK K
        try simp only [Act.put, List.setIfInBounds_toArray, List.set_cons_zero, List.set_cons_succ]
        refine wpAnyH_ready (rs := [3, 6]) (by kernel_rfl) (by simp) ?_
        refine AllReadyH.cons (o := ?_) ?_ (fun K hK => ?_) ?_
        rotate_left
        · (simp only [List.getElem?_toArray, List.getElem?_cons_succ, List.getElem?_cons_zero]; rfl)
        · refine step_append_sl sliceT_ent rfl (.tmp 46) (.tmp 48) rfl rfl (hA.keep ((Touch.refl [] W).drew.alloc _) (by simp)) rfl (srcAt_block (m := 1) (alloc_new _ _) rfl (ents_one _ _)) (by omega) ?_
          intro ad2 c2 w4 g2 hs4 ht4 hn4
          have hB4 := hB.keep (Touch.step (F := gA.toList) ((Touch.refl gA.toList W).drew.alloc _) ht4 (fun x hx => .inl hx)) (fun k hk q => hd k (by simpa using q) hk)
          refine hK.out _ _ (Touch.step (F := gA.toList ++ gB.toList) (by assumption) ht4 (fun x hx => .inl (List.mem_append_left _ hx))) (fun hHeld => ?_)
          clear hK K
          try simp only [Act.put, List.setIfInBounds_toArray, List.set_cons_zero, List.set_cons_succ]
          refine wpAnyH_ready (rs := [6]) (by kernel_rfl) (by simp) ?_
          refine AllReadyH.cons (o := ?_) ?_ (fun K hK => ?_) AllReadyH.nil
          rotate_left
          · (simp only [List.getElem?_toArray, List.getElem?_cons_succ, List.getElem?_cons_zero]; rfl)
          go_simp
          refine hK.out _ _ (Touch.alloc (by assumption) _) (fun hHeld => ?_)
          clear hK K
          try simp only [Act.put, List.setIfInBounds_toArray, List.set_cons_zero, List.set_cons_succ]
          refine wpAnyH_ready (rs := [7]) (by kernel_rfl) (by simp) ?_
          refine AllReadyH.cons (o := ?_) ?_ (fun K hK => ?_) AllReadyH.nil
          rotate_left
          · (simp only [List.getElem?_toArray, List.getElem?_cons_succ, List.getElem?_cons_zero]; rfl)
          refine step_append_sl sliceT_ent rfl (.tmp 50) (.tmp 52) rfl rfl (hB4.keep ((Touch.refl [] w4).alloc _) (by simp)) rfl (srcAt_block (m := 1) (alloc_new _ _) rfl (ents_one _ _)) (by omega) ?_
          intro ad3 c3 w6 g3 hs6 ht6 hn6
          obtain ⟨k1, k2, k3, k4, k5⟩ := two_fin hA hB hd ((Touch.refl [] W).drew.alloc _) hs4 ht4 hn4 ((Touch.refl [] w4).alloc _) ht6 hn6 bA bB hbs
          refine hK.out _ _ k5 (fun hHeld => ?_)
          clear hK K
          try simp only [Act.put, List.setIfInBounds_toArray, List.set_cons_zero, List.set_cons_succ]
          refine wpAnyH_take (i := 8) (oi := ?_) (v := ?_) ?_ ?_ ?_ ?_ (fun _ _ _ h => h) ?_ (by assumption) ?_
          rotate_left 2
          · (simp only [List.getElem?_toArray, List.getElem?_cons_succ, List.getElem?_cons_zero]; rfl)
          · kernel_rfl
          · kernel_rfl
          · kernel_rfl
          · refine Or.inl ⟨by rfl, ?_⟩
            intro w hSw
            (try dsimp only at hSw)
            go_simp
            try with_reducible rfl
          try simp only [Act.put, List.setIfInBounds_toArray, List.set_cons_zero, List.set_cons_succ]
          refine wpAnyH_take (i := 9) (oi := ?_) (v := ?_) ?_ ?_ ?_ ?_ (fun _ _ _ h => h) ?_ (by assumption) ?_
          rotate_left 2
          · (simp only [List.getElem?_toArray, List.getElem?_cons_succ, List.getElem?_cons_zero]; rfl)
          · kernel_rfl
          · kernel_rfl
          · kernel_rfl
          · refine Or.inl ⟨by rfl, ?_⟩
            intro w hSw
            (try dsimp only at hSw)
            go_simp
            try with_reducible rfl
          try simp only [Act.put, List.setIfInBounds_toArray, List.set_cons_zero, List.set_cons_succ]
          refine wpAnyH_done (by kernel_rfl) ?_ _
          refine NoPanic.normal ?_
          go_wp2
          have hT6 : Touch [] w w6 := Touch.step hTW k5 (fun y hy => .inr (by
            rcases List.mem_append.1 hy with q | q
            · exact bA y (by simpa using q)
            · exact bB y (by simpa using q)))
          refine ⟨⟨i + 1, g2, g3, hl1, hl2, by go_num, ⟨_, _, rfl⟩, ⟨ad3, c3, by rw [Nat.add_assoc]⟩, ?_, ?_, k2, k3, k4, hT6⟩, by simp [intOf]; omega⟩
          · rw [hsx.out, entsV_app]
            exact k1
          · rw [hsx.out, ← List.append_assoc, entsV_app, ← Nat.add_assoc]
            exact hs6
        · refine AllReadyH.cons (o := ?_) ?_ (fun K hK => ?_) AllReadyH.nil
          rotate_left
          · (simp only [List.getElem?_toArray, List.getElem?_cons_succ, List.getElem?_cons_zero]; rfl)
          go_simp
          refine hK.out _ _ (Touch.alloc (by assumption) _) (fun hHeld => ?_)
          clear hK K
          try simp only [Act.put, List.setIfInBounds_toArray, List.set_cons_zero, List.set_cons_succ]
          refine wpAnyH_ready (rs := [3]) (by kernel_rfl) (by simp) ?_
          refine AllReadyH.cons (o := ?_) ?_ (fun K hK => ?_) AllReadyH.nil
          rotate_left
          · (simp only [List.getElem?_toArray, List.getElem?_cons_succ, List.getElem?_cons_zero]; rfl)
          refine step_append_sl sliceT_ent rfl (.tmp 46) (.tmp 48) rfl rfl (hA.keep (((Touch.refl [] W).drew.alloc _).alloc _) (by simp)) rfl (srcAt_block (m := 1) (alloc_old (alloc_new _ _) _) rfl (ents_one _ _)) (by omega) ?_
          intro ad2 c2 w4 g2 hs4 ht4 hn4
          have hB4 := hB.keep (Touch.step (F := gA.toList) (((Touch.refl gA.toList W).drew.alloc _).alloc _) ht4 (fun x hx => .inl hx)) (fun k hk q => hd k (by simpa using q) hk)
          refine hK.out _ _ (Touch.step (F := gA.toList ++ gB.toList) (by assumption) ht4 (fun x hx => .inl (List.mem_append_left _ hx))) (fun hHeld => ?_)
          clear hK K
          try simp only [Act.put, List.setIfInBounds_toArray, List.set_cons_zero, List.set_cons_succ]
          refine wpAnyH_ready (rs := [7]) (by kernel_rfl) (by simp) ?_
          refine AllReadyH.cons (o := ?_) ?_ (fun K hK => ?_) AllReadyH.nil
          rotate_left
          · (simp only [List.getElem?_toArray, List.getElem?_cons_succ, List.getElem?_cons_zero]; rfl)
          refine step_append_sl sliceT_ent rfl (.tmp 50) (.tmp 52) rfl rfl (hB4.keep (Touch.refl [] w4) (by simp)) rfl (srcAt_block (m := 1) (ht4.keep (heap_alloc2_new _ _ _) (own_notin hA (by simp))) rfl (ents_one _ _)) (by omega) ?_
          intro ad3 c3 w6 g3 hs6 ht6 hn6
          obtain ⟨k1, k2, k3, k4, k5⟩ := two_fin hA hB hd (((Touch.refl [] W).drew.alloc _).alloc _) hs4 ht4 hn4 (Touch.refl [] w4) ht6 hn6 bA bB hbs
          refine hK.out _ _ k5 (fun hHeld => ?_)
          clear hK K
          try simp only [Act.put, List.setIfInBounds_toArray, List.set_cons_zero, List.set_cons_succ]
          refine wpAnyH_take (i := 8) (oi := ?_) (v := ?_) ?_ ?_ ?_ ?_ (fun _ _ _ h => h) ?_ (by assumption) ?_
          rotate_left 2
          · (simp only [List.getElem?_toArray, List.getElem?_cons_succ, List.getElem?_cons_zero]; rfl)
          · kernel_rfl
          · kernel_rfl
          · kernel_rfl
          · refine Or.inl ⟨by rfl, ?_⟩
            intro w hSw
            (try dsimp only at hSw)
            go_simp
            try with_reducible rfl
          try simp only [Act.put, List.setIfInBounds_toArray, List.set_cons_zero, List.set_cons_succ]
          refine wpAnyH_take (i := 9) (oi := ?_) (v := ?_) ?_ ?_ ?_ ?_ (fun _ _ _ h => h) ?_ (by assumption) ?_
          rotate_left 2
          · (simp only [List.getElem?_toArray, List.getElem?_cons_succ, List.getElem?_cons_zero]; rfl)
          · kernel_rfl
          · kernel_rfl
          · kernel_rfl
          · refine Or.inl ⟨by rfl, ?_⟩
            intro w hSw
            (try dsimp only at hSw)
            go_simp
            try with_reducible rfl
          try simp only [Act.put, List.setIfInBounds_toArray, List.set_cons_zero, List.set_cons_succ]
          refine wpAnyH_done (by kernel_rfl) ?_ _
          refine NoPanic.normal ?_
          go_wp2
          have hT6 : Touch [] w w6 := Touch.step hTW k5 (fun y hy => .inr (by
            rcases List.mem_append.1 hy with q | q
            · exact bA y (by simpa using q)
            · exact bB y (by simpa using q)))
          refine ⟨⟨i + 1, g2, g3, hl1, hl2, by go_num, ⟨_, _, rfl⟩, ⟨ad3, c3, by rw [Nat.add_assoc]⟩, ?_, ?_, k2, k3, k4, hT6⟩, by simp [intOf]; omega⟩
          · rw [hsx.out, entsV_app]
            exact k1
          · rw [hsx.out, ← List.append_assoc, entsV_app, ← Nat.add_assoc]
            exact hs6
      · refine AllReadyH.cons (o := ?_) ?_ (fun K hK => ?_) AllReadyH.nil
        rotate_left
        · (simp only [List.getElem?_toArray, List.getElem?_cons_succ, List.getElem?_cons_zero]; rfl)
        go_simp
        refine hK.out _ _ (Touch.alloc (by assumption) _) (fun hHeld => ?_)
        clear hK K
        try simp only [Act.put, List.setIfInBounds_toArray, List.set_cons_zero, List.set_cons_succ]
        refine wpAnyH_ready (rs := [2]) (by kernel_rfl) (by simp) ?_
        refine AllReadyH.cons (o := ?_) ?_ (fun K hK => ?_) AllReadyH.nil
        rotate_left
        · (simp only [List.getElem?_toArray, List.getElem?_cons_succ, List.getElem?_cons_zero]; rfl)
        go_simp
        refine hK.out _ _ (Touch.alloc (by assumption) _) (fun hHeld => ?_)
        clear hK K
        try simp only [Act.put, List.setIfInBounds_toArray, List.set_cons_zero, List.set_cons_succ]
        refine wpAnyH_ready (rs := [3]) (by kernel_rfl) (by simp) ?_
        refine AllReadyH.cons (o := ?_) ?_ (fun K hK => ?_) AllReadyH.nil
        rotate_left
        · (simp only [List.getElem?_toArray, List.getElem?_cons_succ, List.getElem?_cons_zero]; rfl)
        refine step_append_sl sliceT_ent rfl (.tmp 46) (.tmp 48) rfl rfl (hA.keep (((Touch.refl [] W).drew.alloc _).alloc _) (by simp)) rfl (srcAt_block (m := 1) (heap_alloc2_new _ _ _) rfl (ents_one _ _)) (by omega) ?_
        intro ad2 c2 w4 g2 hs4 ht4 hn4
        have hB4 := hB.keep (Touch.step (F := gA.toList) (((Touch.refl gA.toList W).drew.alloc _).alloc _) ht4 (fun x hx => .inl hx)) (fun k hk q => hd k (by simpa using q) hk)
        refine hK.out _ _ (Touch.step (F := gA.toList ++ gB.toList) (by assumption) ht4 (fun x hx => .inl (List.mem_append_left _ hx))) (fun hHeld => ?_)
        clear hK K
        try simp only [Act.put, List.setIfInBounds_toArray, List.set_cons_zero, List.set_cons_succ]
        refine wpAnyH_ready (rs := [7]) (by kernel_rfl) (by simp) ?_
        refine AllReadyH.cons (o := ?_) ?_ (fun K hK => ?_) AllReadyH.nil
        rotate_left
        · (simp only [List.getElem?_toArray, List.getElem?_cons_succ, List.getElem?_cons_zero]; rfl)
        refine step_append_sl sliceT_ent rfl (.tmp 50) (.tmp 52) rfl rfl (hB4.keep (Touch.refl [] w4) (by simp)) rfl (srcAt_block (m := 1) (ht4.keep (alloc_old (alloc_new _ _) _) (own_notin hA (by simp))) rfl (ents_one _ _)) (by omega) ?_
        intro ad3 c3 w6 g3 hs6 ht6 hn6
        obtain ⟨k1, k2, k3, k4, k5⟩ := two_fin hA hB hd (((Touch.refl [] W).drew.alloc _).alloc _) hs4 ht4 hn4 (Touch.refl [] w4) ht6 hn6 bA bB hbs
        refine hK.out _ _ k5 (fun hHeld => ?_)
        clear hK K
        try simp only [Act.put, List.setIfInBounds_toArray, List.set_cons_zero, List.set_cons_succ]
        refine wpAnyH_take (i := 8) (oi := ?_) (v := ?_) ?_ ?_ ?_ ?_ (fun _ _ _ h => h) ?_ (by assumption) ?_
        rotate_left 2
        · (simp only [List.getElem?_toArray, List.getElem?_cons_succ, List.getElem?_cons_zero]; rfl)
        · kernel_rfl
        · kernel_rfl
        · kernel_rfl
        · refine Or.inl ⟨by rfl, ?_⟩
          intro w hSw
          (try dsimp only at hSw)
          go_simp
          try with_reducible rfl
        try simp only [Act.put, List.setIfInBounds_toArray, List.set_cons_zero, List.set_cons_succ]
        refine wpAnyH_take (i := 9) (oi := ?_) (v := ?_) ?_ ?_ ?_ ?_ (fun _ _ _ h => h) ?_ (by assumption) ?_
        rotate_left 2
        · (simp only [List.getElem?_toArray, List.getElem?_cons_succ, List.getElem?_cons_zero]; rfl)
        · kernel_rfl
        · kernel_rfl
        · kernel_rfl
        · refine Or.inl ⟨by rfl, ?_⟩
          intro w hSw
          (try dsimp only at hSw)
          go_simp
          try with_reducible rfl
        try simp only [Act.put, List.setIfInBounds_toArray, List.set_cons_zero, List.set_cons_succ]
        refine wpAnyH_done (by kernel_rfl) ?_ _
        refine NoPanic.normal ?_
        go_wp2
        have hT6 : Touch [] w w6 := Touch.step hTW k5 (fun y hy => .inr (by
          rcases List.mem_append.1 hy with q | q
          · exact bA y (by simpa using q)
          · exact bB y (by simpa using q)))
        refine ⟨⟨i + 1, g2, g3, hl1, hl2, by go_num, ⟨_, _, rfl⟩, ⟨ad3, c3, by rw [Nat.add_assoc]⟩, ?_, ?_, k2, k3, k4, hT6⟩, by simp [intOf]; omega⟩
        · rw [hsx.out, entsV_app]
          exact k1
        · rw [hsx.out, ← List.append_assoc, entsV_app, ← Nat.add_assoc]
          exact hs6
    · have hLs : ∃ L, L = Stg.seqE (fun x => placeE x 1114112) z0 i := ⟨_, rfl⟩
      obtain ⟨L, hL⟩ := hLs
      have hLl : L.length = i := by rw [hL, Stg.seqE_len]
      have hok : EntsOk L := by rw [hL]; exact seqE_ok z0 i hi2
      rw [← hL] at hA hB
      clear hL
      subst hLl
      have hE := Stg.last_tget L (kk : Int) a2
      have hkd := Stg.last_kinds L (kk : Int) a2
      have hk0 := Stg.last_k L (kk : Int) (by omega) (by omega)
      rw [← hpre.out] at hE hkd
      have hEx := Box.mk hE
      have hkx := Box.mk hkd
      have hk0x := Box.mk hk0
      clear hE hkd hk0
      by_cases hl1 : L.length < n0
      · have hl2 : ¬ L.length < 100 := fun q => hlt ⟨hl1, q⟩
        clear hlt
        obtain ⟨L1, hL1⟩ : ∃ L1, L1 = L ++ [((kk : Int), (1000 : Int))] := ⟨_, rfl⟩
        obtain ⟨L2, hL2⟩ : ∃ L2, L2 = pre ++ L ++ [((kk : Int), (1000 : Int))] := ⟨_, rfl⟩
        rw [← hL1, ← hL2] at hEx hkx
        rw [← hL1] at hk0x
        have hl1x : Box (L1.length = L.length + 1) := ⟨by rw [hL1, List.length_append]; rfl⟩
        have hl2x : Box (L2.length = 3 + L.length + 1) := ⟨by rw [hL2, List.length_append, List.length_append, hprl]; rfl⟩
        have hok1 : EntsOk L1 := fun e he => by
          rw [hL1, List.mem_append, List.mem_singleton] at he
          rcases he with he | rfl
          · exact hok e he
          · exact ⟨kw, show (Lit.int .i64 1000).wf = true by decide⟩
        have hok2 : EntsOk L2 := fun e he => by
          rw [hL2, List.mem_append, List.mem_append, List.mem_singleton] at he
          rcases he with (he | he) | rfl
          · rw [hpre.out] at he
            simp only [List.mem_cons, List.not_mem_nil, or_false] at he
            rcases he with rfl | rfl | rfl
            · exact ⟨kw, w2⟩
            · exact ⟨by decide, by decide⟩
            · exact ⟨by decide, by decide⟩
          · exact hok e he
          · exact ⟨kw, show (Lit.int .i64 1000).wf = true by decide⟩
        replace hL1 := Box.mk hL1
        replace hL2 := Box.mk hL2
        go_upto_region 10 with (fail)
        go_cut [7, 8] (fun v7 v8 wx => ∃ (gA gB : Option Nat) (A1 : Option Addr) (C1 : Nat) (A2 : Option Addr) (C2 : Nat), v7 = .slice A1 L1.length C1 ∧ v8 = .slice A2 L2.length C2 ∧ SlAt wx 31 2 (.slice A1 L1.length C1) L1.length (entsV L1) gA ∧ SlAt wx 31 2 (.slice A2 L2.length C2) L2.length (entsV L2) gB ∧ Touch [] w wx)
        case first =>
          go_upto_region 10 with (fail)
          have hE := alloc_new wr (.cells #[.int .i32 (kk : Int), .int .i64 1000] 31)
          have hTW := hT.alloc (.cells #[.int .i32 (kk : Int), .int .i64 1000] 31)
          have hbs : w.heap.size ≤ (wr.alloc (.cells #[.int .i32 (kk : Int), .int .i64 1000] 31)).heap.size := hTW.size
          have hAl : ∀ k, gA = some k → k < wr.heap.size := fun k hk => hA.lt hk
          have hBl : ∀ k, gB = some k → k < wr.heap.size := fun k hk => hB.lt hk
          replace hA := hA.keep ((Touch.refl [] wr).alloc (.cells #[.int .i32 (kk : Int), .int .i64 1000] 31)) (by simp)
          replace hB := hB.keep ((Touch.refl [] wr).alloc (.cells #[.int .i32 (kk : Int), .int .i64 1000] 31)) (by simp)
          generalize wr.alloc (.cells #[.int .i32 (kk : Int), .int .i64 1000] 31) = W at hE hTW hbs hA hB ⊢
          have hcz : ∀ w', Touch (gA.toList ++ gB.toList) W w' → ∀ j, w'.cell? ⟨wr.heap.size, j, none⟩ = (#[.int .i32 (kk : Int), .int .i64 1000] : Array Value)[j]? := fun w' t => cell_at (t.keep hE (by
            intro q
            rcases List.mem_append.1 q with q | q
            · have := hAl _ (by simpa using q); omega
            · have := hBl _ (by simpa using q); omega))
          clear hE
          refine wp_region_noPanic ?_
          refine wp_region_held_drew (S := fun w' => Touch (gA.toList ++ gB.toList) W w') (by kernel_rfl) (Touch.drew (Touch.refl _ W)) (fun hHeld => ?_)
          refine wpAnyH_take (i := 0) (oi := ?_) (v := ?_) ?_ ?_ ?_ ?_ (fun _ _ _ h => h) ?_ (by assumption) ?_
          rotate_left 2
          · (simp only [List.getElem?_toArray, List.getElem?_cons_succ, List.getElem?_cons_zero]; rfl)
          · kernel_rfl
          · kernel_rfl
          · kernel_rfl
          · refine Or.inl ⟨by rfl, ?_⟩
            intro w hSw
            (try dsimp only at hSw)
            go_simp
            try with_reducible rfl
          try simp only [Act.put, List.setIfInBounds_toArray, List.set_cons_zero, List.set_cons_succ]
          refine wpAnyH_take (i := 1) (oi := ?_) (v := ?_) ?_ ?_ ?_ ?_ (fun _ _ _ h => h) ?_ (by assumption) ?_
          rotate_left 2
          · (simp only [List.getElem?_toArray, List.getElem?_cons_succ, List.getElem?_cons_zero]; rfl)
          · kernel_rfl
          · kernel_rfl
          · kernel_rfl
          · refine Or.inl ⟨by rfl, ?_⟩
            intro w hSw
            (try dsimp only at hSw)
            go_simp
            try with_reducible rfl
          try simp only [Act.put, List.setIfInBounds_toArray, List.set_cons_zero, List.set_cons_succ]
          refine wpAnyH_take (i := 4) (oi := ?_) (v := ?_) ?_ ?_ ?_ ?_ (fun _ _ _ h => h) ?_ (by assumption) ?_
          rotate_left 2
          · (simp only [List.getElem?_toArray, List.getElem?_cons_succ, List.getElem?_cons_zero]; rfl)
          · kernel_rfl
          · kernel_rfl
          · kernel_rfl
          · refine Or.inl ⟨by rfl, ?_⟩
            intro w hSw
            (try dsimp only at hSw)
            go_simp
            try with_reducible rfl
          try simp only [Act.put, List.setIfInBounds_toArray, List.set_cons_zero, List.set_cons_succ]
          refine wpAnyH_take (i := 5) (oi := ?_) (v := ?_) ?_ ?_ ?_ ?_ (fun _ _ _ h => h) ?_ (by assumption) ?_
          rotate_left 2
          · (simp only [List.getElem?_toArray, List.getElem?_cons_succ, List.getElem?_cons_zero]; rfl)
          · kernel_rfl
          · kernel_rfl
          · kernel_rfl
          · refine Or.inl ⟨by rfl, ?_⟩
            intro w hSw
            (try dsimp only at hSw)
            go_simp
            try with_reducible rfl
          try simp only [Act.put, List.setIfInBounds_toArray, List.set_cons_zero, List.set_cons_succ]
          refine wpAnyH_ready (rs := [2, 6]) (by kernel_rfl) (by simp) ?_
          refine AllReadyH.cons (o := ?_) ?_ (fun K hK => ?_) ?_
          rotate_left
          · (simp only [List.getElem?_toArray, List.getElem?_cons_succ, List.getElem?_cons_zero]; rfl)
          · go_simp
            refine hK.out _ _ (Touch.alloc (by assumption) _) (fun hHeld => ?_)
            clear hK K
            try simp only [Act.put, List.setIfInBounds_toArray, List.set_cons_zero, List.set_cons_succ]
            refine wpAnyH_ready (rs := [3, 6]) (by kernel_rfl) (by simp) ?_
            refine AllReadyH.cons (o := ?_) ?_ (fun K hK => ?_) ?_
            rotate_left
            · (simp only [List.getElem?_toArray, List.getElem?_cons_succ, List.getElem?_cons_zero]; rfl)
            · refine step_append_sl sliceT_ent rfl (.tmp 57) (.tmp 59) rfl rfl (hA.keep ((Touch.refl [] W).drew.alloc _) (by simp)) rfl (srcAt_block (m := 1) (alloc_new _ _) rfl (ents_one _ _)) (by omega) ?_
              intro ad2 c2 w4 g2 hs4 ht4 hn4
              have hB4 := hB.keep (Touch.step (F := gA.toList) ((Touch.refl gA.toList W).drew.alloc _) ht4 (fun x hx => .inl hx)) (fun k hk q => hd k (by simpa using q) hk)
              refine hK.out _ _ (Touch.step (F := gA.toList ++ gB.toList) (by assumption) ht4 (fun x hx => .inl (List.mem_append_left _ hx))) (fun hHeld => ?_)
              clear hK K
              try simp only [Act.put, List.setIfInBounds_toArray, List.set_cons_zero, List.set_cons_succ]
              refine wpAnyH_ready (rs := [6]) (by kernel_rfl) (by simp) ?_
              refine AllReadyH.cons (o := ?_) ?_ (fun K hK => ?_) AllReadyH.nil
              rotate_left
              · (simp only [List.getElem?_toArray, List.getElem?_cons_succ, List.getElem?_cons_zero]; rfl)
              go_simp
              refine hK.out _ _ (Touch.alloc (by assumption) _) (fun hHeld => ?_)
              clear hK K
              try simp only [Act.put, List.setIfInBounds_toArray, List.set_cons_zero, List.set_cons_succ]
              refine wpAnyH_ready (rs := [7]) (by kernel_rfl) (by simp) ?_
              refine AllReadyH.cons (o := ?_) ?_ (fun K hK => ?_) AllReadyH.nil
              rotate_left
              · (simp only [List.getElem?_toArray, List.getElem?_cons_succ, List.getElem?_cons_zero]; rfl)
              refine step_append_sl sliceT_ent rfl (.tmp 61) (.tmp 63) rfl rfl (hB4.keep ((Touch.refl [] w4).alloc _) (by simp)) rfl (srcAt_block (m := 1) (alloc_new _ _) rfl (ents_one _ _)) (by omega) ?_
              intro ad3 c3 w6 g3 hs6 ht6 hn6
              obtain ⟨k1, k2, k3, k4, k5⟩ := two_fin hA hB hd ((Touch.refl [] W).drew.alloc _) hs4 ht4 hn4 ((Touch.refl [] w4).alloc _) ht6 hn6 bA bB hbs
              refine hK.out _ _ k5 (fun hHeld => ?_)
              clear hK K
              try simp only [Act.put, List.setIfInBounds_toArray, List.set_cons_zero, List.set_cons_succ]
              refine wpAnyH_take (i := 8) (oi := ?_) (v := ?_) ?_ ?_ ?_ ?_ (fun _ _ _ h => h) ?_ (by assumption) ?_
              rotate_left 2
              · (simp only [List.getElem?_toArray, List.getElem?_cons_succ, List.getElem?_cons_zero]; rfl)
              · kernel_rfl
              · kernel_rfl
              · kernel_rfl
              · refine Or.inl ⟨by rfl, ?_⟩
                intro w hSw
                (try dsimp only at hSw)
                go_simp
                try with_reducible rfl
              try simp only [Act.put, List.setIfInBounds_toArray, List.set_cons_zero, List.set_cons_succ]
              refine wpAnyH_take (i := 9) (oi := ?_) (v := ?_) ?_ ?_ ?_ ?_ (fun _ _ _ h => h) ?_ (by assumption) ?_
              rotate_left 2
              · (simp only [List.getElem?_toArray, List.getElem?_cons_succ, List.getElem?_cons_zero]; rfl)
              · kernel_rfl
              · kernel_rfl
              · kernel_rfl
              · refine Or.inl ⟨by rfl, ?_⟩
                intro w hSw
                (try dsimp only at hSw)
                go_simp
                try with_reducible rfl
              try simp only [Act.put, List.setIfInBounds_toArray, List.set_cons_zero, List.set_cons_succ]
              refine wpAnyH_done (by kernel_rfl) ?_ _
              refine NoPanic.normal ?_
              go_wp2
              go_meet
              have hT6 : Touch [] w w6 := Touch.step hTW k5 (fun y hy => .inr (by
                rcases List.mem_append.1 hy with q | q
                · exact bA y (by simpa using q)
                · exact bB y (by simpa using q)))
              refine ⟨g2, g3, ad2, c2, ad3, c3, by rw [hl1x.out], by rw [hl2x.out], ?_, ?_, hT6⟩
              · rw [hl1x.out, hL1.out, entsV_app]
                exact k1
              · rw [hl2x.out, hL2.out, entsV_app]
                exact hs6
            · refine AllReadyH.cons (o := ?_) ?_ (fun K hK => ?_) AllReadyH.nil
              rotate_left
              · (simp only [List.getElem?_toArray, List.getElem?_cons_succ, List.getElem?_cons_zero]; rfl)
              go_simp
              refine hK.out _ _ (Touch.alloc (by assumption) _) (fun hHeld => ?_)
              clear hK K
              try simp only [Act.put, List.setIfInBounds_toArray, List.set_cons_zero, List.set_cons_succ]
              refine wpAnyH_ready (rs := [3]) (by kernel_rfl) (by simp) ?_
              refine AllReadyH.cons (o := ?_) ?_ (fun K hK => ?_) AllReadyH.nil
              rotate_left
              · (simp only [List.getElem?_toArray, List.getElem?_cons_succ, List.getElem?_cons_zero]; rfl)
              refine step_append_sl sliceT_ent rfl (.tmp 57) (.tmp 59) rfl rfl (hA.keep (((Touch.refl [] W).drew.alloc _).alloc _) (by simp)) rfl (srcAt_block (m := 1) (alloc_old (alloc_new _ _) _) rfl (ents_one _ _)) (by omega) ?_
              intro ad2 c2 w4 g2 hs4 ht4 hn4
              have hB4 := hB.keep (Touch.step (F := gA.toList) (((Touch.refl gA.toList W).drew.alloc _).alloc _) ht4 (fun x hx => .inl hx)) (fun k hk q => hd k (by simpa using q) hk)
              refine hK.out _ _ (Touch.step (F := gA.toList ++ gB.toList) (by assumption) ht4 (fun x hx => .inl (List.mem_append_left _ hx))) (fun hHeld => ?_)
              clear hK K
              try simp only [Act.put, List.setIfInBounds_toArray, List.set_cons_zero, List.set_cons_succ]
              refine wpAnyH_ready (rs := [7]) (by kernel_rfl) (by simp) ?_
              refine AllReadyH.cons (o := ?_) ?_ (fun K hK => ?_) AllReadyH.nil
              rotate_left
              · (simp only [List.getElem?_toArray, List.getElem?_cons_succ, List.getElem?_cons_zero]; rfl)
              refine step_append_sl sliceT_ent rfl (.tmp 61) (.tmp 63) rfl rfl (hB4.keep (Touch.refl [] w4) (by simp)) rfl (srcAt_block (m := 1) (ht4.keep (heap_alloc2_new _ _ _) (own_notin hA (by simp))) rfl (ents_one _ _)) (by omega) ?_
              intro ad3 c3 w6 g3 hs6 ht6 hn6
              obtain ⟨k1, k2, k3, k4, k5⟩ := two_fin hA hB hd (((Touch.refl [] W).drew.alloc _).alloc _) hs4 ht4 hn4 (Touch.refl [] w4) ht6 hn6 bA bB hbs
              refine hK.out _ _ k5 (fun hHeld => ?_)
              clear hK K
              try simp only [Act.put, List.setIfInBounds_toArray, List.set_cons_zero, List.set_cons_succ]
              refine wpAnyH_take (i := 8) (oi := ?_) (v := ?_) ?_ ?_ ?_ ?_ (fun _ _ _ h => h) ?_ (by assumption) ?_
              rotate_left 2
              · (simp only [List.getElem?_toArray, List.getElem?_cons_succ, List.getElem?_cons_zero]; rfl)
              · kernel_rfl
              · kernel_rfl
              · kernel_rfl
              · refine Or.inl ⟨by rfl, ?_⟩
                intro w hSw
                (try dsimp only at hSw)
                go_simp
                try with_reducible rfl
              try simp only [Act.put, List.setIfInBounds_toArray, List.set_cons_zero, List.set_cons_succ]
              refine wpAnyH_take (i := 9) (oi := ?_) (v := ?_) ?_ ?_ ?_ ?_ (fun _ _ _ h => h) ?_ (by assumption) ?_
              rotate_left 2
              · (simp only [List.getElem?_toArray, List.getElem?_cons_succ, List.getElem?_cons_zero]; rfl)
              · kernel_rfl
              · kernel_rfl
              · kernel_rfl
              · refine Or.inl ⟨by rfl, ?_⟩
                intro w hSw
                (try dsimp only at hSw)
                go_simp
                try with_reducible rfl
              try simp only [Act.put, List.setIfInBounds_toArray, List.set_cons_zero, List.set_cons_succ]
              refine wpAnyH_done (by kernel_rfl) ?_ _
              refine NoPanic.normal ?_
              go_wp2
              go_meet
              have hT6 : Touch [] w w6 := Touch.step hTW k5 (fun y hy => .inr (by
                rcases List.mem_append.1 hy with q | q
                · exact bA y (by simpa using q)
                · exact bB y (by simpa using q)))
              refine ⟨g2, g3, ad2, c2, ad3, c3, by rw [hl1x.out], by rw [hl2x.out], ?_, ?_, hT6⟩
              · rw [hl1x.out, hL1.out, entsV_app]
                exact k1
              · rw [hl2x.out, hL2.out, entsV_app]
                exact hs6
          · refine AllReadyH.cons (o := ?_) ?_ (fun K hK => ?_) AllReadyH.nil
            rotate_left
            · (simp only [List.getElem?_toArray, List.getElem?_cons_succ, List.getElem?_cons_zero]; rfl)
            go_simp
            refine hK.out _ _ (Touch.alloc (by assumption) _) (fun hHeld => ?_)
            clear hK K
            try simp only [Act.put, List.setIfInBounds_toArray, List.set_cons_zero, List.set_cons_succ]
            refine wpAnyH_ready (rs := [2]) (by kernel_rfl) (by simp) ?_
            refine AllReadyH.cons (o := ?_) ?_ (fun K hK => ?_) AllReadyH.nil
            rotate_left
            · (simp only [List.getElem?_toArray, List.getElem?_cons_succ, List.getElem?_cons_zero]; rfl)
            go_simp
            refine hK.out _ _ (Touch.alloc (by assumption) _) (fun hHeld => ?_)
            clear hK K
            try simp only [Act.put, List.setIfInBounds_toArray, List.set_cons_zero, List.set_cons_succ]
            refine wpAnyH_ready (rs := [3]) (by kernel_rfl) (by simp) ?_
            refine AllReadyH.cons (o := ?_) ?_ (fun K hK => ?_) AllReadyH.nil
            rotate_left
            · (simp only [List.getElem?_toArray, List.getElem?_cons_succ, List.getElem?_cons_zero]; rfl)
            refine step_append_sl sliceT_ent rfl (.tmp 57) (.tmp 59) rfl rfl (hA.keep (((Touch.refl [] W).drew.alloc _).alloc _) (by simp)) rfl (srcAt_block (m := 1) (heap_alloc2_new _ _ _) rfl (ents_one _ _)) (by omega) ?_
            intro ad2 c2 w4 g2 hs4 ht4 hn4
            have hB4 := hB.keep (Touch.step (F := gA.toList) (((Touch.refl gA.toList W).drew.alloc _).alloc _) ht4 (fun x hx => .inl hx)) (fun k hk q => hd k (by simpa using q) hk)
            refine hK.out _ _ (Touch.step (F := gA.toList ++ gB.toList) (by assumption) ht4 (fun x hx => .inl (List.mem_append_left _ hx))) (fun hHeld => ?_)
            clear hK K
            try simp only [Act.put, List.setIfInBounds_toArray, List.set_cons_zero, List.set_cons_succ]
            refine wpAnyH_ready (rs := [7]) (by kernel_rfl) (by simp) ?_
            refine AllReadyH.cons (o := ?_) ?_ (fun K hK => ?_) AllReadyH.nil
            rotate_left
            · (simp only [List.getElem?_toArray, List.getElem?_cons_succ, List.getElem?_cons_zero]; rfl)
            refine step_append_sl sliceT_ent rfl (.tmp 61) (.tmp 63) rfl rfl (hB4.keep (Touch.refl [] w4) (by simp)) rfl (srcAt_block (m := 1) (ht4.keep (alloc_old (alloc_new _ _) _) (own_notin hA (by simp))) rfl (ents_one _ _)) (by omega) ?_
            intro ad3 c3 w6 g3 hs6 ht6 hn6
            obtain ⟨k1, k2, k3, k4, k5⟩ := two_fin hA hB hd (((Touch.refl [] W).drew.alloc _).alloc _) hs4 ht4 hn4 (Touch.refl [] w4) ht6 hn6 bA bB hbs
            refine hK.out _ _ k5 (fun hHeld => ?_)
            clear hK K
            try simp only [Act.put, List.setIfInBounds_toArray, List.set_cons_zero, List.set_cons_succ]
            refine wpAnyH_take (i := 8) (oi := ?_) (v := ?_) ?_ ?_ ?_ ?_ (fun _ _ _ h => h) ?_ (by assumption) ?_
            rotate_left 2
            · (simp only [List.getElem?_toArray, List.getElem?_cons_succ, List.getElem?_cons_zero]; rfl)
            · kernel_rfl
            · kernel_rfl
            · kernel_rfl
            · refine Or.inl ⟨by rfl, ?_⟩
              intro w hSw
              (try dsimp only at hSw)
              go_simp
              try with_reducible rfl
            try simp only [Act.put, List.setIfInBounds_toArray, List.set_cons_zero, List.set_cons_succ]
            refine wpAnyH_take (i := 9) (oi := ?_) (v := ?_) ?_ ?_ ?_ ?_ (fun _ _ _ h => h) ?_ (by assumption) ?_
            rotate_left 2
            · (simp only [List.getElem?_toArray, List.getElem?_cons_succ, List.getElem?_cons_zero]; rfl)
            · kernel_rfl
            · kernel_rfl
            · kernel_rfl
            · refine Or.inl ⟨by rfl, ?_⟩
              intro w hSw
              (try dsimp only at hSw)
              go_simp
              try with_reducible rfl
            try simp only [Act.put, List.setIfInBounds_toArray, List.set_cons_zero, List.set_cons_succ]
            refine wpAnyH_done (by kernel_rfl) ?_ _
            refine NoPanic.normal ?_
            go_wp2
            go_meet
            have hT6 : Touch [] w w6 := Touch.step hTW k5 (fun y hy => .inr (by
              rcases List.mem_append.1 hy with q | q
              · exact bA y (by simpa using q)
              · exact bB y (by simpa using q)))
            refine ⟨g2, g3, ad2, c2, ad3, c3, by rw [hl1x.out], by rw [hl2x.out], ?_, ?_, hT6⟩
            · rw [hl1x.out, hL1.out, entsV_app]
              exact k1
            · rw [hl2x.out, hL2.out, entsV_app]
              exact hs6
        case rest =>
          obtain ⟨gA5, gB5, A15, C15, A25, C25, rfl, rfl, hA5, hB5, hT5⟩ := hcut
          clear hA hB hd bA bB hT hl1x hl2x hL1 hL2 hok zc2
          obtain ⟨A9, C9, hv9, hle1, hmx1, _⟩ := hA5.form
          injection hv9 with v1 v2 v3
          subst v1; subst v3
          obtain ⟨A9, C9, hv9, hle2, hmx2, _⟩ := hB5.form
          injection hv9 with v1 v2 v3
          subst v1; subst v3
          have hB1 := build_any _ _ L1 wc (entsIn_of hA5) hok1 hle1 hmx1
          go_wp2_with fail
          refine hB1.mono ?_
          rintro e w5 ⟨ta, rfl, hts, hta, ht5⟩
          try go_simp
          have hB2 := build_any _ _ L2 w5 (entsIn_of (hB5.keep ht5 (fun _ _ => by simp))) hok2 hle2 hmx2
          clear hB1
          go_wp2_with fail
          refine hB2.mono ?_
          rintro e w6 ⟨tb, rfl, hts2, htb, ht6⟩
          try go_simp
          have hEI := entsIn_of ((hA5.keep ht5 (fun _ _ => by simp)).keep ht6 (fun _ _ => by simp))
          have hTf := (hT5.trans ht5).trans ht6
          replace hta := hta.keep ht6
          have hGa : ∀ (c z : Int) W, Touch [] w6 W → Stg.tget L1 c = z → Calls Try.prog 9 #[.pointer (some ⟨ta, 0, none⟩), .int .i32 c] W fun e w' => e = .returned (.int .i64 z) ∧ ∃ n, w' = W.drewN n := fun c z W tt hz => by rw [← hz]; exact tget_any ta L1 c W (hta.keep tt)
          have hGb : ∀ (c z : Int) W, Touch [] w6 W → Stg.tget L1 c = z → Calls Try.prog 9 #[.pointer (some ⟨tb, 0, none⟩), .int .i32 c] W fun e w' => e = .returned (.int .i64 z) ∧ ∃ n, w' = W.drewN n := fun c z W tt hz => by rw [← hz, hEx.out c]; exact tget_any tb L2 c W (htb.keep tt)
          have hKa : ∀ W, Touch [] w6 W → Calls Try.prog 11 #[.pointer (some ⟨ta, 0, none⟩)] W fun e w' => e = .returned (.int .i64 (Stg.kinds L1)) ∧ W = w' := fun W tt => blocks_any ta L1 W (hta.keep tt)
          have hKb : ∀ W, Touch [] w6 W → Calls Try.prog 11 #[.pointer (some ⟨tb, 0, none⟩)] W fun e w' => e = .returned (.int .i64 (Stg.kinds L1)) ∧ W = w' := fun W tt => by rw [hkx.out]; exact blocks_any tb L2 W (htb.keep tt)
          clear hB2 hA5 hB5 hT5 ht5 ht6 hts hts2 hok1 hok2 hEx hkx hta htb
          generalize Stg.kinds L1 = KK at hKa hKb
          have hkk2 : ((KK : Int) != (KK : Int)) = false := by simp
          go_wp2_with fail
          refine (hGa kk 1000 _ (Touch.refl _ _) hk0x.out).mono ?_
          rintro e w7 ⟨rfl, n1, rfl⟩
          try go_simp
          go_wp2_with fail
          refine (hGb kk 1000 _ ((Touch.refl _ _).drewN _) hk0x.out).mono ?_
          rintro e w7 ⟨rfl, n2, rfl⟩
          try go_simp
          go_wp2_with fail
          refine (hKa _ (by first | exact (Touch.refl _ _).drewN _ | exact ((Touch.refl _ _).drewN _).drewN _)).mono ?_
          rintro e w7 ⟨rfl, rfl⟩
          try go_simp
          go_wp2_with fail
          refine (hKb _ (by first | exact (Touch.refl _ _).drewN _ | exact ((Touch.refl _ _).drewN _).drewN _)).mono ?_
          rintro e w7 ⟨rfl, rfl⟩
          try go_simp
          clear hKa hKb hk0x hkk2
          go_wp2_with fail
          have hTn : Touch [] w6 (w6.drewN n1) := (Touch.refl _ _).drewN _
          go_loopw [15] (fun v wr => ∃ i : Nat, i ≤ L1.length ∧ v = .int .i64 i ∧ Touch [] w6 wr) (fun v _ => L1.length - (intOf v).toNat)
          case atStart => exact ⟨0, by omega, rfl, by first | exact (Touch.refl _ _).drewN _ | exact ((Touch.refl _ _).drewN _).drewN _⟩
          case round =>
            obtain ⟨i, hi, rfl, hT⟩ := hrel
            by_cases hlt5 : i < L1.length
            · obtain ⟨b, off, rfl, hc⟩ := hEI (by omega)
              have hcz : ∀ w', Touch [] wr w' → w'.cell? ⟨b, off + i * 2, none⟩ = some (.int .i32 L1[i].1) := fun w' t => (hc w' (hT.trans t) i hlt5).1
              generalize L1[i].1 = c at hcz
              obtain ⟨Z, hZ⟩ : ∃ Z, Stg.tget L1 c = Z := ⟨_, rfl⟩
              have hga := fun W tt => hGa c Z W tt hZ
              have hgb := fun W tt => hGb c Z W tt hZ
              have hzz : (Z != Z) = false := by simp
              clear hZ hc hEI
              go_upto_region 17 with (fail)
              refine wp_region_noPanic ?_
              refine wp_region_held_drew (S := fun w' => Touch [] wr w') (by kernel_rfl) (Touch.drew (Touch.refl _ wr)) (fun hHeld => ?_)
              refine wpAnyH_take (i := 0) (oi := ?_) (v := ?_) ?_ ?_ ?_ ?_ (fun _ _ _ h => h) ?_ (by assumption) ?_
              rotate_left 2
              · (simp only [List.getElem?_toArray, List.getElem?_cons_succ, List.getElem?_cons_zero]; rfl)
              · kernel_rfl
              · kernel_rfl
              · kernel_rfl
              · refine Or.inl ⟨by rfl, ?_⟩
                intro w hSw
                (try dsimp only at hSw)
                go_simp
                try with_reducible rfl
              try simp only [Act.put, List.setIfInBounds_toArray, List.set_cons_zero, List.set_cons_succ]
              refine wpAnyH_take (i := 1) (oi := ?_) (v := ?_) ?_ ?_ ?_ ?_ (fun _ _ _ h => h) ?_ (by assumption) ?_
              rotate_left 2
              · (simp only [List.getElem?_toArray, List.getElem?_cons_succ, List.getElem?_cons_zero]; rfl)
              · kernel_rfl
              · kernel_rfl
              · kernel_rfl
              · refine Or.inl ⟨by rfl, ?_⟩
                intro w hSw
                (try dsimp only at hSw)
                go_simp
                try with_reducible rfl
              try simp only [Act.put, List.setIfInBounds_toArray, List.set_cons_zero, List.set_cons_succ]
              refine wpAnyH_take (i := 2) (oi := ?_) (v := ?_) ?_ ?_ ?_ ?_ (fun _ _ _ h => h) ?_ (by assumption) ?_
              rotate_left 2
              · (simp only [List.getElem?_toArray, List.getElem?_cons_succ, List.getElem?_cons_zero]; rfl)
              · kernel_rfl
              · kernel_rfl
              · kernel_rfl
              · refine Or.inl ⟨by rfl, ?_⟩
                intro w hSw
                (try dsimp only at hSw)
                go_simp
                try with_reducible rfl
              try simp only [Act.put, List.setIfInBounds_toArray, List.set_cons_zero, List.set_cons_succ]
              refine wpAnyH_take (i := 3) (oi := ?_) (v := ?_) ?_ ?_ ?_ ?_ (fun _ _ _ h => h) ?_ (by assumption) ?_
              rotate_left 2
              · (simp only [List.getElem?_toArray, List.getElem?_cons_succ, List.getElem?_cons_zero]; rfl)
              · kernel_rfl
              · kernel_rfl
              · kernel_rfl
              · refine Or.inl ⟨by rfl, ?_⟩
                intro w hSw
                (try dsimp only at hSw)
                go_simp
                try with_reducible rfl
              try simp only [Act.put, List.setIfInBounds_toArray, List.set_cons_zero, List.set_cons_succ]
              refine wpAnyH_take (i := 4) (oi := ?_) (v := ?_) ?_ ?_ ?_ ?_ (fun _ _ _ h => h) ?_ (by assumption) ?_
              rotate_left 2
              · (simp only [List.getElem?_toArray, List.getElem?_cons_succ, List.getElem?_cons_zero]; rfl)
              · kernel_rfl
              · kernel_rfl
              · kernel_rfl
              · refine Or.inl ⟨by rfl, ?_⟩
                intro w hSw
                (try dsimp only at hSw)
                go_simp
                try with_reducible rfl
              try simp only [Act.put, List.setIfInBounds_toArray, List.set_cons_zero, List.set_cons_succ]
              refine wpAnyH_take (i := 5) (oi := ?_) (v := ?_) ?_ ?_ ?_ ?_ (fun _ _ _ h => h) ?_ (by assumption) ?_
              rotate_left 2
              · (simp only [List.getElem?_toArray, List.getElem?_cons_succ, List.getElem?_cons_zero]; rfl)
              · kernel_rfl
              · kernel_rfl
              · kernel_rfl
              · refine Or.inl ⟨by rfl, ?_⟩
                intro w hSw
                (try dsimp only at hSw)
                go_simp
                try with_reducible rfl
              try simp only [Act.put, List.setIfInBounds_toArray, List.set_cons_zero, List.set_cons_succ]
              refine wpAnyH_take (i := 7) (oi := ?_) (v := ?_) ?_ ?_ ?_ ?_ (fun _ _ _ h => h) ?_ (by assumption) ?_
              rotate_left 2
              · (simp only [List.getElem?_toArray, List.getElem?_cons_succ, List.getElem?_cons_zero]; rfl)
              · kernel_rfl
              · kernel_rfl
              · kernel_rfl
              · refine Or.inl ⟨by rfl, ?_⟩
                intro w hSw
                (try dsimp only at hSw)
                go_simp
                try with_reducible rfl
              try simp only [Act.put, List.setIfInBounds_toArray, List.set_cons_zero, List.set_cons_succ]
              refine wpAnyH_take (i := 8) (oi := ?_) (v := ?_) ?_ ?_ ?_ ?_ (fun _ _ _ h => h) ?_ (by assumption) ?_
              rotate_left 2
              · (simp only [List.getElem?_toArray, List.getElem?_cons_succ, List.getElem?_cons_zero]; rfl)
              · kernel_rfl
              · kernel_rfl
              · kernel_rfl
              · refine Or.inl ⟨by rfl, ?_⟩
                intro w hSw
                (try dsimp only at hSw)
                go_simp
                try with_reducible rfl
              try simp only [Act.put, List.setIfInBounds_toArray, List.set_cons_zero, List.set_cons_succ]
              refine wpAnyH_take (i := 9) (oi := ?_) (v := ?_) ?_ ?_ ?_ ?_ (fun _ _ _ h => h) ?_ (by assumption) ?_
              rotate_left 2
              · (simp only [List.getElem?_toArray, List.getElem?_cons_succ, List.getElem?_cons_zero]; rfl)
              · kernel_rfl
              · kernel_rfl
              · kernel_rfl
              · refine Or.inl ⟨by rfl, ?_⟩
                intro w hSw
                (try dsimp only at hSw)
                go_simp
                try with_reducible rfl
              try simp only [Act.put, List.setIfInBounds_toArray, List.set_cons_zero, List.set_cons_succ]
              refine wpAnyH_take (i := 10) (oi := ?_) (v := ?_) ?_ ?_ ?_ ?_ (fun _ _ _ h => h) ?_ (by assumption) ?_
              rotate_left 2
              · (simp only [List.getElem?_toArray, List.getElem?_cons_succ, List.getElem?_cons_zero]; rfl)
              · kernel_rfl
              · kernel_rfl
              · kernel_rfl
              · refine Or.inl ⟨by rfl, ?_⟩
                intro w hSw
                (try dsimp only at hSw)
                go_simp
                try with_reducible rfl
              try simp only [Act.put, List.setIfInBounds_toArray, List.set_cons_zero, List.set_cons_succ]
              refine wpAnyH_take (i := 11) (oi := ?_) (v := ?_) ?_ ?_ ?_ ?_ (fun _ _ _ h => h) ?_ (by assumption) ?_
              rotate_left 2
              · (simp only [List.getElem?_toArray, List.getElem?_cons_succ, List.getElem?_cons_zero]; rfl)
              · kernel_rfl
              · kernel_rfl
              · kernel_rfl
              · refine Or.inl ⟨by rfl, ?_⟩
                intro w hSw
                (try dsimp only at hSw)
                go_simp
                try with_reducible rfl
              try simp only [Act.put, List.setIfInBounds_toArray, List.set_cons_zero, List.set_cons_succ]
              refine wpAnyH_take (i := 12) (oi := ?_) (v := ?_) ?_ ?_ ?_ ?_ (fun _ _ _ h => h) ?_ (by assumption) ?_
              rotate_left 2
              · (simp only [List.getElem?_toArray, List.getElem?_cons_succ, List.getElem?_cons_zero]; rfl)
              · kernel_rfl
              · kernel_rfl
              · kernel_rfl
              · refine Or.inl ⟨by rfl, ?_⟩
                intro w hSw
                (try dsimp only at hSw)
                go_simp
                try with_reducible rfl
              try simp only [Act.put, List.setIfInBounds_toArray, List.set_cons_zero, List.set_cons_succ]
              refine wpAnyH_ready (rs := [6]) (by kernel_rfl) (by simp) ?_
              refine AllReadyH.cons (o := ?_) ?_ (fun K hK => ?_) AllReadyH.nil
              rotate_left
              · (simp only [List.getElem?_toArray, List.getElem?_cons_succ, List.getElem?_cons_zero]; rfl)
              go_simp
              refine (hga _ (hT.trans (by first | assumption | exact (Touch.refl _ _).drewN _ | exact (Touch.refl _ _).drew))).mono ?_
              rintro e w9 ⟨rfl, n9, rfl⟩
              refine hK.out _ _ (by first | exact Touch.drewN (by assumption) _ | exact ((Touch.refl _ _).drewN _).drewN _ | exact (Touch.refl _ _).drewN _) (fun hHeld => ?_)
              clear hK K
              try simp only [Act.put, List.setIfInBounds_toArray, List.set_cons_zero, List.set_cons_succ]
              refine wpAnyH_ready (rs := [13]) (by kernel_rfl) (by simp) ?_
              refine AllReadyH.cons (o := ?_) ?_ (fun K hK => ?_) AllReadyH.nil
              rotate_left
              · (simp only [List.getElem?_toArray, List.getElem?_cons_succ, List.getElem?_cons_zero]; rfl)
              go_simp
              refine (hgb _ (hT.trans (by first | assumption | exact (Touch.refl _ _).drewN _ | exact (Touch.refl _ _).drew))).mono ?_
              rintro e w9 ⟨rfl, n9, rfl⟩
              refine hK.out _ _ (by first | exact Touch.drewN (by assumption) _ | exact ((Touch.refl _ _).drewN _).drewN _ | exact (Touch.refl _ _).drewN _) (fun hHeld => ?_)
              clear hK K
              try simp only [Act.put, List.setIfInBounds_toArray, List.set_cons_zero, List.set_cons_succ]
              refine wpAnyH_take (i := 14) (oi := ?_) (v := ?_) ?_ ?_ ?_ ?_ (fun _ _ _ h => h) ?_ (by first | assumption | exact (Touch.refl _ _).drewN _ | exact (Touch.refl _ _).drew) ?_
              rotate_left 2
              · (simp only [List.getElem?_toArray, List.getElem?_cons_succ, List.getElem?_cons_zero]; rfl)
              · kernel_rfl
              · kernel_rfl
              · kernel_rfl
              · refine Or.inl ⟨by rfl, ?_⟩
                intro w hSw
                (try dsimp only at hSw)
                go_simp
                try with_reducible rfl
              try simp only [Act.put, List.setIfInBounds_toArray, List.set_cons_zero, List.set_cons_succ]
              refine wpAnyH_done (by kernel_rfl) ?_ _
              refine NoPanic.normal ?_
              go_wp2
              exact ⟨⟨i + 1, hlt5, by go_num, hT.trans (by first | assumption | exact (Touch.refl _ _).drewN _ | exact (Touch.refl _ _).drew)⟩, by simp [intOf]; omega⟩
            · clear hEI hGa hGb
              go_wp2_with fail
              refine (awake04 _).mono ?_
              rintro e w9 ⟨rfl, ht9⟩
              try go_simp
              go_wp2
              (try simp only [Exit.inBlock, Exit.then])
              refine hQ_.ret (results_tmp rfl _ _ _) rfl ?_
              exact ⟨rfl, (hTf.trans hT).trans ht9⟩
      · clear hlt
        obtain ⟨L1, hL1⟩ : ∃ L1, L1 = L ++ [((kk : Int), (1000 : Int))] := ⟨_, rfl⟩
        obtain ⟨L2, hL2⟩ : ∃ L2, L2 = pre ++ L ++ [((kk : Int), (1000 : Int))] := ⟨_, rfl⟩
        rw [← hL1, ← hL2] at hEx hkx
        rw [← hL1] at hk0x
        have hl1x : Box (L1.length = L.length + 1) := ⟨by rw [hL1, List.length_append]; rfl⟩
        have hl2x : Box (L2.length = 3 + L.length + 1) := ⟨by rw [hL2, List.length_append, List.length_append, hprl]; rfl⟩
        have hok1 : EntsOk L1 := fun e he => by
          rw [hL1, List.mem_append, List.mem_singleton] at he
          rcases he with he | rfl
          · exact hok e he
          · exact ⟨kw, show (Lit.int .i64 1000).wf = true by decide⟩
        have hok2 : EntsOk L2 := fun e he => by
          rw [hL2, List.mem_append, List.mem_append, List.mem_singleton] at he
          rcases he with (he | he) | rfl
          · rw [hpre.out] at he
            simp only [List.mem_cons, List.not_mem_nil, or_false] at he
            rcases he with rfl | rfl | rfl
            · exact ⟨kw, w2⟩
            · exact ⟨by decide, by decide⟩
            · exact ⟨by decide, by decide⟩
          · exact hok e he
          · exact ⟨kw, show (Lit.int .i64 1000).wf = true by decide⟩
        replace hL1 := Box.mk hL1
        replace hL2 := Box.mk hL2
        go_upto_region 10 with (fail)
        go_cut [7, 8] (fun v7 v8 wx => ∃ (gA gB : Option Nat) (A1 : Option Addr) (C1 : Nat) (A2 : Option Addr) (C2 : Nat), v7 = .slice A1 L1.length C1 ∧ v8 = .slice A2 L2.length C2 ∧ SlAt wx 31 2 (.slice A1 L1.length C1) L1.length (entsV L1) gA ∧ SlAt wx 31 2 (.slice A2 L2.length C2) L2.length (entsV L2) gB ∧ Touch [] w wx)
        case first =>
          go_upto_region 10 with (fail)
          have hE := alloc_new wr (.cells #[.int .i32 (kk : Int), .int .i64 1000] 31)
          have hTW := hT.alloc (.cells #[.int .i32 (kk : Int), .int .i64 1000] 31)
          have hbs : w.heap.size ≤ (wr.alloc (.cells #[.int .i32 (kk : Int), .int .i64 1000] 31)).heap.size := hTW.size
          have hAl : ∀ k, gA = some k → k < wr.heap.size := fun k hk => hA.lt hk
          have hBl : ∀ k, gB = some k → k < wr.heap.size := fun k hk => hB.lt hk
          replace hA := hA.keep ((Touch.refl [] wr).alloc (.cells #[.int .i32 (kk : Int), .int .i64 1000] 31)) (by simp)
          replace hB := hB.keep ((Touch.refl [] wr).alloc (.cells #[.int .i32 (kk : Int), .int .i64 1000] 31)) (by simp)
          generalize wr.alloc (.cells #[.int .i32 (kk : Int), .int .i64 1000] 31) = W at hE hTW hbs hA hB ⊢
          have hcz : ∀ w', Touch (gA.toList ++ gB.toList) W w' → ∀ j, w'.cell? ⟨wr.heap.size, j, none⟩ = (#[.int .i32 (kk : Int), .int .i64 1000] : Array Value)[j]? := fun w' t => cell_at (t.keep hE (by
            intro q
            rcases List.mem_append.1 q with q | q
            · have := hAl _ (by simpa using q); omega
            · have := hBl _ (by simpa using q); omega))
          clear hE
          refine wp_region_noPanic ?_
          refine wp_region_held_drew (S := fun w' => Touch (gA.toList ++ gB.toList) W w') (by kernel_rfl) (Touch.drew (Touch.refl _ W)) (fun hHeld => ?_)
          refine wpAnyH_take (i := 0) (oi := ?_) (v := ?_) ?_ ?_ ?_ ?_ (fun _ _ _ h => h) ?_ (by assumption) ?_
          rotate_left 2
          · (simp only [List.getElem?_toArray, List.getElem?_cons_succ, List.getElem?_cons_zero]; rfl)
          · kernel_rfl
          · kernel_rfl
          · kernel_rfl
          · refine Or.inl ⟨by rfl, ?_⟩
            intro w hSw
            (try dsimp only at hSw)
            go_simp
            try with_reducible rfl
          try simp only [Act.put, List.setIfInBounds_toArray, List.set_cons_zero, List.set_cons_succ]
          refine wpAnyH_take (i := 1) (oi := ?_) (v := ?_) ?_ ?_ ?_ ?_ (fun _ _ _ h => h) ?_ (by assumption) ?_
          rotate_left 2
          · (simp only [List.getElem?_toArray, List.getElem?_cons_succ, List.getElem?_cons_zero]; rfl)
          · kernel_rfl
          · kernel_rfl
          · kernel_rfl
          · refine Or.inl ⟨by rfl, ?_⟩
            intro w hSw
            (try dsimp only at hSw)
            go_simp
            try with_reducible rfl
          try simp only [Act.put, List.setIfInBounds_toArray, List.set_cons_zero, List.set_cons_succ]
          refine wpAnyH_take (i := 4) (oi := ?_) (v := ?_) ?_ ?_ ?_ ?_ (fun _ _ _ h => h) ?_ (by assumption) ?_
          rotate_left 2
          · (simp only [List.getElem?_toArray, List.getElem?_cons_succ, List.getElem?_cons_zero]; rfl)
          · kernel_rfl
          · kernel_rfl
          · kernel_rfl
          · refine Or.inl ⟨by rfl, ?_⟩
            intro w hSw
            (try dsimp only at hSw)
            go_simp
            try with_reducible rfl
          try simp only [Act.put, List.setIfInBounds_toArray, List.set_cons_zero, List.set_cons_succ]
          refine wpAnyH_take (i := 5) (oi := ?_) (v := ?_) ?_ ?_ ?_ ?_ (fun _ _ _ h => h) ?_ (by assumption) ?_
          rotate_left 2
          · (simp only [List.getElem?_toArray, List.getElem?_cons_succ, List.getElem?_cons_zero]; rfl)
          · kernel_rfl
          · kernel_rfl
          · kernel_rfl
          · refine Or.inl ⟨by rfl, ?_⟩
            intro w hSw
            (try dsimp only at hSw)
            go_simp
            try with_reducible rfl
          try simp only [Act.put, List.setIfInBounds_toArray, List.set_cons_zero, List.set_cons_succ]
          refine wpAnyH_ready (rs := [2, 6]) (by kernel_rfl) (by simp) ?_
          refine AllReadyH.cons (o := ?_) ?_ (fun K hK => ?_) ?_
          rotate_left
          · (simp only [List.getElem?_toArray, List.getElem?_cons_succ, List.getElem?_cons_zero]; rfl)
          · go_simp
            refine hK.out _ _ (Touch.alloc (by assumption) _) (fun hHeld => ?_)
            clear hK K
            try simp only [Act.put, List.setIfInBounds_toArray, List.set_cons_zero, List.set_cons_succ]
            refine wpAnyH_ready (rs := [3, 6]) (by kernel_rfl) (by simp) ?_
            refine AllReadyH.cons (o := ?_) ?_ (fun K hK => ?_) ?_
            rotate_left
            · (simp only [List.getElem?_toArray, List.getElem?_cons_succ, List.getElem?_cons_zero]; rfl)
            · refine step_append_sl sliceT_ent rfl (.tmp 57) (.tmp 59) rfl rfl (hA.keep ((Touch.refl [] W).drew.alloc _) (by simp)) rfl (srcAt_block (m := 1) (alloc_new _ _) rfl (ents_one _ _)) (by omega) ?_
              intro ad2 c2 w4 g2 hs4 ht4 hn4
              have hB4 := hB.keep (Touch.step (F := gA.toList) ((Touch.refl gA.toList W).drew.alloc _) ht4 (fun x hx => .inl hx)) (fun k hk q => hd k (by simpa using q) hk)
              refine hK.out _ _ (Touch.step (F := gA.toList ++ gB.toList) (by assumption) ht4 (fun x hx => .inl (List.mem_append_left _ hx))) (fun hHeld => ?_)
              clear hK K
              try simp only [Act.put, List.setIfInBounds_toArray, List.set_cons_zero, List.set_cons_succ]
              refine wpAnyH_ready (rs := [6]) (by kernel_rfl) (by simp) ?_
              refine AllReadyH.cons (o := ?_) ?_ (fun K hK => ?_) AllReadyH.nil
              rotate_left
              · (simp only [List.getElem?_toArray, List.getElem?_cons_succ, List.getElem?_cons_zero]; rfl)
              go_simp
              refine hK.out _ _ (Touch.alloc (by assumption) _) (fun hHeld => ?_)
              clear hK K
              try simp only [Act.put, List.setIfInBounds_toArray, List.set_cons_zero, List.set_cons_succ]
              refine wpAnyH_ready (rs := [7]) (by kernel_rfl) (by simp) ?_
              refine AllReadyH.cons (o := ?_) ?_ (fun K hK => ?_) AllReadyH.nil
              rotate_left
              · (simp only [List.getElem?_toArray, List.getElem?_cons_succ, List.getElem?_cons_zero]; rfl)
              refine step_append_sl sliceT_ent rfl (.tmp 61) (.tmp 63) rfl rfl (hB4.keep ((Touch.refl [] w4).alloc _) (by simp)) rfl (srcAt_block (m := 1) (alloc_new _ _) rfl (ents_one _ _)) (by omega) ?_
              intro ad3 c3 w6 g3 hs6 ht6 hn6
              obtain ⟨k1, k2, k3, k4, k5⟩ := two_fin hA hB hd ((Touch.refl [] W).drew.alloc _) hs4 ht4 hn4 ((Touch.refl [] w4).alloc _) ht6 hn6 bA bB hbs
              refine hK.out _ _ k5 (fun hHeld => ?_)
              clear hK K
              try simp only [Act.put, List.setIfInBounds_toArray, List.set_cons_zero, List.set_cons_succ]
              refine wpAnyH_take (i := 8) (oi := ?_) (v := ?_) ?_ ?_ ?_ ?_ (fun _ _ _ h => h) ?_ (by assumption) ?_
              rotate_left 2
              · (simp only [List.getElem?_toArray, List.getElem?_cons_succ, List.getElem?_cons_zero]; rfl)
              · kernel_rfl
              · kernel_rfl
              · kernel_rfl
              · refine Or.inl ⟨by rfl, ?_⟩
                intro w hSw
                (try dsimp only at hSw)
                go_simp
                try with_reducible rfl
              try simp only [Act.put, List.setIfInBounds_toArray, List.set_cons_zero, List.set_cons_succ]
              refine wpAnyH_take (i := 9) (oi := ?_) (v := ?_) ?_ ?_ ?_ ?_ (fun _ _ _ h => h) ?_ (by assumption) ?_
              rotate_left 2
              · (simp only [List.getElem?_toArray, List.getElem?_cons_succ, List.getElem?_cons_zero]; rfl)
              · kernel_rfl
              · kernel_rfl
              · kernel_rfl
              · refine Or.inl ⟨by rfl, ?_⟩
                intro w hSw
                (try dsimp only at hSw)
                go_simp
                try with_reducible rfl
              try simp only [Act.put, List.setIfInBounds_toArray, List.set_cons_zero, List.set_cons_succ]
              refine wpAnyH_done (by kernel_rfl) ?_ _
              refine NoPanic.normal ?_
              go_wp2
              go_meet
              have hT6 : Touch [] w w6 := Touch.step hTW k5 (fun y hy => .inr (by
                rcases List.mem_append.1 hy with q | q
                · exact bA y (by simpa using q)
                · exact bB y (by simpa using q)))
              refine ⟨g2, g3, ad2, c2, ad3, c3, by rw [hl1x.out], by rw [hl2x.out], ?_, ?_, hT6⟩
              · rw [hl1x.out, hL1.out, entsV_app]
                exact k1
              · rw [hl2x.out, hL2.out, entsV_app]
                exact hs6
            · refine AllReadyH.cons (o := ?_) ?_ (fun K hK => ?_) AllReadyH.nil
              rotate_left
              · (simp only [List.getElem?_toArray, List.getElem?_cons_succ, List.getElem?_cons_zero]; rfl)
              go_simp
              refine hK.out _ _ (Touch.alloc (by assumption) _) (fun hHeld => ?_)
              clear hK K
              try simp only [Act.put, List.setIfInBounds_toArray, List.set_cons_zero, List.set_cons_succ]
              refine wpAnyH_ready (rs := [3]) (by kernel_rfl) (by simp) ?_
              refine AllReadyH.cons (o := ?_) ?_ (fun K hK => ?_) AllReadyH.nil
              rotate_left
              · (simp only [List.getElem?_toArray, List.getElem?_cons_succ, List.getElem?_cons_zero]; rfl)
              refine step_append_sl sliceT_ent rfl (.tmp 57) (.tmp 59) rfl rfl (hA.keep (((Touch.refl [] W).drew.alloc _).alloc _) (by simp)) rfl (srcAt_block (m := 1) (alloc_old (alloc_new _ _) _) rfl (ents_one _ _)) (by omega) ?_
              intro ad2 c2 w4 g2 hs4 ht4 hn4
              have hB4 := hB.keep (Touch.step (F := gA.toList) (((Touch.refl gA.toList W).drew.alloc _).alloc _) ht4 (fun x hx => .inl hx)) (fun k hk q => hd k (by simpa using q) hk)
              refine hK.out _ _ (Touch.step (F := gA.toList ++ gB.toList) (by assumption) ht4 (fun x hx => .inl (List.mem_append_left _ hx))) (fun hHeld => ?_)
              clear hK K
              try simp only [Act.put, List.setIfInBounds_toArray, List.set_cons_zero, List.set_cons_succ]
              refine wpAnyH_ready (rs := [7]) (by kernel_rfl) (by simp) ?_
              refine AllReadyH.cons (o := ?_) ?_ (fun K hK => ?_) AllReadyH.nil
              rotate_left
              · (simp only [List.getElem?_toArray, List.getElem?_cons_succ, List.getElem?_cons_zero]; rfl)
              refine step_append_sl sliceT_ent rfl (.tmp 61) (.tmp 63) rfl rfl (hB4.keep (Touch.refl [] w4) (by simp)) rfl (srcAt_block (m := 1) (ht4.keep (heap_alloc2_new _ _ _) (own_notin hA (by simp))) rfl (ents_one _ _)) (by omega) ?_
              intro ad3 c3 w6 g3 hs6 ht6 hn6
              obtain ⟨k1, k2, k3, k4, k5⟩ := two_fin hA hB hd (((Touch.refl [] W).drew.alloc _).alloc _) hs4 ht4 hn4 (Touch.refl [] w4) ht6 hn6 bA bB hbs
              refine hK.out _ _ k5 (fun hHeld => ?_)
              clear hK K
              try simp only [Act.put, List.setIfInBounds_toArray, List.set_cons_zero, List.set_cons_succ]
              refine wpAnyH_take (i := 8) (oi := ?_) (v := ?_) ?_ ?_ ?_ ?_ (fun _ _ _ h => h) ?_ (by assumption) ?_
              rotate_left 2
              · (simp only [List.getElem?_toArray, List.getElem?_cons_succ, List.getElem?_cons_zero]; rfl)
              · kernel_rfl
              · kernel_rfl
              · kernel_rfl
              · refine Or.inl ⟨by rfl, ?_⟩
                intro w hSw
                (try dsimp only at hSw)
                go_simp
                try with_reducible rfl
              try simp only [Act.put, List.setIfInBounds_toArray, List.set_cons_zero, List.set_cons_succ]
              refine wpAnyH_take (i := 9) (oi := ?_) (v := ?_) ?_ ?_ ?_ ?_ (fun _ _ _ h => h) ?_ (by assumption) ?_
              rotate_left 2
              · (simp only [List.getElem?_toArray, List.getElem?_cons_succ, List.getElem?_cons_zero]; rfl)
              · kernel_rfl
              · kernel_rfl
              · kernel_rfl
              · refine Or.inl ⟨by rfl, ?_⟩
                intro w hSw
                (try dsimp only at hSw)
                go_simp
                try with_reducible rfl
              try simp only [Act.put, List.setIfInBounds_toArray, List.set_cons_zero, List.set_cons_succ]
              refine wpAnyH_done (by kernel_rfl) ?_ _
              refine NoPanic.normal ?_
              go_wp2
              go_meet
              have hT6 : Touch [] w w6 := Touch.step hTW k5 (fun y hy => .inr (by
                rcases List.mem_append.1 hy with q | q
                · exact bA y (by simpa using q)
                · exact bB y (by simpa using q)))
              refine ⟨g2, g3, ad2, c2, ad3, c3, by rw [hl1x.out], by rw [hl2x.out], ?_, ?_, hT6⟩
              · rw [hl1x.out, hL1.out, entsV_app]
                exact k1
              · rw [hl2x.out, hL2.out, entsV_app]
                exact hs6
          · refine AllReadyH.cons (o := ?_) ?_ (fun K hK => ?_) AllReadyH.nil
            rotate_left
            · (simp only [List.getElem?_toArray, List.getElem?_cons_succ, List.getElem?_cons_zero]; rfl)
            go_simp
            refine hK.out _ _ (Touch.alloc (by assumption) _) (fun hHeld => ?_)
            clear hK K
            try simp only [Act.put, List.setIfInBounds_toArray, List.set_cons_zero, List.set_cons_succ]
            refine wpAnyH_ready (rs := [2]) (by kernel_rfl) (by simp) ?_
            refine AllReadyH.cons (o := ?_) ?_ (fun K hK => ?_) AllReadyH.nil
            rotate_left
            · (simp only [List.getElem?_toArray, List.getElem?_cons_succ, List.getElem?_cons_zero]; rfl)
            go_simp
            refine hK.out _ _ (Touch.alloc (by assumption) _) (fun hHeld => ?_)
            clear hK K
            try simp only [Act.put, List.setIfInBounds_toArray, List.set_cons_zero, List.set_cons_succ]
            refine wpAnyH_ready (rs := [3]) (by kernel_rfl) (by simp) ?_
            refine AllReadyH.cons (o := ?_) ?_ (fun K hK => ?_) AllReadyH.nil
            rotate_left
            · (simp only [List.getElem?_toArray, List.getElem?_cons_succ, List.getElem?_cons_zero]; rfl)
            refine step_append_sl sliceT_ent rfl (.tmp 57) (.tmp 59) rfl rfl (hA.keep (((Touch.refl [] W).drew.alloc _).alloc _) (by simp)) rfl (srcAt_block (m := 1) (heap_alloc2_new _ _ _) rfl (ents_one _ _)) (by omega) ?_
            intro ad2 c2 w4 g2 hs4 ht4 hn4
            have hB4 := hB.keep (Touch.step (F := gA.toList) (((Touch.refl gA.toList W).drew.alloc _).alloc _) ht4 (fun x hx => .inl hx)) (fun k hk q => hd k (by simpa using q) hk)
            refine hK.out _ _ (Touch.step (F := gA.toList ++ gB.toList) (by assumption) ht4 (fun x hx => .inl (List.mem_append_left _ hx))) (fun hHeld => ?_)
            clear hK K
            try simp only [Act.put, List.setIfInBounds_toArray, List.set_cons_zero, List.set_cons_succ]
            refine wpAnyH_ready (rs := [7]) (by kernel_rfl) (by simp) ?_
            refine AllReadyH.cons (o := ?_) ?_ (fun K hK => ?_) AllReadyH.nil
            rotate_left
            · (simp only [List.getElem?_toArray, List.getElem?_cons_succ, List.getElem?_cons_zero]; rfl)
            refine step_append_sl sliceT_ent rfl (.tmp 61) (.tmp 63) rfl rfl (hB4.keep (Touch.refl [] w4) (by simp)) rfl (srcAt_block (m := 1) (ht4.keep (alloc_old (alloc_new _ _) _) (own_notin hA (by simp))) rfl (ents_one _ _)) (by omega) ?_
            intro ad3 c3 w6 g3 hs6 ht6 hn6
            obtain ⟨k1, k2, k3, k4, k5⟩ := two_fin hA hB hd (((Touch.refl [] W).drew.alloc _).alloc _) hs4 ht4 hn4 (Touch.refl [] w4) ht6 hn6 bA bB hbs
            refine hK.out _ _ k5 (fun hHeld => ?_)
            clear hK K
            try simp only [Act.put, List.setIfInBounds_toArray, List.set_cons_zero, List.set_cons_succ]
            refine wpAnyH_take (i := 8) (oi := ?_) (v := ?_) ?_ ?_ ?_ ?_ (fun _ _ _ h => h) ?_ (by assumption) ?_
            rotate_left 2
            · (simp only [List.getElem?_toArray, List.getElem?_cons_succ, List.getElem?_cons_zero]; rfl)
            · kernel_rfl
            · kernel_rfl
            · kernel_rfl
            · refine Or.inl ⟨by rfl, ?_⟩
              intro w hSw
              (try dsimp only at hSw)
              go_simp
              try with_reducible rfl
            try simp only [Act.put, List.setIfInBounds_toArray, List.set_cons_zero, List.set_cons_succ]
            refine wpAnyH_take (i := 9) (oi := ?_) (v := ?_) ?_ ?_ ?_ ?_ (fun _ _ _ h => h) ?_ (by assumption) ?_
            rotate_left 2
            · (simp only [List.getElem?_toArray, List.getElem?_cons_succ, List.getElem?_cons_zero]; rfl)
            · kernel_rfl
            · kernel_rfl
            · kernel_rfl
            · refine Or.inl ⟨by rfl, ?_⟩
              intro w hSw
              (try dsimp only at hSw)
              go_simp
              try with_reducible rfl
            try simp only [Act.put, List.setIfInBounds_toArray, List.set_cons_zero, List.set_cons_succ]
            refine wpAnyH_done (by kernel_rfl) ?_ _
            refine NoPanic.normal ?_
            go_wp2
            go_meet
            have hT6 : Touch [] w w6 := Touch.step hTW k5 (fun y hy => .inr (by
              rcases List.mem_append.1 hy with q | q
              · exact bA y (by simpa using q)
              · exact bB y (by simpa using q)))
            refine ⟨g2, g3, ad2, c2, ad3, c3, by rw [hl1x.out], by rw [hl2x.out], ?_, ?_, hT6⟩
            · rw [hl1x.out, hL1.out, entsV_app]
              exact k1
            · rw [hl2x.out, hL2.out, entsV_app]
              exact hs6
        case rest =>
          obtain ⟨gA5, gB5, A15, C15, A25, C25, rfl, rfl, hA5, hB5, hT5⟩ := hcut
          clear hA hB hd bA bB hT hl1x hl2x hL1 hL2 hok zc2
          obtain ⟨A9, C9, hv9, hle1, hmx1, _⟩ := hA5.form
          injection hv9 with v1 v2 v3
          subst v1; subst v3
          obtain ⟨A9, C9, hv9, hle2, hmx2, _⟩ := hB5.form
          injection hv9 with v1 v2 v3
          subst v1; subst v3
          have hB1 := build_any _ _ L1 wc (entsIn_of hA5) hok1 hle1 hmx1
          go_wp2_with fail
          refine hB1.mono ?_
          rintro e w5 ⟨ta, rfl, hts, hta, ht5⟩
          try go_simp
          have hB2 := build_any _ _ L2 w5 (entsIn_of (hB5.keep ht5 (fun _ _ => by simp))) hok2 hle2 hmx2
          clear hB1
          go_wp2_with fail
          refine hB2.mono ?_
          rintro e w6 ⟨tb, rfl, hts2, htb, ht6⟩
          try go_simp
          have hEI := entsIn_of ((hA5.keep ht5 (fun _ _ => by simp)).keep ht6 (fun _ _ => by simp))
          have hTf := (hT5.trans ht5).trans ht6
          replace hta := hta.keep ht6
          have hGa : ∀ (c z : Int) W, Touch [] w6 W → Stg.tget L1 c = z → Calls Try.prog 9 #[.pointer (some ⟨ta, 0, none⟩), .int .i32 c] W fun e w' => e = .returned (.int .i64 z) ∧ ∃ n, w' = W.drewN n := fun c z W tt hz => by rw [← hz]; exact tget_any ta L1 c W (hta.keep tt)
          have hGb : ∀ (c z : Int) W, Touch [] w6 W → Stg.tget L1 c = z → Calls Try.prog 9 #[.pointer (some ⟨tb, 0, none⟩), .int .i32 c] W fun e w' => e = .returned (.int .i64 z) ∧ ∃ n, w' = W.drewN n := fun c z W tt hz => by rw [← hz, hEx.out c]; exact tget_any tb L2 c W (htb.keep tt)
          have hKa : ∀ W, Touch [] w6 W → Calls Try.prog 11 #[.pointer (some ⟨ta, 0, none⟩)] W fun e w' => e = .returned (.int .i64 (Stg.kinds L1)) ∧ W = w' := fun W tt => blocks_any ta L1 W (hta.keep tt)
          have hKb : ∀ W, Touch [] w6 W → Calls Try.prog 11 #[.pointer (some ⟨tb, 0, none⟩)] W fun e w' => e = .returned (.int .i64 (Stg.kinds L1)) ∧ W = w' := fun W tt => by rw [hkx.out]; exact blocks_any tb L2 W (htb.keep tt)
          clear hB2 hA5 hB5 hT5 ht5 ht6 hts hts2 hok1 hok2 hEx hkx hta htb
          generalize Stg.kinds L1 = KK at hKa hKb
          have hkk2 : ((KK : Int) != (KK : Int)) = false := by simp
          go_wp2_with fail
          refine (hGa kk 1000 _ (Touch.refl _ _) hk0x.out).mono ?_
          rintro e w7 ⟨rfl, n1, rfl⟩
          try go_simp
          go_wp2_with fail
          refine (hGb kk 1000 _ ((Touch.refl _ _).drewN _) hk0x.out).mono ?_
          rintro e w7 ⟨rfl, n2, rfl⟩
          try go_simp
          go_wp2_with fail
          refine (hKa _ (by first | exact (Touch.refl _ _).drewN _ | exact ((Touch.refl _ _).drewN _).drewN _)).mono ?_
          rintro e w7 ⟨rfl, rfl⟩
          try go_simp
          go_wp2_with fail
          refine (hKb _ (by first | exact (Touch.refl _ _).drewN _ | exact ((Touch.refl _ _).drewN _).drewN _)).mono ?_
          rintro e w7 ⟨rfl, rfl⟩
          try go_simp
          clear hKa hKb hk0x hkk2
          go_wp2_with fail
          have hTn : Touch [] w6 (w6.drewN n1) := (Touch.refl _ _).drewN _
          go_loopw [15] (fun v wr => ∃ i : Nat, i ≤ L1.length ∧ v = .int .i64 i ∧ Touch [] w6 wr) (fun v _ => L1.length - (intOf v).toNat)
          case atStart => exact ⟨0, by omega, rfl, by first | exact (Touch.refl _ _).drewN _ | exact ((Touch.refl _ _).drewN _).drewN _⟩
          case round =>
            obtain ⟨i, hi, rfl, hT⟩ := hrel
            by_cases hlt5 : i < L1.length
            · obtain ⟨b, off, rfl, hc⟩ := hEI (by omega)
              have hcz : ∀ w', Touch [] wr w' → w'.cell? ⟨b, off + i * 2, none⟩ = some (.int .i32 L1[i].1) := fun w' t => (hc w' (hT.trans t) i hlt5).1
              generalize L1[i].1 = c at hcz
              obtain ⟨Z, hZ⟩ : ∃ Z, Stg.tget L1 c = Z := ⟨_, rfl⟩
              have hga := fun W tt => hGa c Z W tt hZ
              have hgb := fun W tt => hGb c Z W tt hZ
              have hzz : (Z != Z) = false := by simp
              clear hZ hc hEI
              go_upto_region 17 with (fail)
              refine wp_region_noPanic ?_
              refine wp_region_held_drew (S := fun w' => Touch [] wr w') (by kernel_rfl) (Touch.drew (Touch.refl _ wr)) (fun hHeld => ?_)
              refine wpAnyH_take (i := 0) (oi := ?_) (v := ?_) ?_ ?_ ?_ ?_ (fun _ _ _ h => h) ?_ (by assumption) ?_
              rotate_left 2
              · (simp only [List.getElem?_toArray, List.getElem?_cons_succ, List.getElem?_cons_zero]; rfl)
              · kernel_rfl
              · kernel_rfl
              · kernel_rfl
              · refine Or.inl ⟨by rfl, ?_⟩
                intro w hSw
                (try dsimp only at hSw)
                go_simp
                try with_reducible rfl
              try simp only [Act.put, List.setIfInBounds_toArray, List.set_cons_zero, List.set_cons_succ]
              refine wpAnyH_take (i := 1) (oi := ?_) (v := ?_) ?_ ?_ ?_ ?_ (fun _ _ _ h => h) ?_ (by assumption) ?_
              rotate_left 2
              · (simp only [List.getElem?_toArray, List.getElem?_cons_succ, List.getElem?_cons_zero]; rfl)
              · kernel_rfl
              · kernel_rfl
              · kernel_rfl
              · refine Or.inl ⟨by rfl, ?_⟩
                intro w hSw
                (try dsimp only at hSw)
                go_simp
                try with_reducible rfl
              try simp only [Act.put, List.setIfInBounds_toArray, List.set_cons_zero, List.set_cons_succ]
              refine wpAnyH_take (i := 2) (oi := ?_) (v := ?_) ?_ ?_ ?_ ?_ (fun _ _ _ h => h) ?_ (by assumption) ?_
              rotate_left 2
              · (simp only [List.getElem?_toArray, List.getElem?_cons_succ, List.getElem?_cons_zero]; rfl)
              · kernel_rfl
              · kernel_rfl
              · kernel_rfl
              · refine Or.inl ⟨by rfl, ?_⟩
                intro w hSw
                (try dsimp only at hSw)
                go_simp
                try with_reducible rfl
              try simp only [Act.put, List.setIfInBounds_toArray, List.set_cons_zero, List.set_cons_succ]
              refine wpAnyH_take (i := 3) (oi := ?_) (v := ?_) ?_ ?_ ?_ ?_ (fun _ _ _ h => h) ?_ (by assumption) ?_
              rotate_left 2
              · (simp only [List.getElem?_toArray, List.getElem?_cons_succ, List.getElem?_cons_zero]; rfl)
              · kernel_rfl
              · kernel_rfl
              · kernel_rfl
              · refine Or.inl ⟨by rfl, ?_⟩
                intro w hSw
                (try dsimp only at hSw)
                go_simp
                try with_reducible rfl
              try simp only [Act.put, List.setIfInBounds_toArray, List.set_cons_zero, List.set_cons_succ]
              refine wpAnyH_take (i := 4) (oi := ?_) (v := ?_) ?_ ?_ ?_ ?_ (fun _ _ _ h => h) ?_ (by assumption) ?_
              rotate_left 2
              · (simp only [List.getElem?_toArray, List.getElem?_cons_succ, List.getElem?_cons_zero]; rfl)
              · kernel_rfl
              · kernel_rfl
              · kernel_rfl
              · refine Or.inl ⟨by rfl, ?_⟩
                intro w hSw
                (try dsimp only at hSw)
                go_simp
                try with_reducible rfl
              try simp only [Act.put, List.setIfInBounds_toArray, List.set_cons_zero, List.set_cons_succ]
              refine wpAnyH_take (i := 5) (oi := ?_) (v := ?_) ?_ ?_ ?_ ?_ (fun _ _ _ h => h) ?_ (by assumption) ?_
              rotate_left 2
              · (simp only [List.getElem?_toArray, List.getElem?_cons_succ, List.getElem?_cons_zero]; rfl)
              · kernel_rfl
              · kernel_rfl
              · kernel_rfl
              · refine Or.inl ⟨by rfl, ?_⟩
                intro w hSw
                (try dsimp only at hSw)
                go_simp
                try with_reducible rfl
              try simp only [Act.put, List.setIfInBounds_toArray, List.set_cons_zero, List.set_cons_succ]
              refine wpAnyH_take (i := 7) (oi := ?_) (v := ?_) ?_ ?_ ?_ ?_ (fun _ _ _ h => h) ?_ (by assumption) ?_
              rotate_left 2
              · (simp only [List.getElem?_toArray, List.getElem?_cons_succ, List.getElem?_cons_zero]; rfl)
              · kernel_rfl
              · kernel_rfl
              · kernel_rfl
              · refine Or.inl ⟨by rfl, ?_⟩
                intro w hSw
                (try dsimp only at hSw)
                go_simp
                try with_reducible rfl
              try simp only [Act.put, List.setIfInBounds_toArray, List.set_cons_zero, List.set_cons_succ]
              refine wpAnyH_take (i := 8) (oi := ?_) (v := ?_) ?_ ?_ ?_ ?_ (fun _ _ _ h => h) ?_ (by assumption) ?_
              rotate_left 2
              · (simp only [List.getElem?_toArray, List.getElem?_cons_succ, List.getElem?_cons_zero]; rfl)
              · kernel_rfl
              · kernel_rfl
              · kernel_rfl
              · refine Or.inl ⟨by rfl, ?_⟩
                intro w hSw
                (try dsimp only at hSw)
                go_simp
                try with_reducible rfl
              try simp only [Act.put, List.setIfInBounds_toArray, List.set_cons_zero, List.set_cons_succ]
              refine wpAnyH_take (i := 9) (oi := ?_) (v := ?_) ?_ ?_ ?_ ?_ (fun _ _ _ h => h) ?_ (by assumption) ?_
              rotate_left 2
              · (simp only [List.getElem?_toArray, List.getElem?_cons_succ, List.getElem?_cons_zero]; rfl)
              · kernel_rfl
              · kernel_rfl
              · kernel_rfl
              · refine Or.inl ⟨by rfl, ?_⟩
                intro w hSw
                (try dsimp only at hSw)
                go_simp
                try with_reducible rfl
              try simp only [Act.put, List.setIfInBounds_toArray, List.set_cons_zero, List.set_cons_succ]
              refine wpAnyH_take (i := 10) (oi := ?_) (v := ?_) ?_ ?_ ?_ ?_ (fun _ _ _ h => h) ?_ (by assumption) ?_
              rotate_left 2
              · (simp only [List.getElem?_toArray, List.getElem?_cons_succ, List.getElem?_cons_zero]; rfl)
              · kernel_rfl
              · kernel_rfl
              · kernel_rfl
              · refine Or.inl ⟨by rfl, ?_⟩
                intro w hSw
                (try dsimp only at hSw)
                go_simp
                try with_reducible rfl
              try simp only [Act.put, List.setIfInBounds_toArray, List.set_cons_zero, List.set_cons_succ]
              refine wpAnyH_take (i := 11) (oi := ?_) (v := ?_) ?_ ?_ ?_ ?_ (fun _ _ _ h => h) ?_ (by assumption) ?_
              rotate_left 2
              · (simp only [List.getElem?_toArray, List.getElem?_cons_succ, List.getElem?_cons_zero]; rfl)
              · kernel_rfl
              · kernel_rfl
              · kernel_rfl
              · refine Or.inl ⟨by rfl, ?_⟩
                intro w hSw
                (try dsimp only at hSw)
                go_simp
                try with_reducible rfl
              try simp only [Act.put, List.setIfInBounds_toArray, List.set_cons_zero, List.set_cons_succ]
              refine wpAnyH_take (i := 12) (oi := ?_) (v := ?_) ?_ ?_ ?_ ?_ (fun _ _ _ h => h) ?_ (by assumption) ?_
              rotate_left 2
              · (simp only [List.getElem?_toArray, List.getElem?_cons_succ, List.getElem?_cons_zero]; rfl)
              · kernel_rfl
              · kernel_rfl
              · kernel_rfl
              · refine Or.inl ⟨by rfl, ?_⟩
                intro w hSw
                (try dsimp only at hSw)
                go_simp
                try with_reducible rfl
              try simp only [Act.put, List.setIfInBounds_toArray, List.set_cons_zero, List.set_cons_succ]
              refine wpAnyH_ready (rs := [6]) (by kernel_rfl) (by simp) ?_
              refine AllReadyH.cons (o := ?_) ?_ (fun K hK => ?_) AllReadyH.nil
              rotate_left
              · (simp only [List.getElem?_toArray, List.getElem?_cons_succ, List.getElem?_cons_zero]; rfl)
              go_simp
              refine (hga _ (hT.trans (by first | assumption | exact (Touch.refl _ _).drewN _ | exact (Touch.refl _ _).drew))).mono ?_
              rintro e w9 ⟨rfl, n9, rfl⟩
              refine hK.out _ _ (by first | exact Touch.drewN (by assumption) _ | exact ((Touch.refl _ _).drewN _).drewN _ | exact (Touch.refl _ _).drewN _) (fun hHeld => ?_)
              clear hK K
              try simp only [Act.put, List.setIfInBounds_toArray, List.set_cons_zero, List.set_cons_succ]
              refine wpAnyH_ready (rs := [13]) (by kernel_rfl) (by simp) ?_
              refine AllReadyH.cons (o := ?_) ?_ (fun K hK => ?_) AllReadyH.nil
              rotate_left
              · (simp only [List.getElem?_toArray, List.getElem?_cons_succ, List.getElem?_cons_zero]; rfl)
              go_simp
              refine (hgb _ (hT.trans (by first | assumption | exact (Touch.refl _ _).drewN _ | exact (Touch.refl _ _).drew))).mono ?_
              rintro e w9 ⟨rfl, n9, rfl⟩
              refine hK.out _ _ (by first | exact Touch.drewN (by assumption) _ | exact ((Touch.refl _ _).drewN _).drewN _ | exact (Touch.refl _ _).drewN _) (fun hHeld => ?_)
              clear hK K
              try simp only [Act.put, List.setIfInBounds_toArray, List.set_cons_zero, List.set_cons_succ]
              refine wpAnyH_take (i := 14) (oi := ?_) (v := ?_) ?_ ?_ ?_ ?_ (fun _ _ _ h => h) ?_ (by first | assumption | exact (Touch.refl _ _).drewN _ | exact (Touch.refl _ _).drew) ?_
              rotate_left 2
              · (simp only [List.getElem?_toArray, List.getElem?_cons_succ, List.getElem?_cons_zero]; rfl)
              · kernel_rfl
              · kernel_rfl
              · kernel_rfl
              · refine Or.inl ⟨by rfl, ?_⟩
                intro w hSw
                (try dsimp only at hSw)
                go_simp
                try with_reducible rfl
              try simp only [Act.put, List.setIfInBounds_toArray, List.set_cons_zero, List.set_cons_succ]
              refine wpAnyH_done (by kernel_rfl) ?_ _
              refine NoPanic.normal ?_
              go_wp2
              exact ⟨⟨i + 1, hlt5, by go_num, hT.trans (by first | assumption | exact (Touch.refl _ _).drewN _ | exact (Touch.refl _ _).drew)⟩, by simp [intOf]; omega⟩
            · clear hEI hGa hGb
              go_wp2_with fail
              refine (awake04 _).mono ?_
              rintro e w9 ⟨rfl, ht9⟩
              try go_simp
              go_wp2
              (try simp only [Exit.inBlock, Exit.then])
              refine hQ_.ret (results_tmp rfl _ _ _) rfl ?_
              exact ⟨rfl, (hTf.trans hT).trans ht9⟩
end Go.Proofs.Ythbcgbmpicgjiaa
