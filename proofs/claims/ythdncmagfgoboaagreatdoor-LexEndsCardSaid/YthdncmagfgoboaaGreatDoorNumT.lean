/- The program's layer of numbers byte by byte: one byte more. -/
import Derived.Test.YthdncmagfgoboaaGreatDoorNumS
namespace Go.Proofs.YthdncmagfgoboaaGreatDoor
open Go.RowKit
set_option maxRecDepth 100000
set_option maxHeartbeats 4000000
set_option linter.unusedVariables false
set_option linter.unusedSimpArgs false

def bytesV (l : List UInt8) : List Value := l.map fun x => .int .u8 x.toNat
theorem bytesV_len (l : List UInt8) : (bytesV l).length = l.length := by unfold bytesV; simp
theorem bytesV_snoc (l : List UInt8) (x : UInt8) : bytesV (l ++ [x]) = bytesV l ++ [.int .u8 x.toNat] := by unfold bytesV; simp

/-- a number under way at b, with its text, whose block is g -/
structure NumF (w : World) (b : Nat) (l : List UInt8) (n : Num.St) (g : Option Nat) (tv : Value) : Prop where
  n : NumAt w b tv n
  s : SlAt w 5 1 tv l.length (bytesV l) g
  g : ∀ k, g = some k → k ≠ b

/-- what is told of one byte more -/
def PushPost (b : Nat) (l : List UInt8) (n : Num.St) (g : Option Nat) (x : UInt8) (w : World) (e : Ending) (w' : World) : Prop :=
  match Num.push n x.toNat with
  | .error c => e = .returned (.int .i64 c) ∧ (∃ tv, NumF w' b l n g tv) ∧ Touch [b] w w'
  | .ok n' => e = .returned (.int .i64 0) ∧ (∃ g' tv, NumF w' b (l ++ [x]) n' g' tv ∧ NewOr w g g') ∧ Touch (b :: g.toList) w w'

theorem pushPost_err {b : Nat} {l : List UInt8} {n : Num.St} {g : Option Nat} {x : UInt8} {w w' : World} {c : Nat} {tv : Value} (he : Num.push n x.toNat = .error c) (h : NumF w' b l n g tv) (ht : Touch [b] w w') :
    PushPost b l n g x w (.returned (.int .i64 c)) w' := by
  unfold PushPost; rw [he]; exact ⟨rfl, ⟨tv, h⟩, ht⟩
theorem pushPost_ok {b : Nat} {l : List UInt8} {n n' : Num.St} {g g' : Option Nat} {x : UInt8} {w w' : World} {tv : Value} (he : Num.push n x.toNat = .ok n') (h : NumF w' b (l ++ [x]) n' g' tv) (hg : NewOr w g g') (ht : Touch (b :: g.toList) w w') :
    PushPost b l n g x w (.returned (.int .i64 0)) w' := by
  unfold PushPost; rw [he]; exact ⟨rfl, ⟨g', tv, h, hg⟩, ht⟩

theorem sliceT_u8 : SliceT Tryz.prog 22 5 (.int .u8 0) 1 1 := by
  refine ⟨Tryz.underlying22, by rfl, by decide, by decide, ?_⟩
  exact info_parts (by kernel_rfl)

/-- a call that leaves it restored: the whole number is put back out of the copy -/
theorem NumF_back {w w' : World} {b : Nat} {l : List UInt8} {n : Num.St} {g : Option Nat} {tv : Value} (hs : SlAt w 5 1 tv l.length (bytesV l) g) (hg : ∀ k, g = some k → k ≠ b) (h : NumAt w' b tv n) (ht : Touch [b] w w') : NumF w' b l n g tv :=
  ⟨h, hs.keep ht (fun k hk => by simpa using hg k hk), hg⟩

theorem newOr_ne {w : World} {g g' : Option Nat} {b : Nat} (h : NewOr w g g') (hg : ∀ k, g = some k → k ≠ b) (hb : b < w.heap.size) : ∀ k, g' = some k → k ≠ b := by
  intro k hk
  rcases h with rfl | ⟨k', hk', hle⟩
  · exact hg k hk
  · rw [hk] at hk'
    injection hk' with hk'
    omega
theorem newOr_of {w w' : World} {g g' : Option Nat} (h : NewOr w' g g') (hs : w.heap.size ≤ w'.heap.size) : NewOr w g g' := by
  rcases h with h | ⟨k, h1, h2⟩
  · exact .inl h
  · exact .inr ⟨k, h1, Nat.le_trans hs h2⟩

theorem Num.digB_b (n : Num.St) (bh : Bool) : (Num.digB n bh).behind ≤ n.behind + 1 := by
  unfold Num.digB
  dsimp only
  split <;> omega




theorem push_any (b : Nat) (l : List UInt8) (n : Num.St) (g : Option Nat) (tv : Value) (x : UInt8) (w : World) (hF : NumF w b l n g tv) (ok : n.OkL l.length) (hl : l.length ≤ 100000) :
    Calls Tryz.prog 53 #[.pointer (some ⟨b, 0, none⟩), .int .u8 x.toNat] w (PushPost b l n g x w) := by
  obtain ⟨hN, hs, hg⟩ := hF
  obtain ⟨A, C, rfl, hC1, hC2, _⟩ := hs.form
  have o4 := ok.at_
  have hx := x.toNat_lt
  cases hn : Num.next n.at_ x.toNat with
  | none =>
    have hnx := fun w => next_no n.at_ x.toNat w o4 hn
    have he : Box (Num.push n x.toNat = .error 2) := ⟨by unfold Num.push; rw [hn]⟩
    clear hn
    unfold NumAt at hN
    have c0 := cell_at hN 0
    have c1 := cell_at hN 1
    have c2 := cell_at hN 2
    have c3 := cell_at hN 3
    have c4 := cell_at hN 4
    have c5 := cell_at hN 5
    have c6 := cell_at hN 6
    have f0 := free_at hN 0
    have f1 := free_at hN 1
    have f2 := free_at hN 2
    have f3 := free_at hN 3
    have f4 := free_at hN 4
    have f5 := free_at hN 5
    have f6 := free_at hN 6
    have lb := block_lt hN
    simp [NumC] at c0 c1 c2 c3 c4 c5 c6
    let kp_ : Exit → Act → World → Prop := bodyPost Tryz.prog Tryz.f53 (fun _ _ => True)
    refine calls_post Tryz.func53 rfl ?_
    intro Q_ hQ_
    simp only [Tryz.ntmps53, List.size_toArray, List.length_cons, List.length_nil, Nat.reduceAdd, Nat.reduceSub, Array.replicate_succ, Array.replicate_zero, List.push_toArray, List.append_toArray, List.nil_append, List.cons_append]
    go_wp2_with fail
    refine (hnx _).mono ?_
    rintro e w1 ⟨⟨r, rfl⟩, hd⟩
    have ht1 := touch_drawn hd
    clear hd
    try go_simp
    go_wp2
    (try simp only [Exit.inBlock, Exit.then])
    refine hQ_.ret (results_tmp rfl _ _ _) rfl ?_
    exact pushPost_err he.out ⟨ht1.keep hN (by simp), hs.keep ht1 (by simp), hg⟩ (ht1.mono (by simp))
  | some p =>
    have hnx := fun w => next_yes n.at_ x.toNat p w o4 hn
    have hp8 := Num.next_le _ _ _ hn
    have hfig := Num.next_fig _ _ _ hn
    replace hn : Box (Num.next n.at_ x.toNat = some p) := ⟨hn⟩
    unfold NumAt at hN
    have c0 := cell_at hN 0
    have c1 := cell_at hN 1
    have c2 := cell_at hN 2
    have c3 := cell_at hN 3
    have c4 := cell_at hN 4
    have c5 := cell_at hN 5
    have c6 := cell_at hN 6
    have f0 := free_at hN 0
    have f1 := free_at hN 1
    have f2 := free_at hN 2
    have f3 := free_at hN 3
    have f4 := free_at hN 4
    have f5 := free_at hN 5
    have f6 := free_at hN 6
    have lb := block_lt hN
    simp [NumC] at c0 c1 c2 c3 c4 c5 c6
    let kp_ : Exit → Act → World → Prop := bodyPost Tryz.prog Tryz.f53 (fun _ _ => True)
    refine calls_post Tryz.func53 rfl ?_
    intro Q_ hQ_
    simp only [Tryz.ntmps53, List.size_toArray, List.length_cons, List.length_nil, Nat.reduceAdd, Nat.reduceSub, Array.replicate_succ, Array.replicate_zero, List.push_toArray, List.append_toArray, List.nil_append, List.cons_append]
    go_wp2_with fail
    refine (hnx _).mono ?_
    rintro e w1 ⟨rfl, hd⟩
    have ht1 := touch_drawn hd
    clear hd c0 c1 c2 c3 c4 c5 c6 f0 f1 f2 f3 f4 f5 f6 lb hnx
    try go_simp
    have hN1 := ht1.keep hN (by simp)
    have c0 := cell_at hN1 0
    have c1 := cell_at hN1 1
    have c2 := cell_at hN1 2
    have c3 := cell_at hN1 3
    have c4 := cell_at hN1 4
    have c5 := cell_at hN1 5
    have c6 := cell_at hN1 6
    have f0 := free_at hN1 0
    have f1 := free_at hN1 1
    have f2 := free_at hN1 2
    have f3 := free_at hN1 3
    have f4 := free_at hN1 4
    have f5 := free_at hN1 5
    have f6 := free_at hN1 6
    have lb := block_lt hN1
    simp [NumC] at c0 c1 c2 c3 c4 c5 c6
    go_upto_region 7 with (fail)
    clear c0 c1 c2 c3 c4 c5 c6 f0 f1 f2 f3 f4 f5 f6
    have hW : ((w1.setCell ⟨b, 1, none⟩ (.int .i64 p)).alloc (Obj.cells (NumC (.slice A l.length C) n) 114)).heap[w1.heap.size]? = some (Obj.cells (NumC (.slice A l.length C) n) 114 (0, 0)) := by
      have := alloc_new (w1.setCell ⟨b, 1, none⟩ (.int .i64 p)) (Obj.cells (NumC (.slice A l.length C) n) 114)
      simpa using this
    have hN2 : NumAt ((w1.setCell ⟨b, 1, none⟩ (.int .i64 p)).alloc (Obj.cells (NumC (.slice A l.length C) n) 114)) b (.slice A l.length C) (Num.setA n p) := alloc_old (num_set1 hN1 p) _
    have hT2 : Touch [b] w ((w1.setCell ⟨b, 1, none⟩ (.int .i64 p)).alloc (Obj.cells (NumC (.slice A l.length C) n) 114)) := ((ht1.mono (by simp)).setCell (by simp) _).alloc _
    obtain ⟨W, hWe⟩ : ∃ W, W = ((w1.setCell ⟨b, 1, none⟩ (.int .i64 p)).alloc (Obj.cells (NumC (.slice A l.length C) n) 114)) := ⟨_, rfl⟩
    rw [← hWe] at hW hN2 hT2
    simp only [NumC] at hWe
    rw [← hWe]
    have hne : b < w1.heap.size := lb
    obtain ⟨B, hB⟩ : ∃ B, B = w1.heap.size := ⟨_, rfl⟩
    rw [← hB] at hW hne ⊢
    clear hWe hB ht1 hN1 lb hN w1
    have hgl : b ∉ g.toList := by
      intro h
      cases hgg : g with
      | none => rw [hgg] at h; simp at h
      | some k => rw [hgg] at h; simp at h; exact hg k hgg h.symm
    have hcase : p = 2 ∨ p = 3 ∨ p = 5 ∨ p = 7 ∨ p = 8 ∨ (p = 0 ∨ p = 1 ∨ p = 4 ∨ p = 6) := by omega
    rcases hcase with rfl | rfl | rfl | rfl | rfl | hpo
    · obtain ⟨hf1, hf2⟩ := hfig (by omega)
      have okA : (Num.setA n 2).Ok := ⟨hp8, ok.m, Nat.le_trans ok.zeros (by omega), Nat.le_trans ok.behind (by omega), ok.e⟩
      have okA2 : Box ((Num.setA n 2).OkL l.length) := ⟨⟨hp8, ok.m, ok.zeros, ok.behind, ok.e⟩⟩
      have hdg := digit_any b (.slice A l.length C) (Num.setA n 2) (x.toNat - 48) false W hN2 okA (by omega)
      rw [show ((x.toNat - 48 : Nat) : Int) = (x.toNat : Int) - 48 by omega] at hdg
      clear okA
      cases hD : Num.digit (x.toNat - 48) false (Num.setA n 2) with
      | some n2 =>
        have hfin : Box (Num.push n x.toNat = Num.fin n2) := ⟨Num.push_digit_yes hn.out (by omega) hD⟩
        have okL : Box (n2.OkL (l.length + 1)) := ⟨Num.digit_okL okA2.out (by omega) hD⟩
        go_wp2_with fail
        refine hdg.mono ?_
        rintro e w2 ⟨ht5, hh⟩
        rw [hD] at hh
        rcases hh with ⟨n', e1, rfl, hN5⟩ | ⟨e1, _⟩
        · injection e1 with e1
          subst e1
          clear hD
          try go_simp
          have hNx := hN5
          have hWx := ht5.keep hW (by simp; omega)
          have hTx := hT2.trans ht5
          clear hN2 hW hT2 hfig ht5 hN5 hdg
          have hmy := fun w h => may_any b (.slice A l.length C) (n2) w h (okL.out.ok (by omega))
          go_wp2_with fail
          cases hmb : Num.may (n2) with
          | true =>
            rw [hmb] at hmy
            have he : Box (Num.push n x.toNat = .ok (n2)) := ⟨by rw [hfin.out]; unfold Num.fin; rw [if_pos hmb]⟩
            clear hmb
            refine (hmy _ hNx).mono ?_
            rintro e w3 ⟨rfl, ht3⟩
            try go_simp
            have hNy := ht3.keep hNx (by simp)
            have hTy := hTx.trans (ht3.mono (by simp))
            have hs3 := hs.keep hTy (fun k hk => by simpa using hg k hk)
            clear ht3 hNx hWx hTx hmy
            unfold NumAt at hNy
            have c0 := cell_at hNy 0
            have c1 := cell_at hNy 1
            have c2 := cell_at hNy 2
            have c3 := cell_at hNy 3
            have c4 := cell_at hNy 4
            have c5 := cell_at hNy 5
            have c6 := cell_at hNy 6
            have f0 := free_at hNy 0
            have f1 := free_at hNy 1
            have f2 := free_at hNy 2
            have f3 := free_at hNy 3
            have f4 := free_at hNy 4
            have f5 := free_at hNy 5
            have f6 := free_at hNy 6
            have lb := block_lt hNy
            simp [NumC] at c0 c1 c2 c3 c4 c5 c6
            go_wp2_with (at_builtin; refine wpList_append_sl sliceT_u8 rfl (.tmp 83) (.tmp 85) rfl rfl (hs3.keep ((Touch.refl [] _).alloc _) (by simp)) rfl (srcAt_one rfl) (by omega) ?_; intro ad1 c1' w4 g1 hs4 ht4 hn4; rw [← bytesV_snoc] at hs4; have hN4 := ht4.keep (alloc_old hNy _) hgl; have q0 := cell_at hN4 0; have p0 := free_at hN4 0; have q4 := block_lt hN4; simp [NumC] at q0)
            (try simp only [Exit.inBlock, Exit.then])
            refine hQ_.ret (results_tmp rfl _ _ _) rfl ?_
            refine pushPost_ok he.out ⟨set_same hN4 0 _, ?_, ?_⟩ (g' := g1) ?_ ?_
            · have := hs4.keep (Touch.setCell (F := [b]) (Touch.refl _ _) (p := ⟨b, 0, none⟩) (by simp) (.slice ad1 (l.length + 1) c1')) (fun k hk => by
                have := newOr_ne hn4 hg (by have := hTy.size; have := block_lt hNy; simp; omega) k hk
                simpa using this)
              rw [List.length_append]
              exact this
            · exact newOr_ne hn4 hg (by have := block_lt hNy; simp; omega)
            · exact newOr_of hn4 (by have := hTy.size; simp; omega)
            · refine Touch.setCell (Touch.step ((hTy.mono (by simp)).alloc _) ht4 (fun k hk => .inl (by simp at hk; simp [hk]))) (by simp) _
          | false =>
            rw [hmb] at hmy
            have he : Box (Num.push n x.toNat = .error (Num.why (n2))) := ⟨by rw [hfin.out]; unfold Num.fin; rw [if_neg (by rw [hmb]; simp)]⟩
            clear hmb
            refine (hmy _ hNx).mono ?_
            rintro e w5 ⟨rfl, ht3⟩
            try go_simp
            replace hNx : NumAt w5 b (.slice A l.length C) (n2) := ht3.keep hNx (by simp)
            replace hWx := ht3.keep hWx (by simp)
            replace hTx := hTx.trans (ht3.mono (by simp))
            have okz : Box (n2).Okz := ⟨(okL.out.ok (by omega)).z⟩
            clear ht3 hmy
            have hok2 : (n2).Okz := okz.out
            have hwy := fun w h => why_any b (.slice A l.length C) (n2) w h hok2
            go_wp2_with fail
            refine (hwy _ hNx).mono ?_
            rintro e w4 ⟨rfl, k4, rfl⟩
            try go_simp
            have hNy : NumAt (w5.drewN k4) b (.slice A l.length C) (n2) := hNx
            have hWy := drewN_heap hWx k4
            have hTy := hTx.drewN k4
            generalize w5.drewN k4 = w6 at *
            clear hwy hok2 hNx hWx hTx
            unfold NumAt at hNy
            have c0 := cell_at hNy 0
            have c1 := cell_at hNy 1
            have c2 := cell_at hNy 2
            have c3 := cell_at hNy 3
            have c4 := cell_at hNy 4
            have c5 := cell_at hNy 5
            have c6 := cell_at hNy 6
            have f0 := free_at hNy 0
            have f1 := free_at hNy 1
            have f2 := free_at hNy 2
            have f3 := free_at hNy 3
            have f4 := free_at hNy 4
            have f5 := free_at hNy 5
            have f6 := free_at hNy 6
            have lb := block_lt hNy
            simp [NumC] at c0 c1 c2 c3 c4 c5 c6
            have d0 := cell_at hWy 0
            have d1 := cell_at hWy 1
            have d2 := cell_at hWy 2
            have d3 := cell_at hWy 3
            have d4 := cell_at hWy 4
            have d5 := cell_at hWy 5
            have d6 := cell_at hWy 6
            have lB := block_lt hWy
            simp [NumC] at d0 d1 d2 d3 d4 d5 d6
            go_wp2
            (try simp only [Exit.inBlock, Exit.then])
            refine hQ_.ret (results_tmp rfl _ _ _) rfl ?_
            refine pushPost_err he.out (NumF_back hs hg ?_ ?_) ?_
            · exact set_same (set_same (set_same (set_same (set_same (set_same (set_same hNy 0 _) 1 _) 2 _) 3 _) 4 _) 5 _) 6 _
            · exact ((((((hTy.setCell (by simp) _).setCell (by simp) _).setCell (by simp) _).setCell (by simp) _).setCell (by simp) _).setCell (by simp) _).setCell (by simp) _
            · exact ((((((hTy.setCell (by simp) _).setCell (by simp) _).setCell (by simp) _).setCell (by simp) _).setCell (by simp) _).setCell (by simp) _).setCell (by simp) _
        · cases e1
      | none =>
        have hno := Num.push_digit_no hn.out (by omega) hD
        have hfb := Box.mk (Num.digB_b (Num.setA n 2) false)
        go_wp2_with fail
        refine hdg.mono ?_
        rintro e w5 ⟨ht5, hh⟩
        rw [hD] at hh
        rcases hh with ⟨n', e1, _⟩ | ⟨_, rfl, M, Z, hM, hZ, hN5⟩
        · cases e1
        · have he : Box (Num.push n x.toNat = .error (Num.why (Num.setZ (Num.setZ (Num.setM (Num.digB (Num.setA n 2) false) M) Z) 0))) := ⟨hno M Z⟩
          have okz : Box (Num.setZ (Num.setZ (Num.setM (Num.digB (Num.setA n 2) false) M) Z) 0).Okz := ⟨Nat.zero_le _, by
            have h1 : (Num.setZ (Num.setZ (Num.setM (Num.digB (Num.setA n 2) false) M) Z) 0).behind = (Num.digB (Num.setA n 2) false).behind := rfl
            rw [h1]
            have h2 := hfb.out
            have h3 : (Num.setA n 2).behind = n.behind := rfl
            have := ok.behind
            omega, ok.e⟩
          clear hD hno hfb
          try go_simp
          have hWx := ht5.keep hW (by simp; omega)
          have hTx := hT2.trans ht5
          clear hN2 hW hT2 hfig ht5 hdg
          unfold NumAt at hN5
          have c0 := cell_at hN5 0
          have c1 := cell_at hN5 1
          have c2 := cell_at hN5 2
          have c3 := cell_at hN5 3
          have c4 := cell_at hN5 4
          have c5 := cell_at hN5 5
          have c6 := cell_at hN5 6
          have f0 := free_at hN5 0
          have f1 := free_at hN5 1
          have f2 := free_at hN5 2
          have f3 := free_at hN5 3
          have f4 := free_at hN5 4
          have f5 := free_at hN5 5
          have f6 := free_at hN5 6
          have lb := block_lt hN5
          simp [NumC] at c0 c1 c2 c3 c4 c5 c6
          go_upto_region 17 with (fail)
          clear c0 c1 c2 c3 c4 c5 c6 f0 f1 f2 f3 f4 f5 f6
          have hNx : NumAt (w5.setCell ⟨b, 3, none⟩ (.int .i64 0)) b (.slice A l.length C) (Num.setZ (Num.setZ (Num.setM (Num.digB (Num.setA n 2) false) M) Z) 0) := num_set3 hN5 0
          replace hWx := set_other (a := ⟨b, 3, none⟩) hWx (by simp; omega) (.int .i64 0)
          replace hTx := hTx.setCell (p := ⟨b, 3, none⟩) (by simp) (.int .i64 0)
          generalize w5.setCell ⟨b, 3, none⟩ (.int .i64 0) = w5 at *
          generalize Num.setZ (Num.setZ (Num.setM (Num.digB (Num.setA n 2) false) M) Z) 0 = n2 at *
          clear hN5 lb
          have hok2 : (n2).Okz := okz.out
          have hwy := fun w h => why_any b (.slice A l.length C) (n2) w h hok2
          go_wp2_with fail
          refine (hwy _ hNx).mono ?_
          rintro e w4 ⟨rfl, k4, rfl⟩
          try go_simp
          have hNy : NumAt (w5.drewN k4) b (.slice A l.length C) (n2) := hNx
          have hWy := drewN_heap hWx k4
          have hTy := hTx.drewN k4
          generalize w5.drewN k4 = w6 at *
          clear hwy hok2 hNx hWx hTx
          unfold NumAt at hNy
          have c0 := cell_at hNy 0
          have c1 := cell_at hNy 1
          have c2 := cell_at hNy 2
          have c3 := cell_at hNy 3
          have c4 := cell_at hNy 4
          have c5 := cell_at hNy 5
          have c6 := cell_at hNy 6
          have f0 := free_at hNy 0
          have f1 := free_at hNy 1
          have f2 := free_at hNy 2
          have f3 := free_at hNy 3
          have f4 := free_at hNy 4
          have f5 := free_at hNy 5
          have f6 := free_at hNy 6
          have lb := block_lt hNy
          simp [NumC] at c0 c1 c2 c3 c4 c5 c6
          have d0 := cell_at hWy 0
          have d1 := cell_at hWy 1
          have d2 := cell_at hWy 2
          have d3 := cell_at hWy 3
          have d4 := cell_at hWy 4
          have d5 := cell_at hWy 5
          have d6 := cell_at hWy 6
          have lB := block_lt hWy
          simp [NumC] at d0 d1 d2 d3 d4 d5 d6
          go_wp2
          (try simp only [Exit.inBlock, Exit.then])
          refine hQ_.ret (results_tmp rfl _ _ _) rfl ?_
          refine pushPost_err he.out (NumF_back hs hg ?_ ?_) ?_
          · exact set_same (set_same (set_same (set_same (set_same (set_same (set_same hNy 0 _) 1 _) 2 _) 3 _) 4 _) 5 _) 6 _
          · exact ((((((hTy.setCell (by simp) _).setCell (by simp) _).setCell (by simp) _).setCell (by simp) _).setCell (by simp) _).setCell (by simp) _).setCell (by simp) _
          · exact ((((((hTy.setCell (by simp) _).setCell (by simp) _).setCell (by simp) _).setCell (by simp) _).setCell (by simp) _).setCell (by simp) _).setCell (by simp) _
    · obtain ⟨hf1, hf2⟩ := hfig (by omega)
      have okA : (Num.setA n 3).Ok := ⟨hp8, ok.m, Nat.le_trans ok.zeros (by omega), Nat.le_trans ok.behind (by omega), ok.e⟩
      have okA2 : Box ((Num.setA n 3).OkL l.length) := ⟨⟨hp8, ok.m, ok.zeros, ok.behind, ok.e⟩⟩
      have hdg := digit_any b (.slice A l.length C) (Num.setA n 3) (x.toNat - 48) false W hN2 okA (by omega)
      rw [show ((x.toNat - 48 : Nat) : Int) = (x.toNat : Int) - 48 by omega] at hdg
      clear okA
      cases hD : Num.digit (x.toNat - 48) false (Num.setA n 3) with
      | some n2 =>
        have hfin : Box (Num.push n x.toNat = Num.fin n2) := ⟨Num.push_digit_yes hn.out (by omega) hD⟩
        have okL : Box (n2.OkL (l.length + 1)) := ⟨Num.digit_okL okA2.out (by omega) hD⟩
        go_wp2_with fail
        refine hdg.mono ?_
        rintro e w2 ⟨ht5, hh⟩
        rw [hD] at hh
        rcases hh with ⟨n', e1, rfl, hN5⟩ | ⟨e1, _⟩
        · injection e1 with e1
          subst e1
          clear hD
          try go_simp
          have hNx := hN5
          have hWx := ht5.keep hW (by simp; omega)
          have hTx := hT2.trans ht5
          clear hN2 hW hT2 hfig ht5 hN5 hdg
          have hmy := fun w h => may_any b (.slice A l.length C) (n2) w h (okL.out.ok (by omega))
          go_wp2_with fail
          cases hmb : Num.may (n2) with
          | true =>
            rw [hmb] at hmy
            have he : Box (Num.push n x.toNat = .ok (n2)) := ⟨by rw [hfin.out]; unfold Num.fin; rw [if_pos hmb]⟩
            clear hmb
            refine (hmy _ hNx).mono ?_
            rintro e w3 ⟨rfl, ht3⟩
            try go_simp
            have hNy := ht3.keep hNx (by simp)
            have hTy := hTx.trans (ht3.mono (by simp))
            have hs3 := hs.keep hTy (fun k hk => by simpa using hg k hk)
            clear ht3 hNx hWx hTx hmy
            unfold NumAt at hNy
            have c0 := cell_at hNy 0
            have c1 := cell_at hNy 1
            have c2 := cell_at hNy 2
            have c3 := cell_at hNy 3
            have c4 := cell_at hNy 4
            have c5 := cell_at hNy 5
            have c6 := cell_at hNy 6
            have f0 := free_at hNy 0
            have f1 := free_at hNy 1
            have f2 := free_at hNy 2
            have f3 := free_at hNy 3
            have f4 := free_at hNy 4
            have f5 := free_at hNy 5
            have f6 := free_at hNy 6
            have lb := block_lt hNy
            simp [NumC] at c0 c1 c2 c3 c4 c5 c6
            go_wp2_with (at_builtin; refine wpList_append_sl sliceT_u8 rfl (.tmp 83) (.tmp 85) rfl rfl (hs3.keep ((Touch.refl [] _).alloc _) (by simp)) rfl (srcAt_one rfl) (by omega) ?_; intro ad1 c1' w4 g1 hs4 ht4 hn4; rw [← bytesV_snoc] at hs4; have hN4 := ht4.keep (alloc_old hNy _) hgl; have q0 := cell_at hN4 0; have p0 := free_at hN4 0; have q4 := block_lt hN4; simp [NumC] at q0)
            (try simp only [Exit.inBlock, Exit.then])
            refine hQ_.ret (results_tmp rfl _ _ _) rfl ?_
            refine pushPost_ok he.out ⟨set_same hN4 0 _, ?_, ?_⟩ (g' := g1) ?_ ?_
            · have := hs4.keep (Touch.setCell (F := [b]) (Touch.refl _ _) (p := ⟨b, 0, none⟩) (by simp) (.slice ad1 (l.length + 1) c1')) (fun k hk => by
                have := newOr_ne hn4 hg (by have := hTy.size; have := block_lt hNy; simp; omega) k hk
                simpa using this)
              rw [List.length_append]
              exact this
            · exact newOr_ne hn4 hg (by have := block_lt hNy; simp; omega)
            · exact newOr_of hn4 (by have := hTy.size; simp; omega)
            · refine Touch.setCell (Touch.step ((hTy.mono (by simp)).alloc _) ht4 (fun k hk => .inl (by simp at hk; simp [hk]))) (by simp) _
          | false =>
            rw [hmb] at hmy
            have he : Box (Num.push n x.toNat = .error (Num.why (n2))) := ⟨by rw [hfin.out]; unfold Num.fin; rw [if_neg (by rw [hmb]; simp)]⟩
            clear hmb
            refine (hmy _ hNx).mono ?_
            rintro e w5 ⟨rfl, ht3⟩
            try go_simp
            replace hNx : NumAt w5 b (.slice A l.length C) (n2) := ht3.keep hNx (by simp)
            replace hWx := ht3.keep hWx (by simp)
            replace hTx := hTx.trans (ht3.mono (by simp))
            have okz : Box (n2).Okz := ⟨(okL.out.ok (by omega)).z⟩
            clear ht3 hmy
            have hok2 : (n2).Okz := okz.out
            have hwy := fun w h => why_any b (.slice A l.length C) (n2) w h hok2
            go_wp2_with fail
            refine (hwy _ hNx).mono ?_
            rintro e w4 ⟨rfl, k4, rfl⟩
            try go_simp
            have hNy : NumAt (w5.drewN k4) b (.slice A l.length C) (n2) := hNx
            have hWy := drewN_heap hWx k4
            have hTy := hTx.drewN k4
            generalize w5.drewN k4 = w6 at *
            clear hwy hok2 hNx hWx hTx
            unfold NumAt at hNy
            have c0 := cell_at hNy 0
            have c1 := cell_at hNy 1
            have c2 := cell_at hNy 2
            have c3 := cell_at hNy 3
            have c4 := cell_at hNy 4
            have c5 := cell_at hNy 5
            have c6 := cell_at hNy 6
            have f0 := free_at hNy 0
            have f1 := free_at hNy 1
            have f2 := free_at hNy 2
            have f3 := free_at hNy 3
            have f4 := free_at hNy 4
            have f5 := free_at hNy 5
            have f6 := free_at hNy 6
            have lb := block_lt hNy
            simp [NumC] at c0 c1 c2 c3 c4 c5 c6
            have d0 := cell_at hWy 0
            have d1 := cell_at hWy 1
            have d2 := cell_at hWy 2
            have d3 := cell_at hWy 3
            have d4 := cell_at hWy 4
            have d5 := cell_at hWy 5
            have d6 := cell_at hWy 6
            have lB := block_lt hWy
            simp [NumC] at d0 d1 d2 d3 d4 d5 d6
            go_wp2
            (try simp only [Exit.inBlock, Exit.then])
            refine hQ_.ret (results_tmp rfl _ _ _) rfl ?_
            refine pushPost_err he.out (NumF_back hs hg ?_ ?_) ?_
            · exact set_same (set_same (set_same (set_same (set_same (set_same (set_same hNy 0 _) 1 _) 2 _) 3 _) 4 _) 5 _) 6 _
            · exact ((((((hTy.setCell (by simp) _).setCell (by simp) _).setCell (by simp) _).setCell (by simp) _).setCell (by simp) _).setCell (by simp) _).setCell (by simp) _
            · exact ((((((hTy.setCell (by simp) _).setCell (by simp) _).setCell (by simp) _).setCell (by simp) _).setCell (by simp) _).setCell (by simp) _).setCell (by simp) _
        · cases e1
      | none =>
        have hno := Num.push_digit_no hn.out (by omega) hD
        have hfb := Box.mk (Num.digB_b (Num.setA n 3) false)
        go_wp2_with fail
        refine hdg.mono ?_
        rintro e w5 ⟨ht5, hh⟩
        rw [hD] at hh
        rcases hh with ⟨n', e1, _⟩ | ⟨_, rfl, M, Z, hM, hZ, hN5⟩
        · cases e1
        · have he : Box (Num.push n x.toNat = .error (Num.why (Num.setZ (Num.setZ (Num.setM (Num.digB (Num.setA n 3) false) M) Z) 0))) := ⟨hno M Z⟩
          have okz : Box (Num.setZ (Num.setZ (Num.setM (Num.digB (Num.setA n 3) false) M) Z) 0).Okz := ⟨Nat.zero_le _, by
            have h1 : (Num.setZ (Num.setZ (Num.setM (Num.digB (Num.setA n 3) false) M) Z) 0).behind = (Num.digB (Num.setA n 3) false).behind := rfl
            rw [h1]
            have h2 := hfb.out
            have h3 : (Num.setA n 3).behind = n.behind := rfl
            have := ok.behind
            omega, ok.e⟩
          clear hD hno hfb
          try go_simp
          have hWx := ht5.keep hW (by simp; omega)
          have hTx := hT2.trans ht5
          clear hN2 hW hT2 hfig ht5 hdg
          unfold NumAt at hN5
          have c0 := cell_at hN5 0
          have c1 := cell_at hN5 1
          have c2 := cell_at hN5 2
          have c3 := cell_at hN5 3
          have c4 := cell_at hN5 4
          have c5 := cell_at hN5 5
          have c6 := cell_at hN5 6
          have f0 := free_at hN5 0
          have f1 := free_at hN5 1
          have f2 := free_at hN5 2
          have f3 := free_at hN5 3
          have f4 := free_at hN5 4
          have f5 := free_at hN5 5
          have f6 := free_at hN5 6
          have lb := block_lt hN5
          simp [NumC] at c0 c1 c2 c3 c4 c5 c6
          go_upto_region 17 with (fail)
          clear c0 c1 c2 c3 c4 c5 c6 f0 f1 f2 f3 f4 f5 f6
          have hNx : NumAt (w5.setCell ⟨b, 3, none⟩ (.int .i64 0)) b (.slice A l.length C) (Num.setZ (Num.setZ (Num.setM (Num.digB (Num.setA n 3) false) M) Z) 0) := num_set3 hN5 0
          replace hWx := set_other (a := ⟨b, 3, none⟩) hWx (by simp; omega) (.int .i64 0)
          replace hTx := hTx.setCell (p := ⟨b, 3, none⟩) (by simp) (.int .i64 0)
          generalize w5.setCell ⟨b, 3, none⟩ (.int .i64 0) = w5 at *
          generalize Num.setZ (Num.setZ (Num.setM (Num.digB (Num.setA n 3) false) M) Z) 0 = n2 at *
          clear hN5 lb
          have hok2 : (n2).Okz := okz.out
          have hwy := fun w h => why_any b (.slice A l.length C) (n2) w h hok2
          go_wp2_with fail
          refine (hwy _ hNx).mono ?_
          rintro e w4 ⟨rfl, k4, rfl⟩
          try go_simp
          have hNy : NumAt (w5.drewN k4) b (.slice A l.length C) (n2) := hNx
          have hWy := drewN_heap hWx k4
          have hTy := hTx.drewN k4
          generalize w5.drewN k4 = w6 at *
          clear hwy hok2 hNx hWx hTx
          unfold NumAt at hNy
          have c0 := cell_at hNy 0
          have c1 := cell_at hNy 1
          have c2 := cell_at hNy 2
          have c3 := cell_at hNy 3
          have c4 := cell_at hNy 4
          have c5 := cell_at hNy 5
          have c6 := cell_at hNy 6
          have f0 := free_at hNy 0
          have f1 := free_at hNy 1
          have f2 := free_at hNy 2
          have f3 := free_at hNy 3
          have f4 := free_at hNy 4
          have f5 := free_at hNy 5
          have f6 := free_at hNy 6
          have lb := block_lt hNy
          simp [NumC] at c0 c1 c2 c3 c4 c5 c6
          have d0 := cell_at hWy 0
          have d1 := cell_at hWy 1
          have d2 := cell_at hWy 2
          have d3 := cell_at hWy 3
          have d4 := cell_at hWy 4
          have d5 := cell_at hWy 5
          have d6 := cell_at hWy 6
          have lB := block_lt hWy
          simp [NumC] at d0 d1 d2 d3 d4 d5 d6
          go_wp2
          (try simp only [Exit.inBlock, Exit.then])
          refine hQ_.ret (results_tmp rfl _ _ _) rfl ?_
          refine pushPost_err he.out (NumF_back hs hg ?_ ?_) ?_
          · exact set_same (set_same (set_same (set_same (set_same (set_same (set_same hNy 0 _) 1 _) 2 _) 3 _) 4 _) 5 _) 6 _
          · exact ((((((hTy.setCell (by simp) _).setCell (by simp) _).setCell (by simp) _).setCell (by simp) _).setCell (by simp) _).setCell (by simp) _).setCell (by simp) _
          · exact ((((((hTy.setCell (by simp) _).setCell (by simp) _).setCell (by simp) _).setCell (by simp) _).setCell (by simp) _).setCell (by simp) _).setCell (by simp) _
    · obtain ⟨hf1, hf2⟩ := hfig (by omega)
      have okA : (Num.setA n 5).Ok := ⟨hp8, ok.m, Nat.le_trans ok.zeros (by omega), Nat.le_trans ok.behind (by omega), ok.e⟩
      have okA2 : Box ((Num.setA n 5).OkL l.length) := ⟨⟨hp8, ok.m, ok.zeros, ok.behind, ok.e⟩⟩
      have hdg := digit_any b (.slice A l.length C) (Num.setA n 5) (x.toNat - 48) true W hN2 okA (by omega)
      rw [show ((x.toNat - 48 : Nat) : Int) = (x.toNat : Int) - 48 by omega] at hdg
      clear okA
      cases hD : Num.digit (x.toNat - 48) true (Num.setA n 5) with
      | some n2 =>
        have hfin : Box (Num.push n x.toNat = Num.fin n2) := ⟨Num.push_digit_yes hn.out (by omega) hD⟩
        have okL : Box (n2.OkL (l.length + 1)) := ⟨Num.digit_okL okA2.out (by omega) hD⟩
        go_wp2_with fail
        refine hdg.mono ?_
        rintro e w2 ⟨ht5, hh⟩
        rw [hD] at hh
        rcases hh with ⟨n', e1, rfl, hN5⟩ | ⟨e1, _⟩
        · injection e1 with e1
          subst e1
          clear hD
          try go_simp
          have hNx := hN5
          have hWx := ht5.keep hW (by simp; omega)
          have hTx := hT2.trans ht5
          clear hN2 hW hT2 hfig ht5 hN5 hdg
          have hmy := fun w h => may_any b (.slice A l.length C) (n2) w h (okL.out.ok (by omega))
          go_wp2_with fail
          cases hmb : Num.may (n2) with
          | true =>
            rw [hmb] at hmy
            have he : Box (Num.push n x.toNat = .ok (n2)) := ⟨by rw [hfin.out]; unfold Num.fin; rw [if_pos hmb]⟩
            clear hmb
            refine (hmy _ hNx).mono ?_
            rintro e w3 ⟨rfl, ht3⟩
            try go_simp
            have hNy := ht3.keep hNx (by simp)
            have hTy := hTx.trans (ht3.mono (by simp))
            have hs3 := hs.keep hTy (fun k hk => by simpa using hg k hk)
            clear ht3 hNx hWx hTx hmy
            unfold NumAt at hNy
            have c0 := cell_at hNy 0
            have c1 := cell_at hNy 1
            have c2 := cell_at hNy 2
            have c3 := cell_at hNy 3
            have c4 := cell_at hNy 4
            have c5 := cell_at hNy 5
            have c6 := cell_at hNy 6
            have f0 := free_at hNy 0
            have f1 := free_at hNy 1
            have f2 := free_at hNy 2
            have f3 := free_at hNy 3
            have f4 := free_at hNy 4
            have f5 := free_at hNy 5
            have f6 := free_at hNy 6
            have lb := block_lt hNy
            simp [NumC] at c0 c1 c2 c3 c4 c5 c6
            go_wp2_with (at_builtin; refine wpList_append_sl sliceT_u8 rfl (.tmp 83) (.tmp 85) rfl rfl (hs3.keep ((Touch.refl [] _).alloc _) (by simp)) rfl (srcAt_one rfl) (by omega) ?_; intro ad1 c1' w4 g1 hs4 ht4 hn4; rw [← bytesV_snoc] at hs4; have hN4 := ht4.keep (alloc_old hNy _) hgl; have q0 := cell_at hN4 0; have p0 := free_at hN4 0; have q4 := block_lt hN4; simp [NumC] at q0)
            (try simp only [Exit.inBlock, Exit.then])
            refine hQ_.ret (results_tmp rfl _ _ _) rfl ?_
            refine pushPost_ok he.out ⟨set_same hN4 0 _, ?_, ?_⟩ (g' := g1) ?_ ?_
            · have := hs4.keep (Touch.setCell (F := [b]) (Touch.refl _ _) (p := ⟨b, 0, none⟩) (by simp) (.slice ad1 (l.length + 1) c1')) (fun k hk => by
                have := newOr_ne hn4 hg (by have := hTy.size; have := block_lt hNy; simp; omega) k hk
                simpa using this)
              rw [List.length_append]
              exact this
            · exact newOr_ne hn4 hg (by have := block_lt hNy; simp; omega)
            · exact newOr_of hn4 (by have := hTy.size; simp; omega)
            · refine Touch.setCell (Touch.step ((hTy.mono (by simp)).alloc _) ht4 (fun k hk => .inl (by simp at hk; simp [hk]))) (by simp) _
          | false =>
            rw [hmb] at hmy
            have he : Box (Num.push n x.toNat = .error (Num.why (n2))) := ⟨by rw [hfin.out]; unfold Num.fin; rw [if_neg (by rw [hmb]; simp)]⟩
            clear hmb
            refine (hmy _ hNx).mono ?_
            rintro e w5 ⟨rfl, ht3⟩
            try go_simp
            replace hNx : NumAt w5 b (.slice A l.length C) (n2) := ht3.keep hNx (by simp)
            replace hWx := ht3.keep hWx (by simp)
            replace hTx := hTx.trans (ht3.mono (by simp))
            have okz : Box (n2).Okz := ⟨(okL.out.ok (by omega)).z⟩
            clear ht3 hmy
            have hok2 : (n2).Okz := okz.out
            have hwy := fun w h => why_any b (.slice A l.length C) (n2) w h hok2
            go_wp2_with fail
            refine (hwy _ hNx).mono ?_
            rintro e w4 ⟨rfl, k4, rfl⟩
            try go_simp
            have hNy : NumAt (w5.drewN k4) b (.slice A l.length C) (n2) := hNx
            have hWy := drewN_heap hWx k4
            have hTy := hTx.drewN k4
            generalize w5.drewN k4 = w6 at *
            clear hwy hok2 hNx hWx hTx
            unfold NumAt at hNy
            have c0 := cell_at hNy 0
            have c1 := cell_at hNy 1
            have c2 := cell_at hNy 2
            have c3 := cell_at hNy 3
            have c4 := cell_at hNy 4
            have c5 := cell_at hNy 5
            have c6 := cell_at hNy 6
            have f0 := free_at hNy 0
            have f1 := free_at hNy 1
            have f2 := free_at hNy 2
            have f3 := free_at hNy 3
            have f4 := free_at hNy 4
            have f5 := free_at hNy 5
            have f6 := free_at hNy 6
            have lb := block_lt hNy
            simp [NumC] at c0 c1 c2 c3 c4 c5 c6
            have d0 := cell_at hWy 0
            have d1 := cell_at hWy 1
            have d2 := cell_at hWy 2
            have d3 := cell_at hWy 3
            have d4 := cell_at hWy 4
            have d5 := cell_at hWy 5
            have d6 := cell_at hWy 6
            have lB := block_lt hWy
            simp [NumC] at d0 d1 d2 d3 d4 d5 d6
            go_wp2
            (try simp only [Exit.inBlock, Exit.then])
            refine hQ_.ret (results_tmp rfl _ _ _) rfl ?_
            refine pushPost_err he.out (NumF_back hs hg ?_ ?_) ?_
            · exact set_same (set_same (set_same (set_same (set_same (set_same (set_same hNy 0 _) 1 _) 2 _) 3 _) 4 _) 5 _) 6 _
            · exact ((((((hTy.setCell (by simp) _).setCell (by simp) _).setCell (by simp) _).setCell (by simp) _).setCell (by simp) _).setCell (by simp) _).setCell (by simp) _
            · exact ((((((hTy.setCell (by simp) _).setCell (by simp) _).setCell (by simp) _).setCell (by simp) _).setCell (by simp) _).setCell (by simp) _).setCell (by simp) _
        · cases e1
      | none =>
        have hno := Num.push_digit_no hn.out (by omega) hD
        have hfb := Box.mk (Num.digB_b (Num.setA n 5) true)
        go_wp2_with fail
        refine hdg.mono ?_
        rintro e w5 ⟨ht5, hh⟩
        rw [hD] at hh
        rcases hh with ⟨n', e1, _⟩ | ⟨_, rfl, M, Z, hM, hZ, hN5⟩
        · cases e1
        · have he : Box (Num.push n x.toNat = .error (Num.why (Num.setZ (Num.setZ (Num.setM (Num.digB (Num.setA n 5) true) M) Z) 0))) := ⟨hno M Z⟩
          have okz : Box (Num.setZ (Num.setZ (Num.setM (Num.digB (Num.setA n 5) true) M) Z) 0).Okz := ⟨Nat.zero_le _, by
            have h1 : (Num.setZ (Num.setZ (Num.setM (Num.digB (Num.setA n 5) true) M) Z) 0).behind = (Num.digB (Num.setA n 5) true).behind := rfl
            rw [h1]
            have h2 := hfb.out
            have h3 : (Num.setA n 5).behind = n.behind := rfl
            have := ok.behind
            omega, ok.e⟩
          clear hD hno hfb
          try go_simp
          have hWx := ht5.keep hW (by simp; omega)
          have hTx := hT2.trans ht5
          clear hN2 hW hT2 hfig ht5 hdg
          unfold NumAt at hN5
          have c0 := cell_at hN5 0
          have c1 := cell_at hN5 1
          have c2 := cell_at hN5 2
          have c3 := cell_at hN5 3
          have c4 := cell_at hN5 4
          have c5 := cell_at hN5 5
          have c6 := cell_at hN5 6
          have f0 := free_at hN5 0
          have f1 := free_at hN5 1
          have f2 := free_at hN5 2
          have f3 := free_at hN5 3
          have f4 := free_at hN5 4
          have f5 := free_at hN5 5
          have f6 := free_at hN5 6
          have lb := block_lt hN5
          simp [NumC] at c0 c1 c2 c3 c4 c5 c6
          go_upto_region 17 with (fail)
          clear c0 c1 c2 c3 c4 c5 c6 f0 f1 f2 f3 f4 f5 f6
          have hNx : NumAt (w5.setCell ⟨b, 3, none⟩ (.int .i64 0)) b (.slice A l.length C) (Num.setZ (Num.setZ (Num.setM (Num.digB (Num.setA n 5) true) M) Z) 0) := num_set3 hN5 0
          replace hWx := set_other (a := ⟨b, 3, none⟩) hWx (by simp; omega) (.int .i64 0)
          replace hTx := hTx.setCell (p := ⟨b, 3, none⟩) (by simp) (.int .i64 0)
          generalize w5.setCell ⟨b, 3, none⟩ (.int .i64 0) = w5 at *
          generalize Num.setZ (Num.setZ (Num.setM (Num.digB (Num.setA n 5) true) M) Z) 0 = n2 at *
          clear hN5 lb
          have hok2 : (n2).Okz := okz.out
          have hwy := fun w h => why_any b (.slice A l.length C) (n2) w h hok2
          go_wp2_with fail
          refine (hwy _ hNx).mono ?_
          rintro e w4 ⟨rfl, k4, rfl⟩
          try go_simp
          have hNy : NumAt (w5.drewN k4) b (.slice A l.length C) (n2) := hNx
          have hWy := drewN_heap hWx k4
          have hTy := hTx.drewN k4
          generalize w5.drewN k4 = w6 at *
          clear hwy hok2 hNx hWx hTx
          unfold NumAt at hNy
          have c0 := cell_at hNy 0
          have c1 := cell_at hNy 1
          have c2 := cell_at hNy 2
          have c3 := cell_at hNy 3
          have c4 := cell_at hNy 4
          have c5 := cell_at hNy 5
          have c6 := cell_at hNy 6
          have f0 := free_at hNy 0
          have f1 := free_at hNy 1
          have f2 := free_at hNy 2
          have f3 := free_at hNy 3
          have f4 := free_at hNy 4
          have f5 := free_at hNy 5
          have f6 := free_at hNy 6
          have lb := block_lt hNy
          simp [NumC] at c0 c1 c2 c3 c4 c5 c6
          have d0 := cell_at hWy 0
          have d1 := cell_at hWy 1
          have d2 := cell_at hWy 2
          have d3 := cell_at hWy 3
          have d4 := cell_at hWy 4
          have d5 := cell_at hWy 5
          have d6 := cell_at hWy 6
          have lB := block_lt hWy
          simp [NumC] at d0 d1 d2 d3 d4 d5 d6
          go_wp2
          (try simp only [Exit.inBlock, Exit.then])
          refine hQ_.ret (results_tmp rfl _ _ _) rfl ?_
          refine pushPost_err he.out (NumF_back hs hg ?_ ?_) ?_
          · exact set_same (set_same (set_same (set_same (set_same (set_same (set_same hNy 0 _) 1 _) 2 _) 3 _) 4 _) 5 _) 6 _
          · exact ((((((hTy.setCell (by simp) _).setCell (by simp) _).setCell (by simp) _).setCell (by simp) _).setCell (by simp) _).setCell (by simp) _).setCell (by simp) _
          · exact ((((((hTy.setCell (by simp) _).setCell (by simp) _).setCell (by simp) _).setCell (by simp) _).setCell (by simp) _).setCell (by simp) _).setCell (by simp) _
    · have e45 : ((x.toNat : Int) == 45) = (x.toNat == 45) := by rw [Bool.eq_iff_iff]; simp; omega
      have hfin : Box (Num.push n x.toNat = Num.fin (Num.setW (Num.setA n 7) (x.toNat == 45))) := ⟨Num.push_sign hn.out⟩
      have okL : Box ((Num.setW (Num.setA n 7) (x.toNat == 45)).OkL (l.length + 1)) := ⟨⟨hp8, ok.m, Nat.le_succ_of_le ok.zeros, Nat.le_succ_of_le ok.behind, ok.e⟩⟩
      unfold NumAt at hN2
      have c0 := cell_at hN2 0
      have c1 := cell_at hN2 1
      have c2 := cell_at hN2 2
      have c3 := cell_at hN2 3
      have c4 := cell_at hN2 4
      have c5 := cell_at hN2 5
      have c6 := cell_at hN2 6
      have f0 := free_at hN2 0
      have f1 := free_at hN2 1
      have f2 := free_at hN2 2
      have f3 := free_at hN2 3
      have f4 := free_at hN2 4
      have f5 := free_at hN2 5
      have f6 := free_at hN2 6
      have lb := block_lt hN2
      simp [NumC] at c0 c1 c2 c3 c4 c5 c6
      go_upto_region 17 with (fail)
      clear c0 c1 c2 c3 c4 c5 c6 f0 f1 f2 f3 f4 f5 f6
      have hNx := num_set5 hN2 (x.toNat == 45)
      have hWx := set_other (a := ⟨b, 5, none⟩) hW (by simp; omega) (.bool (x.toNat == 45))
      have hTx := hT2.setCell (p := ⟨b, 5, none⟩) (by simp) (.bool (x.toNat == 45))
      clear hN2 hW hT2 hfig e45
      generalize W.setCell ⟨b, 5, none⟩ (.bool (x.toNat == 45)) = W at *
      generalize Num.setW (Num.setA n 7) (x.toNat == 45) = n2 at *
      have hmy := fun w h => may_any b (.slice A l.length C) (n2) w h (okL.out.ok (by omega))
      go_wp2_with fail
      cases hmb : Num.may (n2) with
      | true =>
        rw [hmb] at hmy
        have he : Box (Num.push n x.toNat = .ok (n2)) := ⟨by rw [hfin.out]; unfold Num.fin; rw [if_pos hmb]⟩
        clear hmb
        refine (hmy _ hNx).mono ?_
        rintro e w3 ⟨rfl, ht3⟩
        try go_simp
        have hNy := ht3.keep hNx (by simp)
        have hTy := hTx.trans (ht3.mono (by simp))
        have hs3 := hs.keep hTy (fun k hk => by simpa using hg k hk)
        clear ht3 hNx hWx hTx hmy
        unfold NumAt at hNy
        have c0 := cell_at hNy 0
        have c1 := cell_at hNy 1
        have c2 := cell_at hNy 2
        have c3 := cell_at hNy 3
        have c4 := cell_at hNy 4
        have c5 := cell_at hNy 5
        have c6 := cell_at hNy 6
        have f0 := free_at hNy 0
        have f1 := free_at hNy 1
        have f2 := free_at hNy 2
        have f3 := free_at hNy 3
        have f4 := free_at hNy 4
        have f5 := free_at hNy 5
        have f6 := free_at hNy 6
        have lb := block_lt hNy
        simp [NumC] at c0 c1 c2 c3 c4 c5 c6
        go_wp2_with (at_builtin; refine wpList_append_sl sliceT_u8 rfl (.tmp 83) (.tmp 85) rfl rfl (hs3.keep ((Touch.refl [] _).alloc _) (by simp)) rfl (srcAt_one rfl) (by omega) ?_; intro ad1 c1' w4 g1 hs4 ht4 hn4; rw [← bytesV_snoc] at hs4; have hN4 := ht4.keep (alloc_old hNy _) hgl; have q0 := cell_at hN4 0; have p0 := free_at hN4 0; have q4 := block_lt hN4; simp [NumC] at q0)
        (try simp only [Exit.inBlock, Exit.then])
        refine hQ_.ret (results_tmp rfl _ _ _) rfl ?_
        refine pushPost_ok he.out ⟨set_same hN4 0 _, ?_, ?_⟩ (g' := g1) ?_ ?_
        · have := hs4.keep (Touch.setCell (F := [b]) (Touch.refl _ _) (p := ⟨b, 0, none⟩) (by simp) (.slice ad1 (l.length + 1) c1')) (fun k hk => by
            have := newOr_ne hn4 hg (by have := hTy.size; have := block_lt hNy; simp; omega) k hk
            simpa using this)
          rw [List.length_append]
          exact this
        · exact newOr_ne hn4 hg (by have := block_lt hNy; simp; omega)
        · exact newOr_of hn4 (by have := hTy.size; simp; omega)
        · refine Touch.setCell (Touch.step ((hTy.mono (by simp)).alloc _) ht4 (fun k hk => .inl (by simp at hk; simp [hk]))) (by simp) _
      | false =>
        rw [hmb] at hmy
        have he : Box (Num.push n x.toNat = .error (Num.why (n2))) := ⟨by rw [hfin.out]; unfold Num.fin; rw [if_neg (by rw [hmb]; simp)]⟩
        clear hmb
        refine (hmy _ hNx).mono ?_
        rintro e w5 ⟨rfl, ht3⟩
        try go_simp
        replace hNx : NumAt w5 b (.slice A l.length C) (n2) := ht3.keep hNx (by simp)
        replace hWx := ht3.keep hWx (by simp)
        replace hTx := hTx.trans (ht3.mono (by simp))
        have okz : Box (n2).Okz := ⟨(okL.out.ok (by omega)).z⟩
        clear ht3 hmy
        have hok2 : (n2).Okz := okz.out
        have hwy := fun w h => why_any b (.slice A l.length C) (n2) w h hok2
        go_wp2_with fail
        refine (hwy _ hNx).mono ?_
        rintro e w4 ⟨rfl, k4, rfl⟩
        try go_simp
        have hNy : NumAt (w5.drewN k4) b (.slice A l.length C) (n2) := hNx
        have hWy := drewN_heap hWx k4
        have hTy := hTx.drewN k4
        generalize w5.drewN k4 = w6 at *
        clear hwy hok2 hNx hWx hTx
        unfold NumAt at hNy
        have c0 := cell_at hNy 0
        have c1 := cell_at hNy 1
        have c2 := cell_at hNy 2
        have c3 := cell_at hNy 3
        have c4 := cell_at hNy 4
        have c5 := cell_at hNy 5
        have c6 := cell_at hNy 6
        have f0 := free_at hNy 0
        have f1 := free_at hNy 1
        have f2 := free_at hNy 2
        have f3 := free_at hNy 3
        have f4 := free_at hNy 4
        have f5 := free_at hNy 5
        have f6 := free_at hNy 6
        have lb := block_lt hNy
        simp [NumC] at c0 c1 c2 c3 c4 c5 c6
        have d0 := cell_at hWy 0
        have d1 := cell_at hWy 1
        have d2 := cell_at hWy 2
        have d3 := cell_at hWy 3
        have d4 := cell_at hWy 4
        have d5 := cell_at hWy 5
        have d6 := cell_at hWy 6
        have lB := block_lt hWy
        simp [NumC] at d0 d1 d2 d3 d4 d5 d6
        go_wp2
        (try simp only [Exit.inBlock, Exit.then])
        refine hQ_.ret (results_tmp rfl _ _ _) rfl ?_
        refine pushPost_err he.out (NumF_back hs hg ?_ ?_) ?_
        · exact set_same (set_same (set_same (set_same (set_same (set_same (set_same hNy 0 _) 1 _) 2 _) 3 _) 4 _) 5 _) 6 _
        · exact ((((((hTy.setCell (by simp) _).setCell (by simp) _).setCell (by simp) _).setCell (by simp) _).setCell (by simp) _).setCell (by simp) _).setCell (by simp) _
        · exact ((((((hTy.setCell (by simp) _).setCell (by simp) _).setCell (by simp) _).setCell (by simp) _).setCell (by simp) _).setCell (by simp) _).setCell (by simp) _
    · obtain ⟨hf1, hf2⟩ := hfig (by omega)
      have oe := ok.e
      unfold Num.far at oe
      obtain ⟨E, hE⟩ : ∃ E, E = min (10 * n.e + (x.toNat - 48)) Num.far := ⟨_, rfl⟩
      have hfin : Box (Num.push n x.toNat = Num.fin (Num.setE (Num.setA n 8) E)) := ⟨by rw [hE]; exact Num.push_power hn.out⟩
      have okL : Box ((Num.setE (Num.setA n 8) E).OkL (l.length + 1)) := ⟨⟨hp8, ok.m, Nat.le_succ_of_le ok.zeros, Nat.le_succ_of_le ok.behind, by show E ≤ _; rw [hE]; exact Nat.min_le_right _ _⟩⟩
      unfold NumAt at hN2
      have c0 := cell_at hN2 0
      have c1 := cell_at hN2 1
      have c2 := cell_at hN2 2
      have c3 := cell_at hN2 3
      have c4 := cell_at hN2 4
      have c5 := cell_at hN2 5
      have c6 := cell_at hN2 6
      have f0 := free_at hN2 0
      have f1 := free_at hN2 1
      have f2 := free_at hN2 2
      have f3 := free_at hN2 3
      have f4 := free_at hN2 4
      have f5 := free_at hN2 5
      have f6 := free_at hN2 6
      have lb := block_lt hN2
      simp [NumC] at c0 c1 c2 c3 c4 c5 c6
      rw [show (Num.setA n 8).e = n.e from rfl] at c6
      have hmin : min (10 * (n.e : Int) + ((x.toNat : Int) - 48)) 1000000000 = (E : Int) := by rw [hE]; unfold Num.far; omega
      replace hE := Box.mk hE
      go_upto_region 17 with (fail)
      clear c0 c1 c2 c3 c4 c5 c6 f0 f1 f2 f3 f4 f5 f6
      have hNx := num_set6 hN2 E
      have hWx := set_other (a := ⟨b, 6, none⟩) hW (by simp; omega) (.int .i64 E)
      have hTx := hT2.setCell (p := ⟨b, 6, none⟩) (by simp) (.int .i64 E)
      clear hN2 hW hT2 hfig hmin hE
      generalize W.setCell ⟨b, 6, none⟩ (.int .i64 E) = W at *
      generalize Num.setE (Num.setA n 8) E = n2 at *
      have hmy := fun w h => may_any b (.slice A l.length C) (n2) w h (okL.out.ok (by omega))
      go_wp2_with fail
      cases hmb : Num.may (n2) with
      | true =>
        rw [hmb] at hmy
        have he : Box (Num.push n x.toNat = .ok (n2)) := ⟨by rw [hfin.out]; unfold Num.fin; rw [if_pos hmb]⟩
        clear hmb
        refine (hmy _ hNx).mono ?_
        rintro e w3 ⟨rfl, ht3⟩
        try go_simp
        have hNy := ht3.keep hNx (by simp)
        have hTy := hTx.trans (ht3.mono (by simp))
        have hs3 := hs.keep hTy (fun k hk => by simpa using hg k hk)
        clear ht3 hNx hWx hTx hmy
        unfold NumAt at hNy
        have c0 := cell_at hNy 0
        have c1 := cell_at hNy 1
        have c2 := cell_at hNy 2
        have c3 := cell_at hNy 3
        have c4 := cell_at hNy 4
        have c5 := cell_at hNy 5
        have c6 := cell_at hNy 6
        have f0 := free_at hNy 0
        have f1 := free_at hNy 1
        have f2 := free_at hNy 2
        have f3 := free_at hNy 3
        have f4 := free_at hNy 4
        have f5 := free_at hNy 5
        have f6 := free_at hNy 6
        have lb := block_lt hNy
        simp [NumC] at c0 c1 c2 c3 c4 c5 c6
        go_wp2_with (at_builtin; refine wpList_append_sl sliceT_u8 rfl (.tmp 83) (.tmp 85) rfl rfl (hs3.keep ((Touch.refl [] _).alloc _) (by simp)) rfl (srcAt_one rfl) (by omega) ?_; intro ad1 c1' w4 g1 hs4 ht4 hn4; rw [← bytesV_snoc] at hs4; have hN4 := ht4.keep (alloc_old hNy _) hgl; have q0 := cell_at hN4 0; have p0 := free_at hN4 0; have q4 := block_lt hN4; simp [NumC] at q0)
        (try simp only [Exit.inBlock, Exit.then])
        refine hQ_.ret (results_tmp rfl _ _ _) rfl ?_
        refine pushPost_ok he.out ⟨set_same hN4 0 _, ?_, ?_⟩ (g' := g1) ?_ ?_
        · have := hs4.keep (Touch.setCell (F := [b]) (Touch.refl _ _) (p := ⟨b, 0, none⟩) (by simp) (.slice ad1 (l.length + 1) c1')) (fun k hk => by
            have := newOr_ne hn4 hg (by have := hTy.size; have := block_lt hNy; simp; omega) k hk
            simpa using this)
          rw [List.length_append]
          exact this
        · exact newOr_ne hn4 hg (by have := block_lt hNy; simp; omega)
        · exact newOr_of hn4 (by have := hTy.size; simp; omega)
        · refine Touch.setCell (Touch.step ((hTy.mono (by simp)).alloc _) ht4 (fun k hk => .inl (by simp at hk; simp [hk]))) (by simp) _
      | false =>
        rw [hmb] at hmy
        have he : Box (Num.push n x.toNat = .error (Num.why (n2))) := ⟨by rw [hfin.out]; unfold Num.fin; rw [if_neg (by rw [hmb]; simp)]⟩
        clear hmb
        refine (hmy _ hNx).mono ?_
        rintro e w5 ⟨rfl, ht3⟩
        try go_simp
        replace hNx : NumAt w5 b (.slice A l.length C) (n2) := ht3.keep hNx (by simp)
        replace hWx := ht3.keep hWx (by simp)
        replace hTx := hTx.trans (ht3.mono (by simp))
        have okz : Box (n2).Okz := ⟨(okL.out.ok (by omega)).z⟩
        clear ht3 hmy
        have hok2 : (n2).Okz := okz.out
        have hwy := fun w h => why_any b (.slice A l.length C) (n2) w h hok2
        go_wp2_with fail
        refine (hwy _ hNx).mono ?_
        rintro e w4 ⟨rfl, k4, rfl⟩
        try go_simp
        have hNy : NumAt (w5.drewN k4) b (.slice A l.length C) (n2) := hNx
        have hWy := drewN_heap hWx k4
        have hTy := hTx.drewN k4
        generalize w5.drewN k4 = w6 at *
        clear hwy hok2 hNx hWx hTx
        unfold NumAt at hNy
        have c0 := cell_at hNy 0
        have c1 := cell_at hNy 1
        have c2 := cell_at hNy 2
        have c3 := cell_at hNy 3
        have c4 := cell_at hNy 4
        have c5 := cell_at hNy 5
        have c6 := cell_at hNy 6
        have f0 := free_at hNy 0
        have f1 := free_at hNy 1
        have f2 := free_at hNy 2
        have f3 := free_at hNy 3
        have f4 := free_at hNy 4
        have f5 := free_at hNy 5
        have f6 := free_at hNy 6
        have lb := block_lt hNy
        simp [NumC] at c0 c1 c2 c3 c4 c5 c6
        have d0 := cell_at hWy 0
        have d1 := cell_at hWy 1
        have d2 := cell_at hWy 2
        have d3 := cell_at hWy 3
        have d4 := cell_at hWy 4
        have d5 := cell_at hWy 5
        have d6 := cell_at hWy 6
        have lB := block_lt hWy
        simp [NumC] at d0 d1 d2 d3 d4 d5 d6
        go_wp2
        (try simp only [Exit.inBlock, Exit.then])
        refine hQ_.ret (results_tmp rfl _ _ _) rfl ?_
        refine pushPost_err he.out (NumF_back hs hg ?_ ?_) ?_
        · exact set_same (set_same (set_same (set_same (set_same (set_same (set_same hNy 0 _) 1 _) 2 _) 3 _) 4 _) 5 _) 6 _
        · exact ((((((hTy.setCell (by simp) _).setCell (by simp) _).setCell (by simp) _).setCell (by simp) _).setCell (by simp) _).setCell (by simp) _).setCell (by simp) _
        · exact ((((((hTy.setCell (by simp) _).setCell (by simp) _).setCell (by simp) _).setCell (by simp) _).setCell (by simp) _).setCell (by simp) _).setCell (by simp) _
    · have e2 : ((p : Int) == 2) = false := by simp; omega
      have e3 : ((p : Int) == 3) = false := by simp; omega
      have e5 : ((p : Int) == 5) = false := by simp; omega
      have e7 : ((p : Int) == 7) = false := by simp; omega
      have e8 : ((p : Int) == 8) = false := by simp; omega
      have hfin : Box (Num.push n x.toNat = Num.fin (Num.setA n p)) := ⟨Num.push_other hn.out (by omega)⟩
      have okL : Box ((Num.setA n p).OkL (l.length + 1)) := ⟨⟨hp8, ok.m, Nat.le_succ_of_le ok.zeros, Nat.le_succ_of_le ok.behind, ok.e⟩⟩
      have hNx := hN2
      have hWx := hW
      have hTx := hT2
      clear hN2 hW hT2 hfig
      have hmy := fun w h => may_any b (.slice A l.length C) (Num.setA n p) w h (okL.out.ok (by omega))
      go_wp2_with fail
      cases hmb : Num.may (Num.setA n p) with
      | true =>
        rw [hmb] at hmy
        have he : Box (Num.push n x.toNat = .ok (Num.setA n p)) := ⟨by rw [hfin.out]; unfold Num.fin; rw [if_pos hmb]⟩
        clear hmb
        refine (hmy _ hNx).mono ?_
        rintro e w3 ⟨rfl, ht3⟩
        try go_simp
        have hNy := ht3.keep hNx (by simp)
        have hTy := hTx.trans (ht3.mono (by simp))
        have hs3 := hs.keep hTy (fun k hk => by simpa using hg k hk)
        clear ht3 hNx hWx hTx hmy
        unfold NumAt at hNy
        have c0 := cell_at hNy 0
        have c1 := cell_at hNy 1
        have c2 := cell_at hNy 2
        have c3 := cell_at hNy 3
        have c4 := cell_at hNy 4
        have c5 := cell_at hNy 5
        have c6 := cell_at hNy 6
        have f0 := free_at hNy 0
        have f1 := free_at hNy 1
        have f2 := free_at hNy 2
        have f3 := free_at hNy 3
        have f4 := free_at hNy 4
        have f5 := free_at hNy 5
        have f6 := free_at hNy 6
        have lb := block_lt hNy
        simp [NumC] at c0 c1 c2 c3 c4 c5 c6
        go_wp2_with (at_builtin; refine wpList_append_sl sliceT_u8 rfl (.tmp 83) (.tmp 85) rfl rfl (hs3.keep ((Touch.refl [] _).alloc _) (by simp)) rfl (srcAt_one rfl) (by omega) ?_; intro ad1 c1' w4 g1 hs4 ht4 hn4; rw [← bytesV_snoc] at hs4; have hN4 := ht4.keep (alloc_old hNy _) hgl; have q0 := cell_at hN4 0; have p0 := free_at hN4 0; have q4 := block_lt hN4; simp [NumC] at q0)
        (try simp only [Exit.inBlock, Exit.then])
        refine hQ_.ret (results_tmp rfl _ _ _) rfl ?_
        refine pushPost_ok he.out ⟨set_same hN4 0 _, ?_, ?_⟩ (g' := g1) ?_ ?_
        · have := hs4.keep (Touch.setCell (F := [b]) (Touch.refl _ _) (p := ⟨b, 0, none⟩) (by simp) (.slice ad1 (l.length + 1) c1')) (fun k hk => by
            have := newOr_ne hn4 hg (by have := hTy.size; have := block_lt hNy; simp; omega) k hk
            simpa using this)
          rw [List.length_append]
          exact this
        · exact newOr_ne hn4 hg (by have := block_lt hNy; simp; omega)
        · exact newOr_of hn4 (by have := hTy.size; simp; omega)
        · refine Touch.setCell (Touch.step ((hTy.mono (by simp)).alloc _) ht4 (fun k hk => .inl (by simp at hk; simp [hk]))) (by simp) _
      | false =>
        rw [hmb] at hmy
        have he : Box (Num.push n x.toNat = .error (Num.why (Num.setA n p))) := ⟨by rw [hfin.out]; unfold Num.fin; rw [if_neg (by rw [hmb]; simp)]⟩
        clear hmb
        refine (hmy _ hNx).mono ?_
        rintro e w5 ⟨rfl, ht3⟩
        try go_simp
        replace hNx : NumAt w5 b (.slice A l.length C) (Num.setA n p) := ht3.keep hNx (by simp)
        replace hWx := ht3.keep hWx (by simp)
        replace hTx := hTx.trans (ht3.mono (by simp))
        have okz : Box (Num.setA n p).Okz := ⟨(okL.out.ok (by omega)).z⟩
        clear ht3 hmy
        have hok2 : (Num.setA n p).Okz := okz.out
        have hwy := fun w h => why_any b (.slice A l.length C) (Num.setA n p) w h hok2
        go_wp2_with fail
        refine (hwy _ hNx).mono ?_
        rintro e w4 ⟨rfl, k4, rfl⟩
        try go_simp
        have hNy : NumAt (w5.drewN k4) b (.slice A l.length C) (Num.setA n p) := hNx
        have hWy := drewN_heap hWx k4
        have hTy := hTx.drewN k4
        generalize w5.drewN k4 = w6 at *
        clear hwy hok2 hNx hWx hTx
        unfold NumAt at hNy
        have c0 := cell_at hNy 0
        have c1 := cell_at hNy 1
        have c2 := cell_at hNy 2
        have c3 := cell_at hNy 3
        have c4 := cell_at hNy 4
        have c5 := cell_at hNy 5
        have c6 := cell_at hNy 6
        have f0 := free_at hNy 0
        have f1 := free_at hNy 1
        have f2 := free_at hNy 2
        have f3 := free_at hNy 3
        have f4 := free_at hNy 4
        have f5 := free_at hNy 5
        have f6 := free_at hNy 6
        have lb := block_lt hNy
        simp [NumC] at c0 c1 c2 c3 c4 c5 c6
        have d0 := cell_at hWy 0
        have d1 := cell_at hWy 1
        have d2 := cell_at hWy 2
        have d3 := cell_at hWy 3
        have d4 := cell_at hWy 4
        have d5 := cell_at hWy 5
        have d6 := cell_at hWy 6
        have lB := block_lt hWy
        simp [NumC] at d0 d1 d2 d3 d4 d5 d6
        go_wp2
        (try simp only [Exit.inBlock, Exit.then])
        refine hQ_.ret (results_tmp rfl _ _ _) rfl ?_
        refine pushPost_err he.out (NumF_back hs hg ?_ ?_) ?_
        · exact set_same (set_same (set_same (set_same (set_same (set_same (set_same hNy 0 _) 1 _) 2 _) 3 _) 4 _) 5 _) 6 _
        · exact ((((((hTy.setCell (by simp) _).setCell (by simp) _).setCell (by simp) _).setCell (by simp) _).setCell (by simp) _).setCell (by simp) _).setCell (by simp) _
        · exact ((((((hTy.setCell (by simp) _).setCell (by simp) _).setCell (by simp) _).setCell (by simp) _).setCell (by simp) _).setCell (by simp) _).setCell (by simp) _
end Go.Proofs.YthdncmagfgoboaaGreatDoor
