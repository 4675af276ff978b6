/- The program's layer of digits: whole numbers. -/
import Derived.Test.YtcpfooceadgccaaDoorDigQ
import Derived.Deep.DeepCutAuto
import Derived.Deep.RegionHeld3
import Derived.Outline
namespace Go.Proofs.YtcpfooceadgccaaDoor
open Go.RowKit Go.Shelf
set_option maxRecDepth 100000
set_option maxHeartbeats 4000000
set_option linter.unusedVariables false
set_option linter.unusedSimpArgs false

theorem repeatL_zero : ∀ c, Lib.repeatL [48] c = List.replicate c (48 : UInt8)
  | 0 => rfl
  | c + 1 => by
    show [48] ++ Lib.repeatL [48] c = _
    rw [repeatL_zero c]; rfl
theorem rep_zero (c : Nat) (w : World) (hc : c ≤ 1000) :
    Calls Tryd.prog 46 #[.string ⟨#[48]⟩, .int .i64 c] w fun e w' => e = .returned (.string (str (List.replicate c 48))) ∧ Touch [] w w' := by
  refine (Tryd.strings_Repeat ⟨#[48]⟩ c w (by omega) (by show 1 * c ≤ _; omega)).mono fun e w' ⟨h1, h2⟩ => ⟨?_, Touch.of_below h2 _⟩
  rw [h1]
  have e1 : Lib.repeatL [48] c = List.replicate c (48 : UInt8) := repeatL_zero c
  show Ending.returned (.string ⟨(Lib.repeatL [48] c).toArray⟩) = _
  rw [e1]
  rfl

theorem pint_any (x : Dig.Dec) (w : World) (hl : x.d.length ≤ 1000000000000) (he : x.e ≤ 1000000000000) (he' : -1000000000000 ≤ x.e) (hd : x.d.all Dig.dig = true) :
    Calls Tryd.prog 22 #[dec x] w fun e w' => e = .returned (.tuple #[.int .i64 (Dig.int x).1, .int .i64 (Dig.int x).2]) ∧ Touch [] w w' := by
  obtain ⟨sg, d, E⟩ := x
  obtain ⟨y, hy⟩ : ∃ y, y = Dig.norm ⟨sg, d, E⟩ := ⟨_, rfl⟩
  have hyd : y.d.all Dig.dig = true := by rw [hy, Dig.norm_d]; exact Dig.core_all d hd
  have hyl : y.d.length ≤ 1000000000000 := by rw [hy, Dig.norm_d]; exact Nat.le_trans (Dig.core_le d) hl
  have hyi : Box (Dig.int ⟨sg, d, E⟩ = Dig.intN y) := ⟨by rw [hy]; rfl⟩
  have hyE : y.e ≤ 2000000000000 ∧ -2000000000000 ≤ y.e := by rw [hy]; exact Dig.norm_e_bound _ hl he he'
  have hnc := fun w => pnorm_any ⟨sg, d, E⟩ w hl he he'
  rw [← hy] at hnc
  replace hnc : ∀ w, Calls Tryd.prog 24 #[.agg #[.bool sg, .string (str d), .int .i64 E]] w fun r w' => r = .returned (.agg #[.bool y.neg, .string (str y.d), .int .i64 y.e]) ∧ Touch [] w w' := hnc
  clear hy
  obtain ⟨s', d', e'⟩ := y
  obtain ⟨hE1, hE2⟩ : e' ≤ 2000000000000 ∧ -2000000000000 ≤ e' := hyE
  replace hyd : Box (d'.all Dig.dig = true) := ⟨hyd⟩
  have hyl : d'.length ≤ 1000000000000 := hyl
  have sz := str_size d'
  simp only [dec]
  go_enter Tryd.func22, Tryd.ntmps22
  go_wp2_with fail
  refine (hnc _).mono ?_
  rintro r w1 ⟨rfl, ht1⟩
  try go_simp
  have hA1 : w1.heap[w.heap.size]? = some (.cells #[.bool sg, .string (str d), .int .i64 E] 23) := ht1.keep (alloc_new _ _) (by simp)
  have hT1 : Touch [] w w1 := ((Touch.refl _ _).alloc _).trans ht1
  clear ht1 hnc
  have a0 := cell_at hA1 0
  have a1 := cell_at hA1 1
  have a2 := cell_at hA1 2
  have b0 := free_at hA1 0
  have b1 := free_at hA1 1
  have b2 := free_at hA1 2
  have hz0 : w.heap.size < w1.heap.size := block_lt hA1
  simp at a0 a1 a2
  by_cases h0 : e' < 0
  · have hr : Box (Dig.intN ⟨s', d', e'⟩ = (0, 7)) := ⟨by unfold Dig.intN; rw [if_pos h0]⟩
    go_wp2
    go_ret2
    exact ⟨by rw [hyi.out, hr.out]; rfl, ((hT1.setCell (by simp) _).setCell (by simp) _).setCell (by simp) _⟩
  by_cases h1 : 16 < (d'.length : Int) + e'
  · have hr : Box (Dig.intN ⟨s', d', e'⟩ = (0, 8)) := ⟨by unfold Dig.intN; rw [if_neg h0, if_pos h1]⟩
    by_cases h2 : 16 < e'
    · go_wp2
      go_ret2
      exact ⟨by rw [hyi.out, hr.out]; rfl, ((hT1.setCell (by simp) _).setCell (by simp) _).setCell (by simp) _⟩
    · go_wp2
      go_ret2
      exact ⟨by rw [hyi.out, hr.out]; rfl, ((hT1.setCell (by simp) _).setCell (by simp) _).setCell (by simp) _⟩
  have h2 : ¬ 16 < e' := by omega
  obtain ⟨E1, rfl⟩ : ∃ E1 : Nat, e' = E1 := ⟨e'.toNat, by omega⟩
  have hlE : d'.length + E1 ≤ 16 := by omega
  go_upto_region 7 with (fail)
  have hA : ((((w1.setCell ⟨w.heap.size, 0, none⟩ (.bool s')).setCell ⟨w.heap.size, 1, none⟩ (.string (str d'))).setCell ⟨w.heap.size, 2, none⟩ (.int .i64 E1))).heap[w.heap.size]? = some (.cells #[.bool s', .string (str d'), .int .i64 E1] 23) := set_same (set_same (set_same hA1 0 _) 1 _) 2 _
  have hT : Touch [] w ((((w1.setCell ⟨w.heap.size, 0, none⟩ (.bool s')).setCell ⟨w.heap.size, 1, none⟩ (.string (str d'))).setCell ⟨w.heap.size, 2, none⟩ (.int .i64 E1))) := ((hT1.setCell (by simp) _).setCell (by simp) _).setCell (by simp) _
  obtain ⟨W, hW⟩ : ∃ W, W = ((((w1.setCell ⟨w.heap.size, 0, none⟩ (.bool s')).setCell ⟨w.heap.size, 1, none⟩ (.string (str d'))).setCell ⟨w.heap.size, 2, none⟩ (.int .i64 E1))) := ⟨_, rfl⟩
  rw [← hW] at hA hT ⊢
  clear hW a0 a1 a2 b0 b1 b2 hz0 hA1 hT1
  have hc : ∀ w', Touch [] W w' → ∀ i, w'.cell? ⟨w.heap.size, i, none⟩ = (#[.bool s', .string (str d'), .int .i64 E1] : Array Value)[i]? := fun w' h => cell_at (h.keep hA (by simp))
  obtain ⟨X, hX⟩ : ∃ X, X = d' ++ List.replicate E1 48 := ⟨_, rfl⟩
  have hXl : X.length = d'.length + E1 := by rw [hX]; simp
  have hcat : ∀ w, (Op.stringOp .add (str d') (str (List.replicate E1 48))).run Tryd.prog w = .ok (.string (str X)) w := by rw [hX]; exact run_cat d' _ (by simp; omega)
  have hcv := conv_to X
  have szX := str_size X
  replace hX : Box (X = d' ++ List.replicate E1 48) := ⟨hX⟩
  replace hXl : Box (X.length = d'.length + E1) := ⟨hXl⟩
  have hXb : X.length ≤ 16 := by have := hXl.out; omega
  go_cut [32, 33, 34] (fun v32 v33 v34 wx => ∃ (g C : Nat), v32 = .slice (some ⟨g, 0, none⟩) X.length C ∧ v33 = .int .i64 X.length ∧ v34 = .int .i64 0 ∧ Box (∀ j b, X[j]? = some b → wx.cell? ⟨g, j, none⟩ = some (.int .u8 b.toNat)) ∧ Touch [] W wx)
  case first =>
    have hc0 := hc W (Touch.refl _ _)
    go_region_with (first
      | (go_at_call 46
         refine (rep_zero E1 _ (by omega)).mono ?_
         rintro r w2 ⟨rfl, ht2⟩
         have hT2 : Touch [] W w2 := (by refine Touch.trans ?_ ht2; repeat (first | exact Touch.refl _ _ | apply Touch.drew))
         have hc2 := hc w2 hT2))
    all_goals
      go_wp2_with fail
      go_meet
      exact ⟨_, _, rfl, rfl, rfl, ⟨fun j b hj => by
        have := Lib.bytesWorld_cell w2 5 (str X) j (by rw [str_size]; exact (List.getElem?_eq_some_iff.1 hj).1)
        rw [str_data, List.getD_eq_getElem?_getD, hj] at this
        exact this⟩, hT2.trans (touch_bytes w2 (str X))⟩
  case rest =>
    obtain ⟨g, C, rfl, rfl, rfl, hcell, hT2⟩ := hcut
    have hA2 := hT2.keep hA (by simp)
    replace hT2 := hT.trans hT2
    have c0 := cell_at hA2 0
    simp at c0
    clear hc hA hA2 hcat hcv hT
    have hXd : Box (X.all Dig.dig = true) := ⟨by
      rw [hX.out, List.all_append, hyd.out, List.all_eq_true.2 (fun b hb => by rw [List.mem_replicate] at hb; rw [hb.2]; rfl)]; rfl⟩
    go_wp2
    go_loop [4, 34] (fun n i => ∃ k : Nat, k ≤ X.length ∧ i = .int .i64 k ∧ n = .int .i64 (Dig.val (X.take k) : Nat)) (fun _ i => X.length - (intOf i).toNat)
    case atStart => exact ⟨0, by omega, rfl, rfl⟩
    case round =>
      obtain ⟨k, hk, rfl, rfl⟩ := hrel
      obtain ⟨v, hv⟩ : ∃ v, v = Dig.val (X.take k) := ⟨_, rfl⟩
      have hvb : v < 10 ^ 16 := by
        rw [hv]
        refine Nat.lt_of_lt_of_le (Dig.val_lt _ (Dig.take_all _ k hXd.out)) (Nat.pow_le_pow_right (by omega) ?_)
        rw [List.length_take]; omega
      have hvb : v < 10000000000000000 := hvb
      rw [← hv]
      replace hv : Box (v = Dig.val (X.take k)) := ⟨hv⟩
      by_cases hlt : k < X.length
      · obtain ⟨c, hc⟩ : ∃ c, X[k]? = some c := ⟨X[k], by simp [hlt]⟩
        have hcd := Dig.dig_le c (Dig.all_mem _ k c hXd.out hc)
        have hcl := hcell.out k c hc
        have hcb : Box (X[k]? = some c) := ⟨hc⟩
        clear hc
        go_wp2
        go_round
        case measure => simp [intOf]; omega
        case rel =>
          refine ⟨k + 1, by omega, by go_num, ?_⟩
          rw [List.take_add_one, hcb.out, Option.toList_some, Dig.val_snoc, ← hv.out]
          congr 1
          omega
      · have hkd : X.take k = X := List.take_of_length_le (by omega)
        have hr : Box (Dig.intN ⟨s', d', E1⟩ = if 9007199254740991 < v then (0, 8) else (if s' = true then -(v : Int) else v, 0)) := ⟨by
          unfold Dig.intN
          rw [if_neg (show ¬ ((E1 : Int) < 0) by omega), if_neg (show ¬ (16 < (d'.length : Int) + (E1 : Int)) by omega)]
          have : Dig.val d' * 10 ^ (E1 : Int).toNat = v := by rw [hv.out, hkd, hX.out, Dig.val_back]; simp
          simp only [this]⟩
        clear hkd
        by_cases h3 : 9007199254740991 < v
        · go_wp2
          go_ret2
          exact ⟨by rw [hyi.out, hr.out, if_pos h3]; rfl, hT2⟩
        · cases hs : s' with
          | true =>
            rw [hs] at c0
            go_wp2
            go_ret2
            exact ⟨by rw [hyi.out, hr.out, if_neg h3, hs]; rfl, hT2⟩
          | false =>
            rw [hs] at c0
            go_wp2
            go_ret2
            exact ⟨by rw [hyi.out, hr.out, if_neg h3, hs]; rfl, hT2⟩
end Go.Proofs.YtcpfooceadgccaaDoor
