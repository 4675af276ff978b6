/- The reference's layer of digits: what may be asked, whole numbers. -/
import Derived.Test.YtcpfooceadgccaaDoorDigRA
import Derived.Outline
namespace Go.Proofs.YtcpfooceadgccaaDoor
open Go.RowKit
set_option maxRecDepth 100000
set_option maxHeartbeats 4000000
set_option linter.unusedVariables false
set_option linter.unusedSimpArgs false

theorem rcheck_any (x : Dig.Dec) (w : World) (hl : x.d.length ≤ 9223372036854775807) :
    Calls Tryd.prog 16 #[dec x] w fun e w' => e = .returned (.bool (Dig.check x)) ∧ Touch [] w w' := by
  obtain ⟨sg, d, E⟩ := x
  have hl : d.length ≤ 9223372036854775807 := hl
  have sz := str_size d
  go_enter Tryd.func16, Tryd.ntmps16
  go_wp2
  obtain ⟨W, hW⟩ : ∃ W, W = (w.alloc (Obj.cells #[.bool sg, .string (str d), .int .i64 E] 23)) := ⟨_, rfl⟩
  have hA : W.heap[w.heap.size]? = some (.cells #[.bool sg, .string (str d), .int .i64 E] 23) := by rw [hW]; exact alloc_new _ _
  have hT : Touch [] w W := by rw [hW]; exact (Touch.refl _ _).alloc _
  have c1 := cell_at hA 1
  have c2 := cell_at hA 2
  simp at c1 c2
  clear hA
  rw [← hW]
  clear hW
  go_loop [3] (fun i => ∃ k : Nat, k ≤ d.length ∧ i = .int .i64 k ∧ (d.take k).all Dig.dig = true) (fun i => d.length - (intOf i).toNat)
  case atStart => exact ⟨0, by omega, rfl, by simp⟩
  case round =>
    obtain ⟨k, hk, rfl, hall⟩ := hrel
    have hallb : Box ((d.take k).all Dig.dig = true) := ⟨hall⟩
    clear hall
    by_cases hlt : k < d.length
    · obtain ⟨c, hc⟩ : ∃ c, d[k]? = some c := ⟨d[k], by simp [hlt]⟩
      have i0 : ∀ w, (Instr.index 9 (.string (str d)) (.int .i64 (k : Int))).run Tryd.prog w = .ok (.int .u8 c.toNat) w := fun w => run_ix Tryd.underlying9 d .i64 k c hc w
      have hcb : Box (d[k]? = some c) := ⟨hc⟩
      clear hc
      by_cases h1 : c.toNat < 48
      · have hf : Box (Dig.check ⟨sg, d, E⟩ = false) := ⟨by
          have : d.all Dig.dig = false := by
            rw [List.all_eq_false]
            exact ⟨c, List.mem_of_getElem? hcb.out, by unfold Dig.dig; simp; omega⟩
          unfold Dig.check; rw [this]; rfl⟩
        go_wp2
        go_ret
        exact ⟨by rw [hf.out]; rfl, hT⟩
      by_cases h2 : 57 < c.toNat
      · have hf : Box (Dig.check ⟨sg, d, E⟩ = false) := ⟨by
          have : d.all Dig.dig = false := by
            rw [List.all_eq_false]
            exact ⟨c, List.mem_of_getElem? hcb.out, by unfold Dig.dig; simp; omega⟩
          unfold Dig.check; rw [this]; rfl⟩
        go_wp2
        go_ret
        exact ⟨by rw [hf.out]; rfl, hT⟩
      go_wp2
      go_round
      case measure => simp [intOf]; omega
      case rel =>
        refine ⟨k + 1, by omega, by go_num, ?_⟩
        rw [List.take_add_one, hcb.out, List.all_append, hallb.out]
        simp [Dig.dig]
        omega
    · have hkd : d.take k = d := List.take_of_length_le (by omega)
      have hdb : Box (d.all Dig.dig = true) := ⟨by have := hallb.out; rw [hkd] at this; exact this⟩
      clear hkd
      by_cases h1 : -1000000000 ≤ E
      · have t1 : decide (-1000000000 ≤ E) = true := by simpa using h1
        have hf : Box (Dig.check ⟨sg, d, E⟩ = decide (E ≤ 1000000000)) := ⟨by unfold Dig.check; rw [hdb.out, t1]; rfl⟩
        go_wp2
        go_ret
        exact ⟨by rw [hf.out]; rfl, hT⟩
      · have t1 : decide (-1000000000 ≤ E) = false := by simpa using h1
        have hf : Box (Dig.check ⟨sg, d, E⟩ = false) := ⟨by unfold Dig.check; rw [hdb.out, t1]; rfl⟩
        go_wp2
        go_ret
        exact ⟨by rw [hf.out]; rfl, hT⟩

theorem rnorm_y (s : Bool) (d : List UInt8) (e : Int) (y : Dig.Dec) (w : World) (hy : Box (y = Dig.norm ⟨s, d, e⟩)) (hl : d.length ≤ 1000000000000) (he : e ≤ 1000000000000) (he' : -1000000000000 ≤ e) :
    Calls Tryd.prog 25 #[.agg #[.bool s, .string (str d), .int .i64 e]] w fun r w' => r = .returned (.agg #[.bool y.neg, .string (str y.d), .int .i64 y.e]) ∧ Touch [] w w' := by
  rw [hy.out]
  exact rnorm_any ⟨s, d, e⟩ w hl he he'

theorem rint_any (x : Dig.Dec) (w : World) (hl : x.d.length ≤ 1000000000000) (he : x.e ≤ 1000000000000) (he' : -1000000000000 ≤ x.e) (hd : x.d.all Dig.dig = true) :
    Calls Tryd.prog 23 #[dec x] w fun e w' => e = .returned (.tuple #[.int .i64 (Dig.int x).1, .int .i64 (Dig.int x).2]) ∧ Touch [] w w' := by
  obtain ⟨sg, d, E⟩ := x
  obtain ⟨y, hy⟩ : ∃ y, y = Dig.norm ⟨sg, d, E⟩ := ⟨_, rfl⟩
  have hyd : y.d.all Dig.dig = true := by rw [hy, Dig.norm_d]; exact Dig.core_all d hd
  have hyl : y.d.length ≤ 1000000000000 := by rw [hy, Dig.norm_d]; exact Nat.le_trans (Dig.core_le d) hl
  have hyi : Box (Dig.int ⟨sg, d, E⟩ = Dig.intN y) := ⟨by rw [hy]; rfl⟩
  have hyE : y.e ≤ 2000000000000 ∧ -2000000000000 ≤ y.e := by rw [hy]; exact Dig.norm_e_bound _ hl he he'
  replace hy : Box (y = Dig.norm ⟨sg, d, E⟩) := ⟨hy⟩
  obtain ⟨s', d', e'⟩ := y
  obtain ⟨hE1, hE2⟩ : e' ≤ 2000000000000 ∧ -2000000000000 ≤ e' := hyE
  replace hyd : Box (d'.all Dig.dig = true) := ⟨hyd⟩
  have hyl : d'.length ≤ 1000000000000 := hyl
  have sz := str_size d'
  simp only [dec]
  by_cases h0 : e' < 0
  · have hr : Box (Dig.intN ⟨s', d', e'⟩ = (0, 7)) := ⟨by unfold Dig.intN; rw [if_pos h0]⟩
    go_enter Tryd.func23, Tryd.ntmps23
    go_wp2_with fail
    refine (rnorm_y sg d E _ _ hy hl he he').mono ?_
    rintro e w1 ⟨rfl, ht1⟩
    try go_simp
    go_wp2
    go_ret2
    exact ⟨by rw [hyi.out, hr.out]; rfl, ((Touch.refl _ _).alloc _).trans ht1 |>.alloc _⟩
  by_cases h1 : 16 < (d'.length : Int) + e'
  · have hr : Box (Dig.intN ⟨s', d', e'⟩ = (0, 8)) := ⟨by unfold Dig.intN; rw [if_neg h0, if_pos h1]⟩
    go_enter Tryd.func23, Tryd.ntmps23
    go_wp2_with fail
    refine (rnorm_y sg d E _ _ hy hl he he').mono ?_
    rintro e w1 ⟨rfl, ht1⟩
    try go_simp
    go_wp2
    go_ret2
    exact ⟨by rw [hyi.out, hr.out]; rfl, ((Touch.refl _ _).alloc _).trans ht1 |>.alloc _⟩
  go_enter Tryd.func23, Tryd.ntmps23
  go_wp2_with fail
  refine (rnorm_y sg d E _ _ hy hl he he').mono ?_
  rintro e w1 ⟨rfl, ht1⟩
  try go_simp
  go_wp2
  have hA : (w1.alloc (Obj.cells #[.bool s', .string (str d'), .int .i64 e'] 23)).heap[w1.heap.size]? = some (.cells #[.bool s', .string (str d'), .int .i64 e'] 23) := alloc_new _ _
  have hT : Touch [] w (w1.alloc (Obj.cells #[.bool s', .string (str d'), .int .i64 e'] 23)) := (((Touch.refl _ _).alloc _).trans ht1).alloc _
  obtain ⟨W, hW⟩ : ∃ W, W = w1.alloc (Obj.cells #[.bool s', .string (str d'), .int .i64 e'] 23) := ⟨_, rfl⟩
  rw [← hW] at hA hT ⊢
  clear hW
  have c0 := cell_at hA 0
  have c1 := cell_at hA 1
  have c2 := cell_at hA 2
  simp at c0 c1 c2
  clear hA
  go_loop [5, 6] (fun n i => ∃ k : Nat, k ≤ d'.length ∧ i = .int .i64 k ∧ n = .int .i64 (Dig.val (d'.take k) : Nat)) (fun _ i => d'.length - (intOf i).toNat)
  case atStart => exact ⟨0, by omega, rfl, rfl⟩
  case round =>
    obtain ⟨k, hk, rfl, rfl⟩ := hrel
    obtain ⟨v, hv⟩ : ∃ v, v = Dig.val (d'.take k) := ⟨_, rfl⟩
    have hvb : v < 10 ^ 16 := by
      rw [hv]
      refine Nat.lt_of_lt_of_le (Dig.val_lt _ (Dig.take_all _ k hyd.out)) (Nat.pow_le_pow_right (by omega) ?_)
      rw [List.length_take]; omega
    have hvb : v < 10000000000000000 := hvb
    rw [← hv]
    replace hv : Box (v = Dig.val (d'.take k)) := ⟨hv⟩
    by_cases hlt : k < d'.length
    · obtain ⟨c, hc⟩ : ∃ c, d'[k]? = some c := ⟨d'[k], by simp [hlt]⟩
      have hcd := Dig.dig_le c (Dig.all_mem _ k c hyd.out hc)
      have i0 : ∀ w, (Instr.index 9 (.string (str d')) (.int .i64 (k : Int))).run Tryd.prog w = .ok (.int .u8 c.toNat) w := fun w => run_ix Tryd.underlying9 d' .i64 k c hc w
      have hcb : Box (d'[k]? = some c) := ⟨hc⟩
      clear hc
      go_wp2
      go_round
      case measure => simp [intOf]; omega
      case rel =>
        refine ⟨k + 1, by omega, by go_num, ?_⟩
        rw [List.take_add_one, hcb.out, Option.toList_some, Dig.val_snoc, ← hv.out]
        congr 1
        omega
    · have hkd : d'.take k = d' := List.take_of_length_le (by omega)
      replace hv : Box (v = Dig.val d') := ⟨by rw [hv.out, hkd]⟩
      clear hkd
      go_wp2
      obtain ⟨E1, rfl⟩ : ∃ E1 : Nat, e' = E1 := ⟨e'.toNat, by omega⟩
      go_loop [5, 7] (fun n i => ∃ j : Nat, j ≤ E1 ∧ i = .int .i64 j ∧ n = .int .i64 (v * 10 ^ j : Nat)) (fun _ i => E1 - (intOf i).toNat)
      case atStart => exact ⟨0, by omega, rfl, by simp⟩
      case round =>
        obtain ⟨j, hj, rfl, rfl⟩ := hrel
        obtain ⟨u, hu⟩ : ∃ u, u = v * 10 ^ j := ⟨_, rfl⟩
        have hub : u < 10000000000000000 := by
          have h1 : v < 10 ^ d'.length := by rw [hv.out]; exact Dig.val_lt _ hyd.out
          have h2 : u < 10 ^ d'.length * 10 ^ j := by rw [hu]; exact Nat.mul_lt_mul_of_pos_right h1 (Nat.pow_pos (by omega))
          rw [← Nat.pow_add] at h2
          have h3 : 10 ^ (d'.length + j) ≤ 10 ^ 16 := Nat.pow_le_pow_right (by omega) (by omega)
          have h4 : (10 : Nat) ^ 16 = 10000000000000000 := by decide
          omega
        rw [← hu]
        replace hu : Box (u = v * 10 ^ j) := ⟨hu⟩
        by_cases hlt2 : j < E1
        · go_wp2
          go_round
          case measure => simp [intOf]; omega
          case rel => exact ⟨j + 1, by omega, by go_num, by rw [Nat.pow_succ, ← Nat.mul_assoc, ← hu.out]; congr 1; omega⟩
        · have hjE : j = E1 := by omega
          have hr : Box (Dig.intN ⟨s', d', E1⟩ = if 9007199254740991 < u then (0, 8) else (if s' = true then -(u : Int) else u, 0)) := ⟨by
            unfold Dig.intN
            rw [if_neg (show ¬ ((E1 : Int) < 0) by omega), if_neg (show ¬ (16 < (d'.length : Int) + (E1 : Int)) by omega)]
            have : Dig.val d' * 10 ^ (E1 : Int).toNat = u := by rw [hu.out, hv.out, hjE]; simp
            simp only [this]⟩
          clear hjE
          by_cases h2 : 9007199254740991 < u
          · go_wp2
            go_ret2
            exact ⟨by rw [hyi.out, hr.out, if_pos h2]; rfl, hT⟩
          · cases hs : s' with
            | true =>
              rw [hs] at c0
              go_wp2
              go_ret2
              exact ⟨by rw [hyi.out, hr.out, if_neg h2, hs]; rfl, hT⟩
            | false =>
              rw [hs] at c0
              go_wp2
              go_ret2
              exact ⟨by rw [hyi.out, hr.out, if_neg h2, hs]; rfl, hT⟩
end Go.Proofs.YtcpfooceadgccaaDoor
