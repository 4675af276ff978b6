/- The law's awake of the layer of digits. -/
import Derived.Test.YtcpfooceadgccaaDoorDigC
import Derived.Outline
namespace Go.Proofs.YtcpfooceadgccaaDoor
open Go.RowKit
set_option maxRecDepth 100000
set_option maxHeartbeats 4000000
set_option linter.unusedVariables false
set_option linter.unusedSimpArgs false

theorem pread_at (l : List UInt8) (y : Dig.Dec) (w : World) (h : Dig.read l = some y) (hl : l.length ≤ 100000000000) :
    Calls Tryd.prog 17 #[.string (str l)] w fun e w' => e = .returned (.tuple #[.agg #[.bool y.neg, .string (str y.d), .int .i64 y.e], .bool true]) ∧ Touch [] w w' := by
  have := pread_any l w hl
  rw [h] at this
  exact this
theorem pread_no (l : List UInt8) (w : World) (h : Dig.read l = none) (hl : l.length ≤ 100000000000) :
    Calls Tryd.prog 17 #[.string (str l)] w fun e w' => e = .returned (.tuple #[.agg #[.bool false, .string ⟨#[]⟩, .int .i64 0], .bool false]) ∧ Touch [] w w' := by
  have := pread_any l w hl
  rw [h] at this
  exact this
theorem pint_at (x : Dig.Dec) (a b : Int) (w : World) (h : Dig.int x = (a, b)) (hl : x.d.length ≤ 1000000000000) (he : x.e ≤ 1000000000000) (he' : -1000000000000 ≤ x.e) (hd : x.d.all Dig.dig = true) :
    Calls Tryd.prog 22 #[.agg #[.bool x.neg, .string (str x.d), .int .i64 x.e]] w fun e w' => e = .returned (.tuple #[.int .i64 a, .int .i64 b]) ∧ Touch [] w w' := by
  have := pint_any x w hl he he' hd
  rw [h] at this
  exact this
theorem pcheck_at (s : Bool) (d : List UInt8) (e : Int) (b : Bool) (w : World) (h : Dig.check ⟨s, d, e⟩ = b) (hl : d.length ≤ 1000000000000) :
    Calls Tryd.prog 15 #[.agg #[.bool s, .string (str d), .int .i64 e]] w fun e w' => e = .returned (.bool b) ∧ Touch [] w w' := by
  have := pcheck_any ⟨s, d, e⟩ w (Nat.le_trans hl (by decide))
  rw [h] at this
  exact this
theorem pwhole_at (s : Bool) (d : List UInt8) (e : Int) (b : Bool) (w : World) (h : Dig.whole ⟨s, d, e⟩ = b) (hl : d.length ≤ 1000000000000) (he : e ≤ 1000000000000) (he' : -1000000000000 ≤ e) :
    Calls Tryd.prog 28 #[.agg #[.bool s, .string (str d), .int .i64 e]] w fun e w' => e = .returned (.bool b) ∧ Touch [] w w' := by
  have := pwhole_any ⟨s, d, e⟩ w hl he he'
  rw [h] at this
  exact this
theorem pcmp_at (s : Bool) (d : List UInt8) (e : Int) (s' : Bool) (d' : List UInt8) (e' : Int) (b : Int) (w : World) (h : Dig.cmp ⟨s, d, e⟩ ⟨s', d', e'⟩ = b) (hl : d.length ≤ 1000000000000) (he : e ≤ 1000000000000) (he' : -1000000000000 ≤ e) (hl' : d'.length ≤ 1000000000000) (hf : e' ≤ 1000000000000) (hf' : -1000000000000 ≤ e') :
    Calls Tryd.prog 26 #[.agg #[.bool s, .string (str d), .int .i64 e], .agg #[.bool s', .string (str d'), .int .i64 e']] w fun e w' => e = .returned (.int .i64 b) ∧ Touch [] w w' := by
  have := pcmp_any ⟨s, d, e⟩ ⟨s', d', e'⟩ w hl he he' hl' hf hf'
  rw [h] at this
  exact this
theorem print_907 : Dig.print (-907) = [45, 57, 48, 55] := by
  unfold Dig.print
  rw [if_pos (by decide)]
  show 45 :: Dig.digs 907 = _
  rw [digs_rec 907 (by decide), digs_rec (907 / 10) (by decide), digs_one (907 / 10 / 10) (by decide)]
  rfl

theorem awake10 (w : World) : Calls Tryd.prog 14 #[] w fun e w' => e = .returned (.bool true) ∧ Touch [] w w' := by
  have q0 : (⟨#[]⟩ : ByteArray).toList = [] := str_toList []
  have q1 : (⟨#[49]⟩ : ByteArray).toList = [49] := str_toList [49]
  have q2 : (⟨#[45, 57, 48, 55]⟩ : ByteArray).toList = [45, 57, 48, 55] := str_toList [45, 57, 48, 55]
  go_enter Tryd.func14, Tryd.ntmps14
  go_wp2_with fail
  refine (pread_at [49, 48, 101, 45, 49] ⟨false, [49], 0⟩ _ rfl (by decide)).mono ?_; rintro e w1 ⟨rfl, ht1⟩
  try go_simp
  go_wp2_with fail
  refine (pread_at [45, 48, 46, 48] ⟨false, [], 0⟩ _ rfl (by decide)).mono ?_; rintro e w2 ⟨rfl, ht2⟩
  try go_simp
  go_wp2_with fail
  refine (pread_at [57, 48, 48, 55, 49, 57, 57, 50, 53, 52, 55, 52, 48, 57, 57, 50] ⟨false, [57, 48, 48, 55, 49, 57, 57, 50, 53, 52, 55, 52, 48, 57, 57, 50], 0⟩ _ rfl (by decide)).mono ?_; rintro e w3 ⟨rfl, ht3⟩
  try go_simp
  have hA2 := ht2.keep (alloc_new _ _) (by simp)
  have hA3 := ht3.keep (alloc_old hA2 _) (by simp)
  have hB3 := ht3.keep (alloc_new _ _) (by simp)
  have T3 := ((((ht1.alloc _).trans ht2).alloc _).trans ht3)
  clear ht1 ht2 ht3 hA2
  go_wp2_with fail
  refine (pint_at ⟨false, [57, 48, 48, 55, 49, 57, 57, 50, 53, 52, 55, 52, 48, 57, 57, 50], 0⟩ 0 8 _ (by decide) (by decide) (by decide) (by decide) (by decide)).mono ?_; rintro e w4 ⟨rfl, ht4⟩
  have hA4 := ht4.keep (alloc_old hA3 _) (by simp)
  have hB4 := ht4.keep (alloc_old hB3 _) (by simp)
  have T4 := (T3.alloc _).trans ht4
  clear ht4 hA3 hB3 T3
  try go_simp
  go_wp2_with fail
  refine (pint_at ⟨false, [49, 53], -1⟩ 0 7 _ (by decide) (by decide) (by decide) (by decide) (by decide)).mono ?_; rintro e w5 ⟨rfl, ht5⟩
  have hA5 := ht5.keep hA4 (by simp)
  have hB5 := ht5.keep hB4 (by simp)
  have T5 := T4.trans ht5
  clear ht5 hA4 hB4 T4
  try go_simp
  go_wp2_with fail
  refine (pint_at ⟨true, [49, 50], 1⟩ (-120) 0 _ (by decide) (by decide) (by decide) (by decide) (by decide)).mono ?_; rintro e w6 ⟨rfl, ht6⟩
  have hA6 := ht6.keep hA5 (by simp)
  have hB6 := ht6.keep hB5 (by simp)
  have T6 := T5.trans ht6
  clear ht6 hA5 hB5 T5
  try go_simp
  go_wp2_with fail
  refine (pread_no [48, 49] _ rfl (by decide)).mono ?_; rintro e w7 ⟨rfl, ht7⟩
  have hA7 := ht7.keep hA6 (by simp)
  have hB7 := ht7.keep hB6 (by simp)
  have T7 := T6.trans ht7
  clear ht7 hA6 hB6 T6
  try go_simp
  have cA := cell_at hA7
  have cB := cell_at hB7
  have lA := block_lt hA7
  have lB := block_lt hB7
  go_wp2_with fail
  refine (pprint_any (-907) _ (by decide) (by decide)).mono ?_; rintro e w8 ⟨rfl, ht8⟩
  rw [print_907]
  have hA8 := ht8.keep (alloc_old hA7 _) (by simp)
  have hB8 := ht8.keep (alloc_old hB7 _) (by simp)
  have T8 := (T7.alloc _).trans ht8
  clear ht8 hA7 hB7 T7 cA cB lA lB
  have cA := cell_at hA8
  have cB := cell_at hB8
  try go_simp
  go_wp2_with fail
  refine (pcheck_at false [49] 0 true _ (by decide) (by decide)).mono ?_; rintro e w9 ⟨rfl, ht9⟩
  have hA9 := ht9.keep hA8 (by simp)
  have hB9 := ht9.keep hB8 (by simp)
  have T9 := T8.trans ht9
  clear ht9 hA8 hB8 T8 cA cB
  have cA := cell_at hA9
  have cB := cell_at hB9
  try go_simp
  go_wp2_with fail
  refine (pcheck_at false [120] 0 false _ (by decide) (by decide)).mono ?_; rintro e w10 ⟨rfl, ht10⟩
  have hA10 := ht10.keep hA9 (by simp)
  have hB10 := ht10.keep hB9 (by simp)
  have T10 := T9.trans ht10
  clear ht10 hA9 hB9 T9 cA cB
  have cA := cell_at hA10
  have cB := cell_at hB10
  try go_simp
  go_wp2_with fail
  refine (pcmp_at false [49] 0 false [] 0 1 _ (by decide) (by decide) (by decide) (by decide) (by decide) (by decide) (by decide)).mono ?_; rintro e w11 ⟨rfl, ht11⟩
  have hA11 := ht11.keep hA10 (by simp)
  have hB11 := ht11.keep hB10 (by simp)
  have T11 := T10.trans ht11
  clear ht11 hA10 hB10 T10 cA cB
  have cA := cell_at hA11
  have cB := cell_at hB11
  try go_simp
  go_wp2_with fail
  refine (pwhole_at false [49] 0 true _ (by decide) (by decide) (by decide) (by decide)).mono ?_; rintro e w12 ⟨rfl, ht12⟩
  have hA12 := ht12.keep hA11 (by simp)
  have hB12 := ht12.keep hB11 (by simp)
  have T12 := T11.trans ht12
  clear ht12 hA11 hB11 T11 cA cB
  have cA := cell_at hA12
  have cB := cell_at hB12
  try go_simp
  go_wp2
  go_ret
  exact ⟨rfl, T12⟩
end Go.Proofs.YtcpfooceadgccaaDoor
