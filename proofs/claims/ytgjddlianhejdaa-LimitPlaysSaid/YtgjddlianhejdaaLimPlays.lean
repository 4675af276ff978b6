/- LimitPlays' walk. -/
import Derived.Test.YtgjddlianhejdaaLimAts
import Derived.Test.YtgjddlianhejdaaIn
import Derived.Deep.RegionWith
import Derived.Deep.RegionHeld3
namespace Go.Proofs.Ytgjddlianhejdaa
open Go.RowKit
set_option maxRecDepth 100000
set_option linter.unusedVariables false
set_option linter.unusedSimpArgs false

set_option maxHeartbeats 4000000 in
theorem plays_no (a0_0 : Int) (a0_1 : Int) (a0_2 : Int) (a0_3 : Int) (a0_4 : Int) (a1 : Option Addr) (n1 c1 : Nat) (w : World) (hl : ¬ LimOk a0_0 a0_1 a0_2 a0_3 a0_4) :
    Calls Try.prog 7 #[.agg #[.int .i64 a0_0, .int .i64 a0_1, .int .i64 a0_2, .int .i64 a0_3, .int .i64 a0_4], .slice a1 n1 c1] w fun e w' => e = .returned (.bool true) ∧ Touch [] w w' := by
  go_enter Try.func7, Try.ntmps7
  go_wp2_with fail
  obtain ⟨W, hW⟩ : ∃ W, W = w.alloc (.cells #[.int .i64 a0_0, .int .i64 a0_1, .int .i64 a0_2, .int .i64 a0_3, .int .i64 a0_4] 23) := ⟨_, rfl⟩
  have hB : W.heap[w.heap.size]? = some (.cells #[.int .i64 a0_0, .int .i64 a0_1, .int .i64 a0_2, .int .i64 a0_3, .int .i64 a0_4] 23) := by rw [hW]; exact alloc_new _ _
  have hT : Touch [] w W := by rw [hW]; exact (Touch.refl _ _).alloc _
  have hc : ∀ w', Touch [] W w' → ∀ i, w'.cell? ⟨w.heap.size, i, none⟩ = (#[.int .i64 a0_0, .int .i64 a0_1, .int .i64 a0_2, .int .i64 a0_3, .int .i64 a0_4] : Array Value)[i]? := fun w' h => cell_at (h.keep hB (by simp))
  rw [← hW]
  clear hW
  go_region_held3 (fun w' => Touch [] W w')
    (first | exact (Touch.refl _ _).drew | exact Touch.trans (by assumption) ht1)
    (first
    | (go_at_call 16; refine (new_no _ _ _ _ _ _ hl).mono ?_; rintro e w1 ⟨rfl, ht1⟩)
    | (go_at_call 25; refine (rnew_no _ _ _ _ _ _ hl).mono ?_; rintro e w1 ⟨rfl, ht1⟩))
  go_wp2_with fail
  go_region_held3 (fun w' => Touch [] W w')
    (first | exact Touch.drew (by assumption) | exact Touch.trans (by assumption) ht1)
    (first
    | (go_at_call 15; refine (check_no _ _ _ _ _ _ hl).mono ?_; rintro e w1 ⟨rfl, ht1⟩)
    | (go_at_call 26; refine (rcheck_no _ _ _ _ _ _ hl).mono ?_; rintro e w1 ⟨rfl, ht1⟩))
  go_wp2_with fail
  refine (awake15 _).mono ?_
  rintro e w6 ⟨rfl, ht6⟩
  try go_simp
  go_wp2_with fail
  go_ret
  exact ⟨rfl, (hT.trans (by assumption)).trans ht6⟩


set_option maxHeartbeats 8000000 in
theorem plays_yes (a0_0 : Int) (a0_1 : Int) (a0_2 : Int) (a0_3 : Int) (a0_4 : Int) (a1 : Option Addr) (n1 c1 : Nat) (z1 : List (Int × Int)) (w : World) (hl : LimOk a0_0 a0_1 a0_2 a0_3 a0_4) (hP : PairsIn .i64 .i64 w a1 n1 c1 z1):
    Calls Try.prog 7 #[.agg #[.int .i64 a0_0, .int .i64 a0_1, .int .i64 a0_2, .int .i64 a0_3, .int .i64 a0_4], .slice a1 n1 c1] w fun e w' => e = .returned (.bool true) ∧ Touch [] w w' := by
  go_enter Try.func7, Try.ntmps7
  go_wp2_with fail
  obtain ⟨W, hW⟩ : ∃ W, W = w.alloc (.cells #[.int .i64 a0_0, .int .i64 a0_1, .int .i64 a0_2, .int .i64 a0_3, .int .i64 a0_4] 23) := ⟨_, rfl⟩
  have hB : W.heap[w.heap.size]? = some (.cells #[.int .i64 a0_0, .int .i64 a0_1, .int .i64 a0_2, .int .i64 a0_3, .int .i64 a0_4] 23) := by rw [hW]; exact alloc_new _ _
  have hT : Touch [] w W := by rw [hW]; exact (Touch.refl _ _).alloc _
  have hc : ∀ w', Touch [] W w' → ∀ i, w'.cell? ⟨w.heap.size, i, none⟩ = (#[.int .i64 a0_0, .int .i64 a0_1, .int .i64 a0_2, .int .i64 a0_3, .int .i64 a0_4] : Array Value)[i]? := fun w' h => cell_at (h.keep hB (by simp))
  rw [← hW]
  clear hW
  go_region_held3 (fun w' => Touch [] W w')
    (first | exact (Touch.refl _ _).drew | exact Touch.trans (by assumption) ht1)
    (first
    | (go_at_call 16; refine (new_yes _ _ _ _ _ _ hl).mono ?_; rintro e w1 ⟨p, rfl, hp, hm, ht1⟩)
    | (go_at_call 25; refine (rnew_yes _ _ _ _ _ _ hl).mono ?_; rintro e w2 ⟨r, rfl, hr, hR, ht1⟩; have hM := ht1.keep hm (by simp); have hpr := block_lt hm; have hTW : Touch [] W w2 := Touch.trans (by assumption) ht1))
  have hc2 : ∀ w', Touch [] w2 w' → ∀ i, w'.cell? ⟨w.heap.size, i, none⟩ = (#[.int .i64 a0_0, .int .i64 a0_1, .int .i64 a0_2, .int .i64 a0_3, .int .i64 a0_4] : Array Value)[i]? := fun w' h => hc w' (hTW.trans h)
  clear hc
  go_wp2_with fail
  go_region_held3 (fun w' => Touch [] w2 w')
    (first | exact (Touch.refl _ _).drew | exact Touch.trans (by assumption) ht1)
    (first
    | (go_at_call 15; refine (check_yes _ _ _ _ _ _ hl).mono ?_; rintro e w3 ⟨rfl, ht1⟩)
    | (go_at_call 26; refine (rcheck_yes _ _ _ _ _ _ hl).mono ?_; rintro e w4 ⟨rfl, ht1⟩; have hT4 : Touch [] w2 w4 := Touch.trans (by assumption) ht1))
  have hM4 := hT4.keep hM (by simp)
  have hR4 := hT4.keep hR (by simp)
  clear hM hR hm
  by_cases hn : 200 < n1
  · go_wp2_with fail
    refine (awake15 _).mono ?_
    rintro e v6 ⟨rfl, ht6⟩
    try go_simp
    go_wp2_with fail
    go_ret
    exact ⟨rfl, ((hT.trans hTW).trans hT4).trans ht6⟩
  have hc1 : n1 ≤ 9223372036854775807 := by have := hP.le; have := hP.max; omega
  have ok0 : Met.Ok ⟨0, 0, 0, 0, 0, a0_0, a0_1, a0_2, a0_3, a0_4, 0⟩ := by
    obtain ⟨l1, l2, l3, l4, l5, l6, l7, l8, l9, l10⟩ := hl
    constructor <;> first | exact ⟨l1, l2, l3, l4, l5, l6, l7, l8, l9, l10⟩ | (simp only; omega)
  have hrp : r ≠ p := by omega
  have hw4 : Touch [] w w4 := (hT.trans hTW).trans hT4
  have hpw : w.heap.size ≤ p := by have := hT.size; simp at hp; omega
  have hrw : w.heap.size ≤ r := by omega
  clear hc2 hT hTW hT4 hl hB hp hr hpr
  go_wp2_with fail
  go_loopw [7] (fun v wr => ∃ (i : Nat) (M : Met), i ≤ n1 ∧ v = .int .i64 i ∧ M.Ok ∧ MetAt wr p M ∧ RetAt wr r M ∧ Touch [p, r] w4 wr) (fun v _ => n1 - (intOf v).toNat)
  case atStart => exact ⟨0, _, by omega, rfl, ok0, hM4, hR4, Touch.refl _ _⟩
  case round =>
    clear hM4 hR4 ok0
    obtain ⟨i, M, hi, rfl, ok, hM, hR, hT⟩ := hrel
    by_cases hlt : i < n1
    · obtain ⟨b, off, rfl, hcell⟩ := hP.cells (by omega)
      obtain ⟨x, y, hxy⟩ : ∃ x y, z1.getD i (0, 0) = (x, y) := ⟨_, _, rfl⟩
      have hz := hcell i hlt
      rw [hxy] at hz
      obtain ⟨hz0, hz1⟩ := hz
      have hbw : b < w.heap.size := World.block_lt_of_cell? w _ hz0
      have g0 := hT.cell (hw4.cell hz0 (by simp)) (by simp; omega)
      have g1 := hT.cell (hw4.cell hz1 (by simp)) (by simp; omega)
      clear hcell hz0 hz1
      by_cases hx1 : x ≤ 1
      · go_wp2_with fail
        refine (byte_any hM ok).mono ?_
        rintro e v1 ⟨rfl, hM1, ht1⟩
        try go_simp
        go_wp2_with fail
        refine (rbyte_any (ht1.keep hR (by simp; omega)) ok).mono ?_
        rintro e v2 ⟨rfl, hR2, ht2⟩
        try go_simp
        have hM2 := ht2.keep hM1 (by simp; omega)
        have hT2 := (hT.trans (ht1.mono (by simp))).trans (ht2.mono (by simp))
        obtain ⟨M', hM'⟩ : ∃ M', M' = byteS M := ⟨_, rfl⟩
        have M'_ok : M'.Ok := hM' ▸ byteS_ok ok
        rw [← hM'] at hM1 hR2 hM2
        clear hM' hM1 ht1 ht2 hM hR
        have hU : ∀ w', Touch [] v2 w' → ∀ i, w'.cell? ⟨r, i, none⟩ = (#[.int .i64 (M').mB, .int .i64 (M').mD, .int .i64 (M').mN, .int .i64 (M').mK, .int .i64 (M').mT, .int .i64 (M').uB, .int .i64 (M').uD, .int .i64 (M').uN, .int .i64 (M').uK, .int .i64 (M').uT, .int .i64 (M').op] : Array Value)[i]? := fun w' h => cell_at (h.keep hR2 (by simp))
        go_wp2_with fail
        go_region_held3 (fun w' => Touch [] v2 w')
          (first | exact Touch.drew (Touch.refl _ _) | exact Touch.trans (by assumption) ht9)
          (first | (go_at_call 39; refine (used_any (Touch.keep (by assumption) hM2 (by simp) : MetAt _ p _)).mono ?_; rintro e w9 ⟨rfl, ht9⟩; have hT9 : Touch [] v2 w9 := Touch.trans (by assumption) ht9))
        clear hU
        go_wp2_with fail
        go_roundw
        case rel => exact ⟨i + 1, M', by omega, by go_num, M'_ok, hT9.keep hM2 (by simp), hT9.keep hR2 (by simp), hT2.trans (hT9.mono (by simp))⟩
        case measure => simp [intOf]; omega
      by_cases hx2 : x = 2
      · subst hx2
        go_wp2_with fail
        refine (node_any hM ok).mono ?_
        rintro e v1 ⟨rfl, hM1, ht1⟩
        try go_simp
        go_wp2_with fail
        refine (rnode_any (ht1.keep hR (by simp; omega)) ok).mono ?_
        rintro e v2 ⟨rfl, hR2, ht2⟩
        try go_simp
        have hM2 := ht2.keep hM1 (by simp; omega)
        have hT2 := (hT.trans (ht1.mono (by simp))).trans (ht2.mono (by simp))
        obtain ⟨M', hM'⟩ : ∃ M', M' = nodeS M := ⟨_, rfl⟩
        have M'_ok : M'.Ok := hM' ▸ nodeS_ok ok
        rw [← hM'] at hM1 hR2 hM2
        clear hM' hM1 ht1 ht2 hM hR
        have hU : ∀ w', Touch [] v2 w' → ∀ i, w'.cell? ⟨r, i, none⟩ = (#[.int .i64 (M').mB, .int .i64 (M').mD, .int .i64 (M').mN, .int .i64 (M').mK, .int .i64 (M').mT, .int .i64 (M').uB, .int .i64 (M').uD, .int .i64 (M').uN, .int .i64 (M').uK, .int .i64 (M').uT, .int .i64 (M').op] : Array Value)[i]? := fun w' h => cell_at (h.keep hR2 (by simp))
        go_wp2_with fail
        go_region_held3 (fun w' => Touch [] v2 w')
          (first | exact Touch.drew (Touch.refl _ _) | exact Touch.trans (by assumption) ht9)
          (first | (go_at_call 39; refine (used_any (Touch.keep (by assumption) hM2 (by simp) : MetAt _ p _)).mono ?_; rintro e w9 ⟨rfl, ht9⟩; have hT9 : Touch [] v2 w9 := Touch.trans (by assumption) ht9))
        clear hU
        go_wp2_with fail
        go_roundw
        case rel => exact ⟨i + 1, M', by omega, by go_num, M'_ok, hT9.keep hM2 (by simp), hT9.keep hR2 (by simp), hT2.trans (hT9.mono (by simp))⟩
        case measure => simp [intOf]; omega
      have hb2 : (x == 2) = false := by simp; omega
      by_cases hx4 : x ≤ 4
      · go_wp2_with fail
        refine (open_any hM ok).mono ?_
        rintro e v1 ⟨rfl, hM1, ht1⟩
        try go_simp
        go_wp2_with fail
        refine (ropen_any (ht1.keep hR (by simp; omega)) ok).mono ?_
        rintro e v2 ⟨rfl, hR2, ht2⟩
        try go_simp
        have hM2 := ht2.keep hM1 (by simp; omega)
        have hT2 := (hT.trans (ht1.mono (by simp))).trans (ht2.mono (by simp))
        obtain ⟨M', hM'⟩ : ∃ M', M' = openS M := ⟨_, rfl⟩
        have M'_ok : M'.Ok := hM' ▸ openS_ok ok
        rw [← hM'] at hM1 hR2 hM2
        clear hM' hM1 ht1 ht2 hM hR
        have hU : ∀ w', Touch [] v2 w' → ∀ i, w'.cell? ⟨r, i, none⟩ = (#[.int .i64 (M').mB, .int .i64 (M').mD, .int .i64 (M').mN, .int .i64 (M').mK, .int .i64 (M').mT, .int .i64 (M').uB, .int .i64 (M').uD, .int .i64 (M').uN, .int .i64 (M').uK, .int .i64 (M').uT, .int .i64 (M').op] : Array Value)[i]? := fun w' h => cell_at (h.keep hR2 (by simp))
        go_wp2_with fail
        go_region_held3 (fun w' => Touch [] v2 w')
          (first | exact Touch.drew (Touch.refl _ _) | exact Touch.trans (by assumption) ht9)
          (first | (go_at_call 39; refine (used_any (Touch.keep (by assumption) hM2 (by simp) : MetAt _ p _)).mono ?_; rintro e w9 ⟨rfl, ht9⟩; have hT9 : Touch [] v2 w9 := Touch.trans (by assumption) ht9))
        clear hU
        go_wp2_with fail
        go_roundw
        case rel => exact ⟨i + 1, M', by omega, by go_num, M'_ok, hT9.keep hM2 (by simp), hT9.keep hR2 (by simp), hT2.trans (hT9.mono (by simp))⟩
        case measure => simp [intOf]; omega
      by_cases hx5 : x = 5
      · subst hx5
        go_wp2_with fail
        refine (close_any hM ok).mono ?_
        rintro e v1 ⟨rfl, hM1, ht1⟩
        try go_simp
        go_wp2_with fail
        refine (rclose_any (ht1.keep hR (by simp; omega)) ok).mono ?_
        rintro e v2 ⟨rfl, hR2, ht2⟩
        try go_simp
        have hM2 := ht2.keep hM1 (by simp; omega)
        have hT2 := (hT.trans (ht1.mono (by simp))).trans (ht2.mono (by simp))
        obtain ⟨M', hM'⟩ : ∃ M', M' = closeS M := ⟨_, rfl⟩
        have M'_ok : M'.Ok := hM' ▸ closeS_ok ok
        rw [← hM'] at hM1 hR2 hM2
        clear hM' hM1 ht1 ht2 hM hR
        have hU : ∀ w', Touch [] v2 w' → ∀ i, w'.cell? ⟨r, i, none⟩ = (#[.int .i64 (M').mB, .int .i64 (M').mD, .int .i64 (M').mN, .int .i64 (M').mK, .int .i64 (M').mT, .int .i64 (M').uB, .int .i64 (M').uD, .int .i64 (M').uN, .int .i64 (M').uK, .int .i64 (M').uT, .int .i64 (M').op] : Array Value)[i]? := fun w' h => cell_at (h.keep hR2 (by simp))
        go_wp2_with fail
        go_region_held3 (fun w' => Touch [] v2 w')
          (first | exact Touch.drew (Touch.refl _ _) | exact Touch.trans (by assumption) ht9)
          (first | (go_at_call 39; refine (used_any (Touch.keep (by assumption) hM2 (by simp) : MetAt _ p _)).mono ?_; rintro e w9 ⟨rfl, ht9⟩; have hT9 : Touch [] v2 w9 := Touch.trans (by assumption) ht9))
        clear hU
        go_wp2_with fail
        go_roundw
        case rel => exact ⟨i + 1, M', by omega, by go_num, M'_ok, hT9.keep hM2 (by simp), hT9.keep hR2 (by simp), hT2.trans (hT9.mono (by simp))⟩
        case measure => simp [intOf]; omega
      have hb5 : (x == 5) = false := by simp; omega
      by_cases hx6 : x = 6
      · subst hx6
        go_wp2_with fail
        refine (name_any hM ok y).mono ?_
        rintro e v1 ⟨rfl, hM1, ht1⟩
        try go_simp
        go_wp2_with fail
        refine (rname_any (ht1.keep hR (by simp; omega)) ok y).mono ?_
        rintro e v2 ⟨rfl, hR2, ht2⟩
        try go_simp
        have hM2 := ht2.keep hM1 (by simp; omega)
        have hT2 := (hT.trans (ht1.mono (by simp))).trans (ht2.mono (by simp))
        obtain ⟨M', hM'⟩ : ∃ M', M' = nameS M y := ⟨_, rfl⟩
        have M'_ok : M'.Ok := hM' ▸ nameS_ok ok
        rw [← hM'] at hM1 hR2 hM2
        clear hM' hM1 ht1 ht2 hM hR
        have hU : ∀ w', Touch [] v2 w' → ∀ i, w'.cell? ⟨r, i, none⟩ = (#[.int .i64 (M').mB, .int .i64 (M').mD, .int .i64 (M').mN, .int .i64 (M').mK, .int .i64 (M').mT, .int .i64 (M').uB, .int .i64 (M').uD, .int .i64 (M').uN, .int .i64 (M').uK, .int .i64 (M').uT, .int .i64 (M').op] : Array Value)[i]? := fun w' h => cell_at (h.keep hR2 (by simp))
        go_wp2_with fail
        go_region_held3 (fun w' => Touch [] v2 w')
          (first | exact Touch.drew (Touch.refl _ _) | exact Touch.trans (by assumption) ht9)
          (first | (go_at_call 39; refine (used_any (Touch.keep (by assumption) hM2 (by simp) : MetAt _ p _)).mono ?_; rintro e w9 ⟨rfl, ht9⟩; have hT9 : Touch [] v2 w9 := Touch.trans (by assumption) ht9))
        clear hU
        go_wp2_with fail
        go_roundw
        case rel => exact ⟨i + 1, M', by omega, by go_num, M'_ok, hT9.keep hM2 (by simp), hT9.keep hR2 (by simp), hT2.trans (hT9.mono (by simp))⟩
        case measure => simp [intOf]; omega
      have hb6 : (x == 6) = false := by simp; omega
      go_wp2_with fail
      refine (text_any hM ok y).mono ?_
      rintro e v1 ⟨rfl, hM1, ht1⟩
      try go_simp
      go_wp2_with fail
      refine (rtext_any (ht1.keep hR (by simp; omega)) ok y).mono ?_
      rintro e v2 ⟨rfl, hR2, ht2⟩
      try go_simp
      have hM2 := ht2.keep hM1 (by simp; omega)
      have hT2 := (hT.trans (ht1.mono (by simp))).trans (ht2.mono (by simp))
      obtain ⟨M', hM'⟩ : ∃ M', M' = textS M y := ⟨_, rfl⟩
      have M'_ok : M'.Ok := hM' ▸ textS_ok ok
      rw [← hM'] at hM1 hR2 hM2
      clear hM' hM1 ht1 ht2 hM hR
      have hU : ∀ w', Touch [] v2 w' → ∀ i, w'.cell? ⟨r, i, none⟩ = (#[.int .i64 (M').mB, .int .i64 (M').mD, .int .i64 (M').mN, .int .i64 (M').mK, .int .i64 (M').mT, .int .i64 (M').uB, .int .i64 (M').uD, .int .i64 (M').uN, .int .i64 (M').uK, .int .i64 (M').uT, .int .i64 (M').op] : Array Value)[i]? := fun w' h => cell_at (h.keep hR2 (by simp))
      go_wp2_with fail
      go_region_held3 (fun w' => Touch [] v2 w')
        (first | exact Touch.drew (Touch.refl _ _) | exact Touch.trans (by assumption) ht9)
        (first | (go_at_call 39; refine (used_any (Touch.keep (by assumption) hM2 (by simp) : MetAt _ p _)).mono ?_; rintro e w9 ⟨rfl, ht9⟩; have hT9 : Touch [] v2 w9 := Touch.trans (by assumption) ht9))
      clear hU
      go_wp2_with fail
      go_roundw
      case rel => exact ⟨i + 1, M', by omega, by go_num, M'_ok, hT9.keep hM2 (by simp), hT9.keep hR2 (by simp), hT2.trans (hT9.mono (by simp))⟩
      case measure => simp [intOf]; omega
    · go_wp2_with fail
      refine (awake15 _).mono ?_
      rintro e v6 ⟨rfl, ht6⟩
      try go_simp
      go_wp2_with fail
      go_ret
      exact ⟨rfl, (hw4.step hT (by simp; omega)).trans ht6⟩

theorem plays_walk (a0_0 : Int) (a0_1 : Int) (a0_2 : Int) (a0_3 : Int) (a0_4 : Int) (a1 : Option Addr) (n1 c1 : Nat) (z1 : List (Int × Int)) (w : World) (w0_0 : (Lit.int .i64 a0_0).wf = true) (w0_1 : (Lit.int .i64 a0_1).wf = true) (w0_2 : (Lit.int .i64 a0_2).wf = true) (w0_3 : (Lit.int .i64 a0_3).wf = true) (w0_4 : (Lit.int .i64 a0_4).wf = true) (w1 : PairsIn .i64 .i64 w a1 n1 c1 z1) :
    Calls Try.prog 7 #[.agg #[.int .i64 a0_0, .int .i64 a0_1, .int .i64 a0_2, .int .i64 a0_3, .int .i64 a0_4], .slice a1 n1 c1] w fun e w' => e = .returned (.bool true) ∧ Touch [] w w' := by
  by_cases hl : LimOk a0_0 a0_1 a0_2 a0_3 a0_4
  · exact plays_yes _ _ _ _ _ _ _ _ _ _ hl w1
  · exact plays_no _ _ _ _ _ _ _ _ _ hl
end Go.Proofs.Ytgjddlianhejdaa
