/- GramHopes' walk. -/
import Derived.Test.YtgjddlianhejdaaGramL
import Derived.Test.YtgjddlianhejdaaGramHM
import Derived.Test.YtgjddlianhejdaaLimAts
import Derived.Test.YtgjddlianhejdaaIn
namespace Go.Proofs.Ytgjddlianhejdaa
open Go.RowKit
set_option maxRecDepth 100000
set_option linter.unusedVariables false
set_option linter.unusedSimpArgs false


set_option maxHeartbeats 8000000 in
theorem gramhopes_walk (a0 : Option Addr) (n0 c0 : Nat) (z0 : List Int) (w : World) (w0 : IntsIn .i64 w a0 n0 c0 z0) :
    Calls Try.prog 10 #[.slice a0 n0 c0] w fun e w' => e = .returned (.bool true) ∧ Touch [] w w' := by
  have ok0 : Gr.Ok ⟨[], 0⟩ := by constructor <;> simp
  have hcm : n0 ≤ 9223372036854775807 := by have := w0.le; have := w0.max; omega
  go_enter Try.func10, Try.ntmps10
  go_wp2_with fail
  refine (gnew_in w _ (Touch.refl _ _)).mono ?_
  rintro e w1 ⟨p, rfl, h1⟩
  try go_simp
  by_cases hn : 150 < n0
  · go_wp2_with fail
    refine (awake13 _).mono ?_
    rintro e w2 ⟨rfl, ht⟩
    try go_simp
    go_wp2_with fail
    go_ret
    exact ⟨rfl, h1.touch.trans ht⟩
  go_wp2_with fail
  go_loopw [4] (fun v wr => ∃ (i : Nat) (G : Gr), i ≤ n0 ∧ v = .int .i64 i ∧ GramIn w wr p G ∧ G.Ok ∧ G.op.length ≤ i) (fun v _ => n0 - (intOf v).toNat)
  case atStart => exact ⟨0, _, by omega, rfl, h1, ok0, by simp⟩
  case round =>
    clear h1 ok0
    obtain ⟨i, G, hi, rfl, h1, ok, hlen⟩ := hrel
    by_cases hlt : i < n0
    · obtain ⟨b, off, rfl, hcell⟩ := w0.cells (by omega)
      obtain ⟨x, hx⟩ : ∃ x, z0.getD i 0 = x := ⟨_, rfl⟩
      have hz := h1.touch.cell (hcell i hlt) (by simp)
      have hwf := i64_bounds (w0.wf (z0.getD i 0) (by have := w0.len; rw [List.getD_eq_getElem?_getD, List.getElem?_eq_getElem (by omega)]; exact List.getElem_mem _))
      rw [hx] at hz hwf
      obtain ⟨hb0, hb1⟩ := hwf
      clear hcell hx
      go_wp2_with fail
      refine (place_any _ _ _ (by omega) (by omega) (by omega) (by omega)).mono ?_
      rintro e v1 ⟨rfl, rfl⟩
      try go_simp
      go_wp2_with fail
      refine (gtake_at h1 ok (by omega) _ _ _ rfl rfl).mono ?_
      rintro e v2 ⟨rfl, h2, ok2⟩
      try go_simp
      have hl2 := Gr.len_take G (x % 12)
      go_wp2_with fail
      go_roundw
      case rel => exact ⟨i + 1, _, by omega, by go_num, h2, ok2, by omega⟩
      case measure => simp [intOf]; omega
    · go_wp2_with fail
      have hmu := Gr.mu_le G
      go_loopw [5] (fun v wr => ∃ (i : Nat) (G : Gr), i ≤ 400 ∧ v = .int .i64 i ∧ GramIn w wr p G ∧ G.Ok ∧ G.mu + i ≤ 153) (fun v _ => 400 - (intOf v).toNat)
      case atStart => exact ⟨0, _, by omega, rfl, h1, ok, by omega⟩
      case round =>
        clear h1 ok hlen hmu
        obtain ⟨i, G, hi, rfl, h1, ok, hmu⟩ := hrel
        by_cases h6 : G.want = 6
        · have hop := ok.nothing h6
          have hlt : i < 400 := by omega
          have hd : decide ((i : Int) < 400) = true := by simp; omega
          go_wp2_with fail
          refine (gended_at h1 true (by rw [h6]; rfl)).mono ?_
          rintro e v1 ⟨rfl, h2⟩
          try go_simp
          go_wp2_with fail
          refine (gended_at h2 true (by rw [h6]; rfl)).mono ?_
          rintro e v2 ⟨rfl, h3⟩
          try go_simp
          go_wp2_with fail
          refine (gdepth_at h3 0 (by rw [hop]; rfl)).mono ?_
          rintro e v3 ⟨rfl, h4⟩
          try go_simp
          go_wp2_with fail
          refine (awake13 _).mono ?_
          rintro e v4 ⟨rfl, ht⟩
          try go_simp
          go_wp2_with fail
          go_ret
          exact ⟨rfl, h4.touch.trans ht⟩
        · have hlt : i < 400 := by omega
          have hd : decide ((i : Int) < 400) = true := by simp; omega
          have hl : G.op.length ≤ 1000000 := by unfold Gr.mu at hmu; omega
          have HH := Lib.hid (Gr.hope ok h6)
          go_wp2_with fail
          refine (gended_at h1 false (by simpa using h6)).mono ?_
          rintro e v1 ⟨rfl, h2⟩
          try go_simp
          rcases HH.out with ⟨m7, hm⟩ | ⟨m7, m9, hm⟩ | ⟨m7, m9, m10, hm⟩ | ⟨m7, m9, m10, m5, hm⟩
          · go_wp2_with fail
            refine (gtake_at h2 ok hl 7 true _ m7 rfl).mono ?_
            rintro e v2 ⟨rfl, h3, v2_ok⟩
            try go_simp
            go_wp2_with fail
            go_roundw
            case rel => exact ⟨i + 1, _, by omega, by go_num, h3, v2_ok, by omega⟩
            case measure => simp [intOf]; omega
          · go_wp2_with fail
            refine (gtake_at h2 ok hl 7 false G m7 (Gr.take_no m7)).mono ?_
            rintro e v2 ⟨rfl, h3, v2_ok⟩
            try go_simp
            go_wp2_with fail
            refine (gtake_at h3 ok hl 9 true _ m9 rfl).mono ?_
            rintro e v3 ⟨rfl, h4, v3_ok⟩
            try go_simp
            go_wp2_with fail
            go_roundw
            case rel => exact ⟨i + 1, _, by omega, by go_num, h4, v3_ok, by omega⟩
            case measure => simp [intOf]; omega
          · go_wp2_with fail
            refine (gtake_at h2 ok hl 7 false G m7 (Gr.take_no m7)).mono ?_
            rintro e v2 ⟨rfl, h3, v2_ok⟩
            try go_simp
            go_wp2_with fail
            refine (gtake_at h3 ok hl 9 false G m9 (Gr.take_no m9)).mono ?_
            rintro e v3 ⟨rfl, h4, v3_ok⟩
            try go_simp
            go_wp2_with fail
            refine (gtake_at h4 ok hl 10 true _ m10 rfl).mono ?_
            rintro e v4 ⟨rfl, h5, v4_ok⟩
            try go_simp
            go_wp2_with fail
            go_roundw
            case rel => exact ⟨i + 1, _, by omega, by go_num, h5, v4_ok, by omega⟩
            case measure => simp [intOf]; omega
          · go_wp2_with fail
            refine (gtake_at h2 ok hl 7 false G m7 (Gr.take_no m7)).mono ?_
            rintro e v2 ⟨rfl, h3, v2_ok⟩
            try go_simp
            go_wp2_with fail
            refine (gtake_at h3 ok hl 9 false G m9 (Gr.take_no m9)).mono ?_
            rintro e v3 ⟨rfl, h4, v3_ok⟩
            try go_simp
            go_wp2_with fail
            refine (gtake_at h4 ok hl 10 false G m10 (Gr.take_no m10)).mono ?_
            rintro e v4 ⟨rfl, h5, v4_ok⟩
            try go_simp
            go_wp2_with fail
            refine (gtake_at h5 ok hl 5 true _ m5 rfl).mono ?_
            rintro e v5 ⟨rfl, h6', v5_ok⟩
            try go_simp
            go_wp2_with fail
            go_roundw
            case rel => exact ⟨i + 1, _, by omega, by go_num, h6', v5_ok, by omega⟩
            case measure => simp [intOf]; omega
end Go.Proofs.Ytgjddlianhejdaa
