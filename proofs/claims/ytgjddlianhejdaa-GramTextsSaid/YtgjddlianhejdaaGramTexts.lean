/- GramTexts' walk. -/
import Derived.Test.YtgjddlianhejdaaGramK
namespace Go.Proofs.Ytgjddlianhejdaa
open Go.RowKit
set_option maxRecDepth 100000
set_option linter.unusedVariables false
set_option linter.unusedSimpArgs false

theorem runs_drop {G H : Gr} {l : List Int} {i : Nat} (hi : i < l.length) (h : Gr.runs G (l.drop i) H) : G.want ≠ 6 ∧ G.may l[i] = true ∧ Gr.runs (G.take l[i]) (l.drop (i + 1)) H := by
  rw [List.drop_eq_getElem_cons hi] at h
  exact h

/-- the loop's relation. -/
structure GTRel (w wr : World) (p : Nat) (ad : Option Addr) (n c : Nat) (l : List Int) (i : Nat) (G : Gr) : Prop where
  at_ : ∃ g gr, GramAt wr p g G ∧ (∀ k, g = some k → w.heap.size ≤ k) ∧ SlAt wr 3 1 (.slice ad n c) n (ints l) gr ∧ (∀ k, gr = some k → k ≠ p ∧ g ≠ some k)
  touch : Touch [] w wr
  new : w.heap.size ≤ p
  ok : G.Ok
  runs : Gr.runs G (l.drop i) ⟨[], 6⟩
  len : G.op.length ≤ i

theorem GTRel.keep {w wr w' : World} {p : Nat} {ad : Option Addr} {n c : Nat} {l : List Int} {i : Nat} {G : Gr} (h : GTRel w wr p ad n c l i G) (ht : Touch [] wr w') : GTRel w w' p ad n c l i G := by
  obtain ⟨⟨g, gr, h1, h2, h3, h4⟩, h5, h6, h7, h8, h9⟩ := h
  exact ⟨⟨g, gr, h1.keep ht (by simp) (by simp), h2, h3.keep ht (by simp), h4⟩, h5.trans ht, h6, h7, h8, h9⟩
theorem GTRel.cell {w wr : World} {p : Nat} {ad : Option Addr} {n c : Nat} {l : List Int} {i : Nat} {G : Gr} (h : GTRel w wr p ad n c l i G) {j : Nat} (hj : j < l.length) :
    ∃ k, ad = some ⟨k, 0, none⟩ ∧ wr.cell? ⟨k, j, none⟩ = some (.int .i64 l[j]) := by
  obtain ⟨⟨g, gr, h1, h2, h3, h4⟩, _⟩ := h
  have hn := h3.ints_len
  obtain ⟨a, cap, he, _, _, hf⟩ := h3.form
  injection he with e1 e2 e3
  obtain ⟨k, hk, ha⟩ := hf (by omega)
  exact ⟨k, by rw [e1, ha], h3.cell hk (by simp [hj])⟩
theorem gt_take {w wr : World} {p : Nat} {ad : Option Addr} {n c : Nat} {l : List Int} {i : Nat} {G : Gr} (h : GTRel w wr p ad n c l i G) (hi : i < l.length) (hl : i ≤ 3000) :
    Calls Try.prog 45 #[.pointer (some ⟨p, 0, none⟩), .int .i64 l[i]] wr fun e w' => e = .returned (.bool true) ∧ GTRel w w' p ad n c l (i + 1) (G.take l[i]) := by
  obtain ⟨⟨g, gr, h1, h2, h3, h4⟩, h5, h6, h7, h8, h9⟩ := h
  obtain ⟨r1, r2, r3⟩ := runs_drop hi h8
  have hlt := Gr.len_take G l[i]
  refine (gtake_any h1 h7 (by omega) l[i]).mono fun e w' ⟨g', k1, k2, k3, k4⟩ => ⟨by rw [k1, r2], ⟨g', gr, k2, ?_, ?_, ?_⟩, ?_, h6, Gr.take_ok h7 _, r3, by omega⟩
  · exact newOr_up k4 h5.size h2
  · exact h3.keep k3 fun k hk => by
      have := h4 k hk
      simp only [List.mem_cons, Option.mem_toList]
      rintro (rfl | hg)
      · exact this.1 rfl
      · exact this.2 hg
  · intro k hk
    refine ⟨(h4 k hk).1, ?_⟩
    rcases k4 with e | ⟨j, e, hj⟩
    · rw [e]; exact (h4 k hk).2
    · rw [e]
      intro hjk
      injection hjk with hjk
      have := h3.lt hk
      omega
  · exact h5.step k3 fun x hx => by
      simp only [List.mem_cons, Option.mem_toList] at hx
      rcases hx with rfl | hx
      · exact .inr h6
      · exact .inr (h2 x hx)

set_option maxHeartbeats 4000000 in
theorem gramtexts_walk (a0 : Option Addr) (n0 c0 : Nat) (z0 : List Int) (w : World) (w0 : IntsIn .i64 w a0 n0 c0 z0) :
    Calls Try.prog 9 #[.slice a0 n0 c0] w fun e w' => e = .returned (.bool true) ∧ Touch [] w w' := by
  have ok0 : Gr.Ok ⟨[], 0⟩ := by constructor <;> simp
  have hcm : n0 ≤ 9223372036854775807 := by have := w0.le; have := w0.max; omega
  go_enter Try.func9, Try.ntmps9
  go_wp2_with fail
  refine (gnew_any _).mono ?_
  rintro e w1 ⟨p, rfl, hp, h1, ht1⟩
  try go_simp
  by_cases hn : 60 < n0
  · go_wp2_with fail
    refine (awake13 _).mono ?_
    rintro e w2 ⟨rfl, ht⟩
    try go_simp
    go_wp2_with fail
    go_ret
    exact ⟨rfl, ht1.trans ht⟩
  go_wp2_with fail
  refine (kinds_any z0 a0 n0 c0 5 (by omega) 0 _ (w0.keep ht1) (by omega)).mono ?_
  rintro e w2 ⟨ad, n, c, g, rfl, hs, hg, ht2⟩
  try go_simp
  go_wp2_with fail
  have hnl := hs.ints_len
  have hbd := kinds_bd5 z0 5 (by omega) 0
  have hrel : GTRel w w2 p ad n c (kinds z0 5 0).1 0 ⟨[], 0⟩ := by
    have hpl : p < w1.heap.size := by obtain ⟨sv, hb, _⟩ := h1; exact block_lt hb
    exact ⟨⟨none, g, h1.keep ht2 (by simp) (by simp), by simp, hs, fun k hk => ⟨by have := hg k hk; omega, by simp⟩⟩, ht1.trans ht2, hp, ok0, kinds_runs z0 5 ⟨[], 0⟩ 0 (.inl rfl), by simp⟩
  obtain ⟨L, hL⟩ : ∃ L, (kinds z0 5 0).1 = L := ⟨_, rfl⟩
  rw [hL] at hrel hnl hbd
  have hn3 : n ≤ 3000 := by omega
  have HNL := Box.mk hnl
  have hs0 := hrel
  clear hs hg hL hbd hnl h1 ht1 ht2 ok0 hp hrel
  go_loopw [6] (fun v wr => ∃ (i : Nat) (G : Gr), i ≤ n ∧ v = .int .i64 i ∧ GTRel w wr p ad n c L i G) (fun v _ => n - (intOf v).toNat)
  case atStart => exact ⟨0, _, by omega, rfl, hs0⟩
  case round =>
    clear hs0
    obtain ⟨i, G, hi, rfl, hr⟩ := hrel
    by_cases hlt : i < n
    · have hiL : i < L.length := by have := HNL.out; omega
      obtain ⟨kk, rfl, hcell⟩ := hr.cell hiL
      have hru := Box.mk (runs_drop hiL hr.runs)
      obtain ⟨x, hx⟩ : ∃ x, L[i] = x := ⟨_, rfl⟩
      have HX := Box.mk hx
      rw [hx] at hcell hru
      obtain ⟨g, gr, hG, _⟩ := id hr.at_
      clear hx
      have hwant : (G.want == 6) = false := by have := hru.out.1; simpa using this
      have hmay : G.may x = true := hru.out.2.1
      go_wp2_with fail
      refine (gended_any hG).mono ?_
      rintro e w3 ⟨rfl, ht3⟩
      try go_simp
      have hcell3 := ht3.cell hcell (by simp)
      go_wp2_with fail
      go_wp2_with fail
      refine (gmay_any (hG.keep ht3 (by simp) (by simp)) x).mono ?_
      rintro e w4 ⟨rfl, ht4⟩
      try go_simp
      have hcell4 := ht4.cell hcell3 (by simp)
      go_wp2_with fail
      have hr4 := hr.keep (ht3.trans ht4)
      refine (show Calls Try.prog 45 #[.pointer (some ⟨p, 0, none⟩), .int .i64 x] w4 _ from HX.out ▸ gt_take hr4 hiL (by omega)).mono ?_
      rintro e w5 ⟨rfl, hr5⟩
      try go_simp
      go_wp2_with fail
      go_roundw
      case rel => exact ⟨i + 1, _, by omega, by go_num, hr5⟩
      case measure => simp [intOf]; omega
    · have hG : G = ⟨[], 6⟩ := by
        have h := hr.runs
        rw [List.drop_eq_nil_of_le (by have := HNL.out; omega)] at h
        exact h
      subst hG
      obtain ⟨⟨g, gr, hG, hg, _⟩, hT, hp, _, _, _⟩ := hr
      have hp' := Box.mk hp
      have hg' := Box.mk hg
      clear hp hg
      go_wp2_with fail
      go_loopw [7] (fun v wr' => ∃ i : Nat, i ≤ 13 ∧ v = .int .i64 i ∧ GramAt wr' p g ⟨[], 6⟩ ∧ Touch [] w wr') (fun v _ => 13 - (intOf v).toNat)
      case atStart => exact ⟨0, by omega, rfl, hG, hT⟩
      case round =>
        clear hG hT
        obtain ⟨i, hi, rfl, hG, hT⟩ := hrel
        by_cases hlt : i < 13
        · have hm : Gr.may ⟨[], 6⟩ i = false := by simp [Gr.may]
          go_wp2_with fail
          refine (gmay_any hG _).mono ?_
          rintro e w4 ⟨rfl, ht4⟩
          try go_simp
          go_wp2_with fail
          go_roundw
          case rel => exact ⟨i + 1, by omega, by go_num, hG.keep ht4 (by simp) (by simp), hT.trans ht4⟩
          case measure => simp [intOf]; omega
        · go_wp2_with fail
          refine (gended_any hG).mono ?_
          rintro e w4 ⟨rfl, ht4⟩
          try go_simp
          go_wp2_with fail
          refine (gdepth_any (hG.keep ht4 (by simp) (by simp))).mono ?_
          rintro e w5 ⟨rfl, ht5⟩
          try go_simp
          go_wp2_with fail
          refine (awake13 _).mono ?_
          rintro e w6 ⟨rfl, ht6⟩
          try go_simp
          go_wp2_with fail
          go_ret
          exact ⟨rfl, ((hT.trans ht4).trans ht5).trans ht6⟩
end Go.Proofs.Ytgjddlianhejdaa
