/- GramPlays' walk. -/
import Derived.Test.YtgjddlianhejdaaGramRT2
import Derived.Test.YtgjddlianhejdaaGramC
import Derived.Test.YtgjddlianhejdaaLimAts
namespace Go.Proofs.Ytgjddlianhejdaa
open Go.RowKit
set_option maxRecDepth 100000
set_option linter.unusedVariables false
set_option linter.unusedSimpArgs false

/-- both machines stand alike, apart. -/
structure GPRel (w wr : World) (p q : Nat) (g gr : Option Nat) (G : Gr) : Prop where
  a : GramAt wr p g G
  r : RGramAt wr q gr G
  ga : ∀ k, g = some k → w.heap.size ≤ k ∧ k ≠ q ∧ gr ≠ some k
  gb : ∀ k, gr = some k → w.heap.size ≤ k ∧ k ≠ p
  touch : Touch [] w wr
  pa : w.heap.size ≤ p
  pb : w.heap.size ≤ q
  pq : p ≠ q
  ok : G.Ok

theorem GPRel.keep {w wr w' : World} {p q : Nat} {g gr : Option Nat} {G : Gr} (h : GPRel w wr p q g gr G) (ht : Touch [] wr w') : GPRel w w' p q g gr G := by
  obtain ⟨h1, h2, h3, h4, h5, h6, h7, h8, h9⟩ := h
  exact ⟨h1.keep ht (by simp) (by simp), h2.keep ht (by simp) (by simp), h3, h4, h5.trans ht, h6, h7, h8, h9⟩

/-- behind the program's Take. -/
structure GPHalf (w wr : World) (p q : Nat) (g gr : Option Nat) (G G' : Gr) : Prop where
  a : GramAt wr p g G'
  r : RGramAt wr q gr G
  ga : ∀ k, g = some k → w.heap.size ≤ k ∧ k ≠ q ∧ gr ≠ some k
  gb : ∀ k, gr = some k → w.heap.size ≤ k ∧ k ≠ p
  touch : Touch [] w wr
  pa : w.heap.size ≤ p
  pb : w.heap.size ≤ q
  pq : p ≠ q
  ok : G.Ok
  ok' : G'.Ok

theorem RGramAt.lt {w : World} {b : Nat} {g : Option Nat} {G : Gr} (h : RGramAt w b g G) : b < w.heap.size ∧ ∀ k, g = some k → k < w.heap.size := by
  obtain ⟨sv, h1, h2, _⟩ := h
  exact ⟨block_lt h1, fun k hk => h2.lt hk⟩
theorem GramAt.lt {w : World} {b : Nat} {g : Option Nat} {G : Gr} (h : GramAt w b g G) : b < w.heap.size ∧ ∀ k, g = some k → k < w.heap.size := by
  obtain ⟨sv, h1, h2, _⟩ := h
  exact ⟨block_lt h1, fun k hk => h2.lt hk⟩

theorem gp_take {w wr : World} {p q : Nat} {g gr : Option Nat} {G : Gr} (h : GPRel w wr p q g gr G) (hlen : G.op.length ≤ 1000000) (k : Int) :
    Calls Try.prog 45 #[.pointer (some ⟨p, 0, none⟩), .int .i64 k] wr fun e w' => e = .returned (.bool (G.may k)) ∧ ∃ g', GPHalf w w' p q g' gr G (G.take k) := by
  obtain ⟨h1, h2, h3, h4, h5, h6, h7, h8, h9⟩ := h
  have hrl := h2.lt
  have hal := h1.lt
  refine (gtake_any h1 h9 hlen k).mono fun e w' ⟨g', k1, k2, k3, k4⟩ => ⟨k1, g', k2, ?_, ?_, h4, ?_, h6, h7, h8, h9, Gr.take_ok h9 k⟩
  · refine h2.keep k3 ?_ ?_
    · simp only [List.mem_cons, Option.mem_toList]
      rintro (e | e)
      · exact h8 e.symm
      · exact (h3 q e).2.1 rfl
    · intro j hj
      simp only [List.mem_cons, Option.mem_toList]
      rintro (e | e)
      · exact (h4 j hj).2 e
      · exact (h3 j e).2.2 hj
  · intro j hj
    rcases k4 with e | ⟨i, e, hi⟩
    · exact h3 j (e ▸ hj)
    · rw [e] at hj; injection hj with hj; subst hj
      refine ⟨Nat.le_trans h5.size hi, by have := hrl.1; omega, ?_⟩
      intro hgr
      have := hrl.2 _ hgr
      omega
  · exact h5.step k3 fun x hx => by
      simp only [List.mem_cons, Option.mem_toList] at hx
      rcases hx with rfl | hx
      · exact .inr h6
      · exact .inr (h3 x hx).1
theorem gp_rtake {w wr : World} {p q : Nat} {g gr : Option Nat} {G : Gr} (k : Int) (h : GPHalf w wr p q g gr G (G.take k)) (hlen : G.op.length ≤ 1000000) :
    Calls Try.prog 51 #[.pointer (some ⟨q, 0, none⟩), .int .i64 k] wr fun e w' => e = .returned (.bool (G.may k)) ∧ ∃ gr', GPRel w w' p q g gr' (G.take k) := by
  obtain ⟨h1, h2, h3, h4, h5, h6, h7, h8, h9, h10⟩ := h
  have hal := h1.lt
  refine (rgtake_any h2 h9 hlen k).mono fun e w' ⟨g', k1, k2, k3, k4⟩ => ⟨k1, g', ?_, k2, ?_, ?_, ?_, h6, h7, h8, h10⟩
  · exact h1.keep k3 (by simp; exact h8) (fun j hj => by simp; exact (h3 j hj).2.1)
  · intro j hj
    refine ⟨(h3 j hj).1, (h3 j hj).2.1, ?_⟩
    rcases k4 with e | ⟨i, e, hi⟩
    · rw [e]; exact (h3 j hj).2.2
    · rw [e]; intro e2; injection e2 with e2; have := hal.2 j hj; omega
  · intro j hj
    rcases k4 with e | ⟨i, e, hi⟩
    · exact h4 j (e ▸ hj)
    · rw [e] at hj; injection hj with hj; subst hj
      exact ⟨Nat.le_trans h5.size hi, by have := hal.1; omega⟩
  · exact h5.step k3 fun x hx => by simp at hx; subst hx; exact .inr h7

/-- the copy and what is taken of it. -/
theorem gp_copy {w wr : World} {p q : Nat} {g gr : Option Nat} {G : Gr} (h : GPRel w wr p q g gr G) (hlen : G.op.length ≤ 1000000) :
    Calls Try.prog 50 #[.pointer (some ⟨p, 0, none⟩)] wr fun e w' => ∃ pc, e = .returned (.pointer (some ⟨pc, 0, none⟩)) ∧ GramIn wr w' pc G :=
  (gcopy_any h.a hlen).mono fun e w' ⟨pc, gc, k1, k2, k3, k4, k5⟩ => ⟨pc, k1, k5, ⟨gc, k3, k4⟩, k2⟩


set_option maxHeartbeats 8000000 in
theorem gramplays_walk (a0 : Option Addr) (n0 c0 : Nat) (z0 : List Int) (w : World) (w0 : IntsIn .i64 w a0 n0 c0 z0) :
    Calls Try.prog 12 #[.slice a0 n0 c0] w fun e w' => e = .returned (.bool true) ∧ Touch [] w w' := by
  have ok0 : Gr.Ok ⟨[], 0⟩ := by constructor <;> simp
  have hcm : n0 ≤ 9223372036854775807 := by have := w0.le; have := w0.max; omega
  go_enter Try.func12, Try.ntmps12
  go_wp2_with fail
  refine (gnew_any _).mono ?_
  rintro e w1 ⟨p, rfl, hp, h1, ht1⟩
  try go_simp
  have hpl := h1.lt.1
  have hsz := ht1.size
  have hst : GPRel w (w1.alloc (.cells #[.slice none 0 0, .int .i64 0] 69)) p w1.heap.size none none ⟨[], 0⟩ :=
    ⟨h1.keep ((Touch.refl [] _).alloc _) (by simp) (by simp), ⟨_, alloc_new _ _, SlAt.nil _ _ _, by simp⟩, by simp, by simp, ht1.alloc _, hp, hsz, by omega, ok0⟩
  by_cases hn : 150 < n0
  · go_wp2_with fail
    refine (awake13 _).mono ?_
    rintro e w2 ⟨rfl, ht⟩
    try go_simp
    go_wp2_with fail
    go_ret
    exact ⟨rfl, hst.touch.trans ht⟩
  go_wp2_with fail
  obtain ⟨q, hq⟩ : ∃ q, w1.heap.size = q := ⟨_, rfl⟩
  simp only [hq] at hst ⊢
  clear hq hpl hsz h1 ht1 ok0 hp
  go_loopw [5] (fun v wr => ∃ (i : Nat) (G : Gr) (g gr : Option Nat), i ≤ n0 ∧ v = .int .i64 i ∧ GPRel w wr p q g gr G ∧ G.op.length ≤ i) (fun v _ => n0 - (intOf v).toNat)
  case atStart => exact ⟨0, _, _, _, by omega, rfl, hst, by simp⟩
  case round =>
    clear hst
    obtain ⟨i, G, g, gr, hi, rfl, hr, hlen0⟩ := hrel
    have hlen : G.op.length ≤ 1000000 := by omega
    by_cases hlt : i < n0
    · obtain ⟨b, off, rfl, hcell⟩ := w0.cells (by omega)
      obtain ⟨x, hx⟩ : ∃ x, z0.getD i 0 = x := ⟨_, rfl⟩
      have hz := hr.touch.cell (hcell i hlt) (by simp)
      have hwf := i64_bounds (w0.wf (z0.getD i 0) (by have := w0.len; rw [List.getD_eq_getElem?_getD, List.getElem?_eq_getElem (by omega)]; exact List.getElem_mem _))
      rw [hx] at hz hwf
      obtain ⟨hb0, hb1⟩ := hwf
      clear hcell hx
      by_cases h7 : 0 < i % 7
      · have hd : decide ((0 : Int) < (i : Int) % 7) = true := by simp; omega
        go_wp2_with fail
        refine (place_any _ _ _ (by omega) (by omega) (by omega) (by omega)).mono ?_
        rintro e v0 ⟨rfl, rfl⟩
        try go_simp
        go_wp2_with fail
        go_loopw [7] (fun v wi => ∃ j : Int, -1 ≤ j ∧ j ≤ 13 ∧ v = .int .i64 j ∧ Touch [] wr wi) (fun v _ => (13 - intOf v).toNat)
        case atStart => exact ⟨-1, by omega, by omega, rfl, Touch.refl _ _⟩
        case round =>
          obtain ⟨j, hj0, hj1, rfl, hTi⟩ := hrel
          by_cases hj : j < 13
          · go_wp2_with fail
            refine (gmay_any (hr.keep hTi).a j).mono ?_
            rintro e v1 ⟨rfl, hv1⟩
            try go_simp
            go_wp2_with fail
            refine (rgmay_any ((hr.keep hTi).keep hv1).r hr.ok j).mono ?_
            rintro e v2 ⟨rfl, hv2⟩
            try go_simp
            go_wp2_with fail
            go_roundw
            case rel => exact ⟨j + 1, by omega, by omega, rfl, (hTi.trans hv1).trans hv2⟩
            case measure => simp [intOf]; omega
          · go_wp2_with fail
            refine (gp_copy (hr.keep hTi) hlen).mono ?_
            rintro e v3 ⟨pc, rfl, hc⟩
            try go_simp
            have hl1 := Gr.len_take G 8
            go_wp2_with fail
            refine (gtake_in hc hr.ok hlen 8).mono ?_
            rintro e v4 ⟨rfl, hc2⟩
            try go_simp
            go_wp2_with fail
            refine (gtake_in hc2 (Gr.take_ok hr.ok 8) (by omega) 11).mono ?_
            rintro e v5 ⟨rfl, hc3⟩
            try go_simp
            have hr5 := (hr.keep hTi).keep hc3.touch
            clear hc hc2 hc3 hl1
            go_wp2_with fail
            refine (gp_take hr5 hlen (x % 12)).mono ?_
            rintro e v6 ⟨rfl, g', hh⟩
            try go_simp
            go_wp2_with fail
            refine (gp_rtake (x % 12) hh hlen).mono ?_
            rintro e v7 ⟨rfl, gr', hr7⟩
            try go_simp
            have hl2 := Gr.len_take G (x % 12)
            obtain ⟨G', hG'⟩ : ∃ G', G.take (x % 12) = G' := ⟨_, rfl⟩
            rw [hG'] at hr7 hl2
            clear hh hr5 hG' hr
            obtain ⟨svq, hq0, hsq, hgq⟩ := id hr7.r
            obtain ⟨adq, capq, rfl, hleq, hcmq, hfq⟩ := hsq.form
            have hU : ∀ w', Touch [] v7 w' → ∀ i, w'.cell? ⟨q, i, none⟩ = (#[.slice adq G'.op.length capq, .int .i64 (atOf G'.want)] : Array Value)[i]? := fun w' h => cell_at (h.keep hq0 (by simp))
            clear hq0 hsq hfq hgq
            obtain ⟨n', hn'⟩ : ∃ n', G'.op.length = n' := ⟨_, rfl⟩
            have HN := Box.mk hn'
            rw [hn'] at hU hleq
            clear hn'
            go_wp2_with fail
            go_region_held3 (fun w' => Touch [] v7 w')
              (first | exact Touch.drew (Touch.refl _ _) | exact Touch.trans (by assumption) ht9)
              (first
                | (go_at_call 46; refine (gdepth_any (hr7.keep (by assumption)).a).mono ?_; rintro e w9 ⟨rfl, ht9⟩; rw [HN.out])
                | (go_at_call 52; refine (gname_any (hr7.keep (by assumption)).a).mono ?_; rintro e w9 ⟨rfl, ht9⟩)
                | (go_at_call 53; refine (rgname_any (hr7.keep (by assumption)).r hr7.ok).mono ?_; rintro e w9 ⟨rfl, ht9⟩)
                | (go_at_call 43; refine (gended_any (hr7.keep (by assumption)).a).mono ?_; rintro e w9 ⟨rfl, ht9⟩)
                | (go_at_call 54; refine (rgended_any (hr7.keep (by assumption)).r hr7.ok).mono ?_; rintro e w9 ⟨rfl, ht9⟩; have hT9 : Touch [] v7 w9 := Touch.trans (by assumption) ht9))
            clear hU
            go_wp2_with fail
            go_roundw
            case rel => exact ⟨i + 1, G', g', gr', by omega, by go_num, hr7.keep hT9, by omega⟩
            case measure => simp [intOf]; omega
      · have hd : decide ((0 : Int) < (i : Int) % 7) = false := by simp; omega
        go_wp2_with fail
        go_loopw [7] (fun v wi => ∃ j : Int, -1 ≤ j ∧ j ≤ 13 ∧ v = .int .i64 j ∧ Touch [] wr wi) (fun v _ => (13 - intOf v).toNat)
        case atStart => exact ⟨-1, by omega, by omega, rfl, Touch.refl _ _⟩
        case round =>
          obtain ⟨j, hj0, hj1, rfl, hTi⟩ := hrel
          by_cases hj : j < 13
          · go_wp2_with fail
            refine (gmay_any (hr.keep hTi).a j).mono ?_
            rintro e v1 ⟨rfl, hv1⟩
            try go_simp
            go_wp2_with fail
            refine (rgmay_any ((hr.keep hTi).keep hv1).r hr.ok j).mono ?_
            rintro e v2 ⟨rfl, hv2⟩
            try go_simp
            go_wp2_with fail
            go_roundw
            case rel => exact ⟨j + 1, by omega, by omega, rfl, (hTi.trans hv1).trans hv2⟩
            case measure => simp [intOf]; omega
          · go_wp2_with fail
            refine (gp_copy (hr.keep hTi) hlen).mono ?_
            rintro e v3 ⟨pc, rfl, hc⟩
            try go_simp
            have hl1 := Gr.len_take G 8
            go_wp2_with fail
            refine (gtake_in hc hr.ok hlen 8).mono ?_
            rintro e v4 ⟨rfl, hc2⟩
            try go_simp
            go_wp2_with fail
            refine (gtake_in hc2 (Gr.take_ok hr.ok 8) (by omega) 11).mono ?_
            rintro e v5 ⟨rfl, hc3⟩
            try go_simp
            have hr5 := (hr.keep hTi).keep hc3.touch
            clear hc hc2 hc3 hl1
            go_wp2_with fail
            refine (gp_take hr5 hlen x).mono ?_
            rintro e v6 ⟨rfl, g', hh⟩
            try go_simp
            go_wp2_with fail
            refine (gp_rtake x hh hlen).mono ?_
            rintro e v7 ⟨rfl, gr', hr7⟩
            try go_simp
            have hl2 := Gr.len_take G x
            obtain ⟨G', hG'⟩ : ∃ G', G.take x = G' := ⟨_, rfl⟩
            rw [hG'] at hr7 hl2
            clear hh hr5 hG' hr
            obtain ⟨svq, hq0, hsq, hgq⟩ := id hr7.r
            obtain ⟨adq, capq, rfl, hleq, hcmq, hfq⟩ := hsq.form
            have hU : ∀ w', Touch [] v7 w' → ∀ i, w'.cell? ⟨q, i, none⟩ = (#[.slice adq G'.op.length capq, .int .i64 (atOf G'.want)] : Array Value)[i]? := fun w' h => cell_at (h.keep hq0 (by simp))
            clear hq0 hsq hfq hgq
            obtain ⟨n', hn'⟩ : ∃ n', G'.op.length = n' := ⟨_, rfl⟩
            have HN := Box.mk hn'
            rw [hn'] at hU hleq
            clear hn'
            go_wp2_with fail
            go_region_held3 (fun w' => Touch [] v7 w')
              (first | exact Touch.drew (Touch.refl _ _) | exact Touch.trans (by assumption) ht9)
              (first
                | (go_at_call 46; refine (gdepth_any (hr7.keep (by assumption)).a).mono ?_; rintro e w9 ⟨rfl, ht9⟩; rw [HN.out])
                | (go_at_call 52; refine (gname_any (hr7.keep (by assumption)).a).mono ?_; rintro e w9 ⟨rfl, ht9⟩)
                | (go_at_call 53; refine (rgname_any (hr7.keep (by assumption)).r hr7.ok).mono ?_; rintro e w9 ⟨rfl, ht9⟩)
                | (go_at_call 43; refine (gended_any (hr7.keep (by assumption)).a).mono ?_; rintro e w9 ⟨rfl, ht9⟩)
                | (go_at_call 54; refine (rgended_any (hr7.keep (by assumption)).r hr7.ok).mono ?_; rintro e w9 ⟨rfl, ht9⟩; have hT9 : Touch [] v7 w9 := Touch.trans (by assumption) ht9))
            clear hU
            go_wp2_with fail
            go_roundw
            case rel => exact ⟨i + 1, G', g', gr', by omega, by go_num, hr7.keep hT9, by omega⟩
            case measure => simp [intOf]; omega
    · go_wp2_with fail
      refine (awake13 _).mono ?_
      rintro e w2 ⟨rfl, ht⟩
      try go_simp
      go_wp2_with fail
      go_ret
      exact ⟨rfl, hr.touch.trans ht⟩
end Go.Proofs.Ytgjddlianhejdaa
