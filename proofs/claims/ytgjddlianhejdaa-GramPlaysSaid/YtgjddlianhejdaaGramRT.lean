/- The reference's machine: Take. -/
import Derived.Test.YtgjddlianhejdaaGramR
namespace Go.Proofs.Ytgjddlianhejdaa
open Go.RowKit
set_option maxRecDepth 100000
set_option linter.unusedVariables false
set_option linter.unusedSimpArgs false

theorem rgtake_no {w : World} {b : Nat} {g : Option Nat} {G : Gr} (h0 : RGramAt w b g G) (ok : G.Ok) (k : Int) (hm : G.may k = false) :
    Calls Try.prog 51 #[.pointer (some ⟨b, 0, none⟩), .int .i64 k] w fun e w' => e = .returned (.bool false) ∧ Touch [] w w' := by
  go_enter Try.func51, Try.ntmps51
  go_wp2_with fail
  refine (rgmay_any h0 ok k).mono ?_
  rintro e w1 ⟨rfl, ht⟩
  try go_simp
  go_wp2_with fail
  go_ret
  exact ⟨rfl, ht⟩

theorem slAt_empty (w : World) (E : TypeId) : SlAt (w.alloc (.cells #[] E)) E 1 (.slice (some ⟨w.heap.size, 0, none⟩) 0 0) 0 (ints []) (some w.heap.size) := by
  have h := slAt_new (w := w) (E := E) (c := #[]) (m := 0) (size := 1) rfl (by omega)
  simpa using h

theorem push_new {w w1 w2 w3 : World} {o o2 : Obj} {g2 g3 : Option Nat} (h1 : Touch [] w w1) (k2 : Touch [w1.heap.size] (w1.alloc o) w2) (h2 : NewOr (w1.alloc o) (some w1.heap.size) g2) (k3 : Touch g2.toList (w2.alloc o2) w3) (h3 : NewOr (w2.alloc o2) g2 g3) :
    Touch [] w w3 ∧ ∀ k, g3 = some k → w.heap.size ≤ k := by
  have s1 := h1.size
  have T2 : Touch [] w w2 := (h1.alloc o).step k2 (by simp; omega)
  have hg2 : ∀ k, g2 = some k → w.heap.size ≤ k := newOr_alloc (w1 := w1) h2 s1 (by rintro k h; injection h with h; omega)
  exact ⟨alloc_up T2 k3 hg2, newOr_alloc h3 T2.size hg2⟩


set_option maxHeartbeats 1000000 in
theorem rgtake_push6 {w : World} {b : Nat} {g : Option Nat} {G : Gr} (h0 : RGramAt w b g G) (ok : G.Ok) (hlen : G.op.length ≤ 1000000) (hm : G.may 6 = true) (want : Int) (hwant : atOf want = 2) :
    Calls Try.prog 51 #[.pointer (some ⟨b, 0, none⟩), .int .i64 6] w fun e w' => ∃ g', e = .returned (.bool true) ∧ RGramAt w' b g' ⟨G.op ++ [6], want⟩ ∧ Touch [b] w w' ∧ NewOr w g g' := by
  obtain ⟨sv, hb, hs, hg⟩ := id h0
  obtain ⟨ad, cap, rfl, hle, hcm, hf⟩ := hs.form
  have hbl := block_lt hb
  have HW := Box.mk hwant
  obtain ⟨at_, hat⟩ : ∃ a, atOf G.want = a := ⟨_, rfl⟩
  rw [hat] at hb
  obtain ⟨n, hn⟩ : ∃ n, G.op.length = n := ⟨_, rfl⟩
  rw [hn] at hb hs hle hlen
  clear hwant hat hf hn
  go_enter Try.func51, Try.ntmps51
  go_wp2_with fail
  refine (rgmay_any h0 ok 6).mono ?_
  rintro e w1 ⟨rfl, ht⟩
  try go_simp
  go_wp2_with fail
  refine (rgname_any (h0.keep ht (by simp) (by simp)) ok).mono ?_
  rintro e w1a ⟨rfl, hta⟩
  try go_simp
  have htb := ht.trans hta
  have hb1 := htb.keep hb (by simp)
  have hs1 := hs.keep htb (by simp)
  have hc1 := cell_at hb1
  have hbl1 := block_lt hb1
  go_wp2_with (first
    | (at_builtin; refine wpList_append_sl sliceT_int rfl (.tmp 23) (.tmp 27) rfl rfl (slAt_empty _ _) rfl ((hs1.keep ((Touch.refl [] _).alloc _) (by simp)).src (ints_one _)) (by omega) ?_; intro ad1 c1 w2 g2 hs2 ht2 hn2; simp only [ints_append, List.nil_append, Nat.zero_add] at hs2)
    | (at_builtin; refine wpList_append_sl sliceT_int rfl (.tmp 28) (.tmp 30) rfl rfl (hs2.keep ((Touch.refl [] _).alloc _) (by simp)) rfl (srcInt1 _ _ _ _) (by omega) ?_; intro ad3 c3 w3 g3 hs3 ht3 hn3; simp only [ints_append] at hs3; have hpn := push_new htb ht2 hn2 ht3 hn3; have hb3 := hpn.1.keep hb (by simp); have hc3 := cell_at hb3; have hf3 := free_at hb3))
  go_ret
  have T : Touch [b] w ((w3.setCell ⟨b, 0, none⟩ (.slice ad3 (n + 1) c3)).setCell ⟨b, 1, none⟩ (.int .i64 2)) := ((hpn.1.mono (by simp)).setCell (.inl (by simp)) _).setCell (.inl (by simp)) _
  have T3 : Touch [b] w3 ((w3.setCell ⟨b, 0, none⟩ (.slice ad3 (n + 1) c3)).setCell ⟨b, 1, none⟩ (.int .i64 2)) := ((Touch.refl _ _).setCell (.inl (by simp)) _).setCell (.inl (by simp)) _
  have hg3 : g3 ≠ some b := by rintro rfl; have := hpn.2 b rfl; omega
  have hl : (G.op ++ [6]).length = n + 1 := by have := hs3.ints_len; omega
  refine ⟨g3, rfl, ⟨.slice ad3 (n + 1) c3, ?_, ?_, hg3⟩, T, ?_⟩
  · rw [HW.out]; exact set_same (set_same hb3 _ _) _ _
  · simp only [hl]
    exact hs3.keep T3 (by rintro k rfl; simpa using hg3)
  · cases hg : g3 with
    | none =>
      exfalso
      obtain ⟨a, c, he, _, _, hf⟩ := hs3.form
      obtain ⟨k, hk, _⟩ := hf (by omega)
      rw [hg] at hk; cases hk
    | some k => exact .inr ⟨k, rfl, hpn.2 k hg⟩

set_option maxHeartbeats 1000000 in
theorem rgtake_push8 {w : World} {b : Nat} {g : Option Nat} {G : Gr} (h0 : RGramAt w b g G) (ok : G.Ok) (hlen : G.op.length ≤ 1000000) (hm : G.may 8 = true) (want : Int) (hwant : atOf want = 3) :
    Calls Try.prog 51 #[.pointer (some ⟨b, 0, none⟩), .int .i64 8] w fun e w' => ∃ g', e = .returned (.bool true) ∧ RGramAt w' b g' ⟨G.op ++ [8], want⟩ ∧ Touch [b] w w' ∧ NewOr w g g' := by
  obtain ⟨sv, hb, hs, hg⟩ := id h0
  obtain ⟨ad, cap, rfl, hle, hcm, hf⟩ := hs.form
  have hbl := block_lt hb
  have HW := Box.mk hwant
  obtain ⟨at_, hat⟩ : ∃ a, atOf G.want = a := ⟨_, rfl⟩
  rw [hat] at hb
  obtain ⟨n, hn⟩ : ∃ n, G.op.length = n := ⟨_, rfl⟩
  rw [hn] at hb hs hle hlen
  clear hwant hat hf hn
  go_enter Try.func51, Try.ntmps51
  go_wp2_with fail
  refine (rgmay_any h0 ok 8).mono ?_
  rintro e w1 ⟨rfl, ht⟩
  try go_simp
  go_wp2_with fail
  refine (rgname_any (h0.keep ht (by simp) (by simp)) ok).mono ?_
  rintro e w1a ⟨rfl, hta⟩
  try go_simp
  have htb := ht.trans hta
  have hb1 := htb.keep hb (by simp)
  have hs1 := hs.keep htb (by simp)
  have hc1 := cell_at hb1
  have hbl1 := block_lt hb1
  go_wp2_with (first
    | (at_builtin; refine wpList_append_sl sliceT_int rfl (.tmp 40) (.tmp 44) rfl rfl (slAt_empty _ _) rfl ((hs1.keep ((Touch.refl [] _).alloc _) (by simp)).src (ints_one _)) (by omega) ?_; intro ad1 c1 w2 g2 hs2 ht2 hn2; simp only [ints_append, List.nil_append, Nat.zero_add] at hs2)
    | (at_builtin; refine wpList_append_sl sliceT_int rfl (.tmp 45) (.tmp 47) rfl rfl (hs2.keep ((Touch.refl [] _).alloc _) (by simp)) rfl (srcInt1 _ _ _ _) (by omega) ?_; intro ad3 c3 w3 g3 hs3 ht3 hn3; simp only [ints_append] at hs3; have hpn := push_new htb ht2 hn2 ht3 hn3; have hb3 := hpn.1.keep hb (by simp); have hc3 := cell_at hb3; have hf3 := free_at hb3))
  go_ret
  have T : Touch [b] w ((w3.setCell ⟨b, 0, none⟩ (.slice ad3 (n + 1) c3)).setCell ⟨b, 1, none⟩ (.int .i64 3)) := ((hpn.1.mono (by simp)).setCell (.inl (by simp)) _).setCell (.inl (by simp)) _
  have T3 : Touch [b] w3 ((w3.setCell ⟨b, 0, none⟩ (.slice ad3 (n + 1) c3)).setCell ⟨b, 1, none⟩ (.int .i64 3)) := ((Touch.refl _ _).setCell (.inl (by simp)) _).setCell (.inl (by simp)) _
  have hg3 : g3 ≠ some b := by rintro rfl; have := hpn.2 b rfl; omega
  have hl : (G.op ++ [8]).length = n + 1 := by have := hs3.ints_len; omega
  refine ⟨g3, rfl, ⟨.slice ad3 (n + 1) c3, ?_, ?_, hg3⟩, T, ?_⟩
  · rw [HW.out]; exact set_same (set_same hb3 _ _) _ _
  · simp only [hl]
    exact hs3.keep T3 (by rintro k rfl; simpa using hg3)
  · cases hg : g3 with
    | none =>
      exfalso
      obtain ⟨a, c, he, _, _, hf⟩ := hs3.form
      obtain ⟨k, hk, _⟩ := hf (by omega)
      rw [hg] at hk; cases hk
    | some k => exact .inr ⟨k, rfl, hpn.2 k hg⟩


theorem own_some {w : World} {k : Nat} {g : Option Nat} (h : NewOr w (some k) g) : g ≠ none := by
  rcases h with h | ⟨j, h, _⟩ <;> rw [h] <;> simp
theorem own_new {w w1 w2 : World} {g : Option Nat} (ht : Touch [] w w1) (h : NewOr w2 (some w1.heap.size) g) (hw : w1.heap.size ≤ w2.heap.size := by simp) : ∀ k, g = some k → w.heap.size ≤ k := by
  have := ht.size
  intro k hk
  rcases h with h | ⟨j, h, hj⟩
  · rw [h] at hk; injection hk with hk; omega
  · rw [h] at hk; injection hk with hk; omega
theorem rgdone_at {op : List Int} : atOf (Gr.done op).want = 1 := by unfold Gr.done; split <;> simp [atOf]

set_option maxHeartbeats 2000000 in
theorem rgtake_close {w : World} {b : Nat} {g : Option Nat} {G : Gr} (h0 : RGramAt w b g G) (ok : G.Ok) (hlen : G.op.length ≤ 1000000) (k : Int) (hk : k = 7 ∨ k = 9) (hne : G.op ≠ []) (hm : G.may k = true) :
    Calls Try.prog 51 #[.pointer (some ⟨b, 0, none⟩), .int .i64 k] w fun e w' => ∃ g', e = .returned (.bool true) ∧ RGramAt w' b g' (Gr.done G.op.dropLast) ∧ Touch [b] w w' ∧ NewOr w g g' := by
  obtain ⟨op, want⟩ := G
  obtain ⟨sv, hb, hs, hg⟩ := id h0
  obtain ⟨a, cap, rfl, hle, hcm, hf⟩ := hs.form
  have hpos : 0 < op.length := List.length_pos_iff.2 hne
  obtain ⟨kk, rfl, rfl⟩ := hf hpos
  have hbl := block_lt hb
  have hcut := hs.cut (n' := op.length - 1) (by simp)
  rw [Nat.mul_one] at hcut
  simp only [ints_dropLast] at hcut
  have hd : op.dropLast.length = op.length - 1 := by simp
  obtain ⟨n, hn⟩ : ∃ n, op.length = n := ⟨_, rfl⟩
  obtain ⟨at_, hat⟩ : ∃ a, atOf want = a := ⟨_, rfl⟩
  simp only [hn, hat] at hb hle hpos hcut hd hlen
  have hnn : (0 : Int) ≤ (n : Int) - 1 := by omega
  have hnl : (n : Int) - 1 ≤ (cap : Int) := by omega
  have key : ∀ (w1a w2 : World) (g2 : Option Nat) (ad1 : Option Addr) (c1 : Nat), SlAt w2 3 1 (.slice ad1 (n - 1) c1) (n - 1) (ints op.dropLast) g2 → Touch [] w w2 → w2.heap[b]? = some (.cells #[.slice (some ⟨kk, 0, none⟩) n cap, .int .i64 at_] 69) → (∀ k, g2 = some k → w.heap.size ≤ k) → g2 ≠ none →
      ∃ g', RGramAt ((w2.setCell ⟨b, 0, none⟩ (.slice ad1 (n - 1) c1)).setCell ⟨b, 1, none⟩ (.int .i64 1)) b g' (Gr.done op.dropLast) ∧ Touch [b] w ((w2.setCell ⟨b, 0, none⟩ (.slice ad1 (n - 1) c1)).setCell ⟨b, 1, none⟩ (.int .i64 1)) ∧ NewOr w (some kk) g' := by
    intro w1a w2 g2 ad1 c1 hs2 hT2 hb2 hg2 hne2
    have T : Touch [b] w ((w2.setCell ⟨b, 0, none⟩ (.slice ad1 (n - 1) c1)).setCell ⟨b, 1, none⟩ (.int .i64 1)) := ((hT2.mono (by simp)).setCell (.inl (by simp)) _).setCell (.inl (by simp)) _
    have T3 : Touch [b] w2 ((w2.setCell ⟨b, 0, none⟩ (.slice ad1 (n - 1) c1)).setCell ⟨b, 1, none⟩ (.int .i64 1)) := ((Touch.refl _ _).setCell (.inl (by simp)) _).setCell (.inl (by simp)) _
    have hgb : g2 ≠ some b := by rintro rfl; have := hg2 b rfl; omega
    refine ⟨g2, ⟨.slice ad1 (n - 1) c1, ?_, ?_, hgb⟩, T, ?_⟩
    · rw [rgdone_at]; exact set_same (set_same hb2 _ _) _ _
    · have e : (Gr.done op.dropLast).op = op.dropLast := rfl
      rw [e, hd]
      exact hs2.keep T3 (by rintro k rfl; simpa using hgb)
    · cases hg : g2 with
      | none => exact absurd hg hne2
      | some k => exact .inr ⟨k, rfl, hg2 k hg⟩
  have KEY := Box.mk key
  clear hf hn hs hat hd key
  rcases hk with rfl | rfl
  all_goals
    go_enter Try.func51, Try.ntmps51
    go_wp2_with fail
    refine (rgmay_any h0 ok _).mono ?_
    rintro e w1 ⟨rfl, ht⟩
    try go_simp
    go_wp2_with fail
    refine (rgname_any (h0.keep ht (by simp) (by simp)) ok).mono ?_
    rintro e w1a ⟨rfl, hta⟩
    try go_simp
    have htb := ht.trans hta
    have hb1 := htb.keep hb (by simp)
    have hs1 := hcut.keep htb (by simp)
    have hc1 := cell_at hb1
    have hf1 := free_at hb1
    have hbl1 := block_lt hb1
    have hc10 := hc1 0
    simp at hc10
    go_wp2_with fail
    have hsub : IntKind.i64.wrap ((n : Int) - 1) = (n : Int) - 1 := IntWalk.i64_in _ (by omega)
    have hton : ((n : Int) - 1).toNat = n - 1 := by omega
    have hn1 : (1 : Int) ≤ (n : Int) := by omega
    go_region_law (first | (refine step_append_sl sliceT_int rfl (.tmp 58) (.tmp 69) rfl rfl (slAt_empty _ _) rfl (SlAt.src (hs1.keep (by first | exact (Touch.refl [] _).drew.alloc _ | exact ((Touch.refl [] _).alloc _).drew) (by simp)) (ints_one _)) (by omega) ?_; intro ad1 c1 w2 g2 hs2 ht2 hn2; simp only [ints_append, List.nil_append, Nat.zero_add] at hs2; have hne2 : g2 ≠ none := own_some hn2; have hg2 : ∀ k, g2 = some k → w.heap.size ≤ k := own_new htb hn2; have hT2 : Touch [] w w2 := Touch.step (htb.drew.alloc _) ht2 (by intro x hx; simp at hx; subst hx; exact .inr htb.size); have hb2 := hT2.keep hb (by simp); have hc2 := cell_at hb2; have hf2 := free_at hb2))
    all_goals go_wp2_with fail
    all_goals go_ret
    all_goals
      obtain ⟨g', k1, k2, k3⟩ := KEY.out w1a _ _ _ _ hs2 hT2 hb2 hg2 hne2
      exact ⟨g', rfl, k1, k2, k3⟩
end Go.Proofs.Ytgjddlianhejdaa
