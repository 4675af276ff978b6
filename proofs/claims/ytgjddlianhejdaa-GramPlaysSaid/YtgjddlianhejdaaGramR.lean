/- The walks of the grammar's machine (the reference's). -/
import Derived.Test.YtgjddlianhejdaaGramK
import Derived.Deep.RegionLaw
namespace Go.Proofs.Ytgjddlianhejdaa
open Go.RowKit
set_option maxRecDepth 100000
set_option linter.unusedVariables false
set_option linter.unusedSimpArgs false

def atOf (want : Int) : Int := if want = 0 then 0 else if want = 1 then 2 else if want = 2 then 3 else if want = 3 then 5 else if want = 4 then 4 else 1

/-- the reference's machine at block b, its open row in block g. -/
def RGramAt (w : World) (b : Nat) (g : Option Nat) (G : Gr) : Prop :=
  ∃ sv, w.heap[b]? = some (.cells #[sv, .int .i64 (atOf G.want)] 69) ∧ SlAt w 3 1 sv G.op.length (ints G.op) g ∧ g ≠ some b

theorem RGramAt.keep {w w' : World} {F : List Nat} {b : Nat} {g : Option Nat} {G : Gr} (h : RGramAt w b g G) (ht : Touch F w w') (hb : b ∉ F) (hg : ∀ k, g = some k → k ∉ F) : RGramAt w' b g G := by
  obtain ⟨sv, h1, h2, h3⟩ := h
  exact ⟨sv, ht.keep h1 hb, h2.keep ht hg, h3⟩

theorem rglast_any {w : World} {b : Nat} {g : Option Nat} {G : Gr} (h0 : RGramAt w b g G) :
    Calls Try.prog 60 #[.pointer (some ⟨b, 0, none⟩)] w fun e w' => e = .returned (.int .i64 G.top) ∧ Touch [] w w' := by
  obtain ⟨op, want⟩ := G
  obtain ⟨sv, hb, hs, _⟩ := h0
  obtain ⟨a, cap, rfl, hle, hcm, hf⟩ := hs.form
  by_cases hop : op = []
  · subst hop
    have e : Gr.top ⟨[], want⟩ = 0 := rfl
    rw [e]
    have hc := cell_at hb
    clear e
    go_enter Try.func60, Try.ntmps60
    go_wp2
    go_ret
    exact ⟨rfl, Touch.refl _ _⟩
  · have hpos : 0 < op.length := List.length_pos_iff.2 hop
    obtain ⟨k, rfl, rfl⟩ := hf hpos
    have hx := hs.cell rfl (top_get (w := want) hpos)
    obtain ⟨t, ht⟩ : ∃ t, Gr.top ⟨op, want⟩ = t := ⟨_, rfl⟩
    rw [ht] at hx ⊢
    obtain ⟨n, hn⟩ : ∃ n, op.length = n := ⟨_, rfl⟩
    rw [hn] at hx hb hle hpos
    have hc := cell_at hb
    have hne : ((n : Int) == 0) = false := by simp; omega
    clear hs hf hop hn ht hb
    go_enter Try.func60, Try.ntmps60
    go_wp2
    go_quiet (fail)
    go_wp2
    go_ret
    exact ⟨rfl, (Touch.refl _ _).drewN _⟩

theorem rgvalue_any (k : Int) (w : World) : Calls Try.prog 59 #[.int .i64 k] w fun e w' => e = .returned (.bool (valueK k)) ∧ w = w' := by
  by_cases h1 : 1 ≤ k <;> by_cases h6 : k ≤ 6
  all_goals
    go_enter Try.func59, Try.ntmps59
    go_wp2
    all_goals go_ret
    all_goals exact ⟨by simp [valueK, h1, h6] <;> (intros; omega), rfl⟩

theorem rgname_any {w : World} {b : Nat} {g : Option Nat} {G : Gr} (h0 : RGramAt w b g G) (ok : G.Ok) :
    Calls Try.prog 53 #[.pointer (some ⟨b, 0, none⟩)] w fun e w' => e = .returned (.bool G.name) ∧ Touch [] w w' := by
  obtain ⟨sv, hb, hs, hg⟩ := h0
  have hc := cell_at hb
  have hw := ok.want
  have e : G.name = (atOf G.want == 3 || atOf G.want == 5) := by
    have h : G.want = 0 ∨ G.want = 1 ∨ G.want = 2 ∨ G.want = 3 ∨ G.want = 4 ∨ G.want = 5 ∨ G.want = 6 := by omega
    rcases h with h | h | h | h | h | h | h <;> simp [Gr.name, h, atOf]
  rw [e]
  obtain ⟨a, ha⟩ : ∃ a, atOf G.want = a := ⟨_, rfl⟩
  rw [ha] at hc ⊢
  clear e ha hb
  go_enter Try.func53, Try.ntmps53
  go_wp2
  all_goals go_ret
  all_goals refine ⟨?_, Touch.refl _ _⟩
  all_goals first | rfl | simp [*]

theorem rgended_any {w : World} {b : Nat} {g : Option Nat} {G : Gr} (h0 : RGramAt w b g G) (ok : G.Ok) :
    Calls Try.prog 54 #[.pointer (some ⟨b, 0, none⟩)] w fun e w' => e = .returned (.bool (G.want == 6)) ∧ Touch [] w w' := by
  obtain ⟨op, want⟩ := G
  obtain ⟨sv, hb, hs, hg⟩ := h0
  obtain ⟨a, cap, rfl, hle, hcm, hf⟩ := hs.form
  have hw := ok.want
  have h5 := ok.more
  have h6 := ok.nothing
  simp only at hw h5 h6 hb hle
  have e : (want == 6) = (atOf want == 1 && ((op.length : Nat) : Int) == 0) := by
    have h : want = 0 ∨ want = 1 ∨ want = 2 ∨ want = 3 ∨ want = 4 ∨ want = 5 ∨ want = 6 := by omega
    rcases h with h | h | h | h | h | h | h
    · simp [h, atOf]
    · simp [h, atOf]
    · simp [h, atOf]
    · simp [h, atOf]
    · simp [h, atOf]
    · have := h5 h; have hp : 0 < op.length := List.length_pos_iff.2 this; simp [h, atOf, this]
    · have := h6 h; simp [h, atOf, this]
  simp only
  rw [e]
  obtain ⟨n, hn⟩ : ∃ n, op.length = n := ⟨_, rfl⟩
  rw [hn] at hb hle ⊢
  obtain ⟨t, ht⟩ : ∃ t, atOf want = t := ⟨_, rfl⟩
  rw [ht] at hb ⊢
  have hc := cell_at hb
  clear e ht hb hn h5 h6 hs hf
  go_enter Try.func54, Try.ntmps54
  go_wp2
  all_goals go_ret
  all_goals refine ⟨?_, Touch.refl _ _⟩
  all_goals first | rfl | simp [*]

set_option maxHeartbeats 1000000 in
theorem rgmay_any {w : World} {b : Nat} {g : Option Nat} {G : Gr} (h0 : RGramAt w b g G) (ok : G.Ok) (k : Int) :
    Calls Try.prog 49 #[.pointer (some ⟨b, 0, none⟩), .int .i64 k] w fun e w' => e = .returned (.bool (G.may k)) ∧ Touch [] w w' := by
  obtain ⟨sv, hb, hs, hg⟩ := id h0
  have hw := ok.want
  have hcase : G.want = 0 ∨ G.want = 1 ∨ G.want = 2 ∨ G.want = 3 ∨ G.want = 4 ∨ (G.want = 5 ∨ G.want = 6) := by omega
  rcases hcase with h | h | h | h | h | h
  · have e : G.may k = valueK k := by simp [Gr.may, h]
    rw [e]
    rw [show atOf G.want = 0 by simp [h, atOf]] at hb
    have hc := cell_at hb
    clear h e
    go_enter Try.func49, Try.ntmps49
    go_wp2_with fail
    refine (rgvalue_any _ _).mono ?_
    rintro e w1 ⟨rfl, rfl⟩
    try go_simp
    go_wp2_with fail
    go_ret
    exact ⟨rfl, Touch.refl _ _⟩
  · have e : G.may k = (valueK k || k == 7) := by simp [Gr.may, h, Bool.or_comm]
    rw [e]
    rw [show atOf G.want = 2 by simp [h, atOf]] at hb
    have hc := cell_at hb
    clear h e
    cases hv : valueK k
    all_goals
      go_enter Try.func49, Try.ntmps49
      go_wp2_with fail
      refine (rgvalue_any _ _).mono ?_
      rintro e w1 ⟨rfl, rfl⟩
      try go_simp
      go_wp2_with fail
      go_ret
      exact ⟨rfl, Touch.refl _ _⟩
  · have e : G.may k = (k == 5 || k == 9) := by simp [Gr.may, h, Bool.or_comm]
    rw [e]
    rw [show atOf G.want = 3 by simp [h, atOf]] at hb
    have hc := cell_at hb
    clear h e
    go_enter Try.func49, Try.ntmps49
    go_wp2
    all_goals go_ret
    all_goals refine ⟨?_, Touch.refl _ _⟩
    all_goals first | rfl | simp [*]
  · have e : G.may k = (k == 5) := by simp [Gr.may, h]
    rw [e]
    rw [show atOf G.want = 5 by simp [h, atOf]] at hb
    have hc := cell_at hb
    clear h e
    go_enter Try.func49, Try.ntmps49
    go_wp2
    go_ret
    exact ⟨rfl, Touch.refl _ _⟩
  · have e : G.may k = (k == 10) := by simp [Gr.may, h]
    rw [e]
    rw [show atOf G.want = 4 by simp [h, atOf]] at hb
    have hc := cell_at hb
    clear h e
    go_enter Try.func49, Try.ntmps49
    go_wp2
    go_ret
    exact ⟨rfl, Touch.refl _ _⟩
  · have e : G.may k = (G.top == 6 && (k == 11 || k == 7) || G.top == 8 && (k == 11 || k == 9)) := by
      rcases h with h | h
      · have := ok.elems _ (Gr.top_mem (ok.more h))
        rcases this with ht | ht <;> simp [Gr.may, h, ht]
      · have := ok.nothing h
        have ht : G.top = 0 := by simp [Gr.top, this]
        simp [Gr.may, h, ht]
    rw [e]
    rw [show atOf G.want = 1 by rcases h with h | h <;> simp [h, atOf]] at hb
    have hc := cell_at hb
    clear h e
    go_enter Try.func49, Try.ntmps49
    go_wp2_with (go_at_call 60; refine (rglast_any (G := G) (g := g) ?_).mono ?_; (first | exact h0 | exact h0.keep ht (by simp) (by simp)); rintro e w1 ⟨rfl, ht⟩)
    all_goals go_ret
    all_goals refine ⟨?_, (by repeat (first | exact Touch.refl _ _ | assumption | refine Touch.trans (by assumption) ?_))⟩
    all_goals first | (simp [*]; done) | (simp_all; done) | grind
end Go.Proofs.Ytgjddlianhejdaa
