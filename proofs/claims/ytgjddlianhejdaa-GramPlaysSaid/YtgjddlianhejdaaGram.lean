/- The walks of the grammar's machine (the program's). -/
import Derived.Test.YtgjddlianhejdaaSl
import Derived.Test.YtgjddlianhejdaaGramM
import Derived.BigRegion
namespace Go.Proofs.Ytgjddlianhejdaa
open Go.RowKit
set_option maxRecDepth 100000
set_option linter.unusedVariables false
set_option linter.unusedSimpArgs false

theorem sliceT_int : SliceT Try.prog 43 3 (.int .i64 0) 1 8 := by
  obtain ⟨i0, hi, hz0, hz1, hz2⟩ := info_parts (show (Try.prog.info? 3).map (fun i => (i.zero, i.size, i.bytes)) = some (some (.int .i64 0), 1, 8) by kernel_rfl)
  exact ⟨Try.underlying43, rfl, by decide, by decide, i0, hi, hz0, hz1, hz2⟩

abbrev ints (l : List Int) : List Value := l.map (Value.int .i64)
theorem ints_one (l : List Int) : ∀ u ∈ ints l, u.oneCell' = true := by
  intro u hu
  obtain ⟨x, _, rfl⟩ := List.mem_map.1 hu
  rfl

/-- the machine at block b, its open row in block g. -/
def GramAt (w : World) (b : Nat) (g : Option Nat) (G : Gr) : Prop :=
  ∃ sv, w.heap[b]? = some (.cells #[sv, .int .i64 G.want] 90) ∧ SlAt w 3 1 sv G.op.length (ints G.op) g ∧ g ≠ some b

theorem GramAt.keep {w w' : World} {F : List Nat} {b : Nat} {g : Option Nat} {G : Gr} (h : GramAt w b g G) (ht : Touch F w w') (hb : b ∉ F) (hg : ∀ k, g = some k → k ∉ F) : GramAt w' b g G := by
  obtain ⟨sv, h1, h2, h3⟩ := h
  exact ⟨sv, ht.keep h1 hb, h2.keep ht hg, h3⟩

theorem gnew_any (w : World) : Calls Try.prog 40 #[] w fun e w' => ∃ p, e = .returned (.pointer (some ⟨p, 0, none⟩)) ∧ w.heap.size ≤ p ∧ GramAt w' p none ⟨[], 0⟩ ∧ Touch [] w w' := by
  go_enter Try.func40, Try.ntmps40
  go_wp2
  go_ret
  exact ⟨_, rfl, Nat.le_refl _, ⟨_, alloc_new _ _, SlAt.nil _ _ _, by simp⟩, (Touch.refl _ _).alloc _⟩

theorem top_get {l : List Int} {w : Int} (h : 0 < l.length) : (ints l)[l.length - 1]? = some (.int .i64 (Gr.top ⟨l, w⟩)) := by
  unfold Gr.top
  simp only [List.getLastD_eq_getLast?, List.getLast?_eq_getElem?, List.getElem?_map, List.getElem?_eq_getElem (show l.length - 1 < l.length by omega)]
  rfl

theorem gtop_any {w : World} {b : Nat} {g : Option Nat} {G : Gr} (h0 : GramAt w b g G) :
    Calls Try.prog 57 #[.pointer (some ⟨b, 0, none⟩)] w fun e w' => e = .returned (.int .i64 G.top) ∧ Touch [] w w' := by
  obtain ⟨op, want⟩ := G
  obtain ⟨sv, hb, hs, _⟩ := h0
  obtain ⟨a, cap, rfl, hle, hcm, hf⟩ := hs.form
  by_cases hop : op = []
  · subst hop
    have e : Gr.top ⟨[], want⟩ = 0 := rfl
    rw [e]
    have hc := cell_at hb
    clear e
    go_enter Try.func57, Try.ntmps57
    go_wp2
    go_ret
    exact ⟨rfl, Touch.refl _ _⟩
  · have hpos : 0 < op.length := List.length_pos_iff.2 hop
    obtain ⟨k, rfl, rfl⟩ := hf hpos
    have hx := hs.cell rfl (top_get (w := want) hpos)
    obtain ⟨t, ht⟩ : ∃ t, Gr.top ⟨op, want⟩ = t := ⟨_, rfl⟩
    rw [ht] at hx ⊢
    obtain ⟨n, hn⟩ : ∃ n, op.length = n := ⟨_, rfl⟩
    rw [hn] at hx hb hle hpos
    have hc := cell_at hb
    have hne : ((n : Int) == 0) = false := by simp; omega
    clear hs hf hop hn ht hb
    go_enter Try.func57, Try.ntmps57
    go_wp2
    go_quiet (fail)
    go_wp2
    go_ret
    exact ⟨rfl, (Touch.refl _ _).drewN _⟩

theorem gdone_any {w : World} {b : Nat} {g : Option Nat} {G : Gr} (h0 : GramAt w b g G) :
    Calls Try.prog 58 #[.pointer (some ⟨b, 0, none⟩)] w fun e w' => e = .returned (.tuple #[]) ∧ GramAt w' b g (Gr.done G.op) ∧ Touch [b] w w' := by
  obtain ⟨op, want⟩ := G
  obtain ⟨sv, hb, hs, hg⟩ := h0
  obtain ⟨a, cap, rfl, hle, hcm, hf⟩ := hs.form
  have hc := cell_at hb
  have hfr := free_at hb
  by_cases hop : op = []
  · subst hop
    go_enter Try.func58, Try.ntmps58
    go_wp2
    go_end0
    have T : Touch [b] w ((w.setCell ⟨b, 1, none⟩ (.int .i64 5)).setCell ⟨b, 1, none⟩ (.int .i64 6)) := ((Touch.refl _ _).setCell (.inl (by simp)) _).setCell (.inl (by simp)) _
    exact ⟨by first | rfl | trivial, ⟨_, set_same (set_same hb _ _) _ _, hs.keep T (by rintro k rfl; simpa using hg), hg⟩, T⟩
  · have hpos : 0 < op.length := List.length_pos_iff.2 hop
    obtain ⟨n, hn⟩ : ∃ n, op.length = n := ⟨_, rfl⟩
    have hne : ((n : Int) == 0) = false := by simp; omega
    rw [hn] at hc
    go_enter Try.func58, Try.ntmps58
    go_wp2
    go_end0
    have T : Touch [b] w (w.setCell ⟨b, 1, none⟩ (.int .i64 5)) := (Touch.refl _ _).setCell (.inl (by simp)) _
    have e : Gr.done op = ⟨op, 5⟩ := by unfold Gr.done; rw [if_neg hop]
    simp only [e]
    exact ⟨by first | rfl | trivial, ⟨_, set_same hb _ _, hs.keep T (by rintro k rfl; simpa using hg), hg⟩, T⟩

theorem gname_any {w : World} {b : Nat} {g : Option Nat} {G : Gr} (h0 : GramAt w b g G) :
    Calls Try.prog 52 #[.pointer (some ⟨b, 0, none⟩)] w fun e w' => e = .returned (.bool G.name) ∧ Touch [] w w' := by
  obtain ⟨sv, hb, hs, hg⟩ := h0
  have hc := cell_at hb
  go_enter Try.func52, Try.ntmps52
  go_wp2
  all_goals go_ret
  all_goals refine ⟨?_, Touch.refl _ _⟩
  all_goals simp [Gr.name, *]
theorem gended_any {w : World} {b : Nat} {g : Option Nat} {G : Gr} (h0 : GramAt w b g G) :
    Calls Try.prog 43 #[.pointer (some ⟨b, 0, none⟩)] w fun e w' => e = .returned (.bool (G.want == 6)) ∧ Touch [] w w' := by
  obtain ⟨op, want⟩ := G
  obtain ⟨sv, hb, hs, hg⟩ := h0
  have hc := cell_at hb
  go_enter Try.func43, Try.ntmps43
  go_wp2
  go_ret
  exact ⟨rfl, Touch.refl _ _⟩
theorem gdepth_any {w : World} {b : Nat} {g : Option Nat} {G : Gr} (h0 : GramAt w b g G) :
    Calls Try.prog 46 #[.pointer (some ⟨b, 0, none⟩)] w fun e w' => e = .returned (.int .i64 G.op.length) ∧ Touch [] w w' := by
  obtain ⟨op, want⟩ := G
  obtain ⟨sv, hb, hs, hg⟩ := h0
  obtain ⟨a, cap, rfl, hle, hcm, hf⟩ := hs.form
  have hc := cell_at hb
  go_enter Try.func46, Try.ntmps46
  go_wp2
  go_ret
  exact ⟨rfl, Touch.refl _ _⟩

theorem gmay_any {w : World} {b : Nat} {g : Option Nat} {G : Gr} (h0 : GramAt w b g G) (k : Int) :
    Calls Try.prog 44 #[.pointer (some ⟨b, 0, none⟩), .int .i64 k] w fun e w' => e = .returned (.bool (G.may k)) ∧ Touch [] w w' := by
  obtain ⟨sv, hb, hs, hg⟩ := id h0
  have hc := cell_at hb
  go_enter Try.func44, Try.ntmps44
  go_wp2_with (go_at_call 57; refine (gtop_any (G := G) (g := g) ?_).mono ?_; (first | exact h0 | exact h0.keep ht (by simp) (by simp)); rintro e w1 ⟨rfl, ht⟩)
  all_goals go_ret
  all_goals refine ⟨?_, (by repeat (first | exact Touch.refl _ _ | assumption | refine Touch.trans (by assumption) ?_))⟩
  all_goals first | (simp_all [Gr.may, valueK]; done) | (have hk1 : ¬ (1 ≤ k) := (by omega); simp_all [Gr.may, valueK]; done) | (simp [Gr.may, valueK]; grind) | skip
  all_goals trace_state
  all_goals sorry
end Go.Proofs.Ytgjddlianhejdaa
