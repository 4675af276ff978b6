/- slices.Clone and the machine's copy. -/
import Derived.Test.YtgjddlianhejdaaGramK
import Derived.Deep.RegionHeld3
import Derived.Lib.SliceRun
namespace Go.Proofs.Ytgjddlianhejdaa
open Go.RowKit
set_option maxRecDepth 100000
set_option linter.unusedVariables false
set_option linter.unusedSimpArgs false

theorem slAt_empty0 (w : World) (E : TypeId) : SlAt (w.alloc (.cells #[] E)) E 1 (.slice (some ⟨w.heap.size, 0, none⟩) 0 0) 0 (ints []) (some w.heap.size) := by
  have h := slAt_new (w := w) (E := E) (c := #[]) (m := 0) (size := 1) rfl (by omega)
  simpa using h

theorem clone_any {w : World} {v : Value} {n : Nat} {l : List Int} {g : Option Nat} (h0 : SlAt w 3 1 v n (ints l) g) (hn : n ≤ 1000000) :
    Calls Try.prog 61 #[v] w fun e w' => ∃ ad c g', e = .returned (.slice ad n c) ∧ SlAt w' 3 1 (.slice ad n c) n (ints l) g' ∧ (∀ k, g' = some k → w.heap.size ≤ k) ∧ Touch [] w w' := by
  have qT : ∀ (w : World) (a : Option Addr) (n c n' c' : Nat), (binOp .eql 43 (.slice a n c) (.slice none n' c')).run Try.prog w = .ok (.bool a.isNone) w := fun w a n c n' c' => Lib.run_eql_slice_nil w _ _ a n c n' c' Try.underlying43
  rcases h0.shape with ⟨rfl, rfl, h2, rfl⟩ | ⟨k, cap, cur, rfl, rfl, hk, hle, hcm, hcs, htk⟩
  · go_enter Try.func61, Try.ntmps61
    go_wp2
    go_ret
    exact ⟨none, 0, none, rfl, h0, by simp, Touch.refl _ _⟩
  · go_enter Try.func61, Try.ntmps61
    go_wp2_with (at_builtin; refine wpList_append_sl sliceT_int rfl (.tmp 5) (.tmp 6) rfl rfl (slAt_empty0 _ _) rfl ((h0.keep ((Touch.refl [] _).alloc _) (by simp)).src (ints_one _)) (by omega) ?_; intro ad1 c1 w2 g2 hs2 ht2 hn2; simp only [ints_append, List.nil_append, Nat.zero_add] at hs2)
    go_ret
    exact ⟨ad1, c1, g2, rfl, hs2, newOr_alloc (w1 := w) hn2 (Nat.le_refl _) (by rintro k h; injection h with h; omega), Touch.step ((Touch.refl [] w).alloc _) ht2 (by intro x hx; simp at hx; subst hx; exact .inr (Nat.le_refl _))⟩

theorem gcopy_any {w : World} {b : Nat} {g : Option Nat} {G : Gr} (h0 : GramAt w b g G) (hlen : G.op.length ≤ 1000000) :
    Calls Try.prog 50 #[.pointer (some ⟨b, 0, none⟩)] w fun e w' => ∃ p g', e = .returned (.pointer (some ⟨p, 0, none⟩)) ∧ w.heap.size ≤ p ∧ GramAt w' p g' G ∧ (∀ k, g' = some k → w.heap.size ≤ k) ∧ Touch [] w w' := by
  obtain ⟨sv, hb, hs, hg⟩ := id h0
  obtain ⟨ad, cap, rfl, hle, hcm, hf⟩ := hs.form
  have hbl := block_lt hb
  obtain ⟨n, hn⟩ : ∃ n, G.op.length = n := ⟨_, rfl⟩
  rw [hn] at hb hs hle hlen
  have HN := Box.mk hn
  clear hn hf
  have hc : ∀ w', Touch [] w w' → ∀ i, w'.cell? ⟨b, i, none⟩ = (#[.slice ad n cap, .int .i64 G.want] : Array Value)[i]? := fun w' h => cell_at (h.keep hb (by simp))
  go_enter Try.func50, Try.ntmps50
  go_wp2_with fail
  go_region_held3 (fun w' => Touch [] w w')
    (first | exact (Touch.refl _ _).drew | exact Touch.trans (by assumption) ht1 | exact Touch.alloc (by assumption) _)
    (first | (go_at_call 61; refine (clone_any (hs.keep (by assumption) (by simp)) hlen).mono ?_; rintro e w1 ⟨ad1, c1, g1, rfl, hs1, hg1, ht1⟩; have hT1 : Touch [] w w1 := Touch.trans (by assumption) ht1))
  clear hc
  go_wp2_with fail
  go_ret
  have hp : w.heap.size ≤ w1.heap.size := hT1.size
  have hg1' : g1 ≠ some w1.heap.size := by rintro rfl; have := hs1.lt rfl; omega
  exact ⟨_, g1, rfl, hp, ⟨_, alloc_new _ _, by rw [HN.out]; exact hs1.keep ((Touch.refl [] _).alloc _) (by simp), hg1'⟩, hg1, hT1.alloc _⟩
end Go.Proofs.Ytgjddlianhejdaa
