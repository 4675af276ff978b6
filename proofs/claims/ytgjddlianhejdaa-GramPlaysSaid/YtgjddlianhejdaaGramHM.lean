/- Why the grammar's hopes come to an end: plain. -/
import Derived.Test.YtgjddlianhejdaaGramM
namespace Go.Proofs.Ytgjddlianhejdaa

def Gr.mu (G : Gr) : Nat := G.op.length + (if G.want = 3 then 3 else if G.want = 4 then 2 else if G.want = 0 then 1 else 0)

theorem Gr.len_take (G : Gr) (k : Int) : (G.take k).op.length ≤ G.op.length + 1 := by
  unfold Gr.take Gr.done
  split
  · split
    · simp
    split
    · simp
    split
    · simp; omega
    split
    · simp
    split
    · simp
    split
    · simp
    · simp
  · omega
theorem Gr.mu_le (G : Gr) : G.mu ≤ G.op.length + 3 := by
  unfold Gr.mu
  split
  · omega
  split
  · omega
  split <;> omega
/-- a step of hope: one of five is taken, and then less is left. -/
theorem Gr.hope {G : Gr} (ok : G.Ok) (hw : G.want ≠ 6) :
    (G.may 7 = true ∧ (G.take 7).mu + 1 ≤ G.mu) ∨ (G.may 7 = false ∧ G.may 9 = true ∧ (G.take 9).mu + 1 ≤ G.mu) ∨ (G.may 7 = false ∧ G.may 9 = false ∧ G.may 10 = true ∧ (G.take 10).mu + 1 ≤ G.mu) ∨
    (G.may 7 = false ∧ G.may 9 = false ∧ G.may 10 = false ∧ G.may 5 = true ∧ (G.take 5).mu + 1 ≤ G.mu) := by
  have hr := ok.want
  have close : ∀ k, k = 7 ∨ k = 9 → G.may k = true → (G.take k).mu + 1 ≤ G.mu := by
    intro k hk hm
    have hne := Gr.close_open ok hm hk
    have hp : 0 < G.op.length := List.length_pos_iff.2 hne
    have e : G.take k = Gr.done G.op.dropLast := by
      unfold Gr.take
      rw [if_pos hm, if_neg (by omega), if_neg (by omega), if_pos hk]
    rw [e]
    unfold Gr.mu Gr.done
    simp only [List.length_dropLast]
    split <;> (simp; omega)
  by_cases h7 : G.may 7 = true
  · exact .inl ⟨h7, close 7 (.inl rfl) h7⟩
  simp only [Bool.not_eq_true] at h7
  by_cases h9 : G.may 9 = true
  · exact .inr (.inl ⟨h7, h9, close 9 (.inr rfl) h9⟩)
  simp only [Bool.not_eq_true] at h9
  right; right
  have w1 : G.want ≠ 1 := by intro h; simp [Gr.may, h] at h7
  have w2 : G.want ≠ 2 := by intro h; simp [Gr.may, h] at h9
  have w5 : G.want ≠ 5 := by
    intro h
    have hne := ok.more h
    rcases ok.elems _ (Gr.top_mem hne) with ht | ht
    · simp [Gr.may, h, ht] at h7
    · simp [Gr.may, h, ht] at h9
  by_cases w4 : G.want = 4
  · have hm : G.may 10 = true := by simp [Gr.may, w4]
    refine .inl ⟨h7, h9, hm, ?_⟩
    have e : G.take 10 = ⟨G.op, 0⟩ := by unfold Gr.take; simp [hm]
    rw [e]
    simp [Gr.mu, w4]
  right
  have hm10 : G.may 10 = false := by
    have hw03 : G.want = 0 ∨ G.want = 3 := by omega
    rcases hw03 with h | h <;> simp [Gr.may, h, valueK]
  refine ⟨h7, h9, hm10, ?_⟩
  have hw03 : G.want = 0 ∨ G.want = 3 := by omega
  rcases hw03 with h | h
  · have hm : G.may 5 = true := by simp [Gr.may, h, valueK]
    refine ⟨hm, ?_⟩
    have e : G.take 5 = Gr.done G.op := by unfold Gr.take; simp [hm, Gr.name, h]
    rw [e]
    unfold Gr.mu Gr.done
    split <;> simp [h]
  · have hm : G.may 5 = true := by simp [Gr.may, h]
    refine ⟨hm, ?_⟩
    have e : G.take 5 = ⟨G.op, 4⟩ := by unfold Gr.take; simp [hm, Gr.name, h]
    rw [e]
    simp [Gr.mu, h]
theorem Gr.take_no {G : Gr} {k : Int} (h : G.may k = false) : G.take k = G := by unfold Gr.take; simp [h]
end Go.Proofs.Ytgjddlianhejdaa
