/- Place, in [0, n). -/
import Derived.Test.YthbcgbmpicgjiaaSl
import Derived.Outline
namespace Go.Proofs.Ythbcgbmpicgjiaa
open Go.RowKit
set_option maxRecDepth 100000
set_option maxHeartbeats 8000000
set_option linter.unusedVariables false
set_option linter.unusedSimpArgs false

def placeE (a n : Int) : Int := if a.tmod n < 0 then a.tmod n + n else a.tmod n
theorem placeE_bound (a n : Int) (hn : 1 ≤ n) : 0 ≤ placeE a n ∧ placeE a n < n := by
  have h1 := Int.tmod_lt_of_pos a (show 0 < n by omega)
  have h2 : -n < a.tmod n := by
    have := Int.tmod_lt_of_pos (-a) (show 0 < n by omega)
    rw [Int.neg_tmod] at this
    omega
  unfold placeE
  split <;> omega

theorem placeE_any (a n : Int) (w : World) (hn : 1 ≤ n) (hb : n ≤ 1000000000000000) :
    Calls Try.prog 13 #[.int .i64 a, .int .i64 n] w fun e w' => e = .returned (.int .i64 (placeE a n)) ∧ w = w' := by
  have h1 := Int.tmod_lt_of_pos a (show 0 < n by omega)
  have h2 : -n < a.tmod n := by
    have := Int.tmod_lt_of_pos (-a) (show 0 < n by omega)
    rw [Int.neg_tmod] at this
    omega
  have hn0 : ¬ n = 0 := by omega
  have hn1 : (n == 0) = false := by simpa using hn0
  obtain ⟨t, ht⟩ : ∃ t, a.tmod n = t := ⟨_, rfl⟩
  have hw : IntKind.i64.wrap (a.tmod n) = t := by rw [← ht]; exact IntWalk.i64_in _ (by omega)
  rw [ht] at h1 h2
  by_cases h3 : t < 0
  · have hr : Box (placeE a n = t + n) := ⟨by unfold placeE; rw [ht, if_pos h3]⟩
    let kp_ : Exit → Act → World → Prop := bodyPost Try.prog Try.f13 (fun _ _ => True)
    refine calls_post Try.func13 rfl ?_
    intro Q_ hQ_
    simp only [Try.ntmps13, List.size_toArray, List.length_cons, List.length_nil, Nat.reduceAdd, Nat.reduceSub, Array.replicate_succ, Array.replicate_zero, List.push_toArray, List.append_toArray, List.nil_append, List.cons_append]
    go_wp2
    (try simp only [Exit.inBlock, Exit.then])
    refine hQ_.ret (results_tmp rfl _ _ _) rfl ?_
    exact ⟨by rw [hr.out]; rfl, rfl⟩
  · have hr : Box (placeE a n = t) := ⟨by unfold placeE; rw [ht, if_neg h3]⟩
    let kp_ : Exit → Act → World → Prop := bodyPost Try.prog Try.f13 (fun _ _ => True)
    refine calls_post Try.func13 rfl ?_
    intro Q_ hQ_
    simp only [Try.ntmps13, List.size_toArray, List.length_cons, List.length_nil, Nat.reduceAdd, Nat.reduceSub, Array.replicate_succ, Array.replicate_zero, List.push_toArray, List.append_toArray, List.nil_append, List.cons_append]
    go_wp2
    (try simp only [Exit.inBlock, Exit.then])
    refine hQ_.ret (results_tmp rfl _ _ _) rfl ?_
    exact ⟨by rw [hr.out]; rfl, rfl⟩

end Go.Proofs.Ythbcgbmpicgjiaa
