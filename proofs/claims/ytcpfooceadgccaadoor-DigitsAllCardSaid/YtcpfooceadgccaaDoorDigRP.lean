/- The reference's layer of digits: what is printed. -/
import Derived.Test.YtcpfooceadgccaaDoorDigRA
import Derived.Outline
namespace Go.Proofs.YtcpfooceadgccaaDoor
open Go.RowKit
set_option maxRecDepth 100000
set_option maxHeartbeats 4000000
set_option linter.unusedVariables false
set_option linter.unusedSimpArgs false

theorem fig_slice (r : Nat) (hr : r < 10) (a b : Int) (ha : a = r) (hb : b = r + 1) (w : World) :
    (Instr.slice 9 (.string ⟨#[48, 49, 50, 51, 52, 53, 54, 55, 56, 57]⟩) (some (.int .i64 a)) (some (.int .i64 b)) none).run Tryd.prog w = .ok (.string (str [Dig.fig r])) w := by
  subst ha; subst hb
  have := run_mid Tryd.underlying9 [48, 49, 50, 51, 52, 53, 54, 55, 56, 57] .i64 .i64 r (r + 1) (by omega) (by simp; omega) w
  have e : ((([48, 49, 50, 51, 52, 53, 54, 55, 56, 57] : List UInt8).drop r).take (r + 1 - r)) = [Dig.fig r] := by
    rw [show r + 1 - r = 1 by omega]
    match r, hr with
    | 0, _ => rfl
    | 1, _ => rfl
    | 2, _ => rfl
    | 3, _ => rfl
    | 4, _ => rfl
    | 5, _ => rfl
    | 6, _ => rfl
    | 7, _ => rfl
    | 8, _ => rfl
    | 9, _ => rfl
  rw [e] at this
  rw [show ((r + 1 : Nat) : Int) = (r : Int) + 1 by omega] at this
  exact this

theorem digs_len (k : Nat) : ∀ n, n < 10 ^ (k + 1) → (Dig.digs n).length ≤ k + 1 := by
  induction k with
  | zero => intro n hn; unfold Dig.digs; rw [if_pos (by omega)]; simp
  | succ k ih =>
    intro n hn
    unfold Dig.digs
    split
    · simp
    · have := ih (n / 10) (by rw [Nat.pow_succ] at hn; omega)
      simp
      omega

theorem digs_rec (n : Nat) (h : 10 ≤ n) : Dig.digs n = Dig.digs (n / 10) ++ [Dig.fig (n % 10)] := by
  conv => lhs; unfold Dig.digs
  rw [if_neg (by omega)]
theorem digs_one (n : Nat) (h : n < 10) : Dig.digs n = [Dig.fig n] := by
  unfold Dig.digs
  rw [if_pos h]

theorem rprint_neg (m : Nat) : ∀ (w : World), 0 < m → m ≤ 9223372036854775808 →
    Calls Tryd.prog 20 #[.int .i64 (-(m : Int))] w fun e w' => e = .returned (.string (str (45 :: Dig.digs m))) ∧ ∃ n, w' = w.drewN n := by
  induction m using Nat.strongRecOn with
  | ind m ih =>
    intro w h0 hm
    by_cases h1 : m < 10
    · have hs := fig_slice m h1
      have e1 : (45 :: Dig.digs m) = [45] ++ [Dig.fig m] := by rw [digs_one m h1]; rfl
      rw [e1]
      have hs1 := hs m (m + 1) rfl rfl
      clear hs e1
      have hcat := run_cat (P := Tryd.prog) [45] [Dig.fig m] (by simp)
      go_enter Tryd.func20, Tryd.ntmps20
      go_wp2
      go_ret
      exact ⟨rfl, 0, rfl⟩
    · have hq : (-(m : Int)).tdiv 10 = -((m / 10 : Nat) : Int) := by rw [Int.neg_tdiv, Int.tdiv_eq_ediv_of_nonneg (by omega)]; omega
      have hr : (-(m : Int)).tmod 10 = -((m % 10 : Nat) : Int) := by rw [Int.neg_tmod, Int.tmod_eq_emod_of_nonneg (by omega)]; omega
      obtain ⟨q, hq0⟩ : ∃ q, q = m / 10 := ⟨_, rfl⟩
      obtain ⟨r, hr0⟩ : ∃ r, r = m % 10 := ⟨_, rfl⟩
      have e1 : (45 :: Dig.digs m) = (45 :: Dig.digs q) ++ [Dig.fig r] := by rw [digs_rec m (by omega), ← hq0, ← hr0]; rfl
      rw [e1]
      have hr10 : r < 10 := by omega
      have hql := digs_len 18 q (by omega)
      have hcall : ∀ w, Calls Tryd.prog 20 #[.int .i64 (-(q : Int))] w fun e w' => e = .returned (.string (str (45 :: Dig.digs q))) ∧ ∃ n, w' = w.drewN n := fun w => ih q (by omega) w (by omega) (by omega)
      have hs1 := fig_slice r hr10 r (r + 1) rfl rfl
      have hcat := run_cat (P := Tryd.prog) (45 :: Dig.digs q) [Dig.fig r] (by simp; omega)
      rw [← hq0] at hq
      rw [← hr0] at hr
      have hqb : q ≤ 922337203685477580 := by omega
      have w1 : IntKind.i64.wrap (-(q : Int)) = -(q : Int) := IntWalk.i64_in _ (by omega)
      have w2 : IntKind.i64.wrap (-(-(r : Int))) = r := by rw [Int.neg_neg]; exact IntWalk.i64_in _ (by omega)
      have w3 : IntKind.i64.wrap ((r : Int) + 1) = r + 1 := IntWalk.i64_in _ (by omega)
      have w4 : IntKind.i64.wrap (-(r : Int)) = -(r : Int) := IntWalk.i64_in _ (by omega)
      clear ih hq0 hr0 e1
      go_enter Tryd.func20, Tryd.ntmps20
      go_wp2
      go_quiet ((go_at_call 20; exact Calls.quiet_of (hcall _)))
      go_wp2
      go_ret
      exact ⟨rfl, _, rfl⟩

theorem rprint_pos (m : Nat) : ∀ (w : World), m ≤ 9223372036854775807 →
    Calls Tryd.prog 20 #[.int .i64 (m : Int)] w fun e w' => e = .returned (.string (str (Dig.digs m))) ∧ ∃ n, w' = w.drewN n := by
  induction m using Nat.strongRecOn with
  | ind m ih =>
    intro w hm
    by_cases h1 : m < 10
    · have hs := fig_slice m h1 m (m + 1) rfl rfl
      rw [digs_one m h1]
      go_enter Tryd.func20, Tryd.ntmps20
      go_wp2
      go_ret
      exact ⟨rfl, 0, rfl⟩
    · obtain ⟨q, hq0⟩ : ∃ q, q = m / 10 := ⟨_, rfl⟩
      obtain ⟨r, hr0⟩ : ∃ r, r = m % 10 := ⟨_, rfl⟩
      have hq : (m : Int) / 10 = q := by omega
      have hr : (m : Int) % 10 = r := by omega
      have hq' : (m : Int).tdiv 10 = q := by rw [Int.tdiv_eq_ediv_of_nonneg (by omega)]; omega
      have hr' : (m : Int).tmod 10 = r := by rw [Int.tmod_eq_emod_of_nonneg (by omega)]; omega
      have e1 : Dig.digs m = Dig.digs q ++ [Dig.fig r] := by rw [digs_rec m (by omega), ← hq0, ← hr0]
      rw [e1]
      have hr10 : r < 10 := by omega
      have hql := digs_len 18 q (by omega)
      have hcall : ∀ w, Calls Tryd.prog 20 #[.int .i64 (q : Int)] w fun e w' => e = .returned (.string (str (Dig.digs q))) ∧ ∃ n, w' = w.drewN n := fun w => ih q (by omega) w (by omega)
      have hs1 := fig_slice r hr10 r (r + 1) rfl rfl
      have hcat := run_cat (P := Tryd.prog) (Dig.digs q) [Dig.fig r] (by simp; omega)
      have hqb : q ≤ 922337203685477580 := by omega
      have w1 : IntKind.i64.wrap (q : Int) = q := IntWalk.i64_in _ (by omega)
      have w3 : IntKind.i64.wrap ((r : Int) + 1) = r + 1 := IntWalk.i64_in _ (by omega)
      have w4 : IntKind.i64.wrap (r : Int) = r := IntWalk.i64_in _ (by omega)
      clear ih hq0 hr0 e1
      go_enter Tryd.func20, Tryd.ntmps20
      go_wp2
      go_quiet ((go_at_call 20; exact Calls.quiet_of (hcall _)))
      go_wp2
      go_ret
      exact ⟨rfl, _, rfl⟩

theorem rprint_any (n : Int) (w : World) (h1 : -9223372036854775808 ≤ n) (h2 : n ≤ 9223372036854775807) :
    Calls Tryd.prog 20 #[.int .i64 n] w fun e w' => e = .returned (.string (str (Dig.print n))) ∧ ∃ n, w' = w.drewN n := by
  by_cases hn : n < 0
  · obtain ⟨m, rfl⟩ : ∃ m : Nat, n = -(m : Int) := ⟨n.natAbs, by omega⟩
    have := rprint_neg m w (by omega) (by omega)
    unfold Dig.print
    rw [if_pos hn, show (-(m : Int)).natAbs = m by omega]
    exact this
  · obtain ⟨m, rfl⟩ : ∃ m : Nat, n = (m : Int) := ⟨n.natAbs, by omega⟩
    have := rprint_pos m w (by omega)
    unfold Dig.print
    rw [if_neg hn, show (m : Int).natAbs = m by omega]
    exact this
theorem rprint_t (n : Int) (w : World) (h1 : -9223372036854775808 ≤ n) (h2 : n ≤ 9223372036854775807) :
    Calls Tryd.prog 20 #[.int .i64 n] w fun e w' => e = .returned (.string (str (Dig.print n))) ∧ Touch [] w w' :=
  (rprint_any n w h1 h2).mono fun _ _ h => ⟨h.1, by obtain ⟨k, hk⟩ := h.2; rw [hk]; exact (Touch.refl [] w).drewN k⟩
end Go.Proofs.YtcpfooceadgccaaDoor
