/- The machine's contracts inside a law that has made it; the chapter's examples; GramFirst. -/
import Derived.Test.YtgjddlianhejdaaGramF
namespace Go.Proofs.Ytgjddlianhejdaa
open Go.RowKit
set_option maxRecDepth 100000
set_option linter.unusedVariables false
set_option linter.unusedSimpArgs false

/-- a machine that was made behind w0; nothing that was there has turned. -/
structure GramIn (w0 w : World) (b : Nat) (G : Gr) : Prop where
  touch : Touch [] w0 w
  at_ : ∃ g, GramAt w b g G ∧ ∀ k, g = some k → w0.heap.size ≤ k
  new : w0.heap.size ≤ b

theorem GramIn.keep {w0 w w' : World} {b : Nat} {G : Gr} (h : GramIn w0 w b G) (ht : Touch [] w w') : GramIn w0 w' b G := by
  obtain ⟨h1, ⟨g, h2, h3⟩, h4⟩ := h
  exact ⟨h1.trans ht, ⟨g, h2.keep ht (by simp) (by simp), h3⟩, h4⟩
theorem gnew_in (w0 w : World) (T : Touch [] w0 w) : Calls Try.prog 40 #[] w fun e w' => ∃ p, e = .returned (.pointer (some ⟨p, 0, none⟩)) ∧ GramIn w0 w' p ⟨[], 0⟩ :=
  (gnew_any w).mono fun e w' ⟨p, h1, h2, h3, h4⟩ => ⟨p, h1, T.trans h4, ⟨none, h3, by simp⟩, Nat.le_trans T.size h2⟩
theorem gtake_in {w0 w : World} {b : Nat} {G : Gr} (h : GramIn w0 w b G) (ok : G.Ok) (hlen : G.op.length ≤ 1000000) (k : Int) :
    Calls Try.prog 45 #[.pointer (some ⟨b, 0, none⟩), .int .i64 k] w fun e w' => e = .returned (.bool (G.may k)) ∧ GramIn w0 w' b (G.take k) := by
  obtain ⟨h1, ⟨g, h2, h3⟩, h4⟩ := h
  refine (gtake_any h2 ok hlen k).mono fun e w' ⟨g', k1, k2, k3, k4⟩ => ⟨k1, h1.step k3 ?_, ⟨g', k2, ?_⟩, h4⟩
  · intro x hx
    simp only [List.mem_cons, Option.mem_toList] at hx
    rcases hx with rfl | hx
    · exact .inr h4
    · exact .inr (h3 x hx)
  · intro k hk
    rcases k4 with h | ⟨j, h, hj⟩
    · exact h3 k (h ▸ hk)
    · rw [h] at hk; injection hk with hk; subst hk; exact Nat.le_trans h1.size hj
theorem gtake_at {w0 w : World} {b : Nat} {G : Gr} (h : GramIn w0 w b G) (ok : G.Ok) (hlen : G.op.length ≤ 1000000) (k : Int) (r : Bool) (G' : Gr) (hr : G.may k = r) (hG : G.take k = G') :
    Calls Try.prog 45 #[.pointer (some ⟨b, 0, none⟩), .int .i64 k] w fun e w' => e = .returned (.bool r) ∧ GramIn w0 w' b G' ∧ G'.Ok := by
  subst hr; subst hG
  exact (gtake_in h ok hlen k).mono fun e w' ⟨k1, k2⟩ => ⟨k1, k2, Gr.take_ok ok k⟩
theorem gmay_at {w0 w : World} {b : Nat} {G : Gr} (h : GramIn w0 w b G) (k : Int) (r : Bool) (hr : G.may k = r) :
    Calls Try.prog 44 #[.pointer (some ⟨b, 0, none⟩), .int .i64 k] w fun e w' => e = .returned (.bool r) ∧ GramIn w0 w' b G := by
  subst hr
  obtain ⟨g, h2, h3⟩ := h.at_
  exact (gmay_any h2 k).mono fun e w' ⟨k1, k2⟩ => ⟨k1, h.keep k2⟩
theorem gname_at {w0 w : World} {b : Nat} {G : Gr} (h : GramIn w0 w b G) (r : Bool) (hr : G.name = r) :
    Calls Try.prog 52 #[.pointer (some ⟨b, 0, none⟩)] w fun e w' => e = .returned (.bool r) ∧ GramIn w0 w' b G := by
  subst hr
  obtain ⟨g, h2, h3⟩ := h.at_
  exact (gname_any h2).mono fun e w' ⟨k1, k2⟩ => ⟨k1, h.keep k2⟩
theorem gended_at {w0 w : World} {b : Nat} {G : Gr} (h : GramIn w0 w b G) (r : Bool) (hr : (G.want == 6) = r) :
    Calls Try.prog 43 #[.pointer (some ⟨b, 0, none⟩)] w fun e w' => e = .returned (.bool r) ∧ GramIn w0 w' b G := by
  subst hr
  obtain ⟨g, h2, h3⟩ := h.at_
  exact (gended_any h2).mono fun e w' ⟨k1, k2⟩ => ⟨k1, h.keep k2⟩
theorem gdepth_at {w0 w : World} {b : Nat} {G : Gr} (h : GramIn w0 w b G) (r : Int) (hr : (G.op.length : Int) = r) :
    Calls Try.prog 46 #[.pointer (some ⟨b, 0, none⟩)] w fun e w' => e = .returned (.int .i64 r) ∧ GramIn w0 w' b G := by
  subst hr
  obtain ⟨g, h2, h3⟩ := h.at_
  exact (gdepth_any h2).mono fun e w' ⟨k1, k2⟩ => ⟨k1, h.keep k2⟩
theorem first_at (x : Int) (r : Int) (w : World) (hr : firstF x = r) : Calls Try.prog 47 #[.int .u8 x] w fun e w' => e = .returned (.int .i64 r) ∧ w = w' := by
  subst hr; exact first_any x w

set_option maxHeartbeats 4000000 in
theorem awake13 (w : World) : Calls Try.prog 41 #[] w fun e w' => e = .returned (.bool true) ∧ Touch [] w w' := by
  have ok0 : Gr.Ok ⟨[], 0⟩ := by constructor <;> simp
  go_enter Try.func41, Try.ntmps41
  go_wp2_with fail
  refine (gnew_in w _ (Touch.refl _ _)).mono ?_
  rintro e w1 ⟨p, rfl, h1⟩
  try go_simp
  go_wp2_with fail
  refine (gtake_at h1 ok0 (by simp) 8 true ⟨[8], 2⟩ rfl rfl).mono ?_
  rintro e w2 ⟨rfl, h2, ok2⟩
  try go_simp
  go_wp2_with fail
  refine (gmay_at h2 4 false rfl).mono ?_
  rintro e w3 ⟨rfl, h3⟩
  try go_simp
  go_wp2_with fail
  refine (gmay_at h3 5 true rfl).mono ?_
  rintro e w4 ⟨rfl, h4⟩
  try go_simp
  go_wp2_with fail
  refine (gmay_at h4 9 true rfl).mono ?_
  rintro e w5 ⟨rfl, h5⟩
  try go_simp
  go_wp2_with fail
  refine (gname_at h5 true rfl).mono ?_
  rintro e w6 ⟨rfl, h6⟩
  try go_simp
  go_wp2_with fail
  refine (gtake_at h6 ok2 (by simp) 5 true ⟨[8], 4⟩ rfl rfl).mono ?_
  rintro e w7 ⟨rfl, h7, ok7⟩
  try go_simp
  go_wp2_with fail
  refine (gtake_at h7 ok7 (by simp) 10 true ⟨[8], 0⟩ rfl rfl).mono ?_
  rintro e w8 ⟨rfl, h8, ok8⟩
  try go_simp
  go_wp2_with fail
  refine (gtake_at h8 ok8 (by simp) 4 true ⟨[8], 5⟩ rfl rfl).mono ?_
  rintro e w9 ⟨rfl, h9, ok9⟩
  try go_simp
  go_wp2_with fail
  refine (gtake_at h9 ok9 (by simp) 11 true ⟨[8], 3⟩ rfl rfl).mono ?_
  rintro e w10 ⟨rfl, h10, ok10⟩
  try go_simp
  go_wp2_with fail
  refine (gmay_at h10 5 true rfl).mono ?_
  rintro e w11 ⟨rfl, h11⟩
  try go_simp
  go_wp2_with fail
  refine (gmay_at h11 9 false rfl).mono ?_
  rintro e w12 ⟨rfl, h12⟩
  try go_simp
  go_wp2_with fail
  refine (gdepth_at h12 1 rfl).mono ?_
  rintro e w13 ⟨rfl, h13⟩
  try go_simp
  go_wp2_with fail
  refine (gended_at h13 false rfl).mono ?_
  rintro e w14 ⟨rfl, h14⟩
  try go_simp
  go_wp2_with fail
  refine (first_at 45 4 _ rfl).mono ?_
  rintro e w15 ⟨rfl, rfl⟩
  try go_simp
  go_wp2_with fail
  refine (first_at 120 0 _ rfl).mono ?_
  rintro e w15 ⟨rfl, rfl⟩
  try go_simp
  go_wp2_with fail
  refine (first_at 125 9 _ rfl).mono ?_
  rintro e w15 ⟨rfl, rfl⟩
  try go_simp
  go_wp2_with fail
  go_ret
  exact ⟨rfl, h14.touch⟩

def firstCnt (k : Int) : Nat → Nat
  | 0 => 0
  | n + 1 => firstCnt k n + (if firstF n = k then 1 else 0)
theorem firstCnt_le (k : Int) (n : Nat) : firstCnt k n ≤ n := by
  induction n with
  | zero => simp [firstCnt]
  | succ n ih => unfold firstCnt; split <;> omega
theorem first_counts : ∀ x : Nat, x < 256 → (firstF x = 0 ∨ firstF x = 4 ∧ firstCnt (firstF x) 256 = 11 ∨ firstF x ≠ 0 ∧ firstF x ≠ 4 ∧ firstCnt (firstF x) 256 = 1) := by
  decide +kernel

set_option maxHeartbeats 4000000 in
theorem gramfirst_walk (a0 : Int) (w : World) (w0 : (Lit.int .u8 a0).wf = true) :
    Calls Try.prog 11 #[.int .u8 a0] w fun e w' => e = .returned (.bool true) ∧ Touch [] w w' := by
  have hb := u8_bounds w0
  obtain ⟨x, rfl⟩ := Int.eq_ofNat_of_zero_le hb.1
  have hcnt := first_counts x (by omega)
  obtain ⟨k, hk⟩ : ∃ k, firstF x = k := ⟨_, rfl⟩
  rw [hk] at hcnt
  have HC := Lib.hid hcnt
  have HK := Lib.hid hk
  clear hcnt hk w0
  go_enter Try.func11, Try.ntmps11
  go_wp2_with fail
  refine (first_at x k _ HK.out).mono ?_
  rintro e w1 ⟨rfl, rfl⟩
  try go_simp
  go_wp2_with fail
  refine ((show Calls Try.prog 48 #[.int .u8 x] w fun e w' => e = .returned (.int .i64 k) ∧ w = w' from HK.out ▸ rfirst_any x w)).mono ?_
  rintro e w1 ⟨rfl, rfl⟩
  try go_simp
  go_wp2_with fail
  go_loop [4, 5] (fun c v => ∃ i : Nat, i ≤ 256 ∧ v = .int .i64 i ∧ c = .int .i64 (firstCnt k i)) (fun _ v => 256 - (intOf v).toNat)
  case atStart => exact ⟨0, by omega, rfl, rfl⟩
  case round =>
    obtain ⟨i, hi, rfl, rfl⟩ := hrel
    have hle := firstCnt_le k i
    by_cases hlt : i < 256
    · have e1 : firstCnt k (i + 1) = firstCnt k i + (if firstF i = k then 1 else 0) := rfl
      by_cases hq : firstF i = k
      · rw [if_pos hq] at e1
        have E := Lib.hid e1
        have bq : (firstF i == k) = true := by simpa using hq
        clear e1 hq
        go_wp2_with fail
        refine (first_any _ _).mono ?_
        rintro e w1 ⟨rfl, rfl⟩
        try go_simp
        go_wp2_with fail
        go_round
        case rel => exact ⟨i + 1, by omega, by go_num, by rw [E.out]; go_num⟩
        case measure => simp [intOf]; omega
      · rw [if_neg hq] at e1
        have E := Lib.hid e1
        have bq : (firstF i == k) = false := by simpa using hq
        clear e1 hq
        go_wp2_with fail
        refine (first_any _ _).mono ?_
        rintro e w1 ⟨rfl, rfl⟩
        try go_simp
        go_wp2_with fail
        go_round
        case rel => exact ⟨i + 1, by omega, by go_num, by rw [E.out]; go_num⟩
        case measure => simp [intOf]; omega
    · have h256 : i = 256 := by omega
      subst h256
      rcases HC.out with h | ⟨h, hc⟩ | ⟨h0, h4, hc⟩
      · subst h
        go_wp2_with fail
        refine (awake13 _).mono ?_
        rintro e w2 ⟨rfl, ht⟩
        try go_simp
        go_wp2_with fail
        go_ret
        exact ⟨rfl, ht⟩
      · subst h
        rw [hc]
        go_wp2_with fail
        refine (awake13 _).mono ?_
        rintro e w2 ⟨rfl, ht⟩
        try go_simp
        go_wp2_with fail
        go_ret
        exact ⟨rfl, ht⟩
      · rw [hc]
        have b0 : (k == 0) = false := by simpa using h0
        have b4 : (k == 4) = false := by simpa using h4
        have b4' : (k != 4) = true := by simpa using h4
        go_wp2_with fail
        refine (awake13 _).mono ?_
        rintro e w2 ⟨rfl, ht⟩
        try go_simp
        go_wp2_with fail
        go_ret
        exact ⟨rfl, ht⟩
end Go.Proofs.Ytgjddlianhejdaa
