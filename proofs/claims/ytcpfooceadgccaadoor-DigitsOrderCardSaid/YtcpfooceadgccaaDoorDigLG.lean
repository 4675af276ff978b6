/- The law DigitsForms. -/
import Derived.Test.YtcpfooceadgccaaDoorDigA
import Derived.Test.YtcpfooceadgccaaDoorDigLF
import Derived.Outline
namespace Go.Proofs.YtcpfooceadgccaaDoor
open Go.RowKit
set_option maxRecDepth 100000
set_option maxHeartbeats 4000000
set_option linter.unusedVariables false
set_option linter.unusedSimpArgs false

def placeI (a n : Int) : Int := if a.tmod n < 0 then a.tmod n + n else a.tmod n
theorem placeI_bound (a n : Int) (hn : 1 ≤ n) : 0 ≤ placeI a n ∧ placeI a n < n := by
  have h1 := Int.tmod_lt_of_pos a (show 0 < n by omega)
  have h2 : -n < a.tmod n := by
    have := Int.tmod_lt_of_pos (-a) (show 0 < n by omega)
    rw [Int.neg_tmod] at this
    omega
  unfold placeI
  split <;> omega

theorem place_any (a n : Int) (w : World) (hn : 1 ≤ n) (hb : n ≤ 1000000000000000) :
    Calls Tryd.prog 30 #[.int .i64 a, .int .i64 n] w fun e w' => e = .returned (.int .i64 (placeI a n)) ∧ w = w' := by
  have h1 := Int.tmod_lt_of_pos a (show 0 < n by omega)
  have h2 : -n < a.tmod n := by
    have := Int.tmod_lt_of_pos (-a) (show 0 < n by omega)
    rw [Int.neg_tmod] at this
    omega
  have hn0 : ¬ n = 0 := by omega
  have hn1 : (n == 0) = false := by simpa using hn0
  obtain ⟨t, ht⟩ : ∃ t, a.tmod n = t := ⟨_, rfl⟩
  have hw : IntKind.i64.wrap (a.tmod n) = t := by rw [← ht]; exact IntWalk.i64_in _ (by omega)
  rw [ht] at h1 h2
  by_cases h3 : t < 0
  · have hr : Box (placeI a n = t + n) := ⟨by unfold placeI; rw [ht, if_pos h3]⟩
    go_enter Tryd.func30, Tryd.ntmps30
    go_wp2
    go_ret
    exact ⟨by rw [hr.out]; rfl, rfl⟩
  · have hr : Box (placeI a n = t) := ⟨by unfold placeI; rw [ht, if_neg h3]⟩
    go_enter Tryd.func30, Tryd.ntmps30
    go_wp2
    go_ret
    exact ⟨by rw [hr.out]; rfl, rfl⟩

theorem rprint_t (n : Int) (w : World) (h1 : -9223372036854775808 ≤ n) (h2 : n ≤ 9223372036854775807) :
    Calls Tryd.prog 20 #[.int .i64 n] w fun e w' => e = .returned (.string (str (Dig.print n))) ∧ Touch [] w w' :=
  (rprint_any n w h1 h2).mono fun _ _ h => ⟨h.1, by obtain ⟨k, hk⟩ := h.2; rw [hk]; exact (Touch.refl [] w).drewN k⟩


theorem digitsforms_walk (a0 a1 a2 : Int) (w : World) (w0 : (Lit.int .i64 a0).wf = true) (w1 : (Lit.int .i64 a1).wf = true) (w2 : (Lit.int .i64 a2).wf = true) :
    Calls Tryd.prog 5 #[.int .i64 a0, .int .i64 a1, .int .i64 a2] w fun e w' => e = .returned (.bool true) ∧ Touch [] w w' := by
  clear w0 w1 w2
  obtain ⟨m, hm⟩ : ∃ m, a0.tmod 9007199254740991 = m := ⟨_, rfl⟩
  have hm1 : m < 9007199254740991 := by rw [← hm]; exact Int.tmod_lt_of_pos a0 (by omega)
  have hm2 : -9007199254740991 < m := by
    have := Int.tmod_lt_of_pos (-a0) (show (0 : Int) < 9007199254740991 by omega)
    rw [Int.neg_tmod, hm] at this
    omega
  have hmw : IntKind.i64.wrap (a0.tmod 9007199254740991) = m := by rw [hm]; exact IntWalk.i64_in _ (by omega)
  have hz := placeI_bound a1 30 (by omega)
  have hh := placeI_bound a2 4 (by omega)
  have hpz := fun w => place_any a1 30 w (by omega) (by omega)
  have hph := fun w => place_any a2 4 w (by omega) (by omega)
  generalize placeI a1 30 = zi at hz hpz
  generalize placeI a2 4 = h4 at hh hph
  obtain ⟨z, rfl⟩ : ∃ z : Nat, zi = z := ⟨zi.toNat, by omega⟩
  have hz30 : z < 30 := by omega
  obtain ⟨P, hP⟩ : ∃ P, P = Dig.print m := ⟨_, rfl⟩
  have hpr := fun w => rprint_t m w (by omega) (by omega)
  rw [← hP] at hpr
  have hPl : P.length ≤ 17 := by
    have : (Dig.digs m.natAbs).length ≤ 16 := Dig.digs_length_le 15 _ (by omega)
    rw [hP]
    unfold Dig.print
    split
    · rw [List.length_cons]; omega
    · omega
  replace hP : Box (P = Dig.print m) := ⟨hP⟩
  obtain ⟨sg, hsg⟩ : ∃ sg, sg = decide (m < 0) := ⟨_, rfl⟩
  obtain ⟨M, hM0⟩ : ∃ M, M = m.natAbs := ⟨_, rfl⟩
  have hM : M ≤ 9007199254740991 ∧ (if sg = true then -(M : Int) else (M : Int), (0 : Int)) = (m, 0) := by
    refine ⟨by omega, ?_⟩
    rw [hsg]
    by_cases h : m < 0
    · rw [if_pos (by simpa using h)]; congr 1; omega
    · rw [if_neg (by simpa using h)]; congr 1; omega
  have hys := Dig.ys_bounds sg M (by omega)
  replace hsg : Box (sg = decide (m < 0) ∧ M = m.natAbs) := ⟨hsg, hM0⟩
  clear hM0
  have szP := str_size P
  go_enter Tryd.func5, Tryd.ntmps5
  go_wp2_with fail
  refine (hpz _).mono ?_
  rintro e wx ⟨rfl, rfl⟩
  try go_simp
  go_wp2_with fail
  refine (hpr _).mono ?_
  rintro e w1 ⟨rfl, hT⟩
  try go_simp
  go_wp2
  go_loop [10, 11] (fun v i => ∃ k : Nat, k ≤ z ∧ i = .int .i64 k ∧ v = .string (str (List.replicate k 48))) (fun _ i => z - (intOf i).toNat)
  case atStart => exact ⟨0, by omega, rfl, rfl⟩
  case round =>
    obtain ⟨k, hk, rfl, rfl⟩ := hrel
    by_cases hlt : k < z
    · have hcat : ∀ w, (Op.stringOp .add (str (List.replicate k 48)) ⟨#[48]⟩).run Tryd.prog w = .ok (.string (str (List.replicate (k + 1) 48))) w := fun w => by
        rw [List.replicate_succ']
        exact run_cat (List.replicate k 48) [48] (by simp; omega) w
      go_wp2
      go_round
      case measure => simp [intOf]; omega
      case rel => exact ⟨k + 1, by omega, by go_num, rfl⟩
    · obtain rfl : k = z := by omega
      obtain ⟨Z, hZ⟩ : ∃ Z : List UInt8, Z = List.replicate k 48 := ⟨_, rfl⟩
      have hZl : Z.length = k := by rw [hZ]; simp
      rw [← hZ]
      replace hZ : Box (Z = List.replicate k 48) := ⟨hZ⟩
      have hZl2 : Z.length ≤ 30 := by omega
      replace hZl : Box (Z.length = k) := ⟨hZl⟩
      go_wp2_with fail
      refine (hph _).mono ?_
      rintro e wx ⟨rfl, rfl⟩
      try go_simp
      have h4c : h4 = 0 ∨ h4 = 1 ∨ h4 = 2 ∨ h4 = 3 := by omega
      clear hph hpz hh
      rcases h4c with rfl | rfl | rfl | rfl
      · obtain ⟨S1, hS1⟩ : ∃ S : List UInt8, S = P ++ [46] := ⟨_, rfl⟩
        have hlS1 : (S1).length ≤ 100 := by rw [hS1, List.length_append]; (try simp); omega
        have c1 : ∀ w, (Op.stringOp .add (str (P)) (⟨#[46]⟩)).run Tryd.prog w = .ok (.string (str (S1))) w := fun w => by rw [hS1]; exact run_cat (P) ([46]) (by (try simp); omega) w
        replace hS1 : Box (S1 = P ++ [46]) := ⟨hS1⟩
        obtain ⟨S2, hS2⟩ : ∃ S : List UInt8, S = S1 ++ Z := ⟨_, rfl⟩
        have hlS2 : (S2).length ≤ 200 := by rw [hS2, List.length_append]; (try simp); omega
        have c2 : ∀ w, (Op.stringOp .add (str (S1)) (str Z)).run Tryd.prog w = .ok (.string (str (S2))) w := fun w => by rw [hS2]; exact run_cat (S1) (Z) (by (try simp); omega) w
        replace hS2 : Box (S2 = S1 ++ Z) := ⟨hS2⟩
        obtain ⟨S3, hS3⟩ : ∃ S : List UInt8, S = S2 ++ [48] := ⟨_, rfl⟩
        have hlS3 : (S3).length ≤ 300 := by rw [hS3, List.length_append]; (try simp); omega
        have c3 : ∀ w, (Op.stringOp .add (str (S2)) (⟨#[48]⟩)).run Tryd.prog w = .ok (.string (str (S3))) w := fun w => by rw [hS3]; exact run_cat (S2) ([48]) (by (try simp); omega) w
        replace hS3 : Box (S3 = S2 ++ [48]) := ⟨hS3⟩
        have hRd := fun w => pread_at S3 (Dig.ys sg M) w (by rw [hS3.out, hS2.out, hS1.out, hP.out, hZ.out, hsg.out.1, hsg.out.2]; exact Dig.form0 m k) (by omega)
        have hI := fun w => pint_at (Dig.ys sg M) m 0 w (by rw [Dig.ys_int _ _ hM.1, hM.2]) (by have := hys.1; omega) hys.2.1 hys.2.2.1 hys.2.2.2
        have hWh := fun w => pwhole_at (Dig.ys sg M).neg (Dig.ys sg M).d (Dig.ys sg M).e true w (Dig.ys_whole _ _) (by have := hys.1; omega) hys.2.1 hys.2.2.1
        clear hys hM
        generalize Dig.ys sg M = Y at hRd hI hWh
        obtain ⟨ys', yd', ye'⟩ := Y
        go_wp2_with fail
        refine (hRd _).mono ?_
        rintro e wa ⟨rfl, hta⟩
        try go_simp
        go_wp2_with fail
        refine (hI _).mono ?_
        rintro e wb ⟨rfl, htb⟩
        try go_simp
        have hAb := htb.keep (alloc_new _ _) (by simp)
        have hTb := ((((hT).trans hta)).alloc _).trans htb
        have cb := cell_at hAb
        clear hta htb hAb
        go_wp2_with fail
        refine (hWh _).mono ?_
        rintro e wd ⟨rfl, htd⟩
        try go_simp
        go_wp2_with fail
        refine (awake10 _).mono ?_
        rintro e we ⟨rfl, hte⟩
        try go_simp
        go_wp2
        go_ret
        exact ⟨rfl, (hTb.trans htd).trans hte⟩
      · by_cases hm0 : m = 0
        · have q1 : (m == 0) = true := by simpa using hm0
          have q2 : (m != 0) = false := by rw [bne, q1]; rfl
          obtain ⟨S1, hS1⟩ : ∃ S : List UInt8, S = P ++ [101, 48] := ⟨_, rfl⟩
          have hlS1 : (S1).length ≤ 100 := by rw [hS1, List.length_append]; (try simp); omega
          have c1 : ∀ w, (Op.stringOp .add (str (P)) (⟨#[101, 48]⟩)).run Tryd.prog w = .ok (.string (str (S1))) w := fun w => by rw [hS1]; exact run_cat (P) ([101, 48]) (by (try simp); omega) w
          replace hS1 : Box (S1 = P ++ [101, 48]) := ⟨hS1⟩
          obtain ⟨S2, hS2⟩ : ∃ S : List UInt8, S = S1 ++ Z := ⟨_, rfl⟩
          have hlS2 : (S2).length ≤ 200 := by rw [hS2, List.length_append]; (try simp); omega
          have c2 : ∀ w, (Op.stringOp .add (str (S1)) (str Z)).run Tryd.prog w = .ok (.string (str (S2))) w := fun w => by rw [hS2]; exact run_cat (S1) (Z) (by (try simp); omega) w
          replace hS2 : Box (S2 = S1 ++ Z) := ⟨hS2⟩
          have hRd := fun w => pread_at S2 (Dig.ys sg M) w (by rw [hS2.out, hS1.out, hP.out, hZ.out, hsg.out.1, hsg.out.2, hm0]; exact Dig.form1z k) (by omega)
          clear hm0
          have hI := fun w => pint_at (Dig.ys sg M) m 0 w (by rw [Dig.ys_int _ _ hM.1, hM.2]) (by have := hys.1; omega) hys.2.1 hys.2.2.1 hys.2.2.2
          have hWh := fun w => pwhole_at (Dig.ys sg M).neg (Dig.ys sg M).d (Dig.ys sg M).e true w (Dig.ys_whole _ _) (by have := hys.1; omega) hys.2.1 hys.2.2.1
          clear hys hM
          generalize Dig.ys sg M = Y at hRd hI hWh
          obtain ⟨ys', yd', ye'⟩ := Y
          go_wp2_with fail
          refine (hRd _).mono ?_
          rintro e wa ⟨rfl, hta⟩
          try go_simp
          go_wp2_with fail
          refine (hI _).mono ?_
          rintro e wb ⟨rfl, htb⟩
          try go_simp
          have hAb := htb.keep (alloc_new _ _) (by simp)
          have hTb := ((((hT).trans hta)).alloc _).trans htb
          have cb := cell_at hAb
          clear hta htb hAb
          go_wp2_with fail
          refine (hWh _).mono ?_
          rintro e wd ⟨rfl, htd⟩
          try go_simp
          go_wp2_with fail
          refine (awake10 _).mono ?_
          rintro e we ⟨rfl, hte⟩
          try go_simp
          go_wp2
          go_ret
          exact ⟨rfl, (hTb.trans htd).trans hte⟩
        · have q1 : (m == 0) = false := by simpa using hm0
          have q2 : (m != 0) = true := by rw [bne, q1]; rfl
          obtain ⟨R1, hR1⟩ : ∃ S : List UInt8, S = P ++ [101, 48] := ⟨_, rfl⟩
          have hlR1 : (R1).length ≤ 100 := by rw [hR1, List.length_append]; (try simp); omega
          have d1 : ∀ w, (Op.stringOp .add (str (P)) (⟨#[101, 48]⟩)).run Tryd.prog w = .ok (.string (str (R1))) w := fun w => by rw [hR1]; exact run_cat (P) ([101, 48]) (by (try simp); omega) w
          replace hR1 : Box (R1 = P ++ [101, 48]) := ⟨hR1⟩
          obtain ⟨R2, hR2⟩ : ∃ S : List UInt8, S = R1 ++ Z := ⟨_, rfl⟩
          have hlR2 : (R2).length ≤ 200 := by rw [hR2, List.length_append]; (try simp); omega
          have d2 : ∀ w, (Op.stringOp .add (str (R1)) (str Z)).run Tryd.prog w = .ok (.string (str (R2))) w := fun w => by rw [hR2]; exact run_cat (R1) (Z) (by (try simp); omega) w
          replace hR2 : Box (R2 = R1 ++ Z) := ⟨hR2⟩
          obtain ⟨S1, hS1⟩ : ∃ S : List UInt8, S = P ++ Z := ⟨_, rfl⟩
          have hlS1 : (S1).length ≤ 100 := by rw [hS1, List.length_append]; (try simp); omega
          have c1 : ∀ w, (Op.stringOp .add (str (P)) (str Z)).run Tryd.prog w = .ok (.string (str (S1))) w := fun w => by rw [hS1]; exact run_cat (P) (Z) (by (try simp); omega) w
          replace hS1 : Box (S1 = P ++ Z) := ⟨hS1⟩
          obtain ⟨S2, hS2⟩ : ∃ S : List UInt8, S = S1 ++ [69, 45] := ⟨_, rfl⟩
          have hlS2 : (S2).length ≤ 200 := by rw [hS2, List.length_append]; (try simp); omega
          have c2 : ∀ w, (Op.stringOp .add (str (S1)) (⟨#[69, 45]⟩)).run Tryd.prog w = .ok (.string (str (S2))) w := fun w => by rw [hS2]; exact run_cat (S1) ([69, 45]) (by (try simp); omega) w
          replace hS2 : Box (S2 = S1 ++ [69, 45]) := ⟨hS2⟩
          obtain ⟨Q, hQ⟩ : ∃ Q, Q = Dig.print (k : Int) := ⟨_, rfl⟩
          have hpz := fun w => rprint_t (k : Int) w (by omega) (by omega)
          rw [← hQ] at hpz
          have hQl : Q.length ≤ 17 := by
            have : (Dig.digs (k : Int).natAbs).length ≤ 16 := Dig.digs_length_le 15 _ (by omega)
            rw [hQ]
            unfold Dig.print
            rw [if_neg (by omega)]
            omega
          replace hQ : Box (Q = Dig.print (k : Int)) := ⟨hQ⟩
          obtain ⟨S3, hS3⟩ : ∃ S : List UInt8, S = S2 ++ Q := ⟨_, rfl⟩
          have hlS3 : (S3).length ≤ 300 := by rw [hS3, List.length_append]; (try simp); omega
          have c3 : ∀ w, (Op.stringOp .add (str (S2)) (str Q)).run Tryd.prog w = .ok (.string (str (S3))) w := fun w => by rw [hS3]; exact run_cat (S2) (Q) (by (try simp); omega) w
          replace hS3 : Box (S3 = S2 ++ Q) := ⟨hS3⟩
          have hRd := fun w => pread_at S3 (Dig.ys sg M) w (by rw [hS3.out, hS2.out, hS1.out, hQ.out, hP.out, hZ.out, hsg.out.1, hsg.out.2]; exact Dig.form1 m k hm0 (by omega)) (by omega)
          clear hm0
          go_wp2_with fail
          refine (hpr _).mono ?_
          rintro e wx ⟨rfl, htx⟩
          try go_simp
          go_wp2_with fail
          refine (hpz _).mono ?_
          rintro e wy ⟨rfl, hty⟩
          try go_simp
          replace hT := (hT.trans htx).trans hty
          clear htx hty hpr hpz
          have hI := fun w => pint_at (Dig.ys sg M) m 0 w (by rw [Dig.ys_int _ _ hM.1, hM.2]) (by have := hys.1; omega) hys.2.1 hys.2.2.1 hys.2.2.2
          have hWh := fun w => pwhole_at (Dig.ys sg M).neg (Dig.ys sg M).d (Dig.ys sg M).e true w (Dig.ys_whole _ _) (by have := hys.1; omega) hys.2.1 hys.2.2.1
          clear hys hM
          generalize Dig.ys sg M = Y at hRd hI hWh
          obtain ⟨ys', yd', ye'⟩ := Y
          go_wp2_with fail
          refine (hRd _).mono ?_
          rintro e wa ⟨rfl, hta⟩
          try go_simp
          go_wp2_with fail
          refine (hI _).mono ?_
          rintro e wb ⟨rfl, htb⟩
          try go_simp
          have hAb := htb.keep (alloc_new _ _) (by simp)
          have hTb := ((((hT).trans hta)).alloc _).trans htb
          have cb := cell_at hAb
          clear hta htb hAb
          go_wp2_with fail
          refine (hWh _).mono ?_
          rintro e wd ⟨rfl, htd⟩
          try go_simp
          go_wp2_with fail
          refine (awake10 _).mono ?_
          rintro e we ⟨rfl, hte⟩
          try go_simp
          go_wp2
          go_ret
          exact ⟨rfl, (hTb.trans htd).trans hte⟩
      · by_cases hk0 : 0 < k
        · obtain ⟨S1, hS1⟩ : ∃ S : List UInt8, S = P ++ [46] := ⟨_, rfl⟩
          have hlS1 : (S1).length ≤ 100 := by rw [hS1, List.length_append]; (try simp); omega
          have c1 : ∀ w, (Op.stringOp .add (str (P)) (⟨#[46]⟩)).run Tryd.prog w = .ok (.string (str (S1))) w := fun w => by rw [hS1]; exact run_cat (P) ([46]) (by (try simp); omega) w
          replace hS1 : Box (S1 = P ++ [46]) := ⟨hS1⟩
          obtain ⟨S2, hS2⟩ : ∃ S : List UInt8, S = S1 ++ Z := ⟨_, rfl⟩
          have hlS2 : (S2).length ≤ 200 := by rw [hS2, List.length_append]; (try simp); omega
          have c2 : ∀ w, (Op.stringOp .add (str (S1)) (str Z)).run Tryd.prog w = .ok (.string (str (S2))) w := fun w => by rw [hS2]; exact run_cat (S1) (Z) (by (try simp); omega) w
          replace hS2 : Box (S2 = S1 ++ Z) := ⟨hS2⟩
          obtain ⟨S3, hS3⟩ : ∃ S : List UInt8, S = S2 ++ [101, 43, 48] := ⟨_, rfl⟩
          have hlS3 : (S3).length ≤ 300 := by rw [hS3, List.length_append]; (try simp); omega
          have c3 : ∀ w, (Op.stringOp .add (str (S2)) (⟨#[101, 43, 48]⟩)).run Tryd.prog w = .ok (.string (str (S3))) w := fun w => by rw [hS3]; exact run_cat (S2) ([101, 43, 48]) (by (try simp); omega) w
          replace hS3 : Box (S3 = S2 ++ [101, 43, 48]) := ⟨hS3⟩
          have hRd := fun w => pread_at S3 (Dig.ys sg M) w (by rw [hS3.out, hS2.out, hS1.out, hP.out, hZ.out, hsg.out.1, hsg.out.2]; exact Dig.form2 m k hk0) (by omega)
          have hI := fun w => pint_at (Dig.ys sg M) m 0 w (by rw [Dig.ys_int _ _ hM.1, hM.2]) (by have := hys.1; omega) hys.2.1 hys.2.2.1 hys.2.2.2
          have hWh := fun w => pwhole_at (Dig.ys sg M).neg (Dig.ys sg M).d (Dig.ys sg M).e true w (Dig.ys_whole _ _) (by have := hys.1; omega) hys.2.1 hys.2.2.1
          clear hys hM
          generalize Dig.ys sg M = Y at hRd hI hWh
          obtain ⟨ys', yd', ye'⟩ := Y
          go_wp2_with fail
          refine (hRd _).mono ?_
          rintro e wa ⟨rfl, hta⟩
          try go_simp
          go_wp2_with fail
          refine (hI _).mono ?_
          rintro e wb ⟨rfl, htb⟩
          try go_simp
          have hAb := htb.keep (alloc_new _ _) (by simp)
          have hTb := ((((hT).trans hta)).alloc _).trans htb
          have cb := cell_at hAb
          clear hta htb hAb
          go_wp2_with fail
          refine (hWh _).mono ?_
          rintro e wd ⟨rfl, htd⟩
          try go_simp
          go_wp2_with fail
          refine (awake10 _).mono ?_
          rintro e we ⟨rfl, hte⟩
          try go_simp
          go_wp2
          go_ret
          exact ⟨rfl, (hTb.trans htd).trans hte⟩
        · have hRd := fun w => pread_at P (Dig.ys sg M) w (by rw [hP.out, hsg.out.1, hsg.out.2]; exact Dig.form_plain m) (by omega)
          have hI := fun w => pint_at (Dig.ys sg M) m 0 w (by rw [Dig.ys_int _ _ hM.1, hM.2]) (by have := hys.1; omega) hys.2.1 hys.2.2.1 hys.2.2.2
          have hWh := fun w => pwhole_at (Dig.ys sg M).neg (Dig.ys sg M).d (Dig.ys sg M).e true w (Dig.ys_whole _ _) (by have := hys.1; omega) hys.2.1 hys.2.2.1
          clear hys hM
          generalize Dig.ys sg M = Y at hRd hI hWh
          obtain ⟨ys', yd', ye'⟩ := Y
          go_wp2_with fail
          refine (hRd _).mono ?_
          rintro e wa ⟨rfl, hta⟩
          try go_simp
          go_wp2_with fail
          refine (hI _).mono ?_
          rintro e wb ⟨rfl, htb⟩
          try go_simp
          have hAb := htb.keep (alloc_new _ _) (by simp)
          have hTb := ((((hT).trans hta)).alloc _).trans htb
          have cb := cell_at hAb
          clear hta htb hAb
          go_wp2_with fail
          refine (hWh _).mono ?_
          rintro e wd ⟨rfl, htd⟩
          try go_simp
          go_wp2_with fail
          refine (awake10 _).mono ?_
          rintro e we ⟨rfl, hte⟩
          try go_simp
          go_wp2
          go_ret
          exact ⟨rfl, (hTb.trans htd).trans hte⟩
      · by_cases hm0 : 0 < m
        · by_cases hk0 : 0 < k
          · have i1 : ∀ w, (Instr.slice 9 (.string (str Z)) (some (.int .i64 1)) none none).run Tryd.prog w = .ok (.string (str (Z.drop 1))) w := fun w => run_from Tryd.underlying9 Z .i64 1 (by rw [hZl.out]; omega) w
            obtain ⟨Z1, hZ1⟩ : ∃ Z1, Z1 = Z.drop 1 := ⟨_, rfl⟩
            rw [← hZ1] at i1
            have hZ1l : Z1.length ≤ 30 := by rw [hZ1]; simp; omega
            replace hZ1 : Box (Z1 = Z.drop 1) := ⟨hZ1⟩
            obtain ⟨S1, hS1⟩ : ∃ S : List UInt8, S = [48, 46] ++ Z1 := ⟨_, rfl⟩
            have hlS1 : S1.length ≤ 100 := by rw [hS1, List.length_append]; simp; omega
            have c1 : ∀ w, (Op.stringOp .add ⟨#[48, 46]⟩ (str Z1)).run Tryd.prog w = .ok (.string (str S1)) w := fun w => by rw [hS1]; exact run_cat [48, 46] Z1 (by simp; omega) w
            replace hS1 : Box (S1 = [48, 46] ++ Z1) := ⟨hS1⟩
            obtain ⟨S2, hS2⟩ : ∃ S : List UInt8, S = S1 ++ P := ⟨_, rfl⟩
            have hlS2 : (S2).length ≤ 200 := by rw [hS2, List.length_append]; (try simp); omega
            have c2 : ∀ w, (Op.stringOp .add (str (S1)) (str P)).run Tryd.prog w = .ok (.string (str (S2))) w := fun w => by rw [hS2]; exact run_cat (S1) (P) (by (try simp); omega) w
            replace hS2 : Box (S2 = S1 ++ P) := ⟨hS2⟩
            obtain ⟨S3, hS3⟩ : ∃ S : List UInt8, S = S2 ++ [101] := ⟨_, rfl⟩
            have hlS3 : (S3).length ≤ 300 := by rw [hS3, List.length_append]; (try simp); omega
            have c3 : ∀ w, (Op.stringOp .add (str (S2)) (⟨#[101]⟩)).run Tryd.prog w = .ok (.string (str (S3))) w := fun w => by rw [hS3]; exact run_cat (S2) ([101]) (by (try simp); omega) w
            replace hS3 : Box (S3 = S2 ++ [101]) := ⟨hS3⟩
            have hPd : P = Dig.digs M := by rw [hP.out, hsg.out.2]; unfold Dig.print; rw [if_neg (by omega)]
            obtain ⟨x, hx⟩ : ∃ x, x = (k : Int) - 1 + P.length := ⟨_, rfl⟩
            have ex : IntKind.i64.wrap ((k : Int) - 1 + P.length) = x := by rw [hx]; exact IntWalk.i64_in _ (by omega)
            have ex0 : IntKind.i64.wrap ((k : Int) - 1) = (k : Int) - 1 := IntWalk.i64_in _ (by omega)
            obtain ⟨Q, hQ⟩ : ∃ Q, Q = Dig.print x := ⟨_, rfl⟩
            have hpz := fun w => rprint_any x w (by omega) (by omega)
            rw [← hQ] at hpz
            have hQl : Q.length ≤ 17 := by
              have : (Dig.digs x.natAbs).length ≤ 16 := Dig.digs_length_le 15 _ (by omega)
              rw [hQ]
              unfold Dig.print
              rw [if_neg (by omega)]
              omega
            replace hQ : Box (Q = Dig.print x) := ⟨hQ⟩
            obtain ⟨S4, hS4⟩ : ∃ S : List UInt8, S = S3 ++ Q := ⟨_, rfl⟩
            have hlS4 : (S4).length ≤ 400 := by rw [hS4, List.length_append]; (try simp); omega
            have c4 : ∀ w, (Op.stringOp .add (str (S3)) (str Q)).run Tryd.prog w = .ok (.string (str (S4))) w := fun w => by rw [hS4]; exact run_cat (S3) (Q) (by (try simp); omega) w
            replace hS4 : Box (S4 = S3 ++ Q) := ⟨hS4⟩
            have hRd := fun w => pread_at S4 (Dig.ys sg M) w (by
              rw [hS4.out, hS3.out, hS2.out, hS1.out, hQ.out, hx, hZ1.out, hPd, hZ.out, hsg.out.1, decide_eq_false (by omega)]
              exact Dig.form3 M k (by have := hsg.out.2; omega) hk0 (by rw [← hPd]; omega)) (by omega)
            clear hPd
            replace hx : Box (x = (k : Int) - 1 + P.length) := ⟨hx⟩
            go_wp2
            go_quiet ((go_at_call 20; exact Calls.quiet_of (hpz _)))
            clear hpz hpr ex ex0 c1 c2 c3 c4
            have hI := fun w => pint_at (Dig.ys sg M) m 0 w (by rw [Dig.ys_int _ _ hM.1, hM.2]) (by have := hys.1; omega) hys.2.1 hys.2.2.1 hys.2.2.2
            have hWh := fun w => pwhole_at (Dig.ys sg M).neg (Dig.ys sg M).d (Dig.ys sg M).e true w (Dig.ys_whole _ _) (by have := hys.1; omega) hys.2.1 hys.2.2.1
            clear hys hM
            generalize Dig.ys sg M = Y at hRd hI hWh
            obtain ⟨ys', yd', ye'⟩ := Y
            go_wp2_with fail
            refine (hRd _).mono ?_
            rintro e wa ⟨rfl, hta⟩
            try go_simp
            go_wp2_with fail
            refine (hI _).mono ?_
            rintro e wb ⟨rfl, htb⟩
            try go_simp
            have hAb := htb.keep (alloc_new _ _) (by simp)
            have hTb := ((((hT.drewN _).trans hta)).alloc _).trans htb
            have cb := cell_at hAb
            clear hta htb hAb
            go_wp2_with fail
            refine (hWh _).mono ?_
            rintro e wd ⟨rfl, htd⟩
            try go_simp
            go_wp2_with fail
            refine (awake10 _).mono ?_
            rintro e we ⟨rfl, hte⟩
            try go_simp
            go_wp2
            go_ret
            exact ⟨rfl, (hTb.trans htd).trans hte⟩
          · have hRd := fun w => pread_at P (Dig.ys sg M) w (by rw [hP.out, hsg.out.1, hsg.out.2]; exact Dig.form_plain m) (by omega)
            have hI := fun w => pint_at (Dig.ys sg M) m 0 w (by rw [Dig.ys_int _ _ hM.1, hM.2]) (by have := hys.1; omega) hys.2.1 hys.2.2.1 hys.2.2.2
            have hWh := fun w => pwhole_at (Dig.ys sg M).neg (Dig.ys sg M).d (Dig.ys sg M).e true w (Dig.ys_whole _ _) (by have := hys.1; omega) hys.2.1 hys.2.2.1
            clear hys hM
            generalize Dig.ys sg M = Y at hRd hI hWh
            obtain ⟨ys', yd', ye'⟩ := Y
            go_wp2_with fail
            refine (hRd _).mono ?_
            rintro e wa ⟨rfl, hta⟩
            try go_simp
            go_wp2_with fail
            refine (hI _).mono ?_
            rintro e wb ⟨rfl, htb⟩
            try go_simp
            have hAb := htb.keep (alloc_new _ _) (by simp)
            have hTb := ((((hT).trans hta)).alloc _).trans htb
            have cb := cell_at hAb
            clear hta htb hAb
            go_wp2_with fail
            refine (hWh _).mono ?_
            rintro e wd ⟨rfl, htd⟩
            try go_simp
            go_wp2_with fail
            refine (awake10 _).mono ?_
            rintro e we ⟨rfl, hte⟩
            try go_simp
            go_wp2
            go_ret
            exact ⟨rfl, (hTb.trans htd).trans hte⟩
        · have hRd := fun w => pread_at P (Dig.ys sg M) w (by rw [hP.out, hsg.out.1, hsg.out.2]; exact Dig.form_plain m) (by omega)
          have hI := fun w => pint_at (Dig.ys sg M) m 0 w (by rw [Dig.ys_int _ _ hM.1, hM.2]) (by have := hys.1; omega) hys.2.1 hys.2.2.1 hys.2.2.2
          have hWh := fun w => pwhole_at (Dig.ys sg M).neg (Dig.ys sg M).d (Dig.ys sg M).e true w (Dig.ys_whole _ _) (by have := hys.1; omega) hys.2.1 hys.2.2.1
          clear hys hM
          generalize Dig.ys sg M = Y at hRd hI hWh
          obtain ⟨ys', yd', ye'⟩ := Y
          go_wp2_with fail
          refine (hRd _).mono ?_
          rintro e wa ⟨rfl, hta⟩
          try go_simp
          go_wp2_with fail
          refine (hI _).mono ?_
          rintro e wb ⟨rfl, htb⟩
          try go_simp
          have hAb := htb.keep (alloc_new _ _) (by simp)
          have hTb := ((((hT).trans hta)).alloc _).trans htb
          have cb := cell_at hAb
          clear hta htb hAb
          go_wp2_with fail
          refine (hWh _).mono ?_
          rintro e wd ⟨rfl, htd⟩
          try go_simp
          go_wp2_with fail
          refine (awake10 _).mono ?_
          rintro e we ⟨rfl, hte⟩
          try go_simp
          go_wp2
          go_ret
          exact ⟨rfl, (hTb.trans htd).trans hte⟩
end Go.Proofs.YtcpfooceadgccaaDoor
