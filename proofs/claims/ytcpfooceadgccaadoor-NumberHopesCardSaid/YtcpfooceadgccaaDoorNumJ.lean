/- The reference's More. -/
import Derived.Test.YtcpfooceadgccaaDoorNumI
import Derived.StillTailTactics
namespace Go.Proofs.YtcpfooceadgccaaDoor
open Go.RowKit
set_option maxRecDepth 100000
set_option maxHeartbeats 8000000
set_option linter.unusedVariables false
set_option linter.unusedSimpArgs false

namespace Num
open Go.Proofs.YtcpfooceadgccaaDoor.Dig (Bs)
theorem fit_dig (P : Parts) (e : Int) (u : Bs) (he : -1000000 ≤ e ∧ e ≤ 1000000) (h : fit P e = some u) : u.all Dig.dig = true ∧ u.length ≤ 7 := by
  unfold fit at h
  dsimp only at h
  obtain ⟨E, hE⟩ : ∃ E, (if P.sign = 45 then -e else e) = E := ⟨_, rfl⟩
  have hEb : -1000000 ≤ E ∧ E ≤ 1000000 := by rw [← hE]; split <;> omega
  rw [hE] at h
  split at h
  · cases h
  · have hp : (Dig.print E).all Dig.dig = true ∧ (Dig.print E).length ≤ 7 := by
      unfold Dig.print
      rw [if_neg (by omega)]
      exact ⟨Dig.digs_all _, Dig.digs_length_le 6 _ (by omega)⟩
    split at h
    · injection h with h; subst h; exact ⟨rfl, by simp⟩
    · split at h
      · injection h with h; subst h; exact hp
      · split at h
        · injection h with h
          subst h
          refine ⟨?_, by rw [List.length_drop]; omega⟩
          rw [List.all_eq_true]
          intro b hb
          exact List.all_eq_true.1 hp.1 b (List.mem_of_mem_drop hb)
        · cases h
theorem not_none_word (u : Bs) (h : u.all Dig.dig = true) : u ≠ [110, 111, 110, 101] := fun e => by subst e; simp [Dig.dig] at h
theorem goodB_eq (u : Bs) : goodB u = ((Dig.read u).isSome && ((Dig.int ((Dig.read u).getD Dig.zero)).2 == 0)) := by
  unfold goodB
  cases Dig.read u with
  | none => rfl
  | some d => rfl
theorem moreP_yes (s : Bs) (d : Bs) (m sg : Nat) (x : Bs) : moreP s ⟨d, m, true, sg, x⟩ = if x = [] ∧ sg = 0 then Dig.print (-(Dig.norm ⟨false, d, -(m : Int)⟩).e) else
    (match loopN s ⟨d, m, true, sg, x⟩ (-(Dig.norm ⟨false, d, -(m : Int)⟩).e) 17 0 with | some t => t | none => if x = [] then [48] else []) := by
  unfold moreP
  dsimp only
  rw [if_neg (by simp)]
  rfl
theorem moreP_no (s : Bs) (d : Bs) (m sg : Nat) (x : Bs) : moreP s ⟨d, m, false, sg, x⟩ = if (Dig.int (Dig.norm ⟨false, d, -(m : Int)⟩)).2 = 0 then dot s else dot s ++ 101 :: Dig.print (-(Dig.norm ⟨false, d, -(m : Int)⟩).e) := by
  unfold moreP
  dsimp only
  rw [if_pos rfl]
end Num

/-- what More's loop keeps -/
structure MoreIn (w wr : World) (q A B : Nat) (s d : List UInt8) (m : Nat) (ex : Bool) (sg : Nat) (x : List UInt8) (ys : Bool) (yd : List UInt8) (ye : Int) : Prop where
  a : wr.heap[A]? = some (.cells #[.string (str d), .int .i64 m, .bool ex, .int .u8 sg, .string (str x)] 77)
  b : wr.heap[B]? = some (.cells #[.bool ys, .string (str yd), .int .i64 ye] 23)
  r : RNumAt wr q s
  t : Touch [] w wr
theorem MoreIn.go {w wr w' : World} {q A B : Nat} {s d : List UInt8} {m : Nat} {ex : Bool} {sg : Nat} {x : List UInt8} {ys : Bool} {yd : List UInt8} {ye : Int} (h : MoreIn w wr q A B s d m ex sg x ys yd ye) (k : Touch [] wr w') : MoreIn w w' q A B s d m ex sg x ys yd ye :=
  ⟨k.keep h.a (by simp), k.keep h.b (by simp), k.keep h.r (by simp), h.t.trans k⟩



theorem rmore_any (q : Nat) (s : List UInt8) (w : World) (hN : RNumAt w q s) (hl : s.length ≤ 1000) (hc : s = [] ∨ s = [45] ∨ (s ≠ [] ∧ s ≠ [45] ∧ ∃ P, Num.cutO s = some P)) :
    Calls Tryd.prog 40 #[.pointer (some ⟨q, 0, none⟩)] w fun e w' => e = .returned (.string (str (Num.more s))) ∧ Touch [] w w' := by
  have ss := str_size s
  have hN' := hN
  unfold RNumAt at hN'
  have c0 := cell_at hN' 0
  have f0 := free_at hN' 0
  have lq := block_lt hN'
  simp at c0
  rcases hc with rfl | rfl | ⟨hs1, hs2, P, hP⟩
  · let kp_ : Exit → Act → World → Prop := bodyPost Tryd.prog Tryd.f40 (fun _ _ => True)
    refine calls_post Tryd.func40 rfl ?_
    intro Q_ hQ_
    simp only [Tryd.ntmps40, List.size_toArray, List.length_cons, List.length_nil, Nat.reduceAdd, Nat.reduceSub, Array.replicate_succ, Array.replicate_zero, List.push_toArray, List.append_toArray, List.nil_append, List.cons_append]
    go_wp2
    (try simp only [Exit.inBlock, Exit.then])
    refine hQ_.ret (results_tmp rfl _ _ _) rfl ?_
    exact ⟨rfl, Touch.refl _ _⟩
  · have tq : ((str [45]).toList == [45]) = true := by rw [str_toList]; rfl
    let kp_ : Exit → Act → World → Prop := bodyPost Tryd.prog Tryd.f40 (fun _ _ => True)
    refine calls_post Tryd.func40 rfl ?_
    intro Q_ hQ_
    simp only [Tryd.ntmps40, List.size_toArray, List.length_cons, List.length_nil, Nat.reduceAdd, Nat.reduceSub, Array.replicate_succ, Array.replicate_zero, List.push_toArray, List.append_toArray, List.nil_append, List.cons_append]
    go_wp2
    (try simp only [Exit.inBlock, Exit.then])
    refine hQ_.ret (results_tmp rfl _ _ _) rfl ?_
    exact ⟨rfl, Touch.refl _ _⟩
  · have hmore : Num.more s = Num.moreP s P := by unfold Num.more; rw [if_neg (by rintro (e | e); exact hs1 e; exact hs2 e), hP]
    have tq : ((str s).toList == [45]) = false := by rw [str_toList]; simpa using hs2
    have tl : ((s.length : Int) == 0) = false := by have := List.length_pos_iff.2 hs1; simp; omega
    have tl0 : 0 < s.length := List.length_pos_iff.2 hs1
    have tl1 : decide ((0 : Int) < (s.length : Int)) = true := by simp; omega
    have tl2 : (0 : Int) < (s.length : Int) := by omega
    have hg := Num.cutO_good (n := 1000) hl hP
    have hcut := fun w => rcut_yes s P w (by omega) hP
    obtain ⟨d, m, ex, sg, x⟩ := P
    obtain ⟨g1, g2, g3, g4, g5⟩ := hg
    simp only at g1 g2 g3 g4 g5 hcut
    have hnb := Num.norm_bounds false d (-(m : Int)) 1000 g3 (by omega) (by omega) (by omega)
    have hnd : (Dig.norm ⟨false, d, -(m : Int)⟩).d.all Dig.dig = true := Dig.norm_all _ g1
    have hne := Num.norm_e_small ⟨false, d, -(m : Int)⟩
    simp only at hne
    have hyeb : -2000 ≤ (Dig.norm ⟨false, d, -(m : Int)⟩).e ∧ (Dig.norm ⟨false, d, -(m : Int)⟩).e ≤ 2000 := by omega
    have hnorm := fun w => rnorm_of false d (-(m : Int)) w (by omega) (by omega) (by omega)
    have sx := str_size x
    have hm1 := Num.moreP_yes s d m sg x
    have hm0 := Num.moreP_no s d m sg x
    obtain ⟨c, hcl⟩ : ∃ c, s[s.length - 1]? = some c := ⟨s[s.length - 1], by simp [tl0]⟩
    have i1 : ∀ w, (Instr.index 9 (.string (str s)) (.int .i64 ((s.length : Int) - 1))).run Tryd.prog w = .ok (.int .u8 c.toNat) w := fun w => by
      have := run_ix (P := Tryd.prog) Tryd.underlying9 s .i64 (s.length - 1) c hcl w
      rwa [show ((s.length - 1 : Nat) : Int) = (s.length : Int) - 1 by omega] at this
    have hdot : Num.dot s = if c = 46 then [48] else [] := by
      unfold Num.dot
      rw [List.getLast?_eq_getElem?, hcl]
      simp
    have wm : IntKind.i64.wrap (-(m : Int)) = -(m : Int) := IntWalk.i64_in _ (by omega)
    have hint := fun w => rint_any (Dig.norm ⟨false, d, -(m : Int)⟩) w hnb.1 hnb.2.1 hnb.2.2 hnd
    simp only [dec] at hint
    generalize hy : Dig.norm ⟨false, d, -(m : Int)⟩ = y at *
    obtain ⟨ys, yd, ye⟩ := y
    simp only at hyeb hm1 hm0 hnorm hint
    clear hy hnb hnd hne hP hs1 hs2 g1 hcl
    let kp_ : Exit → Act → World → Prop := bodyPost Tryd.prog Tryd.f40 (fun _ _ => True)
    refine calls_post Tryd.func40 rfl ?_
    intro Q_ hQ_
    simp only [Tryd.ntmps40, List.size_toArray, List.length_cons, List.length_nil, Nat.reduceAdd, Nat.reduceSub, Array.replicate_succ, Array.replicate_zero, List.push_toArray, List.append_toArray, List.nil_append, List.cons_append]
    go_wp2_with fail
    refine (hcut _).mono ?_
    rintro e w1 ⟨rfl, ht1⟩
    try go_simp
    go_wp2_with fail
    refine (hnorm _).mono ?_
    rintro e w2 ⟨rfl, ht2⟩
    try go_simp
    have hA : w2.heap[w1.heap.size]? = some (.cells #[.string (str d), .int .i64 m, .bool ex, .int .u8 sg, .string (str x)] 77) := ht2.keep (alloc_new _ _) (by simp)
    have hM : MoreIn w (w2.alloc (.cells #[.bool ys, .string (str yd), .int .i64 ye] 23)) q w1.heap.size w2.heap.size s d m ex sg x ys yd ye :=
      ⟨alloc_old hA _, alloc_new _ _, alloc_old (ht2.keep (alloc_old (ht1.keep hN (by simp)) _) (by simp)) _, (((ht1.alloc _).trans ht2).alloc _)⟩
    clear hA ht1 ht2 hcut hnorm c0 f0 hN hN'
    have r0 := cell_at hM.r 0
    have r1 := block_lt hM.r
    simp at r0
    go_upto_region 6 with (fail)
    go_cut [62] (fun v wx => ∃ t : Bool, v = .bool t ∧ Num.dot s = (if t = true then [48] else []) ∧ MoreIn w wx q w1.heap.size w2.heap.size s d m ex sg x ys yd ye)
    case first =>
      by_cases hc : c = 46
      · have t1 : ((c.toNat : Int) == 46) = true := by rw [hc]; rfl
        rw [if_pos hc] at hdot
        clear hc
        go_quiet (fail)
        go_wp2
        go_meet
        exact ⟨true, rfl, hdot, hM.go ((Touch.refl _ _).drewN _)⟩
      · have t1 : ((c.toNat : Int) == 46) = false := by
          rw [beq_eq_false_iff_ne]
          intro q
          exact hc (UInt8.toNat_inj.1 (by have : (46 : UInt8).toNat = 46 := rfl; omega))
        rw [if_neg hc] at hdot
        clear hc
        go_quiet (fail)
        go_wp2
        go_meet
        exact ⟨false, rfl, hdot, hM.go ((Touch.refl _ _).drewN _)⟩
    case rest =>
     obtain ⟨t, rfl, hd2, hM1⟩ := hcut
     clear hdot hM
     go_upto_if 62 with (fail)
     go_cut [6] (fun v wx => v = .string (str (Num.dot s)) ∧ MoreIn w wx q w1.heap.size w2.heap.size s d m ex sg x ys yd ye)
     case first =>
      cases t with
      | true =>
        go_wp2
        go_meet
        exact ⟨by rw [hd2]; rfl, hM1⟩
      | false =>
        go_wp2
        go_meet
        exact ⟨by rw [hd2]; rfl, hM1⟩
     case rest =>
      obtain ⟨rfl, hM2⟩ := hcut
      clear r0 r1 hM1 i1 tq tl
      generalize w1.heap.size = A at *
      generalize w2.heap.size = B at *
      obtain ⟨z, hz⟩ : ∃ z, Num.dot s = z := ⟨_, rfl⟩
      have hzl : z.length ≤ 1 := by rw [← hz, hd2]; split <;> simp
      simp only [hz] at hm0 ⊢
      clear hd2 hz
      have a2 := cell_at hM2.a 2
      have a3 := cell_at hM2.a 3
      have a4 := cell_at hM2.a 4
      have b0 := cell_at hM2.b 0
      have b1 := cell_at hM2.b 1
      have b2 := cell_at hM2.b 2
      have la := block_lt hM2.a
      have lb := block_lt hM2.b
      simp at a2 a3 a4 b0 b1 b2
      have wn : IntKind.i64.wrap (-ye) = -ye := IntWalk.i64_in _ (by omega)
      have hpr := fun w => rprint_t (-ye) w (by omega) (by omega)
      obtain ⟨Pn, hPn⟩ : ∃ Pn, Dig.print (-ye) = Pn := ⟨_, rfl⟩
      have hPl : Pn.length ≤ 17 := by
        rw [← hPn]
        unfold Dig.print
        have h1 : (Dig.digs (-ye).natAbs).length ≤ 16 := Dig.digs_length_le 15 _ (by omega)
        split
        · rw [List.length_cons]; omega
        · omega
      have sP := str_size Pn
      rw [hPn] at hpr hm1 hm0
      cases ex with
      | false =>
        rw [hm0] at hmore
        clear hm0 hm1 hPn
        generalize Dig.int ⟨ys, yd, ye⟩ = I at *
        obtain ⟨y1, y2⟩ := I
        simp only at hint hmore
        by_cases hy2 : y2 = 0
        · have t1 : (y2 == 0) = true := by rw [hy2]; rfl
          rw [if_pos hy2] at hmore
          clear hy2
          go_wp2_with fail
          refine (hint _).mono ?_
          rintro e w3 ⟨rfl, ht3⟩
          try go_simp
          go_wp2
          (try simp only [Exit.inBlock, Exit.then])
          refine hQ_.ret (results_tmp rfl _ _ _) rfl ?_
          exact ⟨by rw [hmore]; rfl, hM2.t.trans ht3⟩
        · have t1 : (y2 == 0) = false := by simpa using hy2
          rw [if_neg hy2] at hmore
          clear hy2
          obtain ⟨S1, hS1⟩ : ∃ S : List UInt8, S = z ++ [101] := ⟨_, rfl⟩
          have hlS1 : (S1).length ≤ 2 := by rw [hS1, List.length_append]; (try simp); omega
          have c1 : ∀ w, (Op.stringOp .add (str (z)) (⟨#[101]⟩)).run Tryd.prog w = .ok (.string (str (S1))) w := fun w => by rw [hS1]; exact run_cat (z) ([101]) (by (try simp); omega) w
          replace hS1 : Box (S1 = z ++ [101]) := ⟨hS1⟩
          obtain ⟨S2, hS2⟩ : ∃ S : List UInt8, S = S1 ++ Pn := ⟨_, rfl⟩
          have hlS2 : (S2).length ≤ 20 := by rw [hS2, List.length_append]; (try simp); omega
          have c2 : ∀ w, (Op.stringOp .add (str (S1)) (str Pn)).run Tryd.prog w = .ok (.string (str (S2))) w := fun w => by rw [hS2]; exact run_cat (S1) (Pn) (by (try simp); omega) w
          replace hS2 : Box (S2 = S1 ++ Pn) := ⟨hS2⟩
          go_wp2_with fail
          refine (hint _).mono ?_
          rintro e w3 ⟨rfl, ht3⟩
          try go_simp
          have hM3 := hM2.go ht3
          have e2 := cell_at hM3.b 2
          have lb3 := block_lt hM3.b
          simp at e2
          go_wp2_with fail
          refine (hpr _).mono ?_
          rintro e w4 ⟨rfl, ht4⟩
          try go_simp
          go_wp2
          (try simp only [Exit.inBlock, Exit.then])
          refine hQ_.ret (results_tmp rfl _ _ _) rfl ?_
          have e9 : z ++ 101 :: Pn = S2 := by rw [hS2.out, hS1.out]; simp
          exact ⟨by rw [hmore, e9]; rfl, hM3.t.trans ht4⟩
      | true =>
        rw [hm1] at hmore
        clear hm0 hm1 hint hPn
        have hxe : x = [] ↔ str x = ByteArray.empty := ⟨fun q => by rw [q]; rfl, fun q => by
          have := congrArg ByteArray.size q
          rw [sx] at this
          exact List.eq_nil_of_length_eq_zero this⟩
        go_upto_region 13 with (fail)
        go_cut [89] (fun v wx => ∃ t : Bool, v = .bool t ∧ (t = true ↔ (x = [] ∧ sg = 0)) ∧ MoreIn w wx q A B s d m true sg x ys yd ye)
        case first =>
          by_cases hx : x = []
          · have hE := hxe.1 hx
            by_cases hs : sg = 0
            · have t2 : ((sg : Int) == 0) = true := by rw [hs]; rfl
              clear hxe hmore
              go_wp2
              go_meet
              exact ⟨true, rfl, ⟨fun _ => ⟨hx, hs⟩, fun _ => rfl⟩, hM2⟩
            · have t2 : ((sg : Int) == 0) = false := by simpa using hs
              clear hxe hmore
              go_wp2
              go_meet
              exact ⟨false, rfl, ⟨fun q => (by cases q), fun q => absurd q.2 hs⟩, hM2⟩
          · have hE : ¬ str x = ByteArray.empty := fun q => hx (hxe.2 q)
            clear hxe hmore
            go_wp2
            go_meet
            exact ⟨false, rfl, ⟨fun q => (by cases q), fun q => absurd q.1 hx⟩, hM2⟩
        case rest =>
          obtain ⟨t9, rfl, ht9, hM3⟩ := hcut
          clear hM2 a2 a3 a4 b0 b1 b2 la lb
          have a2 := cell_at hM3.a 2
          have b2 := cell_at hM3.b 2
          have lb := block_lt hM3.b
          simp at a2 b2
          cases t9 with
          | true =>
            rw [if_pos (ht9.1 rfl)] at hmore
            clear ht9 hxe
            go_wp2_with fail
            refine (hpr _).mono ?_
            rintro e w3 ⟨rfl, ht3⟩
            try go_simp
            go_wp2
            (try simp only [Exit.inBlock, Exit.then])
            refine hQ_.ret (results_tmp rfl _ _ _) rfl ?_
            exact ⟨by rw [hmore]; rfl, hM3.t.trans ht3⟩
          | false =>
            rw [if_neg (fun q => by have := ht9.2 q; cases this)] at hmore
            clear ht9
            go_wp2_with fail
            go_loopw [9] (fun v wr => ∃ k : Nat, k ≤ 17 ∧ v = .int .i64 (-ye + k) ∧ MoreIn w wr q A B s d m true sg x ys yd ye ∧ Box (Num.loopN s ⟨d, m, true, sg, x⟩ (-ye) 17 0 = Num.loopN s ⟨d, m, true, sg, x⟩ (-ye) (17 - k) k)) (fun v _ => 17 - (intOf v + ye).toNat)
            case atStart => exact ⟨0, by omega, by simp, hM3, ⟨rfl⟩⟩
            case round =>
              clear a2 b2 lb hM3
              obtain ⟨k, hk, rfl, hMr, hlp⟩ := hrel
              have a0 := cell_at hMr.a 0
              have a1 := cell_at hMr.a 1
              have a2 := cell_at hMr.a 2
              have a3 := cell_at hMr.a 3
              have a4 := cell_at hMr.a 4
              have b2 := cell_at hMr.b 2
              have r0 := cell_at hMr.r 0
              have la := block_lt hMr.a
              have lb := block_lt hMr.b
              have lr := block_lt hMr.r
              simp at a0 a1 a2 a3 a4 b2 r0
              by_cases hlt : k < 17
              · have hle : (-ye + (k : Int)) ≤ 16 - ye := by omega
                have hfit := fun w => rfit_any d m true sg x (-ye + k) w (by omega) (by omega) (by omega)
                have hst : Num.loopN s ⟨d, m, true, sg, x⟩ (-ye) (17 - k) k = match Num.tryAt s ⟨d, m, true, sg, x⟩ (-ye) k with | some t => some t | none => Num.loopN s ⟨d, m, true, sg, x⟩ (-ye) (17 - (k + 1)) (k + 1) := by
                  rw [show 17 - k = (17 - (k + 1)) + 1 by omega]
                  rfl
                unfold Num.tryAt at hst
                cases hf : Num.fit ⟨d, m, true, sg, x⟩ (-ye + k) with
                | none =>
                  rw [hf] at hst hfit
                  dsimp only [Option.getD] at hst hfit
                  have tn : ((str [110, 111, 110, 101]).toList == [110, 111, 110, 101]) = true := by rw [str_toList]; rfl
                  have hlp2 := Box.mk (hlp.out.trans hst)
                  clear hf hst hlp
                  go_wp2_with fail
                  refine (hfit _).mono ?_
                  rintro e w3 ⟨rfl, ht3⟩
                  try go_simp
                  go_wp2
                  go_roundw
                  case measure => simp [intOf]; omega
                  case rel => exact ⟨k + 1, by omega, by go_num, hMr.go ht3, hlp2⟩
                | some u =>
                  have hud := Num.fit_dig _ _ u (by omega) hf
                  have tn : ((str u).toList == [110, 111, 110, 101]) = false := by rw [str_toList]; simpa using Num.not_none_word u hud.1
                  rw [hf] at hst hfit
                  dsimp only [Option.getD] at hst hfit
                  obtain ⟨S, hS⟩ : ∃ S : List UInt8, S = s ++ u := ⟨_, rfl⟩
                  have hlS : (S).length ≤ 1010 := by rw [hS, List.length_append]; (try simp); omega
                  have c1 : ∀ w, (Op.stringOp .add (str (s)) (str u)).run Tryd.prog w = .ok (.string (str (S))) w := fun w => by rw [hS]; exact run_cat (s) (u) (by (try simp); omega) w
                  replace hS : Box (S = s ++ u) := ⟨hS⟩
                  rw [← hS.out, Num.goodB_eq] at hst
                  have hul := hud.2
                  have hRd := fun w => rread_any S w (by omega)
                  have hwb := Num.read_bounds S (by omega)
                  have hdd : ((Dig.read S).getD Dig.zero).d.all Dig.dig = true := by
                    cases h : Dig.read S with
                    | none => rfl
                    | some d => exact Num.read_digits S d h (by omega)
                  generalize (Dig.read S).getD Dig.zero = y at *
                  generalize (Dig.read S).isSome = ok at *
                  obtain ⟨hw1, hw2, hw3⟩ := hwb
                  have hIn := fun w => rint_any y w hw1 hw2 hw3 hdd
                  generalize Dig.int y = I at *
                  obtain ⟨j1, j2⟩ := I
                  obtain ⟨zs, zd, ze⟩ := y
                  simp only [dec] at hIn hRd
                  simp only at hst
                  clear hf hud hw1 hw2 hw3 hdd
                  cases ok with
                  | false =>
                    rw [if_neg (by simp)] at hst
                    dsimp only at hst
                    have hlp2 := Box.mk (hlp.out.trans hst)
                    clear hst hlp
                    go_wp2_with fail
                    refine (hfit _).mono ?_
                    rintro e w3 ⟨rfl, ht3⟩
                    try go_simp
                    have hM3 := hMr.go ht3
                    have r3 := cell_at hM3.r 0
                    have l3 := block_lt hM3.r
                    simp at r3
                    go_wp2_with fail
                    refine (hRd _).mono ?_
                    rintro e w4 ⟨rfl, ht4⟩
                    try go_simp
                    go_wp2_with fail
                    refine (hIn _).mono ?_
                    rintro e w5 ⟨rfl, ht5⟩
                    try go_simp
                    go_wp2
                    go_roundw
                    case measure => simp [intOf]; omega
                    case rel => exact ⟨k + 1, by omega, by go_num, ((hM3.go ht4).go ((Touch.refl [] _).alloc _)).go ht5, hlp2⟩
                  | true =>
                    by_cases hj : j2 = 0
                    · have tj : (j2 == 0) = true := by rw [hj]; rfl
                      subst hj
                      rw [if_pos (by rfl)] at hst
                      dsimp only at hst
                      have hlp2 := Box.mk (hlp.out.trans hst)
                      clear hst hlp
                      go_wp2_with fail
                      refine (hfit _).mono ?_
                      rintro e w3 ⟨rfl, ht3⟩
                      try go_simp
                      have hM3 := hMr.go ht3
                      have r3 := cell_at hM3.r 0
                      have l3 := block_lt hM3.r
                      simp at r3
                      go_wp2_with fail
                      refine (hRd _).mono ?_
                      rintro e w4 ⟨rfl, ht4⟩
                      try go_simp
                      go_wp2_with fail
                      refine (hIn _).mono ?_
                      rintro e w5 ⟨rfl, ht5⟩
                      try go_simp
                      go_wp2
                      (try simp only [Exit.inBlock, Exit.then])
                      refine hQ_.ret (results_tmp rfl _ _ _) rfl ?_
                      rw [hlp2.out] at hmore
                      exact ⟨by rw [hmore]; rfl, (((hM3.go ht4).go ((Touch.refl [] _).alloc _)).go ht5).t⟩
                    · have tj : (j2 == 0) = false := by simpa using hj
                      rw [if_neg (by rw [tj]; simp)] at hst
                      dsimp only at hst
                      have hlp2 := Box.mk (hlp.out.trans hst)
                      clear hst hlp hj
                      go_wp2_with fail
                      refine (hfit _).mono ?_
                      rintro e w3 ⟨rfl, ht3⟩
                      try go_simp
                      have hM3 := hMr.go ht3
                      have r3 := cell_at hM3.r 0
                      have l3 := block_lt hM3.r
                      simp at r3
                      go_wp2_with fail
                      refine (hRd _).mono ?_
                      rintro e w4 ⟨rfl, ht4⟩
                      try go_simp
                      go_wp2_with fail
                      refine (hIn _).mono ?_
                      rintro e w5 ⟨rfl, ht5⟩
                      try go_simp
                      go_wp2
                      go_roundw
                      case measure => simp [intOf]; omega
                      case rel => exact ⟨k + 1, by omega, by go_num, ((hM3.go ht4).go ((Touch.refl [] _).alloc _)).go ht5, hlp2⟩
              · have hk17 : k = 17 := by omega
                subst hk17
                have hlp2 := hlp.out
                rw [show (17 - 17 : Nat) = 0 from rfl, show Num.loopN s ⟨d, m, true, sg, x⟩ (-ye) 0 17 = none from rfl] at hlp2
                rw [hlp2] at hmore
                dsimp only at hmore
                have hgt : ¬ (-ye + ((17 : Nat) : Int)) ≤ 16 - ye := by omega
                clear hlp hlp2
                by_cases hx : x = []
                · have hE := hxe.1 hx
                  have hE2 : ((x.length : Int) == 0) = true := by rw [hx]; rfl
                  rw [if_pos hx] at hmore
                  replace hmore := Box.mk hmore
                  clear hxe
                  go_wp2
                  (try simp only [Exit.inBlock, Exit.then])
                  refine hQ_.ret (results_tmp rfl _ _ _) rfl ?_
                  exact ⟨by rw [hmore.out]; rfl, hMr.t⟩
                · have hE : ¬ str x = ByteArray.empty := fun q => hx (hxe.2 q)
                  have hE2 : ((x.length : Int) == 0) = false := by simpa using hx
                  rw [if_neg hx] at hmore
                  replace hmore := Box.mk hmore
                  clear hxe
                  go_wp2
                  (try simp only [Exit.inBlock, Exit.then])
                  refine hQ_.ret (results_tmp rfl _ _ _) rfl ?_
                  exact ⟨by rw [hmore.out]; rfl, hMr.t⟩
end Go.Proofs.YtcpfooceadgccaaDoor
