/- The law NumberEdges. -/
import Derived.Test.YtcpfooceadgccaaDoorNumLP
import Derived.Test.YtcpfooceadgccaaDoorBA
namespace Go.Proofs.YtcpfooceadgccaaDoor
open Go.RowKit
set_option maxRecDepth 100000
set_option maxHeartbeats 8000000
set_option linter.unusedVariables false
set_option linter.unusedSimpArgs false

def placeE (a n : Int) : Int := if a.tmod n < 0 then a.tmod n + n else a.tmod n
theorem placeE_bound (a n : Int) (hn : 1 ≤ n) : 0 ≤ placeE a n ∧ placeE a n < n := by
  have h1 := Int.tmod_lt_of_pos a (show 0 < n by omega)
  have h2 : -n < a.tmod n := by
    have := Int.tmod_lt_of_pos (-a) (show 0 < n by omega)
    rw [Int.neg_tmod] at this
    omega
  unfold placeE
  split <;> omega

theorem placeE_any (a n : Int) (w : World) (hn : 1 ≤ n) (hb : n ≤ 1000000000000000) :
    Calls Tryd.prog 30 #[.int .i64 a, .int .i64 n] w fun e w' => e = .returned (.int .i64 (placeE a n)) ∧ w = w' := by
  have h1 := Int.tmod_lt_of_pos a (show 0 < n by omega)
  have h2 : -n < a.tmod n := by
    have := Int.tmod_lt_of_pos (-a) (show 0 < n by omega)
    rw [Int.neg_tmod] at this
    omega
  have hn0 : ¬ n = 0 := by omega
  have hn1 : (n == 0) = false := by simpa using hn0
  obtain ⟨t, ht⟩ : ∃ t, a.tmod n = t := ⟨_, rfl⟩
  have hw : IntKind.i64.wrap (a.tmod n) = t := by rw [← ht]; exact IntWalk.i64_in _ (by omega)
  rw [ht] at h1 h2
  by_cases h3 : t < 0
  · have hr : Box (placeE a n = t + n) := ⟨by unfold placeE; rw [ht, if_pos h3]⟩
    let kp_ : Exit → Act → World → Prop := bodyPost Tryd.prog Tryd.f30 (fun _ _ => True)
    refine calls_post Tryd.func30 rfl ?_
    intro Q_ hQ_
    simp only [Tryd.ntmps30, List.size_toArray, List.length_cons, List.length_nil, Nat.reduceAdd, Nat.reduceSub, Array.replicate_succ, Array.replicate_zero, List.push_toArray, List.append_toArray, List.nil_append, List.cons_append]
    go_wp2
    (try simp only [Exit.inBlock, Exit.then])
    refine hQ_.ret (results_tmp rfl _ _ _) rfl ?_
    exact ⟨by rw [hr.out]; rfl, rfl⟩
  · have hr : Box (placeE a n = t) := ⟨by unfold placeE; rw [ht, if_neg h3]⟩
    let kp_ : Exit → Act → World → Prop := bodyPost Tryd.prog Tryd.f30 (fun _ _ => True)
    refine calls_post Tryd.func30 rfl ?_
    intro Q_ hQ_
    simp only [Tryd.ntmps30, List.size_toArray, List.length_cons, List.length_nil, Nat.reduceAdd, Nat.reduceSub, Array.replicate_succ, Array.replicate_zero, List.push_toArray, List.append_toArray, List.nil_append, List.cons_append]
    go_wp2
    (try simp only [Exit.inBlock, Exit.then])
    refine hQ_.ret (results_tmp rfl _ _ _) rfl ?_
    exact ⟨by rw [hr.out]; rfl, rfl⟩

/-- the reference beside the program's count -/
structure RBeside (wr : World) (q : Nat) (W : List UInt8) (i0 k0 j : Nat) (m : Num.St) (t : Num.T) : Prop where
  r : RNumAt wr q t.text
  v : t.V
  te : Num.Tells m t
  ok : m.OkL t.text.length
  len : t.text.length ≤ j
  rest : i0 = j + (Num.pushAll m (W.drop j)).1 ∧ k0 = (Num.pushAll m (W.drop j)).2.1


theorem print_len (n : Int) (h : n.natAbs < 10000000000000000) : (Dig.print n).length ≤ 17 ∧ Dig.print n ≠ [] := by
  have h1 : (Dig.digs n.natAbs).length ≤ 16 := Dig.digs_length_le 15 _ h
  have h2 : Dig.digs n.natAbs ≠ [] := Dig.digs_ne _
  unfold Dig.print
  split
  · exact ⟨by rw [List.length_cons]; omega, by simp⟩
  · exact ⟨by omega, h2⟩

theorem numberedges_walk (a0 : Int) (a1 : Int) (a2 : Int) (a3 : Int) (w : World) (w0 : (Lit.int .i64 a0).wf = true) (w1 : (Lit.int .u8 a1).wf = true) (w2 : (Lit.int .u8 a2).wf = true) (w3 : (Lit.int .i64 a3).wf = true) :
    Calls Tryd.prog 11 #[.int .i64 a0, .int .u8 a1, .int .u8 a2, .int .i64 a3] w fun e w' => e = .returned (.bool true) ∧ Touch [] w w' := by
  have hwf1 := u8_bounds w1
  have hwf2 := u8_bounds w2
  clear w0 w1 w2 w3
  obtain ⟨x2, rfl⟩ : ∃ x : Nat, a2 = (x : Int) := ⟨a2.toNat, by omega⟩
  obtain ⟨x1, rfl⟩ : ∃ x : Nat, a1 = (x : Int) := ⟨a1.toNat, by omega⟩
  have hx2 : x2 ≤ 255 := by omega
  have hx1 : x1 ≤ 255 := by omega
  clear hwf1 hwf2
  have hp := placeE_bound a0 40 (by omega)
  have hb := placeE_bound a3 41 (by omega)
  have hpp := fun w => placeE_any a0 40 w (by omega) (by omega)
  have hpb := fun w => placeE_any a3 41 w (by omega) (by omega)
  generalize placeE a0 40 = d at hp hpp
  generalize placeE a3 41 = u at hb hpb
  have hpr := fun w => rprint_t (9007199254740971 + d) w (by omega) (by omega)
  have hprl := print_len (9007199254740971 + d) (by omega)
  have hpu := fun w => rprint_t (u - 20) w (by omega) (by omega)
  have hpul := print_len (u - 20) (by omega)
  generalize Dig.print (9007199254740971 + d) = S at hpr hprl
  generalize Dig.print (u - 20) = E at hpu hpul
  obtain ⟨hprl, hprn⟩ := hprl
  obtain ⟨hpul, hpun⟩ := hpul
  let kp_ : Exit → Act → World → Prop := bodyPost Tryd.prog Tryd.f11 (fun _ _ => True)
  refine calls_post Tryd.func11 rfl ?_
  intro Q_ hQ_
  simp only [Tryd.ntmps11, List.size_toArray, List.length_cons, List.length_nil, Nat.reduceAdd, Nat.reduceSub, Array.replicate_succ, Array.replicate_zero, List.push_toArray, List.append_toArray, List.nil_append, List.cons_append]
  go_wp2_with fail
  refine (hpp _).mono ?_
  rintro e wx ⟨rfl, rfl⟩
  try go_simp
  go_wp2_with fail
  refine (hpr _).mono ?_
  rintro e w1 ⟨rfl, hT1⟩
  try go_simp
  go_upto_region 3 with (fail)
  go_cut [11] (fun v wx => ∃ z : Nat, v = .int .i64 z ∧ z < 12 ∧ Touch [] w wx)
  case first =>
    go_wp2
    go_meet
    exact ⟨x1 % 12, by rw [Int.natCast_emod]; rfl, Nat.mod_lt _ (by omega), hT1⟩
  case rest =>
    obtain ⟨z, rfl, hz1, hT2⟩ := hcut
    clear hT1
    go_wp2
    go_loop [10, 12] (fun v i => ∃ (k : Nat) (l : List UInt8), k ≤ z ∧ i = .int .i64 k ∧ v = .string (str l) ∧ l.length ≤ 17 + k ∧ l ≠ []) (fun _ i => z - (intOf i).toNat)
    case atStart => exact ⟨0, S, by omega, rfl, rfl, hprl, hprn⟩
    case round =>
      clear hpr hpp hprl hprn
      obtain ⟨k, l, hk, rfl, rfl, hl, hln⟩ := hrel
      by_cases hlt : k < z
      · have hcat : ∀ w, (Op.stringOp .add (str l) ⟨#[48]⟩).run Tryd.prog w = .ok (.string (str (l ++ [48]))) w := fun w => run_cat l [48] (by simp; omega) w
        go_wp2
        go_round
        case measure => simp [intOf]; omega
        case rel => exact ⟨k + 1, l ++ [48], by omega, by go_num, rfl, by rw [List.length_append]; simp; omega, by simp⟩
      · have hl2 : l.length ≤ 29 := by omega
        have hl1 : 1 ≤ l.length := List.length_pos_iff.2 hln
        have szl := str_size l
        have hL0 : ((l.length : Int) == 0) = false := by simp; omega
        have hr1 : x2 % l.length < l.length := Nat.mod_lt _ hl1
        have hrb : (x2 : Int) % (l.length : Int) = ((x2 % l.length : Nat) : Int) := (Int.natCast_emod _ _).symm
        generalize x2 % l.length = r0 at hr1 hrb
        go_upto_region 8 with (fail)
        go_cut [13] (fun v wx => ∃ r : Nat, v = .int .i64 (r : Int) ∧ 1 ≤ r ∧ r ≤ l.length ∧ Touch [] w wx)
        case first =>
          go_wp2
          go_meet
          exact ⟨1 + r0, by rw [Int.natCast_add]; rfl, by omega, by omega, hT2⟩
        case rest =>
          obtain ⟨r, rfl, hr2, hr3, hT3⟩ := hcut
          clear hT2 hr1 hrb hL0
          go_upto_if 47 with (fail)
          go_cut [14] (fun v wx => ∃ W : List UInt8, v = .string (str W) ∧ W.length ≤ 30 ∧ Touch [] w wx)
          case first =>
            by_cases hrl : r < l.length
            · have s1 : ∀ w, (Instr.slice 9 (.string (str l)) none (some (.int .i64 r)) none).run Tryd.prog w = .ok (.string (str (l.take r))) w := fun w => run_to Tryd.underlying9 l .i64 r hr3 w
              have s2 : ∀ w, (Instr.slice 9 (.string (str l)) (some (.int .i64 r)) none none).run Tryd.prog w = .ok (.string (str (l.drop r))) w := fun w => run_from Tryd.underlying9 l .i64 r hr3 w
              have lA : (l.take r).length = r := by rw [List.length_take]; omega
              have lB : (l.drop r).length = l.length - r := List.length_drop
              generalize l.take r = A at *
              generalize l.drop r = B at *
              obtain ⟨S1, hS1⟩ : ∃ S : List UInt8, S = A ++ [46] := ⟨_, rfl⟩
              have hlS1 : (S1).length ≤ r + 1 := by rw [hS1, List.length_append]; (try simp); omega
              have c1 : ∀ w, (Op.stringOp .add (str (A)) (⟨#[46]⟩)).run Tryd.prog w = .ok (.string (str (S1))) w := fun w => by rw [hS1]; exact run_cat (A) ([46]) (by (try simp); omega) w
              replace hS1 : Box (S1 = A ++ [46]) := ⟨hS1⟩
              obtain ⟨S2, hS2⟩ : ∃ S : List UInt8, S = S1 ++ B := ⟨_, rfl⟩
              have hlS2 : (S2).length ≤ 30 := by rw [hS2, List.length_append]; (try simp); omega
              have c2 : ∀ w, (Op.stringOp .add (str (S1)) (str B)).run Tryd.prog w = .ok (.string (str (S2))) w := fun w => by rw [hS2]; exact run_cat (S1) (B) (by (try simp); omega) w
              replace hS2 : Box (S2 = S1 ++ B) := ⟨hS2⟩
              go_wp2
              go_quiet (fail)
              go_wp2
              go_meet
              exact ⟨S2, rfl, hlS2, hT3.drewN _⟩
            · go_wp2
              go_meet
              exact ⟨l, rfl, by omega, hT3⟩
          case rest =>
            obtain ⟨W0, rfl, hW0, hT4⟩ := hcut
            clear hT3 szl hl2 hl1 hl hln hr2 hr3
            obtain ⟨S1, hS1⟩ : ∃ S : List UInt8, S = W0 ++ [101] := ⟨_, rfl⟩
            have hlS1 : (S1).length ≤ 31 := by rw [hS1, List.length_append]; (try simp); omega
            have c1 : ∀ w, (Op.stringOp .add (str (W0)) (⟨#[101]⟩)).run Tryd.prog w = .ok (.string (str (S1))) w := fun w => by rw [hS1]; exact run_cat (W0) ([101]) (by (try simp); omega) w
            replace hS1 : Box (S1 = W0 ++ [101]) := ⟨hS1⟩
            obtain ⟨W, hW⟩ : ∃ S : List UInt8, S = S1 ++ E := ⟨_, rfl⟩
            have hlW : (W).length ≤ 48 := by rw [hW, List.length_append]; (try simp); omega
            have c2 : ∀ w, (Op.stringOp .add (str (S1)) (str E)).run Tryd.prog w = .ok (.string (str (W))) w := fun w => by rw [hW]; exact run_cat (S1) (E) (by (try simp); omega) w
            replace hW : Box (W = S1 ++ E) := ⟨hW⟩
            clear hS1 hW
            obtain ⟨i0, k0, m0, hpa⟩ : ∃ i0 k0 m0, Num.pushAll Num.St.start W = (i0, k0, m0) := ⟨_, _, _, rfl⟩
            replace hpa := Box.mk hpa
            have szW := str_size W
            go_wp2_with fail
            refine (hpb _).mono ?_
            rintro e wy ⟨rfl, rfl⟩
            try go_simp
            go_wp2_with fail
            refine (hpu _).mono ?_
            rintro e w4 ⟨rfl, hT5⟩
            try go_simp
            go_wp2_with fail
            refine (numnew_any _).mono ?_
            rintro e w5 ⟨⟨p, rfl, hp5, hA⟩, ht5⟩
            try go_simp
            go_wp2_with fail
            have hA2 := hA.keep ((Touch.refl [] _).alloc (.cells #[.string ⟨#[]⟩] 47)) (by simp) (by simp)
            refine (pushes_any p [] _ none _ W _ hA2 Num.start_ok (by simp; omega) i0 k0 m0 hpa.out).mono ?_
            rintro e w6 ⟨rfl, _, ht6⟩
            try go_simp
            have hqp : w5.heap.size ∉ [p] := by have := hA.lt; simp; omega
            have hR : RNumAt w6 w5.heap.size [] := RNumAt.keep (alloc_new _ _) ht6 hqp
            have hq : w.heap.size ≤ w5.heap.size := by have := hT4.size; have := hT5.size; have := ht5.size; omega
            have hpw : w.heap.size ≤ p := by have := hT4.size; have := hT5.size; omega
            have hT6 : Touch [] w w6 := Touch.step ((((hT4.trans hT5).trans ht5)).alloc _) ht6 (fun x hx => .inr (by simp at hx; omega))
            obtain ⟨q, hq0⟩ : ∃ q, w5.heap.size = q := ⟨_, rfl⟩
            rw [hq0] at hR hq
            try simp only [hq0]
            clear hq0 hqp ht6 hA2 hA ht5 hT5 hT4 hpb hpu c1 c2 hp5 hpw
            go_wp2_with fail
            go_loopw [20, 21] (fun v g wr => ∃ (j c : Nat), v = .int .i64 j ∧ g = .int .i64 c ∧ j ≤ W.length ∧ Touch [] w wr ∧ ((c = 0 ∧ ∃ m t, RBeside wr q W i0 k0 j m t) ∨ (c ≠ 0 ∧ i0 = j ∧ k0 = c))) (fun v g _ => 2 * (W.length - (intOf v).toNat) + (if intOf g = 0 then 1 else 0))
            case atStart => exact ⟨0, 0, rfl, rfl, by omega, hT6, .inl ⟨rfl, Num.St.start, Num.T.start, hR, Num.start_V, Num.start_tells, Num.start_ok, Nat.le_refl _, by rw [List.drop_zero, hpa.out]; simp⟩⟩
            case round =>
              clear hT6 hR hpa
              obtain ⟨j, c, rfl, rfl, hj, hT, hc⟩ := hrel
              rcases hc with ⟨rfl, m, t, hb⟩ | ⟨hc0, rfl, rfl⟩
              · by_cases hlt : j < W.length
                · obtain ⟨x, hx⟩ : ∃ x, W[j]? = some x := ⟨W[j], by simp [hlt]⟩
                  have i1 : ∀ w, (Instr.index 9 (.string (str W)) (.int .i64 (j : Int))).run Tryd.prog w = .ok (.int .u8 x.toNat) w := fun w => run_ix Tryd.underlying9 W .i64 j x hx w
                  have hdrop : W.drop j = x :: W.drop (j + 1) := by
                    rw [List.drop_eq_getElem_cons hlt]
                    congr 1
                    rw [List.getElem?_eq_getElem hlt] at hx
                    injection hx
                  obtain ⟨hR, hv, hte, hok, hlen, hrest⟩ := hb
                  rw [hdrop] at hrest
                  have hlen2 : t.text.length ≤ 100000 := by omega
                  rcases Num.sim m t hv hte x (by omega) with ⟨k, h1, h2⟩ | ⟨m', t', h1, h2, hv', he', hte'⟩
                  · have hk : k = 2 ∨ k = 7 ∨ k = 8 := by
                      rcases Num.push_ways m x.toNat t.text.length x.toNat_lt hok with ⟨m', e, _⟩ | ⟨k', e, hk⟩
                      · rw [h1] at e; exact absurd e (by simp)
                      · rw [h1] at e; injection e with e; subst e; exact hk
                    have hrest2 : Box (i0 = j ∧ k0 = k) := ⟨by
                      simp only [Num.pushAll, h1] at hrest
                      exact ⟨by omega, hrest.2⟩⟩
                    have hk0 : ((k : Int) == 0) = false := by simp; omega
                    have hcall := fun W hN => rpush_err_at q t.text x k W hN hlen2 h2
                    clear hrest hdrop hx h1 h2 hv hte hok
                    go_wp2_with fail
                    refine (hcall _ hR).mono ?_
                    rintro e w7 ⟨rfl, hR7, ht7⟩
                    try go_simp
                    go_wp2
                    go_roundw
                    case measure => simp [intOf]; omega
                    case rel => exact ⟨j, k, rfl, rfl, hj, hT.step ht7 (fun x hx => .inr (by simp at hx; omega)), .inr ⟨by omega, hrest2.out.1, hrest2.out.2⟩⟩
                  · have hok' : m'.OkL t'.text.length := by
                      rcases Num.push_ways m x.toNat t.text.length x.toNat_lt hok with ⟨m2, e, h⟩ | ⟨k', e, hk⟩
                      · rw [h1] at e
                        injection e with e
                        subst e
                        rw [he', List.length_append]
                        exact h
                      · rw [h1] at e; exact absurd e (by simp)
                    have hrest2 : Box (i0 = (j + 1) + (Num.pushAll m' (W.drop (j + 1))).1 ∧ k0 = (Num.pushAll m' (W.drop (j + 1))).2.1) := ⟨by
                      simp only [Num.pushAll, h1] at hrest
                      exact ⟨by omega, hrest.2⟩⟩
                    have hlen' : t'.text.length ≤ j + 1 := by rw [he', List.length_append]; simpa using hlen
                    have hcall := fun W hN => rpush_ok_at q t.text (t.text ++ [x]) x W hN hlen2 h2
                    rw [← he'] at hcall
                    clear hrest hdrop hx h1 h2 hv hte hok he'
                    go_wp2_with fail
                    refine (hcall _ hR).mono ?_
                    rintro e w7 ⟨rfl, hR7, ht7⟩
                    try go_simp
                    go_wp2
                    go_roundw
                    case measure => simp [intOf]; omega
                    case rel => exact ⟨j + 1, 0, by go_num, rfl, by omega, hT.step ht7 (fun x hx => .inr (by simp at hx; omega)), .inl ⟨rfl, m', t', hR7, hv', hte', hok', hlen', hrest2.out⟩⟩
                · obtain rfl : j = W.length := by omega
                  obtain ⟨h1, h2⟩ := hb.rest
                  rw [List.drop_length] at h1 h2
                  simp only [Num.pushAll, Nat.add_zero] at h1 h2
                  subst h1 h2
                  clear hb
                  go_wp2_with fail
                  refine (awake11 _).mono ?_
                  rintro e w8 ⟨rfl, ht8⟩
                  try go_simp
                  go_wp2
                  (try simp only [Exit.inBlock, Exit.then])
                  refine hQ_.ret (results_tmp rfl _ _ _) rfl ?_
                  exact ⟨rfl, hT.trans ht8⟩
              · have hk0 : ((k0 : Int) == 0) = false := by simp; omega
                by_cases hlt : i0 < W.length
                all_goals
                  go_wp2_with fail
                  refine (awake11 _).mono ?_
                  rintro e w8 ⟨rfl, ht8⟩
                  try go_simp
                  go_wp2
                  (try simp only [Exit.inBlock, Exit.then])
                  refine hQ_.ret (results_tmp rfl _ _ _) rfl ?_
                  exact ⟨rfl, hT.trans ht8⟩
end Go.Proofs.YtcpfooceadgccaaDoor
