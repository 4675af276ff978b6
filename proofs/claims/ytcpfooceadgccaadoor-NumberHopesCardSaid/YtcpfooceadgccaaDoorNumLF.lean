/- The law NumberHopes. -/
import Derived.Test.YtcpfooceadgccaaDoorNumLP
import Derived.Test.YtcpfooceadgccaaDoorNumLR
import Derived.Test.YtcpfooceadgccaaDoorNumLC
import Derived.Test.YtcpfooceadgccaaDoorNumJ
namespace Go.Proofs.YtcpfooceadgccaaDoor
open Go.RowKit
set_option maxRecDepth 100000
set_option maxHeartbeats 8000000
set_option linter.unusedVariables false
set_option linter.unusedSimpArgs false

namespace Num
open Go.Proofs.YtcpfooceadgccaaDoor.Dig (Bs norm)
/-- may it become one, where it has digits -/
def My (t : T) : Prop := t.d ≠ [] → mayP t.parts = true
theorem my_start : My T.start := fun h => absurd rfl h
theorem my_ok (t t' : T) (x : UInt8) (v' : t'.V) (he : t'.text = t.text ++ [x]) (h : rpush t.text x = .ok t'.text) : My t' := by
  intro _
  rw [rpush_eq, ← he, cut_text t' v'] at h
  dsimp only at h
  split at h
  · assumption
  · cases h
theorem text_cases (t : T) (v : t.V) : t.text = [] ∨ t.text = [45] ∨ (t.text ≠ [] ∧ t.text ≠ [45] ∧ ∃ P, cutO t.text = some P) := by
  by_cases h1 : t.text = []
  · exact .inl h1
  · by_cases h2 : t.text = [45]
    · exact .inr (.inl h2)
    · exact .inr (.inr ⟨h1, h2, _, cut_text t v⟩)
theorem print_short (e : Int) (he : e.natAbs ≤ 100000) : (Dig.print e).length ≤ 10 := by
  unfold Dig.print
  have h1 : (Dig.digs e.natAbs).length ≤ 6 := Dig.digs_length_le 5 _ (by omega)
  split
  · rw [List.length_cons]; omega
  · omega
theorem loopN_len (s : Bs) (P : Parts) (low : Int) (hlow : -900000 ≤ low ∧ low ≤ 900000) : ∀ f k t, f + k ≤ 17 → loopN s P low f k = some t → t.length ≤ 7
  | 0, k, t, hk, h => by unfold loopN at h; cases h
  | f + 1, k, t, hk, h => by
    unfold loopN at h
    split at h
    · rename_i t' ht
      injection h with h
      subst h
      unfold tryAt at ht
      split at ht
      · cases ht
      · rename_i u hu
        split at ht
        · injection ht with ht
          subst ht
          exact (fit_dig P _ _ (by omega) hu).2
        · cases ht
    · exact loopN_len s P low hlow f _ t (by omega) h
theorem more_len (t : T) (v : t.V) (hl : t.text.length ≤ 1000) : (more t.text).length ≤ 40 := by
  unfold more
  split
  · simp
  · rw [cut_text t v]
    have hg := cutO_good (n := 1000) hl (cut_text t v)
    obtain ⟨g1, g2, g3, g4, g5⟩ := hg
    have hne := norm_e_small ⟨false, t.parts.d, -(t.parts.behind : Int)⟩
    simp only at hne
    have hb : -2000 ≤ (norm ⟨false, t.parts.d, -(t.parts.behind : Int)⟩).e ∧ (norm ⟨false, t.parts.d, -(t.parts.behind : Int)⟩).e ≤ 2000 := by omega
    have hp := print_short (-(norm ⟨false, t.parts.d, -(t.parts.behind : Int)⟩).e) (by omega)
    have hd : (dot t.text).length ≤ 1 := by unfold dot; split <;> simp
    dsimp only
    unfold moreP
    dsimp only
    split
    · split
      · omega
      · rw [List.length_append, List.length_cons]; omega
    · split
      · omega
      · split
        · rename_i u hu
          have := loopN_len _ _ _ (by omega) 17 0 u (by omega) hu
          omega
        · split <;> simp
/-- what makes it a number is taken whole -/
theorem more_push (n : St) (t : T) (v : t.V) (h : Tells n t) (hm : My t) (hl : t.text.length ≤ 1000) : ∃ m t2, pushAll n (more t.text) = ((more t.text).length, 0, m) ∧ t2.V ∧ Tells m t2 ∧ t2.text = t.text ++ more t.text ∧ (rend t2.text).2 = 0 := by
  have hg := more_good t v (by omega) hm
  have hml := more_len t v hl
  rcases pushAll_go (more t.text) n t v h (by omega) with ⟨m, t2, g1, g2, g3, g4⟩ | ⟨i, k, m, t2, c, r, g1, g2, g3, g4, g5, g6, g7⟩
  · exact ⟨m, t2, g1, g2, g3, g4, by rw [g4]; exact (rend_good _).2 hg⟩
  · exfalso
    refine hopeless m t2 g2 g3 c r ?_ k g7 ?_
    · rw [g4, List.append_assoc, ← g5, List.length_append]; omega
    · rw [g4, List.append_assoc, ← g5]; exact hg
end Num

theorem NPRel.keepF {w wr w' : World} {F : List Nat} {p q : Nat} {g : Option Nat} {tv : Value} {n : Num.St} {t : Num.T} {L : Nat} (h : NPRel w wr p q g tv n t L) (k : Touch F wr w') (hp : p ∉ F) (hq : q ∉ F) (hg : ∀ k, g = some k → k ∉ F) (hn : ∀ x, x ∈ F → w.heap.size ≤ x) : NPRel w w' p q g tv n t L :=
  ⟨h.f.keep k hp hg, k.keep h.r hq, h.v, h.te, h.ok, h.gq, h.pq, h.hp, h.hq, h.tch.step k (fun x hx => .inr (hn x hx)), h.len⟩

theorem numberhopes_walk (a0 : Option Addr) (n0 c0 : Nat) (z0 : List Int) (w : World) (w0 : IntsIn .u8 w a0 n0 c0 z0) :
    Calls Tryd.prog 12 #[.slice a0 n0 c0] w fun e w' => e = .returned (.bool true) ∧ Touch [] w w' := by
  have hcm : n0 ≤ 9223372036854775807 := by have := w0.le; have := w0.max; omega
  let kp_ : Exit → Act → World → Prop := bodyPost Tryd.prog Tryd.f12 (fun _ _ => True)
  refine calls_post Tryd.func12 rfl ?_
  intro Q_ hQ_
  simp only [Tryd.ntmps12, List.size_toArray, List.length_cons, List.length_nil, Nat.reduceAdd, Nat.reduceSub, Array.replicate_succ, Array.replicate_zero, List.push_toArray, List.append_toArray, List.nil_append, List.cons_append]
  go_wp2_with fail
  refine (numnew_any _).mono ?_
  rintro e w1 ⟨⟨p, rfl, hp, hA⟩, ht1⟩
  try go_simp
  have hst : NPRel w (w1.alloc (.cells #[.string ⟨#[]⟩] 47)) p w1.heap.size none (.slice none 0 0) Num.St.start Num.T.start 0 :=
    ⟨hA.keep ((Touch.refl [] _).alloc _) (by simp) (by simp), alloc_new _ _, Num.start_V, Num.start_tells, Num.start_ok, by simp, by have := hA.lt; omega, hp, ht1.size, ht1.alloc _, Nat.le_refl _⟩
  by_cases hn : 60 < n0
  · go_wp2_with fail
    refine (awake11 _).mono ?_
    rintro e w2 ⟨rfl, ht⟩
    try go_simp
    go_wp2
    (try simp only [Exit.inBlock, Exit.then])
    refine hQ_.ret (results_tmp rfl _ _ _) rfl ?_
    exact ⟨rfl, hst.tch.trans ht⟩
  go_wp2_with fail
  obtain ⟨q, hq⟩ : ∃ q, w1.heap.size = q := ⟨_, rfl⟩
  simp only [hq] at hst ⊢
  clear hq ht1 hA hp
  go_loopw [5] (fun v wr => ∃ (i : Nat) (t : Num.T) (n : Num.St) (g : Option Nat) (tv : Value), i ≤ n0 ∧ v = .int .i64 i ∧ NPRel w wr p q g tv n t i ∧ Num.My t) (fun v _ => n0 - (intOf v).toNat)
  case atStart => exact ⟨0, _, _, _, _, by omega, rfl, hst, Num.my_start⟩
  case round =>
    clear hst
    obtain ⟨i, t, n, g, tv, hi, rfl, hr, hmy⟩ := hrel
    by_cases hlt : i < n0
    · obtain ⟨b, off, rfl, hcell⟩ := w0.cells (by omega)
      have hwf := u8_bounds (w0.wf (z0.getD i 0) (by have := w0.len; rw [List.getD_eq_getElem?_getD, List.getElem?_eq_getElem (by omega)]; exact List.getElem_mem _))
      obtain ⟨x, hx⟩ : ∃ x : UInt8, z0.getD i 0 = (x.toNat : Int) := byte_of hwf.1 hwf.2
      have hz : ∀ w', Touch [] w w' → w'.cell? ⟨b, off + i, none⟩ = some (.int .u8 x.toNat) := fun w' h => by rw [← hx]; exact h.cell (hcell i hlt) (by simp)
      clear hcell hx hwf
      have hz0 := hz _ hr.tch
      have hsim := Num.sim n t hr.v hr.te x (by have := hr.len; omega)
      have hlen := hr.len
      have hl : t.text.length ≤ 100000 := by omega
      rcases hsim with ⟨k, hk1, hk2⟩ | ⟨n', t', hk1, hk2, hv', he', hte'⟩
      · have hk3 := Num.push_err_k _ _ _ hk1
        have hkn : ((k : Int) != 0) = true := by rcases hk3 with rfl | rfl | rfl <;> rfl
        have hP := push_err_at p t.text n g tv x k wr hr.f hr.ok hl hk1
        clear hk1 hk2 hk3 hz
        go_wp2_with fail
        refine hP.mono ?_
        rintro e v1 ⟨rfl, ⟨tv9, hF9⟩, ht1⟩
        try go_simp
        go_wp2
        go_roundw
        case measure => simp [intOf]; omega
        case rel =>
          obtain ⟨hF, hR, hv, hte, hok, hgq, hpq, hp, hq, hto, _⟩ := hr
          exact ⟨i + 1, t, n, g, tv9, hlt, by go_num, ⟨hF9, ht1.keep hR (by simp; omega), hv, hte, hok, hgq, hpq, hp, hq, hto.step ht1 (fun x hx => .inr (by simp at hx; omega)), by omega⟩, hmy⟩
      · have hm' := Num.my_ok t t' x hv' he' (by rw [he']; exact hk2)
        obtain ⟨hF, hR, hv, hte, hok, hgq, hpq, hp, hq, hto, _⟩ := hr
        have hok' : n'.OkL t'.text.length := by
          rcases Num.push_ways n x.toNat t.text.length x.toNat_lt hok with ⟨m, h1, h2⟩ | ⟨m, h1, h2⟩
          · rw [hk1] at h1
            injection h1 with h1
            subst h1
            rw [he', List.length_append]
            exact h2
          · rw [hk1] at h1
            exact absurd h1 (by simp)
        have hql : q < wr.heap.size := block_lt hR
        have hpl := hF.lt
        have hqp : q ∉ p :: g.toList := fun h => by
          rcases mem_own h with h | h
          · exact hpq h.symm
          · exact (hgq q h).1 rfl
        have hown : ∀ x, x ∈ p :: g.toList → w.heap.size ≤ x := fun x h => by
          rcases mem_own h with h | h
          · omega
          · exact (hgq x h).2
        have hP := push_ok_at p t.text n n' g tv x wr hF hok hl hk1
        have hQ := fun W hN => rpush_ok_at q t.text (t.text ++ [x]) x W hN hl hk2
        rw [← he'] at hP hQ
        have hl' : t'.text.length ≤ i + 1 := by rw [he', List.length_append, List.length_singleton]; omega
        clear hk1 hk2 hmy
        go_wp2_with fail
        refine hP.mono ?_
        rintro e v1 ⟨rfl, ⟨g9, tv9, hF9, hN9⟩, ht1⟩
        try go_simp
        have hT1 : Touch [] w v1 := hto.step ht1 (fun x hx => .inr (hown x hx))
        have hR1 : RNumAt v1 q t.text := ht1.keep hR hqp
        have hg9 := gq_of hN9 hgq hql hto.size
        have hz1 := hz v1 hT1
        clear hP hN9 hgq hF hR hown hqp ht1 hz0 hte hok
        go_wp2_with fail
        refine (hQ _ hR1).mono ?_
        rintro e v2 ⟨rfl, hR2, ht2⟩
        try go_simp
        have hr2 : NPRel w v2 p q g9 tv9 n' t' (i + 1) :=
          ⟨hF9.keep ht2 (fun h => hpq (List.mem_singleton.1 h)) (fun k hk h => (hg9 k hk).1 (List.mem_singleton.1 h)), hR2, hv', hte', hok', hg9, hpq, hp, hq, hT1.step ht2 (fun x hx => .inr (by simp at hx; omega)), hl'⟩
        clear hQ hz1 hz hT1 hR1 hF9 hR2 ht2 hto
        -- the copy
        go_wp2_with fail
        refine (numcopy_any p t'.text n' g9 tv9 v2 hr2.f (by omega)).mono ?_
        rintro e v3 ⟨⟨m, gb, tvb, rfl, hmw, hFb, hgb⟩, ht3⟩
        try go_simp
        have hv2s := hr2.tch.size
        have hgl : ∀ k, g9 = some k → k < v2.heap.size := fun k hk => hr2.f.s.lt hk
        have hpl2 := hr2.f.lt
        have hql2 := block_lt hr2.r
        have hr3 := hr2.keep ht3
        have hfar : ∀ y, y ∈ m :: gb.toList → v2.heap.size ≤ y := fun y h => by
          rcases mem_own h with h | h
          · omega
          · exact (hgb y h).1
        have hpF : p ∉ m :: gb.toList := fun h => by have := hfar p h; omega
        have hqF : q ∉ m :: gb.toList := fun h => by have := hfar q h; omega
        have hgF : ∀ k, g9 = some k → k ∉ m :: gb.toList := fun k hk h => by have := hfar k h; have := hgl k hk; omega
        have hnF : ∀ y, y ∈ m :: gb.toList → w.heap.size ≤ y := fun y h => by have := hfar y h; omega
        clear hgl hfar hpl2 hql2 hmw hgb ht3 hr2 hv2s
        have c0 := cell_at hr3.r 0
        simp at c0
        have hlq := block_lt hr3.r
        go_upto_region 10 with (fail)
        refine wp_region_still_lit (by kernel_rfl) (by kernel_rfl) ?_
        repeat still_step
        still_call (numtext_any p t'.text n' g9 tv9 _ (hr3.keep (Touch.drew (Touch.refl [] _))).f)
        repeat still_step
        refine wpStill_nil ?_
        have hr4 := hr3.keep (Touch.drew (Touch.refl [] _))
        have hFb4 := hFb.keep (Touch.drew (Touch.refl [] _)) (by simp) (by simp)
        clear c0 hlq hr3 hFb
        go_wp2_with fail
        have hmr := fun W hN => rmore_any q t'.text W hN (by omega) (Num.text_cases t' hv')
        obtain ⟨mm, t2, b1, b2, b3, b4, b5⟩ := Num.more_push n' t' hv' hte' hm' (by omega)
        have hul := Num.more_len t' hv' (by omega)
        generalize Num.more t'.text = u at *
        have szu := str_size u
        refine (hmr _ hr4.r).mono ?_
        rintro e v4 ⟨rfl, ht4⟩
        try go_simp
        have hr5 := hr4.keep ht4
        have hFb5 := hFb4.keep ht4 (by simp) (by simp)
        clear hr4 hFb4 ht4
        go_wp2_with fail
        refine (pushes_any m t'.text n' gb tvb u _ hFb5 hok' (by omega) _ _ mm b1).mono ?_
        rintro e v5 ⟨rfl, ⟨gc, tvc, hFc, hnc, hokc⟩, ht5⟩
        try go_simp
        have hr6 := hr5.keepF ht5 hpF hqF hgF hnF
        rw [List.take_length, ← b4] at hFc
        have hEn := numend_any m t2.text mm gc tvc _ hFc (by rw [b4, List.length_append]; omega) hokc.at_
        rw [Num.pend_eq mm t2 b2 b3] at hEn
        generalize Num.rend t2.text = R at *
        obtain ⟨x1, x2⟩ := R
        simp only at b5 hEn
        subst b5
        clear hr5 hFb5 ht5 hpF hqF hgF hnF b1 b2 b3 b4 hnc hokc
        go_wp2_with fail
        refine hEn.mono ?_
        rintro e v6 ⟨rfl, ht6⟩
        try go_simp
        have hr7 := hr6.keep ht6
        clear hEn hr6 ht6 hFc
        have c0 := cell_at hr7.r 0
        simp at c0
        go_upto_region 14 with (fail)
        have hc : ∀ w', Touch [] v6 w' → w'.cell? ⟨q, 0, none⟩ = some (.string (str t'.text)) := fun w' h => h.cell c0 (by simp)
        have hlq : ∀ w', Touch [] v6 w' → q < w'.heap.size := fun w' h => h.lt (block_lt hr7.r)
        go_region_held3 (fun w' => Touch [] v6 w')
          (first | exact Touch.drew (Touch.refl [] v6) | assumption)
          (first
            | (go_at_call 35; (first | (with_reducible refine (numtext_any p t'.text n' g9 tv9 _ (hr7.keep (by assumption)).f).mono ?_)); rintro e w9 ⟨rfl, rfl⟩)
            | (go_at_call 40; (with_reducible refine (hmr _ (hr7.keep (Touch.drew (Touch.refl [] v6))).r).mono ?_); rintro e w8 ⟨rfl, ht8⟩; have hT8 : Touch [] v6 w8 := Touch.trans (Touch.drew (Touch.refl [] v6)) ht8))
        all_goals
          go_wp2
          go_roundw
          case measure => simp [intOf]; omega
          case rel => exact ⟨i + 1, t', n', g9, tv9, hlt, by go_num, hr7.keep (by assumption), hm'⟩
    · go_wp2_with fail
      refine (awake11 _).mono ?_
      rintro e v1 ⟨rfl, ht⟩
      try go_simp
      go_wp2
      (try simp only [Exit.inBlock, Exit.then])
      refine hQ_.ret (results_tmp rfl _ _ _) rfl ?_
      exact ⟨rfl, hr.tch.trans ht⟩
end Go.Proofs.YtcpfooceadgccaaDoor
