/- The law NumberPlays. -/
import Derived.Test.YtcpfooceadgccaaDoorNumW
import Derived.Test.YtcpfooceadgccaaDoorNumD
import Derived.Test.YtcpfooceadgccaaDoorIn
namespace Go.Proofs.YtcpfooceadgccaaDoor
open Go.RowKit
set_option maxRecDepth 100000
set_option maxHeartbeats 8000000
set_option linter.unusedVariables false
set_option linter.unusedSimpArgs false

theorem rpush_err_at (b : Nat) (s : List UInt8) (x : UInt8) (k : Nat) (w : World) (hN : RNumAt w b s) (hl : s.length ≤ 100000) (h : Num.rpush s x = .error k) :
    Calls Tryd.prog 34 #[.pointer (some ⟨b, 0, none⟩), .int .u8 x.toNat] w fun e w' => e = .returned (.int .i64 k) ∧ RNumAt w' b s ∧ Touch [b] w w' :=
  (rpush_any b s x w hN hl).mono fun e w' hp => by unfold RPushPost at hp; rw [h] at hp; exact hp
theorem rpush_ok_at (b : Nat) (s s' : List UInt8) (x : UInt8) (w : World) (hN : RNumAt w b s) (hl : s.length ≤ 100000) (h : Num.rpush s x = .ok s') :
    Calls Tryd.prog 34 #[.pointer (some ⟨b, 0, none⟩), .int .u8 x.toNat] w fun e w' => e = .returned (.int .i64 0) ∧ RNumAt w' b s' ∧ Touch [b] w w' :=
  (rpush_any b s x w hN hl).mono fun e w' hp => by unfold RPushPost at hp; rw [h] at hp; exact hp
theorem push_ok_at (b : Nat) (l : List UInt8) (n n' : Num.St) (g : Option Nat) (tv : Value) (x : UInt8) (w : World) (hF : NumF w b l n g tv) (ok : n.OkL l.length) (hl : l.length ≤ 100000) (h : Num.push n x.toNat = .ok n') :
    Calls Tryd.prog 33 #[.pointer (some ⟨b, 0, none⟩), .int .u8 x.toNat] w fun e w' => e = .returned (.int .i64 0) ∧ (∃ g' tv, NumF w' b (l ++ [x]) n' g' tv ∧ NewOr w g g') ∧ Touch (b :: g.toList) w w' :=
  (push_any b l n g tv x w hF ok hl).mono fun e w' hp => by unfold PushPost at hp; rw [h] at hp; exact hp

theorem RNumAt.keep {w w' : World} {F : List Nat} {q : Nat} {s : List UInt8} (h : RNumAt w q s) (t : Touch F w w') (hq : q ∉ F) : RNumAt w' q s := t.keep h hq
/-- both numbers, side by side -/
structure NPRel (w wr : World) (p q : Nat) (g : Option Nat) (tv : Value) (n : Num.St) (t : Num.T) (L : Nat) : Prop where
  f : NumF wr p t.text n g tv
  r : RNumAt wr q t.text
  v : t.V
  te : Num.Tells n t
  ok : n.OkL t.text.length
  gq : ∀ k, g = some k → k ≠ q ∧ w.heap.size ≤ k
  pq : p ≠ q
  hp : w.heap.size ≤ p
  hq : w.heap.size ≤ q
  tch : Touch [] w wr
  len : t.text.length ≤ L

theorem NPRel.keep {w wr w' : World} {p q : Nat} {g : Option Nat} {tv : Value} {n : Num.St} {t : Num.T} {L : Nat} (h : NPRel w wr p q g tv n t L) (k : Touch [] wr w') : NPRel w w' p q g tv n t L :=
  ⟨h.f.keep k (by simp) (by simp), k.keep h.r (by simp), h.v, h.te, h.ok, h.gq, h.pq, h.hp, h.hq, h.tch.trans k, h.len⟩

theorem mem_own {p x : Nat} {g : Option Nat} (h : x ∈ p :: g.toList) : x = p ∨ g = some x := by
  rw [List.mem_cons] at h
  rcases h with h | h
  · exact .inl h
  · cases g with
    | none => simp at h
    | some k => simp at h; exact .inr (by rw [h])

theorem gq_of {w wX : World} {g g9 : Option Nat} {q : Nat} (h : NewOr wX g g9) (hgq : ∀ k, g = some k → k ≠ q ∧ w.heap.size ≤ k) (hql : q < wX.heap.size) (hs : w.heap.size ≤ wX.heap.size) : ∀ k, g9 = some k → k ≠ q ∧ w.heap.size ≤ k := by
  intro k hk
  rcases h with h | ⟨j, h1, h2⟩
  · exact hgq k (h ▸ hk)
  · rw [h1] at hk
    injection hk with hk
    omega


theorem byte_of {z : Int} (h0 : 0 ≤ z) (h1 : z ≤ 255) : ∃ x : UInt8, z = (x.toNat : Int) :=
  ⟨UInt8.ofNat z.toNat, by rw [UInt8.toNat_ofNat']; omega⟩

theorem numberplays_walk (a0 : Option Addr) (n0 c0 : Nat) (z0 : List Int) (w : World) (w0 : IntsIn .u8 w a0 n0 c0 z0) :
    Calls Tryd.prog 8 #[.slice a0 n0 c0] w fun e w' => e = .returned (.bool true) ∧ Touch [] w w' := by
  have hcm : n0 ≤ 9223372036854775807 := by have := w0.le; have := w0.max; omega
  let kp_ : Exit → Act → World → Prop := bodyPost Tryd.prog Tryd.f8 (fun _ _ => True)
  refine calls_post Tryd.func8 rfl ?_
  intro Q_ hQ_
  simp only [Tryd.ntmps8, List.size_toArray, List.length_cons, List.length_nil, Nat.reduceAdd, Nat.reduceSub, Array.replicate_succ, Array.replicate_zero, List.push_toArray, List.append_toArray, List.nil_append, List.cons_append]
  go_wp2_with fail
  refine (numnew_any _).mono ?_
  rintro e w1 ⟨⟨p, rfl, hp, hA⟩, ht1⟩
  try go_simp
  have hst : NPRel w (w1.alloc (.cells #[.string ⟨#[]⟩] 47)) p w1.heap.size none (.slice none 0 0) Num.St.start Num.T.start 0 :=
    ⟨hA.keep ((Touch.refl [] _).alloc _) (by simp) (by simp), alloc_new _ _, Num.start_V, Num.start_tells, Num.start_ok, by simp, by have := hA.lt; omega, hp, ht1.size, ht1.alloc _, Nat.le_refl _⟩
  by_cases hn : 200 < n0
  · go_wp2_with fail
    refine (awake11 _).mono ?_
    rintro e w2 ⟨rfl, ht⟩
    try go_simp
    go_wp2
    (try simp only [Exit.inBlock, Exit.then])
    refine hQ_.ret (results_tmp rfl _ _ _) rfl ?_
    exact ⟨rfl, hst.tch.trans ht⟩
  go_wp2_with fail
  obtain ⟨q, hq⟩ : ∃ q, w1.heap.size = q := ⟨_, rfl⟩
  simp only [hq] at hst ⊢
  clear hq ht1 hA hp
  go_loopw [5] (fun v wr => ∃ (i : Nat) (t : Num.T) (n : Num.St) (g : Option Nat) (tv : Value), i ≤ n0 ∧ v = .int .i64 i ∧ NPRel w wr p q g tv n t i) (fun v _ => n0 - (intOf v).toNat)
  case atStart => exact ⟨0, _, _, _, _, by omega, rfl, hst⟩
  case round =>
    clear hst
    obtain ⟨i, t, n, g, tv, hi, rfl, hr⟩ := hrel
    by_cases hlt : i < n0
    · obtain ⟨b, off, rfl, hcell⟩ := w0.cells (by omega)
      have hwf := u8_bounds (w0.wf (z0.getD i 0) (by have := w0.len; rw [List.getD_eq_getElem?_getD, List.getElem?_eq_getElem (by omega)]; exact List.getElem_mem _))
      obtain ⟨x, hx⟩ : ∃ x : UInt8, z0.getD i 0 = (x.toNat : Int) := byte_of hwf.1 hwf.2
      have hz : ∀ w', Touch [] w w' → w'.cell? ⟨b, off + i, none⟩ = some (.int .u8 x.toNat) := fun w' h => by rw [← hx]; exact h.cell (hcell i hlt) (by simp)
      clear hcell hx hwf
      have hsim := Num.sim n t hr.v hr.te x (by have := hr.len; omega)
      go_upto_region 7 with (fail)
      go_cut [6, 7] (fun v6 v7 wx => ∃ (k : Nat) (t2 : Num.T) (n2 : Num.St) (g2 : Option Nat) (tv2 : Value), v6 = .int .i64 k ∧ v7 = .int .i64 k ∧ NPRel w wx p q g2 tv2 n2 t2 (i + 1))
      case first =>
        rcases hsim with ⟨k, hk1, hk2⟩ | ⟨n', t', hk1, hk2, hv', he', hte'⟩
        · obtain ⟨hF, hR, hv, hte, hok, hgq, hpq, hp, hq, hto, hlen⟩ := hr
          have hl : t.text.length ≤ 100000 := by omega
          have hFd := hF.keep (Touch.drew (Touch.refl [] wr)) (by simp) (by simp)
          have hRd : RNumAt wr.drew q t.text := hR
          have hpl := hF.lt
          have hw1 : ∀ x, x ∈ [p] → w.heap.size ≤ x := fun x h => by rw [List.mem_singleton.1 h]; exact hp
          have hw2 : ∀ x, x ∈ [q] → w.heap.size ≤ x := fun x h => by rw [List.mem_singleton.1 h]; exact hq
          have htod : Touch [] w wr.drew := Touch.drew hto
          have hql : q < wr.heap.size := block_lt hR
          have hqp : q ∉ p :: g.toList := fun h => by
            rcases mem_own h with h | h
            · exact hpq h.symm
            · exact (hgq q h).1 rfl
          have hpq' : p ∉ [q] := fun h => hpq (List.mem_singleton.1 h)
          have hqp' : q ∉ [p] := fun h => hpq (List.mem_singleton.1 h).symm
          have hgq' : ∀ k, g = some k → k ∉ [q] := fun k hk h => (hgq k hk).1 (List.mem_singleton.1 h)
          have hown : ∀ x, x ∈ p :: g.toList → w.heap.size ≤ x := fun x h => by
            rcases mem_own h with h | h
            · omega
            · exact (hgq x h).2
          have hP := fun W hF => push_err_at p t.text n g tv x k W hF hok hl hk1
          have hQ := fun W hN => rpush_err_at q t.text x k W hN hl hk2
          clear hk1 hk2
          go_region_held3 (fun w' => Touch [] w w')
            (first | exact Touch.drew hto | assumption)
            (first
              | (go_at_call 33; (first | (with_reducible refine (hP _ hFd).mono ?_) | (with_reducible refine (hP _ (hFd.keep ht2 hpq' hgq')).mono ?_)); rintro e w9 ⟨rfl, ⟨tv9, hF9⟩, ht1⟩; have hT9 : Touch [] w w9 := Touch.step (by assumption) ht1 (fun x hx => .inr (hw1 x hx)))
              | (go_at_call 34; (first | (with_reducible refine (hQ _ hRd).mono ?_) | (with_reducible refine (hQ _ (hRd.keep ht1 hqp')).mono ?_)); rintro e w8 ⟨rfl, hR8, ht2⟩; have hT8 : Touch [] w w8 := Touch.step (by assumption) ht2 (fun x hx => .inr (hw2 x hx))))
          all_goals
            go_wp2
            go_meet
            have hle := Nat.le_succ_of_le hlen
            first
              | exact ⟨k, t, n, g, tv9, rfl, rfl, hF9.keep ht2 hpq' hgq', hR8, hv, hte, hok, hgq, hpq, hp, hq, hT8, hle⟩
              | exact ⟨k, t, n, g, tv9, rfl, rfl, hF9, hR8.keep ht1 hqp', hv, hte, hok, hgq, hpq, hp, hq, hT9, hle⟩
        · obtain ⟨hF, hR, hv, hte, hok, hgq, hpq, hp, hq, hto, hlen⟩ := hr
          have hl : t.text.length ≤ 100000 := by omega
          have hFd := hF.keep (Touch.drew (Touch.refl [] wr)) (by simp) (by simp)
          have hRd : RNumAt wr.drew q t.text := hR
          have hpl := hF.lt
          have hw1 : ∀ x, x ∈ [p] → w.heap.size ≤ x := fun x h => by rw [List.mem_singleton.1 h]; exact hp
          have hw2 : ∀ x, x ∈ [q] → w.heap.size ≤ x := fun x h => by rw [List.mem_singleton.1 h]; exact hq
          have htod : Touch [] w wr.drew := Touch.drew hto
          have hql : q < wr.heap.size := block_lt hR
          have hqp : q ∉ p :: g.toList := fun h => by
            rcases mem_own h with h | h
            · exact hpq h.symm
            · exact (hgq q h).1 rfl
          have hpq' : p ∉ [q] := fun h => hpq (List.mem_singleton.1 h)
          have hqp' : q ∉ [p] := fun h => hpq (List.mem_singleton.1 h).symm
          have hgq' : ∀ k, g = some k → k ∉ [q] := fun k hk h => (hgq k hk).1 (List.mem_singleton.1 h)
          have hown : ∀ x, x ∈ p :: g.toList → w.heap.size ≤ x := fun x h => by
            rcases mem_own h with h | h
            · omega
            · exact (hgq x h).2
          have hP := fun W hF => push_ok_at p t.text n n' g tv x W hF hok hl hk1
          have hQ := fun W hN => rpush_ok_at q t.text (t.text ++ [x]) x W hN hl hk2
          have hok' : n'.OkL t'.text.length := by
            rcases Num.push_ways n x.toNat t.text.length x.toNat_lt hok with ⟨m, h1, h2⟩ | ⟨m, h1, h2⟩
            · rw [hk1] at h1
              injection h1 with h1
              subst h1
              rw [he', List.length_append]
              exact h2
            · rw [hk1] at h1
              exact absurd h1 (by simp)
          rw [← he'] at hP hQ
          have hlen' : t'.text.length ≤ i + 1 := by rw [he', List.length_append]; simpa using hlen
          clear hk1 hk2
          go_region_held3 (fun w' => Touch [] w w')
            (first | exact Touch.drew hto | assumption)
            (first
              | (go_at_call 33; (first | (with_reducible refine (hP _ hFd).mono ?_) | (with_reducible refine (hP _ (hFd.keep ht2 hpq' hgq')).mono ?_)); rintro e w9 ⟨rfl, ⟨g9, tv9, hF9, hN9⟩, ht1⟩; have hT9 : Touch [] w w9 := Touch.step (by assumption) ht1 (fun x hx => .inr (hown x hx)))
              | (go_at_call 34; (first | (with_reducible refine (hQ _ hRd).mono ?_) | (with_reducible refine (hQ _ (hRd.keep ht1 hqp)).mono ?_)); rintro e w8 ⟨rfl, hR8, ht2⟩; have hT8 : Touch [] w w8 := Touch.step (by assumption) ht2 (fun x hx => .inr (hw2 x hx))))
          all_goals
            go_wp2
            go_meet
            first
              | (have hg9 := gq_of hN9 hgq hql htod.size
                 exact ⟨0, t', n', g9, tv9, rfl, rfl, hF9.keep ht2 hpq' (fun k hk h => (hg9 k hk).1 (List.mem_singleton.1 h)), hR8, hv', hte', hok', hg9, hpq, hp, hq, hT8, hlen'⟩)
              | (have hg9 := gq_of hN9 hgq (block_lt hR8) hT8.size
                 exact ⟨0, t', n', g9, tv9, rfl, rfl, hF9, hR8.keep ht1 hqp, hv', hte', hok', hg9, hpq, hp, hq, hT9, hlen'⟩)
      case rest =>
        obtain ⟨k, t2, n2, g2, tv2, rfl, rfl, hr2⟩ := hcut
        clear hr hsim hz
        have hF := hr2.f.keep (Touch.drew (Touch.refl [] _)) (by simp) (by simp)
        have c0 := cell_at hr2.r 0
        simp at c0
        have hkk : ((k : Int) != (k : Int)) = false := by simp
        go_upto_region 8 with (fail)
        have hc : ∀ w', Touch [] wc w' → w'.cell? ⟨q, 0, none⟩ = some (.string (str t2.text)) := fun w' h => h.cell c0 (by simp)
        go_region_held3 (fun w' => Touch [] wc w')
          (first | exact Touch.drew (Touch.refl [] wc) | assumption)
          (first
            | (go_at_call 35; (with_reducible refine (numtext_any p t2.text n2 g2 tv2 _ hF).mono ?_); rintro e w9 ⟨rfl, rfl⟩))
        have hpe := Num.pend_eq n2 t2 hr2.v hr2.te
        have hat := hr2.ok.at_
        have hlen2 : t2.text.length ≤ 100000 := by have := hr2.len; omega
        have he1 := fun W hF => numend_any p t2.text n2 g2 tv2 W hF hlen2 hat
        have he2 := fun W hN => rend_any q t2.text W hN hlen2
        rw [hpe] at he1
        obtain ⟨x1, hx1⟩ : ∃ x1, (Num.rend t2.text).1 = x1 := ⟨_, rfl⟩
        obtain ⟨x2, hx2⟩ : ∃ x2, (Num.rend t2.text).2 = x2 := ⟨_, rfl⟩
        simp only [hx1, hx2] at he1 he2
        clear hx1 hx2 hpe
        have e1 : ((x1 : Int) != (x1 : Int)) = false := by simp
        have e2 : ((x2 : Int) != (x2 : Int)) = false := by simp
        go_wp2_with fail
        refine (he1 _ hF).mono ?_
        rintro e w3 ⟨rfl, ht3⟩
        try go_simp
        go_wp2_with fail
        refine (he2 _ (hr2.keep ((Touch.drew (Touch.refl [] wc)).trans ht3)).r).mono ?_
        rintro e w4 ⟨rfl, ht4⟩
        try go_simp
        go_wp2
        have hr3 := (hr2.keep ((Touch.drew (Touch.refl [] wc)).trans ht3)).keep ht4
        exact ⟨⟨i + 1, t2, n2, g2, tv2, hlt, by rw [Int.natCast_add]; rfl, hr3⟩, by simp [intOf]; omega⟩
    · go_wp2_with fail
      refine (awake11 _).mono ?_
      rintro e w2 ⟨rfl, ht⟩
      try go_simp
      go_wp2
      (try simp only [Exit.inBlock, Exit.then])
      refine hQ_.ret (results_tmp rfl _ _ _) rfl ?_
      exact ⟨rfl, hr.tch.trans ht⟩
end Go.Proofs.YtcpfooceadgccaaDoor
