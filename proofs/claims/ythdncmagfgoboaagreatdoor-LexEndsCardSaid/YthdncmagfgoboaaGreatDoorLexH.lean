/- The law LexEnds. -/
import Derived.Test.YthdncmagfgoboaaGreatDoorLexG
import Derived.Deep.DeepCutAuto
namespace Go.Proofs.YthdncmagfgoboaaGreatDoor
open Go.RowKit
set_option maxRecDepth 100000
set_option maxHeartbeats 8000000
set_option linter.unusedVariables false
set_option linter.unusedSimpArgs false

theorem byte_is {z : Int} (h0 : 0 ≤ z) (h1 : z ≤ 255) : ∃ x : UInt8, z = (x.toNat : Int) :=
  ⟨UInt8.ofNat z.toNat, by rw [UInt8.toNat_ofNat']; omega⟩
theorem push_open {w0 W : World} {b : Nat} (h : OutSt w0 W b 0 0) : Calls Tryz.prog 17 #[.pointer (some ⟨b, 0, none⟩), .int .u8 91] W fun e w' => (∃ v0, e = .returned (.tuple #[v0, .int .i64 0])) ∧ OutSt w0 w' b 1 0 := by
  have hlb := block_lt h.x
  have hO := outside_tok b 0 0 .nilIface 91 6 [] none 0 none W h.x (SlAt.nil _ _ _) (by simp) (by simp) (by decide) (by decide) (by decide) (by decide)
  refine (lexPush_ok b 0 0 91 W (fun v0 v w' => v = .nilIface ∧ Touch [b] W w') (by omega) (lexpush_nil b 0 0 91 W _ h.x (hO.mono ?_))).mono ?_
  · rintro e w' ⟨⟨ad, c, g', rfl, q1, q2⟩, q3, q4⟩
    exact ⟨_, _, rfl, _, _, rfl, q3, rfl, q4⟩
  · rintro e w' ⟨v0, v, w1, rfl, ⟨rfl, q4⟩, h6, rfl⟩
    exact ⟨⟨v0, rfl⟩, h6, h.wb, h.t.step (q4.setCell (by simp) _) (fun y hy => .inr (by rw [List.mem_singleton.1 hy]; exact h.wb))⟩

theorem dig_kind (x : UInt8) (h : Dig.dig x = true) : firstF x.toNat = 4 ∧ ownB x = true := by
  obtain ⟨h1, h2⟩ := Dig.dig_le x h
  refine ⟨?_, (own_iff x).2 (.inl ⟨h1, h2⟩)⟩
  unfold firstF
  rw [if_neg (by omega), if_neg (by omega), if_neg (by omega), if_neg (by omega), if_pos (by omega)]

theorem FigSt.keep {w0 W W' : World} {b a f : Nat} {l : List UInt8} {n : Num.St} {p : Nat} {g : Option Nat} {tv : Value} (h : FigSt w0 W b a f l n p g tv) (t : Touch [] W W') : FigSt w0 W' b a f l n p g tv :=
  ⟨t.keep h.x (by simp), h.nf.keep t (by simp) (by simp), h.bp, h.gb, h.wp, h.wg, h.wb, h.t.trans t, h.ok⟩

theorem lexends_walk (a0 : Int) (a1 : Int) (w : World) (w0 : (Lit.int .i64 a0).wf = true) (w1 : (Lit.int .u8 a1).wf = true) :
    Calls Tryz.prog 6 #[.int .i64 a0, .int .u8 a1] w fun e w' => e = .returned (.bool true) ∧ Touch [] w w' := by
  have hwf := u8_bounds w1
  obtain ⟨c, rfl⟩ := byte_is hwf.1 hwf.2
  clear w0 w1 hwf
  have hpb := placeE_bound a0 1099511627776 (by omega)
  have hpl := fun w => placeE_any a0 1099511627776 w (by omega) (by omega)
  obtain ⟨k, hk⟩ : ∃ k : Nat, placeE a0 1099511627776 = k := ⟨(placeE a0 1099511627776).toNat, by omega⟩
  rw [hk] at hpl
  have hkb : k ≤ 9007199254740991 := by omega
  clear hpb hk
  have hdg := fun w => digits_any k w hkb
  have hlen : (Dig.digs k).length ≤ 16 := Dig.digs_length_le 15 _ (by omega)
  have hne : Dig.digs k ≠ [] := Dig.digs_ne k
  have hall := Dig.digs_all k
  have hstep := fun j n h c hc => Num.dig_step k j n hkb h c hc
  have hend := fun n h => Num.dig_end k n hkb h
  have hstart := Num.dig_start k
  obtain ⟨D, hD⟩ : ∃ D, Dig.digs k = D := ⟨_, rfl⟩
  rw [hD] at hdg hlen hne hall hstep hend
  have hcat : ∀ w, (Op.stringOp .add ⟨#[91]⟩ (str D)).run Tryz.prog w = .ok (.string (str (91 :: D))) w := fun w => run_cat [91] D (by simp; omega) w
  have hcv := fun w => conv_to (91 :: D) w
  clear hD
  let kp_ : Exit → Act → World → Prop := bodyPost Tryz.prog Tryz.f6 (fun _ _ => True)
  refine calls_post Tryz.func6 rfl ?_
  intro Q_ hQ_
  simp only [Tryz.ntmps6, List.size_toArray, List.length_cons, List.length_nil, Nat.reduceAdd, Nat.reduceSub, Array.replicate_succ, Array.replicate_zero, List.push_toArray, List.append_toArray, List.nil_append, List.cons_append]
  go_wp2_with fail
  refine (hpl _).mono ?_
  rintro e v1 ⟨rfl, rfl⟩
  try go_simp
  go_wp2_with fail
  refine (hdg _).mono ?_
  rintro e v2 ⟨rfl, ht2⟩
  try go_simp
  go_wp2_with fail
  refine (lexnew_any _).mono ?_
  rintro e v3 ⟨⟨b, rfl, hb, hx⟩, ht3⟩
  try go_simp
  have hTV : Touch [] w (Lib.bytesWorld v2 5 (str (91 :: D))) := ht2.trans (touch_bytes v2 (str (91 :: D)))
  have hcell : ∀ w', Touch [] (Lib.bytesWorld v2 5 (str (91 :: D))) w' → ∀ i u, (91 :: D)[i]? = some u → w'.cell? ⟨v2.heap.size, i, none⟩ = some (.int .u8 u.toNat) := fun w' h i u hu => by
    have := Lib.bytesWorld_cell v2 5 (str (91 :: D)) i (by rw [str_size]; exact (List.getElem?_eq_some_iff.1 hu).1)
    rw [str_data, List.getD_eq_getElem?_getD, hu] at this
    exact h.cell this (by simp)
  have h0 : OutSt (Lib.bytesWorld v2 5 (str (91 :: D))) v3 b 0 0 := ⟨hx, hb, ht3⟩
  generalize Lib.bytesWorld v2 5 (str (91 :: D)) = V at *
  generalize v2.heap.size = B at *
  clear hx hb ht3 ht2 hcv hcat hdg hpl
  go_wp2_with fail
  go_loopw [8] (fun v wr => ∃ i : Nat, v = .int .i64 i ∧ i ≤ D.length + 1 ∧ ((i = 0 ∧ OutSt V wr b 0 0) ∨ (i = 1 ∧ OutSt V wr b 1 0) ∨ (∃ j n p g tv, i = j + 1 ∧ 1 ≤ j ∧ FigSt V wr b (j + 1) 1 (D.take j) n p g tv ∧ Num.DigSt k j n))) (fun v _ => D.length + 1 - (intOf v).toNat)
  case atStart => exact ⟨0, rfl, by omega, .inl ⟨rfl, h0⟩⟩
  case round =>
    clear h0
    obtain ⟨i, rfl, hi, h⟩ := hrel
    rcases h with ⟨rfl, h⟩ | ⟨rfl, h⟩ | ⟨j, n, p, g, tv, rfl, hj, h, hds⟩
    · have hz := hcell _ h.t 0 91 rfl
      go_wp2_with fail
      refine (push_open h).mono ?_
      rintro e w2 ⟨⟨v0, rfl⟩, h2⟩
      try go_simp
      go_wp2
      go_roundw
      case measure => simp [intOf]
      case rel => exact ⟨1, rfl, by omega, .inr (.inl ⟨rfl, h2⟩)⟩
    · have hl0 : 0 < D.length := List.length_pos_iff.2 hne
      obtain ⟨x, hx⟩ : ∃ x, D[0]? = some x := ⟨D[0], by simp [hl0]⟩
      have hxd : Dig.dig x = true := List.all_eq_true.1 hall x (List.mem_of_getElem? hx)
      have hz := hcell _ h.t 1 x (by simpa using hx)
      obtain ⟨n', hp, hds⟩ := hstep 0 _ hstart x hx
      have hP := fig_first h x n' (by omega) (dig_kind x hxd).1 hp hds.ok
      have htk : D.take 1 = [x] := by rw [List.take_add_one, hx]; rfl
      have hlt : (1 : Int) < (D.length : Int) + 1 := by omega
      replace htk := Box.mk htk
      clear hp hx hxd
      go_wp2_with fail
      refine hP.mono ?_
      rintro e w2 ⟨rfl, p, g, tv, h2⟩
      try go_simp
      go_wp2
      go_roundw
      case measure => simp [intOf]; omega
      case rel => exact ⟨2, rfl, by omega, .inr (.inr ⟨1, n', p, g, tv, rfl, by omega, by rw [htk.out]; exact h2, hds⟩)⟩
    · by_cases hlt : j < D.length
      · obtain ⟨x, hx⟩ : ∃ x, D[j]? = some x := ⟨D[j], by simp [hlt]⟩
        have hxd : Dig.dig x = true := List.all_eq_true.1 hall x (List.mem_of_getElem? hx)
        have hz := hcell _ h.t (j + 1) x (by simpa using hx)
        obtain ⟨n', hp, hds'⟩ := hstep j _ hds x hx
        have hlj : (D.take j).length = j := by rw [List.length_take]; omega
        have hP := fig_own h x n' (by omega) (by omega) (dig_kind x hxd).2 hp (by rw [hlj]; exact hds'.ok)
        have htk : D.take (j + 1) = D.take j ++ [x] := by rw [List.take_add_one, hx]; rfl
        rw [← htk] at hP
        clear hp hx hxd htk hlj
        go_wp2_with fail
        refine hP.mono ?_
        rintro e w2 ⟨rfl, g', tv', h2⟩
        try go_simp
        go_wp2
        go_roundw
        case measure => simp [intOf]; omega
        case rel => exact ⟨j + 2, by go_num, by omega, .inr (.inr ⟨j + 1, n', p, g', tv', rfl, by omega, h2, hds'⟩)⟩
      · have hjd : j = D.length := by omega
        subst hjd
        rw [List.take_length] at h
        have hE := hend n hds
        clear hcell hstep hend hstart hds hall
        go_wp2_with fail
        refine (inside_fig b _ _ p _ h.x).mono ?_
        rintro e w2 ⟨rfl, ht2⟩
        try go_simp
        have h2 := h.keep ht2
        clear h ht2
        have hlD : D.length ≤ 10000 := by omega
        have ha : D.length + 1 ≤ 1000000000 := by omega
        cases ho : ownB c with
        | true =>
          have hP := fig_own_any h2 c ha hlD ho
          have hx := (own_iff c).1 ho
          clear hE ho
          go_wp2_with fail
          refine hP.mono ?_
          rintro e w3 ⟨kk, rfl, ht3⟩
          try go_simp
          clear hP h2
          go_upto_region 15 with (fail)
          go_cut [13] (fun v wx => v = .bool true ∧ Touch [] V wx)
          case first =>
            rcases hx with hx | hx | hx | hx | hx | hx
            · have q48 : (48 : Int) ≤ (c.toNat : Int) := by omega
              have q57 : (c.toNat : Int) ≤ 57 := by omega
              clear hx
              go_wp2
              go_meet
              exact ⟨rfl, ht3⟩
            · have q48 : ¬ (48 : Int) ≤ (c.toNat : Int) := by omega
              have t46 : ((c.toNat : Int) == 46) = true := by rw [show (c.toNat : Int) = 46 by omega]; rfl
              clear hx
              go_wp2
              go_meet
              exact ⟨rfl, ht3⟩
            · have q48 : (48 : Int) ≤ (c.toNat : Int) := by omega
              have q57 : ¬ (c.toNat : Int) ≤ 57 := by omega
              have t46 : ((c.toNat : Int) == 46) = false := by rw [beq_eq_false_iff_ne]; omega
              have t101 : ((c.toNat : Int) == 101) = true := by rw [show (c.toNat : Int) = 101 by omega]; rfl
              clear hx
              go_wp2
              go_meet
              exact ⟨rfl, ht3⟩
            · have q48 : (48 : Int) ≤ (c.toNat : Int) := by omega
              have q57 : ¬ (c.toNat : Int) ≤ 57 := by omega
              have t46 : ((c.toNat : Int) == 46) = false := by rw [beq_eq_false_iff_ne]; omega
              have t101 : ((c.toNat : Int) == 101) = false := by rw [beq_eq_false_iff_ne]; omega
              have t69 : ((c.toNat : Int) == 69) = true := by rw [show (c.toNat : Int) = 69 by omega]; rfl
              clear hx
              go_wp2
              go_meet
              exact ⟨rfl, ht3⟩
            · have q48 : ¬ (48 : Int) ≤ (c.toNat : Int) := by omega
              have t46 : ((c.toNat : Int) == 46) = false := by rw [beq_eq_false_iff_ne]; omega
              have t101 : ((c.toNat : Int) == 101) = false := by rw [beq_eq_false_iff_ne]; omega
              have t69 : ((c.toNat : Int) == 69) = false := by rw [beq_eq_false_iff_ne]; omega
              have t45 : ((c.toNat : Int) == 45) = true := by rw [show (c.toNat : Int) = 45 by omega]; rfl
              clear hx
              go_wp2
              go_meet
              exact ⟨rfl, ht3⟩
            · have q48 : ¬ (48 : Int) ≤ (c.toNat : Int) := by omega
              have t46 : ((c.toNat : Int) == 46) = false := by rw [beq_eq_false_iff_ne]; omega
              have t101 : ((c.toNat : Int) == 101) = false := by rw [beq_eq_false_iff_ne]; omega
              have t69 : ((c.toNat : Int) == 69) = false := by rw [beq_eq_false_iff_ne]; omega
              have t45 : ((c.toNat : Int) == 45) = false := by rw [beq_eq_false_iff_ne]; omega
              have t43 : ((c.toNat : Int) == 43) = true := by rw [show (c.toNat : Int) = 43 by omega]; rfl
              clear hx
              go_wp2
              go_meet
              exact ⟨rfl, ht3⟩
          case rest =>
            obtain ⟨rfl, hT⟩ := hcut
            clear hx ht3
            go_wp2_with fail
            refine (awake16 _).mono ?_
            rintro e w4 ⟨rfl, ht4⟩
            try go_simp
            go_wp2
            (try simp only [Exit.inBlock, Exit.then])
            refine hQ_.ret (results_tmp rfl _ _ _) rfl ?_
            exact ⟨rfl, (hTV.trans hT).trans ht4⟩
        | false =>
          have hx : ¬ ((48 ≤ c.toNat ∧ c.toNat ≤ 57) ∨ c.toNat = 46 ∨ c.toNat = 101 ∨ c.toNat = 69 ∨ c.toNat = 45 ∨ c.toNat = 43) := fun q => by rw [(own_iff c).2 q] at ho; cases ho
          have hbl := fun w => rblank_any (c.toNat : Int) w
          have hfi := fun w => rfirst_any (c.toNat : Int) w
          rcases kinds_not c ho with ⟨k1, k2⟩ | ⟨kk, k1, k2, k3⟩ | k1
          · have hP := fig_end_bad h2 c _ hlD ho hE k1 k2
            rw [k2] at hbl
            rw [k1] at hfi
            clear hE ho k1 k2
            go_wp2_with fail
            refine hP.mono ?_
            rintro e w3 ⟨rfl, hx3, ht3⟩
            try go_simp
            clear hP h2
            go_upto_region 15 with (fail)
            go_cut [13] (fun v wx => v = .bool false ∧ LexAt wx b (D.length + 1) 1 (figV p) ∧ Touch [] V wx)
            case first =>
              by_cases hx48 : c.toNat < 48
              · have q48 : ¬ (48 : Int) ≤ (c.toNat : Int) := by omega
                have t46 : ((c.toNat : Int) == 46) = false := by rw [beq_eq_false_iff_ne]; omega
                have t101 : ((c.toNat : Int) == 101) = false := by rw [beq_eq_false_iff_ne]; omega
                have t69 : ((c.toNat : Int) == 69) = false := by rw [beq_eq_false_iff_ne]; omega
                have t45 : ((c.toNat : Int) == 45) = false := by rw [beq_eq_false_iff_ne]; omega
                have t43 : ((c.toNat : Int) == 43) = false := by rw [beq_eq_false_iff_ne]; omega
                clear hx hx48
                go_wp2
                go_meet
                exact ⟨rfl, hx3, ht3⟩
              · have q48 : (48 : Int) ≤ (c.toNat : Int) := by omega
                have q57 : ¬ (c.toNat : Int) ≤ 57 := by omega
                have t46 : ((c.toNat : Int) == 46) = false := by rw [beq_eq_false_iff_ne]; omega
                have t101 : ((c.toNat : Int) == 101) = false := by rw [beq_eq_false_iff_ne]; omega
                have t69 : ((c.toNat : Int) == 69) = false := by rw [beq_eq_false_iff_ne]; omega
                have t45 : ((c.toNat : Int) == 45) = false := by rw [beq_eq_false_iff_ne]; omega
                have t43 : ((c.toNat : Int) == 43) = false := by rw [beq_eq_false_iff_ne]; omega
                clear hx hx48
                go_wp2
                go_meet
                exact ⟨rfl, hx3, ht3⟩
            case rest =>
              obtain ⟨rfl, hx4, hT⟩ := hcut
              clear hx hx3 ht3
              go_wp2_with fail
              refine (hbl _).mono ?_
              rintro e w4 ⟨rfl, rfl⟩
              try go_simp
              go_wp2_with fail
              refine (hfi _).mono ?_
              rintro e w5 ⟨rfl, rfl⟩
              try go_simp
              go_wp2_with fail
              refine (lexat_any b _ _ _ _ hx4).mono ?_
              rintro e w6 ⟨rfl, rfl⟩
              try go_simp
              go_wp2_with fail
              refine (awake16 _).mono ?_
              rintro e w7 ⟨rfl, ht7⟩
              try go_simp
              go_wp2
              (try simp only [Exit.inBlock, Exit.then])
              refine hQ_.ret (results_tmp rfl _ _ _) rfl ?_
              exact ⟨rfl, (hTV.trans hT).trans ht7⟩
          · have hP := fig_end_tok h2 c _ kk ha hlD ho hE k1 k2 k3
            rw [k1] at hfi
            have hk0 : ((kk : Int) == 0) = false := by simp; omega
            clear hE ho k1 k2 k3
            go_wp2_with fail
            refine hP.mono ?_
            rintro e w3 ⟨⟨ad, cc, g', rfl, hk3, _⟩, hx3⟩
            try go_simp
            have ht3 := hx3.t
            clear hP h2 hx3
            go_upto_region 15 with (fail)
            go_cut [13] (fun v wx => v = .bool false ∧ ToksAt wx (.slice ad 2 cc) [(4, 1, D.length + 1, (k : Int), []), (kk, D.length + 1, D.length + 1 + 1, 0, [])] g' ∧ Touch [] V wx)
            case first =>
              by_cases hx48 : c.toNat < 48
              · have q48 : ¬ (48 : Int) ≤ (c.toNat : Int) := by omega
                have t46 : ((c.toNat : Int) == 46) = false := by rw [beq_eq_false_iff_ne]; omega
                have t101 : ((c.toNat : Int) == 101) = false := by rw [beq_eq_false_iff_ne]; omega
                have t69 : ((c.toNat : Int) == 69) = false := by rw [beq_eq_false_iff_ne]; omega
                have t45 : ((c.toNat : Int) == 45) = false := by rw [beq_eq_false_iff_ne]; omega
                have t43 : ((c.toNat : Int) == 43) = false := by rw [beq_eq_false_iff_ne]; omega
                clear hx hx48
                go_wp2
                go_meet
                exact ⟨rfl, hk3, ht3⟩
              · have q48 : (48 : Int) ≤ (c.toNat : Int) := by omega
                have q57 : ¬ (c.toNat : Int) ≤ 57 := by omega
                have t46 : ((c.toNat : Int) == 46) = false := by rw [beq_eq_false_iff_ne]; omega
                have t101 : ((c.toNat : Int) == 101) = false := by rw [beq_eq_false_iff_ne]; omega
                have t69 : ((c.toNat : Int) == 69) = false := by rw [beq_eq_false_iff_ne]; omega
                have t45 : ((c.toNat : Int) == 45) = false := by rw [beq_eq_false_iff_ne]; omega
                have t43 : ((c.toNat : Int) == 43) = false := by rw [beq_eq_false_iff_ne]; omega
                clear hx hx48
                go_wp2
                go_meet
                exact ⟨rfl, hk3, ht3⟩
            case rest =>
              obtain ⟨rfl, hk4, hT⟩ := hcut
              clear hx hk3 ht3
              generalize blankF (c.toNat : Int) = bv at hbl
              cases bv with
              | true =>
                go_wp2_with fail
                refine (hbl _).mono ?_
                rintro e w4 ⟨rfl, rfl⟩
                try go_simp
                go_upto_region 20 with (fail)
                obtain ⟨kb, rfl, rfl, hn, hkl, hcell⟩ := toks_cell hk4 (by simp)
                clear hn
                have d0 : wc.cell? ⟨kb, 0, none⟩ = some (.int .i64 4) := hcell _ (Touch.refl _ _) 0 _ rfl
                have d1 : wc.cell? ⟨kb, 1, none⟩ = some (.int .i64 1) := hcell _ (Touch.refl _ _) 1 _ rfl
                have d2 : wc.cell? ⟨kb, 2, none⟩ = some (.int .i64 ((D.length : Int) + 1)) := hcell _ (Touch.refl _ _) 2 _ rfl
                have d3 : wc.cell? ⟨kb, 3, none⟩ = some (.int .i64 (k : Int)) := hcell _ (Touch.refl _ _) 3 _ rfl
                have d4 : wc.cell? ⟨kb, 4, none⟩ = some (.string ⟨#[]⟩) := hcell _ (Touch.refl _ _) 4 _ rfl
                have te := tok_eq 4 1 ((D.length : Int) + 1) (k : Int)
                clear hcell hk4
                go_wp2_with fail
                refine (awake16 _).mono ?_
                rintro e w7 ⟨rfl, ht7⟩
                try go_simp
                go_wp2
                (try simp only [Exit.inBlock, Exit.then])
                refine hQ_.ret (results_tmp rfl _ _ _) rfl ?_
                exact ⟨rfl, (hTV.trans hT).trans ht7⟩
              | false =>
                go_wp2_with fail
                refine (hbl _).mono ?_
                rintro e w4 ⟨rfl, rfl⟩
                try go_simp
                go_wp2_with fail
                refine (hfi _).mono ?_
                rintro e w5 ⟨rfl, rfl⟩
                try go_simp
                go_upto_region 20 with (fail)
                obtain ⟨kb, rfl, rfl, hn, hkl, hcell⟩ := toks_cell hk4 (by simp)
                clear hn
                have d0 : wc.cell? ⟨kb, 0, none⟩ = some (.int .i64 4) := hcell _ (Touch.refl _ _) 0 _ rfl
                have d1 : wc.cell? ⟨kb, 1, none⟩ = some (.int .i64 1) := hcell _ (Touch.refl _ _) 1 _ rfl
                have d2 : wc.cell? ⟨kb, 2, none⟩ = some (.int .i64 ((D.length : Int) + 1)) := hcell _ (Touch.refl _ _) 2 _ rfl
                have d3 : wc.cell? ⟨kb, 3, none⟩ = some (.int .i64 (k : Int)) := hcell _ (Touch.refl _ _) 3 _ rfl
                have d4 : wc.cell? ⟨kb, 4, none⟩ = some (.string ⟨#[]⟩) := hcell _ (Touch.refl _ _) 4 _ rfl
                have te := tok_eq 4 1 ((D.length : Int) + 1) (k : Int)
                clear hcell hk4
                go_wp2_with fail
                refine (awake16 _).mono ?_
                rintro e w7 ⟨rfl, ht7⟩
                try go_simp
                go_wp2
                (try simp only [Exit.inBlock, Exit.then])
                refine hQ_.ret (results_tmp rfl _ _ _) rfl ?_
                exact ⟨rfl, (hTV.trans hT).trans ht7⟩
          · have hP := fig_end_one h2 c _ ha hlD ho hE k1
            have hf0 : (firstF (c.toNat : Int) == 0) = true → blankF (c.toNat : Int) = true := fun q => by
              rw [beq_iff_eq] at q
              rcases k1 with ⟨_, q2⟩ | ⟨kk, q1, q2⟩ | q1
              · exact q2
              · omega
              · omega
            clear hE ho k1
            go_wp2_with fail
            refine hP.mono ?_
            rintro e w3 ⟨⟨ad, cc, g', rfl, hk3⟩, ht3⟩
            try go_simp
            clear hP h2
            generalize blankF (c.toNat : Int) = bv at hbl hf0
            generalize firstF (c.toNat : Int) = fv at hfi hf0
            replace hf0 := Box.mk hf0
            go_upto_region 15 with (fail)
            go_cut [13] (fun v wx => v = .bool false ∧ ToksAt wx (.slice ad 1 cc) [(4, 1, D.length + 1, (k : Int), [])] g' ∧ Touch [] V wx)
            case first =>
              by_cases hx48 : c.toNat < 48
              · have q48 : ¬ (48 : Int) ≤ (c.toNat : Int) := by omega
                have t46 : ((c.toNat : Int) == 46) = false := by rw [beq_eq_false_iff_ne]; omega
                have t101 : ((c.toNat : Int) == 101) = false := by rw [beq_eq_false_iff_ne]; omega
                have t69 : ((c.toNat : Int) == 69) = false := by rw [beq_eq_false_iff_ne]; omega
                have t45 : ((c.toNat : Int) == 45) = false := by rw [beq_eq_false_iff_ne]; omega
                have t43 : ((c.toNat : Int) == 43) = false := by rw [beq_eq_false_iff_ne]; omega
                clear hx hx48
                go_wp2
                go_meet
                exact ⟨rfl, hk3, ht3⟩
              · have q48 : (48 : Int) ≤ (c.toNat : Int) := by omega
                have q57 : ¬ (c.toNat : Int) ≤ 57 := by omega
                have t46 : ((c.toNat : Int) == 46) = false := by rw [beq_eq_false_iff_ne]; omega
                have t101 : ((c.toNat : Int) == 101) = false := by rw [beq_eq_false_iff_ne]; omega
                have t69 : ((c.toNat : Int) == 69) = false := by rw [beq_eq_false_iff_ne]; omega
                have t45 : ((c.toNat : Int) == 45) = false := by rw [beq_eq_false_iff_ne]; omega
                have t43 : ((c.toNat : Int) == 43) = false := by rw [beq_eq_false_iff_ne]; omega
                clear hx hx48
                go_wp2
                go_meet
                exact ⟨rfl, hk3, ht3⟩
            case rest =>
              obtain ⟨rfl, hk4, hT⟩ := hcut
              clear hx hk3 ht3
              cases bv with
              | true =>
                clear hf0
                go_wp2_with fail
                refine (hbl _).mono ?_
                rintro e w4 ⟨rfl, rfl⟩
                try go_simp
                go_upto_region 20 with (fail)
                obtain ⟨kb, rfl, rfl, hn, hkl, hcell⟩ := toks_cell hk4 (by simp)
                clear hn
                have d0 : wc.cell? ⟨kb, 0, none⟩ = some (.int .i64 4) := hcell _ (Touch.refl _ _) 0 _ rfl
                have d1 : wc.cell? ⟨kb, 1, none⟩ = some (.int .i64 1) := hcell _ (Touch.refl _ _) 1 _ rfl
                have d2 : wc.cell? ⟨kb, 2, none⟩ = some (.int .i64 ((D.length : Int) + 1)) := hcell _ (Touch.refl _ _) 2 _ rfl
                have d3 : wc.cell? ⟨kb, 3, none⟩ = some (.int .i64 (k : Int)) := hcell _ (Touch.refl _ _) 3 _ rfl
                have d4 : wc.cell? ⟨kb, 4, none⟩ = some (.string ⟨#[]⟩) := hcell _ (Touch.refl _ _) 4 _ rfl
                have te := tok_eq 4 1 ((D.length : Int) + 1) (k : Int)
                clear hcell hk4
                go_wp2_with fail
                refine (awake16 _).mono ?_
                rintro e w7 ⟨rfl, ht7⟩
                try go_simp
                go_wp2
                (try simp only [Exit.inBlock, Exit.then])
                refine hQ_.ret (results_tmp rfl _ _ _) rfl ?_
                exact ⟨rfl, (hTV.trans hT).trans ht7⟩
              | false =>
                have hf1 : (fv == 0) = false := by
                  cases hq : fv == 0 with
                  | false => rfl
                  | true => have := hf0.out hq; cases this
                clear hf0
                go_wp2_with fail
                refine (hbl _).mono ?_
                rintro e w4 ⟨rfl, rfl⟩
                try go_simp
                go_wp2_with fail
                refine (hfi _).mono ?_
                rintro e w5 ⟨rfl, rfl⟩
                try go_simp
                go_upto_region 20 with (fail)
                obtain ⟨kb, rfl, rfl, hn, hkl, hcell⟩ := toks_cell hk4 (by simp)
                clear hn
                have d0 : wc.cell? ⟨kb, 0, none⟩ = some (.int .i64 4) := hcell _ (Touch.refl _ _) 0 _ rfl
                have d1 : wc.cell? ⟨kb, 1, none⟩ = some (.int .i64 1) := hcell _ (Touch.refl _ _) 1 _ rfl
                have d2 : wc.cell? ⟨kb, 2, none⟩ = some (.int .i64 ((D.length : Int) + 1)) := hcell _ (Touch.refl _ _) 2 _ rfl
                have d3 : wc.cell? ⟨kb, 3, none⟩ = some (.int .i64 (k : Int)) := hcell _ (Touch.refl _ _) 3 _ rfl
                have d4 : wc.cell? ⟨kb, 4, none⟩ = some (.string ⟨#[]⟩) := hcell _ (Touch.refl _ _) 4 _ rfl
                have te := tok_eq 4 1 ((D.length : Int) + 1) (k : Int)
                clear hcell hk4
                go_wp2_with fail
                refine (awake16 _).mono ?_
                rintro e w7 ⟨rfl, ht7⟩
                try go_simp
                go_wp2
                (try simp only [Exit.inBlock, Exit.then])
                refine hQ_.ret (results_tmp rfl _ _ _) rfl ?_
                exact ⟨rfl, (hTV.trans hT).trans ht7⟩
end Go.Proofs.YthdncmagfgoboaaGreatDoor
