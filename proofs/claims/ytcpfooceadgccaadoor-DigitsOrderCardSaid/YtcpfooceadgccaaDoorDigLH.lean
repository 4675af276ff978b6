/- The law DigitsOrder. -/
import Derived.Test.YtcpfooceadgccaaDoorDigA
import Derived.Test.YtcpfooceadgccaaDoorDigLO
import Derived.Test.YtcpfooceadgccaaDoorDigLF
import Derived.Test.YtcpfooceadgccaaDoorDigRT
import Derived.Test.YtcpfooceadgccaaDoorDigLG
import Derived.Outline
namespace Go.Proofs.YtcpfooceadgccaaDoor
open Go.RowKit
set_option maxRecDepth 100000
set_option maxHeartbeats 8000000
set_option linter.unusedVariables false
set_option linter.unusedSimpArgs false

def fitsB (s : Bool) (d : List UInt8) (e : Int) : Bool := Dig.check ⟨s, d, e⟩ && decide (d.length ≤ 400)

theorem fits_any (s : Bool) (d : List UInt8) (e : Int) (w : World) (hl : d.length ≤ 9223372036854775807) :
    Calls Tryd.prog 21 #[.agg #[.bool s, .string (str d), .int .i64 e]] w fun r w' => r = .returned (.bool (fitsB s d e)) ∧ Touch [] w w' := by
  have hc : ∀ w, Calls Tryd.prog 16 #[.agg #[.bool s, .string (str d), .int .i64 e]] w fun r w' => r = .returned (.bool (Dig.check ⟨s, d, e⟩)) ∧ Touch [] w w' := fun w => rcheck_any ⟨s, d, e⟩ w hl
  have sz := str_size d
  obtain ⟨b, hb⟩ : ∃ b, b = Dig.check ⟨s, d, e⟩ := ⟨_, rfl⟩
  rw [← hb] at hc
  replace hb : Box (b = Dig.check ⟨s, d, e⟩) := ⟨hb⟩
  go_enter Tryd.func21, Tryd.ntmps21
  go_wp2_with fail
  refine (hc _).mono ?_
  rintro r w1 ⟨rfl, ht1⟩
  try go_simp
  have hA := ht1.keep (alloc_new _ _) (by simp)
  have hT := ((Touch.refl [] w).alloc _).trans ht1
  have c1 := cell_at hA 1
  simp at c1
  clear hA ht1 hc
  cases hbb : b with
  | false =>
    have hr : Box (fitsB s d e = false) := ⟨by unfold fitsB; rw [← hb.out, hbb]; rfl⟩
    clear hb
    go_wp2
    go_ret
    exact ⟨by rw [hr.out]; rfl, hT⟩
  | true =>
    have hr : Box (fitsB s d e = decide (d.length ≤ 400)) := ⟨by unfold fitsB; rw [← hb.out, hbb]; rfl⟩
    clear hb
    by_cases h4 : d.length ≤ 400
    · have h5 : decide ((d.length : Int) ≤ 400) = true := by simp; omega
      go_wp2
      go_ret
      exact ⟨by rw [hr.out, decide_eq_true h4]; rfl, hT⟩
    · have h5 : decide ((d.length : Int) ≤ 400) = false := by simp; omega
      go_wp2
      go_ret
      exact ⟨by rw [hr.out, decide_eq_false h4]; rfl, hT⟩

theorem fitsB_out {s : Bool} {d : List UInt8} {e : Int} (h : fitsB s d e = true) : d.length ≤ 400 ∧ d.all Dig.dig = true ∧ -1000000000 ≤ e ∧ e ≤ 1000000000 := by
  unfold fitsB Dig.check at h
  simp only [Bool.and_eq_true, decide_eq_true_eq] at h
  exact ⟨h.2, h.1.1.1, h.1.1.2, h.1.2⟩

/-- the three numbers, boxed -/
structure Num3 (w wr : World) (sa : Bool) (da : List UInt8) (ea : Int) (sb : Bool) (db : List UInt8) (eb : Int) (sc : Bool) (dc : List UInt8) (ec : Int) : Prop where
  a : wr.heap[w.heap.size]? = some (.cells #[.bool sa, .string (str da), .int .i64 ea] 23)
  b : wr.heap[w.heap.size + 1]? = some (.cells #[.bool sb, .string (str db), .int .i64 eb] 23)
  c : wr.heap[w.heap.size + 2]? = some (.cells #[.bool sc, .string (str dc), .int .i64 ec] 23)
  t : Touch [] w wr
theorem Num3.go {w wr w' : World} {sa sb sc : Bool} {da db dc : List UInt8} {ea eb ec : Int} (h : Num3 w wr sa da ea sb db eb sc dc ec) (k : Touch [] wr w') : Num3 w w' sa da ea sb db eb sc dc ec :=
  ⟨k.keep h.a (by simp), k.keep h.b (by simp), k.keep h.c (by simp), h.t.trans k⟩



theorem digitsorder_walk (a0_0 : Bool) (a0_1 : ByteArray) (a0_2 : Int) (a1_0 : Bool) (a1_1 : ByteArray) (a1_2 : Int) (a2_0 : Bool) (a2_1 : ByteArray) (a2_2 : Int) (a3 : Int) (a4 : Int) (w : World) (w0_1 : a0_1.size ≤ 9223372036854775807) (w0_2 : (Lit.int .i64 a0_2).wf = true) (w1_1 : a1_1.size ≤ 9223372036854775807) (w1_2 : (Lit.int .i64 a1_2).wf = true) (w2_1 : a2_1.size ≤ 9223372036854775807) (w2_2 : (Lit.int .i64 a2_2).wf = true) (w3 : (Lit.int .i64 a3).wf = true) (w4 : (Lit.int .i64 a4).wf = true) :
    Calls Tryd.prog 7 #[.agg #[.bool a0_0, .string a0_1, .int .i64 a0_2], .agg #[.bool a1_0, .string a1_1, .int .i64 a1_2], .agg #[.bool a2_0, .string a2_1, .int .i64 a2_2], .int .i64 a3, .int .i64 a4] w fun e w' => e = .returned (.bool true) ∧ Touch [] w w' := by
  clear w0_2 w1_2 w2_2
  obtain ⟨hn1, hn2⟩ := i64_bounds w3
  obtain ⟨hm1, hm2⟩ := i64_bounds w4
  clear w3 w4
  rw [str_of a0_1, str_of a1_1, str_of a2_1]
  have la : a0_1.data.toList.length ≤ 9223372036854775807 := by rw [← Lib.size_eq]; exact w0_1
  have lb : a1_1.data.toList.length ≤ 9223372036854775807 := by rw [← Lib.size_eq]; exact w1_1
  have lc : a2_1.data.toList.length ≤ 9223372036854775807 := by rw [← Lib.size_eq]; exact w2_1
  generalize a0_1.data.toList = da at *
  generalize a1_1.data.toList = db at *
  generalize a2_1.data.toList = dc at *
  clear w0_1 w1_1 w2_1
  have hfa := fun w => fits_any a0_0 da a0_2 w la
  have hfb := fun w => fits_any a1_0 db a1_2 w lb
  have hfc := fun w => fits_any a2_0 dc a2_2 w lc
  have h3 : Num3 w (((w.alloc (Obj.cells #[.bool a0_0, .string (str da), .int .i64 a0_2] 23)).alloc (Obj.cells #[.bool a1_0, .string (str db), .int .i64 a1_2] 23)).alloc (Obj.cells #[.bool a2_0, .string (str dc), .int .i64 a2_2] 23)) a0_0 da a0_2 a1_0 db a1_2 a2_0 dc a2_2 :=
    ⟨alloc_old (alloc_old (alloc_new _ _) _) _, alloc_old (alloc_new1 _ _ _) _, by have := alloc_new ((w.alloc (Obj.cells #[.bool a0_0, .string (str da), .int .i64 a0_2] 23)).alloc (Obj.cells #[.bool a1_0, .string (str db), .int .i64 a1_2] 23)) (Obj.cells #[.bool a2_0, .string (str dc), .int .i64 a2_2] 23); simpa using this, (((Touch.refl _ _).alloc _).alloc _).alloc _⟩
  go_enter Tryd.func7, Tryd.ntmps7
  cases fa : fitsB a0_0 da a0_2 with
  | false =>
    rw [fa] at hfa
    clear fa hfb hfc
    go_wp2_with fail
    refine (hfa _).mono ?_
    rintro e w1 ⟨rfl, ht1⟩
    try go_simp
    replace h3 := h3.go ht1
    clear ht1 hfa
    go_wp2_with fail
    refine (awake10 _).mono ?_
    rintro e we ⟨rfl, hte⟩
    try go_simp
    go_wp2
    go_ret
    exact ⟨rfl, h3.t.trans hte⟩
  | true =>
    rw [fa] at hfa
    go_wp2_with fail
    refine (hfa _).mono ?_
    rintro e w1 ⟨rfl, ht1⟩
    try go_simp
    replace h3 := h3.go ht1
    clear ht1 hfa
    have ca := cell_at h3.a
    have cb := cell_at h3.b
    have cc := cell_at h3.c
    have la := block_lt h3.a
    have lb := block_lt h3.b
    have lc := block_lt h3.c
    cases fb : fitsB a1_0 db a1_2 with
    | false =>
      rw [fb] at hfb
      clear fa fb hfc
      go_wp2_with fail
      refine (hfb _).mono ?_
      rintro e w2 ⟨rfl, ht2⟩
      try go_simp
      replace h3 := h3.go ht2
      clear ht2 hfb ca cb cc
      go_wp2_with fail
      refine (awake10 _).mono ?_
      rintro e we ⟨rfl, hte⟩
      try go_simp
      go_wp2
      go_ret
      exact ⟨rfl, h3.t.trans hte⟩
    | true =>
      rw [fb] at hfb
      go_wp2_with fail
      refine (hfb _).mono ?_
      rintro e w2 ⟨rfl, ht2⟩
      try go_simp
      replace h3 := h3.go ht2
      clear ht2 hfb ca cb cc la lb lc
      have ca := cell_at h3.a
      have cb := cell_at h3.b
      have cc := cell_at h3.c
      have la := block_lt h3.a
      have lb := block_lt h3.b
      have lc := block_lt h3.c
      cases fc : fitsB a2_0 dc a2_2 with
      | false =>
        rw [fc] at hfc
        clear fa fb fc
        go_wp2_with fail
        refine (hfc _).mono ?_
        rintro e w3 ⟨rfl, ht3⟩
        try go_simp
        replace h3 := h3.go ht3
        clear ht3 hfc ca cb cc
        go_wp2_with fail
        refine (awake10 _).mono ?_
        rintro e we ⟨rfl, hte⟩
        try go_simp
        go_wp2
        go_ret
        exact ⟨rfl, h3.t.trans hte⟩
      | true =>
        rw [fc] at hfc
        go_wp2_with fail
        refine (hfc _).mono ?_
        rintro e w3 ⟨rfl, ht3⟩
        try go_simp
        replace h3 := h3.go ht3
        clear ht3 hfc ca cb cc la lb lc
        obtain ⟨la, da', ea1, ea2⟩ := fitsB_out fa
        obtain ⟨lb, db', eb1, eb2⟩ := fitsB_out fb
        obtain ⟨lc, dc', ec1, ec2⟩ := fitsB_out fc
        clear fa fb fc
        obtain ⟨n, hn⟩ : ∃ n : Nat, 3000000000000 ≤ n := ⟨_, Nat.le_refl _⟩
        have nea := (Dig.norm_e_bound ⟨a0_0, da, a0_2⟩ (Nat.le_trans la (by decide)) (by show a0_2 ≤ _; omega) (by show _ ≤ a0_2; omega)).2
        have neb := (Dig.norm_e_bound ⟨a1_0, db, a1_2⟩ (Nat.le_trans lb (by decide)) (by show a1_2 ≤ _; omega) (by show _ ≤ a1_2; omega)).2
        have nec := (Dig.norm_e_bound ⟨a2_0, dc, a2_2⟩ (Nat.le_trans lc (by decide)) (by show a2_2 ≤ _; omega) (by show _ ≤ a2_2; omega)).2
        have kab := Dig.cmp_key ⟨a0_0, da, a0_2⟩ ⟨a1_0, db, a1_2⟩ n da' db' (by omega) (by omega)
        have kba := Dig.cmp_key ⟨a1_0, db, a1_2⟩ ⟨a0_0, da, a0_2⟩ n db' da' (by omega) (by omega)
        have kbc := Dig.cmp_key ⟨a1_0, db, a1_2⟩ ⟨a2_0, dc, a2_2⟩ n db' dc' (by omega) (by omega)
        have kac := Dig.cmp_key ⟨a0_0, da, a0_2⟩ ⟨a2_0, dc, a2_2⟩ n da' dc' (by omega) (by omega)
        have kfl := Dig.cmp_key ⟨!a1_0, db, a1_2⟩ ⟨!a0_0, da, a0_2⟩ n db' da' (by rw [Dig.norm_flip_e]; omega) (by rw [Dig.norm_flip_e]; omega)
        rw [Dig.key_flip, Dig.key_flip] at kfl
        have efl : Dig.cmp ⟨!a1_0, db, a1_2⟩ ⟨!a0_0, da, a0_2⟩ = Dig.cmp ⟨a0_0, da, a0_2⟩ ⟨a1_0, db, a1_2⟩ := by
          refine kfl.uniq ?_
          rcases kab with ⟨h, h'⟩ | ⟨h, h'⟩ | ⟨h, h'⟩
          · exact Or.inl ⟨h, by omega⟩
          · exact Or.inr (Or.inl ⟨h, by omega⟩)
          · exact Or.inr (Or.inr ⟨h, by omega⟩)
        have eba := kba.anti kab
        have htr := kab.trans kbc kac
        have bp := kab.bound
        have bq := kbc.bound
        have br := kac.bound
        have hba := fun w => pcmp_at a1_0 db a1_2 a0_0 da a0_2 _ w eba (by omega) (by omega) (by omega) (by omega) (by omega) (by omega)
        have hfl := fun w => pcmp_at (!a1_0) db a1_2 (!a0_0) da a0_2 _ w efl (by omega) (by omega) (by omega) (by omega) (by omega) (by omega)
        obtain ⟨p, hp⟩ : ∃ p, p = Dig.cmp ⟨a0_0, da, a0_2⟩ ⟨a1_0, db, a1_2⟩ := ⟨_, rfl⟩
        obtain ⟨q, hq⟩ : ∃ q, q = Dig.cmp ⟨a1_0, db, a1_2⟩ ⟨a2_0, dc, a2_2⟩ := ⟨_, rfl⟩
        obtain ⟨r, hr⟩ : ∃ r, r = Dig.cmp ⟨a0_0, da, a0_2⟩ ⟨a2_0, dc, a2_2⟩ := ⟨_, rfl⟩
        have hab := fun w => pcmp_at a0_0 da a0_2 a1_0 db a1_2 p w hp.symm (by omega) (by omega) (by omega) (by omega) (by omega) (by omega)
        have hbc := fun w => pcmp_at a1_0 db a1_2 a2_0 dc a2_2 q w hq.symm (by omega) (by omega) (by omega) (by omega) (by omega) (by omega)
        have hac := fun w => pcmp_at a0_0 da a0_2 a2_0 dc a2_2 r w hr.symm (by omega) (by omega) (by omega) (by omega) (by omega) (by omega)
        rw [← hp] at bp hba hfl htr
        rw [← hq] at bq htr
        rw [← hr] at br htr
        obtain ⟨bp1, bp2⟩ := bp
        obtain ⟨bq1, bq2⟩ := bq
        obtain ⟨br1, br2⟩ := br
        replace htr : Box (p ≤ 0 → q ≤ 0 → r ≤ 0) := ⟨htr⟩
        clear kab kba kbc kac kfl efl eba hp hq hr nea neb nec ea1 ea2 eb1 eb2 ec1 ec2 la lb lc da' db' dc' hn n
        have hcA : ∀ w', Touch [] w3 w' → ∀ i, w'.cell? ⟨w.heap.size, i, none⟩ = (#[.bool a0_0, .string (str da), .int .i64 a0_2] : Array Value)[i]? := fun w' h => cell_at (h3.go h).a
        have hcB : ∀ w', Touch [] w3 w' → ∀ i, w'.cell? ⟨w.heap.size + 1, i, none⟩ = (#[.bool a1_0, .string (str db), .int .i64 a1_2] : Array Value)[i]? := fun w' h => cell_at (h3.go h).b
        have hcC : ∀ w', Touch [] w3 w' → ∀ i, w'.cell? ⟨w.heap.size + 2, i, none⟩ = (#[.bool a2_0, .string (str dc), .int .i64 a2_2] : Array Value)[i]? := fun w' h => cell_at (h3.go h).c
        go_upto_region 3 with (fail)
        go_cut [11, 12, 13] (fun v11 v12 v13 wx => v11 = .int .i64 p ∧ v12 = .int .i64 q ∧ v13 = .int .i64 r ∧ Num3 w wx a0_0 da a0_2 a1_0 db a1_2 a2_0 dc a2_2)
        case first =>
          go_region_held3 (fun w' => Touch [] w3 w')
            (first | exact Touch.drew (Touch.refl _ _) | exact Touch.trans (by assumption) ht9)
            (first
              | (go_at_call 26; (with_reducible refine (hab _).mono ?_); rintro e w9 ⟨rfl, ht9⟩; have hT9 : Touch [] w3 w9 := Touch.trans (by assumption) ht9)
              | (go_at_call 26; (with_reducible refine (hbc _).mono ?_); rintro e w9 ⟨rfl, ht9⟩; have hT9 : Touch [] w3 w9 := Touch.trans (by assumption) ht9)
              | (go_at_call 26; (with_reducible refine (hac _).mono ?_); rintro e w9 ⟨rfl, ht9⟩; have hT9 : Touch [] w3 w9 := Touch.trans (by assumption) ht9))
          all_goals
            go_wp2_with fail
            go_meet
            exact ⟨rfl, rfl, rfl, h3.go hT9⟩
        case rest =>
          obtain ⟨rfl, rfl, rfl, h3'⟩ := hcut
          clear hcA hcB hcC h3 hab hbc hac
          go_upto_region 4 with (fail)
          go_cut [59] (fun v wx => v = .bool false ∧ Num3 w wx a0_0 da a0_2 a1_0 db a1_2 a2_0 dc a2_2)
          case first =>
            have h3 := h3'
            clear h3'
            have ca := cell_at h3.a
            have cb := cell_at h3.b
            have cc := cell_at h3.c
            have la := block_lt h3.a
            have lb := block_lt h3.b
            have lc := block_lt h3.c
            have e1 : IntKind.i64.wrap (-(-p)) = p := by rw [Int.neg_neg]; exact IntWalk.i64_in _ (by omega)
            have e2 : - -p = p := Int.neg_neg p
            by_cases d1 : p ≤ 0
            · by_cases d2 : q ≤ 0
              · have d3 : decide (0 < r) = false := by have := htr.out d1 d2; simp; omega
                go_wp2_with fail
                refine (hba _).mono ?_
                rintro e w5 ⟨rfl, ht5⟩
                try go_simp
                go_wp2
                go_meet
                exact ⟨rfl, h3.go ht5⟩
              · go_wp2_with fail
                refine (hba _).mono ?_
                rintro e w5 ⟨rfl, ht5⟩
                try go_simp
                go_wp2
                go_meet
                exact ⟨rfl, h3.go ht5⟩
            · go_wp2_with fail
              refine (hba _).mono ?_
              rintro e w5 ⟨rfl, ht5⟩
              try go_simp
              go_wp2
              go_meet
              exact ⟨rfl, h3.go ht5⟩
          case rest =>
            obtain ⟨rfl, h3⟩ := hcut
            clear h3' hba htr
            obtain ⟨n, hn⟩ : ∃ n : Nat, 3000000000000 ≤ n := ⟨_, Nat.le_refl _⟩
            have lx : (Dig.digs a3.natAbs).length ≤ 20 := Dig.digs_length_le 19 _ (by omega)
            have ly : (Dig.digs a4.natAbs).length ≤ 20 := Dig.digs_length_le 19 _ (by omega)
            obtain ⟨bx1, bx2⟩ := Dig.norm_e_bound ⟨decide (a3 < 0), Dig.digs a3.natAbs, 0⟩ (Nat.le_trans lx (by decide)) (by show (0 : Int) ≤ _; omega) (by show _ ≤ (0 : Int); omega)
            obtain ⟨by1, by2⟩ := Dig.norm_e_bound ⟨decide (a4 < 0), Dig.digs a4.natAbs, 0⟩ (Nat.le_trans ly (by decide)) (by show (0 : Int) ≤ _; omega) (by show _ ≤ (0 : Int); omega)
            have hci := Dig.cmp_ints a3 a4 n (by omega) (by omega)
            have yx := Dig.ys_bounds (decide (a3 < 0)) a3.natAbs (by omega)
            have yy := Dig.ys_bounds (decide (a4 < 0)) a4.natAbs (by omega)
            obtain ⟨x, hx⟩ : ∃ x, x = Dig.norm ⟨decide (a3 < 0), Dig.digs a3.natAbs, 0⟩ := ⟨_, rfl⟩
            obtain ⟨y, hy⟩ : ∃ y, y = Dig.norm ⟨decide (a4 < 0), Dig.digs a4.natAbs, 0⟩ := ⟨_, rfl⟩
            have hrx := fun w => rread_print a3 x w hx (by omega)
            have hry := fun w => rread_print a4 y w hy (by omega)
            have hpx := fun w => rprint_t a3 w hn1 hn2
            have hpy := fun w => rprint_t a4 w hm1 hm2
            unfold Dig.ys at yx yy
            rw [← hx] at hci yx
            rw [← hy] at hci yy
            clear hx hy bx1 bx2 by1 by2 lx ly hn n
            have hxy := fun w => pcmp_at x.neg x.d x.e y.neg y.d y.e _ w hci (by have := yx.1; omega) yx.2.1 yx.2.2.1 (by have := yy.1; omega) yy.2.1 yy.2.2.1
            generalize Dig.print a3 = P3 at hrx hpx
            generalize Dig.print a4 = P4 at hry hpy
            clear hci yx yy
            obtain ⟨sx, dx, ex⟩ := x
            obtain ⟨sy, dy, ey⟩ := y
            go_wp2_with fail
            refine (hpx _).mono ?_
            rintro e w6 ⟨rfl, ht6⟩
            try go_simp
            go_wp2_with fail
            refine (hrx _).mono ?_
            rintro e w7 ⟨rfl, ht7⟩
            try go_simp
            replace h3 := (h3.go ht6).go ht7
            have hzX := block_lt h3.c
            clear ht6 ht7 hpx hrx
            go_wp2_with fail
            refine (hpy _).mono ?_
            rintro e w8 ⟨rfl, ht8⟩
            try go_simp
            have hX := ht8.keep (alloc_new _ _) (by simp)
            replace h3 := (h3.go ((Touch.refl _ _).alloc _)).go ht8
            clear ht8 hpy
            go_wp2_with fail
            refine (hry _).mono ?_
            rintro e w9 ⟨rfl, ht9⟩
            try go_simp
            replace hX := ht9.keep hX (by simp)
            replace h3 := h3.go ht9
            have hzY := block_lt h3.c
            clear ht9 hry
            go_upto_region 8 with (fail)
            have hY := alloc_new w9 (Obj.cells #[.bool sy, .string (str dy), .int .i64 ey] 23)
            replace hX := alloc_old hX (Obj.cells #[.bool sy, .string (str dy), .int .i64 ey] 23)
            replace h3 := h3.go ((Touch.refl _ _).alloc (Obj.cells #[.bool sy, .string (str dy), .int .i64 ey] 23))
            obtain ⟨W, hW⟩ : ∃ W, W = w9.alloc (Obj.cells #[.bool sy, .string (str dy), .int .i64 ey] 23) := ⟨_, rfl⟩
            rw [← hW] at hX hY h3 ⊢
            clear hW
            have ca := cell_at h3.a 0
            have cb := cell_at h3.b 0
            have fa := free_at h3.a 0
            have fb := free_at h3.b 0
            have la := block_lt h3.a
            have lb := block_lt h3.b
            simp at ca cb
            go_cut [] (fun wx => wx.heap[w.heap.size]? = some (.cells #[.bool !a0_0, .string (str da), .int .i64 a0_2] 23) ∧ wx.heap[w.heap.size + 1]? = some (.cells #[.bool !a1_0, .string (str db), .int .i64 a1_2] 23) ∧ wx.heap[w7.heap.size]? = some (.cells #[.bool sx, .string (str dx), .int .i64 ex] 23) ∧ wx.heap[w9.heap.size]? = some (.cells #[.bool sy, .string (str dy), .int .i64 ey] 23) ∧ Touch [] w wx)
            case first =>
              go_region
              all_goals
                go_wp2_with fail
                go_meet
                exact ⟨drew_heap (set_other (set_same h3.a 0 _) (by simp) _), drew_heap (set_same (set_other h3.b (by simp) _) 0 _), drew_heap (set_other (set_other hX (by simp; omega) _) (by simp; omega) _), drew_heap (set_other (set_other hY (by simp; omega) _) (by simp; omega) _), ((h3.t.setCell (by simp) _).setCell (by simp) _).drew⟩
            case rest =>
              obtain ⟨hA, hB, hX, hY, hT⟩ := hcut
              clear ca cb fa fb la lb h3
              have hT0 := hT
              have hA0 := hA
              have hB0 := hB
              have cA := cell_at hA
              have cB := cell_at hB
              have cX := cell_at hX
              have cY := cell_at hY
              by_cases h1 : a3 < a4
              · simp only [if_pos h1] at hxy
                go_wp2_with fail
                refine (hxy _).mono ?_
                rintro e wa ⟨rfl, hta⟩
                try go_simp
                replace hA := hta.keep hA0 (by simp)
                replace hB := hta.keep hB0 (by simp)
                replace hT := hT0.trans hta
                clear cA cB cX cY hta
                have cA := cell_at hA
                have cB := cell_at hB
                go_wp2_with fail
                refine (hfl _).mono ?_
                rintro e wb ⟨rfl, htb⟩
                try go_simp
                replace hT := hT.trans htb
                clear cA cB htb
                go_wp2_with fail
                refine (awake10 _).mono ?_
                rintro e we ⟨rfl, hte⟩
                try go_simp
                go_wp2
                go_ret
                exact ⟨rfl, hT.trans hte⟩
              · simp only [if_neg h1] at hxy
                by_cases h2 : a4 < a3
                · simp only [if_pos h2] at hxy
                  go_wp2_with fail
                  refine (hxy _).mono ?_
                  rintro e wa ⟨rfl, hta⟩
                  try go_simp
                  replace hA := hta.keep hA0 (by simp)
                  replace hB := hta.keep hB0 (by simp)
                  replace hT := hT0.trans hta
                  clear cA cB cX cY hta
                  have cA := cell_at hA
                  have cB := cell_at hB
                  go_wp2_with fail
                  refine (hfl _).mono ?_
                  rintro e wb ⟨rfl, htb⟩
                  try go_simp
                  replace hT := hT.trans htb
                  clear cA cB htb
                  go_wp2_with fail
                  refine (awake10 _).mono ?_
                  rintro e we ⟨rfl, hte⟩
                  try go_simp
                  go_wp2
                  go_ret
                  exact ⟨rfl, hT.trans hte⟩
                · simp only [if_neg h2] at hxy
                  go_wp2_with fail
                  refine (hxy _).mono ?_
                  rintro e wa ⟨rfl, hta⟩
                  try go_simp
                  replace hA := hta.keep hA0 (by simp)
                  replace hB := hta.keep hB0 (by simp)
                  replace hT := hT0.trans hta
                  clear cA cB cX cY hta
                  have cA := cell_at hA
                  have cB := cell_at hB
                  go_wp2_with fail
                  refine (hfl _).mono ?_
                  rintro e wb ⟨rfl, htb⟩
                  try go_simp
                  replace hT := hT.trans htb
                  clear cA cB htb
                  go_wp2_with fail
                  refine (awake10 _).mono ?_
                  rintro e we ⟨rfl, hte⟩
                  try go_simp
                  go_wp2
                  go_ret
                  exact ⟨rfl, hT.trans hte⟩
end Go.Proofs.YtcpfooceadgccaaDoor
