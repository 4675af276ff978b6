/- The law DigitsAll. -/
import Derived.Test.YtcpfooceadgccaaDoorDigK
import Derived.Test.YtcpfooceadgccaaDoorDigRR
import Derived.Test.YtcpfooceadgccaaDoorDigFi
import Derived.Test.YtcpfooceadgccaaDoorDigA
import Derived.Test.YtcpfooceadgccaaDoorDigRP
import Derived.Deep.RegionHeld3
import Derived.Deep.DeepCutAuto
import Derived.Outline
namespace Go.Proofs.YtcpfooceadgccaaDoor
open Go.RowKit
set_option maxRecDepth 100000
set_option maxHeartbeats 8000000
set_option linter.unusedVariables false
set_option linter.unusedSimpArgs false


/-- the two numbers, boxed -/
structure Num2 (w wr : World) (sa : Bool) (da : List UInt8) (ea : Int) (sb : Bool) (db : List UInt8) (eb : Int) : Prop where
  a : wr.heap[w.heap.size]? = some (.cells #[.bool sa, .string (str da), .int .i64 ea] 23)
  b : wr.heap[w.heap.size + 1]? = some (.cells #[.bool sb, .string (str db), .int .i64 eb] 23)
  t : Touch [] w wr
theorem Num2.go {w wr w' : World} {sa sb : Bool} {da db : List UInt8} {ea eb : Int} (h : Num2 w wr sa da ea sb db eb) (k : Touch [] wr w') : Num2 w w' sa da ea sb db eb :=
  ⟨k.keep h.a (by simp), k.keep h.b (by simp), h.t.trans k⟩

theorem digitsall_walk (a0 : ByteArray) (a1_0 : Bool) (a1_1 : ByteArray) (a1_2 : Int) (a2_0 : Bool) (a2_1 : ByteArray) (a2_2 : Int) (a3 : Int) (w : World) (w0 : a0.size ≤ 9223372036854775807) (w1_1 : a1_1.size ≤ 9223372036854775807) (w1_2 : (Lit.int .i64 a1_2).wf = true) (w2_1 : a2_1.size ≤ 9223372036854775807) (w2_2 : (Lit.int .i64 a2_2).wf = true) (w3 : (Lit.int .i64 a3).wf = true) :
    Calls Tryd.prog 3 #[.string a0, .agg #[.bool a1_0, .string a1_1, .int .i64 a1_2], .agg #[.bool a2_0, .string a2_1, .int .i64 a2_2], .int .i64 a3] w fun e w' => e = .returned (.bool true) ∧ Touch [] w w' := by
  obtain ⟨hn1, hn2⟩ := i64_bounds w3
  clear w3 w1_2 w2_2
  rw [str_of a0, str_of a1_1, str_of a2_1]
  have ls : a0.data.toList.length ≤ 9223372036854775807 := by rw [← Lib.size_eq]; exact w0
  have la : a1_1.data.toList.length ≤ 9223372036854775807 := by rw [← Lib.size_eq]; exact w1_1
  have lb : a2_1.data.toList.length ≤ 9223372036854775807 := by rw [← Lib.size_eq]; exact w2_1
  clear w0 w1_1 w2_1
  generalize a0.data.toList = S at *
  generalize a1_1.data.toList = da at *
  generalize a2_1.data.toList = db at *
  have zs := str_size S
  have za := str_size da
  have zb := str_size db
  let kp_ : Exit → Act → World → Prop := bodyPost Tryd.prog Tryd.f3 (fun _ _ => True)
  refine calls_post Tryd.func3 rfl ?_
  intro Q_ hQ_
  simp only [Tryd.ntmps3, List.size_toArray, List.length_cons, List.length_nil, Nat.reduceAdd, Nat.reduceSub, Array.replicate_succ, Array.replicate_zero, List.push_toArray, List.append_toArray, List.nil_append, List.cons_append]
  go_upto_region 1 with (fail)
  have h2 : Num2 w ((w.alloc (Obj.cells #[.bool a1_0, .string (str da), .int .i64 a1_2] 23)).alloc (Obj.cells #[.bool a2_0, .string (str db), .int .i64 a2_2] 23)) a1_0 da a1_2 a2_0 db a2_2 := ⟨alloc_old (alloc_new _ _) _, alloc_new1 _ _ _, ((Touch.refl _ _).alloc _).alloc _⟩
  obtain ⟨W, hW⟩ : ∃ W, W = ((w.alloc (Obj.cells #[.bool a1_0, .string (str da), .int .i64 a1_2] 23)).alloc (Obj.cells #[.bool a2_0, .string (str db), .int .i64 a2_2] 23)) := ⟨_, rfl⟩
  rw [← hW] at h2 ⊢
  clear hW
  have ca := cell_at h2.a
  have cb := cell_at h2.b
  have ia := block_lt h2.a
  have ib := block_lt h2.b
  by_cases g1 : 400 < S.length
  · go_wp2_with fail
    refine (awake10 _).mono ?_
    rintro e we ⟨rfl, hte⟩
    try go_simp
    go_wp2
    (try simp only [Exit.inBlock, Exit.then])
    refine hQ_.ret (results_tmp rfl _ _ _) rfl ?_
    exact ⟨rfl, h2.t.trans hte⟩
  by_cases g2 : 400 < da.length
  · go_wp2_with fail
    refine (awake10 _).mono ?_
    rintro e we ⟨rfl, hte⟩
    try go_simp
    go_wp2
    (try simp only [Exit.inBlock, Exit.then])
    refine hQ_.ret (results_tmp rfl _ _ _) rfl ?_
    exact ⟨rfl, h2.t.trans hte⟩
  by_cases g3 : 400 < db.length
  · go_wp2_with fail
    refine (awake10 _).mono ?_
    rintro e we ⟨rfl, hte⟩
    try go_simp
    go_wp2
    (try simp only [Exit.inBlock, Exit.then])
    refine hQ_.ret (results_tmp rfl _ _ _) rfl ?_
    exact ⟨rfl, h2.t.trans hte⟩
  have hpc := fun w => pcheck_any ⟨a1_0, da, a1_2⟩ w (show da.length ≤ _ by omega)
  have hrc := fun w => rcheck_any ⟨a1_0, da, a1_2⟩ w (show da.length ≤ _ by omega)
  obtain ⟨ck, hck⟩ : ∃ ck, ck = Dig.check ⟨a1_0, da, a1_2⟩ := ⟨_, rfl⟩
  rw [← hck] at hpc hrc
  replace hck : Box (ck = Dig.check ⟨a1_0, da, a1_2⟩) := ⟨hck⟩
  simp only [dec] at hpc hrc
  have hcA : ∀ w', Touch [] W w' → ∀ i, w'.cell? ⟨w.heap.size, i, none⟩ = (#[.bool a1_0, .string (str da), .int .i64 a1_2] : Array Value)[i]? := fun w' h => cell_at (h2.go h).a
  go_upto_region 3 with (fail)
  clear ca cb ia ib
  go_cut [37] (fun v wx => v = .bool false ∧ Touch [] W wx)
  case first =>
    go_region_held3 (fun w' => Touch [] W w')
      (first | exact Touch.drew (Touch.refl _ _) | exact Touch.trans (by assumption) ht9)
      (first
        | (go_at_call 15; (with_reducible refine (hpc _).mono ?_); rintro e w9 ⟨rfl, ht9⟩; have hT9 : Touch [] W w9 := Touch.trans (by assumption) ht9)
        | (go_at_call 16; (with_reducible refine (hrc _).mono ?_); rintro e w9 ⟨rfl, ht9⟩; have hT9 : Touch [] W w9 := Touch.trans (by assumption) ht9))
    all_goals
      go_wp2_with fail
      go_meet
      exact ⟨by simp, hT9⟩
  case rest =>
    obtain ⟨rfl, hT⟩ := hcut
    clear hcA hpc hrc hck ck
    replace h2 := h2.go hT
    clear hT
    obtain ⟨y, hy⟩ : ∃ y, y = (Dig.read S).getD Dig.zero := ⟨_, rfl⟩
    obtain ⟨k, hk⟩ : ∃ k, k = (Dig.read S).isSome := ⟨_, rfl⟩
    have hpr := fun w => pread_any S w (by omega)
    have hrr := fun w => rread_any S w (by omega)
    rw [← hy, ← hk] at hpr hrr
    clear hy hk
    obtain ⟨sy, dy, ey⟩ := y
    simp only [dec] at hpr hrr
    go_wp2_with fail
    refine (hpr _).mono ?_
    rintro e w1 ⟨rfl, ht1⟩
    try go_simp
    replace h2 := h2.go ht1
    clear ht1
    go_wp2_with fail
    refine (hrr _).mono ?_
    rintro e w2 ⟨rfl, ht2⟩
    try go_simp
    have hX := ht2.keep (alloc_new _ _) (by simp)
    replace h2 := h2.go (((Touch.refl _ _).alloc _).trans ht2)
    clear ht2
    have hXl := block_lt hX
    generalize w1.heap.size = bx at *
    have hpp := fun w => pprint_any a3 w hn1 hn2
    have hrp := fun w => rprint_t a3 w hn1 hn2
    generalize Dig.print a3 = P at hpp hrp
    have zp := str_size P
    go_upto_region 7 with (fail)
    have hY : (w2.alloc (Obj.cells #[.bool sy, .string (str dy), .int .i64 ey] 23)).heap[w2.heap.size]? = some (.cells #[.bool sy, .string (str dy), .int .i64 ey] 23) := alloc_new _ _
    replace hX := alloc_old hX (.cells #[.bool sy, .string (str dy), .int .i64 ey] 23)
    replace h2 := h2.go ((Touch.refl _ _).alloc (.cells #[.bool sy, .string (str dy), .int .i64 ey] 23))
    obtain ⟨W, hW⟩ : ∃ W, W = w2.alloc (.cells #[.bool sy, .string (str dy), .int .i64 ey] 23) := ⟨_, rfl⟩
    rw [← hW] at hX hY h2 ⊢
    have hYl := block_lt hY
    replace hXl := block_lt hX
    generalize w2.heap.size = by_ at *
    clear hW
    have cx := cell_at hX
    have cy := cell_at hY
    clear hX hY
    go_wp2_with fail
    refine (hpp _).mono ?_
    rintro e w3 ⟨rfl, ht3⟩
    try go_simp
    go_wp2_with fail
    refine (hrp _).mono ?_
    rintro e w4 ⟨rfl, ht4⟩
    try go_simp
    replace h2 := (h2.go ht3).go ht4
    clear ht3 ht4 hXl hYl cx cy hpp hrp
    go_upto_region 9 with (fail)
    have hfa := fun w => fits_any a1_0 da a1_2 w la
    have hfb := fun w => fits_any a2_0 db a2_2 w lb
    generalize hfa0 : fitsB a1_0 da a1_2 = fa at hfa
    generalize hfb0 : fitsB a2_0 db a2_2 = fb at hfb
    have ca := cell_at h2.a
    have ia := block_lt h2.a
    cases fa with
    | false =>
      clear hfa0 hfb0
      go_wp2_with fail
      refine (hfa _).mono ?_
      rintro e w5 ⟨rfl, ht5⟩
      try go_simp
      go_wp2_with fail
      refine (awake10 _).mono ?_
      rintro e we ⟨rfl, hte⟩
      try go_simp
      go_wp2
      (try simp only [Exit.inBlock, Exit.then])
      refine hQ_.ret (results_tmp rfl _ _ _) rfl ?_
      exact ⟨rfl, (h2.t.trans ht5).trans hte⟩
    | true =>
      obtain ⟨la1, la2, la3, la4⟩ := fitsB_out hfa0
      clear hfa0
      replace la2 : Box (da.all Dig.dig = true) := ⟨la2⟩
      replace hfb0 : Box (fitsB a2_0 db a2_2 = fb) := ⟨hfb0⟩
      go_wp2_with fail
      refine (hfa _).mono ?_
      rintro e w5 ⟨rfl, ht5⟩
      try go_simp
      replace h2 := h2.go ht5
      clear ca ia ht5 hfa
      have cb := cell_at h2.b
      have ib := block_lt h2.b
      cases fb with
      | false =>
        clear hfb0
        go_wp2_with fail
        refine (hfb _).mono ?_
        rintro e w6 ⟨rfl, ht6⟩
        try go_simp
        go_wp2_with fail
        refine (awake10 _).mono ?_
        rintro e we ⟨rfl, hte⟩
        try go_simp
        go_wp2
        (try simp only [Exit.inBlock, Exit.then])
        refine hQ_.ret (results_tmp rfl _ _ _) rfl ?_
        exact ⟨rfl, (h2.t.trans ht6).trans hte⟩
      | true =>
        obtain ⟨lb1, lb2, lb3, lb4⟩ := fitsB_out hfb0.out
        clear hfb0
        replace lb2 : Box (db.all Dig.dig = true) := ⟨lb2⟩
        go_wp2_with fail
        refine (hfb _).mono ?_
        rintro e w6 ⟨rfl, ht6⟩
        try go_simp
        replace h2 := h2.go ht6
        clear cb ib ht6 hfb
        have ca := cell_at h2.a
        have ia := block_lt h2.a
        have hpi := fun w => pint_any ⟨a1_0, da, a1_2⟩ w (show da.length ≤ _ by omega) (show a1_2 ≤ _ by omega) (show _ ≤ a1_2 by omega) la2.out
        have hri := fun w => rint_any ⟨a1_0, da, a1_2⟩ w (show da.length ≤ _ by omega) (show a1_2 ≤ _ by omega) (show _ ≤ a1_2 by omega) la2.out
        generalize (Dig.int ⟨a1_0, da, a1_2⟩).1 = pi at hpi hri
        generalize (Dig.int ⟨a1_0, da, a1_2⟩).2 = qi at hpi hri
        simp only [dec] at hpi hri
        go_wp2_with fail
        refine (hpi _).mono ?_
        rintro e w7 ⟨rfl, ht7⟩
        try go_simp
        replace h2 := h2.go ht7
        clear ca ia ht7 hpi
        have ca := cell_at h2.a
        have ia := block_lt h2.a
        go_wp2_with fail
        refine (hri _).mono ?_
        rintro e w8 ⟨rfl, ht8⟩
        try go_simp
        replace h2 := h2.go ht8
        clear ca ia ht8 hri
        have hpn := fun w => pnorm_any ⟨a1_0, da, a1_2⟩ w (show da.length ≤ _ by omega) (show a1_2 ≤ _ by omega) (show _ ≤ a1_2 by omega)
        have hrn := fun w => rnorm_any ⟨a1_0, da, a1_2⟩ w (show da.length ≤ _ by omega) (show a1_2 ≤ _ by omega) (show _ ≤ a1_2 by omega)
        have hpw := fun w => pwhole_any ⟨a1_0, da, a1_2⟩ w (show da.length ≤ _ by omega) (show a1_2 ≤ _ by omega) (show _ ≤ a1_2 by omega)
        have hrw := fun w => rwhole_any ⟨a1_0, da, a1_2⟩ w (show da.length ≤ _ by omega) (show a1_2 ≤ _ by omega) (show _ ≤ a1_2 by omega)
        have hpm := fun w => pcmp_any ⟨a1_0, da, a1_2⟩ ⟨a2_0, db, a2_2⟩ w (show da.length ≤ _ by omega) (show a1_2 ≤ _ by omega) (show _ ≤ a1_2 by omega) (show db.length ≤ _ by omega) (show a2_2 ≤ _ by omega) (show _ ≤ a2_2 by omega)
        have hrm := fun w => rcmp_any ⟨a1_0, da, a1_2⟩ ⟨a2_0, db, a2_2⟩ w (show da.length ≤ _ by omega) (show a1_2 ≤ _ by omega) (show _ ≤ a1_2 by omega) (show db.length ≤ _ by omega) (show a2_2 ≤ _ by omega) (show _ ≤ a2_2 by omega)
        generalize Dig.norm ⟨a1_0, da, a1_2⟩ = y at hpn hrn
        generalize Dig.whole ⟨a1_0, da, a1_2⟩ = wh at hpw hrw
        generalize Dig.cmp ⟨a1_0, da, a1_2⟩ ⟨a2_0, db, a2_2⟩ = cm at hpm hrm
        obtain ⟨sy1, dy1, ey1⟩ := y
        simp only [dec] at hpn hrn hpw hrw hpm hrm
        have hcA : ∀ w', Touch [] w8 w' → ∀ i, w'.cell? ⟨w.heap.size, i, none⟩ = (#[.bool a1_0, .string (str da), .int .i64 a1_2] : Array Value)[i]? := fun w' h => cell_at (h2.go h).a
        have hcB : ∀ w', Touch [] w8 w' → ∀ i, w'.cell? ⟨w.heap.size + 1, i, none⟩ = (#[.bool a2_0, .string (str db), .int .i64 a2_2] : Array Value)[i]? := fun w' h => cell_at (h2.go h).b
        go_upto_region 13 with (fail)
        go_region_held3 (fun w' => Touch [] w8 w')
          (first | exact Touch.drew (Touch.refl _ _) | exact Touch.trans (by assumption) ht9)
          (first
            | (go_at_call 24; (with_reducible refine (hpn _).mono ?_); rintro e w9 ⟨rfl, ht9⟩; have hT9 : Touch [] w8 w9 := Touch.trans (by assumption) ht9)
            | (go_at_call 25; (with_reducible refine (hrn _).mono ?_); rintro e w9 ⟨rfl, ht9⟩; have hT9 : Touch [] w8 w9 := Touch.trans (by assumption) ht9)
            | (go_at_call 26; (with_reducible refine (hpm _).mono ?_); rintro e w9 ⟨rfl, ht9⟩; have hT9 : Touch [] w8 w9 := Touch.trans (by assumption) ht9)
            | (go_at_call 27; (with_reducible refine (hrm _).mono ?_); rintro e w9 ⟨rfl, ht9⟩; have hT9 : Touch [] w8 w9 := Touch.trans (by assumption) ht9)
            | (go_at_call 28; (with_reducible refine (hpw _).mono ?_); rintro e w9 ⟨rfl, ht9⟩; have hT9 : Touch [] w8 w9 := Touch.trans (by assumption) ht9)
            | (go_at_call 29; (with_reducible refine (hrw _).mono ?_); rintro e w9 ⟨rfl, ht9⟩; have hT9 : Touch [] w8 w9 := Touch.trans (by assumption) ht9)
            | (go_at_call 14; (with_reducible refine (awake10 _).mono ?_); rintro e w9 ⟨rfl, ht9⟩; have hT9 : Touch [] w8 w9 := Touch.trans (by assumption) ht9))
        all_goals
          go_wp2_with fail
          (try simp only [Exit.inBlock, Exit.then])
          refine hQ_.ret (results_tmp rfl _ _ _) rfl ?_
          exact ⟨rfl, h2.t.trans hT9⟩
end Go.Proofs.YtcpfooceadgccaaDoor
