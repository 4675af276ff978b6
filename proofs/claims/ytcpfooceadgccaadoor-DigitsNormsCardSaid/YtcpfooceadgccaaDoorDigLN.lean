/- The law DigitsNorms. -/
import Derived.Test.YtcpfooceadgccaaDoorDigFi
import Derived.Test.YtcpfooceadgccaaDoorDigA
import Derived.Deep.RegionHeld3
import Derived.Deep.DeepCutAuto
import Derived.Outline
import Derived.Laws.StructEq
namespace Go.Proofs.YtcpfooceadgccaaDoor
open Go.RowKit
set_option maxRecDepth 100000
set_option maxHeartbeats 8000000
set_option linter.unusedVariables false
set_option linter.unusedSimpArgs false

theorem Dig.cmpN_self (x : Dig.Dec) : Dig.cmpN x x = 0 := by
  unfold Dig.cmpN Dig.size
  have := Dig.cmp_same x.d
  by_cases h : x.d = [] <;> simp [h, this]

theorem tcell {w w' : World} (h : Touch [] w w') : ∀ b i, b < w.heap.size → w'.cell? ⟨b, i, none⟩ = w.cell? ⟨b, i, none⟩ := fun b i hb => World.cell?_of_block (h.block b hb (by simp))
theorem tfree {w w' : World} (h : Touch [] w w') : ∀ b i, b < w.heap.size → w'.frozen? ⟨b, i, none⟩ = w.frozen? ⟨b, i, none⟩ := fun b i hb => by
  have := h.block b hb (by simp)
  simp [World.frozen?, this]

theorem tless {w w' : World} (h : Touch [] w w') : ∀ k, k < w.heap.size → k < w'.heap.size := fun k hk => Nat.lt_of_lt_of_le hk h.size

theorem tneL {w w' : World} (h : Touch [] w w') : ∀ k, k < w.heap.size → ¬ k = w'.heap.size := fun k hk => Nat.ne_of_lt (Nat.lt_of_lt_of_le hk h.size)
theorem tneR {w w' : World} (h : Touch [] w w') : ∀ k, k < w.heap.size → ¬ w'.heap.size = k := fun k hk => Nat.ne_of_gt (Nat.lt_of_lt_of_le hk h.size)

theorem some_set {w : World} {b i : Nat} {a : Addr} {v : Value} (h : (w.cell? ⟨b, i, none⟩).isSome = true) : ((w.setCell a v).cell? ⟨b, i, none⟩).isSome = true := by
  unfold World.cell? World.setCell at *
  simp only [Array.getElem?_modify] at *
  cases hw : w.heap[b]? with
  | none => rw [hw] at h; simp at h
  | some x =>
    rw [hw] at h
    cases x <;> simp at h
    by_cases e : a.block = b
    · by_cases e2 : a.spot.isSome = true <;> simp [e, e2, h]
    · simp [e, h]
theorem cell_same {w : World} {b i : Nat} {v : Value} (h : (w.cell? ⟨b, i, none⟩).isSome = true) : (w.setCell ⟨b, i, none⟩ v).cell? ⟨b, i, none⟩ = some v := by
  unfold World.cell? World.setCell at *
  simp only [Array.getElem?_modify] at *
  split at h <;> simp_all
theorem cell_otherB {w : World} {b i : Nat} {a : Addr} {v : Value} {o : Option Value} (h : a.block ≠ b) (k : w.cell? ⟨b, i, none⟩ = o) : (w.setCell a v).cell? ⟨b, i, none⟩ = o :=
  (World.cell?_of_block (Below.heap_setCell _ _ _ _ (by simpa using Ne.symm h))).trans k
theorem cell_otherO {w : World} {b b' i j : Nat} {v : Value} {o : Option Value} (h : j ≠ i) (k : w.cell? ⟨b, i, none⟩ = o) : (w.setCell ⟨b', j, none⟩ v).cell? ⟨b, i, none⟩ = o := by
  rw [← k]
  unfold World.cell? World.setCell
  simp only [Array.getElem?_modify]
  by_cases e : b' = b
  · subst e
    cases hw : w.heap[b']? with
    | none => simp [hw]
    | some x => cases x <;> simp [hw, Array.getElem?_setIfInBounds, h]
  · simp [e]
theorem cell_lt {w : World} {b i : Nat} {x : Value} (h : w.cell? ⟨b, i, none⟩ = some x) : b < w.heap.size := by
  unfold World.cell? at h
  cases hw : w.heap[b]? with
  | none => rw [hw] at h; simp at h
  | some o => exact block_lt hw
theorem dr_old {w : World} {b i : Nat} {v : Value} (h : w.cell? ⟨b, i, none⟩ = some v) : w.drew.cell? ⟨b, i, none⟩ = some v := h
theorem al_old {w : World} {b i : Nat} {v : Value} {o : Obj} (h : w.cell? ⟨b, i, none⟩ = some v) : (w.alloc o).cell? ⟨b, i, none⟩ = some v := by
  rw [← h]
  exact World.cell?_alloc_past _ _ _ (cell_lt h)
theorem al_new {w : World} {b i : Nat} {v : Value} {c : Array Value} {T : TypeId} (hb : b = w.heap.size) (hc : c[i]? = some v) : (w.alloc (.cells c T)).cell? ⟨b, i, none⟩ = some v := by
  subst hb
  rw [← hc]
  exact cell_at (alloc_new w (.cells c T)) i
theorem tc_old {w w' : World} {b i : Nat} {v : Value} (k : Touch [] w w') (h : w.cell? ⟨b, i, none⟩ = some v) : w'.cell? ⟨b, i, none⟩ = some v := (tcell k b i (cell_lt h)).trans h
theorem sc_same {w : World} {b i : Nat} {u v : Value} (h : w.cell? ⟨b, i, none⟩ = some u) : (w.setCell ⟨b, i, none⟩ v).cell? ⟨b, i, none⟩ = some v := cell_same (by rw [h]; rfl)
theorem sc_off {w : World} {b b' i j : Nat} {u v : Value} (hn : j ≠ i) (h : w.cell? ⟨b, i, none⟩ = some v) : (w.setCell ⟨b', j, none⟩ u).cell? ⟨b, i, none⟩ = some v := cell_otherO hn h
theorem sc_blk {w : World} {b b' i j : Nat} {u v : Value} (hn : b' ≠ b) (h : w.cell? ⟨b, i, none⟩ = some v) : (w.setCell ⟨b', j, none⟩ u).cell? ⟨b, i, none⟩ = some v := cell_otherB hn h
/-- three cells of a block -/
structure Cells3 (w : World) (b : Nat) (x y z : Value) : Prop where
  c0 : w.cell? ⟨b, 0, none⟩ = some x
  c1 : w.cell? ⟨b, 1, none⟩ = some y
  c2 : w.cell? ⟨b, 2, none⟩ = some z
theorem Cells3.lt {w : World} {b : Nat} {x y z : Value} (h : Cells3 w b x y z) : b < w.heap.size := cell_lt h.c0
theorem Cells3.go {w w' : World} {b : Nat} {x y z : Value} (h : Cells3 w b x y z) (k : Touch [] w w') : Cells3 w' b x y z :=
  ⟨(tcell k b 0 h.lt).trans h.c0, (tcell k b 1 h.lt).trans h.c1, (tcell k b 2 h.lt).trans h.c2⟩

/-- three cells of a block are laid -/
abbrev set3 (w : World) (b : Nat) (x y z : Value) : World := ((w.setCell ⟨b, 0, none⟩ x).setCell ⟨b, 1, none⟩ y).setCell ⟨b, 2, none⟩ z
def Lies (w : World) (b : Nat) : Prop := ∃ x y z, Cells3 w b x y z
theorem s3_same {w : World} {b : Nat} {x y z : Value} (h : Lies w b) : Cells3 (((w.setCell ⟨b, 0, none⟩ x).setCell ⟨b, 1, none⟩ y).setCell ⟨b, 2, none⟩ z) b x y z := by
  obtain ⟨x0, y0, z0, h⟩ := h
  exact ⟨sc_off (by decide) (sc_off (by decide) (sc_same h.c0)), sc_off (by decide) (sc_same (sc_off (by decide) h.c1)), sc_same (sc_off (by decide) (sc_off (by decide) h.c2))⟩
theorem s3_other {w : World} {b b' : Nat} {x y z u v t : Value} (hb : b' ≠ b) (h : Cells3 w b x y z) : Cells3 (((w.setCell ⟨b', 0, none⟩ u).setCell ⟨b', 1, none⟩ v).setCell ⟨b', 2, none⟩ t) b x y z :=
  ⟨sc_blk hb (sc_blk hb (sc_blk hb h.c0)), sc_blk hb (sc_blk hb (sc_blk hb h.c1)), sc_blk hb (sc_blk hb (sc_blk hb h.c2))⟩
theorem a3_new {w : World} {b : Nat} {x y z : Value} {T : TypeId} (hb : b = w.heap.size) : Cells3 (w.alloc (.cells #[x, y, z] T)) b x y z := ⟨al_new hb rfl, al_new hb rfl, al_new hb rfl⟩
theorem a3_old {w : World} {b : Nat} {x y z : Value} {o : Obj} (h : Cells3 w b x y z) : Cells3 (w.alloc o) b x y z := ⟨al_old h.c0, al_old h.c1, al_old h.c2⟩
theorem t3 {w w' : World} {b : Nat} {x y z : Value} (k : Touch [] w w') (h : Cells3 w b x y z) : Cells3 w' b x y z := h.go k
theorem l_new {w : World} {b : Nat} {x y z : Value} {T : TypeId} (hb : b = w.heap.size) : Lies (w.alloc (.cells #[x, y, z] T)) b := ⟨_, _, _, a3_new hb⟩
theorem d3 {w : World} {b : Nat} {x y z : Value} (h : Cells3 w b x y z) : Cells3 w.drew b x y z := ⟨dr_old h.c0, dr_old h.c1, dr_old h.c2⟩
theorem l_drew {w : World} {b : Nat} (h : Lies w b) : Lies w.drew b := by obtain ⟨x, y, z, h⟩ := h; exact ⟨x, y, z, d3 h⟩
theorem l_old {w : World} {b : Nat} {o : Obj} (h : Lies w b) : Lies (w.alloc o) b := by obtain ⟨x, y, z, h⟩ := h; exact ⟨x, y, z, a3_old h⟩
theorem l_tc {w w' : World} {b : Nat} (k : Touch [] w w') (h : Lies w b) : Lies w' b := by obtain ⟨x, y, z, h⟩ := h; exact ⟨x, y, z, h.go k⟩
theorem l_set {w : World} {b b' : Nat} {u v t : Value} (hb : b' ≠ b) (h : Lies w b) : Lies (((w.setCell ⟨b', 0, none⟩ u).setCell ⟨b', 1, none⟩ v).setCell ⟨b', 2, none⟩ t) b := by obtain ⟨x, y, z, h⟩ := h; exact ⟨x, y, z, s3_other hb h⟩

theorem Dig.norm_e_near (x : Dig.Dec) (hl : x.d.length ≤ 1000) (he : x.e ≤ 1000000000) (he' : -1000000000 ≤ x.e) : (Dig.norm x).e ≤ 1000000000000 ∧ -1000000000000 ≤ (Dig.norm x).e := by
  have h1 := Dig.cutL_le x.d
  have h2 : (Dig.core x.d).length ≤ (Dig.cutL x.d).length := Dig.cutR_le _
  unfold Dig.norm
  split
  · exact ⟨by decide, by decide⟩
  · constructor
    · show x.e + _ ≤ _; omega
    · show _ ≤ x.e + _; omega
theorem dec_eql (s : Bool) (d : ByteArray) (e : Int) (w : World) : (binOp .eql 23 (.agg #[.bool s, .string d, .int .i64 e]) (.agg #[.bool s, .string d, .int .i64 e])).run Tryd.prog w = .ok (.bool true) w := by
  go_simp



/-- the number, boxed, and the one that is made of it -/
structure NSt (w wr : World) (s : Bool) (d : List UInt8) (e : Int) (bx : Nat) (x : List UInt8) (ex : Int) : Prop where
  a : wr.heap[w.heap.size]? = some (.cells #[.bool s, .string (str d), .int .i64 e] 23)
  b : wr.heap[bx]? = some (.cells #[.bool s, .string (str x), .int .i64 ex] 23)
  n : w.heap.size < bx
  t : Touch [] w wr
theorem NSt.go {w wr w' : World} {s : Bool} {d : List UInt8} {e : Int} {bx : Nat} {x : List UInt8} {ex : Int} (h : NSt w wr s d e bx x ex) (k : Touch [] wr w') : NSt w w' s d e bx x ex :=
  ⟨k.keep h.a (by simp), k.keep h.b (by simp), h.n, h.t.trans k⟩

theorem digitsnorms_walk (a0_0 : Bool) (a0_1 : ByteArray) (a0_2 : Int) (a1 : Int) (a2 : Int) (w : World) (w0_1 : a0_1.size ≤ 9223372036854775807) (w0_2 : (Lit.int .i64 a0_2).wf = true) (w1 : (Lit.int .u8 a1).wf = true) (w2 : (Lit.int .u8 a2).wf = true) :
    Calls Tryd.prog 6 #[.agg #[.bool a0_0, .string a0_1, .int .i64 a0_2], .int .u8 a1, .int .u8 a2] w fun e w' => e = .returned (.bool true) ∧ Touch [] w w' := by
  obtain ⟨hn1, hn2⟩ := u8_bounds w1
  obtain ⟨hm1, hm2⟩ := u8_bounds w2
  obtain ⟨he1, he2⟩ := i64_bounds w0_2
  clear w0_2 w1 w2
  rw [str_of a0_1]
  have la : a0_1.data.toList.length ≤ 9223372036854775807 := by rw [← Lib.size_eq]; exact w0_1
  clear w0_1
  generalize a0_1.data.toList = da at *
  have za := str_size da
  obtain ⟨p, rfl⟩ : ∃ p : Nat, a1 = p := ⟨a1.toNat, by omega⟩
  obtain ⟨q, rfl⟩ : ∃ q : Nat, a2 = q := ⟨a2.toNat, by omega⟩
  have hfa := fun w => fits_any a0_0 da a0_2 w la
  generalize hfa0 : fitsB a0_0 da a0_2 = fa at hfa
  replace hfa0 : Box (fitsB a0_0 da a0_2 = fa) := ⟨hfa0⟩
  let kp_ : Exit → Act → World → Prop := bodyPost Tryd.prog Tryd.f6 (fun _ _ => True)
  refine calls_post Tryd.func6 rfl ?_
  intro Q_ hQ_
  simp only [Tryd.ntmps6, List.size_toArray, List.length_cons, List.length_nil, Nat.reduceAdd, Nat.reduceSub, Array.replicate_succ, Array.replicate_zero, List.push_toArray, List.append_toArray, List.nil_append, List.cons_append]
  go_wp2_with fail
  refine (hfa _).mono ?_
  rintro e w5 ⟨rfl, ht5⟩
  try go_simp
  have hA := ht5.keep (alloc_new _ _) (by simp)
  have hT := ((Touch.refl [] w).alloc _).trans ht5
  clear ht5 hfa
  have ca := cell_at hA
  have ia := block_lt hA
  cases fa with
  | false =>
    clear hfa0
    go_wp2_with fail
    refine (awake10 _).mono ?_
    rintro e we ⟨rfl, hte⟩
    try go_simp
    go_wp2
    (try simp only [Exit.inBlock, Exit.then])
    refine hQ_.ret (results_tmp rfl _ _ _) rfl ?_
    exact ⟨rfl, hT.trans hte⟩
  | true =>
    obtain ⟨la1, la2, la3, la4⟩ := fitsB_out hfa0.out
    clear hfa0
    replace la2 : Box (da.all Dig.dig = true) := ⟨la2⟩
    by_cases hlow : a0_2 < -900000000
    · have t1 : decide (a0_2 < -900000000) = true := by simpa using hlow
      go_wp2_with fail
      refine (awake10 _).mono ?_
      rintro e we ⟨rfl, hte⟩
      try go_simp
      go_wp2
      (try simp only [Exit.inBlock, Exit.then])
      refine hQ_.ret (results_tmp rfl _ _ _) rfl ?_
      exact ⟨rfl, hT.trans hte⟩
    have t1 : decide (a0_2 < -900000000) = false := by simpa using hlow
    go_upto_region 4 with (fail)
    have hst : NSt w (w5.alloc (.cells #[.bool a0_0, .string (str da), .int .i64 a0_2] 23)) a0_0 da a0_2 w5.heap.size da a0_2 := ⟨alloc_old hA _, alloc_new _ _, ia, hT.alloc _⟩
    clear ca ia hA hT t1
    obtain ⟨W, hW⟩ : ∃ W, W = (w5.alloc (.cells #[.bool a0_0, .string (str da), .int .i64 a0_2] 23)) := ⟨_, rfl⟩
    rw [← hW] at hst ⊢
    generalize w5.heap.size = bx at *
    clear hW w5
    go_wp2
    go_loopw [8] (fun v wr => ∃ k : Nat, k ≤ p % 20 ∧ v = .int .i64 k ∧ ∃ X : List UInt8, X.length = da.length + k ∧ Box (X = List.replicate k 48 ++ da) ∧ NSt w wr a0_0 da a0_2 bx X a0_2) (fun v _ => p % 20 - (intOf v).toNat)
    case atStart => exact ⟨0, by omega, rfl, da, rfl, ⟨rfl⟩, hst⟩
    case round =>
      obtain ⟨k, hk, rfl, X, hX, hXe, hst⟩ := hrel
      have zX := str_size X
      have cb := cell_at hst.b
      have fb := free_at hst.b
      have ib := block_lt hst.b
      by_cases hlt : k < p % 20
      · have hcat : ∀ w, (Op.stringOp .add ⟨#[48]⟩ (str X)).run Tryd.prog w = .ok (.string (str (48 :: X))) w := fun w => run_cat [48] X (by simp; omega) w
        go_wp2
        go_roundw
        case measure => simp [intOf]; omega
        case rel => exact ⟨k + 1, by omega, by go_num, 48 :: X, by rw [List.length_cons]; omega, ⟨by rw [hXe.out]; rfl⟩, set_other hst.a (by have := hst.n; simp; omega) _, set_same hst.b 1 _, hst.n, hst.t.setCell (Or.inr (by have := hst.n; simp; omega)) _⟩
      · obtain ⟨f, hf⟩ : ∃ f, f = k := ⟨_, rfl⟩
        have hfb : f ≤ 20 := by omega
        rw [← hf] at hX hXe
        clear hf cb fb ib
        go_wp2
        go_loopw [9] (fun v wr => ∃ g : Nat, g ≤ q % 20 ∧ v = .int .i64 g ∧ ∃ Y : List UInt8, Y.length = X.length + g ∧ Box (Y = X ++ List.replicate g 48) ∧ NSt w wr a0_0 da a0_2 bx Y (a0_2 - g)) (fun v _ => q % 20 - (intOf v).toNat)
        case atStart => exact ⟨0, by omega, rfl, X, rfl, ⟨by simp⟩, by simpa using hst⟩
        case round =>
          obtain ⟨g, hg, rfl, Y, hY, hYe, hst⟩ := hrel
          have zY := str_size Y
          have cb := cell_at hst.b
          have fb := free_at hst.b
          have ib := block_lt hst.b
          by_cases hlt2 : g < q % 20
          · have hcat : ∀ w, (Op.stringOp .add (str Y) ⟨#[48]⟩).run Tryd.prog w = .ok (.string (str (Y ++ [48]))) w := fun w => run_cat Y [48] (by simp; omega) w
            go_wp2
            go_roundw
            case measure => simp [intOf]; omega
            case rel => exact ⟨g + 1, by omega, by go_num, Y ++ [48], by rw [List.length_append]; simp; omega, ⟨by rw [hYe.out, List.replicate_succ', List.append_assoc]⟩, set_other (set_other hst.a (by have := hst.n; simp; omega) _) (by have := hst.n; simp; omega) _, by rw [show a0_2 - ((g + 1 : Nat) : Int) = a0_2 - g - 1 by omega]; exact set_same (set_same hst.b 1 _) 2 _, hst.n, (hst.t.setCell (Or.inr (by have := hst.n; simp; omega)) _).setCell (Or.inr (by have := hst.n; simp; omega)) _⟩
          · obtain ⟨h2, hh⟩ : ∃ h2, h2 = g := ⟨_, rfl⟩
            have hhb : h2 ≤ 20 := by omega
            rw [← hh] at hY hYe hst
            clear hh cb fb ib
            have hnorm : Box (Dig.norm ⟨a0_0, Y, a0_2 - h2⟩ = Dig.norm ⟨a0_0, da, a0_2⟩) := ⟨by
              rw [hYe.out, hXe.out, Dig.norm_back, Dig.norm_front]
              congr 2
              omega⟩
            go_upto_region 12 with (fail)
            have hna := fun w => pnorm_any ⟨a0_0, da, a0_2⟩ w (show da.length ≤ _ by omega) (show a0_2 ≤ _ by omega) (show _ ≤ a0_2 by omega)
            have hnx := fun w => pnorm_any ⟨a0_0, Y, a0_2 - h2⟩ w (show Y.length ≤ _ by omega) (show a0_2 - h2 ≤ _ by omega) (show _ ≤ a0_2 - h2 by omega)
            rw [hnorm.out] at hnx
            obtain ⟨y, hy⟩ : ∃ y, y = Dig.norm ⟨a0_0, da, a0_2⟩ := ⟨_, rfl⟩
            rw [← hy] at hna hnx
            replace hy : Box (y = Dig.norm ⟨a0_0, da, a0_2⟩) := ⟨hy⟩
            obtain ⟨sy, dy, ey⟩ := y
            simp only [dec] at hna hnx
            have hcA : ∀ w', Touch [] wr w' → ∀ i, w'.cell? ⟨w.heap.size, i, none⟩ = (#[.bool a0_0, .string (str da), .int .i64 a0_2] : Array Value)[i]? := fun w' h => cell_at (hst.go h).a
            have hcB : ∀ w', Touch [] wr w' → ∀ i, w'.cell? ⟨bx, i, none⟩ = (#[.bool a0_0, .string (str Y), .int .i64 (a0_2 - h2)] : Array Value)[i]? := fun w' h => cell_at (hst.go h).b
            go_cut [10, 11] (fun v10 v11 wx => ∃ b1 b2 : Nat, v10 = .pointer (some ⟨b1, 0, none⟩) ∧ v11 = .pointer (some ⟨b2, 0, none⟩) ∧ Cells3 wx b1 (.bool sy) (.string (str dy)) (.int .i64 ey) ∧ Cells3 wx b2 (.bool sy) (.string (str dy)) (.int .i64 ey) ∧ NSt w wx a0_0 da a0_2 bx Y (a0_2 - h2))
            case first =>
              go_region_held3 (fun w' => Touch [] wr w')
                (repeat (first | (with_reducible exact Touch.refl _ _) | (with_reducible assumption) | (with_reducible apply Touch.drew) | (with_reducible apply Touch.alloc) | ((with_reducible refine Touch.setCell ?_ ?_ _); rotate_left; focus (right; first | (simp; done) | (simp; omega) | omega)) | ((with_reducible refine Touch.trans ?_ ht1); with_reducible assumption) | ((with_reducible refine Touch.trans ?_ ht2); with_reducible assumption)))
                (first
                  | (go_at_call 24; (with_reducible refine (hna _).mono ?_); rintro e w1 ⟨rfl, ht1⟩; have hT1 : Touch [] wr w1 := Touch.trans (by assumption) ht1; have hk1 := tcell ht1; have hf1 := tfree ht1; have hs1 := tless ht1; have hl1 := tneL ht1; have hr1 := tneR ht1; have hz1 := hT1.size; have ys1 := ht1.size; (try simp at ys1); (first | (with_reducible (have h12 := ht2.trans ht1)) | (with_reducible (have h12 := (ht2.alloc _).trans ht1)) | (with_reducible (have h12 := ((ht2.alloc _).alloc _).trans ht1)) | skip); (try have hk12 := tcell h12); (try have hf12 := tfree h12); (try have hs12 := tless h12); (try have hl12 := tneL h12); (try have hr12 := tneR h12))
                  | (go_at_call 24; (with_reducible refine (hnx _).mono ?_); rintro e w2 ⟨rfl, ht2⟩; have hT2 : Touch [] wr w2 := Touch.trans (by assumption) ht2; have hk2 := tcell ht2; have hf2 := tfree ht2; have hs2 := tless ht2; have hl2 := tneL ht2; have hr2 := tneR ht2; have hz2 := hT2.size; have ys2 := ht2.size; (try simp at ys2); (first | (with_reducible (have h12 := ht1.trans ht2)) | (with_reducible (have h12 := (ht1.alloc _).trans ht2)) | (with_reducible (have h12 := ((ht1.alloc _).alloc _).trans ht2)) | skip); (try have hk12 := tcell h12); (try have hf12 := tfree h12); (try have hs12 := tless h12); (try have hl12 := tneL h12); (try have hr12 := tneR h12)))
              all_goals
                go_wp2
                go_meet
                refine ⟨_, _, rfl, rfl, ?_, ?_, hst.go ?_⟩
                · (repeat (first | (with_reducible refine l_drew ?_) | (with_reducible refine d3 ?_) | (with_reducible refine s3_same ?_) | ((with_reducible refine s3_other ?_ ?_); focus (first | exact Nat.succ_ne_self _ | exact (Nat.succ_ne_self _).symm | exact Nat.ne_of_lt ys2 | exact Nat.ne_of_gt ys2 | exact Nat.ne_of_lt ys1 | exact Nat.ne_of_gt ys1 | omega)) | ((with_reducible refine a3_new ?_); focus (first | with_reducible rfl | (simp; done))) | (with_reducible refine a3_old ?_) | (with_reducible refine t3 ht1 ?_) | (with_reducible refine t3 ht2 ?_) | ((with_reducible refine l_set ?_ ?_); focus (first | exact Nat.succ_ne_self _ | exact (Nat.succ_ne_self _).symm | exact Nat.ne_of_lt ys2 | exact Nat.ne_of_gt ys2 | exact Nat.ne_of_lt ys1 | exact Nat.ne_of_gt ys1 | omega)) | ((with_reducible refine l_new ?_); focus (first | with_reducible rfl | (simp; done))) | (with_reducible refine l_old ?_) | (with_reducible refine l_tc ht1 ?_) | (with_reducible refine l_tc ht2 ?_)))
                · (repeat (first | (with_reducible refine l_drew ?_) | (with_reducible refine d3 ?_) | (with_reducible refine s3_same ?_) | ((with_reducible refine s3_other ?_ ?_); focus (first | exact Nat.succ_ne_self _ | exact (Nat.succ_ne_self _).symm | exact Nat.ne_of_lt ys2 | exact Nat.ne_of_gt ys2 | exact Nat.ne_of_lt ys1 | exact Nat.ne_of_gt ys1 | omega)) | ((with_reducible refine a3_new ?_); focus (first | with_reducible rfl | (simp; done))) | (with_reducible refine a3_old ?_) | (with_reducible refine t3 ht1 ?_) | (with_reducible refine t3 ht2 ?_) | ((with_reducible refine l_set ?_ ?_); focus (first | exact Nat.succ_ne_self _ | exact (Nat.succ_ne_self _).symm | exact Nat.ne_of_lt ys2 | exact Nat.ne_of_gt ys2 | exact Nat.ne_of_lt ys1 | exact Nat.ne_of_gt ys1 | omega)) | ((with_reducible refine l_new ?_); focus (first | with_reducible rfl | (simp; done))) | (with_reducible refine l_old ?_) | (with_reducible refine l_tc ht1 ?_) | (with_reducible refine l_tc ht2 ?_)))
                · (repeat (first | (with_reducible exact Touch.refl _ _) | (with_reducible assumption) | (with_reducible apply Touch.drew) | (with_reducible apply Touch.alloc) | ((with_reducible refine Touch.setCell ?_ ?_ _); rotate_left; focus (right; first | (simp; done) | (simp; omega) | omega)) | ((with_reducible refine Touch.trans ?_ ht1); with_reducible assumption) | ((with_reducible refine Touch.trans ?_ ht2); with_reducible assumption)))
            case rest =>
              obtain ⟨b1, b2, rfl, rfl, q1, q2, hst'⟩ := hcut
              clear hst hcA hcB hna hnx
              have qa0 := q1.c0
              have qa1 := q1.c1
              have qa2 := q1.c2
              have qal := q1.lt
              have sdy := str_size dy
              by_cases hd : dy = []
              · have hz : sy = false ∧ ey = 0 := by
                  have h1 := hy.out
                  unfold Dig.norm at h1
                  split at h1
                  · injection h1 with h2 h3 h4
                    exact ⟨h2, h4⟩
                  · rename_i h5
                    injection h1 with h2 h3 h4
                    rw [hd] at h3
                    exact absurd h3.symm h5
                obtain ⟨rfl, rfl⟩ := hz
                subst hd
                have te : ∀ w, (binOp .neq 23 (.agg #[.bool false, .string (str []), .int .i64 0]) (.agg #[.bool false, .string ⟨#[]⟩, .int .i64 0])).run Tryd.prog w = .ok (.bool false) w := fun w => by kernel_rfl
                have tq : ∀ w, (binOp .eql 23 (.agg #[.bool false, .string (str []), .int .i64 0]) (.agg #[.bool false, .string (str []), .int .i64 0])).run Tryd.prog w = .ok (.bool true) w := fun w => by kernel_rfl
                have hcmp : Dig.cmp ⟨a0_0, da, a0_2⟩ ⟨a0_0, Y, a0_2 - h2⟩ = 0 := by
                  unfold Dig.cmp
                  rw [hnorm.out]
                  exact Dig.cmpN_self _
                obtain ⟨bw, hbw⟩ : ∃ b, b = Dig.whole ⟨a0_0, da, a0_2⟩ := ⟨_, rfl⟩
                have hbw2 : Dig.whole ⟨a0_0, Y, a0_2 - h2⟩ = bw := by
                  rw [hbw]
                  unfold Dig.whole
                  rw [hnorm.out]
                have kC := fun w => pcmp_at a0_0 da a0_2 a0_0 Y (a0_2 - h2) 0 w hcmp (by omega) (by omega) (by omega) (by omega) (by omega) (by omega)
                have kW1 := fun w => pwhole_at a0_0 da a0_2 bw w hbw.symm (by omega) (by omega) (by omega)
                have kW2 := fun w => pwhole_at a0_0 Y (a0_2 - h2) bw w hbw2 (by omega) (by omega) (by omega)
                clear hcmp hbw hbw2
                have hyb := Dig.norm_e_near ⟨a0_0, da, a0_2⟩ (show da.length ≤ _ by omega) (show a0_2 ≤ _ by omega) (show _ ≤ a0_2 by omega)
                rw [← hy.out] at hyb
                have hyl : ([] : List UInt8).length ≤ 1000000000000 := by
                  have h1 := congrArg Dig.Dec.d hy.out
                  rw [Dig.norm_d] at h1
                  have h2 := Dig.core_le da
                  rw [show ([] : List UInt8) = Dig.core da from h1]
                  omega
                have hyy : Dig.norm ⟨false, ([] : List UInt8), (0 : Int)⟩ = ⟨false, ([] : List UInt8), (0 : Int)⟩ := by
                  rw [hy.out]
                  exact Dig.norm_norm _
                have kN := fun w => pnorm_any ⟨false, ([] : List UInt8), (0 : Int)⟩ w hyl hyb.1 hyb.2
                rw [hyy] at kN
                simp only [dec] at kN
                clear hyy hyb hyl
                obtain ⟨we, hwe⟩ : ∃ b, decide ((1000000000 : Int) < (0 : Int)) = b := ⟨_, rfl⟩
                have hca : ∀ w', Touch [] wc w' → ∀ i, w'.cell? ⟨w.heap.size, i, none⟩ = (#[.bool a0_0, .string (str da), .int .i64 a0_2] : Array Value)[i]? := fun w' h => cell_at (hst'.go h).a
                have hcb : ∀ w', Touch [] wc w' → ∀ i, w'.cell? ⟨bx, i, none⟩ = (#[.bool a0_0, .string (str Y), .int .i64 (a0_2 - h2)] : Array Value)[i]? := fun w' h => cell_at (hst'.go h).b
                have hp0 : ∀ w', Touch [] wc w' → w'.cell? ⟨b1, 0, none⟩ = some (.bool false) := fun w' h => (q1.go h).c0
                have hp1 : ∀ w', Touch [] wc w' → w'.cell? ⟨b1, 1, none⟩ = some (.string (str ([] : List UInt8))) := fun w' h => (q1.go h).c1
                have hp2 : ∀ w', Touch [] wc w' → w'.cell? ⟨b1, 2, none⟩ = some (.int .i64 (0 : Int)) := fun w' h => (q1.go h).c2
                have hq0 : ∀ w', Touch [] wc w' → w'.cell? ⟨b2, 0, none⟩ = some (.bool false) := fun w' h => (q2.go h).c0
                have hq1 : ∀ w', Touch [] wc w' → w'.cell? ⟨b2, 1, none⟩ = some (.string (str ([] : List UInt8))) := fun w' h => (q2.go h).c1
                have hq2 : ∀ w', Touch [] wc w' → w'.cell? ⟨b2, 2, none⟩ = some (.int .i64 (0 : Int)) := fun w' h => (q2.go h).c2
                have hTT := hst'.t
                clear hy hnorm
                go_upto_region 15 with (fail)
                clear qa0 qa1 qa2
                cases we
                case true => exact absurd hwe (by decide)
                case false =>
                  go_region_held3 (fun w' => Touch [] wc w')
                    (repeat (first | (with_reducible exact Touch.refl _ _) | (with_reducible assumption) | (with_reducible apply Touch.drew) | (with_reducible apply Touch.alloc)))
                    (first
                      | (go_at_call 26; (with_reducible refine (kC _).mono ?_); rintro e w1 ⟨rfl, ht1⟩; have hT1 : Touch [] wc w1 := Touch.trans (by assumption) ht1)
                      | (go_at_call 28; (with_reducible refine (kW1 _).mono ?_); rintro e w2 ⟨rfl, ht2⟩; have hT2 : Touch [] wc w2 := Touch.trans (by assumption) ht2)
                      | (go_at_call 28; (with_reducible refine (kW2 _).mono ?_); rintro e w3 ⟨rfl, ht3⟩; have hT3 : Touch [] wc w3 := Touch.trans (by assumption) ht3)
                      | (go_at_call 24; (with_reducible refine (kN _).mono ?_); rintro e w4 ⟨rfl, ht4⟩; have hT4 : Touch [] wc w4 := Touch.trans (by assumption) ht4)
                      | (go_at_call 14; (with_reducible refine (awake10 _).mono ?_); rintro e w5 ⟨rfl, ht5⟩; have hT5 : Touch [] wc w5 := Touch.trans (by assumption) ht5))
                  all_goals
                    go_wp2
                    (try simp only [Exit.inBlock, Exit.then])
                    refine hQ_.ret (results_tmp rfl _ _ _) rfl ?_
                    exact ⟨rfl, hTT.trans (by assumption)⟩
              · have hl0 : 0 < dy.length := List.length_pos_iff.2 hd
                have hcd : dy = Dig.core da := by
                  have := congrArg Dig.Dec.d hy.out
                  rw [Dig.norm_d] at this
                  exact this
                obtain ⟨xf, hxf⟩ : ∃ c, dy[0]? = some c := ⟨dy[0], by simp [hl0]⟩
                obtain ⟨xl, hxl⟩ : ∃ c, dy[dy.length - 1]? = some c := ⟨dy[dy.length - 1], by simp [hl0]⟩
                have nf : xf ≠ 48 := fun q => by
                  have := Dig.core_head da
                  rw [← hcd, List.head?_eq_getElem?, hxf, q] at this
                  exact this rfl
                have nl : xl ≠ 48 := fun q => by
                  have := Dig.cutR_last (Dig.cutL da)
                  rw [show Dig.cutR (Dig.cutL da) = dy from hcd.symm, List.getLast?_eq_getElem?, hxl, q] at this
                  exact this rfl
                have tf : ((xf.toNat : Int) == 48) = false := by
                  rw [beq_eq_false_iff_ne]
                  intro q
                  exact nf (UInt8.toNat_inj.1 (by have : (48 : UInt8).toNat = 48 := rfl; omega))
                have tl : ((xl.toNat : Int) == 48) = false := by
                  rw [beq_eq_false_iff_ne]
                  intro q
                  exact nl (UInt8.toNat_inj.1 (by have : (48 : UInt8).toNat = 48 := rfl; omega))
                have i1 : ∀ w, (Instr.index 9 (.string (str dy)) (.int .i64 0)).run Tryd.prog w = .ok (.int .u8 xf.toNat) w := fun w => run_ix Tryd.underlying9 dy .i64 0 xf hxf w
                have i2 : ∀ w, (Instr.index 9 (.string (str dy)) (.int .i64 ((dy.length : Int) - 1))).run Tryd.prog w = .ok (.int .u8 xl.toNat) w := fun w => by
                  have := run_ix (P := Tryd.prog) Tryd.underlying9 dy .i64 (dy.length - 1) xl hxl w
                  rwa [show ((dy.length - 1 : Nat) : Int) = (dy.length : Int) - 1 by omega] at this
                have tn : ((dy.length : Int) == 0) = false := by simpa using hd
                have tE : ¬ str dy = ByteArray.empty := fun q => by
                  have := congrArg ByteArray.size q
                  rw [sdy] at this
                  exact hd (List.eq_nil_of_length_eq_zero this)
                have hl1 : (0 : Int) < (dy.length : Int) := by omega
                have hdl : dy.length ≤ 400 := by rw [hcd]; have := Dig.core_le da; omega
                clear hcd hxf hxl nf nl hd
                have tq := fun w => dec_eql sy (str dy) ey w
                have hcmp : Dig.cmp ⟨a0_0, da, a0_2⟩ ⟨a0_0, Y, a0_2 - h2⟩ = 0 := by
                  unfold Dig.cmp
                  rw [hnorm.out]
                  exact Dig.cmpN_self _
                obtain ⟨bw, hbw⟩ : ∃ b, b = Dig.whole ⟨a0_0, da, a0_2⟩ := ⟨_, rfl⟩
                have hbw2 : Dig.whole ⟨a0_0, Y, a0_2 - h2⟩ = bw := by
                  rw [hbw]
                  unfold Dig.whole
                  rw [hnorm.out]
                have kC := fun w => pcmp_at a0_0 da a0_2 a0_0 Y (a0_2 - h2) 0 w hcmp (by omega) (by omega) (by omega) (by omega) (by omega) (by omega)
                have kW1 := fun w => pwhole_at a0_0 da a0_2 bw w hbw.symm (by omega) (by omega) (by omega)
                have kW2 := fun w => pwhole_at a0_0 Y (a0_2 - h2) bw w hbw2 (by omega) (by omega) (by omega)
                clear hcmp hbw hbw2
                have hyb := Dig.norm_e_near ⟨a0_0, da, a0_2⟩ (show da.length ≤ _ by omega) (show a0_2 ≤ _ by omega) (show _ ≤ a0_2 by omega)
                rw [← hy.out] at hyb
                have hyl : dy.length ≤ 1000000000000 := by
                  have h1 := congrArg Dig.Dec.d hy.out
                  rw [Dig.norm_d] at h1
                  have h2 := Dig.core_le da
                  rw [show dy = Dig.core da from h1]
                  omega
                have hyy : Dig.norm ⟨sy, dy, ey⟩ = ⟨sy, dy, ey⟩ := by
                  rw [hy.out]
                  exact Dig.norm_norm _
                have kN := fun w => pnorm_any ⟨sy, dy, ey⟩ w hyl hyb.1 hyb.2
                rw [hyy] at kN
                simp only [dec] at kN
                clear hyy hyb hyl
                obtain ⟨we, hwe⟩ : ∃ b, decide ((1000000000 : Int) < ey) = b := ⟨_, rfl⟩
                have hca : ∀ w', Touch [] wc w' → ∀ i, w'.cell? ⟨w.heap.size, i, none⟩ = (#[.bool a0_0, .string (str da), .int .i64 a0_2] : Array Value)[i]? := fun w' h => cell_at (hst'.go h).a
                have hcb : ∀ w', Touch [] wc w' → ∀ i, w'.cell? ⟨bx, i, none⟩ = (#[.bool a0_0, .string (str Y), .int .i64 (a0_2 - h2)] : Array Value)[i]? := fun w' h => cell_at (hst'.go h).b
                have hp0 : ∀ w', Touch [] wc w' → w'.cell? ⟨b1, 0, none⟩ = some (.bool sy) := fun w' h => (q1.go h).c0
                have hp1 : ∀ w', Touch [] wc w' → w'.cell? ⟨b1, 1, none⟩ = some (.string (str dy)) := fun w' h => (q1.go h).c1
                have hp2 : ∀ w', Touch [] wc w' → w'.cell? ⟨b1, 2, none⟩ = some (.int .i64 ey) := fun w' h => (q1.go h).c2
                have hq0 : ∀ w', Touch [] wc w' → w'.cell? ⟨b2, 0, none⟩ = some (.bool sy) := fun w' h => (q2.go h).c0
                have hq1 : ∀ w', Touch [] wc w' → w'.cell? ⟨b2, 1, none⟩ = some (.string (str dy)) := fun w' h => (q2.go h).c1
                have hq2 : ∀ w', Touch [] wc w' → w'.cell? ⟨b2, 2, none⟩ = some (.int .i64 ey) := fun w' h => (q2.go h).c2
                have hTT := hst'.t
                clear hy hnorm
                go_upto_region 15 with (fail)
                clear qa0 qa1 qa2
                cases we
                case false =>
                  go_region_held3 (fun w' => Touch [] wc w')
                    (repeat (first | (with_reducible exact Touch.refl _ _) | (with_reducible assumption) | (with_reducible apply Touch.drew) | (with_reducible apply Touch.alloc)))
                    (first
                      | (go_at_call 26; (with_reducible refine (kC _).mono ?_); rintro e w1 ⟨rfl, ht1⟩; have hT1 : Touch [] wc w1 := Touch.trans (by assumption) ht1)
                      | (go_at_call 28; (with_reducible refine (kW1 _).mono ?_); rintro e w2 ⟨rfl, ht2⟩; have hT2 : Touch [] wc w2 := Touch.trans (by assumption) ht2)
                      | (go_at_call 28; (with_reducible refine (kW2 _).mono ?_); rintro e w3 ⟨rfl, ht3⟩; have hT3 : Touch [] wc w3 := Touch.trans (by assumption) ht3)
                      | (go_at_call 24; (with_reducible refine (kN _).mono ?_); rintro e w4 ⟨rfl, ht4⟩; have hT4 : Touch [] wc w4 := Touch.trans (by assumption) ht4)
                      | (go_at_call 14; (with_reducible refine (awake10 _).mono ?_); rintro e w5 ⟨rfl, ht5⟩; have hT5 : Touch [] wc w5 := Touch.trans (by assumption) ht5))
                  all_goals
                    go_wp2
                    (try simp only [Exit.inBlock, Exit.then])
                    refine hQ_.ret (results_tmp rfl _ _ _) rfl ?_
                    exact ⟨rfl, hTT.trans (by assumption)⟩
                case true =>
                  refine wp_region_noPanic ?_
                  refine wp_region_held_drew (S := fun w' => Touch [] wc w') (by kernel_rfl) (Touch.drew (Touch.refl [] wc)) (fun hHeld => ?_)
                  refine wpAnyH_take (i := 0) (oi := ?_) (v := ?_) ?_ ?_ ?_ ?_ (fun _ _ _ h => h) ?_ (by assumption) ?_
                  rotate_left 2
                  · (simp only [List.getElem?_toArray, List.getElem?_cons_succ, List.getElem?_cons_zero]; rfl)
                  · kernel_rfl
                  · kernel_rfl
                  · kernel_rfl
                  · refine Or.inl ⟨by rfl, ?_⟩
                    intro w hSw
                    (try dsimp only at hSw)
                    go_simp
                    try with_reducible rfl
                  try simp only [Act.put, List.setIfInBounds_toArray, List.set_cons_zero, List.set_cons_succ]
                  refine wpAnyH_take (i := 1) (oi := ?_) (v := ?_) ?_ ?_ ?_ ?_ (fun _ _ _ h => h) ?_ (by assumption) ?_
                  rotate_left 2
                  · (simp only [List.getElem?_toArray, List.getElem?_cons_succ, List.getElem?_cons_zero]; rfl)
                  · kernel_rfl
                  · kernel_rfl
                  · kernel_rfl
                  · refine Or.inl ⟨by rfl, ?_⟩
                    intro w hSw
                    (try dsimp only at hSw)
                    go_simp
                    try with_reducible rfl
                  try simp only [Act.put, List.setIfInBounds_toArray, List.set_cons_zero, List.set_cons_succ]
                  refine wpAnyH_take (i := 2) (oi := ?_) (v := ?_) ?_ ?_ ?_ ?_ (fun _ _ _ h => h) ?_ (by assumption) ?_
                  rotate_left 2
                  · (simp only [List.getElem?_toArray, List.getElem?_cons_succ, List.getElem?_cons_zero]; rfl)
                  · kernel_rfl
                  · kernel_rfl
                  · kernel_rfl
                  · refine Or.inl ⟨by rfl, ?_⟩
                    intro w hSw
                    (try dsimp only at hSw)
                    go_simp
                    try with_reducible rfl
                  try simp only [Act.put, List.setIfInBounds_toArray, List.set_cons_zero, List.set_cons_succ]
                  refine wpAnyH_take (i := 3) (oi := ?_) (v := ?_) ?_ ?_ ?_ ?_ (fun _ _ _ h => h) ?_ (by assumption) ?_
                  rotate_left 2
                  · (simp only [List.getElem?_toArray, List.getElem?_cons_succ, List.getElem?_cons_zero]; rfl)
                  · kernel_rfl
                  · kernel_rfl
                  · kernel_rfl
                  · refine Or.inl ⟨by rfl, ?_⟩
                    intro w hSw
                    (try dsimp only at hSw)
                    go_simp
                    try with_reducible rfl
                  try simp only [Act.put, List.setIfInBounds_toArray, List.set_cons_zero, List.set_cons_succ]
                  refine wpAnyH_take (i := 4) (oi := ?_) (v := ?_) ?_ ?_ ?_ ?_ (fun _ _ _ h => h) ?_ (by assumption) ?_
                  rotate_left 2
                  · (simp only [List.getElem?_toArray, List.getElem?_cons_succ, List.getElem?_cons_zero]; rfl)
                  · kernel_rfl
                  · kernel_rfl
                  · kernel_rfl
                  · refine Or.inl ⟨by rfl, ?_⟩
                    intro w hSw
                    (try dsimp only at hSw)
                    go_simp
                    try with_reducible rfl
                  try simp only [Act.put, List.setIfInBounds_toArray, List.set_cons_zero, List.set_cons_succ]
                  refine wpAnyH_take (i := 5) (oi := ?_) (v := ?_) ?_ ?_ ?_ ?_ (fun _ _ _ h => h) ?_ (by assumption) ?_
                  rotate_left 2
                  · (simp only [List.getElem?_toArray, List.getElem?_cons_succ, List.getElem?_cons_zero]; rfl)
                  · kernel_rfl
                  · kernel_rfl
                  · kernel_rfl
                  · refine Or.inl ⟨by rfl, ?_⟩
                    intro w hSw
                    (try dsimp only at hSw)
                    go_simp
                    try with_reducible rfl
                  try simp only [Act.put, List.setIfInBounds_toArray, List.set_cons_zero, List.set_cons_succ]
                  refine wpAnyH_ready (rs := [6]) (by kernel_rfl) (by simp) ?_
                  refine AllReadyH.cons (o := ?_) ?_ (fun K hK => ?_) AllReadyH.nil
                  rotate_left
                  · (simp only [List.getElem?_toArray, List.getElem?_cons_succ, List.getElem?_cons_zero]; rfl)
                  go_simp
                  refine (kC _).mono ?_
                  rintro e w1 ⟨rfl, ht1⟩
                  have hT1 : Touch [] wc w1 := Touch.trans (by assumption) ht1
                  refine hK.out _ _ hT1 (fun hHeld => ?_)
                  clear hK K
                  try simp only [Act.put, List.setIfInBounds_toArray, List.set_cons_zero, List.set_cons_succ]
                  refine wpAnyH_take (i := 7) (oi := ?_) (v := ?_) ?_ ?_ ?_ ?_ (fun _ _ _ h => h) ?_ (by assumption) ?_
                  rotate_left 2
                  · (simp only [List.getElem?_toArray, List.getElem?_cons_succ, List.getElem?_cons_zero]; rfl)
                  · kernel_rfl
                  · kernel_rfl
                  · kernel_rfl
                  · refine Or.inl ⟨by rfl, ?_⟩
                    intro w hSw
                    (try dsimp only at hSw)
                    go_simp
                    try with_reducible rfl
                  try simp only [Act.put, List.setIfInBounds_toArray, List.set_cons_zero, List.set_cons_succ]
                  refine wpAnyH_take (i := 8) (oi := ?_) (v := ?_) ?_ ?_ ?_ ?_ (fun _ _ _ h => h) ?_ (by assumption) ?_
                  rotate_left 2
                  · (simp only [List.getElem?_toArray, List.getElem?_cons_succ, List.getElem?_cons_zero]; rfl)
                  · kernel_rfl
                  · kernel_rfl
                  · kernel_rfl
                  · refine Or.inl ⟨by rfl, ?_⟩
                    intro w hSw
                    (try dsimp only at hSw)
                    go_simp
                    try with_reducible rfl
                  try simp only [Act.put, List.setIfInBounds_toArray, List.set_cons_zero, List.set_cons_succ]
                  refine wpAnyH_take (i := 9) (oi := ?_) (v := ?_) ?_ ?_ ?_ ?_ (fun _ _ _ h => h) ?_ (by assumption) ?_
                  rotate_left 2
                  · (simp only [List.getElem?_toArray, List.getElem?_cons_succ, List.getElem?_cons_zero]; rfl)
                  · kernel_rfl
                  · kernel_rfl
                  · kernel_rfl
                  · refine Or.inl ⟨by rfl, ?_⟩
                    intro w hSw
                    (try dsimp only at hSw)
                    go_simp
                    try with_reducible rfl
                  try simp only [Act.put, List.setIfInBounds_toArray, List.set_cons_zero, List.set_cons_succ]
                  refine wpAnyH_take (i := 10) (oi := ?_) (v := ?_) ?_ ?_ ?_ ?_ (fun _ _ _ h => h) ?_ (by assumption) ?_
                  rotate_left 2
                  · (simp only [List.getElem?_toArray, List.getElem?_cons_succ, List.getElem?_cons_zero]; rfl)
                  · kernel_rfl
                  · kernel_rfl
                  · kernel_rfl
                  · refine Or.inl ⟨by rfl, ?_⟩
                    intro w hSw
                    (try dsimp only at hSw)
                    go_simp
                    try with_reducible rfl
                  try simp only [Act.put, List.setIfInBounds_toArray, List.set_cons_zero, List.set_cons_succ]
                  refine wpAnyH_take (i := 12) (oi := ?_) (v := ?_) ?_ ?_ ?_ ?_ (fun _ _ _ h => h) ?_ (by assumption) ?_
                  rotate_left 2
                  · (simp only [List.getElem?_toArray, List.getElem?_cons_succ, List.getElem?_cons_zero]; rfl)
                  · kernel_rfl
                  · kernel_rfl
                  · kernel_rfl
                  · refine Or.inl ⟨by rfl, ?_⟩
                    intro w hSw
                    (try dsimp only at hSw)
                    go_simp
                    try with_reducible rfl
                  try simp only [Act.put, List.setIfInBounds_toArray, List.set_cons_zero, List.set_cons_succ]
                  refine wpAnyH_ready (rs := [11]) (by kernel_rfl) (by simp) ?_
                  refine AllReadyH.cons (o := ?_) ?_ (fun K hK => ?_) AllReadyH.nil
                  rotate_left
                  · (simp only [List.getElem?_toArray, List.getElem?_cons_succ, List.getElem?_cons_zero]; rfl)
                  go_simp
                  refine (kW1 _).mono ?_
                  rintro e w2 ⟨rfl, ht2⟩
                  have hT2 : Touch [] wc w2 := Touch.trans (by assumption) ht2
                  refine hK.out _ _ hT2 (fun hHeld => ?_)
                  clear hK K
                  try simp only [Act.put, List.setIfInBounds_toArray, List.set_cons_zero, List.set_cons_succ]
                  refine wpAnyH_ready (rs := [13]) (by kernel_rfl) (by simp) ?_
                  refine AllReadyH.cons (o := ?_) ?_ (fun K hK => ?_) AllReadyH.nil
                  rotate_left
                  · (simp only [List.getElem?_toArray, List.getElem?_cons_succ, List.getElem?_cons_zero]; rfl)
                  go_simp
                  refine (kW2 _).mono ?_
                  rintro e w3 ⟨rfl, ht3⟩
                  have hT3 : Touch [] wc w3 := Touch.trans (by assumption) ht3
                  refine hK.out _ _ hT3 (fun hHeld => ?_)
                  clear hK K
                  try simp only [Act.put, List.setIfInBounds_toArray, List.set_cons_zero, List.set_cons_succ]
                  refine wpAnyH_take (i := 14) (oi := ?_) (v := ?_) ?_ ?_ ?_ ?_ (fun _ _ _ h => h) ?_ (by assumption) ?_
                  rotate_left 2
                  · (simp only [List.getElem?_toArray, List.getElem?_cons_succ, List.getElem?_cons_zero]; rfl)
                  · kernel_rfl
                  · kernel_rfl
                  · kernel_rfl
                  · refine Or.inl ⟨by rfl, ?_⟩
                    intro w hSw
                    (try dsimp only at hSw)
                    go_simp
                    try with_reducible rfl
                  try simp only [Act.put, List.setIfInBounds_toArray, List.set_cons_zero, List.set_cons_succ]
                  refine wpAnyH_take (i := 15) (oi := ?_) (v := ?_) ?_ ?_ ?_ ?_ (fun _ _ _ h => h) ?_ (by assumption) ?_
                  rotate_left 2
                  · (simp only [List.getElem?_toArray, List.getElem?_cons_succ, List.getElem?_cons_zero]; rfl)
                  · kernel_rfl
                  · kernel_rfl
                  · kernel_rfl
                  · refine Or.inl ⟨by rfl, ?_⟩
                    intro w hSw
                    (try dsimp only at hSw)
                    go_simp
                    try with_reducible rfl
                  try simp only [Act.put, List.setIfInBounds_toArray, List.set_cons_zero, List.set_cons_succ]
                  refine wpAnyH_take (i := 16) (oi := ?_) (v := ?_) ?_ ?_ ?_ ?_ (fun _ _ _ h => h) ?_ (by assumption) ?_
                  rotate_left 2
                  · (simp only [List.getElem?_toArray, List.getElem?_cons_succ, List.getElem?_cons_zero]; rfl)
                  · kernel_rfl
                  · kernel_rfl
                  · kernel_rfl
                  · refine Or.inl ⟨by rfl, ?_⟩
                    intro w hSw
                    (try dsimp only at hSw)
                    go_simp
                    try with_reducible rfl
                  try simp only [Act.put, List.setIfInBounds_toArray, List.set_cons_zero, List.set_cons_succ]
                  refine wpAnyH_take (i := 17) (oi := ?_) (v := ?_) ?_ ?_ ?_ ?_ (fun _ _ _ h => h) ?_ (by assumption) ?_
                  rotate_left 2
                  · (simp only [List.getElem?_toArray, List.getElem?_cons_succ, List.getElem?_cons_zero]; rfl)
                  · kernel_rfl
                  · kernel_rfl
                  · kernel_rfl
                  · refine Or.inl ⟨by rfl, ?_⟩
                    intro w hSw
                    (try dsimp only at hSw)
                    go_simp
                    try with_reducible rfl
                  try simp only [Act.put, List.setIfInBounds_toArray, List.set_cons_zero, List.set_cons_succ]
                  refine wpAnyH_take (i := 18) (oi := ?_) (v := ?_) ?_ ?_ ?_ ?_ (fun _ _ _ h => h) ?_ (by assumption) ?_
                  rotate_left 2
                  · (simp only [List.getElem?_toArray, List.getElem?_cons_succ, List.getElem?_cons_zero]; rfl)
                  · kernel_rfl
                  · kernel_rfl
                  · kernel_rfl
                  · refine Or.inl ⟨by rfl, ?_⟩
                    intro w hSw
                    (try dsimp only at hSw)
                    go_simp
                    try with_reducible rfl
                  try simp only [Act.put, List.setIfInBounds_toArray, List.set_cons_zero, List.set_cons_succ]
                  refine wpAnyH_take (i := 19) (oi := ?_) (v := ?_) ?_ ?_ ?_ ?_ (fun _ _ _ h => h) ?_ (by assumption) ?_
                  rotate_left 2
                  · (simp only [List.getElem?_toArray, List.getElem?_cons_succ, List.getElem?_cons_zero]; rfl)
                  · kernel_rfl
                  · kernel_rfl
                  · kernel_rfl
                  · refine Or.inl ⟨by rfl, ?_⟩
                    intro w hSw
                    (try dsimp only at hSw)
                    go_simp
                    try with_reducible rfl
                  try simp only [Act.put, List.setIfInBounds_toArray, List.set_cons_zero, List.set_cons_succ]
                  refine wpAnyH_take (i := 20) (oi := ?_) (v := ?_) ?_ ?_ ?_ ?_ (fun _ _ _ h => h) ?_ (by assumption) ?_
                  rotate_left 2
                  · (simp only [List.getElem?_toArray, List.getElem?_cons_succ, List.getElem?_cons_zero]; rfl)
                  · kernel_rfl
                  · kernel_rfl
                  · kernel_rfl
                  · refine Or.inl ⟨by rfl, ?_⟩
                    intro w hSw
                    (try dsimp only at hSw)
                    go_simp
                    try with_reducible rfl
                  try simp only [Act.put, List.setIfInBounds_toArray, List.set_cons_zero, List.set_cons_succ]
                  refine wpAnyH_take (i := 21) (oi := ?_) (v := undef) ?_ ?_ ?_ ?_ (fun _ _ _ h => h) ?_ (by assumption) ?_
                  rotate_left
                  · (simp only [List.getElem?_toArray, List.getElem?_cons_succ, List.getElem?_cons_zero]; rfl)
                  · kernel_rfl
                  · kernel_rfl
                  · kernel_rfl
                  · exact Or.inr ⟨by rfl, rfl⟩
                  try simp only [Act.put, List.setIfInBounds_toArray, List.set_cons_zero, List.set_cons_succ]
                  refine wpAnyH_take (i := 23) (oi := ?_) (v := undef) ?_ ?_ ?_ ?_ (fun _ _ _ h => h) ?_ (by assumption) ?_
                  rotate_left
                  · (simp only [List.getElem?_toArray, List.getElem?_cons_succ, List.getElem?_cons_zero]; rfl)
                  · kernel_rfl
                  · kernel_rfl
                  · kernel_rfl
                  · exact Or.inr ⟨by rfl, rfl⟩
                  try simp only [Act.put, List.setIfInBounds_toArray, List.set_cons_zero, List.set_cons_succ]
                  refine wpAnyH_ready (rs := [22]) (by kernel_rfl) (by simp) ?_
                  refine AllReadyH.cons (o := ?_) ?_ (fun K hK => ?_) AllReadyH.nil
                  rotate_left
                  · (simp only [List.getElem?_toArray, List.getElem?_cons_succ, List.getElem?_cons_zero]; rfl)
                  rw [if_neg (by rw [Bool.not_eq_true]; rfl)]
                  refine hK.out _ _ (by assumption) (fun hHeld => ?_)
                  clear hK K
                  try simp only [Act.put, List.setIfInBounds_toArray, List.set_cons_zero, List.set_cons_succ]
                  refine wpAnyH_take (i := 24) (oi := ?_) (v := undef) ?_ ?_ ?_ ?_ (fun _ _ _ h => h) ?_ (by assumption) ?_
                  rotate_left
                  · (simp only [List.getElem?_toArray, List.getElem?_cons_succ, List.getElem?_cons_zero]; rfl)
                  · kernel_rfl
                  · kernel_rfl
                  · kernel_rfl
                  · exact Or.inr ⟨by rfl, rfl⟩
                  try simp only [Act.put, List.setIfInBounds_toArray, List.set_cons_zero, List.set_cons_succ]
                  refine wpAnyH_take (i := 25) (oi := ?_) (v := ?_) ?_ ?_ ?_ ?_ (fun _ _ _ h => h) ?_ (by assumption) ?_
                  rotate_left 2
                  · (simp only [List.getElem?_toArray, List.getElem?_cons_succ, List.getElem?_cons_zero]; rfl)
                  · kernel_rfl
                  · kernel_rfl
                  · kernel_rfl
                  · refine Or.inl ⟨by rfl, ?_⟩
                    intro w hSw
                    (try dsimp only at hSw)
                    go_simp
                    try with_reducible rfl
                  try simp only [Act.put, List.setIfInBounds_toArray, List.set_cons_zero, List.set_cons_succ]
                  refine wpAnyH_take (i := 26) (oi := ?_) (v := ?_) ?_ ?_ ?_ ?_ (fun _ _ _ h => h) ?_ (by assumption) ?_
                  rotate_left 2
                  · (simp only [List.getElem?_toArray, List.getElem?_cons_succ, List.getElem?_cons_zero]; rfl)
                  · kernel_rfl
                  · kernel_rfl
                  · kernel_rfl
                  · refine Or.inl ⟨by rfl, ?_⟩
                    intro w hSw
                    (try dsimp only at hSw)
                    go_simp
                    try with_reducible rfl
                  try simp only [Act.put, List.setIfInBounds_toArray, List.set_cons_zero, List.set_cons_succ]
                  refine wpAnyH_take (i := 27) (oi := ?_) (v := ?_) ?_ ?_ ?_ ?_ (fun _ _ _ h => h) ?_ (by assumption) ?_
                  rotate_left 2
                  · (simp only [List.getElem?_toArray, List.getElem?_cons_succ, List.getElem?_cons_zero]; rfl)
                  · kernel_rfl
                  · kernel_rfl
                  · kernel_rfl
                  · refine Or.inl ⟨by rfl, ?_⟩
                    intro w hSw
                    (try dsimp only at hSw)
                    go_simp
                    try with_reducible rfl
                  try simp only [Act.put, List.setIfInBounds_toArray, List.set_cons_zero, List.set_cons_succ]
                  refine wpAnyH_ready (rs := [28]) (by kernel_rfl) (by simp) ?_
                  refine AllReadyH.cons (o := ?_) ?_ (fun K hK => ?_) AllReadyH.nil
                  rotate_left
                  · (simp only [List.getElem?_toArray, List.getElem?_cons_succ, List.getElem?_cons_zero]; rfl)
                  go_simp
                  refine (awake10 _).mono ?_
                  rintro e w5 ⟨rfl, ht5⟩
                  have hT5 : Touch [] wc w5 := Touch.trans (by assumption) ht5
                  refine hK.out _ _ hT5 (fun hHeld => ?_)
                  clear hK K
                  try simp only [Act.put, List.setIfInBounds_toArray, List.set_cons_zero, List.set_cons_succ]
                  refine wpAnyH_take (i := 29) (oi := ?_) (v := ?_) ?_ ?_ ?_ ?_ (fun _ _ _ h => h) ?_ (by assumption) ?_
                  rotate_left 2
                  · (simp only [List.getElem?_toArray, List.getElem?_cons_succ, List.getElem?_cons_zero]; rfl)
                  · kernel_rfl
                  · kernel_rfl
                  · kernel_rfl
                  · refine Or.inl ⟨by rfl, ?_⟩
                    intro w hSw
                    (try dsimp only at hSw)
                    go_simp
                    try with_reducible rfl
                  try simp only [Act.put, List.setIfInBounds_toArray, List.set_cons_zero, List.set_cons_succ]
                  refine wpAnyH_take (i := 30) (oi := ?_) (v := ?_) ?_ ?_ ?_ ?_ (fun _ _ _ h => h) ?_ (by assumption) ?_
                  rotate_left 2
                  · (simp only [List.getElem?_toArray, List.getElem?_cons_succ, List.getElem?_cons_zero]; rfl)
                  · kernel_rfl
                  · kernel_rfl
                  · kernel_rfl
                  · refine Or.inl ⟨by rfl, ?_⟩
                    intro w hSw
                    (try dsimp only at hSw)
                    go_simp
                    try with_reducible rfl
                  try simp only [Act.put, List.setIfInBounds_toArray, List.set_cons_zero, List.set_cons_succ]
                  refine wpAnyH_done (by kernel_rfl) ?_ _
                  refine NoPanic.normal ?_
                  go_wp2
                  (try simp only [Exit.inBlock, Exit.then])
                  refine hQ_.ret (results_tmp rfl _ _ _) rfl ?_
                  exact ⟨rfl, hTT.trans hT5⟩
end Go.Proofs.YtcpfooceadgccaaDoor
