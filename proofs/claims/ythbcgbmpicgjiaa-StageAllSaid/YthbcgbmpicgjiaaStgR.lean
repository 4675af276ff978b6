/- The reference's tables: Build, Get, Blocks. -/
import Derived.Test.YthbcgbmpicgjiaaStgC
namespace Go.Proofs.Ythbcgbmpicgjiaa
open Go.RowKit
open Go.Maps (Keyed int_keyed keyOf_int_mk)
set_option maxRecDepth 100000
set_option maxHeartbeats 8000000
set_option linter.unusedVariables false
set_option linter.unusedSimpArgs false

/-- what the entries have at c, or nothing -/
def opt (l : List (Int × Int)) (c : Int) : Option Int := if ∃ e ∈ l, e.1 = c then some (Stg.lst l c) else none
def inR (c : Int) : Bool := decide (0 ≤ c ∧ c ≤ 1114111)
/-- block t is the reference's table of l -/
def RTabAt (w : World) (t : Nat) (l : List (Int × Int)) : Prop :=
  ∃ b f n, w.heap[t]? = some (.cells #[.map (some b)] 52 (0, 0)) ∧ MapAt Try.prog w 21 b f n ∧ b < t ∧
    (∀ c : Int, f (.int .i32 c) = if inR c then (opt l c).map (Value.int .i64) else none)
theorem RTabAt.keep {w w' : World} {t : Nat} {l : List (Int × Int)} (h : RTabAt w t l) (k : Touch [] w w') : RTabAt w' t l := by
  obtain ⟨b, f, n, h1, h2, h4, h3⟩ := h
  exact ⟨b, f, n, k.keep h1 (by simp), h2.keep k (by simp), h4, h3⟩
theorem RTabAt.keepF {w w' : World} {t : Nat} {l : List (Int × Int)} {F : List Nat} (h : RTabAt w t l) (k : Touch F w w') (hF : ∀ x ∈ F, t < x) : RTabAt w' t l := by
  obtain ⟨b, f, n, h1, h2, h4, h3⟩ := h
  exact ⟨b, f, n, k.keep h1 (fun q => by have := hF _ q; omega), h2.keep k (fun q => by have := hF _ q; omega), h4, h3⟩
theorem i32K : Keyed Try.prog 21 := int_keyed Try.underlying21
theorem opt_get (l : List (Int × Int)) (c : Int) : (if inR c then (opt l c).map (Value.int .i64) else none).getD (.int .i64 0) = .int .i64 (Stg.tget l c) := by
  unfold Stg.tget inR opt
  by_cases h : 0 ≤ c ∧ c ≤ 1114111
  · rw [if_pos (by simpa using h), if_pos h]
    split
    · rfl
    · rename_i q
      rw [Stg.lst_none l c fun e he x => q ⟨e, he, x⟩]
      rfl
  · rw [if_neg (by simpa using h), if_neg h]
    rfl
theorem zero3 : ∀ w, (zeroValue 3).run Try.prog w = .ok (.int .i64 0) w := fun w => by kernel_rfl
theorem rget_any (t : Nat) (l : List (Int × Int)) (c : Int) (w : World) (h : RTabAt w t l) (hc : (Lit.int .i32 c).wf = true) : Calls Try.prog 10 #[.pointer (some ⟨t, 0, none⟩), .int .i32 c] w fun e w' => e = .returned (.int .i64 (Stg.tget l c)) ∧ w = w' := by
  obtain ⟨b, f, n, h1, h2, _, h3⟩ := h
  have hlk := h2.run_lookup i32K Try.underlying50 (zero3 w) (keyOf_int_mk Try.underlying21 hc) false
  rw [h3 c, opt_get] at hlk
  replace hlk : (Instr.lookup 50 (.map (some b)) (.int .i32 c) false).run Try.prog w = .ok (.int .i64 (Stg.tget l c)) w := hlk
  have c0 := cell_at h1 0
  simp at c0
  generalize Stg.tget l c = Z at *
  clear h1 h2 h3
  let kp_ : Exit → Act → World → Prop := bodyPost Try.prog Try.f10 (fun _ _ => True)
  refine calls_post Try.func10 rfl ?_
  intro Q_ hQ_
  simp only [Try.ntmps10, List.size_toArray, List.length_cons, List.length_nil, Nat.reduceAdd, Nat.reduceSub, Array.replicate_succ, Array.replicate_zero, List.push_toArray, List.append_toArray, List.nil_append, List.cons_append]
  go_wp2
  (try simp only [Exit.inBlock, Exit.then])
  refine hQ_.ret (results_tmp rfl _ _ _) rfl ?_
  exact ⟨rfl, rfl⟩
theorem opt_snoc (l : List (Int × Int)) (e : Int × Int) (c : Int) : opt (l ++ [e]) c = if e.1 = c then some e.2 else opt l c := by
  unfold opt
  rw [Stg.lst_snoc]
  by_cases h : e.1 = c
  · rw [if_pos h, if_pos h, if_pos ⟨e, by simp, h⟩]
  · rw [if_neg h, if_neg h]
    have : (∃ x ∈ l ++ [e], x.1 = c) ↔ ∃ x ∈ l, x.1 = c := by
      constructor
      · rintro ⟨x, hx, hc⟩
        rw [List.mem_append, List.mem_singleton] at hx
        rcases hx with hx | rfl
        · exact ⟨x, hx, hc⟩
        · exact absurd hc h
      · rintro ⟨x, hx, hc⟩
        exact ⟨x, by simp [hx], hc⟩
    simp only [this]

theorem rbuild_any (A : Option Addr) (C : Nat) (l : List (Int × Int)) (w : World) (h : EntsIn w A l) (hok : EntsOk l) (hC : l.length ≤ C) (hM : C ≤ 9223372036854775807) :
    Calls Try.prog 8 #[.slice A l.length C] w fun e w' => ∃ t, e = .returned (.pointer (some ⟨t, 0, none⟩)) ∧ w.heap.size ≤ t ∧ RTabAt w' t l ∧ Touch [] w w' := by
  have hmm : ∀ w, (Instr.makeMap 50 none).run Try.prog w = .ok (.map (some w.heap.size)) (w.alloc (.map #[] 0)) := fun w => rfl
  let kp_ : Exit → Act → World → Prop := bodyPost Try.prog Try.f8 (fun _ _ => True)
  refine calls_post Try.func8 rfl ?_
  intro Q_ hQ_
  simp only [Try.ntmps8, List.size_toArray, List.length_cons, List.length_nil, Nat.reduceAdd, Nat.reduceSub, Array.replicate_succ, Array.replicate_zero, List.push_toArray, List.append_toArray, List.nil_append, List.cons_append]
  go_wp2_with fail
  obtain ⟨mb, hmb⟩ : ∃ mb, w.heap.size = mb := ⟨_, rfl⟩
  have hT0 := ((Touch.refl [] w).alloc (.map #[] 0)).alloc (.cells #[.map (some mb)] 52)
  have hm0 : MapAt Try.prog ((w.alloc (.map #[] 0)).alloc (.cells #[.map (some mb)] 52)) 21 mb (fun _ => none) 0 := by
    have := (MapAt.new (P := Try.prog) w 21).keep ((Touch.refl [] _).alloc (.cells #[.map (some mb)] 52)) (by simp)
    rw [hmb] at this
    exact this
  have ht0 : ((w.alloc (.map #[] 0)).alloc (.cells #[.map (some mb)] 52)).heap[mb + 1]? = some (.cells #[.map (some mb)] 52 (0, 0)) := by
    have := alloc_new (w.alloc (.map #[] 0)) (.cells #[.map (some mb)] 52)
    rw [World.size_alloc, hmb] at this
    exact this
  rw [hmb]
  have hwm : w.heap.size ≤ mb := by omega
  clear hmb hmm
  generalize (w.alloc (.map #[] 0)).alloc (.cells #[.map (some mb)] 52) = W0 at hT0 hm0 ht0 ⊢
  go_loopw [4] (fun v wr => ∃ (i : Nat) (f : Value → Option Value) (n : Nat), i ≤ l.length ∧ v = .int .i64 i ∧ wr.heap[mb + 1]? = some (.cells #[.map (some mb)] 52 (0, 0)) ∧ MapAt Try.prog wr 21 mb f n ∧ (∀ c : Int, f (.int .i32 c) = if inR c then (opt (l.take i) c).map (Value.int .i64) else none) ∧ Touch [] w wr) (fun v _ => l.length - (intOf v).toNat)
  case atStart => exact ⟨0, _, 0, by omega, rfl, ht0, hm0, fun c => by simp [opt], hT0⟩
  case round =>
    clear ht0 hm0 hT0 W0
    obtain ⟨i, f, n, hi, rfl, htb, hmp, hf, hT⟩ := hrel
    by_cases hlt : i < l.length
    · obtain ⟨b, off, rfl, hc⟩ := h (by omega)
      obtain ⟨z1, z2⟩ := hc _ hT i hlt
      have hok1 := hok l[i] (List.getElem_mem hlt)
      have hsnoc : l.take (i + 1) = l.take i ++ [l[i]] := by rw [List.take_succ_eq_append_getElem hlt]
      generalize l[i] = e0 at *
      obtain ⟨c, v⟩ := e0
      obtain ⟨hw1, hw2⟩ := hok1
      dsimp only at z1 z2 hw1 hw2
      have hsn := Box.mk hsnoc
      have hfx := Box.mk hf
      clear hc hsnoc hf
      by_cases hin : inR c = true
      · have hin2 : 0 ≤ c ∧ c ≤ 1114111 := by simpa [inR] using hin
        obtain ⟨i1, i2⟩ := hin2
        have hkey := keyOf_int_mk (P := Try.prog) Try.underlying21 hw1
        have c0 := cell_at htb 0
        simp at c0
        have t1 : decide (0 ≤ c) = true := by simpa using i1
        have t2 : decide (c ≤ 1114111) = true := by simpa using i2
        replace hin := Box.mk hin
        clear hw1 hw2 h hok
        go_upto_region 6 with (fail)
        go_still_tail 14, (by kernel_rfl)
        go_wp2_with (at_mapUpdate; refine wpList_update_m rfl (.tmp 31) (.tmp 36) (.tmp 41) 50 rfl i32K Try.underlying50 rfl (hmp.of_heap rfl) rfl rfl hkey ?_; intro w5 hm5 ht5)
        have htb5 := ht5.keep (drew_heap htb) (by simp)
        have hT5 : Touch [] w w5 := Touch.step hT.drew ht5 (fun x hx => .inr (by simp at hx; omega))
        have hf5 : ∀ c' : Int, mput f (.int .i32 c) (.int .i64 v) (.int .i32 c') = if inR c' then (opt (l.take (i + 1)) c').map (Value.int .i64) else none := fun c' => by
          rw [hsn.out, opt_snoc]
          by_cases q : c = c'
          · subst q
            rw [mput_same, if_pos hin.out]
            simp
          · rw [mput_other _ _ _ (by simp only [ne_eq, Value.int.injEq, true_and]; exact Ne.symm q), hfx.out c']
            dsimp only
            rw [if_neg q]
        exact ⟨⟨i + 1, _, _, hlt, by go_num, htb5, hm5, hf5, hT5⟩, by simp [intOf]; omega⟩
      · have hin2 : c < 0 ∨ 1114111 < c := by
          have : ¬ (0 ≤ c ∧ c ≤ 1114111) := by simpa [inR] using hin
          omega
        have hf2 : ∀ c' : Int, f (.int .i32 c') = if inR c' then (opt (l.take (i + 1)) c').map (Value.int .i64) else none := fun c' => by
          rw [hfx.out c', hsn.out, opt_snoc]
          by_cases q : c = c'
          · subst q; rw [if_neg hin, if_neg hin]
          · dsimp only; rw [if_neg q]
        replace hf2 := Box.mk hf2
        clear hin hw1 hw2 h hok
        rcases hin2 with q | q
        · have t1 : decide (0 ≤ c) = false := by simpa using q
          go_wp2
          exact ⟨⟨i + 1, f, n, hlt, by go_num, htb, hmp, hf2.out, hT⟩, by simp [intOf]; omega⟩
        · have t1 : decide (0 ≤ c) = true := by simp; omega
          have t2 : decide (c ≤ 1114111) = false := by simpa using q
          go_wp2
          exact ⟨⟨i + 1, f, n, hlt, by go_num, htb, hmp, hf2.out, hT⟩, by simp [intOf]; omega⟩
    · have hil : i = l.length := by omega
      subst hil
      rw [List.take_length] at hf
      have hr : RTabAt wr (mb + 1) l := ⟨mb, f, n, htb, hmp, Nat.lt_succ_self _, hf⟩
      clear hf htb hmp hlt hi
      go_wp2
      (try simp only [Exit.inBlock, Exit.then])
      refine hQ_.ret (results_tmp rfl _ _ _) rfl ?_
      exact ⟨mb + 1, rfl, by omega, hr, hT⟩
theorem refArr : WideMaps.ArrKey Try.prog 42 3 256 := ⟨Try.underlying42, by kernel_rfl, by kernel_rfl, by kernel_rfl⟩
theorem zero42 : ∀ w, (zeroValue 42).run Try.prog w = .ok (.agg (rowA Stg.zero)) w :=
  (zero_of_info (P := Try.prog) (t := 42) (v := .agg (rowA Stg.zero)) (n := 256) (by kernel_rfl)).1
/-- block n as far as the entries of m tell which places are set -/
def pb (l m : List (Int × Int)) (n : Nat) : List Int := (List.range 256).map fun j : Nat => if ∃ e ∈ m, e.1 = 256 * (n : Int) + (j : Int) then Stg.lst l (256 * (n : Int) + (j : Int)) else 0
theorem pb_len (l m : List (Int × Int)) (n : Nat) : (pb l m n).length = 256 := by simp [pb]
theorem pb_get (l m : List (Int × Int)) (n j : Nat) (hj : j < 256) : (pb l m n)[j]? = some (if ∃ e ∈ m, e.1 = 256 * (n : Int) + (j : Int) then Stg.lst l (256 * (n : Int) + (j : Int)) else 0) := by
  unfold pb
  rw [List.getElem?_map, List.getElem?_range hj]
  rfl
theorem pb_ext {l m m' : List (Int × Int)} {n : Nat} (h : ∀ j : Nat, j < 256 → ((∃ e ∈ m, e.1 = 256 * (n : Int) + (j : Int)) ↔ ∃ e ∈ m', e.1 = 256 * (n : Int) + (j : Int))) : pb l m n = pb l m' n := by
  apply List.ext_getElem?
  intro j
  by_cases hj : j < 256
  · rw [pb_get _ _ _ _ hj, pb_get _ _ _ _ hj]
    simp only [h j hj]
  · rw [List.getElem?_eq_none (by rw [pb_len]; omega), List.getElem?_eq_none (by rw [pb_len]; omega)]
theorem pb_nil (l : List (Int × Int)) (n : Nat) : pb l [] n = Stg.zero := by
  rw [← Stg.blk_nil n]
  apply List.ext_getElem?
  intro j
  by_cases hj : j < 256
  · rw [pb_get _ _ _ _ hj, Stg.blk_get _ _ _ hj]
    simp [Stg.lst_nil]
  · rw [List.getElem?_eq_none (by rw [pb_len]; omega), List.getElem?_eq_none (by rw [Stg.blk_length]; omega)]
theorem pb_all (l : List (Int × Int)) (n : Nat) : pb l l n = Stg.blk l n := by
  apply List.ext_getElem?
  intro j
  by_cases hj : j < 256
  · rw [pb_get _ _ _ _ hj, Stg.blk_get _ _ _ hj]
    split
    · rfl
    · rename_i q
      rw [Stg.lst_none _ _ fun e he x => q ⟨e, he, x⟩]
  · rw [List.getElem?_eq_none (by rw [pb_len]; omega), List.getElem?_eq_none (by rw [Stg.blk_length]; omega)]
theorem mem_snoc (m : List (Int × Int)) (e : Int × Int) (c : Int) : (∃ x ∈ m ++ [e], x.1 = c) ↔ (e.1 = c ∨ ∃ x ∈ m, x.1 = c) := by
  constructor
  · rintro ⟨x, hx, hc⟩
    rw [List.mem_append, List.mem_singleton] at hx
    rcases hx with hx | rfl
    · exact .inr ⟨x, hx, hc⟩
    · exact .inl hc
  · rintro (h | ⟨x, hx, hc⟩)
    · exact ⟨e, by simp, h⟩
    · exact ⟨x, by simp [hx], hc⟩
theorem pb_snoc_other (l m : List (Int × Int)) (e : Int × Int) (n : Nat) (h : ∀ j : Nat, j < 256 → e.1 ≠ 256 * (n : Int) + (j : Int)) : pb l (m ++ [e]) n = pb l m n :=
  pb_ext fun j hj => by
    rw [mem_snoc]
    exact ⟨fun q => q.elim (fun x => absurd x (h j hj)) id, fun q => .inr q⟩
theorem pb_snoc_same (l m : List (Int × Int)) (e : Int × Int) (n j : Nat) (hj : j < 256) (he : e.1 = 256 * (n : Int) + (j : Int)) : pb l (m ++ [e]) n = (pb l m n).set j (Stg.lst l e.1) := by
  apply List.ext_getElem?
  intro i
  rw [List.getElem?_set]
  by_cases hi : i < 256
  · rw [pb_get _ _ _ _ hi]
    by_cases q : j = i
    · subst q
      rw [if_pos rfl, if_pos ((mem_snoc _ _ _).2 (.inl he)), if_pos (by rw [pb_len]; exact hj), he]
    · rw [if_neg q, pb_get _ _ _ _ hi]
      have : (∃ x ∈ m ++ [e], x.1 = 256 * (n : Int) + (i : Int)) ↔ ∃ x ∈ m, x.1 = 256 * (n : Int) + (i : Int) := by
        rw [mem_snoc]
        exact ⟨fun x => x.elim (fun y => by omega) id, fun x => .inr x⟩
      simp only [this]
  · rw [List.getElem?_eq_none (by rw [pb_len]; omega), if_neg (by omega), List.getElem?_eq_none (by rw [pb_len]; omega)]
theorem wf_n (n : Nat) (h : n < 4352) : (Lit.int .i32 (n : Int)).wf = true := by
  have hmin2 : IntKind.i32.min = -2147483648 := rfl
  have hmax2 : IntKind.i32.max = 2147483647 := rfl
  simp only [Lit.wf, Bool.and_eq_true, decide_eq_true_eq]
  omega

theorem rowA_all (l : List Int) : (rowA l).all (·.oneCell') = true := by
  simp [rowA, Value.oneCell']
theorem rblocks_any (A : Option Addr) (C : Nat) (l : List (Int × Int)) (w : World) (h : EntsIn w A l) (hok : EntsOk l) (hC : l.length ≤ C) (hM : C ≤ 9223372036854775807) :
    Calls Try.prog 12 #[.slice A l.length C] w fun e w' => e = .returned (.int .i64 (Stg.kinds l)) ∧ Touch [] w w' := by
  have hm1 : ∀ w, (Instr.makeMap 53 none).run Try.prog w = .ok (.map (some w.heap.size)) (w.alloc (.map #[] 0)) := fun w => rfl
  have hm2 : ∀ w, (Instr.makeMap 54 none).run Try.prog w = .ok (.map (some w.heap.size)) (w.alloc (.map #[] 0)) := fun w => rfl
  have hb := rbuild_any A C l w h hok hC hM
  let kp_ : Exit → Act → World → Prop := bodyPost Try.prog Try.f12 (fun _ _ => True)
  refine calls_post Try.func12 rfl ?_
  intro Q_ hQ_
  simp only [Try.ntmps12, List.size_toArray, List.length_cons, List.length_nil, Nat.reduceAdd, Nat.reduceSub, Array.replicate_succ, Array.replicate_zero, List.push_toArray, List.append_toArray, List.nil_append, List.cons_append]
  go_wp2_with fail
  refine hb.mono ?_
  rintro e w1 ⟨t, rfl, hts, hrt, ht1⟩
  try go_simp
  clear hb
  go_wp2_with fail
  obtain ⟨mb, hmb⟩ : ∃ mb, w1.heap.size = mb := ⟨_, rfl⟩
  have hT0 := ht1.alloc (.map #[] 0)
  have hm0 : MapAt Try.prog (w1.alloc (.map #[] 0)) 21 mb (fun _ => none) 0 := by
    have := MapAt.new (P := Try.prog) w1 21
    rw [hmb] at this
    exact this
  have htm : t < mb := by
    obtain ⟨_, _, _, q, _⟩ := hrt
    have := block_lt q
    omega
  replace hrt := hrt.keep ((Touch.refl [] _).alloc (.map #[] 0))
  rw [hmb]
  have hwm : w.heap.size ≤ mb := by have := ht1.size; omega
  clear hmb hm1 ht1
  generalize w1.alloc (.map #[] 0) = W0 at hT0 hm0 hrt ⊢
  go_loopw [5] (fun v wr => ∃ (i : Nat) (f : Value → Option Value) (n : Nat), i ≤ l.length ∧ v = .int .i64 i ∧ MapAt Try.prog wr 21 mb f n ∧ (∀ k : Nat, k < 4352 → (f (.int .i32 k)).getD (.agg (rowA Stg.zero)) = .agg (rowA (pb l (l.take i) k))) ∧ RTabAt wr t l ∧ Touch [] w wr) (fun v _ => l.length - (intOf v).toNat)
  case atStart => exact ⟨0, _, 0, by omega, rfl, hm0, fun k hk => by rw [List.take_zero, pb_nil]; rfl, hrt, hT0⟩
  case round =>
    clear hm0 hT0 hrt W0
    obtain ⟨i, f, n, hi, rfl, hmp, hf, hrt, hT⟩ := hrel
    by_cases hlt : i < l.length
    · obtain ⟨b, off, rfl, hc⟩ := h (by omega)
      obtain ⟨z1, z2⟩ := hc _ hT i hlt
      have hok1 := hok l[i] (List.getElem_mem hlt)
      have hsnoc : l.take (i + 1) = l.take i ++ [l[i]] := by rw [List.take_succ_eq_append_getElem hlt]
      generalize l[i] = e0 at *
      obtain ⟨c, v⟩ := e0
      obtain ⟨hw1, hw2⟩ := hok1
      dsimp only at z1 z2 hw1 hw2
      have hsn := Box.mk hsnoc
      have hfx := Box.mk hf
      clear hc hsnoc hf z2 hw2
      by_cases hin : 0 ≤ c ∧ c ≤ 1114111
      · obtain ⟨i1, i2⟩ := hin
        obtain ⟨k, rfl⟩ : ∃ k : Nat, c = (k : Int) := ⟨c.toNat, by omega⟩
        obtain ⟨n0, hn0⟩ : ∃ n0, n0 = k / 256 := ⟨_, rfl⟩
        obtain ⟨j, hj⟩ : ∃ j, j = k % 256 := ⟨_, rfl⟩
        have hnb : n0 < 4352 := by omega
        have hjb : j < 256 := by omega
        have hkk : (k : Int) = 256 * (n0 : Int) + (j : Int) := by omega
        have xq : (k : Int) / 256 = (n0 : Int) := by omega
        have xr : (k : Int) % 256 = (j : Int) := by omega
        have xqt : (k : Int).tdiv 256 = (n0 : Int) := by rw [Int.tdiv_eq_ediv_of_nonneg (by omega)]; exact xq
        have xrt : (k : Int).tmod 256 = (j : Int) := by rw [Int.tmod_eq_emod_of_nonneg (by omega)]; exact xr
        have wq : IntKind.i32.wrap (n0 : Int) = (n0 : Int) := IntWalk.i32_in _ (by omega)
        have wj : IntKind.i32.wrap (j : Int) = (j : Int) := IntWalk.i32_in _ (by omega)
        have hkb := Box.mk hkk
        have t1 : decide ((k : Int) < 0) = false := by simp
        have t2 : decide (1114111 < (k : Int)) = false := by simp; omega
        have hkey := keyOf_int_mk (P := Try.prog) Try.underlying21 (wf_n n0 hnb)
        have hlk := hmp.run_lookup i32K Try.underlying53 (zero42 wr) hkey false
        rw [hfx.out n0 hnb] at hlk
        replace hlk : (Instr.lookup 53 (.map (some mb)) (.int .i32 (n0 : Int)) false).run Try.prog wr = .ok (.agg (rowA (pb l (l.take i) n0))) wr := hlk
        have hz42 := zero42
        have hpl : (pb l (l.take i) n0).length = 256 := pb_len _ _ _
        have hG := fun W (tt : Touch [] wr W) => rget_any t l (k : Int) W (hrt.keep tt) hw1
        have htg : Stg.tget l (k : Int) = Stg.lst l (k : Int) := by unfold Stg.tget; rw [if_pos ⟨i1, i2⟩]
        rw [htg] at hG
        clear hkk hn0 hj htg
        have hst := run_storeCells_new (P := Try.prog) wr 42 (rowA Stg.zero) (rowA (pb l (l.take i) n0)) (by rw [rowA_size, hpl]; kernel_rfl) (by rw [rowA_size, rowA_size, hpl]; exact Stg.zero_length) (rowA_all _)
        have hja : (j : Int) < 256 := by omega
        have hlc : ((rowA (pb l (l.take i) n0))[j]?).isSome = true := by rw [rowA_get, List.getElem?_eq_getElem (by rw [hpl]; exact hjb)]; rfl
        go_wp2_with fail
        refine (hG _ (by first | exact (Touch.refl _ _).alloc _ )).mono ?_
        rintro e w5 ⟨rfl, rfl⟩
        try go_simp
        go_wp2_with fail
        rw [rowA_set]
        obtain ⟨B2, hB2⟩ : ∃ B2, B2 = (pb l (l.take i) n0).set j (Stg.lst l (k : Int)) := ⟨_, rfl⟩
        rw [← hB2]
        have hB2l : B2.length = 256 := by rw [hB2, List.length_set]; exact hpl
        have hB3 : pb l (l.take (i + 1)) n0 = B2 := by rw [hsn.out, pb_snoc_same l (l.take i) _ n0 j hjb hkb.out, hB2]
        have hm6 := hmp.keep ((Touch.refl [] wr).alloc (.cells (rowA B2) 42)) (by simp)
        have hr6 := hrt.keep ((Touch.refl [] wr).alloc (.cells (rowA B2) 42))
        have hT6 := hT.alloc (.cells (rowA B2) 42)
        replace hB3 := Box.mk hB3
        clear hst hlk hB2 hlc hG hmp hrt hT
        refine wp_load_row 42 _ rfl wr.heap.size rfl _ _ (0, 0) _ (alloc_new _ _) Try.underlying42 rfl (by rw [rowA_size, hB2l]; kernel_rfl) ?_
        generalize wr.alloc (.cells (rowA B2) 42) = W6 at hm6 hr6 hT6 ⊢
        go_wp2_with (at_mapUpdate; refine wpList_update_m rfl (.tmp 40) (.tmp 42) (.tmp 43) 53 rfl i32K Try.underlying53 rfl hm6 rfl rfl hkey ?_; intro w7 hm7 ht7)
        have hr7 := hr6.keepF ht7 (by intro x hx; simp at hx; omega)
        have hT7 : Touch [] w w7 := Touch.step hT6 ht7 (fun x hx => .inr (by simp at hx; omega))
        have hf7 : ∀ q : Nat, q < 4352 → (mput f (.int .i32 (n0 : Int)) (.agg (rowA B2)) (.int .i32 (q : Int))).getD (.agg (rowA Stg.zero)) = .agg (rowA (pb l (l.take (i + 1)) q)) := fun q hq => by
          by_cases e : q = n0
          · subst e
            rw [mput_same, hB3.out]; rfl
          · rw [mput_other _ _ _ (by simp only [ne_eq, Value.int.injEq, true_and]; omega), hfx.out q hq, hsn.out, pb_snoc_other l _ _ q (fun y hy => by have := hkb.out; dsimp only; omega)]
        exact ⟨⟨i + 1, _, _, hlt, by go_num, hm7, hf7, hr7, hT7⟩, by simp [intOf]; omega⟩
      · have hin2 : c < 0 ∨ 1114111 < c := by omega
        have hf2 : ∀ k : Nat, k < 4352 → (f (.int .i32 k)).getD (.agg (rowA Stg.zero)) = .agg (rowA (pb l (l.take (i + 1)) k)) := fun k hk => by
          rw [hfx.out k hk, hsn.out, pb_snoc_other l _ _ k (fun y hy => by dsimp only; omega)]
        replace hf2 := Box.mk hf2
        clear hin hw1 h hok
        rcases hin2 with q | q
        · have t1 : decide (c < 0) = true := by simpa using q
          go_wp2
          exact ⟨⟨i + 1, f, n, hlt, by go_num, hmp, hf2.out, hrt, hT⟩, by simp [intOf]; omega⟩
        · have t1 : decide (c < 0) = false := by simp; omega
          have t2 : decide (1114111 < c) = true := by simpa using q
          go_wp2
          exact ⟨⟨i + 1, f, n, hlt, by go_num, hmp, hf2.out, hrt, hT⟩, by simp [intOf]; omega⟩
    · have hil : i = l.length := by omega
      subst hil
      have hfb : ∀ k : Nat, k < 4352 → (f (.int .i32 k)).getD (.agg (rowA Stg.zero)) = .agg (rowA (Stg.blk l k)) := fun k hk => by
        rw [hf k hk, List.take_length, pb_all]
      replace hfb := Box.mk hfb
      clear hf hlt hi hrt h
      go_wp2_with fail
      obtain ⟨kb, hkb⟩ : ∃ kb, wr.heap.size = kb := ⟨_, rfl⟩
      have hkm : mb < kb := by have := hmp.lt; omega
      have hk0 : MapAt Try.prog (wr.alloc (.map #[] 0)) 42 kb (fun _ => none) 0 := by
        have := MapAt.new (P := Try.prog) wr 42
        rw [hkb] at this
        exact this
      have hm0 := hmp.keep ((Touch.refl [] wr).alloc (.map #[] 0)) (by simp)
      have hT0 := hT.alloc (.map #[] 0)
      rw [hkb]
      have hwk : w.heap.size ≤ kb := by have := hT.size; omega
      clear hkb hmp hT hm2
      generalize wr.alloc (.map #[] 0) = W1 at hk0 hm0 hT0 ⊢
      go_loopw [9] (fun v wr => ∃ (m : Nat) (f2 : Value → Option Value), m ≤ 4352 ∧ v = .int .i32 m ∧ MapAt Try.prog wr 21 mb f n ∧ MapAt Try.prog wr 42 kb f2 (Stg.uniq (Stg.blk l) m).length ∧ (∀ B : List Int, B.length = 256 → (f2 (.agg (rowA B))).isSome = decide (B ∈ Stg.uniq (Stg.blk l) m)) ∧ Touch [] w wr) (fun v _ => 4352 - (intOf v).toNat)
      case atStart => exact ⟨0, _, by omega, rfl, hm0, hk0, fun B _ => by simp [Stg.uniq], hT0⟩
      case round =>
        clear hk0 hm0 hT0
        obtain ⟨m, f2, hm, rfl, hmp, hkp, hf2, hT⟩ := hrel
        by_cases hlt : m < 4352
        · have hkey := keyOf_int_mk (P := Try.prog) Try.underlying21 (wf_n m hlt)
          have hlk := hmp.run_lookup i32K Try.underlying53 (zero42 _) hkey false
          rw [hfb.out m hlt] at hlk
          replace hlk : (Instr.lookup 53 (.map (some mb)) (.int .i32 (m : Int)) false).run Try.prog wr = .ok (.agg (rowA (Stg.blk l m))) wr := hlk
          have hqb : (Stg.blk l m).length = 256 := Stg.blk_length _ _
          obtain ⟨lx, hkey2⟩ := keyOf_row refArr Try.underlying3 types_pos (Stg.blk l m) hqb (wf_blk hok m)
          replace hkey2 : keyOf Try.prog 42 (.agg (rowA (Stg.blk l m))) = some lx := hkey2
          have hsz : (if (f2 (.agg (rowA (Stg.blk l m)))).isSome then (Stg.uniq (Stg.blk l) m).length else (Stg.uniq (Stg.blk l) m).length + 1) = (Stg.uniq (Stg.blk l) (m + 1)).length := by
            rw [hf2 _ hqb, Stg.uniq_succ]
            by_cases q : Stg.blk l m ∈ Stg.uniq (Stg.blk l) m
            · simp [q]
            · simp [q]
          have hf3 : ∀ B : List Int, B.length = 256 → (mput f2 (.agg (rowA (Stg.blk l m))) (.bool true) (.agg (rowA B))).isSome = decide (B ∈ Stg.uniq (Stg.blk l) (m + 1)) := fun B hB => by
            by_cases q : B = Stg.blk l m
            · subst q
              rw [mput_same]
              have : Stg.blk l m ∈ Stg.uniq (Stg.blk l) (m + 1) := (Stg.mem_uniq _ _ _).2 ⟨m, by omega, rfl⟩
              simp [this]
            · rw [mput_other _ _ _ (fun x => q (by simp only [Value.agg.injEq] at x; exact ints_inj (List.toArray_inj x))), hf2 B hB, Stg.uniq_succ]
              split
              · rfl
              · simp [q]
          replace hsz := Box.mk hsz
          replace hf3 := Box.mk hf3
          clear hf2 hkey hqb
          go_wp2_with (at_mapUpdate; refine wpList_update_m (key := .agg (rowA (Stg.blk l m))) (val := .bool true) rfl (.tmp 49) (.tmp 52) _ 54 rfl (Keyed.of_law refArr.law) Try.underlying54 rfl hkp rfl rfl hkey2 ?_; intro w7 hk7 ht7)
          rw [hsz.out] at hk7
          have hm7 := hmp.keep ht7 (by simp; omega)
          have hT7 : Touch [] w w7 := Touch.step hT ht7 (fun x hx => .inr (by simp at hx; omega))
          exact ⟨⟨m + 1, _, hlt, by go_num, hm7, hk7, hf3.out, hT7⟩, by simp [intOf]; omega⟩
        · have hmq : m = 4352 := by omega
          subst hmq
          have hln := hkp.run_len Try.underlying54 3
          have hres : Box (Stg.kinds l = (Stg.uniq (Stg.blk l) 4352).length) := ⟨rfl⟩
          generalize (Stg.uniq (Stg.blk l) 4352).length = KK at hln hres
          clear hf2 hkp hmp hlt hm
          go_wp2
          (try simp only [Exit.inBlock, Exit.then])
          refine hQ_.ret (results_tmp rfl _ _ _) rfl ?_
          refine ⟨?_, hT⟩
          rw [hres.out]
          rfl
end Go.Proofs.Ythbcgbmpicgjiaa
