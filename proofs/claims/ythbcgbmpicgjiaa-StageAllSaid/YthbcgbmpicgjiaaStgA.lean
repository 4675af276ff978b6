/- The program's tables: what a table is, and the two questions. -/
import Derived.Test.YthbcgbmpicgjiaaStgK
import Derived.Test.YthbcgbmpicgjiaaStgM
import Derived.Test.YthbcgbmpicgjiaaIn
import Derived.Deep.WholeRow
import Derived.Great.BuildSlice
import Derived.Deep.RegionHeld3
import Derived.StillTailTactics
import Derived.Outline
import Derived.Deep.DeepCutAuto
import Derived.Deep.RegionLaw
namespace Go.Proofs.Ythbcgbmpicgjiaa
open Go.RowKit
open Go.Maps (Keyed)
set_option maxRecDepth 100000
set_option maxHeartbeats 8000000
set_option linter.unusedVariables false
set_option linter.unusedSimpArgs false

theorem blkArr : WideMaps.ArrKey Try.prog 43 3 256 := ⟨Try.underlying43, by kernel_rfl, by kernel_rfl, by kernel_rfl⟩
theorem types_pos : ∃ m, Try.prog.types.size = m + 1 := ⟨Try.prog.types.size - 1, by have : 0 < Try.prog.types.size := of_decide_eq_true (by kernel_rfl); omega⟩
/-- a block's cells -/
def rowA (l : List Int) : Array Value := (l.map (Value.int .i64)).toArray
theorem rowA_size (l : List Int) : (rowA l).size = l.length := by simp [rowA]
theorem rowA_get (l : List Int) (j : Nat) : (rowA l)[j]? = l[j]?.map (Value.int .i64) := by simp [rowA]
theorem rowA_set (l : List Int) (j : Nat) (z : Int) : (rowA l).setIfInBounds j (.int .i64 z) = rowA (l.set j z) := by
  unfold rowA
  rw [List.setIfInBounds_toArray, List.map_set]
theorem rowA_list (l : List Int) : (rowA l).toList = l.map (Value.int .i64) := by simp [rowA]
theorem rowA_one (l : List Int) : ∀ u ∈ (rowA l).toList, u.oneCell' = true := by
  intro u hu
  rw [rowA_list, List.mem_map] at hu
  obtain ⟨z, _, rfl⟩ := hu
  rfl
theorem fold_set : ∀ (L : List Value) (k : Nat) (cells : Array Value), cells.size = k + L.length → (L.zipIdx k).foldl (fun cs (x : Value × Nat) => cs.setIfInBounds (0 + x.2) x.1) cells = (cells.toList.take k ++ L).toArray
  | [], k, cells, h => by
    rw [List.length_nil, Nat.add_zero] at h
    rw [List.append_nil, List.take_of_length_le (by rw [Array.length_toList, h]; exact Nat.le_refl _)]
    simp
  | c :: L, k, cells, h => by
    rw [List.length_cons] at h
    rw [List.zipIdx_cons, List.foldl_cons, fold_set L (k + 1) _ (by simp; omega)]
    congr 1
    simp only [Nat.zero_add, Array.toList_setIfInBounds]
    rw [List.take_succ_eq_append_getElem (by simp; omega), List.take_set_of_le (Nat.le_refl _)]
    simp
theorem slice_one (B : List Int) (hB : B.length = 256) (w : World) : (Instr.buildSlice 45 1 #[(0, .agg (rowA B))]).run Try.prog w = .ok (.slice (some ⟨w.heap.size, 0, none⟩) 1 1) (w.alloc (.cells (rowA B) 43)) := by
  have hi : ∃ ie z, Try.prog.info? 43 = some ie ∧ ie.zero = some z ∧ ie.size = 256 := by
    have h : (Try.prog.info? 43).map (fun i => (i.zero, i.size)) = some (some (.agg (rowA Stg.zero)), 256) := by kernel_rfl
    cases hq : Try.prog.info? 43 with
    | none => simp [hq] at h
    | some i =>
      simp [hq] at h
      exact ⟨i, _, rfl, h.1, h.2⟩
  obtain ⟨ie, z, h1, h2, h3⟩ := hi
  refine run_buildSlice w _ 43 1 _ (rowA B) ie z Try.underlying45 h1 h2 (by rw [h3]; decide) (by rw [h3]; decide) ?_
  unfold Instr.fill
  simp only [h3, Nat.zero_mul, Nat.one_mul]
  have hsz : (Value.agg (rowA B)).cells.size = 256 := by show (rowA B).size = 256; rw [rowA_size, hB]
  rw [if_neg (by rw [hsz]; simp)]
  unfold Instr.fill
  congr 1
  show ((rowA B).zipIdx).foldl _ _ = _
  rw [← Array.foldl_toList, Array.toList_zipIdx]
  have := fold_set (rowA B).toList 0 ((Array.range 256).map (z.cells[· % z.cells.size]!)) (by simp [rowA_size, hB])
  rw [List.take_zero, List.nil_append] at this
  simpa using this
theorem wp_bs1 {o : Oper} {a : Act} {w : World} {K : Act → World → Prop} {Q : Exit → Act → World → Prop} (x : Operand) (ho : o.op = .buildSlice 45 1 #[(0, x)]) (B : List Int) (hB : B.length = 256) (hx : a.eval x = .agg (rowA B))
    (h : K (a.put o.dst (.slice (some ⟨w.heap.size, 0, none⟩) 1 1)) (w.alloc (.cells (rowA B) 43))) : o.wp Try.prog a w K Q := by
  unfold Oper.wp execOp
  simp only [ho, Sem.run_bind, Array.map, List.map_toArray, List.map_cons, List.map_nil, hx]
  have := slice_one B hB w
  simp [hx, this, Result.andThen_ok]
  exact h
theorem wpList_bs1 {ops : Array Oper} {rest : List Oper} {o : Oper} {a : Act} {w : World} {Q : Exit → Act → World → Prop} (hg : o.guard = none) (x : Operand) (ho : o.op = .buildSlice 45 1 #[(0, x)]) (B : List Int) (hB : B.length = 256) (hx : a.eval x = .agg (rowA B))
    (h : wpList Try.prog ops Q rest (a.put o.dst (.slice (some ⟨w.heap.size, 0, none⟩) 1 1)) (w.alloc (.cells (rowA B) 43))) : wpList Try.prog ops Q (o :: rest) a w :=
  wpList_plain hg fun _ hK => wp_bs1 x ho B hB hx (hK _ _ h)
theorem step_bs1 {ops : Array Oper} {X : Prop} {o : Oper} {a : Act} {w : World} {K : Act → World → Prop} {Q : Exit → Act → World → Prop} (hg : o.guard = none) (x : Operand) (ho : o.op = .buildSlice 45 1 #[(0, x)]) (B : List Int) (hB : B.length = 256) (hx : a.eval x = .agg (rowA B))
    (h : K (a.put o.dst (.slice (some ⟨w.heap.size, 0, none⟩) 1 1)) (w.alloc (.cells (rowA B) 43))) : if Region.wanted o (yielded ops a.tmps) = true then Oper.wp Try.prog o a w K Q else X := by
  rw [if_pos (by simp [Region.wanted, hg])]
  exact wp_bs1 x ho B hB hx h
theorem step_load_row {P : Program} {ops : Array Oper} {X : Prop} {o : Oper} {a : Act} {w : World} {K : Act → World → Prop} {Q : Exit → Act → World → Prop} (hgd : o.guard = none) (ty : TypeId) (x : Operand) (ho : o.op = .load ty x)
    (g : Nat) (hx : a.eval x = .pointer (some ⟨g, 0, none⟩)) (t : TypeId) (cs : Array Value) (fr : Nat × Nat) (d : TypeDesc) (hg : w.heap[g]? = some (.cells cs t fr))
    (hu : P.underlying ty = some d) (hd : (match d with | .struct _ | .array _ _ => true | _ => false) = true) (hi : (P.info? ty).map (·.size) = some cs.size)
    (h : K (a.put o.dst (.agg cs)) w) : if Region.wanted o (yielded ops a.tmps) = true then Oper.wp P o a w K Q else X := by
  rw [if_pos (by simp [Region.wanted, hgd])]
  exact wp_load_row ty x ho g hx t cs fr d hg hu hd hi h
/-- entries that are what they say -/
def EntsOk (l : List (Int × Int)) : Prop := ∀ e ∈ l, (Lit.int .i32 e.1).wf = true ∧ (Lit.int .i64 e.2).wf = true
theorem wf_lst {l : List (Int × Int)} (h : EntsOk l) (c : Int) : (Lit.int .i64 (Stg.lst l c)).wf = true := by
  by_cases q : ∃ e ∈ l, e.1 = c
  · obtain ⟨e, he, _, h2⟩ := Stg.lst_mem l c q
    rw [h2]
    exact (h e he).2
  · rw [Stg.lst_none l c fun e he hc => q ⟨e, he, hc⟩]
    decide
theorem wf_blk {l : List (Int × Int)} (h : EntsOk l) (n : Nat) : ∀ z ∈ Stg.blk l n, (Lit.int .i64 z).wf = true := by
  intro z hz
  unfold Stg.blk at hz
  rw [List.mem_map] at hz
  obtain ⟨j, _, rfl⟩ := hz
  exact wf_lst h _
theorem wf_zero : ∀ z ∈ Stg.zero, (Lit.int .i64 z).wf = true := by
  intro z hz
  rw [List.eq_of_mem_replicate hz]
  decide

/-- block t is the table of l -/
def TabAt (w : World) (t : Nat) (l : List (Int × Int)) : Prop :=
  ∃ cur A C g, w.heap[t]? = some (.cells cur 47 (0, 0)) ∧ cur.size = 4353 ∧ cur[4352]? = some (.slice A (Stg.kinds l) C) ∧
    SlAt w 43 256 (.slice A (Stg.kinds l) C) (Stg.kinds l) ((Stg.uniq (Stg.blk l) 4352).flatten.map (Value.int .i64)) g ∧
    (∀ n : Nat, n < 4352 → cur[n]? = some (.int .i64 ((Stg.uniq (Stg.blk l) 4352).idxOf (Stg.blk l n) : Nat)))
theorem TabAt.keep {w w' : World} {t : Nat} {l : List (Int × Int)} (h : TabAt w t l) (k : Touch [] w w') : TabAt w' t l := by
  obtain ⟨cur, A, C, g, h1, h2, h3, h4, h5⟩ := h
  exact ⟨cur, A, C, g, k.keep h1 (by simp), h2, h3, h4.keep k (fun _ _ => by simp), h5⟩

theorem in_yes (c : Int) (w : World) (h0 : 0 ≤ c) (h1 : c ≤ 1114111) : Calls Try.prog 14 #[.int .i32 c] w fun e w' => e = .returned (.bool true) ∧ w = w' := by
  let kp_ : Exit → Act → World → Prop := bodyPost Try.prog Try.f14 (fun _ _ => True)
  refine calls_post Try.func14 rfl ?_
  intro Q_ hQ_
  simp only [Try.ntmps14, List.size_toArray, List.length_cons, List.length_nil, Nat.reduceAdd, Nat.reduceSub, Array.replicate_succ, Array.replicate_zero, List.push_toArray, List.append_toArray, List.nil_append, List.cons_append]
  go_wp2
  (try simp only [Exit.inBlock, Exit.then])
  refine hQ_.ret (results_tmp rfl _ _ _) rfl ?_
  exact ⟨rfl, rfl⟩
theorem in_no (c : Int) (w : World) (h : c < 0 ∨ 1114111 < c) : Calls Try.prog 14 #[.int .i32 c] w fun e w' => e = .returned (.bool false) ∧ w = w' := by
  rcases h with h1 | h1
  · have t1 : decide (0 ≤ c) = false := by simpa using h1
    let kp_ : Exit → Act → World → Prop := bodyPost Try.prog Try.f14 (fun _ _ => True)
    refine calls_post Try.func14 rfl ?_
    intro Q_ hQ_
    simp only [Try.ntmps14, List.size_toArray, List.length_cons, List.length_nil, Nat.reduceAdd, Nat.reduceSub, Array.replicate_succ, Array.replicate_zero, List.push_toArray, List.append_toArray, List.nil_append, List.cons_append]
    go_wp2
    (try simp only [Exit.inBlock, Exit.then])
    refine hQ_.ret (results_tmp rfl _ _ _) rfl ?_
    exact ⟨rfl, rfl⟩
  · have t1 : decide (0 ≤ c) = true := by simp; omega
    have t2 : decide (c ≤ 1114111) = false := by simpa using h1
    let kp_ : Exit → Act → World → Prop := bodyPost Try.prog Try.f14 (fun _ _ => True)
    refine calls_post Try.func14 rfl ?_
    intro Q_ hQ_
    simp only [Try.ntmps14, List.size_toArray, List.length_cons, List.length_nil, Nat.reduceAdd, Nat.reduceSub, Array.replicate_succ, Array.replicate_zero, List.push_toArray, List.append_toArray, List.nil_append, List.cons_append]
    go_wp2
    (try simp only [Exit.inBlock, Exit.then])
    refine hQ_.ret (results_tmp rfl _ _ _) rfl ?_
    exact ⟨rfl, rfl⟩
theorem flat_get : ∀ (L : List (List Int)) (k j : Nat) (b : List Int), (∀ x ∈ L, x.length = 256) → L[k]? = some b → j < 256 → L.flatten[256 * k + j]? = b[j]?
  | [], k, j, b, _, h, _ => by simp at h
  | x :: L, 0, j, b, hx, h, hj => by
    simp only [List.getElem?_cons_zero, Option.some.injEq] at h
    subst h
    rw [List.flatten_cons, List.getElem?_append_left (by rw [hx x (by simp)]; omega)]
    simp
  | x :: L, k + 1, j, b, hx, h, hj => by
    rw [List.getElem?_cons_succ] at h
    have h1 := hx x (by simp)
    rw [List.flatten_cons, List.getElem?_append_right (by rw [h1]; omega), h1, show 256 * (k + 1) + j - 256 = 256 * k + j by omega]
    exact flat_get L k j b (fun y hy => hx y (by simp [hy])) h hj
theorem uniq_len {l : List (Int × Int)} {m : Nat} : ∀ x ∈ Stg.uniq (Stg.blk l) m, x.length = 256 := fun x hx => by
  obtain ⟨n, _, rfl⟩ := (Stg.mem_uniq _ _ _).1 hx
  exact Stg.blk_length _ _
theorem blocks_any (t : Nat) (l : List (Int × Int)) (w : World) (h : TabAt w t l) : Calls Try.prog 11 #[.pointer (some ⟨t, 0, none⟩)] w fun e w' => e = .returned (.int .i64 (Stg.kinds l)) ∧ w = w' := by
  obtain ⟨cur, A, C, g, h1, h2, h3, h4, h5⟩ := h
  have c1 := cell_at h1 4352
  rw [h3] at c1
  generalize Stg.kinds l = K at *
  clear h3 h5 h1 h4
  let kp_ : Exit → Act → World → Prop := bodyPost Try.prog Try.f11 (fun _ _ => True)
  refine calls_post Try.func11 rfl ?_
  intro Q_ hQ_
  simp only [Try.ntmps11, List.size_toArray, List.length_cons, List.length_nil, Nat.reduceAdd, Nat.reduceSub, Array.replicate_succ, Array.replicate_zero, List.push_toArray, List.append_toArray, List.nil_append, List.cons_append]
  go_wp2
  (try simp only [Exit.inBlock, Exit.then])
  refine hQ_.ret (results_tmp rfl _ _ _) rfl ?_
  exact ⟨rfl, rfl⟩
theorem tget_in (t : Nat) (l : List (Int × Int)) (c : Nat) (w : World) (h : TabAt w t l) (hc : c ≤ 1114111) : Calls Try.prog 9 #[.pointer (some ⟨t, 0, none⟩), .int .i32 c] w fun e w' => e = .returned (.int .i64 (Stg.lst l c)) ∧ ∃ n, w' = w.drewN n := by
  obtain ⟨cur, A, C, g, h1, h2, h3, h4, h5⟩ := h
  obtain ⟨n, hn⟩ : ∃ n, n = c / 256 := ⟨_, rfl⟩
  obtain ⟨j, hj⟩ : ∃ j, j = c % 256 := ⟨_, rfl⟩
  have hnb : n < 4352 := by omega
  have hjb : j < 256 := by omega
  have xq : (c : Int) / 256 = (n : Int) := by omega
  have xr : (c : Int) % 256 = (j : Int) := by omega
  have xqt : (c : Int).tdiv 256 = (n : Int) := by rw [Int.tdiv_eq_ediv_of_nonneg (by omega)]; exact xq
  have xrt : (c : Int).tmod 256 = (j : Int) := by rw [Int.tmod_eq_emod_of_nonneg (by omega)]; exact xr
  have wq : IntKind.i32.wrap (n : Int) = (n : Int) := IntWalk.i32_in _ (by omega)
  have wr : IntKind.i32.wrap (j : Int) = (j : Int) := IntWalk.i32_in _ (by omega)
  have hmem : Stg.blk l n ∈ Stg.uniq (Stg.blk l) 4352 := (Stg.mem_uniq _ _ _).2 ⟨n, hnb, rfl⟩
  have hcell : cur[n]? = _ := h5 n hnb
  have hidx := List.idxOf_lt_length_of_mem hmem
  have hkk : (Stg.uniq (Stg.blk l) 4352).idxOf (Stg.blk l n) < Stg.kinds l := hidx
  have hget := Stg.idx_get hmem
  have hkl := Stg.uniq_le (Stg.blk l) 4352
  have hKb : Stg.kinds l ≤ 4352 := hkl
  obtain ⟨k, hk⟩ : ∃ k, k = (Stg.uniq (Stg.blk l) 4352).idxOf (Stg.blk l n) := ⟨_, rfl⟩
  rw [← hk] at hcell hkk hget
  have hflat := flat_get _ k j _ uniq_len hget hjb
  rw [Stg.blk_get _ _ _ hjb, show (256 * (n : Int) + (j : Int)) = (c : Int) by omega] at hflat
  obtain ⟨A', C', hv, hnC, hCm, hgo⟩ := h4.form
  injection hv with e1 e2 e3
  subst e1; subst e3
  obtain ⟨G, rfl, rfl⟩ := hgo (by omega)
  have hcl := h4.cell (k := G) rfl (j := 256 * k + j) (u := .int .i64 (Stg.lst l c)) (by rw [List.getElem?_map, hflat]; rfl)
  have c1 := cell_at h1 4352
  rw [h3] at c1
  have c2 := cell_at h1 n
  rw [hcell] at c2
  have hcl' : w.cell? ⟨G, k * 256 + j, none⟩ = some (.int .i64 (Stg.lst l c)) := by rw [Nat.mul_comm k 256]; exact hcl
  have hin := fun W => in_yes (c : Int) W (by omega) (by omega)
  generalize Stg.kinds l = K at *
  generalize Stg.lst l c = Z at *
  clear h1 h2 h3 h4 h5 hn hj hcell hidx hget hkl hk hflat hgo hmem
  let kp_ : Exit → Act → World → Prop := bodyPost Try.prog Try.f9 (fun _ _ => True)
  refine calls_post Try.func9 rfl ?_
  intro Q_ hQ_
  simp only [Try.ntmps9, List.size_toArray, List.length_cons, List.length_nil, Nat.reduceAdd, Nat.reduceSub, Array.replicate_succ, Array.replicate_zero, List.push_toArray, List.append_toArray, List.nil_append, List.cons_append]
  go_wp2_with fail
  refine (hin _).mono ?_
  rintro e w1 ⟨rfl, rfl⟩
  try go_simp
  go_upto_region 3 with (fail)
  go_quiet (fail)
  go_wp2
  (try simp only [Exit.inBlock, Exit.then])
  refine hQ_.ret (results_tmp rfl _ _ _) rfl ?_
  exact ⟨rfl, _, rfl⟩
theorem tget_out (t : Nat) (c : Int) (w : World) (h : c < 0 ∨ 1114111 < c) : Calls Try.prog 9 #[.pointer (some ⟨t, 0, none⟩), .int .i32 c] w fun e w' => e = .returned (.int .i64 0) ∧ ∃ n, w' = w.drewN n := by
  have hin := fun W => in_no c W h
  clear h
  let kp_ : Exit → Act → World → Prop := bodyPost Try.prog Try.f9 (fun _ _ => True)
  refine calls_post Try.func9 rfl ?_
  intro Q_ hQ_
  simp only [Try.ntmps9, List.size_toArray, List.length_cons, List.length_nil, Nat.reduceAdd, Nat.reduceSub, Array.replicate_succ, Array.replicate_zero, List.push_toArray, List.append_toArray, List.nil_append, List.cons_append]
  go_wp2_with fail
  refine (hin _).mono ?_
  rintro e w1 ⟨rfl, rfl⟩
  try go_simp
  go_wp2
  (try simp only [Exit.inBlock, Exit.then])
  refine hQ_.ret (results_tmp rfl _ _ _) rfl ?_
  exact ⟨rfl, 0, rfl⟩
theorem tget_any (t : Nat) (l : List (Int × Int)) (c : Int) (w : World) (h : TabAt w t l) : Calls Try.prog 9 #[.pointer (some ⟨t, 0, none⟩), .int .i32 c] w fun e w' => e = .returned (.int .i64 (Stg.tget l c)) ∧ ∃ n, w' = w.drewN n := by
  unfold Stg.tget
  split
  · rename_i q
    obtain ⟨k, rfl⟩ : ∃ k : Nat, c = (k : Int) := ⟨c.toNat, by omega⟩
    exact tget_in t l k w h (by omega)
  · exact tget_out t c w (by omega)
end Go.Proofs.Ythbcgbmpicgjiaa
