/- The program's tables: Build. -/
import Derived.Test.YthbcgbmpicgjiaaStgB
namespace Go.Proofs.Ythbcgbmpicgjiaa
open Go.RowKit
open Go.Maps (Keyed)
set_option maxRecDepth 100000
set_option maxHeartbeats 8000000
set_option linter.unusedVariables false
set_option linter.unusedSimpArgs false

theorem zero40 : ∃ Z : Array Value, Z.size = 4352 ∧ (∀ n, n < 4352 → Z[n]? = some (.pointer none)) ∧ ∀ w, (zeroValue 40).run Try.prog w = .ok (.agg Z) w := by
  have h := zero_of_info (P := Try.prog) (t := 40) (v := .agg (Array.replicate 4352 (.pointer none))) (n := 4352) (by kernel_rfl)
  exact ⟨_, Array.size_replicate .., fun n hn => by rw [Array.getElem?_replicate, if_pos hn], h.1⟩
theorem zero43 : ∀ w, (zeroValue 43).run Try.prog w = .ok (.agg (rowA Stg.zero)) w :=
  (zero_of_info (P := Try.prog) (t := 43) (v := .agg (rowA Stg.zero)) (n := 256) (by kernel_rfl)).1
theorem zero47 : ∃ T : Array Value, T.size = 4353 ∧ T[4352]? = some (.slice none 0 0) ∧ ∀ w, (zeroValue 47).run Try.prog w = .ok (.agg T) w := by
  have h := zero_of_info (P := Try.prog) (t := 47) (v := .agg (Array.replicate 4352 (.int .i64 0) ++ #[.slice none 0 0])) (n := 4353) (by kernel_rfl)
  exact ⟨Array.replicate 4352 (.int .i64 0) ++ #[.slice none 0 0], by simp, (by rw [Array.getElem?_append_right (by simp)]; simp), h.1⟩
theorem slT : SliceT Try.prog 45 43 (.agg (rowA Stg.zero)) 256 2048 := ⟨Try.underlying45, by kernel_rfl, by decide, by decide, ⟨_, rfl, by kernel_rfl, by kernel_rfl, by kernel_rfl⟩⟩

theorem nw_new {wr : World} {ow n : Nat} {cur c1 c2 : Array Value} {T t1 t2 : TypeId} {pv : Value} (h : wr.heap[ow]? = some (.cells cur T (0, 0))) :
    (((wr.setCell ⟨ow, n, none⟩ pv).alloc (.cells c1 t1)).alloc (.cells c2 t2)).heap[wr.heap.size]? = some (.cells c1 t1 (0, 0)) ∧
    (((wr.setCell ⟨ow, n, none⟩ pv).alloc (.cells c1 t1)).alloc (.cells c2 t2)).heap[wr.heap.size + 1]? = some (.cells c2 t2 (0, 0)) ∧
    (((wr.setCell ⟨ow, n, none⟩ pv).alloc (.cells c1 t1)).alloc (.cells c2 t2)).heap[ow]? = some (.cells (cur.setIfInBounds n pv) T (0, 0)) ∧
    (∀ k, k < wr.heap.size → k ≠ ow → (((wr.setCell ⟨ow, n, none⟩ pv).alloc (.cells c1 t1)).alloc (.cells c2 t2)).heap[k]? = wr.heap[k]?) := by
  have hs : (wr.setCell ⟨ow, n, none⟩ pv).heap.size = wr.heap.size := World.size_setCell ..
  refine ⟨?_, ?_, ?_, fun k hk hne => ?_⟩
  · have := alloc_old (alloc_new (wr.setCell ⟨ow, n, none⟩ pv) (.cells c1 t1)) (.cells c2 t2)
    rw [hs] at this
    exact this
  · have := alloc_new ((wr.setCell ⟨ow, n, none⟩ pv).alloc (.cells c1 t1)) (.cells c2 t2)
    rw [World.size_alloc, hs] at this
    exact this
  · exact alloc_old (alloc_old (set_same h n pv) _) _
  · rw [Below.heap_alloc _ _ _ (by rw [World.size_alloc, hs]; omega), Below.heap_alloc _ _ _ (by rw [hs]; exact hk), Below.heap_setCell _ _ _ _ hne]
theorem gt_notin {t n : Nat} {g : Option Nat} (h : t ≤ n) (hg : ∀ k, g = some k → n < k) : t ∉ g.toList := fun q => by
  have := hg t (by simpa using q)
  omega
theorem build_any (A : Option Addr) (C : Nat) (l : List (Int × Int)) (w : World) (h : EntsIn w A l) (hok : EntsOk l) (hC : l.length ≤ C) (hM : C ≤ 9223372036854775807) :
    Calls Try.prog 7 #[.slice A l.length C] w fun e w' => ∃ t, e = .returned (.pointer (some ⟨t, 0, none⟩)) ∧ w.heap.size ≤ t ∧ TabAt w' t l ∧ Touch [] w w' := by
  obtain ⟨Z, hZs, hZ, hz40⟩ := zero40
  obtain ⟨T, hTs, hTn, hz47⟩ := zero47
  have hz43 := zero43
  have hmm : ∀ w, (Instr.makeMap 48 none).run Try.prog w = .ok (.map (some w.heap.size)) (w.alloc (.map #[] 0)) := fun w => rfl
  let kp_ : Exit → Act → World → Prop := bodyPost Try.prog Try.f7 (fun _ _ => True)
  refine calls_post Try.func7 rfl ?_
  intro Q_ hQ_
  simp only [Try.ntmps7, List.size_toArray, List.length_cons, List.length_nil, Nat.reduceAdd, Nat.reduceSub, Array.replicate_succ, Array.replicate_zero, List.push_toArray, List.append_toArray, List.nil_append, List.cons_append]
  go_wp2_with fail
  obtain ⟨ow, how⟩ : ∃ ow, w.heap.size = ow := ⟨_, rfl⟩
  rw [how]
  have hst : OwnAt (w.alloc (.cells Z 40)) ow Z (fun _ => none) [] := by
    subst how
    exact ⟨alloc_new _ _, hZs, hZ, fun n _ _ => Stg.blk_nil n, fun n p _ q => (by cases q), fun n m p _ _ q => (by cases q)⟩
  have hT1 : Touch [] w (w.alloc (.cells Z 40)) := (Touch.refl _ _).alloc _
  have hlt : w.heap.size ≤ ow := by omega
  clear how
  generalize w.alloc (.cells Z 40) = w1 at hst hT1 ⊢
  go_loopw [16] (fun v wr => ∃ (i : Nat) (cur : Array Value) (pt : Nat → Option Nat), i ≤ l.length ∧ v = .int .i64 i ∧ OwnAt wr ow cur pt (l.take i) ∧ Touch [] w wr) (fun v _ => l.length - (intOf v).toNat)
  case atStart => exact ⟨0, Z, _, by omega, rfl, hst, hT1⟩
  case round =>
    clear hst hT1 w1
    obtain ⟨i, cur, pt, hi, rfl, ho, hT⟩ := hrel
    by_cases hlt2 : i < l.length
    · obtain ⟨b, off, rfl, hc⟩ := h (by omega)
      obtain ⟨z1, z2⟩ := hc _ hT i hlt2
      have hok1 := hok l[i] (List.getElem_mem hlt2)
      have hsnoc : l.take (i + 1) = l.take i ++ [l[i]] := by rw [List.take_succ_eq_append_getElem hlt2]
      generalize l[i] = e0 at *
      obtain ⟨c, v⟩ := e0
      obtain ⟨hw1, hw2⟩ := hok1
      have hcb := i32_bounds hw1
      dsimp only at z1 z2 hw1 hw2 hcb
      clear hc
      by_cases hin : 0 ≤ c ∧ c ≤ 1114111
      · obtain ⟨hin1, hin2⟩ := hin
        obtain ⟨k, rfl⟩ : ∃ k : Nat, c = (k : Int) := ⟨c.toNat, by omega⟩
        obtain ⟨n, hn⟩ : ∃ n, n = k / 256 := ⟨_, rfl⟩
        obtain ⟨j, hj⟩ : ∃ j, j = k % 256 := ⟨_, rfl⟩
        have hnb : n < 4352 := by omega
        have hjb : j < 256 := by omega
        have hkk : (k : Int) = 256 * (n : Int) + (j : Int) := by omega
        have xq : (k : Int) / 256 = (n : Int) := by omega
        have xr : (k : Int) % 256 = (j : Int) := by omega
        have xqt : (k : Int).tdiv 256 = (n : Int) := by rw [Int.tdiv_eq_ediv_of_nonneg (by omega)]; exact xq
        have xrt : (k : Int).tmod 256 = (j : Int) := by rw [Int.tmod_eq_emod_of_nonneg (by omega)]; exact xr
        have wq : IntKind.i32.wrap (n : Int) = (n : Int) := IntWalk.i32_in _ (by omega)
        have wj : IntKind.i32.wrap (j : Int) = (j : Int) := IntWalk.i32_in _ (by omega)
        have hsn := Box.mk hsnoc
        have hkb := Box.mk hkk
        have hyes := fun W => in_yes (k : Int) W hin1 hin2
        clear hsnoc hkk hn hj
        have lo := block_lt ho.b
        have fo := free_at ho.b n
        have co := cell_at ho.b n
        rw [ho.c n hnb] at co
        cases hp : pt n with
        | none =>
          rw [hp] at co
          dsimp only [ptV] at co
          go_wp2_with fail
          refine (hyes _).mono ?_
          rintro e w2 ⟨rfl, rfl⟩
          try go_simp
          go_upto_region 10 with (fail)
          obtain ⟨hE, hpp, hoo, hkeep⟩ := nw_new (n := n) (pv := .pointer (some ⟨wr.heap.size + 1, 0, none⟩)) (c1 := #[.int .i32 (k : Int), .int .i64 v]) (t1 := 31) (c2 := rowA Stg.zero) (t2 := 43) ho.b
          have hT2 : Touch [] w (((wr.setCell ⟨ow, n, none⟩ (.pointer (some ⟨wr.heap.size + 1, 0, none⟩))).alloc (.cells #[.int .i32 (k : Int), .int .i64 v] 31)).alloc (.cells (rowA Stg.zero) 43)) := ((hT.setCell (.inr hlt) _).alloc _).alloc _
          generalize (((wr.setCell ⟨ow, n, none⟩ (.pointer (some ⟨wr.heap.size + 1, 0, none⟩))).alloc (.cells #[.int .i32 (k : Int), .int .i64 v] 31)).alloc (.cells (rowA Stg.zero) 43)) = W at hE hpp hoo hkeep hT2 ⊢
          clear co fo lo z1 z2
          have hpw : w.heap.size ≤ wr.heap.size + 1 := by have := hT.size; omega
          have ce0 := cell_at hE 0
          have ce1 := cell_at hE 1
          have fp := free_at hpp j
          have cp := cell_at hpp j
          rw [rowA_get, List.getElem?_eq_getElem (by first | (rw [Stg.zero_length]; exact hjb) | (rw [Stg.blk_length]; exact hjb)), Option.map_some] at cp
          have lE := block_lt hE
          simp only [List.getElem?_toArray, List.getElem?_cons_zero, List.getElem?_cons_succ] at ce0 ce1
          have hja : (j : Int) < 256 := by omega
          have hjc : (0 : Int) ≤ (j : Int) := by omega
          have hjt : ((j : Int)).toNat = j := by omega
          go_still_tail 8, (by kernel_rfl)
          go_wp2
          have hset := set_same hpp j (.int .i64 v)
          have hrest : ∀ k, k ≠ wr.heap.size + 1 → (W.setCell ⟨wr.heap.size + 1, j, none⟩ (.int .i64 v)).heap[k]? = W.heap[k]? := fun k hk => set_other rfl (Ne.symm hk) _
          have hT3 := hT2.setCell (p := ⟨wr.heap.size + 1, j, none⟩) (.inr hpw) (.int .i64 v)
          have low := block_lt ho.b
          have hN := ho.new (w' := (W.setCell ⟨wr.heap.size + 1, j, none⟩ (.int .i64 v)).drew) (p := wr.heap.size + 1) ((k : Int), v) hnb hjb hkb.out hp (by omega) ((hrest ow (by omega)).trans hoo) hset (fun q hq hqo => (hrest q (by omega)).trans (hkeep q hq hqo))
          rw [← hsn.out] at hN
          exact ⟨⟨i + 1, _, _, hlt2, by go_num, hN, hT3.drew⟩, by simp [intOf]; omega⟩
        | some p =>
          rw [hp] at co
          dsimp only [ptV] at co
          have hpl := ho.lt hnb hp
          have hpo := (ho.p n p hnb hp).1
          go_wp2_with fail
          refine (hyes _).mono ?_
          rintro e w2 ⟨rfl, rfl⟩
          try go_simp
          go_upto_region 10 with (fail)
          have hE := alloc_new wr (.cells #[.int .i32 (k : Int), .int .i64 v] 31)
          have hpp := alloc_old (ho.p n p hnb hp).2 (.cells #[.int .i32 (k : Int), .int .i64 v] 31)
          have hkeep : ∀ q, q < wr.heap.size → (wr.alloc (.cells #[.int .i32 (k : Int), .int .i64 v] 31)).heap[q]? = wr.heap[q]? := fun q hq => Below.heap_alloc _ _ _ hq
          have hT2 := hT.alloc (.cells #[.int .i32 (k : Int), .int .i64 v] 31)
          generalize wr.alloc (.cells #[.int .i32 (k : Int), .int .i64 v] 31) = W at hE hpp hkeep hT2 ⊢
          have hpw : w.heap.size ≤ p := by omega
          clear co fo lo z1 z2
          have ce0 := cell_at hE 0
          have ce1 := cell_at hE 1
          have fp := free_at hpp j
          have cp := cell_at hpp j
          rw [rowA_get, List.getElem?_eq_getElem (by first | (rw [Stg.zero_length]; exact hjb) | (rw [Stg.blk_length]; exact hjb)), Option.map_some] at cp
          have lE := block_lt hE
          simp only [List.getElem?_toArray, List.getElem?_cons_zero, List.getElem?_cons_succ] at ce0 ce1
          have hja : (j : Int) < 256 := by omega
          have hjc : (0 : Int) ≤ (j : Int) := by omega
          have hjt : ((j : Int)).toNat = j := by omega
          go_still_tail 8, (by kernel_rfl)
          go_wp2
          have hset := set_same hpp j (.int .i64 v)
          have hrest : ∀ k, k ≠ p → (W.setCell ⟨p, j, none⟩ (.int .i64 v)).heap[k]? = W.heap[k]? := fun k hk => set_other rfl (Ne.symm hk) _
          have hT3 := hT2.setCell (p := ⟨p, j, none⟩) (.inr hpw) (.int .i64 v)
          refine ⟨⟨i + 1, cur, pt, hlt2, by go_num, ?_, hT3.drew⟩, by simp [intOf]; omega⟩
          rw [hsn.out]
          refine ho.old ((k : Int), v) hnb hjb hkb.out hp hset ?_
          intro q hq hqp
          exact (hrest q hqp).trans (hkeep q hq)
      · have hno := fun W => in_no c W (by omega)
        have hsn := Box.mk hsnoc
        have hio : c < 0 ∨ 1114111 < c := by omega
        replace hio := Box.mk hio
        clear hsnoc hin
        go_wp2_with fail
        refine (hno _).mono ?_
        rintro e w2 ⟨rfl, rfl⟩
        try go_simp
        go_wp2
        refine ⟨⟨i + 1, cur, pt, hlt2, by go_num, ?_, hT.alloc _⟩, by simp [intOf]; omega⟩
        rw [hsn.out]
        exact (ho.out (c, v) hio.out).keep ((Touch.refl [] _).alloc _) (by simp) (fun _ _ _ _ => by simp)
    · have hil : i = l.length := by omega
      subst hil
      rw [List.take_length] at ho
      clear hlt2 hi
      have hown := cell_at ho.b
      have hob := ho.b
      have hos := ho.s
      have lo := block_lt ho.b
      go_wp2_with (refine wpList_load_row rfl 40 _ rfl ow rfl _ cur (0, 0) _ (by first | exact hob | exact alloc_old hob _ | exact alloc_old (alloc_old hob _) _) Try.underlying40 rfl (by rw [hos]; kernel_rfl) ?_)
      obtain ⟨t, ht⟩ : ∃ t, wr.heap.size = t := ⟨_, rfl⟩
      have hT2 := (hT.alloc (.cells T 47)).alloc (.map #[] 0)
      have hmp : MapAt Try.prog ((wr.alloc (.cells T 47)).alloc (.map #[] 0)) 43 (t + 1) (fun _ => none) 0 := by
        have := MapAt.new (P := Try.prog) (wr.alloc (.cells T 47)) 43
        rw [World.size_alloc, ht] at this
        exact this
      have htb : ((wr.alloc (.cells T 47)).alloc (.map #[] 0)).heap[t]? = some (.cells T 47 (0, 0)) := by
        have := alloc_old (alloc_new wr (.cells T 47)) (.map #[] 0)
        rw [ht] at this
        exact this
      have hsec : SecAt ((wr.alloc (.cells T 47)).alloc (.map #[] 0)) t (t + 1) ow cur T pt none 0 none (fun _ => none) 0 0 l :=
        ⟨ho.keep (((Touch.refl [] _).alloc _).alloc _) (by simp) (fun _ _ _ _ => by simp), ⟨by omega, fun n p hn q => by have := ho.lt hn q; omega⟩, htb, hTs, hTn, SlAt.nil _ _ _, fun n hn => absurd hn (by omega), hmp, fun B _ => rfl, by omega, fun k q => by cases q⟩
      rw [ht]
      have hwt : w.heap.size ≤ t := by have := hT.size; omega
      generalize (wr.alloc (.cells T 47)).alloc (.map #[] 0) = W2 at hT2 hsec ⊢
      clear hmp htb hown hob hos lo ht hT ho hz40 hmm hZ hz47 wr
      go_loopw [9, 51] (fun v9 v51 wr => ∃ (m : Nat) (ta : Array Value) (A : Option Addr) (C : Nat) (g : Option Nat) (f : Value → Option Value) (cnt : Nat), m ≤ 4352 ∧ v51 = .int .i64 m ∧ v9 = .int .i64 (emptyE l m) ∧ SecAt wr t (t + 1) ow cur ta pt A C g f cnt m l ∧ Touch [] w wr) (fun _ v _ => 4352 - (intOf v).toNat)
      case atStart => exact ⟨0, T, none, 0, none, _, 0, by omega, rfl, rfl, hsec, hT2⟩
      case round =>
        clear hsec hT2 W2
        obtain ⟨m, ta, A1, C1, g, f, cnt, hm, rfl, rfl, hs, hT⟩ := hrel
        by_cases hlt3 : m < 4352
        · have hix := ix_row (P := Try.prog) Try.underlying40 Try.underlying39 rfl (by kernel_rfl) hlt3 (hs.o.c m hlt3)
          have ct := cell_at hs.b 4352
          rw [hs.v] at ct
          have cm := cell_at hs.b m
          have fm := free_at hs.b m
          have ft := free_at hs.b 4352
          have hsm : m < ta.size := by rw [hs.s]; omega
          rw [Array.getElem?_eq_getElem hsm] at cm
          have hwt2 := block_lt hs.b
          have hua := Stg.uniq_le (Stg.blk l) m
          have hqb : (Stg.blk l m).length = 256 := Stg.blk_length _ _
          have hzq : m ≠ 4352 := by omega
          have hz3 : ∀ w, (zeroValue 3).run Try.prog w = .ok (.int .i64 0) w := fun w => by kernel_rfl
          cases hp : pt m with
          | none =>
            have hbz := hs.o.z m hlt3 hp
            rw [hp] at hix
            dsimp only [ptV] at hix
            by_cases hz : Stg.zero ∈ Stg.uniq (Stg.blk l) m
            · obtain ⟨q, hq⟩ : ∃ q, q = (Stg.uniq (Stg.blk l) m).idxOf Stg.zero := ⟨_, rfl⟩
              have hmem : Stg.blk l m ∈ Stg.uniq (Stg.blk l) m := by rw [hbz]; exact hz
              have hEm : emptyE l m = (q : Int) := by unfold emptyE; rw [if_pos hz, hq]
              have hem : Box (emptyE l (m + 1) = (q : Int)) := ⟨by rw [emptyE_same hmem, hEm]⟩
              rw [hEm]
              have hs2 := fun w' => hs.old (w' := w') hlt3 hmem
              rw [hbz, ← hq] at hs2
              have hset := set_same hs.b m (.int .i64 (q : Int))
              have hsx := Box.mk hs2
              have tq : decide ((q : Int) < 0) = false := by simp
              clear hs2 hq hmem hEm hbz hz
              generalize (Stg.uniq (Stg.blk l) m).length = L at ct hua
              go_wp2
              exact ⟨⟨m + 1, _, A1, C1, g, f, cnt, hlt3, by go_num, by rw [hem.out], hsx.out _ ((Touch.refl _ _).setCell (.inl (by simp)) _) hset, hT.setCell (.inr hwt) _⟩, by simp [intOf]; omega⟩
            · have hmem : Stg.blk l m ∉ Stg.uniq (Stg.blk l) m := by rw [hbz]; exact hz
              have hEm : emptyE l m = -1 := by unfold emptyE; rw [if_neg hz]
              have hem : Box (emptyE l (m + 1) = ((Stg.uniq (Stg.blk l) m).length : Nat)) := ⟨emptyE_new hmem hbz⟩
              rw [hEm]
              have hsl := hs.sl
              have hgt := hs.gt
              clear hEm hz
              go_wp2
              refine wp_bs1 _ rfl Stg.zero Stg.zero_length rfl ?_
              go_wp2_with (at_builtin; refine wpList_append_sl slT rfl (.tmp 75) (.tmp 77) rfl rfl (hsl.keep ((Touch.refl [] _).alloc _) (by simp)) rfl (srcAt_new (m := 1) (by rw [rowA_size, Stg.zero_length]) (rowA_one _)) (by omega) ?_; intro ad2 c2 w4 g2 hs4 ht4 hn4; have hb4 := ht4.keep (alloc_old hs.b _) (gt_notin (by omega) hgt); have c40 := cell_at hb4 4352; have c41 := cell_at hb4 m; have f40 := free_at hb4 4352; have f41 := free_at hb4 m; rw [hs.v] at c40; rw [Array.getElem?_eq_getElem hsm] at c41)
              have hb5 := set_same (set_same hb4 4352 (.slice ad2 ((Stg.uniq (Stg.blk l) m).length + 1) c2)) m (.int .i64 ((Stg.uniq (Stg.blk l) m).length : Nat))
              have hTf := (((((Touch.refl (t :: g.toList) wr).alloc (.cells (rowA Stg.zero) 43)).step ht4 (fun x hx => .inl (List.mem_cons_of_mem _ hx))).setCell (p := ⟨t, 4352, none⟩) (.inl (by simp)) (.slice ad2 ((Stg.uniq (Stg.blk l) m).length + 1) c2))).setCell (p := ⟨t, m, none⟩) (.inl (by simp)) (.int .i64 ((Stg.uniq (Stg.blk l) m).length : Nat))
              have hF : ∀ k ∈ t :: g.toList, t ≤ k := fun k hk => by
                rcases List.mem_cons.1 hk with rfl | hk
                · exact Nat.le_refl _
                · have := hgt k (by simpa using hk); omega
              have hmlt := hs.mp.lt
              have hg2 : ∀ k, g2 = some k → t + 1 < k := fun k hk => by
                rcases hn4 with q | ⟨j, j1, j2⟩
                · exact hgt k (by rw [← q, hk])
                · rw [hk] at j1; injection j1 with j1; subst j1; simp at j2; omega
              have hmp5 := hs.mp.keep hTf (fun q => (List.mem_cons.1 q).elim (fun q => by omega) (fun q => by have := hgt (t + 1) (by simpa using q); omega))
              have hsl5 := hs4.keep (((Touch.refl [t] w4).setCell (p := ⟨t, 4352, none⟩) (.inl (by simp)) (.slice ad2 ((Stg.uniq (Stg.blk l) m).length + 1) c2)).setCell (p := ⟨t, m, none⟩) (.inl (by simp)) (.int .i64 ((Stg.uniq (Stg.blk l) m).length : Nat))) (fun k hk => by have := hg2 k hk; simp; omega)
              rw [rowA_list, ← hbz] at hsl5
              have hN := hs.new hlt3 hmem hF hTf hb5 hsl5 hg2 hmp5 (fun B hB => by rw [if_neg (fun x => x.2 (x.1.trans hbz))])
              exact ⟨⟨m + 1, _, ad2, c2, g2, f, cnt, hlt3, by go_num, by rw [hem.out], hN, Touch.step hT hTf (fun x hx => .inr (Nat.le_trans hwt (hF x hx)))⟩, by simp [intOf]; omega⟩
          | some p =>
            rw [hp] at hix
            dsimp only [ptV] at hix
            obtain ⟨hpo, hpb⟩ := hs.o.p m p hlt3 hp
            have heq := equal_rows blkArr Try.underlying3 types_pos (Stg.blk l m) Stg.zero (Stg.blk_length _ _) Stg.zero_length (wf_blk hok m) wf_zero
            by_cases hbz : Stg.blk l m = Stg.zero
            · rw [decide_eq_true hbz] at heq
              replace heq : ∀ w, (Op.equalIn 10000 43 (.agg (rowA (Stg.blk l m))) (.agg (rowA Stg.zero))).run Try.prog w = .ok true w := heq
              rw [hbz] at heq
              have hpb2 := hpb
              rw [hbz] at hpb2
              by_cases hz : Stg.zero ∈ Stg.uniq (Stg.blk l) m
              · obtain ⟨q, hq⟩ : ∃ q, q = (Stg.uniq (Stg.blk l) m).idxOf Stg.zero := ⟨_, rfl⟩
                have hmem : Stg.blk l m ∈ Stg.uniq (Stg.blk l) m := by rw [hbz]; exact hz
                have hEm : emptyE l m = (q : Int) := by unfold emptyE; rw [if_pos hz, hq]
                have hem : Box (emptyE l (m + 1) = (q : Int)) := ⟨by rw [emptyE_same hmem, hEm]⟩
                rw [hEm]
                have hs2 := fun w' => hs.old (w' := w') hlt3 hmem
                rw [hbz, ← hq] at hs2
                have hset := set_same hs.b m (.int .i64 (q : Int))
                have hsx := Box.mk hs2
                have tq : decide ((q : Int) < 0) = false := by simp
                clear hs2 hq hmem hEm hbz hz
                generalize (Stg.uniq (Stg.blk l) m).length = L at ct hua
                go_wp2
                refine wp_load_row 43 _ rfl p rfl _ _ (0, 0) _ hpb2 Try.underlying43 rfl (by rw [rowA_size, Stg.zero_length]; kernel_rfl) ?_
                go_wp2
                exact ⟨⟨m + 1, _, A1, C1, g, f, cnt, hlt3, by go_num, by rw [hem.out], hsx.out _ ((Touch.refl _ _).setCell (.inl (by simp)) _) hset, hT.setCell (.inr hwt) _⟩, by simp [intOf]; omega⟩
              · have hmem : Stg.blk l m ∉ Stg.uniq (Stg.blk l) m := by rw [hbz]; exact hz
                have hEm : emptyE l m = -1 := by unfold emptyE; rw [if_neg hz]
                have hem : Box (emptyE l (m + 1) = ((Stg.uniq (Stg.blk l) m).length : Nat)) := ⟨emptyE_new hmem hbz⟩
                rw [hEm]
                have hsl := hs.sl
                have hgt := hs.gt
                clear hEm hz
                go_wp2
                refine wp_load_row 43 _ rfl p rfl _ _ (0, 0) _ hpb2 Try.underlying43 rfl (by rw [rowA_size, Stg.zero_length]; kernel_rfl) ?_
                go_wp2
                refine wp_bs1 _ rfl Stg.zero Stg.zero_length rfl ?_
                go_wp2_with (at_builtin; refine wpList_append_sl slT rfl (.tmp 75) (.tmp 77) rfl rfl (hsl.keep ((Touch.refl [] _).alloc _) (by simp)) rfl (srcAt_new (m := 1) (by rw [rowA_size, Stg.zero_length]) (rowA_one _)) (by omega) ?_; intro ad2 c2 w4 g2 hs4 ht4 hn4; have hb4 := ht4.keep (alloc_old hs.b _) (gt_notin (by omega) hgt); have c40 := cell_at hb4 4352; have c41 := cell_at hb4 m; have f40 := free_at hb4 4352; have f41 := free_at hb4 m; rw [hs.v] at c40; rw [Array.getElem?_eq_getElem hsm] at c41)
                have hb5 := set_same (set_same hb4 4352 (.slice ad2 ((Stg.uniq (Stg.blk l) m).length + 1) c2)) m (.int .i64 ((Stg.uniq (Stg.blk l) m).length : Nat))
                have hTf := (((((Touch.refl (t :: g.toList) wr).alloc (.cells (rowA Stg.zero) 43)).step ht4 (fun x hx => .inl (List.mem_cons_of_mem _ hx))).setCell (p := ⟨t, 4352, none⟩) (.inl (by simp)) (.slice ad2 ((Stg.uniq (Stg.blk l) m).length + 1) c2))).setCell (p := ⟨t, m, none⟩) (.inl (by simp)) (.int .i64 ((Stg.uniq (Stg.blk l) m).length : Nat))
                have hF : ∀ k ∈ t :: g.toList, t ≤ k := fun k hk => by
                  rcases List.mem_cons.1 hk with rfl | hk
                  · exact Nat.le_refl _
                  · have := hgt k (by simpa using hk); omega
                have hmlt := hs.mp.lt
                have hg2 : ∀ k, g2 = some k → t + 1 < k := fun k hk => by
                  rcases hn4 with q | ⟨j, j1, j2⟩
                  · exact hgt k (by rw [← q, hk])
                  · rw [hk] at j1; injection j1 with j1; subst j1; simp at j2; omega
                have hmp5 := hs.mp.keep hTf (fun q => (List.mem_cons.1 q).elim (fun q => by omega) (fun q => by have := hgt (t + 1) (by simpa using q); omega))
                have hsl5 := hs4.keep (((Touch.refl [t] w4).setCell (p := ⟨t, 4352, none⟩) (.inl (by simp)) (.slice ad2 ((Stg.uniq (Stg.blk l) m).length + 1) c2)).setCell (p := ⟨t, m, none⟩) (.inl (by simp)) (.int .i64 ((Stg.uniq (Stg.blk l) m).length : Nat))) (fun k hk => by have := hg2 k hk; simp; omega)
                rw [rowA_list, ← hbz] at hsl5
                have hN := hs.new hlt3 hmem hF hTf hb5 hsl5 hg2 hmp5 (fun B hB => by rw [if_neg (fun x => x.2 (x.1.trans hbz))])
                exact ⟨⟨m + 1, _, ad2, c2, g2, f, cnt, hlt3, by go_num, by rw [hem.out], hN, Touch.step hT hTf (fun x hx => .inr (Nat.le_trans hwt (hF x hx)))⟩, by simp [intOf]; omega⟩
            · rw [decide_eq_false hbz] at heq
              replace heq : ∀ w, (Op.equalIn 10000 43 (.agg (rowA (Stg.blk l m))) (.agg (rowA Stg.zero))).run Try.prog w = .ok false w := heq
              obtain ⟨lx, hkey⟩ := keyOf_row blkArr Try.underlying3 types_pos (Stg.blk l m) hqb (wf_blk hok m)
              replace hkey : keyOf Try.prog 43 (.agg (rowA (Stg.blk l m))) = some lx := hkey
              have hmf := hs.mf (Stg.blk l m) hqb
              have hlk := hs.mp.run_lookup (Keyed.of_law blkArr.law) Try.underlying48 (hz3 wr) hkey true
              by_cases hmem : Stg.blk l m ∈ Stg.uniq (Stg.blk l) m
              · replace hlk : (Instr.lookup 48 (.map (some (t + 1))) (.agg (rowA (Stg.blk l m))) true).run Try.prog wr = .ok (.tuple #[(f (.agg (rowA (Stg.blk l m)))).getD (.int .i64 0), .bool (f (.agg (rowA (Stg.blk l m)))).isSome]) wr := hlk
                rw [hmf, if_pos ⟨hmem, hbz⟩] at hlk
                replace hlk : (Instr.lookup 48 (.map (some (t + 1))) (.agg (rowA (Stg.blk l m))) true).run Try.prog wr = .ok (.tuple #[.int .i64 ((Stg.uniq (Stg.blk l) m).idxOf (Stg.blk l m) : Nat), .bool true]) wr := hlk
                obtain ⟨Em, hEm⟩ : ∃ Em, emptyE l m = Em := ⟨_, rfl⟩
                rw [hEm]
                have hem : Box (emptyE l (m + 1) = Em) := ⟨by rw [emptyE_same hmem, hEm]⟩
                have hs2 := fun w' => hs.old (w' := w') hlt3 hmem
                obtain ⟨q, hq⟩ : ∃ q, q = (Stg.uniq (Stg.blk l) m).idxOf (Stg.blk l m) := ⟨_, rfl⟩
                rw [← hq] at hlk hs2
                have hset := set_same hs.b m (.int .i64 (q : Int))
                have hsx := Box.mk hs2
                clear hmf hs2 hq hmem hEm hbz
                generalize (Stg.uniq (Stg.blk l) m).length = L at ct hua
                generalize Stg.blk l m = B at hlk heq hpb hqb
                go_wp2
                refine wp_load_row 43 _ rfl p rfl _ _ (0, 0) _ hpb Try.underlying43 rfl (by rw [rowA_size, hqb]; kernel_rfl) ?_
                go_wp2_with (refine wpList_load_row rfl 43 _ rfl p rfl _ _ (0, 0) _ hpb Try.underlying43 rfl (by rw [rowA_size, hqb]; kernel_rfl) ?_)
                exact ⟨⟨m + 1, _, A1, C1, g, f, cnt, hlt3, by go_num, by rw [hem.out], hsx.out _ ((Touch.refl _ _).setCell (.inl (by simp)) _) hset, hT.setCell (.inr hwt) _⟩, by simp [intOf]; omega⟩
              · --F
                have hsl := hs.sl
                have hgt := hs.gt
                have hmlt := hs.mp.lt
                obtain ⟨Em, hEm⟩ : ∃ Em, emptyE l m = Em := ⟨_, rfl⟩
                rw [hEm]
                have hem : Box (emptyE l (m + 1) = Em) := ⟨by rw [emptyE_other hmem hbz, hEm]⟩
                replace hlk : (Instr.lookup 48 (.map (some (t + 1))) (.agg (rowA (Stg.blk l m))) true).run Try.prog wr = .ok (.tuple #[(f (.agg (rowA (Stg.blk l m)))).getD (.int .i64 0), .bool (f (.agg (rowA (Stg.blk l m)))).isSome]) wr := hlk
                rw [hmf, if_neg (fun x => hmem x.1)] at hlk
                replace hlk : (Instr.lookup 48 (.map (some (t + 1))) (.agg (rowA (Stg.blk l m))) true).run Try.prog wr = .ok (.tuple #[.int .i64 0, .bool false]) wr := hlk
                obtain ⟨w2, hup, hmp2, ht2⟩ := hs.mp.run_update (v := .int .i64 ((Stg.uniq (Stg.blk l) m).length : Nat)) (Keyed.of_law blkArr.law) Try.underlying48 hkey
                have hpb2 := ht2.keep hpb (by simp; have := hs.o.lt hlt3 hp; have := hs.ol.2 m p hlt3 hp; omega)
                have hb2 := ht2.keep hs.b (by simp)
                have hsl2 := hsl.keep ht2 (fun k hk => by have := hgt k hk; simp; omega)
                have d0 := cell_at hb2 4352
                rw [hs.v] at d0
                have d1 := cell_at hb2 m
                rw [Array.getElem?_eq_getElem hsm] at d1
                have g0 := free_at hb2 4352
                have g1 := free_at hb2 m
                have l2 := block_lt hb2
                clear hEm hmf
                go_wp2
                refine wp_load_row 43 _ rfl p rfl _ _ (0, 0) _ hpb Try.underlying43 rfl (by rw [rowA_size, hqb]; kernel_rfl) ?_
                go_wp2_with (refine wpList_load_row rfl 43 _ rfl p rfl _ _ (0, 0) _ hpb Try.underlying43 rfl (by rw [rowA_size, hqb]; kernel_rfl) ?_)
                clear ct cm fm ft hlk hup h hix heq hkey hz3 hz43 hTs hTn hZs hC hM hok hpb hp
                refine wp_region_noPanic ?_
                refine wp_region_any (by kernel_rfl) ?_
                change wpAny _ _ _ _ _ _ _ (World.drew _)
                refine wpAny_take (i := 0) (oi := ?_) (v := ?_) ?_ (by kernel_rfl) (by kernel_rfl) (by kernel_rfl) (fun _ _ _ h => h) ?_ ?_
                rotate_left 2
                · (simp only [List.getElem?_toArray, List.getElem?_cons_succ, List.getElem?_cons_zero]; rfl)
                · refine Or.inl ⟨by rfl, ?_⟩
                  intro w
                  go_simp
                  try with_reducible rfl
                try simp only [Act.put, List.setIfInBounds_toArray, List.set_cons_zero, List.set_cons_succ]
                refine wpAny_take (i := 1) (oi := ?_) (v := ?_) ?_ (by kernel_rfl) (by kernel_rfl) (by kernel_rfl) (fun _ _ _ h => h) ?_ ?_
                rotate_left 2
                · (simp only [List.getElem?_toArray, List.getElem?_cons_succ, List.getElem?_cons_zero]; rfl)
                · refine Or.inl ⟨by rfl, ?_⟩
                  intro w
                  go_simp
                  try with_reducible rfl
                try simp only [Act.put, List.setIfInBounds_toArray, List.set_cons_zero, List.set_cons_succ]
                refine wpAny_take (i := 2) (oi := ?_) (v := ?_) ?_ (by kernel_rfl) (by kernel_rfl) (by kernel_rfl) (fun _ _ _ h => h) ?_ ?_
                rotate_left 2
                · (simp only [List.getElem?_toArray, List.getElem?_cons_succ, List.getElem?_cons_zero]; rfl)
                · refine Or.inl ⟨by rfl, ?_⟩
                  intro w
                  go_simp
                  try with_reducible rfl
                try simp only [Act.put, List.setIfInBounds_toArray, List.set_cons_zero, List.set_cons_succ]
                refine wpAny_take (i := 3) (oi := ?_) (v := ?_) ?_ (by kernel_rfl) (by kernel_rfl) (by kernel_rfl) (fun _ _ _ h => h) ?_ ?_
                rotate_left 2
                · (simp only [List.getElem?_toArray, List.getElem?_cons_succ, List.getElem?_cons_zero]; rfl)
                · refine Or.inl ⟨by rfl, ?_⟩
                  intro w
                  go_simp
                  try with_reducible rfl
                try simp only [Act.put, List.setIfInBounds_toArray, List.set_cons_zero, List.set_cons_succ]
                refine wpAny_take (i := 5) (oi := ?_) (v := ?_) ?_ (by kernel_rfl) (by kernel_rfl) (by kernel_rfl) (fun _ _ _ h => h) ?_ ?_
                rotate_left 2
                · (simp only [List.getElem?_toArray, List.getElem?_cons_succ, List.getElem?_cons_zero]; rfl)
                · refine Or.inl ⟨by rfl, ?_⟩
                  intro w
                  go_simp
                  try with_reducible rfl
                try simp only [Act.put, List.setIfInBounds_toArray, List.set_cons_zero, List.set_cons_succ]
                refine wpAny_take (i := 6) (oi := ?_) (v := ?_) ?_ (by kernel_rfl) (by kernel_rfl) (by kernel_rfl) (fun _ _ _ h => h) ?_ ?_
                rotate_left 2
                · (simp only [List.getElem?_toArray, List.getElem?_cons_succ, List.getElem?_cons_zero]; rfl)
                · refine Or.inl ⟨by rfl, ?_⟩
                  intro w
                  go_simp
                  try with_reducible rfl
                try simp only [Act.put, List.setIfInBounds_toArray, List.set_cons_zero, List.set_cons_succ]
                refine wpAny_ready (rs := [4, 7]) (by kernel_rfl) (by simp) ?_
                refine AllReady.cons (o := ?_) ?_ (fun K hK => ?_) ?_
                rotate_left
                · (simp only [List.getElem?_toArray, List.getElem?_cons_succ, List.getElem?_cons_zero]; rfl)
                · go_simp
                  refine hK _ _ ?_
                  clear hK K
                  try simp only [Act.put, List.setIfInBounds_toArray, List.set_cons_zero, List.set_cons_succ]
                  refine wpAny_ready (rs := [7]) (by kernel_rfl) (by simp) ?_
                  refine AllReady.cons (o := ?_) ?_ (fun K hK => ?_) ?_
                  rotate_left
                  · (simp only [List.getElem?_toArray, List.getElem?_cons_succ, List.getElem?_cons_zero]; rfl)
                  · refine step_load_row rfl 43 _ rfl p rfl _ _ (0, 0) _ (drew_heap hpb2) Try.underlying43 rfl (by rw [rowA_size, hqb]; kernel_rfl) ?_
                    refine hK _ _ ?_
                    clear hK K
                    try simp only [Act.put, List.setIfInBounds_toArray, List.set_cons_zero, List.set_cons_succ]
                    refine wpAny_ready (rs := [8]) (by kernel_rfl) (by simp) ?_
                    refine AllReady.cons (o := ?_) ?_ (fun K hK => ?_) ?_
                    rotate_left
                    · (simp only [List.getElem?_toArray, List.getElem?_cons_succ, List.getElem?_cons_zero]; rfl)
                    · refine step_bs1 rfl (.tmp 114) rfl (Stg.blk l m) hqb rfl ?_
                      refine hK _ _ ?_
                      clear hK K
                      try simp only [Act.put, List.setIfInBounds_toArray, List.set_cons_zero, List.set_cons_succ]
                      refine wpAny_ready (rs := [9]) (by kernel_rfl) (by simp) ?_
                      refine AllReady.cons (o := ?_) ?_ (fun K hK => ?_) ?_
                      rotate_left
                      · (simp only [List.getElem?_toArray, List.getElem?_cons_succ, List.getElem?_cons_zero]; rfl)
                      · refine step_append_sl slT rfl (.tmp 111) (.tmp 115) rfl rfl (hsl2.keep ((Touch.refl [] _).drew.alloc _) (by simp)) rfl (srcAt_block (m := 1) (alloc_new _ _) (by rw [rowA_size, hqb]) (rowA_one _)) (by omega) ?_
                        intro ad2 c2 w4 g2 hs4 ht4 hn4
                        have hb4 := ht4.keep (alloc_old (drew_heap hb2) _) (gt_notin (by omega) hgt)
                        have c40 := cell_at hb4 4352
                        have c41 := cell_at hb4 m
                        have f40 := free_at hb4 4352
                        have f41 := free_at hb4 m
                        rw [hs.v] at c40
                        rw [Array.getElem?_eq_getElem hsm] at c41
                        refine hK _ _ ?_
                        clear hK K
                        try simp only [Act.put, List.setIfInBounds_toArray, List.set_cons_zero, List.set_cons_succ]
                        refine wpAny_take (i := 10) (oi := ?_) (v := ?_) ?_ (by kernel_rfl) (by kernel_rfl) (by kernel_rfl) (fun _ _ _ h => h) ?_ ?_
                        rotate_left 2
                        · (simp only [List.getElem?_toArray, List.getElem?_cons_succ, List.getElem?_cons_zero]; rfl)
                        · refine Or.inl ⟨by rfl, ?_⟩
                          intro w
                          go_simp
                          try with_reducible rfl
                        try simp only [Act.put, List.setIfInBounds_toArray, List.set_cons_zero, List.set_cons_succ]
                        refine wpAny_take (i := 11) (oi := ?_) (v := ?_) ?_ (by kernel_rfl) (by kernel_rfl) (by kernel_rfl) (fun _ _ _ h => h) ?_ ?_
                        rotate_left 2
                        · (simp only [List.getElem?_toArray, List.getElem?_cons_succ, List.getElem?_cons_zero]; rfl)
                        · refine Or.inl ⟨by rfl, ?_⟩
                          intro w
                          go_simp
                          try with_reducible rfl
                        try simp only [Act.put, List.setIfInBounds_toArray, List.set_cons_zero, List.set_cons_succ]
                        refine wpAny_ready (rs := [12]) (by kernel_rfl) (by simp) ?_
                        refine AllReady.cons (o := ?_) ?_ (fun K hK => ?_) ?_
                        rotate_left
                        · (simp only [List.getElem?_toArray, List.getElem?_cons_succ, List.getElem?_cons_zero]; rfl)
                        · go_simp
                          refine hK _ _ ?_
                          clear hK K
                          try simp only [Act.put, List.setIfInBounds_toArray, List.set_cons_zero, List.set_cons_succ]
                          refine wpAny_done (by kernel_rfl) ?_ _
                          refine NoPanic.normal ?_
                          go_wp2
                          have hb5 := set_same (set_same hb4 4352 (.slice ad2 ((Stg.uniq (Stg.blk l) m).length + 1) c2)) m (.int .i64 ((Stg.uniq (Stg.blk l) m).length : Nat))
                          have hTw : Touch g.toList w2 w4 := Touch.step (F := g.toList) ((Touch.refl g.toList w2).drew.alloc _) ht4 (fun x hx => .inl hx)
                          have hTf := ((((Touch.refl (t :: (t + 1) :: g.toList) wr).step ht2 (fun x hx => .inl (by simp at hx; simp [hx]))).step hTw (fun x hx => .inl (List.mem_cons_of_mem _ (List.mem_cons_of_mem _ hx)))).setCell (p := ⟨t, 4352, none⟩) (.inl (by simp)) (.slice ad2 ((Stg.uniq (Stg.blk l) m).length + 1) c2)).setCell (p := ⟨t, m, none⟩) (.inl (by simp)) (.int .i64 ((Stg.uniq (Stg.blk l) m).length : Nat))
                          have hF : ∀ k ∈ t :: (t + 1) :: g.toList, t ≤ k := fun k hk => by
                            rcases List.mem_cons.1 hk with rfl | hk
                            · exact Nat.le_refl _
                            · rcases List.mem_cons.1 hk with rfl | hk
                              · omega
                              · have := hgt k (by simpa using hk); omega
                          have hg2 : ∀ k, g2 = some k → t + 1 < k := fun k hk => by
                            rcases hn4 with q | ⟨j, j1, j2⟩
                            · exact hgt k (by rw [← q, hk])
                            · rw [hk] at j1; injection j1 with j1; subst j1
                              have j3 : w2.heap.size + 1 ≤ k := by simpa using j2
                              have := ht2.size
                              omega
                          have hmp5 := hmp2.keep (((hTw.mono (G := t :: g.toList) (fun k hk => .inl (List.mem_cons_of_mem _ hk))).setCell (p := ⟨t, 4352, none⟩) (.inl (by simp)) (.slice ad2 ((Stg.uniq (Stg.blk l) m).length + 1) c2)).setCell (p := ⟨t, m, none⟩) (.inl (by simp)) (.int .i64 ((Stg.uniq (Stg.blk l) m).length : Nat))) (fun q => (List.mem_cons.1 q).elim (fun q => by omega) (fun q => by have := hgt (t + 1) (by simpa using q); omega))
                          have hsl5 := hs4.keep (((Touch.refl [t] w4).setCell (p := ⟨t, 4352, none⟩) (.inl (by simp)) (.slice ad2 ((Stg.uniq (Stg.blk l) m).length + 1) c2)).setCell (p := ⟨t, m, none⟩) (.inl (by simp)) (.int .i64 ((Stg.uniq (Stg.blk l) m).length : Nat))) (fun k hk => by have := hg2 k hk; simp; omega)
                          rw [rowA_list] at hsl5
                          have hN := hs.new hlt3 hmem hF hTf hb5 hsl5 hg2 hmp5 (fun B hB => by
                            by_cases q : B = Stg.blk l m
                            · subst q
                              rw [mput_same, if_pos ⟨rfl, hbz⟩]
                            · rw [mput_other _ _ _ (fun x => q (by simp only [Value.agg.injEq] at x; exact ints_inj (List.toArray_inj x))), if_neg (fun x => q x.1)])
                          exact ⟨⟨m + 1, _, ad2, c2, g2, _, _, hlt3, by go_num, by rw [hem.out], hN, Touch.step hT hTf (fun x hx => .inr (Nat.le_trans hwt (hF x hx)))⟩, by simp [intOf]; omega⟩
                        · exact AllReady.nil
                      · exact AllReady.nil
                    · exact AllReady.nil
                  · exact AllReady.nil
                · refine AllReady.cons (o := ?_) ?_ (fun K hK => ?_) ?_
                  rotate_left
                  · (simp only [List.getElem?_toArray, List.getElem?_cons_succ, List.getElem?_cons_zero]; rfl)
                  · refine step_load_row rfl 43 _ rfl p rfl _ _ (0, 0) _ (drew_heap hpb2) Try.underlying43 rfl (by rw [rowA_size, hqb]; kernel_rfl) ?_
                    refine hK _ _ ?_
                    clear hK K
                    try simp only [Act.put, List.setIfInBounds_toArray, List.set_cons_zero, List.set_cons_succ]
                    refine wpAny_ready (rs := [4, 8]) (by kernel_rfl) (by simp) ?_
                    refine AllReady.cons (o := ?_) ?_ (fun K hK => ?_) ?_
                    rotate_left
                    · (simp only [List.getElem?_toArray, List.getElem?_cons_succ, List.getElem?_cons_zero]; rfl)
                    · go_simp
                      refine hK _ _ ?_
                      clear hK K
                      try simp only [Act.put, List.setIfInBounds_toArray, List.set_cons_zero, List.set_cons_succ]
                      refine wpAny_ready (rs := [8]) (by kernel_rfl) (by simp) ?_
                      refine AllReady.cons (o := ?_) ?_ (fun K hK => ?_) ?_
                      rotate_left
                      · (simp only [List.getElem?_toArray, List.getElem?_cons_succ, List.getElem?_cons_zero]; rfl)
                      · refine step_bs1 rfl (.tmp 114) rfl (Stg.blk l m) hqb rfl ?_
                        refine hK _ _ ?_
                        clear hK K
                        try simp only [Act.put, List.setIfInBounds_toArray, List.set_cons_zero, List.set_cons_succ]
                        refine wpAny_ready (rs := [9]) (by kernel_rfl) (by simp) ?_
                        refine AllReady.cons (o := ?_) ?_ (fun K hK => ?_) ?_
                        rotate_left
                        · (simp only [List.getElem?_toArray, List.getElem?_cons_succ, List.getElem?_cons_zero]; rfl)
                        · refine step_append_sl slT rfl (.tmp 111) (.tmp 115) rfl rfl (hsl2.keep ((Touch.refl [] _).drew.alloc _) (by simp)) rfl (srcAt_block (m := 1) (alloc_new _ _) (by rw [rowA_size, hqb]) (rowA_one _)) (by omega) ?_
                          intro ad2 c2 w4 g2 hs4 ht4 hn4
                          have hb4 := ht4.keep (alloc_old (drew_heap hb2) _) (gt_notin (by omega) hgt)
                          have c40 := cell_at hb4 4352
                          have c41 := cell_at hb4 m
                          have f40 := free_at hb4 4352
                          have f41 := free_at hb4 m
                          rw [hs.v] at c40
                          rw [Array.getElem?_eq_getElem hsm] at c41
                          refine hK _ _ ?_
                          clear hK K
                          try simp only [Act.put, List.setIfInBounds_toArray, List.set_cons_zero, List.set_cons_succ]
                          refine wpAny_take (i := 10) (oi := ?_) (v := ?_) ?_ (by kernel_rfl) (by kernel_rfl) (by kernel_rfl) (fun _ _ _ h => h) ?_ ?_
                          rotate_left 2
                          · (simp only [List.getElem?_toArray, List.getElem?_cons_succ, List.getElem?_cons_zero]; rfl)
                          · refine Or.inl ⟨by rfl, ?_⟩
                            intro w
                            go_simp
                            try with_reducible rfl
                          try simp only [Act.put, List.setIfInBounds_toArray, List.set_cons_zero, List.set_cons_succ]
                          refine wpAny_take (i := 11) (oi := ?_) (v := ?_) ?_ (by kernel_rfl) (by kernel_rfl) (by kernel_rfl) (fun _ _ _ h => h) ?_ ?_
                          rotate_left 2
                          · (simp only [List.getElem?_toArray, List.getElem?_cons_succ, List.getElem?_cons_zero]; rfl)
                          · refine Or.inl ⟨by rfl, ?_⟩
                            intro w
                            go_simp
                            try with_reducible rfl
                          try simp only [Act.put, List.setIfInBounds_toArray, List.set_cons_zero, List.set_cons_succ]
                          refine wpAny_ready (rs := [12]) (by kernel_rfl) (by simp) ?_
                          refine AllReady.cons (o := ?_) ?_ (fun K hK => ?_) ?_
                          rotate_left
                          · (simp only [List.getElem?_toArray, List.getElem?_cons_succ, List.getElem?_cons_zero]; rfl)
                          · go_simp
                            refine hK _ _ ?_
                            clear hK K
                            try simp only [Act.put, List.setIfInBounds_toArray, List.set_cons_zero, List.set_cons_succ]
                            refine wpAny_done (by kernel_rfl) ?_ _
                            refine NoPanic.normal ?_
                            go_wp2
                            have hb5 := set_same (set_same hb4 4352 (.slice ad2 ((Stg.uniq (Stg.blk l) m).length + 1) c2)) m (.int .i64 ((Stg.uniq (Stg.blk l) m).length : Nat))
                            have hTw : Touch g.toList w2 w4 := Touch.step (F := g.toList) ((Touch.refl g.toList w2).drew.alloc _) ht4 (fun x hx => .inl hx)
                            have hTf := ((((Touch.refl (t :: (t + 1) :: g.toList) wr).step ht2 (fun x hx => .inl (by simp at hx; simp [hx]))).step hTw (fun x hx => .inl (List.mem_cons_of_mem _ (List.mem_cons_of_mem _ hx)))).setCell (p := ⟨t, 4352, none⟩) (.inl (by simp)) (.slice ad2 ((Stg.uniq (Stg.blk l) m).length + 1) c2)).setCell (p := ⟨t, m, none⟩) (.inl (by simp)) (.int .i64 ((Stg.uniq (Stg.blk l) m).length : Nat))
                            have hF : ∀ k ∈ t :: (t + 1) :: g.toList, t ≤ k := fun k hk => by
                              rcases List.mem_cons.1 hk with rfl | hk
                              · exact Nat.le_refl _
                              · rcases List.mem_cons.1 hk with rfl | hk
                                · omega
                                · have := hgt k (by simpa using hk); omega
                            have hg2 : ∀ k, g2 = some k → t + 1 < k := fun k hk => by
                              rcases hn4 with q | ⟨j, j1, j2⟩
                              · exact hgt k (by rw [← q, hk])
                              · rw [hk] at j1; injection j1 with j1; subst j1
                                have j3 : w2.heap.size + 1 ≤ k := by simpa using j2
                                have := ht2.size
                                omega
                            have hmp5 := hmp2.keep (((hTw.mono (G := t :: g.toList) (fun k hk => .inl (List.mem_cons_of_mem _ hk))).setCell (p := ⟨t, 4352, none⟩) (.inl (by simp)) (.slice ad2 ((Stg.uniq (Stg.blk l) m).length + 1) c2)).setCell (p := ⟨t, m, none⟩) (.inl (by simp)) (.int .i64 ((Stg.uniq (Stg.blk l) m).length : Nat))) (fun q => (List.mem_cons.1 q).elim (fun q => by omega) (fun q => by have := hgt (t + 1) (by simpa using q); omega))
                            have hsl5 := hs4.keep (((Touch.refl [t] w4).setCell (p := ⟨t, 4352, none⟩) (.inl (by simp)) (.slice ad2 ((Stg.uniq (Stg.blk l) m).length + 1) c2)).setCell (p := ⟨t, m, none⟩) (.inl (by simp)) (.int .i64 ((Stg.uniq (Stg.blk l) m).length : Nat))) (fun k hk => by have := hg2 k hk; simp; omega)
                            rw [rowA_list] at hsl5
                            have hN := hs.new hlt3 hmem hF hTf hb5 hsl5 hg2 hmp5 (fun B hB => by
                              by_cases q : B = Stg.blk l m
                              · subst q
                                rw [mput_same, if_pos ⟨rfl, hbz⟩]
                              · rw [mput_other _ _ _ (fun x => q (by simp only [Value.agg.injEq] at x; exact ints_inj (List.toArray_inj x))), if_neg (fun x => q x.1)])
                            exact ⟨⟨m + 1, _, ad2, c2, g2, _, _, hlt3, by go_num, by rw [hem.out], hN, Touch.step hT hTf (fun x hx => .inr (Nat.le_trans hwt (hF x hx)))⟩, by simp [intOf]; omega⟩
                          · exact AllReady.nil
                        · exact AllReady.nil
                      · exact AllReady.nil
                    · refine AllReady.cons (o := ?_) ?_ (fun K hK => ?_) ?_
                      rotate_left
                      · (simp only [List.getElem?_toArray, List.getElem?_cons_succ, List.getElem?_cons_zero]; rfl)
                      · refine step_bs1 rfl (.tmp 114) rfl (Stg.blk l m) hqb rfl ?_
                        refine hK _ _ ?_
                        clear hK K
                        try simp only [Act.put, List.setIfInBounds_toArray, List.set_cons_zero, List.set_cons_succ]
                        refine wpAny_ready (rs := [4]) (by kernel_rfl) (by simp) ?_
                        refine AllReady.cons (o := ?_) ?_ (fun K hK => ?_) ?_
                        rotate_left
                        · (simp only [List.getElem?_toArray, List.getElem?_cons_succ, List.getElem?_cons_zero]; rfl)
                        · go_simp
                          refine hK _ _ ?_
                          clear hK K
                          try simp only [Act.put, List.setIfInBounds_toArray, List.set_cons_zero, List.set_cons_succ]
                          refine wpAny_ready (rs := [9]) (by kernel_rfl) (by simp) ?_
                          refine AllReady.cons (o := ?_) ?_ (fun K hK => ?_) ?_
                          rotate_left
                          · (simp only [List.getElem?_toArray, List.getElem?_cons_succ, List.getElem?_cons_zero]; rfl)
                          · refine step_append_sl slT rfl (.tmp 111) (.tmp 115) rfl rfl (hsl2.keep ((Touch.refl [] _).alloc _).drew (by simp)) rfl (srcAt_block (m := 1) (alloc_new _ _) (by rw [rowA_size, hqb]) (rowA_one _)) (by omega) ?_
                            intro ad2 c2 w4 g2 hs4 ht4 hn4
                            have hb4 := ht4.keep (drew_heap (alloc_old hb2 _)) (gt_notin (by omega) hgt)
                            have c40 := cell_at hb4 4352
                            have c41 := cell_at hb4 m
                            have f40 := free_at hb4 4352
                            have f41 := free_at hb4 m
                            rw [hs.v] at c40
                            rw [Array.getElem?_eq_getElem hsm] at c41
                            refine hK _ _ ?_
                            clear hK K
                            try simp only [Act.put, List.setIfInBounds_toArray, List.set_cons_zero, List.set_cons_succ]
                            refine wpAny_take (i := 10) (oi := ?_) (v := ?_) ?_ (by kernel_rfl) (by kernel_rfl) (by kernel_rfl) (fun _ _ _ h => h) ?_ ?_
                            rotate_left 2
                            · (simp only [List.getElem?_toArray, List.getElem?_cons_succ, List.getElem?_cons_zero]; rfl)
                            · refine Or.inl ⟨by rfl, ?_⟩
                              intro w
                              go_simp
                              try with_reducible rfl
                            try simp only [Act.put, List.setIfInBounds_toArray, List.set_cons_zero, List.set_cons_succ]
                            refine wpAny_take (i := 11) (oi := ?_) (v := ?_) ?_ (by kernel_rfl) (by kernel_rfl) (by kernel_rfl) (fun _ _ _ h => h) ?_ ?_
                            rotate_left 2
                            · (simp only [List.getElem?_toArray, List.getElem?_cons_succ, List.getElem?_cons_zero]; rfl)
                            · refine Or.inl ⟨by rfl, ?_⟩
                              intro w
                              go_simp
                              try with_reducible rfl
                            try simp only [Act.put, List.setIfInBounds_toArray, List.set_cons_zero, List.set_cons_succ]
                            refine wpAny_ready (rs := [12]) (by kernel_rfl) (by simp) ?_
                            refine AllReady.cons (o := ?_) ?_ (fun K hK => ?_) ?_
                            rotate_left
                            · (simp only [List.getElem?_toArray, List.getElem?_cons_succ, List.getElem?_cons_zero]; rfl)
                            · go_simp
                              refine hK _ _ ?_
                              clear hK K
                              try simp only [Act.put, List.setIfInBounds_toArray, List.set_cons_zero, List.set_cons_succ]
                              refine wpAny_done (by kernel_rfl) ?_ _
                              refine NoPanic.normal ?_
                              go_wp2
                              have hb5 := set_same (set_same hb4 4352 (.slice ad2 ((Stg.uniq (Stg.blk l) m).length + 1) c2)) m (.int .i64 ((Stg.uniq (Stg.blk l) m).length : Nat))
                              have hTw : Touch g.toList w2 w4 := Touch.step (F := g.toList) ((Touch.refl g.toList w2).alloc _).drew ht4 (fun x hx => .inl hx)
                              have hTf := ((((Touch.refl (t :: (t + 1) :: g.toList) wr).step ht2 (fun x hx => .inl (by simp at hx; simp [hx]))).step hTw (fun x hx => .inl (List.mem_cons_of_mem _ (List.mem_cons_of_mem _ hx)))).setCell (p := ⟨t, 4352, none⟩) (.inl (by simp)) (.slice ad2 ((Stg.uniq (Stg.blk l) m).length + 1) c2)).setCell (p := ⟨t, m, none⟩) (.inl (by simp)) (.int .i64 ((Stg.uniq (Stg.blk l) m).length : Nat))
                              have hF : ∀ k ∈ t :: (t + 1) :: g.toList, t ≤ k := fun k hk => by
                                rcases List.mem_cons.1 hk with rfl | hk
                                · exact Nat.le_refl _
                                · rcases List.mem_cons.1 hk with rfl | hk
                                  · omega
                                  · have := hgt k (by simpa using hk); omega
                              have hg2 : ∀ k, g2 = some k → t + 1 < k := fun k hk => by
                                rcases hn4 with q | ⟨j, j1, j2⟩
                                · exact hgt k (by rw [← q, hk])
                                · rw [hk] at j1; injection j1 with j1; subst j1
                                  have j3 : w2.heap.size + 1 ≤ k := by simpa using j2
                                  have := ht2.size
                                  omega
                              have hmp5 := hmp2.keep (((hTw.mono (G := t :: g.toList) (fun k hk => .inl (List.mem_cons_of_mem _ hk))).setCell (p := ⟨t, 4352, none⟩) (.inl (by simp)) (.slice ad2 ((Stg.uniq (Stg.blk l) m).length + 1) c2)).setCell (p := ⟨t, m, none⟩) (.inl (by simp)) (.int .i64 ((Stg.uniq (Stg.blk l) m).length : Nat))) (fun q => (List.mem_cons.1 q).elim (fun q => by omega) (fun q => by have := hgt (t + 1) (by simpa using q); omega))
                              have hsl5 := hs4.keep (((Touch.refl [t] w4).setCell (p := ⟨t, 4352, none⟩) (.inl (by simp)) (.slice ad2 ((Stg.uniq (Stg.blk l) m).length + 1) c2)).setCell (p := ⟨t, m, none⟩) (.inl (by simp)) (.int .i64 ((Stg.uniq (Stg.blk l) m).length : Nat))) (fun k hk => by have := hg2 k hk; simp; omega)
                              rw [rowA_list] at hsl5
                              have hN := hs.new hlt3 hmem hF hTf hb5 hsl5 hg2 hmp5 (fun B hB => by
                                by_cases q : B = Stg.blk l m
                                · subst q
                                  rw [mput_same, if_pos ⟨rfl, hbz⟩]
                                · rw [mput_other _ _ _ (fun x => q (by simp only [Value.agg.injEq] at x; exact ints_inj (List.toArray_inj x))), if_neg (fun x => q x.1)])
                              exact ⟨⟨m + 1, _, ad2, c2, g2, _, _, hlt3, by go_num, by rw [hem.out], hN, Touch.step hT hTf (fun x hx => .inr (Nat.le_trans hwt (hF x hx)))⟩, by simp [intOf]; omega⟩
                            · exact AllReady.nil
                          · exact AllReady.nil
                        · exact AllReady.nil
                      · exact AllReady.nil
                  · exact AllReady.nil
        · have hmq : m = 4352 := by omega
          subst hmq
          have hdn := hs.done
          clear hlt3 hm hs
          go_wp2
          (try simp only [Exit.inBlock, Exit.then])
          refine hQ_.ret (results_tmp rfl _ _ _) rfl ?_
          exact ⟨t, rfl, hwt, hdn, hT⟩
end Go.Proofs.Ythbcgbmpicgjiaa
