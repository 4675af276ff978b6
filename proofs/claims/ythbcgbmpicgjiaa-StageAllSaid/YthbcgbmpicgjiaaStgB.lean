/- The program's tables: what Build's two loops keep. -/
import Derived.Test.YthbcgbmpicgjiaaStgA
namespace Go.Proofs.Ythbcgbmpicgjiaa
open Go.RowKit
open Go.Maps (Keyed)
set_option maxRecDepth 100000
set_option maxHeartbeats 8000000
set_option linter.unusedVariables false
set_option linter.unusedSimpArgs false

theorem ix_row {P : Program} {T E : TypeId} {n : Nat} {cs : Array Value} {i : Nat} {v : Value} {d : TypeDesc} (hu : P.underlying T = some (.array n E)) (hd : P.underlying E = some d) (hna : (match d with | .struct _ | .array _ _ => true | _ => false) = false)
    (hs : (P.info? E).map (·.size) = some 1) (hi : i < n) (hv : cs[i]? = some v) (w : World) : (Instr.index T (.agg cs) (.int .i64 (i : Int))).run P w = .ok v w := by
  have hagg : (isAgg E).run P w = .ok false w := by
    unfold isAgg
    rw [Sem.run_bind, run_underlying hd w]
    cases d <;> simp_all
  cases hq : P.info? E with
  | none => simp [hq] at hs
  | some x =>
    have h1 : x.size = 1 := by simpa [hq] using hs
    have hi' : (i : Int) < (n : Int) := by omega
    simp [Instr.index, Sem.run_bind, asIntOf, run_underlying hu, sizeOf, typeInfo, hq, h1, part, hagg, hv, Result.andThen, hi, hi']

/-- entries that can be read -/
def EntsIn (w : World) (A : Option Addr) (l : List (Int × Int)) : Prop :=
  0 < l.length → ∃ b off, A = some ⟨b, off, none⟩ ∧ ∀ w', Touch [] w w' → ∀ i (h : i < l.length), w'.cell? ⟨b, off + i * 2, none⟩ = some (.int .i32 l[i].1) ∧ w'.cell? ⟨b, off + i * 2 + 1, none⟩ = some (.int .i64 l[i].2)
theorem EntsIn.keep {w w' : World} {A : Option Addr} {l : List (Int × Int)} (h : EntsIn w A l) (t : Touch [] w w') : EntsIn w' A l := fun h0 => by
  obtain ⟨b, off, h1, h2⟩ := h h0
  exact ⟨b, off, h1, fun w2 t2 => h2 w2 (t.trans t2)⟩

def ptV : Option Nat → Value
  | none => .pointer none
  | some p => .pointer (some ⟨p, 0, none⟩)
/-- the blocks of one's own, by their pointers -/
structure OwnAt (w : World) (ow : Nat) (cur : Array Value) (pt : Nat → Option Nat) (l : List (Int × Int)) : Prop where
  b : w.heap[ow]? = some (.cells cur 40 (0, 0))
  s : cur.size = 4352
  c : ∀ n, n < 4352 → cur[n]? = some (ptV (pt n))
  z : ∀ n, n < 4352 → pt n = none → Stg.blk l n = Stg.zero
  p : ∀ n p, n < 4352 → pt n = some p → ow < p ∧ w.heap[p]? = some (.cells (rowA (Stg.blk l n)) 43 (0, 0))
  i : ∀ n m p, n < 4352 → m < 4352 → pt n = some p → pt m = some p → n = m
theorem OwnAt.keep {w w' : World} {ow : Nat} {cur : Array Value} {pt : Nat → Option Nat} {l : List (Int × Int)} {F : List Nat} (h : OwnAt w ow cur pt l) (t : Touch F w w') (ho : ow ∉ F) (hp : ∀ n p, n < 4352 → pt n = some p → p ∉ F) : OwnAt w' ow cur pt l :=
  ⟨t.keep h.b ho, h.s, h.c, h.z, fun n p hn q => ⟨(h.p n p hn q).1, t.keep (h.p n p hn q).2 (hp n p hn q)⟩, h.i⟩
theorem OwnAt.out {w : World} {ow : Nat} {cur : Array Value} {pt : Nat → Option Nat} {l : List (Int × Int)} (h : OwnAt w ow cur pt l) (e : Int × Int) (he : e.1 < 0 ∨ 1114111 < e.1) : OwnAt w ow cur pt (l ++ [e]) :=
  ⟨h.b, h.s, h.c, fun n hn q => by rw [Stg.blk_snoc_out l e n he hn]; exact h.z n hn q, fun n p hn q => by rw [Stg.blk_snoc_out l e n he hn]; exact h.p n p hn q, h.i⟩
theorem OwnAt.lt {w : World} {ow : Nat} {cur : Array Value} {pt : Nat → Option Nat} {l : List (Int × Int)} (h : OwnAt w ow cur pt l) {n p : Nat} (hn : n < 4352) (hp : pt n = some p) : p < w.heap.size := block_lt (h.p n p hn hp).2
theorem OwnAt.old {w w' : World} {ow : Nat} {cur : Array Value} {pt : Nat → Option Nat} {l : List (Int × Int)} (h : OwnAt w ow cur pt l) (e : Int × Int) {n j p : Nat} (hn : n < 4352) (hj : j < 256) (he : e.1 = 256 * (n : Int) + (j : Int)) (hp : pt n = some p)
    (h1 : w'.heap[p]? = some (.cells ((rowA (Stg.blk l n)).setIfInBounds j (.int .i64 e.2)) 43 (0, 0))) (h2 : ∀ k, k < w.heap.size → k ≠ p → w'.heap[k]? = w.heap[k]?) : OwnAt w' ow cur pt (l ++ [e]) := by
  have hpo := (h.p n p hn hp).1
  refine ⟨(h2 ow (block_lt h.b) (by omega)).trans h.b, h.s, h.c, fun m hm q => ?_, fun m q hm hq => ?_, h.i⟩
  · by_cases hmn : m = n
    · subst hmn; rw [hp] at q; cases q
    · rw [Stg.blk_snoc_other l e n m j hj he hmn]; exact h.z m hm q
  · by_cases hmn : m = n
    · subst hmn
      rw [hp] at hq; injection hq with hq; subst hq
      refine ⟨hpo, ?_⟩
      rw [Stg.blk_snoc_same l e m j hj he, ← rowA_set]
      exact h1
    · rw [Stg.blk_snoc_other l e n m j hj he hmn]
      have h3 := h.p m q hm hq
      have hqp : q ≠ p := fun x => hmn (h.i m n p hm hn (by rw [hq, x]) hp)
      exact ⟨h3.1, (h2 q (block_lt h3.2) hqp).trans h3.2⟩
theorem OwnAt.new {w w' : World} {ow : Nat} {cur : Array Value} {pt : Nat → Option Nat} {l : List (Int × Int)} (h : OwnAt w ow cur pt l) (e : Int × Int) {n j p : Nat} (hn : n < 4352) (hj : j < 256) (he : e.1 = 256 * (n : Int) + (j : Int)) (hp : pt n = none) (hnew : w.heap.size ≤ p)
    (h0 : w'.heap[ow]? = some (.cells (cur.setIfInBounds n (.pointer (some ⟨p, 0, none⟩))) 40 (0, 0)))
    (h1 : w'.heap[p]? = some (.cells ((rowA Stg.zero).setIfInBounds j (.int .i64 e.2)) 43 (0, 0))) (h2 : ∀ k, k < w.heap.size → k ≠ ow → w'.heap[k]? = w.heap[k]?) :
    OwnAt w' ow (cur.setIfInBounds n (.pointer (some ⟨p, 0, none⟩))) (fun m => if m = n then some p else pt m) (l ++ [e]) := by
  have how := block_lt h.b
  have hz := h.z n hn hp
  refine ⟨h0, by simp [h.s], fun m hm => ?_, fun m hm q => ?_, fun m q hm hq => ?_, fun m k q hm hk h3 h4 => ?_⟩
  · by_cases hmn : m = n
    · subst hmn
      simp [h.s, hm, ptV]
    · rw [Array.getElem?_setIfInBounds_ne (Ne.symm hmn), h.c m hm]
      simp [hmn]
  · by_cases hmn : m = n
    · simp [hmn] at q
    · simp only [hmn, if_false] at q
      rw [Stg.blk_snoc_other l e n m j hj he hmn]; exact h.z m hm q
  · by_cases hmn : m = n
    · subst hmn
      simp only [if_true] at hq
      injection hq with hq
      subst hq
      refine ⟨by omega, ?_⟩
      rw [Stg.blk_snoc_same l e m j hj he, ← rowA_set, hz]
      exact h1
    · simp only [hmn, if_false] at hq
      rw [Stg.blk_snoc_other l e n m j hj he hmn]
      have h5 := h.p m q hm hq
      exact ⟨h5.1, (h2 q (block_lt h5.2) (by omega)).trans h5.2⟩
  · by_cases hmn : m = n
    · by_cases hkn : k = n
      · omega
      · simp only [hmn, hkn, if_true, if_false] at h3 h4
        injection h3 with h3
        have := h.lt hk h4
        omega
    · by_cases hkn : k = n
      · simp only [hmn, hkn, if_true, if_false] at h3 h4
        injection h4 with h4
        have := h.lt hm h3
        omega
      · simp only [hmn, hkn, if_false] at h3 h4
        exact h.i m k q hm hk h3 h4

/-- the table under way: the first m places are told -/
structure SecAt (w : World) (t mb ow : Nat) (own cur : Array Value) (pt : Nat → Option Nat) (A : Option Addr) (C : Nat) (g : Option Nat) (f : Value → Option Value) (cnt m : Nat) (l : List (Int × Int)) : Prop where
  o : OwnAt w ow own pt l
  ol : ow < t ∧ ∀ n p, n < 4352 → pt n = some p → p < t
  b : w.heap[t]? = some (.cells cur 47 (0, 0))
  s : cur.size = 4353
  v : cur[4352]? = some (.slice A (Stg.uniq (Stg.blk l) m).length C)
  sl : SlAt w 43 256 (.slice A (Stg.uniq (Stg.blk l) m).length C) (Stg.uniq (Stg.blk l) m).length ((Stg.uniq (Stg.blk l) m).flatten.map (Value.int .i64)) g
  ix : ∀ n : Nat, n < m → n < 4352 → cur[n]? = some (.int .i64 ((Stg.uniq (Stg.blk l) m).idxOf (Stg.blk l n) : Nat))
  mp : MapAt Try.prog w 43 mb f cnt
  mf : ∀ B : List Int, B.length = 256 → f (.agg (rowA B)) = if B ∈ Stg.uniq (Stg.blk l) m ∧ B ≠ Stg.zero then some (.int .i64 ((Stg.uniq (Stg.blk l) m).idxOf B : Nat)) else none
  mt : t < mb
  gt : ∀ k, g = some k → mb < k
theorem SecAt.done {w : World} {t mb ow : Nat} {own cur : Array Value} {pt : Nat → Option Nat} {A : Option Addr} {C : Nat} {g : Option Nat} {f : Value → Option Value} {cnt : Nat} {l : List (Int × Int)} (h : SecAt w t mb ow own cur pt A C g f cnt 4352 l) : TabAt w t l :=
  ⟨cur, A, C, g, h.b, h.s, h.v, h.sl, fun n hn => h.ix n hn hn⟩
/-- place m has a block that came ahead of it -/
theorem SecAt.old {w w' : World} {t mb ow : Nat} {own cur : Array Value} {pt : Nat → Option Nat} {A : Option Addr} {C : Nat} {g : Option Nat} {f : Value → Option Value} {cnt m : Nat} {l : List (Int × Int)} (h : SecAt w t mb ow own cur pt A C g f cnt m l) (hm : m < 4352)
    (hmem : Stg.blk l m ∈ Stg.uniq (Stg.blk l) m) (hw : Touch [t] w w') (h1 : w'.heap[t]? = some (.cells (cur.setIfInBounds m (.int .i64 ((Stg.uniq (Stg.blk l) m).idxOf (Stg.blk l m) : Nat))) 47 (0, 0))) :
    SecAt w' t mb ow own (cur.setIfInBounds m (.int .i64 ((Stg.uniq (Stg.blk l) m).idxOf (Stg.blk l m) : Nat))) pt A C g f cnt (m + 1) l := by
  have hu : Stg.uniq (Stg.blk l) (m + 1) = Stg.uniq (Stg.blk l) m := by rw [Stg.uniq_succ, if_pos hmem]
  have hmt := h.mt
  refine ⟨h.o.keep hw (by have := h.ol.1; simp; omega) (fun n p hn q => by have := h.ol.2 n p hn q; simp; omega), h.ol, h1, by simp [h.s], ?_, ?_, fun n hn hn2 => ?_, h.mp.keep hw (by simp; omega), fun B hB => ?_, h.mt, h.gt⟩
  · rw [hu, Array.getElem?_setIfInBounds_ne (by omega)]; exact h.v
  · rw [hu]; exact h.sl.keep hw (fun k hk => by have := h.gt k hk; simp; omega)
  · rw [hu]
    by_cases q : n = m
    · subst q
      rw [Array.getElem?_setIfInBounds_self_of_lt (by rw [h.s]; omega)]
    · rw [Array.getElem?_setIfInBounds_ne (by omega)]; exact h.ix n (by omega) hn2
  · rw [hu]; exact h.mf B hB
/-- place m has a block that none ahead of it has -/
theorem SecAt.new {w w' : World} {t mb ow : Nat} {own cur : Array Value} {pt : Nat → Option Nat} {A : Option Addr} {C : Nat} {g : Option Nat} {f : Value → Option Value} {cnt m : Nat} {l : List (Int × Int)} (h : SecAt w t mb ow own cur pt A C g f cnt m l) (hm : m < 4352)
    (hmem : Stg.blk l m ∉ Stg.uniq (Stg.blk l) m) {A' : Option Addr} {C' : Nat} {g' : Option Nat} {F : List Nat} (hF : ∀ k ∈ F, t ≤ k) (hw : Touch F w w')
    (h1 : w'.heap[t]? = some (.cells ((cur.setIfInBounds 4352 (.slice A' ((Stg.uniq (Stg.blk l) m).length + 1) C')).setIfInBounds m (.int .i64 ((Stg.uniq (Stg.blk l) m).length : Nat))) 47 (0, 0)))
    (h2 : SlAt w' 43 256 (.slice A' ((Stg.uniq (Stg.blk l) m).length + 1) C') ((Stg.uniq (Stg.blk l) m).length + 1) ((Stg.uniq (Stg.blk l) m).flatten.map (Value.int .i64) ++ (Stg.blk l m).map (Value.int .i64)) g')
    (hg : ∀ k, g' = some k → mb < k) {f' : Value → Option Value} {cnt' : Nat} (h3 : MapAt Try.prog w' 43 mb f' cnt')
    (h4 : ∀ B : List Int, B.length = 256 → f' (.agg (rowA B)) = if B = Stg.blk l m ∧ B ≠ Stg.zero then some (.int .i64 ((Stg.uniq (Stg.blk l) m).length : Nat)) else f (.agg (rowA B))) :
    SecAt w' t mb ow own ((cur.setIfInBounds 4352 (.slice A' ((Stg.uniq (Stg.blk l) m).length + 1) C')).setIfInBounds m (.int .i64 ((Stg.uniq (Stg.blk l) m).length : Nat))) pt A' C' g' f' cnt' (m + 1) l := by
  have hu : Stg.uniq (Stg.blk l) (m + 1) = Stg.uniq (Stg.blk l) m ++ [Stg.blk l m] := by rw [Stg.uniq_succ, if_neg hmem]
  have hl : (Stg.uniq (Stg.blk l) (m + 1)).length = (Stg.uniq (Stg.blk l) m).length + 1 := by rw [hu, List.length_append]; rfl
  have hix : (Stg.uniq (Stg.blk l) (m + 1)).idxOf (Stg.blk l m) = (Stg.uniq (Stg.blk l) m).length := by rw [hu]; exact Stg.idx_new hmem
  refine ⟨h.o.keep hw (fun q => by have := hF _ q; have := h.ol.1; omega) (fun n p hn q r => by have := hF _ r; have := h.ol.2 n p hn q; omega), h.ol, h1, by simp [h.s], ?_, ?_, fun n hn hn2 => ?_, h3, fun B hB => ?_, h.mt, hg⟩
  · rw [hl, Array.getElem?_setIfInBounds_ne (by omega)]; simp [h.s]
  · rw [hl]
    rw [hu, List.flatten_append, List.map_append, List.flatten_singleton]
    exact h2
  · by_cases q : n = m
    · subst q
      rw [hix]
      rw [Array.getElem?_setIfInBounds_self_of_lt (by rw [Array.size_setIfInBounds, h.s]; omega)]
    · rw [Array.getElem?_setIfInBounds_ne (by omega), Array.getElem?_setIfInBounds_ne (by omega), h.ix n (by omega) hn2, hu, Stg.idx_app ((Stg.mem_uniq _ _ _).2 ⟨n, by omega, rfl⟩)]
  · rw [h4 B hB, h.mf B hB]
    by_cases q : B = Stg.blk l m
    · subst q
      by_cases r : Stg.blk l m = Stg.zero
      · simp [r]
      · rw [if_pos ⟨rfl, r⟩, if_pos ⟨by rw [hu]; simp, r⟩, hix]
    · rw [if_neg (fun x => q x.1)]
      by_cases r : B ∈ Stg.uniq (Stg.blk l) m
      · have hr : B ∈ Stg.uniq (Stg.blk l) (m + 1) := by rw [hu]; simp [r]
        by_cases s : B = Stg.zero
        · rw [if_neg (fun x => x.2 s), if_neg (fun x => x.2 s)]
        · rw [if_pos ⟨r, s⟩, if_pos ⟨hr, s⟩, hu, Stg.idx_app r]
      · have hr : B ∉ Stg.uniq (Stg.blk l) (m + 1) := by rw [hu]; simp [r, q]
        rw [if_neg (fun x => r x.1), if_neg (fun x => hr x.1)]
/-- where the empty block stands: -1, if it did not come -/
def emptyE (l : List (Int × Int)) (m : Nat) : Int := if Stg.zero ∈ Stg.uniq (Stg.blk l) m then ((Stg.uniq (Stg.blk l) m).idxOf Stg.zero : Nat) else -1
theorem emptyE_same {l : List (Int × Int)} {m : Nat} (h : Stg.blk l m ∈ Stg.uniq (Stg.blk l) m) : emptyE l (m + 1) = emptyE l m := by
  unfold emptyE
  rw [Stg.uniq_succ, if_pos h]
theorem emptyE_other {l : List (Int × Int)} {m : Nat} (h : Stg.blk l m ∉ Stg.uniq (Stg.blk l) m) (hz : Stg.blk l m ≠ Stg.zero) : emptyE l (m + 1) = emptyE l m := by
  unfold emptyE
  rw [Stg.uniq_succ, if_neg h]
  by_cases q : Stg.zero ∈ Stg.uniq (Stg.blk l) m
  · rw [if_pos (by simp [q]), if_pos q, Stg.idx_app q]
  · rw [if_neg (by simp [q, Ne.symm hz]), if_neg q]
theorem emptyE_new {l : List (Int × Int)} {m : Nat} (h : Stg.blk l m ∉ Stg.uniq (Stg.blk l) m) (hz : Stg.blk l m = Stg.zero) : emptyE l (m + 1) = ((Stg.uniq (Stg.blk l) m).length : Nat) := by
  unfold emptyE
  rw [Stg.uniq_succ, if_neg h, hz, if_pos (by simp)]
  rw [hz] at h
  rw [Stg.idx_new h]
end Go.Proofs.Ythbcgbmpicgjiaa
