/- The law NumberCopies. -/
import Derived.Test.YtcpfooceadgccaaDoorNumW
import Derived.Test.YtcpfooceadgccaaDoorIn
import Derived.Test.YtcpfooceadgccaaDoorShelf
namespace Go.Proofs.YtcpfooceadgccaaDoor
open Go.RowKit
set_option maxRecDepth 100000
set_option maxHeartbeats 8000000
set_option linter.unusedVariables false
set_option linter.unusedSimpArgs false

namespace Num
open Go.Proofs.YtcpfooceadgccaaDoor.Dig (Bs)
theorem pushAll_le : ∀ (s : Bs) (n : St), (pushAll n s).1 ≤ s.length
  | [], n => Nat.le_refl _
  | c :: r, n => by
    unfold pushAll
    cases push n c.toNat with
    | error k => simp
    | ok n' => have := pushAll_le r n'; simp; omega
end Num
theorem mem_own' {p x : Nat} {g : Option Nat} (h : x ∈ p :: g.toList) : x = p ∨ g = some x := by
  rw [List.mem_cons] at h
  rcases h with h | h
  · exact .inl h
  · cases g with
    | none => simp at h
    | some k => simp at h; exact .inr (by rw [h])
theorem addr_add (b off j : Nat) : (⟨b, off, none⟩ : Addr).add j = ⟨b, off + j, none⟩ := by unfold Addr.add; split <;> simp_all

/-- bytes that came in, as a text -/
theorem conv_ints {w : World} {a : Option Addr} {n c : Nat} {z : List Int} (h : IntsIn .u8 w a n c z) :
    ∃ l : List UInt8, l.length = n ∧ ∀ w', Touch [] w w' → (convert 42 9 (.slice a n c)).run Tryd.prog w' = .ok (.string (str l)) w' := by
  refine ⟨z.map (fun x => UInt8.ofNat x.toNat), by rw [List.length_map, h.len], fun w' ht => ?_⟩
  obtain ⟨l, hl⟩ : ∃ l, z.map (fun x => UInt8.ofNat x.toNat) = l := ⟨_, rfl⟩
  have hln : l.length = n := by rw [← hl, List.length_map, h.len]
  rw [hl]
  cases a with
  | none =>
    have h0 : n = 0 := by
      rcases Nat.eq_zero_or_pos n with e | e
      · exact e
      · obtain ⟨b, off, e2, _⟩ := h.cells e
        cases e2
    have hl0 : l = [] := List.eq_nil_of_length_eq_zero (by omega)
    subst h0
    rw [hl0]
    exact run_convert_bytes_nil w' 42 5 Tryd.underlying42 Tryd.underlying5 0 c 9 Tryd.underlying9
  | some ad =>
    rw [← hln]
    exact run_convert_bytes_back (P := Tryd.prog) w' 42 9 5 ad c l Tryd.underlying42 Tryd.underlying5 Tryd.underlying9 (fun j hj => by
      obtain ⟨b, off, e, hc⟩ := h.cells (by omega)
      injection e with e
      subst e
      have hj' : j < z.length := by rw [h.len]; omega
      rw [addr_add]
      have := ht.cell (hc j (by omega)) (by simp)
      rw [this]
      congr 2
      have hwf := u8_bounds (h.wf (z.getD j 0) (by rw [List.getD_eq_getElem?_getD, List.getElem?_eq_getElem hj']; exact List.getElem_mem _))
      rw [List.getD_eq_getElem?_getD, List.getElem?_eq_getElem hj'] at hwf ⊢
      have : l[j]'hj = UInt8.ofNat (z[j]).toNat := by subst hl; rw [List.getElem_map]
      rw [this, UInt8.toNat_ofNat']
      simp only [Option.getD_some] at hwf ⊢
      omega)

/-- bytes of one's own, cloned -/
theorem numclone_any {A : Option Addr} {C : Nat} {l : List UInt8} {g : Option Nat} (w : World) (hs : SlAt w 5 1 (.slice A l.length C) l.length (bytesV l) g) (hl : l.length ≤ 100000) :
    Calls Tryd.prog 57 #[.slice A l.length C] w fun e w' => ∃ v' g', e = .returned v' ∧ SlAt w' 5 1 v' l.length (bytesV l) g' ∧ (∀ k, g' = some k → w.heap.size ≤ k) ∧ Touch [] w w' := by
  rcases hs.shape with ⟨e, h0, h1, h2⟩ | ⟨k, cap, cur, e, hg, hk, _⟩
  · injection e with e1 e2 e3
    subst e1
    refine (Tryd.bytes_Clone_nil l.length C w).mono ?_
    rintro e w' ⟨rfl, rfl⟩
    exact ⟨_, none, rfl, by rw [h1, h0]; exact SlAt.nil _ _ _, by simp, Touch.refl _ _⟩
  · injection e with e1 e2 e3
    subst e1
    refine (Tryd.bytes_Clone_at ⟨k, 0, none⟩ l.length C (l.map (fun x => (x.toNat : Int))) w (by simp) (by omega) (fun i hi => ?_)).mono ?_
    · have hc := hs.cell hg (j := i) (u := .int .u8 (l[i]).toNat) (by unfold bytesV; simp [hi])
      rw [addr_add, Nat.zero_add, hc]
      simp [List.getD_eq_getElem?_getD, hi]
    · rintro e w' ⟨v', rfl, ho, hne, hb⟩
      have he : (l.map (fun x => (x.toNat : Int))).map (Value.int .u8) = bytesV l := by unfold bytesV; rw [List.map_map]; rfl
      rw [he] at ho
      exact ⟨v', _, rfl, ⟨Go.Joins.ownsRow_le ho (Nat.zero_le _), rfl⟩, fun k hk => (ho.lt k hk).1, Touch.of_below hb []⟩

theorem numcopy_any (b : Nat) (l : List UInt8) (n : Num.St) (g : Option Nat) (tv : Value) (w : World) (hF : NumF w b l n g tv) (hl : l.length ≤ 100000) :
    Calls Tryd.prog 39 #[.pointer (some ⟨b, 0, none⟩)] w fun e w' => (∃ m g' tv', e = .returned (.pointer (some ⟨m, 0, none⟩)) ∧ w.heap.size ≤ m ∧ NumF w' m l n g' tv' ∧ (∀ k, g' = some k → w.heap.size ≤ k ∧ k ≠ m)) ∧ Touch [] w w' := by
  have hF0 := hF
  obtain ⟨hN, hs, hg⟩ := hF
  obtain ⟨A, C, rfl, hC1, hC2, _⟩ := hs.form
  have hcl := fun W hS => numclone_any (A := A) (C := C) (l := l) (g := g) W hS hl
  unfold NumAt at hN
  have c0 := cell_at hN 0
  have c1 := cell_at hN 1
  have c2 := cell_at hN 2
  have c3 := cell_at hN 3
  have c4 := cell_at hN 4
  have c5 := cell_at hN 5
  have c6 := cell_at hN 6
  have f0 := free_at hN 0
  have f1 := free_at hN 1
  have f2 := free_at hN 2
  have f3 := free_at hN 3
  have f4 := free_at hN 4
  have f5 := free_at hN 5
  have f6 := free_at hN 6
  have lb := block_lt hN
  simp [NumC] at c0 c1 c2 c3 c4 c5 c6
  let kp_ : Exit → Act → World → Prop := bodyPost Tryd.prog Tryd.f39 (fun _ _ => True)
  refine calls_post Tryd.func39 rfl ?_
  intro Q_ hQ_
  simp only [Tryd.ntmps39, List.size_toArray, List.length_cons, List.length_nil, Nat.reduceAdd, Nat.reduceSub, Array.replicate_succ, Array.replicate_zero, List.push_toArray, List.append_toArray, List.nil_append, List.cons_append]
  go_wp2_with fail
  refine (hcl _ (hs.keep ((Touch.refl [] _).alloc _) (by simp))).mono ?_
  rintro e w1 ⟨v', g', rfl, hs1, hg1, ht1⟩
  try go_simp
  have hM := ht1.keep (alloc_new w _) (by simp)
  have d0 := free_at hM 0
  have dl := block_lt hM
  have c0' := cell_at hM 0
  obtain ⟨A', C', rfl, hD1, hD2, _⟩ := hs1.form
  have hg2 : ∀ k, g' = some k → w.heap.size < k := fun k hk => by have := hg1 k hk; simp at this; omega
  clear hcl hg1 hF0 hs hN
  go_wp2
  (try simp only [Exit.inBlock, Exit.then])
  refine hQ_.ret (results_tmp rfl _ _ _) rfl ?_
  refine ⟨⟨w.heap.size, g', .slice A' l.length C', rfl, Nat.le_refl _, ⟨?_, hs1.keep (Touch.setCell (F := [w.heap.size]) (Touch.refl _ _) (p := ⟨w.heap.size, 0, none⟩) (by simp) _) (fun k hk => by have := hg2 k hk; simp; omega), fun k hk => by have := hg2 k hk; omega⟩, fun k hk => by have := hg2 k hk; omega⟩, ?_⟩
  · have := set_same hM 0 (.slice A' l.length C')
    exact this
  · exact (Touch.alloc (Touch.refl [] w) _ |>.trans ht1).setCell (p := ⟨w.heap.size, 0, none⟩) (.inr (Nat.le_refl _)) _

theorem numbercopies_walk (a0 : Option Addr) (n0 c0 : Nat) (z0 : List Int) (a1 : Option Addr) (n1 c1 : Nat) (z1 : List Int) (a2 : Option Addr) (n2 c2 : Nat) (z2 : List Int) (w : World) (w0 : IntsIn .u8 w a0 n0 c0 z0) (w1 : IntsIn .u8 w a1 n1 c1 z1) (w2 : IntsIn .u8 w a2 n2 c2 z2) :
    Calls Tryd.prog 13 #[.slice a0 n0 c0, .slice a1 n1 c1, .slice a2 n2 c2] w fun e w' => e = .returned (.bool true) ∧ Touch [] w w' := by
  have hm0 : n0 ≤ 9223372036854775807 := by have := w0.le; have := w0.max; omega
  have hm1 : n1 ≤ 9223372036854775807 := by have := w1.le; have := w1.max; omega
  have hm2 : n2 ≤ 9223372036854775807 := by have := w2.le; have := w2.max; omega
  obtain ⟨l0, e0, k0⟩ := conv_ints w0
  obtain ⟨l1, e1, k1⟩ := conv_ints w1
  obtain ⟨l2, e2, k2⟩ := conv_ints w2
  clear w0 w1 w2
  let kp_ : Exit → Act → World → Prop := bodyPost Tryd.prog Tryd.f13 (fun _ _ => True)
  refine calls_post Tryd.func13 rfl ?_
  intro Q_ hQ_
  simp only [Tryd.ntmps13, List.size_toArray, List.length_cons, List.length_nil, Nat.reduceAdd, Nat.reduceSub, Array.replicate_succ, Array.replicate_zero, List.push_toArray, List.append_toArray, List.nil_append, List.cons_append]
  go_wp2_with fail
  refine (numnew_any _).mono ?_
  rintro e v1 ⟨⟨p, rfl, hp, hA⟩, ht1⟩
  try go_simp
  by_cases g0 : 30 < n0
  · go_wp2_with fail
    refine (awake11 _).mono ?_
    rintro e v2 ⟨rfl, ht⟩
    try go_simp
    go_wp2
    (try simp only [Exit.inBlock, Exit.then])
    refine hQ_.ret (results_tmp rfl _ _ _) rfl ?_
    exact ⟨rfl, ht1.trans ht⟩
  by_cases g1 : 30 < n1
  · go_wp2_with fail
    refine (awake11 _).mono ?_
    rintro e v2 ⟨rfl, ht⟩
    try go_simp
    go_wp2
    (try simp only [Exit.inBlock, Exit.then])
    refine hQ_.ret (results_tmp rfl _ _ _) rfl ?_
    exact ⟨rfl, ht1.trans ht⟩
  by_cases g2 : 30 < n2
  · go_wp2_with fail
    refine (awake11 _).mono ?_
    rintro e v2 ⟨rfl, ht⟩
    try go_simp
    go_wp2
    (try simp only [Exit.inBlock, Exit.then])
    refine hQ_.ret (results_tmp rfl _ _ _) rfl ?_
    exact ⟨rfl, ht1.trans ht⟩
  have K0 := k0 v1 ht1
  obtain ⟨i0, r0, m0, q0⟩ : ∃ i k m, Num.pushAll Num.St.start l0 = (i, k, m) := ⟨_, _, _, rfl⟩
  have hi0 : i0 ≤ l0.length := by have := Num.pushAll_le l0 Num.St.start; rw [q0] at this; exact this
  go_wp2_with fail
  refine (pushes_any p [] _ none _ l0 _ hA Num.start_ok (by simp; omega) i0 r0 m0 q0).mono ?_
  rintro e v2 ⟨rfl, ⟨ga, tva, hF, hna, hoka⟩, ht2⟩
  try go_simp
  have hT2 : Touch [] w v2 := ht1.step ht2 (fun x hx => .inr (by simp at hx; omega))
  rw [List.nil_append] at hF
  rw [List.length_nil, Nat.zero_add] at hoka
  obtain ⟨X, hX⟩ : ∃ X, l0.take i0 = X := ⟨_, rfl⟩
  have hXl : X.length = i0 := by rw [← hX, List.length_take]; omega
  have hXs : X.length ≤ 30 := by omega
  rw [hX] at hF
  rw [← hXl] at hoka
  have hga : ∀ k, ga = some k → w.heap.size ≤ k ∧ k ≠ p := fun k hk => ⟨by
    rcases hna with e | ⟨j, e1, e2⟩
    · rw [hk] at e; cases e
    · rw [hk] at e1; injection e1 with e1; subst e1; have := ht1.size; omega, hF.g k hk⟩
  clear hA hna ht1 ht2 K0 k0 q0 hi0 hX hXl
  -- the copy
  go_wp2_with fail
  refine (numcopy_any p X m0 ga tva _ hF (by omega)).mono ?_
  rintro e v3 ⟨⟨q, gb, tvb, rfl, hq, hFb, hgb⟩, ht3⟩
  try go_simp
  have hpl := hF.lt
  have hgal : ∀ k, ga = some k → k < v2.heap.size := fun k hk => hF.s.lt hk
  replace hF := hF.keep ht3 (by simp) (by simp)
  have hT3 := hT2.trans ht3
  have hv2 := hT2.size
  have hpq : p ≠ q := by omega
  have hqw : w.heap.size ≤ q := by omega
  have hgbw : ∀ k, gb = some k → w.heap.size ≤ k ∧ k ≠ q ∧ k ≠ p ∧ (∀ j, ga = some j → k ≠ j) := fun k hk => ⟨by have := (hgb k hk).1; omega, (hgb k hk).2, by have := (hgb k hk).1; omega, fun j hj => by have := (hgb k hk).1; have := hgal j hj; omega⟩
  have hgaq : ∀ k, ga = some k → k ≠ q := fun k hk => by have := hgal k hk; omega
  clear hgb ht3 hT2 hgal
  -- its text
  go_wp2_with fail
  refine (numtext_any p X m0 ga tva _ hF).mono ?_
  rintro e v4 ⟨rfl, rfl⟩
  try go_simp
  -- the copy goes on
  have K1 := k1 v4 hT3
  obtain ⟨i1, r1, m1, q1⟩ : ∃ i k m, Num.pushAll m0 l1 = (i, k, m) := ⟨_, _, _, rfl⟩
  go_wp2_with fail
  refine (pushes_any q X m0 gb tvb l1 _ hFb hoka (by omega) i1 r1 m1 q1).mono ?_
  rintro e v5 ⟨rfl, ⟨gc, tvc, hFc, hnc, hokc⟩, ht5⟩
  try go_simp
  have hT5 : Touch [] w v5 := hT3.step ht5 (fun x hx => by
    rcases mem_own' hx with rfl | h
    · exact .inr hqw
    · exact .inr (hgbw x h).1)
  have hF5 := hF.keep ht5 (fun h => by
    rcases mem_own' h with h | h
    · exact hpq h
    · exact (hgbw p h).2.2.1 rfl) (fun k hk h => by
    rcases mem_own' h with h | h
    · exact hgaq k hk h
    · exact (hgbw k h).2.2.2 k hk rfl)
  have hpl4 : p < v4.heap.size := hF.lt
  have hgcw : ∀ k, gc = some k → k ≠ p ∧ (∀ j, ga = some j → k ≠ j) := fun k hk => by
    rcases hnc with e | ⟨j, e1, e2⟩
    · rw [e] at hk; exact ⟨(hgbw k hk).2.2.1, (hgbw k hk).2.2.2⟩
    · rw [hk] at e1; injection e1 with e1; subst e1
      exact ⟨by omega, fun j hj => by have := hF.s.lt hj; omega⟩
  obtain ⟨Y, hY⟩ : ∃ Y, X ++ l1.take i1 = Y := ⟨_, rfl⟩
  rw [hY] at hFc
  clear hF hFb hT3 K1 k1 q1 hnc hokc ht5 hgbw hY
  go_wp2_with fail
  refine (numtext_any q Y m1 gc tvc _ hFc).mono ?_
  rintro e v6 ⟨rfl, rfl⟩
  try go_simp
  go_wp2_with fail
  refine (numtext_any p X m0 ga tva _ hF5).mono ?_
  rintro e v7 ⟨rfl, rfl⟩
  try go_simp
  -- the first one goes on
  have K2 := k2 v7 hT5
  obtain ⟨i2, r2, m2, q2⟩ : ∃ i k m, Num.pushAll m0 l2 = (i, k, m) := ⟨_, _, _, rfl⟩
  go_wp2_with fail
  refine (pushes_any p X m0 ga tva l2 _ hF5 hoka (by omega) i2 r2 m2 q2).mono ?_
  rintro e v8 ⟨rfl, _, ht8⟩
  try go_simp
  have hT8 : Touch [] w v8 := hT5.step ht8 (fun x hx => by
    rcases mem_own' hx with rfl | h
    · exact .inr hp
    · exact .inr (hga x h).1)
  have hF8 := hFc.keep ht8 (fun h => by
    rcases mem_own' h with h | h
    · exact hpq h.symm
    · exact hgaq q h rfl) (fun k hk h => by
    rcases mem_own' h with h | h
    · exact (hgcw k hk).1 h
    · exact (hgcw k hk).2 k h rfl)
  clear hT5 hF5 hFc K2 q2 ht8
  go_wp2_with fail
  refine (numtext_any q Y m1 gc tvc _ hF8).mono ?_
  rintro e v9 ⟨rfl, rfl⟩
  try go_simp
  go_wp2_with fail
  refine (awake11 _).mono ?_
  rintro e va ⟨rfl, hta⟩
  try go_simp
  go_wp2
  (try simp only [Exit.inBlock, Exit.then])
  refine hQ_.ret (results_tmp rfl _ _ _) rfl ?_
  exact ⟨rfl, hT8.trans hta⟩
end Go.Proofs.YtcpfooceadgccaaDoor
