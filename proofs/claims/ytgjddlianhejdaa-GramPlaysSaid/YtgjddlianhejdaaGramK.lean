/- The walk of kinds. -/
import Derived.Test.YtgjddlianhejdaaGramKM
import Derived.Test.YtgjddlianhejdaaGramL
import Derived.Test.YtgjddlianhejdaaLimAts
import Derived.Test.YtgjddlianhejdaaIn
namespace Go.Proofs.Ytgjddlianhejdaa
open Go.RowKit
set_option maxRecDepth 100000
set_option linter.unusedVariables false
set_option linter.unusedSimpArgs false

theorem IntsIn.keep {k : IntKind} {w w' : World} {a : Option Addr} {n c : Nat} {zs : List Int} (h : IntsIn k w a n c zs) (ht : Touch [] w w') : IntsIn k w' a n c zs := by
  obtain ⟨h1, h2, h3, h4, h5⟩ := h
  refine ⟨h1, h2, h3, h4, fun h0 => ?_⟩
  obtain ⟨b, off, ha, hc⟩ := h5 h0
  exact ⟨b, off, ha, fun i hi => ht.cell (hc i hi) (by simp)⟩

/-- what kinds comes to. -/
def KindsPost (w : World) (r : List Int × Nat) (e : Ending) (w' : World) : Prop :=
  ∃ ad n c g, e = .returned (.tuple #[.slice ad n c, .int .i64 r.2]) ∧ SlAt w' 3 1 (.slice ad n c) n (ints r.1) g ∧ (∀ k, g = some k → w.heap.size ≤ k) ∧ Touch [] w w'

theorem SlAt.ints_len {w : World} {E : TypeId} {v : Value} {n : Nat} {l : List Int} {g : Option Nat} (h : SlAt w E 1 v n (ints l) g) : n = l.length := by
  have := h.len
  simp at this
  exact this.symm

set_option maxHeartbeats 2000000 in
theorem kinds_leaf (z0 : List Int) (a0 : Option Addr) (n0 c0 : Nat) (at_ : Nat) (d : Int) (w : World) (w0 : IntsIn .i64 w a0 n0 c0 z0) (hat : at_ ≤ 1000000000)
    (hleaf : kAt z0 at_ % 7 < 5 ∨ d = 0 ∨ n0 < at_ + 1) :
    Calls Try.prog 42 #[.slice a0 n0 c0, .int .i64 at_, .int .i64 d] w (KindsPost w ([1 + kAt z0 at_ % 7 % 5], at_ + 1)) := by
  have hl := w0.len
  have hk := kAt_bd z0 at_
  obtain ⟨k, hkk⟩ : ∃ k, kAt z0 at_ = k := ⟨_, rfl⟩
  have HK : Hid (kAt z0 at_ = k) := hkk
  rw [hkk] at hleaf hk ⊢
  have hcm : n0 ≤ 9223372036854775807 := by have := w0.le; have := w0.max; omega
  have fin : ∀ wz, Touch [] w wz → KindsPost w ([1 + k % 7 % 5], at_ + 1) (.returned (.tuple #[.slice (some ⟨wz.heap.size, 0, none⟩) 1 1, .int .i64 ((at_ : Int) + 1)])) (wz.alloc (.cells #[.int .i64 (1 + k % 7 % 5)] 3)) := by
    intro wz ht
    exact ⟨_, 1, 1, _, rfl, slAt_new rfl (by omega), by rintro k hk; injection hk with hk; subst hk; exact ht.size, ht.alloc _⟩
  have FIN := Lib.hid fin
  obtain ⟨hk0, hk1⟩ := hk
  clear fin
  by_cases hlt : at_ < n0
  · obtain ⟨b, off, rfl, hcell⟩ := w0.cells (by omega)
    obtain ⟨x, hx⟩ : ∃ x, z0.getD at_ 0 = x := ⟨_, rfl⟩
    have hz := hcell at_ hlt
    have hwf := i64_bounds (w0.wf (z0.getD at_ 0) (by rw [List.getD_eq_getElem?_getD, List.getElem?_eq_getElem (by omega)]; exact List.getElem_mem _))
    rw [hx] at hz hwf
    obtain ⟨hb0, hb1⟩ := hwf
    have hxk : x % 1073741824 = k := by rw [← hkk]; unfold kAt; rw [if_pos (by omega), hx]
    have HX := Box.mk hxk
    clear hcell hx hkk hxk
    by_cases h7 : k % 7 < 5
    · go_enter Try.func42, Try.ntmps42
      go_wp2_with fail
      refine (place_at _ _ k _ HX.out (by omega) (by omega) (by omega) (by omega)).mono ?_
      rintro e v1 ⟨rfl, rfl⟩
      try go_simp
      go_wp2_with fail
      go_ret2
      exact FIN.out _ (Touch.refl _ _)
    · have h7' : decide (k % 7 < 5) = false := by simp; omega
      by_cases hd : d = 0
      · subst hd
        go_enter Try.func42, Try.ntmps42
        go_wp2_with fail
        refine (place_at _ _ k _ HX.out (by omega) (by omega) (by omega) (by omega)).mono ?_
        rintro e v1 ⟨rfl, rfl⟩
        try go_simp
        go_wp2_with fail
        go_ret2
        exact FIN.out _ (Touch.refl _ _)
      · have hd' : (d == 0) = false := by simpa using hd
        exfalso
        omega
  · have hk0' : k = 0 := by rw [← hkk]; unfold kAt; rw [if_neg (by omega)]
    subst hk0'
    go_enter Try.func42, Try.ntmps42
    go_wp2_with fail
    go_ret2
    exact FIN.out _ (Touch.refl _ _)

theorem srcInts (w : World) (E : TypeId) (l : List Int) (c : Nat) : SrcAt (w.alloc (.cells (ints l).toArray E)) 1 (.slice (some ⟨w.heap.size, 0, none⟩) l.length c) l.length (ints l) := by
  have h := srcAt_new (w := w) (E := E) (c := (ints l).toArray) (m := l.length) (k := c) (size := 1) (by simp) (by simpa using ints_one l)
  simpa using h
theorem srcInt1 (w : World) (E : TypeId) (x : Int) (c : Nat) : SrcAt (w.alloc (.cells #[.int .i64 x] E)) 1 (.slice (some ⟨w.heap.size, 0, none⟩) 1 c) 1 (ints [x]) := srcInts w E [x] c
theorem srcInt2 (w : World) (E : TypeId) (x y : Int) (c : Nat) : SrcAt (w.alloc (.cells #[.int .i64 x, .int .i64 y] E)) 1 (.slice (some ⟨w.heap.size, 0, none⟩) 2 c) 2 (ints [x, y]) := srcInts w E [x, y] c
theorem ints_append (a b : List Int) : ints a ++ ints b = ints (a ++ b) := by simp


theorem newOr_up {w w1 : World} {g g' : Option Nat} (h : NewOr w1 g g') (hw : w.heap.size ≤ w1.heap.size) (hg : ∀ k, g = some k → w.heap.size ≤ k) : ∀ k, g' = some k → w.heap.size ≤ k := by
  intro k hk
  rcases h with h | ⟨j, h, hj⟩
  · exact hg k (h ▸ hk)
  · rw [h] at hk; injection hk with hk; omega
theorem step_up {w w1 w2 : World} {g : Option Nat} (h : Touch [] w w1) (k : Touch g.toList w1 w2) (hg : ∀ k, g = some k → w.heap.size ≤ k) : Touch [] w w2 :=
  h.step k fun x hx => .inr (hg x (by simpa using hx))
theorem alloc_up {w w1 w2 : World} {o : Obj} {g : Option Nat} (h : Touch [] w w1) (k : Touch g.toList (w1.alloc o) w2) (hg : ∀ k, g = some k → w.heap.size ≤ k) : Touch [] w w2 :=
  step_up (h.alloc o) k hg
theorem newOr_alloc {w w1 : World} {o : Obj} {g g' : Option Nat} (h : NewOr (w1.alloc o) g g') (hw : w.heap.size ≤ w1.heap.size) (hg : ∀ k, g = some k → w.heap.size ≤ k) : ∀ k, g' = some k → w.heap.size ≤ k :=
  newOr_up h (by simp; omega) hg

/-- the loop's relation. -/
structure KRel (w wr : World) (f : Nat → List Int × Nat) (obj : Bool) (i : Nat) (s : List Int × Nat) (v9 v1 : Value) : Prop where
  pos : v1 = .int .i64 (kLoop f obj i s).2
  own : ∃ ad n c g, v9 = .slice ad n c ∧ SlAt wr 3 1 (.slice ad n c) n (ints (kLoop f obj i s).1) g ∧ ∀ k, g = some k → w.heap.size ≤ k
  touch : Touch [] w wr


theorem srcAt_more {w w' : World} {v : Value} {n : Nat} {l : List Int} {g : Option Nat} (h : SlAt w 3 1 v n (ints l) g) (ht : Touch [] w w') : SrcAt w' 1 v n (ints l) :=
  (h.keep ht (by simp)).src (ints_one l)

theorem touch_more {w1 w2 w3 : World} {g : Option Nat} (h : Touch g.toList w1 w2) (hg : ∀ k, g = some k → w3.heap.size ≤ k) : Touch g.toList w1 w2 := h

/-- one round's end: what was put out, where it stands. -/
theorem krel_next {w wr : World} {f : Nat → List Int × Nat} {obj : Bool} {i : Nat} {s : List Int × Nat} {ad : Option Addr} {n c : Nat} {g : Option Nat}
    (hs : SlAt wr 3 1 (.slice ad n c) n (ints ((kLoop f obj i s).1 ++ ((if 0 < i then [11] else []) ++ ((if obj then [5, 10] else []) ++ (f (kLoop f obj i s).2).1)))) g) (hg : ∀ k, g = some k → w.heap.size ≤ k) (ht : Touch [] w wr) :
    KRel w wr f obj (i + 1) s (.slice ad n c) (.int .i64 (f (kLoop f obj i s).2).2) :=
  ⟨rfl, ⟨ad, n, c, g, rfl, hs, hg⟩, ht⟩

set_option maxHeartbeats 4000000 in
theorem kinds_any (z0 : List Int) (a0 : Option Addr) (n0 c0 : Nat) (d : Nat) (hd : d ≤ 5) : ∀ (at_ : Nat) (w : World), IntsIn .i64 w a0 n0 c0 z0 → at_ + 10000 * d ≤ 1000000000 →
    Calls Try.prog 42 #[.slice a0 n0 c0, .int .i64 at_, .int .i64 d] w (KindsPost w (kinds z0 d at_)) := by
  induction d with
  | zero =>
    intro at_ w w0 hat
    exact kinds_leaf z0 a0 n0 c0 at_ 0 w w0 (by omega) (.inr (.inl rfl))
  | succ d ih =>
    intro at_ w w0 hat
    have hl := w0.len
    by_cases hleaf : kAt z0 at_ % 7 < 5 ∨ z0.length < at_ + 1
    · have e : kinds z0 (d + 1) at_ = ([1 + kAt z0 at_ % 7 % 5], at_ + 1) := by simp only [kinds]; rw [if_pos hleaf]
      rw [e]
      exact kinds_leaf z0 a0 n0 c0 at_ _ w w0 (by omega) (by omega)
    · have hkb := kAt_bd z0 at_
      have hcm : n0 ≤ 9223372036854775807 := by have := w0.le; have := w0.max; omega
      obtain ⟨k, hkk⟩ : ∃ k, kAt z0 at_ = k := ⟨_, rfl⟩
      have hlt : at_ < n0 := by omega
      have h7 : ¬ k % 7 < 5 := by omega
      obtain ⟨D, hD⟩ : ∃ D : Int, ((d + 1 : Nat) : Int) = D := ⟨_, rfl⟩
      have hD1 : 1 ≤ D := by omega
      have hD5 : D ≤ 5 := by omega
      have hdd' : (D == 0) = false := by simp; omega
      have HD : Box (D - 1 = (d : Int)) := ⟨by omega⟩
      rw [hD]
      have hal : (at_ : Int) + 1 ≤ n0 := by omega
      have hal2 : decide ((n0 : Int) < (at_ : Int) + 1) = false := by simp; omega
      obtain ⟨b, off, rfl, hcell⟩ := w0.cells (by omega)
      obtain ⟨x, hx⟩ : ∃ x, z0.getD at_ 0 = x := ⟨_, rfl⟩
      have hz := hcell at_ hlt
      have hwf := i64_bounds (w0.wf (z0.getD at_ 0) (by rw [List.getD_eq_getElem?_getD, List.getElem?_eq_getElem (by omega)]; exact List.getElem_mem _))
      rw [hx] at hz hwf
      have hxk : x % 1073741824 = k := by rw [← hkk]; unfold kAt; rw [if_pos (by omega), hx]
      have HX := Box.mk hxk
      obtain ⟨m, hm⟩ : ∃ m, (k / 7 % 4).toNat = m := ⟨_, rfl⟩
      have hm3 : m ≤ 3 := by omega
      have hmk : k / 7 % 4 = (m : Int) := by omega
      have e : kinds z0 (d + 1) at_ = if k % 7 = 6 then ((kLoop (kinds z0 d) true m ([8], at_ + 1)).1 ++ [9], (kLoop (kinds z0 d) true m ([8], at_ + 1)).2) else ((kLoop (kinds z0 d) false m ([6], at_ + 1)).1 ++ [7], (kLoop (kinds z0 d) false m ([6], at_ + 1)).2) := by
        simp only [kinds]
        rw [if_neg hleaf, hkk, hm]
      have hfb : ∀ a, (kinds z0 d a).1.length ≤ 3000 ∧ (kinds z0 d a).2 ≤ a + 2100 := kinds_bd5 z0 d (by omega)
      rw [e]
      clear e
      obtain ⟨f, hf⟩ : ∃ f, kinds z0 d = f := ⟨_, rfl⟩
      rw [hf] at hfb ⊢
      have hlb : ∀ obj i s, i ≤ 3 → (kLoop f obj i s).1.length ≤ s.1.length + 9009 ∧ (kLoop f obj i s).2 ≤ s.2 + 6300 := by
        intro obj i s hi
        have h := kLoop_bd (f := f) (L := 3000) (N := 2100) hfb obj i s
        refine ⟨Nat.le_trans h.1 (Nat.add_le_add_left (Nat.le_trans (Nat.mul_le_mul_right _ hi) (by omega)) _), Nat.le_trans h.2 (Nat.add_le_add_left (Nat.le_trans (Nat.mul_le_mul_right _ hi) (by omega)) _)⟩
      have HLB := Box.mk hlb
      have HMK := Box.mk hmk
      have HIH : Box (∀ (at_ : Nat) (w : World), IntsIn .i64 w (some ⟨b, off, none⟩) n0 c0 z0 → at_ + 10000 * d ≤ 1000000000 → Calls Try.prog 42 #[.slice (some ⟨b, off, none⟩) n0 c0, .int .i64 at_, .int .i64 d] w (KindsPost w (f at_))) := ⟨by rw [← hf]; exact ih (by omega)⟩
      have HF := Box.mk hfb
      have h56 : k % 7 = 6 ∨ k % 7 = 5 := by omega
      have hk0 : 0 ≤ k := by omega
      have hat2 : at_ ≤ 999990000 := by omega
      have HAT := Box.mk hat
      have hk1 : k < 1073741824 := by omega
      clear hcell hx hkk hxk hm hmk hlb ih hfb hf hleaf hkb hl hD h7 hat
      obtain ⟨hb0, hb1⟩ := hwf
      rcases h56 with h6 | h5
      · rw [if_pos h6]
        have h6' : (k % 7 == 6) = true := by simpa using h6
        have h65 : decide (k % 7 < 5) = false := by simp; omega
        clear h6
        go_enter Try.func42, Try.ntmps42
        go_wp2_with fail
        refine (place_at _ _ k _ HX.out (by omega) (by omega) (by omega) (by omega)).mono ?_
        rintro e v1 ⟨rfl, rfl⟩
        try go_simp
        go_wp2_with fail
        obtain ⟨s0, hs0⟩ : ∃ s0 : List Int × Nat, s0 = ([8], at_ + 1) := ⟨_, rfl⟩
        have hs02 : s0.2 ≤ 1000000000 := by rw [hs0]; simp only; omega
        rw [← hs0]
        have hstart : KRel w ((w.alloc (.cells #[.int .i64 6] 3)).alloc (.cells #[.int .i64 8] 3)) f true 0 s0 (.slice (some ⟨w.heap.size + 1, 0, none⟩) 1 1) (.int .i64 ((at_ : Int) + 1)) := by
          rw [hs0]
          refine ⟨rfl, ⟨_, 1, 1, _, rfl, by have h := slAt_new (w := (w.alloc (.cells #[.int .i64 6] 3))) (E := 3) (c := #[.int .i64 8]) (m := 1) (size := 1) rfl (by omega); simpa [kLoop] using h, ?_⟩, ((Touch.refl [] w).alloc _).alloc _⟩
          intro k hk; injection hk with hk; subst hk; simp
        have hs03 : s0.1.length ≤ 10 := by rw [hs0]; simp
        have hs04 : s0.2 ≤ at_ + 1 := by rw [hs0]; simp
        have HS0 := Box.mk hs0
        clear hs0
        go_loopw [1, 9, 12] (fun v1 v9 v12 wr => ∃ i : Nat, i ≤ m ∧ v12 = .int .i64 i ∧ KRel w wr f true i s0 v9 v1) (fun _ _ v _ => 4 - (intOf v).toNat)
        case atStart => exact ⟨0, by omega, rfl, hstart⟩
        case round =>
          clear hstart
          obtain ⟨i, him, rfl, hrel⟩ := hrel
          obtain ⟨hpos, ⟨ad, n, c, g, rfl, hs, hg⟩, hT⟩ := hrel
          subst hpos
          have hi3 : i ≤ 3 := by omega
          have hn := hs.ints_len
          have hlb := HLB.out true i s0 hi3
          have hn2 : n ≤ 10000 := by omega
          have hp2 : (kLoop f true i s0).2 ≤ 1000010000 := by omega
          have HP3 : Box ((kLoop f true i s0).2 + 10000 * d ≤ 1000000000) := ⟨by have := HAT.out; omega⟩
          have HROW := Box.mk (fun (ad : Option Addr) (n c : Nat) (g : Option Nat) (wx : World) => krel_next (w := w) (wr := wx) (f := f) (obj := true) (i := i) (s := s0) (ad := ad) (n := n) (c := c) (g := g))
          have HG := Box.mk hg
          clear hlb hn hg
          by_cases hlt : i < m
          · have hb : decide ((i : Int) < k / 7 % 4) = true := by rw [HMK.out]; simp; omega
            by_cases hi0 : i < 1
            · have hneg : decide ((0 : Int) < (i : Int)) = false := by simp; omega
              have HI : Box ((if 0 < i then [11] else ([] : List Int)) = []) := ⟨if_neg (by omega)⟩
              go_wp2_with (first | (at_builtin; refine wpList_append_sl sliceT_int rfl (.tmp 63) (.tmp 64) rfl rfl (hs.keep ((Touch.refl [] _).alloc _) (by simp)) rfl (srcInt2 _ _ _ _ _) (by omega) ?_; intro ad2 c2 w2 g2 hs2 ht2 hn2; simp only [ints_append, List.append_assoc] at hs2; have hg2 := newOr_alloc hn2 hT.size HG.out; have hT2 := alloc_up hT ht2 HG.out))
              rw [HD.out]
              refine (HIH.out _ _ (w0.keep hT2) HP3.out).mono ?_
              rintro e w5 ⟨ad5, n5, c5, g5, rfl, hs5, hg5, ht5⟩
              have hs6 := hs2.keep ht5 (by simp)
              have hn5 := hs5.ints_len
              have hn5b : n5 ≤ 3000 := by have := (HF.out (kLoop f true i s0).2).1; omega
              have hT5 : Touch [] w w5 := hT2.trans ht5
              clear hn5 hs2
              try go_simp
              go_wp2_with (at_builtin; refine wpList_append_sl sliceT_int rfl (.tmp 74) (.tmp 75) rfl rfl hs6 rfl (hs5.src (ints_one _)) (by omega) ?_; intro ad7 c7 w7 g7 hs7 ht7 hn7; simp only [ints_append, List.append_assoc] at hs7; have hg7 := newOr_up hn7 hT5.size hg2; have hT7 := step_up hT5 ht7 hg2)
              go_roundw
              case rel =>
                refine ⟨i + 1, by omega, by go_num, HROW.out _ _ _ g7 _ ?_ hg7 hT7⟩
                rw [HI.out]
                simpa using hs7
              case measure => simp [intOf]; omega
            · have hposi : decide ((0 : Int) < (i : Int)) = true := by simp; omega
              have HI : Box ((if 0 < i then [11] else ([] : List Int)) = [11]) := ⟨if_pos (by omega)⟩
              go_wp2_with (first | (at_builtin; refine wpList_append_sl sliceT_int rfl (.tmp 59) (.tmp 60) rfl rfl (hs.keep ((Touch.refl [] _).alloc _) (by simp)) rfl (srcInt1 _ _ _ _) (by omega) ?_; intro ad1 c1 w1 g1 hs1 ht1 hn1; simp only [ints_append, List.append_assoc] at hs1; have hg1 := newOr_alloc hn1 hT.size HG.out; have hT1 := alloc_up hT ht1 HG.out) | (at_builtin; refine wpList_append_sl sliceT_int rfl (.tmp 63) (.tmp 64) rfl rfl (hs1.keep ((Touch.refl [] _).alloc _) (by simp)) rfl (srcInt2 _ _ _ _ _) (by omega) ?_; intro ad2 c2 w2 g2 hs2 ht2 hn2; simp only [ints_append, List.append_assoc] at hs2; have hg2 := newOr_alloc hn2 hT1.size hg1; have hT2 := alloc_up hT1 ht2 hg1))
              rw [HD.out]
              refine (HIH.out _ _ (w0.keep hT2) HP3.out).mono ?_
              rintro e w5 ⟨ad5, n5, c5, g5, rfl, hs5, hg5, ht5⟩
              have hs6 := hs2.keep ht5 (by simp)
              have hn5 := hs5.ints_len
              have hn5b : n5 ≤ 3000 := by have := (HF.out (kLoop f true i s0).2).1; omega
              have hT5 : Touch [] w w5 := hT2.trans ht5
              clear hn5 hs2
              try go_simp
              go_wp2_with (at_builtin; refine wpList_append_sl sliceT_int rfl (.tmp 74) (.tmp 75) rfl rfl hs6 rfl (hs5.src (ints_one _)) (by omega) ?_; intro ad7 c7 w7 g7 hs7 ht7 hn7; simp only [ints_append, List.append_assoc] at hs7; have hg7 := newOr_up hn7 hT5.size hg2; have hT7 := step_up hT5 ht7 hg2)
              go_roundw
              case rel =>
                refine ⟨i + 1, by omega, by go_num, HROW.out _ _ _ g7 _ ?_ hg7 hT7⟩
                rw [HI.out]
                simpa using hs7
              case measure => simp [intOf]; omega
          · have hb : decide ((i : Int) < k / 7 % 4) = false := by rw [HMK.out]; simp; omega
            have him2 : i = m := by omega
            have HM : Box (i = m) := ⟨him2⟩
            clear him2
            go_wp2_with (at_builtin; refine wpList_append_sl sliceT_int rfl (.tmp 78) (.tmp 80) rfl rfl (hs.keep ((Touch.refl [] _).alloc _) (by simp)) rfl (srcInt1 _ _ _ _) (by omega) ?_; intro ad8 c8 w8 g8 hs8 ht8 hn8; simp only [ints_append] at hs8)
            go_ret2
            have hg8 := newOr_alloc hn8 hT.size HG.out
            have hT8 := alloc_up hT ht8 HG.out
            rw [← HM.out, ← HS0.out]
            exact ⟨ad8, n + 1, c8, g8, rfl, hs8, hg8, hT8⟩
      · rw [if_neg (by omega)]
        have h6' : (k % 7 == 6) = false := by simp; omega
        have h65 : decide (k % 7 < 5) = false := by simp; omega
        clear h5
        go_enter Try.func42, Try.ntmps42
        go_wp2_with fail
        refine (place_at _ _ k _ HX.out (by omega) (by omega) (by omega) (by omega)).mono ?_
        rintro e v1 ⟨rfl, rfl⟩
        try go_simp
        go_wp2_with fail
        obtain ⟨s0, hs0⟩ : ∃ s0 : List Int × Nat, s0 = ([6], at_ + 1) := ⟨_, rfl⟩
        have hs02 : s0.2 ≤ 1000000000 := by rw [hs0]; simp only; omega
        rw [← hs0]
        have hstart : KRel w (w.alloc (.cells #[.int .i64 6] 3)) f false 0 s0 (.slice (some ⟨w.heap.size, 0, none⟩) 1 1) (.int .i64 ((at_ : Int) + 1)) := by
          rw [hs0]
          refine ⟨rfl, ⟨_, 1, 1, _, rfl, by have h := slAt_new (w := w) (E := 3) (c := #[.int .i64 6]) (m := 1) (size := 1) rfl (by omega); simpa [kLoop] using h, ?_⟩, (Touch.refl [] w).alloc _⟩
          intro k hk; injection hk with hk; subst hk; simp
        have hs03 : s0.1.length ≤ 10 := by rw [hs0]; simp
        have hs04 : s0.2 ≤ at_ + 1 := by rw [hs0]; simp
        have HS0 := Box.mk hs0
        clear hs0
        go_loopw [1, 9, 12] (fun v1 v9 v12 wr => ∃ i : Nat, i ≤ m ∧ v12 = .int .i64 i ∧ KRel w wr f false i s0 v9 v1) (fun _ _ v _ => 4 - (intOf v).toNat)
        case atStart => exact ⟨0, by omega, rfl, hstart⟩
        case round =>
          clear hstart
          obtain ⟨i, him, rfl, hrel⟩ := hrel
          obtain ⟨hpos, ⟨ad, n, c, g, rfl, hs, hg⟩, hT⟩ := hrel
          subst hpos
          have hi3 : i ≤ 3 := by omega
          have hn := hs.ints_len
          have hlb := HLB.out false i s0 hi3
          have hn2 : n ≤ 10000 := by omega
          have hp2 : (kLoop f false i s0).2 ≤ 1000010000 := by omega
          have HP3 : Box ((kLoop f false i s0).2 + 10000 * d ≤ 1000000000) := ⟨by have := HAT.out; omega⟩
          have HROW := Box.mk (fun (ad : Option Addr) (n c : Nat) (g : Option Nat) (wx : World) => krel_next (w := w) (wr := wx) (f := f) (obj := false) (i := i) (s := s0) (ad := ad) (n := n) (c := c) (g := g))
          have HG := Box.mk hg
          clear hlb hn hg
          by_cases hlt : i < m
          · have hb : decide ((i : Int) < k / 7 % 4) = true := by rw [HMK.out]; simp; omega
            by_cases hi0 : i < 1
            · have hneg : decide ((0 : Int) < (i : Int)) = false := by simp; omega
              have HI : Box ((if 0 < i then [11] else ([] : List Int)) = []) := ⟨if_neg (by omega)⟩
              go_wp2_with fail
              rw [HD.out]
              refine (HIH.out _ _ (w0.keep hT) HP3.out).mono ?_
              rintro e w5 ⟨ad5, n5, c5, g5, rfl, hs5, hg5, ht5⟩
              have hs6 := hs.keep ht5 (by simp)
              have hn5 := hs5.ints_len
              have hn5b : n5 ≤ 3000 := by have := (HF.out (kLoop f false i s0).2).1; omega
              have hT5 : Touch [] w w5 := hT.trans ht5
              clear hn5 hs
              try go_simp
              go_wp2_with (at_builtin; refine wpList_append_sl sliceT_int rfl (.tmp 74) (.tmp 75) rfl rfl hs6 rfl (hs5.src (ints_one _)) (by omega) ?_; intro ad7 c7 w7 g7 hs7 ht7 hn7; simp only [ints_append, List.append_assoc] at hs7; have hg7 := newOr_up hn7 hT5.size HG.out; have hT7 := step_up hT5 ht7 HG.out)
              go_roundw
              case rel =>
                refine ⟨i + 1, by omega, by go_num, HROW.out _ _ _ g7 _ ?_ hg7 hT7⟩
                rw [HI.out]
                simpa using hs7
              case measure => simp [intOf]; omega
            · have hposi : decide ((0 : Int) < (i : Int)) = true := by simp; omega
              have HI : Box ((if 0 < i then [11] else ([] : List Int)) = [11]) := ⟨if_pos (by omega)⟩
              go_wp2_with (first | (at_builtin; refine wpList_append_sl sliceT_int rfl (.tmp 59) (.tmp 60) rfl rfl (hs.keep ((Touch.refl [] _).alloc _) (by simp)) rfl (srcInt1 _ _ _ _) (by omega) ?_; intro ad1 c1 w1 g1 hs1 ht1 hn1; simp only [ints_append, List.append_assoc] at hs1; have hg1 := newOr_alloc hn1 hT.size HG.out; have hT1 := alloc_up hT ht1 HG.out))
              rw [HD.out]
              refine (HIH.out _ _ (w0.keep hT1) HP3.out).mono ?_
              rintro e w5 ⟨ad5, n5, c5, g5, rfl, hs5, hg5, ht5⟩
              have hs6 := hs1.keep ht5 (by simp)
              have hn5 := hs5.ints_len
              have hn5b : n5 ≤ 3000 := by have := (HF.out (kLoop f false i s0).2).1; omega
              have hT5 : Touch [] w w5 := hT1.trans ht5
              clear hn5 hs1
              try go_simp
              go_wp2_with (at_builtin; refine wpList_append_sl sliceT_int rfl (.tmp 74) (.tmp 75) rfl rfl hs6 rfl (hs5.src (ints_one _)) (by omega) ?_; intro ad7 c7 w7 g7 hs7 ht7 hn7; simp only [ints_append, List.append_assoc] at hs7; have hg7 := newOr_up hn7 hT5.size hg1; have hT7 := step_up hT5 ht7 hg1)
              go_roundw
              case rel =>
                refine ⟨i + 1, by omega, by go_num, HROW.out _ _ _ g7 _ ?_ hg7 hT7⟩
                rw [HI.out]
                simpa using hs7
              case measure => simp [intOf]; omega
          · have hb : decide ((i : Int) < k / 7 % 4) = false := by rw [HMK.out]; simp; omega
            have him2 : i = m := by omega
            have HM : Box (i = m) := ⟨him2⟩
            clear him2
            go_wp2_with (at_builtin; refine wpList_append_sl sliceT_int rfl (.tmp 78) (.tmp 80) rfl rfl (hs.keep ((Touch.refl [] _).alloc _) (by simp)) rfl (srcInt1 _ _ _ _) (by omega) ?_; intro ad8 c8 w8 g8 hs8 ht8 hn8; simp only [ints_append] at hs8)
            go_ret2
            have hg8 := newOr_alloc hn8 hT.size HG.out
            have hT8 := alloc_up hT ht8 HG.out
            rw [← HM.out, ← HS0.out]
            exact ⟨ad8, n + 1, c8, g8, rfl, hs8, hg8, hT8⟩
end Go.Proofs.Ytgjddlianhejdaa
