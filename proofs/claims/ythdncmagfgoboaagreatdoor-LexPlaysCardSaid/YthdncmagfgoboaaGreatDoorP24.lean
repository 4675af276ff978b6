/- One of the texts that lead to the theorem lexPlays.proved: the conditions stand in each theorem. -/
import Derived.Test.YthdncmagfgoboaaGreatDoorP21
import Derived.Test.YthdncmagfgoboaaGreatDoorP23
import Derived.Deep.DeepCutAuto
set_option linter.unusedSimpArgs false
set_option linter.unusedVariables false
section
namespace Go.Proofs.YthdncmagfgoboaaGreatDoor
open Go.RowKit
set_option maxRecDepth 100000
set_option maxHeartbeats 8000000
def cC (l : List Nat) : List Value := l.map fun c : Nat => Value.int .i32 (c : Int)
def dC (l : List Nat) : List Value := l.map fun c : Nat => Value.int .i64 (c : Int)
theorem dK : fZ Tryz.prog 86 21 (.int .i32 0) 1 4 := by
 refine ⟨Tryz.underlying86, by rfl, by decide, by decide, ?_⟩
 exact info_parts (by kernel_rfl)
theorem aP : fZ Tryz.prog 23 3 (.int .i64 0) 1 8 := by
 refine ⟨Tryz.underlying23, by rfl, by decide, by decide, ?_⟩
 exact info_parts (by kernel_rfl)
theorem dF (l : List Nat) (c : Nat) : cC (l ++ [c]) = cC l ++ [.int .i32 c] := by unfold cC; simp
theorem bE (l : List Nat) (c : Nat) : dC (l ++ [c]) = dC l ++ [.int .i64 c] := by unfold dC; simp
abbrev bC (vo vb : Value) (esc : Nat) (vh : Value) (wait : Nat) (over : Bool) : Array Value := #[vo, vb, .int .i64 esc, vh, .int .u16 wait, .bool over]
def aO (w : World) (p : Nat) (vo vb : Value) (esc : Nat) (vh : Value) (wait : Nat) (over : Bool) : Prop := w.heap[p]? = some (.cells (bC vo vb esc vh wait over) 89 (0, 0))
structure RStrF (w : World) (p : Nat) (s : Sq.St) (go gb gh : Option Nat) (vo vb vh : Value) : Prop where
 rc : aO w p vo vb s.esc vh s.wait s.over
 ro : SlAt w 21 1 vo s.out.length (cC s.out) go
 rb : SlAt w 5 1 vb s.b.length (bM s.b) gb
 rh : SlAt w 3 1 vh s.hx.length (dC s.hx) gh
 d1 : ∀ k, go = some k → k ≠ p
 d2 : ∀ k, gb = some k → k ≠ p ∧ go ≠ some k
 d3 : ∀ k, gh = some k → k ≠ p ∧ go ≠ some k
theorem RStrF.keep {w w' : World} {F : List Nat} {p : Nat} {s : Sq.St} {go gb gh : Option Nat} {vo vb vh : Value} (h : RStrF w p s go gb gh vo vb vh) (t : Touch F w w') (hp : p ∉ F) (ho : ∀ k, go = some k → k ∉ F) (hb : ∀ k, gb = some k → k ∉ F) (hh : ∀ k, gh = some k → k ∉ F) : RStrF w' p s go gb gh vo vb vh :=
 ⟨t.keep h.rc hp, h.ro.keep t ho, h.rb.keep t hb, h.rh.keep t hh, h.d1, h.d2, h.d3⟩
theorem RStrF.lt {w : World} {p : Nat} {s : Sq.St} {go gb gh : Option Nat} {vo vb vh : Value} (h : RStrF w p s go gb gh vo vb vh) : p < w.heap.size := aB h.rc
theorem bK (x : UInt8) (k : Nat) (h : Sq.hex x = some k) (w : World) : Calls Tryz.prog 97 #[.int .u8 x.toNat] w fun e w' => e = .returned (.int .i64 k) ∧ w = w' := by
 unfold Sq.hex at h
 have hx := x.toNat_lt
 obtain ⟨y, hy⟩ : ∃ y : Int, y = (x.toNat : Int) := ⟨_, rfl⟩
 rw [← hy]
 split at h
 · rename_i h1
   injection h with h
   have e : (k : Int) = y - 48 := by omega
   rw [e]
   have h2 : 48 ≤ y ∧ y ≤ 57 := by omega
   clear h1 h e hy
   obtain ⟨h3, h4⟩ := h2
   refine aA Tryz.func97 rfl ?_
   intro Q_ hQ_
   simp only [Tryz.ntmps97, ents_, Nat.reduceAdd, Nat.reduceSub]
   go_wp2
   all_goals first | (exfalso; omega) | skip
   all_goals
    refine hQ_.ret (results_tmp rfl _ _ _) rfl ?_
    exact ⟨rfl, rfl⟩
 split at h
 · rename_i h1
   injection h with h
   have e : (k : Int) = y - 97 + 10 := by omega
   rw [e]
   have h2 : 97 ≤ y ∧ y ≤ 102 := by omega
   clear h1 h e hy
   obtain ⟨h3, h4⟩ := h2
   refine aA Tryz.func97 rfl ?_
   intro Q_ hQ_
   simp only [Tryz.ntmps97, ents_, Nat.reduceAdd, Nat.reduceSub]
   go_wp2
   all_goals first | (exfalso; omega) | skip
   all_goals
    refine hQ_.ret (results_tmp rfl _ _ _) rfl ?_
    exact ⟨rfl, rfl⟩
 split at h
 · rename_i h1
   injection h with h
   have e : (k : Int) = y - 65 + 10 := by omega
   rw [e]
   have h2 : 65 ≤ y ∧ y ≤ 70 := by omega
   clear h1 h e hy
   obtain ⟨h3, h4⟩ := h2
   refine aA Tryz.func97 rfl ?_
   intro Q_ hQ_
   simp only [Tryz.ntmps97, ents_, Nat.reduceAdd, Nat.reduceSub]
   go_wp2
   all_goals first | (exfalso; omega) | skip
   all_goals
    refine hQ_.ret (results_tmp rfl _ _ _) rfl ?_
    exact ⟨rfl, rfl⟩
 · cases h
theorem tN (x : UInt8) (h : Sq.hex x = none) (w : World) : Calls Tryz.prog 97 #[.int .u8 x.toNat] w fun e w' => e = .returned (.int .i64 (-1)) ∧ w = w' := by
 unfold Sq.hex at h
 have hx := x.toNat_lt
 obtain ⟨y, hy⟩ : ∃ y : Int, y = (x.toNat : Int) := ⟨_, rfl⟩
 rw [← hy]
 split at h
 · cases h
 split at h
 · cases h
 split at h
 · cases h
 rename_i h1 h2 h3
 have a1 : ¬ (48 ≤ y ∧ y ≤ 57) := by omega
 have a2 : ¬ (97 ≤ y ∧ y ≤ 102) := by omega
 have a3 : ¬ (65 ≤ y ∧ y ≤ 70) := by omega
 clear h h1 h2 h3 hy
 refine aA Tryz.func97 rfl ?_
 intro Q_ hQ_
 simp only [Tryz.ntmps97, ents_, Nat.reduceAdd, Nat.reduceSub]
 go_wp2
 all_goals first | (exfalso; omega) | skip
 all_goals
  refine hQ_.ret (results_tmp rfl _ _ _) rfl ?_
  exact ⟨rfl, rfl⟩
def cJ : List UInt8 := [34, 92, 47, 98, 102, 110, 114, 116]
def xG : List UInt8 := [34, 92, 47, 8, 12, 10, 13, 9]
theorem tJ (j : Nat) (x : UInt8) (h : cJ[j]? = some x) : ∃ t : UInt8, xG[j]? = some t ∧ Sq.simple x = some t.toNat := by
 match j with
 | 0 => simp [cJ] at h; subst h; exact ⟨_, rfl, rfl⟩
 | 1 => simp [cJ] at h; subst h; exact ⟨_, rfl, rfl⟩
 | 2 => simp [cJ] at h; subst h; exact ⟨_, rfl, rfl⟩
 | 3 => simp [cJ] at h; subst h; exact ⟨_, rfl, rfl⟩
 | 4 => simp [cJ] at h; subst h; exact ⟨_, rfl, rfl⟩
 | 5 => simp [cJ] at h; subst h; exact ⟨_, rfl, rfl⟩
 | 6 => simp [cJ] at h; subst h; exact ⟨_, rfl, rfl⟩
 | 7 => simp [cJ] at h; subst h; exact ⟨_, rfl, rfl⟩
 | n + 8 => simp [cJ] at h
theorem tI (x : UInt8) (h : ∀ (j : Nat) (c : UInt8), cJ[j]? = some c → c ≠ x) : Sq.simple x = none := by
 have h0 := h 0 34 rfl
 have h1 := h 1 92 rfl
 have h2 := h 2 47 rfl
 have h3 := h 3 98 rfl
 have h4 := h 4 102 rfl
 have h5 := h 5 110 rfl
 have h6 := h 6 114 rfl
 have h7 := h 7 116 rfl
 unfold Sq.simple
 rw [if_neg h0.symm, if_neg h1.symm, if_neg h2.symm, if_neg h3.symm, if_neg h4.symm, if_neg h5.symm, if_neg h6.symm, if_neg h7.symm]
def dM (x : UInt8) : Int := match Sq.simple x with | some c => c | none => -1
theorem eO (x : UInt8) (w : World) : Calls Tryz.prog 100 #[.int .u8 x.toNat] w fun e w' => e = .returned (.int .i32 (dM x)) ∧ Touch [] w w' := by
 have i1 : ∀ (j : Nat) (c : UInt8) w, cJ[j]? = some c → (Instr.index 9 (.string ⟨#[34, 92, 47, 98, 102, 110, 114, 116]⟩) (.int .i64 (j : Int))).run Tryz.prog w = .ok (.int .u8 c.toNat) w := fun j c w h => cI (P := Tryz.prog) Tryz.underlying9 cJ .i64 j c h w
 have i2 : ∀ (j : Nat) (c : UInt8) w, xG[j]? = some c → (Instr.index 9 (.string ⟨#[34, 92, 47, 8, 12, 10, 13, 9]⟩) (.int .i64 (j : Int))).run Tryz.prog w = .ok (.int .u8 c.toNat) w := fun j c w h => cI (P := Tryz.prog) Tryz.underlying9 xG .i64 j c h w
 replace i1 := Box.mk i1
 replace i2 := Box.mk i2
 obtain ⟨V, hV⟩ : ∃ V, V = dM x := ⟨_, rfl⟩
 rw [← hV]
 replace hV := Box.mk hV
 refine aA Tryz.func100 rfl ?_
 intro Q_ hQ_
 simp only [Tryz.ntmps100, ents_, Nat.reduceAdd, Nat.reduceSub]
 go_wp2_with fail
 go_loopw [3] (fun v wr => ∃ j : Nat, j ≤ 8 ∧ v = .int .i64 j ∧ Box (∀ (i : Nat) (c : UInt8), i < j → cJ[i]? = some c → c ≠ x) ∧ Touch [] w wr) (fun v _ => 8 - (intOf v).toNat)
 case atStart => exact ⟨0, by omega, rfl, ⟨fun i c h => by omega⟩, Touch.refl _ _⟩
 case round =>
  obtain ⟨j, hj, rfl, hno, hT⟩ := hrel
  by_cases hlt : j < 8
  · have hlt1 : decide ((j : Int) < 8) = true := by simp; omega
    have hc : cJ[j]? = some cJ[j] := List.getElem?_eq_getElem hlt
    generalize cJ[j] = c at hc
    have ix := fun w => i1.out j c w hc
    by_cases hcx : c = x
    · subst hcx
      obtain ⟨t, ht, hs⟩ := tJ j c hc
      have iy := fun w => i2.out j t w ht
      have te : ((c.toNat : Int) == (c.toNat : Int)) = true := by simp
      have hVt : V = (t.toNat : Int) := by rw [hV.out]; unfold dM; rw [hs]
      replace hVt := Box.mk hVt
      have htl : t.toNat < 256 := t.toNat_lt
      have hw32 : wrap32 (t.toNat : Int) = (t.toNat : Int) := by unfold wrap32; omega
      clear hc ht hs
      go_wp2
      refine hQ_.ret (results_tmp rfl _ _ _) rfl ?_
      exact ⟨by rw [hVt.out]; rfl, hT⟩
    · have te : ((c.toNat : Int) == (x.toNat : Int)) = false := by
       rw [beq_eq_false_iff_ne]
       exact fun q => hcx (UInt8.toNat_inj.1 (by omega))
      have hno2 : ∀ (i : Nat) (d : UInt8), i < j + 1 → cJ[i]? = some d → d ≠ x := fun i d hi hd => by
       by_cases hij : i < j
       · exact hno.out i d hij hd
       · have : i = j := by omega
         subst this
         rw [hc] at hd
         injection hd with hd
         exact hd ▸ hcx
      replace hno2 := Box.mk hno2
      clear hc
      go_wp2
      go_roundw
      case measure => simp [intOf]; omega
      case rel => exact ⟨j + 1, by omega, by go_num, hno2, hT⟩
  · have hlt1 : decide ((j : Int) < 8) = false := by simp; omega
    have hVt : V = -1 := by
     rw [hV.out]
     unfold dM
     rw [tI x (fun i c hc => hno.out i c (by have := (List.getElem?_eq_some_iff.1 hc).1; simp [cJ] at this; omega) hc)]
    replace hVt := Box.mk hVt
    go_wp2
    refine hQ_.ret (results_tmp rfl _ _ _) rfl ?_
    exact ⟨by rw [hVt.out]; rfl, hT⟩
end Go.Proofs.YthdncmagfgoboaaGreatDoor
end

section
namespace Go.Proofs.YthdncmagfgoboaaGreatDoor
open Go.RowKit
set_option maxRecDepth 100000
set_option maxHeartbeats 8000000
theorem resc_u (p : Nat) (vo vb vh : Value) (esc wait : Nat) (over : Bool) (w : World) (h : aO w p vo vb esc vh wait over) :
 Calls Tryz.prog 67 #[.pointer (some ⟨p, 0, none⟩), .int .u8 117] w fun e w' => e = .returned (.int .i64 0) ∧ aO w' p vo vb 2 vh wait over ∧ Touch [p] w w' := by
 have hsi := fun w => eO 117 w
 rw [show (((117 : UInt8).toNat : Nat) : Int) = 117 from rfl] at hsi
 have h0 := h
 unfold aO at h
 have ⟨c0,c1,c2,c3,c4,c5⟩ := cs6 h
 have ⟨f0,f1,f2,f3,f4,f5⟩ := fs6 h
 have lb := aB h
 try simp [bC] at c0 c1 c2 c3 c4 c5
 refine aA Tryz.func67 rfl ?_
 intro Q_ hQ_
 simp only [Tryz.ntmps67, ents_, Nat.reduceAdd, Nat.reduceSub]
 go_wp2_with fail
 refine (hsi _).mono ?_
 rintro e w1 ⟨rfl, ht1⟩
 try go_simp
 have h1 := ht1.keep h0 (by simp)
 clear c0 c1 c2 c3 c4 c5 f0 f1 f2 f3 f4 f5 lb
 have ⟨c0,c1,c2,c3,c4,c5⟩ := cs6 h1
 have ⟨f0,f1,f2,f3,f4,f5⟩ := fs6 h1
 have lb := aB h1
 try simp [bC] at c0 c1 c2 c3 c4 c5
 go_wp2
 refine hQ_.ret (results_tmp rfl _ _ _) rfl ?_
 exact ⟨rfl, aF h1 2 _, (ht1.mono (by simp)).setCell (by simp) _⟩
theorem vT (p : Nat) (vo vb vh : Value) (esc wait : Nat) (over : Bool) (x : UInt8) (w : World) (h : aO w p vo vb esc vh wait over) (hx : Sq.simple x = none) (hu : x ≠ 117) :
 Calls Tryz.prog 67 #[.pointer (some ⟨p, 0, none⟩), .int .u8 x.toNat] w fun e w' => e = .returned (.int .i64 2) ∧ Touch [] w w' := by
 have hsi := fun w => eO x w
 have hv : dM x = -1 := by unfold dM; rw [hx]
 rw [hv] at hsi
 have e1 : ((x.toNat : Int) == 117) = false := by
  rw [beq_eq_false_iff_ne]
  exact fun q => hu (UInt8.toNat_inj.1 (by have : (117 : UInt8).toNat = 117 := rfl; omega))
 clear hv hx hu
 refine aA Tryz.func67 rfl ?_
 intro Q_ hQ_
 simp only [Tryz.ntmps67, ents_, Nat.reduceAdd, Nat.reduceSub]
 go_wp2_with fail
 refine (hsi _).mono ?_
 rintro e w1 ⟨rfl, ht1⟩
 try go_simp
 go_wp2
 refine hQ_.ret (results_tmp rfl _ _ _) rfl ?_
 exact ⟨rfl, ht1⟩
theorem vR (p : Nat) (vo vb vh : Value) (esc wait : Nat) (over : Bool) (x : UInt8) (c : Nat) (w : World) (h : aO w p vo vb esc vh wait over) (hx : Sq.simple x = some c) (hu : x ≠ 117) (hw : wait ≠ 0) :
 Calls Tryz.prog 67 #[.pointer (some ⟨p, 0, none⟩), .int .u8 x.toNat] w fun e w' => e = .returned (.int .i64 5) ∧ Touch [] w w' := by
 have hsi := fun w => eO x w
 have hv : dM x = (c : Int) := by unfold dM; rw [hx]
 rw [hv] at hsi
 have e1 : ((x.toNat : Int) == 117) = false := by
  rw [beq_eq_false_iff_ne]
  exact fun q => hu (UInt8.toNat_inj.1 (by have : (117 : UInt8).toNat = 117 := rfl; omega))
 have e2 : decide ((c : Int) < 0) = false := by simp
 have e3 : 0 < wait := by omega
 have h0 := h
 clear hv hx hu hw h
 refine aA Tryz.func67 rfl ?_
 intro Q_ hQ_
 simp only [Tryz.ntmps67, ents_, Nat.reduceAdd, Nat.reduceSub]
 go_wp2_with fail
 refine (hsi _).mono ?_
 rintro e w1 ⟨rfl, ht1⟩
 try go_simp
 have h1 := ht1.keep h0 (by simp)
 have ⟨c0,c1,c2,c3,c4,c5⟩ := cs6 h1
 have ⟨f0,f1,f2,f3,f4,f5⟩ := fs6 h1
 have lb := aB h1
 try simp [bC] at c0 c1 c2 c3 c4 c5
 go_wp2
 refine hQ_.ret (results_tmp rfl _ _ _) rfl ?_
 exact ⟨rfl, ht1⟩
theorem vS (p : Nat) (vo vb vh : Value) (esc wait : Nat) (over : Bool) (x : UInt8) (c : Nat) (out : List Nat) (go : Option Nat) (w : World) (h : aO w p vo vb esc vh wait over) (hs : SlAt w 21 1 vo out.length (cC out) go) (hg : ∀ k, go = some k → k ≠ p) (hl : out.length ≤ 1000000) (hx : Sq.simple x = some c) (hu : x ≠ 117) (hw : wait = 0) :
 Calls Tryz.prog 67 #[.pointer (some ⟨p, 0, none⟩), .int .u8 x.toNat] w fun e w' => e = .returned (.int .i64 0) ∧ ∃ go' vo', aO w' p vo' vb 0 vh wait over ∧ SlAt w' 21 1 vo' (out ++ [c]).length (cC (out ++ [c])) go' ∧ cK w go go' ∧ Touch (p :: go.toList) w w' := by
 obtain ⟨A, C, rfl, _⟩ := hs.form
 have hsi := fun w => eO x w
 have hv : dM x = (c : Int) := by unfold dM; rw [hx]
 rw [hv] at hsi
 have e1 : ((x.toNat : Int) == 117) = false := by
  rw [beq_eq_false_iff_ne]
  exact fun q => hu (UInt8.toNat_inj.1 (by have : (117 : UInt8).toNat = 117 := rfl; omega))
 have e2 : decide ((c : Int) < 0) = false := by simp
 have e3 : ¬ 0 < wait := by omega
 have h0 := h
 have hpg : p ∉ go.toList := fun q => by
  cases go with
  | none => simp at q
  | some j => simp at q; exact hg j rfl q.symm
 clear hv hx hu hw h
 refine aA Tryz.func67 rfl ?_
 intro Q_ hQ_
 simp only [Tryz.ntmps67, ents_, Nat.reduceAdd, Nat.reduceSub]
 go_wp2_with fail
 refine (hsi _).mono ?_
 rintro e w1 ⟨rfl, ht1⟩
 try go_simp
 have h1 := ht1.keep h0 (by simp)
 have hs1 := hs.keep ht1 (by simp)
 have hsz := ht1.size
 have h2 := h1
 have ⟨c0,c1,c2,c3,c4,c5⟩ := cs6 h2
 have ⟨f0,f1,f2,f3,f4,f5⟩ := fs6 h2
 have lb := aB h2
 try simp [bC] at c0 c1 c2 c3 c4 c5
 go_wp2_with (at_builtin; refine aJ dK rfl (.tmp 27) (.tmp 29) rfl rfl (hs1.keep ((Touch.refl [] _).alloc _) (by simp)) rfl (aX rfl) (by omega) ?_; intro ad2 c2' w4 g2 hs4 ht4 hn4; rw [← dF] at hs4; have hN4 := ht4.keep (aW h1 _) hpg; have q0 := aN hN4 0; have q2 := aN hN4 2; have p0 := aQ hN4 0; have p2 := aQ hN4 2; have q4 := aB hN4; simp [bC] at q0 q2)
 refine hQ_.ret (results_tmp rfl _ _ _) rfl ?_
 have hgn : ∀ k, g2 = some k → k ≠ p := bX hn4 hg (by simp; have := aB h1; omega)
 have hm : ∀ (W : World) (i : Nat) (v : Value), SlAt W 21 1 (.slice ad2 (out.length + 1) c2') (out.length + 1) (cC (out ++ [c])) g2 → SlAt (W.setCell ⟨p, i, none⟩ v) 21 1 (.slice ad2 (out.length + 1) c2') (out.length + 1) (cC (out ++ [c])) g2 := fun W i v h => h.keep (Touch.setCell (F := [p]) (Touch.refl _ _) (p := ⟨p, i, none⟩) (by simp) _) (fun k hk => by simpa using hgn k hk)
 refine ⟨rfl, g2, _, aF (aF hN4 0 _) 2 _, ?_, cE hn4 (by simp; omega), ?_⟩
 · rw [List.length_append, List.length_singleton]
   exact hm _ _ _ (hm _ _ _ hs4)
 · exact ((Touch.step ((ht1.mono (by simp)).alloc _) ht4 (fun k hk => .inl (by simp at hk; simp [hk]))).setCell (by simp) _).setCell (by simp) _
theorem bD (w : World) (E : TypeId) : SlAt (w.alloc (.cells #[] E)) E 1 (.slice (some ⟨w.heap.size, 0, none⟩) 0 0) 0 [] (some w.heap.size) := by
 have h := eY (w := w) (E := E) (c := #[]) (m := 0) (size := 1) rfl (by omega)
 simpa using h
theorem fC (l : List UInt8) : ∀ u ∈ bM l, u.oneCell' = true := fun u hu => by
 unfold bM at hu
 simp at hu
 obtain ⟨a, _, rfl⟩ := hu
 rfl
theorem bL (l : List Nat) : ∀ u ∈ dC l, u.oneCell' = true := fun u hu => by
 unfold dC at hu
 simp at hu
 obtain ⟨a, _, rfl⟩ := hu
 rfl
theorem bP {w w2 w3 : World} {o o2 : Obj} {g2 g3 : Option Nat} (k2 : Touch [w.heap.size] (w.alloc o) w2) (h2 : cK (w.alloc o) (some w.heap.size) g2) (k3 : Touch g2.toList (w2.alloc o2) w3) (h3 : cK (w2.alloc o2) g2 g3) :
 Touch [] w w3 ∧ ∀ k, g3 = some k → w.heap.size ≤ k := by
 have T2 : Touch [] w w2 := ((Touch.refl [] w).alloc o).step k2 (fun x hx => .inr (by rw [List.mem_singleton.1 hx]; exact Nat.le_refl _))
 have hg2 : ∀ k, g2 = some k → w.heap.size ≤ k := fun k hk => by
  rcases h2 with h | ⟨j, h, h'⟩
  · rw [h] at hk; injection hk with hk; omega
  · rw [h] at hk; injection hk with hk; simp at h'; omega
 refine ⟨(T2.alloc o2).step k3 (fun x hx => .inr ?_), fun k hk => ?_⟩
 · cases hg : g2 with
   | none => rw [hg] at hx; simp at hx
   | some j => rw [hg] at hx; simp at hx; subst hx; exact hg2 _ hg
 · rcases h3 with h | ⟨j, h, h'⟩
   · exact hg2 k (h ▸ hk)
   · rw [h] at hk; injection hk with hk; have := T2.size; simp at h'; omega
theorem eH {w : World} {A : Option Addr} {C : Nat} {f : UInt8} {l : List UInt8} {g : Option Nat} (h : SlAt w 5 1 (.slice A (l.length + 1) C) (l.length + 1) (bM (f :: l)) g) :
 ∃ k, A = some ⟨k, 0, none⟩ ∧ g = some k ∧ k < w.heap.size ∧ l.length + 1 ≤ C ∧ C ≤ 9223372036854775807 ∧ ∀ w', Touch [] w w' → BAt w' k (f :: l) := by
 obtain ⟨a, cap, e, h1, h2, h3⟩ := h.form
 injection e with e1 e2 e3
 subst e1 e3
 obtain ⟨k, hk, ha⟩ := h3 (by omega)
 refine ⟨k, ha, hk, h.lt hk, h1, h2, fun w' t j c hc => t.cell (h.cell hk ?_) (by simp)⟩
 unfold bM
 rw [List.getElem?_map, hc]
 rfl
theorem rV (p : Nat) (vo vb vh : Value) (esc wait : Nat) (over : Bool) (b : List UInt8) (gb : Option Nat) (x : UInt8) (w : World) (h : aO w p vo vb esc vh wait over) (hb : SlAt w 5 1 vb b.length (bM b) gb) (hb3 : b.length ≤ 3) (hw : Sq.how (b ++ [x]) = 0) :
 Calls Tryz.prog 68 #[.pointer (some ⟨p, 0, none⟩), .int .u8 x.toNat] w fun e w' => e = .returned (.int .i64 4) ∧ Touch [] w w' := by
 obtain ⟨B1, BC, rfl, _⟩ := hb.form
 have h0 := h
 have hbl3 : b.length ≤ 3 := hb3
 unfold aO at h
 have ⟨c0,c1,c2,c3,c4,c5⟩ := cs6 h
 have ⟨f0,f1,f2,f3,f4,f5⟩ := fs6 h
 have lb := aB h
 try simp [bC] at c0 c1 c2 c3 c4 c5
 refine aA Tryz.func68 rfl ?_
 intro Q_ hQ_
 simp only [Tryz.ntmps68, ents_, Nat.reduceAdd, Nat.reduceSub]
 go_wp2_with (first
  | (at_builtin; refine aJ cA rfl (.tmp 10) (.tmp 14) rfl rfl (bD _ _) rfl (SlAt.src (hb.keep ((Touch.refl [] _).alloc _) (by simp)) (fC _)) (by omega) ?_; intro ad1 c1' w2 g2 hs2 ht2 hn2; simp only [List.nil_append, Nat.zero_add] at hs2 ht2)
  | (at_builtin; refine aJ cA rfl (.tmp 15) (.tmp 17) rfl rfl (hs2.keep ((Touch.refl [] _).alloc _) (by simp)) rfl (aX rfl) (by omega) ?_; intro ad3 c3' w3 g3 hs3 ht3 hn3; rw [← cG] at hs3))
 have hap := bP ht2 hn2 ht3 hn3
 obtain ⟨hT3, hg3⟩ := hap
 have hA3 : aO w3 p vo (.slice B1 b.length BC) esc vh wait over := hT3.keep h0 (by simp)
 obtain ⟨f, l, hfl⟩ : ∃ f l, b ++ [x] = f :: l := by
  cases b with
  | nil => exact ⟨x, [], rfl⟩
  | cons y m => exact ⟨y, m ++ [x], rfl⟩
 have hll : b.length = l.length := by
  have := congrArg List.length hfl
  simpa using this
 rw [hfl, hll] at hs3
 obtain ⟨kb, rfl, hgk, hkl, hC1, hC2, hBA⟩ := eH hs3
 have hhw := fun W (hW : Touch [] w3 W) => fA kb c3' f l W (fun w' t => hBA w' (hW.trans t)) (by omega) hC1 hC2 (Nat.lt_of_lt_of_le hkl hW.size)
 simp only [← hll] at hhw
 rw [← hfl] at hhw
 replace hfl := Box.mk hfl
 replace hll := Box.mk hll
 clear c0 c1 c2 c3 c4 c5 f0 f1 f2 f3 f4 f5 lb h h0 hs2 ht2 hn2 ht3 hn3 hb
 rw [hw] at hhw
 refine (hhw _ (Touch.refl _ _)).mono ?_
 rintro e w4 ⟨rfl, ht4⟩
 try go_simp
 go_wp2
 refine hQ_.ret (results_tmp rfl _ _ _) rfl ?_
 exact ⟨rfl, hT3.trans ht4⟩
theorem rW (p : Nat) (vo vb vh : Value) (esc wait : Nat) (over : Bool) (b : List UInt8) (gb : Option Nat) (x : UInt8) (w : World) (h : aO w p vo vb esc vh wait over) (hb : SlAt w 5 1 vb b.length (bM b) gb) (hb3 : b.length ≤ 3) (hw : Sq.how (b ++ [x]) ≠ 0) (hwt : wait ≠ 0) :
 Calls Tryz.prog 68 #[.pointer (some ⟨p, 0, none⟩), .int .u8 x.toNat] w fun e w' => e = .returned (.int .i64 5) ∧ Touch [] w w' := by
 have e3 : 0 < wait := by omega
 obtain ⟨B1, BC, rfl, _⟩ := hb.form
 have h0 := h
 have hbl3 : b.length ≤ 3 := hb3
 unfold aO at h
 have ⟨c0,c1,c2,c3,c4,c5⟩ := cs6 h
 have ⟨f0,f1,f2,f3,f4,f5⟩ := fs6 h
 have lb := aB h
 try simp [bC] at c0 c1 c2 c3 c4 c5
 refine aA Tryz.func68 rfl ?_
 intro Q_ hQ_
 simp only [Tryz.ntmps68, ents_, Nat.reduceAdd, Nat.reduceSub]
 go_wp2_with (first
  | (at_builtin; refine aJ cA rfl (.tmp 10) (.tmp 14) rfl rfl (bD _ _) rfl (SlAt.src (hb.keep ((Touch.refl [] _).alloc _) (by simp)) (fC _)) (by omega) ?_; intro ad1 c1' w2 g2 hs2 ht2 hn2; simp only [List.nil_append, Nat.zero_add] at hs2 ht2)
  | (at_builtin; refine aJ cA rfl (.tmp 15) (.tmp 17) rfl rfl (hs2.keep ((Touch.refl [] _).alloc _) (by simp)) rfl (aX rfl) (by omega) ?_; intro ad3 c3' w3 g3 hs3 ht3 hn3; rw [← cG] at hs3))
 have hap := bP ht2 hn2 ht3 hn3
 obtain ⟨hT3, hg3⟩ := hap
 have hA3 : aO w3 p vo (.slice B1 b.length BC) esc vh wait over := hT3.keep h0 (by simp)
 obtain ⟨f, l, hfl⟩ : ∃ f l, b ++ [x] = f :: l := by
  cases b with
  | nil => exact ⟨x, [], rfl⟩
  | cons y m => exact ⟨y, m ++ [x], rfl⟩
 have hll : b.length = l.length := by
  have := congrArg List.length hfl
  simpa using this
 rw [hfl, hll] at hs3
 obtain ⟨kb, rfl, hgk, hkl, hC1, hC2, hBA⟩ := eH hs3
 have hhw := fun W (hW : Touch [] w3 W) => fA kb c3' f l W (fun w' t => hBA w' (hW.trans t)) (by omega) hC1 hC2 (Nat.lt_of_lt_of_le hkl hW.size)
 simp only [← hll] at hhw
 rw [← hfl] at hhw
 replace hfl := Box.mk hfl
 replace hll := Box.mk hll
 clear c0 c1 c2 c3 c4 c5 f0 f1 f2 f3 f4 f5 lb h h0 hs2 ht2 hn2 ht3 hn3 hb
 obtain ⟨H, hH⟩ : ∃ H, H = Sq.how (b ++ [x]) := ⟨_, rfl⟩
 rw [← hH] at hhw hw
 have hH0 : ((H : Int) == 0) = false := by rw [beq_eq_false_iff_ne]; omega
 replace hH := Box.mk hH
 refine (hhw _ (Touch.refl _ _)).mono ?_
 rintro e w4 ⟨rfl, ht4⟩
 try go_simp
 have hA4 := ht4.keep hA3 (by simp)
 clear hw hwt
 have ⟨c0,c1,c2,c3,c4,c5⟩ := cs6 hA4
 have ⟨f0,f1,f2,f3,f4,f5⟩ := fs6 hA4
 have lb := aB hA4
 try simp [bC] at c0 c1 c2 c3 c4 c5
 go_wp2
 refine hQ_.ret (results_tmp rfl _ _ _) rfl ?_
 exact ⟨rfl, hT3.trans ht4⟩
theorem oJ (p : Nat) (vo vb vh : Value) (esc wait : Nat) (over : Bool) (b : List UInt8) (gb : Option Nat) (x : UInt8) (w : World) (h : aO w p vo vb esc vh wait over) (hb : SlAt w 5 1 vb b.length (bM b) gb) (hb3 : b.length ≤ 3) (hw : Sq.how (b ++ [x]) = 1) (hwt : wait = 0) :
 Calls Tryz.prog 68 #[.pointer (some ⟨p, 0, none⟩), .int .u8 x.toNat] w fun e w' => e = .returned (.int .i64 0) ∧ (∃ vb' gb', aO w' p vo vb' esc vh wait over ∧ SlAt w' 5 1 vb' (b ++ [x]).length (bM (b ++ [x])) gb' ∧ ∀ k, gb' = some k → w.heap.size ≤ k) ∧ Touch [p] w w' := by
 have e3 : ¬ 0 < wait := by omega
 have hpl := aB h
 obtain ⟨B1, BC, rfl, _⟩ := hb.form
 have h0 := h
 have hbl3 : b.length ≤ 3 := hb3
 unfold aO at h
 have ⟨c0,c1,c2,c3,c4,c5⟩ := cs6 h
 have ⟨f0,f1,f2,f3,f4,f5⟩ := fs6 h
 have lb := aB h
 try simp [bC] at c0 c1 c2 c3 c4 c5
 refine aA Tryz.func68 rfl ?_
 intro Q_ hQ_
 simp only [Tryz.ntmps68, ents_, Nat.reduceAdd, Nat.reduceSub]
 go_wp2_with (first
  | (at_builtin; refine aJ cA rfl (.tmp 10) (.tmp 14) rfl rfl (bD _ _) rfl (SlAt.src (hb.keep ((Touch.refl [] _).alloc _) (by simp)) (fC _)) (by omega) ?_; intro ad1 c1' w2 g2 hs2 ht2 hn2; simp only [List.nil_append, Nat.zero_add] at hs2 ht2)
  | (at_builtin; refine aJ cA rfl (.tmp 15) (.tmp 17) rfl rfl (hs2.keep ((Touch.refl [] _).alloc _) (by simp)) rfl (aX rfl) (by omega) ?_; intro ad3 c3' w3 g3 hs3 ht3 hn3; rw [← cG] at hs3))
 have hap := bP ht2 hn2 ht3 hn3
 obtain ⟨hT3, hg3⟩ := hap
 have hA3 : aO w3 p vo (.slice B1 b.length BC) esc vh wait over := hT3.keep h0 (by simp)
 obtain ⟨f, l, hfl⟩ : ∃ f l, b ++ [x] = f :: l := by
  cases b with
  | nil => exact ⟨x, [], rfl⟩
  | cons y m => exact ⟨y, m ++ [x], rfl⟩
 have hll : b.length = l.length := by
  have := congrArg List.length hfl
  simpa using this
 rw [hfl, hll] at hs3
 obtain ⟨kb, rfl, hgk, hkl, hC1, hC2, hBA⟩ := eH hs3
 have hhw := fun W (hW : Touch [] w3 W) => fA kb c3' f l W (fun w' t => hBA w' (hW.trans t)) (by omega) hC1 hC2 (Nat.lt_of_lt_of_le hkl hW.size)
 simp only [← hll] at hhw
 rw [← hfl] at hhw
 replace hfl := Box.mk hfl
 replace hll := Box.mk hll
 clear c0 c1 c2 c3 c4 c5 f0 f1 f2 f3 f4 f5 lb h h0 hs2 ht2 hn2 ht3 hn3 hb
 rw [hw] at hhw
 refine (hhw _ (Touch.refl _ _)).mono ?_
 rintro e w4 ⟨rfl, ht4⟩
 try go_simp
 have hA4 := ht4.keep hA3 (by simp)
 have hs4 := hs3.keep ht4 (by simp)
 clear hwt
 have hA5 := hA4
 have ⟨c0,c1,c2,c3,c4,c5⟩ := cs6 hA5
 have ⟨f0,f1,f2,f3,f4,f5⟩ := fs6 hA5
 have lb := aB hA5
 try simp [bC] at c0 c1 c2 c3 c4 c5
 go_wp2
 refine hQ_.ret (results_tmp rfl _ _ _) rfl ?_
 refine ⟨rfl, ⟨_, g3, aF hA4 1 _, ?_, hg3⟩, ((hT3.trans ht4).mono (by simp)).setCell (by simp) _⟩
 rw [hfl.out, List.length_cons, ← hll.out]
 rw [← hll.out] at hs4
 exact SlAt.keep (F := [p]) hs4 (Touch.setCell (Touch.refl _ _) (by simp) _) (fun k hk q => by have := hg3 k hk; rw [List.mem_singleton.1 q] at this; omega)
theorem rY (p : Nat) (vo vb vh : Value) (esc wait : Nat) (over : Bool) (b : List UInt8) (gb : Option Nat) (x : UInt8) (w : World) (h : aO w p vo vb esc vh wait over) (hb : SlAt w 5 1 vb b.length (bM b) gb) (hb3 : b.length ≤ 3) (hw : Sq.how (b ++ [x]) = 2) (hwt : wait = 0) (hn : Sq.non (Sq.of (b ++ [x])) = true) :
 Calls Tryz.prog 68 #[.pointer (some ⟨p, 0, none⟩), .int .u8 x.toNat] w fun e w' => e = .returned (.int .i64 6) ∧ Touch [] w w' := by
 have e3 : ¬ 0 < wait := by omega
 have hno := fun w => eZ (Sq.of (b ++ [x]) : Int) (by omega) (by have := qE hw; omega) w
 simp only [Int.toNat_natCast] at hno
 rw [hn] at hno
 obtain ⟨B1, BC, rfl, _⟩ := hb.form
 have h0 := h
 have hbl3 : b.length ≤ 3 := hb3
 unfold aO at h
 have ⟨c0,c1,c2,c3,c4,c5⟩ := cs6 h
 have ⟨f0,f1,f2,f3,f4,f5⟩ := fs6 h
 have lb := aB h
 try simp [bC] at c0 c1 c2 c3 c4 c5
 refine aA Tryz.func68 rfl ?_
 intro Q_ hQ_
 simp only [Tryz.ntmps68, ents_, Nat.reduceAdd, Nat.reduceSub]
 go_wp2_with (first
  | (at_builtin; refine aJ cA rfl (.tmp 10) (.tmp 14) rfl rfl (bD _ _) rfl (SlAt.src (hb.keep ((Touch.refl [] _).alloc _) (by simp)) (fC _)) (by omega) ?_; intro ad1 c1' w2 g2 hs2 ht2 hn2; simp only [List.nil_append, Nat.zero_add] at hs2 ht2)
  | (at_builtin; refine aJ cA rfl (.tmp 15) (.tmp 17) rfl rfl (hs2.keep ((Touch.refl [] _).alloc _) (by simp)) rfl (aX rfl) (by omega) ?_; intro ad3 c3' w3 g3 hs3 ht3 hn3; rw [← cG] at hs3))
 have hap := bP ht2 hn2 ht3 hn3
 obtain ⟨hT3, hg3⟩ := hap
 have hA3 : aO w3 p vo (.slice B1 b.length BC) esc vh wait over := hT3.keep h0 (by simp)
 obtain ⟨f, l, hfl⟩ : ∃ f l, b ++ [x] = f :: l := by
  cases b with
  | nil => exact ⟨x, [], rfl⟩
  | cons y m => exact ⟨y, m ++ [x], rfl⟩
 have hll : b.length = l.length := by
  have := congrArg List.length hfl
  simpa using this
 rw [hfl, hll] at hs3
 obtain ⟨kb, rfl, hgk, hkl, hC1, hC2, hBA⟩ := eH hs3
 have hhw := fun W (hW : Touch [] w3 W) => fA kb c3' f l W (fun w' t => hBA w' (hW.trans t)) (by omega) hC1 hC2 (Nat.lt_of_lt_of_le hkl hW.size)
 simp only [← hll] at hhw
 rw [← hfl] at hhw
 replace hfl := Box.mk hfl
 replace hll := Box.mk hll
 clear c0 c1 c2 c3 c4 c5 f0 f1 f2 f3 f4 f5 lb h h0 hs2 ht2 hn2 ht3 hn3 hb
 have hfi := fun W (hW : Touch [] w3 W) => lA kb c3' f l W (fun w' t => hBA w' (hW.trans t)) (by rw [← hfl.out]; exact hw) hC1 hC2 (Nat.lt_of_lt_of_le hkl hW.size)
 simp only [← hll.out] at hfi
 rw [← hfl.out] at hfi
 rw [hw] at hhw
 generalize (Sq.of (b ++ [x]) : Int) = cc at *
 refine (hhw _ (Touch.refl _ _)).mono ?_
 rintro e w4 ⟨rfl, ht4⟩
 try go_simp
 have hA4 := ht4.keep hA3 (by simp)
 clear hwt hn
 have hA5 := hA4
 have ⟨c0,c1,c2,c3,c4,c5⟩ := cs6 hA5
 have ⟨f0,f1,f2,f3,f4,f5⟩ := fs6 hA5
 have lb := aB hA5
 try simp [bC] at c0 c1 c2 c3 c4 c5
 go_wp2_with fail
 refine (hfi _ ht4).mono ?_
 rintro e w5 ⟨rfl, ht5⟩
 try go_simp
 go_wp2_with fail
 refine (hno _).mono ?_
 rintro e w6 ⟨rfl, rfl⟩
 try go_simp
 go_wp2
 refine hQ_.ret (results_tmp rfl _ _ _) rfl ?_
 exact ⟨rfl, (hT3.trans ht4).trans ht5⟩
theorem rX (p : Nat) (vo vb vh : Value) (esc wait : Nat) (over : Bool) (b : List UInt8) (gb : Option Nat) (out : List Nat) (go : Option Nat) (x : UInt8) (w : World) (h : aO w p vo vb esc vh wait over) (hs : SlAt w 21 1 vo out.length (cC out) go) (hg : ∀ k, go = some k → k ≠ p) (hl : out.length ≤ 1000000) (hb : SlAt w 5 1 vb b.length (bM b) gb) (hb3 : b.length ≤ 3) (hw : Sq.how (b ++ [x]) = 2) (hwt : wait = 0) (hn : Sq.non (Sq.of (b ++ [x])) = false) :
 Calls Tryz.prog 68 #[.pointer (some ⟨p, 0, none⟩), .int .u8 x.toNat] w fun e w' => e = .returned (.int .i64 0) ∧ ∃ go' vo', aO w' p vo' (.slice none 0 0) esc vh wait over ∧ SlAt w' 21 1 vo' (out ++ [Sq.of (b ++ [x])]).length (cC (out ++ [Sq.of (b ++ [x])])) go' ∧ cK w go go' ∧ Touch (p :: go.toList) w w' := by
 obtain ⟨OA, OC, rfl, _⟩ := hs.form
 have e3 : ¬ 0 < wait := by omega
 have hno := fun w => eZ (Sq.of (b ++ [x]) : Int) (by omega) (by have := qE hw; omega) w
 simp only [Int.toNat_natCast] at hno
 rw [hn] at hno
 have hpl := aB h
 have hpg : p ∉ go.toList := fun q => by
  cases go with
  | none => simp at q
  | some j => simp at q; exact hg j rfl q.symm
 obtain ⟨vo, hvo⟩ : ∃ vo, vo = Value.slice OA out.length OC := ⟨_, rfl⟩
 rw [← hvo] at h hs
 replace hvo := Box.mk hvo
 obtain ⟨B1, BC, rfl, _⟩ := hb.form
 have h0 := h
 have hbl3 : b.length ≤ 3 := hb3
 unfold aO at h
 have ⟨c0,c1,c2,c3,c4,c5⟩ := cs6 h
 have ⟨f0,f1,f2,f3,f4,f5⟩ := fs6 h
 have lb := aB h
 try simp [bC] at c0 c1 c2 c3 c4 c5
 refine aA Tryz.func68 rfl ?_
 intro Q_ hQ_
 simp only [Tryz.ntmps68, ents_, Nat.reduceAdd, Nat.reduceSub]
 go_wp2_with (first
  | (at_builtin; refine aJ cA rfl (.tmp 10) (.tmp 14) rfl rfl (bD _ _) rfl (SlAt.src (hb.keep ((Touch.refl [] _).alloc _) (by simp)) (fC _)) (by omega) ?_; intro ad1 c1' w2 g2 hs2 ht2 hn2; simp only [List.nil_append, Nat.zero_add] at hs2 ht2)
  | (at_builtin; refine aJ cA rfl (.tmp 15) (.tmp 17) rfl rfl (hs2.keep ((Touch.refl [] _).alloc _) (by simp)) rfl (aX rfl) (by omega) ?_; intro ad3 c3' w3 g3 hs3 ht3 hn3; rw [← cG] at hs3))
 have hap := bP ht2 hn2 ht3 hn3
 obtain ⟨hT3, hg3⟩ := hap
 have hA3 : aO w3 p vo (.slice B1 b.length BC) esc vh wait over := hT3.keep h0 (by simp)
 obtain ⟨f, l, hfl⟩ : ∃ f l, b ++ [x] = f :: l := by
  cases b with
  | nil => exact ⟨x, [], rfl⟩
  | cons y m => exact ⟨y, m ++ [x], rfl⟩
 have hll : b.length = l.length := by
  have := congrArg List.length hfl
  simpa using this
 rw [hfl, hll] at hs3
 obtain ⟨kb, rfl, hgk, hkl, hC1, hC2, hBA⟩ := eH hs3
 have hhw := fun W (hW : Touch [] w3 W) => fA kb c3' f l W (fun w' t => hBA w' (hW.trans t)) (by omega) hC1 hC2 (Nat.lt_of_lt_of_le hkl hW.size)
 simp only [← hll] at hhw
 rw [← hfl] at hhw
 replace hfl := Box.mk hfl
 replace hll := Box.mk hll
 clear c0 c1 c2 c3 c4 c5 f0 f1 f2 f3 f4 f5 lb h h0 hs2 ht2 hn2 ht3 hn3 hb
 have hfi := fun W (hW : Touch [] w3 W) => lA kb c3' f l W (fun w' t => hBA w' (hW.trans t)) (by rw [← hfl.out]; exact hw) hC1 hC2 (Nat.lt_of_lt_of_le hkl hW.size)
 simp only [← hll.out] at hfi
 rw [← hfl.out] at hfi
 rw [hw] at hhw
 generalize Sq.of (b ++ [x]) = cc at *
 refine (hhw _ (Touch.refl _ _)).mono ?_
 rintro e w4 ⟨rfl, ht4⟩
 try go_simp
 have hA4 := ht4.keep hA3 (by simp)
 clear hwt hn
 have hA5 := hA4
 have ⟨c0,c1,c2,c3,c4,c5⟩ := cs6 hA5
 have ⟨f0,f1,f2,f3,f4,f5⟩ := fs6 hA5
 have lb := aB hA5
 try simp [bC] at c0 c1 c2 c3 c4 c5
 go_wp2_with fail
 refine (hfi _ ht4).mono ?_
 rintro e w5 ⟨rfl, ht5⟩
 try go_simp
 go_wp2_with fail
 refine (hno _).mono ?_
 rintro e w6 ⟨rfl, rfl⟩
 try go_simp
 have hT5 := (hT3.trans ht4).trans ht5
 have hA6 := ht5.keep hA4 (by simp)
 have hs6 := hs.keep hT5 (by simp)
 clear c0 c1 c2 c3 c4 c5 f0 f1 f2 f3 f4 f5 lb hA4 hA5 hA3
 rw [hvo.out] at hA6 hs6
 have hA7 := hA6
 have ⟨c0,c1,c2,c3,c4,c5⟩ := cs6 hA7
 have ⟨f0,f1,f2,f3,f4,f5⟩ := fs6 hA7
 have lb := aB hA7
 try simp [bC] at c0 c1 c2 c3 c4 c5
 go_wp2_with (at_builtin; refine aJ dK rfl (.tmp 47) (.tmp 49) rfl rfl (hs6.keep ((Touch.refl [] _).alloc _) (by simp)) rfl (aX rfl) (by omega) ?_; intro ad7 c7' w7 g7 hs7 ht7 hn7; rw [← dF] at hs7; have hN7 := ht7.keep (aW hA6 _) hpg; have q0 := aN hN7 0; have q1 := aN hN7 1; have p0 := aQ hN7 0; have p1 := aQ hN7 1; have q4 := aB hN7; simp [bC] at q0 q1)
 refine hQ_.ret (results_tmp rfl _ _ _) rfl ?_
 have hgn : ∀ k, g7 = some k → k ≠ p := bX hn7 hg (by simp; have := aB hA6; omega)
 have hm : ∀ (W : World) (i : Nat) (v : Value), SlAt W 21 1 (.slice ad7 (out.length + 1) c7') (out.length + 1) (cC (out ++ [cc])) g7 → SlAt (W.setCell ⟨p, i, none⟩ v) 21 1 (.slice ad7 (out.length + 1) c7') (out.length + 1) (cC (out ++ [cc])) g7 := fun W i v h => h.keep (Touch.setCell (F := [p]) (Touch.refl _ _) (p := ⟨p, i, none⟩) (by simp) _) (fun k hk => by simpa using hgn k hk)
 refine ⟨rfl, g7, _, aF (aF hN7 0 _) 1 _, ?_, cE hn7 (by have := hT5.size; simp; omega), ?_⟩
 · rw [List.length_append, List.length_singleton]
   exact hm _ _ _ (hm _ _ _ hs7)
 · exact ((Touch.step ((hT5.mono (by simp)).alloc _) ht7 (fun k hk => .inl (by simp at hk; simp [hk]))).setCell (by simp) _).setCell (by simp) _
end Go.Proofs.YthdncmagfgoboaaGreatDoor
end

section
namespace Go.Proofs.YthdncmagfgoboaaGreatDoor
open Go.RowKit
set_option maxRecDepth 100000
set_option maxHeartbeats 8000000
theorem rtext02 (vo : Value) (l : List Nat) (go : Option Nat) (w : World) (h : SlAt w 21 1 vo l.length (cC l) go) (hl : l.length ≤ 200000) :
 Calls Tryz.prog 75 #[vo] w fun e w' => ∃ A C g', e = .returned (.slice A (Sq.text l).length C) ∧ SlAt w' 5 1 (.slice A (Sq.text l).length C) (Sq.text l).length (bM (Sq.text l)) g' ∧ Touch [] w w' := by
 obtain ⟨OA, OC, rfl, hc1, hc2, hc3⟩ := h.form
 have hcells : ∀ w', Touch [] w w' → ∀ (i c : Nat), l[i]? = some c → ∃ k, OA = some ⟨k, 0, none⟩ ∧ w'.cell? ⟨k, i, none⟩ = some (.int .i32 c) := fun w' t i c hi => by
  have hlt := (List.getElem?_eq_some_iff.1 hi).1
  obtain ⟨k, hk, ha⟩ := hc3 (by omega)
  refine ⟨k, ha, t.cell (h.cell hk ?_) (by simp)⟩
  unfold cC
  rw [List.getElem?_map, hi]
  rfl
 replace hcells := Box.mk hcells
 clear h hc3
 refine aA Tryz.func75 rfl ?_
 intro Q_ hQ_
 simp only [Tryz.ntmps75, ents_, Nat.reduceAdd, Nat.reduceSub]
 go_wp2_with fail
 go_loopw [3, 4] (fun v u wr => ∃ (i : Nat) (A : Option Addr) (C : Nat) (g : Option Nat), i ≤ l.length ∧ u = .int .i64 i ∧ v = .slice A (Sq.text (l.take i)).length C ∧ SlAt wr 5 1 v (Sq.text (l.take i)).length (bM (Sq.text (l.take i))) g ∧ (∀ k, g = some k → w.heap.size ≤ k) ∧ Touch [] w wr) (fun _ u _ => l.length - (intOf u).toNat)
 case atStart => exact ⟨0, none, 0, none, by omega, rfl, rfl, SlAt.nil _ _ _, (fun k q => by cases q), Touch.refl _ _⟩
 case round =>
  obtain ⟨i, A, C, g, hi, rfl, rfl, hs, hg, hT⟩ := hrel
  by_cases hlt : i < l.length
  · have hx : l[i]? = some l[i] := List.getElem?_eq_getElem hlt
    generalize l[i] = c at hx
    obtain ⟨k, rfl, hcell⟩ := hcells.out wr hT i c hx
    have htk : Sq.text (l.take (i + 1)) = Sq.text (l.take i) ++ Sq.enc c := by
     rw [List.take_add_one, hx, Sq.text_append]
     simp [Sq.text]
    have hby := fun w => rZ (c : Int) (by omega) w
    simp only [Int.toNat_natCast] at hby
    have hel := Sq.enc_len c
    have htl := Sq.text_len (l.take i)
    have hll : (l.take i).length ≤ 200000 := by rw [List.length_take]; omega
    replace htk := Box.mk htk
    generalize Sq.text (l.take i) = T at *
    generalize Sq.enc c = EE at *
    clear hx
    go_wp2_with (first
     | (at_builtin; refine aJ cA rfl (.tmp 11) (.tmp 16) rfl rfl (hs.keep ht1 (by simp)) rfl hV (by omega) ?_; intro ad2 c2' w2 g2 hs2 ht2 hn2; rw [← gO] at hs2)
     | (refine (hby _).mono ?_; rintro e w1 ⟨v, rfl, hV, ht1⟩; try go_simp; unfold jB at hV))
    have hT1 := hT.trans ht1
    go_roundw
    case measure => simp [intOf]; omega
    case rel =>
     refine ⟨i + 1, ad2, c2', g2, hlt, by go_num, by rw [htk.out, List.length_append], ?_, fun k hk => ?_, Touch.step hT1 ht2 (fun k hk => .inr ?_)⟩
     · rw [htk.out, List.length_append]; exact hs2
     · rcases hn2 with q | ⟨j, q1, q2⟩
       · exact hg k (q ▸ hk)
       · rw [q1] at hk; injection hk with hk; have := hT1.size; omega
     · cases hgg : g with
       | none => rw [hgg] at hk; simp at hk
       | some j => rw [hgg] at hk; simp at hk; subst hk; exact hg _ hgg
  · have hil : i = l.length := by omega
    subst hil
    rw [List.take_length] at hs
    have e1 : l.take l.length = l := List.take_length
    go_wp2
    refine hQ_.ret (results_tmp rfl _ _ _) rfl ?_
    exact ⟨A, C, g, by rw [e1]; rfl, hs, hT⟩
theorem nU (p : Nat) (s : Sq.St) (go gb gh : Option Nat) (vo vb vh : Value) (w : World) (h : RStrF w p s go gb gh vo vb vh) (hl : s.out.length ≤ 200000) : Calls Tryz.prog 60 #[.pointer (some ⟨p, 0, none⟩)] w fun e w' => e = .returned (.string (str (Sq.text s.out))) ∧ Touch [] w w' := by
 have hc := h.rc
 have htx := rtext02 vo s.out go w h.ro hl
 unfold aO at hc
 have ⟨c0,c1,c2,c3,c4,c5⟩ := cs6 hc
 have ⟨f0,f1,f2,f3,f4,f5⟩ := fs6 hc
 have lb := aB hc
 try simp [bC] at c0 c1 c2 c3 c4 c5
 clear h
 refine aA Tryz.func60 rfl ?_
 intro Q_ hQ_
 simp only [Tryz.ntmps60, ents_, Nat.reduceAdd, Nat.reduceSub]
 go_wp2_with fail
 refine htx.mono ?_
 rintro e w1 ⟨A, C, g', rfl, hs, ht⟩
 try go_simp
 have hcv := iZ hs
 go_wp2
 refine hQ_.ret (results_tmp rfl _ _ _) rfl ?_
 exact ⟨rfl, ht⟩
end Go.Proofs.YthdncmagfgoboaaGreatDoor
end
