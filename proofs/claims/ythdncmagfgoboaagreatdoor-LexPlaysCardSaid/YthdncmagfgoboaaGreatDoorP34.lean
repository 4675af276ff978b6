/- One of the texts that lead to the theorem lexPlays.proved: the conditions stand in each theorem. -/
import Derived.Test.YthdncmagfgoboaaGreatDoorP32
import Derived.Test.YthdncmagfgoboaaGreatDoorP29
import Derived.Test.YthdncmagfgoboaaGreatDoorP33
set_option linter.unusedSimpArgs false
set_option linter.unusedVariables false
namespace Go.Proofs.YthdncmagfgoboaaGreatDoor
open Go.RowKit
set_option maxRecDepth 100000
set_option maxHeartbeats 8000000
open Lx
theorem nN (l : List Tok) (i : Nat) (t : Tok) (h : l[i]? = some t) : (cB l)[5 * i]? = some (.int .i64 t.1) ∧ (cB l)[5 * i + 1]? = some (.int .i64 t.2.1) ∧ (cB l)[5 * i + 2]? = some (.int .i64 t.2.2.1) ∧ (cB l)[5 * i + 3]? = some (.int .i64 t.2.2.2.1) ∧ (cB l)[5 * i + 4]? = some (.string (str t.2.2.2.2)) := by
 induction l generalizing i with
 | nil => simp at h
 | cons u l ih =>
  have hc : cB (u :: l) = .int .i64 u.1 :: .int .i64 u.2.1 :: .int .i64 u.2.2.1 :: .int .i64 u.2.2.2.1 :: .string (str u.2.2.2.2) :: cB l := rfl
  rw [hc]
  cases i with
  | zero => simp at h; subst h; exact ⟨rfl, rfl, rfl, rfl, rfl⟩
  | succ i =>
   have := ih i (by simpa using h)
   have e : 5 * (i + 1) = 5 * i + 5 := by omega
   rw [e]
   exact this
theorem tok_eqG (a b c d : Int) (s : ByteArray) (w : World) : (binOp .neq 41 (.agg #[.int .i64 a, .int .i64 b, .int .i64 c, .int .i64 d, .string s]) (.agg #[.int .i64 a, .int .i64 b, .int .i64 c, .int .i64 d, .string s])).run Tryz.prog w = .ok (.bool false) w := by
 go_simp
def TokS (w : World) (v : Value) (l : List Tok) : Prop := ∃ A C g, v = .slice A l.length C ∧ cV w v l g
theorem TokV.s {w0 w : World} {v : Value} {l : List Tok} (h : TokV w0 w v l) : TokS w v l := by
 obtain ⟨A, C, g, h1, h2, _⟩ := h
 exact ⟨A, C, g, h1, h2⟩
theorem TokS.keep {w w' : World} {v : Value} {l : List Tok} (h : TokS w v l) (t : Touch [] w w') : TokS w' v l := by
 obtain ⟨A, C, g, h1, h2⟩ := h
 exact ⟨A, C, g, h1, SlAt.keep h2 t (fun _ _ => by simp)⟩
theorem pK (v u : Value) (l : List Tok) (w : World) (h : TokS w v l) (k : TokS w u l) (hl : l.length ≤ 1000000) :
 Calls Tryz.prog 14 #[v, u] w fun e w' => e = .returned (.bool true) ∧ Touch [] w w' := by
 obtain ⟨A, C, g, rfl, hA⟩ := h
 obtain ⟨B, D, g', rfl, hB⟩ := k
 have hnn : ((l.length : Int) != (l.length : Int)) = false := by simp
 refine aA Tryz.func14 rfl ?_
 intro Q_ hQ_
 simp only [Tryz.ntmps14, ents_, Nat.reduceAdd, Nat.reduceSub]
 go_wp2_with fail
 go_loopw [5] (fun v wr => ∃ i : Nat, i ≤ l.length ∧ v = .int .i64 i ∧ Touch [] w wr) (fun v _ => l.length - (intOf v).toNat)
 case atStart => exact ⟨0, by omega, rfl, Touch.refl _ _⟩
 case round =>
  obtain ⟨i, hi, rfl, ht⟩ := hrel
  by_cases hlt : i < l.length
  · obtain ⟨ka, rfl, rfl, _, hka, hca⟩ := iN hA (by omega)
    obtain ⟨kb, rfl, rfl, _, hkb, hcb⟩ := iN hB (by omega)
    obtain ⟨t, hget⟩ : ∃ t, l[i]? = some t := ⟨_, List.getElem?_eq_getElem hlt⟩
    obtain ⟨g0, g1, g2, g3, g4⟩ := nN l i t hget
    have teq := tok_eqG t.1 t.2.1 t.2.2.1 t.2.2.2.1 (str t.2.2.2.2)
    have hcm : ∀ m (v : Value), (cB l)[5 * i + m]? = some v → ∀ w', Touch [] wr w' → w'.cell? ⟨ka, i * 5 + m, none⟩ = some v ∧ w'.cell? ⟨kb, i * 5 + m, none⟩ = some v := fun m v hv w' t' => by
     rw [show i * 5 = 5 * i by omega]
     exact ⟨hca w' (ht.trans t') _ _ hv, hcb w' (ht.trans t') _ _ hv⟩
    go_upto_region 6 with (fail)
    have la := ht.lt hka
    have lb := ht.lt hkb
    have p0 := (hcm 0 _ g0 wr (Touch.refl _ _)).1
    have p1 := (hcm 1 _ g1 wr (Touch.refl _ _)).1
    have p2 := (hcm 2 _ g2 wr (Touch.refl _ _)).1
    have p3 := (hcm 3 _ g3 wr (Touch.refl _ _)).1
    have p4 := (hcm 4 _ g4 wr (Touch.refl _ _)).1
    have q0 := (hcm 0 _ g0 wr (Touch.refl _ _)).2
    have q1 := (hcm 1 _ g1 wr (Touch.refl _ _)).2
    have q2 := (hcm 2 _ g2 wr (Touch.refl _ _)).2
    have q3 := (hcm 3 _ g3 wr (Touch.refl _ _)).2
    have q4 := (hcm 4 _ g4 wr (Touch.refl _ _)).2
    clear g0 g1 g2 g3 g4 hcm hca hcb hA hB
    try simp only [Nat.add_zero] at p0 q0
    have hib : i ≤ 1000000 := by omega
    go_quiet (fail)
    go_wp2
    exact ⟨⟨i + 1, hlt, by rw [Int.natCast_add]; rfl, ht.drewN _⟩, by simp [intOf]; omega⟩
  · go_wp2
    refine hQ_.ret (results_tmp rfl _ _ _) rfl ?_
    exact ⟨rfl, ht⟩
theorem vG {a f : Nat} {x : UInt8} {wd : Wd} {st : Lx.St} {l : List Tok} (s : Step a f x wd (.ok (st, l))) : st.a = a + 1 ∧ l.length ≤ 2 := by
 generalize hr : (Except.ok (st, l) : Except Int (Lx.St × List Tok)) = r at s
 cases s with
 | no r so => subst hr; cases so <;> exact ⟨rfl, by simp⟩
 | figend t n N r q1 q2 q3 so => subst hr; cases so <;> exact ⟨rfl, by simp⟩
 | litbad => cases hr
 | figbad => cases hr
 | figerr => cases hr
 | quobad => cases hr
 | _ => injection hr with hr; injection hr with hr1 hr2; subst hr1 hr2; exact ⟨rfl, by simp⟩
theorem lp_step (a f : Nat) (x : UInt8) (wd : Wd) (ok : wd.Ok a) (ha : a ≤ 90000) : ∃ (K : Int) (l : List Tok) (a' f' : Nat) (wd' : Wd), wd'.Ok a' ∧ a' ≤ a + 1 ∧ l.length ≤ 2 ∧
 (∀ b F w, WdAt w b a f wd F → Calls Tryz.prog 17 #[.pointer (some ⟨b, 0, none⟩), .int .u8 x.toNat] w fun e w' => ∃ v F', e = .returned (.tuple #[v, .int .i64 K]) ∧ TokV w w' v l ∧ WdAt w' b a' f' wd' F' ∧ (∀ k ∈ F', k ∈ F ∨ w.heap.size ≤ k) ∧ Touch F w w') ∧
 (∀ b F w, RWdAt w b a f wd F → Calls Tryz.prog 25 #[.pointer (some ⟨b, 0, none⟩), .int .u8 x.toNat] w fun e w' => ∃ v F', e = .returned (.tuple #[v, .int .i64 K]) ∧ TokV w w' v l ∧ RWdAt w' b a' f' wd' F' ∧ (∀ k ∈ F', k ∈ F ∨ w.heap.size ≤ k) ∧ Touch F w w') := by
 obtain ⟨r, s, rok⟩ := step_ex a f x wd ok ha
 cases r with
 | error k =>
  refine ⟨k, [], a, f, wd, ok, by omega, by simp, fun b F w h => ?_, fun b F w h => ?_⟩
  · refine (mE b a f x wd F k w h ok ha s).mono ?_
    rintro e w' ⟨rfl, q1, q2⟩
    exact ⟨_, F, rfl, TokV.nil _ _, q1, fun k hk => .inl hk, q2⟩
  · refine (oD b a f x wd F k w h ok ha s).mono ?_
    rintro e w' ⟨rfl, q1, q2⟩
    exact ⟨_, F, rfl, TokV.nil _ _, q1, fun k hk => .inl hk, q2⟩
 | ok r =>
  obtain ⟨st, l⟩ := r
  refine ⟨0, l, st.a, st.f, st.w, rok, by rw [(vG s).1]; omega, (vG s).2, fun b F w h => ?_, fun b F w h => ?_⟩
  · refine (mD b a f x wd F st l w h ok ha s).mono ?_
    rintro e w' ⟨v, rfl, q1, ⟨F', q2, q3⟩, q4⟩
    exact ⟨v, F', rfl, q1, q2, q3, q4⟩
  · refine (oC b a f x wd F st l w h ok ha s).mono ?_
    rintro e w' ⟨v, rfl, q1, ⟨F', q2, q3⟩, q4⟩
    exact ⟨v, F', rfl, q1, q2, q3, q4⟩
theorem fin_len (a f : Nat) (wd : Wd) : (fin a f wd).1.length ≤ 1 := by
 cases wd with
 | fig t n =>
  show (if (Num.rend t.text).2 = 0 then ([(4, f, a, (Num.rend t.text).1, [])], (0 : Int)) else ([], (Num.rend t.text).2)).1.length ≤ 1
  by_cases h : (Num.rend t.text).2 = 0
  · rw [if_pos h]; exact Nat.le_refl _
  · rw [if_neg h]; exact Nat.zero_le _
 | _ => exact Nat.zero_le _
structure LPRel (w wr : World) (b q a f : Nat) (wd : Wd) (F G : List Nat) (i : Nat) : Prop where
 p : WdAt wr b a f wd F
 r : RWdAt wr q a f wd G
 ok : wd.Ok a
 ai : a ≤ i
 fp : ∀ k ∈ F, w.heap.size ≤ k
 gp : ∀ k ∈ G, w.heap.size ≤ k
 d : ∀ k ∈ F, k ∉ G
 t : Touch [] w wr
theorem LPRel.keep {w wr w' : World} {b q a f : Nat} {wd : Wd} {F G : List Nat} {i : Nat} (h : LPRel w wr b q a f wd F G i) (k : Touch [] wr w') : LPRel w w' b q a f wd F G i :=
 ⟨h.p.keep k (fun _ _ => by simp), h.r.keep k (fun _ _ => by simp), h.ok, h.ai, h.fp, h.gp, h.d, h.t.trans k⟩
theorem mC (a0 : Option Addr) (n0 c0 : Nat) (z0 : List Int) (w : World) (w0 : xV .u8 w a0 n0 c0 z0) :
 Calls Tryz.prog 7 #[.slice a0 n0 c0] w fun e w' => e = .returned (.bool true) ∧ Touch [] w w' := by
 have hcm : n0 ≤ 9223372036854775807 := by have := w0.le; have := w0.max; omega
 refine aA Tryz.func7 rfl ?_
 intro Q_ hQ_
 simp only [Tryz.ntmps7, ents_, Nat.reduceAdd, Nat.reduceSub]
 go_wp2_with fail
 refine (fH _).mono ?_
 rintro e w1 ⟨⟨b, rfl, hb, hA⟩, ht1⟩
 try go_simp
 go_wp2_with fail
 refine (pR _).mono ?_
 rintro e w2 ⟨rfl, hB, ht2⟩
 try go_simp
 obtain ⟨q, hq⟩ : ∃ q, w1.heap.size = q := ⟨_, rfl⟩
 have hst : LPRel w w2 b q 0 0 .no [b] [q] 0 :=
  ⟨⟨⟨0, ht2.keep hA (by simp)⟩, rfl⟩, ⟨⟨0, 0, by rw [← hq]; exact hB⟩, rfl⟩, trivial, by omega, by simpa using hb, by have := ht1.size; simp; omega, by have := aB hA; simp; omega, ht1.trans ht2⟩
 rw [hq]
 clear hq hB ht2 ht1 hA hb
 by_cases hn : 300 < n0
 · go_wp2_with fail
   refine (tA _).mono ?_
   rintro e w3 ⟨rfl, ht⟩
   try go_simp
   go_wp2
   refine hQ_.ret (results_tmp rfl _ _ _) rfl ?_
   exact ⟨rfl, hst.t.trans ht⟩
 go_wp2_with fail
 go_loopw [5] (fun v wr => ∃ (i a f : Nat) (wd : Wd) (F G : List Nat), i ≤ n0 ∧ v = .int .i64 i ∧ LPRel w wr b q a f wd F G i) (fun v _ => n0 - (intOf v).toNat)
 case atStart => exact ⟨0, 0, 0, .no, [b], [q], by omega, rfl, hst⟩
 case round =>
  clear hst
  obtain ⟨i, a, f, wd, F, G, hi, rfl, hr⟩ := hrel
  by_cases hlt : i < n0
  · obtain ⟨bb, off, rfl, hcell⟩ := w0.cells (by omega)
    have hwf := tE (w0.wf (z0.getD i 0) (by have := w0.len; rw [List.getD_eq_getElem?_getD, List.getElem?_eq_getElem (by omega)]; exact List.getElem_mem _))
    obtain ⟨x, hx⟩ : ∃ x : UInt8, z0.getD i 0 = (x.toNat : Int) := ⟨UInt8.ofNat (z0.getD i 0).toNat, by rw [UInt8.toNat_ofNat']; omega⟩
    have hz : ∀ w', Touch [] w w' → w'.cell? ⟨bb, off + i, none⟩ = some (.int .u8 x.toNat) := fun w' h => by rw [← hx]; exact h.cell (hcell i hlt) (by simp)
    clear hcell hx hwf
    obtain ⟨K, l, a', f', wd', ok', ha', hll, hP, hR⟩ := lp_step a f x wd hr.ok (by have := hr.ai; omega)
    have z1 := hz _ hr.t
    go_wp2_with fail
    refine (hP b F _ hr.p).mono ?_
    rintro e w3 ⟨v, F', rfl, hv, hp3, hF', ht3⟩
    try go_simp
    have hT3 : Touch [] w w3 := Touch.step hr.t ht3 (fun k hk => .inr (hr.fp k hk))
    have hG3 : RWdAt w3 q a f wd G := hr.r.keep ht3 (fun k hk q => hr.d k q hk)
    have z2 := hz _ hT3
    go_wp2_with fail
    refine (hR q G _ hG3).mono ?_
    rintro e w4 ⟨u, G', rfl, hu, hr4, hG', ht4⟩
    try go_simp
    have hp4 : WdAt w4 b a' f' wd' F' := hp3.keep ht4 (fun k hk q => by
     rcases hF' k hk with q1 | q1
     · exact hr.d k q1 q
     · have := hG3.lt k q; have := hr.r.lt k q; omega)
    have hv4 : TokS w4 v l := (hv.keep ht4 (fun k hk => hr.r.lt k hk)).s
    have hu4 : TokS w4 u l := hu.s
    have hrel4 : LPRel w w4 b q a' f' wd' F' G' (i + 1) := by
     refine ⟨hp4, hr4, ok', by have := hr.ai; omega, fun k hk => ?_, fun k hk => ?_, fun k hk q => ?_, Touch.step hT3 ht4 (fun k hk => .inr (hr.gp k hk))⟩
     · rcases hF' k hk with q1 | q1
       · exact hr.fp k q1
       · have := hr.t.size; omega
     · rcases hG' k hk with q1 | q1
       · exact hr.gp k q1
       · have := hT3.size; omega
     · have hk3 := hp3.lt k hk
       rcases hG' k q with q1 | q1
       · rcases hF' k hk with q2 | q2
         · exact hr.d k q2 q1
         · have := hr.r.lt k q1; omega
       · omega
    clear hP hR hr hv hu hp3 hG3 hr4 hF' hG' ht3 ht4 hT3 hp4 z1 z2 hz
    have hll2 : l.length ≤ 1000000 := by omega
    have hsame := fun W (t : Touch [] w4 W) => pK v u l W (hv4.keep t) (hu4.keep t) hll2
    have hin := fun W (t : Touch [] w4 W) => sI b a' f' wd' F' W (hrel4.keep t).p
    have hln := fun W (t : Touch [] w4 W) => len_any b a' f' wd' F' W (hrel4.keep t).p
    have hrl := fun W (t : Touch [] w4 W) => vO q a' f' wd' G' W (hrel4.keep t).r ok'
    have hat : ∀ W, Touch [] w4 W → Calls Tryz.prog 18 #[.pointer (some ⟨b, 0, none⟩)] W fun e w' => e = .returned (.int .i64 a') ∧ W = w' := fun W t => by
     obtain ⟨_, f2, v2, h2⟩ := (hrel4.keep t).p.at
     exact uF b a' f2 v2 W h2
    obtain ⟨_, f2, nv2, sv2, lit2, hq2⟩ := hrel4.r.at
    have hc0 : ∀ W, Touch [] w4 W → W.cell? ⟨q, 0, none⟩ = some (.int .i64 a') := fun W t => aN (t.keep hq2 (by simp)) 0
    have hc1 : ∀ W, Touch [] w4 W → W.cell? ⟨q, 1, none⟩ = some (.int .i64 (dX wd')) := fun W t => aN (t.keep hq2 (by simp)) 1
    have e1 : ((K : Int) != (K : Int)) = false := by simp
    have e2 : ((a' : Int) != (a' : Int)) = false := by simp
    have e3 : ((dX wd' : Int) != (dX wd' : Int)) = false := by simp
    have e4 : ((lenW wd' : Int) != (lenW wd' : Int)) = false := by simp
    clear hq2
    generalize dX wd' = I at *
    generalize lenW wd' = L at *
    go_upto_region 9 with (fail)
    go_region_held3 (fun w' => Touch [] w4 w')
     (first | exact Touch.drew (Touch.refl [] _) | assumption)
     (first
      | (go_at_call 14; (with_reducible refine (hsame _ (by assumption)).mono ?_); rintro e w9 ⟨rfl, ht9⟩; have hT9 := Touch.trans (by assumption : Touch [] w4 _) ht9)
      | (go_at_call 22; (with_reducible refine (hin _ (by assumption)).mono ?_); rintro e w8 ⟨rfl, ht8⟩; have hT8 := Touch.trans (by assumption : Touch [] w4 _) ht8)
      | (go_at_call 26; (with_reducible refine (hln _ (by assumption)).mono ?_); rintro e w7 ⟨rfl, ht7⟩; have hT7 := Touch.trans (by assumption : Touch [] w4 _) ht7)
      | (go_at_call 27; (with_reducible refine (hrl _ (by assumption)).mono ?_); rintro e w6 ⟨rfl, rfl⟩)
      | (go_at_call 18; (with_reducible refine (hat _ (by assumption)).mono ?_); rintro e w5 ⟨rfl, rfl⟩))
    have hrel7 := hrel4.keep hT7
    clear hsame hin hln hrl hat hc0 hc1 e2 e3 e4 hv4 hu4 hrel4 ht9 hT9 ht8 hT8 ht7 hT7 hll hll2
    have haf : a' ≤ 90000 := by have := hrel7.ai; omega
    have hfl := fin_len a' f' wd'
    have hen := fun W (t : Touch [] w7 W) => end_any b a' f' wd' F' W (hrel7.keep t).p ok' haf
    have hre := fun W (t : Touch [] w7 W) => rend_wd q a' f' wd' G' W (hrel7.keep t).r ok' haf
    generalize (fin a' f' wd').1 = l5 at *
    generalize (fin a' f' wd').2 = K5 at *
    have e5 : ((K5 : Int) != (K5 : Int)) = false := by simp
    go_wp2_with fail
    refine (hen _ (Touch.refl _ _)).mono ?_
    rintro e w10 ⟨v5, rfl, hv5, ht10⟩
    try go_simp
    go_wp2_with fail
    refine (hre _ ht10).mono ?_
    rintro e w11 ⟨u5, rfl, hu5, ht11⟩
    try go_simp
    have hsa := pK v5 u5 l5 w11 (hv5.keep ht11 (by simp)).s hu5.s (by omega)
    have hT11 := ht10.trans ht11
    clear hv5 hu5 ht10 ht11 hen hre hfl
    go_wp2_with fail
    refine hsa.mono ?_
    rintro e w12 ⟨rfl, ht12⟩
    try go_simp
    have hrel12 := hrel7.keep (hT11.trans ht12)
    clear hsa hrel7 hT11 ht12
    go_wp2
    exact ⟨⟨i + 1, a', f', wd', F', G', hlt, by rw [Int.natCast_add]; rfl, hrel12⟩, by simp [intOf]; omega⟩
  · go_wp2_with fail
    refine (tA _).mono ?_
    rintro e w2 ⟨rfl, ht⟩
    try go_simp
    go_wp2
    refine hQ_.ret (results_tmp rfl _ _ _) rfl ?_
    exact ⟨rfl, hr.t.trans ht⟩
end Go.Proofs.YthdncmagfgoboaaGreatDoor
