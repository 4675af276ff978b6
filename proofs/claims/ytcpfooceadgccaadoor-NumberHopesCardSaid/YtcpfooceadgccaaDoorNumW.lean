/- The law's awake of the layer of numbers byte by byte. -/
import Derived.Test.YtcpfooceadgccaaDoorNumA
namespace Go.Proofs.YtcpfooceadgccaaDoor
open Go.RowKit
set_option maxRecDepth 100000
set_option maxHeartbeats 4000000
set_option linter.unusedVariables false
set_option linter.unusedSimpArgs false

theorem push_err_at (b : Nat) (l : List UInt8) (n : Num.St) (g : Option Nat) (tv : Value) (x : UInt8) (k : Nat) (w : World) (hF : NumF w b l n g tv) (ok : n.OkL l.length) (hl : l.length ≤ 100000) (h : Num.push n x.toNat = .error k) :
    Calls Tryd.prog 33 #[.pointer (some ⟨b, 0, none⟩), .int .u8 x.toNat] w fun e w' => e = .returned (.int .i64 k) ∧ (∃ tv', NumF w' b l n g tv') ∧ Touch [b] w w' :=
  (push_any b l n g tv x w hF ok hl).mono fun e w' hp => by unfold PushPost at hp; rw [h] at hp; exact hp

theorem awake11 (w : World) : Calls Tryd.prog 32 #[] w fun e w' => e = .returned (.bool true) ∧ Touch [] w w' := by
  have t5 : (str [49, 46, 53, 101, 49]).toList = [49, 46, 53, 101, 49] := str_toList _
  have t6 : (⟨#[49, 46, 53, 101, 49]⟩ : ByteArray).toList = [49, 46, 53, 101, 49] := str_toList _
  let kp_ : Exit → Act → World → Prop := bodyPost Tryd.prog Tryd.f32 (fun _ _ => True)
  refine calls_post Tryd.func32 rfl ?_
  intro Q_ hQ_
  simp only [Tryd.ntmps32, List.size_toArray, List.length_cons, List.length_nil, Nat.reduceAdd, Nat.reduceSub, Array.replicate_succ, Array.replicate_zero, List.push_toArray, List.append_toArray, List.nil_append, List.cons_append]
  go_wp2_with fail
  refine (numnew_any _).mono ?_
  rintro e w1 ⟨⟨pa, rfl, la, hA⟩, ht1⟩
  try go_simp
  go_wp2_with fail
  refine (numnew_any _).mono ?_
  rintro e w2 ⟨⟨pb, rfl, lb, hB⟩, ht2⟩
  try go_simp
  have hab : pa < pb := Nat.lt_of_lt_of_le hA.lt lb
  replace hA := hA.keep ht2 (by simp) (by simp)
  go_wp2_with fail
  refine (numnew_any _).mono ?_
  rintro e w3 ⟨⟨pc, rfl, lc, hC⟩, ht3⟩
  try go_simp
  have hbc : pb < pc := Nat.lt_of_lt_of_le hB.lt lc
  replace hA := hA.keep ht3 (by simp) (by simp)
  replace hB := hB.keep ht3 (by simp) (by simp)
  go_wp2_with fail
  refine (numnew_any _).mono ?_
  rintro e w4 ⟨⟨pd, rfl, ld, hD⟩, ht4⟩
  try go_simp
  have hcd : pc < pd := Nat.lt_of_lt_of_le hC.lt ld
  replace hA := hA.keep ht4 (by simp) (by simp)
  replace hB := hB.keep ht4 (by simp) (by simp)
  replace hC := hC.keep ht4 (by simp) (by simp)
  have T4 := ((ht1.trans ht2).trans ht3).trans ht4
  clear ht1 ht2 ht3 ht4 lb lc ld
  -- a
  go_wp2_with fail
  refine (pushes_any pa [] _ none _ [57, 48, 48, 55, 49, 57, 57, 50, 53, 52, 55, 52, 48, 57, 57, 51] _ hA Num.start_ok (by decide) 15 8 ⟨3, 900719925474099, 0, 0, false, 0⟩ rfl).mono ?_
  rintro e w5 ⟨rfl, _, ht5⟩
  try go_simp
  replace hB := hB.keep ht5 (by simp; omega) (by simp)
  replace hC := hC.keep ht5 (by simp; omega) (by simp)
  replace hD := hD.keep ht5 (by simp; omega) (by simp)
  have T5 := T4.step ht5 (fun x hx => .inr (by simp at hx; omega))
  clear T4 ht5 hA
  -- b
  go_wp2_with fail
  refine (pushes_any pb [] _ none _ [49, 46, 53, 101, 45] _ hB Num.start_ok (by decide) 4 7 ⟨6, 15, 0, 1, false, 0⟩ rfl).mono ?_
  rintro e w6 ⟨rfl, _, ht6⟩
  try go_simp
  replace hC := hC.keep ht6 (by simp; omega) (by simp)
  replace hD := hD.keep ht6 (by simp; omega) (by simp)
  have T6 := T5.step ht6 (fun x hx => .inr (by simp at hx; omega))
  clear T5 ht6 hB
  -- c
  have hDl := hD.lt
  go_wp2_with fail
  refine (pushes_any pc [] _ none _ [49, 48, 101, 45, 49] _ hC Num.start_ok (by decide) 5 0 ⟨8, 1, 1, 0, true, 1⟩ rfl).mono ?_
  rintro e w7 ⟨rfl, ⟨gc, tvc, hC2, nc, okc⟩, ht7⟩
  try go_simp
  replace hD := hD.keep ht7 (by simp; omega) (by simp)
  have T7 := T6.step ht7 (fun x hx => .inr (by simp at hx; omega))
  replace hC2 : NumF w7 pc [49, 48, 101, 45, 49] ⟨8, 1, 1, 0, true, 1⟩ gc tvc := hC2
  have hend := numend_any pc _ _ gc tvc w7 hC2 (by decide) (by decide)
  rw [show Num.pend ⟨8, 1, 1, 0, true, 1⟩ [49, 48, 101, 45, 49] = (1, 0) from rfl] at hend
  clear T6 ht7 hC nc
  go_wp2_with fail
  refine hend.mono ?_
  rintro e w8 ⟨rfl, ht8⟩
  try go_simp
  replace hC2 := hC2.keep ht8 (by simp) (by simp)
  replace hD := hD.keep ht8 (by simp) (by simp)
  have T8 := T7.trans ht8
  have hp := push_err_at pc _ _ gc tvc 50 7 w8 hC2 okc (by decide) rfl
  rw [show (((50 : UInt8).toNat : Nat) : Int) = 50 from rfl] at hp
  clear T7 ht8 hend okc hC2
  go_wp2_with fail
  refine hp.mono ?_
  rintro e w9 ⟨rfl, _, ht9⟩
  try go_simp
  replace hD := hD.keep ht9 (by simp; omega) (by simp)
  have T9 := T8.step ht9 (fun x hx => .inr (by simp at hx; omega))
  clear T8 ht9 hp
  -- d
  go_wp2_with fail
  refine (pushes_any pd [] _ none _ [49, 46, 53] _ hD Num.start_ok (by decide) 3 0 ⟨5, 15, 0, 1, false, 0⟩ rfl).mono ?_
  rintro e w10 ⟨rfl, ⟨gd, tvd, hD2, nd, okd⟩, ht10⟩
  try go_simp
  have T10 := T9.step ht10 (fun x hx => .inr (by simp at hx; omega))
  have hgd : ∀ k, gd = some k → w.heap.size ≤ k := fun k hk => by
    rcases nd with h | ⟨k', h1, h2⟩
    · rw [h] at hk; cases hk
    · rw [h1] at hk; injection hk with hk; subst hk
      have := T9.size
      omega
  replace hD2 : NumF w10 pd [49, 46, 53] ⟨5, 15, 0, 1, false, 0⟩ gd tvd := hD2
  have hend := numend_any pd _ _ gd tvd w10 hD2 (by decide) (by decide)
  rw [show Num.pend ⟨5, 15, 0, 1, false, 0⟩ [49, 46, 53] = (0, 7) from rfl] at hend
  clear T9 ht10 nd hD
  go_wp2_with fail
  refine hend.mono ?_
  rintro e w11 ⟨rfl, ht11⟩
  try go_simp
  replace hD2 := hD2.keep ht11 (by simp) (by simp)
  have T11 := T10.trans ht11
  clear T10 ht11 hend
  go_wp2_with fail
  refine (pushes_any pd [49, 46, 53] _ gd tvd [101, 49] _ hD2 okd (by decide) 2 0 ⟨8, 15, 0, 1, false, 1⟩ rfl).mono ?_
  rintro e w12 ⟨rfl, ⟨gd2, tvd2, hD3, _, okd2⟩, ht12⟩
  try go_simp
  have T12 := T11.step ht12 (fun x hx => .inr (by
    rw [List.mem_cons] at hx
    rcases hx with rfl | hx
    · omega
    · cases hg : gd with
      | none => rw [hg] at hx; simp at hx
      | some k => rw [hg] at hx; simp at hx; subst hx; exact hgd _ hg))
  replace hD3 : NumF w12 pd [49, 46, 53, 101, 49] ⟨8, 15, 0, 1, false, 1⟩ gd2 tvd2 := hD3
  have hend := numend_any pd _ _ gd2 tvd2 w12 hD3 (by decide) (by decide)
  rw [show Num.pend ⟨8, 15, 0, 1, false, 1⟩ [49, 46, 53, 101, 49] = (15, 0) from rfl] at hend
  clear T11 ht12 hD2 hgd okd okd2
  go_wp2_with fail
  refine hend.mono ?_
  rintro e w13 ⟨rfl, ht13⟩
  try go_simp
  replace hD3 := hD3.keep ht13 (by simp) (by simp)
  have T13 := T12.trans ht13
  clear T12 ht13 hend
  have htx := numtext_any pd _ _ gd2 tvd2 w13 hD3
  go_wp2_with fail
  refine htx.mono ?_
  rintro e w14 ⟨rfl, rfl⟩
  try go_simp
  go_wp2
  (try simp only [Exit.inBlock, Exit.then])
  refine hQ_.ret (results_tmp rfl _ _ _) rfl ?_
  exact ⟨rfl, T13⟩
end Go.Proofs.YtcpfooceadgccaaDoor
