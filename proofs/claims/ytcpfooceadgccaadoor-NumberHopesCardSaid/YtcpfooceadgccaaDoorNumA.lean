/- The law's pushes of a text, and its awake, of the layer of numbers byte by byte. -/
import Derived.Test.YtcpfooceadgccaaDoorNumE
namespace Go.Proofs.YtcpfooceadgccaaDoor
open Go.RowKit
set_option maxRecDepth 100000
set_option maxHeartbeats 4000000
set_option linter.unusedVariables false
set_option linter.unusedSimpArgs false

namespace Num
open Go.Proofs.YtcpfooceadgccaaDoor.Dig (Bs)
theorem why_or (n : St) : why n = 7 ∨ why n = 8 := by unfold why; split <;> simp
theorem fin_cases {n : St} {r : Except Nat St} (h : r = fin n) : (r = .ok n) ∨ ∃ k, r = .error k ∧ (k = 2 ∨ k = 7 ∨ k = 8) := by
  subst h
  unfold fin
  split
  · exact .inl rfl
  · exact .inr ⟨_, rfl, .inr (why_or n)⟩
/-- each way of one byte more -/
theorem push_ways (n : St) (x L : Nat) (hx : x < 256) (h : n.OkL L) : (∃ n', push n x = .ok n' ∧ n'.OkL (L + 1)) ∨ ∃ k, push n x = .error k ∧ (k = 2 ∨ k = 7 ∨ k = 8) := by
  have use : ∀ n2, push n x = fin n2 → n2.OkL (L + 1) → (∃ n', push n x = .ok n' ∧ n'.OkL (L + 1)) ∨ ∃ k, push n x = .error k ∧ (k = 2 ∨ k = 7 ∨ k = 8) := fun n2 h1 h2 => by
    rcases fin_cases h1 with h3 | h3
    · exact .inl ⟨n2, h3, h2⟩
    · exact .inr h3
  cases hn : next n.at_ x with
  | none => exact .inr ⟨2, by unfold push; rw [hn], .inl rfl⟩
  | some p =>
    have hp8 := next_le _ _ _ hn
    have hfig := next_fig _ _ _ hn
    have hcase : (p = 2 ∨ p = 3 ∨ p = 5) ∨ p = 7 ∨ p = 8 ∨ (p = 0 ∨ p = 1 ∨ p = 4 ∨ p = 6) := by omega
    have hA : (setA n p).OkL L := ⟨hp8, h.m, h.zeros, h.behind, h.e⟩
    rcases hcase with hp | rfl | rfl | hp
    · cases hD : digit (x - 48) (p == 5) (setA n p) with
      | some n2 => exact use n2 (push_digit_yes hn hp hD) (digit_okL hA (by have := hfig (by omega); omega) hD)
      | none => exact .inr ⟨_, push_digit_no hn hp hD 0 0, .inr (why_or _)⟩
    · exact use _ (push_sign hn) ⟨hp8, h.m, Nat.le_succ_of_le h.zeros, Nat.le_succ_of_le h.behind, h.e⟩
    · exact use _ (push_power hn) ⟨hp8, h.m, Nat.le_succ_of_le h.zeros, Nat.le_succ_of_le h.behind, Nat.min_le_right _ _⟩
    · exact use _ (push_other hn hp) ⟨hp8, h.m, Nat.le_succ_of_le h.zeros, Nat.le_succ_of_le h.behind, h.e⟩

/-- bytes, one by one: how many were OK, the error, the number -/
def pushAll : St → Bs → Nat × Nat × St
  | n, [] => (0, 0, n)
  | n, c :: r => match push n c.toNat with
    | .error k => (0, k, n)
    | .ok n' => ((pushAll n' r).1 + 1, (pushAll n' r).2)

theorem start_ok : St.start.OkL 0 := ⟨by decide, by decide, Nat.le_refl _, Nat.le_refl _, by decide⟩
end Num

theorem NumF.keep {w w' : World} {F : List Nat} {b : Nat} {l : List UInt8} {n : Num.St} {g : Option Nat} {tv : Value} (h : NumF w b l n g tv) (ht : Touch F w w') (hb : b ∉ F) (hg : ∀ k, g = some k → k ∉ F) : NumF w' b l n g tv :=
  ⟨ht.keep h.n hb, h.s.keep ht hg, h.g⟩
theorem NumF.lt {w : World} {b : Nat} {l : List UInt8} {n : Num.St} {g : Option Nat} {tv : Value} (h : NumF w b l n g tv) : b < w.heap.size := block_lt h.n

theorem pushes_any (b : Nat) (l : List UInt8) (n : Num.St) (g : Option Nat) (tv : Value) (s : List UInt8) (w : World) (hF : NumF w b l n g tv) (ok : n.OkL l.length) (hl : l.length + s.length ≤ 50000) (i0 k0 : Nat) (m0 : Num.St) (hr : Num.pushAll n s = (i0, k0, m0)) :
    Calls Tryd.prog 38 #[.pointer (some ⟨b, 0, none⟩), .string (str s)] w fun e w' => e = .returned (.tuple #[.int .i64 i0, .int .i64 k0]) ∧ (∃ g' tv', NumF w' b (l ++ s.take i0) m0 g' tv' ∧ NewOr w g g' ∧ m0.OkL (l.length + i0)) ∧ Touch (b :: g.toList) w w' := by
  have sz := str_size s
  replace hr := Box.mk hr
  let kp_ : Exit → Act → World → Prop := bodyPost Tryd.prog Tryd.f38 (fun _ _ => True)
  refine calls_post Tryd.func38 rfl ?_
  intro Q_ hQ_
  simp only [Tryd.ntmps38, List.size_toArray, List.length_cons, List.length_nil, Nat.reduceAdd, Nat.reduceSub, Array.replicate_succ, Array.replicate_zero, List.push_toArray, List.append_toArray, List.nil_append, List.cons_append]
  go_wp2
  go_loopw [6] (fun v wr => ∃ (i : Nat) (m : Num.St) (g' : Option Nat) (tv' : Value), i ≤ s.length ∧ v = .int .i64 i ∧ NumF wr b (l ++ s.take i) m g' tv' ∧ m.OkL (l.length + i) ∧ NewOr w g g' ∧ Touch (b :: g.toList) w wr ∧ Box ((i0, k0, m0) = (i + (Num.pushAll m (s.drop i)).1, (Num.pushAll m (s.drop i)).2))) (fun v _ => s.length - (intOf v).toNat)
  case atStart => exact ⟨0, n, g, tv, Nat.zero_le _, rfl, by simpa using hF, ok, .inl rfl, Touch.refl _ _, ⟨by rw [List.drop_zero, hr.out]; simp⟩⟩
  case round =>
    obtain ⟨i, m, g', tv', hi, rfl, hFm, hok, hnew, hT, hrest⟩ := hrel
    by_cases hlt : i < s.length
    · obtain ⟨c, hc⟩ : ∃ c, s[i]? = some c := ⟨s[i], by simp [hlt]⟩
      have i1 : ∀ w, (Instr.index 9 (.string (str s)) (.int .i64 (i : Int))).run Tryd.prog w = .ok (.int .u8 c.toNat) w := fun w => run_ix Tryd.underlying9 s .i64 i c hc w
      have hlen : (l ++ s.take i).length = l.length + i := by rw [List.length_append, List.length_take]; omega
      have hpu := push_any b (l ++ s.take i) m g' tv' c wr hFm (by rw [hlen]; exact hok) (by rw [hlen]; omega)
      have hdrop : s.drop i = c :: s.drop (i + 1) := by
        rw [List.drop_eq_getElem_cons hlt]
        congr 1
        rw [List.getElem?_eq_getElem hlt] at hc
        injection hc
      have htk : l ++ s.take (i + 1) = (l ++ s.take i) ++ [c] := by rw [List.take_add_one, hc, List.append_assoc]; rfl
      have hnew2 : ∀ g2, NewOr wr g' g2 → NewOr w g g2 := fun g2 h => by
        rcases h with h | ⟨k, h1, h2⟩
        · rw [h]; exact hnew
        · exact .inr ⟨k, h1, Nat.le_trans hT.size h2⟩
      have hstep : ∀ w', Touch (b :: g'.toList) wr w' → Touch (b :: g.toList) w w' := fun w' h => Touch.step hT h (fun x hx => by
        rw [List.mem_cons] at hx
        rcases hx with rfl | hx
        · exact .inl List.mem_cons_self
        · rcases hnew with h1 | ⟨k, h1, h2⟩
          · rw [h1] at hx; exact .inl (List.mem_cons_of_mem _ hx)
          · rw [h1] at hx; simp at hx; subst hx; exact .inr h2)
      rw [hdrop] at hrest
      clear hr hdrop hc
      replace hlen := Box.mk hlen
      replace htk := Box.mk htk
      rcases Num.push_ways m c.toNat (l.length + i) c.toNat_lt hok with ⟨m', hm', hok'⟩ | ⟨k, hk, hk3⟩
      · have hrest2 : Box ((i0, k0, m0) = ((i + 1) + (Num.pushAll m' (s.drop (i + 1))).1, (Num.pushAll m' (s.drop (i + 1))).2)) := ⟨by
          rw [hrest.out]
          simp only [Num.pushAll, hm']
          congr 1
          omega⟩
        replace hm' := Box.mk hm'
        clear hrest
        go_wp2_with fail
        refine hpu.mono ?_
        rintro e w1 hpost
        unfold PushPost at hpost
        rw [hm'.out] at hpost
        obtain ⟨rfl, ⟨g2, tv2, hF2, hn2⟩, ht1⟩ := hpost
        try go_simp
        go_wp2
        go_roundw
        case measure => simp [intOf]; omega
        case rel => exact ⟨i + 1, m', g2, tv2, by omega, by go_num, by rw [htk.out]; exact hF2, hok', hnew2 g2 hn2, hstep w1 ht1, hrest2⟩
      · have hrest2 : Box (i0 = i ∧ k0 = k ∧ m0 = m) := ⟨by
          have := hrest.out
          simp only [Num.pushAll, hk] at this
          injection this with e1 e2
          injection e2 with e2 e3
          exact ⟨e1, e2, e3⟩⟩
        have hne : ((k : Int) != 0) = true := by rcases hk3 with rfl | rfl | rfl <;> rfl
        replace hk := Box.mk hk
        clear hrest hk3
        go_wp2_with fail
        refine hpu.mono ?_
        rintro e w1 hpost
        unfold PushPost at hpost
        rw [hk.out] at hpost
        obtain ⟨rfl, ⟨tv2, hF2⟩, ht1⟩ := hpost
        try go_simp
        go_wp2
        (try simp only [Exit.inBlock, Exit.then])
        refine hQ_.ret (results_tmp2 rfl _ _ _) rfl ?_
        obtain ⟨rfl, rfl, rfl⟩ := hrest2.out
        exact ⟨rfl, ⟨g', tv2, hF2, hnew, hok⟩, hT.step ht1 (fun x hx => .inl (by simp at hx; simp [hx]))⟩
    · have hie : i = s.length := by omega
      have hrest2 : Box (i0 = s.length ∧ k0 = 0 ∧ m0 = m) := ⟨by
        have := hrest.out
        rw [hie, List.drop_eq_nil_of_le (Nat.le_refl _)] at this
        simp only [Num.pushAll] at this
        injection this with e1 e2
        injection e2 with e2 e3
        exact ⟨e1, e2, e3⟩⟩
      clear hrest hr
      go_wp2
      (try simp only [Exit.inBlock, Exit.then])
      refine hQ_.ret (results_tmp2 rfl _ _ _) rfl ?_
      obtain ⟨rfl, rfl, rfl⟩ := hrest2.out
      exact ⟨rfl, ⟨g', tv', by rw [← hie]; exact hFm, hnew, by rw [← hie]; exact hok⟩, hT⟩
end Go.Proofs.YtcpfooceadgccaaDoor
