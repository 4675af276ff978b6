/- The program's layer of numbers byte by byte: a new one, its text, its end, a copy. -/
import Derived.Test.YthdncmagfgoboaaGreatDoorNumT
import Derived.Test.YthdncmagfgoboaaGreatDoorNumV
import Derived.Test.YthdncmagfgoboaaGreatDoorBB
namespace Go.Proofs.YthdncmagfgoboaaGreatDoor
open Go.RowKit
set_option maxRecDepth 100000
set_option maxHeartbeats 4000000
set_option linter.unusedVariables false
set_option linter.unusedSimpArgs false

theorem numnew_any (w : World) : Calls Tryz.prog 84 #[] w fun e w' => (∃ p, e = .returned (.pointer (some ⟨p, 0, none⟩)) ∧ w.heap.size ≤ p ∧ NumF w' p [] Num.St.start none (.slice none 0 0)) ∧ Touch [] w w' := by
  let kp_ : Exit → Act → World → Prop := bodyPost Tryz.prog Tryz.f84 (fun _ _ => True)
  refine calls_post Tryz.func84 rfl ?_
  intro Q_ hQ_
  simp only [Tryz.ntmps84, List.size_toArray, List.length_cons, List.length_nil, Nat.reduceAdd, Nat.reduceSub, Array.replicate_succ, Array.replicate_zero, List.push_toArray, List.append_toArray, List.nil_append, List.cons_append]
  go_wp2
  (try simp only [Exit.inBlock, Exit.then])
  refine hQ_.ret (results_tmp rfl _ _ _) rfl ?_
  exact ⟨⟨_, rfl, Nat.le_refl _, ⟨alloc_new _ _, SlAt.nil _ _ _, by simp⟩⟩, (Touch.refl _ _).alloc _⟩

/-- the text's bytes, as a string -/
theorem conv_text {w : World} {l : List UInt8} {g : Option Nat} {A : Option Addr} {C : Nat} (h : SlAt w 5 1 (.slice A l.length C) l.length (bytesV l) g) :
    (convert 22 9 (.slice A l.length C)).run Tryz.prog w = .ok (.string (str l)) w := by
  rcases h.shape with ⟨e, h0, h1, h2⟩ | ⟨k, cap, cur, e, hg, hk, _⟩
  · injection e with e1 e2 e3
    have hl : l = [] := List.eq_nil_of_length_eq_zero h0
    subst e1; subst hl
    exact run_convert_bytes_nil w 22 5 Tryz.underlying22 Tryz.underlying5 0 C 9 Tryz.underlying9
  · injection e with e1 e2 e3
    subst e1
    have := run_convert_bytes_back (P := Tryz.prog) w 22 9 5 ⟨k, 0, none⟩ C l Tryz.underlying22 Tryz.underlying5 Tryz.underlying9 (fun j hj => by
      have hc := h.cell hg (j := j) (u := .int .u8 (l[j]).toNat) (by unfold bytesV; simp [hj])
      have e : (⟨k, 0, none⟩ : Addr).add j = ⟨k, j, none⟩ := by unfold Addr.add; split <;> simp_all
      rw [e]
      exact hc)
    exact this

theorem numend_any (b : Nat) (l : List UInt8) (n : Num.St) (g : Option Nat) (tv : Value) (w : World) (hF : NumF w b l n g tv) (hl : l.length ≤ 100000) (ok : n.at_ ≤ 8) :
    Calls Tryz.prog 34 #[.pointer (some ⟨b, 0, none⟩)] w fun e w' => e = .returned (.tuple #[.int .i64 (Num.pend n l).1, .int .i64 (Num.pend n l).2]) ∧ Touch [] w w' := by
  obtain ⟨hN, hs, hg⟩ := hF
  obtain ⟨A, C, rfl, hC1, hC2, _⟩ := hs.form
  have hcv := conv_text hs
  unfold NumAt at hN
  have c0 := cell_at hN 0
  have c1 := cell_at hN 1
  have c2 := cell_at hN 2
  have c3 := cell_at hN 3
  have c4 := cell_at hN 4
  have c5 := cell_at hN 5
  have c6 := cell_at hN 6
  have f0 := free_at hN 0
  have f1 := free_at hN 1
  have f2 := free_at hN 2
  have f3 := free_at hN 3
  have f4 := free_at hN 4
  have f5 := free_at hN 5
  have f6 := free_at hN 6
  have lb := block_lt hN
  simp [NumC] at c0 c1 c2 c3 c4 c5 c6
  by_cases hat : n.at_ = 2 ∨ n.at_ = 3 ∨ n.at_ = 5 ∨ n.at_ = 8
  · have he : Box (Num.pend n l = Dig.int ((Dig.read l).getD Dig.zero)) := ⟨by unfold Num.pend; rw [if_pos hat]⟩
    have hrd := fun w => pread_any l w (by omega)
    have hwb := Num.read_bounds l (by omega)
    have hdd : ((Dig.read l).getD Dig.zero).d.all Dig.dig = true := by
      cases h : Dig.read l with
      | none => rfl
      | some d => exact Num.read_digits l d h (by omega)
    generalize (Dig.read l).getD Dig.zero = y at *
    generalize (Dig.read l).isSome = k at *
    obtain ⟨hw1, hw2, hw3⟩ := hwb
    have hin := fun w => pint_any y w hw1 hw2 hw3 hdd
    generalize Dig.int y = I at hin he
    obtain ⟨i1, i2⟩ := I
    obtain ⟨ys, yd, ye⟩ := y
    simp only [dec] at hin hrd
    clear hw1 hw2 hw3 hdd hN hs
    rcases hat with h | h | h | h <;> rw [h] at c1
    all_goals
      let kp_ : Exit → Act → World → Prop := bodyPost Tryz.prog Tryz.f34 (fun _ _ => True)
      refine calls_post Tryz.func34 rfl ?_
      intro Q_ hQ_
      simp only [Tryz.ntmps34, List.size_toArray, List.length_cons, List.length_nil, Nat.reduceAdd, Nat.reduceSub, Array.replicate_succ, Array.replicate_zero, List.push_toArray, List.append_toArray, List.nil_append, List.cons_append]
      go_wp2_with fail
      refine (hrd _).mono ?_
      rintro e w1 ⟨rfl, ht1⟩
      try go_simp
      go_wp2_with fail
      refine (hin _).mono ?_
      rintro e w2 ⟨rfl, ht2⟩
      try go_simp
      go_wp2
      (try simp only [Exit.inBlock, Exit.then])
      refine hQ_.ret (results_tmp2 rfl _ _ _) rfl ?_
      exact ⟨by rw [he.out]; rfl, (ht1.alloc _).trans ht2⟩
  · have he : Box (Num.pend n l = (0, 3)) := ⟨by unfold Num.pend; rw [if_neg hat]⟩
    have e2 : ((n.at_ : Int) == 2) = false := by simp; omega
    have e3 : ((n.at_ : Int) == 3) = false := by simp; omega
    have e5 : ((n.at_ : Int) == 5) = false := by simp; omega
    have e8 : ((n.at_ : Int) == 8) = false := by simp; omega
    clear hN hs hat
    let kp_ : Exit → Act → World → Prop := bodyPost Tryz.prog Tryz.f34 (fun _ _ => True)
    refine calls_post Tryz.func34 rfl ?_
    intro Q_ hQ_
    simp only [Tryz.ntmps34, List.size_toArray, List.length_cons, List.length_nil, Nat.reduceAdd, Nat.reduceSub, Array.replicate_succ, Array.replicate_zero, List.push_toArray, List.append_toArray, List.nil_append, List.cons_append]
    go_wp2
    (try simp only [Exit.inBlock, Exit.then])
    refine hQ_.ret (results_tmp2 rfl _ _ _) rfl ?_
    exact ⟨by rw [he.out]; rfl, Touch.refl _ _⟩
end Go.Proofs.YthdncmagfgoboaaGreatDoor
