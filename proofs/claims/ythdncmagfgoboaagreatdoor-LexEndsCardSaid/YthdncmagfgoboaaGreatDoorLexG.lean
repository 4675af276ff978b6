/- Digits of a number, pushed; the law's digits. -/
import Derived.Test.YthdncmagfgoboaaGreatDoorLexF
import Derived.Test.YthdncmagfgoboaaGreatDoorNumG
import Derived.Test.YthdncmagfgoboaaGreatDoorPlace
namespace Go.Proofs.YthdncmagfgoboaaGreatDoor
open Go.RowKit
set_option maxRecDepth 100000
set_option maxHeartbeats 8000000
set_option linter.unusedVariables false
set_option linter.unusedSimpArgs false

namespace Num
open Go.Proofs.YthdncmagfgoboaaGreatDoor.Dig (Bs digs)
theorem print_nat (V : Nat) : Dig.print (V : Int) = digs V := by
  unfold Dig.print
  rw [if_neg (by omega)]
  simp
theorem digs_rend (k : Nat) (hk : k ≤ 9007199254740991) : rend (digs k) = ((k : Int), 0) := by
  unfold rend
  rw [← print_nat, Dig.read_print]
  dsimp only
  have h0 : ((k : Int)).natAbs = k := by simp
  rw [h0, Dig.int_print, if_neg (by omega)]
  rw [if_neg (by simp)]
theorem digs_good (k : Nat) (hk : k ≤ 9007199254740991) : Good (digs k) := by
  have := digs_rend k hk
  unfold rend at this
  unfold Good
  cases h : Dig.read (digs k) with
  | none => rw [h] at this; cases this
  | some d =>
    rw [h] at this
    dsimp only at this
    exact ⟨d, rfl, by rw [this]⟩
/-- the digits so far -/
structure DigSt (k j : Nat) (n : St) : Prop where
  w : ∃ t : T, t.V ∧ Tells n t ∧ t.text = (digs k).take j
  ok : n.OkL j
theorem dig_start (k : Nat) : DigSt k 0 St.start := ⟨⟨T.start, start_V, start_tells, by simp [start_text]⟩, start_ok⟩
theorem dig_step (k j : Nat) (n : St) (hk : k ≤ 9007199254740991) (h : DigSt k j n) (c : UInt8) (hc : (digs k)[j]? = some c) : ∃ n', push n c.toNat = .ok n' ∧ DigSt k (j + 1) n' := by
  obtain ⟨⟨t, v, te, he⟩, ok⟩ := h
  have hlt := (List.getElem?_eq_some_iff.1 hc).1
  have hlen : (digs k).length ≤ 16 := Dig.digs_length_le 15 _ (by omega)
  have htl : t.text.length = j := by rw [he, List.length_take]; omega
  have hdrop : (digs k).drop j = c :: (digs k).drop (j + 1) := by
    rw [List.drop_eq_getElem_cons hlt]
    congr 1
    rw [List.getElem?_eq_getElem hlt] at hc
    injection hc
  rcases sim n t v te c (by omega) with ⟨e, h1, h2⟩ | ⟨n', t', h1, h2, hv, hx, ht⟩
  · exfalso
    refine hopeless n t v te c ((digs k).drop (j + 1)) ?_ e h1 ?_
    · rw [he, ← hdrop, List.take_append_drop]; omega
    · rw [he, ← hdrop, List.take_append_drop]; exact digs_good k hk
  · refine ⟨n', h1, ⟨t', hv, ht, ?_⟩, ?_⟩
    · rw [hx, he, List.take_add_one, hc]; rfl
    · rcases push_ways n c.toNat j c.toNat_lt ok with ⟨n2, q1, q2⟩ | ⟨e, q1, _⟩
      · rw [h1] at q1; injection q1 with q1; rw [q1]; exact q2
      · rw [h1] at q1; cases q1
theorem dig_end (k : Nat) (n : St) (hk : k ≤ 9007199254740991) (h : DigSt k (digs k).length n) : pend n (digs k) = ((k : Int), 0) := by
  obtain ⟨⟨t, v, te, he⟩, ok⟩ := h
  rw [List.take_length] at he
  have := pend_eq n t v te
  rw [he] at this
  rw [this, digs_rend k hk]
end Num

theorem own_iff (c : UInt8) : ownB c = true ↔ ((48 ≤ c.toNat ∧ c.toNat ≤ 57) ∨ c.toNat = 46 ∨ c.toNat = 101 ∨ c.toNat = 69 ∨ c.toNat = 45 ∨ c.toNat = 43) := by
  have key : ∀ n : Fin 256, ownB (UInt8.ofNat n.val) = true ↔ ((48 ≤ n.val ∧ n.val ≤ 57) ∨ n.val = 46 ∨ n.val = 101 ∨ n.val = 69 ∨ n.val = 45 ∨ n.val = 43) := by decide
  have := key ⟨c.toNat, c.toNat_lt⟩
  simpa using this
theorem kinds_not (c : UInt8) (h : ownB c = false) : (firstF c.toNat = 0 ∧ blankF c.toNat = false) ∨ (∃ k : Nat, firstF c.toNat = k ∧ 6 ≤ k ∧ k ≤ 11) ∨
    ((firstF c.toNat = 0 ∧ blankF c.toNat = true) ∨ (∃ k : Nat, firstF c.toNat = k ∧ (k = 1 ∨ k = 2 ∨ k = 3)) ∨ firstF c.toNat = 5) := by
  have key : ∀ n : Fin 256, ownB (UInt8.ofNat n.val) = false → (firstF n.val = 0 ∧ blankF n.val = false) ∨ (6 ≤ firstF n.val ∧ firstF n.val ≤ 11) ∨ (firstF n.val = 0 ∧ blankF n.val = true) ∨ (1 ≤ firstF n.val ∧ firstF n.val ≤ 3) ∨ firstF n.val = 5 := by decide
  have := key ⟨c.toNat, c.toNat_lt⟩ (by simpa using h)
  simp only at this
  rcases this with q | q | q | q | q
  · exact .inl q
  · exact .inr (.inl ⟨(firstF c.toNat).toNat, by omega, by omega, by omega⟩)
  · exact .inr (.inr (.inl q))
  · exact .inr (.inr (.inr (.inl ⟨(firstF c.toNat).toNat, by omega, by omega⟩)))
  · exact .inr (.inr (.inr (.inr q)))

theorem conv_one' (W : World) (b : Nat) (x : UInt8) (h : W.cell? ⟨b, 0, none⟩ = some (.int .u8 x.toNat)) :
    (convert 22 9 (.slice (some ⟨b, 0, none⟩) 1 1)).run Tryz.prog W = .ok (.string (str [x])) W := by
  have := run_convert_bytes_back (P := Tryz.prog) W 22 9 5 ⟨b, 0, none⟩ 1 [x] Tryz.underlying22 Tryz.underlying5 Tryz.underlying9 (fun k hk => by
    have hk0 : k = 0 := by simpa using hk
    subst hk0
    exact h)
  exact this
theorem conv_new (w : World) (x : UInt8) : (convert 22 9 (.slice (some ⟨w.heap.size, 0, none⟩) 1 1)).run Tryz.prog (w.alloc (.cells #[.int .u8 x.toNat] 5)) = .ok (.string (str [x])) (w.alloc (.cells #[.int .u8 x.toNat] 5)) :=
  conv_one' _ _ _ (by have := cell_at (alloc_new w (.cells #[.int .u8 x.toNat] 5)) 0; exact this)

theorem digits_any (n : Nat) (w : World) (hn : n ≤ 9007199254740991) : Calls Tryz.prog 21 #[.int .i64 n] w fun e w' => e = .returned (.string (str (Dig.digs n))) ∧ Touch [] w w' := by
  have hlen : (Dig.digs n).length ≤ 16 := Dig.digs_length_le 15 _ (by omega)
  let kp_ : Exit → Act → World → Prop := bodyPost Tryz.prog Tryz.f21 (fun _ _ => True)
  refine calls_post Tryz.func21 rfl ?_
  intro Q_ hQ_
  simp only [Tryz.ntmps21, List.size_toArray, List.length_cons, List.length_nil, Nat.reduceAdd, Nat.reduceSub, Array.replicate_succ, Array.replicate_zero, List.push_toArray, List.append_toArray, List.nil_append, List.cons_append]
  go_wp2_with fail
  go_loopw [0, 3] (fun v0 v3 wr => ∃ (m : Nat) (S : List UInt8), v0 = .int .i64 m ∧ v3 = .string (str S) ∧ m ≤ n ∧ S.length ≤ 16 ∧ Box (Dig.digs n = Dig.digs m ++ S) ∧ Touch [] w wr) (fun v0 v3 _ => (intOf v0).toNat)
  case atStart => exact ⟨n, [], rfl, rfl, Nat.le_refl _, by simp, ⟨by simp⟩, Touch.refl _ _⟩
  case round =>
    obtain ⟨m, S, rfl, rfl, hm, hS, hd, hT⟩ := hrel
    by_cases h10 : 10 ≤ m
    · have hst : Dig.digs m = Dig.digs (m / 10) ++ [Dig.fig (m % 10)] := by
        conv => lhs; unfold Dig.digs
        rw [if_neg (by omega)]
      have hfd := Dig.toNat_digit (m % 10) (by omega)
      obtain ⟨x, hx⟩ : ∃ x, Dig.fig (m % 10) = x := ⟨_, rfl⟩
      have hcat : ∀ w, (Op.stringOp .add (str [x]) (str S)).run Tryz.prog w = .ok (.string (str (x :: S))) w := fun w => run_cat [x] S (by simp; omega) w
      have hcv := fun w => conv_new w x
      rw [hx] at hfd
      have hx10 : (48 : Int) + (m : Int) % 10 = (x.toNat : Int) := by omega
      have hd2 : Box (Dig.digs n = Dig.digs (m / 10) ++ (x :: S)) := ⟨by rw [hd.out, hst, hx]; simp⟩
      have hS2 : (x :: S).length ≤ 16 := by
        have := congrArg List.length hd2.out
        rw [List.length_append] at this
        omega
      clear hst hx hd hfd
      go_wp2
      exact ⟨⟨m / 10, x :: S, by rw [Int.natCast_ediv]; rfl, rfl, by omega, hS2, hd2, hT.alloc _⟩, by simp [intOf]; omega⟩
    · have hst : Dig.digs m = [Dig.fig m] := by
        unfold Dig.digs
        rw [if_pos (by omega)]
      have hfd := Dig.toNat_digit (m) (by omega)
      obtain ⟨x, hx⟩ : ∃ x, Dig.fig (m) = x := ⟨_, rfl⟩
      have hcat : ∀ w, (Op.stringOp .add (str [x]) (str S)).run Tryz.prog w = .ok (.string (str (x :: S))) w := fun w => run_cat [x] S (by simp; omega) w
      have hcv := fun w => conv_new w x
      rw [hx] at hfd
      have hx10 : (48 : Int) + (m : Int) = (x.toNat : Int) := by omega
      have hd2 : Box (Dig.digs n = x :: S) := ⟨by rw [hd.out, hst, hx]; rfl⟩
      clear hst hx hd hfd
      go_wp2
      (try simp only [Exit.inBlock, Exit.then])
      refine hQ_.ret (results_tmp rfl _ _ _) rfl ?_
      exact ⟨by rw [hd2.out]; rfl, hT.alloc _⟩
end Go.Proofs.YthdncmagfgoboaaGreatDoor
