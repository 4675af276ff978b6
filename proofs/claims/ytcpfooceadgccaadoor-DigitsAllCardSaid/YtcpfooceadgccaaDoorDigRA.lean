/- The reference's layer of digits: runs, size, whole, order. -/
import Derived.Test.YtcpfooceadgccaaDoorDigR
namespace Go.Proofs.YtcpfooceadgccaaDoor
open Go.RowKit
set_option maxRecDepth 100000
set_option maxHeartbeats 4000000
set_option linter.unusedVariables false
set_option linter.unusedSimpArgs false

theorem rrun_any (l : List UInt8) (i : Nat) (w : World) (hi : i ≤ l.length) (hl : l.length ≤ 1000000000000) :
    Calls Tryd.prog 45 #[.string (str l), .int .i64 i] w fun e w' => e = .returned (.int .i64 (Dig.run (l.drop i))) ∧ Touch [] w w' := by
  have sz := str_size l
  go_enter Tryd.func45, Tryd.ntmps45
  go_wp2
  obtain ⟨r, hr0⟩ : ∃ r, r = Dig.run (l.drop i) := ⟨_, rfl⟩
  have hri : i + r ≤ l.length := by have := Dig.run_le (l.drop i); rw [List.length_drop] at this; omega
  have hr : Box (r = Dig.run (l.drop i)) := ⟨hr0⟩
  clear hr0
  go_loopg [5] r (fun k v wr => ∃ n : Nat, n + k = r ∧ v = .int .i64 n ∧ Touch [] w wr)
  case atStart => exact ⟨0, by omega, rfl, Touch.refl _ _⟩
  case round =>
    obtain ⟨n, hk, rfl, hT⟩ := hrel
    have hkb : Box (n + gk = r) := ⟨hk⟩
    have hb : i + n ≤ l.length := by omega
    clear hk
    have hix : ∀ b, (l.drop i)[n]? = some b → (i + n < l.length ∧ ∀ w, (Instr.index 9 (.string (str l)) (.int .i64 ((i : Int) + n))).run Tryd.prog w = .ok (.int .u8 b.toNat) w) := fun b h1 => by
      rw [List.getElem?_drop] at h1
      refine ⟨(List.getElem?_eq_some_iff.1 h1).1, fun w => ?_⟩
      have := run_ix Tryd.underlying9 l .i64 _ b h1 w
      rw [show ((i + n : Nat) : Int) = (i : Int) + n by omega] at this
      exact this
    rcases Nat.eq_zero_or_pos gk with h0 | h0
    · subst h0
      have hn : Box (n = r) := ⟨hkb.out⟩
      have he : (l.drop i)[n]? = none ∨ ∃ b, (l.drop i)[n]? = some b ∧ (¬ 48 ≤ b.toNat ∨ (48 ≤ b.toNat ∧ ¬ b.toNat ≤ 57)) := by
        have := Dig.run_end (l.drop i)
        rw [← hr.out, ← hn.out] at this
        exact this
      clear hkb
      rcases he with h1 | ⟨b, h1, h2⟩
      · have t0 : ¬ i + n < l.length := by
          rw [List.getElem?_eq_none_iff, List.length_drop] at h1
          omega
        clear h1 hix
        go_wp2
        go_ret
        exact ⟨by rw [← hr.out, ← hn.out]; rfl, hT⟩
      · obtain ⟨t0, i0⟩ := hix b h1
        clear h1 hix
        rcases h2 with h2 | ⟨h2, h3⟩
        · go_wp2
          go_ret
          exact ⟨by rw [← hr.out, ← hn.out]; rfl, hT⟩
        · go_wp2
          go_ret
          exact ⟨by rw [← hr.out, ← hn.out]; rfl, hT⟩
    · obtain ⟨b, h1, h2, h3⟩ := Dig.run_lt (l.drop i) n (by have := hkb.out; have := hr.out; omega)
      obtain ⟨t0, i0⟩ := hix b h1
      clear h1 hix
      go_wp2
      go_roundg (gk - 1)
      case measure => omega
      case rel => exact ⟨n + 1, by have := hkb.out; omega, by simp, hT⟩

theorem rwhole_any (x : Dig.Dec) (w : World) (hl : x.d.length ≤ 1000000000000) (he : x.e ≤ 1000000000000) (he' : -1000000000000 ≤ x.e) :
    Calls Tryd.prog 29 #[dec x] w fun e w' => e = .returned (.bool (Dig.whole x)) ∧ Touch [] w w' := by
  go_enter Tryd.func29, Tryd.ntmps29
  go_wp2_with fail
  refine (rnorm_any x _ hl he he').mono ?_
  rintro e w1 ⟨rfl, ht1⟩
  try go_simp
  have hf := run_field2
  simp only [dec]
  go_wp2
  go_ret
  exact ⟨rfl, ((Touch.refl _ _).alloc _).trans ht1⟩

theorem rsize_any (a b : Dig.Dec) (w : World) (hl : a.d.length ≤ 1000000000000) (he : a.e ≤ 2000000000000) (he' : -2000000000000 ≤ a.e) (hlb : b.d.length ≤ 1000000000000) (heb : b.e ≤ 2000000000000) (heb' : -2000000000000 ≤ b.e) :
    Calls Tryd.prog 49 #[dec a, dec b] w fun e w' => e = .returned (.int .i64 (Dig.size a b)) ∧ Touch [] w w' := by
  have sza := str_size a.d
  have szb := str_size b.d
  have ta := str_toList a.d
  have tb := str_toList b.d
  have hT : Touch [] w ((w.alloc (Obj.cells #[.bool a.neg, .string (str a.d), .int .i64 a.e] 23)).alloc (Obj.cells #[.bool b.neg, .string (str b.d), .int .i64 b.e] 23)) := ((Touch.refl _ _).alloc _).alloc _
  by_cases h1 : (a.d.length : Int) + a.e < b.d.length + b.e
  · have e1 : Dig.size a b = -1 := by unfold Dig.size; rw [if_pos h1]
    rw [e1]
    clear e1
    go_enter Tryd.func49, Tryd.ntmps49
    go_wp2
    go_quiet (fail)
    go_wp2
    go_ret
    exact ⟨rfl, hT.drewN _⟩
  by_cases h2 : (b.d.length : Int) + b.e < a.d.length + a.e
  · have e1 : Dig.size a b = 1 := by unfold Dig.size; rw [if_neg h1, if_pos h2]
    rw [e1]
    clear e1
    go_enter Tryd.func49, Tryd.ntmps49
    go_wp2
    go_quiet (fail)
    go_wp2
    go_ret
    exact ⟨rfl, hT.drewN _⟩
  have e0 : Dig.size a b = Lib.compareBytes a.d b.d := by unfold Dig.size; rw [if_neg h1, if_neg h2]
  rw [e0]
  clear e0
  cases h3 : Op.bytesLess a.d b.d with
  | true =>
    rw [Dig.cmp_less _ _ h3]
    go_enter Tryd.func49, Tryd.ntmps49
    go_wp2
    go_quiet (fail)
    go_wp2
    go_ret
    exact ⟨rfl, hT.drewN _⟩
  | false =>
    cases h4 : (a.d == b.d) with
    | true =>
      rw [beq_iff_eq.1 h4, Dig.cmp_same]
      go_enter Tryd.func49, Tryd.ntmps49
      go_wp2
      go_quiet (fail)
      go_wp2
      go_ret
      exact ⟨rfl, hT.drewN _⟩
    | false =>
      rw [Dig.cmp_more _ _ h3 (by simpa using h4)]
      go_enter Tryd.func49, Tryd.ntmps49
      go_wp2
      go_quiet (fail)
      go_wp2
      go_ret
      exact ⟨rfl, hT.drewN _⟩
end Go.Proofs.YtcpfooceadgccaaDoor
