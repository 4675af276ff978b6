/- What the laws of digits ask of a number. -/
import Derived.Test.YtcpfooceadgccaaDoorBA
import Derived.Outline
namespace Go.Proofs.YtcpfooceadgccaaDoor
open Go.RowKit
set_option maxRecDepth 100000
set_option maxHeartbeats 8000000
set_option linter.unusedVariables false
set_option linter.unusedSimpArgs false

def fitsB (s : Bool) (d : List UInt8) (e : Int) : Bool := Dig.check ⟨s, d, e⟩ && decide (d.length ≤ 400)

theorem fits_any (s : Bool) (d : List UInt8) (e : Int) (w : World) (hl : d.length ≤ 9223372036854775807) :
    Calls Tryd.prog 21 #[.agg #[.bool s, .string (str d), .int .i64 e]] w fun r w' => r = .returned (.bool (fitsB s d e)) ∧ Touch [] w w' := by
  have hc : ∀ w, Calls Tryd.prog 16 #[.agg #[.bool s, .string (str d), .int .i64 e]] w fun r w' => r = .returned (.bool (Dig.check ⟨s, d, e⟩)) ∧ Touch [] w w' := fun w => rcheck_any ⟨s, d, e⟩ w hl
  have sz := str_size d
  obtain ⟨b, hb⟩ : ∃ b, b = Dig.check ⟨s, d, e⟩ := ⟨_, rfl⟩
  rw [← hb] at hc
  replace hb : Box (b = Dig.check ⟨s, d, e⟩) := ⟨hb⟩
  go_enter Tryd.func21, Tryd.ntmps21
  go_wp2_with fail
  refine (hc _).mono ?_
  rintro r w1 ⟨rfl, ht1⟩
  try go_simp
  have hA := ht1.keep (alloc_new _ _) (by simp)
  have hT := ((Touch.refl [] w).alloc _).trans ht1
  have c1 := cell_at hA 1
  simp at c1
  clear hA ht1 hc
  cases hbb : b with
  | false =>
    have hr : Box (fitsB s d e = false) := ⟨by unfold fitsB; rw [← hb.out, hbb]; rfl⟩
    clear hb
    go_wp2
    go_ret
    exact ⟨by rw [hr.out]; rfl, hT⟩
  | true =>
    have hr : Box (fitsB s d e = decide (d.length ≤ 400)) := ⟨by unfold fitsB; rw [← hb.out, hbb]; rfl⟩
    clear hb
    by_cases h4 : d.length ≤ 400
    · have h5 : decide ((d.length : Int) ≤ 400) = true := by simp; omega
      go_wp2
      go_ret
      exact ⟨by rw [hr.out, decide_eq_true h4]; rfl, hT⟩
    · have h5 : decide ((d.length : Int) ≤ 400) = false := by simp; omega
      go_wp2
      go_ret
      exact ⟨by rw [hr.out, decide_eq_false h4]; rfl, hT⟩

theorem fitsB_out {s : Bool} {d : List UInt8} {e : Int} (h : fitsB s d e = true) : d.length ≤ 400 ∧ d.all Dig.dig = true ∧ -1000000000 ≤ e ∧ e ≤ 1000000000 := by
  unfold fitsB Dig.check at h
  simp only [Bool.and_eq_true, decide_eq_true_eq] at h
  exact ⟨h.2, h.1.1.1, h.1.1.2, h.1.2⟩
end Go.Proofs.YtcpfooceadgccaaDoor
