/- Printed by program out of the translation. Not trusted: Lean checks it. -/
import Derived.Test.YtcpfooceadgccaaDoorXDR0
namespace Go.Proofs.YtcpfooceadgccaaDoor.XDR
open Go.RowKit Go.Proofs.YtcpfooceadgccaaDoorW.PrintWords Go.Proofs.YtcpfooceadgccaaDoorW.PrintLast Go.Proofs.YtcpfooceadgccaaDoorW.PrintMore
attribute [local go_sem] max2_int min2_int max_two min_two max_three min_three max_four min_four   -- for this text's walks alone
set_option linter.unusedVariables false
set_option linter.unusedSimpArgs false

/-! ### orthoepyref10_Norm: function 25 -/
def orthoepyref10_Norm.f (a0_0 : Bool) (a0_1 : ByteArray) (a0_2 : Int) : Option (Bool × ByteArray × Int) := if In a0_1 a0_2 then some ((Dig.norm (DD a0_0 a0_1 a0_2)).neg, str (Dig.norm (DD a0_0 a0_1 a0_2)).d, (Dig.norm (DD a0_0 a0_1 a0_2)).e) else none
theorem orthoepyref10_Norm.calls (a0_0 : Bool) (a0_1 : ByteArray) (a0_2 : Int) (r1 : Bool) (r2 : ByteArray) (r3 : Int) (w : World) (h : orthoepyref10_Norm.f a0_0 a0_1 a0_2 = some (r1, r2, r3)) :
    Calls Tryd.prog 25 #[.agg #[.bool a0_0, .string a0_1, .int .i64 a0_2]] w fun e w' => e = .returned (.agg #[.bool r1, .string r2, .int .i64 r3]) ∧ Below w.heap.size w w' := by
  unfold orthoepyref10_Norm.f at h
  split at h
  · rename_i hi
    cases h
    rw [← dec_DD]
    exact (rnorm_any (DD a0_0 a0_1 a0_2) w (by rw [DD_len]; exact hi.1) hi.2.1 hi.2.2).mono fun _ _ h => ⟨h.1, h.2.below⟩
  · cases h

/-! ### orthoepyref10_size: function 49 -/
def orthoepyref10_size.f (a0_0 : Bool) (a0_1 : ByteArray) (a0_2 : Int) (a1_0 : Bool) (a1_1 : ByteArray) (a1_2 : Int) : Option Int := if (a0_1.size ≤ 1000000000000 ∧ a0_2 ≤ 2000000000000 ∧ -2000000000000 ≤ a0_2) ∧ (a1_1.size ≤ 1000000000000 ∧ a1_2 ≤ 2000000000000 ∧ -2000000000000 ≤ a1_2) then some (Dig.size (DD a0_0 a0_1 a0_2) (DD a1_0 a1_1 a1_2)) else none
theorem orthoepyref10_size.calls (a0_0 : Bool) (a0_1 : ByteArray) (a0_2 : Int) (a1_0 : Bool) (a1_1 : ByteArray) (a1_2 : Int) (r : Int) (w : World) (h : orthoepyref10_size.f a0_0 a0_1 a0_2 a1_0 a1_1 a1_2 = some r) :
    Calls Tryd.prog 49 #[.agg #[.bool a0_0, .string a0_1, .int .i64 a0_2], .agg #[.bool a1_0, .string a1_1, .int .i64 a1_2]] w fun e w' => e = .returned (.int .i64 r) ∧ Below w.heap.size w w' := by
  unfold orthoepyref10_size.f at h
  split at h
  · rename_i hi
    cases h
    rw [← dec_DD, ← dec_DD]
    exact (rsize_any (DD a0_0 a0_1 a0_2) (DD a1_0 a1_1 a1_2) w (by rw [DD_len]; exact hi.1.1) hi.1.2.1 hi.1.2.2 (by rw [DD_len]; exact hi.2.1) hi.2.2.1 hi.2.2.2).mono fun _ _ h => ⟨h.1, h.2.below⟩
  · cases h


end Go.Proofs.YtcpfooceadgccaaDoor.XDR
