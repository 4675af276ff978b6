/- Small words for the walks over texts of digits. -/
import Derived.Test.YtcpfooceadgccaaDoorDigRA
import Derived.Test.YtcpfooceadgccaaDoorDigLR
namespace Go.Proofs.YtcpfooceadgccaaDoor
open Go.RowKit
theorem alloc_new1 (w : World) (o o' : Obj) : ((w.alloc o).alloc o').heap[w.heap.size + 1]? = some o' := by
  have := alloc_new (w.alloc o) o'
  simpa using this
/-- what lies in memory: the result's block, the number's. -/
def RSt (w wx : World) (sg : Bool) (D : List UInt8) (E : Int) : Prop := wx.heap[w.heap.size]? = some (.cells #[.bool false, .string ⟨#[]⟩, .int .i64 0] 23) ∧ wx.heap[w.heap.size + 1]? = some (.cells #[.bool sg, .string (str D), .int .i64 E] 23) ∧ w.heap.size + 2 ≤ wx.heap.size ∧ Touch [] w wx

theorem beq_byte (c : UInt8) (k : Nat) (hk : k < 256) : ((c.toNat : Int) == (k : Int)) = decide (c = UInt8.ofNat k) := by
  rw [Bool.eq_iff_iff, beq_iff_eq, decide_eq_true_eq]
  constructor
  · intro e
    apply UInt8.toNat_inj.1
    rw [UInt8.toNat_ofNat']
    omega
  · intro e
    rw [e, UInt8.toNat_ofNat']
    omega
theorem byte_34 (c : UInt8) : ((c.toNat : Int) == 34) = decide (c = 34) := beq_byte c 34 (by decide)
theorem byte_43 (c : UInt8) : ((c.toNat : Int) == 43) = decide (c = 43) := beq_byte c 43 (by decide)
theorem byte_44 (c : UInt8) : ((c.toNat : Int) == 44) = decide (c = 44) := beq_byte c 44 (by decide)
theorem byte_45 (c : UInt8) : ((c.toNat : Int) == 45) = decide (c = 45) := beq_byte c 45 (by decide)
theorem byte_46 (c : UInt8) : ((c.toNat : Int) == 46) = decide (c = 46) := beq_byte c 46 (by decide)
theorem byte_48 (c : UInt8) : ((c.toNat : Int) == 48) = decide (c = 48) := beq_byte c 48 (by decide)
theorem byte_69 (c : UInt8) : ((c.toNat : Int) == 69) = decide (c = 69) := beq_byte c 69 (by decide)
theorem byte_101 (c : UInt8) : ((c.toNat : Int) == 101) = decide (c = 101) := beq_byte c 101 (by decide)
end Go.Proofs.YtcpfooceadgccaaDoor
