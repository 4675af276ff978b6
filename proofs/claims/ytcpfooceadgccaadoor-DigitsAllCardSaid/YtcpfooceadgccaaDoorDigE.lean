/- The layer of digits: the contracts over whole texts. -/
import Derived.Test.YtcpfooceadgccaaDoorDigPR
import Derived.Test.YtcpfooceadgccaaDoorDigPI
import Derived.Test.YtcpfooceadgccaaDoorDigPP
import Derived.Test.YtcpfooceadgccaaDoorDigRC
namespace Go.Proofs.YtcpfooceadgccaaDoor
open Go.RowKit

/-- a number out of Go's fields -/
def DD (a : Bool) (b : ByteArray) (c : Int) : Dig.Dec := ⟨a, b.data.toList, c⟩
/-- may it be asked -/
def In (b : ByteArray) (c : Int) : Prop := b.size ≤ 1000000000000 ∧ c ≤ 1000000000000 ∧ -1000000000000 ≤ c
instance (b : ByteArray) (c : Int) : Decidable (In b c) := inferInstanceAs (Decidable (_ ∧ _))

theorem dec_DD (a : Bool) (b : ByteArray) (c : Int) : dec (DD a b c) = .agg #[.bool a, .string b, .int .i64 c] := by
  show Value.agg #[.bool a, .string (str b.data.toList), .int .i64 c] = _
  rw [← str_of]
theorem DD_len (a : Bool) (b : ByteArray) (c : Int) : (DD a b c).d.length = b.size := by
  show b.data.toList.length = b.size
  rw [← Lib.size_eq]
end Go.Proofs.YtcpfooceadgccaaDoor
