/- Strings as lists of bytes in the walks. -/
import Derived.Test.YtcpfooceadgccaaDoorSl
import Derived.Handy
import Derived.Lib.Strings
import Derived.Laws.DeepStrings4
import Derived.Laws.Concat
import Derived.Laws.IdiomStrings
namespace Go.Proofs.YtcpfooceadgccaaDoor
open Go.RowKit
set_option linter.unusedVariables false
set_option linter.unusedSimpArgs false

/-- a string of these bytes -/
def str (l : List UInt8) : ByteArray := ⟨l.toArray⟩

theorem str_of (s : ByteArray) : s = str s.data.toList := (Lib.mk_data s).symm
theorem str_size (l : List UInt8) : (str l).size = l.length := rfl
theorem str_data (l : List UInt8) : (str l).data.toList = l := rfl
theorem str_toList (l : List UInt8) : (str l).toList = l := ByteArray.toList_mk l
theorem str_append (a b : List UInt8) : str a ++ str b = str (a ++ b) := ByteArray.mk_append_mk a b
theorem str_extract (l : List UInt8) (a b : Nat) : (str l).extract a b = str ((l.drop a).take (b - a)) := Lib.extract_eq _ _ _
theorem str_inj {a b : List UInt8} (h : str a = str b) : a = b := by
  have := congrArg (fun s => s.data.toList) h
  exact this
theorem str_get (l : List UInt8) (i : Nat) (hi : i < (str l).size) : (str l)[i] = l[i]'hi := by
  rfl

section
variable {P : Program} {T : TypeId} (hT : P.underlying T = some .string)
include hT

/-- s[i] -/
theorem run_ix (l : List UInt8) (k : IntKind) (i : Nat) (b : UInt8) (h : l[i]? = some b) (w : World) :
    (Instr.index T (.string (str l)) (.int k i)).run P w = .ok (.int .u8 b.toNat) w := by
  obtain ⟨hi, hb⟩ := List.getElem?_eq_some_iff.1 h
  rw [run_index_string w T _ k i hT, dif_pos ⟨by omega, by rw [str_size]; omega⟩]
  have : (str l)[(i : Int).toNat]'(by rw [str_size]; omega) = b := by rw [str_get]; simpa using hb
  rw [this]

/-- s[i:] -/
theorem run_from (l : List UInt8) (k : IntKind) (i : Nat) (h : i ≤ l.length) (w : World) :
    (Instr.slice T (.string (str l)) (some (.int k i)) none none).run P w = .ok (.string (str (l.drop i))) w := by
  rw [run_slice_string_from_if w T _ k i hT, if_pos ⟨by omega, by rw [str_size]; omega⟩, str_extract]
  have : (l.drop (i : Int).toNat).take ((str l).size - (i : Int).toNat) = l.drop i := by
    rw [str_size]
    exact List.take_of_length_le (by simp)
  rw [this]

/-- s[:j] -/
theorem run_to (l : List UInt8) (k : IntKind) (j : Nat) (h : j ≤ l.length) (w : World) :
    (Instr.slice T (.string (str l)) none (some (.int k j)) none).run P w = .ok (.string (str (l.take j))) w := by
  rw [run_slice_string_to_if w T _ k j hT, if_pos ⟨by omega, by rw [str_size]; omega⟩, str_extract]
  rfl

/-- s[i:j] -/
theorem run_mid (l : List UInt8) (k k' : IntKind) (i j : Nat) (h : i ≤ j) (h' : j ≤ l.length) (w : World) :
    (Instr.slice T (.string (str l)) (some (.int k i)) (some (.int k' j)) none).run P w = .ok (.string (str ((l.drop i).take (j - i)))) w := by
  rw [run_slice_string_if w T _ k k' i j hT, if_pos ⟨by omega, by rw [str_size]; omega⟩, if_pos ⟨by omega, by omega⟩, str_extract]
  rfl
end

theorem run_cat {P : Program} (a b : List UInt8) (h : a.length + b.length ≤ 9223372036854775807) (w : World) : (Op.stringOp .add (str a) (str b)).run P w = .ok (.string (str (a ++ b))) w := by
  rw [run_string_add_sum w _ _ (by rw [str_size, str_size]; omega), str_append]

end Go.Proofs.YtcpfooceadgccaaDoor
