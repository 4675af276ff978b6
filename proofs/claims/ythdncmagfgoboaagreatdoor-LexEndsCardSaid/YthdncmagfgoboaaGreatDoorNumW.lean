/- The law's awake of the layer of numbers byte by byte. -/
import Derived.Test.YthdncmagfgoboaaGreatDoorNumA
namespace Go.Proofs.YthdncmagfgoboaaGreatDoor
open Go.RowKit
set_option maxRecDepth 100000
set_option maxHeartbeats 4000000
set_option linter.unusedVariables false
set_option linter.unusedSimpArgs false

theorem push_err_at (b : Nat) (l : List UInt8) (n : Num.St) (g : Option Nat) (tv : Value) (x : UInt8) (k : Nat) (w : World) (hF : NumF w b l n g tv) (ok : n.OkL l.length) (hl : l.length ≤ 100000) (h : Num.push n x.toNat = .error k) :
    Calls Tryz.prog 53 #[.pointer (some ⟨b, 0, none⟩), .int .u8 x.toNat] w fun e w' => e = .returned (.int .i64 k) ∧ (∃ tv', NumF w' b l n g tv') ∧ Touch [b] w w' :=
  (push_any b l n g tv x w hF ok hl).mono fun e w' hp => by unfold PushPost at hp; rw [h] at hp; exact hp

end Go.Proofs.YthdncmagfgoboaaGreatDoor
