/- The meter's methods once more, by the test's outcome. -/
import Derived.Test.YtgjddlianhejdaaLimAwake
namespace Go.Proofs.Ytgjddlianhejdaa
open Go.RowKit
set_option maxRecDepth 100000
set_option linter.unusedVariables false
set_option linter.unusedSimpArgs false

theorem place_at (v n q : Int) (w : World) (hq : v % n = q) (h0 : 1 ≤ n) (h1 : n ≤ 4611686018427387904) (h2 : -9223372036854775808 ≤ v) (h3 : v ≤ 9223372036854775807) :
    Calls Try.prog 14 #[.int .i64 v, .int .i64 n] w fun e w' => e = .returned (.int .i64 q) ∧ w = w' := by
  subst hq; exact place_any v n w h0 h1 h2 h3

theorem byte_lt {w : World} {b : Nat} {M : Met} (hA : MetAt w b M) (ok : M.Ok) (h : M.uB < M.mB) :
    Calls Try.prog 27 #[.pointer (some ⟨b, 0, none⟩)] w fun e w' => e = .returned (.int .i64 0) ∧ MetAt w' b { M with uB := M.uB + 1 } ∧ Touch [b] w w' ∧ Met.Ok { M with uB := M.uB + 1 } := by
  have e1 : byteR M = 0 := if_neg (by omega)
  have e2 : byteS M = { M with uB := M.uB + 1 } := if_neg (by omega)
  have ok' := byteS_ok ok
  have c := byte_any hA ok
  rw [e1, e2] at c
  rw [e2] at ok'
  exact c.mono fun e w' ⟨h1, h2, h3⟩ => ⟨h1, h2, h3, ok'⟩
theorem byte_ge {w : World} {b : Nat} {M : Met} (hA : MetAt w b M) (ok : M.Ok) (h : M.mB ≤ M.uB) :
    Calls Try.prog 27 #[.pointer (some ⟨b, 0, none⟩)] w fun e w' => e = .returned (.int .i64 10) ∧ MetAt w' b M ∧ Touch [b] w w' := by
  have e1 : byteR M = 10 := if_pos (by omega)
  have e2 : byteS M = M := if_pos (by omega)
  have c := byte_any hA ok
  rw [e1, e2] at c
  exact c
theorem node_lt {w : World} {b : Nat} {M : Met} (hA : MetAt w b M) (ok : M.Ok) (h : M.uN < M.mN) :
    Calls Try.prog 29 #[.pointer (some ⟨b, 0, none⟩)] w fun e w' => e = .returned (.int .i64 0) ∧ MetAt w' b { M with uN := M.uN + 1 } ∧ Touch [b] w w' ∧ Met.Ok { M with uN := M.uN + 1 } := by
  have e1 : nodeR M = 0 := if_neg (by omega)
  have e2 : nodeS M = { M with uN := M.uN + 1 } := if_neg (by omega)
  have ok' := nodeS_ok ok
  have c := node_any hA ok
  rw [e1, e2] at c
  rw [e2] at ok'
  exact c.mono fun e w' ⟨h1, h2, h3⟩ => ⟨h1, h2, h3, ok'⟩
theorem node_ge {w : World} {b : Nat} {M : Met} (hA : MetAt w b M) (ok : M.Ok) (h : M.mN ≤ M.uN) :
    Calls Try.prog 29 #[.pointer (some ⟨b, 0, none⟩)] w fun e w' => e = .returned (.int .i64 12) ∧ MetAt w' b M ∧ Touch [b] w w' := by
  have e1 : nodeR M = 12 := if_pos (by omega)
  have e2 : nodeS M = M := if_pos (by omega)
  have c := node_any hA ok
  rw [e1, e2] at c
  exact c
theorem open_lt {w : World} {b : Nat} {M : Met} (hA : MetAt w b M) (ok : M.Ok) (h : M.op < M.mD) (h' : M.uD < M.op + 1) :
    Calls Try.prog 31 #[.pointer (some ⟨b, 0, none⟩)] w fun e w' => e = .returned (.int .i64 0) ∧ MetAt w' b { M with op := M.op + 1, uD := M.op + 1 } ∧ Touch [b] w w' ∧ Met.Ok { M with op := M.op + 1, uD := M.op + 1 } := by
  have e1 : openR M = 0 := if_neg (by omega)
  have e2 : openS M = { M with op := M.op + 1, uD := M.op + 1 } := by unfold openS; rw [if_neg (by omega), show max M.uD (M.op + 1) = M.op + 1 by omega]
  have ok' := openS_ok ok
  have c := open_any hA ok
  rw [e1, e2] at c
  rw [e2] at ok'
  exact c.mono fun e w' ⟨h1, h2, h3⟩ => ⟨h1, h2, h3, ok'⟩
theorem open_ge {w : World} {b : Nat} {M : Met} (hA : MetAt w b M) (ok : M.Ok) (h : M.mD ≤ M.op) :
    Calls Try.prog 31 #[.pointer (some ⟨b, 0, none⟩)] w fun e w' => e = .returned (.int .i64 11) ∧ MetAt w' b M ∧ Touch [b] w w' := by
  have e1 : openR M = 11 := if_pos (by omega)
  have e2 : openS M = M := if_pos (by omega)
  have c := open_any hA ok
  rw [e1, e2] at c
  exact c
theorem name_lt {w : World} {b : Nat} {M : Met} (hA : MetAt w b M) (ok : M.Ok) (n : Int) (h : n ≤ M.mK) (h' : M.uK ≤ n) :
    Calls Try.prog 35 #[.pointer (some ⟨b, 0, none⟩), .int .i64 n] w fun e w' => e = .returned (.int .i64 0) ∧ MetAt w' b { M with uK := n } ∧ Touch [b] w w' ∧ Met.Ok { M with uK := n } := by
  have e1 : nameR M n = 0 := if_neg (by omega)
  have e2 : nameS M n = { M with uK := n } := by unfold nameS; rw [if_neg (by omega), show max M.uK n = n by omega]
  have ok' := nameS_ok (n := n) ok
  have c := name_any hA ok n
  rw [e1, e2] at c
  rw [e2] at ok'
  exact c.mono fun e w' ⟨h1, h2, h3⟩ => ⟨h1, h2, h3, ok'⟩
theorem name_ge {w : World} {b : Nat} {M : Met} (hA : MetAt w b M) (ok : M.Ok) (n : Int) (h : M.mK < n) :
    Calls Try.prog 35 #[.pointer (some ⟨b, 0, none⟩), .int .i64 n] w fun e w' => e = .returned (.int .i64 13) ∧ MetAt w' b M ∧ Touch [b] w w' := by
  have e1 : nameR M n = 13 := if_pos (by omega)
  have e2 : nameS M n = M := if_pos (by omega)
  have c := name_any hA ok n
  rw [e1, e2] at c
  exact c
theorem text_lt {w : World} {b : Nat} {M : Met} (hA : MetAt w b M) (ok : M.Ok) (n : Int) (h : n ≤ M.mT) (h' : M.uT ≤ n) :
    Calls Try.prog 37 #[.pointer (some ⟨b, 0, none⟩), .int .i64 n] w fun e w' => e = .returned (.int .i64 0) ∧ MetAt w' b { M with uT := n } ∧ Touch [b] w w' ∧ Met.Ok { M with uT := n } := by
  have e1 : textR M n = 0 := if_neg (by omega)
  have e2 : textS M n = { M with uT := n } := by unfold textS; rw [if_neg (by omega), show max M.uT n = n by omega]
  have ok' := textS_ok (n := n) ok
  have c := text_any hA ok n
  rw [e1, e2] at c
  rw [e2] at ok'
  exact c.mono fun e w' ⟨h1, h2, h3⟩ => ⟨h1, h2, h3, ok'⟩
theorem text_ge {w : World} {b : Nat} {M : Met} (hA : MetAt w b M) (ok : M.Ok) (n : Int) (h : M.mT < n) :
    Calls Try.prog 37 #[.pointer (some ⟨b, 0, none⟩), .int .i64 n] w fun e w' => e = .returned (.int .i64 14) ∧ MetAt w' b M ∧ Touch [b] w w' := by
  have e1 : textR M n = 14 := if_pos (by omega)
  have e2 : textS M n = M := if_pos (by omega)
  have c := text_any hA ok n
  rw [e1, e2] at c
  exact c
end Go.Proofs.Ytgjddlianhejdaa
