/- The limit layer's functions: what each returns and what becomes of the meter. -/
import Derived.Test.YtgjddlianhejdaaBase
import Derived.Handy
namespace Go.Proofs.Ytgjddlianhejdaa
open Go.RowKit
set_option maxRecDepth 100000
set_option linter.unusedVariables false
set_option linter.unusedSimpArgs false

def LimOk (a b c d f : Int) : Prop := 1 ≤ a ∧ a ≤ 1048576 ∧ 1 ≤ b ∧ b ≤ 1048576 ∧ 1 ≤ c ∧ c ≤ 1048576 ∧ 1 ≤ d ∧ d ≤ 1048576 ∧ 1 ≤ f ∧ f ≤ 1048576
instance (a b c d f : Int) : Decidable (LimOk a b c d f) := by unfold LimOk; infer_instance
abbrev lim (a b c d f : Int) : Value := .agg #[.int .i64 a, .int .i64 b, .int .i64 c, .int .i64 d, .int .i64 f]

structure Met where
  (uB uD uN uK uT mB mD mN mK mT op : Int)
def Met.obj (M : Met) : Obj := .cells #[.int .i64 M.uB, .int .i64 M.uD, .int .i64 M.uN, .int .i64 M.uK, .int .i64 M.uT, .int .i64 M.mB, .int .i64 M.mD, .int .i64 M.mN, .int .i64 M.mK, .int .i64 M.mT, .int .i64 M.op] 72
def Met.robj (M : Met) : Obj := .cells #[.int .i64 M.mB, .int .i64 M.mD, .int .i64 M.mN, .int .i64 M.mK, .int .i64 M.mT, .int .i64 M.uB, .int .i64 M.uD, .int .i64 M.uN, .int .i64 M.uK, .int .i64 M.uT, .int .i64 M.op] 56
def MetAt (w : World) (b : Nat) (M : Met) : Prop := w.heap[b]? = some M.obj
def RetAt (w : World) (b : Nat) (M : Met) : Prop := w.heap[b]? = some M.robj
structure Met.Ok (M : Met) : Prop where
  limok : LimOk M.mB M.mD M.mN M.mK M.mT
  b0 : 0 ≤ M.uB
  b1 : M.uB ≤ M.mB
  d0 : 0 ≤ M.uD
  d1 : M.uD ≤ M.mD
  n0 : 0 ≤ M.uN
  n1 : M.uN ≤ M.mN
  k0 : 0 ≤ M.uK
  k1 : M.uK ≤ M.mK
  t0 : 0 ≤ M.uT
  t1 : M.uT ≤ M.mT
  o0 : 0 ≤ M.op
  o1 : M.op ≤ M.mD

def byteR (M : Met) : Int := if M.mB ≤ M.uB then 10 else 0
def byteS (M : Met) : Met := if M.mB ≤ M.uB then M else { M with uB := M.uB + 1 }
def nodeR (M : Met) : Int := if M.mN ≤ M.uN then 12 else 0
def nodeS (M : Met) : Met := if M.mN ≤ M.uN then M else { M with uN := M.uN + 1 }
def openR (M : Met) : Int := if M.mD ≤ M.op then 11 else 0
def openS (M : Met) : Met := if M.mD ≤ M.op then M else { M with op := M.op + 1, uD := max M.uD (M.op + 1) }
def closeS (M : Met) : Met := { M with op := max (M.op - 1) 0 }
def nameR (M : Met) (n : Int) : Int := if M.mK < n then 13 else 0
def nameS (M : Met) (n : Int) : Met := if M.mK < n then M else { M with uK := max M.uK n }
def textR (M : Met) (n : Int) : Int := if M.mT < n then 14 else 0
def textS (M : Met) (n : Int) : Met := if M.mT < n then M else { M with uT := max M.uT n }

theorem byteS_ok {M : Met} (h : M.Ok) : (byteS M).Ok := by
  obtain ⟨h0, h1, h2, h3, h4, h5, h6, h7, h8, h9, h10, h11, h12⟩ := h
  unfold byteS; split <;> constructor <;> first | assumption | (simp only; omega)
theorem nodeS_ok {M : Met} (h : M.Ok) : (nodeS M).Ok := by
  obtain ⟨h0, h1, h2, h3, h4, h5, h6, h7, h8, h9, h10, h11, h12⟩ := h
  unfold nodeS; split <;> constructor <;> first | assumption | (simp only; omega)
theorem openS_ok {M : Met} (h : M.Ok) : (openS M).Ok := by
  obtain ⟨h0, h1, h2, h3, h4, h5, h6, h7, h8, h9, h10, h11, h12⟩ := h
  unfold openS; split <;> constructor <;> first | assumption | (simp only; omega)
theorem closeS_ok {M : Met} (h : M.Ok) : (closeS M).Ok := by
  obtain ⟨h0, h1, h2, h3, h4, h5, h6, h7, h8, h9, h10, h11, h12⟩ := h
  unfold closeS; constructor <;> first | assumption | (simp only; omega)
theorem nameS_ok {M : Met} {n : Int} (h : M.Ok) : (nameS M n).Ok := by
  obtain ⟨h0, h1, h2, h3, h4, h5, h6, h7, h8, h9, h10, h11, h12⟩ := h
  unfold nameS; split <;> constructor <;> first | assumption | (simp only; omega)
theorem textS_ok {M : Met} {n : Int} (h : M.Ok) : (textS M n).Ok := by
  obtain ⟨h0, h1, h2, h3, h4, h5, h6, h7, h8, h9, h10, h11, h12⟩ := h
  unfold textS; split <;> constructor <;> first | assumption | (simp only; omega)

theorem used_any {w : World} {b : Nat} {M : Met} (h : MetAt w b M) :
    Calls Try.prog 39 #[.pointer (some ⟨b, 0, none⟩)] w fun e w' => e = .returned (lim M.uB M.uD M.uN M.uK M.uT) ∧ Touch [] w w' := by
  have h0 := cell_at h 0
  have h1 := cell_at h 1
  have h2 := cell_at h 2
  have h3 := cell_at h 3
  have h4 := cell_at h 4
  have hb := block_lt h
  simp at h0 h1 h2 h3 h4
  go_enter Try.func39, Try.ntmps39
  go_wp2
  exact bodyPost_ret (v := .agg #[.int .i64 M.uB, .int .i64 M.uD, .int .i64 M.uN, .int .i64 M.uK, .int .i64 M.uT]) (by simp [results, Try.results39, go_sem]) rfl ⟨rfl, (Touch.refl _ _).alloc _⟩

theorem byte_any {w : World} {b : Nat} {M : Met} (hA : MetAt w b M) (ok : M.Ok) :
    Calls Try.prog 27 #[.pointer (some ⟨b, 0, none⟩)] w fun e w' => e = .returned (.int .i64 (byteR M)) ∧ MetAt w' b (byteS M) ∧ Touch [b] w w' := by
  have cuB := cell_at hA 0
  have cmB := cell_at hA 5
  have fuB := free_at hA 0
  simp at cuB cmB
  have k0 := ok.b0
  have k1 := ok.b1
  have k2 := ok.limok.2.1
  by_cases hm2 : M.mB ≤ M.uB
  · skip
    have e1 : byteR M = 10 := by unfold byteR; rw [if_pos hm2]
    have e2 : byteS M = M := by unfold byteS; rw [if_pos hm2]
    rw [e1, e2]; clear e1 e2
    go_enter Try.func27, Try.ntmps27
    go_wp2
    go_quiet (fail)
    go_wp2
    go_ret
    exact ⟨rfl, drewN_heap hA _, (Touch.refl _ _).drewN _⟩
  · skip
    have e1 : byteR M = 0 := by unfold byteR; rw [if_neg hm2]
    have e2 : byteS M = { M with uB := M.uB + 1 } := by unfold byteS; rw [if_neg hm2]
    rw [e1, e2]; clear e1 e2
    go_enter Try.func27, Try.ntmps27
    go_wp2
    go_quiet (fail)
    go_wp2
    go_ret
    exact ⟨rfl, set_same (drewN_heap hA _) _ _, ((Touch.refl _ _).drewN _).setCell (.inl (by simp)) _⟩

theorem node_any {w : World} {b : Nat} {M : Met} (hA : MetAt w b M) (ok : M.Ok) :
    Calls Try.prog 29 #[.pointer (some ⟨b, 0, none⟩)] w fun e w' => e = .returned (.int .i64 (nodeR M)) ∧ MetAt w' b (nodeS M) ∧ Touch [b] w w' := by
  have cuN := cell_at hA 2
  have cmN := cell_at hA 7
  have fuN := free_at hA 2
  simp at cuN cmN
  have k0 := ok.n0
  have k1 := ok.n1
  have k2 := ok.limok.2.2.2.2.2.1
  by_cases hm2 : M.mN ≤ M.uN
  · skip
    have e1 : nodeR M = 12 := by unfold nodeR; rw [if_pos hm2]
    have e2 : nodeS M = M := by unfold nodeS; rw [if_pos hm2]
    rw [e1, e2]; clear e1 e2
    go_enter Try.func29, Try.ntmps29
    go_wp2
    go_quiet (fail)
    go_wp2
    go_ret
    exact ⟨rfl, drewN_heap hA _, (Touch.refl _ _).drewN _⟩
  · skip
    have e1 : nodeR M = 0 := by unfold nodeR; rw [if_neg hm2]
    have e2 : nodeS M = { M with uN := M.uN + 1 } := by unfold nodeS; rw [if_neg hm2]
    rw [e1, e2]; clear e1 e2
    go_enter Try.func29, Try.ntmps29
    go_wp2
    go_quiet (fail)
    go_wp2
    go_ret
    exact ⟨rfl, set_same (drewN_heap hA _) _ _, ((Touch.refl _ _).drewN _).setCell (.inl (by simp)) _⟩

theorem open_any {w : World} {b : Nat} {M : Met} (hA : MetAt w b M) (ok : M.Ok) :
    Calls Try.prog 31 #[.pointer (some ⟨b, 0, none⟩)] w fun e w' => e = .returned (.int .i64 (openR M)) ∧ MetAt w' b (openS M) ∧ Touch [b] w w' := by
  have cuD := cell_at hA 1
  have cmD := cell_at hA 6
  have cop := cell_at hA 10
  have fuD := free_at hA 1
  have fop := free_at hA 10
  simp at cuD cmD cop
  have k0 := ok.o0
  have k1 := ok.o1
  have k2 := ok.limok.2.2.2.1
  have k3 := ok.d0
  by_cases hm2 : M.mD ≤ M.op
  · skip
    have e1 : openR M = 11 := by unfold openR; rw [if_pos hm2]
    have e2 : openS M = M := by unfold openS; rw [if_pos hm2]
    rw [e1, e2]; clear e1 e2
    go_enter Try.func31, Try.ntmps31
    go_wp2
    go_quiet (fail)
    go_wp2
    go_ret
    exact ⟨rfl, drewN_heap hA _, (Touch.refl _ _).drewN _⟩
  · skip
    by_cases hm4 : M.uD < M.op + 1
    · skip
      have e1 : openR M = 0 := by unfold openR; rw [if_neg hm2]; try rw [show max M.uD (M.op + 1) = M.op + 1 by omega]
      have e2 : openS M = { M with op := M.op + 1, uD := M.op + 1 } := by unfold openS; rw [if_neg hm2]; try rw [show max M.uD (M.op + 1) = M.op + 1 by omega]
      rw [e1, e2]; clear e1 e2
      go_enter Try.func31, Try.ntmps31
      go_wp2
      go_quiet (fail)
      go_wp2
      go_region
      all_goals (go_wp2; go_ret)
      all_goals exact ⟨rfl, set_same (drewN_heap (set_same (drewN_heap hA _) _ _) 1) _ _, (((Touch.refl _ _).drewN _).setCell (.inl (by simp)) _).drew.setCell (.inl (by simp)) _⟩
    · skip
      have e1 : openR M = 0 := by unfold openR; rw [if_neg hm2]; try rw [show max M.uD (M.op + 1) = M.uD by omega]
      have e2 : openS M = { M with op := M.op + 1, uD := M.uD } := by unfold openS; rw [if_neg hm2]; try rw [show max M.uD (M.op + 1) = M.uD by omega]
      rw [e1, e2]; clear e1 e2
      go_enter Try.func31, Try.ntmps31
      go_wp2
      go_quiet (fail)
      go_wp2
      go_region
      all_goals (go_wp2; go_ret)
      all_goals exact ⟨rfl, set_same (drewN_heap (set_same (drewN_heap hA _) _ _) 1) _ _, (((Touch.refl _ _).drewN _).setCell (.inl (by simp)) _).drew.setCell (.inl (by simp)) _⟩

theorem close_any {w : World} {b : Nat} {M : Met} (hA : MetAt w b M) (ok : M.Ok) :
    Calls Try.prog 33 #[.pointer (some ⟨b, 0, none⟩)] w fun e w' => e = .returned (.tuple #[]) ∧ MetAt w' b (closeS M) ∧ Touch [b] w w' := by
  have cop := cell_at hA 10
  have fop := free_at hA 10
  simp at cop
  have k0 := ok.o0
  have k1 := ok.o1
  have k2 := ok.limok.2.2.2.1
  by_cases hm2 : 1 ≤ M.op
  · skip
    have e2 : closeS M = { M with op := M.op - 1 } := by unfold closeS; rw [show max (M.op - 1) 0 = M.op - 1 by omega]
    rw [e2]; clear e2
    go_enter Try.func33, Try.ntmps33
    go_wp2
    go_end0
    exact ⟨rfl, set_same hA _ _, (Touch.refl _ _).setCell (.inl (by simp)) _⟩
  · skip
    have e2 : closeS M = { M with op := 0 } := by unfold closeS; rw [show max (M.op - 1) 0 = 0 by omega]
    rw [e2]; clear e2
    go_enter Try.func33, Try.ntmps33
    go_wp2
    go_end0
    exact ⟨rfl, set_same hA _ _, (Touch.refl _ _).setCell (.inl (by simp)) _⟩

theorem name_any {w : World} {b : Nat} {M : Met} (hA : MetAt w b M) (ok : M.Ok) (n : Int) :
    Calls Try.prog 35 #[.pointer (some ⟨b, 0, none⟩), .int .i64 n] w fun e w' => e = .returned (.int .i64 (nameR M n)) ∧ MetAt w' b (nameS M n) ∧ Touch [b] w w' := by
  have cuK := cell_at hA 3
  have cmK := cell_at hA 8
  have fuK := free_at hA 3
  simp at cuK cmK
  by_cases hm2 : M.mK < n
  · skip
    have e1 : nameR M n = 13 := by unfold nameR; rw [if_pos hm2]
    have e2 : nameS M n = M := by unfold nameS; rw [if_pos hm2]
    rw [e1, e2]; clear e1 e2
    go_enter Try.func35, Try.ntmps35
    go_wp2
    go_ret
    exact ⟨rfl, hA, Touch.refl _ _⟩
  · skip
    by_cases hm4 : M.uK < n
    · skip
      have e1 : nameR M n = 0 := by unfold nameR; rw [if_neg hm2]; try rw [show max M.uK n = n by omega]
      have e2 : nameS M n = { M with uK := n } := by unfold nameS; rw [if_neg hm2]; try rw [show max M.uK n = n by omega]
      rw [e1, e2]; clear e1 e2
      go_enter Try.func35, Try.ntmps35
      go_wp2
      go_ret
      exact ⟨rfl, set_same hA _ _, (Touch.refl _ _).setCell (.inl (by simp)) _⟩
    · skip
      have e1 : nameR M n = 0 := by unfold nameR; rw [if_neg hm2]; try rw [show max M.uK n = M.uK by omega]
      have e2 : nameS M n = { M with uK := M.uK } := by unfold nameS; rw [if_neg hm2]; try rw [show max M.uK n = M.uK by omega]
      rw [e1, e2]; clear e1 e2
      go_enter Try.func35, Try.ntmps35
      go_wp2
      go_ret
      exact ⟨rfl, set_same hA _ _, (Touch.refl _ _).setCell (.inl (by simp)) _⟩

theorem text_any {w : World} {b : Nat} {M : Met} (hA : MetAt w b M) (ok : M.Ok) (n : Int) :
    Calls Try.prog 37 #[.pointer (some ⟨b, 0, none⟩), .int .i64 n] w fun e w' => e = .returned (.int .i64 (textR M n)) ∧ MetAt w' b (textS M n) ∧ Touch [b] w w' := by
  have cuT := cell_at hA 4
  have cmT := cell_at hA 9
  have fuT := free_at hA 4
  simp at cuT cmT
  by_cases hm2 : M.mT < n
  · skip
    have e1 : textR M n = 14 := by unfold textR; rw [if_pos hm2]
    have e2 : textS M n = M := by unfold textS; rw [if_pos hm2]
    rw [e1, e2]; clear e1 e2
    go_enter Try.func37, Try.ntmps37
    go_wp2
    go_ret
    exact ⟨rfl, hA, Touch.refl _ _⟩
  · skip
    by_cases hm4 : M.uT < n
    · skip
      have e1 : textR M n = 0 := by unfold textR; rw [if_neg hm2]; try rw [show max M.uT n = n by omega]
      have e2 : textS M n = { M with uT := n } := by unfold textS; rw [if_neg hm2]; try rw [show max M.uT n = n by omega]
      rw [e1, e2]; clear e1 e2
      go_enter Try.func37, Try.ntmps37
      go_wp2
      go_ret
      exact ⟨rfl, set_same hA _ _, (Touch.refl _ _).setCell (.inl (by simp)) _⟩
    · skip
      have e1 : textR M n = 0 := by unfold textR; rw [if_neg hm2]; try rw [show max M.uT n = M.uT by omega]
      have e2 : textS M n = { M with uT := M.uT } := by unfold textS; rw [if_neg hm2]; try rw [show max M.uT n = M.uT by omega]
      rw [e1, e2]; clear e1 e2
      go_enter Try.func37, Try.ntmps37
      go_wp2
      go_ret
      exact ⟨rfl, set_same hA _ _, (Touch.refl _ _).setCell (.inl (by simp)) _⟩

theorem rbyte_any {w : World} {b : Nat} {M : Met} (hA : RetAt w b M) (ok : M.Ok) :
    Calls Try.prog 28 #[.pointer (some ⟨b, 0, none⟩)] w fun e w' => e = .returned (.int .i64 (byteR M)) ∧ RetAt w' b (byteS M) ∧ Touch [b] w w' := by
  have cuB := cell_at hA 5
  have cmB := cell_at hA 0
  have fuB := free_at hA 5
  simp at cuB cmB
  have k0 := ok.b0
  have k1 := ok.b1
  have k2 := ok.limok.2.1
  by_cases hm2 : M.mB ≤ M.uB
  · skip
    have e1 : byteR M = 10 := by unfold byteR; rw [if_pos hm2]
    have e2 : byteS M = M := by unfold byteS; rw [if_pos hm2]
    rw [e1, e2]; clear e1 e2
    have hx : M.uB = M.mB := by omega
    rw [hx] at cuB; clear hx
    go_enter Try.func28, Try.ntmps28
    go_wp2
    go_quiet (fail)
    go_wp2
    go_ret
    exact ⟨rfl, drewN_heap hA _, (Touch.refl _ _).drewN _⟩
  · skip
    have e1 : byteR M = 0 := by unfold byteR; rw [if_neg hm2]
    have e2 : byteS M = { M with uB := M.uB + 1 } := by unfold byteS; rw [if_neg hm2]
    rw [e1, e2]; clear e1 e2
    have hx : (M.uB == M.mB) = false := by simp; omega
    go_enter Try.func28, Try.ntmps28
    go_wp2
    go_quiet (fail)
    go_wp2
    go_ret
    exact ⟨rfl, set_same (drewN_heap hA _) _ _, ((Touch.refl _ _).drewN _).setCell (.inl (by simp)) _⟩

theorem rnode_any {w : World} {b : Nat} {M : Met} (hA : RetAt w b M) (ok : M.Ok) :
    Calls Try.prog 30 #[.pointer (some ⟨b, 0, none⟩)] w fun e w' => e = .returned (.int .i64 (nodeR M)) ∧ RetAt w' b (nodeS M) ∧ Touch [b] w w' := by
  have cuN := cell_at hA 7
  have cmN := cell_at hA 2
  have fuN := free_at hA 7
  simp at cuN cmN
  have k0 := ok.n0
  have k1 := ok.n1
  have k2 := ok.limok.2.2.2.2.2.1
  by_cases hm2 : M.mN ≤ M.uN
  · skip
    have e1 : nodeR M = 12 := by unfold nodeR; rw [if_pos hm2]
    have e2 : nodeS M = M := by unfold nodeS; rw [if_pos hm2]
    rw [e1, e2]; clear e1 e2
    have hx : M.uN = M.mN := by omega
    rw [hx] at cuN; clear hx
    go_enter Try.func30, Try.ntmps30
    go_wp2
    go_quiet (fail)
    go_wp2
    go_ret
    exact ⟨rfl, drewN_heap hA _, (Touch.refl _ _).drewN _⟩
  · skip
    have e1 : nodeR M = 0 := by unfold nodeR; rw [if_neg hm2]
    have e2 : nodeS M = { M with uN := M.uN + 1 } := by unfold nodeS; rw [if_neg hm2]
    rw [e1, e2]; clear e1 e2
    have hx : (M.uN == M.mN) = false := by simp; omega
    go_enter Try.func30, Try.ntmps30
    go_wp2
    go_quiet (fail)
    go_wp2
    go_ret
    exact ⟨rfl, set_same (drewN_heap hA _) _ _, ((Touch.refl _ _).drewN _).setCell (.inl (by simp)) _⟩

theorem ropen_any {w : World} {b : Nat} {M : Met} (hA : RetAt w b M) (ok : M.Ok) :
    Calls Try.prog 32 #[.pointer (some ⟨b, 0, none⟩)] w fun e w' => e = .returned (.int .i64 (openR M)) ∧ RetAt w' b (openS M) ∧ Touch [b] w w' := by
  have cuD := cell_at hA 6
  have cmD := cell_at hA 1
  have cop := cell_at hA 10
  have fuD := free_at hA 6
  have fop := free_at hA 10
  simp at cuD cmD cop
  have k0 := ok.o0
  have k1 := ok.o1
  have k2 := ok.limok.2.2.2.1
  have k3 := ok.d0
  by_cases hm2 : M.mD ≤ M.op
  · skip
    have e1 : openR M = 11 := by unfold openR; rw [if_pos hm2]
    have e2 : openS M = M := by unfold openS; rw [if_pos hm2]
    rw [e1, e2]; clear e1 e2
    have hx : M.op = M.mD := by omega
    rw [hx] at cop; clear hx
    go_enter Try.func32, Try.ntmps32
    go_wp2
    go_quiet (fail)
    go_wp2
    go_ret
    exact ⟨rfl, drewN_heap hA _, (Touch.refl _ _).drewN _⟩
  · skip
    by_cases hm4 : M.uD < M.op + 1
    · skip
      have e1 : openR M = 0 := by unfold openR; rw [if_neg hm2]; try rw [show max M.uD (M.op + 1) = M.op + 1 by omega]
      have e2 : openS M = { M with op := M.op + 1, uD := M.op + 1 } := by unfold openS; rw [if_neg hm2]; try rw [show max M.uD (M.op + 1) = M.op + 1 by omega]
      rw [e1, e2]; clear e1 e2
      have hx : (M.op == M.mD) = false := by simp; omega
      go_enter Try.func32, Try.ntmps32
      go_wp2
      go_quiet (fail)
      go_wp2
      go_region
      all_goals (go_wp2; go_ret)
      all_goals exact ⟨rfl, set_same (drewN_heap (set_same (drewN_heap hA _) _ _) 1) _ _, (((Touch.refl _ _).drewN _).setCell (.inl (by simp)) _).drew.setCell (.inl (by simp)) _⟩
    · skip
      have e1 : openR M = 0 := by unfold openR; rw [if_neg hm2]; try rw [show max M.uD (M.op + 1) = M.uD by omega]
      have e2 : openS M = { M with op := M.op + 1, uD := M.uD } := by unfold openS; rw [if_neg hm2]; try rw [show max M.uD (M.op + 1) = M.uD by omega]
      rw [e1, e2]; clear e1 e2
      have hx : (M.op == M.mD) = false := by simp; omega
      go_enter Try.func32, Try.ntmps32
      go_wp2
      go_quiet (fail)
      go_wp2
      go_region
      all_goals (go_wp2; go_ret)
      all_goals exact ⟨rfl, set_same (drewN_heap (set_same (drewN_heap hA _) _ _) 1) _ _, (((Touch.refl _ _).drewN _).setCell (.inl (by simp)) _).drew.setCell (.inl (by simp)) _⟩

theorem rclose_any {w : World} {b : Nat} {M : Met} (hA : RetAt w b M) (ok : M.Ok) :
    Calls Try.prog 34 #[.pointer (some ⟨b, 0, none⟩)] w fun e w' => e = .returned (.tuple #[]) ∧ RetAt w' b (closeS M) ∧ Touch [b] w w' := by
  have cop := cell_at hA 10
  have fop := free_at hA 10
  simp at cop
  have k0 := ok.o0
  have k1 := ok.o1
  have k2 := ok.limok.2.2.2.1
  by_cases hm2 : 1 ≤ M.op
  · skip
    have e2 : closeS M = { M with op := M.op - 1 } := by unfold closeS; rw [show max (M.op - 1) 0 = M.op - 1 by omega]
    rw [e2]; clear e2
    go_enter Try.func34, Try.ntmps34
    go_wp2
    go_end0
    exact ⟨rfl, set_same hA _ _, (Touch.refl _ _).setCell (.inl (by simp)) _⟩
  · skip
    have e2 : closeS M = { M with op := 0 } := by unfold closeS; rw [show max (M.op - 1) 0 = 0 by omega]
    rw [e2]; clear e2
    go_enter Try.func34, Try.ntmps34
    go_wp2
    go_end0
    exact ⟨rfl, set_same hA _ _, (Touch.refl _ _).setCell (.inl (by simp)) _⟩

theorem rname_any {w : World} {b : Nat} {M : Met} (hA : RetAt w b M) (ok : M.Ok) (n : Int) :
    Calls Try.prog 36 #[.pointer (some ⟨b, 0, none⟩), .int .i64 n] w fun e w' => e = .returned (.int .i64 (nameR M n)) ∧ RetAt w' b (nameS M n) ∧ Touch [b] w w' := by
  have cuK := cell_at hA 8
  have cmK := cell_at hA 3
  have fuK := free_at hA 8
  simp at cuK cmK
  by_cases hm2 : M.mK < n
  · skip
    have e1 : nameR M n = 13 := by unfold nameR; rw [if_pos hm2]
    have e2 : nameS M n = M := by unfold nameS; rw [if_pos hm2]
    rw [e1, e2]; clear e1 e2
    go_enter Try.func36, Try.ntmps36
    go_wp2
    go_ret
    exact ⟨rfl, hA, Touch.refl _ _⟩
  · skip
    by_cases hm4 : M.uK < n
    · skip
      have e1 : nameR M n = 0 := by unfold nameR; rw [if_neg hm2]; try rw [show max M.uK n = n by omega]
      have e2 : nameS M n = { M with uK := n } := by unfold nameS; rw [if_neg hm2]; try rw [show max M.uK n = n by omega]
      rw [e1, e2]; clear e1 e2
      go_enter Try.func36, Try.ntmps36
      go_wp2
      go_ret
      exact ⟨rfl, set_same hA _ _, (Touch.refl _ _).setCell (.inl (by simp)) _⟩
    · skip
      have e1 : nameR M n = 0 := by unfold nameR; rw [if_neg hm2]; try rw [show max M.uK n = M.uK by omega]
      have e2 : nameS M n = { M with uK := M.uK } := by unfold nameS; rw [if_neg hm2]; try rw [show max M.uK n = M.uK by omega]
      rw [e1, e2]; clear e1 e2
      go_enter Try.func36, Try.ntmps36
      go_wp2
      go_ret
      exact ⟨rfl, set_same hA _ _, (Touch.refl _ _).setCell (.inl (by simp)) _⟩

theorem rtext_any {w : World} {b : Nat} {M : Met} (hA : RetAt w b M) (ok : M.Ok) (n : Int) :
    Calls Try.prog 38 #[.pointer (some ⟨b, 0, none⟩), .int .i64 n] w fun e w' => e = .returned (.int .i64 (textR M n)) ∧ RetAt w' b (textS M n) ∧ Touch [b] w w' := by
  have cuT := cell_at hA 9
  have cmT := cell_at hA 4
  have fuT := free_at hA 9
  simp at cuT cmT
  by_cases hm2 : M.mT < n
  · skip
    have e1 : textR M n = 14 := by unfold textR; rw [if_pos hm2]
    have e2 : textS M n = M := by unfold textS; rw [if_pos hm2]
    rw [e1, e2]; clear e1 e2
    go_enter Try.func38, Try.ntmps38
    go_wp2
    go_ret
    exact ⟨rfl, hA, Touch.refl _ _⟩
  · skip
    by_cases hm4 : M.uT < n
    · skip
      have e1 : textR M n = 0 := by unfold textR; rw [if_neg hm2]; try rw [show max M.uT n = n by omega]
      have e2 : textS M n = { M with uT := n } := by unfold textS; rw [if_neg hm2]; try rw [show max M.uT n = n by omega]
      rw [e1, e2]; clear e1 e2
      go_enter Try.func38, Try.ntmps38
      go_wp2
      go_ret
      exact ⟨rfl, set_same hA _ _, (Touch.refl _ _).setCell (.inl (by simp)) _⟩
    · skip
      have e1 : textR M n = 0 := by unfold textR; rw [if_neg hm2]; try rw [show max M.uT n = M.uT by omega]
      have e2 : textS M n = { M with uT := M.uT } := by unfold textS; rw [if_neg hm2]; try rw [show max M.uT n = M.uT by omega]
      rw [e1, e2]; clear e1 e2
      go_enter Try.func38, Try.ntmps38
      go_wp2
      go_ret
      exact ⟨rfl, set_same hA _ _, (Touch.refl _ _).setCell (.inl (by simp)) _⟩

end Go.Proofs.Ytgjddlianhejdaa
