/- One of the texts that lead to the theorem lexPlays.proved: the conditions stand in each theorem. -/
import Derived.Test.YthdncmagfgoboaaGreatDoorP26
set_option linter.unusedSimpArgs false
set_option linter.unusedVariables false
namespace Sq
theorem dig_1 (s : St) (x : UInt8) (k : Nat) (hk : hex x = some k) (hh : s.hx = []) : digits s x = if 0 < s.wait ∧ k ≠ 13 then .error 5 else .ok { s with hx := [k] } := by
 unfold digits
 rw [hk, hh]
 simp only [List.nil_append, at0]
 by_cases h0 : 0 < s.wait <;> by_cases h1 : k = 13 <;> simp [h0, h1]
theorem dig_2 (s : St) (x : UInt8) (a k : Nat) (hk : hex x = some k) (hh : s.hx = [a]) : digits s x = if (0 < s.wait ∧ (a ≠ 13 ∨ ¬ 12 ≤ k)) ∨ (¬ 0 < s.wait ∧ a = 13 ∧ 12 ≤ k) then .error 5 else .ok { s with hx := [a, k] } := by
 unfold digits
 rw [hk, hh]
 simp only [List.cons_append, List.nil_append, at0]
 by_cases h0 : 0 < s.wait <;> by_cases h1 : a = 13 <;> by_cases h2 : 12 ≤ k <;> simp [h0, h1, h2] <;> (try omega)
theorem dig_3 (s : St) (x : UInt8) (a b k : Nat) (hk : hex x = some k) (hh : s.hx = [a, b]) : digits s x = if (0 < s.wait ∧ (a ≠ 13 ∨ ¬ 12 ≤ b)) ∨ (¬ 0 < s.wait ∧ a = 13 ∧ 12 ≤ b) then .error 5 else if ¬ 0 < s.wait ∧ a = 15 ∧ b = 13 ∧ (k = 13 ∨ k = 14) then .error 6 else .ok { s with hx := [a, b, k] } := by
 unfold digits
 rw [hk, hh]
 simp only [List.cons_append, List.nil_append, at0]
 by_cases h0 : 0 < s.wait <;> by_cases h1 : a = 13 <;> by_cases h2 : 12 ≤ b <;> by_cases h3 : (a = 15 ∧ b = 13 ∧ (k = 13 ∨ k = 14)) <;> simp [h0, h1, h2, h3] <;> (try omega)
theorem dig_4 (s : St) (x : UInt8) (a b c k : Nat) (hk : hex x = some k) (hh : s.hx = [a, b, c]) (U : Nat) (hU : U = ((a * 16 + b) * 16 + c) * 16 + k) : digits s x = if (0 < s.wait ∧ ¬ (a = 13 ∧ 12 ≤ b)) ∨ (¬ 0 < s.wait ∧ a = 13 ∧ 12 ≤ b) then .error 5 else if ¬ 0 < s.wait ∧ high U = true then .ok { s with hx := [], esc := 0, wait := U } else if non (if 0 < s.wait then join s.wait U else U) = true then .error 6 else .ok { s with out := s.out ++ [if 0 < s.wait then join s.wait U else U], hx := [], esc := 0, wait := 0 } := by
 have hv : val [a, b, c, k] = U := by simp [val, hU]
 clear hU
 unfold digits
 rw [hk, hh]
 simp only [List.cons_append, List.nil_append, at0, hv]
 rcases Nat.eq_zero_or_pos s.wait with h0 | h0
 · by_cases h1 : a = 13 <;> by_cases h2 : 12 ≤ b <;> cases h3 : high U <;> simp [h0, h1, h2, h3] <;> (try omega)
 · have h00 := Nat.ne_of_gt h0
   by_cases h1 : a = 13 <;> by_cases h2 : 12 ≤ b <;> simp [h0, h00, h1, h2] <;> (try omega)
end Sq
namespace Go.Proofs.YthdncmagfgoboaaGreatDoor
open Go.RowKit
set_option maxRecDepth 100000
set_option maxHeartbeats 8000000
def Fr (w : World) (g g' : Option Nat) : Prop := ∀ k, g' = some k → g = some k ∨ w.heap.size ≤ k
theorem Fr.refl (w : World) (g : Option Nat) : Fr w g g := fun _ h => .inl h
theorem Fr.none (w : World) (g : Option Nat) : Fr w g none := fun _ h => by cases h
theorem Fr.new {w : World} {g g' : Option Nat} (h : ∀ k, g' = some k → w.heap.size ≤ k) : Fr w g g' := fun k hk => .inr (h k hk)
theorem Fr.of {w : World} {g g' : Option Nat} (h : cK w g g') : Fr w g g' := fun k hk => by
 rcases h with rfl | ⟨j, rfl, hj⟩
 · exact .inl hk
 · injection hk with hk; subst hk; exact .inr hj
theorem Fr.ne {w : World} {g g' : Option Nat} {b : Nat} (h : Fr w g g') (hg : ∀ k, g = some k → k ≠ b) (hb : b < w.heap.size) : ∀ k, g' = some k → k ≠ b := fun k hk q => by
 rcases h k hk with h1 | h1
 · exact hg k h1 q
 · omega
def eU (w w' : World) (p : Nat) (go gb gh : Option Nat) (s' : Sq.St) : Prop := ∃ go' gb' gh' vo' vb' vh', RStrF w' p s' go' gb' gh' vo' vb' vh' ∧ Fr w go go' ∧ Fr w gb gb' ∧ Fr w gh gh' ∧ Touch (p :: go.toList) w w'
section
variable {w w' : World} {p : Nat} {s : Sq.St} {go gb gh : Option Nat} {vo vb vh : Value}
theorem RStrF.b_in (h : RStrF w p s go gb gh vo vb vh) : ∀ k, gb = some k → k ∉ p :: go.toList := fun k hk q => by
 rw [List.mem_cons] at q
 rcases q with q | q
 · exact (h.d2 k hk).1 q
 · cases go with
   | none => simp at q
   | some j => simp at q; exact (h.d2 k hk).2 (by rw [q])
theorem RStrF.h_in (h : RStrF w p s go gb gh vo vb vh) : ∀ k, gh = some k → k ∉ p :: go.toList := fun k hk q => by
 rw [List.mem_cons] at q
 rcases q with q | q
 · exact (h.d3 k hk).1 q
 · cases go with
   | none => simp at q
   | some j => simp at q; exact (h.d3 k hk).2 (by rw [q])
theorem eQ (h : RStrF w p s go gb gh vo vb vh) (t : Touch [p] w w') {s' : Sq.St} {gb' gh' : Option Nat} {vb' vh' : Value} (hout : s'.out = s.out) (k : aO w' p vo vb' s'.esc vh' s'.wait s'.over) (kb : SlAt w' 5 1 vb' s'.b.length (bM s'.b) gb') (kh : SlAt w' 3 1 vh' s'.hx.length (dC s'.hx) gh') (fb : Fr w gb gb') (fh : Fr w gh gh') : eU w w' p go gb gh s' := by
 refine ⟨go, gb', gh', vo, vb', vh', ⟨k, ?_, kb, kh, h.d1, ?_, ?_⟩, Fr.refl _ _, fb, fh, t.mono (fun k hk => .inl (by simp at hk; simp [hk]))⟩
 · rw [hout]; exact h.ro.keep t (fun k hk q => h.d1 k hk (by simpa using q))
 · intro k hk
   refine ⟨fb.ne (fun k hk => (h.d2 k hk).1) h.lt k hk, fun q => ?_⟩
   rcases fb k hk with q1 | q1
   · exact (h.d2 k q1).2 q
   · have := h.ro.lt q; omega
 · intro k hk
   refine ⟨fh.ne (fun k hk => (h.d3 k hk).1) h.lt k hk, fun q => ?_⟩
   rcases fh k hk with q1 | q1
   · exact (h.d3 k q1).2 q
   · have := h.ro.lt q; omega
theorem lF (h : RStrF w p s go gb gh vo vb vh) (t : Touch (p :: go.toList) w w') {s' : Sq.St} {go' gb' gh' : Option Nat} {vo' vb' vh' : Value} (k : aO w' p vo' vb' s'.esc vh' s'.wait s'.over) (ko : SlAt w' 21 1 vo' s'.out.length (cC s'.out) go') (n : cK w go go') (kb : SlAt w' 5 1 vb' s'.b.length (bM s'.b) gb') (kh : SlAt w' 3 1 vh' s'.hx.length (dC s'.hx) gh') (fb : gb' = gb ∨ gb' = none) (fh : gh' = gh ∨ gh' = none) : eU w w' p go gb gh s' := by
 have fb' : ∀ k, gb' = some k → gb = some k := fun k hk => by rcases fb with e | e <;> rw [e] at hk <;> first | exact hk | cases hk
 have fh' : ∀ k, gh' = some k → gh = some k := fun k hk => by rcases fh with e | e <;> rw [e] at hk <;> first | exact hk | cases hk
 refine ⟨go', gb', gh', vo', vb', vh', ⟨k, ko, kb, kh, (Fr.of n).ne h.d1 h.lt, ?_, ?_⟩, Fr.of n, fun k hk => .inl (fb' k hk), fun k hk => .inl (fh' k hk), t⟩
 · intro k hk
   refine ⟨(h.d2 k (fb' k hk)).1, fun q => ?_⟩
   rcases (Fr.of n) k q with q1 | q1
   · exact (h.d2 k (fb' k hk)).2 q1
   · have := h.rb.lt (fb' k hk); omega
 · intro k hk
   refine ⟨(h.d3 k (fh' k hk)).1, fun q => ?_⟩
   rcases (Fr.of n) k q with q1 | q1
   · exact (h.d3 k (fh' k hk)).2 q1
   · have := h.rh.lt (fh' k hk); omega
end
theorem qP {wait U : Nat} (hw : Sq.high wait = true) (hl : Sq.low U = true) : dU wait U = (Sq.join wait U : Int) := by unfold dU; rw [hw, hl]; rfl
theorem qO {wait U : Nat} (hw : Sq.high wait = true) (hl : Sq.low U = true) : Sq.join wait U < 2147483648 := by
 simp [Sq.high] at hw
 simp [Sq.low] at hl
 unfold Sq.join
 omega
theorem vX (p : Nat) (s : Sq.St) (go gb gh : Option Nat) (vo vb vh : Value) (x : UInt8) (k : Nat) (w : World) (h : RStrF w p s go gb gh vo vb vh) (ok : Sq.Ok s) (hd : Sq.digits s x = .error k) :
 Calls Tryz.prog 66 #[.pointer (some ⟨p, 0, none⟩), .int .u8 x.toNat] w fun e w' => e = .returned (.int .i64 k) ∧ Touch [] w w' := by
 have hrc := h.rc
 have hrh := h.rh
 have hl := ok.hx.1
 have hm := ok.hx.2
 have hwt := ok.wait
 cases hk : Sq.hex x with
 | none =>
  unfold Sq.digits at hd
  rw [hk] at hd
  injection hd with hd
  subst hd
  exact (qA p x w hk).mono fun e w' q => ⟨q.1, q.2 ▸ Touch.refl _ _⟩
 | some kx =>
  match hhx : s.hx with
  | [] =>
   rw [hhx] at hrh
   rw [Sq.dig_1 s x kx hk hhx] at hd
   split at hd
   · rename_i hc
     injection hd with hd
     subst hd
     have := rdg1 p vo vb vh s.esc s.wait s.over gh x kx w hrc hrh hk
     rw [if_pos hc] at this
     exact this.mono fun e w' q => ⟨q.1, q.2.1 (by decide)⟩
   · cases hd
  | [a] =>
   rw [hhx] at hrh
   rw [Sq.dig_2 s x a kx hk hhx] at hd
   split at hd
   · rename_i hc
     injection hd with hd
     subst hd
     exact (rdg2 p vo vb vh s.esc s.wait s.over gh x a kx 5 w hrc hrh hk (by rw [if_pos hc])).mono fun e w' q => ⟨q.1, q.2.1 (by decide)⟩
   · cases hd
  | [a, b] =>
   rw [hhx] at hrh
   rw [Sq.dig_3 s x a b kx hk hhx] at hd
   split at hd
   · rename_i hc
     injection hd with hd
     subst hd
     exact (rdg3 p vo vb vh s.esc s.wait s.over gh x a b kx 5 w hrc hrh hk (by rw [if_pos hc])).mono fun e w' q => ⟨q.1, q.2.1 (by decide)⟩
   · rename_i hc
     split at hd
     · rename_i hc2
       injection hd with hd
       subst hd
       exact (rdg3 p vo vb vh s.esc s.wait s.over gh x a b kx 6 w hrc hrh hk (by rw [if_neg hc, if_pos hc2])).mono fun e w' q => ⟨q.1, q.2.1 (by decide)⟩
     · cases hd
  | [a, b, c] =>
   rw [hhx] at hrh hm
   have ha := hm a (by simp)
   have hb := hm b (by simp)
   have hc := hm c (by simp)
   have hlow : a = 13 ∧ 12 ≤ b → Sq.low (((a * 16 + b) * 16 + c) * 16 + kx) = true := fun hlo => by rw [Sq.low_4 a b c kx ha hb hc (Sq.hex_lt hk)]; simp [hlo]
   generalize hU : ((a * 16 + b) * 16 + c) * 16 + kx = U at hlow
   rw [Sq.dig_4 s x a b c kx hk hhx U hU.symm] at hd
   split at hd
   · rename_i hc1
     injection hd with hd
     subst hd
     exact vY p vo vb vh s.esc s.wait s.over gh x a b c kx U w hrc hrh hk ha hb hc hU.symm hc1
   · rename_i hc1
     split at hd
     · cases hd
     · rename_i hc2
       by_cases h0 : 0 < s.wait
       · have hlo : a = 13 ∧ 12 ≤ b := Decidable.byContradiction fun q => hc1 (.inl ⟨h0, q⟩)
         have hh := hwt.resolve_left (by omega)
         simp only [if_pos h0] at hd
         split at hd
         · rename_i hc3
           injection hd with hd
           subst hd
           exact tQ p vo vb vh s.esc s.wait s.over gh x a b c kx U w hrc hrh hk ha hb hc hU.symm h0 hlo _ (qP hh (hlow hlo)) (qO hh (hlow hlo)) hc3
         · cases hd
       · simp only [if_neg h0] at hd
         split at hd
         · rename_i hc3
           injection hd with hd
           subst hd
           exact tR p vo vb vh s.esc s.wait s.over gh x a b c kx U w hrc hrh hk ha hb hc hU.symm h0 (fun q => hc1 (.inr ⟨h0, q⟩)) (by simpa [h0] using hc2) hc3
         · cases hd
  | _ :: _ :: _ :: _ :: _ => rw [hhx] at hl; simp at hl
theorem rdig_ok (p : Nat) (s s' : Sq.St) (go gb gh : Option Nat) (vo vb vh : Value) (x : UInt8) (w : World) (h : RStrF w p s go gb gh vo vb vh) (ok : Sq.Ok s) (hn : s.out.length ≤ 200000) (hd : Sq.digits s x = .ok s') :
 Calls Tryz.prog 66 #[.pointer (some ⟨p, 0, none⟩), .int .u8 x.toNat] w fun e w' => e = .returned (.int .i64 0) ∧ eU w w' p go gb gh s' := by
 have hrc := h.rc
 have hrh := h.rh
 have hl := ok.hx.1
 have hm := ok.hx.2
 have hwt := ok.wait
 have hbk : ∀ {w' : World}, Touch [p] w w' → SlAt w' 5 1 vb s.b.length (bM s.b) gb := fun t => h.rb.keep t (fun k hk q => (h.d2 k hk).1 (by simpa using q))
 have hbs : ∀ {w' : World}, Touch (p :: go.toList) w w' → SlAt w' 5 1 vb s.b.length (bM s.b) gb := fun t => h.rb.keep t h.b_in
 cases hk : Sq.hex x with
 | none =>
  unfold Sq.digits at hd
  rw [hk] at hd
  cases hd
 | some kx =>
  match hhx : s.hx with
  | [] =>
   rw [hhx] at hrh
   rw [Sq.dig_1 s x kx hk hhx] at hd
   split at hd
   · cases hd
   · rename_i hc
     injection hd with hd
     subst hd
     have := rdg1 p vo vb vh s.esc s.wait s.over gh x kx w hrc hrh hk
     rw [if_neg hc] at this
     refine this.mono fun e w' q => ⟨q.1, ?_⟩
     obtain ⟨vh', gh', k1, k2, k3, k4⟩ := q.2.2 rfl
     exact eQ h k4 rfl k1 (hbk k4) k2 (Fr.refl _ _) (Fr.new k3)
  | [a] =>
   rw [hhx] at hrh
   rw [Sq.dig_2 s x a kx hk hhx] at hd
   split at hd
   · cases hd
   · rename_i hc
     injection hd with hd
     subst hd
     refine (rdg2 p vo vb vh s.esc s.wait s.over gh x a kx 0 w hrc hrh hk (by rw [if_neg hc])).mono fun e w' q => ⟨q.1, ?_⟩
     obtain ⟨vh', gh', k1, k2, k3, k4⟩ := q.2.2 rfl
     exact eQ h k4 rfl k1 (hbk k4) k2 (Fr.refl _ _) (Fr.new k3)
  | [a, b] =>
   rw [hhx] at hrh
   rw [Sq.dig_3 s x a b kx hk hhx] at hd
   split at hd
   · cases hd
   · rename_i hc
     split at hd
     · cases hd
     · rename_i hc2
       injection hd with hd
       subst hd
       refine (rdg3 p vo vb vh s.esc s.wait s.over gh x a b kx 0 w hrc hrh hk (by rw [if_neg hc, if_neg hc2])).mono fun e w' q => ⟨q.1, ?_⟩
       obtain ⟨vh', gh', k1, k2, k3, k4⟩ := q.2.2 rfl
       exact eQ h k4 rfl k1 (hbk k4) k2 (Fr.refl _ _) (Fr.new k3)
  | [a, b, c] =>
   rw [hhx] at hrh hm
   have ha := hm a (by simp)
   have hb := hm b (by simp)
   have hc := hm c (by simp)
   have hlow : a = 13 ∧ 12 ≤ b → Sq.low (((a * 16 + b) * 16 + c) * 16 + kx) = true := fun hlo => by rw [Sq.low_4 a b c kx ha hb hc (Sq.hex_lt hk)]; simp [hlo]
   generalize hU : ((a * 16 + b) * 16 + c) * 16 + kx = U at hlow
   rw [Sq.dig_4 s x a b c kx hk hhx U hU.symm] at hd
   split at hd
   · cases hd
   · rename_i hc1
     split at hd
     · rename_i hc2
       injection hd with hd
       subst hd
       refine (tS p vo vb vh s.esc s.wait s.over gh x a b c kx U w hrc hrh hk ha hb hc hU.symm hc2.1 (fun q => hc1 (.inr ⟨hc2.1, q⟩)) hc2.2).mono fun e w' q => ⟨q.1, ?_⟩
       exact eQ h q.2.2 rfl q.2.1 (hbk q.2.2) (SlAt.nil _ _ _) (Fr.refl _ _) (Fr.none _ _)
     · rename_i hc2
       by_cases h0 : 0 < s.wait
       · have hlo : a = 13 ∧ 12 ≤ b := Decidable.byContradiction fun q => hc1 (.inl ⟨h0, q⟩)
         have hh := hwt.resolve_left (by omega)
         simp only [if_pos h0] at hd
         split at hd
         · cases hd
         · rename_i hc3
           injection hd with hd
           subst hd
           refine (tO p vo vb vh s.esc s.wait s.over gh s.out go x a b c kx U w hrc h.ro h.d1 (by omega) hrh hk ha hb hc hU.symm h0 hlo _ (qP hh (hlow hlo)) (qO hh (hlow hlo)) (by simpa using hc3)).mono fun e w' q => ⟨q.1, ?_⟩
           obtain ⟨go', vo', k1, k2, k3, k4⟩ := q.2
           exact lF h k4 k1 k2 k3 (hbs k4) (SlAt.nil _ _ _) (.inl rfl) (.inr rfl)
       · simp only [if_neg h0] at hd
         split at hd
         · cases hd
         · rename_i hc3
           injection hd with hd
           subst hd
           refine (tP p vo vb vh s.esc s.wait s.over gh s.out go x a b c kx U w hrc h.ro h.d1 (by omega) hrh hk ha hb hc hU.symm h0 (fun q => hc1 (.inr ⟨h0, q⟩)) (by simpa [h0] using hc2) (by simpa using hc3)).mono fun e w' q => ⟨q.1, ?_⟩
           obtain ⟨go', vo', k1, k2, k3, k4⟩ := q.2
           exact lF h k4 k1 k2 k3 (hbs k4) (SlAt.nil _ _ _) (.inl rfl) (.inr rfl)
  | _ :: _ :: _ :: _ :: _ => rw [hhx] at hl; simp at hl
theorem qQ {b : List UInt8} (h : b = [] ∨ Sq.how b = 1) : b.length ≤ 3 := by
 rcases h with rfl | h
 · simp
 · exact (Sq.how_len h).2
theorem nV (p : Nat) (s : Sq.St) (go gb gh : Option Nat) (vo vb vh : Value) (x : UInt8) (k : Nat) (w : World) (h : RStrF w p s go gb gh vo vb vh) (ok : Sq.Ok s) (hp : Sq.push s x = .error k) :
 Calls Tryz.prog 40 #[.pointer (some ⟨p, 0, none⟩), .int .u8 x.toNat] w fun e w' => e = .returned (.tuple #[.bool false, .int .i64 k]) ∧ Touch [] w w' := by
 have hrc := h.rc
 have hrb := h.rb
 have hb3 := qQ ok.b
 have h2' := ok.esc
 obtain ⟨B1, BC, rfl⟩ : ∃ A C, vb = .slice A s.b.length C := by
  obtain ⟨A, C, e, _⟩ := h.rb.form
  exact ⟨A, C, e⟩
 unfold Sq.push at hp
 cases hov : s.over with
 | true =>
  rw [hov] at hrc
  rw [hov, if_pos (.inl rfl)] at hp
  injection hp with hp
  subst hp
  exact (rp_over p vo vh B1 BC _ s.esc s.wait x w hrc).mono fun e w' q => ⟨q.1, q.2 ▸ Touch.refl _ _⟩
 | false =>
 have hrc' := hrc
 rw [hov] at hrc'
 rw [hov] at hp
 by_cases hx : x.toNat < 32
 · rw [if_pos (.inr hx)] at hp
   injection hp with hp
   subst hp
   exact (rp_low p vo vh B1 BC _ s.esc s.wait x w hrc' hx).mono fun e w' q => ⟨q.1, q.2 ▸ Touch.refl _ _⟩
 rw [if_neg (by simp; omega)] at hp
 split at hp
 · rename_i he
   cases hd : Sq.digits s x with
   | ok s' => rw [hd] at hp; cases hp
   | error k' =>
    rw [hd] at hp
    injection hp with hp
    subst hp
    exact mP p vo vh B1 BC _ s.esc s.wait x w k' (Touch [] w) hrc' hx he (vX p s go gb gh vo _ vh x k' w h ok hd)
 rename_i he2
 split at hp
 · rename_i he
   cases hd : Sq.escape s x with
   | ok s' => rw [hd] at hp; cases hp
   | error k' =>
    rw [hd] at hp
    injection hp with hp
    subst hp
    refine mO p vo vh B1 BC _ s.esc s.wait x w k' (Touch [] w) hrc' hx he ?_
    unfold Sq.escape at hd
    split at hd
    · cases hd
    · rename_i hx117
      split at hd
      · rename_i hsi
        injection hd with hd
        subst hd
        exact vT p vo _ vh s.esc s.wait _ x w hrc' hsi hx117
      · rename_i c hsi
        split at hd
        · rename_i hwt
          injection hd with hd
          subst hd
          exact vR p vo _ vh s.esc s.wait _ x c w hrc' hsi hx117 (by omega)
        · cases hd
 have he : s.esc = 0 := by omega
 split at hp
 · rename_i hb
   cases hd : Sq.bytes s x with
   | ok s' => rw [hd] at hp; cases hp
   | error k' =>
    rw [hd] at hp
    injection hp with hp
    subst hp
    refine pO p vo vh B1 BC _ s.esc s.wait x w k' (Touch [] w) hrc' hx he hb ?_
    unfold Sq.bytes at hd
    split at hd
    · rename_i hw
      injection hd with hd
      subst hd
      exact rV p vo _ vh s.esc s.wait _ s.b gb x w hrc' hrb hb3 hw
    · rename_i hw
      split at hd
      · rename_i hwt
        injection hd with hd
        subst hd
        exact rW p vo _ vh s.esc s.wait _ s.b gb x w hrc' hrb hb3 hw (by omega)
      · rename_i hwt
        split at hd
        · cases hd
        · rename_i hn1
          split at hd
          · rename_i hnn
            injection hd with hd
            subst hd
            exact rY p vo _ vh s.esc s.wait _ s.b gb x w hrc' hrb hb3 ((gJ hw).resolve_left hn1) (by omega) hnn
          · cases hd
 · rename_i hb
   split at hp
   · cases hp
   · rename_i h92
     split at hp
     · rename_i hwt
       injection hp with hp
       subst hp
       exact rp_sur p vo vh B1 BC _ s.esc s.wait x w hrc' hx he (by omega) (by omega) h92 hwt
     · split at hp <;> cases hp
theorem jE (p : Nat) (s s' : Sq.St) (o : Bool) (go gb gh : Option Nat) (vo vb vh : Value) (x : UInt8) (w : World) (h : RStrF w p s go gb gh vo vb vh) (ok : Sq.Ok s) (hn : s.out.length ≤ 200000) (hp : Sq.push s x = .ok (s', o)) :
 Calls Tryz.prog 40 #[.pointer (some ⟨p, 0, none⟩), .int .u8 x.toNat] w fun e w' => e = .returned (.tuple #[.bool o, .int .i64 0]) ∧ eU w w' p go gb gh s' := by
 have hrc := h.rc
 have hrb := h.rb
 have hb3 := qQ ok.b
 have h2' := ok.esc
 obtain ⟨B1, BC, rfl⟩ : ∃ A C, vb = .slice A s.b.length C := by
  obtain ⟨A, C, e, _⟩ := h.rb.form
  exact ⟨A, C, e⟩
 have hbk : ∀ {w' : World}, Touch [p] w w' → SlAt w' 5 1 (.slice B1 s.b.length BC) s.b.length (bM s.b) gb := fun t => h.rb.keep t (fun k hk q => (h.d2 k hk).1 (by simpa using q))
 have hbs : ∀ {w' : World}, Touch (p :: go.toList) w w' → SlAt w' 5 1 (.slice B1 s.b.length BC) s.b.length (bM s.b) gb := fun t => h.rb.keep t h.b_in
 have hhk : ∀ {w' : World}, Touch [p] w w' → SlAt w' 3 1 vh s.hx.length (dC s.hx) gh := fun t => h.rh.keep t (fun k hk q => (h.d3 k hk).1 (by simpa using q))
 have hhs : ∀ {w' : World}, Touch (p :: go.toList) w w' → SlAt w' 3 1 vh s.hx.length (dC s.hx) gh := fun t => h.rh.keep t h.h_in
 unfold Sq.push at hp
 split at hp
 · cases hp
 rename_i hox
 have hov : s.over = false := by cases hq : s.over <;> simp [hq] at hox ⊢
 have hx : ¬ x.toNat < 32 := by simp [hov] at hox; omega
 have hrc' := hrc
 rw [hov] at hrc'
 split at hp
 · rename_i he
   cases hd : Sq.digits s x with
   | error k' => rw [hd] at hp; cases hp
   | ok s1 =>
    rw [hd] at hp
    injection hp with hp
    injection hp with hp1 hp2
    subst hp1 hp2
    exact mP p vo vh B1 BC _ s.esc s.wait x w 0 (fun w' => eU w w' p go gb gh s1) hrc' hx he (rdig_ok p s s1 go gb gh vo _ vh x w h ok hn hd)
 rename_i he2
 split at hp
 · rename_i he
   cases hd : Sq.escape s x with
   | error k' => rw [hd] at hp; cases hp
   | ok s1 =>
    rw [hd] at hp
    injection hp with hp
    injection hp with hp1 hp2
    subst hp1 hp2
    refine mO p vo vh B1 BC _ s.esc s.wait x w 0 (fun w' => eU w w' p go gb gh s1) hrc' hx he ?_
    unfold Sq.escape at hd
    split at hd
    · rename_i hx117
      injection hd with hd
      subst hd
      subst hx117
      refine (resc_u p vo _ vh s.esc s.wait _ w hrc).mono fun e w' q => ⟨q.1, ?_⟩
      exact eQ h q.2.2 rfl q.2.1 (hbk q.2.2) (hhk q.2.2) (Fr.refl _ _) (Fr.refl _ _)
    · rename_i hx117
      split at hd
      · cases hd
      · rename_i c hsi
        split at hd
        · cases hd
        · rename_i hwt
          injection hd with hd
          subst hd
          refine (vS p vo _ vh s.esc s.wait _ x c s.out go w hrc h.ro h.d1 (by omega) hsi hx117 (by omega)).mono fun e w' q => ⟨q.1, ?_⟩
          obtain ⟨go', vo', k1, k2, k3, k4⟩ := q.2
          exact lF h k4 k1 k2 k3 (hbs k4) (hhs k4) (.inl rfl) (.inl rfl)
 have he : s.esc = 0 := by omega
 split at hp
 · rename_i hb
   cases hd : Sq.bytes s x with
   | error k' => rw [hd] at hp; cases hp
   | ok s1 =>
    rw [hd] at hp
    injection hp with hp
    injection hp with hp1 hp2
    subst hp1 hp2
    refine pO p vo vh B1 BC _ s.esc s.wait x w 0 (fun w' => eU w w' p go gb gh s1) hrc' hx he hb ?_
    unfold Sq.bytes at hd
    split at hd
    · cases hd
    · rename_i hw
      split at hd
      · cases hd
      · rename_i hwt
        split at hd
        · rename_i hw1
          injection hd with hd
          subst hd
          refine (oJ p vo _ vh s.esc s.wait _ s.b gb x w hrc hrb hb3 hw1 (by omega)).mono fun e w' q => ⟨q.1, ?_⟩
          obtain ⟨⟨vb', gb', k1, k2, k3⟩, k4⟩ := q.2
          exact eQ h k4 rfl k1 k2 (hhk k4) (Fr.new k3) (Fr.refl _ _)
        · rename_i hn1
          split at hd
          · cases hd
          · rename_i hnn
            injection hd with hd
            subst hd
            refine (rX p vo _ vh s.esc s.wait _ s.b gb s.out go x w hrc h.ro h.d1 (by omega) hrb hb3 ((gJ hw).resolve_left hn1) (by omega) (by simpa using hnn)).mono fun e w' q => ⟨q.1, ?_⟩
            obtain ⟨go', vo', k1, k2, k3, k4⟩ := q.2
            exact lF h k4 k1 k2 k3 (SlAt.nil _ _ _) (hhs k4) (.inr rfl) (.inl rfl)
 · rename_i hb
   have hb0 : s.b.length = 0 := by omega
   split at hp
   · rename_i h92
     subst h92
     injection hp with hp
     injection hp with hp1 hp2
     subst hp1 hp2
     refine (vJ p vo vh B1 BC _ s.esc s.wait w hrc' he hb0).mono fun e w' q => ⟨q.1, ?_⟩
     exact eQ h q.2.2 rfl (by simp only [hov]; exact q.2.1) (hbk q.2.2) (hhk q.2.2) (Fr.refl _ _) (Fr.refl _ _)
   · rename_i h92
     split at hp
     · cases hp
     · rename_i hwt
       split at hp
       · rename_i h34
         subst h34
         injection hp with hp
         injection hp with hp1 hp2
         subst hp1 hp2
         refine (vK p vo vh B1 BC _ s.esc s.wait w hrc' he hb0 hwt).mono fun e w' q => ⟨q.1, ?_⟩
         exact eQ h q.2.2 rfl q.2.1 (hbk q.2.2) (hhk q.2.2) (Fr.refl _ _) (Fr.refl _ _)
       · rename_i h34
         injection hp with hp
         injection hp with hp1 hp2
         subst hp1 hp2
         refine (vL p vo vh B1 BC _ s.esc s.wait x w s.out go hrc' h.ro h.d1 (by omega) hx he hb0 (by omega) h92 h34 hwt).mono fun e w' q => ⟨q.1, ?_⟩
         obtain ⟨go', vo', k1, k2, k3, k4⟩ := q.2
         exact lF h k4 (by simp only [hov]; exact k1) k2 k3 (hbs k4) (hhs k4) (.inl rfl) (.inl rfl)
end Go.Proofs.YthdncmagfgoboaaGreatDoor
