/-
  Numbers byte by byte: the shape of a text that begins a number, in plain Lean.
-/
import Derived.Test.YthdncmagfgoboaaGreatDoorNumD
set_option linter.unusedVariables false
set_option linter.unusedSimpArgs false
namespace Go.Proofs.YthdncmagfgoboaaGreatDoor.Num
open Go
open Go.Proofs.YthdncmagfgoboaaGreatDoor.Dig (Bs run dig)

/-- a text that begins a number: sign, digits, point, digits, e, sign, digits -/
structure T where
  neg : Bool
  d : Bs
  pt : Bool
  f : Bs
  ex : Bool
  eb : UInt8
  sg : Bs
  x : Bs

def T.man (t : T) : Bs := t.d ++ (if t.pt = true then 46 :: t.f else [])
def T.tail (t : T) : Bs := if t.ex = true then t.eb :: (t.sg ++ t.x) else []
def T.text (t : T) : Bs := (if t.neg = true then [45] else []) ++ (t.man ++ t.tail)

structure T.V (t : T) : Prop where
  d : t.d.all dig = true
  f : t.f.all dig = true
  x : t.x.all dig = true
  ld : ¬ (1 < t.d.length ∧ t.d.head? = some 48)
  np : t.pt = false → t.f = []
  nx : t.ex = false → t.sg = [] ∧ t.x = []
  pd : t.pt = true → t.d ≠ []
  xd : t.ex = true → t.d ≠ [] ∧ (t.pt = true → t.f ≠ []) ∧ (t.eb = 101 ∨ t.eb = 69)
  sg : t.sg = [] ∨ t.sg = [45] ∨ t.sg = [43]

def T.at_ (t : T) : Nat :=
  if t.ex = true then (if t.x ≠ [] then 8 else if t.sg ≠ [] then 7 else 6) else
  if t.pt = true then (if t.f ≠ [] then 5 else 4) else
  if t.d = [] then (if t.neg = true then 1 else 0) else if t.d.head? = some 48 then 2 else 3

def T.sgn (t : T) : Nat := if t.sg = [45] then 45 else if t.sg = [43] then 43 else 0
def T.parts (t : T) : Parts := ⟨t.d ++ t.f, t.f.length, t.ex, t.sgn, t.x⟩

def T.step (t : T) (c : UInt8) (p : Nat) : T :=
  if p = 1 then { t with neg := true } else
  if p = 2 ∨ p = 3 then { t with d := t.d ++ [c] } else
  if p = 4 then { t with pt := true } else
  if p = 5 then { t with f := t.f ++ [c] } else
  if p = 6 then { t with ex := true, eb := c } else
  if p = 7 then { t with sg := [c] } else { t with x := t.x ++ [c] }

theorem dig_of {c : UInt8} (h : 48 ≤ c.toNat ∧ c.toNat ≤ 57) : dig c = true := by unfold Dig.dig; simp; omega
theorem not_dig {c : UInt8} (h : ¬ (48 ≤ c.toNat ∧ c.toNat ≤ 57)) : dig c = false := by unfold Dig.dig; simp; omega
theorem u8_eq {c : UInt8} {k : Nat} (hk : k < 256) (h : c.toNat = k) : c = UInt8.ofNat k := UInt8.toNat_inj.1 (by rw [h]; simp; omega)

theorem step_ok (t : T) (v : t.V) (c : UInt8) (p : Nat) (h : next t.at_ c.toNat = some p) : (t.step c p).V ∧ (t.step c p).text = t.text ++ [c] ∧ (t.step c p).at_ = p := by
  have hfig := next_fig _ _ _ h
  obtain ⟨v1, v2, v3, v4, v5, v6, v7, v8, v9⟩ := v
  obtain ⟨neg, d, pt, f, ex, eb, sg, x⟩ := t
  simp only at v1 v2 v3 v4 v5 v6 v7 v8 v9
  unfold T.at_ at h
  simp only at h
  cases ex with
  | true =>
    obtain ⟨w1, w2, w3⟩ := v8 rfl
    rw [if_pos rfl] at h
    by_cases hx : x = []
    · subst hx
      by_cases hs : sg = []
      · subst hs
        simp [next] at h
        split at h
        · rename_i hc
          injection h with h; subst h
          have hcc : c = 45 ∨ c = 43 := by rcases hc with hc | hc; exact .inl (u8_eq (k := 45) (by decide) hc); exact .inr (u8_eq (k := 43) (by decide) hc)
          refine ⟨⟨v1, v2, v3, v4, v5, fun e => by simp [T.step] at e, v7, v8, by rcases hcc with rfl | rfl <;> simp [T.step]⟩, ?_, ?_⟩
          · simp [T.step, T.text, T.man, T.tail]
          · simp [T.step, T.at_]
        · split at h
          · rename_i hc
            injection h with h; subst h
            refine ⟨⟨v1, v2, by simp [T.step, dig_of hc], v4, v5, fun e => by simp [T.step] at e, v7, v8, v9⟩, ?_, ?_⟩
            · simp [T.step, T.text, T.man, T.tail]
            · simp [T.step, T.at_]
          · cases h
      · simp [next, hs] at h
        obtain ⟨hc, rfl⟩ := h
        refine ⟨⟨v1, v2, by simp [T.step, dig_of hc], v4, v5, fun e => by simp [T.step] at e, v7, v8, v9⟩, ?_, ?_⟩
        · simp [T.step, T.text, T.man, T.tail]
        · simp [T.step, T.at_]
    · simp [next, hx] at h
      obtain ⟨hc, rfl⟩ := h
      refine ⟨⟨v1, v2, by simp only [T.step]; simp [v3, dig_of hc], v4, v5, fun e => by simp [T.step] at e, v7, v8, v9⟩, ?_, ?_⟩
      · simp [T.step, T.text, T.man, T.tail]
      · simp [T.step, T.at_]
  | false =>
    obtain ⟨rfl, rfl⟩ := v6 rfl
    rw [if_neg (by simp)] at h
    cases pt with
    | true =>
      have w1 := v7 rfl
      rw [if_pos rfl] at h
      by_cases hf : f = []
      · subst hf
        simp [next] at h
        obtain ⟨hc, rfl⟩ := h
        refine ⟨⟨v1, by simp [T.step, dig_of hc], v3, v4, fun e => by simp [T.step] at e, fun e => ⟨rfl, rfl⟩, v7, fun e => by simp [T.step] at e, v9⟩, ?_, ?_⟩
        · simp [T.step, T.text, T.man, T.tail]
        · simp [T.step, T.at_]
      · simp [next, hf] at h
        split at h
        · rename_i hc
          injection h with h; subst h
          have hcc : c = 101 ∨ c = 69 := by rcases hc with hc | hc; exact .inl (u8_eq (k := 101) (by decide) hc); exact .inr (u8_eq (k := 69) (by decide) hc)
          refine ⟨⟨v1, v2, v3, v4, v5, fun e => by simp [T.step] at e, v7, fun e => ⟨w1, fun _ => hf, hcc⟩, v9⟩, ?_, ?_⟩
          · simp [T.step, T.text, T.man, T.tail]
          · simp [T.step, T.at_]
        · split at h
          · rename_i hc
            injection h with h; subst h
            refine ⟨⟨v1, by simp only [T.step]; simp [v2, dig_of hc], v3, v4, fun e => by simp [T.step] at e, fun e => ⟨rfl, rfl⟩, v7, fun e => by simp [T.step] at e, v9⟩, ?_, ?_⟩
            · simp [T.step, T.text, T.man, T.tail]
            · simp [T.step, T.at_]
          · cases h
    | false =>
      have w2 := v5 rfl
      subst w2
      rw [if_neg (by simp)] at h
      by_cases hd : d = []
      · subst hd
        rw [if_pos rfl] at h
        have dig2 : 48 ≤ c.toNat ∧ c.toNat ≤ 57 → p = 2 ∨ p = 3 → (T.step ⟨neg, [], false, [], false, eb, [], []⟩ c p).V ∧ (T.step ⟨neg, [], false, [], false, eb, [], []⟩ c p).text = T.text ⟨neg, [], false, [], false, eb, [], []⟩ ++ [c] := fun hc hp => by
          have e : T.step ⟨neg, [], false, [], false, eb, [], []⟩ c p = ⟨neg, [c], false, [], false, eb, [], []⟩ := by rcases hp with rfl | rfl <;> rfl
          rw [e]
          refine ⟨⟨by simp [dig_of hc], rfl, rfl, by simp, fun _ => rfl, fun _ => ⟨rfl, rfl⟩, fun e => by simp at e, fun e => by simp at e, .inl rfl⟩, ?_⟩
          simp [T.text, T.man, T.tail]
        have at23 : p = 2 ∨ p = 3 → (p = 2 ↔ c = 48) → (T.step ⟨neg, [], false, [], false, eb, [], []⟩ c p).at_ = p := fun hp hc => by
          rcases hp with rfl | rfl
          · have := hc.1 rfl
            subst this
            rfl
          · have : ¬ c = 48 := fun e => by have := hc.2 e; omega
            simp [T.step, T.at_, this]
        have c48 : c.toNat = 48 ↔ c = 48 := ⟨fun e => u8_eq (k := 48) (by decide) e, fun e => by rw [e]; rfl⟩
        cases neg with
        | true =>
          simp [next] at h
          split at h
          · rename_i hc
            injection h with h; subst h
            obtain ⟨h1, h2⟩ := dig2 (by omega) (.inl rfl)
            exact ⟨h1, h2, at23 (.inl rfl) ⟨fun _ => c48.1 hc, fun _ => rfl⟩⟩
          · split at h
            · rename_i hn hc
              injection h with h; subst h
              obtain ⟨h1, h2⟩ := dig2 hc (.inr rfl)
              exact ⟨h1, h2, at23 (.inr rfl) ⟨fun e => by omega, fun e => absurd (c48.2 e) hn⟩⟩
            · cases h
        | false =>
          simp [next] at h
          split at h
          · rename_i hc
            injection h with h; subst h
            have hc' : c = 45 := u8_eq (k := 45) (by decide) hc
            subst hc'
            refine ⟨⟨rfl, rfl, rfl, by simp [T.step], fun _ => rfl, fun _ => ⟨rfl, rfl⟩, fun e => by simp [T.step] at e, fun e => by simp [T.step] at e, .inl rfl⟩, rfl, rfl⟩
          · split at h
            · rename_i hc
              injection h with h; subst h
              obtain ⟨h1, h2⟩ := dig2 (by omega) (.inl rfl)
              exact ⟨h1, h2, at23 (.inl rfl) ⟨fun _ => c48.1 hc, fun _ => rfl⟩⟩
            · split at h
              · rename_i hn hc
                injection h with h; subst h
                obtain ⟨h1, h2⟩ := dig2 hc (.inr rfl)
                exact ⟨h1, h2, at23 (.inr rfl) ⟨fun e => by omega, fun e => absurd (c48.2 e) hn⟩⟩
              · cases h
      · rw [if_neg hd] at h
        have pnt : p = 4 → (T.step ⟨neg, d, false, [], false, eb, [], []⟩ c p).V ∧ (c = 46 → (T.step ⟨neg, d, false, [], false, eb, [], []⟩ c p).text = T.text ⟨neg, d, false, [], false, eb, [], []⟩ ++ [c]) ∧ (T.step ⟨neg, d, false, [], false, eb, [], []⟩ c p).at_ = p := fun e => by
          subst e
          refine ⟨⟨v1, rfl, rfl, v4, fun _ => rfl, fun _ => ⟨rfl, rfl⟩, fun _ => hd, fun e => by simp [T.step] at e, .inl rfl⟩, ?_, ?_⟩
          · rintro rfl; simp [T.step, T.text, T.man, T.tail]
          · simp [T.step, T.at_]
        have exx : p = 6 → (c.toNat = 101 ∨ c.toNat = 69) → (T.step ⟨neg, d, false, [], false, eb, [], []⟩ c p).V ∧ (T.step ⟨neg, d, false, [], false, eb, [], []⟩ c p).text = T.text ⟨neg, d, false, [], false, eb, [], []⟩ ++ [c] ∧ (T.step ⟨neg, d, false, [], false, eb, [], []⟩ c p).at_ = p := fun e hc => by
          subst e
          have hcc : c = 101 ∨ c = 69 := by rcases hc with hc | hc; exact .inl (u8_eq (k := 101) (by decide) hc); exact .inr (u8_eq (k := 69) (by decide) hc)
          refine ⟨⟨v1, rfl, rfl, v4, fun _ => rfl, fun _ => ⟨rfl, rfl⟩, fun e => by simp [T.step] at e, fun _ => ⟨hd, fun e => by simp [T.step] at e, hcc⟩, .inl rfl⟩, ?_, ?_⟩
          · simp [T.step, T.text, T.man, T.tail]
          · simp [T.step, T.at_]
        by_cases hh : d.head? = some 48
        · rw [if_pos hh] at h
          simp [next] at h
          split at h
          · rename_i hc
            injection h with h
            obtain ⟨h1, h2, h3⟩ := pnt h.symm
            exact ⟨h1, h2 (u8_eq (k := 46) (by decide) hc), h3⟩
          · by_cases hc : c.toNat = 101 ∨ c.toNat = 69
            · rw [if_pos hc] at h
              injection h with h
              exact exx h.symm hc
            · rw [if_neg hc] at h; cases h
        · rw [if_neg hh] at h
          simp [next] at h
          split at h
          · rename_i hc
            injection h with h; subst h
            refine ⟨⟨by simp only [T.step]; simp [v1, dig_of hc], rfl, rfl, ?_, fun _ => rfl, fun _ => ⟨rfl, rfl⟩, fun e => by simp [T.step] at e, fun e => by simp [T.step] at e, .inl rfl⟩, ?_, ?_⟩
            · simp only [T.step]
              intro hx
              apply hh
              have := hx.2
              cases d with
              | nil => exact absurd rfl hd
              | cons a t => simpa using this
            · simp [T.step, T.text, T.man, T.tail]
            · cases d with
              | nil => exact absurd rfl hd
              | cons a t =>
                have ha : ¬ a = 48 := by simpa using hh
                simp [T.step, T.at_, ha]
          · split at h
            · rename_i hc
              injection h with h
              obtain ⟨h1, h2, h3⟩ := pnt h.symm
              exact ⟨h1, h2 (u8_eq (k := 46) (by decide) hc), h3⟩
            · by_cases hc : c.toNat = 101 ∨ c.toNat = 69
              · rw [if_pos hc] at h
                injection h with h
                exact exx h.symm hc
              · rw [if_neg hc] at h; cases h

-- the parts of such a text

theorem run_of (l m : Bs) (hl : l.all dig = true) (hm : ∀ b, m.head? = some b → dig b = false) : run (l ++ m) = l.length := Dig.run_app l m hl hm

theorem cutB_app (d u : Bs) (hd : d.all dig = true) (hu : ∀ b, u.head? = some b → dig b = false) : cutB (d ++ u) =
    if 1 < d.length ∧ d.head? = some 48 then none else
    if u = [] then some ⟨d, 0, false, 0, []⟩ else
    if d = [] then none else
    if u.head? = some 46 then cutP d u.tail else cutE d 0 u := by
  unfold cutB
  rw [run_of d u hd hu, List.take_left, List.drop_left]
  by_cases h1 : 1 < d.length
  · have : (d ++ u).head? = d.head? := by cases d with | nil => simp at h1 | cons a t => rfl
    rw [this]
    have h2 : ¬ d.length = 0 := by omega
    have h3 : ¬ d = [] := fun e => by rw [e] at h1; simp at h1
    simp only [h2, h3, if_false]
  · have n1 : ¬ (1 < d.length ∧ (d ++ u).head? = some 48) := fun e => h1 e.1
    have n2 : ¬ (1 < d.length ∧ d.head? = some 48) := fun e => h1 e.1
    rw [if_neg n1, if_neg n2]
    have : (d.length = 0) = (d = []) := by simp
    simp only [this]

theorem cutP_app (d f u : Bs) (hf : f.all dig = true) (hu : ∀ b, u.head? = some b → dig b = false) : cutP d (f ++ u) =
    if u = [] then some ⟨d ++ f, f.length, false, 0, []⟩ else if f = [] then none else cutE (d ++ f) f.length u := by
  unfold cutP
  rw [run_of f u hf hu, List.take_left, List.drop_left]
  have : (f.length = 0) = (f = []) := by simp
  simp only [this]

theorem e_head {eb : UInt8} (h : eb = 101 ∨ eb = 69) (t : Bs) : ∀ b, (eb :: t).head? = some b → dig b = false := by
  intro b hb
  injection hb with hb
  subst hb
  rcases h with rfl | rfl <;> rfl
theorem e_ne {eb : UInt8} (h : eb = 101 ∨ eb = 69) (t : Bs) : ¬ (eb :: t).head? = some 46 := by
  rcases h with rfl | rfl <;> simp
theorem cutE_e {eb : UInt8} (h : eb = 101 ∨ eb = 69) (d : Bs) (m : Nat) (t : Bs) : cutE d m (eb :: t) = cutX d m t := by
  unfold cutE
  rw [if_pos (by rcases h with rfl | rfl <;> simp)]
  rfl
theorem head_dig {x : Bs} (hx : x.all dig = true) (k : UInt8) (hk : dig k = false) : ¬ x.head? = some k := by
  cases x with
  | nil => simp
  | cons a t =>
    intro e
    injection e with e
    subst e
    rw [List.all_cons, hk] at hx
    simp at hx
theorem cutX_app (d : Bs) (m : Nat) (sg x : Bs) (hs : sg = [] ∨ sg = [45] ∨ sg = [43]) (hx : x.all dig = true) : cutX d m (sg ++ x) = some ⟨d, m, true, (if sg = [45] then 45 else if sg = [43] then 43 else 0), x⟩ := by
  unfold cutX
  rcases hs with rfl | rfl | rfl
  · rw [List.nil_append, if_neg (head_dig hx 45 rfl), if_neg (head_dig hx 43 rfl), if_pos hx]; rfl
  · simp [hx]
  · simp [hx]

/-- behind the sign -/
theorem cutO_pre (neg : Bool) (t : Bs) (h : ¬ t.head? = some 45) : cutO ((if neg = true then [45] else []) ++ t) = cutB t := by
  unfold cutO
  cases neg with
  | true => simp
  | false => rw [show ((if false = true then [45] else []) ++ t : Bs) = t from rfl, if_neg h]

theorem man_head (t : T) (v : t.V) (u : Bs) (hu : ¬ u.head? = some 45) (he : t.ex = true → t.tail ≠ []) : ¬ (t.man ++ u).head? = some 45 := by
  unfold T.man
  cases hd : t.d with
  | nil =>
    have : t.pt = false := by
      cases hp : t.pt with
      | false => rfl
      | true => exact absurd hd (v.pd hp)
    rw [this]
    simpa using hu
  | cons a b =>
    have := v.d
    rw [hd] at this
    intro e
    have e2 : a = 45 := by simpa using e
    subst e2
    rw [List.all_cons] at this
    simp [Dig.dig] at this

theorem cut_text (t : T) (v : t.V) : cutO t.text = some t.parts := by
  have hh : ¬ (t.man ++ t.tail).head? = some 45 := by
    refine man_head t v t.tail ?_ (fun e => by unfold T.tail; rw [if_pos e]; simp)
    unfold T.tail
    split
    · rename_i e
      obtain ⟨_, _, h⟩ := v.xd e
      rcases h with h | h <;> rw [h] <;> simp
    · simp
  unfold T.text
  rw [cutO_pre t.neg _ hh]
  obtain ⟨v1, v2, v3, v4, v5, v6, v7, v8, v9⟩ := v
  obtain ⟨neg, d, pt, f, ex, eb, sg, x⟩ := t
  simp only at v1 v2 v3 v4 v5 v6 v7 v8 v9
  simp only [T.man, T.tail, T.parts, T.sgn]
  cases ex with
  | false =>
    obtain ⟨rfl, rfl⟩ := v6 rfl
    cases pt with
    | false =>
      have := v5 rfl
      subst this
      have := cutB_app d [] v1 (by simp)
      simp at this ⊢
      rw [this]
      exact if_neg v4
    | true =>
      have w1 := v7 rfl
      have h1 := cutB_app d (46 :: f) v1 (fun b hb => by injection hb with hb; subst hb; rfl)
      have h2 := cutP_app d f [] v2 (by simp)
      rw [if_neg v4, if_neg (by simp), if_neg w1, if_pos (by rfl)] at h1
      rw [List.append_nil, if_pos rfl] at h2
      simp only [if_true, if_neg (show ¬ (false = true) by simp), List.append_nil]
      rw [h1]
      exact h2
  | true =>
    obtain ⟨w1, w2, w3⟩ := v8 rfl
    have hX := fun m => cutX_app (d ++ f) m sg x v9 v3
    cases pt with
    | false =>
      have := v5 rfl
      subst this
      have h1 := cutB_app d (eb :: (sg ++ x)) v1 (e_head w3 _)
      rw [if_neg v4, if_neg (by simp), if_neg w1, if_neg (e_ne w3 _), cutE_e w3] at h1
      have := hX 0
      rw [List.append_nil] at this
      simp only [if_true, if_neg (show ¬ (false = true) by simp), List.append_nil]
      rw [h1, this]
      rfl
    | true =>
      have w4 := w2 rfl
      have h1 := cutB_app d (46 :: (f ++ eb :: (sg ++ x))) v1 (fun b hb => by injection hb with hb; subst hb; rfl)
      have h2 := cutP_app d f (eb :: (sg ++ x)) v2 (e_head w3 _)
      rw [if_neg v4, if_neg (by simp), if_neg w1, if_pos (by rfl)] at h1
      rw [if_neg (by simp), if_neg w4, cutE_e w3, hX] at h2
      simp only [if_true, List.append_assoc, List.cons_append]
      rw [h1]
      exact h2

theorem cutE_bad (d : Bs) (m : Nat) (c : UInt8) (h : ¬ (c.toNat = 101 ∨ c.toNat = 69)) : cutE d m [c] = none := by
  unfold cutE
  rw [if_neg]
  rintro (e | e) <;> injection e with e <;> subst e <;> exact h (by decide)

theorem cutX_bad (d : Bs) (m : Nat) (sg y : Bs) (hs : sg = [] ∨ sg = [45] ∨ sg = [43]) (hy : ¬ y.all dig = true) (hh : sg = [] → ¬ y.head? = some 45 ∧ ¬ y.head? = some 43) : cutX d m (sg ++ y) = none := by
  unfold cutX
  rcases hs with rfl | rfl | rfl
  · obtain ⟨h1, h2⟩ := hh rfl
    rw [List.nil_append, if_neg h1, if_neg h2, if_neg hy]
  · simpa using hy
  · simpa using hy

theorem all_snoc_bad (x : Bs) (c : UInt8) (h : dig c = false) : ¬ (x ++ [c]).all dig = true := by rw [List.all_append]; simp [h]

theorem head_one {c : UInt8} (h : dig c = false) : ∀ b, ([c] : Bs).head? = some b → dig b = false := by
  intro b hb; injection hb with hb; subst hb; exact h

theorem cut_bad (t : T) (v : t.V) (c : UInt8) (h : next t.at_ c.toNat = none) : cutO (t.text ++ [c]) = none := by
  have hman := fun u hu => man_head t v u hu
  obtain ⟨v1, v2, v3, v4, v5, v6, v7, v8, v9⟩ := v
  obtain ⟨neg, d, pt, f, ex, eb, sg, x⟩ := t
  simp only at v1 v2 v3 v4 v5 v6 v7 v8 v9
  unfold T.at_ at h
  simp only [T.man, T.tail] at hman
  simp only [T.text, T.man, T.tail]
  simp only at h
  cases ex with
  | true =>
    obtain ⟨w1, w2, w3⟩ := v8 rfl
    rw [if_pos rfl] at h
    have hx : ∀ d' m, cutX d' m (sg ++ (x ++ [c])) = none := by
      intro d' m
      by_cases hx : x = []
      · subst hx
        by_cases hs : sg = []
        · subst hs
          simp [next] at h
          split at h
          · cases h
          · rename_i h1
            split at h
            · cases h
            · rename_i h2
              refine cutX_bad d' m [] _ (.inl rfl) (all_snoc_bad [] c (not_dig h2)) (fun _ => ⟨fun e => ?_, fun e => ?_⟩)
              · injection e with e; subst e; exact h1 (.inl rfl)
              · injection e with e; subst e; exact h1 (.inr rfl)
        · simp [next, hs] at h
          exact cutX_bad d' m sg _ v9 (all_snoc_bad [] c (not_dig (by omega))) (fun e => absurd e hs)
      · simp [next, hx] at h
        refine cutX_bad d' m sg _ v9 (all_snoc_bad x c (not_dig (by omega))) (fun _ => ?_)
        cases x with
        | nil => exact absurd rfl hx
        | cons a r =>
          have := head_dig v3
          exact ⟨fun e => this 45 rfl e, fun e => this 43 rfl e⟩
    have e0 : (if neg = true then [45] else []) ++ ((d ++ if pt = true then 46 :: f else []) ++ (eb :: (sg ++ x))) ++ [c] = (if neg = true then [45] else []) ++ ((d ++ if pt = true then 46 :: f else []) ++ (eb :: (sg ++ (x ++ [c])))) := by simp
    simp only [if_true] at hman ⊢
    rw [e0, cutO_pre neg _ (hman _ (by rcases w3 with h | h <;> rw [h] <;> simp) (fun _ => by simp))]
    cases pt with
    | false =>
      have := v5 rfl
      subst this
      have h1 := cutB_app d (eb :: (sg ++ (x ++ [c]))) v1 (e_head w3 _)
      rw [if_neg v4, if_neg (by simp), if_neg w1, if_neg (e_ne w3 _), cutE_e w3, hx] at h1
      simpa using h1
    | true =>
      have w4 := w2 rfl
      have h1 := cutB_app d (46 :: (f ++ eb :: (sg ++ (x ++ [c])))) v1 (fun b hb => by injection hb with hb; subst hb; rfl)
      have h2 := cutP_app d f (eb :: (sg ++ (x ++ [c]))) v2 (e_head w3 _)
      rw [if_neg v4, if_neg (by simp), if_neg w1, if_pos (by rfl)] at h1
      rw [if_neg (by simp), if_neg w4, cutE_e w3, hx] at h2
      simp only [if_true, List.append_assoc, List.cons_append]
      rw [h1]
      exact h2
  | false =>
    obtain ⟨rfl, rfl⟩ := v6 rfl
    rw [if_neg (by simp)] at h
    simp only [if_neg (show ¬ (false = true) by simp)] at hman ⊢
    cases pt with
    | true =>
      have w1 := v7 rfl
      rw [if_pos rfl] at h
      simp only [if_true] at hman ⊢
      have hc : ¬ (48 ≤ c.toNat ∧ c.toNat ≤ 57) := by
        by_cases hf : f = []
        · simp [next, hf] at h; omega
        · simp [next, hf] at h
          split at h
          · cases h
          · split at h
            · cases h
            · assumption
      have hE : f = [] ∨ cutE (d ++ f) f.length [c] = none := by
        by_cases hf : f = []
        · exact .inl hf
        · simp [next, hf] at h
          split at h
          · cases h
          · rename_i h2
            exact .inr (cutE_bad _ _ c h2)
      have e0 : (if neg = true then [45] else []) ++ ((d ++ 46 :: f) ++ []) ++ [c] = (if neg = true then [45] else []) ++ ((d ++ 46 :: f) ++ [c]) := by simp
      rw [e0, cutO_pre neg _ (by
        cases d with
        | nil => exact absurd rfl w1
        | cons a r =>
          intro e
          have e2 : a = 45 := by simpa using e
          subst e2
          rw [List.all_cons] at v1
          simp [Dig.dig] at v1)]
      have h1 := cutB_app d (46 :: (f ++ [c])) v1 (fun b hb => by injection hb with hb; subst hb; rfl)
      have h2 := cutP_app d f [c] v2 (head_one (not_dig hc))
      rw [if_neg v4, if_neg (by simp), if_neg w1, if_pos (by rfl)] at h1
      rw [if_neg (by simp)] at h2
      have h3 : cutP d (f ++ [c]) = none := by
        rw [h2]
        rcases hE with hf | hE
        · rw [if_pos hf]
        · rw [hE]; split <;> rfl
      simp only [List.append_assoc, List.cons_append]
      rw [h1]
      exact h3
    | false =>
      have := v5 rfl
      subst this
      rw [if_neg (by simp)] at h
      simp only [if_neg (show ¬ (false = true) by simp), List.append_nil] at hman ⊢
      by_cases hd : d = []
      · subst hd
        rw [if_pos rfl] at h
        have key : dig c = false → cutB [c] = none := fun hc => by
          have := cutB_app [] [c] rfl (head_one hc)
          rw [List.nil_append] at this
          rw [this]
          simp
        cases neg with
        | true =>
          have hc : ¬ (48 ≤ c.toNat ∧ c.toNat ≤ 57) := fun hc => by
            simp [next, hc] at h
            split at h <;> cases h
          exact key (not_dig hc)
        | false =>
          have hc : ¬ (48 ≤ c.toNat ∧ c.toNat ≤ 57) := fun hc => by
            simp [next, hc] at h
            split at h
            · cases h
            · split at h <;> cases h
          have h45 : ¬ ([c] : Bs).head? = some 45 := by
            intro e; injection e with e; subst e; simp [next] at h
          show cutO [c] = none
          unfold cutO
          rw [if_neg h45]
          exact key (not_dig hc)
      · rw [if_neg hd] at h
        have hh : ∀ u : Bs, ¬ (d ++ u).head? = some 45 := fun u e => by
          cases d with
          | nil => exact absurd rfl hd
          | cons a r =>
            have e2 : a = 45 := by simpa using e
            subst e2
            rw [List.all_cons] at v1
            simp [Dig.dig] at v1
        rw [List.append_assoc, cutO_pre neg _ (hh [c])]
        by_cases hdc : 48 ≤ c.toNat ∧ c.toNat ≤ 57
        · have h48 : d.head? = some 48 := by
            by_cases hh : d.head? = some 48
            · exact hh
            · rw [if_neg hh] at h
              simp [next, hdc] at h
          have := cutB_app (d ++ [c]) [] (by rw [List.all_append, v1]; simp [dig_of hdc]) (by simp)
          rw [List.append_nil] at this
          rw [this, if_pos]
          refine ⟨?_, ?_⟩
          · have := List.length_pos_iff.2 hd
            rw [List.length_append]; simp; omega
          · cases d with
            | nil => exact absurd rfl hd
            | cons a r => simpa using h48
        · have hrest : ¬ c.toNat = 46 ∧ ¬ (c.toNat = 101 ∨ c.toNat = 69) := by
            by_cases hh : d.head? = some 48
            · rw [if_pos hh] at h
              simp [next] at h
              split at h
              · cases h
              · rename_i h1
                refine ⟨h1, fun h2 => ?_⟩
                simp [h2] at h
            · rw [if_neg hh] at h
              simp [next, hdc] at h
              split at h
              · cases h
              · rename_i h1
                refine ⟨h1, fun h2 => ?_⟩
                simp [h2] at h
          have := cutB_app d [c] v1 (head_one (not_dig hdc))
          rw [if_neg v4, if_neg (by simp), if_neg hd, if_neg (by intro e; injection e with e; subst e; exact hrest.1 rfl), cutE_bad _ _ c hrest.2] at this
          exact this
end Go.Proofs.YthdncmagfgoboaaGreatDoor.Num
