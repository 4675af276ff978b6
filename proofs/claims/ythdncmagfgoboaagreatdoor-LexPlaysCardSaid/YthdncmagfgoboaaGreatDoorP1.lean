/- One of the texts that lead to the theorem lexPlays.proved: the conditions stand in each theorem. -/
set_option linter.unusedSimpArgs false
set_option linter.unusedVariables false
set_option maxRecDepth 100000
namespace Sq
def isS (c : Nat) : Bool := decide (c < 55296) || (decide (57343 < c) && decide (c ≤ 1114111))
def non (c : Nat) : Bool := (decide (64976 ≤ c) && decide (c ≤ 65007)) || (isS c && decide (65534 ≤ c % 65536))
def enc (c : Nat) : List UInt8 :=
 if isS c = false then []
 else if c < 128 then [UInt8.ofNat c]
 else if c < 2048 then [UInt8.ofNat (192 + c / 64), UInt8.ofNat (128 + c % 64)]
 else if c < 65536 then [UInt8.ofNat (224 + c / 4096), UInt8.ofNat (128 + c / 64 % 64), UInt8.ofNat (128 + c % 64)]
 else [UInt8.ofNat (240 + c / 262144), UInt8.ofNat (128 + c / 4096 % 64), UInt8.ofNat (128 + c / 64 % 64), UInt8.ofNat (128 + c % 64)]
def text : List Nat → List UInt8
 | [] => []
 | c :: l => enc c ++ text l
theorem text_append (a b : List Nat) : text (a ++ b) = text a ++ text b := by
 induction a with
 | nil => rfl
 | cons c l ih => simp [text, ih]
theorem enc_len (c : Nat) : (enc c).length ≤ 4 := by
 unfold enc; split; · simp
 split; · simp
 split; · simp
 split <;> simp
theorem text_len (l : List Nat) : (text l).length ≤ 4 * l.length := by
 induction l with
 | nil => simp [text]
 | cons c l ih => simp only [text, List.length_append, List.length_cons]; have := enc_len c; omega
def long (x : Nat) : Nat := if x < 128 then 1 else if 194 ≤ x ∧ x ≤ 223 then 2 else if 224 ≤ x ∧ x ≤ 239 then 3 else if 240 ≤ x ∧ x ≤ 244 then 4 else 0
def second (f x : Nat) : Bool :=
 if f = 224 then decide (160 ≤ x ∧ x ≤ 191) else if f = 237 then decide (128 ≤ x ∧ x ≤ 159) else if f = 240 then decide (144 ≤ x ∧ x ≤ 191)
 else if f = 244 then decide (128 ≤ x ∧ x ≤ 143) else decide (128 ≤ x ∧ x ≤ 191)
def tailB (x : Nat) : Bool := decide (128 ≤ x ∧ x ≤ 191)
def okAt (f : Nat) (i : Nat) (x : UInt8) : Bool := (decide (i ≠ 1) || second f x.toNat) && tailB x.toNat
def okFrom (f : Nat) : Nat → List UInt8 → Bool
 | _, [] => true
 | i, x :: l => okAt f i x && okFrom f (i + 1) l
def how : List UInt8 → Nat
 | [] => 0
 | f :: l => if 4 < l.length + 1 then 0 else if long f.toNat < l.length + 1 then 0 else if okFrom f.toNat 1 l = false then 0 else if long f.toNat = l.length + 1 then 2 else 1
def base (n : Nat) : Nat := if n = 2 then 192 else if n = 3 then 224 else if n = 4 then 240 else 0
def cum (c : Nat) (l : List UInt8) : Nat := l.foldl (fun c x => c * 64 + x.toNat - 128) c
def of : List UInt8 → Nat
 | [] => 0
 | f :: l => cum (f.toNat - base (l.length + 1)) l
theorem okFrom_append (f : Nat) (l m : List UInt8) (i : Nat) : okFrom f i (l ++ m) = (okFrom f i l && okFrom f (i + l.length) m) := by
 induction l generalizing i with
 | nil => simp [okFrom]
 | cons x l ih =>
  simp only [List.cons_append, okFrom, ih, List.length_cons, Bool.and_assoc]
  rw [show i + 1 + l.length = i + (l.length + 1) by omega]
theorem long_le (x : Nat) : long x ≤ 4 := by unfold long; (repeat' split) <;> omega
theorem how_cons (f : UInt8) (l : List UInt8) : how (f :: l) = if 4 < l.length + 1 then 0 else if long f.toNat < l.length + 1 then 0 else if okFrom f.toNat 1 l = false then 0 else if long f.toNat = l.length + 1 then 2 else 1 := rfl
theorem how_snoc (f : UInt8) (l : List UInt8) (x : UInt8) (h : how (f :: l) = 1) :
 how (f :: (l ++ [x])) = if okAt f.toNat (l.length + 1) x = false then 0 else if l.length + 2 < long f.toNat then 1 else 2 := by
 have h4 := long_le f.toNat
 rw [how_cons] at h ⊢
 simp only [List.length_append, List.length_cons, List.length_nil, okFrom_append, okFrom] at h ⊢
 split at h; · cases h
 split at h; · cases h
 split at h; · cases h
 split at h; · cases h
 rename_i h1 h2 h3 h5
 have h6 : l.length + 2 ≤ long f.toNat := by omega
 rw [if_neg (by omega), if_neg (by omega)]
 rw [show 1 + l.length = l.length + 1 by omega]
 cases hk : okAt f.toNat (l.length + 1) x
 · simp
 · simp at h3
   simp [h3]
   by_cases h7 : l.length + 2 < long f.toNat
   · rw [if_neg (by omega), if_pos h7]
   · rw [if_pos (by omega), if_neg h7]
theorem how_one (x : UInt8) : how [x] = if long x.toNat = 0 then 0 else if long x.toNat = 1 then 2 else 1 := by
 rw [how_cons]
 by_cases h : long x.toNat = 0
 · simp [h]
 · by_cases h1 : long x.toNat = 1
   · simp [h1, okFrom]
   · have : 1 < long x.toNat := by omega
     simp [okFrom, h, h1]
theorem how_len {b : List UInt8} (h : how b = 1) : 0 < b.length ∧ b.length ≤ 3 := by
 cases b with
 | nil => cases h
 | cons f l =>
  have h4 := long_le f.toNat
  rw [how_cons] at h
  split at h; · cases h
  split at h; · cases h
  split at h; · cases h
  split at h; · cases h
  simp only [List.length_cons]
  omega
theorem how_take {b : List UInt8} (h : how b ≠ 0) (k : Nat) (h1 : 0 < k) (h2 : k < b.length) : how (b.take k) = 1 := by
 cases b with
 | nil => simp at h2
 | cons f l =>
  obtain ⟨k, rfl⟩ : ∃ j, k = j + 1 := ⟨k - 1, by omega⟩
  simp only [List.length_cons] at h2
  rw [List.take_succ_cons]
  rw [how_cons] at h ⊢
  split at h; · exact absurd rfl h
  split at h; · exact absurd rfl h
  split at h; · exact absurd rfl h
  rename_i h3 h4 h5
  have h6 : (l.take k).length = k := by rw [List.length_take]; omega
  have h7 : okFrom f.toNat 1 (l.take k) = true := by
   have := okFrom_append f.toNat (l.take k) (l.drop k) 1
   rw [List.take_append_drop] at this
   rw [this] at h5
   simp at h5
   exact h5.1
  rw [h6, if_neg (by omega), if_neg (by omega), h7, if_neg (by decide), if_neg (by omega)]
def hex (x : UInt8) : Option Nat := if 48 ≤ x.toNat ∧ x.toNat ≤ 57 then some (x.toNat - 48) else if 97 ≤ x.toNat ∧ x.toNat ≤ 102 then some (x.toNat - 87) else if 65 ≤ x.toNat ∧ x.toNat ≤ 70 then some (x.toNat - 55) else none
theorem hex_lt {x : UInt8} {k : Nat} (h : hex x = some k) : k < 16 := by
 unfold hex at h
 split at h; · injection h; omega
 split at h; · injection h; omega
 split at h; · injection h; omega
 cases h
def simple (x : UInt8) : Option Nat := if x = 34 then some 34 else if x = 92 then some 92 else if x = 47 then some 47 else if x = 98 then some 8 else if x = 102 then some 12 else if x = 110 then some 10 else if x = 114 then some 13 else if x = 116 then some 9 else none
structure St where
 out : List Nat
 b : List UInt8
 esc : Nat
 hx : List Nat
 wait : Nat
 over : Bool
def high (u : Nat) : Bool := decide (55296 ≤ u ∧ u ≤ 56319)
def low (u : Nat) : Bool := decide (56320 ≤ u ∧ u ≤ 57343)
def join (h l : Nat) : Nat := 65536 + (h - 55296) * 1024 + (l - 56320)
def val (l : List Nat) : Nat := l.foldl (fun u k => u * 16 + k) 0
theorem val_snoc (l : List Nat) (k : Nat) : val (l ++ [k]) = val l * 16 + k := by simp [val]
def at0 (l : List Nat) (i : Nat) : Nat := (l[i]?).getD 0
def digits (s : St) (x : UInt8) : Except Nat St :=
 match hex x with
 | none => .error 2
 | some k =>
  let h := s.hx ++ [k]
  let low := decide (2 ≤ h.length) && decide (at0 h 0 = 13) && decide (12 ≤ at0 h 1)
  if (0 < s.wait ∧ (at0 h 0 ≠ 13 ∨ (2 ≤ h.length ∧ low = false))) ∨ (s.wait = 0 ∧ low = true) then .error 5
  else if s.wait = 0 ∧ h.length = 3 ∧ at0 h 0 = 15 ∧ at0 h 1 = 13 ∧ (at0 h 2 = 13 ∨ at0 h 2 = 14) then .error 6
  else if h.length < 4 then .ok { s with hx := h }
  else
   let u := val h
   if s.wait = 0 ∧ high u = true then .ok { s with hx := [], esc := 0, wait := u }
   else
    let c := if 0 < s.wait then join s.wait u else u
    if non c = true then .error 6 else .ok { s with out := s.out ++ [c], hx := [], esc := 0, wait := 0 }
def escape (s : St) (x : UInt8) : Except Nat St :=
 if x = 117 then .ok { s with esc := 2 }
 else match simple x with
  | none => .error 2
  | some c => if 0 < s.wait then .error 5 else .ok { s with out := s.out ++ [c], esc := 0 }
def bytes (s : St) (x : UInt8) : Except Nat St :=
 if how (s.b ++ [x]) = 0 then .error 4
 else if 0 < s.wait then .error 5
 else if how (s.b ++ [x]) = 1 then .ok { s with b := s.b ++ [x] }
 else if non (of (s.b ++ [x])) = true then .error 6
 else .ok { s with out := s.out ++ [of (s.b ++ [x])], b := [] }
def push (s : St) (x : UInt8) : Except Nat (St × Bool) :=
 if s.over = true ∨ x.toNat < 32 then .error 2
 else if s.esc = 2 then (digits s x).map (·, false)
 else if s.esc = 1 then (escape s x).map (·, false)
 else if 0 < s.b.length ∨ 128 ≤ x.toNat then (bytes s x).map (·, false)
 else if x = 92 then .ok ({ s with esc := 1 }, false)
 else if 0 < s.wait then .error 5
 else if x = 34 then .ok ({ s with over := true }, true)
 else .ok ({ s with out := s.out ++ [x.toNat] }, false)
structure Ok (s : St) : Prop where
 esc : s.esc ≤ 2
 b : s.b = [] ∨ how s.b = 1
 be : 0 < s.esc → s.b = []
 hx : s.hx.length ≤ 3 ∧ ∀ k ∈ s.hx, k < 16
 he : s.esc ≠ 2 → s.hx = []
 wait : s.wait = 0 ∨ high s.wait = true
 bw : 0 < s.wait → s.b = []
def start : St := ⟨[], [], 0, [], 0, false⟩
theorem ok_start : Ok start := ⟨by simp [start], .inl rfl, fun _ => rfl, by simp [start], fun _ => rfl, .inl rfl, fun _ => rfl⟩
def plow (u many : Nat) : Bool := (decide (many = 1) && decide (u = 13)) || (decide (2 ≤ many) && low (u * 16 ^ (4 - many) % 65536))
def pwrong (wait u many : Nat) : Nat :=
 if (wait ≠ 0 ∧ plow u many = false) ∨ (wait = 0 ∧ 2 ≤ many ∧ plow u many = true) then 5
 else if wait = 0 ∧ ((many = 3 ∧ (u = 4061 ∨ u = 4062)) ∨ (many = 4 ∧ non u = true)) then 6
 else if high wait = true ∧ low u = true ∧ many = 4 ∧ non (join wait u) = true then 6 else 0
theorem wY {u : Nat} (h : high u = true) : non u = false := by
 simp [high] at h
 simp [non, isS]
 omega
theorem wR {u : Nat} (h : low u = true) : high u = false := by
 simp [low] at h
 simp [high]
 omega
theorem plow_1 (a : Nat) (_ : a < 16) : plow a 1 = decide (a = 13) := by simp [plow]
theorem plow_2 (a b : Nat) (ha : a < 16) (hb : b < 16) : plow (a * 16 + b) 2 = (decide (a = 13) && decide (12 ≤ b)) := by
 rw [Bool.eq_iff_iff]; simp [plow, low]; omega
theorem plow_3 (a b c : Nat) (ha : a < 16) (hb : b < 16) (hc : c < 16) : plow ((a * 16 + b) * 16 + c) 3 = (decide (a = 13) && decide (12 ≤ b)) := by
 rw [Bool.eq_iff_iff]; simp [plow, low]; omega
theorem plow_4 (a b c d : Nat) (ha : a < 16) (hb : b < 16) (hc : c < 16) (hd : d < 16) : plow (((a * 16 + b) * 16 + c) * 16 + d) 4 = (decide (a = 13) && decide (12 ≤ b)) := by
 rw [Bool.eq_iff_iff]; simp [plow, low]; omega
theorem low_4 (a b c d : Nat) (ha : a < 16) (hb : b < 16) (hc : c < 16) (hd : d < 16) : low (((a * 16 + b) * 16 + c) * 16 + d) = (decide (a = 13) && decide (12 ≤ b)) := by
 rw [Bool.eq_iff_iff]; simp [low]; omega
theorem digits_eq (s : St) (x : UInt8) (k : Nat) (hs : Ok s) (hk : hex x = some k) :
 digits s x = if pwrong s.wait (val s.hx * 16 + k) (s.hx.length + 1) ≠ 0 then .error (pwrong s.wait (val s.hx * 16 + k) (s.hx.length + 1))
  else if s.hx.length + 1 < 4 then .ok { s with hx := s.hx ++ [k] }
  else if high s.wait = true ∧ low (val s.hx * 16 + k) = true then .ok { s with out := s.out ++ [join s.wait (val s.hx * 16 + k)], hx := [], esc := 0, wait := 0 }
  else if high (val s.hx * 16 + k) = true then .ok { s with hx := [], esc := 0, wait := val s.hx * 16 + k }
  else .ok { s with out := s.out ++ [val s.hx * 16 + k], hx := [], esc := 0, wait := 0 } := by
 have hk16 := hex_lt hk
 obtain ⟨hl, hm⟩ := hs.hx
 have hw := hs.wait
 unfold digits
 rw [hk]
 simp only [val_snoc, List.length_append, List.length_singleton]
 generalize hu : val s.hx * 16 + k = u at *
 generalize s.hx = hx at *
 generalize hsw : s.wait = wt at *
 match hx, hl with
 | [], _ =>
  have hu1 : k = u := by simpa [val] using hu
  have p1 : plow u 1 = decide (k = 13) := by rw [← hu1]; exact plow_1 k hk16
  simp only [List.nil_append, List.length_nil, at0, pwrong]
  simp only [Nat.zero_add, Nat.reduceAdd, p1]
  clear hu p1
  by_cases h0 : wt = 0 <;> by_cases h1 : k = 13 <;> simp [h0, h1] <;> (try omega)
 | [a], _ =>
  have ha := hm a (by simp)
  have hu1 : a * 16 + k = u := by simpa [val] using hu
  have p1 : plow u 2 = (decide (a = 13) && decide (12 ≤ k)) := by rw [← hu1]; exact plow_2 a k ha hk16
  simp only [at0, List.cons_append, List.nil_append, List.length_cons, List.length_nil, pwrong]
  simp only [Nat.zero_add, Nat.reduceAdd, p1]
  clear hu p1 hm
  by_cases h0 : wt = 0 <;> by_cases h1 : a = 13 <;> by_cases h2 : 12 ≤ k <;> simp [h0, h1, h2] <;> (try omega)
 | [a, b], _ =>
  have ha := hm a (by simp)
  have hb := hm b (by simp)
  have hu1 : (a * 16 + b) * 16 + k = u := by simpa [val] using hu
  have p1 : plow u 3 = (decide (a = 13) && decide (12 ≤ b)) := by rw [← hu1]; exact plow_3 a b k ha hb hk16
  simp only [at0, List.cons_append, List.nil_append, List.length_cons, List.length_nil, pwrong]
  simp only [Nat.zero_add, Nat.reduceAdd, p1]
  have e : (u = 4061 ∨ u = 4062) ↔ (a = 15 ∧ b = 13 ∧ (k = 13 ∨ k = 14)) := by omega
  simp only [e]
  clear hu p1 hm e
  by_cases h0 : wt = 0 <;> by_cases h1 : a = 13 <;> by_cases h2 : 12 ≤ b <;> by_cases h3 : (a = 15 ∧ b = 13 ∧ (k = 13 ∨ k = 14)) <;> simp [h0, h1, h2, h3] <;> (try omega)
 | [a, b, c], _ =>
  have ha := hm a (by simp)
  have hb := hm b (by simp)
  have hc := hm c (by simp)
  have hu1 : ((a * 16 + b) * 16 + c) * 16 + k = u := by simpa [val] using hu
  have p1 : plow u 4 = (decide (a = 13) && decide (12 ≤ b)) := by rw [← hu1]; exact plow_4 a b c k ha hb hc hk16
  have hl4 : low u = (decide (a = 13) && decide (12 ≤ b)) := by rw [← hu1]; exact low_4 a b c k ha hb hc hk16
  simp only [at0, List.cons_append, List.nil_append, List.length_cons, List.length_nil, pwrong]
  simp only [Nat.zero_add, Nat.reduceAdd, p1]
  have hn := @wY u
  have hlh := @wR u
  clear hu hu1 p1 hm
  simp only [hl4] at hlh ⊢
  clear hl4
  have hz : high 0 = false := rfl
  rcases hw with hw | hw
  · subst hw
    by_cases h1 : a = 13 <;> by_cases h2 : 12 ≤ b <;> cases hhu : high u <;> cases hnu : non u <;> simp [h1, h2, hz, hhu, hnu] at hn hlh ⊢
  · have h0 : wt ≠ 0 := fun q => by rw [q] at hw; simp [high] at hw
    have h00 : 0 < wt := by omega
    by_cases h1 : a = 13 <;> by_cases h2 : 12 ≤ b <;> cases hnj : non (join wt u) <;> simp [h0, h00, h1, h2, hw, hnj]
theorem uP {s s' : St} {x : UInt8} (hs : Ok s) (he : s.esc = 2) (h : digits s x = .ok s') : Ok s' := by
 cases hk : hex x with
 | none => unfold digits at h; rw [hk] at h; cases h
 | some k =>
  rw [digits_eq s x k hs hk] at h
  have hk16 := hex_lt hk
  have hb := hs.be (by omega)
  split at h; · cases h
  split at h
  · rename_i h3
    injection h with h; rw [← h]
    exact ⟨hs.esc, hs.b, hs.be, ⟨by simp; omega, fun y hy => by
     rw [List.mem_append] at hy
     rcases hy with hy | hy
     · exact hs.hx.2 y hy
     · simp at hy; omega⟩, fun q => absurd he q, hs.wait, hs.bw⟩
  split at h
  · injection h with h; rw [← h]
    exact ⟨by simp, hs.b, fun _ => hb, by simp, fun _ => rfl, .inl rfl, fun _ => hb⟩
  split at h
  · rename_i h3
    injection h with h; rw [← h]
    exact ⟨by simp, hs.b, fun _ => hb, by simp, fun _ => rfl, .inr h3, fun _ => hb⟩
  · injection h with h; rw [← h]
    exact ⟨by simp, hs.b, fun _ => hb, by simp, fun _ => rfl, .inl rfl, fun _ => hb⟩
theorem uN {s s' : St} {x : UInt8} (hs : Ok s) (he : s.esc = 1) (h : escape s x = .ok s') : Ok s' := by
 have hb := hs.be (by omega)
 have hx := hs.he (by omega)
 unfold escape at h
 split at h
 · injection h with h; rw [← h]
   exact ⟨by simp, hs.b, fun _ => hb, by simp [hx], fun _ => hx, hs.wait, hs.bw⟩
 split at h; · cases h
 split at h; · cases h
 injection h with h; rw [← h]
 exact ⟨by simp, hs.b, fun _ => hb, by simp [hx], fun _ => hx, hs.wait, hs.bw⟩
theorem xR {s s' : St} {x : UInt8} (hs : Ok s) (he : s.esc = 0) (h : bytes s x = .ok s') : Ok s' := by
 have hx := hs.he (by omega)
 unfold bytes at h
 split at h; · cases h
 split at h; · cases h
 split at h
 · rename_i h1 h2 h3
   injection h with h; rw [← h]
   exact ⟨by simp [he], .inr h3, fun q => absurd he (by simp at q; omega), by simp [hx], fun _ => hx, hs.wait, fun q => absurd q h2⟩
 split at h; · cases h
 injection h with h; rw [← h]
 exact ⟨by simp [he], .inl rfl, fun q => rfl, by simp [hx], fun _ => hx, hs.wait, fun _ => rfl⟩
theorem push_ok {s s' : St} {x : UInt8} {o : Bool} (hs : Ok s) (h : push s x = .ok (s', o)) : Ok s' := by
 have h2 := hs.esc
 unfold push at h
 split at h; · cases h
 split at h
 · rename_i he
   cases hd : digits s x with
   | error k => rw [hd] at h; cases h
   | ok s1 => rw [hd] at h; injection h with h; injection h with h; rw [← h]; exact uP hs he hd
 split at h
 · rename_i he
   cases hd : escape s x with
   | error k => rw [hd] at h; cases h
   | ok s1 => rw [hd] at h; injection h with h; injection h with h; rw [← h]; exact uN hs he hd
 have he : s.esc = 0 := by omega
 have hx := hs.he (by omega)
 split at h
 · cases hd : bytes s x with
   | error k => rw [hd] at h; cases h
   | ok s1 => rw [hd] at h; injection h with h; injection h with h; rw [← h]; exact xR hs he hd
 rename_i hb
 have hb0 : s.b = [] := List.eq_nil_of_length_eq_zero (by omega)
 split at h
 · injection h with h; injection h with h; rw [← h]
   exact ⟨by simp, hs.b, fun _ => hb0, by simp [hx], fun _ => hx, hs.wait, hs.bw⟩
 split at h; · cases h
 split at h
 · injection h with h; injection h with h; rw [← h]
   exact ⟨by simp [he], hs.b, fun _ => hb0, by simp [hx], fun _ => hx, hs.wait, hs.bw⟩
 · injection h with h; injection h with h; rw [← h]
   exact ⟨by simp [he], hs.b, fun _ => hb0, by simp [hx], fun _ => hx, hs.wait, hs.bw⟩
theorem push_len {s s' : St} {x : UInt8} {o : Bool} (hs : Ok s) (h : push s x = .ok (s', o)) : s'.out.length ≤ s.out.length + 1 := by
 unfold push at h
 split at h; · cases h
 split at h
 · cases hd : digits s x with
   | error k => rw [hd] at h; cases h
   | ok s1 =>
    rw [hd] at h; injection h with h; injection h with h; rw [← h]
    cases hk : hex x with
    | none => unfold digits at hd; rw [hk] at hd; cases hd
    | some k =>
     rw [digits_eq s x k hs hk] at hd
     split at hd; · cases hd
     repeat' split at hd
     all_goals (injection hd with hd; rw [← hd]; simp)
 split at h
 · cases hd : escape s x with
   | error k => rw [hd] at h; cases h
   | ok s1 =>
    rw [hd] at h; injection h with h; injection h with h; rw [← h]
    unfold escape at hd
    split at hd; · injection hd with hd; rw [← hd]; simp
    split at hd; · cases hd
    split at hd; · cases hd
    injection hd with hd; rw [← hd]; simp
 split at h
 · cases hd : bytes s x with
   | error k => rw [hd] at h; cases h
   | ok s1 =>
    rw [hd] at h; injection h with h; injection h with h; rw [← h]
    unfold bytes at hd
    split at hd; · cases hd
    split at hd; · cases hd
    split at hd; · injection hd with hd; rw [← hd]; simp
    split at hd; · cases hd
    injection hd with hd; rw [← hd]; simp
 split at h; · injection h with h; injection h with h; rw [← h]; simp
 split at h; · cases h
 split at h; · injection h with h; injection h with h; rw [← h]; simp
 injection h with h; injection h with h; rw [← h]; simp
def lens : List Nat := [1, 1, 1, 1, 1, 1, 1, 1, 1, 1, 1, 1, 1, 1, 1, 1, 0, 0, 0, 0, 0, 0, 0, 0, 2, 2, 2, 2, 3, 3, 4, 0]
theorem long_lens (x : Nat) (h : x < 256) : long x = if x = 192 ∨ x = 193 ∨ 244 < x then 0 else at0 lens (x / 8) := by
 have key : ∀ n : Fin 256, long n.val = if n.val = 192 ∨ n.val = 193 ∨ 244 < n.val then 0 else at0 lens (n.val / 8) := by decide
 exact key ⟨x, h⟩
def lows : List UInt8 := [160, 128, 128, 128, 128, 128, 128, 128, 128, 128, 128, 128, 128, 128, 128, 128, 144, 128, 128, 128, 128]
def highs : List UInt8 := [191, 191, 191, 191, 191, 191, 191, 191, 191, 191, 191, 191, 191, 159, 191, 191, 191, 191, 191, 191, 143]
theorem second_tab (f x : Nat) (h1 : 224 ≤ f) (h2 : f ≤ 244) (hx : x < 256) : ∃ a b : UInt8, lows[f - 224]? = some a ∧ highs[f - 224]? = some b ∧ second f x = (decide (a.toNat ≤ x) && decide (x ≤ b.toNat)) := by
 have key : ∀ n : Fin 21, ∃ a b : UInt8, lows[n.val]? = some a ∧ highs[n.val]? = some b ∧ ∀ x, second (n.val + 224) x = (decide (a.toNat ≤ x) && decide (x ≤ b.toNat)) := by
  intro n
  match n with
  | ⟨0, _⟩ => exact ⟨160, 191, rfl, rfl, fun x => by simp [second]⟩
  | ⟨13, _⟩ => exact ⟨128, 159, rfl, rfl, fun x => by simp [second]⟩
  | ⟨16, _⟩ => exact ⟨144, 191, rfl, rfl, fun x => by simp [second]⟩
  | ⟨20, _⟩ => exact ⟨128, 143, rfl, rfl, fun x => by simp [second]⟩
  | ⟨1, _⟩ | ⟨2, _⟩ | ⟨3, _⟩ | ⟨4, _⟩ | ⟨5, _⟩ | ⟨6, _⟩ | ⟨7, _⟩ | ⟨8, _⟩ | ⟨9, _⟩ | ⟨10, _⟩ | ⟨11, _⟩ | ⟨12, _⟩ | ⟨14, _⟩ | ⟨15, _⟩ | ⟨17, _⟩ | ⟨18, _⟩ | ⟨19, _⟩ => exact ⟨128, 191, rfl, rfl, fun x => by simp [second]⟩
  | ⟨n + 21, h⟩ => omega
 obtain ⟨a, b, ha, hb, hs⟩ := key ⟨f - 224, by omega⟩
 exact ⟨a, b, ha, hb, by have := hs x; simp only at this; rwa [show f - 224 + 224 = f by omega] at this⟩
theorem second_low (f x : Nat) (h : f < 224) : second f x = (decide (128 ≤ x) && decide (x ≤ 191)) := by
 unfold second
 rw [if_neg (by omega), if_neg (by omega), if_neg (by omega), if_neg (by omega)]
 simp
theorem long_two {x n : Nat} (h : long x = n) (h2 : 2 ≤ n) : (n = 2 ∧ 194 ≤ x ∧ x ≤ 223 ∧ base n = 192) ∨ (n = 3 ∧ 224 ≤ x ∧ x ≤ 239 ∧ base n = 224) ∨ (n = 4 ∧ 240 ≤ x ∧ x ≤ 244 ∧ base n = 240) := by
 unfold long at h
 split at h; · omega
 split at h; · left; subst h; refine ⟨rfl, ?_, ?_, rfl⟩ <;> omega
 split at h; · right; left; subst h; refine ⟨rfl, ?_, ?_, rfl⟩ <;> omega
 split at h; · right; right; subst h; refine ⟨rfl, ?_, ?_, rfl⟩ <;> omega
 omega
theorem long_1 {x : Nat} (h : long x = 1) : x < 128 := by
 unfold long at h
 split at h; · assumption
 split at h; · omega
 split at h; · omega
 split at h <;> omega
theorem long_lt {x : Nat} (h : x < 128) : long x = 1 := by unfold long; rw [if_pos h]
theorem cum_snoc (c : Nat) (l : List UInt8) (x : UInt8) : cum c (l ++ [x]) = cum c l * 64 + x.toNat - 128 := by simp [cum]
theorem cum_lt {c : Nat} {l : List UInt8} (hc : c < 32) : cum c l < 32 * 64 ^ l.length + 128 * 64 ^ l.length := by
 have key : ∀ (l : List UInt8) (c : Nat), cum c l ≤ c * 64 ^ l.length + 5 * 64 ^ l.length := by
  intro l
  induction l with
  | nil => intro c; simp [cum]
  | cons x l ih =>
   intro c
   have h1 := ih (c * 64 + x.toNat - 128)
   have h2 : x.toNat < 256 := x.toNat_lt
   have h3 : cum c (x :: l) = cum (c * 64 + x.toNat - 128) l := rfl
   rw [h3]
   have h4 : (c * 64 + x.toNat - 128 + 5) * 64 ^ l.length ≤ (c * 64 + 5 * 64) * 64 ^ l.length := Nat.mul_le_mul_right _ (by omega)
   rw [List.length_cons, Nat.pow_succ]
   have h5 : c * (64 ^ l.length * 64) + 5 * (64 ^ l.length * 64) = (c * 64 + 5 * 64) * 64 ^ l.length := by
    rw [Nat.add_mul, Nat.mul_comm (64 ^ l.length) 64, Nat.mul_assoc, Nat.mul_assoc]
   rw [h5]
   refine Nat.le_trans h1 (Nat.le_trans ?_ h4)
   rw [Nat.add_mul]
   exact Nat.le_refl _
 have := key l c
 have h6 : c * 64 ^ l.length ≤ 31 * 64 ^ l.length := Nat.mul_le_mul_right _ (by omega)
 have h7 : 0 < 64 ^ l.length := Nat.pow_pos (by decide)
 omega
end Sq
