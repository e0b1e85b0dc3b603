namespace Go.Proofs.Qxb6619198a.Pl

/-- JSON whitespace -/
def sp (c : UInt8) : Bool := c == 32 || c == 9 || c == 10 || c == 13

/-- the first byte that is no whitespace is a colon -/
def fbc : List UInt8 → Bool
  | [] => false
  | c :: cs => if sp c then fbc cs else c == 58

theorem fbc_cut (a b : List UInt8) : fbc (a ++ b) = (fbc a || (a.all sp && fbc b)) := by
  induction a with
  | nil => simp [fbc]
  | cons c cs ih =>
    simp only [List.cons_append, fbc, List.all_cons]
    cases h : sp c
    · simp
    · simp [ih]

/-- the bytes up to the first colon -/
def upTo : List UInt8 → Nat
  | [] => 0
  | c :: cs => if c == 58 then 0 else upTo cs + 1

/-- b1ColonAhead -/
def ahead (l : List UInt8) : Bool := decide (upTo l < l.length) && (l.take (upTo l)).all sp

theorem fbc_ahead (l : List UInt8) : fbc l = ahead l := by
  induction l with
  | nil => rfl
  | cons c cs ih =>
    unfold ahead at ih ⊢
    by_cases hc : c = 58
    · subst hc; simp [fbc, upTo, sp]
    · have h1 : (c == 58) = false := by simp [hc]
      simp only [fbc, upTo, h1, Bool.false_eq_true, if_false, List.length_cons, List.take_succ_cons, List.all_cons]
      cases h : sp c
      · simp
      · simp [ih]

/-- closingQuote on what stands behind the opening quote -/
def cq : List UInt8 → Option Nat
  | [] => none
  | [c] => if c == 34 then some 0 else none
  | c :: d :: cs => if c == 34 then some 0 else if c == 92 then (cq cs).map (· + 2) else (cq (d :: cs)).map (· + 1)

/-- b1ClosingAfter: 'odd': the run of backslashes just before is odd -/
def ca : Bool → List UInt8 → Option Nat
  | _, [] => none
  | odd, c :: cs => if c == 34 && !odd then some 0 else (ca (c == 92 && !odd) cs).map (· + 1)

theorem cq_none (c : UInt8) : cq [c] = if c == 34 then some 0 else none := rfl

theorem ca_odd (c : UInt8) (cs : List UInt8) : ca true (c :: cs) = (ca false cs).map (· + 1) := by
  simp [ca]

theorem ca_cq : ∀ (l : List UInt8), ca false l = cq l
  | [] => rfl
  | [c] => by simp [ca, cq]
  | c :: d :: cs => by
    have i1 := ca_cq (d :: cs)
    have i2 := ca_cq cs
    rw [ca, cq]
    by_cases h : c = 34
    · simp [h]
    · by_cases h2 : c = 92
      · subst h2
        simp only [show ((92 : UInt8) == 34) = false from by decide, Bool.false_and, Bool.false_eq_true, if_false, beq_self_eq_true, Bool.not_false, Bool.and_self, if_true]
        rw [ca_odd, i2]; cases cq cs <;> simp
      · have e1 : (c == 34) = false := by simp [h]
        have e2 : (c == 92) = false := by simp [h2]
        simp only [e1, e2, Bool.false_and, Bool.false_eq_true, if_false]
        rw [i1]

theorem cq_append : ∀ (a b : List UInt8) (n : Nat), cq a = some n → cq (a ++ b) = some n
  | [], _, _, h => by simp [cq] at h
  | [c], b, n, h => by
    rw [cq] at h
    cases hc : (c == 34)
    · simp [hc] at h
    · simp [hc] at h
      subst h
      cases b <;> simp [cq, hc]
  | c :: d :: cs, b, n, h => by
    have i1 := cq_append (d :: cs) b
    have i2 := cq_append cs b
    rw [cq] at h
    show cq (c :: d :: (cs ++ b)) = some n
    rw [cq]
    cases hc : (c == 34)
    · cases hd : (c == 92)
      · simp only [hc, hd, Bool.false_eq_true, if_false, Option.map_eq_some_iff] at h ⊢
        obtain ⟨m, h1, h2⟩ := h
        exact ⟨m, i1 m h1, h2⟩
      · simp only [hc, hd, Bool.false_eq_true, if_false, if_true, Option.map_eq_some_iff] at h ⊢
        obtain ⟨m, h1, h2⟩ := h
        exact ⟨m, i2 m h1, h2⟩
    · simp only [hc, if_true] at h ⊢
      exact h

theorem cq_lt : ∀ (l : List UInt8) (n : Nat), cq l = some n → n < l.length
  | [], _, h => by simp [cq] at h
  | [c], n, h => by
    rw [cq] at h
    split at h <;> simp at h
    subst h; simp
  | c :: d :: cs, n, h => by
    have i1 := cq_lt (d :: cs)
    have i2 := cq_lt cs
    rw [cq] at h
    split at h
    · simp at h; subst h; simp
    · split at h
      · simp only [Option.map_eq_some_iff] at h
        obtain ⟨m, h1, h2⟩ := h
        have := i2 m h1
        simp; omega
      · simp only [Option.map_eq_some_iff] at h
        obtain ⟨m, h1, h2⟩ := h
        have := i1 m h1
        simp at this ⊢; omega

/-! ### the same, said at a place of a string, for the walks' rounds -/
theorem drop_at (s : ByteArray) (k : Nat) (h : k < s.size) : s.data.toList.drop k = s[k] :: s.data.toList.drop (k + 1) := by
  rw [List.drop_eq_getElem_cons (by simpa using h)]; rfl

theorem byte_eq (c : UInt8) (n : Nat) (hn : n < 256) (h : (c.toNat : Int) = n) : c = UInt8.ofNat n := by
  apply UInt8.toNat_inj.1
  rw [UInt8.toNat_ofNat']
  omega

theorem byte_ne (c : UInt8) (n : Nat) (hn : n < 256) (h : ¬ (c.toNat : Int) = n) : ¬ c = UInt8.ofNat n := by
  rintro rfl
  rw [UInt8.toNat_ofNat'] at h
  omega

def caAt (odd : Bool) (s : ByteArray) (k : Nat) : Int :=
  match ca odd (s.data.toList.drop k) with
  | some m => (k : Int) + m
  | none => -1

theorem caAt_end (odd : Bool) (s : ByteArray) (k : Nat) (h : s.size ≤ k) : caAt odd s k = -1 := by
  unfold caAt; rw [List.drop_of_length_le (by simpa using h)]; rfl

theorem caAt_hit (s : ByteArray) (k : Nat) (h : k < s.size) (hc : (s[k].toNat : Int) = 34) : caAt false s k = k := by
  have e := byte_eq s[k] 34 (by decide) hc
  unfold caAt; rw [drop_at s k h, e]; simp [ca]

theorem caAt_step (odd odd' : Bool) (s : ByteArray) (k : Nat) (h : k < s.size) (h1 : (s[k] == 34 && !odd) = false) (h2 : (s[k] == 92 && !odd) = odd') : caAt odd s k = caAt odd' s (k + 1) := by
  unfold caAt; rw [drop_at s k h, ca, h1, h2]
  simp only [Bool.false_eq_true, if_false]
  cases ca odd' (s.data.toList.drop (k + 1)) <;> simp
  omega

theorem caAt_bs (odd : Bool) (s : ByteArray) (k : Nat) (h : k < s.size) (hc : (s[k].toNat : Int) = 92) : caAt odd s k = caAt (!odd) s (k + 1) := by
  have e := byte_eq s[k] 92 (by decide) hc
  exact caAt_step odd (!odd) s k h (by rw [e]; rfl) (by rw [e]; simp)

theorem caAt_skip (odd : Bool) (s : ByteArray) (k : Nat) (h : k < s.size) (hc : ¬ (s[k].toNat : Int) = 92) (hq : ¬ (s[k].toNat : Int) = 34 ∨ odd = true) : caAt odd s k = caAt false s (k + 1) := by
  have e := byte_ne s[k] 92 (by decide) hc
  refine caAt_step odd false s k h ?_ ?_
  · rcases hq with hq | hq
    · have e2 := byte_ne s[k] 34 (by decide) hq
      simpa using fun h => absurd h e2
    · simp [hq]
  · simpa using fun h => absurd h e

theorem cqL_hit (c : UInt8) (cs : List UInt8) (q : Nat) (h : cq (c :: cs) = some q) (hc : c = 34) : q = 0 := by
  subst hc
  cases cs <;> simp [cq] at h <;> exact h.symm

theorem cqL_bs (c : UInt8) (cs : List UInt8) (q : Nat) (h : cq (c :: cs) = some q) (hc : c = 92) : ∃ q', q = q' + 2 ∧ cq (cs.drop 1) = some q' := by
  subst hc
  cases cs with
  | nil => simp [cq] at h
  | cons d ds =>
    rw [cq] at h
    simp only [show ((92 : UInt8) == 34) = false from by decide, Bool.false_eq_true, if_false, beq_self_eq_true, if_true, Option.map_eq_some_iff] at h
    obtain ⟨m, h1, h2⟩ := h
    exact ⟨m, h2.symm, by simpa using h1⟩

theorem cqL_skip (c : UInt8) (cs : List UInt8) (q : Nat) (h : cq (c :: cs) = some q) (h1 : ¬ c = 34) (h2 : ¬ c = 92) : ∃ q', q = q' + 1 ∧ cq cs = some q' := by
  have e1 : (c == 34) = false := by simp [h1]
  have e2 : (c == 92) = false := by simp [h2]
  cases cs with
  | nil => simp [cq, e1] at h
  | cons d ds =>
    rw [cq] at h
    simp only [e1, e2, Bool.false_eq_true, if_false, Option.map_eq_some_iff] at h
    obtain ⟨m, h1, h2⟩ := h
    exact ⟨m, h2.symm, h1⟩

theorem cqAt_lt (s : ByteArray) (k m : Nat) (h : cq (s.data.toList.drop k) = some m) : k < s.size := by
  have := cq_lt _ _ h
  simp at this; omega

theorem cqAt_hit (s : ByteArray) (k q t : Nat) (h : k < s.size) (hq : k + q = t ∧ cq (s.data.toList.drop k) = some q) (hc : ((s[k].toNat : Int) != 34) = false) : k = t := by
  obtain ⟨h1, h2⟩ := hq
  rw [drop_at s k h] at h2
  have := cqL_hit _ _ _ h2 (byte_eq s[k] 34 (by decide) (by simpa using hc))
  omega

theorem cqAt_bs (s : ByteArray) (k q t : Nat) (h : k < s.size) (hq : k + q = t ∧ cq (s.data.toList.drop k) = some q) (hc : ((s[k].toNat : Int) == 92) = true) : ∃ q', k + 2 < s.size ∧ k + 2 + q' = t ∧ cq (s.data.toList.drop (k + 2)) = some q' := by
  obtain ⟨h1, h2⟩ := hq
  rw [drop_at s k h] at h2
  obtain ⟨q', h3, h4⟩ := cqL_bs _ _ _ h2 (byte_eq s[k] 92 (by decide) (by simpa using hc))
  rw [List.drop_drop] at h4
  exact ⟨q', cqAt_lt s (k + 2) q' h4, by omega, h4⟩

theorem cqAt_skip (s : ByteArray) (k q t : Nat) (h : k < s.size) (hq : k + q = t ∧ cq (s.data.toList.drop k) = some q) (h34 : ((s[k].toNat : Int) != 34) = true) (hc : ((s[k].toNat : Int) == 92) = false) : ∃ q', k + 1 < s.size ∧ k + 1 + q' = t ∧ cq (s.data.toList.drop (k + 1)) = some q' := by
  obtain ⟨h1, h2⟩ := hq
  rw [drop_at s k h] at h2
  obtain ⟨q', h3, h4⟩ := cqL_skip _ _ _ h2 (byte_ne s[k] 34 (by decide) (by simpa using h34)) (byte_ne s[k] 92 (by decide) (by simpa using hc))
  exact ⟨q', cqAt_lt s (k + 1) q' h4, by omega, h4⟩

/-- what b1ClosingAfter found, said of the quote's own function -/
theorem caAt_cq (s : ByteArray) (k : Nat) (h : ¬ caAt false s k < 0) : ∃ m : Nat, caAt false s k = ((k + m : Nat) : Int) ∧ cq (s.data.toList.drop k) = some m := by
  unfold caAt at h ⊢
  rw [ca_cq] at h ⊢
  cases hq : cq (s.data.toList.drop k) with
  | none => rw [hq] at h; exact absurd (by show (-1 : Int) < 0; decide) h
  | some m => exact ⟨m, by simp, rfl⟩

/-- what stands ahead of the text moves the answer by its own length; a tail behind it does not move it -/
theorem cq_within (p s t : List UInt8) (n m : Nat) (hn : n ≤ s.length) (h : cq (s.drop n) = some m) : cq ((p ++ s ++ t).drop (p.length + n)) = some m := by
  rw [List.append_assoc, ← List.drop_drop, List.drop_left, List.drop_append_of_le_length hn]
  exact cq_append _ _ _ h

end Go.Proofs.Qxb6619198a.Pl
