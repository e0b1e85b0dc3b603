import Derived.Test.Qxb6619198aPlain
namespace Go.Proofs.Qxb6619198a.Pl

/-- JSON whitespace, of a byte as the walk holds it -/
def spI (x : Int) : Bool := x == 32 || (x == 9 || (x == 10 || x == 13))

theorem spI_byte (c : UInt8) : spI (c.toNat : Int) = sp c := by
  have g : ∀ n : Nat, n < 256 → ((c.toNat : Int) == (n : Int)) = (c == UInt8.ofNat n) := by
    intro n hn
    rw [Bool.eq_iff_iff, beq_iff_eq, beq_iff_eq]
    exact ⟨fun h => byte_eq c n hn h, fun h => by rw [h, UInt8.toNat_ofNat']; omega⟩
  have g1 := g 32 (by decide)
  have g2 := g 9 (by decide)
  have g3 := g 10 (by decide)
  have g4 := g 13 (by decide)
  unfold spI sp
  rw [show ((32 : Int)) = ((32 : Nat) : Int) from rfl, show ((9 : Int)) = ((9 : Nat) : Int) from rfl, show ((10 : Int)) = ((10 : Nat) : Int) from rfl, show ((13 : Int)) = ((13 : Nat) : Int) from rfl, g1, g2, g3, g4]
  simp [Bool.or_assoc]

/-! ### followedByColon at a place -/
def fbcAt (s : ByteArray) (k : Nat) : Bool := fbc (s.data.toList.drop k)

theorem fbcAt_end (s : ByteArray) (k : Nat) (h : s.size ≤ k) : fbcAt s k = false := by
  unfold fbcAt; rw [List.drop_of_length_le (by simpa using h)]; rfl

theorem fbcAt_step (s : ByteArray) (k : Nat) (h : k < s.size) : fbcAt s k = if sp s[k] then fbcAt s (k + 1) else s[k] == 58 := by
  unfold fbcAt; rw [drop_at s k h, fbc]

theorem fbcAt_space (s : ByteArray) (k : Nat) (h : k < s.size) (hc : spI (s[k].toNat : Int) = true) : fbcAt s k = fbcAt s (k + 1) := by
  rw [fbcAt_step s k h, ← spI_byte, hc, if_pos rfl]

theorem fbcAt_colon (s : ByteArray) (k : Nat) (h : k < s.size) (hc : (s[k].toNat : Int) = 58) : fbcAt s k = true := by
  rw [fbcAt_step s k h, ← spI_byte, hc, byte_eq s[k] 58 (by decide) hc]; rfl

theorem fbcAt_other (s : ByteArray) (k : Nat) (h : k < s.size) (hs : spI (s[k].toNat : Int) = false) (hc : ¬ (s[k].toNat : Int) = 58) : fbcAt s k = false := by
  rw [fbcAt_step s k h, ← spI_byte, hs]
  have := byte_ne s[k] 58 (by decide) hc
  simpa using this

/-! ### b1AllSpace between two places -/
def allSp (s : ByteArray) (a b : Nat) : Bool := ((s.data.toList.drop a).take (b - a)).all sp

theorem allSp_end (s : ByteArray) (a : Nat) : allSp s a a = true := by simp [allSp]

theorem allSp_step (s : ByteArray) (a b : Nat) (h : a < b) (hb : b ≤ s.size) : allSp s a b = (sp (s[a]'(by omega)) && allSp s (a + 1) b) := by
  unfold allSp
  rw [drop_at s a (by omega), show b - a = (b - (a + 1)) + 1 from by omega, List.take_succ_cons, List.all_cons]

/-! ### b1ColonAhead at a place -/
def upAt (s : ByteArray) (k : Nat) : Nat := k + upTo (s.data.toList.drop k)

theorem upAt_colon (s : ByteArray) (k : Nat) (h : k < s.size) (hc : (s[k].toNat : Int) = 58) : upAt s k = k := by
  unfold upAt; rw [drop_at s k h, upTo, byte_eq s[k] 58 (by decide) hc]; simp

theorem upAt_step (s : ByteArray) (k : Nat) (h : k < s.size) (hc : ¬ (s[k].toNat : Int) = 58) : upAt s k = upAt s (k + 1) := by
  have := byte_ne s[k] 58 (by decide) hc
  have e : (s[k] == 58) = false := by simpa using this
  unfold upAt; rw [drop_at s k h, upTo, e]; simp; omega

theorem upAt_end (s : ByteArray) (k : Nat) (h : s.size ≤ k) : upAt s k = k := by
  unfold upAt; rw [List.drop_of_length_le (by simpa using h)]; rfl

def aheadAt (s : ByteArray) (n : Nat) : Bool := decide (upAt s n < s.size) && allSp s n (upAt s n)

theorem fbcAt_ahead (s : ByteArray) (n : Nat) : fbcAt s n = aheadAt s n := by
  unfold fbcAt aheadAt allSp upAt
  rw [fbc_ahead]; unfold ahead
  rw [Nat.add_sub_cancel_left]
  congr 1
  rw [decide_eq_decide]
  simp; omega

/-! ### the cut -/
theorem fbcAt_cut (s : ByteArray) (i k : Nat) (h1 : i ≤ k) : fbcAt s i = (fbc ((s.data.toList.take k).drop i) || (allSp s i k && fbc (s.data.toList.drop k))) := by
  have e : s.data.toList.drop i = (s.data.toList.drop i).take (k - i) ++ s.data.toList.drop k := by
    have := (List.take_append_drop (k - i) (s.data.toList.drop i)).symm
    rw [List.drop_drop, show i + (k - i) = k from by omega] at this
    exact this
  unfold fbcAt allSp
  rw [List.drop_take]
  conv => lhs; rw [e]
  exact fbc_cut _ _

/-! ### one byte put in -/
theorem ins_list (s : ByteArray) (i : Nat) (u : UInt8) : (s.extract 0 i ++ ⟨#[u]⟩ ++ s.extract i s.size).data.toList = s.data.toList.take i ++ u :: s.data.toList.drop i := by
  have e : s.data.toList.length = s.size := by simp
  simp only [ByteArray.data_append, ByteArray.data_extract, Array.toList_append, Array.toList_extract, List.extract_eq_take_drop]
  rw [List.take_of_length_le (l := s.data.toList.drop i) (by simp)]
  simp

theorem fbcAt_ins (s : ByteArray) (i : Nat) (u : UInt8) (hi : i ≤ s.size) : fbcAt (s.extract 0 i ++ ⟨#[u]⟩ ++ s.extract i s.size) i = ((u.toNat : Int) == 58 || (spI (u.toNat : Int) && fbcAt s i)) := by
  unfold fbcAt
  rw [ins_list s i u, List.drop_append_of_le_length (by simp; omega), List.drop_of_length_le (by simp; omega), List.nil_append, fbc, spI_byte]
  have e : ((u.toNat : Int) == 58) = (u == 58) := by
    rw [Bool.eq_iff_iff, beq_iff_eq, beq_iff_eq]
    exact ⟨fun h => byte_eq u 58 (by decide) h, fun h => by rw [h]; rfl⟩
  rw [e]
  cases h : sp u
  · simp
  · have : (u == 58) = false := by
      rw [beq_eq_false_iff_ne]; rintro rfl; exact absurd h (by decide)
    simp [this]

theorem fbcAt_ins1 (s : ByteArray) (i : Nat) (u : UInt8) (hi : i ≤ s.size) : fbcAt (s.extract 0 i ++ ⟨#[u]⟩ ++ s.extract i s.size) (i + 1) = fbcAt s i := by
  have e : (s.data.toList.take i).length = i := by simp; omega
  unfold fbcAt
  have e2 := List.drop_left (l₁ := s.data.toList.take i) (l₂ := u :: s.data.toList.drop i)
  rw [e] at e2
  rw [ins_list s i u, ← List.drop_drop, e2]
  rfl

theorem ins_size (s : ByteArray) (i : Nat) (u : UInt8) (hi : i ≤ s.size) : (s.extract 0 i ++ ⟨#[u]⟩ ++ s.extract i s.size).size = s.size + 1 := by
  have h := congrArg List.length (ins_list s i u)
  rw [List.length_append, List.length_cons, List.length_take, List.length_drop] at h
  have e : s.data.toList.length = s.size := by simp
  have e2 : (s.extract 0 i ++ ⟨#[u]⟩ ++ s.extract i s.size).data.toList.length = (s.extract 0 i ++ ⟨#[u]⟩ ++ s.extract i s.size).size := Array.length_toList
  omega

end Go.Proofs.Qxb6619198a.Pl
