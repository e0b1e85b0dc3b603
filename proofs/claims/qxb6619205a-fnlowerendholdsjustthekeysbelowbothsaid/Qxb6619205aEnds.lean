import GoSem.Op.String
import Derived.Lib.Strings
namespace Go.Proofs.Qxb6619205a.Pl

theorem bl_irrefl : ∀ a : List UInt8, Op.bytesLess a a = false
  | [] => rfl
  | a :: x => by simp [Op.bytesLess, bl_irrefl x, UInt8.lt_irrefl]

theorem bl_trans : ∀ a b c : List UInt8, Op.bytesLess a b = true → Op.bytesLess b c = true → Op.bytesLess a c = true
  | [], [], _, h, _ => by simp [Op.bytesLess] at h
  | _ :: _, [], _, h, _ => by simp [Op.bytesLess] at h
  | _, _ :: _, [], _, h => by simp [Op.bytesLess] at h
  | [], _ :: _, _ :: _, _, _ => by simp [Op.bytesLess]
  | a :: x, b :: y, c :: z, h1, h2 => by
    have ih := bl_trans x y z
    simp only [Op.bytesLess, Bool.or_eq_true, decide_eq_true_eq, Bool.and_eq_true, beq_iff_eq] at h1 h2 ⊢
    rcases h1 with h1 | ⟨rfl, h1⟩
    · rcases h2 with h2 | ⟨rfl, h2⟩
      · exact .inl (UInt8.lt_trans h1 h2)
      · exact .inl h1
    · rcases h2 with h2 | ⟨rfl, h2⟩
      · exact .inl h2
      · exact .inr ⟨rfl, ih h1 h2⟩

theorem bl_tri : ∀ a b : List UInt8, Op.bytesLess a b = true ∨ a = b ∨ Op.bytesLess b a = true
  | [], [] => by simp
  | _ :: _, [] => by simp [Op.bytesLess]
  | [], _ :: _ => by simp [Op.bytesLess]
  | a :: x, b :: y => by
    have ih := bl_tri x y
    simp only [Op.bytesLess, Bool.or_eq_true, decide_eq_true_eq, Bool.and_eq_true, beq_iff_eq]
    by_cases h1 : a < b
    · exact .inl (.inl h1)
    · by_cases h2 : b < a
      · exact .inr (.inr (.inl h2))
      · have e : a = b := UInt8.le_antisymm (UInt8.not_lt.1 h2) (UInt8.not_lt.1 h1)
        subst e
        rcases ih with h | h | h
        · exact .inl (.inr ⟨rfl, h⟩)
        · exact .inr (.inl (by rw [h]))
        · exact .inr (.inr (.inr ⟨rfl, h⟩))

theorem bl_asymm (a b : List UInt8) (h : Op.bytesLess a b = true) : Op.bytesLess b a = false := by
  cases h2 : Op.bytesLess b a
  · rfl
  · have := bl_trans a b a h h2
    rw [bl_irrefl] at this; exact absurd this (by simp)

theorem bl_nil (a : List UInt8) : Op.bytesLess a [] = false := by cases a <;> rfl

/-- lowerEnd -/
def lo (a b : List UInt8) : List UInt8 := if a = [] then b else if b = [] ∨ Op.bytesLess a b = true then a else b

/-- the order of ends, the empty one the highest: a strict total order -/
def el (a b : List UInt8) : Prop := a ≠ [] ∧ (b = [] ∨ Op.bytesLess a b = true)

theorem el_irrefl (a : List UInt8) : ¬ el a a := by
  rintro ⟨h, h1 | h1⟩
  · exact h h1
  · rw [bl_irrefl] at h1; simp at h1

theorem el_trans {a b c : List UInt8} (h1 : el a b) (h2 : el b c) : el a c := by
  obtain ⟨a0, h1⟩ := h1
  obtain ⟨b0, h2⟩ := h2
  refine ⟨a0, ?_⟩
  rcases h1 with h1 | h1
  · exact absurd h1 b0
  · rcases h2 with h2 | h2
    · exact .inl h2
    · exact .inr (bl_trans _ _ _ h1 h2)

theorem el_tri (a b : List UInt8) : el a b ∨ a = b ∨ el b a := by
  unfold el
  by_cases ha : a = []
  · by_cases hb : b = []
    · exact .inr (.inl (by rw [ha, hb]))
    · exact .inr (.inr ⟨hb, .inl ha⟩)
  · by_cases hb : b = []
    · exact .inl ⟨ha, .inl hb⟩
    · rcases bl_tri a b with h | h | h
      · exact .inl ⟨ha, .inr h⟩
      · exact .inr (.inl h)
      · exact .inr (.inr ⟨hb, .inr h⟩)

theorem lo_el {a b : List UInt8} (h : el a b) : lo a b = a := by
  obtain ⟨h0, h1⟩ := h
  unfold lo; rw [if_neg h0, if_pos h1]

theorem lo_not {a b : List UInt8} (h : ¬ el a b) : lo a b = b := by
  unfold lo
  by_cases h0 : a = []
  · rw [if_pos h0]
  · rw [if_neg h0, if_neg (fun h1 => h ⟨h0, h1⟩)]

theorem lo_cases (a b : List UInt8) : (el a b ∧ lo a b = a) ∨ (¬ el a b ∧ lo a b = b) := by
  by_cases h : el a b
  · exact .inl ⟨h, lo_el h⟩
  · exact .inr ⟨h, lo_not h⟩

theorem lo_comm (a b : List UInt8) : lo a b = lo b a := by
  rcases el_tri a b with h | h | h
  · rw [lo_el h, lo_not (fun h2 => el_irrefl _ (el_trans h h2))]
  · rw [h]
  · rw [lo_el h, lo_not (fun h2 => el_irrefl _ (el_trans h h2))]

theorem lo_assoc (a b c : List UInt8) : lo (lo a b) c = lo a (lo b c) := by
  rcases lo_cases a b with ⟨h1, e1⟩ | ⟨h1, e1⟩ <;> rcases lo_cases b c with ⟨h2, e2⟩ | ⟨h2, e2⟩ <;> rw [e1, e2]
  · rw [e1, lo_el (el_trans h1 h2)]
  · rw [e1]
  · rw [lo_not]
    rcases el_tri a b with h | h | h
    · exact absurd h h1
    · subst h
      intro h3
      rcases el_tri a c with h | h | h
      · exact h2 h
      · subst h; exact el_irrefl _ h3
      · exact h2 h3
    · intro h3
      rcases el_tri b c with h4 | h4 | h4
      · exact h2 h4
      · subst h4; exact h1 h3
      · exact el_irrefl _ (el_trans (el_trans h4 h) h3)

theorem lo_or (a b : List UInt8) : lo a b = a ∨ lo a b = b := by
  rcases lo_cases a b with h | h
  · exact .inl h.2
  · exact .inr h.2

/-- zzb1EndAtMost -/
def am (x y : List UInt8) : Bool := if y = [] then true else if x = [] then false else Op.bytesLess x y || x == y

theorem am_of {x y : List UInt8} (h : el x y ∨ x = y) : am x y = true := by
  unfold am
  by_cases hy : y = []
  · rw [if_pos hy]
  · rw [if_neg hy]
    rcases h with ⟨h0, h1 | h1⟩ | h
    · exact absurd h1 hy
    · rw [if_neg h0, h1]; rfl
    · subst h; rw [if_neg hy]; simp

theorem am_lo (a b : List UInt8) : am (lo a b) a = true ∧ am (lo a b) b = true := by
  rcases el_tri a b with h | h | h
  · rw [lo_el h]; exact ⟨am_of (.inr rfl), am_of (.inl h)⟩
  · subst h; rcases lo_or a a with h | h <;> rw [h] <;> exact ⟨am_of (.inr rfl), am_of (.inr rfl)⟩
  · rw [lo_comm, lo_el h]; exact ⟨am_of (.inl h), am_of (.inr rfl)⟩

/-- zzb1Below -/
def bw (k e : List UInt8) : Bool := e.isEmpty || Op.bytesLess k e

theorem bw_lo (k a b : List UInt8) : bw k (lo a b) = (bw k a && bw k b) := by
  have up : ∀ x y : List UInt8, el x y → bw k x = true → bw k y = true := by
    intro x y ⟨h0, h1⟩ h2
    unfold bw at h2 ⊢
    have hx : x.isEmpty = false := by simp [h0]
    rw [hx, Bool.false_or] at h2
    rcases h1 with h1 | h1
    · simp [h1]
    · rw [bl_trans _ _ _ h2 h1]; simp
  rcases el_tri a b with h | h | h
  · rw [lo_el h]
    have := up a b h
    cases h1 : bw k a
    · simp
    · rw [this h1]; rfl
  · subst h; rcases lo_or a a with h | h <;> rw [h] <;> simp
  · rw [lo_comm, lo_el h]
    have := up b a h
    cases h1 : bw k b
    · simp
    · rw [this h1]; rfl

theorem lo_self (a : List UInt8) : lo a a = a := by rcases lo_or a a with h | h <;> exact h
theorem lo_left (a b : List UInt8) : lo a (lo a b) = lo a b := by rw [← lo_assoc, lo_self]
theorem lo_right (a b : List UInt8) : lo (lo a b) b = lo a b := by rw [lo_assoc, lo_self]

/-! ### the same, of strings -/
theorem str_ext {a b : ByteArray} (h : a.toList = b.toList) : a = b := by
  rw [Lib.toList_data, Lib.toList_data] at h
  exact ByteArray.ext (Array.toList_inj.1 h)

def loB (a b : ByteArray) : ByteArray := if a.toList = [] then b else if b.toList = [] ∨ Op.bytesLess a.toList b.toList = true then a else b

theorem loB_list (a b : ByteArray) : (loB a b).toList = lo a.toList b.toList := by
  unfold loB lo
  split
  · rfl
  · split <;> rfl

theorem loB_comm (a b : ByteArray) : loB b a = loB a b := str_ext (by rw [loB_list, loB_list, lo_comm])
theorem loB_assoc (a b c : ByteArray) : loB a (loB b c) = loB (loB a b) c := str_ext (by simp only [loB_list]; rw [lo_assoc])
theorem loB_left (a b : ByteArray) : loB a (loB a b) = loB a b := str_ext (by simp only [loB_list]; rw [lo_left])
theorem loB_right (a b : ByteArray) : loB (loB a b) b = loB a b := str_ext (by simp only [loB_list]; rw [lo_right])
theorem loB_or (a b : ByteArray) : loB a b = a ∨ loB a b = b := by
  unfold loB
  split
  · exact .inr rfl
  · split
    · exact .inl rfl
    · exact .inr rfl

end Go.Proofs.Qxb6619205a.Pl
