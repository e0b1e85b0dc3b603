import Derived.Test.Qxb6619205aProg
import Derived.Test.Qxb6619205aEnds
import Derived.WalkKit
import Derived.WalkLawsBesides
import Derived.RowKit3
namespace Go.Proofs.Qxb6619205a.Ends
open Go.RowKit

theorem ret_bool {a b : Bool} (h : a = b) : Ending.returned (.bool a) = .returned (.bool b) := by rw [h]
theorem ret_str {a b : ByteArray} (h : a = b) : Ending.returned (.string a) = .returned (.string b) := by rw [h]

theorem em {l : List UInt8} (h : l.isEmpty = true) : l = [] := by simpa using h
theorem ne {l : List UInt8} (h : l.isEmpty = false) : ¬ l = [] := by simpa using h

theorem or_em {l : List UInt8} {p : Prop} (h : l.isEmpty = true ∨ p) : l = [] ∨ p := by
  rcases h with h | h
  · exact .inl (em h)
  · exact .inr h

theorem lo1 {a b : ByteArray} (h : a.toList.isEmpty = true) : b = Pl.loB a b := by unfold Pl.loB; rw [if_pos (em h)]
theorem lo2 {a b : ByteArray} (h : a.toList.isEmpty = false) (h1 : b.toList = [] ∨ Op.bytesLess a.toList b.toList = true) : a = Pl.loB a b := by
  unfold Pl.loB; rw [if_neg (ne h), if_pos h1]
theorem lo3 {a b : ByteArray} (h : a.toList.isEmpty = false) (h1 : b.toList.isEmpty = false ∧ Op.bytesLess a.toList b.toList = false) : b = Pl.loB a b := by
  unfold Pl.loB; rw [if_neg (ne h), if_neg]
  rintro (h2 | h2)
  · exact ne h1.1 h2
  · rw [h1.2] at h2; exact absurd h2 (by decide)

theorem low_any (a b : ByteArray) (w : World) :
    Calls Try.prog 16 #[.string a, .string b] w fun e w' => e = .returned (.string (Pl.loB a b)) ∧ w' = w := by
  go_enter Try.func16, Try.ntmps16
  go_wp2
  · go_ret
    exact ⟨ret_str (lo1 ‹_›), rfl⟩
  · have h : b.toList = [] := by assumption
    go_ret
    exact ⟨ret_str (lo2 ‹_› (.inl h)), rfl⟩
  · have h : b.toList.isEmpty = true ∨ Op.bytesLess a.toList b.toList = true := by assumption
    go_ret
    exact ⟨ret_str (lo2 ‹_› (or_em h)), rfl⟩
  · go_ret
    exact ⟨ret_str (lo3 ‹_› ‹_›), rfl⟩

theorem am1 {x y : List UInt8} (h : y.isEmpty = true) : true = Pl.am x y := by unfold Pl.am; rw [if_pos (em h)]
theorem am2 {x y : List UInt8} (h : y.isEmpty = false) (h1 : x.isEmpty = true) : false = Pl.am x y := by unfold Pl.am; rw [if_neg (ne h), if_pos (em h1)]
theorem am3 {x y : List UInt8} (h : y.isEmpty = false) (h1 : x.isEmpty = false) : (Op.bytesLess x y || x == y) = Pl.am x y := by unfold Pl.am; rw [if_neg (ne h), if_neg (ne h1)]

theorem most_any (x y : ByteArray) (w : World) :
    Calls Try.prog 17 #[.string x, .string y] w fun e w' => e = .returned (.bool (Pl.am x.toList y.toList)) ∧ w' = w := by
  go_enter Try.func17, Try.ntmps17
  go_wp2
  · go_ret
    exact ⟨ret_bool (am1 ‹_›), rfl⟩
  · go_ret
    exact ⟨ret_bool (am2 ‹_› ‹_›), rfl⟩
  · go_ret
    exact ⟨ret_bool (am3 ‹_› ‹_›), rfl⟩

theorem bw1 {x y : List UInt8} (h : y = []) : true = Pl.bw x y := by unfold Pl.bw; rw [h]; rfl

theorem below_any (x y : ByteArray) (w : World) :
    Calls Try.prog 19 #[.string x, .string y] w fun e w' => e = .returned (.bool (Pl.bw x.toList y.toList)) ∧ w' = w := by
  go_enter Try.func19, Try.ntmps19
  go_wp2
  · go_ret
    exact ⟨ret_bool (bw1 ‹_›), rfl⟩
  · go_ret
    exact ⟨rfl, rfl⟩

theorem bytes15_yes (a b c : ByteArray) (w : World) (h : a.size + b.size + c.size ≤ 1048576) :
    Calls Try.prog 15 #[.string a, .string b, .string c] w fun e w' => e = .returned (.bool true) ∧ w' = w := by
  go_enter Try.func15, Try.ntmps15
  go_wp2
  go_ret
  exact ⟨rfl, rfl⟩

theorem bytes15_no (a b c : ByteArray) (w : World) (ha : a.size ≤ maxLen) (hb : b.size ≤ maxLen) (hc : c.size ≤ maxLen) (h : ¬ a.size + b.size + c.size ≤ 1048576) :
    Calls Try.prog 15 #[.string a, .string b, .string c] w fun e w' => e = .returned (.bool false) ∧ w' = w := by
  unfold maxLen at ha hb hc
  go_enter Try.func15, Try.ntmps15
  go_wp2
  all_goals (go_ret; exact ⟨rfl, rfl⟩)

theorem bytes18_yes (a b c : ByteArray) (w : World) (h : a.size + b.size + c.size ≤ 1048576) :
    Calls Try.prog 18 #[.string a, .string b, .string c] w fun e w' => e = .returned (.bool true) ∧ w' = w := by
  go_enter Try.func18, Try.ntmps18
  go_wp2
  go_ret
  exact ⟨rfl, rfl⟩

theorem bytes18_no (a b c : ByteArray) (w : World) (ha : a.size ≤ maxLen) (hb : b.size ≤ maxLen) (hc : c.size ≤ maxLen) (h : ¬ a.size + b.size + c.size ≤ 1048576) :
    Calls Try.prog 18 #[.string a, .string b, .string c] w fun e w' => e = .returned (.bool false) ∧ w' = w := by
  unfold maxLen at ha hb hc
  go_enter Try.func18, Try.ntmps18
  go_wp2
  all_goals (go_ret; exact ⟨rfl, rfl⟩)

theorem lesser_any (a b c : ByteArray) (w : World) (h : a.size + b.size + c.size ≤ 1048576) :
    Calls Try.prog 5 #[.string a, .string b, .string c] w fun e w' => e = .returned (.bool true) ∧ w' = w := by
  have HC : Hid (Pl.loB b a = Pl.loB a b) := Pl.loB_comm a b
  have HA : Hid (Pl.loB a (Pl.loB b c) = Pl.loB (Pl.loB a b) c) := Pl.loB_assoc a b c
  have HO : Hid (Pl.loB a b = a ∨ Pl.loB a b = b) := Pl.loB_or a b
  have HM : Hid (Pl.am (Pl.loB a b).toList a.toList = true ∧ Pl.am (Pl.loB a b).toList b.toList = true) := by
    show _ ∧ _
    rw [Pl.loB_list]; exact Pl.am_lo _ _
  generalize hr : Pl.loB a b = r at HC HA HO HM
  have HR : Hid (Pl.loB a b = r) := hr
  clear hr
  go_enter Try.func5, Try.ntmps5
  go_wp2_with fail
  refine (bytes15_yes a b c _ h).mono ?_
  rintro e w' ⟨rfl, rfl⟩
  go_wp2_with fail
  refine (low_any a b _).mono ?_
  rintro e w' ⟨rfl, rfl⟩
  rw [HR.out]
  go_wp2_with fail
  refine (low_any b a _).mono ?_
  rintro e w' ⟨rfl, rfl⟩
  rw [HC.out]
  go_wp2_with fail
  refine (low_any r c _).mono ?_
  rintro e w' ⟨rfl, rfl⟩
  go_wp2_with fail
  refine (low_any b c _).mono ?_
  rintro e w' ⟨rfl, rfl⟩
  go_wp2_with fail
  refine (low_any a (Pl.loB b c) _).mono ?_
  rintro e w' ⟨rfl, rfl⟩
  rw [HA.out]
  clear HA HC HR
  generalize Pl.loB r c = rc
  have hfin : (r.toList == a.toList) = true ∨ (r.toList == a.toList) = false ∧ (r.toList == b.toList) = true := by
    rcases HO.out with e | e
    · exact .inl (by rw [e]; simp)
    · cases (r.toList == a.toList)
      · exact .inr ⟨rfl, by rw [e]; simp⟩
      · exact .inl rfl
  rcases hfin with h1 | ⟨h1, h2⟩
  all_goals
    go_wp2_with fail
    refine (most_any r a _).mono ?_
    rintro e w' ⟨rfl, rfl⟩
    rw [HM.out.1]
    go_wp2_with fail
    refine (most_any r b _).mono ?_
    rintro e w' ⟨rfl, rfl⟩
    rw [HM.out.2]
    go_wp2
    go_ret
    exact ⟨rfl, rfl⟩

theorem below_law (a b k : ByteArray) (w : World) (h : a.size + b.size + k.size ≤ 1048576) :
    Calls Try.prog 6 #[.string a, .string b, .string k] w fun e w' => e = .returned (.bool true) ∧ w' = w := by
  obtain ⟨x, HX⟩ : ∃ x, Hid (Pl.bw k.toList a.toList = x) := ⟨_, rfl⟩
  obtain ⟨y, HY⟩ : ∃ y, Hid (Pl.bw k.toList b.toList = y) := ⟨_, rfl⟩
  have HB : Hid (Pl.bw k.toList (Pl.loB a b).toList = (x && y)) := by
    show _ = _
    rw [Pl.loB_list, Pl.bw_lo, HX.out, HY.out]
  have HL : Hid (Pl.loB a (Pl.loB a b) = Pl.loB a b) := Pl.loB_left a b
  have HT : Hid (Pl.loB (Pl.loB a b) b = Pl.loB a b) := Pl.loB_right a b
  generalize hr : Pl.loB a b = r at HB HL HT
  have HR : Hid (Pl.loB a b = r) := hr
  clear hr
  go_enter Try.func6, Try.ntmps6
  go_wp2_with fail
  refine (bytes18_yes a b k _ h).mono ?_
  rintro e w' ⟨rfl, rfl⟩
  go_wp2_with fail
  refine (low_any a b _).mono ?_
  rintro e w' ⟨rfl, rfl⟩
  rw [HR.out]
  clear HR
  go_wp2_with fail
  refine (below_any k r _).mono ?_
  rintro e w' ⟨rfl, rfl⟩
  rw [HB.out]
  clear HB
  go_wp2_with fail
  refine (below_any k a _).mono ?_
  rintro e w' ⟨rfl, rfl⟩
  rw [HX.out]
  clear HX
  cases x
  · go_wp2_with fail
    refine (low_any a r _).mono ?_
    rintro e w' ⟨rfl, rfl⟩
    rw [HL.out]
    go_wp2_with fail
    refine (low_any r b _).mono ?_
    rintro e w' ⟨rfl, rfl⟩
    rw [HT.out]
    go_wp2
    go_ret
    exact ⟨rfl, rfl⟩
  · go_wp2_with fail
    refine (below_any k b _).mono ?_
    rintro e w' ⟨rfl, rfl⟩
    rw [HY.out]
    clear HY
    cases y
    all_goals
      go_wp2_with fail
      refine (low_any a r _).mono ?_
      rintro e w' ⟨rfl, rfl⟩
      rw [HL.out]
      go_wp2_with fail
      refine (low_any r b _).mono ?_
      rintro e w' ⟨rfl, rfl⟩
      rw [HT.out]
      go_wp2
      go_ret
      exact ⟨rfl, rfl⟩
end Go.Proofs.Qxb6619205a.Ends
