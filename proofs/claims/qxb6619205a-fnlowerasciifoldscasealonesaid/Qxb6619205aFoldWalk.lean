import Derived.Test.Qxb6619205aProg
import Derived.Test.Qxb6619205aFold
import Derived.WalkKit
import Derived.RowKit3
namespace Go.Proofs.Qxb6619205a.Fold
open Go.RowKit

theorem ret_bool {a b : Bool} (h : a = b) : Ending.returned (.bool a) = .returned (.bool b) := by rw [h]
theorem ret_int {k : IntKind} {a b : Int} (h : a = b) : Ending.returned (.int k a) = .returned (.int k b) := by rw [h]

theorem low_any (r : Int) (w : World) (h0 : -2147483648 ≤ r) (h1 : r ≤ 2147483647) :
    Calls Try.prog 20 #[.int .i32 r] w fun e w' => e = .returned (.int .i32 (Pl.la r)) ∧ w' = w := by
  by_cases hr : 65 ≤ r ∧ r ≤ 90
  · obtain ⟨ha, hb⟩ := hr
    go_enter Try.func20, Try.ntmps20
    go_wp2
    go_ret
    exact ⟨ret_int (by rw [Pl.la_yes r ⟨ha, hb⟩]; omega), rfl⟩
  · by_cases ha : 65 ≤ r
    · have hb : 90 < r := by omega
      go_enter Try.func20, Try.ntmps20
      go_wp2
      go_ret
      exact ⟨ret_int (by rw [Pl.la_no r hr]), rfl⟩
    · go_enter Try.func20, Try.ntmps20
      go_wp2
      go_ret
      exact ⟨ret_int (by rw [Pl.la_no r hr]), rfl⟩

theorem fe_eq {r s : Int} (h : (r == s) = true) : true = Pl.fe r s := by unfold Pl.fe; rw [h]; rfl
theorem fe_out {r s : Int} (h : (r == s) = false) (h1 : bits BinOp.or IntKind.i32 r 32 < 97 ∨ 122 < bits BinOp.or IntKind.i32 r 32) : false = Pl.fe r s := by
  unfold Pl.fe; rw [h, decide_eq_false (by omega)]; rfl
theorem fe_in {r s : Int} (h : (r == s) = false) (h1 : 97 ≤ bits BinOp.or IntKind.i32 r 32 ∧ bits BinOp.or IntKind.i32 r 32 ≤ 122) : (s == bits BinOp.xor IntKind.i32 r 32) = Pl.fe r s := by
  unfold Pl.fe; rw [h, decide_eq_true h1]; rfl

theorem fold_any (r s : Int) (w : World) :
    Calls Try.prog 21 #[.int .i32 r, .int .i32 s] w fun e w' => e = .returned (.bool (Pl.fe r s)) ∧ w' = w := by
  go_enter Try.func21, Try.ntmps21
  go_wp2
  all_goals go_ret
  · exact ⟨ret_bool (fe_eq ‹_›), rfl⟩
  · exact ⟨ret_bool (fe_out ‹_› ‹_›), rfl⟩
  · exact ⟨ret_bool (fe_in ‹_› ‹_›), rfl⟩
  · exact ⟨ret_bool (fe_out ‹_› (Or.inl ‹_›)), rfl⟩

theorem cap_no {q : Int} (h : q < 65 ∨ 90 < q) (g : 65 ≤ q) : (!decide (q ≤ 90)) = true := by
  rw [decide_eq_false (by omega)]; rfl
theorem not_both {q r x : Int} (h : q = r ∨ q = x) (e : (q != r) = true ∧ (q != x) = true) : False := by
  simp only [bne_iff_ne] at e
  rcases h with h | h
  · exact e.1 h
  · exact e.2 h

theorem law_any (r s : Int) (w : World) (h0 : -2147483648 ≤ r) (h1 : r ≤ 2147483647) (h2 : -2147483648 ≤ s) (h3 : s ≤ 2147483647) :
    Calls Try.prog 7 #[.int .i32 r, .int .i32 s] w fun e w' => e = .returned (.bool true) ∧ w' = w := by
  obtain ⟨b, HB⟩ : ∃ b, Hid ((Pl.la r == Pl.la s) = b) := ⟨_, rfl⟩
  have HF : Hid (Pl.fe r s = b) := by show _ = _; rw [Pl.fe_la r s h0 h1, HB.out]
  have HL : Hid (Pl.la (Pl.la r) = Pl.la r) := Pl.la_la r
  obtain ⟨hl0, hl1⟩ := Pl.la_bd r h0 h1
  have HC : Hid (Pl.la r < 65 ∨ 90 < Pl.la r) := Pl.la_cap r
  have HX : Hid (Pl.la r = r ∨ Pl.la r = bits .xor .i32 r 32) := by
    by_cases h : 65 ≤ r ∧ r ≤ 90
    · exact .inr (Pl.la_xor r h)
    · exact .inl (Pl.la_no r h)
  go_enter Try.func7, Try.ntmps7
  go_wp2_with fail
  refine (low_any r _ h0 h1).mono ?_
  rintro e w' ⟨rfl, rfl⟩
  go_wp2_with fail
  refine (low_any s _ h2 h3).mono ?_
  rintro e w' ⟨rfl, rfl⟩
  go_wp2_with fail
  refine (fold_any r s _).mono ?_
  rintro e w' ⟨rfl, rfl⟩
  rw [HF.out, HB.out]
  clear HF HB
  have hbb : (b != b) = false := by cases b <;> rfl
  go_wp2_with fail
  refine (low_any (Pl.la r) _ hl0 hl1).mono ?_
  rintro e w' ⟨rfl, rfl⟩
  rw [HL.out]
  clear HL hbb
  generalize Pl.la r = q at *
  go_wp2
  · have e : q = r := by assumption
    have g : 65 ≤ r := by assumption
    go_ret
    exact ⟨ret_bool (cap_no (e ▸ HC.out) g), rfl⟩
  · go_ret
    exact ⟨rfl, rfl⟩
  · have e : (q != r) = true ∧ (q != bits BinOp.xor IntKind.i32 r 32) = true := by assumption
    exact (not_both HX.out e).elim
  · have g : 65 ≤ q := by assumption
    go_ret
    exact ⟨ret_bool (cap_no HC.out g), rfl⟩
  · go_ret
    exact ⟨rfl, rfl⟩
end Go.Proofs.Qxb6619205a.Fold
