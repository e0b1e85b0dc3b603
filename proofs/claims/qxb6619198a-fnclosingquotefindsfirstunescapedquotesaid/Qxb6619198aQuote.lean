import Derived.Test.Qxb6619198aProg
import Derived.Test.Qxb6619198aPlain
import Derived.WalkKit
namespace Go.Proofs.Qxb6619198a.Quote
open Go.RowKit

theorem ret_int {k : IntKind} {a b : Int} (h : a = b) : Ending.returned (.int k a) = .returned (.int k b) := by rw [h]

theorem ret_bool {a b : Bool} (h : a = b) : Ending.returned (.bool a) = .returned (.bool b) := by rw [h]

theorem odd_of_even (r : Nat) (h : ((r : Int) % 2 == 0) = true) : (r % 2 == 1) = false := by
  have := beq_iff_eq.1 h
  exact beq_eq_false_iff_ne.2 (by omega)
theorem odd_of_odd (r : Nat) (h : ((r : Int) % 2 == 0) = false) : (r % 2 == 1) = true := by
  have := beq_eq_false_iff_ne.1 h
  exact beq_iff_eq.2 (by omega)
theorem odd_succ (r : Nat) : ((r + 1) % 2 == 1) = !(r % 2 == 1) := by
  rw [Bool.eq_iff_iff]; simp; omega

theorem hit (s : ByteArray) (k r : Nat) (h : k < s.size) (hc : (s[k].toNat : Int) = 34) (hr : ((r : Int) % 2 == 0) = true) : Pl.caAt (r % 2 == 1) s k = k := by
  rw [odd_of_even r hr]; exact Pl.caAt_hit s k h hc
theorem miss (s : ByteArray) (k r : Nat) (h : k < s.size) (hc : (s[k].toNat : Int) = 34) (hr : ((r : Int) % 2 == 0) = false) : Pl.caAt (r % 2 == 1) s k = Pl.caAt (0 % 2 == 1) s (k + 1) :=
  Pl.caAt_skip _ s k h (by omega) (.inr (odd_of_odd r hr))
theorem back (s : ByteArray) (k r : Nat) (h : k < s.size) (hc : ((s[k].toNat : Int) == 92) = true) : Pl.caAt (r % 2 == 1) s k = Pl.caAt ((r + 1) % 2 == 1) s (k + 1) := by
  rw [odd_succ]; exact Pl.caAt_bs _ s k h (beq_iff_eq.1 hc)
theorem other (s : ByteArray) (k r : Nat) (h : k < s.size) (h0 : ¬ (s[k].toNat : Int) = 34) (hc : ((s[k].toNat : Int) == 92) = false) : Pl.caAt (r % 2 == 1) s k = Pl.caAt (0 % 2 == 1) s (k + 1) :=
  Pl.caAt_skip _ s k h (beq_eq_false_iff_ne.1 hc) (.inl h0)

set_option maxHeartbeats 400000 in
theorem after_any (s : ByteArray) (n : Nat) (w : World) (hs : s.size ≤ 1048576) (hn : n < s.size) :
    Calls Try.prog 8 #[.string s, .int .i64 n] w fun e w' => e = .returned (.int .i64 (Pl.caAt false s (n + 1))) ∧ w' = w := by
  go_enter Try.func8, Try.ntmps8
  go_wp2
  go_loop [5, 6] (fun run j => ∃ k r : Nat, k ≤ s.size ∧ r ≤ k ∧ j = .int .i64 k ∧ run = .int .i64 r ∧ Hid (Pl.caAt false s (n + 1) = Pl.caAt (r % 2 == 1) s k)) (fun _ j => s.size - (intOf j).toNat)
  case atStart => exact ⟨n + 1, 0, by omega, by omega, by go_num, rfl, rfl⟩
  case round =>
    obtain ⟨k, r, hk, hr, rfl, rfl, H⟩ := hrel
    by_cases hlt : k < s.size
    · go_wp2
      · go_ret
        exact ⟨ret_int (by rw [H.out]; exact (hit s k r hlt ‹_› ‹_›).symm), rfl⟩
      · go_round
        case rel => exact ⟨k + 1, 0, by omega, by omega, by go_num, rfl, H.out.trans (miss s k r hlt ‹_› ‹_›)⟩
        case measure => simp [intOf]; omega
      · go_round
        case rel => exact ⟨k + 1, r + 1, by omega, by omega, by go_num, by go_num, H.out.trans (back s k r hlt ‹_›)⟩
        case measure => simp [intOf]; omega
      · go_round
        case rel => exact ⟨k + 1, 0, by omega, by omega, by go_num, rfl, H.out.trans (other s k r hlt ‹_› ‹_›)⟩
        case measure => simp [intOf]; omega
    · go_wp2
      go_ret
      exact ⟨ret_int (by rw [H.out, Pl.caAt_end _ _ _ (by omega)]), rfl⟩

set_option maxHeartbeats 400000 in
theorem closing_any (s : ByteArray) (n m : Nat) (w : World) (hs : s.size ≤ 1048576) (hm : Pl.cq (s.data.toList.drop (n + 1)) = some m) :
    Calls Try.prog 19 #[.string s, .int .i64 n] w fun e w' => e = .returned (.int .i64 ((n + 1 + m : Nat) : Int)) ∧ w' = w := by
  have hn := Pl.cqAt_lt s (n + 1) m hm
  have HM : Hid (Pl.cq (s.data.toList.drop (n + 1)) = some m) := hm
  clear hm
  go_enter Try.func19, Try.ntmps19
  go_wp2
  go_loop [5] (fun j => ∃ k q : Nat, k < s.size ∧ j = .int .i64 k ∧ Hid (k + q = n + 1 + m ∧ Pl.cq (s.data.toList.drop k) = some q)) (fun j => s.size - (intOf j).toNat)
  case atStart => exact ⟨n + 1, m, hn, by go_num, ⟨rfl, HM.out⟩⟩
  case round =>
    obtain ⟨k, q, hlt, rfl, H⟩ := hrel
    go_wp2
    · obtain ⟨q', h1, h2⟩ := Pl.cqAt_bs s k q _ hlt H.out ‹_›
      go_round
      case rel => exact ⟨k + 2, q', h1, by go_num, h2⟩
      case measure => simp [intOf]; omega
    · obtain ⟨q', h1, h2⟩ := Pl.cqAt_skip s k q _ hlt H.out ‹_› ‹_›
      go_round
      case rel => exact ⟨k + 1, q', h1, by go_num, h2⟩
      case measure => simp [intOf]; omega
    · have h1 := Pl.cqAt_hit s k q _ hlt H.out ‹_›
      go_ret
      exact ⟨ret_int (by omega), rfl⟩

theorem zzclosing_any (s : ByteArray) (n m : Nat) (w : World) (hs : s.size ≤ 1048576) (hm : Pl.cq (s.data.toList.drop (n + 1)) = some m) :
    Calls Try.prog 9 #[.string s, .int .i64 n] w fun e w' => e = .returned (.int .i64 ((n + 1 + m : Nat) : Int)) ∧ w' = w := by
  have HM : Hid (Pl.cq (s.data.toList.drop (n + 1)) = some m) := hm
  clear hm
  go_enter Try.func9, Try.ntmps9
  go_wp2_with fail
  refine (closing_any s n m _ hs HM.out).mono ?_
  rintro e w' ⟨rfl, rfl⟩
  go_wp2
  go_ret
  exact ⟨rfl, rfl⟩

theorem bytes7_yes (a b c : ByteArray) (d : Int) (w : World) (h : a.size + b.size + c.size ≤ 1048576) :
    Calls Try.prog 7 #[.string a, .string b, .string c, .int .i64 d] w fun e w' => e = .returned (.bool true) ∧ w' = w := by
  go_enter Try.func7, Try.ntmps7
  go_wp2
  go_ret
  exact ⟨rfl, rfl⟩

theorem bytes7_no (a b c : ByteArray) (d : Int) (w : World) (ha : a.size ≤ maxLen) (hb : b.size ≤ maxLen) (hc : c.size ≤ maxLen) (h : ¬ a.size + b.size + c.size ≤ 1048576) :
    Calls Try.prog 7 #[.string a, .string b, .string c, .int .i64 d] w fun e w' => e = .returned (.bool false) ∧ w' = w := by
  unfold maxLen at ha hb hc
  go_enter Try.func7, Try.ntmps7
  go_wp2
  all_goals (go_ret; exact ⟨rfl, rfl⟩)
end Go.Proofs.Qxb6619198a.Quote
