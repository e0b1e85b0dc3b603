import Derived.Test.Qxb6619205aNodes
import Derived.BigQuiet
namespace Go.Proofs.Qxb6619205a.Nodes
open Go.RowKit

/-- both lengths are small -/
def Both (m n : Nat) : Prop := m ≤ 1048576 ∧ n ≤ 1048576
theorem both_mk {m n : Nat} (h : m ≤ 1048576) (h' : n ≤ 1048576) : Both m n := ⟨h, h'⟩

/-- the call returns a bool of which R holds, and turns nothing -/
def Says (R : Bool → Prop) (w : World) (e : Ending) (w' : World) : Prop := ∃ r : Bool, e = .returned (.bool r) ∧ R r ∧ w' = w

theorem says_no {w : World} {X : Prop} : Says (fun r => r = true → X) w (.returned (.bool false)) w := ⟨false, rfl, fun h => (by cases h), rfl⟩
theorem says_yes {w : World} {X : Prop} (h : X) : Says (fun r => r = true → X) w (.returned (.bool true)) w := ⟨true, rfl, fun _ => h, rfl⟩

set_option maxHeartbeats 2000000 in
theorem bytes8_any (p p' : Option Addr) (l l' : List (ByteArray × ByteArray)) (cap cap' : Nat) (s t : ByteArray) (w : World) (hS : Seg w p l) (hS' : Seg w p' l') (hl : l.length ≤ maxLen) (hl' : l'.length ≤ maxLen) (hs : s.size ≤ maxLen) (ht : t.size ≤ maxLen) :
    Calls Try.prog 8 #[.slice p l.length cap, .slice p' l'.length cap', .string s, .string t] w fun e w' => Says (fun r => r = true → Both l.length l'.length) w e w' := by
  unfold maxLen at hl hl' hs ht
  have HS : Hid (Seg w p l) := hS
  have HS' : Hid (Seg w p' l') := hS'
  clear hS hS'
  by_cases ha : l.length ≤ 1048576
  · go_enter Try.func8, Try.ntmps8
    go_wp2
    go_loop [9, 10] (fun z i => ∃ (k : Nat) (n : Int), k ≤ l.length ∧ i = .int .i64 k ∧ z = .int .i64 n ∧ 0 ≤ n ∧ n ≤ 1048576) (fun _ i => l.length - (intOf i).toNat)
    case atStart => exact ⟨0, _, by omega, rfl, rfl, by omega, by omega⟩
    case round =>
      obtain ⟨k, n, hk, rfl, rfl, hn0, hn1⟩ := hrel
      by_cases hlt : k < l.length
      · obtain ⟨b, off, x, y, hp, hb, hx, hc0, hc1⟩ := Seg.at HS.out hlt
        clear hx
        subst hp
        go_wp2
        · go_ret
          exact says_no
        · go_ret
          exact says_no
        · go_ret
          exact says_no
        · go_ret
          exact says_no
        · go_round
          case rel => exact ⟨k + 1, _, by omega, by go_num, rfl, by omega, by omega⟩
          case measure => simp [intOf]; omega
      · go_wp2
        · go_ret
          exact says_no
        · go_ret
          exact says_no
        · go_loop [9, 11] (fun z i => ∃ (k : Nat) (n : Int), k ≤ l'.length ∧ i = .int .i64 k ∧ z = .int .i64 n ∧ 0 ≤ n ∧ n ≤ 1048576) (fun _ i => l'.length - (intOf i).toNat)
          case atStart => exact ⟨0, _, by omega, rfl, rfl, by omega, by omega⟩
          case round =>
            obtain ⟨k', n', hk', rfl, rfl, hn0', hn1'⟩ := hrel
            by_cases hlt' : k' < l'.length
            · obtain ⟨b, off, x, y, hp, hb, hx, hc0, hc1⟩ := Seg.at HS'.out hlt'
              clear hx
              subst hp
              go_wp2
              · go_ret
                exact says_no
              · go_ret
                exact says_no
              · go_ret
                exact says_no
              · go_ret
                exact says_no
              · go_round
                case rel => exact ⟨k' + 1, _, by omega, by go_num, rfl, by omega, by omega⟩
                case measure => simp [intOf]; omega
            · go_wp2
              all_goals go_ret
              all_goals first | exact says_no | exact says_yes (both_mk ha (by omega))
  · go_enter Try.func8, Try.ntmps8
    go_wp2
    go_ret
    exact says_no

set_option maxHeartbeats 2000000 in
theorem bytes12_any (p p' : Option Addr) (l l' : List (ByteArray × ByteArray)) (cap cap' : Nat) (s : ByteArray) (w : World) (hS : Seg w p l) (hS' : Seg w p' l') (hl : l.length ≤ maxLen) (hl' : l'.length ≤ maxLen) (hs : s.size ≤ maxLen) :
    Calls Try.prog 12 #[.slice p l.length cap, .slice p' l'.length cap', .string s] w fun e w' => Says (fun r => r = true → Both l.length l'.length) w e w' := by
  unfold maxLen at hl hl' hs
  have HS : Hid (Seg w p l) := hS
  have HS' : Hid (Seg w p' l') := hS'
  clear hS hS'
  by_cases ha : l.length ≤ 1048576
  · go_enter Try.func12, Try.ntmps12
    go_wp2
    go_loop [7, 8] (fun z i => ∃ (k : Nat) (n : Int), k ≤ l.length ∧ i = .int .i64 k ∧ z = .int .i64 n ∧ 0 ≤ n ∧ n ≤ 1048576) (fun _ i => l.length - (intOf i).toNat)
    case atStart => exact ⟨0, _, by omega, rfl, rfl, by omega, by omega⟩
    case round =>
      obtain ⟨k, n, hk, rfl, rfl, hn0, hn1⟩ := hrel
      by_cases hlt : k < l.length
      · obtain ⟨b, off, x, y, hp, hb, hx, hc0, hc1⟩ := Seg.at HS.out hlt
        clear hx
        subst hp
        go_wp2
        · go_ret
          exact says_no
        · go_ret
          exact says_no
        · go_ret
          exact says_no
        · go_ret
          exact says_no
        · go_round
          case rel => exact ⟨k + 1, _, by omega, by go_num, rfl, by omega, by omega⟩
          case measure => simp [intOf]; omega
      · go_wp2
        · go_ret
          exact says_no
        · go_ret
          exact says_no
        · go_loop [7, 9] (fun z i => ∃ (k : Nat) (n : Int), k ≤ l'.length ∧ i = .int .i64 k ∧ z = .int .i64 n ∧ 0 ≤ n ∧ n ≤ 1048576) (fun _ i => l'.length - (intOf i).toNat)
          case atStart => exact ⟨0, _, by omega, rfl, rfl, by omega, by omega⟩
          case round =>
            obtain ⟨k', n', hk', rfl, rfl, hn0', hn1'⟩ := hrel
            by_cases hlt' : k' < l'.length
            · obtain ⟨b, off, x, y, hp, hb, hx, hc0, hc1⟩ := Seg.at HS'.out hlt'
              clear hx
              subst hp
              go_wp2
              · go_ret
                exact says_no
              · go_ret
                exact says_no
              · go_ret
                exact says_no
              · go_ret
                exact says_no
              · go_round
                case rel => exact ⟨k' + 1, _, by omega, by go_num, rfl, by omega, by omega⟩
                case measure => simp [intOf]; omega
            · go_wp2
              all_goals go_ret
              all_goals first | exact says_no | exact says_yes (both_mk ha (by omega))
  · go_enter Try.func12, Try.ntmps12
    go_wp2
    go_ret
    exact says_no
end Go.Proofs.Qxb6619205a.Nodes
