import Derived.Test.Qxb6619205aSizes
import Derived.Deep.QuietTactic
import Derived.BigQuiet
namespace Go.Proofs.Qxb6619205a.Nodes
open Go.RowKit

/-- the call returns a small number, and only draws -/
def Adds (w : World) (e : Ending) (w' : World) : Prop := ∃ t : Int, e = .returned (.int .i64 t) ∧ 0 ≤ t ∧ t ≤ 9000000 ∧ ∃ q, w' = w.drewN q
theorem adds_mk {w : World} {t : Int} {q : Nat} (h0 : 0 ≤ t) (h1 : t ≤ 9000000) : Adds w (.returned (.int .i64 t)) (w.drewN q) := ⟨t, rfl, h0, h1, q, rfl⟩

set_option maxHeartbeats 1000000 in
theorem add_any (p : Option Addr) (l : List (ByteArray × ByteArray)) (cap : Nat) (tot : Int) (w : World) (hS : Seg w p l) (hl : l.length ≤ maxLen) (h0 : 0 ≤ tot) (h1 : tot ≤ 1048576) :
    Calls Try.prog 22 #[.int .i64 tot, .slice p l.length cap] w fun e w' => Adds w e w' := by
  unfold maxLen at hl
  have HS : Hid (Seg w p l) := hS
  clear hS
  go_enter Try.func22, Try.ntmps22
  go_wp2
  go_loopw [0, 5] (fun t i wr => ∃ (k : Nat) (n : Int), k ≤ l.length ∧ i = .int .i64 k ∧ t = .int .i64 n ∧ 0 ≤ n ∧ n ≤ 1048576 ∧ ∃ q, wr = w.drewN q) (fun _ i _ => l.length - (intOf i).toNat)
  case atStart => exact ⟨0, _, by omega, rfl, rfl, by omega, by omega, 0, rfl⟩
  case round =>
    obtain ⟨k, n, hk, rfl, rfl, hn0, hn1, q, rfl⟩ := hrel
    by_cases hlt : k < l.length
    · obtain ⟨b, off, x, y, hp, hb, hx, hc0, hc1⟩ := Seg.at HS.out hlt
      clear hx
      subst hp
      by_cases g0 : (1048576 : Int) < x.size
      · go_wp2
        go_ret
        exact adds_mk (by omega) (by omega)
      · by_cases g1 : (1048576 : Int) < y.size
        · go_wp2
          go_ret
          exact adds_mk (by omega) (by omega)
        · go_wp2
          go_quiet (fail)
          go_wp2
          · go_ret
            exact adds_mk (by omega) (by omega)
          · go_roundw
            case rel => exact ⟨k + 1, _, by omega, by go_num, rfl, by omega, by omega, _, rfl⟩
            case measure => simp [intOf]; omega
    · go_wp2
      go_ret
      exact adds_mk (by omega) (by omega)

/-- the call returns a bool, and only draws -/
def Fit (w : World) (e : Ending) (w' : World) : Prop := ∃ r : Bool, e = .returned (.bool r) ∧ ∃ q, w' = w.drewN q
theorem fit_mk {w : World} {r : Bool} {q : Nat} : Fit w (.returned (.bool r)) (w.drewN q) := ⟨r, rfl, q, rfl⟩

theorem Seg.drewN {w : World} {p : Option Addr} {l : List (ByteArray × ByteArray)} (h : Seg w p l) (q : Nat) : Seg (w.drewN q) p l := by
  rcases h with h | ⟨b, off, hp, hb, hc⟩
  · exact .inl h
  · exact .inr ⟨b, off, hp, hb, hc⟩

set_option maxHeartbeats 1000000 in
theorem fit_any (p p' : Option Addr) (l l' : List (ByteArray × ByteArray)) (cap cap' : Nat) (s t : ByteArray) (w : World) (hS : Seg w p l) (hS' : Seg w p' l') (hl : l.length ≤ maxLen) (hl' : l'.length ≤ maxLen) (hs : s.size ≤ maxLen) (ht : t.size ≤ maxLen) :
    Calls Try.prog 9 #[.slice p l.length cap, .slice p' l'.length cap', .string s, .string t] w fun e w' => Fit w e w' := by
  unfold maxLen at hs ht
  have HS : Hid (Seg w p l) := hS
  have HS' : Hid (Seg w p' l') := hS'
  clear hS hS'
  have no : Fit w (.returned (.bool false)) w := fit_mk (q := 0)
  have No : Hid (Fit w (.returned (.bool false)) w) := no
  clear no
  by_cases g0 : (1048576 : Int) < s.size
  · go_enter Try.func9, Try.ntmps9
    go_wp2
    go_ret
    exact No.out
  by_cases g1 : (1048576 : Int) < t.size
  · go_enter Try.func9, Try.ntmps9
    go_wp2
    go_ret
    exact No.out
  by_cases g2 : (1048576 : Int) < (s.size : Int) + t.size
  · go_enter Try.func9, Try.ntmps9
    go_wp2
    go_ret
    exact No.out
  go_enter Try.func9, Try.ntmps9
  go_wp2_with fail
  refine (add_any p l cap _ _ HS.out hl (by omega) (by omega)).mono ?_
  rintro e w' ⟨t1, rfl, h10, h11, q1, rfl⟩
  by_cases g3 : (1048576 : Int) < t1
  · go_wp2
    go_ret
    exact fit_mk
  · go_wp2_with fail
    refine (add_any p' l' cap' _ _ (Seg.drewN HS'.out q1) hl' (by omega) (by omega)).mono ?_
    rintro e w' ⟨t2, rfl, h20, h21, q2, rfl⟩
    go_wp2
    go_ret
    exact ⟨_, rfl, q1 + q2, by simp⟩
end Go.Proofs.Qxb6619205a.Nodes
