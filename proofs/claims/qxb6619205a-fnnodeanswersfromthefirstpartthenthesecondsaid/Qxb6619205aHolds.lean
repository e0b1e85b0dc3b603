import Derived.Test.Qxb6619205aFind
namespace Go.Proofs.Qxb6619205a.Nodes
open Go.RowKit

def holds (l : List (ByteArray × ByteArray)) (n a : ByteArray) : Bool := l.any fun x => x.1.toList == n.toList && x.2.toList == a.toList

theorem holds_end (l : List (ByteArray × ByteArray)) (n a : ByteArray) (k : Nat) (h : l.length ≤ k) : holds (l.drop k) n a = false := by
  rw [List.drop_of_length_le h]; rfl
theorem holds_step (l : List (ByteArray × ByteArray)) (n a : ByteArray) (k : Nat) (x y : ByteArray) (h : l[k]? = some (x, y)) : holds (l.drop k) n a = ((x.toList == n.toList && y.toList == a.toList) || holds (l.drop (k + 1)) n a) := by
  obtain ⟨hk, e⟩ := List.getElem?_eq_some_iff.1 h
  unfold holds
  rw [List.drop_eq_getElem_cons hk, List.any_cons, e]

def Held (w : World) (l : List (ByteArray × ByteArray)) (n a : ByteArray) (e : Ending) (w' : World) : Prop := e = .returned (.bool (holds l n a)) ∧ Below w.heap.size w w'
theorem held_mk {w : World} {l : List (ByteArray × ByteArray)} {n a : ByteArray} {r : Bool} {q : Nat} {O : Obj} (h : holds l n a = r) : Held w l n a (.returned (.bool r)) ((w.alloc O).drewN q) :=
  ⟨by rw [h], below_drewN ((Below.refl _ _).alloc (Nat.le_refl _) _) _⟩

theorem held_of {w w' : World} {l : List (ByteArray × ByteArray)} {n a : ByteArray} {r : Bool} (h : holds l n a = r) (hb : Below w.heap.size w w') : Held w l n a (.returned (.bool r)) w' := ⟨by rw [h], hb⟩

set_option maxHeartbeats 2000000 in
theorem holds_any (p : Option Addr) (l : List (ByteArray × ByteArray)) (cap : Nat) (n a : ByteArray) (w : World) (hS : Seg w p l) (hl : l.length ≤ 1048576) :
    Calls Try.prog 14 #[.slice p l.length cap, .agg #[.string n, .string a]] w fun e w' => Held w l n a e w' := by
  have HS : Hid (Seg w p l) := hS
  clear hS
  go_enter Try.func14, Try.ntmps14
  go_wp2
  go_loopw [5] (fun i wr => ∃ k : Nat, k ≤ l.length ∧ i = .int .i64 k ∧ Hid (holds l n a = holds (l.drop k) n a) ∧ ∃ q, wr = (w.alloc (.cells #[.string n, .string a] 33)).drewN q) (fun i _ => l.length - (intOf i).toNat)
  case atStart => exact ⟨0, by omega, rfl, rfl, 0, rfl⟩
  case round =>
    obtain ⟨k, hk, rfl, H, q, rfl⟩ := hrel
    by_cases hlt : k < l.length
    · obtain ⟨b, off, x, y, hp, hb, hx, hc0, hc1⟩ := Seg.at HS.out hlt
      have HX : Hid (l[k]? = some (x, y)) := hx
      have hk0 : (0 : Int) ≤ (k : Int) := Int.natCast_nonneg _
      have hk1 : (k : Int) < (l.length : Int) := by omega
      clear hx
      subst hp
      cases hq : (x.toList == n.toList)
      · have HQ : Hid ((x.toList == n.toList) = false) := hq
        go_wp2
        go_quiet (fail)
        go_wp2
        go_roundw
        case rel => exact ⟨k + 1, by omega, by go_num, by show holds l n a = _; rw [H.out, holds_step l n a k x y HX.out, HQ.out]; rfl, _, rfl⟩
        case measure => simp [intOf]; omega
      · have HQ : Hid ((x.toList == n.toList) = true) := hq
        cases hr : (y.toList == a.toList)
        · have HQ' : Hid ((y.toList == a.toList) = false) := hr
          go_wp2
          go_quiet (fail)
          go_wp2
          go_roundw
          case rel => exact ⟨k + 1, by omega, by go_num, by show holds l n a = _; rw [H.out, holds_step l n a k x y HX.out, HQ.out, HQ'.out]; rfl, _, rfl⟩
          case measure => simp [intOf]; omega
        · have HQ' : Hid ((y.toList == a.toList) = true) := hr
          go_wp2
          go_quiet (fail)
          go_wp2
          have HR : Hid (holds l n a = true) := by show holds l n a = _; rw [H.out, holds_step l n a k x y HX.out, HQ.out, HQ'.out]; rfl
          go_ret
          exact held_of HR.out (below_drewN (below_drewN ((Below.refl _ _).alloc (Nat.le_refl _) _) _) _)
    · go_wp2
      go_ret
      exact held_mk (by rw [H.out, holds_end l n a k (by omega)])
end Go.Proofs.Qxb6619205a.Nodes
