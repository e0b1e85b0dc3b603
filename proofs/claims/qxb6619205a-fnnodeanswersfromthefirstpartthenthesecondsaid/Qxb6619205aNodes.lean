import Derived.Test.Qxb6619205aProg
import Derived.WalkKit
import Derived.WalkLawsBesides
import Derived.RowKit3
namespace Go.Proofs.Qxb6619205a.Nodes
open Go.RowKit

theorem ret_bool {a b : Bool} (h : a = b) : Ending.returned (.bool a) = .returned (.bool b) := by rw [h]

/-- the slice that begins at p holds the pairs l, two cells an element -/
def Seg (w : World) (p : Option Addr) (l : List (ByteArray × ByteArray)) : Prop :=
  l = [] ∨ ∃ b off, p = some ⟨b, off, none⟩ ∧ b < w.heap.size ∧ ∀ i n a, l[i]? = some (n, a) →
    w.cell? ⟨b, off + i * 2, none⟩ = some (.string n) ∧ w.cell? ⟨b, off + i * 2 + 1, none⟩ = some (.string a)

theorem Seg.at {w : World} {p : Option Addr} {l : List (ByteArray × ByteArray)} (h : Seg w p l) {k : Nat} (hk : k < l.length) :
    ∃ b off n a, p = some ⟨b, off, none⟩ ∧ b < w.heap.size ∧ l[k]? = some (n, a) ∧ w.cell? ⟨b, off + k * 2, none⟩ = some (.string n) ∧ w.cell? ⟨b, off + k * 2 + 1, none⟩ = some (.string a) := by
  rcases h with rfl | ⟨b, off, rfl, hb, hc⟩
  · simp at hk
  · have e : l[k]? = some (l[k].1, l[k].2) := by rw [List.getElem?_eq_getElem hk]
    exact ⟨b, off, l[k].1, l[k].2, rfl, hb, e, hc k _ _ e⟩

def named (l : List (ByteArray × ByteArray)) (q : ByteArray) : Bool := l.any fun x => x.1.toList == q.toList

theorem named_end (l : List (ByteArray × ByteArray)) (q : ByteArray) (k : Nat) (h : l.length ≤ k) : named (l.drop k) q = false := by
  rw [List.drop_of_length_le h]; rfl
theorem named_step (l : List (ByteArray × ByteArray)) (q : ByteArray) (k : Nat) (n a : ByteArray) (h : l[k]? = some (n, a)) : named (l.drop k) q = ((n.toList == q.toList) || named (l.drop (k + 1)) q) := by
  obtain ⟨hk, e⟩ := List.getElem?_eq_some_iff.1 h
  unfold named
  rw [List.drop_eq_getElem_cons hk, List.any_cons, e]

set_option maxHeartbeats 400000 in
theorem named_any (p : Option Addr) (l : List (ByteArray × ByteArray)) (cap : Nat) (q : ByteArray) (w : World) (hS : Seg w p l) (hl : l.length ≤ 1048576) :
    Calls Try.prog 13 #[.slice p l.length cap, .string q] w fun e w' => e = .returned (.bool (named l q)) ∧ w' = w := by
  have HS : Hid (Seg w p l) := hS
  clear hS
  go_enter Try.func13, Try.ntmps13
  go_wp2
  go_loop [5] (fun i => ∃ k : Nat, k ≤ l.length ∧ i = .int .i64 k ∧ Hid (named l q = named (l.drop k) q)) (fun i => l.length - (intOf i).toNat)
  case atStart => exact ⟨0, by omega, rfl, rfl⟩
  case round =>
    obtain ⟨k, hk, rfl, H⟩ := hrel
    by_cases hlt : k < l.length
    · obtain ⟨b, off, n, a, hp, hb, hx, hc0, hc1⟩ := Seg.at HS.out hlt
      have HX : Hid (l[k]? = some (n, a)) := hx
      clear hx
      subst hp
      go_wp2
      · have e : (n.toList == q.toList) = true := by assumption
        go_ret
        exact ⟨ret_bool (by rw [H.out, named_step l q k n a HX.out, e]; rfl), rfl⟩
      · have e : (n.toList == q.toList) = false := by assumption
        go_round
        case rel => exact ⟨k + 1, by omega, by go_num, by show named l q = _; rw [H.out, named_step l q k n a HX.out, e]; rfl⟩
        case measure => simp [intOf]; omega
    · go_wp2
      go_ret
      exact ⟨ret_bool (by rw [H.out, named_end l q k (by omega)]), rfl⟩
end Go.Proofs.Qxb6619205a.Nodes
