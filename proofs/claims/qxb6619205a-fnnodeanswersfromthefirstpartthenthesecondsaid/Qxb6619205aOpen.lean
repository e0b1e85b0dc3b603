import Derived.Test.Qxb6619205aNodes
import Derived.OpenShut
import Derived.Deep.SlicePairs
namespace Go.Proofs.Qxb6619205a.Nodes
open Go.RowKit Go.ChangeShapes Go.WideShapes

def strOf : Value → ByteArray
  | .string s => s
  | _ => ByteArray.empty

/-- A SLICE OF PAIRS OF STRINGS THAT CAME IN: the list of its elements -/
theorem seg_of {H : Type} {enc : TypeId × Value → H} {W : World} {fuel : Nat} {a : Option Addr} {len cap : Nat} {x : DataW H × List MemPlace}
    (hf : DataW.trod enc Try.prog W 0 (fun _ => true) true fuel 22 [.slice a len cap] = some x) : ∃ l : List (ByteArray × ByteArray), l.length = len ∧ Seg W a l ∧ len ≤ maxLen := by
  rcases Deep.open_slice_pairs Try.underlying22 Try.underlying31 (by kernel_rfl) rfl rfl (by kernel_rfl) (by kernel_rfl) hf with ⟨hcs, _⟩ | ⟨ad, l', c', m, n, V0, V1, D0, D1, P0, P1, hcs, _, hl, hm, hmm, _, hx⟩
  · simp at hcs
    obtain ⟨rfl, rfl, rfl⟩ := hcs
    exact ⟨[], rfl, .inl rfl, by unfold maxLen; omega⟩
  · simp at hcs
    obtain ⟨rfl, rfl, rfl⟩ := hcs
    have hmc : m = cap := by simpa using hmm
    subst hmc
    refine ⟨(List.range len).map fun i => (strOf (V0 i), strOf (V1 i)), by simp, ?_, by omega⟩
    by_cases h0 : len = 0
    · left; subst h0; rfl
    · right
      obtain ⟨b, off, spot⟩ := ad
      have hsp : spot = none := by
        have := (hx 0 (by omega)).1
        simpa [Addr.add] using World.cell?_spot this
      subst hsp
      refine ⟨b, off, rfl, World.block_lt_of_cell? W _ (by simpa [Addr.add] using (hx 0 (by omega)).1), fun i s t hi => ?_⟩
      obtain ⟨hi', e⟩ := List.getElem?_eq_some_iff.1 hi
      have hil : i < len := by simpa using hi'
      simp at e
      obtain ⟨e0, e1⟩ := e
      obtain ⟨c0, c1, t0, t1⟩ := hx i (by omega)
      obtain ⟨s0, u0, _, _⟩ := DataW.trod_string Try.underlying9 t0
      obtain ⟨s1, u1, _, _⟩ := DataW.trod_string Try.underlying9 t1
      simp at u0 u1
      rw [u0] at e0 c0
      rw [u1] at e1 c1
      rw [add_plain] at c0 c1
      simp only [strOf] at e0 e1
      subst e0 e1
      exact ⟨c0, by simpa [Nat.add_assoc] using c1⟩
end Go.Proofs.Qxb6619205a.Nodes
