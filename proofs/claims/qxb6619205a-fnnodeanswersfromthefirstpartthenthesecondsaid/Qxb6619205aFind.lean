import Derived.Test.Qxb6619205aMake
namespace Go.Proofs.Qxb6619205a.Nodes
open Go.RowKit

/-- what '(*Cluster).Node' answers -/
def look (l : List (ByteArray × ByteArray)) (q : ByteArray) : Option (ByteArray × ByteArray) := l.find? fun x => x.1.toList == q.toList

theorem look_end (l : List (ByteArray × ByteArray)) (q : ByteArray) (k : Nat) (h : l.length ≤ k) : look (l.drop k) q = none := by
  rw [List.drop_of_length_le h]; rfl
theorem look_hit (l : List (ByteArray × ByteArray)) (q : ByteArray) (k : Nat) (n a : ByteArray) (h : l[k]? = some (n, a)) (hq : (n.toList == q.toList) = true) : look (l.drop k) q = some (n, a) := by
  obtain ⟨hk, e⟩ := List.getElem?_eq_some_iff.1 h
  unfold look
  rw [List.drop_eq_getElem_cons hk, e, List.find?_cons]; simp only [hq]
theorem look_miss (l : List (ByteArray × ByteArray)) (q : ByteArray) (k : Nat) (n a : ByteArray) (h : l[k]? = some (n, a)) (hq : (n.toList == q.toList) = false) : look (l.drop k) q = look (l.drop (k + 1)) q := by
  obtain ⟨hk, e⟩ := List.getElem?_eq_some_iff.1 h
  unfold look
  rw [List.drop_eq_getElem_cons hk, e, List.find?_cons]; simp only [hq]

/-- the answer as a value -/
def ansOf : Option (ByteArray × ByteArray) → Value
  | some x => .tuple #[.agg #[.string x.1, .string x.2], .bool true]
  | none => .tuple #[.agg #[.string ByteArray.empty, .string ByteArray.empty], .bool false]

def Found (w : World) (l : List (ByteArray × ByteArray)) (q : ByteArray) (e : Ending) (w' : World) : Prop := e = .returned (ansOf (look l q)) ∧ Below w.heap.size w w'

theorem two_set {wr : World} {B : Nat} {u0 u1 : Value} (h0 : wr.cell? ⟨B, 0, none⟩ = some u0) (h1 : wr.cell? ⟨B, 1, none⟩ = some u1) (v0 v1 : Value) :
    ((wr.setCell ⟨B, 0, none⟩ v0).setCell ⟨B, 1, none⟩ v1).cell? ⟨B, 0, none⟩ = some v0 ∧ ((wr.setCell ⟨B, 0, none⟩ v0).setCell ⟨B, 1, none⟩ v1).cell? ⟨B, 1, none⟩ = some v1 := by
  have e0 : (wr.setCell ⟨B, 0, none⟩ v0).cell? ⟨B, 0, none⟩ = some v0 := World.cell?_setCell_same _ _ _ h0
  have e1 : (wr.setCell ⟨B, 0, none⟩ v0).cell? ⟨B, 1, none⟩ = some u1 := by rw [World.cell?_setCell_other]; exact h1; simp
  refine ⟨?_, World.cell?_setCell_same _ _ _ e1⟩
  rw [World.cell?_setCell_other]; exact e0; simp

theorem two_set_alloc {wr : World} {B : Nat} {u0 u1 : Value} (h0 : wr.cell? ⟨B, 0, none⟩ = some u0) (h1 : wr.cell? ⟨B, 1, none⟩ = some u1) (hB : B < wr.heap.size) (v0 v1 : Value) (O : Obj) :
    (((wr.setCell ⟨B, 0, none⟩ v0).setCell ⟨B, 1, none⟩ v1).alloc O).cell? ⟨B, 0, none⟩ = some v0 ∧ (((wr.setCell ⟨B, 0, none⟩ v0).setCell ⟨B, 1, none⟩ v1).alloc O).cell? ⟨B, 1, none⟩ = some v1 := by
  have hz : B < ((wr.setCell ⟨B, 0, none⟩ v0).setCell ⟨B, 1, none⟩ v1).heap.size := by simpa [World.setCell] using hB
  rw [World.cell?_alloc_past _ _ _ hz, World.cell?_alloc_past _ _ _ hz]
  exact two_set h0 h1 v0 v1

set_option maxHeartbeats 2000000 in
theorem node_any (cb : Nat) (p : Option Addr) (l : List (ByteArray × ByteArray)) (cap : Nat) (q : ByteArray) (w : World) (hc : w.cell? ⟨cb, 1, none⟩ = some (.slice p l.length cap)) (hS : Seg w p l) (hl : l.length ≤ 4194304) :
    Calls Try.prog 11 #[.pointer (some ⟨cb, 0, none⟩), .string q] w fun e w' => Found w l q e w' := by
  have HS : Hid (Seg w p l) := hS
  clear hS
  have hcb := World.block_lt_of_cell? w _ hc
  go_enter Try.func11, Try.ntmps11
  go_wp2
  go_loopw [13] (fun i wr => ∃ k : Nat, k ≤ l.length ∧ i = .int .i64 k ∧ wr.cell? ⟨w.heap.size, 0, none⟩ = some (.string ⟨#[]⟩) ∧ wr.cell? ⟨w.heap.size, 1, none⟩ = some (.string ⟨#[]⟩) ∧
      wr.frozen? ⟨w.heap.size, 0, none⟩ = false ∧ wr.frozen? ⟨w.heap.size, 1, none⟩ = false ∧ w.heap.size < wr.heap.size ∧ Hid (Below w.heap.size w wr ∧ look l q = look (l.drop k) q)) (fun i _ => l.length - (intOf i).toNat)
  case atStart => exact ⟨0, by omega, rfl, by simp, by simp, by simp, by simp, by simp, (Below.refl _ _).alloc (Nat.le_refl _) _, rfl⟩
  case round =>
    obtain ⟨k, hk, rfl, hr0, hr1, hf0, hf1, hsz, H⟩ := hrel
    by_cases hlt : k < l.length
    · obtain ⟨b, off, n, a, hp, hb, hx, hc0, hc1⟩ := Seg.at HS.out hlt
      have hd0 : wr.cell? ⟨b, off + k * 2, none⟩ = some (.string n) := (H.out.1.cell hb).trans hc0
      have hd1 : wr.cell? ⟨b, off + k * 2 + 1, none⟩ = some (.string a) := (H.out.1.cell hb).trans hc1
      have HX : Hid (l[k]? = some (n, a)) := hx
      clear hx hc0 hc1
      subst hp
      cases hq : (n.toList == q.toList)
      · have HQ : Hid ((n.toList == q.toList) = false) := hq
        go_wp2
        go_roundw
        case rel =>
          refine ⟨k + 1, by omega, by go_num, ?_, ?_, ?_, ?_, ?_, ?_, ?_⟩
          · rw [World.cell?_alloc_past _ _ _ hsz]; exact hr0
          · rw [World.cell?_alloc_past _ _ _ hsz]; exact hr1
          · rw [World.frozen?_alloc_past _ _ _ hsz]; exact hf0
          · rw [World.frozen?_alloc_past _ _ _ hsz]; exact hf1
          · simp; omega
          · exact H.out.1.alloc (Nat.le_of_lt hsz) _
          · rw [H.out.2, look_miss l q k n a HX.out HQ.out]
        case measure => simp [intOf]; omega
      · have HQ : Hid ((n.toList == q.toList) = true) := hq
        have HA : Hid (look l q = some (n, a)) := H.out.2.trans (look_hit l q k n a HX.out HQ.out)
        go_wp2
        obtain ⟨q0, q1⟩ := two_set_alloc hr0 hr1 hsz (.string n) (.string a) (.cells #[.string n, .string a] 33)
        refine bodyPost_ret (v := .tuple #[.agg #[.string n, .string a], .bool true]) (by simp [results, Try.results11, go_sem, q0, q1]) rfl ⟨by rw [HA.out]; rfl, ?_⟩
        exact Below.alloc ((H.out.1.setCell (Nat.le_refl _) _).setCell (Nat.le_refl _) _) (by simp [World.setCell]; omega) _
    · have HA : Hid (look l q = none) := H.out.2.trans (look_end l q k (by omega))
      go_wp2
      obtain ⟨q0, q1⟩ := two_set hr0 hr1 (.string ⟨#[]⟩) (.string ⟨#[]⟩)
      refine bodyPost_ret (v := .tuple #[.agg #[.string ⟨#[]⟩, .string ⟨#[]⟩], .bool false]) (by simp [results, Try.results11, go_sem, q0, q1]) rfl ⟨by rw [HA.out]; rfl, ?_⟩
      exact (H.out.1.setCell (Nat.le_refl _) _).setCell (Nat.le_refl _) _
end Go.Proofs.Qxb6619205a.Nodes
