import Derived.Test.Qxb6619205aFit
import Derived.WalkSpells
import Derived.OwnWalk
import Derived.Deep.RegionHeld3
import Derived.Deep.AppendLies
import Derived.Deep.DeepAppendRoom
namespace Go.Proofs.Qxb6619205a.Nodes
open Go.RowKit

theorem info33 : (Try.prog.info? 33).map (fun i => (i.zero, i.size, i.bytes)) = some (some (.agg #[.string ByteArray.empty, .string ByteArray.empty]), 2, 32) := by kernel_rfl

/-- append within the capacity, at a step of a region that draws its order -/
theorem step_append_spare {P : Program} (w : World) {ops : Array Oper} {o : Oper} {a : Act} {K : Act → World → Prop} {Q : Exit → Act → World → Prop} {E : Prop} (hgd : o.guard = none) (s x : Operand) (t : TypeId)
    (ho : o.op = .call { callee := .builtin .append, args := #[s, x], argTypes := #[t, t] })
    (base : Nat) (e : TypeId) (i : TypeInfo) (size : Nat) (ht : P.underlying t = some (.slice e)) (hi : P.info? e = some i) (hsize : i.size = size)
    (g n cap : Nat) (xs : List Value) (hs : a.eval s = .slice (some ⟨g, 0, none⟩) n cap) (hown : w.ownsRow base e size (.slice (some ⟨g, 0, none⟩) n cap) n xs)
    (ad : Addr) (m c : Nat) (news : List Value) (hx : a.eval x = .slice (some ad) m c) (hl : news.length = m * size) (hnews : ∀ j u, news[j]? = some u → w.cell? (ad.add j) = some u) (h1 : ∀ u ∈ news, u.oneCell' = true)
    (hroom : n + m ≤ cap)
    (h : ∀ w', w'.ownsRow base e size (.slice (some ⟨g, 0, none⟩) (n + m) cap) (n + m) (xs ++ news) → w.grownBy w' (some g) → K (a.put o.dst (.slice (some ⟨g, 0, none⟩) (n + m) cap)) w') :
    if Region.wanted o (yielded ops a.tmps) = true then Oper.wp P o a w K Q else E := by
  have hw : Region.wanted o (yielded ops a.tmps) = true := by simp [Region.wanted, hgd]
  rw [if_pos hw]
  exact wp_append_own_spare w s x t ho base e i size ht hi hsize g n cap xs hs hown ad m c news hx hl hnews h1 hroom h

/-- the cells of a list of pairs -/
def cellsOf (l : List (ByteArray × ByteArray)) : List Value := l.flatMap fun x => [.string x.1, .string x.2]

theorem cellsOf_snoc (l : List (ByteArray × ByteArray)) (n a : ByteArray) : cellsOf (l ++ [(n, a)]) = cellsOf l ++ [.string n, .string a] := by simp [cellsOf]

theorem cellsOf_at : ∀ (l : List (ByteArray × ByteArray)) (i : Nat) (n a : ByteArray), l[i]? = some (n, a) → (cellsOf l)[i * 2]? = some (.string n) ∧ (cellsOf l)[i * 2 + 1]? = some (.string a)
  | [], i, n, a, h => by simp at h
  | x :: l, 0, n, a, h => by simp at h; subst h; simp [cellsOf]
  | x :: l, i + 1, n, a, h => by
    have ih := cellsOf_at l i n a (by simpa using h)
    have e : cellsOf (x :: l) = .string x.1 :: .string x.2 :: cellsOf l := by simp [cellsOf]
    rw [e, show (i + 1) * 2 = i * 2 + 1 + 1 from by omega]
    simpa using ih

/-- block B holds the pairs l, with room for cap; below B nothing has turned since w -/
structure Own (B cap : Nat) (w wr : World) (l : List (ByteArray × ByteArray)) : Prop where
  own : wr.ownsRow B 33 2 (.slice (some ⟨B, 0, none⟩) l.length cap) l.length (cellsOf l)
  below : Below B w wr
  lt : B < wr.heap.size

theorem Own.seg {B cap : Nat} {w wr : World} {l : List (ByteArray × ByteArray)} (h : Own B cap w wr l) : Seg wr (some ⟨B, 0, none⟩) l := by
  right
  refine ⟨B, 0, rfl, h.lt, fun i n a hx => ?_⟩
  have hc := h.own.cells (g := B) rfl
  obtain ⟨h0, h1⟩ := cellsOf_at l i n a hx
  have e0 := hc _ _ h0
  have e1 := hc _ _ h1
  have hadd : ∀ j, (⟨B, 0, none⟩ : Addr).add j = ⟨B, j, none⟩ := by intro j; unfold Addr.add; split <;> simp_all
  rw [hadd] at e0 e1
  rw [Nat.zero_add]
  exact ⟨e0, e1⟩

theorem take_snoc (l : List (ByteArray × ByteArray)) (k : Nat) (n a : ByteArray) (h : l[k]? = some (n, a)) : l.take (k + 1) = l.take k ++ [(n, a)] := by
  obtain ⟨hk, e⟩ := List.getElem?_eq_some_iff.1 h
  rw [List.take_succ_eq_append_getElem hk, e]

/-- what one append does -/
theorem Own.push {B cap : Nat} {w wr w1 : World} {l : List (ByteArray × ByteArray)} {n a : ByteArray} {X : Obj} (h : Own B cap w wr l)
    (hown : w1.ownsRow B 33 2 (.slice (some ⟨B, 0, none⟩) (l.length + 1) cap) (l.length + 1) (cellsOf l ++ [.string n, .string a])) (hgrow : ((wr.alloc X).drew).grownBy w1 (some B)) : Own B cap w w1 (l ++ [(n, a)]) := by
  have hz : wr.heap.size ≤ w1.heap.size := by have := hgrow.size; simp at this; omega
  refine ⟨by rw [cellsOf_snoc]; simpa using hown, ?_, by have := h.lt; omega⟩
  refine Below.grown (w := (wr.alloc X).drew) ((h.below.alloc (Nat.le_of_lt h.lt) X).drew) hgrow ?_ ?_
  · have := h.lt; simp; omega
  · intro k hk; cases hk; exact Nat.le_refl _

/-- the call returns a slice in a new block, which holds the pairs l; nothing old has turned -/
def Made (w : World) (l : List (ByteArray × ByteArray)) (e : Ending) (w' : World) : Prop :=
  e = .returned (.slice (some ⟨w.heap.size, 0, none⟩) l.length l.length) ∧ Own w.heap.size l.length w w' l

set_option maxHeartbeats 2000000 in
theorem tonodes_any (p : Option Addr) (l : List (ByteArray × ByteArray)) (cap : Nat) (w : World) (hS : Seg w p l) (hl : l.length ≤ 1048576) :
    Calls Try.prog 10 #[.slice p l.length cap] w fun e w' => Made w l e w' := by
  have HS : Hid (Seg w p l) := hS
  clear hS
  obtain ⟨i0, hi0, hz0, hz1, hz2⟩ := info_parts info33
  go_enter Try.func10, Try.ntmps10
  go_wp2_with (at_make; refine wpList_make_own _ rfl _ _ 25 rfl w.heap.size 33 i0 _ 2 Try.underlying25 hi0 hz0 hz1 .i64 .i64 _ l.length rfl rfl (by omega) (by rw [hz2]; omega) (by unfold maxLen; omega) (Nat.le_refl _) ?_; intro w0 hown0 hgrow0)
  have O0 : Own w.heap.size l.length w w0 [] := ⟨hown0, Below.grown (Below.refl _ _) hgrow0 (Nat.le_refl _) (fun k hk => by cases hk), (hown0.lt _ rfl).2⟩
  have HO : Hid (Own w.heap.size l.length w w0 []) := O0
  clear O0 hown0 hgrow0
  go_loopw [3, 4] (fun o i wr => ∃ k : Nat, k ≤ l.length ∧ i = .int .i64 k ∧ o = .slice (some ⟨w.heap.size, 0, none⟩) k l.length ∧ Hid (Own w.heap.size l.length w wr (l.take k))) (fun _ i _ => l.length - (intOf i).toNat)
  case atStart => exact ⟨0, by omega, rfl, rfl, HO.out⟩
  case round =>
    obtain ⟨k, hk, rfl, rfl, H⟩ := hrel
    by_cases hlt : k < l.length
    · obtain ⟨b, off, n, a, hp, hb, hx, hc0, hc1⟩ := Seg.at HS.out hlt
      have hd0 : wr.cell? ⟨b, off + k * 2, none⟩ = some (.string n) := (H.out.below.cell hb).trans hc0
      have hd1 : wr.cell? ⟨b, off + k * 2 + 1, none⟩ = some (.string a) := (H.out.below.cell hb).trans hc1
      have hbr : b < wr.heap.size := Nat.lt_trans hb H.out.lt
      have hk0 : (0 : Int) ≤ (k : Int) := Int.natCast_nonneg _
      have hk1 : (k : Int) < (l.length : Int) := by omega
      have htk : (l.take k).length = k := by simp; omega
      have hown := H.out.own
      rw [htk] at hown
      have HW : Hid (wr.ownsRow w.heap.size 33 2 (.slice (some ⟨w.heap.size, 0, none⟩) k l.length) k (cellsOf (l.take k))) := hown
      have HX : Hid (l[k]? = some (n, a)) := hx
      have HT : Hid ((l.take k).length = k) := htk
      clear hx hown htk hc0 hc1
      subst hp
      go_wp2
      go_region_held3 (fun w' => w'.cell? ⟨b, off + k * 2, none⟩ = some (.string n) ∧ w'.cell? ⟨b, off + k * 2 + 1, none⟩ = some (.string a))
        (first
          | go_keep
          | (go_split_ands
             refine ⟨?_, ?_⟩
             · (rw [hgrow.cell_far _ (by simp; omega) (by simp; omega)]; assumption)
             · (rw [hgrow.cell_far _ (by simp; omega) (by simp; omega)]; assumption)))
        ((refine step_append_spare _ (by rfl) _ _ _ (by rfl) w.heap.size 33 i0 2 Try.underlying25 hi0 hz1 w.heap.size k l.length (cellsOf (l.take k)) (by rfl) ((HW.out.alloc _).drew)
            ⟨wr.heap.size, 0, none⟩ 1 1 [.string n, .string a] (by rfl) (by rfl) (World.news_of_block (cs := #[.string n, .string a]) (t := 33) (fr := (0, 0)) (heap_alloc_new wr _)) (by simp [Value.oneCell'])
            (by omega) ?_; intro w1 hown1 hgrow))
      have O1 : Own w.heap.size l.length w w1 (l.take (k + 1)) := by
        rw [take_snoc l k n a HX.out]
        exact Own.push H.out (by rw [HT.out]; exact hown1) hgrow
      have HO1 : Hid (Own w.heap.size l.length w w1 (l.take (k + 1))) := O1
      clear O1 hown1 hgrow
      go_wp2
      go_roundw
      case rel => exact ⟨k + 1, by omega, by go_num, rfl, HO1.out⟩
      case measure => simp [intOf]; omega
    · have e : k = l.length := by omega
      subst e
      go_wp2
      go_ret
      exact ⟨rfl, by have := H.out; rwa [List.take_length] at this⟩

end Go.Proofs.Qxb6619205a.Nodes
