import Derived.Test.Qxb6619205aInserted
import Derived.Test.Qxb6619205aHolds
namespace Go.Proofs.Qxb6619205a.Nodes
open Go.RowKit

/-- the two clusters of the parts, as they lie in W -/
structure Ready2 (w W : World) (C1 G1 C2 G2 : Nat) (p p' : Option Addr) (la lb : List (ByteArray × ByteArray)) : Prop where
  sa : Seg W p la
  sb : Seg W p' lb
  ga : Seg W (some ⟨G1, 0, none⟩) la
  gb : Seg W (some ⟨G2, 0, none⟩) lb
  ca : W.cell? ⟨C1, 1, none⟩ = some (.slice (some ⟨G1, 0, none⟩) la.length la.length)
  cb : W.cell? ⟨C2, 1, none⟩ = some (.slice (some ⟨G2, 0, none⟩) lb.length lb.length)
  bel : Below w.heap.size w W

theorem Ready2.mono {w W W' : World} {C1 G1 C2 G2 : Nat} {p p' : Option Addr} {la lb : List (ByteArray × ByteArray)} (h : Ready2 w W C1 G1 C2 G2 p p' la lb) (hb : Below W.heap.size W W') : Ready2 w W' C1 G1 C2 G2 p p' la lb :=
  ⟨h.sa.mono hb (Nat.le_refl _), h.sb.mono hb (Nat.le_refl _), h.ga.mono hb (Nat.le_refl _), h.gb.mono hb (Nat.le_refl _),
    (hb.cell (World.block_lt_of_cell? W _ h.ca)).trans h.ca, (hb.cell (World.block_lt_of_cell? W _ h.cb)).trans h.cb, h.bel.trans (hb.mono h.bel.size)⟩

theorem after_make2 {w w2 w3 w4 : World} {q N : Nat} {p p' : Option Addr} {la lb : List (ByteArray × ByteArray)} (hS : Seg w p la) (hS' : Seg w p' lb) (h2 : Own w.heap.size la.length (w.drewN q) w2 la)
    (h3 : Own (w2.alloc (cluOf (.slice (some ⟨w.heap.size, 0, none⟩) la.length la.length))).heap.size lb.length (w2.alloc (cluOf (.slice (some ⟨w.heap.size, 0, none⟩) la.length la.length))) w3 lb)
    (hown4 : w4.ownsRow (w3.heap.size + 1) 33 2 (.slice (some ⟨(w3.alloc (cluOf (.slice (some ⟨w2.heap.size + 1, 0, none⟩) lb.length lb.length))).heap.size, 0, none⟩) 0 N) 0 [])
    (hgrow4 : (w3.alloc (cluOf (.slice (some ⟨w2.heap.size + 1, 0, none⟩) lb.length lb.length))).grownBy w4 none) :
    ∃ W, W.heap.size = w3.heap.size + 1 ∧ Ready2 w W w2.heap.size w.heap.size w3.heap.size (w2.heap.size + 1) p p' la lb ∧ Own (w3.heap.size + 1) N W w4 [] := by
  have hb2 : Below w.heap.size w w2 := (below_drewN (Below.refl _ _) q).trans h2.below
  have hz2 : (w2.alloc (cluOf (.slice (some ⟨w.heap.size, 0, none⟩) la.length la.length))).heap.size = w2.heap.size + 1 := by simp
  have hz3 : (w3.alloc (cluOf (.slice (some ⟨w2.heap.size + 1, 0, none⟩) lb.length lb.length))).heap.size = w3.heap.size + 1 := by simp
  have hA : Below (w2.alloc (cluOf (.slice (some ⟨w.heap.size, 0, none⟩) la.length la.length))).heap.size (w2.alloc (cluOf (.slice (some ⟨w.heap.size, 0, none⟩) la.length la.length))) (w3.alloc (cluOf (.slice (some ⟨w2.heap.size + 1, 0, none⟩) lb.length lb.length))) :=
    h3.below.alloc (Nat.le_of_lt h3.lt) _
  have hs2 := (hS.mono hb2 (Nat.le_refl _)).alloc (cluOf (.slice (some ⟨w.heap.size, 0, none⟩) la.length la.length))
  have hs2' := (hS'.mono hb2 (Nat.le_refl _)).alloc (cluOf (.slice (some ⟨w.heap.size, 0, none⟩) la.length la.length))
  have hg2 := h2.seg.alloc (cluOf (.slice (some ⟨w.heap.size, 0, none⟩) la.length la.length))
  have hc2 : (w2.alloc (cluOf (.slice (some ⟨w.heap.size, 0, none⟩) la.length la.length))).cell? ⟨w2.heap.size, 1, none⟩ = some (.slice (some ⟨w.heap.size, 0, none⟩) la.length la.length) := by unfold cluOf; simp
  refine ⟨w3.alloc (cluOf (.slice (some ⟨w2.heap.size + 1, 0, none⟩) lb.length lb.length)), hz3, ⟨?_, ?_, ?_, ?_, ?_, ?_, ?_⟩, ⟨?_, ?_, ?_⟩⟩
  · exact hs2.mono hA (Nat.le_refl _)
  · exact hs2'.mono hA (Nat.le_refl _)
  · exact hg2.mono hA (Nat.le_refl _)
  · have := h3.seg.alloc (cluOf (.slice (some ⟨w2.heap.size + 1, 0, none⟩) lb.length lb.length))
    rwa [hz2] at this
  · exact (hA.cell (World.block_lt_of_cell? _ _ hc2)).trans hc2
  · unfold cluOf; simp
  · have a1 : Below w.heap.size w (w2.alloc (cluOf (.slice (some ⟨w.heap.size, 0, none⟩) la.length la.length))) := hb2.alloc hb2.size _
    exact a1.trans (hA.mono a1.size)
  · rw [hz3] at hown4; exact hown4
  · exact Below.grown (Below.refl _ _) hgrow4 (by omega) (fun k hk => by cases hk)
  · rw [hz3] at hown4; exact (hown4.lt _ rfl).2

theorem below_alloc (w : World) (O : Obj) : Below w.heap.size w (w.alloc O) := (Below.refl _ _).alloc (Nat.le_refl _) _

theorem kept_older {w6 w7 : World} {O : Obj} {a : Addr} {v : Value} (hb : Below (w6.alloc O).heap.size (w6.alloc O) w7) (h : w6.cell? a = some v) : w7.cell? a = some v :=
  cell_later ((below_alloc w6 O).trans (hb.mono (below_alloc w6 O).size)) h

/-! ### the plain law -/
theorem look_named (l : List (ByteArray × ByteArray)) (q : ByteArray) : named l q = (look l q).isSome := by
  unfold named look
  rw [Bool.eq_iff_iff, List.any_eq_true, List.find?_isSome]

theorem look_is {l : List (ByteArray × ByteArray)} {q : ByteArray} {x : ByteArray × ByteArray} (h : look l q = some x) : (x.1.toList == q.toList) = true := by
  unfold look at h
  have h2 := List.find?_some (p := fun x : ByteArray × ByteArray => x.1.toList == q.toList) h
  exact h2

theorem look_holds {l : List (ByteArray × ByteArray)} {q : ByteArray} {x : ByteArray × ByteArray} (h : look l q = some x) : holds l x.1 x.2 = true := by
  unfold look at h
  unfold holds
  rw [List.any_eq_true]
  exact ⟨x, List.mem_of_find?_eq_some h, by simp⟩

theorem holds_not {l : List (ByteArray × ByteArray)} {q n a : ByteArray} (h : look l q = none) (hn : (n.toList == q.toList) = true) : holds l n a = false := by
  unfold look at h
  unfold holds
  rw [List.any_eq_false]
  intro x hx hh
  have h2 := List.find?_eq_none.1 h x hx
  simp only [Bool.and_eq_true, beq_iff_eq] at hh
  rw [beq_iff_eq] at hn
  exact h2 (by rw [beq_iff_eq, hh.1, hn])

/-- the three answers, and how they hang together: the first part has it; the second alone has it; neither has it -/
def Hang (la lb : List (ByteArray × ByteArray)) (q g0 g1 a0 a1 b0 b1 : ByteArray) (ok oa ob : Bool) : Prop :=
  (oa = true ∧ ok = true ∧ g0 = a0 ∧ g1 = a1 ∧ named la q = true ∧ (g0.toList == q.toList) = true ∧ holds la g0 g1 = true) ∨
  (oa = false ∧ ok = true ∧ ob = true ∧ g0 = b0 ∧ g1 = b1 ∧ named la q = false ∧ named lb q = true ∧ (g0.toList == q.toList) = true ∧ holds la g0 g1 = false ∧ holds lb g0 g1 = true) ∨
  (oa = false ∧ ok = false ∧ ob = false ∧ g0 = b0 ∧ g1 = b1 ∧ b0 = ⟨#[]⟩ ∧ b1 = ⟨#[]⟩ ∧ named la q = false ∧ named lb q = false)

def tupOf (n a : ByteArray) (r : Bool) : Value := .tuple #[.agg #[.string n, .string a], .bool r]

theorem answers_hang (la lb : List (ByteArray × ByteArray)) (q : ByteArray) : ∃ g0 g1 ok a0 a1 oa b0 b1 ob,
    ansOf (look (la ++ lb) q) = tupOf g0 g1 ok ∧ ansOf (look la q) = tupOf a0 a1 oa ∧ ansOf (look lb q) = tupOf b0 b1 ob ∧ Hang la lb q g0 g1 a0 a1 b0 b1 ok oa ob := by
  rw [look_append]
  cases hx : look la q with
  | some x =>
    obtain ⟨xn, xa⟩ := x
    cases hy : look lb q with
    | some y => exact ⟨xn, xa, true, xn, xa, true, y.1, y.2, true, rfl, rfl, rfl, .inl ⟨rfl, rfl, rfl, rfl, by rw [look_named, hx]; rfl, look_is hx, look_holds hx⟩⟩
    | none => exact ⟨xn, xa, true, xn, xa, true, ByteArray.empty, ByteArray.empty, false, rfl, rfl, rfl, .inl ⟨rfl, rfl, rfl, rfl, by rw [look_named, hx]; rfl, look_is hx, look_holds hx⟩⟩
  | none =>
    cases hy : look lb q with
    | some y =>
      obtain ⟨yn, ya⟩ := y
      exact ⟨yn, ya, true, ByteArray.empty, ByteArray.empty, false, yn, ya, true, rfl, rfl, rfl, .inr (.inl ⟨rfl, rfl, rfl, rfl, rfl, by rw [look_named, hx]; rfl, by rw [look_named, hy]; rfl, look_is hy, holds_not hx (look_is hy), look_holds hy⟩)⟩
    | none => exact ⟨ByteArray.empty, ByteArray.empty, false, ByteArray.empty, ByteArray.empty, false, ByteArray.empty, ByteArray.empty, false, rfl, rfl, rfl, .inr (.inr ⟨rfl, rfl, rfl, rfl, rfl, rfl, rfl, by rw [look_named, hx]; rfl, by rw [look_named, hy]; rfl⟩)⟩

set_option maxRecDepth 100000 in
set_option maxHeartbeats 4000000 in
theorem answers_in (p p' : Option Addr) (la lb : List (ByteArray × ByteArray)) (cap cap' : Nat) (name : ByteArray) (w : World) (hS : Seg w p la) (hS' : Seg w p' lb) (hla : la.length ≤ maxLen) (hlb : lb.length ≤ maxLen) (hn : name.size ≤ maxLen) :
    Calls Try.prog 4 #[.slice p la.length cap, .slice p' lb.length cap', .string name] w fun e w' => e = .returned (.bool true) ∧ Below w.heap.size w w' := by
  have HS : Hid (Seg w p la) := hS
  have HS' : Hid (Seg w p' lb) := hS'
  clear hS hS'
  obtain ⟨i0, hi0, hz0, hz1, hz2⟩ := info_parts info33
  go_enter Try.func4, Try.ntmps4
  go_wp2_with fail
  refine (bytes12_any p p' la lb cap cap' name _ HS.out HS'.out hla hlb hn).mono ?_
  rintro e w' ⟨r, rfl, hr, rfl⟩
  cases r
  · go_wp2
    go_ret
    exact ⟨rfl, Below.refl _ _⟩
  obtain ⟨h1, h2⟩ := hr rfl
  clear hr
  go_wp2_with fail
  refine (fit_any p p' la lb cap cap' name ⟨#[]⟩ _ HS.out HS'.out hla hlb hn (by show 0 ≤ _; omega)).mono ?_
  rintro e w1 ⟨r, rfl, q, rfl⟩
  cases r
  · go_wp2
    go_ret
    exact ⟨rfl, below_drewN (Below.refl _ _) _⟩
  go_wp2_with fail
  refine (tonodes_any p la cap _ (Seg.drewN HS.out q) h1).mono ?_
  rintro e w2 ⟨rfl, O2⟩
  have HO2 : Hid (Own w'.heap.size la.length (w'.drewN q) w2 la) := O2
  clear O2
  go_wp2_with fail
  have HSB : Hid (Seg (w2.alloc (cluOf (.slice (some ⟨w'.heap.size, 0, none⟩) la.length la.length))) p' lb) :=
    (HS'.out.mono ((below_drewN (Below.refl _ _) q).trans HO2.out.below) (Nat.le_refl _)).alloc _
  refine (tonodes_any p' lb cap' _ HSB.out h2).mono ?_
  rintro e w3 ⟨rfl, O3⟩
  have HO3 : Hid _ := O3
  clear O3
  go_wp2_with (at_make; refine wpList_make_own _ rfl _ _ 25 rfl (w3.heap.size + 1) 33 i0 _ 2 Try.underlying25 hi0 hz0 hz1 .i64 .i64 _ (la.length + lb.length) rfl rfl (by omega) (by rw [hz2]; omega) (by unfold maxLen; omega) (by simp) ?_; intro w4 hown4 hgrow4)
  obtain ⟨W, hWs, R, O4⟩ := after_make2 HS.out HS'.out HO2.out HO3.out hown4 hgrow4
  clear hown4 hgrow4 HO2 HO3 HSB
  generalize hB : w3.heap.size + 1 = B at hWs O4
  generalize hG : w2.heap.size + 1 = G at R
  have HW : Hid (W.heap.size = B) := hWs
  have HR : Hid (Ready2 w' W w2.heap.size w'.heap.size w3.heap.size G p p' la lb) := R
  have HO4 : Hid (Own B (la.length + lb.length) W w4 []) := O4
  clear hWs R O4 hB hG
  generalize w2.heap.size = C1 at *
  generalize w3.heap.size = C2 at *
  go_loopw [9, 10] (fun o i wr => ∃ k : Nat, k ≤ la.length ∧ i = .int .i64 k ∧ o = .slice (some ⟨B, 0, none⟩) k (la.length + lb.length) ∧ Hid (Own B (la.length + lb.length) W wr (la.take k))) (fun _ i _ => la.length - (intOf i).toNat)
  case atStart => exact ⟨0, by omega, rfl, rfl, HO4.out⟩
  case round =>
    obtain ⟨k, hk, rfl, rfl, H⟩ := hrel
    by_cases hlt : k < la.length
    · obtain ⟨b, off, n, a, hp, hb, hbr, hx, hd0, hd1⟩ := round_reads HR.out.sa HW.out H.out hlt
      have hk0 : (0 : Int) ≤ (k : Int) := Int.natCast_nonneg _
      have hk1 : (k : Int) < (la.length : Int) := by omega
      have htk : (la.take k).length = k := by simp; omega
      have hown := H.out.own
      rw [htk] at hown
      have HWn : Hid (wr.ownsRow B 33 2 (.slice (some ⟨B, 0, none⟩) k (la.length + lb.length)) k (cellsOf (la.take k))) := hown
      have HX : Hid (la[k]? = some (n, a)) := hx
      have HT : Hid ((la.take k).length = k) := htk
      clear hx hown htk
      subst hp
      go_wp2
      go_region_held3 (fun w' => w'.cell? ⟨b, off + k * 2, none⟩ = some (.string n) ∧ w'.cell? ⟨b, off + k * 2 + 1, none⟩ = some (.string a))
        (first
          | go_keep
          | (go_split_ands
             refine ⟨?_, ?_⟩
             · (rw [hgrow.cell_far _ (by simp; omega) (by simp; omega)]; assumption)
             · (rw [hgrow.cell_far _ (by simp; omega) (by simp; omega)]; assumption)))
        ((refine step_append_spare _ (by rfl) _ _ _ (by rfl) B 33 i0 2 Try.underlying25 hi0 hz1 B k (la.length + lb.length) (cellsOf (la.take k)) (by rfl) ((HWn.out.alloc _).drew)
            ⟨wr.heap.size, 0, none⟩ 1 1 [.string n, .string a] (by rfl) (by rfl) (World.news_of_block (cs := #[.string n, .string a]) (t := 33) (fr := (0, 0)) (heap_alloc_new wr _)) (by simp [Value.oneCell'])
            (by omega) ?_; intro w1 hown1 hgrow))
      have O1 : Own B (la.length + lb.length) W w1 (la.take (k + 1)) := by
        rw [take_snoc la k n a HX.out]
        exact Own.push H.out (by rw [HT.out]; exact hown1) hgrow
      have HO1 : Hid (Own B (la.length + lb.length) W w1 (la.take (k + 1))) := O1
      clear O1 hown1 hgrow
      go_wp2
      go_roundw
      case rel => exact ⟨k + 1, by omega, by go_num, rfl, HO1.out⟩
      case measure => simp [intOf]; omega
    · have e : k = la.length := by omega
      subst e
      have HM : Hid (Own B (la.length + lb.length) W wr la) := by have := H.out; rwa [List.take_length] at this
      clear H
      go_wp2
      go_loopw [9, 11] (fun o i wr => ∃ k : Nat, k ≤ lb.length ∧ i = .int .i64 k ∧ o = .slice (some ⟨B, 0, none⟩) (la.length + k) (la.length + lb.length) ∧ Hid (Own B (la.length + lb.length) W wr (la ++ lb.take k))) (fun _ i _ => lb.length - (intOf i).toNat)
      case atStart => exact ⟨0, by omega, rfl, rfl, by have := HM.out; simpa [Hid] using this⟩
      case round =>
        obtain ⟨k, hk', rfl, rfl, H⟩ := hrel
        by_cases hlt' : k < lb.length
        · obtain ⟨b, off, n, a, hp, hb, hbr, hx, hd0, hd1⟩ := round_reads HR.out.sb HW.out H.out hlt'
          have hk0 : (0 : Int) ≤ (k : Int) := Int.natCast_nonneg _
          have hk1 : (k : Int) < (lb.length : Int) := by omega
          have htk : (la ++ lb.take k).length = la.length + k := by simp; omega
          have hown := H.out.own
          rw [htk] at hown
          have HWn : Hid (wr.ownsRow B 33 2 (.slice (some ⟨B, 0, none⟩) (la.length + k) (la.length + lb.length)) (la.length + k) (cellsOf (la ++ lb.take k))) := hown
          have HX : Hid (lb[k]? = some (n, a)) := hx
          have HT : Hid ((la ++ lb.take k).length = la.length + k) := htk
          clear hx hown htk
          subst hp
          go_wp2
          go_region_held3 (fun w' => w'.cell? ⟨b, off + k * 2, none⟩ = some (.string n) ∧ w'.cell? ⟨b, off + k * 2 + 1, none⟩ = some (.string a))
            (first
              | go_keep
              | (go_split_ands
                 refine ⟨?_, ?_⟩
                 · (rw [hgrow.cell_far _ (by simp; omega) (by simp; omega)]; assumption)
                 · (rw [hgrow.cell_far _ (by simp; omega) (by simp; omega)]; assumption)))
            ((refine step_append_spare _ (by rfl) _ _ _ (by rfl) B 33 i0 2 Try.underlying25 hi0 hz1 B (la.length + k) (la.length + lb.length) (cellsOf (la ++ lb.take k)) (by rfl) ((HWn.out.alloc _).drew)
                ⟨wr.heap.size, 0, none⟩ 1 1 [.string n, .string a] (by rfl) (by rfl) (World.news_of_block (cs := #[.string n, .string a]) (t := 33) (fr := (0, 0)) (heap_alloc_new wr _)) (by simp [Value.oneCell'])
                (by omega) ?_; intro w1 hown1 hgrow))
          have O1 : Own B (la.length + lb.length) W w1 (la ++ lb.take (k + 1)) := by
            rw [take_snoc lb k n a HX.out, ← List.append_assoc]
            exact Own.push H.out (by rw [HT.out]; exact hown1) hgrow
          have HO1 : Hid (Own B (la.length + lb.length) W w1 (la ++ lb.take (k + 1))) := O1
          clear O1 hown1 hgrow
          go_wp2
          go_roundw
          case rel => exact ⟨k + 1, by omega, by go_num, rfl, HO1.out⟩
          case measure => simp [intOf]; omega
        · have e : k = lb.length := by omega
          subst e
          have HA : Hid (Own B (la.length + lb.length) W wr (la ++ lb)) := by have := H.out; rwa [List.take_length] at this
          clear H HM
          obtain ⟨g0, g1, ok, a0, a1, oa, b0, b1, ob, hgv, hav, hbv, hhang⟩ := answers_hang la lb name
          have HG : Hid _ := hgv
          have HAv : Hid _ := hav
          have HBv : Hid _ := hbv
          have HH : Hid _ := hhang
          have HLen : Hid ((la ++ lb).length = la.length + lb.length) := by show _ = _; simp
          clear hgv hav hbv hhang
          go_wp2_with fail
          have HbW : Hid (Below W.heap.size W (wr.alloc (.cells #[.string ⟨#[]⟩, .slice (some ⟨B, 0, none⟩) (la.length + lb.length) (la.length + lb.length), .slice none 0 0] 29))) := by
            show Below _ _ _
            rw [HW.out]; exact HA.out.below.alloc (Nat.le_of_lt HA.out.lt) _
          have HR1 : Hid _ := HR.out.mono HbW.out
          refine (node_any wr.heap.size (some ⟨B, 0, none⟩) (la ++ lb) (la.length + lb.length) name _ (by rw [HLen.out]; simp) (HA.out.seg.alloc _) (by rw [HLen.out]; omega)).mono ?_
          rintro e w5 ⟨rfl, hb5⟩
          rw [HG.out]
          unfold tupOf
          have HR2 : Hid _ := (HR1.out.mono hb5).mono (below_alloc w5 (.cells #[.string g0, .string g1] 33))
          clear hb5
          go_wp2_with fail
          refine (node_any C1 (some ⟨w'.heap.size, 0, none⟩) la la.length name _ HR2.out.ca HR2.out.ga (by omega)).mono ?_
          rintro e w6 ⟨rfl, hb6⟩
          rw [HAv.out]
          unfold tupOf
          obtain ⟨hg0, hg1, hg2⟩ := kept_var hb6
          have HR3 : Hid _ := (HR2.out.mono hb6).mono (below_alloc w6 (.cells #[.string a0, .string a1] 33))
          clear hb6
          go_wp2_with fail
          refine (node_any C2 (some ⟨G, 0, none⟩) lb lb.length name _ HR3.out.cb HR3.out.gb (by omega)).mono ?_
          rintro e w7 ⟨rfl, hb7⟩
          rw [HBv.out]
          unfold tupOf
          obtain ⟨ha0, ha1, ha2⟩ := kept_var hb7
          have hG0 := kept_older hb7 hg0
          have hG1 := kept_older hb7 hg1
          have hG2 : w5.heap.size < w7.heap.size := Nat.lt_trans hg2 ha2
          have HR4 : Hid _ := (HR3.out.mono hb7).mono (below_alloc w7 (.cells #[.string b0, .string b1] 33))
          clear hb7 hg0 hg1
          rcases HH.out with ⟨rfl, rfl, rfl, rfl, hna, hq, hh⟩ | ⟨rfl, rfl, rfl, rfl, rfl, hna, hnb, hq, hh, hh'⟩ | ⟨rfl, rfl, rfl, rfl, rfl, rfl, rfl, hna, hnb⟩
          · have HN : Hid (named la name = true) := hna
            have HHl : Hid _ := hh
            clear HH HG HAv HBv hna hh
            go_wp2_with fail
            refine (named_any p la cap name _ HR4.out.sa (by omega)).mono ?_
            rintro e wn ⟨rfl, rfl⟩
            rw [HN.out]
            go_wp2_with fail
            refine (holds_any p la cap _ _ _ HR4.out.sa (by omega)).mono ?_
            rintro e w8 ⟨rfl, hb8⟩
            rw [HHl.out]
            have HE : Hid _ := HR4.out.bel.trans (hb8.mono HR4.out.bel.size)
            clear hb8
            go_wp2
            go_ret
            exact ⟨rfl, HE.out⟩
          · have HN : Hid (named la name = false) := hna
            have HN' : Hid (named lb name = true) := hnb
            have HHl : Hid _ := hh
            have HHl' : Hid _ := hh'
            clear HH HG HAv HBv hna hnb hh hh'
            go_wp2_with fail
            refine (named_any p la cap name _ HR4.out.sa (by omega)).mono ?_
            rintro e wn ⟨rfl, rfl⟩
            rw [HN.out]
            go_wp2_with fail
            refine (named_any p' lb cap' name _ HR4.out.sb (by omega)).mono ?_
            rintro e wn ⟨rfl, rfl⟩
            rw [HN'.out]
            go_wp2_with fail
            refine (holds_any p la cap _ _ _ HR4.out.sa (by omega)).mono ?_
            rintro e w8 ⟨rfl, hb8⟩
            rw [HHl.out]
            have hI0 := kept_older hb8 hG0
            have hI1 := kept_older hb8 hG1
            have HR5 : Hid _ := HR4.out.mono hb8
            clear hb8
            go_wp2_with fail
            refine (holds_any p' lb cap' _ _ _ HR5.out.sb (by omega)).mono ?_
            rintro e w9 ⟨rfl, hb9⟩
            rw [HHl'.out]
            have HE : Hid _ := HR5.out.bel.trans (hb9.mono HR5.out.bel.size)
            clear hb9
            go_wp2
            go_ret
            exact ⟨rfl, HE.out⟩
          · have HN : Hid (named la name = false) := hna
            have HN' : Hid (named lb name = false) := hnb
            clear HH HG HAv HBv hna hnb
            go_wp2_with fail
            refine (named_any p la cap name _ HR4.out.sa (by omega)).mono ?_
            rintro e wn ⟨rfl, rfl⟩
            rw [HN.out]
            go_wp2_with fail
            refine (named_any p' lb cap' name _ HR4.out.sb (by omega)).mono ?_
            rintro e wn ⟨rfl, rfl⟩
            rw [HN'.out]
            go_wp2
            go_ret
            exact ⟨rfl, HR4.out.bel.alloc HR4.out.bel.size _⟩
end Go.Proofs.Qxb6619205a.Nodes
