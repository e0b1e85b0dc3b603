import Derived.Test.Qxb6619205aFind
namespace Go.Proofs.Qxb6619205a.Nodes
open Go.RowKit

theorem Seg.mono {w w' : World} {p : Option Addr} {l : List (ByteArray × ByteArray)} {B : Nat} (h : Seg w p l) (hb : Below B w w') (hB : w.heap.size ≤ B) : Seg w' p l := by
  rcases h with h | ⟨b, off, hp, hlt, hc⟩
  · exact .inl h
  · refine .inr ⟨b, off, hp, Nat.lt_of_lt_of_le hlt hb.size, fun i n a hx => ?_⟩
    obtain ⟨h0, h1⟩ := hc i n a hx
    exact ⟨(hb.cell (by show b < B; omega)).trans h0, (hb.cell (by show b < B; omega)).trans h1⟩

theorem Seg.alloc {w : World} {p : Option Addr} {l : List (ByteArray × ByteArray)} (h : Seg w p l) (O : Obj) : Seg (w.alloc O) p l :=
  h.mono ((Below.refl w.heap.size w).alloc (Nat.le_refl _) O) (Nat.le_refl _)

theorem Own.push0 {B cap : Nat} {w wr w1 : World} {l : List (ByteArray × ByteArray)} {n a : ByteArray} {X : Obj} (h : Own B cap w wr l)
    (hown : w1.ownsRow B 33 2 (.slice (some ⟨B, 0, none⟩) (l.length + 1) cap) (l.length + 1) (cellsOf l ++ [.string n, .string a])) (hgrow : (wr.alloc X).grownBy w1 (some B)) : Own B cap w w1 (l ++ [(n, a)]) := by
  have hz : wr.heap.size ≤ w1.heap.size := by have := hgrow.size; simp at this; omega
  refine ⟨by rw [cellsOf_snoc]; simpa using hown, ?_, by have := h.lt; omega⟩
  refine Below.grown (w := wr.alloc X) (h.below.alloc (Nat.le_of_lt h.lt) X) hgrow ?_ ?_
  · have := h.lt; simp; omega
  · intro k hk; cases hk; exact Nat.le_refl _

/-- the world behind 'before := &cluster.Cluster{Nodes: zzb1ToNodes(a)}' : W; C: the cluster's block; G: its slice's block -/
structure Ready (w W : World) (C G : Nat) (p p' : Option Addr) (la lb : List (ByteArray × ByteArray)) : Prop where
  sa : Seg W p la
  sb : Seg W p' lb
  sg : Seg W (some ⟨G, 0, none⟩) la
  cc : W.cell? ⟨C, 1, none⟩ = some (.slice (some ⟨G, 0, none⟩) la.length la.length)
  cl : C < W.heap.size
  bel : Below w.heap.size w W

/-- the literal of a cluster with the nodes v -/
def cluOf (v : Value) : Obj := .cells #[.string ⟨#[]⟩, v, .slice none 0 0] 29

theorem after_make {w w2 w3 : World} {q N : Nat} {p p' : Option Addr} {la lb : List (ByteArray × ByteArray)} (hS : Seg w p la) (hS' : Seg w p' lb) (h2 : Own w.heap.size la.length (w.drewN q) w2 la)
    (hown3 : w3.ownsRow (w2.heap.size + 1) 33 2 (.slice (some ⟨(w2.alloc (cluOf (.slice (some ⟨w.heap.size, 0, none⟩) la.length la.length))).heap.size, 0, none⟩) 0 N) 0 [])
    (hgrow3 : (w2.alloc (cluOf (.slice (some ⟨w.heap.size, 0, none⟩) la.length la.length))).grownBy w3 none) :
    ∃ W, W.heap.size = w2.heap.size + 1 ∧ Ready w W w2.heap.size w.heap.size p p' la lb ∧ Own (w2.heap.size + 1) N W w3 [] := by
  have hb2 : Below w.heap.size w w2 := (below_drewN (Below.refl _ _) q).trans h2.below
  have hz : (w2.alloc (cluOf (.slice (some ⟨w.heap.size, 0, none⟩) la.length la.length))).heap.size = w2.heap.size + 1 := by simp
  refine ⟨w2.alloc (cluOf (.slice (some ⟨w.heap.size, 0, none⟩) la.length la.length)), hz, ⟨?_, ?_, ?_, ?_, ?_, ?_⟩, ⟨?_, ?_, ?_⟩⟩
  · exact (hS.mono hb2 (Nat.le_refl _)).alloc _
  · exact (hS'.mono hb2 (Nat.le_refl _)).alloc _
  · exact h2.seg.alloc _
  · unfold cluOf; simp
  · omega
  · exact hb2.alloc hb2.size _
  · rw [hz] at hown3; exact hown3
  · exact Below.grown (Below.refl _ _) hgrow3 (by omega) (fun k hk => by cases hk)
  · rw [hz] at hown3; exact (hown3.lt _ rfl).2

/-- what a round of a copying loop reads -/
theorem round_reads {W wr : World} {B N : Nat} {p : Option Addr} {l L : List (ByteArray × ByteArray)} (hS : Seg W p l) (hB : W.heap.size = B) (hO : Own B N W wr L) {k : Nat} (hk : k < l.length) :
    ∃ b off n a, p = some ⟨b, off, none⟩ ∧ b < B ∧ b < wr.heap.size ∧ l[k]? = some (n, a) ∧ wr.cell? ⟨b, off + k * 2, none⟩ = some (.string n) ∧ wr.cell? ⟨b, off + k * 2 + 1, none⟩ = some (.string a) := by
  obtain ⟨b, off, n, a, hp, hb, hx, hc0, hc1⟩ := Seg.at hS hk
  have hbB : b < B := by omega
  exact ⟨b, off, n, a, hp, hbB, Nat.lt_trans hbB hO.lt, hx, (hO.below.cell hbB).trans hc0, (hO.below.cell hbB).trans hc1⟩

theorem look_append (l m : List (ByteArray × ByteArray)) (q : ByteArray) : look (l ++ m) q = (look l q).or (look m q) := by
  unfold look; rw [List.find?_append]

theorem look_inserted (la lb : List (ByteArray × ByteArray)) (name addr : ByteArray) : look (la ++ [(name, addr)] ++ lb) name = (look la name).or (some (name, addr)) := by
  have e : look [(name, addr)] name = some (name, addr) := by simp [look]
  rw [look_append, look_append, e]
  cases look la name <;> rfl

/-- the cluster of the whole list, and the cluster of the first part, as they lie behind the second box -/
theorem whole_ready {w W wr : World} {B N C G : Nat} {p p' : Option Addr} {la lb L : List (ByteArray × ByteArray)} (R : Ready w W C G p p' la lb) (hW : W.heap.size = B) (O : Own B N W wr L) (O29 : Obj) :
    Seg (wr.alloc O29) (some ⟨B, 0, none⟩) L ∧ Seg (wr.alloc O29) (some ⟨G, 0, none⟩) la ∧ (wr.alloc O29).cell? ⟨C, 1, none⟩ = some (.slice (some ⟨G, 0, none⟩) la.length la.length) ∧ Below w.heap.size w (wr.alloc O29) ∧ C < (wr.alloc O29).heap.size := by
  have hb : Below W.heap.size W (wr.alloc O29) := by
    rw [hW]; exact O.below.alloc (Nat.le_of_lt O.lt) _
  have hl := O.below.size
  refine ⟨O.seg.alloc _, R.sg.mono hb (Nat.le_refl _), (hb.cell R.cl).trans R.cc, R.bel.trans (hb.mono R.bel.size), ?_⟩
  have := R.cl; simp; omega

/-- a call that makes memory, behind it a new variable -/
theorem carried {w1 w2 : World} {p : Option Addr} {l : List (ByteArray × ByteArray)} {C : Nat} {v : Value} (hb : Below w1.heap.size w1 w2) (hS : Seg w1 p l) (hc : w1.cell? ⟨C, 1, none⟩ = some v) (O33 : Obj) :
    Seg (w2.alloc O33) p l ∧ (w2.alloc O33).cell? ⟨C, 1, none⟩ = some v := by
  have hk : Below w1.heap.size w1 (w2.alloc O33) := hb.alloc hb.size _
  exact ⟨hS.mono hk (Nat.le_refl _), (hk.cell (World.block_lt_of_cell? w1 _ hc)).trans hc⟩

/-- the variable that was laid ahead of a call reads as it did behind it -/
theorem kept_var {w5 w6 : World} {v0 v1 : Value} (hb : Below (w5.alloc (.cells #[v0, v1] 33)).heap.size (w5.alloc (.cells #[v0, v1] 33)) w6) :
    w6.cell? ⟨w5.heap.size, 0, none⟩ = some v0 ∧ w6.cell? ⟨w5.heap.size, 1, none⟩ = some v1 ∧ w5.heap.size < w6.heap.size := by
  have hz : (w5.alloc (.cells #[v0, v1] 33)).heap.size = w5.heap.size + 1 := by simp
  have h0 : w6.cell? ⟨w5.heap.size, 0, none⟩ = (w5.alloc (.cells #[v0, v1] 33)).cell? ⟨w5.heap.size, 0, none⟩ := hb.cell (by show w5.heap.size < _; omega)
  have h1 : w6.cell? ⟨w5.heap.size, 1, none⟩ = (w5.alloc (.cells #[v0, v1] 33)).cell? ⟨w5.heap.size, 1, none⟩ := hb.cell (by show w5.heap.size < _; omega)
  refine ⟨by rw [h0]; simp, by rw [h1]; simp, by have := hb.size; omega⟩

/-- the frame at the end -/
theorem below_end {w A w5 w6 : World} {O33 : Obj} (h : Below w.heap.size w A) (h5 : Below A.heap.size A w5) (h6 : Below (w5.alloc O33).heap.size (w5.alloc O33) w6) (O O' : Obj) : Below w.heap.size w ((w6.alloc O).alloc O') := by
  have z1 := h.size
  have z5 := h5.size
  have z6 := h6.size
  have e6 : (w5.alloc O33).heap.size = w5.heap.size + 1 := by simp
  have a1 : Below w.heap.size w (w5.alloc O33) := (h.trans (h5.mono z1)).alloc (by omega) _
  have a2 : Below w.heap.size w w6 := a1.trans (h6.mono (by omega))
  exact (a2.alloc (by omega) _).alloc (by simp; omega) _

set_option maxHeartbeats 4000000 in
theorem inserted_in (p p' : Option Addr) (la lb : List (ByteArray × ByteArray)) (cap cap' : Nat) (name addr : ByteArray) (w : World) (hS : Seg w p la) (hS' : Seg w p' lb) (hla : la.length ≤ maxLen) (hlb : lb.length ≤ maxLen) (hn : name.size ≤ maxLen) (ha : addr.size ≤ maxLen) :
    Calls Try.prog 3 #[.slice p la.length cap, .slice p' lb.length cap', .string name, .string addr] w fun e w' => e = .returned (.bool true) ∧ Below w.heap.size w w' := by
  have HS : Hid (Seg w p la) := hS
  have HS' : Hid (Seg w p' lb) := hS'
  clear hS hS'
  obtain ⟨i0, hi0, hz0, hz1, hz2⟩ := info_parts info33
  go_enter Try.func3, Try.ntmps3
  go_wp2_with fail
  refine (bytes8_any p p' la lb cap cap' name addr _ HS.out HS'.out hla hlb hn ha).mono ?_
  rintro e w' ⟨r, rfl, hr, rfl⟩
  cases r
  · go_wp2
    go_ret
    exact ⟨rfl, Below.refl _ _⟩
  obtain ⟨h1, h2⟩ := hr rfl
  clear hr
  go_wp2_with fail
  refine (fit_any p p' la lb cap cap' name addr _ HS.out HS'.out hla hlb hn ha).mono ?_
  rintro e w1 ⟨r, rfl, q, rfl⟩
  cases r
  · go_wp2
    go_ret
    exact ⟨rfl, below_drewN (Below.refl _ _) _⟩
  go_wp2_with fail
  refine (tonodes_any p la cap _ (Seg.drewN HS.out q) h1).mono ?_
  rintro e w2 ⟨rfl, O2⟩
  have HO2 : Hid (Own w'.heap.size la.length (w'.drewN q) w2 la) := O2
  clear O2
  go_wp2_with (at_make; refine wpList_make_own _ rfl _ _ 25 rfl (w2.heap.size + 1) 33 i0 _ 2 Try.underlying25 hi0 hz0 hz1 .i64 .i64 _ (la.length + lb.length + 1) rfl rfl (by omega) (by rw [hz2]; omega) (by unfold maxLen; omega) (by simp) ?_; intro w3 hown3 hgrow3)
  obtain ⟨W, hWs, R, O3⟩ := after_make HS.out HS'.out HO2.out hown3 hgrow3
  have HW : Hid (W.heap.size = w2.heap.size + 1) := hWs
  have HR : Hid (Ready w' W w2.heap.size w'.heap.size p p' la lb) := R
  have HO3 : Hid (Own (w2.heap.size + 1) (la.length + lb.length + 1) W w3 []) := O3
  clear hown3 hgrow3 hWs R O3 HO2
  generalize hB : w2.heap.size + 1 = B at HW HO3
  have HB : Hid (w2.heap.size + 1 = B) := hB
  clear hB
  go_loopw [10, 11] (fun o i wr => ∃ k : Nat, k ≤ la.length ∧ i = .int .i64 k ∧ o = .slice (some ⟨B, 0, none⟩) k (la.length + lb.length + 1) ∧ Hid (Own B (la.length + lb.length + 1) W wr (la.take k))) (fun _ i _ => la.length - (intOf i).toNat)
  case atStart => exact ⟨0, by omega, rfl, rfl, HO3.out⟩
  case round =>
    obtain ⟨k, hk, rfl, rfl, H⟩ := hrel
    by_cases hlt : k < la.length
    · obtain ⟨b, off, n, a, hp, hb, hbr, hx, hd0, hd1⟩ := round_reads HR.out.sa HW.out H.out hlt
      have hk0 : (0 : Int) ≤ (k : Int) := Int.natCast_nonneg _
      have hk1 : (k : Int) < (la.length : Int) := by omega
      have htk : (la.take k).length = k := by simp; omega
      have hown := H.out.own
      rw [htk] at hown
      have HWn : Hid (wr.ownsRow B 33 2 (.slice (some ⟨B, 0, none⟩) k (la.length + lb.length + 1)) k (cellsOf (la.take k))) := hown
      have HX : Hid (la[k]? = some (n, a)) := hx
      have HT : Hid ((la.take k).length = k) := htk
      clear hx hown htk
      subst hp
      go_wp2
      go_region_held3 (fun w' => w'.cell? ⟨b, off + k * 2, none⟩ = some (.string n) ∧ w'.cell? ⟨b, off + k * 2 + 1, none⟩ = some (.string a))
        (first
          | go_keep
          | (go_split_ands
             refine ⟨?_, ?_⟩
             · (rw [hgrow.cell_far _ (by simp; omega) (by simp; omega)]; assumption)
             · (rw [hgrow.cell_far _ (by simp; omega) (by simp; omega)]; assumption)))
        ((refine step_append_spare _ (by rfl) _ _ _ (by rfl) B 33 i0 2 Try.underlying25 hi0 hz1 B k (la.length + lb.length + 1) (cellsOf (la.take k)) (by rfl) ((HWn.out.alloc _).drew)
            ⟨wr.heap.size, 0, none⟩ 1 1 [.string n, .string a] (by rfl) (by rfl) (World.news_of_block (cs := #[.string n, .string a]) (t := 33) (fr := (0, 0)) (heap_alloc_new wr _)) (by simp [Value.oneCell'])
            (by omega) ?_; intro w1 hown1 hgrow))
      have O1 : Own B (la.length + lb.length + 1) W w1 (la.take (k + 1)) := by
        rw [take_snoc la k n a HX.out]
        exact Own.push H.out (by rw [HT.out]; exact hown1) hgrow
      have HO1 : Hid (Own B (la.length + lb.length + 1) W w1 (la.take (k + 1))) := O1
      clear O1 hown1 hgrow
      go_wp2
      go_roundw
      case rel => exact ⟨k + 1, by omega, by go_num, rfl, HO1.out⟩
      case measure => simp [intOf]; omega
    · have e : k = la.length := by omega
      subst e
      have HA : Hid (Own B (la.length + lb.length + 1) W wr la) := by have := H.out; rwa [List.take_length] at this
      clear H
      go_wp2_with (at_builtin; refine wpList_append_own_spare _ rfl _ _ 25 rfl B 33 i0 2 Try.underlying25 hi0 hz1 B la.length (la.length + lb.length + 1) (cellsOf la) rfl (HA.out.own.alloc _) ⟨wr.heap.size, 0, none⟩ 1 1 [.string name, .string addr] rfl rfl (World.news_of_block (cs := #[.string name, .string addr]) (t := 33) (fr := (0, 0)) (heap_alloc_new wr _)) (by simp [Value.oneCell']) (by omega) ?_; intro w4 hown4 hgrow4)
      have HM : Hid (Own B (la.length + lb.length + 1) W w4 (la ++ [(name, addr)])) := Own.push0 HA.out hown4 hgrow4
      clear hown4 hgrow4 HA
      go_loopw [10, 12] (fun o i wr => ∃ k : Nat, k ≤ lb.length ∧ i = .int .i64 k ∧ o = .slice (some ⟨B, 0, none⟩) (la.length + 1 + k) (la.length + lb.length + 1) ∧ Hid (Own B (la.length + lb.length + 1) W wr (la ++ [(name, addr)] ++ lb.take k))) (fun _ i _ => lb.length - (intOf i).toNat)
      case atStart => exact ⟨0, by omega, rfl, rfl, by have := HM.out; simpa [Hid] using this⟩
      case round =>
        obtain ⟨k, hk', rfl, rfl, H⟩ := hrel
        by_cases hlt' : k < lb.length
        · obtain ⟨b, off, n, a, hp, hb, hbr, hx, hd0, hd1⟩ := round_reads HR.out.sb HW.out H.out hlt'
          have hk0 : (0 : Int) ≤ (k : Int) := Int.natCast_nonneg _
          have hk1 : (k : Int) < (lb.length : Int) := by omega
          have htk : (la ++ [(name, addr)] ++ lb.take k).length = la.length + 1 + k := by simp; omega
          have hown := H.out.own
          rw [htk] at hown
          have HWn : Hid (wr.ownsRow B 33 2 (.slice (some ⟨B, 0, none⟩) (la.length + 1 + k) (la.length + lb.length + 1)) (la.length + 1 + k) (cellsOf (la ++ [(name, addr)] ++ lb.take k))) := hown
          have HX : Hid (lb[k]? = some (n, a)) := hx
          have HT : Hid ((la ++ [(name, addr)] ++ lb.take k).length = la.length + 1 + k) := htk
          clear hx hown htk
          subst hp
          go_wp2
          go_region_held3 (fun w' => w'.cell? ⟨b, off + k * 2, none⟩ = some (.string n) ∧ w'.cell? ⟨b, off + k * 2 + 1, none⟩ = some (.string a))
            (first
              | go_keep
              | (go_split_ands
                 refine ⟨?_, ?_⟩
                 · (rw [hgrow.cell_far _ (by simp; omega) (by simp; omega)]; assumption)
                 · (rw [hgrow.cell_far _ (by simp; omega) (by simp; omega)]; assumption)))
            ((refine step_append_spare _ (by rfl) _ _ _ (by rfl) B 33 i0 2 Try.underlying25 hi0 hz1 B (la.length + 1 + k) (la.length + lb.length + 1) (cellsOf (la ++ [(name, addr)] ++ lb.take k)) (by rfl) ((HWn.out.alloc _).drew)
                ⟨wr.heap.size, 0, none⟩ 1 1 [.string n, .string a] (by rfl) (by rfl) (World.news_of_block (cs := #[.string n, .string a]) (t := 33) (fr := (0, 0)) (heap_alloc_new wr _)) (by simp [Value.oneCell'])
                (by omega) ?_; intro w1 hown1 hgrow))
          have O1 : Own B (la.length + lb.length + 1) W w1 (la ++ [(name, addr)] ++ lb.take (k + 1)) := by
            rw [take_snoc lb k n a HX.out, ← List.append_assoc]
            exact Own.push H.out (by rw [HT.out]; exact hown1) hgrow
          have HO1 : Hid (Own B (la.length + lb.length + 1) W w1 (la ++ [(name, addr)] ++ lb.take (k + 1))) := O1
          clear O1 hown1 hgrow
          go_wp2
          go_roundw
          case rel => exact ⟨k + 1, by omega, by go_num, rfl, HO1.out⟩
          case measure => simp [intOf]; omega
        · have e : k = lb.length := by omega
          subst e
          have HA : Hid (Own B (la.length + lb.length + 1) W wr (la ++ [(name, addr)] ++ lb)) := by have := H.out; rwa [List.take_length] at this
          clear H HM
          have HLen : Hid ((la ++ [(name, addr)] ++ lb).length = la.length + 1 + lb.length) := by show _ = _; simp; omega
          have HLk : Hid (look (la ++ [(name, addr)] ++ lb) name = (look la name).or (some (name, addr))) := look_inserted la lb name addr
          cases hlk : look la name with
          | none =>
            have HK : Hid (look la name = none) := hlk
            have HY : Hid (look (la ++ [(name, addr)] ++ lb) name = some (name, addr)) := by show _ = _; rw [HLk.out, hlk]; rfl
            clear hlk HLk
            go_wp2_with fail
            have HWr : Hid _ := whole_ready HR.out HW.out HA.out (.cells #[.string ⟨#[]⟩, .slice (some ⟨B, 0, none⟩) (la.length + 1 + lb.length) (la.length + lb.length + 1), .slice none 0 0] 29)
            refine (node_any wr.heap.size (some ⟨B, 0, none⟩) (la ++ [(name, addr)] ++ lb) (la.length + lb.length + 1) name _ (by rw [HLen.out]; simp) HWr.out.1 (by rw [HLen.out]; omega)).mono ?_
            rintro e w5 ⟨rfl, hb5⟩
            rw [show ansOf (look (la ++ [(name, addr)] ++ lb) name) = .tuple #[.agg #[.string name, .string addr], .bool true] from by rw [HY.out]; rfl]
            have HB5 : Hid _ := hb5
            clear hb5
            go_wp2_with fail
            have HC : Hid _ := carried HB5.out HWr.out.2.1 HWr.out.2.2.1 (.cells #[.string name, .string addr] 33)
            refine (node_any w2.heap.size (some ⟨w'.heap.size, 0, none⟩) la la.length name _ HC.out.2 HC.out.1 (by omega)).mono ?_
            rintro e w6 ⟨rfl, hb6⟩
            rw [show ansOf (look la name) = .tuple #[.agg #[.string ⟨#[]⟩, .string ⟨#[]⟩], .bool false] from by rw [HK.out]; rfl]
            obtain ⟨hg0, hg1, hg2⟩ := kept_var hb6
            have HB6 : Hid _ := hb6
            clear hb6
            go_wp2
            go_ret
            exact ⟨rfl, below_end HWr.out.2.2.2.1 HB5.out HB6.out _ _⟩
          | some x =>
            obtain ⟨xn, xa⟩ := x
            have HK : Hid (look la name = some (xn, xa)) := hlk
            have HY : Hid (look (la ++ [(name, addr)] ++ lb) name = some (xn, xa)) := by show _ = _; rw [HLk.out, hlk]; rfl
            clear hlk HLk
            go_wp2_with fail
            have HWr : Hid _ := whole_ready HR.out HW.out HA.out (.cells #[.string ⟨#[]⟩, .slice (some ⟨B, 0, none⟩) (la.length + 1 + lb.length) (la.length + lb.length + 1), .slice none 0 0] 29)
            refine (node_any wr.heap.size (some ⟨B, 0, none⟩) (la ++ [(name, addr)] ++ lb) (la.length + lb.length + 1) name _ (by rw [HLen.out]; simp) HWr.out.1 (by rw [HLen.out]; omega)).mono ?_
            rintro e w5 ⟨rfl, hb5⟩
            rw [show ansOf (look (la ++ [(name, addr)] ++ lb) name) = .tuple #[.agg #[.string xn, .string xa], .bool true] from by rw [HY.out]; rfl]
            have HB5 : Hid _ := hb5
            clear hb5
            go_wp2_with fail
            have HC : Hid _ := carried HB5.out HWr.out.2.1 HWr.out.2.2.1 (.cells #[.string xn, .string xa] 33)
            refine (node_any w2.heap.size (some ⟨w'.heap.size, 0, none⟩) la la.length name _ HC.out.2 HC.out.1 (by omega)).mono ?_
            rintro e w6 ⟨rfl, hb6⟩
            rw [show ansOf (look la name) = .tuple #[.agg #[.string xn, .string xa], .bool true] from by rw [HK.out]; rfl]
            obtain ⟨hg0, hg1, hg2⟩ := kept_var hb6
            have HB6 : Hid _ := hb6
            clear hb6
            go_wp2
            go_ret
            exact ⟨rfl, below_end HWr.out.2.2.2.1 HB5.out HB6.out _ _⟩
end Go.Proofs.Qxb6619205a.Nodes
