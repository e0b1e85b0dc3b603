import Derived.Test.Qxb6619198aColon
import Derived.WalkSpells
import Derived.RowKit3
namespace Go.Proofs.Qxb6619198a.Colon
open Go.RowKit

theorem left_is (s : ByteArray) (n k : Nat) : Pl.fbcAt (s.extract 0 k) n = Pl.fbc ((s.data.toList.take k).drop n) := by
  unfold Pl.fbcAt
  simp only [ByteArray.data_extract, Array.toList_extract, List.extract_eq_take_drop]
  simp

theorem right_is (s : ByteArray) (k : Nat) : Pl.fbcAt (s.extract k s.size) 0 = Pl.fbc (s.data.toList.drop k) := by
  unfold Pl.fbcAt
  simp only [ByteArray.data_extract, Array.toList_extract, List.extract_eq_take_drop]
  rw [List.take_of_length_le (l := s.data.toList.drop k) (by simp)]
  simp

set_option maxHeartbeats 1000000 in
theorem cut_in (s : ByteArray) (n k : Nat) (w : World) (hs : s.size ≤ 1048576) (h1 : n ≤ k) (h2 : k ≤ s.size) :
    Calls Try.prog 5 #[.string s, .int .i64 n, .int .i64 k] w fun e w' => e = .returned (.bool true) ∧ w' = w := by
  obtain ⟨lf, HL⟩ : ∃ lf, Hid (Pl.fbcAt (s.extract 0 k) n = lf) := ⟨_, rfl⟩
  obtain ⟨rt, HR⟩ : ∃ rt, Hid (Pl.fbcAt (s.extract k s.size) 0 = rt) := ⟨_, rfl⟩
  obtain ⟨sp, HS⟩ : ∃ sp, Hid (Pl.allSp s n k = sp) := ⟨_, rfl⟩
  have HW : Hid (Pl.fbcAt s n = (lf || (sp && rt))) := by
    show _ = _
    rw [Pl.fbcAt_cut s n k h1, ← left_is, ← right_is, HL.out, HR.out, HS.out]
  have HA : Hid (Pl.aheadAt s n = (lf || (sp && rt))) := by
    show _ = _
    rw [← Pl.fbcAt_ahead, HW.out]
  have he1 : (s.extract 0 k).size ≤ 1048577 := by simp; omega
  have he2 : (s.extract k s.size).size ≤ 1048577 := by simp; omega
  go_enter Try.func5, Try.ntmps5
  go_wp2_with fail
  refine (bytes13_yes s n k _ hs).mono ?_
  rintro e w' ⟨rfl, rfl⟩
  go_wp2_with fail
  refine (zzfollows_any s n _ (by omega)).mono ?_
  rintro e w' ⟨rfl, rfl⟩
  rw [HW.out]
  go_wp2_with fail
  refine (zzfollows_any (s.extract 0 k) n _ he1).mono ?_
  rintro e w' ⟨rfl, rfl⟩
  rw [HL.out]
  go_wp2_with fail
  refine (zzfollows_any (s.extract k s.size) 0 _ he2).mono ?_
  rintro e w' ⟨rfl, rfl⟩
  rw [HR.out]
  clear HL HR HW he1 he2
  cases lf <;> cases sp <;> cases rt
  all_goals go_wp2_with (first | (go_at_call 15; refine (spaces_any s n k _ (by omega) h1 h2).mono ?_; rintro e w' ⟨rfl, rfl⟩; rw [HS.out]) | (go_at_call 16; refine (ahead_any s n _ (by omega)).mono ?_; rintro e w' ⟨rfl, rfl⟩; rw [HA.out]))
  all_goals go_ret
  all_goals exact ⟨rfl, rfl⟩

set_option maxHeartbeats 1000000 in
theorem cut_out (s : ByteArray) (n : Nat) (k : Int) (w : World) (hs : s.size ≤ 1048576) (h : k < n ∨ (s.size : Int) < k) :
    Calls Try.prog 5 #[.string s, .int .i64 n, .int .i64 k] w fun e w' => e = .returned (.bool true) ∧ w' = w := by
  obtain ⟨wh, HW⟩ : ∃ wh, Hid (Pl.fbcAt s n = wh) := ⟨_, rfl⟩
  have HA : Hid (Pl.aheadAt s n = wh) := by
    show _ = _
    rw [← Pl.fbcAt_ahead, HW.out]
  by_cases hk : k < n
  all_goals
    go_enter Try.func5, Try.ntmps5
    go_wp2_with fail
    refine (bytes13_yes s n k _ hs).mono ?_
    rintro e w' ⟨rfl, rfl⟩
    go_wp2_with fail
    refine (zzfollows_any s n _ (by omega)).mono ?_
    rintro e w' ⟨rfl, rfl⟩
    rw [HW.out]
    go_wp2_with fail
    refine (ahead_any s n _ (by omega)).mono ?_
    rintro e w' ⟨rfl, rfl⟩
    rw [HA.out]
    cases wh
    all_goals go_wp2
    all_goals go_ret
    all_goals exact ⟨rfl, rfl⟩
end Go.Proofs.Qxb6619198a.Colon
