import Derived.Test.Qxb6619198aProg
import Derived.Test.Qxb6619198aPlain2
import Derived.WalkKit
namespace Go.Proofs.Qxb6619198a.Colon
open Go.RowKit

theorem ret_bool {a b : Bool} (h : a = b) : Ending.returned (.bool a) = .returned (.bool b) := by rw [h]

theorem space_any (x : Int) (w : World) :
    Calls Try.prog 18 #[.int .u8 x] w fun e w' => e = .returned (.bool (Pl.spI x)) ∧ w' = w := by
  go_enter Try.func18, Try.ntmps18
  go_wp2
  all_goals go_ret
  all_goals exact ⟨ret_bool (by first | (simp [Pl.spI, *]; done) | simp [Pl.spI, Bool.or_assoc]), rfl⟩

theorem sp32 {x : Int} (h : (x == 32) = true) : Pl.spI x = true := by simp [Pl.spI, h]
theorem sp9 {x : Int} (h : (x == 9) = true) : Pl.spI x = true := by simp [Pl.spI, h]
theorem sp10 {x : Int} (h : (x == 10) = true) : Pl.spI x = true := by simp [Pl.spI, h]
theorem sp13 {x : Int} (h : (x == 13) = true) : Pl.spI x = true := by simp [Pl.spI, h]
theorem spNo {x : Int} (h1 : (x == 32) = false) (h2 : (x == 9) = false) (h3 : (x == 10) = false) (h4 : (x == 13) = false) : Pl.spI x = false := by simp [Pl.spI, h1, h2, h3, h4]

set_option maxHeartbeats 400000 in
theorem follows_any (s : ByteArray) (n : Nat) (w : World) (hs : s.size ≤ 1048577) :
    Calls Try.prog 20 #[.string s, .int .i64 n] w fun e w' => e = .returned (.bool (Pl.fbcAt s n)) ∧ w' = w := by
  go_enter Try.func20, Try.ntmps20
  go_wp2
  go_loop [1] (fun i => ∃ k : Nat, i = .int .i64 k ∧ Hid (Pl.fbcAt s n = Pl.fbcAt s k)) (fun i => s.size - (intOf i).toNat)
  case atStart => exact ⟨n, rfl, rfl⟩
  case round =>
    obtain ⟨k, rfl, H⟩ := hrel
    by_cases hlt : k < s.size
    · go_wp2
      · go_round
        case rel => exact ⟨k + 1, by go_num, H.out.trans (Pl.fbcAt_space s k hlt (sp32 ‹_›))⟩
        case measure => simp [intOf]; omega
      · go_round
        case rel => exact ⟨k + 1, by go_num, H.out.trans (Pl.fbcAt_space s k hlt (sp9 ‹_›))⟩
        case measure => simp [intOf]; omega
      · go_round
        case rel => exact ⟨k + 1, by go_num, H.out.trans (Pl.fbcAt_space s k hlt (sp10 ‹_›))⟩
        case measure => simp [intOf]; omega
      · go_round
        case rel => exact ⟨k + 1, by go_num, H.out.trans (Pl.fbcAt_space s k hlt (sp13 ‹_›))⟩
        case measure => simp [intOf]; omega
      · have h58 : ((s[k].toNat : Int) == 58) = true := by assumption
        go_ret
        exact ⟨ret_bool (by rw [H.out, Pl.fbcAt_colon s k hlt (beq_iff_eq.1 h58)]), rfl⟩
      · have h58 : ((s[k].toNat : Int) == 58) = false := by assumption
        have hno := spNo (x := (s[k].toNat : Int)) ‹_› ‹_› ‹_› ‹_›
        go_ret
        exact ⟨ret_bool (by rw [H.out, Pl.fbcAt_other s k hlt hno (beq_eq_false_iff_ne.1 h58)]), rfl⟩
    · go_wp2
      go_ret
      exact ⟨ret_bool (by rw [H.out, Pl.fbcAt_end _ _ (by omega)]), rfl⟩

theorem zzfollows_any (s : ByteArray) (n : Nat) (w : World) (hs : s.size ≤ 1048577) :
    Calls Try.prog 14 #[.string s, .int .i64 n] w fun e w' => e = .returned (.bool (Pl.fbcAt s n)) ∧ w' = w := by
  go_enter Try.func14, Try.ntmps14
  go_wp2_with fail
  refine (follows_any s n _ hs).mono ?_
  rintro e w' ⟨rfl, rfl⟩
  go_wp2
  go_ret
  exact ⟨rfl, rfl⟩

set_option maxHeartbeats 400000 in
theorem spaces_any (s : ByteArray) (a b : Nat) (w : World) (hs : s.size ≤ 1048577) (hab : a ≤ b) (hb : b ≤ s.size) :
    Calls Try.prog 15 #[.string s, .int .i64 a, .int .i64 b] w fun e w' => e = .returned (.bool (Pl.allSp s a b)) ∧ w' = w := by
  go_enter Try.func15, Try.ntmps15
  go_wp2
  go_loop [7] (fun i => ∃ k : Nat, k ≤ b ∧ i = .int .i64 k ∧ Hid (Pl.allSp s a b = Pl.allSp s k b)) (fun i => b - (intOf i).toNat)
  case atStart => exact ⟨a, hab, rfl, rfl⟩
  case round =>
    obtain ⟨k, hk, rfl, H⟩ := hrel
    by_cases hlt : k < b
    · have hks : k < s.size := by omega
      have HS : Hid (Pl.allSp s k b = (Pl.sp s[k] && Pl.allSp s (k + 1) b)) := Pl.allSp_step s k b hlt hb
      cases hsp : Pl.spI (s[k].toNat : Int)
      · have HP : Hid (Pl.spI (s[k].toNat : Int) = false) := hsp
        clear hsp
        go_wp2_with fail
        refine (space_any _ _).mono ?_
        rintro e w' ⟨rfl, rfl⟩
        rw [HP.out]
        go_wp2
        go_ret
        exact ⟨ret_bool (by rw [H.out, HS.out, ← Pl.spI_byte, HP.out]; rfl), rfl⟩
      · have HP : Hid (Pl.spI (s[k].toNat : Int) = true) := hsp
        clear hsp
        go_wp2_with fail
        refine (space_any _ _).mono ?_
        rintro e w' ⟨rfl, rfl⟩
        rw [HP.out]
        go_wp2
        go_round
        case rel => exact ⟨k + 1, by omega, by go_num, by show Pl.allSp s a b = _; rw [H.out, HS.out, ← Pl.spI_byte, HP.out]; rfl⟩
        case measure => simp [intOf]; omega
    · have hkb : k = b := by omega
      have HK : Hid (k = b) := hkb
      clear hkb
      go_wp2
      go_ret
      exact ⟨ret_bool (by rw [H.out, HK.out, Pl.allSp_end]), rfl⟩

set_option maxHeartbeats 400000 in
theorem ahead_any (s : ByteArray) (n : Nat) (w : World) (hs : s.size ≤ 1048577) :
    Calls Try.prog 16 #[.string s, .int .i64 n] w fun e w' => e = .returned (.bool (Pl.aheadAt s n)) ∧ w' = w := by
  go_enter Try.func16, Try.ntmps16
  go_wp2
  go_loop [5] (fun i => ∃ k : Nat, n ≤ k ∧ i = .int .i64 k ∧ Hid (Pl.upAt s n = Pl.upAt s k)) (fun i => s.size - (intOf i).toNat)
  case atStart => exact ⟨n, Nat.le_refl _, rfl, rfl⟩
  case round =>
    obtain ⟨k, hk, rfl, H⟩ := hrel
    by_cases hlt : k < s.size
    · by_cases hc : (s[k].toNat : Int) = 58
      · have hc' : ((s[k].toNat : Int) != 58) = false := by simp [hc]
        have HC : Hid ((s[k].toNat : Int) = 58) := hc
        clear hc
        go_wp2_with fail
        refine (spaces_any s n k _ hs hk (by omega)).mono ?_
        rintro e w' ⟨rfl, rfl⟩
        go_wp2
        go_ret
        exact ⟨ret_bool (by unfold Pl.aheadAt; rw [H.out, Pl.upAt_colon s k hlt HC.out]; simp [hlt]), rfl⟩
      · have hc' : ((s[k].toNat : Int) != 58) = true := by simpa using hc
        have HC : Hid (¬ (s[k].toNat : Int) = 58) := hc
        clear hc
        go_wp2_with fail
        go_round
        case rel => exact ⟨k + 1, by omega, by go_num, H.out.trans (Pl.upAt_step s k hlt HC.out)⟩
        case measure => simp [intOf]; omega
    · go_wp2_with fail
      go_ret
      exact ⟨ret_bool (by unfold Pl.aheadAt; rw [H.out, Pl.upAt_end s k (by omega)]; simp; omega), rfl⟩

theorem bytes13_yes (a : ByteArray) (b c : Int) (w : World) (h : a.size ≤ 1048576) :
    Calls Try.prog 13 #[.string a, .int .i64 b, .int .i64 c] w fun e w' => e = .returned (.bool true) ∧ w' = w := by
  go_enter Try.func13, Try.ntmps13
  go_wp2
  go_ret
  exact ⟨rfl, rfl⟩

theorem bytes13_no (a : ByteArray) (b c : Int) (w : World) (h : ¬ a.size ≤ 1048576) :
    Calls Try.prog 13 #[.string a, .int .i64 b, .int .i64 c] w fun e w' => e = .returned (.bool false) ∧ w' = w := by
  go_enter Try.func13, Try.ntmps13
  go_wp2
  all_goals (go_ret; exact ⟨rfl, rfl⟩)

theorem bytes17_yes (a : ByteArray) (b c : Int) (w : World) (h : a.size ≤ 1048576) :
    Calls Try.prog 17 #[.string a, .int .i64 b, .int .u8 c] w fun e w' => e = .returned (.bool true) ∧ w' = w := by
  go_enter Try.func17, Try.ntmps17
  go_wp2
  go_ret
  exact ⟨rfl, rfl⟩

theorem bytes17_no (a : ByteArray) (b c : Int) (w : World) (h : ¬ a.size ≤ 1048576) :
    Calls Try.prog 17 #[.string a, .int .i64 b, .int .u8 c] w fun e w' => e = .returned (.bool false) ∧ w' = w := by
  go_enter Try.func17, Try.ntmps17
  go_wp2
  all_goals (go_ret; exact ⟨rfl, rfl⟩)
end Go.Proofs.Qxb6619198a.Colon
