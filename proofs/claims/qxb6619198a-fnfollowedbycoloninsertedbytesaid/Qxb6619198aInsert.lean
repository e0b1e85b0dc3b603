import Derived.Test.Qxb6619198aColon
import Derived.WalkSpells
import Derived.Laws.IdiomStrings
import Derived.Deep.RegionWith
import Derived.Deep.DeepCutAuto
import Derived.RowKit3
namespace Go.Proofs.Qxb6619198a.Colon
open Go.RowKit

theorem one_any (u : UInt8) (w : World) :
    Calls Try.prog 12 #[.int .u8 (u.toNat : Int)] w fun e w' => e = .returned (.string ⟨#[u]⟩) ∧ w' = w.alloc (.cells #[.int .u8 (u.toNat : Int)] 5) := by
  have hcv := run_convert_bytes_back (P := Try.prog) (w.alloc (.cells #[.int .u8 (u.toNat : Int)] 5)) 30 9 5 ⟨w.heap.size, 0, none⟩ 1 [u] Try.underlying30 Try.underlying5 Try.underlying9
    (by intro j hj; match j, hj with | 0, _ => simp [Addr.add])
  simp only [List.length_singleton] at hcv
  go_enter Try.func12, Try.ntmps12
  go_wp2
  go_ret
  exact ⟨rfl, rfl⟩

set_option maxHeartbeats 1000000 in
theorem inner (s : ByteArray) (i : Nat) (u : UInt8) (w : World) (hs : s.size ≤ 1048576) (hi : i ≤ s.size) :
    Calls Try.prog 6 #[.string s, .int .i64 i, .int .u8 (u.toNat : Int)] w fun e w' => e = .returned (.bool true) ∧ Grown w w' := by
  obtain ⟨G, HG⟩ : ∃ G, Hid (G = s.extract 0 i ++ ⟨#[u]⟩ ++ s.extract i s.size) := ⟨_, rfl⟩
  have hGs : G.size ≤ 1048577 := by rw [HG.out, Pl.ins_size s i u hi]; omega
  obtain ⟨bf, HB⟩ : ∃ bf, Hid (Pl.fbcAt s i = bf) := ⟨_, rfl⟩
  obtain ⟨sp, HS⟩ : ∃ sp, Hid (Pl.spI (u.toNat : Int) = sp) := ⟨_, rfl⟩
  obtain ⟨c58, H58⟩ : ∃ c58, Hid (((u.toNat : Int) == 58) = c58) := ⟨_, rfl⟩
  have HA : Hid (Pl.fbcAt G i = (c58 || (sp && bf))) := by
    show _ = _
    rw [HG.out, Pl.fbcAt_ins s i u hi, HB.out, HS.out, H58.out]
  have HP : Hid (Pl.fbcAt G (i + 1) = bf) := by
    show _ = _
    rw [HG.out, Pl.fbcAt_ins1 s i u hi, HB.out]
  go_enter Try.func6, Try.ntmps6
  go_wp2_with fail
  refine (bytes17_yes s i _ _ hs).mono ?_
  rintro e w' ⟨rfl, rfl⟩
  go_upto_region 7 with fail
  go_cut [7] (fun s7 wx => s7 = .string G ∧ Grown w' wx)
  case first =>
    go_region_with (go_at_call 12; refine (one_any u _).mono ?_; rintro e w' ⟨rfl, rfl⟩)
    all_goals (go_wp2_with fail; go_meet; exact ⟨by rw [HG.out], (Grown.alloc (Grown.refl _) _ _).drew⟩)
  case rest =>
    obtain ⟨rfl, hgr⟩ := hcut
    go_wp2_with fail
    refine (zzfollows_any s i _ (by omega)).mono ?_
    rintro e w' ⟨rfl, rfl⟩
    rw [HB.out]
    go_wp2_with fail
    refine (zzfollows_any G i _ hGs).mono ?_
    rintro e w' ⟨rfl, rfl⟩
    rw [HA.out]
    go_wp2_with fail
    rw [show ((i : Int) + 1) = ((i + 1 : Nat) : Int) from by simp]
    refine (zzfollows_any G (i + 1) _ hGs).mono ?_
    rintro e w' ⟨rfl, rfl⟩
    rw [HP.out]
    have h58 := H58.out
    clear HA HP HB H58
    cases c58 <;> cases bf <;> cases sp
    all_goals go_wp2_with (go_at_call 18; refine (space_any _ _).mono ?_; rintro e w' ⟨rfl, rfl⟩; rw [HS.out])
    all_goals go_ret
    all_goals exact ⟨rfl, hgr⟩
end Go.Proofs.Qxb6619198a.Colon
