import Derived.Laws.BitsLemmas
namespace Go.Proofs.Qxb6619205a.Pl

theorem or_small : ∀ x : Fin 64, (x.val ||| 32) = if x.val / 32 % 2 = 1 then x.val else x.val + 32 := by decide +kernel
theorem xor_small : ∀ x : Fin 64, (x.val ^^^ 32) = if x.val / 32 % 2 = 1 then x.val - 32 else x.val + 32 := by decide +kernel

theorem nat_or32 (n : Nat) : n ||| 32 = if n / 32 % 2 = 1 then n else n + 32 := by
  have h1 : (n ||| 32) / 2 ^ 6 = n / 2 ^ 6 ||| 32 / 2 ^ 6 := Nat.or_div_two_pow
  have h2 : (n ||| 32) % 2 ^ 6 = n % 2 ^ 6 ||| 32 % 2 ^ 6 := Nat.or_mod_two_pow
  have h3 := or_small ⟨n % 64, Nat.mod_lt _ (by decide)⟩
  simp only [Nat.reducePow, Nat.reduceDiv, Nat.reduceMod, Nat.or_zero] at h1 h2
  simp only at h3
  rw [h3] at h2
  split at h2 <;> split <;> omega

theorem nat_xor32 (n : Nat) : n ^^^ 32 = if n / 32 % 2 = 1 then n - 32 else n + 32 := by
  have h1 : (n ^^^ 32) / 2 ^ 6 = n / 2 ^ 6 ^^^ 32 / 2 ^ 6 := Nat.xor_div_two_pow
  have h2 : (n ^^^ 32) % 2 ^ 6 = n % 2 ^ 6 ^^^ 32 % 2 ^ 6 := Nat.xor_mod_two_pow
  have h3 := xor_small ⟨n % 64, Nat.mod_lt _ (by decide)⟩
  simp only [Nat.reducePow, Nat.reduceDiv, Nat.reduceMod, Nat.xor_zero] at h1 h2
  simp only at h3
  rw [h3] at h2
  split at h2 <;> split <;> omega

theorem i32_or32 (r : Int) (h0 : -2147483648 ≤ r) (h1 : r ≤ 2147483647) : bits .or .i32 r 32 = if r / 32 % 2 = 1 then r else r + 32 := by
  have h32 : (BitVec.ofInt 32 32).toNat = 32 := by decide
  have key : (BitVec.ofInt 32 r ||| BitVec.ofInt 32 32).toNat = (r % ((2 ^ 32 : Nat) : Int)).toNat ||| 32 := by
    rw [BitVec.toNat_or, BitVec.toNat_ofInt, h32]
  show IntKind.i32.wrap ((BitVec.ofInt 32 r ||| BitVec.ofInt 32 32).toNat : Nat) = _
  rw [key, IntKind.wrap_i32, nat_or32]
  split <;> split <;> omega

theorem i32_xor32 (r : Int) (h0 : -2147483648 ≤ r) (h1 : r ≤ 2147483647) : bits .xor .i32 r 32 = if r / 32 % 2 = 1 then r - 32 else r + 32 := by
  have h32 : (BitVec.ofInt 32 32).toNat = 32 := by decide
  have key : (BitVec.ofInt 32 r ^^^ BitVec.ofInt 32 32).toNat = (r % ((2 ^ 32 : Nat) : Int)).toNat ^^^ 32 := by
    rw [BitVec.toNat_xor, BitVec.toNat_ofInt, h32]
  show IntKind.i32.wrap ((BitVec.ofInt 32 r ^^^ BitVec.ofInt 32 32).toNat : Nat) = _
  rw [key, IntKind.wrap_i32, nat_xor32]
  split <;> split <;> omega

/-- lowerASCII -/
def la (r : Int) : Int := if 65 ≤ r ∧ r ≤ 90 then r + 32 else r

/-- zzb1FoldEqual -/
def fe (r s : Int) : Bool := r == s || (decide (97 ≤ bits .or .i32 r 32 ∧ bits .or .i32 r 32 ≤ 122) && s == bits .xor .i32 r 32)

theorem la_yes (r : Int) (h : 65 ≤ r ∧ r ≤ 90) : la r = r + 32 := by unfold la; rw [if_pos h]
theorem la_no (r : Int) (h : ¬ (65 ≤ r ∧ r ≤ 90)) : la r = r := by unfold la; rw [if_neg h]

theorem fe_la (r s : Int) (h0 : -2147483648 ≤ r) (h1 : r ≤ 2147483647) : fe r s = (la r == la s) := by
  unfold fe la
  rw [i32_or32 r h0 h1, i32_xor32 r h0 h1, Bool.eq_iff_iff]
  simp only [Bool.or_eq_true, Bool.and_eq_true, beq_iff_eq, decide_eq_true_eq]
  split <;> split <;> split <;> omega

theorem la_la (r : Int) : la (la r) = la r := by
  by_cases h : 65 ≤ r ∧ r ≤ 90
  · rw [la_yes r h, la_no (r + 32) (by omega)]
  · rw [la_no r h, la_no r h]

theorem la_cap (r : Int) : la r < 65 ∨ 90 < la r := by
  unfold la
  split <;> omega

theorem la_xor (r : Int) (h : 65 ≤ r ∧ r ≤ 90) : la r = bits .xor .i32 r 32 := by
  rw [i32_xor32 r (by omega) (by omega), la_yes r h]
  split <;> omega

theorem la_bd (r : Int) (h0 : -2147483648 ≤ r) (h1 : r ≤ 2147483647) : -2147483648 ≤ la r ∧ la r ≤ 2147483647 := by
  unfold la
  split <;> omega

end Go.Proofs.Qxb6619205a.Pl
