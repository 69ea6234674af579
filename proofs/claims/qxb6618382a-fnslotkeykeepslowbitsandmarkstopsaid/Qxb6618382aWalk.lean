import Derived.Test.Qxb6618382aProg
import Derived.WalkKit
import Derived.Laws.BitsAllLaws
namespace Go.Proofs.Qxb6618382a
open Go.RowKit

/-! ### THE PLAIN LAW: 32-bit words as numbers -/
theorem nat_and_low (a : Nat) : a &&& 2147483647 = a % 2147483648 := by
  have := Nat.and_two_pow_sub_one_eq_mod a 31
  simpa using this

theorem nat_or_top (a : Nat) (h : a < 4294967296) : a ||| 2147483648 = a % 2147483648 + 2147483648 := by
  have e : 2147483648 + a % 2147483648 = 2147483648 ||| a % 2147483648 := by
    have := Nat.two_pow_add_eq_or_of_lt (show a % 2147483648 < 2 ^ 31 from Nat.mod_lt _ (by decide)) 1
    simpa using this
  rcases Nat.lt_or_ge a 2147483648 with hl | hl
  · rw [Nat.mod_eq_of_lt hl] at e ⊢
    rw [Nat.or_comm, ← e, Nat.add_comm]
  · have e2 : a = 2147483648 ||| a % 2147483648 := by
      rw [← e]; omega
    have e3 : a ||| 2147483648 = a := by
      rw [e2, Nat.or_comm, ← Nat.or_assoc, Nat.or_self]
    rw [e3]; omega

theorem nat_and_top (b : Nat) (h : b < 2147483648) : (b + 2147483648) &&& 2147483648 = 2147483648 := by
  have t : (b + 2147483648).testBit 31 = true := by
    have h1 := Nat.testBit_two_pow_add_eq b 31
    have h2 := Nat.testBit_lt_two_pow (show b < 2 ^ 31 from h)
    rw [h2] at h1
    rw [Nat.add_comm]
    exact h1
  apply Nat.eq_of_testBit_eq
  intro i
  have hp : (2147483648 : Nat).testBit i = decide (31 = i) := Nat.testBit_two_pow (n := 31) (m := i)
  rw [Nat.testBit_and, hp]
  by_cases hi : 31 = i
  · subst hi; rw [t]; rfl
  · simp [hi]

/-- the low 31 bits -/
def low (a : Int) : Int := a % 2147483648
/-- the key: the low bits, the top bit set -/
def key (a : Int) : Int := a % 2147483648 + 2147483648

theorem and_low (a : Int) (h0 : 0 ≤ a) (h1 : a < 4294967296) : bits .and .u32 a 2147483647 = low a := by
  rw [u32_and a 2147483647 h0 h1 (by decide) (by decide)]
  have : (2147483647 : Int).toNat = 2147483647 := rfl
  rw [this, nat_and_low]
  unfold low; omega

theorem or_top (a : Int) (h0 : 0 ≤ a) (h1 : a < 4294967296) : bits .or .u32 a 2147483648 = key a := by
  rw [u32_or a 2147483648 h0 h1 (by decide) (by decide)]
  have : (2147483648 : Int).toNat = 2147483648 := rfl
  rw [this, nat_or_top _ (by omega)]
  unfold key; omega

theorem key_range (a : Int) : 0 ≤ key a ∧ key a < 4294967296 := by unfold key; omega

theorem and_top (a : Int) : bits .and .u32 (key a) 2147483648 = 2147483648 := by
  obtain ⟨h0, h1⟩ := key_range a
  rw [u32_and (key a) 2147483648 h0 h1 (by decide) (by decide)]
  have e1 : (2147483648 : Int).toNat = 2147483648 := rfl
  have e2 : (key a).toNat = (low a).toNat + 2147483648 := by unfold key low; omega
  rw [e1, e2, nat_and_top _ (by unfold low; omega)]
  rfl

theorem low_key (a : Int) : low (key a) = low a := by unfold low key; omega
theorem key_key (a : Int) : key (key a) = key a := by unfold key; omega
theorem key_eq_iff (a b : Int) : key a = key b ↔ low a = low b := by unfold key low; omega

/-! ### THE WALK -/
theorem slotKey5 (a : Int) (w : World) (h0 : 0 ≤ a) (h1 : a < 4294967296) : Calls Try.prog 5 #[.int .u32 a] w fun e w' => e = .returned (.int .u32 (key a)) ∧ w' = w := by
  have hor := or_top a h0 h1
  go_enter Try.func5, Try.ntmps5
  go_wp2
  go_ret
  exact ⟨rfl, rfl⟩

theorem zzSlotKey4 (a : Int) (w : World) (h0 : 0 ≤ a) (h1 : a < 4294967296) : Calls Try.prog 4 #[.int .u32 a] w fun e w' => e = .returned (.int .u32 (key a)) ∧ w' = w := by
  go_enter Try.func4, Try.ntmps4
  go_wp2_with fail
  refine (slotKey5 a _ h0 h1).mono ?_
  rintro e w1 ⟨rfl, rfl⟩
  go_wp2
  go_ret
  exact ⟨rfl, rfl⟩

theorem slotWalk (a b : Int) (w : World) (a0 : 0 ≤ a) (a1 : a < 4294967296) (b0 : 0 ≤ b) (b1 : b < 4294967296) :
    Calls Try.prog 3 #[.int .u32 a, .int .u32 b] w fun e w' => e = .returned (.bool true) ∧ w' = w := by
  have la := and_low a a0 a1
  have lb := and_low b b0 b1
  obtain ⟨k0, k1⟩ := key_range a
  have lk : bits .and .u32 (key a) 2147483647 = low a := by rw [and_low (key a) k0 k1, low_key]
  have tk := and_top a
  have kk := key_key a
  have iff := key_eq_iff a b
  have KK : Hid (key (key a) = key a) := kk
  clear kk
  have hc : ((key a == key b) = true ∧ (low a == low b) = true) ∨ ((key a == key b) = false ∧ (low a == low b) = false) := by
    by_cases h : low a = low b
    · exact Or.inl ⟨beq_iff_eq.2 (iff.2 h), beq_iff_eq.2 h⟩
    · exact Or.inr ⟨beq_eq_false_iff_ne.2 (fun e => h (iff.1 e)), beq_eq_false_iff_ne.2 h⟩
  clear iff
  rcases hc with ⟨c1, c2⟩ | ⟨c1, c2⟩
  all_goals
    go_enter Try.func3, Try.ntmps3
    go_wp2_with fail
    refine (zzSlotKey4 a _ a0 a1).mono ?_
    rintro e w1 ⟨rfl, rfl⟩
    go_wp2_with fail
    refine (zzSlotKey4 b _ b0 b1).mono ?_
    rintro e w2 ⟨rfl, rfl⟩
    go_wp2_with fail
    refine (zzSlotKey4 (key a) _ k0 k1).mono ?_
    rintro e w3 ⟨rfl, rfl⟩
    rw [KK.out]
    go_wp2
    go_ret
    exact ⟨rfl, rfl⟩
end Go.Proofs.Qxb6618382a
