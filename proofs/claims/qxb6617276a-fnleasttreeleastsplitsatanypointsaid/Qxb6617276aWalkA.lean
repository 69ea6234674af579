import Derived.Test.Qxb6617276aProg
import Derived.Test.Qxb6617276aPlain
import Derived.WalkKit
import Derived.WalkSpells
import Derived.WalkLawsBesides
import Derived.Below
import Derived.Outline
namespace Go.Proofs.Qxb6617276a
open Go.RowKit Plain

/-- some bool is handed back -/
def AnyBool (e : Ending) : Prop := ∃ b, e = .returned (.bool b)

/-- a bool is handed back, and where it is true the tree is well formed -/
def WfOut (z : Nat → Int) (n : Nat) (e : Ending) : Prop := ∃ b, e = .returned (.bool b) ∧ (b = true → Wf z n)

/-- the row at block g holds the numbers z, each an int32 -/
def Row (w : World) (g len : Nat) (z : Nat → Int) : Prop := ∀ m, m < len → w.cell? ⟨g, m, none⟩ = some (.int .i32 (z m)) ∧ -2147483648 ≤ z m ∧ z m ≤ 2147483647

theorem bytes10 (a : Option Addr) (len cap : Nat) (i j k : Int) (w : World) (hl : len ≤ maxLen) :
    Calls Try.prog 10 #[.slice a len cap, .int .i64 i, .int .i64 j, .int .i64 k] w fun e w' => AnyBool e ∧ w' = w := by
  unfold maxLen at hl
  go_enter Try.func10, Try.ntmps10
  go_wp2
  all_goals
    go_ret
    exact ⟨⟨_, rfl⟩, rfl⟩

set_option maxHeartbeats 400000 in
theorem least14 (g n cap : Nat) (z : Nat → Int) (i j : Nat) (w : World) (hn : n ≤ 65536) (hij : i < j) (hj : j ≤ n) (hrow : Row w g (2 * n) z) (wf : Wf z n) :
    Calls Try.prog 14 #[.slice (some ⟨g, 0, none⟩) (2 * n) cap, .int .i64 i, .int .i64 j] w fun e w' => ∃ m, e = .returned (.int .i64 m) ∧ IsMin z (n + i) (n + j) m ∧ w' = w := by
  have hc := hrow (n + i) (by omega)
  have HR : Hid (Row w g (2 * n) z) := hrow
  have HW : Hid (Wf z n) := wf
  clear hrow wf
  go_enter Try.func14, Try.ntmps14
  go_wp2
  go_loop [1, 2, 8] (fun x y l => ∃ (a b : Nat) (m : Int), x = .int .i64 a ∧ y = .int .i64 b ∧ l = .int .i32 m ∧ -2147483648 ≤ m ∧ m ≤ 2147483647 ∧ Hid (Rel z n (n + i) (n + j) m a b)) (fun _ y _ => (intOf y).toNat)
  case atStart => exact ⟨n + i, n + j, _, by go_num, by go_num, rfl, hc.2.1, hc.2.2, rel_start z n (n + i) (n + j) (by omega) (by omega) (by omega)⟩
  case round =>
    obtain ⟨a, b, m, rfl, rfl, rfl, hm1, hm2, hR⟩ := hrel
    have ha1 : 1 ≤ a := hR.out.1
    have hb1 : b ≤ 2 * n := hR.out.2.1
    clear hc
    by_cases hab : a < b
    · have hca := HR.out a (by omega)
      have hcb := HR.out (b - 1) (by omega)
      rcases Nat.mod_two_eq_zero_or_one a with ha | ha <;> rcases Nat.mod_two_eq_zero_or_one b with hb | hb
      · go_wp2
        go_round
        case rel => exact ⟨a / 2, b / 2, _, by go_num, by go_num, rfl, hm1, hm2, step_ee HW.out hR.out ha hb⟩
        case measure => simp [intOf]; omega
      · go_wp2
        go_round
        case rel => exact ⟨a / 2, (b - 1) / 2, _, by go_num, by go_num, rfl, by split <;> omega, by split <;> omega, step_eo HW.out hR.out hab ha hb⟩
        case measure => simp [intOf]; omega
      · go_wp2
        go_round
        case rel => exact ⟨(a + 1) / 2, b / 2, _, by go_num, by go_num, rfl, by split <;> omega, by split <;> omega, step_oe HW.out hR.out hab ha hb⟩
        case measure => simp [intOf]; omega
      · go_wp2
        go_round
        case rel => exact ⟨(a + 1) / 2, (b - 1) / 2, _, by go_num, by go_num, rfl, by split <;> (try split) <;> omega, by split <;> (try split) <;> omega, step_oo HW.out hR.out hab ha hb⟩
        case measure => simp [intOf]; omega
    · go_wp2
      go_ret
      exact ⟨m, rfl, rel_end hR.out (by omega), rfl⟩

set_option maxHeartbeats 400000 in
theorem zzLeast9 (g n cap : Nat) (z : Nat → Int) (i j : Int) (w : World) (hn : n ≤ 65536) (hi : 0 ≤ i) (hij : i < j) (hj : j ≤ n) (hrow : Row w g (2 * n) z) (wf : Wf z n) :
    Calls Try.prog 9 #[.slice (some ⟨g, 0, none⟩) (2 * n) cap, .int .i64 i, .int .i64 j] w fun e w' => ∃ m, e = .returned (.int .i64 m) ∧ IsMin z (n + i.toNat) (n + j.toNat) m ∧ w' = w := by
  obtain ⟨i, rfl⟩ := Int.eq_ofNat_of_zero_le hi
  obtain ⟨j, rfl⟩ := Int.eq_ofNat_of_zero_le (by omega : 0 ≤ j)
  rw [Int.toNat_natCast, Int.toNat_natCast]
  have HR : Hid (Row w g (2 * n) z) := hrow
  have HW : Hid (Wf z n) := wf
  clear hrow wf
  go_enter Try.func9, Try.ntmps9
  go_wp2_with fail
  refine (least14 g n cap z i j w hn (by omega) (by omega) HR.out HW.out).mono ?_
  rintro e w1 ⟨m, rfl, hm, rfl⟩
  have HM : Hid (IsMin z (n + i) (n + j) m) := hm
  clear hm
  go_wp2
  go_ret
  exact ⟨m, rfl, HM.out, rfl⟩

set_option maxHeartbeats 400000 in
theorem wf8 (g n cap : Nat) (z : Nat → Int) (w : World) (hn : n ≤ 65536) (hrow : Row w g (2 * n) z) :
    Calls Try.prog 8 #[.slice (some ⟨g, 0, none⟩) (2 * n) cap] w fun e w' => WfOut z n e ∧ w' = w := by
  have HR : Hid (Row w g (2 * n) z) := hrow
  clear hrow
  go_enter Try.func8, Try.ntmps8
  go_wp2
  go_loop [4] (fun x => ∃ k : Nat, 1 ≤ k ∧ k ≤ n + 1 ∧ x = .int .i64 k ∧ Hid (∀ q, 1 ≤ q → q < k → z q = min (z (2 * q)) (z (2 * q + 1)))) (fun x => n + 1 - (intOf x).toNat)
  case atStart => exact ⟨1, by omega, by omega, rfl, fun q h1 h2 => by omega⟩
  case round =>
    obtain ⟨k, hk1, hk2, rfl, hK⟩ := hrel
    by_cases hlt : k < n
    · have hc0 := (HR.out (2 * k) (by omega)).1
      have hc1 := (HR.out (2 * k + 1) (by omega)).1
      have hc2 := (HR.out k (by omega)).1
      go_wp2
      all_goals first
        | (go_ret; exact ⟨⟨false, rfl, fun h => by cases h⟩, rfl⟩)
        | skip
      · go_round
        case rel => exact ⟨k + 1, by omega, by omega, by go_num, snoc_lt hK.out ‹_› ‹_›⟩
        case measure => simp [intOf]; omega
      · go_round
        case rel => exact ⟨k + 1, by omega, by omega, by go_num, snoc_le hK.out ‹_› ‹_›⟩
        case measure => simp [intOf]; omega
    · go_wp2
      go_ret
      exact ⟨⟨true, rfl, fun _ q h1 h2 => hK.out q h1 (by omega)⟩, rfl⟩
end Go.Proofs.Qxb6617276a
