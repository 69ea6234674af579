import Derived.Test.Qxb6617248aProg
import Derived.WalkKit
import Derived.WalkSpells
import Derived.WalkLawsBesides
import Derived.Below
import Derived.Outline
namespace Go.Proofs.Qxb6617248a
open Go.RowKit

/-- each byte of a name can stand in a line 'name: value' -/
def ByteOk (s : ByteArray) : Prop := ∀ j (h : j < s.size), (((s[j]'h).toNat : Int) == 58) = false ∧ (((s[j]'h).toNat : Int) == 32) = false ∧ (((s[j]'h).toNat : Int) == 9) = false ∧ (((s[j]'h).toNat : Int) == 10) = false ∧ (((s[j]'h).toNat : Int) == 13) = false

set_option maxHeartbeats 400000 in
theorem sound11 (b n : Nat) (N : Nat → ByteArray) (w : World) (hn : n ≤ 1000) (hcell : ∀ k, k < n → w.cell? ⟨b, k * 2, none⟩ = some (.string (N k)))
    (h0 : ∀ k, k < n → 0 < (N k).size ∧ (N k).size ≤ 1000) (hok : ∀ k, k < n → ByteOk (N k)) (hne : ∀ i j, i < n → j < i → ((N j).toList == (N i).toList) = false) :
    Calls Try.prog 11 #[.slice (some ⟨b, 0, none⟩) n n] w fun e w' => e = .returned (.bool true) ∧ w' = w := by
  go_enter Try.func11, Try.ntmps11
  go_wp2
  go_loop [3] (fun i => ∃ k : Nat, k ≤ n ∧ i = .int .i64 k) (fun i => n - (intOf i).toNat)
  case atStart => exact ⟨0, Nat.zero_le _, rfl⟩
  case round =>
    obtain ⟨k, hk, rfl⟩ := hrel
    by_cases hlt : k < n
    · have hc := hcell k hlt
      have hk0 := (h0 k hlt).1
      have hk1 := (h0 k hlt).2
      have HO : Hid (ByteOk (N k)) := hok k hlt
      have HNE : Hid (∀ j, j < k → ((N j).toList == (N k).toList) = false ∧ w.cell? ⟨b, j * 2, none⟩ = some (.string (N j))) := fun j hj => ⟨hne k j hlt hj, hcell j (by omega)⟩
      clear hne hcell hok h0
      generalize N k = s at *
      go_wp2
      go_loop [5] (fun i => ∃ j : Nat, j ≤ s.size ∧ i = .int .i64 j) (fun i => s.size - (intOf i).toNat)
      case atStart => exact ⟨0, Nat.zero_le _, rfl⟩
      case round =>
        obtain ⟨j, hj, rfl⟩ := hrel
        by_cases hjt : j < s.size
        · obtain ⟨o1, o2, o3, o4, o5⟩ := HO.out j hjt
          go_wp2
          go_round
          case rel => exact ⟨j + 1, by omega, by go_num⟩
          case measure => simp [intOf]; omega
        · go_wp2
          go_loop [7] (fun i => ∃ j : Nat, j ≤ k ∧ i = .int .i64 j) (fun i => k - (intOf i).toNat)
          case atStart => exact ⟨0, Nat.zero_le _, rfl⟩
          case round =>
            obtain ⟨i, hi, rfl⟩ := hrel
            by_cases hit : i < k
            · obtain ⟨o1, o2⟩ := HNE.out i hit
              go_wp2
              go_round
              case rel => exact ⟨i + 1, by omega, by go_num⟩
              case measure => simp [intOf]; omega
            · go_wp2
              go_round
              case rel => exact ⟨k + 1, by omega, by go_num⟩
              case measure => simp [intOf]; omega
    · go_wp2
      go_ret
      exact ⟨rfl, rfl⟩
end Go.Proofs.Qxb6617248a
