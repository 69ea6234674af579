import Derived.Test.Qxb6617296aDoorProg
import Derived.WalkKit
import Derived.WalkSpells
import Derived.WalkLawsBesides
import Derived.Below
import Derived.Lib.Strings
import Derived.Lib.ConvBytes
import Derived.Lib.AtoiErrMem
namespace Go.Proofs.Qxb6617296aDoor
open Go.RowKit

/-- three octal digits of a value of at most 0377 -/
def Valid (C : Nat → Int) : Prop := 48 ≤ C 0 ∧ C 0 ≤ 51 ∧ 48 ≤ C 1 ∧ C 1 ≤ 55 ∧ 48 ≤ C 2 ∧ C 2 ≤ 55
def val (C : Nat → Int) : Int := (C 0 - 48) * 64 + (C 1 - 48) * 8 + (C 2 - 48)

/-- how the inner ParseUint ends at three bytes, base 8, 8 bits -/
def Pu (C : Nat → Int) (e : Ending) : Prop :=
  (Valid C ∧ e = .returned (.tuple #[.int .u64 (val C), .nilIface])) ∨ (¬ Valid C ∧ ∃ x c, (c = 1 ∨ c = 2) ∧ e = .returned (.tuple #[.int .u64 x, .iface 44 (.int .i64 c)]))

/-- what is gathered of the first k digits -/
def Acc (C : Nat → Int) (k : Nat) (a : Int) : Prop :=
  (k = 0 ∧ a = 0) ∨ (k = 1 ∧ a = C 0 - 48 ∧ 48 ≤ C 0 ∧ C 0 ≤ 55) ∨ (k = 2 ∧ a = (C 0 - 48) * 8 + (C 1 - 48) ∧ 48 ≤ C 0 ∧ C 0 ≤ 55 ∧ 48 ≤ C 1 ∧ C 1 ≤ 55) ∨
    (k = 3 ∧ a = val C ∧ Valid C)

theorem acc_step {C : Nat → Int} {k : Nat} {a : Int} (hk : k < 3) (h : Acc C k a) (h0 : 48 ≤ C k) (h1 : C k ≤ 55) (hv : a * 8 + (C k - 48) ≤ 255) : Acc C (k + 1) (a * 8 + (C k - 48)) := by
  rcases h with ⟨rfl, rfl⟩ | ⟨rfl, rfl, h2⟩ | ⟨rfl, rfl, h2⟩ | ⟨rfl, _⟩
  · exact Or.inr (Or.inl ⟨rfl, by omega, h0, h1⟩)
  · exact Or.inr (Or.inr (Or.inl ⟨rfl, rfl, h2.1, h2.2, h0, h1⟩))
  · refine Or.inr (Or.inr (Or.inr ⟨rfl, ?_, ?_⟩))
    · unfold val; omega
    · unfold Valid; omega
  · omega

theorem acc_range {C : Nat → Int} {k : Nat} {a : Int} (hk : k < 3) (h : Acc C k a) (h0 : 48 ≤ C k) (h1 : C k ≤ 55) (hv : 255 < a * 8 + (C k - 48)) : ¬ Valid C := by
  unfold Valid
  rcases h with ⟨rfl, rfl⟩ | ⟨rfl, rfl, h2⟩ | ⟨rfl, rfl, h2⟩ | ⟨rfl, _⟩ <;> omega

theorem acc_digit {C : Nat → Int} {k : Nat} (hk : k < 3) (h : ¬ (48 ≤ C k ∧ C k ≤ 55)) : ¬ Valid C := by
  unfold Valid
  rcases (show k = 0 ∨ k = 1 ∨ k = 2 from by omega) with rfl | rfl | rfl <;> omega

theorem acc_end {C : Nat → Int} {k : Nat} {a : Int} (hk : ¬ k < 3) (h : Acc C k a) : a = val C ∧ Valid C := by
  rcases h with ⟨rfl, rfl⟩ | ⟨rfl, rfl, h2⟩ | ⟨rfl, rfl, h2⟩ | ⟨rfl, h⟩
  · omega
  · omega
  · omega
  · exact h

set_option maxHeartbeats 4000000 in
set_option maxRecDepth 100000 in
theorem parse20 (s : ByteArray) (C : Nat → Int) (hs : s.size = 3) (hC : ∀ j, j < 3 → C j = ((s.data.toList.getD j 0).toNat : Int)) (w : World) :
    Calls Tryd.prog 20 #[.string s, .int .i64 8, .int .i64 8] w fun e w' => Pu C e ∧ Below w.heap.size w w' := by
  have hemp : s.toList.isEmpty = false := by
    rw [← decide_eq_emptyBytes]
    exact decide_eq_false (fun h => by rw [h] at hs; simp at hs)
  have hcv := Lib.run_convert_string_bytes (P := Tryd.prog) w 9 29 5 s (u := .string) Tryd.underlying9 Tryd.underlying29 Tryd.underlying5
  have hB : ∀ j, j < 3 → (Lib.bytesWorld w 5 s).cell? ⟨w.heap.size, j, none⟩ = some (.int .u8 (C j)) := fun j hj => by rw [hC j hj]; exact Lib.bytesWorld_cell w 5 s j (by omega)
  have hbel := Lib.bytesWorld_below w 5 s
  have hR : ∀ j, j < 3 → 0 ≤ C j ∧ C j ≤ 255 := fun j hj => by rw [hC j hj]; have := (s.data.toList.getD j 0).toNat_lt; omega
  clear hC
  generalize Lib.bytesWorld w 5 s = W1 at *
  have HB : Hid (∀ j, j < 3 → W1.cell? ⟨w.heap.size, j, none⟩ = some (.int .u8 (C j))) := hB
  have HR : Hid (∀ j, j < 3 → 0 ≤ C j ∧ C j ≤ 255) := hR
  clear hB hR
  rw [hs] at hcv
  go_enter Tryd.func20, Tryd.ntmps20
  go_wp2
  go_loop [12, 13, 101] (fun vu vn vi => ∃ (k : Nat) (a : Int), vu = .bool false ∧ vn = .int .u64 a ∧ vi = .int .i64 k ∧ k ≤ 3 ∧ 0 ≤ a ∧ a ≤ 255 ∧ Hid (Acc C k a)) (fun _ _ vi => 3 - (intOf vi).toNat)
  case atStart => exact ⟨0, 0, rfl, rfl, rfl, by omega, by omega, by omega, Or.inl ⟨rfl, rfl⟩⟩
  case round =>
    obtain ⟨k, a, rfl, rfl, rfl, hk, ha0, ha1, hA⟩ := hrel
    by_cases hlt : k < 3
    · have hc := HB.out k hlt
      obtain ⟨c0, c1⟩ := HR.out k hlt
      by_cases hd : 48 ≤ C k ∧ C k ≤ 55
      · obtain ⟨d0, d1⟩ := hd
        by_cases hv : a * 8 + (C k - 48) ≤ 255
        · have HN : Hid (Acc C (k + 1) (a * 8 + (C k - 48))) := acc_step hlt hA.out d0 d1 hv
          go_wp2
          go_round
          case rel => exact ⟨k + 1, _, rfl, rfl, by go_num, by omega, by omega, hv, HN⟩
          case measure => simp [intOf]; omega
        · have HN : Hid (¬ Valid C) := acc_range hlt hA.out d0 d1 (by omega)
          go_wp2
          go_ret2
          exact ⟨Or.inr ⟨HN.out, _, _, Or.inl rfl, rfl⟩, hbel⟩
      · have HN : Hid (¬ Valid C) := acc_digit hlt hd
        by_cases he : 56 ≤ C k ∧ C k ≤ 57
        · obtain ⟨e0, e1⟩ := he
          clear hd
          go_wp2
          go_ret2
          exact ⟨Or.inr ⟨HN.out, _, _, Or.inr rfl, rfl⟩, hbel⟩
        · have hl : C k < 48 ∨ 57 < C k := by omega
          have h95 : (C k == 95) = true ∨ (C k == 95) = false := by cases (C k == 95) <;> simp
          clear hd he
          rcases hl with hl | hl
          · have hb : (C k == 95) = false := beq_eq_false_iff_ne.2 (by omega)
            clear h95
            go_wp2
            all_goals
              go_ret2
              exact ⟨Or.inr ⟨HN.out, _, _, Or.inr rfl, rfl⟩, hbel⟩
          · rcases h95 with hb | hb
            all_goals
              go_wp2
              all_goals
                go_ret2
                exact ⟨Or.inr ⟨HN.out, _, _, Or.inr rfl, rfl⟩, hbel⟩
    · obtain ⟨rfl, hV⟩ := acc_end hlt hA.out
      have HV : Hid (Valid C) := hV
      clear hV
      go_wp2
      go_ret2
      exact ⟨Or.inl ⟨HV.out, rfl⟩, hbel⟩
end Go.Proofs.Qxb6617296aDoor
