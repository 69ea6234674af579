import Derived.Test.Qxb6617248aProg
import Derived.WalkKit
import Derived.WalkSpells
import Derived.WalkLawsBesides
import Derived.Below
namespace Go.Proofs.Qxb6617248a
open Go.RowKit

/-- some bool is handed back -/
def AnyBool (e : Ending) : Prop := ∃ b, e = .returned (.bool b)

theorem cell_box (w : World) (cs : Array Value) (T k : Nat) (v : Value) (h : cs[k]? = some v) : (w.alloc (.cells cs T)).cell? ⟨w.heap.size, k, none⟩ = some v := by
  have : (w.alloc (.cells cs T)).heap[w.heap.size]? = some (.cells cs T) := by
    show (w.heap.push _)[w.heap.size]? = _
    simp
  simp only [World.cell?, this, h]
  rfl

namespace Sw
set_option maxHeartbeats 400000 in
theorem bytesAny (cs : Array Value) (F : Nat → ByteArray) (hcs : ∀ k, k < 11 → cs[k]? = some (.string (F k))) (k : Int) (v : ByteArray) (w : World) :
    Calls Try.prog 8 #[.agg cs, .int .i64 k, .string v] w fun e w' => AnyBool e ∧ ∃ o, w' = w.alloc o := by
  have hcell := fun k hk => cell_box w cs 22 k _ (hcs k hk)
  clear hcs
  go_enter Try.func8, Try.ntmps8
  go_wp2
  go_loop [7, 8] (fun n i => ∃ k : Nat, k ≤ 11 ∧ i = .int .i64 k ∧ ∃ m : Int, n = .int .i64 m) (fun _ i => 11 - (intOf i).toNat)
  case atStart => exact ⟨0, Nat.zero_le _, rfl, 0, rfl⟩
  case round =>
    obtain ⟨j, hj, rfl, m, rfl⟩ := hrel
    by_cases hlt : j < 11
    · have hc := hcell j hlt
      clear hcell
      go_wp2
      case roundEnd =>
        go_round
        case rel => exact ⟨j + 1, by omega, by go_num, _, rfl⟩
        case measure => simp [intOf]; omega
      all_goals
        go_ret
        exact ⟨⟨_, rfl⟩, _, rfl⟩
    · go_wp2
      all_goals
        go_ret
        exact ⟨⟨_, rfl⟩, _, rfl⟩

set_option maxHeartbeats 400000 in
theorem ofCalls (F : Nat → ByteArray) (w : World) :
    Calls Try.prog 9 #[.agg #[.string (F 0), .string (F 1), .string (F 2), .string (F 3), .string (F 4), .string (F 5), .string (F 6), .string (F 7), .string (F 8), .string (F 9), .string (F 10)]] w fun e w' => e = .returned (.agg #[.string (F 0), .string (F 1), .string (F 2), .string (F 3), .string (F 4), .string (F 5), .string (F 6), .string (F 7), .string (F 8), .string (F 9), .string (F 10)]) ∧ Below w.heap.size w w' := by
  generalize F 0 = f0, F 1 = f1, F 2 = f2, F 3 = f3, F 4 = f4, F 5 = f5, F 6 = f6, F 7 = f7, F 8 = f8, F 9 = f9, F 10 = f10
  go_enter Try.func9, Try.ntmps9
  go_wp2
  exact bodyPost_ret (v := .agg #[.string f0, .string f1, .string f2, .string f3, .string f4, .string f5, .string f6, .string f7, .string f8, .string f9, .string f10]) (by simp [results, Try.results9, go_sem]) rfl ⟨rfl, ((Below.refl _ _).alloc (Nat.le_refl _) _).alloc (by simp) _⟩

/-- the figures' names, in order -/
def names : List ByteArray := [⟨#[111, 117, 116, 95, 115, 104, 97, 114, 101, 115]⟩, ⟨#[111, 117, 116, 95, 110, 97, 118]⟩, ⟨#[111, 117, 116, 95, 97, 109, 111, 117, 110, 116]⟩, ⟨#[114, 101, 100, 101, 109, 112, 116, 105, 111, 110, 95, 102, 101, 101]⟩, ⟨#[114, 101, 100, 101, 109, 112, 116, 105, 111, 110, 95, 102, 101, 101, 95, 116, 111, 95, 102, 117, 110, 100]⟩, ⟨#[105, 110, 95, 97, 109, 111, 117, 110, 116]⟩, ⟨#[102, 101, 101, 95, 100, 105, 102, 102, 101, 114, 101, 110, 99, 101, 95, 114, 117, 108, 101]⟩, ⟨#[102, 101, 101, 95, 100, 105, 102, 102, 101, 114, 101, 110, 99, 101]⟩, ⟨#[110, 101, 116, 95, 105, 110, 95, 97, 109, 111, 117, 110, 116]⟩, ⟨#[105, 110, 95, 110, 97, 118]⟩, ⟨#[105, 110, 95, 115, 104, 97, 114, 101, 115]⟩]

set_option maxHeartbeats 400000 in
theorem figCalls (F : Nat → ByteArray) (w : World) :
    Calls Try.prog 10 #[.agg #[.string (F 0), .string (F 1), .string (F 2), .string (F 3), .string (F 4), .string (F 5), .string (F 6), .string (F 7), .string (F 8), .string (F 9), .string (F 10)]] w fun e w' => e = .returned (.slice (some ⟨w.heap.size + 1, 0, none⟩) 11 11) ∧ w' = (w.alloc (.cells #[.string (F 0), .string (F 1), .string (F 2), .string (F 3), .string (F 4), .string (F 5), .string (F 6), .string (F 7), .string (F 8), .string (F 9), .string (F 10)] 26)).alloc (.cells #[.string ⟨#[111, 117, 116, 95, 115, 104, 97, 114, 101, 115]⟩, .string (F 0), .string ⟨#[111, 117, 116, 95, 110, 97, 118]⟩, .string (F 1), .string ⟨#[111, 117, 116, 95, 97, 109, 111, 117, 110, 116]⟩, .string (F 2), .string ⟨#[114, 101, 100, 101, 109, 112, 116, 105, 111, 110, 95, 102, 101, 101]⟩, .string (F 3), .string ⟨#[114, 101, 100, 101, 109, 112, 116, 105, 111, 110, 95, 102, 101, 101, 95, 116, 111, 95, 102, 117, 110, 100]⟩, .string (F 4), .string ⟨#[105, 110, 95, 97, 109, 111, 117, 110, 116]⟩, .string (F 5), .string ⟨#[102, 101, 101, 95, 100, 105, 102, 102, 101, 114, 101, 110, 99, 101, 95, 114, 117, 108, 101]⟩, .string (F 6), .string ⟨#[102, 101, 101, 95, 100, 105, 102, 102, 101, 114, 101, 110, 99, 101]⟩, .string (F 7), .string ⟨#[110, 101, 116, 95, 105, 110, 95, 97, 109, 111, 117, 110, 116]⟩, .string (F 8), .string ⟨#[105, 110, 95, 110, 97, 118]⟩, .string (F 9), .string ⟨#[105, 110, 95, 115, 104, 97, 114, 101, 115]⟩, .string (F 10)] 31) := by
  generalize F 0 = f0, F 1 = f1, F 2 = f2, F 3 = f3, F 4 = f4, F 5 = f5, F 6 = f6, F 7 = f7, F 8 = f8, F 9 = f9, F 10 = f10
  go_enter Try.func10, Try.ntmps10
  go_wp2
  go_ret
  exact ⟨rfl, rfl⟩

theorem lit_get (F : Nat → ByteArray) : ∀ k, k < 11 → (#[.string (F 0), .string (F 1), .string (F 2), .string (F 3), .string (F 4), .string (F 5), .string (F 6), .string (F 7), .string (F 8), .string (F 9), .string (F 10)] : Array Value)[k]? = some (.string (F k)) := by
  intro k hk
  rcases (show k = 0 ∨ k = 1 ∨ k = 2 ∨ k = 3 ∨ k = 4 ∨ k = 5 ∨ k = 6 ∨ k = 7 ∨ k = 8 ∨ k = 9 ∨ k = 10 from by omega) with rfl | rfl | rfl | rfl | rfl | rfl | rfl | rfl | rfl | rfl | rfl <;> rfl

/-- what a slice of figures in block b holds -/
def Figs (b : Nat) (F : Nat → ByteArray) (w : World) : Prop := ∀ j, j < 11 → w.cell? ⟨b, j * 2, none⟩ = some (.string (names.getD j ByteArray.empty)) ∧ w.cell? ⟨b, j * 2 + 1, none⟩ = some (.string (F j))

theorem figAny (F : Nat → ByteArray) (w : World) :
    Calls Try.prog 10 #[.agg #[.string (F 0), .string (F 1), .string (F 2), .string (F 3), .string (F 4), .string (F 5), .string (F 6), .string (F 7), .string (F 8), .string (F 9), .string (F 10)]] w fun e w' => e = .returned (.slice (some ⟨w.heap.size + 1, 0, none⟩) 11 11) ∧ Figs (w.heap.size + 1) F w' ∧ Below w.heap.size w w' ∧ w'.heap.size = w.heap.size + 2 := by
  refine (figCalls F w).mono ?_
  rintro e w' ⟨rfl, rfl⟩
  refine ⟨rfl, fun j hj => ?_, ((Below.refl _ _).alloc (Nat.le_refl _) _).alloc (by simp) _, by simp⟩
  have e1 : w.heap.size + 1 = (w.alloc (.cells #[.string (F 0), .string (F 1), .string (F 2), .string (F 3), .string (F 4), .string (F 5), .string (F 6), .string (F 7), .string (F 8), .string (F 9), .string (F 10)] 26)).heap.size := by simp
  rw [e1]
  rcases (show j = 0 ∨ j = 1 ∨ j = 2 ∨ j = 3 ∨ j = 4 ∨ j = 5 ∨ j = 6 ∨ j = 7 ∨ j = 8 ∨ j = 9 ∨ j = 10 from by omega) with rfl | rfl | rfl | rfl | rfl | rfl | rfl | rfl | rfl | rfl | rfl <;> exact ⟨cell_box _ _ _ _ _ rfl, cell_box _ _ _ _ _ rfl⟩
end Sw

namespace Su
set_option maxHeartbeats 400000 in
theorem bytesAny (cs : Array Value) (F : Nat → ByteArray) (hcs : ∀ k, k < 7 → cs[k]? = some (.string (F k))) (k : Int) (v : ByteArray) (w : World) :
    Calls Try.prog 21 #[.agg cs, .int .i64 k, .string v] w fun e w' => AnyBool e ∧ ∃ o, w' = w.alloc o := by
  have hcell := fun k hk => cell_box w cs 40 k _ (hcs k hk)
  clear hcs
  go_enter Try.func21, Try.ntmps21
  go_wp2
  go_loop [7, 8] (fun n i => ∃ k : Nat, k ≤ 7 ∧ i = .int .i64 k ∧ ∃ m : Int, n = .int .i64 m) (fun _ i => 7 - (intOf i).toNat)
  case atStart => exact ⟨0, Nat.zero_le _, rfl, 0, rfl⟩
  case round =>
    obtain ⟨j, hj, rfl, m, rfl⟩ := hrel
    by_cases hlt : j < 7
    · have hc := hcell j hlt
      clear hcell
      go_wp2
      case roundEnd =>
        go_round
        case rel => exact ⟨j + 1, by omega, by go_num, _, rfl⟩
        case measure => simp [intOf]; omega
      all_goals
        go_ret
        exact ⟨⟨_, rfl⟩, _, rfl⟩
    · go_wp2
      all_goals
        go_ret
        exact ⟨⟨_, rfl⟩, _, rfl⟩

set_option maxHeartbeats 400000 in
theorem ofCalls (F : Nat → ByteArray) (w : World) :
    Calls Try.prog 19 #[.agg #[.string (F 0), .string (F 1), .string (F 2), .string (F 3), .string (F 4), .string (F 5), .string (F 6)]] w fun e w' => e = .returned (.agg #[.string (F 0), .string (F 1), .string (F 2), .string (F 3), .string (F 4), .string (F 5), .string (F 6)]) ∧ Below w.heap.size w w' := by
  generalize F 0 = f0, F 1 = f1, F 2 = f2, F 3 = f3, F 4 = f4, F 5 = f5, F 6 = f6
  go_enter Try.func19, Try.ntmps19
  go_wp2
  exact bodyPost_ret (v := .agg #[.string f0, .string f1, .string f2, .string f3, .string f4, .string f5, .string f6]) (by simp [results, Try.results19, go_sem]) rfl ⟨rfl, ((Below.refl _ _).alloc (Nat.le_refl _) _).alloc (by simp) _⟩

/-- the figures' names, in order -/
def names : List ByteArray := [⟨#[103, 114, 111, 115, 115, 95, 97, 109, 111, 117, 110, 116]⟩, ⟨#[102, 101, 101, 95, 114, 117, 108, 101]⟩, ⟨#[110, 101, 116, 95, 97, 109, 111, 117, 110, 116]⟩, ⟨#[102, 101, 101]⟩, ⟨#[105, 110, 116, 101, 114, 101, 115, 116]⟩, ⟨#[112, 97, 114]⟩, ⟨#[115, 104, 97, 114, 101, 115]⟩]

set_option maxHeartbeats 400000 in
theorem figCalls (F : Nat → ByteArray) (w : World) :
    Calls Try.prog 20 #[.agg #[.string (F 0), .string (F 1), .string (F 2), .string (F 3), .string (F 4), .string (F 5), .string (F 6)]] w fun e w' => e = .returned (.slice (some ⟨w.heap.size + 1, 0, none⟩) 7 7) ∧ w' = (w.alloc (.cells #[.string (F 0), .string (F 1), .string (F 2), .string (F 3), .string (F 4), .string (F 5), .string (F 6)] 43)).alloc (.cells #[.string ⟨#[103, 114, 111, 115, 115, 95, 97, 109, 111, 117, 110, 116]⟩, .string (F 0), .string ⟨#[102, 101, 101, 95, 114, 117, 108, 101]⟩, .string (F 1), .string ⟨#[110, 101, 116, 95, 97, 109, 111, 117, 110, 116]⟩, .string (F 2), .string ⟨#[102, 101, 101]⟩, .string (F 3), .string ⟨#[105, 110, 116, 101, 114, 101, 115, 116]⟩, .string (F 4), .string ⟨#[112, 97, 114]⟩, .string (F 5), .string ⟨#[115, 104, 97, 114, 101, 115]⟩, .string (F 6)] 31) := by
  generalize F 0 = f0, F 1 = f1, F 2 = f2, F 3 = f3, F 4 = f4, F 5 = f5, F 6 = f6
  go_enter Try.func20, Try.ntmps20
  go_wp2
  go_ret
  exact ⟨rfl, rfl⟩

theorem lit_get (F : Nat → ByteArray) : ∀ k, k < 7 → (#[.string (F 0), .string (F 1), .string (F 2), .string (F 3), .string (F 4), .string (F 5), .string (F 6)] : Array Value)[k]? = some (.string (F k)) := by
  intro k hk
  rcases (show k = 0 ∨ k = 1 ∨ k = 2 ∨ k = 3 ∨ k = 4 ∨ k = 5 ∨ k = 6 from by omega) with rfl | rfl | rfl | rfl | rfl | rfl | rfl <;> rfl

/-- what a slice of figures in block b holds -/
def Figs (b : Nat) (F : Nat → ByteArray) (w : World) : Prop := ∀ j, j < 7 → w.cell? ⟨b, j * 2, none⟩ = some (.string (names.getD j ByteArray.empty)) ∧ w.cell? ⟨b, j * 2 + 1, none⟩ = some (.string (F j))

theorem figAny (F : Nat → ByteArray) (w : World) :
    Calls Try.prog 20 #[.agg #[.string (F 0), .string (F 1), .string (F 2), .string (F 3), .string (F 4), .string (F 5), .string (F 6)]] w fun e w' => e = .returned (.slice (some ⟨w.heap.size + 1, 0, none⟩) 7 7) ∧ Figs (w.heap.size + 1) F w' ∧ Below w.heap.size w w' ∧ w'.heap.size = w.heap.size + 2 := by
  refine (figCalls F w).mono ?_
  rintro e w' ⟨rfl, rfl⟩
  refine ⟨rfl, fun j hj => ?_, ((Below.refl _ _).alloc (Nat.le_refl _) _).alloc (by simp) _, by simp⟩
  have e1 : w.heap.size + 1 = (w.alloc (.cells #[.string (F 0), .string (F 1), .string (F 2), .string (F 3), .string (F 4), .string (F 5), .string (F 6)] 43)).heap.size := by simp
  rw [e1]
  rcases (show j = 0 ∨ j = 1 ∨ j = 2 ∨ j = 3 ∨ j = 4 ∨ j = 5 ∨ j = 6 from by omega) with rfl | rfl | rfl | rfl | rfl | rfl | rfl <;> exact ⟨cell_box _ _ _ _ _ rfl, cell_box _ _ _ _ _ rfl⟩
end Su
end Go.Proofs.Qxb6617248a
