import Derived.Test.Qxb6617248aWalkA
import Derived.Test.Qxb6617248aWalkB
namespace Go.Proofs.Qxb6617248a
open Go.RowKit

theorem bcell {B : Nat} {w w' : World} (h : Below B w w') {b : Nat} (hb : b < B) (o : Nat) : w'.cell? ⟨b, o, none⟩ = w.cell? ⟨b, o, none⟩ := h.cell (p := ⟨b, o, none⟩) hb

/-- F with place k set to v -/
def upd (F : Nat → ByteArray) (k : Nat) (v : ByteArray) (j : Nat) : ByteArray := if j = k then v else F j

theorem byteOk_of {s : ByteArray} (h : s.data.all (fun c => c != 58 && c != 32 && c != 9 && c != 10 && c != 13) = true) : ByteOk s := by
  intro j hj
  rw [Array.all_eq_true] at h
  have := h j hj
  simp only [Bool.and_eq_true, bne_iff_ne] at this
  obtain ⟨⟨⟨⟨a1, a2⟩, a3⟩, a4⟩, a5⟩ := this
  have key : ∀ (c : UInt8) (m : UInt8), c ≠ m → (((c.toNat : Int)) == (m.toNat : Int)) = false := by
    intro c m hne
    rw [beq_eq_false_iff_ne]
    intro e
    exact hne (UInt8.toNat_inj.mp (by omega))
  exact ⟨key _ 58 a1, key _ 32 a2, key _ 9 a3, key _ 10 a4, key _ 13 a5⟩

namespace Sw
theorem lst_get (F : Nat → ByteArray) (k : Nat) (v : ByteArray) (j : Nat) (hj : j < 11) : ((([.string (F 0), .string (F 1), .string (F 2), .string (F 3), .string (F 4), .string (F 5), .string (F 6), .string (F 7), .string (F 8), .string (F 9), .string (F 10)] : List Value).set k (.string v)).toArray)[j]? = some (.string (upd F k v j)) := by
  rw [List.getElem?_toArray, List.getElem?_set]
  unfold upd
  by_cases h : k = j
  · subst h
    rw [if_pos rfl, if_pos rfl]
    simp [hj]
  · rw [if_neg h, if_neg (by omega)]
    rcases (show j = 0 ∨ j = 1 ∨ j = 2 ∨ j = 3 ∨ j = 4 ∨ j = 5 ∨ j = 6 ∨ j = 7 ∨ j = 8 ∨ j = 9 ∨ j = 10 from by omega) with rfl | rfl | rfl | rfl | rfl | rfl | rfl | rfl | rfl | rfl | rfl <;> rfl

theorem startFacts (w : World) (cs : Array Value) (F : Nat → ByteArray) (k : Nat) (v : ByteArray) (o : Obj) (hsz : cs.size = 11) (hget : ∀ j (h : j < cs.size), cs[j] = .string (F j)) :
    (∀ j, j < 11 → (((w.alloc (.cells cs 22)).alloc o).alloc (.cells (([.string (F 0), .string (F 1), .string (F 2), .string (F 3), .string (F 4), .string (F 5), .string (F 6), .string (F 7), .string (F 8), .string (F 9), .string (F 10)] : List Value).set k (.string v)).toArray 22)).cell? ⟨w.heap.size, j, none⟩ = some (.string (F j))) ∧
    (∀ j, j < 11 → (((w.alloc (.cells cs 22)).alloc o).alloc (.cells (([.string (F 0), .string (F 1), .string (F 2), .string (F 3), .string (F 4), .string (F 5), .string (F 6), .string (F 7), .string (F 8), .string (F 9), .string (F 10)] : List Value).set k (.string v)).toArray 22)).cell? ⟨w.heap.size + 1 + 1, j, none⟩ = some (.string (upd F k v j))) ∧
    Below w.heap.size w (((w.alloc (.cells cs 22)).alloc o).alloc (.cells (([.string (F 0), .string (F 1), .string (F 2), .string (F 3), .string (F 4), .string (F 5), .string (F 6), .string (F 7), .string (F 8), .string (F 9), .string (F 10)] : List Value).set k (.string v)).toArray 22)) ∧
    (((w.alloc (.cells cs 22)).alloc o).alloc (.cells (([.string (F 0), .string (F 1), .string (F 2), .string (F 3), .string (F 4), .string (F 5), .string (F 6), .string (F 7), .string (F 8), .string (F 9), .string (F 10)] : List Value).set k (.string v)).toArray 22)).heap.size = w.heap.size + 3 := by
  have b1 : Below (w.heap.size + 1) (w.alloc (.cells cs 22)) (((w.alloc (.cells cs 22)).alloc o).alloc (.cells (([.string (F 0), .string (F 1), .string (F 2), .string (F 3), .string (F 4), .string (F 5), .string (F 6), .string (F 7), .string (F 8), .string (F 9), .string (F 10)] : List Value).set k (.string v)).toArray 22)) :=
    ((Below.refl _ _).alloc (by simp) _).alloc (by simp) _
  refine ⟨fun j hj => ?_, fun j hj => ?_, (((Below.refl _ _).alloc (Nat.le_refl _) _).alloc (by simp) _).alloc (by simp; omega) _, by simp⟩
  · rw [b1.cell (p := ⟨w.heap.size, j, none⟩) (Nat.lt_succ_self _)]
    refine cell_box w cs 22 j _ ?_
    rw [Array.getElem?_eq_getElem (by omega), hget j (by omega)]
  · have e : w.heap.size + 1 + 1 = ((w.alloc (.cells cs 22)).alloc o).heap.size := by simp
    rw [e]
    exact cell_box _ _ _ _ _ (lst_get F k v j hj)

theorem namesFacts : (∀ k, k < 11 → 0 < (names.getD k ByteArray.empty).size ∧ (names.getD k ByteArray.empty).size ≤ 1000) ∧ (∀ k, k < 11 → ByteOk (names.getD k ByteArray.empty)) ∧
    ∀ i j, i < 11 → j < i → ((names.getD j ByteArray.empty).toList == (names.getD i ByteArray.empty).toList) = false := by
  have h1 : ∀ k : Fin 11, 0 < (names.getD k ByteArray.empty).size ∧ (names.getD k ByteArray.empty).size ≤ 1000 := by decide +kernel
  have h2 : ∀ k : Fin 11, (names.getD k ByteArray.empty).data.all (fun c => c != 58 && c != 32 && c != 9 && c != 10 && c != 13) = true := by decide +kernel
  have h3 : ∀ i j : Fin 11, j.val < i.val → ((names.getD j ByteArray.empty).toList == (names.getD i ByteArray.empty).toList) = false := by decide +kernel
  refine ⟨fun k hk => h1 ⟨k, hk⟩, fun k hk => byteOk_of (h2 ⟨k, hk⟩), fun i j hi hj => h3 ⟨i, hi⟩ ⟨j, by omega⟩ hj⟩
end Sw

namespace Su
theorem lst_get (F : Nat → ByteArray) (k : Nat) (v : ByteArray) (j : Nat) (hj : j < 7) : ((([.string (F 0), .string (F 1), .string (F 2), .string (F 3), .string (F 4), .string (F 5), .string (F 6)] : List Value).set k (.string v)).toArray)[j]? = some (.string (upd F k v j)) := by
  rw [List.getElem?_toArray, List.getElem?_set]
  unfold upd
  by_cases h : k = j
  · subst h
    rw [if_pos rfl, if_pos rfl]
    simp [hj]
  · rw [if_neg h, if_neg (by omega)]
    rcases (show j = 0 ∨ j = 1 ∨ j = 2 ∨ j = 3 ∨ j = 4 ∨ j = 5 ∨ j = 6 from by omega) with rfl | rfl | rfl | rfl | rfl | rfl | rfl <;> rfl

theorem startFacts (w : World) (cs : Array Value) (F : Nat → ByteArray) (k : Nat) (v : ByteArray) (o : Obj) (hsz : cs.size = 7) (hget : ∀ j (h : j < cs.size), cs[j] = .string (F j)) :
    (∀ j, j < 7 → (((w.alloc (.cells cs 40)).alloc o).alloc (.cells (([.string (F 0), .string (F 1), .string (F 2), .string (F 3), .string (F 4), .string (F 5), .string (F 6)] : List Value).set k (.string v)).toArray 40)).cell? ⟨w.heap.size, j, none⟩ = some (.string (F j))) ∧
    (∀ j, j < 7 → (((w.alloc (.cells cs 40)).alloc o).alloc (.cells (([.string (F 0), .string (F 1), .string (F 2), .string (F 3), .string (F 4), .string (F 5), .string (F 6)] : List Value).set k (.string v)).toArray 40)).cell? ⟨w.heap.size + 1 + 1, j, none⟩ = some (.string (upd F k v j))) ∧
    Below w.heap.size w (((w.alloc (.cells cs 40)).alloc o).alloc (.cells (([.string (F 0), .string (F 1), .string (F 2), .string (F 3), .string (F 4), .string (F 5), .string (F 6)] : List Value).set k (.string v)).toArray 40)) ∧
    (((w.alloc (.cells cs 40)).alloc o).alloc (.cells (([.string (F 0), .string (F 1), .string (F 2), .string (F 3), .string (F 4), .string (F 5), .string (F 6)] : List Value).set k (.string v)).toArray 40)).heap.size = w.heap.size + 3 := by
  have b1 : Below (w.heap.size + 1) (w.alloc (.cells cs 40)) (((w.alloc (.cells cs 40)).alloc o).alloc (.cells (([.string (F 0), .string (F 1), .string (F 2), .string (F 3), .string (F 4), .string (F 5), .string (F 6)] : List Value).set k (.string v)).toArray 40)) :=
    ((Below.refl _ _).alloc (by simp) _).alloc (by simp) _
  refine ⟨fun j hj => ?_, fun j hj => ?_, (((Below.refl _ _).alloc (Nat.le_refl _) _).alloc (by simp) _).alloc (by simp; omega) _, by simp⟩
  · rw [b1.cell (p := ⟨w.heap.size, j, none⟩) (Nat.lt_succ_self _)]
    refine cell_box w cs 40 j _ ?_
    rw [Array.getElem?_eq_getElem (by omega), hget j (by omega)]
  · have e : w.heap.size + 1 + 1 = ((w.alloc (.cells cs 40)).alloc o).heap.size := by simp
    rw [e]
    exact cell_box _ _ _ _ _ (lst_get F k v j hj)

theorem namesFacts : (∀ k, k < 7 → 0 < (names.getD k ByteArray.empty).size ∧ (names.getD k ByteArray.empty).size ≤ 1000) ∧ (∀ k, k < 7 → ByteOk (names.getD k ByteArray.empty)) ∧
    ∀ i j, i < 7 → j < i → ((names.getD j ByteArray.empty).toList == (names.getD i ByteArray.empty).toList) = false := by
  have h1 : ∀ k : Fin 7, 0 < (names.getD k ByteArray.empty).size ∧ (names.getD k ByteArray.empty).size ≤ 1000 := by decide +kernel
  have h2 : ∀ k : Fin 7, (names.getD k ByteArray.empty).data.all (fun c => c != 58 && c != 32 && c != 9 && c != 10 && c != 13) = true := by decide +kernel
  have h3 : ∀ i j : Fin 7, j.val < i.val → ((names.getD j ByteArray.empty).toList == (names.getD i ByteArray.empty).toList) = false := by decide +kernel
  refine ⟨fun k hk => h1 ⟨k, hk⟩, fun k hk => byteOk_of (h2 ⟨k, hk⟩), fun i j hi hj => h3 ⟨i, hi⟩ ⟨j, by omega⟩ hj⟩
end Su
end Go.Proofs.Qxb6617248a
