import Derived.Test.Qxb6617296aDoorParse
import Derived.Lib.Walk
import Derived.Lib.BufferWrite
import Derived.Lib.UnsafeStr
import Derived.Lib.IfaceEq
import Derived.Laws.MakeOwn
import Derived.RegionTactic
import Derived.Deep.RegionWith
import Derived.BigCall
namespace Go.Proofs.Qxb6617296aDoor
open Go.RowKit

theorem Tryd.byteInfo : (Tryd.prog.info? 5).map (fun i => (i.zero, i.size, i.bytes)) = some (some (.int .u8 0), 1, 1) := by kernel_rfl
theorem Tryd.byteCells : Tryd.prog.cellsOf 5 = 1 := by kernel_rfl
theorem Tryd.comp44 : (Tryd.prog.info? 44).map (·.comparable) = some true := by kernel_rfl

set_option maxHeartbeats 4000000 in
set_option maxRecDepth 100000 in
/-- a copy of the string: the same bytes -/
theorem clone30 (s : ByteArray) (w : World) (h0 : s.size ≠ 0) (hlim : s.size ≤ 281474976710656) :
    Calls Tryd.prog 30 #[.string s] w fun e w' => e = .returned (.string s) ∧ Below w.heap.size w w' := by
  obtain ⟨i0, hi, hz0, hz1, hz2⟩ := info_parts Tryd.byteInfo
  have hinfo : (Tryd.prog.info? 5).map (·.size) = some 1 := by rw [hi]; simp [hz1]
  obtain ⟨M, hM⟩ : ∃ M, M = madeCells (Value.int .u8 0).cells (((s.size : Nat) : Int).toNat * i0.size) := ⟨_, rfl⟩
  have hMs : M.size = s.size := by rw [hM, size_madeCells, hz1]; simp
  have hmk : ∀ W : World, (Instr.makeSlice 29 (.int .i64 (s.size : Int)) (.int .i64 (s.size : Int))).run Tryd.prog W = .ok (.slice (some ⟨W.heap.size, 0, none⟩) s.size s.size) (W.alloc (.cells M 5)) := fun W => by
    have h := run_make (P := Tryd.prog) W 29 5 i0 (.int .u8 0) Tryd.underlying29 hi hz0 .i64 .i64 (s.size : Int) (s.size : Int) (by omega) (by omega) (by rw [hz2]; omega) (by omega)
    rw [← hM] at h
    simpa using h
  clear hM
  have hcp := Lib.run_copy_row_string (P := Tryd.prog) (w.alloc (.cells M 5)) 29 9 3 5 w.heap.size 0 s.size s.size s M 5 Tryd.underlying29 hinfo (heap_alloc_new w _) (Nat.le_refl _) (by omega)
  obtain ⟨Y, hY⟩ : ∃ Y, Y = (M.toList.take 0 ++ Lib.byteCells s.data.toList ++ M.toList.drop (0 + s.size)).toArray := ⟨_, rfl⟩
  rw [← hY] at hcp
  have hYl : Y.toList = Lib.byteCells s.data.toList := by
    rw [hY, List.toList_toArray, List.take_zero, List.nil_append, List.drop_of_length_le (by rw [Array.length_toList]; omega), List.append_nil]
  have hYs : Y.size = s.size := by rw [← Array.length_toList, hYl, Lib.byteCells_length, ← Lib.size_eq]
  have hgY : ((w.alloc (.cells M 5)).setRow w.heap.size Y).heap[w.heap.size]? = some (.cells Y 5 (0, 0)) := setRow_heap _ _ M _ 5 (0, 0) (heap_alloc_new w _)
  have hne : s.data.toList ≠ [] := fun e => h0 (by rw [Lib.size_eq, e]; rfl)
  have hUS := Lib.run_unsafeString_row (P := Tryd.prog) ((w.alloc (.cells M 5)).setRow w.heap.size Y) 43 3 9 5 Tryd.underlying43 Tryd.byteCells w.heap.size Y.size (by unfold World.shape?; rw [hgY]) s.data.toList hne (by rw [← Lib.size_eq]; omega) (by rw [← Lib.size_eq]; omega)
    (fun j x hx => Lib.cells_of_row hgY Y.size j _ (by rw [List.take_of_length_le (by rw [Array.length_toList]; exact Nat.le_refl _), hYl]; simp [Lib.byteCells, hx]))
  rw [← Lib.size_eq] at hUS
  clear hY
  have hb1 : Below w.heap.size w (w.alloc (.cells M 5)) := (Below.refl _ w).alloc (Nat.le_refl _) _
  have hb2 : Below w.heap.size (w.alloc (.cells M 5)) ((w.alloc (.cells M 5)).setRow w.heap.size Y) := ⟨rfl, rfl, rfl, by simp, fun k hk => setRow_other _ _ _ _ (by omega)⟩
  have hb3 := Lib.below_freeze (hb1.trans hb2) (p := ⟨w.heap.size, 0, none⟩) (Nat.le_refl _) s.size
  clear hb1 hb2
  go_enter Tryd.func30, Tryd.ntmps30
  go_wp2
  go_ret
  exact ⟨rfl, hb3⟩

set_option maxHeartbeats 6400000 in
set_option maxRecDepth 100000 in
theorem syntaxErr25 (fn s : ByteArray) (te : TypeId) (pe : Value) (w : World) (h0 : s.size ≠ 0) (hlim : s.size ≤ 281474976710656) (hv : w.cell? ⟨0, 0, none⟩ = some (.iface te pe)) :
    Calls Tryd.prog 25 #[.string fn, .string s] w fun e w' => ∃ a, e = .returned (.pointer (some a)) ∧ Below w.heap.size w w' := by
  have hG : 0 < w.heap.size := Lib.lt_of_cell hv
  have hvd : w.drew.cell? ⟨0, 0, none⟩ = some (.iface te pe) := hv
  go_enter Tryd.func25, Tryd.ntmps25
  go_wp2
  go_region_with (
      go_at_call 30
      refine (clone30 s _ h0 hlim).mono ?_
      rintro e w2 ⟨rfl, hbel⟩
      have hv2 : w2.cell? ⟨0, 0, none⟩ = some (.iface te pe) := (hbel.cell (show (⟨0, 0, none⟩ : Addr).block < w.drew.heap.size from hG)).trans hvd)
  all_goals (
    go_wp2
    go_ret
    have hs2 : w.heap.size ≤ w2.heap.size := hbel.size
    exact ⟨_, rfl, ((Below.drew (Below.refl _ w)).trans hbel).alloc hs2 _⟩)

set_option maxHeartbeats 6400000 in
set_option maxRecDepth 100000 in
theorem rangeErr26 (fn s : ByteArray) (te : TypeId) (pe : Value) (w : World) (h0 : s.size ≠ 0) (hlim : s.size ≤ 281474976710656) (hv : w.cell? ⟨1, 0, none⟩ = some (.iface te pe)) :
    Calls Tryd.prog 26 #[.string fn, .string s] w fun e w' => ∃ a, e = .returned (.pointer (some a)) ∧ Below w.heap.size w w' := by
  have hG : 1 < w.heap.size := Lib.lt_of_cell hv
  have hvd : w.drew.cell? ⟨1, 0, none⟩ = some (.iface te pe) := hv
  go_enter Tryd.func26, Tryd.ntmps26
  go_wp2
  go_region_with (
      go_at_call 30
      refine (clone30 s _ h0 hlim).mono ?_
      rintro e w2 ⟨rfl, hbel⟩
      have hv2 : w2.cell? ⟨1, 0, none⟩ = some (.iface te pe) := (hbel.cell (show (⟨1, 0, none⟩ : Addr).block < w.drew.heap.size from hG)).trans hvd)
  all_goals (
    go_wp2
    go_ret
    have hs2 : w.heap.size ≤ w2.heap.size := hbel.size
    exact ⟨_, rfl, ((Below.drew (Below.refl _ w)).trans hbel).alloc hs2 _⟩)

/-- an error that is not nil is handed back -/
def IsErr (e : Ending) : Prop := ∃ a, e = .returned (.iface 46 (.pointer (some a)))

set_option maxHeartbeats 4000000 in
set_option maxRecDepth 100000 in
theorem toErr21 (fn s : ByteArray) (base bits c : Int) (hc : c = 1 ∨ c = 2) (te0 te1 : TypeId) (pe0 pe1 : Value) (w : World) (h0 : s.size ≠ 0) (hlim : s.size ≤ 281474976710656)
    (hv0 : w.cell? ⟨0, 0, none⟩ = some (.iface te0 pe0)) (hv1 : w.cell? ⟨1, 0, none⟩ = some (.iface te1 pe1)) :
    Calls Tryd.prog 21 #[.string fn, .string s, .int .i64 base, .int .i64 bits, .iface 44 (.int .i64 c)] w fun e w' => IsErr e ∧ Below w.heap.size w w' := by
  have heq : ∀ W (a b : Int), (binOp .eql 37 (.iface 44 (.int .i64 a)) (.iface 44 (.int .i64 b))).run Tryd.prog W = .ok (.bool (a == b)) W := fun W a b => Lib.run_eql_iface_int W a b Tryd.underlying37 Tryd.comp44 Tryd.underlying44
  rcases hc with rfl | rfl
  · go_enter Tryd.func21, Tryd.ntmps21
    go_wp2_with (go_at_call 26; refine (rangeErr26 fn s te1 pe1 _ h0 hlim hv1).mono ?_)
    rintro e w2 ⟨a, rfl, hb⟩
    go_wp2
    go_ret
    exact ⟨⟨a, rfl⟩, hb⟩
  · go_enter Tryd.func21, Tryd.ntmps21
    go_wp2_with (go_at_call 25; refine (syntaxErr25 fn s te0 pe0 _ h0 hlim hv0).mono ?_)
    rintro e w2 ⟨a, rfl, hb⟩
    go_wp2
    go_ret
    exact ⟨⟨a, rfl⟩, hb⟩

/-- how strconv.ParseUint ends at three bytes, base 8, 8 bits -/
def Pu2 (C : Nat → Int) (e : Ending) : Prop :=
  (Valid C ∧ e = .returned (.tuple #[.int .u64 (val C), .nilIface])) ∨ (¬ Valid C ∧ ∃ x a, e = .returned (.tuple #[.int .u64 x, .iface 46 (.pointer (some a))]))

set_option maxHeartbeats 4000000 in
set_option maxRecDepth 100000 in
theorem parse17 (s : ByteArray) (C : Nat → Int) (hs : s.size = 3) (hC : ∀ j, j < 3 → C j = ((s.data.toList.getD j 0).toNat : Int)) (te0 te1 : TypeId) (pe0 pe1 : Value) (w : World)
    (hv0 : w.cell? ⟨0, 0, none⟩ = some (.iface te0 pe0)) (hv1 : w.cell? ⟨1, 0, none⟩ = some (.iface te1 pe1)) :
    Calls Tryd.prog 17 #[.string s, .int .i64 8, .int .i64 8] w fun e w' => Pu2 C e ∧ Below w.heap.size w w' := by
  have HC := Hid.out (p := ∀ j, j < 3 → C j = ((s.data.toList.getD j 0).toNat : Int)) hC
  go_enter Tryd.func17, Tryd.ntmps17
  go_wp2_with fail
  refine (parse20 s C hs hC _).mono ?_
  clear HC hC
  rintro e w1 ⟨hpu, hb⟩
  rcases hpu with ⟨hV, rfl⟩ | ⟨hV, x, c, hc, rfl⟩
  · have HV : Hid (Valid C) := hV
    clear hV
    go_wp2
    go_ret2
    exact ⟨Or.inl ⟨HV.out, rfl⟩, hb⟩
  · have HV : Hid (¬ Valid C) := hV
    have e0 : w1.cell? ⟨0, 0, none⟩ = some (.iface te0 pe0) := (hb.cell (show (⟨0, 0, none⟩ : Addr).block < w.heap.size from Lib.lt_of_cell hv0)).trans hv0
    have e1 : w1.cell? ⟨1, 0, none⟩ = some (.iface te1 pe1) := (hb.cell (show (⟨1, 0, none⟩ : Addr).block < w.heap.size from Lib.lt_of_cell hv1)).trans hv1
    have hz := hb.size
    clear hV
    go_wp2_with (go_at_call 21; refine (toErr21 _ s _ _ c hc te0 te1 pe0 pe1 _ (by omega) (by omega) e0 e1).mono ?_)
    rintro e w2 ⟨⟨a, rfl⟩, hb2⟩
    go_wp2
    go_ret2
    exact ⟨Or.inr ⟨HV.out, x, a, rfl⟩, hb.trans (hb2.mono hz)⟩
end Go.Proofs.Qxb6617296aDoor
