import Derived.Test.Qxb6617296aDoorParse
import Derived.Test.Qxb6617296aDoorShelf
import Derived.Lib.Walk
import Derived.Lib.IfaceEq
import Derived.RegionTactic
import Derived.Deep.RegionWith
import Derived.BigCall
namespace Go.Proofs.Qxb6617296aDoor
open Go.RowKit

theorem Tryd.byteInfo : (Tryd.prog.info? 5).map (fun i => (i.zero, i.size, i.bytes)) = some (some (.int .u8 0), 1, 1) := by kernel_rfl
theorem Tryd.comp44 : (Tryd.prog.info? 44).map (·.comparable) = some true := by kernel_rfl

set_option maxHeartbeats 6400000 in
set_option maxRecDepth 100000 in
theorem synErr25 (fn s : ByteArray) (te : TypeId) (pe : Value) (w : World) (hlim : s.size ≤ 281474976710656) (hv : w.cell? ⟨0, 0, none⟩ = some (.iface te pe)) :
    Calls Tryd.prog 25 #[.string fn, .string s] w fun e w' => ∃ a, e = .returned (.pointer (some a)) ∧ Below w.heap.size w w' := by
  have hG : 0 < w.heap.size := Lib.lt_of_cell hv
  have hvd : w.drew.cell? ⟨0, 0, none⟩ = some (.iface te pe) := hv
  go_enter Tryd.func25, Tryd.ntmps25
  go_wp2
  go_region_with (
      go_at_call 30
      refine (clone30 s _ hlim).mono ?_
      rintro e w2 ⟨rfl, hbel⟩
      have hv2 : w2.cell? ⟨0, 0, none⟩ = some (.iface te pe) := (hbel.cell (show (⟨0, 0, none⟩ : Addr).block < w.drew.heap.size from hG)).trans hvd)
  all_goals (
    go_wp2
    go_ret
    have hs2 : w.heap.size ≤ w2.heap.size := hbel.size
    exact ⟨_, rfl, ((Below.drew (Below.refl _ w)).trans hbel).alloc hs2 _⟩)

set_option maxHeartbeats 6400000 in
set_option maxRecDepth 100000 in
theorem rangeErr26 (fn s : ByteArray) (te : TypeId) (pe : Value) (w : World) (hlim : s.size ≤ 281474976710656) (hv : w.cell? ⟨1, 0, none⟩ = some (.iface te pe)) :
    Calls Tryd.prog 26 #[.string fn, .string s] w fun e w' => ∃ a, e = .returned (.pointer (some a)) ∧ Below w.heap.size w w' := by
  have hG : 1 < w.heap.size := Lib.lt_of_cell hv
  have hvd : w.drew.cell? ⟨1, 0, none⟩ = some (.iface te pe) := hv
  go_enter Tryd.func26, Tryd.ntmps26
  go_wp2
  go_region_with (
      go_at_call 30
      refine (clone30 s _ hlim).mono ?_
      rintro e w2 ⟨rfl, hbel⟩
      have hv2 : w2.cell? ⟨1, 0, none⟩ = some (.iface te pe) := (hbel.cell (show (⟨1, 0, none⟩ : Addr).block < w.drew.heap.size from hG)).trans hvd)
  all_goals (
    go_wp2
    go_ret
    have hs2 : w.heap.size ≤ w2.heap.size := hbel.size
    exact ⟨_, rfl, ((Below.drew (Below.refl _ w)).trans hbel).alloc hs2 _⟩)

/-- an error that is not nil is handed back -/
def IsErr (e : Ending) : Prop := ∃ a, e = .returned (.iface 46 (.pointer (some a)))

set_option maxHeartbeats 4000000 in
set_option maxRecDepth 100000 in
theorem toErr21 (fn s : ByteArray) (base bits c : Int) (hc : c = 1 ∨ c = 2) (te0 te1 : TypeId) (pe0 pe1 : Value) (w : World) (hlim : s.size ≤ 281474976710656)
    (hv0 : w.cell? ⟨0, 0, none⟩ = some (.iface te0 pe0)) (hv1 : w.cell? ⟨1, 0, none⟩ = some (.iface te1 pe1)) :
    Calls Tryd.prog 21 #[.string fn, .string s, .int .i64 base, .int .i64 bits, .iface 44 (.int .i64 c)] w fun e w' => IsErr e ∧ Below w.heap.size w w' := by
  have heq : ∀ W (a b : Int), (binOp .eql 37 (.iface 44 (.int .i64 a)) (.iface 44 (.int .i64 b))).run Tryd.prog W = .ok (.bool (a == b)) W := fun W a b => Lib.run_eql_iface_int W a b Tryd.underlying37 Tryd.comp44 Tryd.underlying44
  rcases hc with rfl | rfl
  · go_enter Tryd.func21, Tryd.ntmps21
    go_wp2_with (go_at_call 26; refine (rangeErr26 fn s te1 pe1 _ hlim hv1).mono ?_)
    rintro e w2 ⟨a, rfl, hb⟩
    go_wp2
    go_ret
    exact ⟨⟨a, rfl⟩, hb⟩
  · go_enter Tryd.func21, Tryd.ntmps21
    go_wp2_with (go_at_call 25; refine (synErr25 fn s te0 pe0 _ hlim hv0).mono ?_)
    rintro e w2 ⟨a, rfl, hb⟩
    go_wp2
    go_ret
    exact ⟨⟨a, rfl⟩, hb⟩

/-- how strconv.ParseUint ends at three bytes, base 8, 8 bits -/
def Pu2 (C : Nat → Int) (e : Ending) : Prop :=
  (Valid C ∧ e = .returned (.tuple #[.int .u64 (val C), .nilIface])) ∨ (¬ Valid C ∧ ∃ x a, e = .returned (.tuple #[.int .u64 x, .iface 46 (.pointer (some a))]))

set_option maxHeartbeats 4000000 in
set_option maxRecDepth 100000 in
theorem parse17 (s : ByteArray) (C : Nat → Int) (hs : s.size = 3) (hC : ∀ j, j < 3 → C j = ((s.data.toList.getD j 0).toNat : Int)) (te0 te1 : TypeId) (pe0 pe1 : Value) (w : World)
    (hv0 : w.cell? ⟨0, 0, none⟩ = some (.iface te0 pe0)) (hv1 : w.cell? ⟨1, 0, none⟩ = some (.iface te1 pe1)) :
    Calls Tryd.prog 17 #[.string s, .int .i64 8, .int .i64 8] w fun e w' => Pu2 C e ∧ Below w.heap.size w w' := by
  have HC := Hid.out (p := ∀ j, j < 3 → C j = ((s.data.toList.getD j 0).toNat : Int)) hC
  go_enter Tryd.func17, Tryd.ntmps17
  go_wp2_with fail
  refine (parse20 s C hs hC _).mono ?_
  clear HC hC
  rintro e w1 ⟨hpu, hb⟩
  rcases hpu with ⟨hV, rfl⟩ | ⟨hV, x, c, hc, rfl⟩
  · have HV : Hid (Valid C) := hV
    clear hV
    go_wp2
    go_ret2
    exact ⟨Or.inl ⟨HV.out, rfl⟩, hb⟩
  · have HV : Hid (¬ Valid C) := hV
    have e0 : w1.cell? ⟨0, 0, none⟩ = some (.iface te0 pe0) := (hb.cell (show (⟨0, 0, none⟩ : Addr).block < w.heap.size from Lib.lt_of_cell hv0)).trans hv0
    have e1 : w1.cell? ⟨1, 0, none⟩ = some (.iface te1 pe1) := (hb.cell (show (⟨1, 0, none⟩ : Addr).block < w.heap.size from Lib.lt_of_cell hv1)).trans hv1
    have hz := hb.size
    clear hV
    go_wp2_with (go_at_call 21; refine (toErr21 _ s _ _ c hc te0 te1 pe0 pe1 _ (by omega) e0 e1).mono ?_)
    rintro e w2 ⟨⟨a, rfl⟩, hb2⟩
    go_wp2
    go_ret2
    exact ⟨Or.inr ⟨HV.out, x, a, rfl⟩, hb.trans (hb2.mono hz)⟩
end Go.Proofs.Qxb6617296aDoor
