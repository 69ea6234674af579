import Derived.Test.Qxb6617296aDoorMangle
namespace Go.Proofs.Qxb6617296aDoor
open Go.RowKit Plain

/-- some bool is handed back -/
def AnyBool (e : Ending) : Prop := ∃ b, e = .returned (.bool b)

theorem bytes9 (p : ByteArray) (all : Bool) (w : World) (hp : p.size ≤ maxLen) : Calls Tryd.prog 9 #[.string p, .bool all] w fun e w' => AnyBool e ∧ w' = w := by
  unfold maxLen at hp
  go_enter Tryd.func9, Tryd.ntmps9
  go_wp2
  all_goals
    go_ret
    exact ⟨⟨_, rfl⟩, rfl⟩

theorem mangle10 (p : ByteArray) (all : Bool) (hs : p.size ≤ 262144) (w : World) :
    Calls Tryd.prog 10 #[.string p, .bool all] w fun e w' => e = .returned (.string ⟨(mangle all p.data.toList).toArray⟩) ∧ Below w.heap.size w w' := by
  cases all
  · exact mangleF p hs w
  · exact mangleT p hs w

theorem back (all : Bool) (p : ByteArray) : (⟨(un 0 (⟨(mangle all p.data.toList).toArray⟩ : ByteArray).data.toList).toArray⟩ : ByteArray) = p := by
  have e : (⟨(mangle all p.data.toList).toArray⟩ : ByteArray).data.toList = mangle all p.data.toList := List.toList_toArray
  rw [e, un_mangle]

set_option maxHeartbeats 1000000 in
theorem undoWalk (p : ByteArray) (all : Bool) (te0 te1 : TypeId) (pe0 pe1 : Value) (w : World) (hp : p.size ≤ maxLen)
    (hv0 : w.cell? ⟨0, 0, none⟩ = some (.iface te0 pe0)) (hv1 : w.cell? ⟨1, 0, none⟩ = some (.iface te1 pe1)) :
    Calls Tryd.prog 4 #[.string p, .bool all] w fun e w' => e = .returned (.bool true) ∧ Below w.heap.size w w' := by
  have hpm : p.size ≤ 9223372036854775807 := by unfold maxLen at hp; omega
  have HV0 := hid hv0
  have HV1 := hid hv1
  have g0 : 0 < w.heap.size := Lib.lt_of_cell hv0
  have g1 : 1 < w.heap.size := Lib.lt_of_cell hv1
  clear hv0 hv1
  go_enter Tryd.func4, Tryd.ntmps4
  go_wp2_with fail
  refine (bytes9 p all w hp).mono ?_
  rintro e w1 ⟨⟨bb, rfl⟩, rfl⟩
  cases bb
  · go_wp2
    go_ret
    exact ⟨rfl, Below.refl _ _⟩
  by_cases hl : 262144 < p.size
  · go_wp2
    go_ret
    exact ⟨rfl, Below.refl _ _⟩
  go_wp2_with fail
  refine (mangle10 p all (by omega) _).mono ?_
  rintro e w2 ⟨rfl, b2⟩
  have hz2 := b2.size
  have k0 : w2.cell? ⟨0, 0, none⟩ = some (.iface te0 pe0) := (b2.cell (show (⟨0, 0, none⟩ : Addr).block < w1.heap.size from g0)).trans HV0.out
  have k1 : w2.cell? ⟨1, 0, none⟩ = some (.iface te1 pe1) := (b2.cell (show (⟨1, 0, none⟩ : Addr).block < w1.heap.size from g1)).trans HV1.out
  have hm := mangle_length all p.data.toList
  rw [← Lib.size_eq] at hm
  have HK0 := hid k0
  have HK1 := hid k1
  have HB := hid (back all p)
  have hes : (⟨(mangle all p.data.toList).toArray⟩ : ByteArray).size ≤ 1099511627776 := by
    show (mangle all p.data.toList).toArray.size ≤ _
    rw [List.size_toArray]; omega
  clear k0 k1 hm
  generalize (⟨(mangle all p.data.toList).toArray⟩ : ByteArray) = es at *
  go_wp2_with fail
  refine (zzUnescape7 es hes te0 te1 pe0 pe1 _ HK0.out HK1.out).mono ?_
  rintro e w3 ⟨rfl, b3⟩
  rw [HB.out]
  have hb3 : Below w1.heap.size w1 w3 := b2.trans (b3.mono hz2)
  clear b2 b3 HB HK0 HK1 hes
  go_wp2
  go_ret
  exact ⟨rfl, hb3⟩
end Go.Proofs.Qxb6617296aDoor
