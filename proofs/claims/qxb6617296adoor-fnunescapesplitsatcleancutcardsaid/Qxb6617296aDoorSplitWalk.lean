import Derived.Test.Qxb6617296aDoorEsc
namespace Go.Proofs.Qxb6617296aDoor
open Go.RowKit Plain

/-- some bool is handed back -/
def AnyBool5 (e : Ending) : Prop := ∃ b, e = .returned (.bool b)

theorem bytes11 (a b : ByteArray) (w : World) (ha : a.size ≤ maxLen) (hb : b.size ≤ maxLen) : Calls Tryd.prog 11 #[.string a, .string b] w fun e w' => AnyBool5 e ∧ w' = w := by
  unfold maxLen at ha hb
  go_enter Tryd.func11, Tryd.ntmps11
  go_wp2
  all_goals
    go_ret
    exact ⟨⟨_, rfl⟩, rfl⟩

theorem app_data (a b : ByteArray) : (a ++ b).data.toList = a.data.toList ++ b.data.toList := by
  simp
theorem app_size (a b : ByteArray) : (a ++ b).size = a.size + b.size := ByteArray.size_append

theorem split_eq (a b : ByteArray) (hc : cov (a ++ b).data.toList a.size = false) : (⟨(un 0 (a ++ b).data.toList).toArray⟩ : ByteArray) = ⟨(un 0 a.data.toList).toArray⟩ ++ ⟨(un 0 b.data.toList).toArray⟩ := by
  rw [app_data, Lib.size_eq a] at hc
  rw [app_data, un_app _ _ hc]
  apply ByteArray.ext
  simp

set_option maxHeartbeats 1000000 in
theorem splitWalk (a b : ByteArray) (te0 te1 : TypeId) (pe0 pe1 : Value) (w : World) (ha : a.size ≤ maxLen) (hb : b.size ≤ maxLen)
    (hv0 : w.cell? ⟨0, 0, none⟩ = some (.iface te0 pe0)) (hv1 : w.cell? ⟨1, 0, none⟩ = some (.iface te1 pe1)) :
    Calls Tryd.prog 5 #[.string a, .string b] w fun e w' => e = .returned (.bool true) ∧ Below w.heap.size w w' := by
  have ham : a.size ≤ 9223372036854775807 := by unfold maxLen at ha; omega
  have hbm : b.size ≤ 9223372036854775807 := by unfold maxLen at hb; omega
  have HV0 := hid hv0
  have HV1 := hid hv1
  have g0 : 0 < w.heap.size := Lib.lt_of_cell hv0
  have g1 : 1 < w.heap.size := Lib.lt_of_cell hv1
  clear hv0 hv1
  go_enter Tryd.func5, Tryd.ntmps5
  go_wp2_with fail
  refine (bytes11 a b w ha hb).mono ?_
  rintro e w1 ⟨⟨bb, rfl⟩, rfl⟩
  clear ha hb
  cases bb
  · go_wp2
    go_ret
    exact ⟨rfl, Below.refl _ _⟩
  by_cases hla : 524288 < a.size
  · go_wp2
    go_ret
    exact ⟨rfl, Below.refl _ _⟩
  by_cases hlb : 524288 < b.size
  · go_wp2
    go_ret
    exact ⟨rfl, Below.refl _ _⟩
  go_wp2_with fail
  have HD := hid (app_data a b)
  have hsl := app_size a b
  have CC := hid (fun w => covered12 (a ++ b) a.size w (by omega) (by omega) (by omega))
  have CS := hid (fun (w : World) h0 h1 => zzUnescape7 (a ++ b) (by omega) te0 te1 pe0 pe1 w h0 h1)
  have CA := hid (fun (w : World) h0 h1 => zzUnescape7 a (by omega) te0 te1 pe0 pe1 w h0 h1)
  have CB := hid (fun (w : World) h0 h1 => zzUnescape7 b (by omega) te0 te1 pe0 pe1 w h0 h1)
  have CN := hid (fun w => count13 (a ++ b) w (by omega))
  have HL := hid (un_length (a ++ b).data.toList)
  have HLL := hid (Lib.size_eq (a ++ b))
  have hs0 : (a ++ b).size ≤ 1048576 := by omega
  clear hsl
  refine (CC.out _).mono ?_
  rintro e w2 ⟨rfl, rfl⟩
  clear CC
  have hcc : cov (a ++ b).data.toList a.size = false → (⟨(un 0 (a ++ b).data.toList).toArray⟩ : ByteArray) = ⟨(un 0 a.data.toList).toArray⟩ ++ ⟨(un 0 b.data.toList).toArray⟩ := split_eq a b
  by_cases hc : cov (a ++ b).data.toList a.size = true
  · rw [hc]
    clear hcc hc CS CA CB CN
    generalize a ++ b = s at *
    go_wp2
    go_ret
    exact ⟨rfl, Below.refl _ _⟩
  have hcf : cov (a ++ b).data.toList a.size = false := by simpa using hc
  have heq := hcc hcf
  have hlen : (⟨(un 0 a.data.toList).toArray⟩ ++ ⟨(un 0 b.data.toList).toArray⟩ : ByteArray).size + 3 * cnt (a ++ b).data.toList (a ++ b).size = (a ++ b).size := by
    rw [← heq]
    have h1 := HL.out
    rw [← HLL.out] at h1
    show (un 0 (a ++ b).data.toList).toArray.size + _ = _
    rw [List.size_toArray]
    exact h1
  have hcl := cnt_le (a ++ b).data.toList (a ++ b).size
  rw [hcf]
  rw [heq] at CS
  clear hcc hc hcf heq HD HL HLL
  generalize (⟨(un 0 a.data.toList).toArray⟩ : ByteArray) = xa at *
  generalize (⟨(un 0 b.data.toList).toArray⟩ : ByteArray) = xb at *
  generalize cnt (a ++ b).data.toList (a ++ b).size = m at *
  generalize a ++ b = s at *
  have l1 : (xa ++ xb).size + 3 * m ≤ s.size := by omega
  have l2 : s.size ≤ (xa ++ xb).size + 3 * m := by omega
  have l3 : xa.size + xb.size ≤ 1048576 := by rw [← app_size xa xb]; omega
  clear hlen
  generalize hx : xa ++ xb = x at *
  go_wp2_with fail
  refine (CS.out _ HV0.out HV1.out).mono ?_
  rintro e w3 ⟨rfl, b3⟩
  have hz3 := b3.size
  have k0 := hid ((b3.cell (show (⟨0, 0, none⟩ : Addr).block < w2.heap.size from g0)).trans HV0.out)
  have k1 := hid ((b3.cell (show (⟨1, 0, none⟩ : Addr).block < w2.heap.size from g1)).trans HV1.out)
  clear CS
  go_wp2_with fail
  refine (CA.out _ k0.out k1.out).mono ?_
  rintro e w4 ⟨rfl, b4⟩
  have hz4 := b4.size
  have m0 := hid ((b4.cell (show (⟨0, 0, none⟩ : Addr).block < w3.heap.size from by show 0 < _; omega)).trans k0.out)
  have m1 := hid ((b4.cell (show (⟨1, 0, none⟩ : Addr).block < w3.heap.size from by show 1 < _; omega)).trans k1.out)
  have b24 : Below w2.heap.size w2 w4 := b3.trans (b4.mono hz3)
  clear CA k0 k1 b3 b4
  go_wp2_with fail
  refine (CB.out _ m0.out m1.out).mono ?_
  rintro e w5 ⟨rfl, b5⟩
  have b25 : Below w2.heap.size w2 w5 := b24.trans (b5.mono (by omega))
  clear CB m0 m1 b5 b24
  go_wp2_with fail
  refine (CN.out _).mono ?_
  rintro e w6 ⟨rfl, rfl⟩
  clear CN
  have l4 : ((x.size : Int) == (s.size : Int) - 3 * (m : Int)) = true := beq_iff_eq.2 (by omega)
  go_wp2
  go_ret
  exact ⟨rfl, b25⟩
end Go.Proofs.Qxb6617296aDoor
