import Derived.Test.Qxb6617296aDoorEsc
import Derived.Test.Qxb6617296aDoorMangle
namespace Go.Proofs.Qxb6617296aDoor
open Go.RowKit Plain

/-- some bool is handed back -/
def AnyBool3 (e : Ending) : Prop := ∃ b, e = .returned (.bool b)

theorem bytes6 (s : ByteArray) (w : World) (hs : s.size ≤ maxLen) : Calls Tryd.prog 6 #[.string s] w fun e w' => AnyBool3 e ∧ w' = w := by
  unfold maxLen at hs
  go_enter Tryd.func6, Tryd.ntmps6
  go_wp2
  all_goals
    go_ret
    exact ⟨⟨_, rfl⟩, rfl⟩

theorem pos_esc (l : List UInt8) (k : Nat) (h : eAt l k = true) : Lib.byteCells (posTo l (k + 1)) = Lib.byteCells (posTo l k) ++ [.int .u8 ((escV (l.drop k)).toNat : Int)] ∧ (posTo l (k + 1)).length = (posTo l k).length + 1 := by
  simp only [posTo, pieceAt, h, if_true]
  rw [Lib.byteCells_append]
  exact ⟨rfl, by simp⟩
theorem pos_cov (l : List UInt8) (k : Nat) (h : eAt l k = false) (hc : cov l k = true) : posTo l (k + 1) = posTo l k := by
  simp [posTo, pieceAt, h, hc]
theorem pos_byte (s : ByteArray) (k : Nat) (hk : k < s.size) (h : eAt s.data.toList k = false) (hc : cov s.data.toList k = false) :
    Lib.byteCells (posTo s.data.toList (k + 1)) = Lib.byteCells (posTo s.data.toList k) ++ [.int .u8 (s[k].toNat : Int)] ∧ (posTo s.data.toList (k + 1)).length = (posTo s.data.toList k).length + 1 := by
  have e : posTo s.data.toList (k + 1) = posTo s.data.toList k ++ [s[k]] := by
    simp only [posTo, pieceAt, h, hc, getD_byte s k hk]
    rfl
  rw [e, Lib.byteCells_append]
  exact ⟨rfl, by simp⟩

set_option maxHeartbeats 4000000 in
set_option maxRecDepth 100000 in
theorem model8 (s : ByteArray) (hs : s.size ≤ 1048576) (w : World) :
    Calls Tryd.prog 8 #[.string s] w fun e w' => e = .returned (.string ⟨(posTo s.data.toList s.size).toArray⟩) ∧ Below w.heap.size w w' := by
  obtain ⟨i0, hi, hz0, hz1, hz2⟩ := info_parts Tryd.byteInfo
  go_enter Tryd.func8, Tryd.ntmps8
  go_wp2_with (at_make; refine wpList_make_own _ rfl (.const (.int .i64 0)) (.tmp 6) 29 rfl w.heap.size 5 i0 (.int .u8 0) 1 Tryd.underlying29 hi hz0 hz1 .i64 .i64 _ s.size rfl rfl (by omega) (by rw [hz2]; omega) (by unfold maxLen; omega) (Nat.le_refl _) ?_; intro w1 hown hgrow; refine Hid.out ?_)
  have HOWN := hid hown
  have hb1 : Below w.heap.size w w1 := (Below.refl _ _).grown hgrow (Nat.le_refl _) (fun _ h => by cases h)
  clear hown hgrow
  refine hid ?_
  go_wp2
  go_loopw [3, 4] (fun v i wr => ∃ k : Nat, k ≤ s.size ∧ i = .int .i64 k ∧ Hid (wr.ownsRow w.heap.size 5 1 v (posTo s.data.toList k).length (Lib.byteCells (posTo s.data.toList k))) ∧ Below w.heap.size w wr) (fun _ i _ => s.size - (intOf i).toNat)
  case atStart => exact ⟨0, Nat.zero_le _, rfl, HOWN, hb1⟩
  case round =>
    obtain ⟨k, hk, rfl, HO, hbel⟩ := hrel
    have hsz := hbel.size
    have hml := posTo_length s.data.toList k
    clear HOWN hb1
    by_cases hlt : k < s.size
    · have hesc := fun w => escAt15 s k w (by omega) (by omega) (by omega)
      by_cases he : eAt s.data.toList k = true
      · have h4 : k + 4 ≤ s.size := by
          rcases Nat.lt_or_ge s.size (k + 4) with h' | h'
          · rw [eAt_short _ _ (by rw [← Lib.size_eq]; omega)] at he; cases he
          · exact h'
        have HE := hid (pos_esc s.data.toList k he)
        have HVAL := hid (fun w => value16 s k w (by omega) h4 he)
        rw [he] at hesc
        have HESC := hid hesc
        clear hesc he
        generalize (posTo s.data.toList k).length = n at *
        generalize Lib.byteCells (posTo s.data.toList k) = xs at *
        generalize ((escV (s.data.toList.drop k)).toNat : Int) = x at *
        go_wp2_with fail
        refine (HESC.out _).mono ?_
        rintro e w2 ⟨rfl, rfl⟩
        clear HESC
        go_wp2_with fail
        refine (HVAL.out _).mono ?_
        rintro e w3 ⟨rfl, q, hw3⟩
        have HO3 : Hid (w3.ownsRow w.heap.size 5 1 u3 n xs) := by rw [hw3]; exact HO.out
        have hbel3 : Below w.heap.size w w3 := by rw [hw3]; exact below_drewN hbel q
        have hsz3 := hbel3.size
        clear hw3 HVAL HO hbel hsz
        go_wp2_with (at_builtin; refine wpList_append_own _ rfl _ _ 29 rfl w.heap.size 5 i0 (.int .u8 0) 1 1 Tryd.underlying29 hi hz0 hz1 hz2 rfl (by decide) _ _ _ rfl (HO3.out.alloc _) ⟨w3.heap.size, 0, none⟩ 1 1 [.int .u8 x] rfl rfl (cells_new w3 _ 5) (by intro u hu; simp at hu; subst hu; rfl) (by unfold maxLen; omega) (by omega) (by simp; omega) ?_; intro v' w4 hown' hgrow _; refine Hid.out ?_)
        have HO4 : Hid (w4.ownsRow w.heap.size 5 1 v' (posTo s.data.toList (k + 1)).length (Lib.byteCells (posTo s.data.toList (k + 1)))) := by rw [HE.out.1, HE.out.2]; exact hown'
        have hbel4 : Below w.heap.size w w4 := (hbel3.alloc hsz3 _).grown hgrow (by simp; omega) (fun b hb => (HO3.out.lt b hb).1)
        clear hown' hgrow HO3 hbel3 HE hml
        refine hid ?_
        go_wp2
        go_roundw
        case rel => exact ⟨k + 1, by omega, by go_num, HO4, hbel4⟩
        case measure => simp [intOf]; omega
      · have he' : eAt s.data.toList k = false := by simpa using he
        rw [he'] at hesc
        have HESC := hid hesc
        have hcov := fun w => covered12 s k w (by omega) (by omega) (by omega)
        clear hesc he
        by_cases hc : cov s.data.toList k = true
        · have HE := hid (pos_cov s.data.toList k he' hc)
          rw [hc] at hcov
          have HCOV := hid hcov
          clear hcov hc he'
          have HO4 : Hid (wr.ownsRow w.heap.size 5 1 u3 (posTo s.data.toList (k + 1)).length (Lib.byteCells (posTo s.data.toList (k + 1)))) := by rw [HE.out]; exact HO.out
          clear HE HO hml
          go_wp2_with fail
          refine (HESC.out _).mono ?_
          rintro e w2 ⟨rfl, rfl⟩
          clear HESC
          go_wp2_with fail
          refine (HCOV.out _).mono ?_
          rintro e w3 ⟨rfl, rfl⟩
          clear HCOV
          go_wp2
          go_roundw
          case rel => exact ⟨k + 1, by omega, by go_num, HO4, hbel⟩
          case measure => simp [intOf]; omega
        · have hc' : cov s.data.toList k = false := by simpa using hc
          have HE := hid (pos_byte s k hlt he' hc')
          rw [hc'] at hcov
          have HCOV := hid hcov
          clear hcov hc he' hc'
          generalize (posTo s.data.toList k).length = n at *
          generalize Lib.byteCells (posTo s.data.toList k) = xs at *
          go_wp2_with fail
          refine (HESC.out _).mono ?_
          rintro e w2 ⟨rfl, rfl⟩
          clear HESC
          go_wp2_with fail
          refine (HCOV.out _).mono ?_
          rintro e w3 ⟨rfl, rfl⟩
          clear HCOV
          go_wp2_with (at_builtin; refine wpList_append_own _ rfl _ _ 29 rfl w.heap.size 5 i0 (.int .u8 0) 1 1 Tryd.underlying29 hi hz0 hz1 hz2 rfl (by decide) _ _ _ rfl (HO.out.alloc _) ⟨w3.heap.size, 0, none⟩ 1 1 [.int .u8 (s[k].toNat : Int)] rfl rfl (cells_new w3 _ 5) (by intro u hu; simp at hu; subst hu; rfl) (by unfold maxLen; omega) (by omega) (by simp; omega) ?_; intro v' w4 hown' hgrow _; refine Hid.out ?_)
          have HO4 : Hid (w4.ownsRow w.heap.size 5 1 v' (posTo s.data.toList (k + 1)).length (Lib.byteCells (posTo s.data.toList (k + 1)))) := by rw [HE.out.1, HE.out.2]; exact hown'
          have hbel4 : Below w.heap.size w w4 := (hbel.alloc hsz _).grown hgrow (by simp; omega) (fun b hb => (HO.out.lt b hb).1)
          clear hown' hgrow HO hbel HE hml
          refine hid ?_
          go_wp2
          go_roundw
          case rel => exact ⟨k + 1, by omega, by go_num, HO4, hbel4⟩
          case measure => simp [intOf]; omega
    · have he : k = s.size := by omega
      subst he
      have hconv := conv_own HO.out
      clear hml
      go_wp2
      go_ret
      exact ⟨rfl, hbel⟩

theorem pos_eq (s : ByteArray) : (⟨(un 0 s.data.toList).toArray⟩ : ByteArray) = ⟨(posTo s.data.toList s.size).toArray⟩ := by
  rw [un_posTo, Lib.size_eq]

set_option maxHeartbeats 1000000 in
theorem posWalk (s : ByteArray) (te0 te1 : TypeId) (pe0 pe1 : Value) (w : World) (hs : s.size ≤ maxLen)
    (hv0 : w.cell? ⟨0, 0, none⟩ = some (.iface te0 pe0)) (hv1 : w.cell? ⟨1, 0, none⟩ = some (.iface te1 pe1)) :
    Calls Tryd.prog 3 #[.string s] w fun e w' => e = .returned (.bool true) ∧ Below w.heap.size w w' := by
  have hpm : s.size ≤ 9223372036854775807 := by unfold maxLen at hs; omega
  have HV0 := hid hv0
  have HV1 := hid hv1
  clear hv0 hv1
  go_enter Tryd.func3, Tryd.ntmps3
  go_wp2_with fail
  refine (bytes6 s w hs).mono ?_
  rintro e w1 ⟨⟨bb, rfl⟩, rfl⟩
  cases bb
  · go_wp2
    go_ret
    exact ⟨rfl, Below.refl _ _⟩
  by_cases hl : 1048576 < s.size
  · go_wp2
    go_ret
    exact ⟨rfl, Below.refl _ _⟩
  go_wp2_with fail
  refine (zzUnescape7 s (by omega) te0 te1 pe0 pe1 _ HV0.out HV1.out).mono ?_
  rintro e w2 ⟨rfl, b2⟩
  rw [pos_eq s]
  have hz2 := b2.size
  have HM := hid (model8 s (by omega) w2)
  generalize (⟨(posTo s.data.toList s.size).toArray⟩ : ByteArray) = x at *
  go_wp2_with fail
  refine HM.out.mono ?_
  rintro e w3 ⟨rfl, b3⟩
  have hb3 : Below w1.heap.size w1 w3 := b2.trans (b3.mono hz2)
  clear b2 b3 HM
  go_wp2
  go_ret
  exact ⟨rfl, hb3⟩
end Go.Proofs.Qxb6617296aDoor
