import Derived.Test.Qxb6617296aDoorErr
import Derived.Test.Qxb6617296aDoorPlain
namespace Go.Proofs.Qxb6617296aDoor
open Go.RowKit Plain

theorem hid {p : Prop} (h : p) : Hid p := h

/-- a builder stays one while every old block stands -/
theorem isBuilder_old {B b : Nat} {bs : List Value} {w w' : World} (h : Lib.IsBuilder 34 5 B b bs w) (hb : Below w.heap.size w w') : Lib.IsBuilder 34 5 B b bs w' := by
  have key : ∀ p, Lib.BuilderAt 34 5 B b p bs w → Lib.BuilderAt 34 5 B b p bs w' := by
    intro p h
    have hlt := h.lt
    obtain ⟨hB, v, hbk, hown, hne⟩ := h
    refine ⟨hB, v, by rw [hb.block b hlt]; exact hbk, ?_, hne⟩
    exact hown.kept (row := none) ⟨hb.os, hb.tape, hb.output, hb.size, fun k hk _ => hb.block k hk⟩ (by cases v.ownBlock <;> simp)
  rcases h with h | h
  · exact Or.inl (key _ h)
  · exact Or.inr (key _ h)

/-- the three bytes behind place i -/
def at3 (l : List UInt8) (i : Nat) (j : Nat) : Int := ((l.getD (i + 1 + j) 0).toNat : Int)

theorem getD_eq (l : List UInt8) (k : Nat) (h : k < l.length) : l.getD k 0 = l[k] := by
  simp [List.getD, List.getElem?_eq_getElem h]

theorem drop4 (l : List UInt8) (i : Nat) (h : i + 4 ≤ l.length) : l.drop i = l[i] :: l.getD (i + 1) 0 :: l.getD (i + 2) 0 :: l.getD (i + 3) 0 :: l.drop (i + 4) := by
  rw [List.drop_eq_getElem_cons (show i < l.length by omega), List.drop_eq_getElem_cons (show i + 1 < l.length by omega), List.drop_eq_getElem_cons (show i + 1 + 1 < l.length by omega), List.drop_eq_getElem_cons (show i + 1 + 1 + 1 < l.length by omega)]
  rw [getD_eq l (i + 1) (by omega), getD_eq l (i + 2) (by omega), getD_eq l (i + 3) (by omega)]

theorem byte_val : ∀ a b c : UInt8, 48 ≤ a.toNat → a.toNat ≤ 51 → 48 ≤ b.toNat → b.toNat ≤ 55 → 48 ≤ c.toNat → c.toNat ≤ 55 →
    (((a - 48) * 64 + (b - 48) * 8 + (c - 48) : UInt8).toNat : Int) = ((a.toNat : Int) - 48) * 64 + ((b.toNat : Int) - 48) * 8 + ((c.toNat : Int) - 48) := by
  intro a b c h1 h2 h3 h4 h5 h6
  have e : ((a - 48) * 64 + (b - 48) * 8 + (c - 48) : UInt8).toNat = (a.toNat - 48) * 64 + (b.toNat - 48) * 8 + (c.toNat - 48) := by
    simp only [UInt8.toNat_add, UInt8.toNat_mul, UInt8.toNat_sub, UInt8.reduceToNat]
    omega
  rw [e]; omega

theorem valid_iff (l : List UInt8) (i : Nat) (h : i + 4 ≤ l.length) (h92 : l[i] = 92) : escB (l.drop i) = true ↔ Valid (at3 l i) := by
  rw [drop4 l i h, h92]
  simp only [escB, Valid, at3, Nat.add_zero, Bool.and_eq_true, decide_eq_true_eq, UInt8.le_iff_toNat_le, beq_self_eq_true, true_and, UInt8.reduceToNat, Nat.add_assoc, Nat.reduceAdd]
  omega

theorem valid_val (l : List UInt8) (i : Nat) (h : i + 4 ≤ l.length) (hV : Valid (at3 l i)) : val (at3 l i) = ((escV (l.drop i)).toNat : Int) := by
  rw [drop4 l i h]
  simp only [Valid, at3, Nat.add_zero] at hV
  simp only [escV, val, at3, Nat.add_zero]
  exact (byte_val _ _ _ (by omega) (by omega) (by omega) (by omega) (by omega) (by omega)).symm

theorem extract3 (s : ByteArray) (i : Nat) (h : i + 4 ≤ s.size) : (s.extract (i + 1) (i + 4)).size = 3 ∧ ∀ j, j < 3 → at3 s.data.toList i j = (((s.extract (i + 1) (i + 4)).data.toList.getD j 0).toNat : Int) := by
  refine ⟨by rw [ByteArray.size_extract]; omega, fun j hj => ?_⟩
  unfold at3
  rw [Lib.extract_data]
  have e : (((s.data.toList.drop (i + 1)).take (i + 4 - (i + 1))).getD j 0) = s.data.toList.getD (i + 1 + j) 0 := by
    simp only [List.getD, List.getElem?_take_of_lt (show j < i + 4 - (i + 1) by omega), List.getElem?_drop]
  rw [e]

theorem cells_snoc (out : List UInt8) (x : UInt8) (v : Int) (h : v = (x.toNat : Int)) : Lib.byteCells (out ++ [x]) = Lib.byteCells out ++ [.int .u8 v] := by
  rw [Lib.byteCells_append, h]; rfl

/-- one round: the escape at i is taken -/
theorem take_esc {l out : List UInt8} {i : Nat} (hu : un 0 l = out ++ un 0 (l.drop i)) (he : escB (l.drop i) = true) : un 0 l = (out ++ [escV (l.drop i)]) ++ un 0 (l.drop (i + 4)) := by
  rw [hu, step_esc l i he]; simp
/-- one round: the byte at i is taken as it is -/
theorem take_byte {l out : List UInt8} {i : Nat} (hi : i < l.length) (hu : un 0 l = out ++ un 0 (l.drop i)) (he : escB (l.drop i) = false) : un 0 l = (out ++ [l[i]]) ++ un 0 (l.drop (i + 1)) := by
  rw [hu, step_byte l i hi he]; simp

set_option maxHeartbeats 2000000 in
set_option maxRecDepth 100000 in
theorem unescape14 (s : ByteArray) (hs : s.size ≤ 1099511627776) (te0 te1 : TypeId) (pe0 pe1 : Value) (w : World)
    (hv0 : w.cell? ⟨0, 0, none⟩ = some (.iface te0 pe0)) (hv1 : w.cell? ⟨1, 0, none⟩ = some (.iface te1 pe1)) :
    Calls Tryd.prog 14 #[.string s] w fun e w' => e = .returned (.string ⟨(un 0 s.data.toList).toArray⟩) ∧ Below w.heap.size w w' := by
  have HV0 := hid hv0
  have HV1 := hid hv1
  have g0 : 0 < w.heap.size := Lib.lt_of_cell hv0
  have g1 : 1 < w.heap.size := Lib.lt_of_cell hv1
  clear hv0 hv1
  go_enter Tryd.func14, Tryd.ntmps14
  go_wp2
  go_loopw [4] (fun vi wr => ∃ (i : Nat) (out : List UInt8), vi = .int .i64 i ∧ i ≤ s.size ∧ out.length ≤ i ∧ Hid (un 0 s.data.toList = out ++ un 0 (s.data.toList.drop i)) ∧ Hid (Lib.IsBuilder 34 5 w.heap.size w.heap.size (Lib.byteCells out) wr) ∧ Below w.heap.size w wr)
    (fun vi _ => s.size - (intOf vi).toNat)
  case atStart => exact ⟨0, [], rfl, Nat.zero_le _, Nat.le_refl _, rfl, Lib.fresh_isBuilder 34 5 w, (Below.refl _ _).alloc (Nat.le_refl _) _⟩
  case round =>
    obtain ⟨i, out, rfl, hi, hol, HU, HI, hbel⟩ := hrel
    have hsz := hbel.size
    by_cases hlt : i < s.size
    · have hll : i < s.data.toList.length := by rw [← Lib.size_eq]; exact hlt
      have hget : s.data.toList[i] = s[i] := rfl
      by_cases h92 : s[i] = 92
      · have b92 : ((s[i].toNat : Int) == 92) = true := by rw [h92]; rfl
        by_cases h4 : i + 4 ≤ s.size
        · have h4l : i + 4 ≤ s.data.toList.length := by rw [← Lib.size_eq]; exact h4
          have HE := hid (valid_iff s.data.toList i h4l (hget.trans h92))
          have HVV := hid (valid_val s.data.toList i h4l)
          obtain ⟨x1, x2⟩ := extract3 s i h4
          have HX1 := hid x1
          have HX2 := hid x2
          have HG := hid hget
          clear x1 x2 hget h92
          have k0 : wr.cell? ⟨0, 0, none⟩ = some (.iface te0 pe0) := (hbel.cell (show (⟨0, 0, none⟩ : Addr).block < w.heap.size from g0)).trans HV0.out
          have k1 : wr.cell? ⟨1, 0, none⟩ = some (.iface te1 pe1) := (hbel.cell (show (⟨1, 0, none⟩ : Addr).block < w.heap.size from g1)).trans HV1.out
          go_wp2_with fail
          refine (parse17 _ (at3 s.data.toList i) HX1.out HX2.out te0 te1 pe0 pe1 wr k0 k1).mono ?_
          rintro e w2 ⟨hpu, b2⟩
          clear HX1 HX2 k0 k1
          have hI2 := hid (isBuilder_old HI.out b2)
          have hz2 := b2.size
          have hbel2 : Below w.heap.size w w2 := hbel.trans (b2.mono hsz)
          clear b2 HI hbel
          rcases hpu with ⟨hV, rfl⟩ | ⟨hV, x, a, rfl⟩
          · have HU2 := hid (take_esc HU.out (HE.out.2 hV))
            have hval := HVV.out hV
            have hlt255 := (escV (s.data.toList.drop i)).toNat_lt
            clear HE HVV hV HU
            generalize escV (s.data.toList.drop i) = x at *
            generalize val (at3 s.data.toList i) = v at *
            have hv0 : 0 ≤ v := by omega
            have hv1 : v ≤ 255 := by omega
            have HCS := hid (cells_snoc out x v hval)
            clear hval hlt255
            go_wp2_with fail
            refine (writeByte w.heap.size w.heap.size (Lib.byteCells out) v _ hI2.out (by rw [Lib.byteCells_length]; omega) (by omega)).mono ?_
            rintro e w3 ⟨rfl, hI3, hb3⟩
            have HI3 : Hid (Lib.IsBuilder 34 5 w.heap.size w.heap.size (Lib.byteCells (out ++ [x])) w3) := by rw [HCS.out]; exact hI3
            have hbel3 : Below w.heap.size w w3 := hbel2.trans hb3
            clear hI3 hb3 hI2 HCS
            go_wp2
            go_roundw
            case rel => exact ⟨i + 4, out ++ [x], by go_num, by omega, by simp; omega, HU2, HI3, hbel3⟩
            case measure => simp [intOf]; omega
          · have he : escB (s.data.toList.drop i) = false := by
              cases h : escB (s.data.toList.drop i) with
              | false => rfl
              | true => exact absurd (HE.out.1 h) hV
            have HU2 := hid (take_byte hll HU.out he)
            rw [HG.out] at HU2
            have HCS := hid (cells_snoc out s[i] _ rfl)
            clear HE HVV hV HU he HG
            go_wp2_with fail
            refine (writeByte w.heap.size w.heap.size (Lib.byteCells out) _ _ hI2.out (by rw [Lib.byteCells_length]; omega) (by omega)).mono ?_
            rintro e w3 ⟨rfl, hI3, hb3⟩
            have HI3 : Hid (Lib.IsBuilder 34 5 w.heap.size w.heap.size (Lib.byteCells (out ++ [s[i]])) w3) := by rw [HCS.out]; exact hI3
            have hbel3 : Below w.heap.size w w3 := hbel2.trans hb3
            clear hI3 hb3 hI2 HCS
            go_wp2
            go_roundw
            case rel => exact ⟨i + 1, out ++ [s[i]], by go_num, by omega, by simp; omega, HU2, HI3, hbel3⟩
            case measure => simp [intOf]; omega
        · have he : escB (s.data.toList.drop i) = false := escB_short _ (by rw [List.length_drop, ← Lib.size_eq]; omega)
          have HU2 := hid (take_byte hll HU.out he)
          rw [hget] at HU2
          have HCS := hid (cells_snoc out s[i] _ rfl)
          clear HU he hget h92
          go_wp2_with fail
          refine (writeByte w.heap.size w.heap.size (Lib.byteCells out) _ _ HI.out (by rw [Lib.byteCells_length]; omega) (by omega)).mono ?_
          rintro e w3 ⟨rfl, hI3, hb3⟩
          have HI3 : Hid (Lib.IsBuilder 34 5 w.heap.size w.heap.size (Lib.byteCells (out ++ [s[i]])) w3) := by rw [HCS.out]; exact hI3
          have hbel3 : Below w.heap.size w w3 := hbel.trans hb3
          clear hI3 hb3 HI HCS
          go_wp2
          go_roundw
          case rel => exact ⟨i + 1, out ++ [s[i]], by go_num, by omega, by simp; omega, HU2, HI3, hbel3⟩
          case measure => simp [intOf]; omega
      · have b92 : ((s[i].toNat : Int) == 92) = false := by
          rw [beq_eq_false_iff_ne]
          intro h
          have h' : s[i].toNat = (92 : UInt8).toNat := by show s[i].toNat = 92; omega
          exact h92 (UInt8.toNat_inj.mp h')
        have he : escB (s.data.toList.drop i) = false := escB_head _ _ _ (List.drop_eq_getElem_cons hll) (by rw [hget]; exact h92)
        have HU2 := hid (take_byte hll HU.out he)
        rw [hget] at HU2
        have HCS := hid (cells_snoc out s[i] _ rfl)
        clear HU he hget h92
        go_wp2_with fail
        refine (writeByte w.heap.size w.heap.size (Lib.byteCells out) _ _ HI.out (by rw [Lib.byteCells_length]; omega) (by omega)).mono ?_
        rintro e w3 ⟨rfl, hI3, hb3⟩
        have HI3 : Hid (Lib.IsBuilder 34 5 w.heap.size w.heap.size (Lib.byteCells (out ++ [s[i]])) w3) := by rw [HCS.out]; exact hI3
        have hbel3 : Below w.heap.size w w3 := hbel.trans hb3
        clear hI3 hb3 HI HCS
        go_wp2
        go_roundw
        case rel => exact ⟨i + 1, out ++ [s[i]], by go_num, by omega, by simp; omega, HU2, HI3, hbel3⟩
        case measure => simp [intOf]; omega
    · have hout : un 0 s.data.toList = out := by
        have := HU.out
        rw [List.drop_of_length_le (by rw [← Lib.size_eq]; omega), un_nil, List.append_nil] at this
        exact this
      have HO := hid hout
      clear hout HU
      go_wp2_with fail
      refine (string_any w.heap.size w.heap.size out _ HI.out hsz).mono ?_
      rintro e w3 ⟨rfl, hb3⟩
      go_wp2
      go_ret
      exact ⟨by rw [HO.out]; rfl, hbel.trans hb3⟩

set_option maxHeartbeats 400000 in
theorem zzUnescape7 (s : ByteArray) (hs : s.size ≤ 1099511627776) (te0 te1 : TypeId) (pe0 pe1 : Value) (w : World)
    (hv0 : w.cell? ⟨0, 0, none⟩ = some (.iface te0 pe0)) (hv1 : w.cell? ⟨1, 0, none⟩ = some (.iface te1 pe1)) :
    Calls Tryd.prog 7 #[.string s] w fun e w' => e = .returned (.string ⟨(un 0 s.data.toList).toArray⟩) ∧ Below w.heap.size w w' := by
  have HV0 := hid hv0
  have HV1 := hid hv1
  clear hv0 hv1
  go_enter Tryd.func7, Tryd.ntmps7
  go_wp2_with fail
  refine (unescape14 s hs te0 te1 pe0 pe1 w HV0.out HV1.out).mono ?_
  rintro e w1 ⟨rfl, hb⟩
  go_wp2
  go_ret
  exact ⟨rfl, hb⟩
end Go.Proofs.Qxb6617296aDoor
