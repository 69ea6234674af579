import Derived.Test.Qxb6617296aDoorUnesc
namespace Go.Proofs.Qxb6617296aDoor
open Go.RowKit Plain

theorem esc_cells (c : UInt8) : Lib.byteCells (esc1 c) = [.int .u8 92, .int .u8 ((48 + (c.toNat : Int) / 64) % 256), .int .u8 ((48 + bits BinOp.and IntKind.u8 ((c.toNat : Int) / 8) 7) % 256), .int .u8 ((48 + bits BinOp.and IntKind.u8 (c.toNat : Int) 7) % 256)] := by
  have h : ∀ n : Fin 256, (((UInt8.ofNat n.val >>> (6 : UInt8)) + 48).toNat : Int) = (48 + (n.val : Int) / 64) % 256 ∧ ((((UInt8.ofNat n.val >>> (3 : UInt8)) &&& 7) + 48).toNat : Int) = (48 + bits BinOp.and IntKind.u8 ((n.val : Int) / 8) 7) % 256 ∧
      (((UInt8.ofNat n.val &&& 7) + 48).toNat : Int) = (48 + bits BinOp.and IntKind.u8 (n.val : Int) 7) % 256 := by decide +kernel
  obtain ⟨h1, h2, h3⟩ := h ⟨c.toNat, c.toNat_lt⟩
  simp only [UInt8.ofNat_toNat] at h1 h2 h3
  rw [← h1, ← h2, ← h3]
  rw [UInt8.add_comm, UInt8.add_comm ((c >>> 3) &&& 7), UInt8.add_comm (c &&& 7)]
  rfl

theorem own_esc (all : Bool) (p : ByteArray) (k : Nat) (hk : k < p.size) (hm : must all p[k] = true) :
    Lib.byteCells (mangle all (p.data.toList.take (k + 1))) = Lib.byteCells (mangle all (p.data.toList.take k)) ++ [.int .u8 92, .int .u8 ((48 + (p[k].toNat : Int) / 64) % 256), .int .u8 ((48 + bits BinOp.and IntKind.u8 ((p[k].toNat : Int) / 8) 7) % 256), .int .u8 ((48 + bits BinOp.and IntKind.u8 (p[k].toNat : Int) 7) % 256)] ∧
      (mangle all (p.data.toList.take (k + 1))).length = (mangle all (p.data.toList.take k)).length + 4 := by
  have hl : k < p.data.toList.length := by rw [← Lib.size_eq]; exact hk
  have e : p.data.toList[k] = p[k] := rfl
  rw [mangle_snoc all p.data.toList k hl, e]
  unfold piece
  rw [if_pos hm, Lib.byteCells_append, esc_cells]
  exact ⟨rfl, by simp [esc1]⟩

theorem own_byte (all : Bool) (p : ByteArray) (k : Nat) (hk : k < p.size) (hm : must all p[k] = false) :
    Lib.byteCells (mangle all (p.data.toList.take (k + 1))) = Lib.byteCells (mangle all (p.data.toList.take k)) ++ [.int .u8 (p[k].toNat : Int)] ∧
      (mangle all (p.data.toList.take (k + 1))).length = (mangle all (p.data.toList.take k)).length + 1 := by
  have hl : k < p.data.toList.length := by rw [← Lib.size_eq]; exact hk
  have e : p.data.toList[k] = p[k] := rfl
  rw [mangle_snoc all p.data.toList k hl, e]
  unfold piece
  rw [if_neg (by rw [hm]; simp), Lib.byteCells_append]
  exact ⟨rfl, by simp⟩

/-- 'string(out)' of a row of bytes that the call owns -/
theorem conv_own {w : World} {B : Nat} {v : Value} {l : List UInt8} (h : w.ownsRow B 5 1 v l.length (Lib.byteCells l)) : (convert 29 9 v).run Tryd.prog w = .ok (.string ⟨l.toArray⟩) w := by
  have h' := h
  rcases h.2 with ⟨rfl, h0⟩ | ⟨g, cap, cur, rfl, _⟩
  · have : l = [] := List.eq_nil_of_length_eq_zero h0
    subst this
    rw [run_convert_bytes_string w 29 9 5 none 0 0 Tryd.underlying29 Tryd.underlying5 Tryd.underlying9]
    rfl
  · refine run_convert_bytes_back w 29 9 5 ⟨g, 0, none⟩ cap l Tryd.underlying29 Tryd.underlying5 Tryd.underlying9 ?_
    intro j hj
    have := h'.cells (g := g) rfl j (.int .u8 l[j].toNat) (by simp [Lib.byteCells, hj])
    exact this

theorem cells_new (w : World) (cs : Array Value) (T : TypeId) : ∀ j u, cs.toList[j]? = some u → (w.alloc (.cells cs T)).cell? ((⟨w.heap.size, 0, none⟩ : Addr).add j) = some u := by
  intro j u hj
  have e : (⟨w.heap.size, 0, none⟩ : Addr).add j = ⟨w.heap.size, j, none⟩ := by unfold Addr.add; split <;> simp_all
  rw [e, cell_of_row _ _ _ cs T (0, 0) (heap_alloc_new w _)]
  simpa using hj

theorem beqN {c m : UInt8} (h : c ≠ m) : ((c.toNat : Int) == (m.toNat : Int)) = false := by
  rw [beq_eq_false_iff_ne]
  intro e
  exact h (UInt8.toNat_inj.mp (by omega))

set_option maxHeartbeats 4000000 in
set_option maxRecDepth 100000 in
theorem mangleT (p : ByteArray) (hs : p.size ≤ 262144) (w : World) :
    Calls Tryd.prog 10 #[.string p, .bool true] w fun e w' => e = .returned (.string ⟨(mangle true p.data.toList).toArray⟩) ∧ Below w.heap.size w w' := by
  obtain ⟨i0, hi, hz0, hz1, hz2⟩ := info_parts Tryd.byteInfo
  go_enter Tryd.func10, Tryd.ntmps10
  go_wp2_with (at_make; refine wpList_make_own _ rfl (.const (.int .i64 0)) (.tmp 10) 29 rfl w.heap.size 5 i0 (.int .u8 0) 1 Tryd.underlying29 hi hz0 hz1 .i64 .i64 _ (4 * p.size) rfl rfl (by omega) (by rw [hz2]; omega) (by unfold maxLen; omega) (Nat.le_refl _) ?_; intro w1 hown hgrow; refine Hid.out ?_)
  have HOWN := hid hown
  have hb1 : Below w.heap.size w w1 := (Below.refl _ _).grown hgrow (Nat.le_refl _) (fun _ h => by cases h)
  clear hown hgrow
  refine hid ?_
  go_wp2
  go_loopw [5, 6] (fun v i wr => ∃ k : Nat, k ≤ p.size ∧ i = .int .i64 k ∧ Hid (wr.ownsRow w.heap.size 5 1 v (mangle true (p.data.toList.take k)).length (Lib.byteCells (mangle true (p.data.toList.take k)))) ∧ Below w.heap.size w wr) (fun _ i _ => p.size - (intOf i).toNat)
  case atStart => exact ⟨0, Nat.zero_le _, rfl, HOWN, hb1⟩
  case round =>
    obtain ⟨k, hk, rfl, HO, hbel⟩ := hrel
    have hsz := hbel.size
    have hml : (mangle true (p.data.toList.take k)).length ≤ 4 * k := by
      have h1 := mangle_length true (p.data.toList.take k)
      have h2 : (p.data.toList.take k).length ≤ k := List.length_take_le _ _
      omega
    clear HOWN hb1
    by_cases hlt : k < p.size
    · have HM := hid (own_esc true p k hlt)
      have HM' := hid (own_byte true p k hlt)
      · have HE := hid (HM.out rfl)
        clear HM HM'
        generalize (mangle true (p.data.toList.take k)).length = n at *
        generalize Lib.byteCells (mangle true (p.data.toList.take k)) = xs at *
        go_wp2_with (at_builtin; refine wpList_append_own _ rfl _ _ 29 rfl w.heap.size 5 i0 (.int .u8 0) 1 1 Tryd.underlying29 hi hz0 hz1 hz2 rfl (by decide) _ _ _ rfl (HO.out.alloc _) ⟨wr.heap.size, 0, none⟩ 4 4 [.int .u8 92, .int .u8 ((48 + (p[k].toNat : Int) / 64) % 256), .int .u8 ((48 + bits BinOp.and IntKind.u8 ((p[k].toNat : Int) / 8) 7) % 256), .int .u8 ((48 + bits BinOp.and IntKind.u8 (p[k].toNat : Int) 7) % 256)] rfl rfl (cells_new wr _ 5) (by intro u hu; simp at hu; rcases hu with rfl | rfl | rfl | rfl <;> rfl) (by unfold maxLen; omega) (by omega) (by simp; omega) ?_; intro v' w2 hown' hgrow _; refine Hid.out ?_)
        have HO2 : Hid (w2.ownsRow w.heap.size 5 1 v' (mangle true (p.data.toList.take (k + 1))).length (Lib.byteCells (mangle true (p.data.toList.take (k + 1))))) := by rw [HE.out.1, HE.out.2]; exact hown'
        have hbel2 : Below w.heap.size w w2 := (hbel.alloc hsz _).grown hgrow (by simp; omega) (fun b hb => (HO.out.lt b hb).1)
        clear hown' hgrow HO hbel HE hml
        refine hid ?_
        go_wp2
        go_roundw
        case rel => exact ⟨k + 1, by omega, by go_num, HO2, hbel2⟩
        case measure => simp [intOf]; omega
    · have hconv := conv_own HO.out
      have HT : Hid (mangle true (p.data.toList.take k) = mangle true p.data.toList) := by
        rw [List.take_of_length_le (by rw [← Lib.size_eq]; omega)]; rfl
      clear hml
      go_wp2
      go_ret
      exact ⟨by rw [← HT.out]; rfl, hbel⟩

set_option maxHeartbeats 4000000 in
set_option maxRecDepth 100000 in
theorem mangleF (p : ByteArray) (hs : p.size ≤ 262144) (w : World) :
    Calls Tryd.prog 10 #[.string p, .bool false] w fun e w' => e = .returned (.string ⟨(mangle false p.data.toList).toArray⟩) ∧ Below w.heap.size w w' := by
  obtain ⟨i0, hi, hz0, hz1, hz2⟩ := info_parts Tryd.byteInfo
  go_enter Tryd.func10, Tryd.ntmps10
  go_wp2_with (at_make; refine wpList_make_own _ rfl (.const (.int .i64 0)) (.tmp 10) 29 rfl w.heap.size 5 i0 (.int .u8 0) 1 Tryd.underlying29 hi hz0 hz1 .i64 .i64 _ (4 * p.size) rfl rfl (by omega) (by rw [hz2]; omega) (by unfold maxLen; omega) (Nat.le_refl _) ?_; intro w1 hown hgrow; refine Hid.out ?_)
  have HOWN := hid hown
  have hb1 : Below w.heap.size w w1 := (Below.refl _ _).grown hgrow (Nat.le_refl _) (fun _ h => by cases h)
  clear hown hgrow
  refine hid ?_
  go_wp2
  go_loopw [5, 6] (fun v i wr => ∃ k : Nat, k ≤ p.size ∧ i = .int .i64 k ∧ Hid (wr.ownsRow w.heap.size 5 1 v (mangle false (p.data.toList.take k)).length (Lib.byteCells (mangle false (p.data.toList.take k)))) ∧ Below w.heap.size w wr) (fun _ i _ => p.size - (intOf i).toNat)
  case atStart => exact ⟨0, Nat.zero_le _, rfl, HOWN, hb1⟩
  case round =>
    obtain ⟨k, hk, rfl, HO, hbel⟩ := hrel
    have hsz := hbel.size
    have hml : (mangle false (p.data.toList.take k)).length ≤ 4 * k := by
      have h1 := mangle_length false (p.data.toList.take k)
      have h2 : (p.data.toList.take k).length ≤ k := List.length_take_le _ _
      omega
    clear HOWN hb1
    by_cases hlt : k < p.size
    · have HM := hid (own_esc false p k hlt)
      have HM' := hid (own_byte false p k hlt)
      by_cases a32 : p[k] = 32
      · have HE := hid (HM.out (by rw [a32]; rfl))
        have b32 : ((p[k].toNat : Int) == 32) = true := by rw [a32]; rfl
        clear HM HM' a32
        generalize (mangle false (p.data.toList.take k)).length = n at *
        generalize Lib.byteCells (mangle false (p.data.toList.take k)) = xs at *
        go_wp2_with (at_builtin; refine wpList_append_own _ rfl _ _ 29 rfl w.heap.size 5 i0 (.int .u8 0) 1 1 Tryd.underlying29 hi hz0 hz1 hz2 rfl (by decide) _ _ _ rfl (HO.out.alloc _) ⟨wr.heap.size, 0, none⟩ 4 4 [.int .u8 92, .int .u8 ((48 + (p[k].toNat : Int) / 64) % 256), .int .u8 ((48 + bits BinOp.and IntKind.u8 ((p[k].toNat : Int) / 8) 7) % 256), .int .u8 ((48 + bits BinOp.and IntKind.u8 (p[k].toNat : Int) 7) % 256)] rfl rfl (cells_new wr _ 5) (by intro u hu; simp at hu; rcases hu with rfl | rfl | rfl | rfl <;> rfl) (by unfold maxLen; omega) (by omega) (by simp; omega) ?_; intro v' w2 hown' hgrow _; refine Hid.out ?_)
        have HO2 : Hid (w2.ownsRow w.heap.size 5 1 v' (mangle false (p.data.toList.take (k + 1))).length (Lib.byteCells (mangle false (p.data.toList.take (k + 1))))) := by rw [HE.out.1, HE.out.2]; exact hown'
        have hbel2 : Below w.heap.size w w2 := (hbel.alloc hsz _).grown hgrow (by simp; omega) (fun b hb => (HO.out.lt b hb).1)
        clear hown' hgrow HO hbel HE hml
        refine hid ?_
        go_wp2
        go_roundw
        case rel => exact ⟨k + 1, by omega, by go_num, HO2, hbel2⟩
        case measure => simp [intOf]; omega
      by_cases a9 : p[k] = 9
      · have HE := hid (HM.out (by rw [a9]; rfl))
        have b32 : ((p[k].toNat : Int) == 32) = false := beqN (c := p[k]) (m := 32) (by intro h; rw [a9] at h; cases h)
        have b9 : ((p[k].toNat : Int) == 9) = true := by rw [a9]; rfl
        clear HM HM' a9
        generalize (mangle false (p.data.toList.take k)).length = n at *
        generalize Lib.byteCells (mangle false (p.data.toList.take k)) = xs at *
        go_wp2_with (at_builtin; refine wpList_append_own _ rfl _ _ 29 rfl w.heap.size 5 i0 (.int .u8 0) 1 1 Tryd.underlying29 hi hz0 hz1 hz2 rfl (by decide) _ _ _ rfl (HO.out.alloc _) ⟨wr.heap.size, 0, none⟩ 4 4 [.int .u8 92, .int .u8 ((48 + (p[k].toNat : Int) / 64) % 256), .int .u8 ((48 + bits BinOp.and IntKind.u8 ((p[k].toNat : Int) / 8) 7) % 256), .int .u8 ((48 + bits BinOp.and IntKind.u8 (p[k].toNat : Int) 7) % 256)] rfl rfl (cells_new wr _ 5) (by intro u hu; simp at hu; rcases hu with rfl | rfl | rfl | rfl <;> rfl) (by unfold maxLen; omega) (by omega) (by simp; omega) ?_; intro v' w2 hown' hgrow _; refine Hid.out ?_)
        have HO2 : Hid (w2.ownsRow w.heap.size 5 1 v' (mangle false (p.data.toList.take (k + 1))).length (Lib.byteCells (mangle false (p.data.toList.take (k + 1))))) := by rw [HE.out.1, HE.out.2]; exact hown'
        have hbel2 : Below w.heap.size w w2 := (hbel.alloc hsz _).grown hgrow (by simp; omega) (fun b hb => (HO.out.lt b hb).1)
        clear hown' hgrow HO hbel HE hml
        refine hid ?_
        go_wp2
        go_roundw
        case rel => exact ⟨k + 1, by omega, by go_num, HO2, hbel2⟩
        case measure => simp [intOf]; omega
      by_cases a10 : p[k] = 10
      · have HE := hid (HM.out (by rw [a10]; rfl))
        have b32 : ((p[k].toNat : Int) == 32) = false := beqN (c := p[k]) (m := 32) (by intro h; rw [a10] at h; cases h)
        have b9 : ((p[k].toNat : Int) == 9) = false := beqN (c := p[k]) (m := 9) (by intro h; rw [a10] at h; cases h)
        have b10 : ((p[k].toNat : Int) == 10) = true := by rw [a10]; rfl
        clear HM HM' a10
        generalize (mangle false (p.data.toList.take k)).length = n at *
        generalize Lib.byteCells (mangle false (p.data.toList.take k)) = xs at *
        go_wp2_with (at_builtin; refine wpList_append_own _ rfl _ _ 29 rfl w.heap.size 5 i0 (.int .u8 0) 1 1 Tryd.underlying29 hi hz0 hz1 hz2 rfl (by decide) _ _ _ rfl (HO.out.alloc _) ⟨wr.heap.size, 0, none⟩ 4 4 [.int .u8 92, .int .u8 ((48 + (p[k].toNat : Int) / 64) % 256), .int .u8 ((48 + bits BinOp.and IntKind.u8 ((p[k].toNat : Int) / 8) 7) % 256), .int .u8 ((48 + bits BinOp.and IntKind.u8 (p[k].toNat : Int) 7) % 256)] rfl rfl (cells_new wr _ 5) (by intro u hu; simp at hu; rcases hu with rfl | rfl | rfl | rfl <;> rfl) (by unfold maxLen; omega) (by omega) (by simp; omega) ?_; intro v' w2 hown' hgrow _; refine Hid.out ?_)
        have HO2 : Hid (w2.ownsRow w.heap.size 5 1 v' (mangle false (p.data.toList.take (k + 1))).length (Lib.byteCells (mangle false (p.data.toList.take (k + 1))))) := by rw [HE.out.1, HE.out.2]; exact hown'
        have hbel2 : Below w.heap.size w w2 := (hbel.alloc hsz _).grown hgrow (by simp; omega) (fun b hb => (HO.out.lt b hb).1)
        clear hown' hgrow HO hbel HE hml
        refine hid ?_
        go_wp2
        go_roundw
        case rel => exact ⟨k + 1, by omega, by go_num, HO2, hbel2⟩
        case measure => simp [intOf]; omega
      by_cases a92 : p[k] = 92
      · have HE := hid (HM.out (by rw [a92]; rfl))
        have b32 : ((p[k].toNat : Int) == 32) = false := beqN (c := p[k]) (m := 32) (by intro h; rw [a92] at h; cases h)
        have b9 : ((p[k].toNat : Int) == 9) = false := beqN (c := p[k]) (m := 9) (by intro h; rw [a92] at h; cases h)
        have b10 : ((p[k].toNat : Int) == 10) = false := beqN (c := p[k]) (m := 10) (by intro h; rw [a92] at h; cases h)
        have b92 : ((p[k].toNat : Int) == 92) = true := by rw [a92]; rfl
        clear HM HM' a92
        generalize (mangle false (p.data.toList.take k)).length = n at *
        generalize Lib.byteCells (mangle false (p.data.toList.take k)) = xs at *
        go_wp2_with (at_builtin; refine wpList_append_own _ rfl _ _ 29 rfl w.heap.size 5 i0 (.int .u8 0) 1 1 Tryd.underlying29 hi hz0 hz1 hz2 rfl (by decide) _ _ _ rfl (HO.out.alloc _) ⟨wr.heap.size, 0, none⟩ 4 4 [.int .u8 92, .int .u8 ((48 + (p[k].toNat : Int) / 64) % 256), .int .u8 ((48 + bits BinOp.and IntKind.u8 ((p[k].toNat : Int) / 8) 7) % 256), .int .u8 ((48 + bits BinOp.and IntKind.u8 (p[k].toNat : Int) 7) % 256)] rfl rfl (cells_new wr _ 5) (by intro u hu; simp at hu; rcases hu with rfl | rfl | rfl | rfl <;> rfl) (by unfold maxLen; omega) (by omega) (by simp; omega) ?_; intro v' w2 hown' hgrow _; refine Hid.out ?_)
        have HO2 : Hid (w2.ownsRow w.heap.size 5 1 v' (mangle false (p.data.toList.take (k + 1))).length (Lib.byteCells (mangle false (p.data.toList.take (k + 1))))) := by rw [HE.out.1, HE.out.2]; exact hown'
        have hbel2 : Below w.heap.size w w2 := (hbel.alloc hsz _).grown hgrow (by simp; omega) (fun b hb => (HO.out.lt b hb).1)
        clear hown' hgrow HO hbel HE hml
        refine hid ?_
        go_wp2
        go_roundw
        case rel => exact ⟨k + 1, by omega, by go_num, HO2, hbel2⟩
        case measure => simp [intOf]; omega
      · have HE := hid (HM'.out (by simp [must, a32, a9, a10, a92]))
        have b32 : ((p[k].toNat : Int) == 32) = false := beqN (c := p[k]) (m := 32) a32
        have b9 : ((p[k].toNat : Int) == 9) = false := beqN (c := p[k]) (m := 9) a9
        have b10 : ((p[k].toNat : Int) == 10) = false := beqN (c := p[k]) (m := 10) a10
        have b92 : ((p[k].toNat : Int) == 92) = false := beqN (c := p[k]) (m := 92) a92
        clear HM HM' a32 a9 a10 a92
        generalize (mangle false (p.data.toList.take k)).length = n at *
        generalize Lib.byteCells (mangle false (p.data.toList.take k)) = xs at *
        go_wp2_with (at_builtin; refine wpList_append_own _ rfl _ _ 29 rfl w.heap.size 5 i0 (.int .u8 0) 1 1 Tryd.underlying29 hi hz0 hz1 hz2 rfl (by decide) _ _ _ rfl (HO.out.alloc _) ⟨wr.heap.size, 0, none⟩ 1 1 [.int .u8 (p[k].toNat : Int)] rfl rfl (cells_new wr _ 5) (by intro u hu; simp at hu; subst hu; rfl) (by unfold maxLen; omega) (by omega) (by simp; omega) ?_; intro v' w2 hown' hgrow _; refine Hid.out ?_)
        have HO2 : Hid (w2.ownsRow w.heap.size 5 1 v' (mangle false (p.data.toList.take (k + 1))).length (Lib.byteCells (mangle false (p.data.toList.take (k + 1))))) := by rw [HE.out.1, HE.out.2]; exact hown'
        have hbel2 : Below w.heap.size w w2 := (hbel.alloc hsz _).grown hgrow (by simp; omega) (fun b hb => (HO.out.lt b hb).1)
        clear hown' hgrow HO hbel HE hml
        refine hid ?_
        go_wp2
        go_roundw
        case rel => exact ⟨k + 1, by omega, by go_num, HO2, hbel2⟩
        case measure => simp [intOf]; omega
    · have hconv := conv_own HO.out
      have HT : Hid (mangle false (p.data.toList.take k) = mangle false p.data.toList) := by
        rw [List.take_of_length_le (by rw [← Lib.size_eq]; omega)]; rfl
      clear hml
      go_wp2
      go_ret
      exact ⟨by rw [← HT.out]; rfl, hbel⟩
end Go.Proofs.Qxb6617296aDoor
