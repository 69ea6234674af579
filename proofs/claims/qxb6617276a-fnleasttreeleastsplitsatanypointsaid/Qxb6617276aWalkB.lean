import Derived.Test.Qxb6617276aWalkA
import Derived.Laws.CopyOwn
namespace Go.Proofs.Qxb6617276a
open Go.RowKit Plain

theorem Try.info21 : (Try.prog.info? 21).map (fun i => (i.zero, i.size, i.bytes)) = some (some (.int .i32 0), 1, 4) := by kernel_rfl
theorem hid {p : Prop} (h : p) : Hid p := h

theorem own_block {w : World} {B g n : Nat} {e : TypeId} {xs : List Value} (h : w.ownsRow B e 1 (.slice (some ⟨g, 0, none⟩) n n) n xs) :
    ∃ cur : List Value, w.heap[g]? = some (.cells cur.toArray e (0, 0)) ∧ cur.length = n := by
  obtain ⟨_, h2⟩ := h
  rcases h2 with ⟨h2, _⟩ | ⟨g', cap, cur, hv, _, hh, _, _, hs, _⟩
  · simp at h2
  · simp only [Value.slice.injEq, Option.some.injEq, Addr.mk.injEq] at hv
    obtain ⟨⟨rfl, _⟩, _, rfl⟩ := hv
    exact ⟨cur.toList, by simpa using hh, by simpa using hs⟩

theorem lt_of_cell {w : World} {p : Addr} {v : Value} (h : w.cell? p = some v) : p.block < w.heap.size := by
  apply Classical.byContradiction
  intro hn
  have : w.heap[p.block]? = none := Array.getElem?_eq_none (by omega)
  simp [World.cell?, this] at h

/-- the numbers as cells -/
def cellsOf (z : Nat → Int) (n : Nat) : List Value := (List.range n).map fun m => .int .i32 (z m)
theorem cellsOf_length (z : Nat → Int) (n : Nat) : (cellsOf z n).length = n := by simp [cellsOf]
theorem cellsOf_get (z : Nat → Int) (n m : Nat) (h : m < n) : (cellsOf z n)[m]? = some (.int .i32 (z m)) := by simp [cellsOf, h]
theorem cellsOf_some (z : Nat → Int) (n m : Nat) (v : Value) (h : (cellsOf z n)[m]? = some v) : m < n ∧ v = .int .i32 (z m) := by
  have hm : m < n := by
    have := (List.getElem?_eq_some_iff.1 h).1
    rwa [cellsOf_length] at this
  rw [cellsOf_get z n m hm] at h
  exact ⟨hm, (Option.some.inj h).symm⟩
theorem cellsOf_one (z : Nat → Int) (n : Nat) : ∀ v ∈ cellsOf z n, v.oneCell' = true := by
  intro v hv
  simp [cellsOf] at hv
  obtain ⟨_, _, rfl⟩ := hv
  rfl

/-- the row behind the copy -/
theorem row_of_copy {w : World} {g n : Nat} {z : Nat → Int} {cur : List Value} {t : TypeId} (h : w.heap[g]? = some (.cells (splice cur 0 (cellsOf z n)).toArray t (0, 0))) (hl : cur.length = n)
    (hb : ∀ m, m < n → -2147483648 ≤ z m ∧ z m ≤ 2147483647) : Row w g n z := by
  have e : splice cur 0 (cellsOf z n) = cellsOf z n := by
    unfold splice
    rw [List.drop_eq_nil_of_le (by rw [cellsOf_length]; omega)]
    simp
  rw [e] at h
  intro m hm
  refine ⟨?_, hb m hm⟩
  rw [cell_of_row w g m _ _ _ h, List.getElem?_toArray]
  exact cellsOf_get z n m hm

/-- the copy: its run, the row behind it, the frame -/
theorem copied (B g N : Nat) (ad : Addr) (cap : Nat) (cur : List Value) (z : Nat → Int) (w1 w2 : World) (hs : (Try.prog.info? 21).map (·.size) = some 1)
    (hg : w2.heap[g]? = some (.cells cur.toArray 21 (0, 0))) (hl : cur.length = N) (hsrc : ∀ j v, (cellsOf z N)[j]? = some v → w2.cell? (ad.add j) = some v)
    (hb : ∀ m, m < N → -2147483648 ≤ z m ∧ z m ≤ 2147483647) (hbel : Below B w1 w2) (hBg : B ≤ g) :
    ∃ w3, (Builtin.copy_ #[22, 22] 3 #[.slice (some ⟨g, 0, none⟩) N N, .slice (some ad) N cap]).run Try.prog w2 = .ok (goInt N) w3 ∧ Row w3 g N z ∧ Below B w1 w3 := by
  have hrun := run_copy_row (P := Try.prog) w2 22 22 3 21 g 0 N N ad N cap cur.toArray 21 (cellsOf z N) Try.underlying22 hs hg (by rw [cellsOf_length]; exact (Nat.min_self N).symm) hsrc (by rw [cellsOf_length]; simp; omega) (cellsOf_one z _)
  rw [cellsOf_length] at hrun
  refine ⟨_, hrun, ?_, below_setRow hbel hBg _⟩
  refine row_of_copy (cur := cur) (t := 21) ?_ hl hb
  rw [setRow_heap w2 g _ _ 21 _ hg]
  simp [splice, cellsOf_length]

set_option maxHeartbeats 1000000 in
theorem walkSome (ad : Addr) (len cap : Nat) (z : Nat → Int) (i k j : Int) (w : World) (hlc : len ≤ cap) (hcm : cap ≤ maxLen)
    (hcell : ∀ m, m < len → w.cell? (ad.add m) = some (.int .i32 (z m)) ∧ -2147483648 ≤ z m ∧ z m ≤ 2147483647) :
    Calls Try.prog 4 #[.slice (some ad) len cap, .int .i64 i, .int .i64 k, .int .i64 j] w fun e w' => e = .returned (.bool true) ∧ Below w.heap.size w w' := by
  have HC : Hid (∀ m, m < len → w.cell? (ad.add m) = some (.int .i32 (z m)) ∧ -2147483648 ≤ z m ∧ z m ≤ 2147483647) := hcell
  clear hcell
  have hlm : len ≤ 9223372036854775807 := by unfold maxLen at hcm; omega
  have hnil := fun (w : World) (n c : Nat) => run_neq_slice_nil_any (P := Try.prog) w 22 21 (some ad) n c 0 0 Try.underlying22
  go_enter Try.func4, Try.ntmps4
  go_wp2_with fail
  refine (bytes10 _ _ _ _ _ _ _ (by unfold maxLen; omega)).mono ?_
  rintro e w1 ⟨⟨bb, rfl⟩, rfl⟩
  cases bb
  · go_wp2
    go_ret
    exact ⟨rfl, Below.refl _ _⟩
  · by_cases hl : 65536 < len
    · go_wp2
      go_ret
      exact ⟨rfl, Below.refl _ _⟩
    · rcases Nat.mod_two_eq_zero_or_one len with hp | hp
      · obtain ⟨n, rfl⟩ : ∃ n, len = 2 * n := ⟨len / 2, by omega⟩
        clear hp
        obtain ⟨i0, hi, hz0, hz1, hz2⟩ := info_parts Try.info21
        have hsz1 : (Try.prog.info? 21).map (·.size) = some 1 := by rw [hi, ← hz1]; rfl
        go_wp2_with (at_make; refine wpList_make_full _ rfl (.tmp 32) (.tmp 32) 22 rfl w1.heap.size 21 i0 (.int .i32 0) 1 Try.underlying22 hi hz0 hz1 .i64 .i64 _ _ (2 * n) rfl rfl (by omega) (by omega) (by rw [hz2]; omega) (by unfold maxLen; omega) (Nat.le_refl _) ?_; intro w2 hown hgrow; refine Hid.out ?_)
        obtain ⟨cur, hcur, hcl⟩ := own_block hown
        have hb2 : Below w1.heap.size w1 w2 := (Below.refl _ _).grown hgrow (Nat.le_refl _) (fun _ h => by cases h)
        have hsrc : ∀ j v, (cellsOf z (2 * n))[j]? = some v → w2.cell? (ad.add j) = some v := by
          intro j v hv
          obtain ⟨hj, rfl⟩ := cellsOf_some z _ j v hv
          have h1 := (HC.out j hj).1
          rw [hb2.cell (lt_of_cell h1)]
          exact h1
        obtain ⟨w3, hrun, hrow, hb3⟩ := copied w1.heap.size w1.heap.size (2 * n) ad cap cur z w1 w2 hsz1 hcur hcl hsrc (fun m hm => (HC.out m hm).2) hb2 (Nat.le_refl _)
        have HR : Hid (Row w3 w1.heap.size (2 * n) z) := hrow
        clear hown hgrow hcur hcl hsrc hsz1 hrow hb2 hi hz0 hz1 hz2
        refine hid ?_
        by_cases h1 : i < 0
        · go_wp2
          go_ret
          exact ⟨rfl, hb3⟩
        by_cases h2 : k ≤ i
        · go_wp2
          go_ret
          exact ⟨rfl, hb3⟩
        by_cases h3 : j ≤ k
        · go_wp2
          go_ret
          exact ⟨rfl, hb3⟩
        by_cases h4 : (n : Int) < j
        · go_wp2
          go_ret
          exact ⟨rfl, hb3⟩
        go_wp2_with fail
        refine (wf8 w1.heap.size n (2 * n) z w3 (by omega) HR.out).mono ?_
        rintro e w4 ⟨⟨bb, rfl, hwf⟩, rfl⟩
        cases bb
        · clear hwf
          go_wp2
          go_ret
          exact ⟨rfl, hb3⟩
        have HW := hid (hwf rfl)
        clear hwf hrun hnil
        go_wp2_with fail
        refine (zzLeast9 w1.heap.size n (2 * n) z i j _ (by omega) (by omega) (by omega) (by omega) HR.out HW.out).mono ?_
        rintro e w5 ⟨mw, rfl, hmw, rfl⟩
        have HMW := hid hmw
        clear hmw
        go_wp2_with fail
        refine (zzLeast9 w1.heap.size n (2 * n) z i k _ (by omega) (by omega) (by omega) (by omega) HR.out HW.out).mono ?_
        rintro e w6 ⟨ml, rfl, hml, rfl⟩
        have HML := hid hml
        clear hml
        go_wp2_with fail
        refine (zzLeast9 w1.heap.size n (2 * n) z k j _ (by omega) (by omega) (by omega) (by omega) HR.out HW.out).mono ?_
        rintro e w7 ⟨mr, rfl, hmr, rfl⟩
        have HS := hid (splits HMW.out HML.out hmr)
        clear hmr HML HW
        by_cases hlr : mr < ml
        all_goals
          have hne : (mw != (if mr < ml then mr else ml)) = false := by rw [HS.out]; simp
          simp only [hlr, if_true, if_false] at hne
          go_wp2
          go_loop [15] (fun x => ∃ p : Nat, n + i.toNat ≤ p ∧ p ≤ n + j.toNat ∧ x = .int .i64 p ∧ Hid (∀ q, n + i.toNat ≤ q → q < p → z q ≠ mw)) (fun x => n + j.toNat - (intOf x).toNat)
          case atStart => exact ⟨n + i.toNat, by omega, by omega, by go_num, fun q h1 h2 => by omega⟩
          case round =>
            obtain ⟨p, hp1, hp2, rfl, hQ⟩ := hrel
            by_cases hlt : p < n + j.toNat
            · have hc := HR.out p (by omega)
              by_cases he : z p = mw
              · have hee : (z p == mw) = true := by simp [he]
                clear he
                go_wp2
                go_ret
                exact ⟨rfl, hb3⟩
              · have hee : (z p == mw) = false := by simp [he]
                go_wp2
                go_round
                case rel => exact ⟨p + 1, by omega, by omega, by go_num, fun q q1 q2 => by
                  by_cases e : q = p
                  · rw [e]; exact he
                  · exact hQ.out q q1 (by omega)⟩
                case measure => simp [intOf]; omega
            · obtain ⟨⟨q, q1, q2, q3⟩, _⟩ := HMW.out
              exact absurd q3 (hQ.out q q1 (by omega))
      · go_wp2
        go_ret
        exact ⟨rfl, Below.refl _ _⟩

set_option maxHeartbeats 1000000 in
theorem walkNone (i k j : Int) (w : World) :
    Calls Try.prog 4 #[.slice none 0 0, .int .i64 i, .int .i64 k, .int .i64 j] w fun e w' => e = .returned (.bool true) ∧ Below w.heap.size w w' := by
  have hnil := fun (w : World) (n c : Nat) => run_neq_slice_nil_any (P := Try.prog) w 22 21 none n c 0 0 Try.underlying22
  go_enter Try.func4, Try.ntmps4
  go_wp2_with fail
  refine (bytes10 _ _ _ _ _ _ _ (by unfold maxLen; omega)).mono ?_
  rintro e w1 ⟨⟨bb, rfl⟩, rfl⟩
  cases bb
  · go_wp2
    go_ret
    exact ⟨rfl, Below.refl _ _⟩
  by_cases h1 : i < 0
  · go_wp2
    go_ret
    exact ⟨rfl, Below.refl _ _⟩
  by_cases h2 : k ≤ i
  · go_wp2
    go_ret
    exact ⟨rfl, Below.refl _ _⟩
  by_cases h3 : j ≤ k
  · go_wp2
    go_ret
    exact ⟨rfl, Below.refl _ _⟩
  have h4 : 0 < j := by omega
  go_wp2
  go_ret
  exact ⟨rfl, Below.refl _ _⟩
end Go.Proofs.Qxb6617276a
