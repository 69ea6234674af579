import Derived.Test.Qxb6617296aDoorUnesc
import Derived.Test.Qxb6617296aDoorPlainB
import Derived.Deep.QuietTactic
import Derived.BigQuiet
namespace Go.Proofs.Qxb6617296aDoor
open Go.RowKit Plain

theorem getD_byte (s : ByteArray) (k : Nat) (h : k < s.size) : s.data.toList.getD k 0 = s[k] := by
  rw [getD_eq _ _ (by rw [← Lib.size_eq]; exact h)]
  rfl

/-- an escape at n, said of the bytes as the walk reads them -/
theorem eAt_iff (s : ByteArray) (n : Nat) (h : n + 4 ≤ s.size) : eAt s.data.toList n = true ↔
    (s[n] = 92 ∧ 48 ≤ (s[n + 1].toNat : Int) ∧ (s[n + 1].toNat : Int) ≤ 51 ∧ 48 ≤ (s[n + 2].toNat : Int) ∧ (s[n + 2].toNat : Int) ≤ 55 ∧ 48 ≤ (s[n + 3].toNat : Int) ∧ (s[n + 3].toNat : Int) ≤ 55) := by
  have hl : n + 4 ≤ s.data.toList.length := by rw [← Lib.size_eq]; exact h
  rw [eAt_nat, drop4 _ n hl, getD_byte s (n + 1) (by omega), getD_byte s (n + 2) (by omega), getD_byte s (n + 3) (by omega)]
  have e : s.data.toList[n] = s[n] := rfl
  rw [e]
  simp only [escB, Bool.and_eq_true, decide_eq_true_eq, UInt8.le_iff_toNat_le, UInt8.reduceToNat, beq_iff_eq]
  constructor
  · rintro ⟨⟨⟨h1, h2, h3⟩, h4, h5⟩, h6, h7⟩
    exact ⟨h1, by omega, by omega, by omega, by omega, by omega, by omega⟩
  · rintro ⟨h1, h2, h3, h4, h5, h6, h7⟩
    exact ⟨⟨⟨h1, by omega, by omega⟩, by omega, by omega⟩, by omega, by omega⟩

set_option maxHeartbeats 2000000 in
theorem escAt15 (s : ByteArray) (i : Int) (w : World) (hs : s.size ≤ 1099511627776) (hi0 : -1099511627776 ≤ i) (hi1 : i ≤ 1099511627776) :
    Calls Tryd.prog 15 #[.string s, .int .i64 i] w fun e w' => e = .returned (.bool (eAt s.data.toList i)) ∧ w' = w := by
  by_cases hn : i < 0
  · rw [eAt_neg _ _ hn]
    go_enter Tryd.func15, Tryd.ntmps15
    go_wp2
    go_ret
    exact ⟨rfl, rfl⟩
  by_cases h4 : (s.size : Int) - 4 < i
  · rw [eAt_short _ _ (by rw [← Lib.size_eq]; omega)]
    go_enter Tryd.func15, Tryd.ntmps15
    go_wp2
    go_ret
    exact ⟨rfl, rfl⟩
  obtain ⟨n, rfl⟩ := Int.eq_ofNat_of_zero_le (by omega : 0 ≤ i)
  have h4n : n + 4 ≤ s.size := by omega
  have hiff := eAt_iff s n h4n
  clear hn h4 hi0 hi1
  by_cases h92 : s[n] = 92
  · have b92 : ((s[n].toNat : Int) != 92) = false := by rw [h92]; rfl
    by_cases t1 : 48 ≤ (s[n + 1].toNat : Int)
    · by_cases t2 : (s[n + 1].toNat : Int) ≤ 51
      · by_cases t3 : 48 ≤ (s[n + 2].toNat : Int)
        · by_cases t4 : (s[n + 2].toNat : Int) ≤ 55
          · by_cases t5 : 48 ≤ (s[n + 3].toNat : Int)
            · by_cases t6 : (s[n + 3].toNat : Int) ≤ 55
              · rw [hiff.2 ⟨h92, t1, t2, t3, t4, t5, t6⟩]
                clear hiff h92
                go_enter Tryd.func15, Tryd.ntmps15
                go_wp2
                go_ret
                exact ⟨rfl, rfl⟩
              · have d6 : decide ((s[n + 3].toNat : Int) ≤ 55) = false := by simpa using t6
                rw [show eAt s.data.toList n = false from by rw [← Bool.not_eq_true, hiff]; omega]
                clear hiff h92
                go_enter Tryd.func15, Tryd.ntmps15
                go_wp2
                go_ret
                exact ⟨rfl, rfl⟩
            · have d5 : decide (48 ≤ (s[n + 3].toNat : Int)) = false := by simpa using t5
              rw [show eAt s.data.toList n = false from by rw [← Bool.not_eq_true, hiff]; omega]
              clear hiff h92
              go_enter Tryd.func15, Tryd.ntmps15
              go_wp2
              go_ret
              exact ⟨rfl, rfl⟩
          · have d4 : decide ((s[n + 2].toNat : Int) ≤ 55) = false := by simpa using t4
            rw [show eAt s.data.toList n = false from by rw [← Bool.not_eq_true, hiff]; omega]
            clear hiff h92
            go_enter Tryd.func15, Tryd.ntmps15
            go_wp2
            go_ret
            exact ⟨rfl, rfl⟩
        · have d3 : decide (48 ≤ (s[n + 2].toNat : Int)) = false := by simpa using t3
          rw [show eAt s.data.toList n = false from by rw [← Bool.not_eq_true, hiff]; omega]
          clear hiff h92
          go_enter Tryd.func15, Tryd.ntmps15
          go_wp2
          go_ret
          exact ⟨rfl, rfl⟩
      · have d2 : decide ((s[n + 1].toNat : Int) ≤ 51) = false := by simpa using t2
        rw [show eAt s.data.toList n = false from by rw [← Bool.not_eq_true, hiff]; omega]
        clear hiff h92
        go_enter Tryd.func15, Tryd.ntmps15
        go_wp2
        go_ret
        exact ⟨rfl, rfl⟩
    · have d1 : decide (48 ≤ (s[n + 1].toNat : Int)) = false := by simpa using t1
      rw [show eAt s.data.toList n = false from by rw [← Bool.not_eq_true, hiff]; omega]
      clear hiff h92
      go_enter Tryd.func15, Tryd.ntmps15
      go_wp2
      go_ret
      exact ⟨rfl, rfl⟩
  · have b92 : ((s[n].toNat : Int) != 92) = true := by
      rw [bne_iff_ne]
      intro e
      have h' : s[n].toNat = (92 : UInt8).toNat := by show s[n].toNat = 92; omega
      exact h92 (UInt8.toNat_inj.mp h')
    rw [show eAt s.data.toList n = false from by rw [← Bool.not_eq_true, hiff]; intro h; exact h92 h.1]
    clear hiff h92
    go_enter Tryd.func15, Tryd.ntmps15
    go_wp2
    go_ret
    exact ⟨rfl, rfl⟩

set_option maxHeartbeats 2000000 in
theorem covered12 (s : ByteArray) (i : Int) (w : World) (hs : s.size ≤ 1099511627776) (hi0 : -1099511627000 ≤ i) (hi1 : i ≤ 1099511627000) :
    Calls Tryd.prog 12 #[.string s, .int .i64 i] w fun e w' => e = .returned (.bool (cov s.data.toList i)) ∧ w' = w := by
  have c1 := fun w => escAt15 s (i - 1) w hs (by omega) (by omega)
  have c2 := fun w => escAt15 s (i - 2) w hs (by omega) (by omega)
  have c3 := fun w => escAt15 s (i - 3) w hs (by omega) (by omega)
  have hcov : cov s.data.toList i = (eAt s.data.toList (i - 1) || eAt s.data.toList (i - 2) || eAt s.data.toList (i - 3)) := rfl
  rw [hcov]
  clear hcov
  generalize eAt s.data.toList (i - 1) = b1 at *
  generalize eAt s.data.toList (i - 2) = b2 at *
  generalize eAt s.data.toList (i - 3) = b3 at *
  have C1 := hid c1
  have C2 := hid c2
  have C3 := hid c3
  clear c1 c2 c3
  go_enter Tryd.func12, Tryd.ntmps12
  go_wp2_with fail
  refine (C1.out _).mono ?_
  rintro e w1 ⟨rfl, rfl⟩
  cases b1
  · go_wp2_with fail
    refine (C2.out _).mono ?_
    rintro e w2 ⟨rfl, rfl⟩
    cases b2
    · go_wp2_with fail
      refine (C3.out _).mono ?_
      rintro e w3 ⟨rfl, rfl⟩
      cases b3
      all_goals
        go_wp2
        go_ret
        exact ⟨rfl, rfl⟩
    · go_wp2
      go_ret
      exact ⟨rfl, rfl⟩
  · go_wp2
    go_ret
    exact ⟨rfl, rfl⟩

set_option maxHeartbeats 2000000 in
theorem count13 (s : ByteArray) (w : World) (hs : s.size ≤ 1099511627000) :
    Calls Tryd.prog 13 #[.string s] w fun e w' => e = .returned (.int .i64 (cnt s.data.toList s.size)) ∧ w' = w := by
  go_enter Tryd.func13, Tryd.ntmps13
  go_wp2
  go_loop [3, 4] (fun c i => ∃ k : Nat, k ≤ s.size ∧ i = .int .i64 k ∧ c = .int .i64 (cnt s.data.toList k)) (fun _ i => s.size - (intOf i).toNat)
  case atStart => exact ⟨0, Nat.zero_le _, rfl, rfl⟩
  case round =>
    obtain ⟨k, hk, rfl, rfl⟩ := hrel
    have hc := cnt_le s.data.toList k
    by_cases hlt : k < s.size
    · have HS : Hid (cnt s.data.toList (k + 1) = cnt s.data.toList k + if eAt s.data.toList k then 1 else 0) := rfl
      generalize hg : cnt s.data.toList k = m at *
      have HG := hid hg
      clear hg
      go_wp2_with fail
      refine (escAt15 s k _ (by omega) (by omega) (by omega)).mono ?_
      generalize eAt s.data.toList k = b at *
      rintro e w1 ⟨rfl, rfl⟩
      cases b
      · have H2 : Hid (cnt s.data.toList (k + 1) = m) := HS.out
        clear HS
        go_wp2
        go_round
        case rel => exact ⟨k + 1, by omega, by go_num, by rw [H2.out]⟩
        case measure => simp [intOf]; omega
      · have H2 : Hid (cnt s.data.toList (k + 1) = m + 1) := HS.out
        clear HS
        go_wp2
        go_round
        case rel => exact ⟨k + 1, by omega, by go_num, by rw [H2.out]; go_num⟩
        case measure => simp [intOf]; omega
    · have he : k = s.size := by omega
      subst he
      go_wp2
      go_ret
      exact ⟨rfl, rfl⟩

set_option maxHeartbeats 2000000 in
theorem value16 (s : ByteArray) (n : Nat) (w : World) (hs : s.size ≤ 1099511627776) (h4 : n + 4 ≤ s.size) (he : eAt s.data.toList n = true) :
    Calls Tryd.prog 16 #[.string s, .int .i64 n] w fun e w' => e = .returned (.int .u8 (escV (s.data.toList.drop n)).toNat) ∧ ∃ q, w' = w.drewN q := by
  obtain ⟨_, t1, t2, t3, t4, t5, t6⟩ := (eAt_iff s n h4).1 he
  have hv : ((escV (s.data.toList.drop n)).toNat : Int) = ((s[n + 1].toNat : Int) - 48) * 64 + ((s[n + 2].toNat : Int) - 48) * 8 + ((s[n + 3].toNat : Int) - 48) := by
    rw [drop4 _ n (by rw [← Lib.size_eq]; exact h4), getD_byte s (n + 1) (by omega), getD_byte s (n + 2) (by omega), getD_byte s (n + 3) (by omega)]
    exact byte_val _ _ _ (by omega) (by omega) (by omega) (by omega) (by omega) (by omega)
  have HV := hid hv
  clear hv he
  have i1 : 0 ≤ (n : Int) + 1 ∧ (n : Int) + 1 < s.size := by omega
  have i2 : 0 ≤ (n : Int) + 2 ∧ (n : Int) + 2 < s.size := by omega
  have i3 : 0 ≤ (n : Int) + 3 ∧ (n : Int) + 3 < s.size := by omega
  go_enter Tryd.func16, Tryd.ntmps16
  go_wp2
  go_quiet (fail)
  go_wp2
  go_ret
  exact ⟨by rw [HV.out]; rfl, _, rfl⟩
end Go.Proofs.Qxb6617296aDoor
