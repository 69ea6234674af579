import Derived.Test.Qxb6617248aFacts
import Derived.Deep.QuietTactic
import Derived.BigQuiet
namespace Go.Proofs.Qxb6617248a
open Go.RowKit
namespace Su
set_option maxHeartbeats 1000000 in
theorem walk (cs : Array Value) (F : Nat → ByteArray) (hsz : cs.size = 7) (hcs : ∀ k, k < 7 → cs[k]? = some (.string (F k))) (k : Int) (v : ByteArray) (w : World) :
    Calls Try.prog 7 #[.agg cs, .int .i64 k, .string v] w fun e w' => e = .returned (.bool true) ∧ Below w.heap.size w w' := by
  have hget : ∀ j (h : j < cs.size), cs[j] = .string (F j) := by
    intro j h
    have := hcs j (by omega)
    rw [Array.getElem?_eq_getElem h] at this
    exact Option.some.inj this
  clear hcs
  go_enter Try.func7, Try.ntmps7
  go_wp2_with fail
  refine (bytesAny _ F (lit_get F) _ _ _).mono ?_
  rintro e w1 ⟨⟨bb, rfl⟩, o, rfl⟩
  cases bb
  · go_wp2
    go_ret
    exact ⟨rfl, ((Below.refl _ _).alloc (Nat.le_refl _) _).alloc (by simp) _⟩
  · by_cases hv1 : 1048576 < v.size
    · go_wp2
      go_ret
      exact ⟨rfl, ((Below.refl _ _).alloc (Nat.le_refl _) _).alloc (by simp) _⟩
    · go_wp2
      go_loop [7, 8] (fun n i => ∃ k : Nat, k ≤ 7 ∧ i = .int .i64 k ∧ ∃ m : Int, n = .int .i64 m) (fun _ i => 7 - (intOf i).toNat)
      case atStart => exact ⟨0, Nat.zero_le _, rfl, _, rfl⟩
      case round =>
        obtain ⟨j, hj, rfl, m, rfl⟩ := hrel
        by_cases hlt : j < 7
        · go_wp2
          case roundEnd =>
            go_round
            case rel => exact ⟨j + 1, by omega, by go_num, _, rfl⟩
            case measure => simp [intOf]; omega
          all_goals
            go_ret
            exact ⟨rfl, ((Below.refl _ _).alloc (Nat.le_refl _) _).alloc (by simp) _⟩
        · by_cases hk0 : k < 0
          · go_wp2
            go_ret
            exact ⟨rfl, ((Below.refl _ _).alloc (Nat.le_refl _) _).alloc (by simp) _⟩
          · by_cases hk1 : 7 ≤ k
            · go_wp2
              go_ret
              exact ⟨rfl, ((Below.refl _ _).alloc (Nat.le_refl _) _).alloc (by simp) _⟩
            · go_wp2_with fail
              obtain ⟨fF, fG, fB, fS⟩ := startFacts w cs F k.toNat v o hsz hget
              generalize (((w.alloc (.cells cs 40)).alloc o).alloc (.cells (([.string (F 0), .string (F 1), .string (F 2), .string (F 3), .string (F 4), .string (F 5), .string (F 6)] : List Value).set k.toNat (.string v)).toArray 40)) = W at *
              clear hget
              generalize upd F k.toNat v = G at *
              refine (ofCalls F _).mono ?_
              rintro e W1 ⟨rfl, b1⟩
              go_wp2_with fail
              refine (figAny F _).mono ?_
              rintro e W2 ⟨rfl, g2, b2, z2⟩
              have z1 := b1.size
              have fG2 : ∀ j, j < 7 → W2.cell? ⟨w.heap.size + 1 + 1, j, none⟩ = some (.string (G j)) := fun j hj => by
                rw [bcell b2 (by omega) j, bcell b1 (by omega) j]; exact fG j hj
              have HF : Hid (∀ j, j < 7 → W2.cell? ⟨w.heap.size, j, none⟩ = some (.string (F j))) := fun j hj => by
                rw [bcell b2 (by omega) j, bcell b1 (by omega) j]; exact fF j hj
              have zz2 : W1.heap.size + 1 < W2.heap.size := by omega
              have zz1 : w.heap.size + 3 ≤ W2.heap.size := by omega
              have bb2 : Below w.heap.size w W2 := (fB.trans (b1.mono (by omega))).trans (b2.mono (by omega))
              have HG2 : Hid (Figs (W1.heap.size + 1) F W2) := g2
              clear fF fG z2 fS b1 b2 fB z1 g2
              generalize W1.heap.size + 1 = ba at *
              go_wp2_with fail
              refine (ofCalls G _).mono ?_
              rintro e W3 ⟨rfl, b3⟩
              go_wp2_with fail
              refine (figAny G _).mono ?_
              rintro e W4 ⟨rfl, g4, b4, z4⟩
              have z3 := b3.size
              have HF4 : Hid (∀ j, j < 7 → W4.cell? ⟨w.heap.size, j, none⟩ = some (.string (F j))) := fun j hj => by
                rw [bcell b4 (by omega) j, bcell b3 (by omega) j]; exact HF.out j hj
              have HG4 : Hid (∀ j, j < 7 → W4.cell? ⟨w.heap.size + 1 + 1, j, none⟩ = some (.string (G j))) := fun j hj => by
                rw [bcell b4 (by omega) j, bcell b3 (by omega) j]; exact fG2 j hj
              have HA : Hid (Figs ba F W4) := fun j hj => by
                rw [bcell b4 (by omega) _, bcell b3 (by omega) _, bcell b4 (by omega) _, bcell b3 (by omega) _]; exact HG2.out j hj
              have HB : Hid (Figs (W3.heap.size + 1) G W4) := g4
              have bb4 : Below w.heap.size w W4 := (bb2.trans (b3.mono (by omega))).trans (b4.mono (by omega))
              clear g4 b3 b4 z4 z3 fG2 bb2 HF HG2 zz1 zz2
              generalize W3.heap.size + 1 = bb at *
              go_wp2_with fail
              obtain ⟨n1, n2, n3⟩ := namesFacts
              refine (sound11 ba 7 (fun j => names.getD j ByteArray.empty) W4 (by omega) (fun j hj => (HA.out j hj).1) n1 n2 n3).mono ?_
              rintro e w5 ⟨rfl, rfl⟩
              clear n1 n2 n3
              go_wp2
              go_loopw [12] (fun i wr => ∃ j : Nat, j ≤ 7 ∧ i = .int .i64 j ∧ ∃ q, wr = w5.drewN q) (fun i _ => 7 - (intOf i).toNat)
              case atStart => exact ⟨0, Nat.zero_le _, rfl, 0, rfl⟩
              case round =>
                obtain ⟨i, hi, rfl, q, rfl⟩ := hrel
                by_cases hit : i < 7
                · obtain ⟨a0, a1⟩ := HA.out i hit
                  obtain ⟨e0, e1⟩ := HB.out i hit
                  have f0 := HF4.out i hit
                  have g0 := HG4.out i hit
                  go_wp2
                  go_quiet (fail)
                  go_wp2
                  go_roundw
                  case rel => exact ⟨i + 1, by omega, by go_num, _, rfl⟩
                  case measure => simp [intOf]; omega
                · go_wp2
                  go_ret
                  exact ⟨rfl, below_drewN bb4 q⟩
end Su
end Go.Proofs.Qxb6617248a
