import Derived.Test.Qxb6617248aRows
import Derived.Test.Qxb6617248aSuWalk
import Derived.WalkKit
import Derived.ProofKit
import Derived.OpenShut
import Derived.ShutString
import Derived.ChangeOld
import Derived.Below
namespace Go.Proofs.Qxb6617248a.fnSubscriptionFiguresChangeOneField
open Go.ChangeShapes Go.WideShapes Go.ChangeAt Go.RowKit
open Go.ChangeMaps (open_string shut_string)
set_option linter.unusedVariables false

theorem own : ownKnob Try.prog.godebug = none := by kernel_rfl
theorem laidOut : laidOutB Try.prog = true := by kernel_rfl
theorem cells40 : Try.prog.cellsOf 40 = 7 := by kernel_rfl
theorem cells9 : Try.prog.cellsOf 9 = 1 := by kernel_rfl

/-- An array of strings that came in: each of its cells is a string. -/
theorem open_strs {H : Type} {enc : TypeId × Value → H} {W : World} {base : Nat} {sp : Nat → Bool} {held : Bool} {cs : Array Value} {d : DataW H} {p : List MemPlace} (hsz : cs.size = 7)
    (h : DataW.Trod enc Try.prog W base sp held 40 (.agg cs) d p) : ∃ F : Nat → ByteArray, ∀ k, k < 7 → cs[k]? = some (.string (F k)) := by
  obtain ⟨fuel, hf⟩ := h
  obtain ⟨xs, m, _, _, _, hl, hx⟩ := DataW.trod_array Try.underlying40 hf
  have key : ∀ k, k < 7 → ∃ s : ByteArray, cs[k]? = some (.string s) := by
    intro k hk
    have h1 := hx k hk
    rw [List.getElem?_eq_getElem (by omega)] at h1
    obtain ⟨s, hs, _, _⟩ := DataW.trod_string Try.underlying9 h1
    rw [cells9, Nat.mul_one] at hs
    refine ⟨s, ?_⟩
    have h2 : ((cs.toList.drop k).take 1)[0]? = some (.string s) := by
      have : (Value.agg cs).cells = cs := rfl
      rw [this] at hs
      rw [hs]; rfl
    rw [List.getElem?_take_of_lt (by omega), List.getElem?_drop] at h2
    simpa using h2
  exact ⟨fun k => if h : k < 7 then (key k h).choose else ByteArray.empty, fun k hk => by show cs[k]? = some (.string (if h : k < 7 then (key k h).choose else ByteArray.empty)); rw [dif_pos hk]; exact (key k hk).choose_spec⟩

set_option maxRecDepth 100000 in
theorem lifted (os : Os) (started : os.Started) (H : Type) (enc : TypeId × Value → H) :
    ReturnsInHanded {} Try.checked os 7 .any (Rows.fnSubscriptionFiguresChangeOneFieldSpec.pre6 enc Try.prog Try.f7 Rows.fnSubscriptionFiguresChangeOneFieldRow.domain false) (Rows.fnSubscriptionFiguresChangeOneFieldSpec.post enc Try.prog Try.f7 false true false false) := by
  refine returnsInHanded_of_change (C := Try.checked) own started (by kernel_rfl) Try.func7
    (ChangeSpec.witness6 (enc := enc) (C := Try.checked) false ⟨#[], #[.agg #[.string ⟨#[]⟩, .string ⟨#[]⟩, .string ⟨#[]⟩, .string ⟨#[]⟩, .string ⟨#[]⟩, .string ⟨#[]⟩, .string ⟨#[]⟩], .int .i64 0, .string ⟨#[]⟩], []⟩ 8 (by kernel_rfl) (by kernel_rfl) (by kernel_rfl) (by kernel_rfl)) ?_
  intro W base args ds gs before hval0 hW hcnd _
  have hval : ∀ (j : Nat) t v, Try.f7.params[j]? = some t → args[j]? = some v → Value.okWide Try.prog W .any base t v := hval0
  have hW' := hW
  obtain ⟨p, q, hA0, hV, rfl, hfz, hnd⟩ := hW
  have hA : DataW.TrodAll enc Try.prog W 0 (fun _ => true) true Try.f7.params.toList args.toList ds p := hA0
  rw [Try.params7] at hA hval
  obtain ⟨v0, vs0, d0, ds0, p0, q0, hargs, rfl, rfl, h0, r0⟩ := trodAll_cons hA
  obtain ⟨v1, vs1, d1, ds1, p1, q1, rfl, rfl, rfl, h1, r1⟩ := trodAll_cons r0
  obtain ⟨v2, vs2, d2, ds2, p2, q2, rfl, rfl, rfl, h2, r2⟩ := trodAll_cons r1
  obtain ⟨rfl, rfl, rfl⟩ := trodAll_nil r2
  obtain rfl : args = #[v0, v1, v2] := by cases args; simp_all
  obtain ⟨rfl, rfl⟩ := trodVars_none hV
  obtain ⟨cs, rfl, hsz, _⟩ : ∃ cs, v0 = .agg cs ∧ cs.size = Try.prog.cellsOf 40 ∧ Row.okWide Try.prog W .any base 40 cs := by
    have := hval 0 40 v0 rfl rfl
    simpa [Value.okWide, Try.underlying40] using this
  rw [cells40] at hsz
  have k0 := h0
  have lt0 : ∀ x ∈ p0, x.block < W.heap.size := by obtain ⟨m, hm⟩ := k0; exact DataW.trod_lt m _ _ _ hm
  obtain ⟨F, hF⟩ := open_strs hsz h0
  obtain ⟨a1, rfl, rfl, rfl, w1⟩ := open_int Try.underlying3 (hval 1 3 v1 rfl rfl) h1
  obtain ⟨a2, rfl, rfl, rfl, w2⟩ := open_string Try.underlying9 (hval 2 9 v2 rfl rfl) h2
  clear hA0 hval0
  refine (Su.walk cs F hsz hF a1 a2 W).mono fun e W' ⟨he, bel⟩ => ?_
  subst he
  exact ⟨_, rfl, _, _, _, [], _, [], hW', trodAll_mk1 (shut_bool Try.underlying4 _), (trodAll_cons_mk (Below.trod laidOut (by kernel_rfl) (of_decide_eq_true (by kernel_rfl)) k0 bel lt0) (trodAll_cons_mk (shut_int Try.underlying3 w1) (trodAll_cons_mk (shut_string Try.underlying9 w2) trodAll_mk0))), rfl, bel.frame _, fun h => by cases h⟩

theorem over : Rows.fnSubscriptionFiguresChangeOneFieldRow.holds Try.pinned (OpenSpec.ofChange Rows.fnSubscriptionFiguresChangeOneFieldSpec) :=
  OpenClaim.holds_of_wide 7 Try.f7 rfl rfl rfl rfl rfl rfl rfl ⟨rfl, rfl, rfl, rfl, rfl⟩ rfl rfl rfl rfl rfl (by kernel_rfl) Try.func7 (by kernel_rfl)
    (of_decide_eq_true (by kernel_rfl)) (by unfold Func.isWrapper; first | (rw [if_pos (by decide +kernel)]; kernel_rfl) | (rw [if_neg (by decide +kernel)]; exact ⟨rfl, rfl⟩))
    (fun os started H enc _ => lifted os started H enc)

/-- THE STATEMENT -/
theorem proved : Rows.FnSubscriptionFiguresChangeOneFieldSaid := over
end Go.Proofs.Qxb6617248a.fnSubscriptionFiguresChangeOneField
