/- THE PLAIN LAWS ON POSITIONS: no Go in sight. -/
import Derived.Test.Qxb6617296aDoorPlain
namespace Go.Proofs.Qxb6617296aDoor.Plain

/-- a valid escape stands at place i -/
def eAt (l : List UInt8) (i : Int) : Bool := if i < 0 then false else escB (l.drop i.toNat)
/-- place i is one of an escape's digits -/
def cov (l : List UInt8) (i : Int) : Bool := eAt l (i - 1) || eAt l (i - 2) || eAt l (i - 3)
/-- what place i gives -/
def pieceAt (l : List UInt8) (i : Nat) : List UInt8 := if eAt l i then [escV (l.drop i)] else if cov l i then [] else [l.getD i 0]
/-- what the first k places give -/
def posTo (l : List UInt8) : Nat → List UInt8
  | 0 => []
  | k + 1 => posTo l k ++ pieceAt l k
/-- so many of the first k places begin an escape -/
def cnt (l : List UInt8) : Nat → Nat
  | 0 => 0
  | k + 1 => cnt l k + if eAt l k then 1 else 0
/-- so many bytes from place k on belong to an escape that has begun -/
def sk (l : List UInt8) (k : Int) : Nat := if eAt l (k - 1) then 3 else if eAt l (k - 2) then 2 else if eAt l (k - 3) then 1 else 0

theorem eAt_nat (l : List UInt8) (k : Nat) : eAt l k = escB (l.drop k) := by
  unfold eAt
  rw [if_neg (by omega), Int.toNat_natCast]

theorem eAt_neg (l : List UInt8) (i : Int) (h : i < 0) : eAt l i = false := by
  unfold eAt
  rw [if_pos h]

theorem eAt_short (l : List UInt8) (i : Int) (h : (l.length : Int) < i + 4) : eAt l i = false := by
  unfold eAt
  split
  · rfl
  · exact escB_short _ (by rw [List.length_drop]; omega)

theorem escB_cons (l : List UInt8) (h : escB l = true) : ∃ d1 d2 d3 r, l = 92 :: d1 :: d2 :: d3 :: r ∧ d1 ≠ 92 ∧ d2 ≠ 92 ∧ d3 ≠ 92 := by
  match l, h with
  | c :: d1 :: d2 :: d3 :: r, h =>
    simp only [escB, Bool.and_eq_true, beq_iff_eq, decide_eq_true_eq, UInt8.le_iff_toNat_le, UInt8.reduceToNat] at h
    obtain ⟨⟨⟨rfl, h1⟩, h2⟩, h3⟩ := h
    refine ⟨d1, d2, d3, r, rfl, ?_, ?_, ?_⟩ <;> (intro e; subst e; simp at h1 h2 h3)

theorem escB_next (l : List UInt8) (m : Nat) (h : escB l = true) (h1 : 1 ≤ m) (h2 : m ≤ 3) : escB (l.drop m) = false := by
  obtain ⟨d1, d2, d3, r, rfl, n1, n2, n3⟩ := escB_cons l h
  rcases (show m = 1 ∨ m = 2 ∨ m = 3 from by omega) with rfl | rfl | rfl
  · exact escB_head _ d1 _ rfl n1
  · exact escB_head _ d2 _ rfl n2
  · exact escB_head _ d3 _ rfl n3

theorem eAt_next (l : List UInt8) (i : Int) (m : Nat) (h : eAt l i = true) (h1 : 1 ≤ m) (h2 : m ≤ 3) : eAt l (i + m) = false := by
  unfold eAt at h ⊢
  split at h
  · cases h
  · rw [if_neg (by omega)]
    have := escB_next (l.drop i.toNat) m h h1 h2
    rw [List.drop_drop] at this
    rw [show (i + (m : Int)).toNat = i.toNat + m from by omega]
    exact this

theorem drop_cons (l : List UInt8) (k : Nat) (h : k < l.length) : l.drop k = l.getD k 0 :: l.drop (k + 1) := by
  rw [List.drop_eq_getElem_cons h]
  simp [List.getD, List.getElem?_eq_getElem h]

theorem step (l : List UInt8) (k : Nat) (h : k < l.length) :
    un (sk l k) (l.drop k) = pieceAt l k ++ un (sk l ((k : Int) + 1)) (l.drop (k + 1)) ∧ (pieceAt l k).length + 3 * (if eAt l k then 1 else 0) + sk l k = 1 + sk l ((k : Int) + 1) := by
  have hd := drop_cons l k h
  have e0 := eAt_nat l k
  have a1 : (k : Int) + 1 - 1 = k := by omega
  have a2 : (k : Int) + 1 - 2 = (k : Int) - 1 := by omega
  have a3 : (k : Int) + 1 - 3 = (k : Int) - 2 := by omega
  unfold pieceAt cov sk
  rw [a1, a2, a3]
  by_cases c1 : eAt l ((k : Int) - 1) = true
  · have n0 : eAt l k = false := by
      have := eAt_next l _ 1 c1 (by omega) (by omega)
      rwa [show (k : Int) - 1 + ((1 : Nat) : Int) = k from by omega] at this
    rw [hd]
    simp [c1, n0, un_succ]
  · have c1' : eAt l ((k : Int) - 1) = false := by simpa using c1
    by_cases c2 : eAt l ((k : Int) - 2) = true
    · have n0 : eAt l k = false := by
        have := eAt_next l _ 2 c2 (by omega) (by omega)
        rwa [show (k : Int) - 2 + ((2 : Nat) : Int) = k from by omega] at this
      rw [hd]
      simp [c1', c2, n0, un_succ]
    · have c2' : eAt l ((k : Int) - 2) = false := by simpa using c2
      by_cases c3 : eAt l ((k : Int) - 3) = true
      · have n0 : eAt l k = false := by
          have := eAt_next l _ 3 c3 (by omega) (by omega)
          rwa [show (k : Int) - 3 + ((3 : Nat) : Int) = k from by omega] at this
        rw [hd]
        simp [c1', c2', c3, n0, un_succ]
      · have c3' : eAt l ((k : Int) - 3) = false := by simpa using c3
        by_cases c0 : eAt l k = true
        · have e : escB (l.getD k 0 :: l.drop (k + 1)) = true := by rw [← hd, ← e0]; exact c0
          rw [hd]
          generalize l.getD k 0 = c at *
          simp [c0, c1', c2', c3', un_zero, e]
        · have c0' : eAt l k = false := by simpa using c0
          have e : escB (l.getD k 0 :: l.drop (k + 1)) = false := by rw [← hd, ← e0]; exact c0'
          rw [hd]
          generalize l.getD k 0 = c at *
          simp [c0', c1', c2', c3', un_zero, e]

theorem sk_zero (l : List UInt8) : sk l 0 = 0 := by
  unfold sk
  rw [eAt_neg l _ (by omega), eAt_neg l _ (by omega), eAt_neg l _ (by omega)]
  rfl

theorem pos_step (l : List UInt8) (k : Nat) (h : k ≤ l.length) : un 0 l = posTo l k ++ un (sk l k) (l.drop k) ∧ (posTo l k).length + 3 * cnt l k = k + sk l k := by
  induction k with
  | zero => exact ⟨by rw [show ((0 : Nat) : Int) = 0 from rfl, sk_zero]; rfl, by rw [show ((0 : Nat) : Int) = 0 from rfl, sk_zero]; rfl⟩
  | succ k ih =>
    obtain ⟨h1, h2⟩ := ih (by omega)
    obtain ⟨s1, s2⟩ := step l k (by omega)
    have ek : ((k + 1 : Nat) : Int) = (k : Int) + 1 := by omega
    rw [ek]
    refine ⟨?_, ?_⟩
    · rw [h1, s1]
      simp [posTo]
    · simp only [posTo, cnt, List.length_append]
      omega

theorem sk_end (l : List UInt8) : sk l l.length = 0 := by
  unfold sk
  rw [eAt_short l _ (by omega), eAt_short l _ (by omega), eAt_short l _ (by omega)]
  rfl

/-- THE LAW OF POSITIONS -/
theorem un_posTo (l : List UInt8) : un 0 l = posTo l l.length := by
  have := (pos_step l l.length (Nat.le_refl _)).1
  rw [sk_end, List.drop_length, un_nil, List.append_nil] at this
  exact this

/-- THE LAW OF LENGTHS -/
theorem un_length (l : List UInt8) : (un 0 l).length + 3 * cnt l l.length = l.length := by
  have := (pos_step l l.length (Nat.le_refl _)).2
  rw [sk_end] at this
  rw [un_posTo]; omega

theorem escB_take (a b : List UInt8) (i : Nat) (h : i + 4 ≤ a.length) : escB ((a ++ b).drop i) = escB (a.drop i) ∧ escV ((a ++ b).drop i) = escV (a.drop i) := by
  rw [List.drop_append_of_le_length (by omega)]
  have hl : 4 ≤ (a.drop i).length := by rw [List.length_drop]; omega
  match a.drop i, hl with
  | _ :: _ :: _ :: _ :: _, _ => exact ⟨rfl, rfl⟩

theorem eAt_app (a b : List UInt8) (hc : cov (a ++ b) a.length = false) (i : Int) (h : i < a.length) : eAt (a ++ b) i = eAt a i := by
  by_cases hn : i < 0
  · rw [eAt_neg _ _ hn, eAt_neg _ _ hn]
  · by_cases h4 : i + 4 ≤ a.length
    · unfold eAt
      rw [if_neg hn, if_neg hn]
      exact (escB_take a b i.toNat (by omega)).1
    · rw [eAt_short a i (by omega)]
      unfold cov at hc
      simp only [Bool.or_eq_false_iff] at hc
      rcases (show i = (a.length : Int) - 1 ∨ i = (a.length : Int) - 2 ∨ i = (a.length : Int) - 3 from by omega) with rfl | rfl | rfl
      · exact hc.1.1
      · exact hc.1.2
      · exact hc.2

theorem posTo_app (a b : List UInt8) (hc : cov (a ++ b) a.length = false) (k : Nat) (h : k ≤ a.length) : posTo (a ++ b) k = posTo a k := by
  induction k with
  | zero => rfl
  | succ k ih =>
    simp only [posTo]
    rw [ih (by omega)]
    have e : pieceAt (a ++ b) k = pieceAt a k := by
      unfold pieceAt cov
      rw [eAt_app a b hc k (by omega), eAt_app a b hc _ (by omega), eAt_app a b hc _ (by omega), eAt_app a b hc _ (by omega)]
      by_cases he : eAt a k = true
      · rw [if_pos he, if_pos he]
        have h4 : k + 4 ≤ a.length := by
          rcases Nat.lt_or_ge a.length (k + 4) with h' | h'
          · rw [eAt_short a k (by omega)] at he; cases he
          · exact h'
        rw [(escB_take a b k h4).2]
      · rw [if_neg he, if_neg he]
        have : (a ++ b).getD k 0 = a.getD k 0 := by
          simp only [List.getD]
          rw [List.getElem?_append_left (by omega)]
        rw [this]
    rw [e]

/-- THE LAW OF THE CUT -/
theorem un_app (a b : List UInt8) (hc : cov (a ++ b) a.length = false) : un 0 (a ++ b) = un 0 a ++ un 0 b := by
  have h := (pos_step (a ++ b) a.length (by simp)).1
  have hs : sk (a ++ b) a.length = 0 := by
    unfold cov at hc
    simp only [Bool.or_eq_false_iff] at hc
    unfold sk
    simp [hc.1.1, hc.1.2, hc.2]
  rw [hs, List.drop_left, posTo_app a b hc a.length (Nat.le_refl _), ← un_posTo a] at h
  exact h

theorem cnt_le (l : List UInt8) (k : Nat) : cnt l k ≤ k := by
  induction k with
  | zero => exact Nat.le_refl _
  | succ k ih => simp only [cnt]; split <;> omega

theorem pieceAt_length (l : List UInt8) (k : Nat) : (pieceAt l k).length ≤ 1 := by
  unfold pieceAt
  split
  · simp
  · split <;> simp
theorem posTo_length (l : List UInt8) (k : Nat) : (posTo l k).length ≤ k := by
  induction k with
  | zero => exact Nat.le_refl _
  | succ k ih => simp only [posTo, List.length_append]; have := pieceAt_length l k; omega
end Go.Proofs.Qxb6617296aDoor.Plain
