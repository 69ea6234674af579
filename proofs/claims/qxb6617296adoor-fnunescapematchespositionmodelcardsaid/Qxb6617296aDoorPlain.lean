/- THE PLAIN LAWS: no Go in sight. -/
namespace Go.Proofs.Qxb6617296aDoor.Plain

/-- a valid escape stands at the head: a backslash and three octal digits of value at most 0377 -/
def escB : List UInt8 → Bool
  | c :: d1 :: d2 :: d3 :: _ => c == 92 && (48 ≤ d1 && d1 ≤ 51) && (48 ≤ d2 && d2 ≤ 55) && (48 ≤ d3 && d3 ≤ 55)
  | _ => false
/-- the byte that it stands for -/
def escV : List UInt8 → UInt8
  | _ :: d1 :: d2 :: d3 :: _ => (d1 - 48) * 64 + (d2 - 48) * 8 + (d3 - 48)
  | _ => 0

/-- unescape, with so many bytes to pass over first -/
def un : Nat → List UInt8 → List UInt8
  | _, [] => []
  | k + 1, _ :: t => un k t
  | 0, c :: t => if escB (c :: t) then escV (c :: t) :: un 3 t else c :: un 0 t

theorem un_nil (k : Nat) : un k [] = [] := by cases k <;> rfl
theorem un_zero (c : UInt8) (t : List UInt8) : un 0 (c :: t) = if escB (c :: t) then escV (c :: t) :: un 3 t else c :: un 0 t := rfl
theorem un_succ (k : Nat) (c : UInt8) (t : List UInt8) : un (k + 1) (c :: t) = un k t := rfl

theorem un_drop (k : Nat) (l : List UInt8) : un k l = un 0 (l.drop k) := by
  induction k generalizing l with
  | zero => rfl
  | succ k ih =>
    cases l with
    | nil => simp [un_nil]
    | cons c t => rw [un_succ, ih, List.drop_succ_cons]

/-- one round that takes an escape -/
theorem step_esc (l : List UInt8) (i : Nat) (h : escB (l.drop i) = true) : un 0 (l.drop i) = escV (l.drop i) :: un 0 (l.drop (i + 4)) := by
  cases hd : l.drop i with
  | nil => rw [hd] at h; cases h
  | cons c t =>
    rw [hd] at h
    rw [un_zero, if_pos h, un_drop 3 t]
    have e : l.drop (i + 4) = t.drop 3 := by
      rw [← List.drop_drop, hd]; rfl
    rw [e]

/-- one round that takes the byte as it is -/
theorem step_byte (l : List UInt8) (i : Nat) (hi : i < l.length) (h : escB (l.drop i) = false) : un 0 (l.drop i) = l[i] :: un 0 (l.drop (i + 1)) := by
  have hd : l.drop i = l[i] :: l.drop (i + 1) := List.drop_eq_getElem_cons hi
  rw [hd] at h
  rw [hd, un_zero, if_neg (by rw [h]; simp)]

theorem escB_short (l : List UInt8) (h : l.length < 4) : escB l = false := by
  match l, h with
  | [], _ => rfl
  | [_], _ => rfl
  | [_, _], _ => rfl
  | [_, _, _], _ => rfl

theorem escB_head (l : List UInt8) (c : UInt8) (t : List UInt8) (hl : l = c :: t) (h : c ≠ 92) : escB l = false := by
  subst hl
  match t with
  | [] => rfl
  | [_] => rfl
  | [_, _] => rfl
  | d1 :: d2 :: d3 :: r => simp [escB, h]

theorem un_length_le (l : List UInt8) : ∀ k, (un k l).length ≤ l.length := by
  induction l with
  | nil => intro k; rw [un_nil]; simp
  | cons c t ih =>
    intro k
    cases k with
    | zero =>
      rw [un_zero]
      split
      · have := ih 3; simp; omega
      · have := ih 0; simp; omega
    | succ k => rw [un_succ]; have := ih k; simp; omega

/-! ### escaping -/
/-- a byte written as an escape -/
def esc1 (c : UInt8) : List UInt8 := [(92 : UInt8), (48 : UInt8) + (c >>> (6 : UInt8)), (48 : UInt8) + ((c >>> (3 : UInt8)) &&& (7 : UInt8)), (48 : UInt8) + (c &&& (7 : UInt8))]
/-- is the byte written so? -/
def must (all : Bool) (c : UInt8) : Bool := all || c == 32 || c == 9 || c == 10 || c == 92
def piece (all : Bool) (c : UInt8) : List UInt8 := if must all c then esc1 c else [c]
def mangle (all : Bool) (p : List UInt8) : List UInt8 := p.flatMap (piece all)

theorem esc1_ok : ∀ c : UInt8, escB (esc1 c) = true ∧ escV (esc1 c) = c := by
  have h : ∀ n : Fin 256, escB (esc1 (UInt8.ofNat n.val)) = true ∧ escV (esc1 (UInt8.ofNat n.val)) = UInt8.ofNat n.val := by decide +kernel
  intro c
  have := h ⟨c.toNat, c.toNat_lt⟩
  simpa using this

theorem un_esc1 (c : UInt8) (r : List UInt8) : un 0 (esc1 c ++ r) = c :: un 0 r := by
  obtain ⟨h1, h2⟩ := esc1_ok c
  have e1 : escB (esc1 c ++ r) = true := h1
  have e2 : escV (esc1 c ++ r) = c := h2
  have := step_esc (esc1 c ++ r) 0 e1
  rw [List.drop_zero, e2] at this
  exact this

theorem un_mangle (all : Bool) (p : List UInt8) : un 0 (mangle all p) = p := by
  induction p with
  | nil => rfl
  | cons c t ih =>
    have e : mangle all (c :: t) = piece all c ++ mangle all t := by simp [mangle]
    rw [e]
    unfold piece
    by_cases hm : must all c = true
    · rw [if_pos hm, un_esc1, ih]
    · rw [if_neg hm]
      have hc : c ≠ 92 := by
        intro h
        subst h
        simp [must] at hm
      have hb := escB_head (c :: mangle all t) c (mangle all t) rfl hc
      rw [List.singleton_append, un_zero, if_neg (by rw [hb]; simp), ih]

theorem piece_length (all : Bool) (c : UInt8) : (piece all c).length ≤ 4 := by unfold piece; split <;> simp [esc1]
theorem mangle_length (all : Bool) (p : List UInt8) : (mangle all p).length ≤ 4 * p.length := by
  induction p with
  | nil => simp [mangle]
  | cons c t ih =>
    have e : mangle all (c :: t) = piece all c ++ mangle all t := by simp [mangle]
    have := piece_length all c
    rw [e]; simp; omega
theorem mangle_snoc (all : Bool) (p : List UInt8) (k : Nat) (h : k < p.length) : mangle all (p.take (k + 1)) = mangle all (p.take k) ++ piece all p[k] := by
  unfold mangle
  rw [List.take_succ_eq_append_getElem h, List.flatMap_append, List.flatMap_singleton]
end Go.Proofs.Qxb6617296aDoor.Plain
