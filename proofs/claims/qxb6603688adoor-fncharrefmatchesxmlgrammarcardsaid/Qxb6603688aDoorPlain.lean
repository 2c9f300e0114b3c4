/-
  SEAT b6603688aD, THE PLAIN MATHEMATICS: the digits of a character reference, the number that a row of them spells, the XML characters. No Go in sight.
-/
namespace Go.Proofs.Qxb6603688aDoor.Plain

/-- The value of a byte as a digit of a character reference. -/
def dig (hex : Bool) (c : Nat) : Option Nat :=
  if 48 ≤ c ∧ c ≤ 57 then some (c - 48)
  else if hex = true ∧ 97 ≤ c ∧ c ≤ 102 then some (c - 87)
  else if hex = true ∧ 65 ≤ c ∧ c ≤ 70 then some (c - 55)
  else none

def base (hex : Bool) : Nat := if hex then 16 else 10

theorem base_pos (hex : Bool) : 10 ≤ base hex ∧ base hex ≤ 16 := by cases hex <;> decide

theorem dig_lt {hex : Bool} {c d : Nat} (h : dig hex c = some d) : d < base hex := by
  unfold dig at h
  split at h
  · cases h; have := (base_pos hex).1; omega
  · split at h
    · rename_i hx; cases h; rw [hx.1]; show _ < 16; omega
    · split at h
      · rename_i hx; cases h; rw [hx.1]; show _ < 16; omega
      · cases h

/-- The number that the bytes spell behind what has been read, if all of them are digits. -/
def run (hex : Bool) (acc : Nat) : List UInt8 → Option Nat
  | [] => some acc
  | c :: l => match dig hex c.toNat with
    | none => none
    | some d => run hex (acc * base hex + d) l

theorem run_none {hex : Bool} {acc : Nat} {c : UInt8} {l : List UInt8} (h : dig hex c.toNat = none) : run hex acc (c :: l) = none := by
  simp [run, h]

theorem run_some {hex : Bool} {acc d : Nat} {c : UInt8} {l : List UInt8} (h : dig hex c.toNat = some d) : run hex acc (c :: l) = run hex (acc * base hex + d) l := by
  simp [run, h]

theorem run_ge {hex : Bool} : ∀ (l : List UInt8) (acc n : Nat), run hex acc l = some n → acc ≤ n
  | [], acc, n, h => by simp [run] at h; omega
  | c :: l, acc, n, h => by
    cases hd : dig hex c.toNat with
    | none => rw [run_none hd] at h; cases h
    | some d =>
      rw [run_some hd] at h
      have := run_ge l _ _ h
      have hb := (base_pos hex).1
      have : acc * 10 ≤ acc * base hex := Nat.mul_le_mul_left _ hb
      omega

/-- XML 1.0, production Char. -/
def xml (n : Nat) : Bool := decide (n = 9 ∨ n = 10 ∨ n = 13 ∨ (32 ≤ n ∧ n ≤ 55295) ∨ (57344 ≤ n ∧ n ≤ 65533) ∨ (65536 ≤ n ∧ n ≤ 1114111))

theorem xml_le {n : Nat} (h : xml n = true) : n ≤ 1114111 := by
  unfold xml at h
  have := of_decide_eq_true h
  omega

def ok (o : Option Nat) : Option Nat := match o with
  | some n => if xml n then some n else none
  | none => none

/-- What the bytes between the mark and the end stand for. -/
def ans (hex : Bool) (l : List UInt8) : Option Nat := ok (run hex 0 l)

theorem ans_none {hex : Bool} {l : List UInt8} (h : ∀ n, run hex 0 l = some n → 1114112 ≤ n) : ans hex l = none := by
  unfold ans ok
  cases hr : run hex 0 l with
  | none => rfl
  | some n =>
    have hx : xml n = false := by
      cases hh : xml n with
      | false => rfl
      | true => have := xml_le hh; have := h n hr; omega
    simp [hx]

theorem ans_some {hex : Bool} {l : List UInt8} {n : Nat} (h : run hex 0 l = some n) : ans hex l = if xml n then some n else none := by
  unfold ans ok; rw [h]

theorem ans_le {hex : Bool} {l : List UInt8} {n : Nat} (h : ans hex l = some n) : n ≤ 1114111 := by
  unfold ans ok at h
  split at h
  · split at h
    · cases h; exact xml_le ‹_›
    · cases h
  · cases h

/-- The whole reference. -/
def refOf (l : List UInt8) : Option Nat :=
  if 2 < l.length ∧ l.getD 0 0 = 35 ∧ l.getD 1 0 = 120 then ans true (l.drop 2)
  else if 1 < l.length ∧ l.getD 0 0 = 35 then ans false (l.drop 1)
  else none

theorem refOf_hex {l : List UInt8} (h : 2 < l.length) (h0 : l.getD 0 0 = 35) (h1 : l.getD 1 0 = 120) : refOf l = ans true (l.drop 2) := by
  unfold refOf; rw [if_pos ⟨h, h0, h1⟩]

theorem refOf_dec {l : List UInt8} (h : 1 < l.length) (h0 : l.getD 0 0 = 35) (h1 : ¬ (2 < l.length ∧ l.getD 1 0 = 120)) : refOf l = ans false (l.drop 1) := by
  unfold refOf; rw [if_neg (fun e => h1 ⟨e.1, e.2.2⟩), if_pos ⟨h, h0⟩]

theorem refOf_no {l : List UInt8} (h : ¬ (1 < l.length ∧ l.getD 0 0 = 35)) : refOf l = none := by
  unfold refOf; rw [if_neg (fun e => h ⟨by omega, e.2.1⟩), if_neg h]

/-- '#x' alone is no reference: 'x' is no decimal digit. -/
theorem refOf_x {l : List UInt8} (h : l.length = 2) (h0 : l.getD 0 0 = 35) (h1 : l.getD 1 0 = 120) : refOf l = none := by
  rw [refOf_dec (by omega) h0 (by omega)]
  match l, h with
  | [a, b], _ =>
    have hb : b = 120 := by simpa using h1
    subst hb
    rfl

/-! ### The bit 32 of a byte (internal/strconv.lower) -/
set_option maxRecDepth 100000 in
theorem lower_hex : ∀ c : Fin 256, ¬ (48 ≤ c.val ∧ c.val ≤ 57) → (97 ≤ (c.val ||| 32) ∧ (c.val ||| 32) ≤ 102) → dig true c.val = some ((c.val ||| 32) - 87) := by decide
set_option maxRecDepth 100000 in
theorem lower_no : ∀ c : Fin 256, ¬ (48 ≤ c.val ∧ c.val ≤ 57) → ¬ (97 ≤ (c.val ||| 32) ∧ (c.val ||| 32) ≤ 102) → dig true c.val = none := by decide
theorem dec_no {c : Nat} (h : ¬ (48 ≤ c ∧ c ≤ 57)) : dig false c = none := by simp [dig, h]
theorem dig_dec {hex : Bool} {c : Nat} (h : 48 ≤ c ∧ c ≤ 57) : dig hex c = some (c - 48) := by simp [dig, h]
end Go.Proofs.Qxb6603688aDoor.Plain
