/-
  SEAT b6603688aD, THE PLAIN MATHEMATICS OF THE ENCODING: the digits of a number, read back, are that number. No Go in sight.
-/
import Derived.Test.Qxb6603688aDoorPlain
namespace Go.Proofs.Qxb6603688aDoor.Plain

theorem toNat_small {m : Nat} (h : m < 256) : (UInt8.ofNat m).toNat = m := by
  simp [Nat.mod_eq_of_lt h]

/-- One digit more: the number that is left, read ahead of the digits so far, is the same number. -/
theorem spell_step {hex : Bool} {x v B : Nat} {E : List UInt8} {c : UInt8} (hB : base hex = B) (hc : dig hex c.toNat = some (x % B)) (h : run hex x E.reverse = some v) : run hex (x / B) (E ++ [c]).reverse = some v := by
  have e : (E ++ [c]).reverse = c :: E.reverse := by simp
  rw [e, run_some hc, hB, show x / B * B + x % B = x from by rw [Nat.mul_comm]; exact Nat.div_add_mod x B]
  exact h

theorem pow_step {B x n : Nat} (h : x < B ^ (10 - n)) (hn : n ≤ 9) : x / B < B ^ (10 - (n + 1)) := by
  have e : 10 - n = (10 - (n + 1)) + 1 := by omega
  rw [e, Nat.pow_succ] at h
  exact Nat.div_lt_of_lt_mul (by rw [Nat.mul_comm]; exact h)

theorem pow_end {B x n : Nat} (h : x < B ^ (10 - n)) (h0 : x ≠ 0) : n ≤ 9 := by
  rcases Nat.lt_or_ge 9 n with h' | h'
  · have e : 10 - n = 0 := by omega
    rw [e, Nat.pow_zero] at h
    omega
  · exact h'

theorem dig_low {hex : Bool} {d : Nat} (h : d < 10) : dig hex (48 + d) = some d := by
  rw [dig_dec (by omega)]; congr 1; omega
theorem dig_upper {d : Nat} (h : 10 ≤ d) (h' : d < 16) : dig true (55 + d) = some d := by
  unfold dig
  rw [if_neg (by omega), if_neg (by omega), if_pos ⟨rfl, by omega, by omega⟩]
  congr 1; omega
theorem dig_lower {d : Nat} (h : 10 ≤ d) (h' : d < 16) : dig true (87 + d) = some d := by
  unfold dig
  rw [if_neg (by omega), if_pos ⟨rfl, by omega, by omega⟩]
  congr 1; omega

theorem run_zeros {hex : Bool} (l : List UInt8) : ∀ p : Nat, run hex 0 (List.replicate p 48 ++ l) = run hex 0 l
  | 0 => rfl
  | p + 1 => by
    rw [List.replicate_succ, List.cons_append, run_some (d := 0) (dig_low (hex := hex) (d := 0) (by omega))]
    simpa using run_zeros l p

theorem back_hex {p v : Nat} {E : List UInt8} (hE : 0 < E.length) (h : run true 0 E.reverse = some v) : refOf ([35, 120] ++ List.replicate p 48 ++ E.reverse) = if xml v then some v else none := by
  rw [refOf_hex (by simp; omega) (by simp) (by simp)]
  have e : ([35, 120] ++ List.replicate p 48 ++ E.reverse : List UInt8).drop 2 = List.replicate p 48 ++ E.reverse := by simp
  rw [e]
  exact ans_some (by rw [run_zeros]; exact h)

theorem back_dec {p v : Nat} {E : List UInt8} (hE : 0 < E.length) (h : run false 0 E.reverse = some v) : refOf ([35] ++ List.replicate p 48 ++ E.reverse) = if xml v then some v else none := by
  have e : ([35] ++ List.replicate p 48 ++ E.reverse : List UInt8).drop 1 = List.replicate p 48 ++ E.reverse := by simp
  have hr : run false 0 (List.replicate p 48 ++ E.reverse) = some v := by rw [run_zeros]; exact h
  rw [refOf_dec (by simp; omega) (by simp) ?_, e]
  · exact ans_some hr
  · rintro ⟨_, h1⟩
    have h2 : (List.replicate p 48 ++ E.reverse : List UInt8).getD 0 0 = 120 := by
      simpa using h1
    cases ht : (List.replicate p 48 ++ E.reverse : List UInt8) with
    | nil => rw [ht] at h2; simp at h2
    | cons a r =>
      rw [ht] at h2 hr
      have ha : a = 120 := by simpa using h2
      subst ha
      rw [run_none (by decide)] at hr
      cases hr

theorem drop_reverse {E : List UInt8} {m : Nat} (h : m < E.length) : (E.drop m).reverse = (E.drop (m + 1)).reverse ++ [E.getD m 0] := by
  rw [List.drop_eq_getElem_cons h, List.reverse_cons]
  simp [List.getElem?_eq_getElem h]
end Go.Proofs.Qxb6603688aDoor.Plain
