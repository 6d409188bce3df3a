/-
  PLAIN LAWS on decimal numerals: no Go in sight.
-/
import Derived.Lib.ParseIntBTie
namespace Go.Proofs.Qxb6619417aDoor.Pl
open Go.Lib
set_option linter.unusedVariables false
set_option linter.unusedSimpArgs false

/-- The answer, by the sign and by what the digits spell. -/
def fin (neg : Bool) : NumEnd Nat → Int × Bool
  | .ok u => if neg then (if 9223372036854775808 < u then (-9223372036854775808, false) else (-(u : Int), true)) else (if 9223372036854775808 ≤ u then (9223372036854775807, false) else ((u : Int), true))
  | .range => if neg then (-9223372036854775808, false) else (9223372036854775807, false)
  | _ => (0, false)

/-- What strconv.ParseInt(l, 10, 64) gives: the number, and whether there is no error. -/
def ans (l : List UInt8) : Int × Bool :=
  match parseIntB 64 l with
  | .ok v => (v, true)
  | .range => (intSat 64 l, false)
  | _ => (0, false)

theorem ans_nil : ans [] = (0, false) := rfl
theorem ans_of (c : UInt8) (r : List UInt8) : ans (c :: r) = fin (decide (c.toNat = 45)) (parseMag (if c.toNat = 43 ∨ c.toNat = 45 then r else c :: r)) := by
  unfold ans
  rw [parseIntB_64, intSat_64]
  simp only [atoiAll, atoiSat]
  generalize parseMag (if c.toNat = 43 ∨ c.toNat = 45 then r else c :: r) = E
  by_cases hn : c.toNat = 45
  · rcases E with u | _ | _
    · simp only [hn, fin]
      by_cases h1 : 9223372036854775808 < u <;> simp [h1, hn]
    · simp [fin]
    · simp [fin, hn]
  · rcases E with u | _ | _
    · simp only [hn, fin]
      by_cases h1 : 9223372036854775808 ≤ u <;> simp [h1, hn]
    · simp [fin]
    · simp [fin, hn]

theorem ans_minus (r : List UInt8) : ans (45 :: r) = fin true (parseMag r) := by rw [ans_of]; rfl
theorem ans_plus (r : List UInt8) : ans (43 :: r) = fin false (parseMag r) := by rw [ans_of]; rfl
theorem ans_dig (c : UInt8) (r : List UInt8) (hc : 48 ≤ c.toNat ∧ c.toNat ≤ 57) : ans (c :: r) = fin false (parseMag (c :: r)) := by
  rw [ans_of, if_neg (by omega), decide_eq_false (by omega)]

/-- What digits spell. -/
def dval : List UInt8 → Nat
  | [] => 0
  | c :: r => (c.toNat - 48) * 10 ^ r.length + dval r
def AllDig (l : List UInt8) : Prop := ∀ c ∈ l, 48 ≤ c.toNat ∧ c.toNat ≤ 57

theorem parse_digits : ∀ (l : List UInt8) (acc : Nat) (rest : List UInt8), AllDig l → acc * 10 ^ l.length + dval l < 18446744073709551616 →
    parseUint10 acc (l ++ rest) = parseUint10 (acc * 10 ^ l.length + dval l) rest := by
  intro l
  induction l with
  | nil => intro acc rest _ _; simp [dval]
  | cons c r ih =>
    intro acc rest hd hlt
    have hc := hd c (by simp)
    have hd' : AllDig r := fun x hx => hd x (by simp [hx])
    have e : acc * 10 ^ (c :: r).length + dval (c :: r) = (acc * 10 + (c.toNat - 48)) * 10 ^ r.length + dval r := by
      simp only [List.length_cons, dval, Nat.pow_succ]
      rw [Nat.add_mul, Nat.mul_assoc acc, Nat.mul_comm 10, Nat.add_assoc]
    rw [e] at hlt ⊢
    have hp : 1 ≤ 10 ^ r.length := Nat.pow_pos (by decide)
    have hle : acc * 10 + (c.toNat - 48) ≤ (acc * 10 + (c.toNat - 48)) * 10 ^ r.length := Nat.le_mul_of_pos_right _ (by omega)
    rw [List.cons_append, parseUint10, if_pos hc, if_neg (by omega), if_neg (by omega)]
    exact ih _ rest hd' hlt

theorem dval_zeros : ∀ (n : Nat) (l : List UInt8), dval (List.replicate n 48 ++ l) = dval l := by
  intro n
  induction n with
  | zero => intro l; rfl
  | succ n ih => intro l; rw [List.replicate_succ, List.cons_append, dval, ih]; simp
theorem alldig_zeros (n : Nat) (l : List UInt8) (h : AllDig l) : AllDig (List.replicate n 48 ++ l) := by
  intro c hc
  rcases List.mem_append.1 hc with h1 | h1
  · have := (List.mem_replicate.1 h1).2
    subst this; decide
  · exact h c h1

/-- The digits of a numeral, read whole. -/
theorem mag_digits (l : List UInt8) (hne : l ≠ []) (hd : AllDig l) (hlt : dval l < 18446744073709551616) : parseMag l = .ok (dval l) := by
  rw [parseMag, if_neg hne]
  have := parse_digits l 0 [] hd (by simpa using hlt)
  rw [List.append_nil] at this
  rw [this]; simp [parseUint10]
theorem mag_junk (l : List UInt8) (c : UInt8) (hd : AllDig l) (hlt : dval l < 18446744073709551616) (hc : ¬ (48 ≤ c.toNat ∧ c.toNat ≤ 57)) : parseMag (l ++ [c]) = parseMag [] := by
  rw [show parseMag [] = parseUint10 0 [0] from rfl, parseMag, if_neg (by simp), parse_digits l 0 [c] hd (by simpa using hlt), parseUint10, if_neg hc]; rfl

/-- One more digit ahead. -/
theorem dval_lt : ∀ (l : List UInt8), AllDig l → dval l < 10 ^ l.length := by
  intro l
  induction l with
  | nil => intro _; simp [dval]
  | cons c r ih =>
    intro h
    have hc := h c (by simp)
    have := ih (fun x hx => h x (by simp [hx]))
    simp only [dval, List.length_cons, Nat.pow_succ]
    have h9 : (c.toNat - 48) * 10 ^ r.length ≤ 9 * 10 ^ r.length := Nat.mul_le_mul_right _ (by omega)
    omega
end Go.Proofs.Qxb6619417aDoor.Pl
