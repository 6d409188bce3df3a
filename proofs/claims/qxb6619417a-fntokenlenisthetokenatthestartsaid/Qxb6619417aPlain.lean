/-
  PLAIN LAWS on tokens of a text: no Go in sight.
-/
import Derived.Below
namespace Go.Proofs.Qxb6619417a.Pl
set_option linter.unusedSimpArgs false
set_option linter.unusedVariables false

/-- How many bytes a quoted text takes behind its opening quote: up to its closing quote, or all. -/
def skip (q : UInt8) : List UInt8 → Nat
  | [] => 0
  | [_] => 1
  | c :: d :: r => if c = 92 then 2 + skip q r else if c = q then 1 else 1 + skip q (d :: r)

theorem skip_le (q : UInt8) : ∀ (n : Nat) (l : List UInt8), l.length ≤ n → skip q l ≤ l.length := by
  intro n
  induction n with
  | zero => intro l h; cases l with
    | nil => simp [skip]
    | cons a b => simp at h
  | succ n ih =>
    intro l h
    match l, h with
    | [], _ => simp [skip]
    | [c], _ => simp [skip]
    | c :: d :: r, h =>
      simp only [List.length_cons] at h
      have h1 := ih r (by omega)
      have h2 := ih (d :: r) (by simp; omega)
      simp only [List.length_cons] at h2
      simp only [skip, List.length_cons]
      split
      · omega
      · split <;> omega

theorem skip_back (q : UInt8) (d : UInt8) (r : List UInt8) : skip q (92 :: d :: r) = 2 + skip q r := by simp [skip]
theorem skip_quote (q : UInt8) (r : List UInt8) (hq : q ≠ 92) : skip q (q :: r) = 1 := by
  cases r <;> simp [skip, hq]
theorem skip_other (q c : UInt8) (r : List UInt8) (h1 : c ≠ 92) (h2 : c ≠ q) : skip q (c :: r) = 1 + skip q r := by
  cases r <;> simp [skip, h1, h2]

/-- A backslash ahead of each quote and each backslash. -/
def esc (q : UInt8) : List UInt8 → List UInt8
  | [] => []
  | c :: r => if c = q ∨ c = 92 then 92 :: c :: esc q r else c :: esc q r

theorem esc_snoc (q c : UInt8) (l : List UInt8) : esc q (l ++ [c]) = esc q l ++ (if c = q ∨ c = 92 then [92, c] else [c]) := by
  induction l with
  | nil => simp only [List.nil_append, esc]
  | cons a l ih => simp only [List.cons_append, esc, ih]; split <;> simp

theorem esc_len (q : UInt8) (l : List UInt8) : l.length ≤ (esc q l).length ∧ (esc q l).length ≤ 2 * l.length := by
  induction l with
  | nil => simp [esc]
  | cons a l ih => simp only [esc]; split <;> simp <;> omega

theorem skip_esc_closed (q : UInt8) (hq : q ≠ 92) (l rest : List UInt8) : skip q (esc q l ++ q :: rest) = (esc q l).length + 1 := by
  induction l with
  | nil => simp only [esc, List.nil_append, List.length_nil]; rw [skip_quote q rest hq]
  | cons a l ih =>
    simp only [esc]
    split
    · rw [List.cons_append, List.cons_append, skip_back, ih]; simp; omega
    · rename_i h
      rw [List.cons_append, skip_other q a _ (fun e => h (Or.inr e)) (fun e => h (Or.inl e)), ih]; simp; omega

theorem skip_esc_open (q : UInt8) (l : List UInt8) : skip q (esc q l) = (esc q l).length := by
  induction l with
  | nil => simp [esc, skip]
  | cons a l ih =>
    simp only [esc]
    split
    · rw [skip_back, ih]; simp; omega
    · rename_i h
      rw [skip_other q a _ (fun e => h (Or.inr e)) (fun e => h (Or.inl e)), ih]; simp; omega

end Go.Proofs.Qxb6619417a.Pl
