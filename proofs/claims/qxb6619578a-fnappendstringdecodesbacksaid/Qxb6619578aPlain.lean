/-
  PLAIN LAWS on the JSON encoding of a text: no Go in sight.
-/
import Derived.Below
import Derived.Lib.Strings
namespace Go.Proofs.Qxb6619578a.Pl
set_option linter.unusedVariables false
set_option linter.unusedSimpArgs false

/-- A lower-case hex digit. -/
def hxd (n : Nat) : UInt8 := if n < 10 then UInt8.ofNat (48 + n) else UInt8.ofNat (87 + n)
/-- What one byte is written as. -/
def encB (c : UInt8) : List UInt8 := if c.toNat < 32 then [92, 117, 48, 48, hxd (c.toNat / 16), hxd (c.toNat % 16)] else if c = 34 ∨ c = 92 then [92, c] else [c]
def enc (l : List UInt8) : List UInt8 := l.flatMap encB

theorem enc_snoc (l : List UInt8) (c : UInt8) : enc (l ++ [c]) = enc l ++ encB c := by simp [enc]
theorem enc_append (l m : List UInt8) : enc (l ++ m) = enc l ++ enc m := by simp [enc]
theorem enc_cons (c : UInt8) (l : List UInt8) : enc (c :: l) = encB c ++ enc l := by simp [enc]
theorem encB_len (c : UInt8) : 1 ≤ (encB c).length ∧ (encB c).length ≤ 6 := by
  unfold encB; split
  · simp
  · split <;> simp
theorem enc_len (l : List UInt8) : l.length ≤ (enc l).length ∧ (enc l).length ≤ 6 * l.length := by
  induction l with
  | nil => simp [enc]
  | cons c l ih => have := encB_len c; rw [enc_cons]; simp; omega
/-- The whole string. -/
def quo (l : List UInt8) : List UInt8 := 34 :: (enc l ++ [34])

theorem encB_plain {c : UInt8} (h1 : 32 ≤ c.toNat) (h2 : c ≠ 34) (h3 : c ≠ 92) : encB c = [c] := by
  unfold encB; rw [if_neg (by omega), if_neg]; rintro (h | h)
  · exact h2 h
  · exact h3 h
theorem encB_esc {c : UInt8} (h1 : 32 ≤ c.toNat) (h : c = 34 ∨ c = 92) : encB c = [92, c] := by
  unfold encB; rw [if_neg (by omega), if_pos h]
theorem encB_ctl {c : UInt8} (h1 : c.toNat < 32) : encB c = [92, 117, 48, 48, hxd (c.toNat / 16), hxd (c.toNat % 16)] := by
  unfold encB; rw [if_pos h1]

/-- What the loop of appendString keeps: L has been written, the bytes from st to k are still to go over as they are. -/
structure St (l : List UInt8) (s : List UInt8) (k st : Nat) (L : List UInt8) : Prop where
  hst : st ≤ k
  hk : k ≤ s.length
  eq : L ++ (s.take k).drop st = l ++ 34 :: enc (s.take k)

theorem take_snoc (s : List UInt8) (k : Nat) (h : k < s.length) : s.take (k + 1) = s.take k ++ [s[k]] := by
  rw [List.take_succ_eq_append_getElem h]
theorem St.len {l s L : List UInt8} {k st : Nat} (h : St l s k st L) : L.length ≤ l.length + 1 + 6 * k ∧ 1 ≤ L.length + k := by
  have e := congrArg List.length h.eq
  have h2 := enc_len (s.take k)
  have h3 : (s.take k).length ≤ k := List.length_take_le _ _
  simp only [List.length_append, List.length_cons] at e
  have h4 : ((s.take k).drop st).length ≤ k := by simp; omega
  omega
theorem St.start (l s : List UInt8) : St l s 0 0 (l ++ [34]) := ⟨Nat.le_refl _, Nat.zero_le _, by simp [enc]⟩
theorem St.plain {l s L : List UInt8} {k st : Nat} (h : St l s k st L) (hk : k < s.length) (h1 : 32 ≤ s[k].toNat) (h2 : s[k] ≠ 34) (h3 : s[k] ≠ 92) : St l s (k + 1) st L := by
  have hs := h.hst
  refine ⟨by omega, by omega, ?_⟩
  rw [take_snoc s k hk, enc_snoc, encB_plain h1 h2 h3, List.drop_append_of_le_length (by simp; omega), ← List.append_assoc, h.eq]
  simp
/-- Behind the append of what was still to go over. -/
theorem St.mid {l s L : List UInt8} {k st : Nat} (h : St l s k st L) : L ++ (s.take k).drop st = l ++ 34 :: enc (s.take k) := h.eq
theorem St.esc {l s L M : List UInt8} {k st : Nat} (h : St l s k st L) (hk : k < s.length) (hM : M = L ++ (s.take k).drop st ++ encB s[k]) : St l s (k + 1) (k + 1) M := by
  refine ⟨Nat.le_refl _, by omega, ?_⟩
  rw [hM, h.eq, take_snoc s k hk, enc_snoc, List.drop_eq_nil_of_le (by simp; omega)]
  simp
theorem St.fin {l s L : List UInt8} {k st : Nat} (h : St l s k st L) (hk : ¬ k < s.length) : L ++ s.drop st ++ [34] = l ++ quo s := by
  have e := h.eq
  rw [List.take_of_length_le (by omega)] at e
  rw [e]; simp [quo]
end Go.Proofs.Qxb6619578a.Pl
