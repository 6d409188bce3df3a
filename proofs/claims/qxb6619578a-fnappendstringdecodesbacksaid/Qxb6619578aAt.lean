/-
  WHAT LIES IN AN ENCODING where a byte of the text is written.
-/
import Derived.Test.Qxb6619578aLow
import Derived.Test.Qxb6619578aCut
namespace Go.Proofs.Qxb6619578a
open Go.RowKit
set_option linter.unusedVariables false
set_option linter.unusedSimpArgs false
namespace Low
open App Cut

/-- What lies in the body where the byte k is written. -/
theorem at_plain (s : ByteArray) (k i : Nat) (hk : k < s.size) (hi : i = 1 + (Pl.enc (s.data.toList.take k)).length) (h1 : 32 ≤ s[k].toNat) (h2 : s[k] ≠ 34) (h3 : s[k] ≠ 92) : (Pl.quo s.data.toList)[i]? = some s[k] ∧ i + 1 = 1 + (Pl.enc (s.data.toList.take (k + 1))).length ∧ i + 2 ≤ (Pl.quo s.data.toList).length := by
  have hk' : k < s.data.toList.length := by rw [size_list]; exact hk
  have e : s.data.toList[k] = s[k] := rfl
  have hE : Pl.encB s.data.toList[k] = [s[k]] := by rw [e]; exact Pl.encB_plain h1 h2 h3
  have hn := enc_next _ k i hk' hi
  have h0 := enc_at _ k i 0 hk' hi (by rw [hE]; simp)
  rw [hE] at hn h0
  exact ⟨h0, hn.1, hn.2⟩
theorem at_esc (s : ByteArray) (k i : Nat) (hk : k < s.size) (hi : i = 1 + (Pl.enc (s.data.toList.take k)).length) (h1 : 32 ≤ s[k].toNat) (h : s[k] = 34 ∨ s[k] = 92) : (Pl.quo s.data.toList)[i]? = some 92 ∧ (Pl.quo s.data.toList)[i + 1]? = some s[k] ∧ i + 2 = 1 + (Pl.enc (s.data.toList.take (k + 1))).length ∧ i + 3 ≤ (Pl.quo s.data.toList).length := by
  have hk' : k < s.data.toList.length := by rw [size_list]; exact hk
  have e : s.data.toList[k] = s[k] := rfl
  have hE : Pl.encB s.data.toList[k] = [92, s[k]] := by rw [e]; exact Pl.encB_esc h1 h
  have hn := enc_next _ k i hk' hi
  have h0 := enc_at _ k i 0 hk' hi (by rw [hE]; simp)
  have h1 := enc_at _ k i 1 hk' hi (by rw [hE]; simp)
  rw [hE] at hn h0 h1
  exact ⟨h0, h1, hn.1, hn.2⟩
theorem at_ctl (s : ByteArray) (k i : Nat) (hk : k < s.size) (hi : i = 1 + (Pl.enc (s.data.toList.take k)).length) (h1 : s[k].toNat < 32) : ∃ a b : Nat, a ≤ 1 ∧ b < 16 ∧ s[k].toNat = a * 16 + b ∧ (Pl.quo s.data.toList)[i]? = some 92 ∧ (Pl.quo s.data.toList)[i + 1]? = some 117 ∧ (Pl.quo s.data.toList)[i + 2]? = some 48 ∧ (Pl.quo s.data.toList)[i + 3]? = some 48 ∧ (Pl.quo s.data.toList)[i + 4]? = some (Pl.hxd a) ∧ (Pl.quo s.data.toList)[i + 5]? = some (Pl.hxd b) ∧ i + 6 = 1 + (Pl.enc (s.data.toList.take (k + 1))).length ∧ i + 7 ≤ (Pl.quo s.data.toList).length := by
  have hk' : k < s.data.toList.length := by rw [size_list]; exact hk
  have e : s.data.toList[k] = s[k] := rfl
  have hE : Pl.encB s.data.toList[k] = [92, 117, 48, 48, Pl.hxd (s[k].toNat / 16), Pl.hxd (s[k].toNat % 16)] := by rw [e]; exact Pl.encB_ctl h1
  have hn := enc_next _ k i hk' hi
  have h0 := enc_at _ k i 0 hk' hi (by rw [hE]; simp)
  have h1 := enc_at _ k i 1 hk' hi (by rw [hE]; simp)
  have h2 := enc_at _ k i 2 hk' hi (by rw [hE]; simp)
  have h3 := enc_at _ k i 3 hk' hi (by rw [hE]; simp)
  have h4 := enc_at _ k i 4 hk' hi (by rw [hE]; simp)
  have h5 := enc_at _ k i 5 hk' hi (by rw [hE]; simp)
  rw [hE] at hn h0 h1 h2 h3 h4 h5
  exact ⟨s[k].toNat / 16, s[k].toNat % 16, by omega, by omega, by omega, h0, h1, h2, h3, h4, h5, hn.1, hn.2⟩
theorem at_end (s : ByteArray) (k i : Nat) (hk : ¬ k < s.size) (hi : i = 1 + (Pl.enc (s.data.toList.take k)).length) : i + 1 = (Pl.quo s.data.toList).length := enc_end _ k i (by rw [size_list]; exact hk) hi
theorem quo_zero (s : List UInt8) : (Pl.quo s)[0]? = some 34 := rfl
theorem quo_end (s : List UInt8) (n : Nat) (h : n + 1 = (Pl.quo s).length) : (Pl.quo s)[n]? = some 34 := by
  have hl := quo_len s
  have e2 : (34 :: Pl.enc s).length = (Pl.enc s).length + 1 := by simp
  rw [quo_app, List.getElem?_append_right (by omega), show n - (34 :: Pl.enc s).length = 0 by omega]
  rfl
end Low
end Go.Proofs.Qxb6619578a
