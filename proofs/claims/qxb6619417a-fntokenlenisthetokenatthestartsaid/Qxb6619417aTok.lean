/-
  THE WALKS of tokenLen and its callees.
-/
import Derived.Test.Qxb6619417aRows
import Derived.Test.Qxb6619417aPlain
import Derived.WalkKit
namespace Go.Proofs.Qxb6619417a
open Go.RowKit
set_option linter.unusedVariables false
namespace Tok

theorem ret_int {k : IntKind} {a b : Int} (h : a = b) : Ending.returned (.int k a) = .returned (.int k b) := by rw [h]

theorem drop_cons (s : ByteArray) (k : Nat) (h : k < s.size) : s.data.toList.drop k = s[k] :: s.data.toList.drop (k + 1) := by
  rw [List.drop_eq_getElem_cons (by simpa using h)]; rfl

theorem skip_step (s : ByteArray) (q : UInt8) (k : Nat) (hlt : k < s.size) :
    Pl.skip q (s.data.toList.drop k) = if (s[k].toNat : Int) = 92 then (if k + 1 < s.size then 2 + Pl.skip q (s.data.toList.drop (k + 2)) else 1) else if (s[k].toNat : Int) = (q.toNat : Int) then 1 else 1 + Pl.skip q (s.data.toList.drop (k + 1)) := by
  have e92 : ((s[k].toNat : Int) = 92) ↔ s[k] = 92 := by
    constructor
    · intro h; apply UInt8.toNat_inj.1; simpa using Int.ofNat_inj.1 h
    · intro h; rw [h]; rfl
  have eq : ((s[k].toNat : Int) = (q.toNat : Int)) ↔ s[k] = q := by
    constructor
    · intro h; exact UInt8.toNat_inj.1 (Int.ofNat_inj.1 h)
    · intro h; rw [h]
  rw [drop_cons s k hlt]
  by_cases h1 : k + 1 < s.size
  · rw [drop_cons s (k + 1) h1]
    simp only [Pl.skip, e92, eq, h1, if_true]
  · have h2 : s.data.toList.drop (k + 1) = [] := List.drop_eq_nil_of_le (by simp; omega)
    rw [h2]
    simp only [Pl.skip, h1, if_false]
    split
    · rfl
    · split <;> rfl

/-- What the loop's round keeps. -/
def At (s : ByteArray) (q : UInt8) (R k : Nat) : Prop := min k s.size + Pl.skip q (s.data.toList.drop k) = R

theorem at_back {s : ByteArray} {q : UInt8} {R k : Nat} (hlt : k < s.size) (h : At s q R k) (h1 : ((s[k].toNat : Int) == 92) = true) : At s q R (k + 2) := by
  unfold At at *
  rw [skip_step s q k hlt, if_pos (by simpa using h1)] at h
  split at h
  · omega
  · rw [List.drop_eq_nil_of_le (by simp; omega)]
    simp only [Pl.skip]; omega
theorem at_quote {s : ByteArray} {q : UInt8} {R k : Nat} (hlt : k < s.size) (h : At s q R k) (h1 : ((s[k].toNat : Int) == 92) = false) (h2 : ((s[k].toNat : Int) == (q.toNat : Int)) = true) : k + 1 = R := by
  unfold At at *
  rw [skip_step s q k hlt, if_neg (by simpa using h1), if_pos (by simpa using h2)] at h
  omega
theorem at_other {s : ByteArray} {q : UInt8} {R k : Nat} (hlt : k < s.size) (h : At s q R k) (h1 : ((s[k].toNat : Int) == 92) = false) (h2 : ((s[k].toNat : Int) == (q.toNat : Int)) = false) : At s q R (k + 1) := by
  unfold At at *
  rw [skip_step s q k hlt, if_neg (by simpa using h1), if_neg (by simpa using h2)] at h
  omega
theorem at_end {s : ByteArray} {q : UInt8} {R k : Nat} (hge : ¬ k < s.size) (h : At s q R k) : s.size = R := by
  unfold At at *
  rw [List.drop_eq_nil_of_le (by simp; omega)] at h
  simp only [Pl.skip] at h; omega

set_option maxHeartbeats 400000 in
theorem quoted_core (s : ByteArray) (R : Nat) (w : World) (hs : s.size ≤ 4194304) (h0 : 0 < s.size) (hq : s[0] = 39 ∨ s[0] = 34 ∨ s[0] = 96) (hR : At s s[0] R 1) :
    Calls Try.prog 10 #[.string s] w fun e w' => e = .returned (.int .i64 R) ∧ w' = w := by
  have hq' : (((s[0].toNat : Int) == 39) = true ∨ (((s[0].toNat : Int) == 39) = false ∧ ((s[0].toNat : Int) == 34) = true) ∨ (((s[0].toNat : Int) == 39) = false ∧ ((s[0].toNat : Int) == 34) = false ∧ ((s[0].toNat : Int) == 96) = true)) := by
    rcases hq with h | h | h <;> rw [h] <;> decide
  clear hq
  rcases hq' with hA | ⟨hA, hB⟩ | ⟨hA, hB, hC⟩
  all_goals
    go_enter Try.func10, Try.ntmps10
    go_wp2
    go_loop [4] (fun i => ∃ k : Nat, 1 ≤ k ∧ k ≤ s.size + 1 ∧ i = .int .i64 k ∧ At s s[0] R k) (fun i => s.size + 1 - (intOf i).toNat)
    case atStart => exact ⟨1, Nat.le_refl _, by omega, rfl, hR⟩
    case round =>
      obtain ⟨k, hk1, hk, rfl, hk'⟩ := hrel
      by_cases hlt : k < s.size
      · go_wp2
        · go_round
          case rel => exact ⟨k + 2, by omega, by omega, by go_num, at_back hlt hk' ‹_›⟩
          case measure => simp [intOf]; omega
        · have := at_quote hlt hk' ‹_› ‹_›
          go_ret
          exact ⟨ret_int (by omega), rfl⟩
        · go_round
          case rel => exact ⟨k + 1, by omega, by omega, by go_num, at_other hlt hk' ‹_› ‹_›⟩
          case measure => simp [intOf]; omega
      · have := at_end hlt hk'
        go_wp2
        go_ret
        exact ⟨ret_int (by omega), rfl⟩

set_option maxHeartbeats 400000 in
/-- ZZtokenLen hands tokenLen's answer on. -/
theorem zz_of {s : ByteArray} {R : Int} {w : World} (h : Calls Try.prog 10 #[.string s] w fun e w' => e = .returned (.int .i64 R) ∧ w' = w) :
    Calls Try.prog 6 #[.string s] w fun e w' => e = .returned (.int .i64 R) ∧ w' = w := by
  have H : Hid (Calls Try.prog 10 #[.string s] w fun e w' => e = .returned (.int .i64 R) ∧ w' = w) := h
  clear h
  go_enter Try.func6, Try.ntmps6
  go_wp2_with (go_at_call 10; refine (H.out).mono ?_; rintro e w' ⟨rfl, rfl⟩)
  go_ret
  exact ⟨rfl, rfl⟩

theorem zz_quoted (s : ByteArray) (R : Nat) (w : World) (hs : s.size ≤ 4194304) (h0 : 0 < s.size) (hq : s[0] = 39 ∨ s[0] = 34 ∨ s[0] = 96) (hR : At s s[0] R 1) :
    Calls Try.prog 6 #[.string s] w fun e w' => e = .returned (.int .i64 R) ∧ w' = w :=
  zz_of (quoted_core s R w hs h0 hq hR)

end Tok
end Go.Proofs.Qxb6619417a
