/-
  THE WALK of lowerHexValue; where the bytes of an encoding lie.
-/
import Derived.Test.Qxb6619578aClone
namespace Go.Proofs.Qxb6619578a
open Go.RowKit
set_option linter.unusedVariables false
set_option linter.unusedSimpArgs false
namespace Low
open App

theorem ret_int {k : IntKind} {a b : Int} (h : a = b) : Ending.returned (.int k a) = .returned (.int k b) := by rw [h]
theorem hx_same : ∀ k : Nat, (hk : k < 16) → ∀ n : Nat, n < 16 → ((({ data := #[48, 49, 50, 51, 52, 53, 54, 55, 56, 57, 97, 98, 99, 100, 101, 102] } : ByteArray)[k]'hk).toNat : Int) = ((Pl.hxd n).toNat : Int) → k = n := by decide +kernel

set_option maxRecDepth 100000 in
set_option maxHeartbeats 400000 in
theorem low_hex (n : Nat) (hn : n < 16) (w : World) : Calls Try.prog 19 #[.int .u8 ((Pl.hxd n).toNat : Int)] w fun e w' => e = .returned (.int .i64 n) ∧ w = w' := by
  go_enter Try.func19, Try.ntmps19
  go_wp2
  go_loop [3] (fun i => ∃ k : Nat, k ≤ n ∧ i = .int .i64 k) (fun i => 16 - (intOf i).toNat)
  case atStart => exact ⟨0, Nat.zero_le _, rfl⟩
  case round =>
    obtain ⟨k, hk, rfl⟩ := hrel
    have hk16 : k < 16 := by omega
    by_cases hkn : k = n
    · have e : (((({ data := #[48, 49, 50, 51, 52, 53, 54, 55, 56, 57, 97, 98, 99, 100, 101, 102] } : ByteArray)[k]'hk16).toNat : Int) == ((Pl.hxd n).toNat : Int)) = true := by rw [hex_at k hk16, hkn]; exact beq_self_eq_true _
      have HK := hid hkn
      clear hkn
      go_wp2
      go_ret
      exact ⟨ret_int (by rw [HK.out]), rfl⟩
    · have e : (((({ data := #[48, 49, 50, 51, 52, 53, 54, 55, 56, 57, 97, 98, 99, 100, 101, 102] } : ByteArray)[k]'hk16).toNat : Int) == ((Pl.hxd n).toNat : Int)) = false := beq_eq_false_iff_ne.2 (fun h => hkn (hx_same k hk16 n hn h))
      go_wp2
      go_round
      case rel => exact ⟨k + 1, by omega, by go_num⟩
      case measure => simp [intOf]; omega

/-! ### Where the bytes of an encoding lie -/
theorem enc_split (s : List UInt8) (k : Nat) (hk : k < s.length) : Pl.quo s = (34 :: Pl.enc (s.take k)) ++ (Pl.encB s[k] ++ (Pl.enc (s.drop (k + 1)) ++ [34])) := by
  have e : s = s.take k ++ s[k] :: s.drop (k + 1) := by
    conv => lhs; rw [← List.take_append_drop k s, List.drop_eq_getElem_cons hk]
  have e2 : Pl.enc s = Pl.enc (s.take k) ++ (Pl.encB s[k] ++ Pl.enc (s.drop (k + 1))) := (congrArg Pl.enc e).trans (by rw [Pl.enc_append, Pl.enc_cons])
  rw [Pl.quo, e2]
  simp only [List.cons_append, List.append_assoc]
theorem enc_at (s : List UInt8) (k i j : Nat) (hk : k < s.length) (hi : i = 1 + (Pl.enc (s.take k)).length) (hj : j < (Pl.encB s[k]).length) : (Pl.quo s)[i + j]? = (Pl.encB s[k])[j]? := by
  have e2 : (34 :: Pl.enc (s.take k)).length = i := by simp; omega
  rw [enc_split s k hk, List.getElem?_append_right (by omega), e2, Nat.add_sub_cancel_left, List.getElem?_append_left hj]
theorem enc_next (s : List UInt8) (k i : Nat) (hk : k < s.length) (hi : i = 1 + (Pl.enc (s.take k)).length) : i + (Pl.encB s[k]).length = 1 + (Pl.enc (s.take (k + 1))).length ∧ i + (Pl.encB s[k]).length + 1 ≤ (Pl.quo s).length := by
  refine ⟨?_, ?_⟩
  · rw [Pl.take_snoc s k hk, Pl.enc_snoc]; simp; omega
  · rw [enc_split s k hk]; simp; omega
theorem enc_end (s : List UInt8) (k i : Nat) (hk : ¬ k < s.length) (hi : i = 1 + (Pl.enc (s.take k)).length) : i + 1 = (Pl.quo s).length := by
  rw [List.take_of_length_le (by omega)] at hi
  simp [Pl.quo]; omega
end Low
end Go.Proofs.Qxb6619578a
