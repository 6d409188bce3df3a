/-
  THE WALKS of ZZhex4, isHexDigit, hexLower, hexUpper and zzBytes_FnHex4Spec.
-/
import Derived.Test.Qxb6619578aHex
namespace Go.Proofs.Qxb6619578a
open Go.RowKit
set_option linter.unusedVariables false
set_option linter.unusedSimpArgs false
namespace Hex
open App

set_option maxHeartbeats 400000 in
theorem zz_hex4 (g off n cap : Nat) (l : List UInt8) (w : World) (hl : Len n l) (hn : 2 ≤ n) (hx : ∀ j b, l[j]? = some b → w.cell? ⟨g, off + j, none⟩ = some (.int .u8 (b.toNat : Int))) :
    Calls Try.prog 12 #[.slice (some ⟨g, off, none⟩) n cap] w fun e w' => ∃ r m, e = .returned (.tuple #[.int .i32 r, .int .i64 m]) ∧ Res l r m ∧ w = w' := by
  have HX := hid hx
  clear hx
  go_enter Try.func12, Try.ntmps12
  go_wp2_with (go_at_call 23; refine (hex4 g off n cap l _ hl hn HX.out).mono ?_)
  rintro e w ⟨r, m, rfl, hR, rfl⟩
  go_wp2
  go_ret2
  exact ⟨_, _, rfl, hR, rfl⟩

abbrev lowS : ByteArray := { data := #[48, 49, 50, 51, 52, 53, 54, 55, 56, 57, 97, 98, 99, 100, 101, 102] }
abbrev upS : ByteArray := { data := #[48, 49, 50, 51, 52, 53, 54, 55, 56, 57, 65, 66, 67, 68, 69, 70] }
theorem low_no : ∀ k : Nat, (hk : k < 16) → ∀ v : Nat, v < 256 → hv v ≠ some k → ((v : Int) == ((lowS[k]'hk).toNat : Int)) = false := by decide +kernel
theorem up_no : ∀ k : Nat, (hk : k < 16) → ∀ v : Nat, v < 256 → hv v ≠ some k → ((v : Int) == ((upS[k]'hk).toNat : Int)) = false := by decide +kernel
theorem one_yes : ∀ k : Nat, (hk : k < 16) → ∀ v : Nat, v < 256 → hv v = some k → ((v : Int) == ((lowS[k]'hk).toNat : Int)) = true ∨ (((v : Int) == ((lowS[k]'hk).toNat : Int)) = false ∧ ((v : Int) == ((upS[k]'hk).toNat : Int)) = true) := by decide +kernel
/-- An upper-case hex digit. -/
def hxU (n : Nat) : UInt8 := if n < 10 then UInt8.ofNat (48 + n) else UInt8.ofNat (55 + n)
theorem up_at : ∀ i : Nat, (h : i < 16) → (upS[i]'h) = hxU i := by decide +kernel

set_option maxRecDepth 100000 in
set_option maxHeartbeats 400000 in
theorem dig_yes (v d : Nat) (h256 : v < 256) (h : hv v = some d) (w : World) : Calls Try.prog 13 #[.int .u8 v] w fun e w' => e = .returned (.bool true) ∧ w = w' := by
  have hd := hv_lt h
  go_enter Try.func13, Try.ntmps13
  go_wp2
  go_loop [3] (fun i => ∃ k : Nat, k ≤ d ∧ i = .int .i64 k) (fun i => 16 - (intOf i).toNat)
  case atStart => exact ⟨0, Nat.zero_le _, rfl⟩
  case round =>
    obtain ⟨k, hk, rfl⟩ := hrel
    have hk16 : k < 16 := by omega
    by_cases hkn : k = d
    · rcases one_yes k hk16 v h256 (by rw [hkn]; exact h) with e | ⟨e, e2⟩
      · clear hkn h
        go_wp2
        go_ret
        exact ⟨rfl, rfl⟩
      · clear hkn h
        go_wp2
        go_ret
        exact ⟨rfl, rfl⟩
    · have e1 := low_no k hk16 v h256 (by rw [h]; intro e; cases e; exact hkn rfl)
      have e2 := up_no k hk16 v h256 (by rw [h]; intro e; cases e; exact hkn rfl)
      clear h
      go_wp2
      go_round
      case rel => exact ⟨k + 1, by omega, by go_num⟩
      case measure => simp [intOf]; omega

set_option maxRecDepth 100000 in
set_option maxHeartbeats 400000 in
theorem dig_no (v : Nat) (h256 : v < 256) (h : hv v = none) (w : World) : Calls Try.prog 13 #[.int .u8 v] w fun e w' => e = .returned (.bool false) ∧ w = w' := by
  go_enter Try.func13, Try.ntmps13
  go_wp2
  go_loop [3] (fun i => ∃ k : Nat, k ≤ 16 ∧ i = .int .i64 k) (fun i => 16 - (intOf i).toNat)
  case atStart => exact ⟨0, Nat.zero_le _, rfl⟩
  case round =>
    obtain ⟨k, hk, rfl⟩ := hrel
    by_cases hk16 : k < 16
    · have e1 := low_no k hk16 v h256 (by rw [h]; intro e; cases e)
      have e2 := up_no k hk16 v h256 (by rw [h]; intro e; cases e)
      clear h
      go_wp2
      go_round
      case rel => exact ⟨k + 1, by omega, by go_num⟩
      case measure => simp [intOf]; omega
    · have hk' : ¬ (k : Int) < 16 := by omega
      clear h
      go_wp2
      go_ret
      exact ⟨rfl, rfl⟩

theorem ret_u8 {a b : UInt8} (h : a = b) : Ending.returned (.int .u8 (a.toNat : Int)) = .returned (.int .u8 (b.toNat : Int)) := by rw [h]
set_option maxRecDepth 100000 in
set_option maxHeartbeats 400000 in
theorem hex_low (d : Nat) (hd : d < 16) (w : World) : Calls Try.prog 14 #[.int .i32 d] w fun e w' => e = .returned (.int .u8 ((Pl.hxd d).toNat : Int)) ∧ w = w' := by
  go_enter Try.func14, Try.ntmps14
  go_wp2
  go_ret
  exact ⟨ret_u8 (hex_at d hd), rfl⟩
set_option maxRecDepth 100000 in
set_option maxHeartbeats 400000 in
theorem hex_up (d : Nat) (hd : d < 16) (w : World) : Calls Try.prog 15 #[.int .i32 d] w fun e w' => e = .returned (.int .u8 ((hxU d).toNat : Int)) ∧ w = w' := by
  go_enter Try.func15, Try.ntmps15
  go_wp2
  go_ret
  exact ⟨ret_u8 (up_at d hd), rfl⟩

set_option maxHeartbeats 400000 in
theorem zz11_yes (a : Option Addr) (n cap : Nat) (w : World) (h : n ≤ 1048576) :
    Calls Try.prog 11 #[.slice a n cap] w fun e w' => e = .returned (.bool true) ∧ w = w' := by
  go_enter Try.func11, Try.ntmps11
  go_wp2
  go_ret
  exact ⟨rfl, rfl⟩
set_option maxRecDepth 100000 in
set_option maxHeartbeats 400000 in
theorem zz11_no (a : Option Addr) (n cap : Nat) (w : World) (h : ¬ n ≤ 1048576) :
    Calls Try.prog 11 #[.slice a n cap] w fun e w' => e = .returned (.bool false) ∧ w = w' := by
  go_enter Try.func11, Try.ntmps11
  go_wp2
  all_goals
    go_ret
    exact ⟨rfl, rfl⟩
end Hex
end Go.Proofs.Qxb6619578a
