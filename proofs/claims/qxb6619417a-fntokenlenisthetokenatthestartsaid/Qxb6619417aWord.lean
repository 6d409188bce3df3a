/-
  THE WALKS of isWordByte, tokWordByte, tokEvenBackslashRun, and of tokenLen at word bytes.
-/
import Derived.Test.Qxb6619417aTok
namespace Go.Proofs.Qxb6619417a
open Go.RowKit
set_option linter.unusedVariables false
set_option linter.unusedSimpArgs false
namespace Word
theorem hid {p : Prop} (h : p) : Hid p := h

/-- A letter, a digit or an underscore. -/
def wordB (c : Int) : Bool := decide ((97 ≤ c ∧ c ≤ 122) ∨ (65 ≤ c ∧ c ≤ 90) ∨ (48 ≤ c ∧ c ≤ 57) ∨ c = 95)
theorem wordB_yes {c : Int} (h : (97 ≤ c ∧ c ≤ 122) ∨ (65 ≤ c ∧ c ≤ 90) ∨ (48 ≤ c ∧ c ≤ 57) ∨ c = 95) : wordB c = true := decide_eq_true h
theorem wordB_no {c : Int} (h : ¬ ((97 ≤ c ∧ c ≤ 122) ∨ (65 ≤ c ∧ c ≤ 90) ∨ (48 ≤ c ∧ c ≤ 57) ∨ c = 95)) : wordB c = false := decide_eq_false h
theorem wordB_or (c : Int) : (c < 48 ∨ (48 ≤ c ∧ c ≤ 57) ∨ (58 ≤ c ∧ c < 65) ∨ (65 ≤ c ∧ c ≤ 90) ∨ (91 ≤ c ∧ c < 95) ∨ c = 95 ∨ c = 96 ∨ (97 ≤ c ∧ c ≤ 122) ∨ 123 ≤ c) := by omega

theorem ret_bool {a b : Bool} (h : a = b) : Ending.returned (.bool a) = .returned (.bool b) := by rw [h]

set_option maxHeartbeats 1000000 in
theorem is_word (c : Int) (w : World) (h0 : 0 ≤ c) (h1 : c ≤ 255) : Calls Try.prog 11 #[.int .u8 c] w fun e w' => e = .returned (.bool (wordB c)) ∧ w' = w := by
  rcases wordB_or c with h | h | h | h | h | h | h | h | h
  · rw [wordB_no (by omega)]; go_enter Try.func11, Try.ntmps11; go_wp2; go_ret; exact ⟨ret_bool (by first | rfl | (simp; omega)), rfl⟩
  · rw [wordB_yes (by omega)]; go_enter Try.func11, Try.ntmps11; go_wp2; go_ret; exact ⟨ret_bool (by first | rfl | (simp; omega)), rfl⟩
  · rw [wordB_no (by omega)]; go_enter Try.func11, Try.ntmps11; go_wp2; go_ret; exact ⟨ret_bool (by first | rfl | (simp; omega)), rfl⟩
  · rw [wordB_yes (by omega)]; go_enter Try.func11, Try.ntmps11; go_wp2; go_ret; exact ⟨ret_bool (by first | rfl | (simp; omega)), rfl⟩
  · rw [wordB_no (by omega)]; go_enter Try.func11, Try.ntmps11; go_wp2; go_ret; exact ⟨ret_bool (by first | rfl | (simp; omega)), rfl⟩
  · rw [wordB_yes (by omega)]; go_enter Try.func11, Try.ntmps11; go_wp2; go_ret; exact ⟨ret_bool (by first | rfl | (simp; omega)), rfl⟩
  · rw [wordB_no (by omega)]; go_enter Try.func11, Try.ntmps11; go_wp2; go_ret; exact ⟨ret_bool (by first | rfl | (simp; omega)), rfl⟩
  · rw [wordB_yes (by omega)]; go_enter Try.func11, Try.ntmps11; go_wp2; go_ret; exact ⟨ret_bool (by first | rfl | (simp; omega)), rfl⟩
  · rw [wordB_no (by omega)]; go_enter Try.func11, Try.ntmps11; go_wp2; go_ret; exact ⟨ret_bool (by first | rfl | (simp; omega)), rfl⟩

set_option maxHeartbeats 1000000 in
theorem tok_word (c : Int) (w : World) (h0 : 0 ≤ c) (h1 : c ≤ 255) : Calls Try.prog 8 #[.int .u8 c] w fun e w' => e = .returned (.bool (wordB c)) ∧ w' = w := by
  rcases wordB_or c with h | h | h | h | h | h | h | h | h
  · rw [wordB_no (by omega)]; go_enter Try.func8, Try.ntmps8; go_wp2; go_ret; exact ⟨ret_bool (by first | rfl | (simp; omega)), rfl⟩
  · rw [wordB_yes (by omega)]; go_enter Try.func8, Try.ntmps8; go_wp2; go_ret; exact ⟨ret_bool (by first | rfl | (simp; omega)), rfl⟩
  · rw [wordB_no (by omega)]; go_enter Try.func8, Try.ntmps8; go_wp2; go_ret; exact ⟨ret_bool (by first | rfl | (simp; omega)), rfl⟩
  · rw [wordB_yes (by omega)]; go_enter Try.func8, Try.ntmps8; go_wp2; go_ret; exact ⟨ret_bool (by first | rfl | (simp; omega)), rfl⟩
  · rw [wordB_no (by omega)]; go_enter Try.func8, Try.ntmps8; go_wp2; go_ret; exact ⟨ret_bool (by first | rfl | (simp; omega)), rfl⟩
  · rw [wordB_yes (by omega)]; go_enter Try.func8, Try.ntmps8; go_wp2; go_ret; exact ⟨ret_bool (by first | rfl | (simp; omega)), rfl⟩
  · rw [wordB_no (by omega)]; go_enter Try.func8, Try.ntmps8; go_wp2; go_ret; exact ⟨ret_bool (by first | rfl | (simp; omega)), rfl⟩
  · rw [wordB_yes (by omega)]; go_enter Try.func8, Try.ntmps8; go_wp2; go_ret; exact ⟨ret_bool (by first | rfl | (simp; omega)), rfl⟩
  · rw [wordB_no (by omega)]; go_enter Try.func8, Try.ntmps8; go_wp2; go_ret; exact ⟨ret_bool (by first | rfl | (simp; omega)), rfl⟩

/-- The first k bytes are word bytes. -/
def AllW (s : ByteArray) (k : Nat) : Prop := ∀ i (h : i < s.size), i < k → wordB (s[i].toNat : Int) = true
theorem allw_one {s : ByteArray} (h0 : 0 < s.size) (hw : wordB (s[0].toNat : Int) = true) : AllW s 1 := by
  intro i h hi
  have : i = 0 := by omega
  subst this; exact hw
theorem allw_succ {s : ByteArray} {k : Nat} (hlt : k < s.size) (h : AllW s k) (hw : wordB (s[k].toNat : Int) = true) : AllW s (k + 1) := by
  intro i hi hik
  by_cases e : i < k
  · exact h i hi e
  · have : i = k := by omega
    subst this; exact hw
/-- What tokenLen's answer is at a text that opens with a word byte. -/
def WordLen (s : ByteArray) (r : Nat) : Prop := 1 ≤ r ∧ r ≤ s.size ∧ AllW s r ∧ (∀ h : r < s.size, wordB (s[r].toNat : Int) = false)

theorem u8_lt (c : UInt8) : (0 : Int) ≤ (c.toNat : Int) ∧ (c.toNat : Int) ≤ 255 := by
  have := c.toNat_lt; omega

set_option maxHeartbeats 400000 in
theorem len_word (s : ByteArray) (w : World) (hs : s.size ≤ 4194304) (h0 : 0 < s.size) (q1 : ((s[0].toNat : Int) == 39) = false) (q2 : ((s[0].toNat : Int) == 34) = false) (q3 : ((s[0].toNat : Int) == 96) = false) (hw : wordB (s[0].toNat : Int) = true) :
    Calls Try.prog 10 #[.string s] w fun e w' => ∃ r : Nat, e = .returned (.int .i64 r) ∧ w = w' ∧ WordLen s r := by
  have hb0 := u8_lt s[0]
  go_enter Try.func10, Try.ntmps10
  go_wp2_with (go_at_call 11; refine (is_word _ _ (by omega) (by omega)).mono ?_; rintro e w' ⟨rfl, rfl⟩)
  go_loop [5] (fun n => ∃ k : Nat, 1 ≤ k ∧ k ≤ s.size ∧ n = .int .i64 k ∧ AllW s k) (fun n => s.size - (intOf n).toNat)
  case atStart => exact ⟨1, Nat.le_refl _, by omega, rfl, allw_one h0 hw⟩
  case round =>
    obtain ⟨k, hk1, hk, rfl, hall⟩ := hrel
    by_cases hlt : k < s.size
    · have hbk := u8_lt s[k]
      cases hwk : wordB (s[k].toNat : Int)
      · go_wp2_with (go_at_call 11; refine (is_word _ _ (by omega) (by omega)).mono ?_; rintro e w' ⟨rfl, rfl⟩)
        go_ret
        exact ⟨k, rfl, rfl, hk1, hk, hall, fun _ => hwk⟩
      · go_wp2_with (go_at_call 11; refine (is_word _ _ (by omega) (by omega)).mono ?_; rintro e w' ⟨rfl, rfl⟩)
        go_round
        case rel => exact ⟨k + 1, by omega, by omega, by go_num, allw_succ hlt hall hwk⟩
        case measure => simp [intOf]; omega
    · go_wp2
      go_ret
      exact ⟨k, rfl, rfl, hk1, hk, hall, fun h => absurd h hlt⟩

set_option maxHeartbeats 400000 in
theorem len_other (s : ByteArray) (w : World) (hs : s.size ≤ 4194304) (h0 : 0 < s.size) (q1 : ((s[0].toNat : Int) == 39) = false) (q2 : ((s[0].toNat : Int) == 34) = false) (q3 : ((s[0].toNat : Int) == 96) = false) (hw : wordB (s[0].toNat : Int) = false) :
    Calls Try.prog 10 #[.string s] w fun e w' => e = .returned (.int .i64 1) ∧ w' = w := by
  have hb0 := u8_lt s[0]
  go_enter Try.func10, Try.ntmps10
  go_wp2_with (go_at_call 11; refine (is_word _ _ (by omega) (by omega)).mono ?_; rintro e w' ⟨rfl, rfl⟩)
  go_ret
  exact ⟨rfl, rfl⟩

set_option maxHeartbeats 400000 in
theorem zz_word (s : ByteArray) (w : World) (hs : s.size ≤ 4194304) (h0 : 0 < s.size) (q1 : ((s[0].toNat : Int) == 39) = false) (q2 : ((s[0].toNat : Int) == 34) = false) (q3 : ((s[0].toNat : Int) == 96) = false) (hw : wordB (s[0].toNat : Int) = true) :
    Calls Try.prog 6 #[.string s] w fun e w' => ∃ r : Nat, e = .returned (.int .i64 r) ∧ w = w' ∧ WordLen s r := by
  have H := hid (len_word s w hs h0 q1 q2 q3 hw)
  clear q1 q2 q3 hw
  go_enter Try.func6, Try.ntmps6
  go_wp2_with (go_at_call 10; refine (H.out).mono ?_; rintro e w' ⟨r, rfl, rfl, hr⟩)
  go_ret
  exact ⟨r, rfl, rfl, hr⟩

/-- The backslashes right before position p, counted back no further than position 1. -/
def run (s : ByteArray) : Nat → Nat
  | 0 => 0
  | p + 1 => if 1 ≤ p ∧ s.data.toList[p]? = some 92 then run s p + 1 else 0
def evenB (n : Nat) : Bool := decide (n % 2 = 0)

theorem at_eq (s : ByteArray) (k : Nat) (h : k < s.size) : s.data.toList[k]? = some s[k] := by
  rw [List.getElem?_eq_getElem (by simpa using h)]; rfl
theorem run_back {s : ByteArray} {j : Nat} (hj : 1 ≤ j) (hlt : j < s.size) (h : ((s[j].toNat : Int) == 92) = true) : run s (j + 1) = run s j + 1 := by
  have e : s[j] = 92 := by
    apply UInt8.toNat_inj.1
    simp only [beq_iff_eq] at h
    exact Int.ofNat_inj.1 h
  rw [run, if_pos ⟨hj, by rw [at_eq s j hlt, e]⟩]
theorem run_stop {s : ByteArray} {j : Nat} (hlt : j < s.size) (h : ((s[j].toNat : Int) == 92) = false) : run s (j + 1) = 0 := by
  rw [run, if_neg]
  rintro ⟨_, e⟩
  rw [at_eq s j hlt] at e
  rw [Option.some.inj e] at h
  exact absurd h (by decide)
theorem run_le (s : ByteArray) : ∀ p, run s p ≤ p
  | 0 => Nat.le_refl _
  | p + 1 => by
    rw [run]; have := run_le s p
    split <;> omega

/-- What the loop of tokEvenBackslashRun keeps: k counted, j still to look at. -/
def RunAt (s : ByteArray) (p k j : Nat) : Prop := k + run s (j + 1) = run s p

theorem evenB_of {k n : Nat} (h : k = n) : ((k : Int) % 2 == 0) = evenB n := by
  subst h
  unfold evenB
  rw [Bool.eq_iff_iff]
  simp
  omega

set_option maxHeartbeats 400000 in
theorem even_run (s : ByteArray) (p : Nat) (w : World) (hs : s.size ≤ 4194304) (hp : 1 ≤ p) (hp2 : p ≤ s.size) :
    Calls Try.prog 7 #[.string s, .int .i64 p] w fun e w' => e = .returned (.bool (evenB (run s p))) ∧ w = w' := by
  go_enter Try.func7, Try.ntmps7
  go_wp2
  go_loop [5, 6] (fun k j => ∃ kk jj : Nat, jj + 1 ≤ p ∧ kk ≤ p ∧ k = .int .i64 kk ∧ j = .int .i64 jj ∧ RunAt s p kk jj) (fun _ j => (intOf j).toNat)
  case atStart => exact ⟨0, p - 1, by omega, by omega, rfl, by go_num, by unfold RunAt; rw [show p - 1 + 1 = p from by omega]; omega⟩
  case round =>
    obtain ⟨kk, jj, hj, hk, rfl, rfl, hr⟩ := hrel
    have hr2 : kk + run s (jj + 1) = run s p := hr
    have hle := run_le s p
    by_cases h1 : 1 ≤ jj
    · have hlt : jj < s.size := by omega
      cases hc : ((s[jj].toNat : Int) == 92)
      · have e := run_stop hlt hc
        have e2 : kk = run s p := by omega
        have E2 := hid e2
        clear e e2 hr2 hle hr
        go_wp2
        go_ret
        exact ⟨ret_bool (evenB_of E2.out), rfl⟩
      · have e := run_back h1 hlt hc
        have e2 : RunAt s p (kk + 1) (jj - 1) := by
          unfold RunAt
          rw [show jj - 1 + 1 = jj from by omega]; omega
        have hkk : kk + 1 ≤ p := by omega
        clear e hr2 hle hr
        go_wp2
        go_round
        case rel => exact ⟨kk + 1, jj - 1, by omega, by omega, by go_num, by go_num, e2⟩
        case measure => simp [intOf]; omega
    · have e : run s (jj + 1) = 0 := by rw [show jj = 0 from by omega]; rfl
      have e2 : kk = run s p := by omega
      have E2 := hid e2
      clear e e2 hr2 hle hr
      go_wp2
      go_ret
      exact ⟨ret_bool (evenB_of E2.out), rfl⟩

end Word
end Go.Proofs.Qxb6619417a
