/-
  THE WALK of hex4, with what it reads.
-/
import Derived.Test.Qxb6619578aClone
namespace Go.Proofs.Qxb6619578a
open Go.RowKit
set_option linter.unusedVariables false
set_option linter.unusedSimpArgs false
namespace Hex
open App

/-- The value of a hex digit, of either case. -/
def hv (v : Nat) : Option Nat := if 48 ≤ v ∧ v ≤ 57 then some (v - 48) else if 97 ≤ v ∧ v ≤ 102 then some (v - 87) else if 65 ≤ v ∧ v ≤ 70 then some (v - 55) else none
theorem hv_lt {v d : Nat} (h : hv v = some d) : d < 16 := by
  unfold hv at h
  repeat' split at h
  all_goals simp at h
  all_goals omega
theorem hv_dig {d base : Nat} {b : UInt8} (h : (base = 48 ∧ d < 10) ∨ (base = 87 ∧ 10 ≤ d ∧ d < 16) ∨ (base = 55 ∧ 10 ≤ d ∧ d < 16)) (hv' : d + base = b.toNat) : hv b.toNat = some d := by
  rw [← hv']
  unfold hv
  rcases h with ⟨rfl, h⟩ | ⟨rfl, h, h'⟩ | ⟨rfl, h, h'⟩
  · rw [if_pos (by omega)]; simp
  · rw [if_neg (by omega), if_pos (by omega)]; simp
  · rw [if_neg (by omega), if_neg (by omega), if_pos (by omega)]; simp
/-- What has been read ahead of the place k. -/
inductive Rd (l : List UInt8) : Nat → Nat → Prop
  | start : Rd l 2 0
  | step {k r : Nat} {b : UInt8} {d : Nat} : Rd l k r → l[k]? = some b → hv b.toNat = some d → Rd l (k + 1) (r * 16 + d)
theorem Rd.lt {l : List UInt8} {k r : Nat} (h : Rd l k r) : 2 ≤ k ∧ r < 16 ^ (k - 2) := by
  induction h with
  | start => exact ⟨Nat.le_refl _, by decide⟩
  | @step k r b d h1 h2 h3 ih =>
    obtain ⟨i1, i2⟩ := ih
    have := hv_lt h3
    refine ⟨by omega, ?_⟩
    rw [show k + 1 - 2 = (k - 2) + 1 by omega, Nat.pow_succ]
    omega
theorem Rd.small {l : List UInt8} {k r : Nat} (h : Rd l k r) (hk : k ≤ 5) : r < 4096 := by
  have h1 := h.lt
  have : 16 ^ (k - 2) ≤ 16 ^ 3 := Nat.pow_le_pow_right (by decide) (by omega)
  have e : 16 ^ 3 = 4096 := by decide
  omega
theorem or16 (r d : Nat) (hr : r < 4096) (hd : d < 16) : bits .or .i32 ((r : Int) * 16) (d : Int) = (r : Int) * 16 + (d : Int) := by
  have e1 : (BitVec.ofInt 32 ((r : Int) * 16)).toNat = r * 16 := by rw [BitVec.toNat_ofInt]; omega
  have e2 : (BitVec.ofInt 32 (d : Int)).toNat = d := by rw [BitVec.toNat_ofInt]; omega
  have e3 : r * 16 ||| d = r * 16 + d := by
    have := Nat.two_pow_add_eq_or_of_lt (i := 4) (b := d) (by omega) r
    rw [show 2 ^ 4 = 16 by decide] at this
    rw [Nat.mul_comm r 16]; exact this.symm
  show IntKind.i32.wrap ((BitVec.ofInt 32 ((r : Int) * 16) ||| BitVec.ofInt 32 (d : Int)).toNat : Int) = _
  rw [BitVec.toNat_or, e1, e2, e3]
  simp [IntKind.wrap, IntKind.bits, IntKind.signed]
  split <;> omega
/-- What hex4 answers. -/
def Res (l : List UInt8) (r m : Int) : Prop := (m = -1 ∧ ∃ x : Nat, r = x ∧ Rd l 6 x) ∨ (r = 0 ∧ ∃ k : Nat, m = k ∧ 2 ≤ k ∧ k ≤ 5 ∧ k ≤ l.length ∧ (∃ x, Rd l k x) ∧ ∀ b, l[k]? = some b → hv b.toNat = none)

set_option maxRecDepth 100000 in
set_option maxHeartbeats 1000000 in
theorem hex4 (g off n cap : Nat) (l : List UInt8) (w : World) (hl : Len n l) (hn : 2 ≤ n) (hx : ∀ j b, l[j]? = some b → w.cell? ⟨g, off + j, none⟩ = some (.int .u8 (b.toNat : Int))) :
    Calls Try.prog 23 #[.slice (some ⟨g, off, none⟩) n cap] w fun e w' => ∃ r m, e = .returned (.tuple #[.int .i32 r, .int .i64 m]) ∧ Res l r m ∧ w = w' := by
  have HX := hid hx
  clear hx
  go_enter Try.func23, Try.ntmps23
  go_wp2
  go_loop [4, 2] (fun i r => ∃ k rr : Nat, 2 ≤ k ∧ k ≤ 6 ∧ k ≤ n ∧ i = .int .i64 k ∧ r = .int .i32 rr ∧ Hid (Rd l k rr)) (fun i r => 6 - (intOf i).toNat)
  case atStart => exact ⟨2, 0, Nat.le_refl _, by omega, hn, rfl, rfl, hid .start⟩
  case round =>
    obtain ⟨k, rr, h2, h6, hkn, rfl, rfl, HR⟩ := hrel
    by_cases hlt : k < 6
    · have hlt' : (k : Int) < 6 := by omega
      have hr := HR.out.small (by omega)
      by_cases hn2 : k = n
      · have e1 : ((k : Int) == (n : Int)) = true := by rw [hn2]; exact beq_self_eq_true _
        have HN := hid hn2
        clear hn2
        go_wp2
        go_ret2
        refine ⟨_, _, rfl, Or.inr ⟨rfl, k, rfl, h2, by omega, ?_, ⟨_, HR.out⟩, ?_⟩, rfl⟩
        · have : n = l.length := hl
          omega
        · intro b hb
          have : n = l.length := hl
          have h3 := HN.out
          rw [List.getElem?_eq_none (by omega)] at hb
          cases hb
      · have e1 : ((k : Int) == (n : Int)) = false := by rw [beq_eq_false_iff_ne]; omega
        have hkl : k < l.length := by have : n = l.length := hl; omega
        have hb := List.getElem?_eq_getElem hkl
        have c := HX.out k _ hb
        have HB := hid hb
        have hkn' : k < n := by omega
        generalize l[k] = b at c HB
        obtain ⟨v, hv⟩ : ∃ v : Nat, v = b.toNat := ⟨_, rfl⟩
        have hv256 : v < 256 := by have := b.toNat_lt; omega
        rw [← hv] at c
        have HV := hid hv
        clear hv hb hn2
        by_cases d1 : 48 ≤ v ∧ v ≤ 57
        · obtain ⟨d1, d2⟩ := d1
          obtain ⟨d, rfl⟩ : ∃ d, v = d + 48 := ⟨v - 48, by omega⟩
          have o : bits .or .i32 ((rr : Int) * 16) (d : Int) = (rr : Int) * 16 + (d : Int) := or16 rr (d) hr (by omega)
          have q0 : decide ((48 : Int) ≤ ((d : Int) + 48)) = true := by simp; omega
          have q1 : decide (((d : Int) + 48) ≤ 57) = true := by simp; omega
          have HD := hid (hv_dig (d := d) (base := 48) (Or.inl ⟨rfl, by omega⟩) (by rw [← HV.out]))
          have hd16 : d < 16 := by omega
          clear HX HV d1 d2
          go_wp2
          go_round
          case rel => exact ⟨k + 1, rr * 16 + (d), by omega, by omega, by omega, by go_num, by go_num, hid (.step HR.out HB.out HD.out)⟩
          case measure => simp [intOf]; omega
        by_cases d2 : 97 ≤ v ∧ v ≤ 102
        · obtain ⟨d1, d2⟩ := d2
          obtain ⟨d, rfl⟩ : ∃ d, v = d + 97 := ⟨v - 97, by omega⟩
          have o : bits .or .i32 ((rr : Int) * 16) ((d : Int) + 10) = (rr : Int) * 16 + ((d : Int) + 10) := or16 rr (d + 10) hr (by omega)
          have q0 : decide ((48 : Int) ≤ ((d : Int) + 97)) = true := by simp; omega
          have q1 : decide (((d : Int) + 97) ≤ 57) = false := by simp; omega
          have q2 : decide ((97 : Int) ≤ ((d : Int) + 97)) = true := by simp; omega
          have q3 : decide (((d : Int) + 97) ≤ 102) = true := by simp; omega
          have HD := hid (hv_dig (d := d + 10) (base := 87) (Or.inr (Or.inl ⟨rfl, by omega, by omega⟩)) (by rw [← HV.out]))
          have hd16 : d + 10 < 16 := by omega
          clear HX HV d1 d2
          go_wp2
          go_round
          case rel => exact ⟨k + 1, rr * 16 + (d + 10), by omega, by omega, by omega, by go_num, by go_num, hid (.step HR.out HB.out HD.out)⟩
          case measure => simp [intOf]; omega
        by_cases d3 : 65 ≤ v ∧ v ≤ 70
        · obtain ⟨d1, d2⟩ := d3
          obtain ⟨d, rfl⟩ : ∃ d, v = d + 65 := ⟨v - 65, by omega⟩
          have o : bits .or .i32 ((rr : Int) * 16) ((d : Int) + 10) = (rr : Int) * 16 + ((d : Int) + 10) := or16 rr (d + 10) hr (by omega)
          have q0 : decide ((48 : Int) ≤ ((d : Int) + 65)) = true := by simp; omega
          have q1 : decide (((d : Int) + 65) ≤ 57) = false := by simp; omega
          have q2 : decide ((97 : Int) ≤ ((d : Int) + 65)) = false := by simp; omega
          have q3 : decide ((65 : Int) ≤ ((d : Int) + 65)) = true := by simp; omega
          have q4 : decide (((d : Int) + 65) ≤ 70) = true := by simp; omega
          have HD := hid (hv_dig (d := d + 10) (base := 55) (Or.inr (Or.inr ⟨rfl, by omega, by omega⟩)) (by rw [← HV.out]))
          have hd16 : d + 10 < 16 := by omega
          clear HX HV d1 d2
          go_wp2
          go_round
          case rel => exact ⟨k + 1, rr * 16 + (d + 10), by omega, by omega, by omega, by go_num, by go_num, hid (.step HR.out HB.out HD.out)⟩
          case measure => simp [intOf]; omega
        have hno : Hid (hv v = none) := hid (by unfold hv; rw [if_neg d1, if_neg d2, if_neg d3])
        have hfin : Res l 0 k := Or.inr ⟨rfl, k, rfl, h2, by omega, by omega, ⟨_, HR.out⟩, fun b' hb' => by
          have h1 := HB.out
          rw [hb'] at h1
          cases h1
          rw [← HV.out]; exact hno.out⟩
        have d4 : v < 48 ∨ (58 ≤ v ∧ v < 65) ∨ (71 ≤ v ∧ v < 97) ∨ 103 ≤ v := by omega
        clear d1 d2 d3 hno HX
        rcases d4 with d4 | ⟨d4, d5⟩ | ⟨d4, d5⟩ | d4
        all_goals
          go_wp2
          go_ret2
          exact ⟨_, _, rfl, hfin, rfl⟩
    · have hlt' : ¬ (k : Int) < 6 := by omega
      go_wp2
      go_ret2
      refine ⟨_, _, rfl, Or.inl ⟨rfl, rr, rfl, ?_⟩, rfl⟩
      have := HR.out
      rwa [show k = 6 by omega] at this
end Hex
end Go.Proofs.Qxb6619578a
